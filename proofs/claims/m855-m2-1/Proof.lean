import JvmDerived
import JvmDerived.Pilot.@@N@@Statement
import JvmDerived.Pilot.@@N@@Code
set_option linter.unusedVariables false
set_option linter.unusedSimpArgs false

namespace Jvm.Pilot.@@N@@
open Jvm Jvm.ClassFile Sem Op Lib Jvm.Free Jvm.Stand Jvm.LawKit Jvm.RoadKit Bundle Jvm.Pilot.@@N@@.Jvm.D
/-- the run from A comes to a state of which P holds -/
def own_Go (tb : Tables) (e : Env) (below : List Frame) (P : State → Prop) (A : State) : Prop := ∃ U, Steps tb e below A U ∧ P U
theorem own_go {tb : Tables} {e : Env} {below : List Frame} {P : State → Prop} {A B : State} (h : ∀ t, Steps tb e below B t → Steps tb e below A t) (k : own_Go tb e below P B) : own_Go tb e below P A := by
  obtain ⟨U, h1, h2⟩ := k; exact ⟨U, h U h1, h2⟩
theorem own_goT {tb : Tables} {e : Env} {below : List Frame} {P : State → Prop} {A B : State} (h : Steps tb e below A B) (k : own_Go tb e below P B) : own_Go tb e below P A := by
  obtain ⟨U, h1, h2⟩ := k; exact ⟨U, h.trans h1, h2⟩
/-- the body's end: it returned, and Q says of what -/
def own_End (s : State) (below : List Frame) (Q : Option Value → Heap → List Loc → Prop) (cells slots : Nat) (t : State) : Prop := ∃ o, t.status = .running ∧ Ended t below o ∧ ∃ v L, o = .returned v ∧ Q v t.heap L ∧ FrameEnd s o t L cells slots
theorem own_body {tb : Tables} {e : Env} {below : List Frame} {s A : State} {Q : Option Value → Heap → List Loc → Prop} {cells slots : Nat} (k : own_Go tb e below (own_End s below Q cells slots) A) :
    ∃ s₂ o, Steps tb e below A s₂ ∧ s₂.status = .running ∧ Ended s₂ below o ∧ ∃ v L, o = .returned v ∧ Q v s₂.heap L ∧ FrameEnd s o s₂ L cells slots := by
  obtain ⟨U, h1, o, h2, h3, h4⟩ := k; exact ⟨U, o, h1, h2, h3, h4⟩
theorem own_ret {p : Program} {l : Launch} {e : Env} {R : Room} {s : State} {m : MethodId} {args : Array Value} {below : List Frame} {meth : Method} {c : Code} {T A : State} {locs : List Loc} {cells slots : Nat} {Q : Option Value → Heap → List Loc → Prop} {cs ss : Nat}
    (X : Stand p l e R s m args below meth c T locs cells slots) (hlk : meth.locks = false) {v : Option Value} (hv : meth.sig.returnType = none → v = none)
    (hst : ∀ fs : List Frame, (∀ (f : JFrame) (acts : List Action), f.method = m → f.locked = none → f.entered = [] → (doReturn e (T.setTop f) acts v).1 = T.setFrames fs) → Steps p.tables e below A (T.setFrames fs))
    (hQ : Q v T.heap locs) (hc : cells ≤ cs) (hs : slots ≤ ss) : own_Go p.tables e below (own_End s below Q cs ss) A := by
  obtain ⟨fs, hr, hrun, hended, hW, hsame⟩ := X.leave (v := v) hv hlk
  exact ⟨_, hst fs hr, _, hrun, hended, _, _, rfl, hQ, ⟨_, rfl⟩, hW, hsame.mono hc hs⟩
theorem own_ef (m : MethodId) (as : Array Value) (n : Nat) (Ls : Array Slot) (h : argsToLocals as n = Ls) : entryFrame m as n = mkF m 0 Ls [] := by rw [← h]; rfl
/-- a body's contract in this family -/
abbrev own_Met (l : Launch) (Z : State) (ws : List Jvm.Cond) (y : MethodName) (bytes : ByteArray) (maxL : Nat) (ret : Option FieldType) (rm : Room) (as : Array Value) (h0 : Heap) (Q : Option Value → Heap → List Loc → Prop) : Prop :=
  MetFree l y (head1 (Jvm.Cond.code y bytes maxL ret :: ws) rm) (fun a U => a = as ∧ Z.Warmed39 U.vm ∧ U.heap = h0) (fun _ _ _ _ _ => True) (fun _ U o U' => ∃ v L, o = .returned v ∧ Q v U'.heap L ∧ FrameEnd U o U' L rm.cells rm.slots)
theorem own_sta_keep {Z : State} {h h' : Heap} {C n d : String} {v : Value} {ws : List Addr} (F : Sta Z h C n d v) (K : Keep h h' ws) (q : ∀ a ∈ ws, ∃ C', Exa Z h a C') : Sta Z h' C n d v := by
  obtain ⟨cf, i, k, f, st, cell, h1, h2, h3, h4, h5, h6, h7⟩ := F
  refine ⟨cf, i, k, f, st, cell, h1, h2, h3, h4, K.2.1 st cell h5 fun hm => ?_, h6, h7⟩
  obtain ⟨C', cell', k', e1, -, -, e4, -⟩ := q st hm
  cases h5.symm.trans e1
  rw [e4] at h6; cases h6
theorem own_back {p : Program} {l : Launch} {e : Env} {R : Room} {s : State} {args : Array Value} {below : List Frame} {Z : State} {a0 : Array Value} {h : Heap} {y : MethodName} {bytes : ByteArray} {maxL : Nat} {ret : Option FieldType} {rm : Room} {len W : Nat} {as' : Array Value} {Q : Option Value → Heap → List Loc → Prop}
    (hM : own_Met l Z [] y bytes maxL ret rm as' h Q) (hZ : Z.Warmed39 s.vm) (wc : (Cond.code y bytes maxL ret).before a0 Z = true) (wz : (Cond.initialized y.cls).before a0 Z = true) (hf : rm.frames + 1 ≤ R.frames) (hl : W + (maxL + 11) + rm.locals ≤ R.locals) :
    Back l R p e below s args y len W (fun A a => a = as' ∧ A.U.heap = h ∧ A.cells + rm.cells ≤ R.cells ∧ A.slots + rm.slots ≤ R.slots)
      (fun A _ v B => ∃ L, Q v B.U.heap L ∧ B.locs = A.locs ++ L ∧ B.cells = A.cells + rm.cells ∧ B.slots = A.slots + rm.slots) :=
  backOf (Q := Q) hM hZ wc wz hf hl
theorem own_hp {T : State} {h : Heap} {a : Addr} {cl : Cell} (eT : T.heap = h) (h1 : h[a]? = some cl) : T.heap[a]? = some cl := by rw [eT]; exact h1
def own_asl : List Value → List Slot
  | [] => []
  | v :: r => if v.category = 2 then .val v :: .second :: own_asl r else .val v :: own_asl r
def own_apu (acc : Array Slot) (v : Value) : Array Slot := if v.category = 2 then (acc.push (.val v)).push .second else acc.push (.val v)
theorem own_al1 (l : List Value) (a : Array Slot) : (l.foldl own_apu a).toList = a.toList ++ own_asl l := by
  induction l generalizing a with
  | nil => simp [own_asl]
  | cons v r ih =>
    rw [List.foldl_cons, ih]
    by_cases h : v.category = 2 <;> simp [own_asl, own_apu, h]
theorem own_al (l : List Value) (n : Nat) (L : List Slot) (h : own_asl l ++ List.replicate (n - (own_asl l).length) .unset = L) : argsToLocals l.toArray n = L.toArray := by
  have q : argsToLocals l.toArray n = l.foldl own_apu #[] ++ Array.replicate (n - (l.foldl own_apu #[]).size) .unset := by
    rw [← List.foldl_toArray]; rfl
  have k := own_al1 l #[]
  rw [q, ← h]
  apply Array.toList_inj.mp
  rw [Array.toList_append, k, ← Array.length_toList, k]; simp
theorem own_cst {p : Program} {l : Launch} {e : Env} {R : Room} {s : State} {m : MethodId} {args : Array Value} {below : List Frame} {meth : Method} {c : Code} {T : State} {L L' : List Loc} {k n k' n' k2 n2 : Nat}
    (X : Stand p l e R s m args below meth c T L k n) (hl : L = L') (hk : k = k') (hn : n = n') (h1 : k' = k2) (h2 : n' = n2) : Stand p l e R s m args below meth c T L' k2 n2 := by
  subst hl hk hn h1 h2; exact X
theorem own_eqi {args : Array Value} {s : State} {t : Term} {k : Int32} (h : (Jvm.Cond.eq t (.int k)).value args s none s [] = some true) : t.eval args s none [] s = some (.int k) := by
  simp only [Cond.value, Term.eval] at h
  cases ht : t.eval args s none [] s with
  | none => simp [ht] at h
  | some x => cases x <;> simp [ht] at h ⊢; exact h
theorem own_eqr {args : Array Value} {s : State} {t u : Term} {a : Addr} (h : (Jvm.Cond.eq t u).value args s none s [] = some true) (hu : u.eval args s none [] s = some (.ref a)) : t.eval args s none [] s = some (.ref a) := by
  simp only [Cond.value] at h
  cases ht : t.eval args s none [] s with
  | none => simp [ht] at h
  | some x => cases x <;> simp [ht, hu] at h ⊢; exact h
theorem own_fld {args : Array Value} {s : State} {t : Term} {a : Addr} {C n d : String} {v : Value} (ht : t.eval args s none [] s = some (.ref a)) (h : (Term.field t C n d).eval args s none [] s = some v) : Fld s s.heap a C n d v :=
  Fld.start (by rw [fld_at ht] at h; exact h)
theorem own_len {args : Array Value} {s : State} {t : Term} {a : Addr} {cl : Cell} {ty : FieldType} {k : Int32} (A : Arr s s.heap a cl ty) (ht : t.eval args s none [] s = some (.ref a)) (h : (Term.length t).eval args s none [] s = some (.int k)) : cl.slots.size < 2 ^ 31 ∧ cl.slots.size.toInt32 = k := by
  have ha : s.arrayAt? a = some cl := A.fin (Vm.Alike.refl _)
  by_cases hl : cl.slots.size < 2 ^ 31
  · rw [len_f ht ha hl] at h; exact ⟨hl, by injection h with h; injection h⟩
  · simp [Term.eval, ht, ha, hl] at h
theorem own_elem {args : Array Value} {s : State} {t : Term} {a : Addr} {cl : Cell} {ty : FieldType} {j : Int32} {v : Value} (ht : t.eval args s none [] s = some (.ref a)) (A : Arr s s.heap a cl ty) (h : (Term.elem t (.int j)).eval args s none [] s = some v) : cl.slots[j.toNatClampNeg]? = some v :=
  (elem_in h ht (Term.int_eval j) A.1).2
theorem own_getR {p : Program} {l : Launch} {e : Env} {R : Room} {s : State} {m : MethodId} {args : Array Value} {below : List Frame} {meth : Method} {c : Code} {T : State} {locs : List Loc} {cells slots : Nat} {Z : State} {a0 : Array Value} {h : Heap}
    (X : Stand p l e R s m args below meth c T locs cells slots) (hx : p.tables.exec = Jvm.exec) (hZ : Z.Warmed39 s.vm) {own C n d : String} {index : Nat} (hown : s.vm.findClass own = some m.cls) (w : (Cond.fieldRef own index C n d).before a0 Z = true)
    (eT : T.heap = h) {a : Addr} {v : Value} (F : Fld Z h a C n d v) {g : JFrame} (hg : g.method = m) {rest : List Value} (hs : g.stack = .ref a :: rest) (hd : decode c.code g.pc = .ok (.getfield index, 3)) :
    ∀ target, Steps p.tables e below (T.setTop { g with pc := g.pc + 3, stack := v :: rest }) target → Steps p.tables e below (T.setTop g) target := by
  obtain ⟨cell, cf, k, i, f, h1, h2, h3, h4, h5, h6, h7⟩ := F
  have hT : Z.Warmed39 T.vm := wtrans hZ X.warmed
  have w2 : (Cond.fieldRef own index C n d).before a0 (Z.setVm T.vm) = true := Cond.fieldRef_warmed39 hT w
  have hcur : (Z.setVm T.vm).vm.findClass own = some m.cls := by
    show T.vm.findClass own = _
    rw [X.warmed.alike.findClass]; exact hown
  obtain ⟨c1, k1, i1, f1, q1, q2⟩ := Cond.fieldRef_spec hcur w2
  obtain ⟨k', q3, -⟩ := State.fieldFound?_setVm (s := Z) hT.alike h2
  cases q1.symm.trans q3
  have q4 : T.vm.fieldReady m.cls index cf f := q2
  have hc : T.heap[a]? = some cell := by rw [eT]; exact h1
  intro target hrest
  subst hg
  jvm_step X.here [hx, hd, getfield.wp_ready (e := e) (s := T) (f := g) X.here.top q4 h3 hs hc h4 h7]
  exact hrest
/-! arrays by functions -/
section Own
variable {Z : State} {h h' : Heap} {a b m P K : Addr} {k : ClassId} {ty : FieldType} {n sl n0 : Nat} {f g : Nat → Value} {v : Value}
def own_Arf (Z : State) (h : Heap) (a : Addr) (k : ClassId) (ty : FieldType) (n : Nat) (f : Nat → Value) : Prop := ∃ c : Cell, Arr Z h a c ty ∧ c.cls = k ∧ c.slots.size = n ∧ ∀ j, j < n → c.slots[j]? = some (f j)
theorem own_Arf.lt (F : own_Arf Z h a k ty n f) : a < h.size := by obtain ⟨c, A, -⟩ := F; exact A.lt
theorem own_Arf.ext (F : own_Arf Z h a k ty n f) (E : Ext h h') : own_Arf Z h' a k ty n f := by obtain ⟨c, A, r⟩ := F; exact ⟨c, A.ext E, r⟩
theorem own_Arf.other (F : own_Arf Z h a k ty n f) (W : Wr h h' b sl v) (q : a ≠ b) : own_Arf Z h' a k ty n f := by obtain ⟨c, A, r⟩ := F; exact ⟨c, A.other W q, r⟩
theorem own_Arf.cong (F : own_Arf Z h a k ty n f) (q : ∀ j, j < n → f j = g j) : own_Arf Z h a k ty n g := by
  obtain ⟨c, A, q1, S, H⟩ := F; exact ⟨c, A, q1, S, fun j hj => by rw [← q j hj]; exact H j hj⟩
theorem own_Arf.set {i : Nat} (F : own_Arf Z h a k ty n f) (W : Wr h h' a i v) (hi : i < n) : own_Arf Z h' a k ty n (fun j => if j = i then v else f j) := by
  obtain ⟨c, A, q1, S, H⟩ := F
  refine ⟨_, A.same W, q1, by rw [sz_set]; exact S, fun j hj => ?_⟩
  by_cases e : j = i
  · subst e; simp [Cell.setSlot, S, hj]
  · simp only [Cell.setSlot, if_neg e]; rw [Array.getElem?_setIfInBounds_ne (Ne.symm e)]; exact H j hj
theorem own_Arf.new {z : Int32} (A : Arr Z h a (newA k ty z) ty) (hz : z.toNatClampNeg = n) : own_Arf Z h a k ty n (fun _ => defaultValue ty) :=
  ⟨_, A, rfl, by rw [sz_new]; exact hz, fun j hj => by simp [newA, hz, hj]⟩
theorem own_in {c : Cell} {j : Int32} (S : c.slots.size = n) (h0 : ¬ j < 0) (h1 : j.toNatClampNeg < n) : ¬ (j < 0 ∨ c.slots.size ≤ j.toNatClampNeg) := by
  rw [S]; rintro (q | q)
  · exact h0 q
  · omega
/-- the pages: each is null or a byte[256] of its own -/
def own_Pgs (Z : State) (n0 : Nat) (h : Heap) (m P K : Addr) (f : Nat → Value) (val : Nat → Int32) : Prop :=
  ∀ i, i < 256 → f i = .null ∨ ∃ (A : Addr) (kA : ClassId), f i = .ref A ∧ n0 ≤ A ∧ A ≠ P ∧ A ≠ K ∧ A ≠ m ∧ own_Arf Z h A kA .byte 256 (fun j => .int (val (256 * i + j)))
variable {val : Nat → Int32}
theorem own_Pgs.ext (F : own_Pgs Z n0 h m P K f val) (E : Ext h h') : own_Pgs Z n0 h' m P K f val := fun i hi => by
  rcases F i hi with q | ⟨A, kA, q1, q2, q3, q4, q5, q6⟩
  · exact Or.inl q
  · exact Or.inr ⟨A, kA, q1, q2, q3, q4, q5, q6.ext E⟩
theorem own_Pgs.wr (F : own_Pgs Z n0 h m P K f val) (W : Wr h h' b sl v) (q : b = P ∨ b = K ∨ b = m) : own_Pgs Z n0 h' m P K f val := fun i hi => by
  rcases F i hi with r | ⟨A, kA, q1, q2, q3, q4, q5, q6⟩
  · exact Or.inl r
  · refine Or.inr ⟨A, kA, q1, q2, q3, q4, q5, q6.other W ?_⟩
    rcases q with rfl | rfl | rfl
    · exact q3
    · exact q4
    · exact q5
end Own
def own_cnt (S : List Nat) (i : Nat) : Nat := (S.filter (fun x => x / 256 == i)).length
def own_set (val : Nat → Int32) (x : Nat) (v : Int32) : Nat → Int32 := fun y => if y = x then v else val y
def own_Inv (f : Nat → Value) (S : List Nat) (val : Nat → Int32) : Prop :=
  (∀ i, i < 256 → f i = .null → ∀ j, j < 256 → val (256 * i + j) = 0) ∧ (∀ i j (A : Addr), i < 256 → j < 256 → f i = .ref A → f j = .ref A → i = j) ∧ S.Nodup ∧ (∀ x, x < 65536 → (x ∈ S ↔ val x ≠ 0)) ∧ S.length ≤ 100
theorem own_cnt_le (S : List Nat) (i : Nat) : own_cnt S i ≤ S.length := List.length_filter_le _ _
theorem own_cnt_cons (S : List Nat) (x i : Nat) : own_cnt (x :: S) i = own_cnt S i + (if x / 256 = i then 1 else 0) := by
  by_cases q : x / 256 = i <;> simp [own_cnt, List.filter_cons, q]
theorem own_cnt_erase {S : List Nat} {x : Nat} (hx : x ∈ S) (i : Nat) : own_cnt S i = own_cnt (S.erase x) i + (if x / 256 = i then 1 else 0) := by
  rw [← own_cnt_cons]
  exact ((List.perm_cons_erase hx).filter _).length_eq
theorem own_cnt_zero {S : List Nat} {i x : Nat} (h : own_cnt S i = 0) (hx : x ∈ S) : x / 256 ≠ i := fun e => by
  have : x ∈ S.filter (fun x => x / 256 == i) := List.mem_filter.mpr ⟨hx, by simp [e]⟩
  have := List.length_pos_of_mem this
  unfold own_cnt at h; omega
theorem own_cnt32 {n : Nat} (h : n ≤ 101) : (Int32.ofNat n).toInt = n := Int32.toInt_ofNat_small (by omega)
/-- Int32 indices of an id -/
def own_pg (x : Int32) : Int32 := (x.toUInt32 >>> ((8 : Int32) &&& 31).toUInt32).toInt32
def own_sl (x : Int32) : Int32 := x &&& 255
theorem own_idx {x : Int32} (h1 : 0 ≤ x.toInt) (h2 : x.toInt < 65536) : ¬ own_pg x < 0 ∧ (own_pg x).toNatClampNeg = x.toNatClampNeg / 256 ∧ x.toNatClampNeg / 256 < 256 ∧ ¬ own_sl x < 0 ∧ (own_sl x).toNatClampNeg = x.toNatClampNeg % 256 ∧ (own_pg x).toInt = ((x.toNatClampNeg / 256 : Nat) : Int) := by
  have a1 := c_iushr x 8 8 (by decide) (by decide)
  have a2 := c_mask x 255 8 (by decide) (by decide)
  have e0 : (0 : Int32).toInt = 0 := rfl
  have q1 : (own_pg x).toInt = x.toInt / 256 := by show ((x.toUInt32 >>> ((8 : Int32) &&& 31).toUInt32).toInt32).toInt = _; rw [a1]; omega
  have q2 : (own_sl x).toInt = x.toInt % 256 := by show (x &&& 255).toInt = _; rw [a2]; rfl
  simp only [Int32.lt_iff_toInt_lt, e0, Int32.toNatClampNeg, q1, q2]
  omega
theorem own_x {x : Nat} : 256 * (x / 256) + x % 256 = x := Nat.div_add_mod x 256
theorem own_i0 (n : Nat) (h : n ≤ 101) : Int32.ofNat n = 0 ↔ n = 0 := by
  rw [← Int32.toInt_inj, own_cnt32 h]; have : (0 : Int32).toInt = 0 := rfl
  omega
theorem own_inc {n : Nat} (h : n ≤ 100) : nar .char (Int32.ofNat n + 1).toUInt32.toUInt16.toUInt32.toInt32 = Int32.ofNat (n + 1) := by
  apply Int32.toInt_inj.mp
  have e1 : (1 : Int32).toInt = 1 := rfl
  have a := c_iadd (Int32.ofNat n) 1; have r := rng32 (Int32.ofNat n + 1)
  rw [own_cnt32 (by omega), e1] at a
  have b := c_i2c (Int32.ofNat n + 1); have c := c_i2c (Int32.ofNat n + 1).toUInt32.toUInt16.toUInt32.toInt32
  have e : nar .char (Int32.ofNat n + 1).toUInt32.toUInt16.toUInt32.toInt32 = (Int32.ofNat n + 1).toUInt32.toUInt16.toUInt32.toInt32.toUInt32.toUInt16.toUInt32.toInt32 := rfl
  rw [e, own_cnt32 (by omega)]; omega
theorem own_dec {n : Nat} (h : n ≤ 100) : nar .char (Int32.ofNat (n + 1) - 1).toUInt32.toUInt16.toUInt32.toInt32 = Int32.ofNat n := by
  apply Int32.toInt_inj.mp
  have e1 : (1 : Int32).toInt = 1 := rfl
  have a := c_isub (Int32.ofNat (n + 1)) 1; have r := rng32 (Int32.ofNat (n + 1) - 1)
  rw [own_cnt32 (by omega), e1] at a
  have b := c_i2c (Int32.ofNat (n + 1) - 1); have c := c_i2c (Int32.ofNat (n + 1) - 1).toUInt32.toUInt16.toUInt32.toInt32
  have e : nar .char (Int32.ofNat (n + 1) - 1).toUInt32.toUInt16.toUInt32.toInt32 = (Int32.ofNat (n + 1) - 1).toUInt32.toUInt16.toUInt32.toInt32.toUInt32.toUInt16.toUInt32.toInt32 := rfl
  rw [e, own_cnt32 (by omega)]; omega
theorem own_ordb {o : Int32} (h1 : 0 ≤ o.toInt) (h2 : o.toInt < 14) : nar .byte (o + 1).toInt8.toInt32 = o + 1 ∧ (o + 1).toInt = o.toInt + 1 := by
  have e1 : (1 : Int32).toInt = 1 := rfl
  have a := c_iadd o 1; have r := rng32 (o + 1)
  rw [e1] at a
  have b := c_i2b (o + 1); have c := c_i2b (o + 1).toInt8.toInt32
  refine ⟨Int32.toInt_inj.mp ?_, by omega⟩
  have e : nar .byte (o + 1).toInt8.toInt32 = (o + 1).toInt8.toInt32.toInt8.toInt32 := rfl
  rw [e]; omega
def own_Map (Z : State) (n0 : Nat) (h : Heap) (m : Addr) (S : List Nat) (val : Nat → Int32) (held size lp : Int32) (f : Nat → Value) : Prop :=
  ∃ (P K : Addr) (kP kK : ClassId), Exa Z h m "com/example/utopic/utopic/broker/MessageIds" ∧ Fld Z h m "com/example/utopic/utopic/broker/MessageIds" "pages" "[[B" (.ref P) ∧ Fld Z h m "com/example/utopic/utopic/broker/MessageIds" "taken" "[C" (.ref K) ∧ Fld Z h m "com/example/utopic/utopic/broker/MessageIds" "lastPage" "I" (.int lp) ∧ Fld Z h m "com/example/utopic/utopic/broker/MessageIds" "pagesHeld" "I" (.int held) ∧ Fld Z h m "com/example/utopic/utopic/broker/MessageIds" "size" "I" (.int size) ∧
    n0 ≤ P ∧ n0 ≤ K ∧ P ≠ K ∧ P ≠ m ∧ K ≠ m ∧ own_Arf Z h P kP (.array .byte) 256 f ∧ OvrA Z kP .byte "[B" ∧ own_Arf Z h K kK .char 256 (fun i => .int (Int32.ofNat (own_cnt S i))) ∧ own_Pgs Z n0 h m P K f val ∧ own_Inv f S val ∧ -1 ≤ lp.toInt ∧ lp.toInt < 256
def own_Emp (Z : State) (h : Heap) (m : Addr) : Prop :=
  Exa Z h m "com/example/utopic/utopic/broker/MessageIds" ∧ Fld Z h m "com/example/utopic/utopic/broker/MessageIds" "pages" "[[B" .null ∧ Fld Z h m "com/example/utopic/utopic/broker/MessageIds" "taken" "[C" .null ∧ Fld Z h m "com/example/utopic/utopic/broker/MessageIds" "lastPage" "I" (.int (-1)) ∧ Fld Z h m "com/example/utopic/utopic/broker/MessageIds" "pagesHeld" "I" (.int 0) ∧ Fld Z h m "com/example/utopic/utopic/broker/MessageIds" "size" "I" (.int 0)
/-- what the object holds for each id (0: nothing); nothing at first -/
def own_St (Z : State) (n0 : Nat) (h : Heap) (m : Addr) (S : List Nat) (val : Nat → Int32) (held size : Int32) : Prop := (own_Emp Z h m ∧ S = [] ∧ (∀ x, x < 65536 → val x = 0) ∧ held = 0 ∧ size = 0) ∨ ∃ lp f, own_Map Z n0 h m S val held size lp f
theorem own_Exa_St {Z : State} {n0 : Nat} {h : Heap} {m : Addr} {S : List Nat} {val : Nat → Int32} {held size : Int32} (M : own_St Z n0 h m S val held size) : Exa Z h m "com/example/utopic/utopic/broker/MessageIds" := by
  rcases M with ⟨M, -⟩ | ⟨_, _, _, _, _, _, M, -⟩
  · exact M.1
  · exact M
/-! what the steps do to the plain part -/
theorem own_set0 {val : Nat → Int32} {x : Nat} (h : val x = 0) : own_set val x 0 = val := by
  funext y; unfold own_set; split
  · rename_i e; rw [e, h]
  · rfl
theorem own_Inv.drop {f : Nat → Value} {S : List Nat} {val : Nat → Int32} (I : own_Inv f S val) {i : Nat} (hi : i < 256) (h0 : own_cnt S i = 0) : own_Inv (fun j => if j = i then .null else f j) S val := by
  obtain ⟨i1, i2, i3, i4, i5⟩ := I
  refine ⟨fun j hj hf t ht => ?_, fun j j' A hj hj' h1 h2 => ?_, i3, i4, i5⟩
  · by_cases e : j = i
    · subst e
      refine Classical.byContradiction fun hv => ?_
      have := own_cnt_zero h0 ((i4 _ (by omega)).mpr hv)
      omega
    · simp only [if_neg e] at hf; exact i1 j hj hf t ht
  · have q1 : j ≠ i := fun e => by simp [e] at h1
    have q2 : j' ≠ i := fun e => by simp [e] at h2
    simp only [if_neg q1] at h1; simp only [if_neg q2] at h2
    exact i2 j j' A hj hj' h1 h2
theorem own_Inv.page {f : Nat → Value} {S : List Nat} {val : Nat → Int32} (I : own_Inv f S val) {i : Nat} {A : Addr} (hA : ∀ j, j < 256 → f j ≠ .ref A) : own_Inv (fun j => if j = i then .ref A else f j) S val := by
  obtain ⟨i1, i2, i3, i4, i5⟩ := I
  refine ⟨fun j hj hf t ht => ?_, fun j j' B hj hj' h1 h2 => ?_, i3, i4, i5⟩
  · by_cases e : j = i
    · simp [e] at hf
    · simp only [if_neg e] at hf; exact i1 j hj hf t ht
  · by_cases e : j = i <;> by_cases e' : j' = i
    · omega
    · simp only [if_pos e] at h1; simp only [if_neg e'] at h2; cases h1; exact absurd h2 (hA j' hj')
    · simp only [if_neg e] at h1; simp only [if_pos e'] at h2; cases h2; exact absurd h1 (hA j hj)
    · simp only [if_neg e] at h1; simp only [if_neg e'] at h2; exact i2 j j' B hj hj' h1 h2
/-- a byte written: x, in a page that stands -/
theorem own_Inv.put {f : Nat → Value} {S S' : List Nat} {val : Nat → Int32} (I : own_Inv f S val) {x : Nat} {v : Int32} (hx : x < 65536) (hf : f (x / 256) ≠ .null) (n1 : S'.Nodup) (n2 : ∀ y, y ∈ S' ↔ (if y = x then v ≠ 0 else y ∈ S)) (n3 : S'.length ≤ 100) : own_Inv f S' (own_set val x v) := by
  obtain ⟨i1, i2, i3, i4, i5⟩ := I
  refine ⟨fun j hj hf' t ht => ?_, i2, n1, fun y hy => ?_, n3⟩
  · have : 256 * j + t ≠ x := fun e => by
      have : x / 256 = j := by omega
      rw [this] at hf; exact hf hf'
    simp only [own_set, if_neg this]; exact i1 j hj hf' t ht
  · rw [n2 y]
    by_cases e : y = x
    · simp [own_set, e]
    · simp only [own_set, if_neg e]; exact i4 y hy
theorem own_Pgs.put {Z : State} {n0 : Nat} {h h' : Heap} {m P K A : Addr} {f : Nat → Value} {val : Nat → Int32} {kA : ClassId} {x sl : Nat} {v : Int32} (F : own_Pgs Z n0 h m P K f val) (i2 : ∀ i j (A : Addr), i < 256 → j < 256 → f i = .ref A → f j = .ref A → i = j) (hx : x < 65536) (hA : f (x / 256) = .ref A)
    (G : own_Arf Z h A kA .byte 256 (fun j => .int (val (256 * (x / 256) + j)))) (W : Wr h h' A sl (.int v)) (hs : sl = x % 256) : own_Pgs Z n0 h' m P K f (own_set val x v) := fun i hi => by
  rcases F i hi with r | ⟨B, kB, q1, q2, q3, q4, q5, q6⟩
  · exact Or.inl r
  · by_cases e : i = x / 256
    · subst e
      cases hA.symm.trans q1
      refine Or.inr ⟨A, kA, q1, q2, q3, q4, q5, (G.set W (by omega)).cong fun j hj => ?_⟩
      by_cases ej : j = sl
      · have : 256 * (x / 256) + j = x := by omega
        simp [own_set, ej, this, hs, own_x]
      · have : 256 * (x / 256) + j ≠ x := by omega
        simp only [own_set, if_neg ej, if_neg this]
    · have hne : B ≠ A := fun q => by subst q; exact e (i2 _ _ _ hi (by omega) q1 hA)
      refine Or.inr ⟨B, kB, q1, q2, q3, q4, q5, (q6.other W hne).cong fun j hj => ?_⟩
      have : 256 * i + j ≠ x := fun q => e (by omega)
      simp only [own_set, if_neg this]
theorem own_Pgs.page {Z : State} {n0 : Nat} {h : Heap} {m P K A : Addr} {f : Nat → Value} {val : Nat → Int32} {kA : ClassId} {i : Nat} (F : own_Pgs Z n0 h m P K f val) (q2 : n0 ≤ A) (q3 : A ≠ P) (q4 : A ≠ K) (q5 : A ≠ m) (G : own_Arf Z h A kA .byte 256 (fun j => .int (val (256 * i + j)))) : own_Pgs Z n0 h m P K (fun j => if j = i then .ref A else f j) val := fun j hj => by
  by_cases e : j = i
  · subst e; exact Or.inr ⟨A, kA, by simp, q2, q3, q4, q5, G⟩
  · simp only [if_neg e]; exact F j hj
theorem own_Pgs.drop {Z : State} {n0 : Nat} {h : Heap} {m P K : Addr} {f : Nat → Value} {val : Nat → Int32} {i : Nat} (F : own_Pgs Z n0 h m P K f val) : own_Pgs Z n0 h m P K (fun j => if j = i then .null else f j) val := fun j hj => by
  by_cases e : j = i
  · exact Or.inl (by simp [e])
  · simp only [if_neg e]; exact F j hj
theorem own_selp {y : MethodName} {s : State} {args args' args'' args₃ : Array Value} {n : Nat} (hy : y.cls ≠ "java/lang/invoke/MethodHandle" ∧ y.cls ≠ "java/lang/invoke/VarHandle") (hins : (Cond.instantiable y.cls n).before args s = true) (hpriv : (Cond.privateMethod y).before args' s = true) (hinst : (Cond.instanceMethod y).before args'' s = true) :
    (Cond.selects y.cls y y).before args₃ s = true := by
  obtain ⟨c, k, hc, hk, -, hniab, -, -⟩ := Cond.instantiable_spec hins
  have hni : k.isInterface = false := (Bool.or_eq_false_iff.mp hniab).1
  obtain ⟨mk, methM, hnamed, hmethM, -, -⟩ := Cond.instanceMethod_spec hinst
  have hfound : s.methodFound? y.cls y.name y.desc = some mk := State.methodFound?_of_named hnamed hy
  have hcls : mk.cls = c := Option.some.inj ((findClass_of_methodNamed hnamed).symm.trans hc)
  have hsel : selectMethod {} s.vm c mk = .method mk := selectMethod_private hmethM (Cond.privateMethod_at hpriv mk methM hnamed hmethM)
  simp only [Cond.before, Cond.holds, Cond.value, hc, hfound, hnamed, hsel, hcls, hk]
  simp; exact hni
def own_ty (tys : List Addr) (v : Int32) : Value := if v = 0 then .null else .ref (tys.getD (v - 1).toNatClampNeg 0)
theorem own_tyR (tys : List Addr) (v : Int32) : (own_ty tys v).isRef = true := by unfold own_ty; split <;> rfl
theorem own_tyi {v : Int32} (h0 : ¬ v = 0) (h1 : 0 ≤ v.toInt) (h2 : v.toInt ≤ 14) : ¬ v - 1 < 0 ∧ v - 1 < 14 ∧ (v - 1).toNatClampNeg < 14 := by
  have a := c_isub v 1; have r := rng32 (v - 1)
  have e1 : (1 : Int32).toInt = 1 := rfl
  have e0 : (0 : Int32).toInt = 0 := rfl
  have e14 : (14 : Int32).toInt = 14 := rfl
  rw [← Int32.toInt_inj, e0] at h0
  rw [e1] at a
  simp only [Int32.lt_iff_toInt_lt, e0, e14, Int32.toNatClampNeg]; omega
theorem own_tyg {tys : List Addr} (hl : tys.length = 14) {n : Nat} (hn : n < 14) : (tys.map Value.ref).getD n .null = .ref (tys.getD n 0) := by
  simp only [List.getD_eq_getElem?_getD, List.getElem?_map, List.getElem?_eq_getElem (show n < tys.length by omega)]; rfl
theorem own_onz {o : Int32} (h1 : 0 ≤ o.toInt) (h2 : o.toInt < 14) : ¬ o + 1 = 0 := fun q => by
  have a := (own_ordb h1 h2).2
  rw [q] at a; have e0 : (0 : Int32).toInt = 0 := rfl
  omega
theorem own_setx (val : Nat → Int32) (x : Nat) (v : Int32) : own_set val x v x = v := if_pos rfl
theorem own_setn (val : Nat → Int32) {x y : Nat} (v : Int32) (h : y ≠ x) : own_set val x v y = val y := if_neg h
theorem own_ty1 {tys : List Addr} {o : Int32} (h1 : 0 ≤ o.toInt) (h2 : o.toInt < 14) : own_ty tys (o + 1) = .ref (tys.getD o.toNatClampNeg 0) := by
  have a := (own_ordb h1 h2).2
  have e : o + 1 - 1 = o := by
    apply Int32.toInt_inj.mp
    have b := c_isub (o + 1) 1; have r := rng32 (o + 1 - 1); have e1 : (1 : Int32).toInt = 1 := rfl
    omega
  unfold own_ty; rw [if_neg (own_onz h1 h2), e]
theorem own_ofn {o : Int32} (h1 : 0 ≤ o.toInt) : Int32.ofNat o.toNatClampNeg = o := by
  apply Int32.toInt_inj.mp
  have r := rng32 o
  rw [Int32.toInt_ofNat_small (by simp only [Int32.toNatClampNeg]; omega)]; simp only [Int32.toNatClampNeg]; omega
theorem own_sz {n : Nat} {k : Int32} (h : n < 2 ^ 31 ∧ n.toInt32 = k) : n = k.toNatClampNeg := by
  rw [← h.2]; simp only [Int32.toNatClampNeg, len_toInt h.1]; rfl
theorem own_m14 (x : Int32) : 0 ≤ ((x &&& 2147483647) % 14).toInt ∧ ((x &&& 2147483647) % 14).toInt < 14 := by
  have h := c_mask x 2147483647 31 (by decide) (by decide)
  have h2 := (c_irem (x &&& 2147483647) 14 14 rfl).1 (by omega); omega
theorem own_m16 (x : Int32) : 0 ≤ (x &&& 65535).toInt ∧ (x &&& 65535).toInt < 65536 := by
  have h := c_mask x 65535 16 (by decide) (by decide); omega
theorem own_codein {c : Cell} {k o : Int32} (hs : c.slots.size = 16) (hk : k.toInt = o.toInt + 1) (h1 : 0 ≤ o.toInt) (h2 : o.toInt < 14) : ¬ (k < 0 ∨ c.slots.size ≤ k.toNatClampNeg) ∧ k.toNatClampNeg = o.toNatClampNeg + 1 ∧ o.toNatClampNeg < 14 := by
  have e0 : (0 : Int32).toInt = 0 := rfl
  rw [hs]; simp only [Int32.lt_iff_toInt_lt, e0, Int32.toNatClampNeg]; omega
theorem own_Exa_Map {Z : State} {n0 : Nat} {h : Heap} {m : Addr} {S : List Nat} {val : Nat → Int32} {held size lp : Int32} {f : Nat → Value} (M : own_Map Z n0 h m S val held size lp f) : Exa Z h m "com/example/utopic/utopic/broker/MessageIds" := by
  obtain ⟨_, _, _, _, M, -⟩ := M; exact M
theorem own_flds {Z : State} {n0 : Nat} {h : Heap} {m : Addr} {S : List Nat} {val : Nat → Int32} {held size : Int32} (M : own_St Z n0 h m S val held size) :
    ∃ v1 v2 v3 v4 v5, Exa Z h m "com/example/utopic/utopic/broker/MessageIds" ∧ Fld Z h m "com/example/utopic/utopic/broker/MessageIds" "pages" "[[B" v1 ∧ Fld Z h m "com/example/utopic/utopic/broker/MessageIds" "taken" "[C" v2 ∧ Fld Z h m "com/example/utopic/utopic/broker/MessageIds" "lastPage" "I" v3 ∧ Fld Z h m "com/example/utopic/utopic/broker/MessageIds" "pagesHeld" "I" v4 ∧ Fld Z h m "com/example/utopic/utopic/broker/MessageIds" "size" "I" v5 := by
  rcases M with ⟨⟨a1, a2, a3, a4, a5, a6⟩, -⟩ | ⟨lp, f, P, K, kP, kK, a1, a2, a3, a4, a5, a6, -⟩
  · exact ⟨_, _, _, _, _, a1, a2, a3, a4, a5, a6⟩
  · exact ⟨_, _, _, _, _, a1, a2, a3, a4, a5, a6⟩
theorem own_nn {x y : Int32} (hx : 0 ≤ x.toInt) (hy : 0 ≤ y.toInt) (h : ¬ x = y) : x.toNatClampNeg ≠ y.toNatClampNeg := fun q => by
  apply h; apply Int32.toInt_inj.mp; simp only [Int32.toNatClampNeg] at q; omega

theorem c_andm (x : Int32) : (x &&& 65280).toInt % 256 = 0 := by
  have e : (x &&& 65280) = (x &&& 65535) - (x &&& 255) := by
    apply Int32.toBitVec_inj.mp
    show x.toBitVec &&& 65280#32 = (x.toBitVec &&& 65535#32) - (x.toBitVec &&& 255#32)
    generalize x.toBitVec = b
    have h1 : b &&& 65535#32 = (b &&& 65280#32) ||| (b &&& 255#32) := by
      rw [← BitVec.and_or_distrib_left]; rfl
    have h0 : (b &&& 65280#32) &&& (b &&& 255#32) = 0#32 := by
      rw [BitVec.and_comm b 255#32, ← BitVec.and_assoc, BitVec.and_assoc b, show (65280#32 &&& 255#32) = 0#32 from by decide, BitVec.and_zero, BitVec.zero_and]
    have h2 : (b &&& 65280#32) ||| (b &&& 255#32) = (b &&& 65280#32) + (b &&& 255#32) := (BitVec.add_eq_or_of_and_eq_zero _ _ h0).symm
    rw [h1, h2, BitVec.add_sub_cancel]
  have a1 := c_mask x 65535 16 (by decide) (by decide)
  have a2 := c_mask x 255 8 (by decide) (by decide)
  have a3 := c_isub (x &&& 65535) (x &&& 255); have r := rng32 ((x &&& 65535) - (x &&& 255))
  rw [e]; omega

theorem own_b16 (x y : Int32) : 0 ≤ ((x &&& 65280) ||| (y &&& 255)).toInt ∧ ((x &&& 65280) ||| (y &&& 255)).toInt < 65536 := by
  have a1 := c_and x 65280 (by decide); have a2 := c_mask y 255 8 (by decide) (by decide)
  have e : (65280 : Int32).toInt = 65280 := rfl
  have a3 := c_andm x
  have a4 := c_or (x &&& 65280) (y &&& 255) 8 (by decide) 256 rfl (by omega) (by omega) (by omega)
  have r := rng32 ((x &&& 65280) ||| (y &&& 255)); omega
def own_v1 (fa : Int32) (a : Nat) (oa : Int32) : Nat → Int32 := if fa = 0 then fun _ => 0 else own_set (fun _ => 0) a (oa + 1)
def own_v2 (fa fb : Int32) (a b : Nat) (oa ob : Int32) : Nat → Int32 := if fb = 0 then own_v1 fa a oa else own_set (own_v1 fa a oa) b (ob + 1)
def own_v3 (fa fb fr : Int32) (a b : Nat) (oa ob : Int32) : Nat → Int32 := if fr = 0 then own_v2 fa fb a b oa ob else own_set (own_v2 fa fb a b oa ob) a 0
theorem own_r0 : 0 ≤ (0 : Int32).toInt ∧ (0 : Int32).toInt ≤ 14 := by decide
theorem own_rs {val : Nat → Int32} {x y : Nat} {o : Int32} (h1 : 0 ≤ o.toInt) (h2 : o.toInt < 14) (h : 0 ≤ (val y).toInt ∧ (val y).toInt ≤ 14) : 0 ≤ (own_set val x (o + 1) y).toInt ∧ (own_set val x (o + 1) y).toInt ≤ 14 := by
  unfold own_set; split
  · rw [(own_ordb h1 h2).2]; omega
  · exact h
theorem own_rz {val : Nat → Int32} {x y : Nat} (h : 0 ≤ (val y).toInt ∧ (val y).toInt ≤ 14) : 0 ≤ (own_set val x 0 y).toInt ∧ (own_set val x 0 y).toInt ≤ 14 := by
  unfold own_set; split
  · decide
  · exact h
theorem own_rv1 {fa oa : Int32} {a y : Nat} (h1 : 0 ≤ oa.toInt) (h2 : oa.toInt < 14) : 0 ≤ (own_v1 fa a oa y).toInt ∧ (own_v1 fa a oa y).toInt ≤ 14 := by
  unfold own_v1; split
  · exact own_r0
  · exact own_rs h1 h2 own_r0
theorem own_rv2 {fa fb oa ob : Int32} {a b y : Nat} (h1 : 0 ≤ oa.toInt) (h2 : oa.toInt < 14) (h3 : 0 ≤ ob.toInt) (h4 : ob.toInt < 14) : 0 ≤ (own_v2 fa fb a b oa ob y).toInt ∧ (own_v2 fa fb a b oa ob y).toInt ≤ 14 := by
  unfold own_v2; split
  · exact own_rv1 h1 h2
  · exact own_rs h3 h4 (own_rv1 h1 h2)
theorem own_rv3 {fa fb fr oa ob : Int32} {a b y : Nat} (h1 : 0 ≤ oa.toInt) (h2 : oa.toInt < 14) (h3 : 0 ≤ ob.toInt) (h4 : ob.toInt < 14) : 0 ≤ (own_v3 fa fb fr a b oa ob y).toInt ∧ (own_v3 fa fb fr a b oa ob y).toInt ≤ 14 := by
  unfold own_v3; split
  · exact own_rv2 h1 h2 h3 h4
  · exact own_rz (own_rv2 h1 h2 h3 h4)
/-- what the law expects: mid and fin -/
def own_m1 (fa a q : Int32) (ta : Addr) : Value := if fa = 0 then .null else if q = a then .ref ta else .null
def own_m2 (fa fb a b q : Int32) (ta tb : Addr) : Value := if fb = 0 then own_m1 fa a q ta else if q = b then .ref tb else own_m1 fa a q ta
def own_m3 (fr a q : Int32) (v : Value) : Value := if fr = 0 then v else if q = a then .null else v
theorem own_m1R (fa a q : Int32) (ta : Addr) : (own_m1 fa a q ta).isRef = true := by 
  unfold own_m1; split
  · rfl
  · split <;> rfl
theorem own_m2R (fa fb a b q : Int32) (ta tb : Addr) : (own_m2 fa fb a b q ta tb).isRef = true := by
  unfold own_m2; split
  · exact own_m1R ..
  · split
    · rfl
    · exact own_m1R ..
theorem own_m3R (fr a q : Int32) {v : Value} (h : v.isRef = true) : (own_m3 fr a q v).isRef = true := by
  unfold own_m3; split
  · exact h
  · split
    · rfl
    · exact h
theorem own_ty0 (tys : List Addr) : own_ty tys 0 = .null := rfl
theorem own_E1 {tys : List Addr} {fa a q oa : Int32} {ta : Addr} (ha : 0 ≤ a.toInt) (hq : 0 ≤ q.toInt) (T : own_ty tys (oa + 1) = .ref ta) : own_ty tys (own_v1 fa a.toNatClampNeg oa q.toNatClampNeg) = own_m1 fa a q ta := by
  unfold own_v1 own_m1; split
  · rfl
  · split
    · rename_i e; rw [e, own_setx]; exact T
    · rename_i e; rw [own_setn _ _ (own_nn hq ha e)]; rfl
theorem own_E2 {tys : List Addr} {fa fb a b q oa ob : Int32} {ta tb : Addr} (ha : 0 ≤ a.toInt) (hb : 0 ≤ b.toInt) (hq : 0 ≤ q.toInt) (T : own_ty tys (oa + 1) = .ref ta) (T' : own_ty tys (ob + 1) = .ref tb) :
    own_ty tys (own_v2 fa fb a.toNatClampNeg b.toNatClampNeg oa ob q.toNatClampNeg) = own_m2 fa fb a b q ta tb := by
  unfold own_v2 own_m2; split
  · exact own_E1 ha hq T
  · split
    · rename_i e; rw [e, own_setx]; exact T'
    · rename_i e; rw [own_setn _ _ (own_nn hq hb e)]; exact own_E1 ha hq T
theorem own_E3 {tys : List Addr} {fa fb fr a b q oa ob : Int32} {ta tb : Addr} (ha : 0 ≤ a.toInt) (hb : 0 ≤ b.toInt) (hq : 0 ≤ q.toInt) (T : own_ty tys (oa + 1) = .ref ta) (T' : own_ty tys (ob + 1) = .ref tb) :
    own_ty tys (own_v3 fa fb fr a.toNatClampNeg b.toNatClampNeg oa ob q.toNatClampNeg) = own_m3 fr a q (own_m2 fa fb a b q ta tb) := by
  unfold own_v3 own_m3; split
  · exact own_E2 ha hb hq T T'
  · split
    · rename_i e; rw [e, own_setx]; rfl
    · rename_i e; rw [own_setn _ _ (own_nn hq ha e)]; exact own_E2 ha hb hq T T'
theorem own_d2_0 : decode prog_5_method_1_code 0 = .ok (.aload_n 0, 1) := by decide +kernel
theorem own_d2_1 : decode prog_5_method_1_code 1 = .ok (.invokespecial 7, 3) := by decide +kernel
theorem own_d2_4 : decode prog_5_method_1_code 4 = .ok (.aload_n 0, 1) := by decide +kernel
theorem own_d2_5 : decode prog_5_method_1_code 5 = .ok (.iconst (-1), 1) := by decide +kernel
theorem own_d2_6 : decode prog_5_method_1_code 6 = .ok (.putfield 13, 3) := by decide +kernel
theorem own_d2_9 : decode prog_5_method_1_code 9 = .ok (.return_, 1) := by decide +kernel
theorem own_pn0 : plainName "com/example/utopic/utopic/broker/MessageIds" = true := by first | (simp [plainName, overriddenIn]; done) | decide +kernel
set_option maxRecDepth 65536 in
set_option maxHeartbeats 40000000 in
theorem own_rmI (l : Launch) (Z : State) (a0 : Array Value) (hw : ∀ d ∈ tables_1, d.before a0 Z = true) (a1 : Addr) (h0 : Heap) (n0 : Nat) (Z0 : n0 ≤ h0.size) (E1 : Exa Z h0 a1 "com/example/utopic/utopic/broker/MessageIds") (F_pages : Fld Z h0 a1 "com/example/utopic/utopic/broker/MessageIds" "pages" "[[B" .null) (F_taken : Fld Z h0 a1 "com/example/utopic/utopic/broker/MessageIds" "taken" "[C" .null) (F_lastPage : Fld Z h0 a1 "com/example/utopic/utopic/broker/MessageIds" "lastPage" "I" (.int 0)) (F_pagesHeld : Fld Z h0 a1 "com/example/utopic/utopic/broker/MessageIds" "pagesHeld" "I" (.int 0)) (F_size : Fld Z h0 a1 "com/example/utopic/utopic/broker/MessageIds" "size" "I" (.int 0)) (ge_a1 : n0 ≤ a1) :
    own_Met l Z [] (⟨"com/example/utopic/utopic/broker/MessageIds", "<init>", "()V"⟩ : MethodName) prog_5_method_1_code 1 none ({ frames := 1, cells := 0, slots := 0, locals := 12 } : Room) #[(.ref a1)] h0 (fun v h L => v = none ∧ Fr n0 L ∧ Keep h0 h [a1] ∧ own_Emp Z h a1) := by
  refine MetFree.of_bodySF (plainFor_of_name own_pn0) hisR ?_
  intro p e s m args below meth c s₁ Bd hml0 hP hK
  obtain ⟨rfl, hZ, hh⟩ := hP
  have hx := Bd.exec
  have hby := Bd.bytes
  have hml : c.maxLocals = 1 := hml0
  have hown : s.vm.findClass "com/example/utopic/utopic/broker/MessageIds" = some m.cls := findClass_of_methodNamed Bd.named
  have hnm := (name_of_methodNamed Bd.named Bd.method).1
  have hlk : meth.locks = false := Bd.notSynchronized
  have X0 : Stand p l e ({ frames := 1, cells := 0, slots := 0, locals := 12 } : Room) s m #[(.ref a1)] below meth c s₁ [] 0 0 := Stand.of_body Bd
  have e0 : s₁.heap = h0 := by rw [← hh, Bd.state]; rfl
  have N0 := Fr.nil n0
  refine own_body (Q := fun v h L => v = none ∧ Fr n0 L ∧ Keep h0 h [a1] ∧ own_Emp Z h a1) ?_
  refine own_go (fun _ kont => castTop (own_ef m #[(.ref a1)] 1 #[.val (.ref a1)] (own_al [(.ref a1)] 1 [.val (.ref a1)] rfl)) kont) ?_
  show own_Go _ _ _ _ (s₁.setTop (mkF m 0 #[.val (.ref a1)] []))
  have K0 : Keep h0 h0 [a1] := Keep.refl _ _
  refine own_go (fun _ kont => XS.aloadN X0.here hx rfl (hb hby own_d2_0) rfl rfl kont) ?_
  show own_Go _ _ _ _ (s₁.setTop (mkF m 1 #[.val (.ref a1)] [(.ref a1)]))
  obtain ⟨T1, X1, e1, st1⟩ := initO X0 hx hZ hown (hw _ (List.mem_of_getElem? (i := 17) rfl)) (hw _ (List.mem_of_getElem? (i := 18) rfl)) (hw _ (List.mem_of_getElem? (i := 19) rfl)) e0 (g := (mkF m 1 #[.val (.ref a1)] [(.ref a1)])) rfl (by rw [hml]; rfl) rfl (hb hby own_d2_1) (by decide) (W := 0) (by show 2 * 0 + _ ≤ _; exact Nat.le_of_eq rfl) (by decide)
  refine own_go st1 ?_
  show own_Go _ _ _ _ (T1.setTop (mkF m 4 #[.val (.ref a1)] []))
  refine own_go (fun _ kont => XS.aloadN X1.here hx rfl (hb hby own_d2_4) rfl rfl kont) ?_
  show own_Go _ _ _ _ (T1.setTop (mkF m 5 #[.val (.ref a1)] [(.ref a1)]))
  refine own_go (fun _ kont => XS.iconst X1.here hx rfl (hb hby own_d2_5) kont) ?_
  show own_Go _ _ _ _ (T1.setTop (mkF m 6 #[.val (.ref a1)] [(.int (-1 : Int32)), (.ref a1)]))
  obtain ⟨T2, h2, X2, e2, W2, st2⟩ := putF X1 hx hZ hown (host := "") (Or.inl (hw _ (List.mem_of_getElem? (i := 20) rfl))) Via.refl e1 F_lastPage E1 (Or.inl (hw _ (List.mem_of_getElem? (i := 21) rfl))) (hw _ (List.mem_of_getElem? (i := 12) rfl)) (ty := .int) (by decide) rfl rfl (g := (mkF m 6 #[.val (.ref a1)] [(.int (-1 : Int32)), (.ref a1)])) rfl rfl (hb hby own_d2_6)
  refine own_go st2 ?_
  have NF2 := Fr.snoc X2 N0 ge_a1
  replace F_lastPage := F_lastPage.same W2
  replace E1 := E1.wr W2
  replace F_pages := F_pages.other W2 (Or.inr (slot_ne (Or.inl (hw _ (List.mem_of_getElem? (i := 28) rfl))) (Or.inl (hw _ (List.mem_of_getElem? (i := 21) rfl))) (by decide) (t := (.array (.array .byte))) (t' := .int) (by decide) (by decide)))
  replace F_taken := F_taken.other W2 (Or.inr (slot_ne (Or.inl (hw _ (List.mem_of_getElem? (i := 38) rfl))) (Or.inl (hw _ (List.mem_of_getElem? (i := 21) rfl))) (by decide) (t := (.array .char)) (t' := .int) (by decide) (by decide)))
  replace F_pagesHeld := F_pagesHeld.other W2 (Or.inr (slot_ne (Or.inl (hw _ (List.mem_of_getElem? (i := 46) rfl))) (Or.inl (hw _ (List.mem_of_getElem? (i := 21) rfl))) (by decide) (t := .int) (t' := .int) (by decide) (by decide)))
  replace F_size := F_size.other W2 (Or.inr (slot_ne (Or.inl (hw _ (List.mem_of_getElem? (i := 48) rfl))) (Or.inl (hw _ (List.mem_of_getElem? (i := 21) rfl))) (by decide) (t := .int) (t' := .int) (by decide) (by decide)))
  replace Z0 := Nat.le_trans Z0 (Keep.of_wr W2).1
  replace K0 := K0.wr W2 (Or.inl (List.mem_of_getElem? (i := 0) rfl))
  show own_Go _ _ _ _ (T2.setTop (mkF m 9 #[.val (.ref a1)] []))
  refine own_ret X2 hlk (v := none) (fun _ => rfl) (fun fs hr => X2.returnOut hx Bd.returns (hb hby own_d2_9) hr) ?_ (by decide) (by decide)
  try rw [e2]
  exact ⟨rfl, NF2, K0, E1, F_pages, F_taken, F_lastPage, F_pagesHeld, F_size⟩
theorem own_d1_0 : decode prog_29_method_6_code 0 = .ok (.getstatic 75, 3) := by decide +kernel
theorem own_d1_3 : decode prog_29_method_6_code 3 = .ok (.iload_n 0, 1) := by decide +kernel
theorem own_d1_4 : decode prog_29_method_6_code 4 = .ok (.aaload, 1) := by decide +kernel
theorem own_d1_5 : decode prog_29_method_6_code 5 = .ok (.astore_n 1, 1) := by decide +kernel
theorem own_d1_6 : decode prog_29_method_6_code 6 = .ok (.aload_n 1, 1) := by decide +kernel
theorem own_d1_7 : decode prog_29_method_6_code 7 = .ok (.ifnonnull 17, 3) := by decide +kernel
theorem own_d1_10 : decode prog_29_method_6_code 10 = .ok (.new 78, 3) := by decide +kernel
theorem own_d1_13 : decode prog_29_method_6_code 13 = .ok (.dup, 1) := by decide +kernel
theorem own_d1_14 : decode prog_29_method_6_code 14 = .ok (.iload_n 0, 1) := by decide +kernel
theorem own_d1_15 : decode prog_29_method_6_code 15 = .ok (.invokedynamic 80, 5) := by decide +kernel
theorem own_d1_20 : decode prog_29_method_6_code 20 = .ok (.invokespecial 84, 3) := by decide +kernel
theorem own_d1_23 : decode prog_29_method_6_code 23 = .ok (.athrow, 1) := by decide +kernel
theorem own_d1_24 : decode prog_29_method_6_code 24 = .ok (.aload_n 1, 1) := by decide +kernel
theorem own_d1_25 : decode prog_29_method_6_code 25 = .ok (.areturn, 1) := by decide +kernel
theorem own_pn1 : plainName "com/example/utopic/utopic/codec/PacketType" = true := by first | (simp [plainName, overriddenIn]; done) | decide +kernel
set_option maxRecDepth 65536 in
set_option maxHeartbeats 40000000 in
theorem own_rmP (l : Launch) (Z : State) (a0 : Array Value) (hw : ∀ d ∈ tables_1, d.before a0 Z = true) (k : Int32) (aC : Addr) (cl : Cell) (r : Addr) (h0 : Heap) (n0 : Nat) (Z0 : n0 ≤ h0.size) (S_C : Sta Z h0 "com/example/utopic/utopic/codec/PacketType" "BY_CODE" "[Lcom/example/utopic/utopic/codec/PacketType;" (.ref aC)) (Ar : Arr Z h0 aC cl (.object "com/example/utopic/utopic/codec/PacketType")) (hin : ¬ (k < 0 ∨ cl.slots.size ≤ k.toNatClampNeg)) (hat : cl.slots[k.toNatClampNeg]? = some (.ref r)) :
    own_Met l Z [] (⟨"com/example/utopic/utopic/codec/PacketType", "of", "(I)Lcom/example/utopic/utopic/codec/PacketType;"⟩ : MethodName) prog_29_method_6_code 2 (some (.object "com/example/utopic/utopic/codec/PacketType")) ({ frames := 0, cells := 0, slots := 0, locals := 0 } : Room) #[(.int k)] h0 (fun v h L => v = some (.ref r) ∧ Fr n0 L ∧ h = h0) := by
  refine MetFree.of_bodySF (plainFor_of_name own_pn1) hisR ?_
  intro p e s m args below meth c s₁ Bd hml0 hP hK
  obtain ⟨rfl, hZ, hh⟩ := hP
  have hx := Bd.exec
  have hby := Bd.bytes
  have hml : c.maxLocals = 2 := hml0
  have hown : s.vm.findClass "com/example/utopic/utopic/codec/PacketType" = some m.cls := findClass_of_methodNamed Bd.named
  have hnm := (name_of_methodNamed Bd.named Bd.method).1
  have hlk : meth.locks = false := Bd.notSynchronized
  have X0 : Stand p l e ({ frames := 0, cells := 0, slots := 0, locals := 0 } : Room) s m #[(.int k)] below meth c s₁ [] 0 0 := Stand.of_body Bd
  have e0 : s₁.heap = h0 := by rw [← hh, Bd.state]; rfl
  have N0 := Fr.nil n0
  refine own_body (Q := fun v h L => v = some (.ref r) ∧ Fr n0 L ∧ h = h0) ?_
  refine own_go (fun _ kont => castTop (own_ef m #[(.int k)] 2 #[.val (.int k), .unset] (own_al [(.int k)] 2 [.val (.int k), .unset] rfl)) kont) ?_
  show own_Go _ _ _ _ (s₁.setTop (mkF m 0 #[.val (.int k), .unset] []))
  obtain ⟨T1, X1, e1, st1⟩ := getS2 X0 hx hZ hown (host := "") (Or.inl (hw _ (List.mem_of_getElem? (i := 7) rfl))) Via.refl e0 S_C (g := (mkF m 0 #[.val (.int k), .unset] [])) rfl (hb hby own_d1_0)
  refine own_go st1 ?_
  show own_Go _ _ _ _ (T1.setTop (mkF m 3 #[.val (.int k), .unset] [(.ref aC)]))
  refine own_go (fun _ kont => XS.iloadN X1.here hx rfl (hb hby own_d1_3) rfl kont) ?_
  show own_Go _ _ _ _ (T1.setTop (mkF m 4 #[.val (.int k), .unset] [(.int k), (.ref aC)]))
  refine own_go (X1.aaload hx (j := k) (v := .ref r) (own_hp e1 Ar.1) (State.isArrayOf_alike hZ.alike Ar.2.1) rfl Ar.2.2 hin hat (g := (mkF m 4 #[.val (.int k), .unset] [(.int k), (.ref aC)])) rfl rfl (hb hby own_d1_4)) ?_
  show own_Go _ _ _ _ (T1.setTop (mkF m 5 #[.val (.int k), .unset] [(.ref r)]))
  refine own_go (fun _ kont => XS.astoreN X1.here hx rfl (hb hby own_d1_5) rfl rfl (l' := #[.val (.int k), .val (.ref r)]) rfl kont) ?_
  show own_Go _ _ _ _ (T1.setTop (mkF m 6 #[.val (.int k), .val (.ref r)] []))
  refine own_go (fun _ kont => XS.aloadN X1.here hx rfl (hb hby own_d1_6) rfl rfl kont) ?_
  show own_Go _ _ _ _ (T1.setTop (mkF m 7 #[.val (.int k), .val (.ref r)] [(.ref r)]))
  refine own_go (fun _ kont => XS.ifnonnullYes X1.here hx rfl (pc0 := 7) (pc' := 24) rfl (hb hby own_d1_7) rfl (by decide) (by decide) kont) ?_
  show own_Go _ _ _ _ (T1.setTop (mkF m 24 #[.val (.int k), .val (.ref r)] []))
  refine own_go (fun _ kont => XS.aloadN X1.here hx rfl (hb hby own_d1_24) rfl rfl kont) ?_
  show own_Go _ _ _ _ (T1.setTop (mkF m 25 #[.val (.int k), .val (.ref r)] [(.ref r)]))
  refine own_ret X1 hlk (v := some (.ref r)) (fun h => by rw [Bd.returns] at h; cases h) (fun fs hr => retOut X1 hx Bd.returns rfl (Or.inr (Or.inr (Or.inr (Or.inr ⟨rfl, rfl, rfl⟩)))) (hb hby own_d1_25) hr) ?_ (by decide) (by decide)
  try rw [e1]
  exact ⟨rfl, N0, rfl⟩
theorem own_d7_0 : decode jdk_37_method_2_code 0 = .ok (.aload_n 0, 1) := by decide +kernel
theorem own_d7_1 : decode jdk_37_method_2_code 1 = .ok (.getfield 7, 3) := by decide +kernel
theorem own_d7_4 : decode jdk_37_method_2_code 4 = .ok (.ireturn, 1) := by decide +kernel
theorem own_pn2 : plainName "java/lang/Enum" = true := by first | (simp [plainName, overriddenIn]; done) | decide +kernel
set_option maxRecDepth 65536 in
set_option maxHeartbeats 40000000 in
theorem own_rmO (l : Launch) (Z : State) (a0 : Array Value) (hw : ∀ d ∈ tables_1, d.before a0 Z = true) (a1 : Addr) (o : Int32) (h0 : Heap) (n0 : Nat) (Z0 : n0 ≤ h0.size) (F : Fld Z h0 a1 "java/lang/Enum" "ordinal" "I" (.int o)) :
    own_Met l Z [] (⟨"java/lang/Enum", "ordinal", "()I"⟩ : MethodName) jdk_37_method_2_code 1 (some .int) ({ frames := 0, cells := 0, slots := 0, locals := 0 } : Room) #[(.ref a1)] h0 (fun v h L => v = some (.int o) ∧ Fr n0 L ∧ h = h0) := by
  refine MetFree.of_bodySF (plainFor_of_name own_pn2) hisR ?_
  intro p e s m args below meth c s₁ Bd hml0 hP hK
  obtain ⟨rfl, hZ, hh⟩ := hP
  have hx := Bd.exec
  have hby := Bd.bytes
  have hml : c.maxLocals = 1 := hml0
  have hown : s.vm.findClass "java/lang/Enum" = some m.cls := findClass_of_methodNamed Bd.named
  have hnm := (name_of_methodNamed Bd.named Bd.method).1
  have hlk : meth.locks = false := Bd.notSynchronized
  have X0 : Stand p l e ({ frames := 0, cells := 0, slots := 0, locals := 0 } : Room) s m #[(.ref a1)] below meth c s₁ [] 0 0 := Stand.of_body Bd
  have e0 : s₁.heap = h0 := by rw [← hh, Bd.state]; rfl
  have N0 := Fr.nil n0
  refine own_body (Q := fun v h L => v = some (.int o) ∧ Fr n0 L ∧ h = h0) ?_
  refine own_go (fun _ kont => castTop (own_ef m #[(.ref a1)] 1 #[.val (.ref a1)] (own_al [(.ref a1)] 1 [.val (.ref a1)] rfl)) kont) ?_
  show own_Go _ _ _ _ (s₁.setTop (mkF m 0 #[.val (.ref a1)] []))
  refine own_go (fun _ kont => XS.aloadN X0.here hx rfl (hb hby own_d7_0) rfl rfl kont) ?_
  show own_Go _ _ _ _ (s₁.setTop (mkF m 1 #[.val (.ref a1)] [(.ref a1)]))
  obtain ⟨T1, X1, e1, st1⟩ := getF X0 hx hZ hown (host := "") (Or.inl (hw _ (List.mem_of_getElem? (i := 56) rfl))) Via.refl e0 F (g := (mkF m 1 #[.val (.ref a1)] [(.ref a1)])) rfl rfl (hb hby own_d7_1)
  refine own_go st1 ?_
  show own_Go _ _ _ _ (T1.setTop (mkF m 4 #[.val (.ref a1)] [(.int o)]))
  refine own_ret X1 hlk (v := some (.int o)) (fun h => by rw [Bd.returns] at h; cases h) (fun fs hr => retOut X1 hx Bd.returns rfl (Or.inl ⟨rfl, Or.inl rfl, _, rfl⟩) (hb hby own_d7_4) hr) ?_ (by decide) (by decide)
  try rw [e1]
  exact ⟨rfl, N0, rfl⟩
theorem own_d4_0 : decode prog_5_method_2_code 0 = .ok (.aload_n 0, 1) := by decide +kernel
theorem own_d4_1 : decode prog_5_method_2_code 1 = .ok (.getfield 17, 3) := by decide +kernel
theorem own_d4_4 : decode prog_5_method_2_code 4 = .ok (.ifnonnull 7, 3) := by decide +kernel
theorem own_d4_7 : decode prog_5_method_2_code 7 = .ok (.aconst_null, 1) := by decide +kernel
theorem own_d4_8 : decode prog_5_method_2_code 8 = .ok (.goto 12, 3) := by decide +kernel
theorem own_d4_11 : decode prog_5_method_2_code 11 = .ok (.aload_n 0, 1) := by decide +kernel
theorem own_d4_12 : decode prog_5_method_2_code 12 = .ok (.getfield 17, 3) := by decide +kernel
theorem own_d4_15 : decode prog_5_method_2_code 15 = .ok (.iload_n 1, 1) := by decide +kernel
theorem own_d4_16 : decode prog_5_method_2_code 16 = .ok (.bipush 8, 2) := by decide +kernel
theorem own_d4_18 : decode prog_5_method_2_code 18 = .ok (.iushr, 1) := by decide +kernel
theorem own_d4_19 : decode prog_5_method_2_code 19 = .ok (.aaload, 1) := by decide +kernel
theorem own_d4_20 : decode prog_5_method_2_code 20 = .ok (.astore_n 2, 1) := by decide +kernel
theorem own_d4_21 : decode prog_5_method_2_code 21 = .ok (.aload_n 2, 1) := by decide +kernel
theorem own_d4_22 : decode prog_5_method_2_code 22 = .ok (.ifnonnull 7, 3) := by decide +kernel
theorem own_d4_25 : decode prog_5_method_2_code 25 = .ok (.iconst 0, 1) := by decide +kernel
theorem own_d4_26 : decode prog_5_method_2_code 26 = .ok (.goto 10, 3) := by decide +kernel
theorem own_d4_29 : decode prog_5_method_2_code 29 = .ok (.aload_n 2, 1) := by decide +kernel
theorem own_d4_30 : decode prog_5_method_2_code 30 = .ok (.iload_n 1, 1) := by decide +kernel
theorem own_d4_31 : decode prog_5_method_2_code 31 = .ok (.sipush 255, 3) := by decide +kernel
theorem own_d4_34 : decode prog_5_method_2_code 34 = .ok (.iand, 1) := by decide +kernel
theorem own_d4_35 : decode prog_5_method_2_code 35 = .ok (.baload, 1) := by decide +kernel
theorem own_d4_36 : decode prog_5_method_2_code 36 = .ok (.istore_n 3, 1) := by decide +kernel
theorem own_d4_37 : decode prog_5_method_2_code 37 = .ok (.iload_n 3, 1) := by decide +kernel
theorem own_d4_38 : decode prog_5_method_2_code 38 = .ok (.ifCond .ne 7, 3) := by decide +kernel
theorem own_d4_41 : decode prog_5_method_2_code 41 = .ok (.aconst_null, 1) := by decide +kernel
theorem own_d4_42 : decode prog_5_method_2_code 42 = .ok (.goto 10, 3) := by decide +kernel
theorem own_d4_45 : decode prog_5_method_2_code 45 = .ok (.getstatic 21, 3) := by decide +kernel
theorem own_d4_48 : decode prog_5_method_2_code 48 = .ok (.iload_n 3, 1) := by decide +kernel
theorem own_d4_49 : decode prog_5_method_2_code 49 = .ok (.iconst 1, 1) := by decide +kernel
theorem own_d4_50 : decode prog_5_method_2_code 50 = .ok (.isub, 1) := by decide +kernel
theorem own_d4_51 : decode prog_5_method_2_code 51 = .ok (.aaload, 1) := by decide +kernel
theorem own_d4_52 : decode prog_5_method_2_code 52 = .ok (.areturn, 1) := by decide +kernel
set_option maxRecDepth 65536 in
set_option maxHeartbeats 40000000 in
theorem own_rmG (l : Launch) (Z : State) (a0 : Array Value) (hw : ∀ d ∈ tables_1, d.before a0 Z = true) (a1 : Addr) (x : Int32) (S : List Nat) (val : Nat → Int32) (held : Int32) (size : Int32) (aT : Addr) (kT : ClassId) (tys : List Addr) (h0 : Heap) (n0 : Nat) (Z0 : n0 ≤ h0.size) (M : own_St Z n0 h0 a1 S val held size) (i1 : 0 ≤ x.toInt) (i2 : x.toInt < 65536) (S_T : Sta Z h0 "com/example/utopic/utopic/broker/MessageIds" "TYPES" "[Lcom/example/utopic/utopic/codec/PacketType;" (.ref aT)) (V_T : Arv Z h0 aT kT (.object "com/example/utopic/utopic/codec/PacketType") 14 (tys.map Value.ref) .null) (hlen : tys.length = 14) (hv1 : 0 ≤ (val x.toNatClampNeg).toInt) (hv2 : (val x.toNatClampNeg).toInt ≤ 14) :
    own_Met l Z [] (⟨"com/example/utopic/utopic/broker/MessageIds", "get", "(I)Lcom/example/utopic/utopic/codec/PacketType;"⟩ : MethodName) prog_5_method_2_code 4 (some (.object "com/example/utopic/utopic/codec/PacketType")) ({ frames := 0, cells := 0, slots := 0, locals := 0 } : Room) #[(.ref a1), (.int x)] h0 (fun v h L => v = some (own_ty tys (val x.toNatClampNeg)) ∧ Fr n0 L ∧ h = h0) := by
  refine MetFree.of_bodySF (plainFor_of_name own_pn0) hisR ?_
  intro p e s m args below meth c s₁ Bd hml0 hP hK
  obtain ⟨rfl, hZ, hh⟩ := hP
  have hx := Bd.exec
  have hby := Bd.bytes
  have hml : c.maxLocals = 4 := hml0
  have hown : s.vm.findClass "com/example/utopic/utopic/broker/MessageIds" = some m.cls := findClass_of_methodNamed Bd.named
  have hnm := (name_of_methodNamed Bd.named Bd.method).1
  have hlk : meth.locks = false := Bd.notSynchronized
  have X0 : Stand p l e ({ frames := 0, cells := 0, slots := 0, locals := 0 } : Room) s m #[(.ref a1), (.int x)] below meth c s₁ [] 0 0 := Stand.of_body Bd
  have e0 : s₁.heap = h0 := by rw [← hh, Bd.state]; rfl
  have N0 := Fr.nil n0
  refine own_body (Q := fun v h L => v = some (own_ty tys (val x.toNatClampNeg)) ∧ Fr n0 L ∧ h = h0) ?_
  refine own_go (fun _ kont => castTop (own_ef m #[(.ref a1), (.int x)] 4 #[.val (.ref a1), .val (.int x), .unset, .unset] (own_al [(.ref a1), (.int x)] 4 [.val (.ref a1), .val (.int x), .unset, .unset] rfl)) kont) ?_
  show own_Go _ _ _ _ (s₁.setTop (mkF m 0 #[.val (.ref a1), .val (.int x), .unset, .unset] []))
  obtain ⟨pg0, pgn, pgl, sl0, sln, pgi⟩ := own_idx i1 i2
  have pg1 : (own_pg x).toNatClampNeg < 256 := by rw [pgn]; exact pgl
  have sl1 : (own_sl x).toNatClampNeg < 256 := by rw [sln]; omega
  have xl : x.toNatClampNeg < 65536 := by omega
  rcases M with ⟨⟨E1, F_pages, -⟩, -, hz, -⟩ | ⟨lp, f, M⟩
  · have _u := trivial
    have hv : val x.toNatClampNeg = 0 := hz _ xl
    refine own_go (fun _ kont => XS.aloadN X0.here hx rfl (hb hby own_d4_0) rfl rfl kont) ?_
    show own_Go _ _ _ _ (s₁.setTop (mkF m 1 #[.val (.ref a1), .val (.int x), .unset, .unset] [(.ref a1)]))
    obtain ⟨T1, X1, e1, st1⟩ := getF X0 hx hZ hown (host := "") (Or.inl (hw _ (List.mem_of_getElem? (i := 27) rfl))) Via.refl e0 F_pages (g := (mkF m 1 #[.val (.ref a1), .val (.int x), .unset, .unset] [(.ref a1)])) rfl rfl (hb hby own_d4_1)
    refine own_go st1 ?_
    show own_Go _ _ _ _ (T1.setTop (mkF m 4 #[.val (.ref a1), .val (.int x), .unset, .unset] [.null]))
    refine own_go (fun _ kont => XS.ifnonnullNo X1.here hx rfl (hb hby own_d4_4) rfl kont) ?_
    show own_Go _ _ _ _ (T1.setTop (mkF m 7 #[.val (.ref a1), .val (.int x), .unset, .unset] []))
    refine own_go (fun _ kont => XS.aconstNull X1.here hx rfl (hb hby own_d4_7) kont) ?_
    show own_Go _ _ _ _ (T1.setTop (mkF m 8 #[.val (.ref a1), .val (.int x), .unset, .unset] [.null]))
    refine own_go (fun _ kont => XS.goto X1.here hx rfl (pc0 := 8) (pc' := 20) rfl (hb hby own_d4_8) (by decide) (by decide) kont) ?_
    show own_Go _ _ _ _ (T1.setTop (mkF m 20 #[.val (.ref a1), .val (.int x), .unset, .unset] [.null]))
    refine own_go (fun _ kont => XS.astoreN X1.here hx rfl (hb hby own_d4_20) rfl rfl (l' := #[.val (.ref a1), .val (.int x), .val .null, .unset]) rfl kont) ?_
    show own_Go _ _ _ _ (T1.setTop (mkF m 21 #[.val (.ref a1), .val (.int x), .val .null, .unset] []))
    refine own_go (fun _ kont => XS.aloadN X1.here hx rfl (hb hby own_d4_21) rfl rfl kont) ?_
    show own_Go _ _ _ _ (T1.setTop (mkF m 22 #[.val (.ref a1), .val (.int x), .val .null, .unset] [.null]))
    refine own_go (fun _ kont => XS.ifnonnullNo X1.here hx rfl (hb hby own_d4_22) rfl kont) ?_
    show own_Go _ _ _ _ (T1.setTop (mkF m 25 #[.val (.ref a1), .val (.int x), .val .null, .unset] []))
    refine own_go (fun _ kont => XS.iconst X1.here hx rfl (hb hby own_d4_25) kont) ?_
    show own_Go _ _ _ _ (T1.setTop (mkF m 26 #[.val (.ref a1), .val (.int x), .val .null, .unset] [(.int (0 : Int32))]))
    refine own_go (fun _ kont => XS.goto X1.here hx rfl (pc0 := 26) (pc' := 36) rfl (hb hby own_d4_26) (by decide) (by decide) kont) ?_
    show own_Go _ _ _ _ (T1.setTop (mkF m 36 #[.val (.ref a1), .val (.int x), .val .null, .unset] [(.int (0 : Int32))]))
    refine own_go (fun _ kont => XS.istoreN X1.here hx rfl (hb hby own_d4_36) rfl (l' := #[.val (.ref a1), .val (.int x), .val .null, .val (.int (0 : Int32))]) rfl kont) ?_
    show own_Go _ _ _ _ (T1.setTop (mkF m 37 #[.val (.ref a1), .val (.int x), .val .null, .val (.int (0 : Int32))] []))
    refine own_go (fun _ kont => XS.iloadN X1.here hx rfl (hb hby own_d4_37) rfl kont) ?_
    show own_Go _ _ _ _ (T1.setTop (mkF m 38 #[.val (.ref a1), .val (.int x), .val .null, .val (.int (0 : Int32))] [(.int (0 : Int32))]))
    refine own_go (fun _ kont => XS.ifNo X1.here hx rfl (hb hby own_d4_38) rfl ((if0 _ _).trans (teq (by decide)).2) kont) ?_
    show own_Go _ _ _ _ (T1.setTop (mkF m 41 #[.val (.ref a1), .val (.int x), .val .null, .val (.int (0 : Int32))] []))
    refine own_go (fun _ kont => XS.aconstNull X1.here hx rfl (hb hby own_d4_41) kont) ?_
    show own_Go _ _ _ _ (T1.setTop (mkF m 42 #[.val (.ref a1), .val (.int x), .val .null, .val (.int (0 : Int32))] [.null]))
    refine own_go (fun _ kont => XS.goto X1.here hx rfl (pc0 := 42) (pc' := 52) rfl (hb hby own_d4_42) (by decide) (by decide) kont) ?_
    show own_Go _ _ _ _ (T1.setTop (mkF m 52 #[.val (.ref a1), .val (.int x), .val .null, .val (.int (0 : Int32))] [.null]))
    refine own_ret X1 hlk (v := some .null) (fun h => by rw [Bd.returns] at h; cases h) (fun fs hr => retOut X1 hx Bd.returns rfl (Or.inr (Or.inr (Or.inr (Or.inr ⟨rfl, rfl, rfl⟩)))) (hb hby own_d4_52) hr) ?_ (by decide) (by decide)
    try rw [e1]
    exact ⟨by unfold own_ty; rw [if_pos hv], N0, rfl⟩
  · have _u := trivial
    obtain ⟨P, K, kP, kK, E1, F_pages, F_taken, F_lastPage, F_pagesHeld, F_size, ge_P, ge_K, nePK, nePm, neKm, G_P, OvP, G_K, PG, IV, lp1, lp2⟩ := M
    refine own_go (fun _ kont => XS.aloadN X0.here hx rfl (hb hby own_d4_0) rfl rfl kont) ?_
    show own_Go _ _ _ _ (s₁.setTop (mkF m 1 #[.val (.ref a1), .val (.int x), .unset, .unset] [(.ref a1)]))
    obtain ⟨T2, X2, e2, st2⟩ := getF X0 hx hZ hown (host := "") (Or.inl (hw _ (List.mem_of_getElem? (i := 27) rfl))) Via.refl e0 F_pages (g := (mkF m 1 #[.val (.ref a1), .val (.int x), .unset, .unset] [(.ref a1)])) rfl rfl (hb hby own_d4_1)
    refine own_go st2 ?_
    show own_Go _ _ _ _ (T2.setTop (mkF m 4 #[.val (.ref a1), .val (.int x), .unset, .unset] [(.ref P)]))
    refine own_go (fun _ kont => XS.ifnonnullYes X2.here hx rfl (pc0 := 4) (pc' := 11) rfl (hb hby own_d4_4) rfl (by decide) (by decide) kont) ?_
    show own_Go _ _ _ _ (T2.setTop (mkF m 11 #[.val (.ref a1), .val (.int x), .unset, .unset] []))
    refine own_go (fun _ kont => XS.aloadN X2.here hx rfl (hb hby own_d4_11) rfl rfl kont) ?_
    show own_Go _ _ _ _ (T2.setTop (mkF m 12 #[.val (.ref a1), .val (.int x), .unset, .unset] [(.ref a1)]))
    obtain ⟨T3, X3, e3, st3⟩ := getF X2 hx hZ hown (host := "") (Or.inl (hw _ (List.mem_of_getElem? (i := 27) rfl))) Via.refl e2 F_pages (g := (mkF m 12 #[.val (.ref a1), .val (.int x), .unset, .unset] [(.ref a1)])) rfl rfl (hb hby own_d4_12)
    refine own_go st3 ?_
    show own_Go _ _ _ _ (T3.setTop (mkF m 15 #[.val (.ref a1), .val (.int x), .unset, .unset] [(.ref P)]))
    refine own_go (fun _ kont => XS.iloadN X3.here hx rfl (hb hby own_d4_15) rfl kont) ?_
    show own_Go _ _ _ _ (T3.setTop (mkF m 16 #[.val (.ref a1), .val (.int x), .unset, .unset] [(.int x), (.ref P)]))
    refine own_go (fun _ kont => XS.bipush X3.here hx rfl (hb hby own_d4_16) kont) ?_
    show own_Go _ _ _ _ (T3.setTop (mkF m 18 #[.val (.ref a1), .val (.int x), .unset, .unset] [(.int (8 : Int32)), (.int x), (.ref P)]))
    refine own_go (fun _ kont => XS.iushr X3.here hx rfl (hb hby own_d4_18) rfl kont) ?_
    show own_Go _ _ _ _ (T3.setTop (mkF m 19 #[.val (.ref a1), .val (.int x), .unset, .unset] [(.int (own_pg x)), (.ref P)]))
    rcases PG (x.toNatClampNeg / 256) pgl with hf | ⟨A, kA, hf, geA, neAP, neAK, neAm, GA⟩
    · have _u := trivial
      have hv : val x.toNatClampNeg = 0 := by have := IV.1 _ pgl hf (x.toNatClampNeg % 256) (by omega); rw [own_x] at this; exact this
      obtain ⟨cl4, Ar4, q4, Sz4, Hs4⟩ := id G_P
      have hin4 := own_in Sz4 pg0 pg1
      have hat4 : cl4.slots[((own_pg x)).toNatClampNeg]? = some .null := (Hs4 _ pg1).trans (congrArg some (by rw [pgn]; exact hf))
      refine own_go (X3.aaload hx (j := (own_pg x)) (v := .null) (own_hp e3 Ar4.1) (State.isArrayOf_alike hZ.alike Ar4.2.1) rfl Ar4.2.2 hin4 hat4 (g := (mkF m 19 #[.val (.ref a1), .val (.int x), .unset, .unset] [(.int (own_pg x)), (.ref P)])) rfl rfl (hb hby own_d4_19)) ?_
      show own_Go _ _ _ _ (T3.setTop (mkF m 20 #[.val (.ref a1), .val (.int x), .unset, .unset] [.null]))
      refine own_go (fun _ kont => XS.astoreN X3.here hx rfl (hb hby own_d4_20) rfl rfl (l' := #[.val (.ref a1), .val (.int x), .val .null, .unset]) rfl kont) ?_
      show own_Go _ _ _ _ (T3.setTop (mkF m 21 #[.val (.ref a1), .val (.int x), .val .null, .unset] []))
      refine own_go (fun _ kont => XS.aloadN X3.here hx rfl (hb hby own_d4_21) rfl rfl kont) ?_
      show own_Go _ _ _ _ (T3.setTop (mkF m 22 #[.val (.ref a1), .val (.int x), .val .null, .unset] [.null]))
      refine own_go (fun _ kont => XS.ifnonnullNo X3.here hx rfl (hb hby own_d4_22) rfl kont) ?_
      show own_Go _ _ _ _ (T3.setTop (mkF m 25 #[.val (.ref a1), .val (.int x), .val .null, .unset] []))
      refine own_go (fun _ kont => XS.iconst X3.here hx rfl (hb hby own_d4_25) kont) ?_
      show own_Go _ _ _ _ (T3.setTop (mkF m 26 #[.val (.ref a1), .val (.int x), .val .null, .unset] [(.int (0 : Int32))]))
      refine own_go (fun _ kont => XS.goto X3.here hx rfl (pc0 := 26) (pc' := 36) rfl (hb hby own_d4_26) (by decide) (by decide) kont) ?_
      show own_Go _ _ _ _ (T3.setTop (mkF m 36 #[.val (.ref a1), .val (.int x), .val .null, .unset] [(.int (0 : Int32))]))
      refine own_go (fun _ kont => XS.istoreN X3.here hx rfl (hb hby own_d4_36) rfl (l' := #[.val (.ref a1), .val (.int x), .val .null, .val (.int (0 : Int32))]) rfl kont) ?_
      show own_Go _ _ _ _ (T3.setTop (mkF m 37 #[.val (.ref a1), .val (.int x), .val .null, .val (.int (0 : Int32))] []))
      refine own_go (fun _ kont => XS.iloadN X3.here hx rfl (hb hby own_d4_37) rfl kont) ?_
      show own_Go _ _ _ _ (T3.setTop (mkF m 38 #[.val (.ref a1), .val (.int x), .val .null, .val (.int (0 : Int32))] [(.int (0 : Int32))]))
      refine own_go (fun _ kont => XS.ifNo X3.here hx rfl (hb hby own_d4_38) rfl ((if0 _ _).trans (teq (by decide)).2) kont) ?_
      show own_Go _ _ _ _ (T3.setTop (mkF m 41 #[.val (.ref a1), .val (.int x), .val .null, .val (.int (0 : Int32))] []))
      refine own_go (fun _ kont => XS.aconstNull X3.here hx rfl (hb hby own_d4_41) kont) ?_
      show own_Go _ _ _ _ (T3.setTop (mkF m 42 #[.val (.ref a1), .val (.int x), .val .null, .val (.int (0 : Int32))] [.null]))
      refine own_go (fun _ kont => XS.goto X3.here hx rfl (pc0 := 42) (pc' := 52) rfl (hb hby own_d4_42) (by decide) (by decide) kont) ?_
      show own_Go _ _ _ _ (T3.setTop (mkF m 52 #[.val (.ref a1), .val (.int x), .val .null, .val (.int (0 : Int32))] [.null]))
      refine own_ret X3 hlk (v := some .null) (fun h => by rw [Bd.returns] at h; cases h) (fun fs hr => retOut X3 hx Bd.returns rfl (Or.inr (Or.inr (Or.inr (Or.inr ⟨rfl, rfl, rfl⟩)))) (hb hby own_d4_52) hr) ?_ (by decide) (by decide)
      try rw [e3]
      exact ⟨by unfold own_ty; rw [if_pos hv], N0, rfl⟩
    · have _u := trivial
      obtain ⟨cl5, Ar5, q5, Sz5, Hs5⟩ := id G_P
      have hin5 := own_in Sz5 pg0 pg1
      have hat5 : cl5.slots[((own_pg x)).toNatClampNeg]? = some (.ref A) := (Hs5 _ pg1).trans (congrArg some (by rw [pgn]; exact hf))
      refine own_go (X3.aaload hx (j := (own_pg x)) (v := (.ref A)) (own_hp e3 Ar5.1) (State.isArrayOf_alike hZ.alike Ar5.2.1) rfl Ar5.2.2 hin5 hat5 (g := (mkF m 19 #[.val (.ref a1), .val (.int x), .unset, .unset] [(.int (own_pg x)), (.ref P)])) rfl rfl (hb hby own_d4_19)) ?_
      show own_Go _ _ _ _ (T3.setTop (mkF m 20 #[.val (.ref a1), .val (.int x), .unset, .unset] [(.ref A)]))
      refine own_go (fun _ kont => XS.astoreN X3.here hx rfl (hb hby own_d4_20) rfl rfl (l' := #[.val (.ref a1), .val (.int x), .val (.ref A), .unset]) rfl kont) ?_
      show own_Go _ _ _ _ (T3.setTop (mkF m 21 #[.val (.ref a1), .val (.int x), .val (.ref A), .unset] []))
      refine own_go (fun _ kont => XS.aloadN X3.here hx rfl (hb hby own_d4_21) rfl rfl kont) ?_
      show own_Go _ _ _ _ (T3.setTop (mkF m 22 #[.val (.ref a1), .val (.int x), .val (.ref A), .unset] [(.ref A)]))
      refine own_go (fun _ kont => XS.ifnonnullYes X3.here hx rfl (pc0 := 22) (pc' := 29) rfl (hb hby own_d4_22) rfl (by decide) (by decide) kont) ?_
      show own_Go _ _ _ _ (T3.setTop (mkF m 29 #[.val (.ref a1), .val (.int x), .val (.ref A), .unset] []))
      refine own_go (fun _ kont => XS.aloadN X3.here hx rfl (hb hby own_d4_29) rfl rfl kont) ?_
      show own_Go _ _ _ _ (T3.setTop (mkF m 30 #[.val (.ref a1), .val (.int x), .val (.ref A), .unset] [(.ref A)]))
      refine own_go (fun _ kont => XS.iloadN X3.here hx rfl (hb hby own_d4_30) rfl kont) ?_
      show own_Go _ _ _ _ (T3.setTop (mkF m 31 #[.val (.ref a1), .val (.int x), .val (.ref A), .unset] [(.int x), (.ref A)]))
      refine own_go (fun _ kont => XS.sipush X3.here hx rfl (hb hby own_d4_31) kont) ?_
      show own_Go _ _ _ _ (T3.setTop (mkF m 34 #[.val (.ref a1), .val (.int x), .val (.ref A), .unset] [(.int (255 : Int32)), (.int x), (.ref A)]))
      refine own_go (fun _ kont => XS.iand X3.here hx rfl (hb hby own_d4_34) rfl kont) ?_
      show own_Go _ _ _ _ (T3.setTop (mkF m 35 #[.val (.ref a1), .val (.int x), .val (.ref A), .unset] [(.int (own_sl x)), (.ref A)]))
      obtain ⟨cl6, Ar6, q6, Sz6, Hs6⟩ := id GA
      have hin6 := own_in Sz6 sl0 sl1
      have hat6 : cl6.slots[((own_sl x)).toNatClampNeg]? = some (.int (val x.toNatClampNeg)) := (Hs6 _ sl1).trans (congrArg some (by show Value.int _ = _; rw [sln, own_x]))
      refine own_go (X3.baloadBytes hx (j := (own_sl x)) (v := (.int (val x.toNatClampNeg))) (own_hp e3 Ar6.1) (State.isArrayOf_alike hZ.alike Ar6.2.1) Ar6.2.2 hin6 hat6 (g := (mkF m 35 #[.val (.ref a1), .val (.int x), .val (.ref A), .unset] [(.int (own_sl x)), (.ref A)])) rfl rfl (hb hby own_d4_35)) ?_
      show own_Go _ _ _ _ (T3.setTop (mkF m 36 #[.val (.ref a1), .val (.int x), .val (.ref A), .unset] [(.int (val x.toNatClampNeg))]))
      refine own_go (fun _ kont => XS.istoreN X3.here hx rfl (hb hby own_d4_36) rfl (l' := #[.val (.ref a1), .val (.int x), .val (.ref A), .val (.int (val x.toNatClampNeg))]) rfl kont) ?_
      show own_Go _ _ _ _ (T3.setTop (mkF m 37 #[.val (.ref a1), .val (.int x), .val (.ref A), .val (.int (val x.toNatClampNeg))] []))
      refine own_go (fun _ kont => XS.iloadN X3.here hx rfl (hb hby own_d4_37) rfl kont) ?_
      show own_Go _ _ _ _ (T3.setTop (mkF m 38 #[.val (.ref a1), .val (.int x), .val (.ref A), .val (.int (val x.toNatClampNeg))] [(.int (val x.toNatClampNeg))]))
      by_cases hv : (val x.toNatClampNeg) = (0 : Int32)
      · have _h := hv
        refine own_go (fun _ kont => XS.ifNo X3.here hx rfl (hb hby own_d4_38) rfl ((if0 _ _).trans (teq hv).2) kont) ?_
        show own_Go _ _ _ _ (T3.setTop (mkF m 41 #[.val (.ref a1), .val (.int x), .val (.ref A), .val (.int (val x.toNatClampNeg))] []))
        refine own_go (fun _ kont => XS.aconstNull X3.here hx rfl (hb hby own_d4_41) kont) ?_
        show own_Go _ _ _ _ (T3.setTop (mkF m 42 #[.val (.ref a1), .val (.int x), .val (.ref A), .val (.int (val x.toNatClampNeg))] [.null]))
        refine own_go (fun _ kont => XS.goto X3.here hx rfl (pc0 := 42) (pc' := 52) rfl (hb hby own_d4_42) (by decide) (by decide) kont) ?_
        show own_Go _ _ _ _ (T3.setTop (mkF m 52 #[.val (.ref a1), .val (.int x), .val (.ref A), .val (.int (val x.toNatClampNeg))] [.null]))
        refine own_ret X3 hlk (v := some .null) (fun h => by rw [Bd.returns] at h; cases h) (fun fs hr => retOut X3 hx Bd.returns rfl (Or.inr (Or.inr (Or.inr (Or.inr ⟨rfl, rfl, rfl⟩)))) (hb hby own_d4_52) hr) ?_ (by decide) (by decide)
        try rw [e3]
        exact ⟨by unfold own_ty; rw [if_pos hv], N0, rfl⟩
      · have _h := hv
        refine own_go (fun _ kont => XS.ifYes X3.here hx rfl (pc0 := 38) (pc' := 45) rfl (hb hby own_d4_38) rfl ((if0 _ _).trans (feq hv).2) (by decide) (by decide) kont) ?_
        show own_Go _ _ _ _ (T3.setTop (mkF m 45 #[.val (.ref a1), .val (.int x), .val (.ref A), .val (.int (val x.toNatClampNeg))] []))
        obtain ⟨T7, X7, e7, st7⟩ := getS2 X3 hx hZ hown (host := "") (Or.inl (hw _ (List.mem_of_getElem? (i := 58) rfl))) Via.refl e3 S_T (g := (mkF m 45 #[.val (.ref a1), .val (.int x), .val (.ref A), .val (.int (val x.toNatClampNeg))] [])) rfl (hb hby own_d4_45)
        refine own_go st7 ?_
        show own_Go _ _ _ _ (T7.setTop (mkF m 48 #[.val (.ref a1), .val (.int x), .val (.ref A), .val (.int (val x.toNatClampNeg))] [(.ref aT)]))
        refine own_go (fun _ kont => XS.iloadN X7.here hx rfl (hb hby own_d4_48) rfl kont) ?_
        show own_Go _ _ _ _ (T7.setTop (mkF m 49 #[.val (.ref a1), .val (.int x), .val (.ref A), .val (.int (val x.toNatClampNeg))] [(.int (val x.toNatClampNeg)), (.ref aT)]))
        refine own_go (fun _ kont => XS.iconst X7.here hx rfl (hb hby own_d4_49) kont) ?_
        show own_Go _ _ _ _ (T7.setTop (mkF m 50 #[.val (.ref a1), .val (.int x), .val (.ref A), .val (.int (val x.toNatClampNeg))] [(.int (1 : Int32)), (.int (val x.toNatClampNeg)), (.ref aT)]))
        refine own_go (fun _ kont => XS.isub X7.here hx rfl (hb hby own_d4_50) rfl kont) ?_
        show own_Go _ _ _ _ (T7.setTop (mkF m 51 #[.val (.ref a1), .val (.int x), .val (.ref A), .val (.int (val x.toNatClampNeg))] [(.int ((val x.toNatClampNeg) - (1 : Int32))), (.ref aT)]))
        obtain ⟨cl8, Ar8, q8, Sz8, Ng8, Hs8, Gs8⟩ := id V_T
        have hin8 : ¬ (((val x.toNatClampNeg) - (1 : Int32)) < 0 ∨ cl8.slots.size ≤ (((val x.toNatClampNeg) - (1 : Int32))).toNatClampNeg) := inb_of Sz8 ⟨(own_tyi hv hv1 hv2).1, (own_tyi hv hv1 hv2).2.1⟩
        have hat8 : cl8.slots[(((val x.toNatClampNeg) - (1 : Int32))).toNatClampNeg]? = some (.ref (tys.getD (val x.toNatClampNeg - (1 : Int32)).toNatClampNeg 0)) := Hs8.at hin8 (own_tyg hlen (own_tyi hv hv1 hv2).2.2)
        refine own_go (X7.aaload hx (j := ((val x.toNatClampNeg) - (1 : Int32))) (v := (.ref (tys.getD (val x.toNatClampNeg - (1 : Int32)).toNatClampNeg 0))) (own_hp e7 Ar8.1) (State.isArrayOf_alike hZ.alike Ar8.2.1) rfl Ar8.2.2 hin8 hat8 (g := (mkF m 51 #[.val (.ref a1), .val (.int x), .val (.ref A), .val (.int (val x.toNatClampNeg))] [(.int ((val x.toNatClampNeg) - (1 : Int32))), (.ref aT)])) rfl rfl (hb hby own_d4_51)) ?_
        show own_Go _ _ _ _ (T7.setTop (mkF m 52 #[.val (.ref a1), .val (.int x), .val (.ref A), .val (.int (val x.toNatClampNeg))] [(.ref (tys.getD (val x.toNatClampNeg - (1 : Int32)).toNatClampNeg 0))]))
        refine own_ret X7 hlk (v := some (.ref (tys.getD (val x.toNatClampNeg - (1 : Int32)).toNatClampNeg 0))) (fun h => by rw [Bd.returns] at h; cases h) (fun fs hr => retOut X7 hx Bd.returns rfl (Or.inr (Or.inr (Or.inr (Or.inr ⟨rfl, rfl, rfl⟩)))) (hb hby own_d4_52) hr) ?_ (by decide) (by decide)
        try rw [e7]
        exact ⟨by unfold own_ty; rw [if_neg hv], N0, rfl⟩
theorem own_d6_0 : decode prog_5_method_8_code 0 = .ok (.iload_n 1, 1) := by decide +kernel
theorem own_d6_1 : decode prog_5_method_8_code 1 = .ok (.ifCond .lt 46, 3) := by decide +kernel
theorem own_d6_4 : decode prog_5_method_8_code 4 = .ok (.iload_n 1, 1) := by decide +kernel
theorem own_d6_5 : decode prog_5_method_8_code 5 = .ok (.aload_n 0, 1) := by decide +kernel
theorem own_d6_6 : decode prog_5_method_8_code 6 = .ok (.getfield 13, 3) := by decide +kernel
theorem own_d6_9 : decode prog_5_method_8_code 9 = .ok (.if_icmp .eq 38, 3) := by decide +kernel
theorem own_d6_12 : decode prog_5_method_8_code 12 = .ok (.aload_n 0, 1) := by decide +kernel
theorem own_d6_13 : decode prog_5_method_8_code 13 = .ok (.getfield 17, 3) := by decide +kernel
theorem own_d6_16 : decode prog_5_method_8_code 16 = .ok (.iload_n 1, 1) := by decide +kernel
theorem own_d6_17 : decode prog_5_method_8_code 17 = .ok (.aaload, 1) := by decide +kernel
theorem own_d6_18 : decode prog_5_method_8_code 18 = .ok (.ifnull 29, 3) := by decide +kernel
theorem own_d6_21 : decode prog_5_method_8_code 21 = .ok (.aload_n 0, 1) := by decide +kernel
theorem own_d6_22 : decode prog_5_method_8_code 22 = .ok (.getfield 27, 3) := by decide +kernel
theorem own_d6_25 : decode prog_5_method_8_code 25 = .ok (.iload_n 1, 1) := by decide +kernel
theorem own_d6_26 : decode prog_5_method_8_code 26 = .ok (.caload, 1) := by decide +kernel
theorem own_d6_27 : decode prog_5_method_8_code 27 = .ok (.ifCond .ne 20, 3) := by decide +kernel
theorem own_d6_30 : decode prog_5_method_8_code 30 = .ok (.aload_n 0, 1) := by decide +kernel
theorem own_d6_31 : decode prog_5_method_8_code 31 = .ok (.getfield 17, 3) := by decide +kernel
theorem own_d6_34 : decode prog_5_method_8_code 34 = .ok (.iload_n 1, 1) := by decide +kernel
theorem own_d6_35 : decode prog_5_method_8_code 35 = .ok (.aconst_null, 1) := by decide +kernel
theorem own_d6_36 : decode prog_5_method_8_code 36 = .ok (.aastore, 1) := by decide +kernel
theorem own_d6_37 : decode prog_5_method_8_code 37 = .ok (.aload_n 0, 1) := by decide +kernel
theorem own_d6_38 : decode prog_5_method_8_code 38 = .ok (.dup, 1) := by decide +kernel
theorem own_d6_39 : decode prog_5_method_8_code 39 = .ok (.getfield 35, 3) := by decide +kernel
theorem own_d6_42 : decode prog_5_method_8_code 42 = .ok (.iconst 1, 1) := by decide +kernel
theorem own_d6_43 : decode prog_5_method_8_code 43 = .ok (.isub, 1) := by decide +kernel
theorem own_d6_44 : decode prog_5_method_8_code 44 = .ok (.putfield 35, 3) := by decide +kernel
theorem own_d6_47 : decode prog_5_method_8_code 47 = .ok (.return_, 1) := by decide +kernel
set_option maxRecDepth 65536 in
set_option maxHeartbeats 40000000 in
theorem own_rmDn (l : Launch) (Z : State) (a0 : Array Value) (hw : ∀ d ∈ tables_1, d.before a0 Z = true) (a1 : Addr) (h0 : Heap) (n0 : Nat) (Z0 : n0 ≤ h0.size)  :
    own_Met l Z [] (⟨"com/example/utopic/utopic/broker/MessageIds", "dropIfEmpty", "(I)V"⟩ : MethodName) prog_5_method_8_code 2 none ({ frames := 0, cells := 0, slots := 0, locals := 0 } : Room) #[(.ref a1), (.int (-1 : Int32))] h0 (fun v h L => v = none ∧ Fr n0 L ∧ h = h0) := by
  refine MetFree.of_bodySF (plainFor_of_name own_pn0) hisR ?_
  intro p e s m args below meth c s₁ Bd hml0 hP hK
  obtain ⟨rfl, hZ, hh⟩ := hP
  have hx := Bd.exec
  have hby := Bd.bytes
  have hml : c.maxLocals = 2 := hml0
  have hown : s.vm.findClass "com/example/utopic/utopic/broker/MessageIds" = some m.cls := findClass_of_methodNamed Bd.named
  have hnm := (name_of_methodNamed Bd.named Bd.method).1
  have hlk : meth.locks = false := Bd.notSynchronized
  have X0 : Stand p l e ({ frames := 0, cells := 0, slots := 0, locals := 0 } : Room) s m #[(.ref a1), (.int (-1 : Int32))] below meth c s₁ [] 0 0 := Stand.of_body Bd
  have e0 : s₁.heap = h0 := by rw [← hh, Bd.state]; rfl
  have N0 := Fr.nil n0
  refine own_body (Q := fun v h L => v = none ∧ Fr n0 L ∧ h = h0) ?_
  refine own_go (fun _ kont => castTop (own_ef m #[(.ref a1), (.int (-1 : Int32))] 2 #[.val (.ref a1), .val (.int (-1 : Int32))] (own_al [(.ref a1), (.int (-1 : Int32))] 2 [.val (.ref a1), .val (.int (-1 : Int32))] rfl)) kont) ?_
  show own_Go _ _ _ _ (s₁.setTop (mkF m 0 #[.val (.ref a1), .val (.int (-1 : Int32))] []))
  refine own_go (fun _ kont => XS.iloadN X0.here hx rfl (hb hby own_d6_0) rfl kont) ?_
  show own_Go _ _ _ _ (s₁.setTop (mkF m 1 #[.val (.ref a1), .val (.int (-1 : Int32))] [(.int (-1 : Int32))]))
  refine own_go (fun _ kont => XS.ifYes X0.here hx rfl (pc0 := 1) (pc' := 47) rfl (hb hby own_d6_1) rfl ((if0 _ _).trans (tlt (by decide)).1) (by decide) (by decide) kont) ?_
  show own_Go _ _ _ _ (s₁.setTop (mkF m 47 #[.val (.ref a1), .val (.int (-1 : Int32))] []))
  refine own_ret X0 hlk (v := none) (fun _ => rfl) (fun fs hr => X0.returnOut hx Bd.returns (hb hby own_d6_47) hr) ?_ (by decide) (by decide)
  try rw [e0]
  exact ⟨rfl, N0, rfl⟩
set_option maxRecDepth 65536 in
set_option maxHeartbeats 40000000 in
theorem own_rmD (l : Launch) (Z : State) (a0 : Array Value) (hw : ∀ d ∈ tables_1, d.before a0 Z = true) (a1 : Addr) (i : Int32) (S : List Nat) (val : Nat → Int32) (held : Int32) (size : Int32) (lp : Int32) (f : Nat → Value) (h0 : Heap) (n0 : Nat) (Z0 : n0 ≤ h0.size) (M : own_Map Z n0 h0 a1 S val held size lp f) (ge_a1 : n0 ≤ a1) (i1 : -1 ≤ i.toInt) (i2 : i.toInt < 256) (O : Old Z n0 h0) :
    own_Met l Z [] (⟨"com/example/utopic/utopic/broker/MessageIds", "dropIfEmpty", "(I)V"⟩ : MethodName) prog_5_method_8_code 2 none ({ frames := 0, cells := 0, slots := 0, locals := 0 } : Room) #[(.ref a1), (.int i)] h0 (fun v h L => ∃ held' f', v = none ∧ Fr n0 L ∧ Old Z n0 h ∧ h0.size ≤ h.size ∧ own_Map Z n0 h a1 S val held' size lp f') := by
  refine MetFree.of_bodySF (plainFor_of_name own_pn0) hisR ?_
  intro p e s m args below meth c s₁ Bd hml0 hP hK
  obtain ⟨rfl, hZ, hh⟩ := hP
  have hx := Bd.exec
  have hby := Bd.bytes
  have hml : c.maxLocals = 2 := hml0
  have hown : s.vm.findClass "com/example/utopic/utopic/broker/MessageIds" = some m.cls := findClass_of_methodNamed Bd.named
  have hnm := (name_of_methodNamed Bd.named Bd.method).1
  have hlk : meth.locks = false := Bd.notSynchronized
  have X0 : Stand p l e ({ frames := 0, cells := 0, slots := 0, locals := 0 } : Room) s m #[(.ref a1), (.int i)] below meth c s₁ [] 0 0 := Stand.of_body Bd
  have e0 : s₁.heap = h0 := by rw [← hh, Bd.state]; rfl
  have N0 := Fr.nil n0
  refine own_body (Q := fun v h L => ∃ held' f', v = none ∧ Fr n0 L ∧ Old Z n0 h ∧ h0.size ≤ h.size ∧ own_Map Z n0 h a1 S val held' size lp f') ?_
  refine own_go (fun _ kont => castTop (own_ef m #[(.ref a1), (.int i)] 2 #[.val (.ref a1), .val (.int i)] (own_al [(.ref a1), (.int i)] 2 [.val (.ref a1), .val (.int i)] rfl)) kont) ?_
  show own_Go _ _ _ _ (s₁.setTop (mkF m 0 #[.val (.ref a1), .val (.int i)] []))
  have hs0 : h0.size ≤ h0.size := Nat.le_refl _
  have M0 := M
  obtain ⟨P, K, kP, kK, E1, F_pages, F_taken, F_lastPage, F_pagesHeld, F_size, ge_P, ge_K, nePK, nePm, neKm, G_P, OvP, G_K, PG, IV, lp1, lp2⟩ := M
  refine own_go (fun _ kont => XS.iloadN X0.here hx rfl (hb hby own_d6_0) rfl kont) ?_
  show own_Go _ _ _ _ (s₁.setTop (mkF m 1 #[.val (.ref a1), .val (.int i)] [(.int i)]))
  by_cases hi : i < (0 : Int32)
  · have _h := hi
    refine own_go (fun _ kont => XS.ifYes X0.here hx rfl (pc0 := 1) (pc' := 47) rfl (hb hby own_d6_1) rfl ((if0 _ _).trans (tlt hi).1) (by decide) (by decide) kont) ?_
    show own_Go _ _ _ _ (s₁.setTop (mkF m 47 #[.val (.ref a1), .val (.int i)] []))
    refine own_ret X0 hlk (v := none) (fun _ => rfl) (fun fs hr => X0.returnOut hx Bd.returns (hb hby own_d6_47) hr) ?_ (by decide) (by decide)
    try rw [e0]
    exact ⟨_, _, rfl, N0, O, Nat.le_refl _, M0⟩
  · have _h := hi
    refine own_go (fun _ kont => XS.ifNo X0.here hx rfl (hb hby own_d6_1) rfl ((if0 _ _).trans (flt hi).1) kont) ?_
    show own_Go _ _ _ _ (s₁.setTop (mkF m 4 #[.val (.ref a1), .val (.int i)] []))
    have in1 : i.toNatClampNeg < 256 := by have e0 : (0 : Int32).toInt = 0 := rfl; rw [Int32.lt_iff_toInt_lt, e0] at hi; simp only [Int32.toNatClampNeg]; omega
    refine own_go (fun _ kont => XS.iloadN X0.here hx rfl (hb hby own_d6_4) rfl kont) ?_
    show own_Go _ _ _ _ (s₁.setTop (mkF m 5 #[.val (.ref a1), .val (.int i)] [(.int i)]))
    refine own_go (fun _ kont => XS.aloadN X0.here hx rfl (hb hby own_d6_5) rfl rfl kont) ?_
    show own_Go _ _ _ _ (s₁.setTop (mkF m 6 #[.val (.ref a1), .val (.int i)] [(.ref a1), (.int i)]))
    obtain ⟨T1, X1, e1, st1⟩ := getF X0 hx hZ hown (host := "") (Or.inl (hw _ (List.mem_of_getElem? (i := 20) rfl))) Via.refl e0 F_lastPage (g := (mkF m 6 #[.val (.ref a1), .val (.int i)] [(.ref a1), (.int i)])) rfl rfl (hb hby own_d6_6)
    refine own_go st1 ?_
    show own_Go _ _ _ _ (T1.setTop (mkF m 9 #[.val (.ref a1), .val (.int i)] [(.int lp), (.int i)]))
    by_cases hl : i = lp
    · have _h := hl
      refine own_go (fun _ kont => XS.icmpYes X1.here hx rfl (pc0 := 9) (pc' := 47) rfl (hb hby own_d6_9) rfl (teq hl).1 (by decide) (by decide) kont) ?_
      show own_Go _ _ _ _ (T1.setTop (mkF m 47 #[.val (.ref a1), .val (.int i)] []))
      refine own_ret X1 hlk (v := none) (fun _ => rfl) (fun fs hr => X1.returnOut hx Bd.returns (hb hby own_d6_47) hr) ?_ (by decide) (by decide)
      try rw [e1]
      exact ⟨_, _, rfl, N0, O, Nat.le_refl _, M0⟩
    · have _h := hl
      refine own_go (fun _ kont => XS.icmpNo X1.here hx rfl (hb hby own_d6_9) rfl (feq hl).1 kont) ?_
      show own_Go _ _ _ _ (T1.setTop (mkF m 12 #[.val (.ref a1), .val (.int i)] []))
      refine own_go (fun _ kont => XS.aloadN X1.here hx rfl (hb hby own_d6_12) rfl rfl kont) ?_
      show own_Go _ _ _ _ (T1.setTop (mkF m 13 #[.val (.ref a1), .val (.int i)] [(.ref a1)]))
      obtain ⟨T2, X2, e2, st2⟩ := getF X1 hx hZ hown (host := "") (Or.inl (hw _ (List.mem_of_getElem? (i := 27) rfl))) Via.refl e1 F_pages (g := (mkF m 13 #[.val (.ref a1), .val (.int i)] [(.ref a1)])) rfl rfl (hb hby own_d6_13)
      refine own_go st2 ?_
      show own_Go _ _ _ _ (T2.setTop (mkF m 16 #[.val (.ref a1), .val (.int i)] [(.ref P)]))
      refine own_go (fun _ kont => XS.iloadN X2.here hx rfl (hb hby own_d6_16) rfl kont) ?_
      show own_Go _ _ _ _ (T2.setTop (mkF m 17 #[.val (.ref a1), .val (.int i)] [(.int i), (.ref P)]))
      rcases PG i.toNatClampNeg in1 with hf | ⟨A, kA, hf, geA, neAP, neAK, neAm, GA⟩
      · have _u := trivial
        obtain ⟨cl3, Ar3, q3, Sz3, Hs3⟩ := id G_P
        have hin3 := own_in Sz3 hi in1
        have hat3 : cl3.slots[(i).toNatClampNeg]? = some .null := (Hs3 _ in1).trans (congrArg some hf)
        refine own_go (X2.aaload hx (j := i) (v := .null) (own_hp e2 Ar3.1) (State.isArrayOf_alike hZ.alike Ar3.2.1) rfl Ar3.2.2 hin3 hat3 (g := (mkF m 17 #[.val (.ref a1), .val (.int i)] [(.int i), (.ref P)])) rfl rfl (hb hby own_d6_17)) ?_
        show own_Go _ _ _ _ (T2.setTop (mkF m 18 #[.val (.ref a1), .val (.int i)] [.null]))
        refine own_go (fun _ kont => XS.ifnullYes X2.here hx rfl (pc0 := 18) (pc' := 47) rfl (hb hby own_d6_18) rfl (by decide) (by decide) kont) ?_
        show own_Go _ _ _ _ (T2.setTop (mkF m 47 #[.val (.ref a1), .val (.int i)] []))
        refine own_ret X2 hlk (v := none) (fun _ => rfl) (fun fs hr => X2.returnOut hx Bd.returns (hb hby own_d6_47) hr) ?_ (by decide) (by decide)
        try rw [e2]
        exact ⟨_, _, rfl, N0, O, Nat.le_refl _, M0⟩
      · have _u := trivial
        obtain ⟨cl4, Ar4, q4, Sz4, Hs4⟩ := id G_P
        have hin4 := own_in Sz4 hi in1
        have hat4 : cl4.slots[(i).toNatClampNeg]? = some (.ref A) := (Hs4 _ in1).trans (congrArg some hf)
        refine own_go (X2.aaload hx (j := i) (v := (.ref A)) (own_hp e2 Ar4.1) (State.isArrayOf_alike hZ.alike Ar4.2.1) rfl Ar4.2.2 hin4 hat4 (g := (mkF m 17 #[.val (.ref a1), .val (.int i)] [(.int i), (.ref P)])) rfl rfl (hb hby own_d6_17)) ?_
        show own_Go _ _ _ _ (T2.setTop (mkF m 18 #[.val (.ref a1), .val (.int i)] [(.ref A)]))
        refine own_go (fun _ kont => XS.ifnullNo X2.here hx rfl (hb hby own_d6_18) rfl kont) ?_
        show own_Go _ _ _ _ (T2.setTop (mkF m 21 #[.val (.ref a1), .val (.int i)] []))
        refine own_go (fun _ kont => XS.aloadN X2.here hx rfl (hb hby own_d6_21) rfl rfl kont) ?_
        show own_Go _ _ _ _ (T2.setTop (mkF m 22 #[.val (.ref a1), .val (.int i)] [(.ref a1)]))
        obtain ⟨T5, X5, e5, st5⟩ := getF X2 hx hZ hown (host := "") (Or.inl (hw _ (List.mem_of_getElem? (i := 37) rfl))) Via.refl e2 F_taken (g := (mkF m 22 #[.val (.ref a1), .val (.int i)] [(.ref a1)])) rfl rfl (hb hby own_d6_22)
        refine own_go st5 ?_
        show own_Go _ _ _ _ (T5.setTop (mkF m 25 #[.val (.ref a1), .val (.int i)] [(.ref K)]))
        refine own_go (fun _ kont => XS.iloadN X5.here hx rfl (hb hby own_d6_25) rfl kont) ?_
        show own_Go _ _ _ _ (T5.setTop (mkF m 26 #[.val (.ref a1), .val (.int i)] [(.int i), (.ref K)]))
        obtain ⟨cl6, Ar6, q6, Sz6, Hs6⟩ := id G_K
        have hin6 := own_in Sz6 hi in1
        have hat6 : cl6.slots[(i).toNatClampNeg]? = some (.int (Int32.ofNat (own_cnt S i.toNatClampNeg))) := (Hs6 _ in1).trans (congrArg some rfl)
        refine own_go (X5.caload hx (j := i) (v := (.int (Int32.ofNat (own_cnt S i.toNatClampNeg)))) (own_hp e5 Ar6.1) (State.isArrayOf_alike hZ.alike Ar6.2.1) Ar6.2.2 hin6 hat6 (g := (mkF m 26 #[.val (.ref a1), .val (.int i)] [(.int i), (.ref K)])) rfl rfl (hb hby own_d6_26)) ?_
        show own_Go _ _ _ _ (T5.setTop (mkF m 27 #[.val (.ref a1), .val (.int i)] [(.int (Int32.ofNat (own_cnt S i.toNatClampNeg)))]))
        by_cases hz : (Int32.ofNat (own_cnt S i.toNatClampNeg)) = (0 : Int32)
        · have _h := hz
          refine own_go (fun _ kont => XS.ifNo X5.here hx rfl (hb hby own_d6_27) rfl ((if0 _ _).trans (teq hz).2) kont) ?_
          show own_Go _ _ _ _ (T5.setTop (mkF m 30 #[.val (.ref a1), .val (.int i)] []))
          refine own_go (fun _ kont => XS.aloadN X5.here hx rfl (hb hby own_d6_30) rfl rfl kont) ?_
          show own_Go _ _ _ _ (T5.setTop (mkF m 31 #[.val (.ref a1), .val (.int i)] [(.ref a1)]))
          obtain ⟨T7, X7, e7, st7⟩ := getF X5 hx hZ hown (host := "") (Or.inl (hw _ (List.mem_of_getElem? (i := 27) rfl))) Via.refl e5 F_pages (g := (mkF m 31 #[.val (.ref a1), .val (.int i)] [(.ref a1)])) rfl rfl (hb hby own_d6_31)
          refine own_go st7 ?_
          show own_Go _ _ _ _ (T7.setTop (mkF m 34 #[.val (.ref a1), .val (.int i)] [(.ref P)]))
          refine own_go (fun _ kont => XS.iloadN X7.here hx rfl (hb hby own_d6_34) rfl kont) ?_
          show own_Go _ _ _ _ (T7.setTop (mkF m 35 #[.val (.ref a1), .val (.int i)] [(.int i), (.ref P)]))
          refine own_go (fun _ kont => XS.aconstNull X7.here hx rfl (hb hby own_d6_35) kont) ?_
          show own_Go _ _ _ _ (T7.setTop (mkF m 36 #[.val (.ref a1), .val (.int i)] [.null, (.int i), (.ref P)]))
          have hz' : own_cnt S i.toNatClampNeg = 0 := (own_i0 _ (Nat.le_trans (own_cnt_le _ _) (Nat.le_trans IV.2.2.2.2 (by decide)))).mp hz
          obtain ⟨cl8, Ar8, q8, Sz8, Hs8⟩ := id G_P
          have hin8 := own_in Sz8 hi in1
          obtain ⟨T8, h8, X8, e8, W8, st8⟩ := stR X7 hx hZ e7 Ar8 (j := i) hin8 rfl (Or.inl rfl) (g := (mkF m 36 #[.val (.ref a1), .val (.int i)] [.null, (.int i), (.ref P)])) rfl rfl (hb hby own_d6_36)
          refine own_go st8 ?_
          have NF8 := Fr.snoc X8 N0 ge_P
          replace G_P : own_Arf Z h8 P kP (.array .byte) 256 (fun j => if j = i.toNatClampNeg then .null else f j) := (G_P.set W8 in1)
          replace O := O.wr W8 ge_P
          replace E1 := E1.wr W8
          replace F_pages := F_pages.other W8 (Or.inl (Ne.symm nePm))
          replace F_taken := F_taken.other W8 (Or.inl (Ne.symm nePm))
          replace F_lastPage := F_lastPage.other W8 (Or.inl (Ne.symm nePm))
          replace F_pagesHeld := F_pagesHeld.other W8 (Or.inl (Ne.symm nePm))
          replace F_size := F_size.other W8 (Or.inl (Ne.symm nePm))
          replace G_K := G_K.other W8 (Ne.symm nePK)
          replace PG := PG.wr W8 (Or.inl rfl)
          replace Z0 := Nat.le_trans Z0 (Keep.of_wr W8).1
          replace hs0 := Nat.le_trans hs0 (Keep.of_wr W8).1
          show own_Go _ _ _ _ (T8.setTop (mkF m 37 #[.val (.ref a1), .val (.int i)] []))
          refine own_go (fun _ kont => XS.aloadN X8.here hx rfl (hb hby own_d6_37) rfl rfl kont) ?_
          show own_Go _ _ _ _ (T8.setTop (mkF m 38 #[.val (.ref a1), .val (.int i)] [(.ref a1)]))
          refine own_go (fun _ kont => XS.dup X8.here hx rfl (hb hby own_d6_38) rfl rfl kont) ?_
          show own_Go _ _ _ _ (T8.setTop (mkF m 39 #[.val (.ref a1), .val (.int i)] [(.ref a1), (.ref a1)]))
          obtain ⟨T9, X9, e9, st9⟩ := getF X8 hx hZ hown (host := "") (Or.inl (hw _ (List.mem_of_getElem? (i := 45) rfl))) Via.refl e8 F_pagesHeld (g := (mkF m 39 #[.val (.ref a1), .val (.int i)] [(.ref a1), (.ref a1)])) rfl rfl (hb hby own_d6_39)
          refine own_go st9 ?_
          show own_Go _ _ _ _ (T9.setTop (mkF m 42 #[.val (.ref a1), .val (.int i)] [(.int held), (.ref a1)]))
          refine own_go (fun _ kont => XS.iconst X9.here hx rfl (hb hby own_d6_42) kont) ?_
          show own_Go _ _ _ _ (T9.setTop (mkF m 43 #[.val (.ref a1), .val (.int i)] [(.int (1 : Int32)), (.int held), (.ref a1)]))
          refine own_go (fun _ kont => XS.isub X9.here hx rfl (hb hby own_d6_43) rfl kont) ?_
          show own_Go _ _ _ _ (T9.setTop (mkF m 44 #[.val (.ref a1), .val (.int i)] [(.int (held - (1 : Int32))), (.ref a1)]))
          obtain ⟨T10, h10, X10, e10, W10, st10⟩ := putF X9 hx hZ hown (host := "") (Or.inl (hw _ (List.mem_of_getElem? (i := 45) rfl))) Via.refl e9 F_pagesHeld E1 (Or.inl (hw _ (List.mem_of_getElem? (i := 46) rfl))) (hw _ (List.mem_of_getElem? (i := 12) rfl)) (ty := .int) (by decide) rfl rfl (g := (mkF m 44 #[.val (.ref a1), .val (.int i)] [(.int (held - (1 : Int32))), (.ref a1)])) rfl rfl (hb hby own_d6_44)
          refine own_go st10 ?_
          have NF10 := Fr.snoc X10 NF8 ge_a1
          replace F_pagesHeld := F_pagesHeld.same W10
          replace O := O.wr W10 ge_a1
          replace E1 := E1.wr W10
          replace F_pages := F_pages.other W10 (Or.inr (slot_ne (Or.inl (hw _ (List.mem_of_getElem? (i := 28) rfl))) (Or.inl (hw _ (List.mem_of_getElem? (i := 46) rfl))) (by decide) (t := (.array (.array .byte))) (t' := .int) (by decide) (by decide)))
          replace F_taken := F_taken.other W10 (Or.inr (slot_ne (Or.inl (hw _ (List.mem_of_getElem? (i := 38) rfl))) (Or.inl (hw _ (List.mem_of_getElem? (i := 46) rfl))) (by decide) (t := (.array .char)) (t' := .int) (by decide) (by decide)))
          replace F_lastPage := F_lastPage.other W10 (Or.inr (slot_ne (Or.inl (hw _ (List.mem_of_getElem? (i := 21) rfl))) (Or.inl (hw _ (List.mem_of_getElem? (i := 46) rfl))) (by decide) (t := .int) (t' := .int) (by decide) (by decide)))
          replace F_size := F_size.other W10 (Or.inr (slot_ne (Or.inl (hw _ (List.mem_of_getElem? (i := 48) rfl))) (Or.inl (hw _ (List.mem_of_getElem? (i := 46) rfl))) (by decide) (t := .int) (t' := .int) (by decide) (by decide)))
          replace G_P := G_P.other W10 nePm
          replace G_K := G_K.other W10 neKm
          replace PG := PG.wr W10 (Or.inr (Or.inr rfl))
          replace Z0 := Nat.le_trans Z0 (Keep.of_wr W10).1
          replace hs0 := Nat.le_trans hs0 (Keep.of_wr W10).1
          show own_Go _ _ _ _ (T10.setTop (mkF m 47 #[.val (.ref a1), .val (.int i)] []))
          refine own_ret X10 hlk (v := none) (fun _ => rfl) (fun fs hr => X10.returnOut hx Bd.returns (hb hby own_d6_47) hr) ?_ (by decide) (by decide)
          try rw [e10]
          exact ⟨_, _, rfl, NF10, O, hs0, P, K, kP, kK, E1, F_pages, F_taken, F_lastPage, F_pagesHeld, F_size, ge_P, ge_K, nePK, nePm, neKm, G_P, OvP, G_K, PG.drop, IV.drop in1 hz', lp1, lp2⟩
        · have _h := hz
          refine own_go (fun _ kont => XS.ifYes X5.here hx rfl (pc0 := 27) (pc' := 47) rfl (hb hby own_d6_27) rfl ((if0 _ _).trans (feq hz).2) (by decide) (by decide) kont) ?_
          show own_Go _ _ _ _ (T5.setTop (mkF m 47 #[.val (.ref a1), .val (.int i)] []))
          refine own_ret X5 hlk (v := none) (fun _ => rfl) (fun fs hr => X5.returnOut hx Bd.returns (hb hby own_d6_47) hr) ?_ (by decide) (by decide)
          try rw [e5]
          exact ⟨_, _, rfl, N0, O, Nat.le_refl _, M0⟩
theorem own_d5_0 : decode prog_5_method_3_code 0 = .ok (.aload_n 0, 1) := by decide +kernel
theorem own_d5_1 : decode prog_5_method_3_code 1 = .ok (.getfield 17, 3) := by decide +kernel
theorem own_d5_4 : decode prog_5_method_3_code 4 = .ok (.ifnonnull 22, 3) := by decide +kernel
theorem own_d5_7 : decode prog_5_method_3_code 7 = .ok (.aload_n 0, 1) := by decide +kernel
theorem own_d5_8 : decode prog_5_method_3_code 8 = .ok (.sipush 256, 3) := by decide +kernel
theorem own_d5_11 : decode prog_5_method_3_code 11 = .ok (.anewarray 25, 3) := by decide +kernel
theorem own_d5_14 : decode prog_5_method_3_code 14 = .ok (.putfield 17, 3) := by decide +kernel
theorem own_d5_17 : decode prog_5_method_3_code 17 = .ok (.aload_n 0, 1) := by decide +kernel
theorem own_d5_18 : decode prog_5_method_3_code 18 = .ok (.sipush 256, 3) := by decide +kernel
theorem own_d5_21 : decode prog_5_method_3_code 21 = .ok (.newarray .char, 2) := by decide +kernel
theorem own_d5_23 : decode prog_5_method_3_code 23 = .ok (.putfield 27, 3) := by decide +kernel
theorem own_d5_26 : decode prog_5_method_3_code 26 = .ok (.iload_n 1, 1) := by decide +kernel
theorem own_d5_27 : decode prog_5_method_3_code 27 = .ok (.bipush 8, 2) := by decide +kernel
theorem own_d5_29 : decode prog_5_method_3_code 29 = .ok (.iushr, 1) := by decide +kernel
theorem own_d5_30 : decode prog_5_method_3_code 30 = .ok (.istore_n 3, 1) := by decide +kernel
theorem own_d5_31 : decode prog_5_method_3_code 31 = .ok (.iload_n 3, 1) := by decide +kernel
theorem own_d5_32 : decode prog_5_method_3_code 32 = .ok (.aload_n 0, 1) := by decide +kernel
theorem own_d5_33 : decode prog_5_method_3_code 33 = .ok (.getfield 13, 3) := by decide +kernel
theorem own_d5_36 : decode prog_5_method_3_code 36 = .ok (.if_icmp .eq 20, 3) := by decide +kernel
theorem own_d5_39 : decode prog_5_method_3_code 39 = .ok (.aload_n 0, 1) := by decide +kernel
theorem own_d5_40 : decode prog_5_method_3_code 40 = .ok (.getfield 13, 3) := by decide +kernel
theorem own_d5_43 : decode prog_5_method_3_code 43 = .ok (.istore 4, 2) := by decide +kernel
theorem own_d5_45 : decode prog_5_method_3_code 45 = .ok (.aload_n 0, 1) := by decide +kernel
theorem own_d5_46 : decode prog_5_method_3_code 46 = .ok (.iload_n 3, 1) := by decide +kernel
theorem own_d5_47 : decode prog_5_method_3_code 47 = .ok (.putfield 13, 3) := by decide +kernel
theorem own_d5_50 : decode prog_5_method_3_code 50 = .ok (.aload_n 0, 1) := by decide +kernel
theorem own_d5_51 : decode prog_5_method_3_code 51 = .ok (.iload 4, 2) := by decide +kernel
theorem own_d5_53 : decode prog_5_method_3_code 53 = .ok (.invokevirtual 31, 3) := by decide +kernel
theorem own_d5_56 : decode prog_5_method_3_code 56 = .ok (.aload_n 0, 1) := by decide +kernel
theorem own_d5_57 : decode prog_5_method_3_code 57 = .ok (.getfield 17, 3) := by decide +kernel
theorem own_d5_60 : decode prog_5_method_3_code 60 = .ok (.iload_n 3, 1) := by decide +kernel
theorem own_d5_61 : decode prog_5_method_3_code 61 = .ok (.aaload, 1) := by decide +kernel
theorem own_d5_62 : decode prog_5_method_3_code 62 = .ok (.ifnonnull 24, 3) := by decide +kernel
theorem own_d5_65 : decode prog_5_method_3_code 65 = .ok (.aload_n 0, 1) := by decide +kernel
theorem own_d5_66 : decode prog_5_method_3_code 66 = .ok (.getfield 17, 3) := by decide +kernel
theorem own_d5_69 : decode prog_5_method_3_code 69 = .ok (.iload_n 3, 1) := by decide +kernel
theorem own_d5_70 : decode prog_5_method_3_code 70 = .ok (.sipush 256, 3) := by decide +kernel
theorem own_d5_73 : decode prog_5_method_3_code 73 = .ok (.newarray .byte, 2) := by decide +kernel
theorem own_d5_75 : decode prog_5_method_3_code 75 = .ok (.aastore, 1) := by decide +kernel
theorem own_d5_76 : decode prog_5_method_3_code 76 = .ok (.aload_n 0, 1) := by decide +kernel
theorem own_d5_77 : decode prog_5_method_3_code 77 = .ok (.dup, 1) := by decide +kernel
theorem own_d5_78 : decode prog_5_method_3_code 78 = .ok (.getfield 35, 3) := by decide +kernel
theorem own_d5_81 : decode prog_5_method_3_code 81 = .ok (.iconst 1, 1) := by decide +kernel
theorem own_d5_82 : decode prog_5_method_3_code 82 = .ok (.iadd, 1) := by decide +kernel
theorem own_d5_83 : decode prog_5_method_3_code 83 = .ok (.putfield 35, 3) := by decide +kernel
theorem own_d5_86 : decode prog_5_method_3_code 86 = .ok (.iload_n 1, 1) := by decide +kernel
theorem own_d5_87 : decode prog_5_method_3_code 87 = .ok (.sipush 255, 3) := by decide +kernel
theorem own_d5_90 : decode prog_5_method_3_code 90 = .ok (.iand, 1) := by decide +kernel
theorem own_d5_91 : decode prog_5_method_3_code 91 = .ok (.istore 4, 2) := by decide +kernel
theorem own_d5_93 : decode prog_5_method_3_code 93 = .ok (.aload_n 0, 1) := by decide +kernel
theorem own_d5_94 : decode prog_5_method_3_code 94 = .ok (.getfield 17, 3) := by decide +kernel
theorem own_d5_97 : decode prog_5_method_3_code 97 = .ok (.iload_n 3, 1) := by decide +kernel
theorem own_d5_98 : decode prog_5_method_3_code 98 = .ok (.aaload, 1) := by decide +kernel
theorem own_d5_99 : decode prog_5_method_3_code 99 = .ok (.iload 4, 2) := by decide +kernel
theorem own_d5_101 : decode prog_5_method_3_code 101 = .ok (.baload, 1) := by decide +kernel
theorem own_d5_102 : decode prog_5_method_3_code 102 = .ok (.ifCond .ne 24, 3) := by decide +kernel
theorem own_d5_105 : decode prog_5_method_3_code 105 = .ok (.aload_n 0, 1) := by decide +kernel
theorem own_d5_106 : decode prog_5_method_3_code 106 = .ok (.getfield 27, 3) := by decide +kernel
theorem own_d5_109 : decode prog_5_method_3_code 109 = .ok (.iload_n 3, 1) := by decide +kernel
theorem own_d5_110 : decode prog_5_method_3_code 110 = .ok (.dup2, 1) := by decide +kernel
theorem own_d5_111 : decode prog_5_method_3_code 111 = .ok (.caload, 1) := by decide +kernel
theorem own_d5_112 : decode prog_5_method_3_code 112 = .ok (.iconst 1, 1) := by decide +kernel
theorem own_d5_113 : decode prog_5_method_3_code 113 = .ok (.iadd, 1) := by decide +kernel
theorem own_d5_114 : decode prog_5_method_3_code 114 = .ok (.i2c, 1) := by decide +kernel
theorem own_d5_115 : decode prog_5_method_3_code 115 = .ok (.castore, 1) := by decide +kernel
theorem own_d5_116 : decode prog_5_method_3_code 116 = .ok (.aload_n 0, 1) := by decide +kernel
theorem own_d5_117 : decode prog_5_method_3_code 117 = .ok (.dup, 1) := by decide +kernel
theorem own_d5_118 : decode prog_5_method_3_code 118 = .ok (.getfield 38, 3) := by decide +kernel
theorem own_d5_121 : decode prog_5_method_3_code 121 = .ok (.iconst 1, 1) := by decide +kernel
theorem own_d5_122 : decode prog_5_method_3_code 122 = .ok (.iadd, 1) := by decide +kernel
theorem own_d5_123 : decode prog_5_method_3_code 123 = .ok (.putfield 38, 3) := by decide +kernel
theorem own_d5_126 : decode prog_5_method_3_code 126 = .ok (.aload_n 0, 1) := by decide +kernel
theorem own_d5_127 : decode prog_5_method_3_code 127 = .ok (.getfield 17, 3) := by decide +kernel
theorem own_d5_130 : decode prog_5_method_3_code 130 = .ok (.iload_n 3, 1) := by decide +kernel
theorem own_d5_131 : decode prog_5_method_3_code 131 = .ok (.aaload, 1) := by decide +kernel
theorem own_d5_132 : decode prog_5_method_3_code 132 = .ok (.iload 4, 2) := by decide +kernel
theorem own_d5_134 : decode prog_5_method_3_code 134 = .ok (.aload_n 2, 1) := by decide +kernel
theorem own_d5_135 : decode prog_5_method_3_code 135 = .ok (.invokevirtual 41, 3) := by decide +kernel
theorem own_d5_138 : decode prog_5_method_3_code 138 = .ok (.iconst 1, 1) := by decide +kernel
theorem own_d5_139 : decode prog_5_method_3_code 139 = .ok (.iadd, 1) := by decide +kernel
theorem own_d5_140 : decode prog_5_method_3_code 140 = .ok (.i2b, 1) := by decide +kernel
theorem own_d5_141 : decode prog_5_method_3_code 141 = .ok (.bastore, 1) := by decide +kernel
theorem own_d5_142 : decode prog_5_method_3_code 142 = .ok (.return_, 1) := by decide +kernel
theorem own_pd0 : parseMethodDescriptor "(I)V" = some ⟨[.int], none⟩ := by decide +kernel
theorem own_pd1 : parseMethodDescriptor "()I" = some ⟨[], some .int⟩ := by decide +kernel
set_option maxRecDepth 65536 in
set_option maxHeartbeats 40000000 in
theorem own_rmU0 (l : Launch) (Z : State) (a0 : Array Value) (hw : ∀ d ∈ tables_1, d.before a0 Z = true) (a1 : Addr) (x : Int32) (a3 : Addr) (o : Int32) (val : Nat → Int32) (h0 : Heap) (n0 : Nat) (Z0 : n0 ≤ h0.size) (M : own_Emp Z h0 a1) (hz : ∀ x, x < 65536 → val x = 0) (i1 : 0 ≤ x.toInt) (i2 : x.toInt < 65536) (ge_a1 : n0 ≤ a1) (O : Old Z n0 h0) (E3 : Exa Z Z.heap a3 "com/example/utopic/utopic/codec/PacketType") (F3 : Fld Z Z.heap a3 "java/lang/Enum" "ordinal" "I" (.int o)) (o1 : 0 ≤ o.toInt) (o2 : o.toInt < 14) :
    own_Met l Z [] (⟨"com/example/utopic/utopic/broker/MessageIds", "put", "(ILcom/example/utopic/utopic/codec/PacketType;)V"⟩ : MethodName) prog_5_method_3_code 5 none ({ frames := 1, cells := 3, slots := 768, locals := 14 } : Room) #[(.ref a1), (.int x), (.ref a3)] h0 (fun v h L => ∃ lp f, v = none ∧ Fr n0 L ∧ Old Z n0 h ∧ h0.size ≤ h.size ∧ own_Map Z n0 h a1 [x.toNatClampNeg] (own_set val x.toNatClampNeg (o + 1)) 1 1 lp f) := by
  refine MetFree.of_bodySF (plainFor_of_name own_pn0) hisR ?_
  intro p e s m args below meth c s₁ Bd hml0 hP hK
  obtain ⟨rfl, hZ, hh⟩ := hP
  have hx := Bd.exec
  have hby := Bd.bytes
  have hml : c.maxLocals = 5 := hml0
  have hown : s.vm.findClass "com/example/utopic/utopic/broker/MessageIds" = some m.cls := findClass_of_methodNamed Bd.named
  have hnm := (name_of_methodNamed Bd.named Bd.method).1
  have hlk : meth.locks = false := Bd.notSynchronized
  have X0 : Stand p l e ({ frames := 1, cells := 3, slots := 768, locals := 14 } : Room) s m #[(.ref a1), (.int x), (.ref a3)] below meth c s₁ [] 0 0 := Stand.of_body Bd
  have e0 : s₁.heap = h0 := by rw [← hh, Bd.state]; rfl
  have N0 := Fr.nil n0
  refine own_body (Q := fun v h L => ∃ lp f, v = none ∧ Fr n0 L ∧ Old Z n0 h ∧ h0.size ≤ h.size ∧ own_Map Z n0 h a1 [x.toNatClampNeg] (own_set val x.toNatClampNeg (o + 1)) 1 1 lp f) ?_
  refine own_go (fun _ kont => castTop (own_ef m #[(.ref a1), (.int x), (.ref a3)] 5 #[.val (.ref a1), .val (.int x), .val (.ref a3), .unset, .unset] (own_al [(.ref a1), (.int x), (.ref a3)] 5 [.val (.ref a1), .val (.int x), .val (.ref a3), .unset, .unset] rfl)) kont) ?_
  show own_Go _ _ _ _ (s₁.setTop (mkF m 0 #[.val (.ref a1), .val (.int x), .val (.ref a3), .unset, .unset] []))
  obtain ⟨pg0, pgn, pgl, sl0, sln, pgi⟩ := own_idx i1 i2
  have pg1 : (own_pg x).toNatClampNeg < 256 := by rw [pgn]; exact pgl
  have sl1 : (own_sl x).toNatClampNeg < 256 := by rw [sln]; omega
  have xl : x.toNatClampNeg < 65536 := by omega
  have hs0 : h0.size ≤ h0.size := Nat.le_refl _
  obtain ⟨E1, F_pages, F_taken, F_lastPage, F_pagesHeld, F_size⟩ := M
  refine own_go (fun _ kont => XS.aloadN X0.here hx rfl (hb hby own_d5_0) rfl rfl kont) ?_
  show own_Go _ _ _ _ (s₁.setTop (mkF m 1 #[.val (.ref a1), .val (.int x), .val (.ref a3), .unset, .unset] [(.ref a1)]))
  obtain ⟨T1, X1, e1, st1⟩ := getF X0 hx hZ hown (host := "") (Or.inl (hw _ (List.mem_of_getElem? (i := 27) rfl))) Via.refl e0 F_pages (g := (mkF m 1 #[.val (.ref a1), .val (.int x), .val (.ref a3), .unset, .unset] [(.ref a1)])) rfl rfl (hb hby own_d5_1)
  refine own_go st1 ?_
  show own_Go _ _ _ _ (T1.setTop (mkF m 4 #[.val (.ref a1), .val (.int x), .val (.ref a3), .unset, .unset] [.null]))
  refine own_go (fun _ kont => XS.ifnonnullNo X1.here hx rfl (hb hby own_d5_4) rfl kont) ?_
  show own_Go _ _ _ _ (T1.setTop (mkF m 7 #[.val (.ref a1), .val (.int x), .val (.ref a3), .unset, .unset] []))
  refine own_go (fun _ kont => XS.aloadN X1.here hx rfl (hb hby own_d5_7) rfl rfl kont) ?_
  show own_Go _ _ _ _ (T1.setTop (mkF m 8 #[.val (.ref a1), .val (.int x), .val (.ref a3), .unset, .unset] [(.ref a1)]))
  refine own_go (fun _ kont => XS.sipush X1.here hx rfl (hb hby own_d5_8) kont) ?_
  show own_Go _ _ _ _ (T1.setTop (mkF m 11 #[.val (.ref a1), .val (.int x), .val (.ref a3), .unset, .unset] [(.int (256 : Int32)), (.ref a1)]))
  obtain ⟨T2, h2, k2, X2, e2, E2, A2, Ea2, OvP, st2⟩ := newRA X1 hx hZ (ty := .byte) (C := "[B") (ad := "[[B") hown (by decide) (hw _ (List.mem_of_getElem? (i := 34) rfl)) (hw _ (List.mem_of_getElem? (i := 35) rfl)) e1 (g := (mkF m 11 #[.val (.ref a1), .val (.int x), .val (.ref a3), .unset, .unset] [(.int (256 : Int32)), (.ref a1)])) rfl (hb hby own_d5_11) rfl (by decide) (cap := 256) (by decide) (by decide) (by decide) (by decide) (by decide)
  obtain ⟨P, gP⟩ : ∃ z, z = h0.size := ⟨_, rfl⟩
  rw [← gP] at A2 st2
  refine own_go st2 ?_
  have ge_P : n0 ≤ P := Nat.le_trans Z0 (Nat.le_of_eq gP.symm)
  have ne_a1_P : a1 ≠ P := Nat.ne_of_lt (Nat.lt_of_lt_of_le E1.lt (Nat.le_of_eq gP.symm))
  replace O := O.ext E2
  replace E1 := E1.ext E2
  replace F_pages := F_pages.ext E2
  replace F_taken := F_taken.ext E2
  replace F_lastPage := F_lastPage.ext E2
  replace F_pagesHeld := F_pagesHeld.ext E2
  replace F_size := F_size.ext E2
  replace Z0 := Nat.le_trans Z0 E2.1
  replace hs0 := Nat.le_trans hs0 E2.1
  have G_P : own_Arf Z h2 P k2 (.array .byte) 256 (fun _ => .null) := own_Arf.new A2 (by decide)
  show own_Go _ _ _ _ (T2.setTop (mkF m 14 #[.val (.ref a1), .val (.int x), .val (.ref a3), .unset, .unset] [(.ref P), (.ref a1)]))
  obtain ⟨T3, h3, X3, e3, W3, st3⟩ := putF X2 hx hZ hown (host := "") (Or.inl (hw _ (List.mem_of_getElem? (i := 27) rfl))) Via.refl e2 F_pages E1 (Or.inl (hw _ (List.mem_of_getElem? (i := 28) rfl))) (hw _ (List.mem_of_getElem? (i := 12) rfl)) (ty := (.array (.array .byte))) (by decide) rfl rfl (g := (mkF m 14 #[.val (.ref a1), .val (.int x), .val (.ref a3), .unset, .unset] [(.ref P), (.ref a1)])) rfl rfl (hb hby own_d5_14)
  refine own_go st3 ?_
  have NF3 := Fr.snoc X3 N0 ge_a1
  replace F_pages := F_pages.same W3
  replace O := O.wr W3 ge_a1
  replace E1 := E1.wr W3
  replace F_taken := F_taken.other W3 (Or.inr (slot_ne (Or.inl (hw _ (List.mem_of_getElem? (i := 38) rfl))) (Or.inl (hw _ (List.mem_of_getElem? (i := 28) rfl))) (by decide) (t := (.array .char)) (t' := (.array (.array .byte))) (by decide) (by decide)))
  replace F_lastPage := F_lastPage.other W3 (Or.inr (slot_ne (Or.inl (hw _ (List.mem_of_getElem? (i := 21) rfl))) (Or.inl (hw _ (List.mem_of_getElem? (i := 28) rfl))) (by decide) (t := .int) (t' := (.array (.array .byte))) (by decide) (by decide)))
  replace F_pagesHeld := F_pagesHeld.other W3 (Or.inr (slot_ne (Or.inl (hw _ (List.mem_of_getElem? (i := 46) rfl))) (Or.inl (hw _ (List.mem_of_getElem? (i := 28) rfl))) (by decide) (t := .int) (t' := (.array (.array .byte))) (by decide) (by decide)))
  replace F_size := F_size.other W3 (Or.inr (slot_ne (Or.inl (hw _ (List.mem_of_getElem? (i := 48) rfl))) (Or.inl (hw _ (List.mem_of_getElem? (i := 28) rfl))) (by decide) (t := .int) (t' := (.array (.array .byte))) (by decide) (by decide)))
  replace G_P := G_P.other W3 (Ne.symm ne_a1_P)
  replace Z0 := Nat.le_trans Z0 (Keep.of_wr W3).1
  replace hs0 := Nat.le_trans hs0 (Keep.of_wr W3).1
  show own_Go _ _ _ _ (T3.setTop (mkF m 17 #[.val (.ref a1), .val (.int x), .val (.ref a3), .unset, .unset] []))
  refine own_go (fun _ kont => XS.aloadN X3.here hx rfl (hb hby own_d5_17) rfl rfl kont) ?_
  show own_Go _ _ _ _ (T3.setTop (mkF m 18 #[.val (.ref a1), .val (.int x), .val (.ref a3), .unset, .unset] [(.ref a1)]))
  refine own_go (fun _ kont => XS.sipush X3.here hx rfl (hb hby own_d5_18) kont) ?_
  show own_Go _ _ _ _ (T3.setTop (mkF m 21 #[.val (.ref a1), .val (.int x), .val (.ref a3), .unset, .unset] [(.int (256 : Int32)), (.ref a1)]))
  obtain ⟨T4, h4, k4, X4, e4, E4, A4, st4⟩ := newP X3 hx hZ (hw _ (List.mem_of_getElem? (i := 36) rfl)) e3 (g := (mkF m 21 #[.val (.ref a1), .val (.int x), .val (.ref a3), .unset, .unset] [(.int (256 : Int32)), (.ref a1)])) rfl (hb hby own_d5_21) rfl (by decide) (cap := 256) (by decide) (by decide) (by decide) (by decide)
  obtain ⟨K, gK⟩ : ∃ z, z = h3.size := ⟨_, rfl⟩
  rw [← gK] at A4 st4
  refine own_go st4 ?_
  have ge_K : n0 ≤ K := Nat.le_trans Z0 (Nat.le_of_eq gK.symm)
  have ne_a1_K : a1 ≠ K := Nat.ne_of_lt (Nat.lt_of_lt_of_le E1.lt (Nat.le_of_eq gK.symm))
  have ne_P_K : P ≠ K := Nat.ne_of_lt (Nat.lt_of_lt_of_le G_P.lt (Nat.le_of_eq gK.symm))
  replace O := O.ext E4
  replace E1 := E1.ext E4
  replace F_pages := F_pages.ext E4
  replace F_taken := F_taken.ext E4
  replace F_lastPage := F_lastPage.ext E4
  replace F_pagesHeld := F_pagesHeld.ext E4
  replace F_size := F_size.ext E4
  replace G_P := G_P.ext E4
  replace Z0 := Nat.le_trans Z0 E4.1
  replace hs0 := Nat.le_trans hs0 E4.1
  have G_K : own_Arf Z h4 K k4 .char 256 (fun i => .int (Int32.ofNat (own_cnt [] i))) := own_Arf.new A4 (by decide)
  show own_Go _ _ _ _ (T4.setTop (mkF m 23 #[.val (.ref a1), .val (.int x), .val (.ref a3), .unset, .unset] [(.ref K), (.ref a1)]))
  obtain ⟨T5, h5, X5, e5, W5, st5⟩ := putF X4 hx hZ hown (host := "") (Or.inl (hw _ (List.mem_of_getElem? (i := 37) rfl))) Via.refl e4 F_taken E1 (Or.inl (hw _ (List.mem_of_getElem? (i := 38) rfl))) (hw _ (List.mem_of_getElem? (i := 12) rfl)) (ty := (.array .char)) (by decide) rfl rfl (g := (mkF m 23 #[.val (.ref a1), .val (.int x), .val (.ref a3), .unset, .unset] [(.ref K), (.ref a1)])) rfl rfl (hb hby own_d5_23)
  refine own_go st5 ?_
  have NF5 := Fr.snoc X5 NF3 ge_a1
  replace F_taken := F_taken.same W5
  replace O := O.wr W5 ge_a1
  replace E1 := E1.wr W5
  replace F_pages := F_pages.other W5 (Or.inr (slot_ne (Or.inl (hw _ (List.mem_of_getElem? (i := 28) rfl))) (Or.inl (hw _ (List.mem_of_getElem? (i := 38) rfl))) (by decide) (t := (.array (.array .byte))) (t' := (.array .char)) (by decide) (by decide)))
  replace F_lastPage := F_lastPage.other W5 (Or.inr (slot_ne (Or.inl (hw _ (List.mem_of_getElem? (i := 21) rfl))) (Or.inl (hw _ (List.mem_of_getElem? (i := 38) rfl))) (by decide) (t := .int) (t' := (.array .char)) (by decide) (by decide)))
  replace F_pagesHeld := F_pagesHeld.other W5 (Or.inr (slot_ne (Or.inl (hw _ (List.mem_of_getElem? (i := 46) rfl))) (Or.inl (hw _ (List.mem_of_getElem? (i := 38) rfl))) (by decide) (t := .int) (t' := (.array .char)) (by decide) (by decide)))
  replace F_size := F_size.other W5 (Or.inr (slot_ne (Or.inl (hw _ (List.mem_of_getElem? (i := 48) rfl))) (Or.inl (hw _ (List.mem_of_getElem? (i := 38) rfl))) (by decide) (t := .int) (t' := (.array .char)) (by decide) (by decide)))
  replace G_P := G_P.other W5 (Ne.symm ne_a1_P)
  replace G_K := G_K.other W5 (Ne.symm ne_a1_K)
  replace Z0 := Nat.le_trans Z0 (Keep.of_wr W5).1
  replace hs0 := Nat.le_trans hs0 (Keep.of_wr W5).1
  show own_Go _ _ _ _ (T5.setTop (mkF m 26 #[.val (.ref a1), .val (.int x), .val (.ref a3), .unset, .unset] []))
  have PG : own_Pgs Z n0 h5 a1 P K (fun _ => .null) val := fun i hi => Or.inl rfl
  have IV : own_Inv (fun _ => .null) [] val := ⟨fun i hi _ j hj => hz _ (by omega), fun i j A _ _ h1 _ => (by have h2 : Value.null = Value.ref A := h1; cases h2), List.nodup_nil, fun y hy => by simp [hz y hy], by decide⟩
  refine own_go (fun _ kont => XS.iloadN X5.here hx rfl (hb hby own_d5_26) rfl kont) ?_
  show own_Go _ _ _ _ (T5.setTop (mkF m 27 #[.val (.ref a1), .val (.int x), .val (.ref a3), .unset, .unset] [(.int x)]))
  refine own_go (fun _ kont => XS.bipush X5.here hx rfl (hb hby own_d5_27) kont) ?_
  show own_Go _ _ _ _ (T5.setTop (mkF m 29 #[.val (.ref a1), .val (.int x), .val (.ref a3), .unset, .unset] [(.int (8 : Int32)), (.int x)]))
  refine own_go (fun _ kont => XS.iushr X5.here hx rfl (hb hby own_d5_29) rfl kont) ?_
  show own_Go _ _ _ _ (T5.setTop (mkF m 30 #[.val (.ref a1), .val (.int x), .val (.ref a3), .unset, .unset] [(.int (own_pg x))]))
  refine own_go (fun _ kont => XS.istoreN X5.here hx rfl (hb hby own_d5_30) rfl (l' := #[.val (.ref a1), .val (.int x), .val (.ref a3), .val (.int (own_pg x)), .unset]) rfl kont) ?_
  show own_Go _ _ _ _ (T5.setTop (mkF m 31 #[.val (.ref a1), .val (.int x), .val (.ref a3), .val (.int (own_pg x)), .unset] []))
  refine own_go (fun _ kont => XS.iloadN X5.here hx rfl (hb hby own_d5_31) rfl kont) ?_
  show own_Go _ _ _ _ (T5.setTop (mkF m 32 #[.val (.ref a1), .val (.int x), .val (.ref a3), .val (.int (own_pg x)), .unset] [(.int (own_pg x))]))
  refine own_go (fun _ kont => XS.aloadN X5.here hx rfl (hb hby own_d5_32) rfl rfl kont) ?_
  show own_Go _ _ _ _ (T5.setTop (mkF m 33 #[.val (.ref a1), .val (.int x), .val (.ref a3), .val (.int (own_pg x)), .unset] [(.ref a1), (.int (own_pg x))]))
  obtain ⟨T6, X6, e6, st6⟩ := getF X5 hx hZ hown (host := "") (Or.inl (hw _ (List.mem_of_getElem? (i := 20) rfl))) Via.refl e5 F_lastPage (g := (mkF m 33 #[.val (.ref a1), .val (.int x), .val (.ref a3), .val (.int (own_pg x)), .unset] [(.ref a1), (.int (own_pg x))])) rfl rfl (hb hby own_d5_33)
  refine own_go st6 ?_
  show own_Go _ _ _ _ (T6.setTop (mkF m 36 #[.val (.ref a1), .val (.int x), .val (.ref a3), .val (.int (own_pg x)), .unset] [(.int (-1 : Int32)), (.int (own_pg x))]))
  refine own_go (fun _ kont => XS.icmpNo X6.here hx rfl (hb hby own_d5_36) rfl (feq (fun q => by have e1 : (-1 : Int32).toInt = -1 := rfl; have := congrArg Int32.toInt q; rw [pgi, e1] at this; omega)).1 kont) ?_
  show own_Go _ _ _ _ (T6.setTop (mkF m 39 #[.val (.ref a1), .val (.int x), .val (.ref a3), .val (.int (own_pg x)), .unset] []))
  refine own_go (fun _ kont => XS.aloadN X6.here hx rfl (hb hby own_d5_39) rfl rfl kont) ?_
  show own_Go _ _ _ _ (T6.setTop (mkF m 40 #[.val (.ref a1), .val (.int x), .val (.ref a3), .val (.int (own_pg x)), .unset] [(.ref a1)]))
  obtain ⟨T7, X7, e7, st7⟩ := getF X6 hx hZ hown (host := "") (Or.inl (hw _ (List.mem_of_getElem? (i := 20) rfl))) Via.refl e6 F_lastPage (g := (mkF m 40 #[.val (.ref a1), .val (.int x), .val (.ref a3), .val (.int (own_pg x)), .unset] [(.ref a1)])) rfl rfl (hb hby own_d5_40)
  refine own_go st7 ?_
  show own_Go _ _ _ _ (T7.setTop (mkF m 43 #[.val (.ref a1), .val (.int x), .val (.ref a3), .val (.int (own_pg x)), .unset] [(.int (-1 : Int32))]))
  refine own_go (fun _ kont => XS.istore X7.here hx rfl (hb hby own_d5_43) rfl (l' := #[.val (.ref a1), .val (.int x), .val (.ref a3), .val (.int (own_pg x)), .val (.int (-1 : Int32))]) rfl kont) ?_
  show own_Go _ _ _ _ (T7.setTop (mkF m 45 #[.val (.ref a1), .val (.int x), .val (.ref a3), .val (.int (own_pg x)), .val (.int (-1 : Int32))] []))
  refine own_go (fun _ kont => XS.aloadN X7.here hx rfl (hb hby own_d5_45) rfl rfl kont) ?_
  show own_Go _ _ _ _ (T7.setTop (mkF m 46 #[.val (.ref a1), .val (.int x), .val (.ref a3), .val (.int (own_pg x)), .val (.int (-1 : Int32))] [(.ref a1)]))
  refine own_go (fun _ kont => XS.iloadN X7.here hx rfl (hb hby own_d5_46) rfl kont) ?_
  show own_Go _ _ _ _ (T7.setTop (mkF m 47 #[.val (.ref a1), .val (.int x), .val (.ref a3), .val (.int (own_pg x)), .val (.int (-1 : Int32))] [(.int (own_pg x)), (.ref a1)]))
  obtain ⟨T8, h8, X8, e8, W8, st8⟩ := putF X7 hx hZ hown (host := "") (Or.inl (hw _ (List.mem_of_getElem? (i := 20) rfl))) Via.refl e7 F_lastPage E1 (Or.inl (hw _ (List.mem_of_getElem? (i := 21) rfl))) (hw _ (List.mem_of_getElem? (i := 12) rfl)) (ty := .int) (by decide) rfl rfl (g := (mkF m 47 #[.val (.ref a1), .val (.int x), .val (.ref a3), .val (.int (own_pg x)), .val (.int (-1 : Int32))] [(.int (own_pg x)), (.ref a1)])) rfl rfl (hb hby own_d5_47)
  refine own_go st8 ?_
  have NF8 := Fr.snoc X8 NF5 ge_a1
  replace F_lastPage := F_lastPage.same W8
  replace O := O.wr W8 ge_a1
  replace E1 := E1.wr W8
  replace F_pages := F_pages.other W8 (Or.inr (slot_ne (Or.inl (hw _ (List.mem_of_getElem? (i := 28) rfl))) (Or.inl (hw _ (List.mem_of_getElem? (i := 21) rfl))) (by decide) (t := (.array (.array .byte))) (t' := .int) (by decide) (by decide)))
  replace F_taken := F_taken.other W8 (Or.inr (slot_ne (Or.inl (hw _ (List.mem_of_getElem? (i := 38) rfl))) (Or.inl (hw _ (List.mem_of_getElem? (i := 21) rfl))) (by decide) (t := (.array .char)) (t' := .int) (by decide) (by decide)))
  replace F_pagesHeld := F_pagesHeld.other W8 (Or.inr (slot_ne (Or.inl (hw _ (List.mem_of_getElem? (i := 46) rfl))) (Or.inl (hw _ (List.mem_of_getElem? (i := 21) rfl))) (by decide) (t := .int) (t' := .int) (by decide) (by decide)))
  replace F_size := F_size.other W8 (Or.inr (slot_ne (Or.inl (hw _ (List.mem_of_getElem? (i := 48) rfl))) (Or.inl (hw _ (List.mem_of_getElem? (i := 21) rfl))) (by decide) (t := .int) (t' := .int) (by decide) (by decide)))
  replace G_P := G_P.other W8 (Ne.symm ne_a1_P)
  replace G_K := G_K.other W8 (Ne.symm ne_a1_K)
  replace PG := PG.wr W8 (Or.inr (Or.inr rfl))
  replace Z0 := Nat.le_trans Z0 (Keep.of_wr W8).1
  replace hs0 := Nat.le_trans hs0 (Keep.of_wr W8).1
  show own_Go _ _ _ _ (T8.setTop (mkF m 50 #[.val (.ref a1), .val (.int x), .val (.ref a3), .val (.int (own_pg x)), .val (.int (-1 : Int32))] []))
  refine own_go (fun _ kont => XS.aloadN X8.here hx rfl (hb hby own_d5_50) rfl rfl kont) ?_
  show own_Go _ _ _ _ (T8.setTop (mkF m 51 #[.val (.ref a1), .val (.int x), .val (.ref a3), .val (.int (own_pg x)), .val (.int (-1 : Int32))] [(.ref a1)]))
  refine own_go (fun _ kont => XS.iload X8.here hx rfl (hb hby own_d5_51) rfl kont) ?_
  show own_Go _ _ _ _ (T8.setTop (mkF m 53 #[.val (.ref a1), .val (.int x), .val (.ref a3), .val (.int (own_pg x)), .val (.int (-1 : Int32))] [(.int (-1 : Int32)), (.ref a1)]))
  obtain ⟨cq9, q9, q9'⟩ := E1.cell
  obtain ⟨_, _, ⟨T9, L9, k9, n9⟩, -, X9, ⟨Lc9, hQ9, l9, y9, z9⟩, st9⟩ := X8.privateBack hx (y := (⟨"com/example/utopic/utopic/broker/MessageIds", "dropIfEmpty", "(I)V"⟩ : MethodName)) hown (mvT hZ (hw _ (List.mem_of_getElem? (i := 39) rfl))) (mvT hZ (hw _ (List.mem_of_getElem? (i := 40) rfl))) (own_selp (args := #[]) (args' := #[]) (args'' := #[]) (by decide) (mvT hZ (hw _ (List.mem_of_getElem? (i := 12) rfl))) (mvP hZ (hw _ (List.mem_of_getElem? (i := 41) rfl))) (mvT hZ (hw _ (List.mem_of_getElem? (i := 40) rfl)))) (Cond.privateMethod_at (mvP hZ (hw _ (List.mem_of_getElem? (i := 41) rfl)) (args := #[]))) (mvT hZ (hw _ (List.mem_of_getElem? (i := 42) rfl))) (by decide) (own_back (W := 0) (own_rmDn l Z a0 hw a1 h8 n0 Z0) hZ (hw _ (List.mem_of_getElem? (i := 42) rfl)) (hw _ (List.mem_of_getElem? (i := 13) rfl)) (by decide) (by decide)) (g := (mkF m 53 #[.val (.ref a1), .val (.int x), .val (.ref a3), .val (.int (own_pg x)), .val (.int (-1 : Int32))] [(.int (-1 : Int32)), (.ref a1)])) rfl (by rw [hml]; rfl) (Steps.refl _) (a := a1) (own_hp e8 q9) q9' (argsL := [(.int (-1 : Int32))]) (rest := []) (lenOf own_pd0 rfl) rfl (by show 2 * 0 + _ ≤ _; exact Nat.le_of_eq rfl) (hb hby own_d5_53) (fun _ _ => ⟨rfl, e8, (by decide : 2 + 0 ≤ _), (by decide : 512 + 0 ≤ _)⟩)
  dsimp only [Pt.U, Pt.locs, Pt.cells, Pt.slots] at X9 l9 y9 z9 st9 hQ9
  replace X9 := own_cst X9 l9 y9 z9 (k2 := 2) (n2 := 512) rfl rfl
  clear l9 y9 z9
  obtain ⟨rfl, Nq9, eq9⟩ := hQ9
  have NF9 := Fr.app NF8 Nq9
  refine own_goT st9 ?_
  show own_Go _ _ _ _ (T9.setTop (mkF m 56 #[.val (.ref a1), .val (.int x), .val (.ref a3), .val (.int (own_pg x)), .val (.int (-1 : Int32))] []))
  refine own_go (fun _ kont => XS.aloadN X9.here hx rfl (hb hby own_d5_56) rfl rfl kont) ?_
  show own_Go _ _ _ _ (T9.setTop (mkF m 57 #[.val (.ref a1), .val (.int x), .val (.ref a3), .val (.int (own_pg x)), .val (.int (-1 : Int32))] [(.ref a1)]))
  obtain ⟨T10, X10, e10, st10⟩ := getF X9 hx hZ hown (host := "") (Or.inl (hw _ (List.mem_of_getElem? (i := 27) rfl))) Via.refl eq9 F_pages (g := (mkF m 57 #[.val (.ref a1), .val (.int x), .val (.ref a3), .val (.int (own_pg x)), .val (.int (-1 : Int32))] [(.ref a1)])) rfl rfl (hb hby own_d5_57)
  refine own_go st10 ?_
  show own_Go _ _ _ _ (T10.setTop (mkF m 60 #[.val (.ref a1), .val (.int x), .val (.ref a3), .val (.int (own_pg x)), .val (.int (-1 : Int32))] [(.ref P)]))
  refine own_go (fun _ kont => XS.iloadN X10.here hx rfl (hb hby own_d5_60) rfl kont) ?_
  show own_Go _ _ _ _ (T10.setTop (mkF m 61 #[.val (.ref a1), .val (.int x), .val (.ref a3), .val (.int (own_pg x)), .val (.int (-1 : Int32))] [(.int (own_pg x)), (.ref P)]))
  obtain ⟨cl11, Ar11, q11, Sz11, Hs11⟩ := id G_P
  have hin11 := own_in Sz11 pg0 pg1
  have hat11 : cl11.slots[((own_pg x)).toNatClampNeg]? = some .null := (Hs11 _ pg1).trans (congrArg some rfl)
  refine own_go (X10.aaload hx (j := (own_pg x)) (v := .null) (own_hp e10 Ar11.1) (State.isArrayOf_alike hZ.alike Ar11.2.1) rfl Ar11.2.2 hin11 hat11 (g := (mkF m 61 #[.val (.ref a1), .val (.int x), .val (.ref a3), .val (.int (own_pg x)), .val (.int (-1 : Int32))] [(.int (own_pg x)), (.ref P)])) rfl rfl (hb hby own_d5_61)) ?_
  show own_Go _ _ _ _ (T10.setTop (mkF m 62 #[.val (.ref a1), .val (.int x), .val (.ref a3), .val (.int (own_pg x)), .val (.int (-1 : Int32))] [.null]))
  refine own_go (fun _ kont => XS.ifnonnullNo X10.here hx rfl (hb hby own_d5_62) rfl kont) ?_
  show own_Go _ _ _ _ (T10.setTop (mkF m 65 #[.val (.ref a1), .val (.int x), .val (.ref a3), .val (.int (own_pg x)), .val (.int (-1 : Int32))] []))
  refine own_go (fun _ kont => XS.aloadN X10.here hx rfl (hb hby own_d5_65) rfl rfl kont) ?_
  show own_Go _ _ _ _ (T10.setTop (mkF m 66 #[.val (.ref a1), .val (.int x), .val (.ref a3), .val (.int (own_pg x)), .val (.int (-1 : Int32))] [(.ref a1)]))
  obtain ⟨T12, X12, e12, st12⟩ := getF X10 hx hZ hown (host := "") (Or.inl (hw _ (List.mem_of_getElem? (i := 27) rfl))) Via.refl e10 F_pages (g := (mkF m 66 #[.val (.ref a1), .val (.int x), .val (.ref a3), .val (.int (own_pg x)), .val (.int (-1 : Int32))] [(.ref a1)])) rfl rfl (hb hby own_d5_66)
  refine own_go st12 ?_
  show own_Go _ _ _ _ (T12.setTop (mkF m 69 #[.val (.ref a1), .val (.int x), .val (.ref a3), .val (.int (own_pg x)), .val (.int (-1 : Int32))] [(.ref P)]))
  refine own_go (fun _ kont => XS.iloadN X12.here hx rfl (hb hby own_d5_69) rfl kont) ?_
  show own_Go _ _ _ _ (T12.setTop (mkF m 70 #[.val (.ref a1), .val (.int x), .val (.ref a3), .val (.int (own_pg x)), .val (.int (-1 : Int32))] [(.int (own_pg x)), (.ref P)]))
  refine own_go (fun _ kont => XS.sipush X12.here hx rfl (hb hby own_d5_70) kont) ?_
  show own_Go _ _ _ _ (T12.setTop (mkF m 73 #[.val (.ref a1), .val (.int x), .val (.ref a3), .val (.int (own_pg x)), .val (.int (-1 : Int32))] [(.int (256 : Int32)), (.int (own_pg x)), (.ref P)]))
  have hf : (fun _ => Value.null : Nat → Value) (x.toNatClampNeg / 256) = .null := rfl
  obtain ⟨T13, h13, k13, X13, e13, E13, A13, ExA, st13⟩ := newPE X12 hx hZ (hw _ (List.mem_of_getElem? (i := 43) rfl)) e12 (g := (mkF m 73 #[.val (.ref a1), .val (.int x), .val (.ref a3), .val (.int (own_pg x)), .val (.int (-1 : Int32))] [(.int (256 : Int32)), (.int (own_pg x)), (.ref P)])) rfl (hb hby own_d5_73) rfl (by decide) (cap := 256) (by decide) (by decide) (by decide) (by decide) (ad := "[B") (by decide)
  obtain ⟨A, gA⟩ : ∃ z, z = h8.size := ⟨_, rfl⟩
  rw [← gA] at A13 ExA st13
  refine own_go st13 ?_
  have ge_A : n0 ≤ A := Nat.le_trans Z0 (Nat.le_of_eq gA.symm)
  have ne_a1_A : a1 ≠ A := Nat.ne_of_lt (Nat.lt_of_lt_of_le E1.lt (Nat.le_of_eq gA.symm))
  have ne_P_A : P ≠ A := Nat.ne_of_lt (Nat.lt_of_lt_of_le G_P.lt (Nat.le_of_eq gA.symm))
  have ne_K_A : K ≠ A := Nat.ne_of_lt (Nat.lt_of_lt_of_le G_K.lt (Nat.le_of_eq gA.symm))
  have hnew : ∀ j, j < 256 → (fun _ => Value.null : Nat → Value) j ≠ .ref A := fun j hj q => by
    rcases PG j hj with r | ⟨B, kB, r1, r2, r3, r4, r5, r6⟩
    · rw [r] at q; cases q
    · rw [r1] at q; cases q; exact absurd r6.lt (Nat.not_lt.mpr (Nat.le_of_eq gA.symm))
  replace O := O.ext E13
  replace E1 := E1.ext E13
  replace F_pages := F_pages.ext E13
  replace F_taken := F_taken.ext E13
  replace F_lastPage := F_lastPage.ext E13
  replace F_pagesHeld := F_pagesHeld.ext E13
  replace F_size := F_size.ext E13
  replace G_P := G_P.ext E13
  replace G_K := G_K.ext E13
  replace PG := PG.ext E13
  replace Z0 := Nat.le_trans Z0 E13.1
  replace hs0 := Nat.le_trans hs0 E13.1
  have GA : own_Arf Z h13 A k13 .byte 256 (fun j => .int (val (256 * (x.toNatClampNeg / 256) + j))) := (own_Arf.new A13 (by decide)).cong fun j hj => by show Value.int 0 = _; rw [IV.1 _ pgl hf j hj]
  show own_Go _ _ _ _ (T13.setTop (mkF m 75 #[.val (.ref a1), .val (.int x), .val (.ref a3), .val (.int (own_pg x)), .val (.int (-1 : Int32))] [(.ref A), (.int (own_pg x)), (.ref P)]))
  obtain ⟨cl14, Ar14, q14, Sz14, Hs14⟩ := id G_P
  have hin14 := own_in Sz14 pg0 pg1
  obtain ⟨T14, h14, X14, e14, W14, st14⟩ := stR X13 hx hZ e13 Ar14 (j := (own_pg x)) hin14 rfl (Sto.ofVA Ar14 q14 OvP (Ins.self ExA)) (g := (mkF m 75 #[.val (.ref a1), .val (.int x), .val (.ref a3), .val (.int (own_pg x)), .val (.int (-1 : Int32))] [(.ref A), (.int (own_pg x)), (.ref P)])) rfl rfl (hb hby own_d5_75)
  refine own_go st14 ?_
  have NF14 := Fr.snoc X14 NF9 ge_P
  replace G_P : own_Arf Z h14 P k2 (.array .byte) 256 (fun j => if j = x.toNatClampNeg / 256 then Value.ref A else (fun _ => Value.null : Nat → Value) j) := ((G_P.set W14 pg1).cong fun j hj => by rw [pgn])
  replace O := O.wr W14 ge_P
  replace E1 := E1.wr W14
  replace F_pages := F_pages.other W14 (Or.inl ne_a1_P)
  replace F_taken := F_taken.other W14 (Or.inl ne_a1_P)
  replace F_lastPage := F_lastPage.other W14 (Or.inl ne_a1_P)
  replace F_pagesHeld := F_pagesHeld.other W14 (Or.inl ne_a1_P)
  replace F_size := F_size.other W14 (Or.inl ne_a1_P)
  replace G_K := G_K.other W14 (Ne.symm ne_P_K)
  replace PG := PG.wr W14 (Or.inl rfl)
  replace GA := GA.other W14 (Ne.symm ne_P_A)
  replace Z0 := Nat.le_trans Z0 (Keep.of_wr W14).1
  replace hs0 := Nat.le_trans hs0 (Keep.of_wr W14).1
  show own_Go _ _ _ _ (T14.setTop (mkF m 76 #[.val (.ref a1), .val (.int x), .val (.ref a3), .val (.int (own_pg x)), .val (.int (-1 : Int32))] []))
  replace PG := PG.page (i := x.toNatClampNeg / 256) ge_A (Ne.symm ne_P_A) (Ne.symm ne_K_A) (Ne.symm ne_a1_A) GA
  have IV := IV.page (i := x.toNatClampNeg / 256) hnew
  have hfp : (fun j => if j = x.toNatClampNeg / 256 then Value.ref A else (fun _ => Value.null : Nat → Value) j) (x.toNatClampNeg / 256) = .ref A := if_pos rfl
  show own_Go _ _ _ _ (T14.setTop (mkF m 76 #[.val (.ref a1), .val (.int x), .val (.ref a3), .val (.int (own_pg x)), .val (.int (-1 : Int32))] []))
  refine own_go (fun _ kont => XS.aloadN X14.here hx rfl (hb hby own_d5_76) rfl rfl kont) ?_
  show own_Go _ _ _ _ (T14.setTop (mkF m 77 #[.val (.ref a1), .val (.int x), .val (.ref a3), .val (.int (own_pg x)), .val (.int (-1 : Int32))] [(.ref a1)]))
  refine own_go (fun _ kont => XS.dup X14.here hx rfl (hb hby own_d5_77) rfl rfl kont) ?_
  show own_Go _ _ _ _ (T14.setTop (mkF m 78 #[.val (.ref a1), .val (.int x), .val (.ref a3), .val (.int (own_pg x)), .val (.int (-1 : Int32))] [(.ref a1), (.ref a1)]))
  obtain ⟨T15, X15, e15, st15⟩ := getF X14 hx hZ hown (host := "") (Or.inl (hw _ (List.mem_of_getElem? (i := 45) rfl))) Via.refl e14 F_pagesHeld (g := (mkF m 78 #[.val (.ref a1), .val (.int x), .val (.ref a3), .val (.int (own_pg x)), .val (.int (-1 : Int32))] [(.ref a1), (.ref a1)])) rfl rfl (hb hby own_d5_78)
  refine own_go st15 ?_
  show own_Go _ _ _ _ (T15.setTop (mkF m 81 #[.val (.ref a1), .val (.int x), .val (.ref a3), .val (.int (own_pg x)), .val (.int (-1 : Int32))] [(.int (0 : Int32)), (.ref a1)]))
  refine own_go (fun _ kont => XS.iconst X15.here hx rfl (hb hby own_d5_81) kont) ?_
  show own_Go _ _ _ _ (T15.setTop (mkF m 82 #[.val (.ref a1), .val (.int x), .val (.ref a3), .val (.int (own_pg x)), .val (.int (-1 : Int32))] [(.int (1 : Int32)), (.int (0 : Int32)), (.ref a1)]))
  refine own_go (fun _ kont => XS.iadd X15.here hx rfl (hb hby own_d5_82) rfl kont) ?_
  show own_Go _ _ _ _ (T15.setTop (mkF m 83 #[.val (.ref a1), .val (.int x), .val (.ref a3), .val (.int (own_pg x)), .val (.int (-1 : Int32))] [(.int (1 : Int32)), (.ref a1)]))
  obtain ⟨T16, h16, X16, e16, W16, st16⟩ := putF X15 hx hZ hown (host := "") (Or.inl (hw _ (List.mem_of_getElem? (i := 45) rfl))) Via.refl e15 F_pagesHeld E1 (Or.inl (hw _ (List.mem_of_getElem? (i := 46) rfl))) (hw _ (List.mem_of_getElem? (i := 12) rfl)) (ty := .int) (by decide) rfl rfl (g := (mkF m 83 #[.val (.ref a1), .val (.int x), .val (.ref a3), .val (.int (own_pg x)), .val (.int (-1 : Int32))] [(.int (1 : Int32)), (.ref a1)])) rfl rfl (hb hby own_d5_83)
  refine own_go st16 ?_
  have NF16 := Fr.snoc X16 NF14 ge_a1
  replace F_pagesHeld := F_pagesHeld.same W16
  replace O := O.wr W16 ge_a1
  replace E1 := E1.wr W16
  replace F_pages := F_pages.other W16 (Or.inr (slot_ne (Or.inl (hw _ (List.mem_of_getElem? (i := 28) rfl))) (Or.inl (hw _ (List.mem_of_getElem? (i := 46) rfl))) (by decide) (t := (.array (.array .byte))) (t' := .int) (by decide) (by decide)))
  replace F_taken := F_taken.other W16 (Or.inr (slot_ne (Or.inl (hw _ (List.mem_of_getElem? (i := 38) rfl))) (Or.inl (hw _ (List.mem_of_getElem? (i := 46) rfl))) (by decide) (t := (.array .char)) (t' := .int) (by decide) (by decide)))
  replace F_lastPage := F_lastPage.other W16 (Or.inr (slot_ne (Or.inl (hw _ (List.mem_of_getElem? (i := 21) rfl))) (Or.inl (hw _ (List.mem_of_getElem? (i := 46) rfl))) (by decide) (t := .int) (t' := .int) (by decide) (by decide)))
  replace F_size := F_size.other W16 (Or.inr (slot_ne (Or.inl (hw _ (List.mem_of_getElem? (i := 48) rfl))) (Or.inl (hw _ (List.mem_of_getElem? (i := 46) rfl))) (by decide) (t := .int) (t' := .int) (by decide) (by decide)))
  replace G_P := G_P.other W16 (Ne.symm ne_a1_P)
  replace G_K := G_K.other W16 (Ne.symm ne_a1_K)
  replace PG := PG.wr W16 (Or.inr (Or.inr rfl))
  replace GA := GA.other W16 (Ne.symm ne_a1_A)
  replace Z0 := Nat.le_trans Z0 (Keep.of_wr W16).1
  replace hs0 := Nat.le_trans hs0 (Keep.of_wr W16).1
  show own_Go _ _ _ _ (T16.setTop (mkF m 86 #[.val (.ref a1), .val (.int x), .val (.ref a3), .val (.int (own_pg x)), .val (.int (-1 : Int32))] []))
  refine own_go (fun _ kont => XS.iloadN X16.here hx rfl (hb hby own_d5_86) rfl kont) ?_
  show own_Go _ _ _ _ (T16.setTop (mkF m 87 #[.val (.ref a1), .val (.int x), .val (.ref a3), .val (.int (own_pg x)), .val (.int (-1 : Int32))] [(.int x)]))
  refine own_go (fun _ kont => XS.sipush X16.here hx rfl (hb hby own_d5_87) kont) ?_
  show own_Go _ _ _ _ (T16.setTop (mkF m 90 #[.val (.ref a1), .val (.int x), .val (.ref a3), .val (.int (own_pg x)), .val (.int (-1 : Int32))] [(.int (255 : Int32)), (.int x)]))
  refine own_go (fun _ kont => XS.iand X16.here hx rfl (hb hby own_d5_90) rfl kont) ?_
  show own_Go _ _ _ _ (T16.setTop (mkF m 91 #[.val (.ref a1), .val (.int x), .val (.ref a3), .val (.int (own_pg x)), .val (.int (-1 : Int32))] [(.int (own_sl x))]))
  refine own_go (fun _ kont => XS.istore X16.here hx rfl (hb hby own_d5_91) rfl (l' := #[.val (.ref a1), .val (.int x), .val (.ref a3), .val (.int (own_pg x)), .val (.int (own_sl x))]) rfl kont) ?_
  show own_Go _ _ _ _ (T16.setTop (mkF m 93 #[.val (.ref a1), .val (.int x), .val (.ref a3), .val (.int (own_pg x)), .val (.int (own_sl x))] []))
  refine own_go (fun _ kont => XS.aloadN X16.here hx rfl (hb hby own_d5_93) rfl rfl kont) ?_
  show own_Go _ _ _ _ (T16.setTop (mkF m 94 #[.val (.ref a1), .val (.int x), .val (.ref a3), .val (.int (own_pg x)), .val (.int (own_sl x))] [(.ref a1)]))
  obtain ⟨T17, X17, e17, st17⟩ := getF X16 hx hZ hown (host := "") (Or.inl (hw _ (List.mem_of_getElem? (i := 27) rfl))) Via.refl e16 F_pages (g := (mkF m 94 #[.val (.ref a1), .val (.int x), .val (.ref a3), .val (.int (own_pg x)), .val (.int (own_sl x))] [(.ref a1)])) rfl rfl (hb hby own_d5_94)
  refine own_go st17 ?_
  show own_Go _ _ _ _ (T17.setTop (mkF m 97 #[.val (.ref a1), .val (.int x), .val (.ref a3), .val (.int (own_pg x)), .val (.int (own_sl x))] [(.ref P)]))
  refine own_go (fun _ kont => XS.iloadN X17.here hx rfl (hb hby own_d5_97) rfl kont) ?_
  show own_Go _ _ _ _ (T17.setTop (mkF m 98 #[.val (.ref a1), .val (.int x), .val (.ref a3), .val (.int (own_pg x)), .val (.int (own_sl x))] [(.int (own_pg x)), (.ref P)]))
  obtain ⟨cl18, Ar18, q18, Sz18, Hs18⟩ := id G_P
  have hin18 := own_in Sz18 pg0 pg1
  have hat18 : cl18.slots[((own_pg x)).toNatClampNeg]? = some (.ref A) := (Hs18 _ pg1).trans (congrArg some (by rw [pgn]; exact hfp))
  refine own_go (X17.aaload hx (j := (own_pg x)) (v := (.ref A)) (own_hp e17 Ar18.1) (State.isArrayOf_alike hZ.alike Ar18.2.1) rfl Ar18.2.2 hin18 hat18 (g := (mkF m 98 #[.val (.ref a1), .val (.int x), .val (.ref a3), .val (.int (own_pg x)), .val (.int (own_sl x))] [(.int (own_pg x)), (.ref P)])) rfl rfl (hb hby own_d5_98)) ?_
  show own_Go _ _ _ _ (T17.setTop (mkF m 99 #[.val (.ref a1), .val (.int x), .val (.ref a3), .val (.int (own_pg x)), .val (.int (own_sl x))] [(.ref A)]))
  refine own_go (fun _ kont => XS.iload X17.here hx rfl (hb hby own_d5_99) rfl kont) ?_
  show own_Go _ _ _ _ (T17.setTop (mkF m 101 #[.val (.ref a1), .val (.int x), .val (.ref a3), .val (.int (own_pg x)), .val (.int (own_sl x))] [(.int (own_sl x)), (.ref A)]))
  obtain ⟨cl19, Ar19, q19, Sz19, Hs19⟩ := id GA
  have hin19 := own_in Sz19 sl0 sl1
  have hat19 : cl19.slots[((own_sl x)).toNatClampNeg]? = some (.int (val x.toNatClampNeg)) := (Hs19 _ sl1).trans (congrArg some (by show Value.int _ = _; rw [sln, own_x]))
  refine own_go (X17.baloadBytes hx (j := (own_sl x)) (v := (.int (val x.toNatClampNeg))) (own_hp e17 Ar19.1) (State.isArrayOf_alike hZ.alike Ar19.2.1) Ar19.2.2 hin19 hat19 (g := (mkF m 101 #[.val (.ref a1), .val (.int x), .val (.ref a3), .val (.int (own_pg x)), .val (.int (own_sl x))] [(.int (own_sl x)), (.ref A)])) rfl rfl (hb hby own_d5_101)) ?_
  show own_Go _ _ _ _ (T17.setTop (mkF m 102 #[.val (.ref a1), .val (.int x), .val (.ref a3), .val (.int (own_pg x)), .val (.int (own_sl x))] [(.int (val x.toNatClampNeg))]))
  refine own_go (fun _ kont => XS.ifNo X17.here hx rfl (hb hby own_d5_102) rfl ((if0 _ _).trans (teq (hz _ xl)).2) kont) ?_
  show own_Go _ _ _ _ (T17.setTop (mkF m 105 #[.val (.ref a1), .val (.int x), .val (.ref a3), .val (.int (own_pg x)), .val (.int (own_sl x))] []))
  refine own_go (fun _ kont => XS.aloadN X17.here hx rfl (hb hby own_d5_105) rfl rfl kont) ?_
  show own_Go _ _ _ _ (T17.setTop (mkF m 106 #[.val (.ref a1), .val (.int x), .val (.ref a3), .val (.int (own_pg x)), .val (.int (own_sl x))] [(.ref a1)]))
  obtain ⟨T20, X20, e20, st20⟩ := getF X17 hx hZ hown (host := "") (Or.inl (hw _ (List.mem_of_getElem? (i := 37) rfl))) Via.refl e17 F_taken (g := (mkF m 106 #[.val (.ref a1), .val (.int x), .val (.ref a3), .val (.int (own_pg x)), .val (.int (own_sl x))] [(.ref a1)])) rfl rfl (hb hby own_d5_106)
  refine own_go st20 ?_
  show own_Go _ _ _ _ (T20.setTop (mkF m 109 #[.val (.ref a1), .val (.int x), .val (.ref a3), .val (.int (own_pg x)), .val (.int (own_sl x))] [(.ref K)]))
  refine own_go (fun _ kont => XS.iloadN X20.here hx rfl (hb hby own_d5_109) rfl kont) ?_
  show own_Go _ _ _ _ (T20.setTop (mkF m 110 #[.val (.ref a1), .val (.int x), .val (.ref a3), .val (.int (own_pg x)), .val (.int (own_sl x))] [(.int (own_pg x)), (.ref K)]))
  refine own_go (fun _ kont => Jvm.Free.XT.dup2 X20.here hx rfl (hb hby own_d5_110) rfl rfl rfl kont) ?_
  show own_Go _ _ _ _ (T20.setTop (mkF m 111 #[.val (.ref a1), .val (.int x), .val (.ref a3), .val (.int (own_pg x)), .val (.int (own_sl x))] [(.int (own_pg x)), (.ref K), (.int (own_pg x)), (.ref K)]))
  obtain ⟨cl21, Ar21, q21, Sz21, Hs21⟩ := id G_K
  have hin21 := own_in Sz21 pg0 pg1
  have hat21 : cl21.slots[((own_pg x)).toNatClampNeg]? = some (.int (Int32.ofNat (own_cnt [] (x.toNatClampNeg / 256)))) := (Hs21 _ pg1).trans (congrArg some (by show Value.int _ = _; rw [pgn]))
  refine own_go (X20.caload hx (j := (own_pg x)) (v := (.int (Int32.ofNat (own_cnt [] (x.toNatClampNeg / 256))))) (own_hp e20 Ar21.1) (State.isArrayOf_alike hZ.alike Ar21.2.1) Ar21.2.2 hin21 hat21 (g := (mkF m 111 #[.val (.ref a1), .val (.int x), .val (.ref a3), .val (.int (own_pg x)), .val (.int (own_sl x))] [(.int (own_pg x)), (.ref K), (.int (own_pg x)), (.ref K)])) rfl rfl (hb hby own_d5_111)) ?_
  show own_Go _ _ _ _ (T20.setTop (mkF m 112 #[.val (.ref a1), .val (.int x), .val (.ref a3), .val (.int (own_pg x)), .val (.int (own_sl x))] [(.int (Int32.ofNat (own_cnt [] (x.toNatClampNeg / 256)))), (.int (own_pg x)), (.ref K)]))
  refine own_go (fun _ kont => XS.iconst X20.here hx rfl (hb hby own_d5_112) kont) ?_
  show own_Go _ _ _ _ (T20.setTop (mkF m 113 #[.val (.ref a1), .val (.int x), .val (.ref a3), .val (.int (own_pg x)), .val (.int (own_sl x))] [(.int (1 : Int32)), (.int (Int32.ofNat (own_cnt [] (x.toNatClampNeg / 256)))), (.int (own_pg x)), (.ref K)]))
  refine own_go (fun _ kont => XS.iadd X20.here hx rfl (hb hby own_d5_113) rfl kont) ?_
  show own_Go _ _ _ _ (T20.setTop (mkF m 114 #[.val (.ref a1), .val (.int x), .val (.ref a3), .val (.int (own_pg x)), .val (.int (own_sl x))] [(.int ((Int32.ofNat (own_cnt [] (x.toNatClampNeg / 256))) + (1 : Int32))), (.int (own_pg x)), (.ref K)]))
  refine own_go (fun _ kont => XS.i2c X20.here hx rfl (hb hby own_d5_114) rfl kont) ?_
  show own_Go _ _ _ _ (T20.setTop (mkF m 115 #[.val (.ref a1), .val (.int x), .val (.ref a3), .val (.int (own_pg x)), .val (.int (own_sl x))] [(.int (((Int32.ofNat (own_cnt [] (x.toNatClampNeg / 256))) + (1 : Int32)).toUInt32.toUInt16.toUInt32.toInt32)), (.int (own_pg x)), (.ref K)]))
  have cl : own_cnt [] (x.toNatClampNeg / 256) ≤ 100 := Nat.le_trans (own_cnt_le _ _) IV.2.2.2.2
  obtain ⟨cl22, Ar22, q22, Sz22, Hs22⟩ := id G_K
  have hin22 := own_in Sz22 pg0 pg1
  obtain ⟨T22, h22, X22, e22, W22, st22⟩ := stC X20 hx hZ e20 Ar22 (j := (own_pg x)) hin22 (g := (mkF m 115 #[.val (.ref a1), .val (.int x), .val (.ref a3), .val (.int (own_pg x)), .val (.int (own_sl x))] [(.int (((Int32.ofNat (own_cnt [] (x.toNatClampNeg / 256))) + (1 : Int32)).toUInt32.toUInt16.toUInt32.toInt32)), (.int (own_pg x)), (.ref K)])) rfl rfl (hb hby own_d5_115)
  refine own_go st22 ?_
  have NF22 := Fr.snoc X22 NF16 ge_K
  replace G_K : own_Arf Z h22 K k4 .char 256 (fun i => .int (Int32.ofNat (own_cnt (x.toNatClampNeg :: []) i))) := ((G_K.set W22 pg1).cong fun j hj => by rw [pgn, own_inc cl, own_cnt_cons]; by_cases e : j = x.toNatClampNeg / 256 <;> simp [e, eq_comm])
  replace O := O.wr W22 ge_K
  replace E1 := E1.wr W22
  replace F_pages := F_pages.other W22 (Or.inl ne_a1_K)
  replace F_taken := F_taken.other W22 (Or.inl ne_a1_K)
  replace F_lastPage := F_lastPage.other W22 (Or.inl ne_a1_K)
  replace F_pagesHeld := F_pagesHeld.other W22 (Or.inl ne_a1_K)
  replace F_size := F_size.other W22 (Or.inl ne_a1_K)
  replace G_P := G_P.other W22 ne_P_K
  replace PG := PG.wr W22 (Or.inr (Or.inl rfl))
  replace GA := GA.other W22 (Ne.symm ne_K_A)
  replace Z0 := Nat.le_trans Z0 (Keep.of_wr W22).1
  replace hs0 := Nat.le_trans hs0 (Keep.of_wr W22).1
  show own_Go _ _ _ _ (T22.setTop (mkF m 116 #[.val (.ref a1), .val (.int x), .val (.ref a3), .val (.int (own_pg x)), .val (.int (own_sl x))] []))
  refine own_go (fun _ kont => XS.aloadN X22.here hx rfl (hb hby own_d5_116) rfl rfl kont) ?_
  show own_Go _ _ _ _ (T22.setTop (mkF m 117 #[.val (.ref a1), .val (.int x), .val (.ref a3), .val (.int (own_pg x)), .val (.int (own_sl x))] [(.ref a1)]))
  refine own_go (fun _ kont => XS.dup X22.here hx rfl (hb hby own_d5_117) rfl rfl kont) ?_
  show own_Go _ _ _ _ (T22.setTop (mkF m 118 #[.val (.ref a1), .val (.int x), .val (.ref a3), .val (.int (own_pg x)), .val (.int (own_sl x))] [(.ref a1), (.ref a1)]))
  obtain ⟨T23, X23, e23, st23⟩ := getF X22 hx hZ hown (host := "") (Or.inl (hw _ (List.mem_of_getElem? (i := 47) rfl))) Via.refl e22 F_size (g := (mkF m 118 #[.val (.ref a1), .val (.int x), .val (.ref a3), .val (.int (own_pg x)), .val (.int (own_sl x))] [(.ref a1), (.ref a1)])) rfl rfl (hb hby own_d5_118)
  refine own_go st23 ?_
  show own_Go _ _ _ _ (T23.setTop (mkF m 121 #[.val (.ref a1), .val (.int x), .val (.ref a3), .val (.int (own_pg x)), .val (.int (own_sl x))] [(.int (0 : Int32)), (.ref a1)]))
  refine own_go (fun _ kont => XS.iconst X23.here hx rfl (hb hby own_d5_121) kont) ?_
  show own_Go _ _ _ _ (T23.setTop (mkF m 122 #[.val (.ref a1), .val (.int x), .val (.ref a3), .val (.int (own_pg x)), .val (.int (own_sl x))] [(.int (1 : Int32)), (.int (0 : Int32)), (.ref a1)]))
  refine own_go (fun _ kont => XS.iadd X23.here hx rfl (hb hby own_d5_122) rfl kont) ?_
  show own_Go _ _ _ _ (T23.setTop (mkF m 123 #[.val (.ref a1), .val (.int x), .val (.ref a3), .val (.int (own_pg x)), .val (.int (own_sl x))] [(.int (1 : Int32)), (.ref a1)]))
  obtain ⟨T24, h24, X24, e24, W24, st24⟩ := putF X23 hx hZ hown (host := "") (Or.inl (hw _ (List.mem_of_getElem? (i := 47) rfl))) Via.refl e23 F_size E1 (Or.inl (hw _ (List.mem_of_getElem? (i := 48) rfl))) (hw _ (List.mem_of_getElem? (i := 12) rfl)) (ty := .int) (by decide) rfl rfl (g := (mkF m 123 #[.val (.ref a1), .val (.int x), .val (.ref a3), .val (.int (own_pg x)), .val (.int (own_sl x))] [(.int (1 : Int32)), (.ref a1)])) rfl rfl (hb hby own_d5_123)
  refine own_go st24 ?_
  have NF24 := Fr.snoc X24 NF22 ge_a1
  replace F_size := F_size.same W24
  replace O := O.wr W24 ge_a1
  replace E1 := E1.wr W24
  replace F_pages := F_pages.other W24 (Or.inr (slot_ne (Or.inl (hw _ (List.mem_of_getElem? (i := 28) rfl))) (Or.inl (hw _ (List.mem_of_getElem? (i := 48) rfl))) (by decide) (t := (.array (.array .byte))) (t' := .int) (by decide) (by decide)))
  replace F_taken := F_taken.other W24 (Or.inr (slot_ne (Or.inl (hw _ (List.mem_of_getElem? (i := 38) rfl))) (Or.inl (hw _ (List.mem_of_getElem? (i := 48) rfl))) (by decide) (t := (.array .char)) (t' := .int) (by decide) (by decide)))
  replace F_lastPage := F_lastPage.other W24 (Or.inr (slot_ne (Or.inl (hw _ (List.mem_of_getElem? (i := 21) rfl))) (Or.inl (hw _ (List.mem_of_getElem? (i := 48) rfl))) (by decide) (t := .int) (t' := .int) (by decide) (by decide)))
  replace F_pagesHeld := F_pagesHeld.other W24 (Or.inr (slot_ne (Or.inl (hw _ (List.mem_of_getElem? (i := 46) rfl))) (Or.inl (hw _ (List.mem_of_getElem? (i := 48) rfl))) (by decide) (t := .int) (t' := .int) (by decide) (by decide)))
  replace G_P := G_P.other W24 (Ne.symm ne_a1_P)
  replace G_K := G_K.other W24 (Ne.symm ne_a1_K)
  replace PG := PG.wr W24 (Or.inr (Or.inr rfl))
  replace GA := GA.other W24 (Ne.symm ne_a1_A)
  replace Z0 := Nat.le_trans Z0 (Keep.of_wr W24).1
  replace hs0 := Nat.le_trans hs0 (Keep.of_wr W24).1
  show own_Go _ _ _ _ (T24.setTop (mkF m 126 #[.val (.ref a1), .val (.int x), .val (.ref a3), .val (.int (own_pg x)), .val (.int (own_sl x))] []))
  refine own_go (fun _ kont => XS.aloadN X24.here hx rfl (hb hby own_d5_126) rfl rfl kont) ?_
  show own_Go _ _ _ _ (T24.setTop (mkF m 127 #[.val (.ref a1), .val (.int x), .val (.ref a3), .val (.int (own_pg x)), .val (.int (own_sl x))] [(.ref a1)]))
  obtain ⟨T25, X25, e25, st25⟩ := getF X24 hx hZ hown (host := "") (Or.inl (hw _ (List.mem_of_getElem? (i := 27) rfl))) Via.refl e24 F_pages (g := (mkF m 127 #[.val (.ref a1), .val (.int x), .val (.ref a3), .val (.int (own_pg x)), .val (.int (own_sl x))] [(.ref a1)])) rfl rfl (hb hby own_d5_127)
  refine own_go st25 ?_
  show own_Go _ _ _ _ (T25.setTop (mkF m 130 #[.val (.ref a1), .val (.int x), .val (.ref a3), .val (.int (own_pg x)), .val (.int (own_sl x))] [(.ref P)]))
  refine own_go (fun _ kont => XS.iloadN X25.here hx rfl (hb hby own_d5_130) rfl kont) ?_
  show own_Go _ _ _ _ (T25.setTop (mkF m 131 #[.val (.ref a1), .val (.int x), .val (.ref a3), .val (.int (own_pg x)), .val (.int (own_sl x))] [(.int (own_pg x)), (.ref P)]))
  obtain ⟨cl26, Ar26, q26, Sz26, Hs26⟩ := id G_P
  have hin26 := own_in Sz26 pg0 pg1
  have hat26 : cl26.slots[((own_pg x)).toNatClampNeg]? = some (.ref A) := (Hs26 _ pg1).trans (congrArg some (by rw [pgn]; exact hfp))
  refine own_go (X25.aaload hx (j := (own_pg x)) (v := (.ref A)) (own_hp e25 Ar26.1) (State.isArrayOf_alike hZ.alike Ar26.2.1) rfl Ar26.2.2 hin26 hat26 (g := (mkF m 131 #[.val (.ref a1), .val (.int x), .val (.ref a3), .val (.int (own_pg x)), .val (.int (own_sl x))] [(.int (own_pg x)), (.ref P)])) rfl rfl (hb hby own_d5_131)) ?_
  show own_Go _ _ _ _ (T25.setTop (mkF m 132 #[.val (.ref a1), .val (.int x), .val (.ref a3), .val (.int (own_pg x)), .val (.int (own_sl x))] [(.ref A)]))
  refine own_go (fun _ kont => XS.iload X25.here hx rfl (hb hby own_d5_132) rfl kont) ?_
  show own_Go _ _ _ _ (T25.setTop (mkF m 134 #[.val (.ref a1), .val (.int x), .val (.ref a3), .val (.int (own_pg x)), .val (.int (own_sl x))] [(.int (own_sl x)), (.ref A)]))
  refine own_go (fun _ kont => XS.aloadN X25.here hx rfl (hb hby own_d5_134) rfl rfl kont) ?_
  show own_Go _ _ _ _ (T25.setTop (mkF m 135 #[.val (.ref a1), .val (.int x), .val (.ref a3), .val (.int (own_pg x)), .val (.int (own_sl x))] [(.ref a3), (.int (own_sl x)), (.ref A)]))
  obtain ⟨cq27, kq27, q27a, q27b, q27c⟩ := isOf hZ e25 (E3.ext O.2)
  obtain ⟨_, _, ⟨T27, L27, k27, n27⟩, -, X27, ⟨Lc27, hQ27, l27, y27, z27⟩, st27⟩ := X25.virtualBackUp hx (owner := "java/lang/Enum") (x := (⟨"com/example/utopic/utopic/codec/PacketType", "ordinal", "()I"⟩ : MethodName)) (y := (⟨"java/lang/Enum", "ordinal", "()I"⟩ : MethodName)) hown (mvT hZ (hw _ (List.mem_of_getElem? (i := 49) rfl))) (mvT hZ (hw _ (List.mem_of_getElem? (i := 50) rfl))) (mvT hZ (hw _ (List.mem_of_getElem? (i := 51) rfl))) (by decide) (mvT hZ (hw _ (List.mem_of_getElem? (i := 53) rfl))) (mvT hZ (hw _ (List.mem_of_getElem? (i := 52) rfl))) (own_back (W := 2) (own_rmO l Z a0 hw a3 o h24 n0 Z0 (F3.ext O.2)) hZ (hw _ (List.mem_of_getElem? (i := 55) rfl)) (hw _ (List.mem_of_getElem? (i := 54) rfl)) (by decide) (by decide)) q27a q27c (g := (mkF m 135 #[.val (.ref a1), .val (.int x), .val (.ref a3), .val (.int (own_pg x)), .val (.int (own_sl x))] [(.ref a3), (.int (own_sl x)), (.ref A)])) rfl (by rw [hml]; rfl) (Steps.refl _) (argsL := []) (rest := [(.int (own_sl x)), (.ref A)]) (lenOf own_pd1 rfl) rfl (by show 2 * 0 + _ ≤ _; exact Nat.le_of_eq rfl) (hb hby own_d5_135) (fun _ _ => ⟨rfl, e25, (by decide : 3 + 0 ≤ _), (by decide : 768 + 0 ≤ _)⟩)
  dsimp only [Pt.U, Pt.locs, Pt.cells, Pt.slots] at X27 l27 y27 z27 st27 hQ27
  replace X27 := own_cst X27 l27 y27 z27 (k2 := 3) (n2 := 768) rfl rfl
  clear l27 y27 z27
  obtain ⟨rfl, Nq27, eq27⟩ := hQ27
  have NF27 := Fr.app NF24 Nq27
  refine own_goT st27 ?_
  show own_Go _ _ _ _ (T27.setTop (mkF m 138 #[.val (.ref a1), .val (.int x), .val (.ref a3), .val (.int (own_pg x)), .val (.int (own_sl x))] [(.int o), (.int (own_sl x)), (.ref A)]))
  refine own_go (fun _ kont => XS.iconst X27.here hx rfl (hb hby own_d5_138) kont) ?_
  show own_Go _ _ _ _ (T27.setTop (mkF m 139 #[.val (.ref a1), .val (.int x), .val (.ref a3), .val (.int (own_pg x)), .val (.int (own_sl x))] [(.int (1 : Int32)), (.int o), (.int (own_sl x)), (.ref A)]))
  refine own_go (fun _ kont => XS.iadd X27.here hx rfl (hb hby own_d5_139) rfl kont) ?_
  show own_Go _ _ _ _ (T27.setTop (mkF m 140 #[.val (.ref a1), .val (.int x), .val (.ref a3), .val (.int (own_pg x)), .val (.int (own_sl x))] [(.int (o + (1 : Int32))), (.int (own_sl x)), (.ref A)]))
  refine own_go (fun _ kont => XS.i2b X27.here hx rfl (hb hby own_d5_140) rfl kont) ?_
  show own_Go _ _ _ _ (T27.setTop (mkF m 141 #[.val (.ref a1), .val (.int x), .val (.ref a3), .val (.int (own_pg x)), .val (.int (own_sl x))] [(.int ((o + (1 : Int32)).toInt8.toInt32)), (.int (own_sl x)), (.ref A)]))
  obtain ⟨cl28, Ar28, q28, Sz28, Hs28⟩ := id GA
  have hin28 := own_in Sz28 sl0 sl1
  obtain ⟨T28, h28, X28, e28, W28, st28⟩ := stB X27 hx hZ eq27 Ar28 (j := (own_sl x)) hin28 (g := (mkF m 141 #[.val (.ref a1), .val (.int x), .val (.ref a3), .val (.int (own_pg x)), .val (.int (own_sl x))] [(.int ((o + (1 : Int32)).toInt8.toInt32)), (.int (own_sl x)), (.ref A)])) rfl rfl (hb hby own_d5_141)
  refine own_go st28 ?_
  have NF28 := Fr.snoc X28 NF27 ge_A
  replace O := O.wr W28 ge_A
  replace E1 := E1.wr W28
  replace F_pages := F_pages.other W28 (Or.inl ne_a1_A)
  replace F_taken := F_taken.other W28 (Or.inl ne_a1_A)
  replace F_lastPage := F_lastPage.other W28 (Or.inl ne_a1_A)
  replace F_pagesHeld := F_pagesHeld.other W28 (Or.inl ne_a1_A)
  replace F_size := F_size.other W28 (Or.inl ne_a1_A)
  replace G_P := G_P.other W28 ne_P_A
  replace G_K := G_K.other W28 ne_K_A
  replace Z0 := Nat.le_trans Z0 (Keep.of_wr W28).1
  replace hs0 := Nat.le_trans hs0 (Keep.of_wr W28).1
  show own_Go _ _ _ _ (T28.setTop (mkF m 142 #[.val (.ref a1), .val (.int x), .val (.ref a3), .val (.int (own_pg x)), .val (.int (own_sl x))] []))
  rw [(own_ordb o1 o2).1] at W28
  replace PG := PG.put IV.2.1 xl hfp GA W28 sln
  show own_Go _ _ _ _ (T28.setTop (mkF m 142 #[.val (.ref a1), .val (.int x), .val (.ref a3), .val (.int (own_pg x)), .val (.int (own_sl x))] []))
  refine own_ret X28 hlk (v := none) (fun _ => rfl) (fun fs hr => X28.returnOut hx Bd.returns (hb hby own_d5_142) hr) ?_ (by decide) (by decide)
  try rw [e28]
  exact ⟨_, _, rfl, NF28, O, hs0, P, K, k2, k4, E1, F_pages, F_taken, F_lastPage, F_pagesHeld, F_size, ge_P, ge_K, ne_P_K, Ne.symm ne_a1_P, Ne.symm ne_a1_K, G_P, OvP, G_K, PG, IV.put xl (fun q => by have q2 := hfp.symm.trans q; cases q2) (by simp) (fun y => by by_cases e : y = x.toNatClampNeg <;> simp [e, own_onz o1 o2]) (by simp), by rw [pgi]; omega, by rw [pgi]; omega⟩
set_option maxRecDepth 65536 in
set_option maxHeartbeats 40000000 in
theorem own_rmU (l : Launch) (Z : State) (a0 : Array Value) (hw : ∀ d ∈ tables_1, d.before a0 Z = true) (a1 : Addr) (x : Int32) (a3 : Addr) (o : Int32) (S : List Nat) (val : Nat → Int32) (held : Int32) (size : Int32) (lp : Int32) (f : Nat → Value) (h0 : Heap) (n0 : Nat) (Z0 : n0 ≤ h0.size) (M : own_Map Z n0 h0 a1 S val held size lp f) (hS : S.length ≤ 90) (i1 : 0 ≤ x.toInt) (i2 : x.toInt < 65536) (ge_a1 : n0 ≤ a1) (O : Old Z n0 h0) (E3 : Exa Z Z.heap a3 "com/example/utopic/utopic/codec/PacketType") (F3 : Fld Z Z.heap a3 "java/lang/Enum" "ordinal" "I" (.int o)) (o1 : 0 ≤ o.toInt) (o2 : o.toInt < 14) :
    own_Met l Z [] (⟨"com/example/utopic/utopic/broker/MessageIds", "put", "(ILcom/example/utopic/utopic/codec/PacketType;)V"⟩ : MethodName) prog_5_method_3_code 5 none ({ frames := 1, cells := 1, slots := 256, locals := 14 } : Room) #[(.ref a1), (.int x), (.ref a3)] h0 (fun v h L => ∃ S' held' size' lp' f', v = none ∧ Fr n0 L ∧ Old Z n0 h ∧ h0.size ≤ h.size ∧ S'.length ≤ S.length + 1 ∧ own_Map Z n0 h a1 S' (own_set val x.toNatClampNeg (o + 1)) held' size' lp' f') := by
  refine MetFree.of_bodySF (plainFor_of_name own_pn0) hisR ?_
  intro p e s m args below meth c s₁ Bd hml0 hP hK
  obtain ⟨rfl, hZ, hh⟩ := hP
  have hx := Bd.exec
  have hby := Bd.bytes
  have hml : c.maxLocals = 5 := hml0
  have hown : s.vm.findClass "com/example/utopic/utopic/broker/MessageIds" = some m.cls := findClass_of_methodNamed Bd.named
  have hnm := (name_of_methodNamed Bd.named Bd.method).1
  have hlk : meth.locks = false := Bd.notSynchronized
  have X0 : Stand p l e ({ frames := 1, cells := 1, slots := 256, locals := 14 } : Room) s m #[(.ref a1), (.int x), (.ref a3)] below meth c s₁ [] 0 0 := Stand.of_body Bd
  have e0 : s₁.heap = h0 := by rw [← hh, Bd.state]; rfl
  have N0 := Fr.nil n0
  refine own_body (Q := fun v h L => ∃ S' held' size' lp' f', v = none ∧ Fr n0 L ∧ Old Z n0 h ∧ h0.size ≤ h.size ∧ S'.length ≤ S.length + 1 ∧ own_Map Z n0 h a1 S' (own_set val x.toNatClampNeg (o + 1)) held' size' lp' f') ?_
  refine own_go (fun _ kont => castTop (own_ef m #[(.ref a1), (.int x), (.ref a3)] 5 #[.val (.ref a1), .val (.int x), .val (.ref a3), .unset, .unset] (own_al [(.ref a1), (.int x), (.ref a3)] 5 [.val (.ref a1), .val (.int x), .val (.ref a3), .unset, .unset] rfl)) kont) ?_
  show own_Go _ _ _ _ (s₁.setTop (mkF m 0 #[.val (.ref a1), .val (.int x), .val (.ref a3), .unset, .unset] []))
  obtain ⟨pg0, pgn, pgl, sl0, sln, pgi⟩ := own_idx i1 i2
  have pg1 : (own_pg x).toNatClampNeg < 256 := by rw [pgn]; exact pgl
  have sl1 : (own_sl x).toNatClampNeg < 256 := by rw [sln]; omega
  have xl : x.toNatClampNeg < 65536 := by omega
  have hs0 : h0.size ≤ h0.size := Nat.le_refl _
  have M0 := M
  obtain ⟨P, K, kP, kK, E1, F_pages, F_taken, F_lastPage, F_pagesHeld, F_size, ge_P, ge_K, nePK, nePm, neKm, G_P, OvP, G_K, PG, IV, lp1, lp2⟩ := M
  have pb1 : -1 ≤ (own_pg x).toInt := by rw [pgi]; omega
  have pb2 : (own_pg x).toInt < 256 := by rw [pgi]; omega
  refine own_go (fun _ kont => XS.aloadN X0.here hx rfl (hb hby own_d5_0) rfl rfl kont) ?_
  show own_Go _ _ _ _ (s₁.setTop (mkF m 1 #[.val (.ref a1), .val (.int x), .val (.ref a3), .unset, .unset] [(.ref a1)]))
  obtain ⟨T1, X1, e1, st1⟩ := getF X0 hx hZ hown (host := "") (Or.inl (hw _ (List.mem_of_getElem? (i := 27) rfl))) Via.refl e0 F_pages (g := (mkF m 1 #[.val (.ref a1), .val (.int x), .val (.ref a3), .unset, .unset] [(.ref a1)])) rfl rfl (hb hby own_d5_1)
  refine own_go st1 ?_
  show own_Go _ _ _ _ (T1.setTop (mkF m 4 #[.val (.ref a1), .val (.int x), .val (.ref a3), .unset, .unset] [(.ref P)]))
  refine own_go (fun _ kont => XS.ifnonnullYes X1.here hx rfl (pc0 := 4) (pc' := 26) rfl (hb hby own_d5_4) rfl (by decide) (by decide) kont) ?_
  show own_Go _ _ _ _ (T1.setTop (mkF m 26 #[.val (.ref a1), .val (.int x), .val (.ref a3), .unset, .unset] []))
  refine own_go (fun _ kont => XS.iloadN X1.here hx rfl (hb hby own_d5_26) rfl kont) ?_
  show own_Go _ _ _ _ (T1.setTop (mkF m 27 #[.val (.ref a1), .val (.int x), .val (.ref a3), .unset, .unset] [(.int x)]))
  refine own_go (fun _ kont => XS.bipush X1.here hx rfl (hb hby own_d5_27) kont) ?_
  show own_Go _ _ _ _ (T1.setTop (mkF m 29 #[.val (.ref a1), .val (.int x), .val (.ref a3), .unset, .unset] [(.int (8 : Int32)), (.int x)]))
  refine own_go (fun _ kont => XS.iushr X1.here hx rfl (hb hby own_d5_29) rfl kont) ?_
  show own_Go _ _ _ _ (T1.setTop (mkF m 30 #[.val (.ref a1), .val (.int x), .val (.ref a3), .unset, .unset] [(.int (own_pg x))]))
  refine own_go (fun _ kont => XS.istoreN X1.here hx rfl (hb hby own_d5_30) rfl (l' := #[.val (.ref a1), .val (.int x), .val (.ref a3), .val (.int (own_pg x)), .unset]) rfl kont) ?_
  show own_Go _ _ _ _ (T1.setTop (mkF m 31 #[.val (.ref a1), .val (.int x), .val (.ref a3), .val (.int (own_pg x)), .unset] []))
  refine own_go (fun _ kont => XS.iloadN X1.here hx rfl (hb hby own_d5_31) rfl kont) ?_
  show own_Go _ _ _ _ (T1.setTop (mkF m 32 #[.val (.ref a1), .val (.int x), .val (.ref a3), .val (.int (own_pg x)), .unset] [(.int (own_pg x))]))
  refine own_go (fun _ kont => XS.aloadN X1.here hx rfl (hb hby own_d5_32) rfl rfl kont) ?_
  show own_Go _ _ _ _ (T1.setTop (mkF m 33 #[.val (.ref a1), .val (.int x), .val (.ref a3), .val (.int (own_pg x)), .unset] [(.ref a1), (.int (own_pg x))]))
  obtain ⟨T2, X2, e2, st2⟩ := getF X1 hx hZ hown (host := "") (Or.inl (hw _ (List.mem_of_getElem? (i := 20) rfl))) Via.refl e1 F_lastPage (g := (mkF m 33 #[.val (.ref a1), .val (.int x), .val (.ref a3), .val (.int (own_pg x)), .unset] [(.ref a1), (.int (own_pg x))])) rfl rfl (hb hby own_d5_33)
  refine own_go st2 ?_
  show own_Go _ _ _ _ (T2.setTop (mkF m 36 #[.val (.ref a1), .val (.int x), .val (.ref a3), .val (.int (own_pg x)), .unset] [(.int lp), (.int (own_pg x))]))
  have J56 : ∀ (s_4 : Slot) (h_4 : s_4 = .unset ∨ ∃ w, s_4 = .val w ∧ w.category = 1) (T : State) (L : List Loc) (X : Stand p l e ({ frames := 1, cells := 1, slots := 256, locals := 14 } : Room) s m #[(.ref a1), (.int x), (.ref a3)] below meth c T L 0 0) (N : Fr n0 L) (hH : Heap) (eT : T.heap = hH) (O : Old Z n0 hH) (Z0 : n0 ≤ hH.size) (hs0 : h0.size ≤ hH.size) (held : Int32) (f : Nat → Value) (M : own_Map Z n0 hH a1 S val held size (own_pg x) f), own_Go p.tables e below (own_End s below (fun v h L => ∃ S' held' size' lp' f', v = none ∧ Fr n0 L ∧ Old Z n0 h ∧ h0.size ≤ h.size ∧ S'.length ≤ S.length + 1 ∧ own_Map Z n0 h a1 S' (own_set val x.toNatClampNeg (o + 1)) held' size' lp' f') ({ frames := 1, cells := 1, slots := 256, locals := 14 } : Room).cells ({ frames := 1, cells := 1, slots := 256, locals := 14 } : Room).slots) (T.setTop (mkF m 56 #[.val (.ref a1), .val (.int x), .val (.ref a3), .val (.int (own_pg x)), s_4] [])) := by
    intro s_4 h_4 T L X N hH eT O Z0 hs0 held f M
    have M0 := M
    obtain ⟨P, K, kP, kK, E1, F_pages, F_taken, F_lastPage, F_pagesHeld, F_size, ge_P, ge_K, nePK, nePm, neKm, G_P, OvP, G_K, PG, IV, lp1, lp2⟩ := M
    show own_Go _ _ _ _ (T.setTop (mkF m 56 #[.val (.ref a1), .val (.int x), .val (.ref a3), .val (.int (own_pg x)), s_4] []))
    refine own_go (fun _ kont => XS.aloadN X.here hx rfl (hb hby own_d5_56) rfl rfl kont) ?_
    show own_Go _ _ _ _ (T.setTop (mkF m 57 #[.val (.ref a1), .val (.int x), .val (.ref a3), .val (.int (own_pg x)), s_4] [(.ref a1)]))
    obtain ⟨T3, X3, e3, st3⟩ := getF X hx hZ hown (host := "") (Or.inl (hw _ (List.mem_of_getElem? (i := 27) rfl))) Via.refl eT F_pages (g := (mkF m 57 #[.val (.ref a1), .val (.int x), .val (.ref a3), .val (.int (own_pg x)), s_4] [(.ref a1)])) rfl rfl (hb hby own_d5_57)
    refine own_go st3 ?_
    show own_Go _ _ _ _ (T3.setTop (mkF m 60 #[.val (.ref a1), .val (.int x), .val (.ref a3), .val (.int (own_pg x)), s_4] [(.ref P)]))
    refine own_go (fun _ kont => XS.iloadN X3.here hx rfl (hb hby own_d5_60) rfl kont) ?_
    show own_Go _ _ _ _ (T3.setTop (mkF m 61 #[.val (.ref a1), .val (.int x), .val (.ref a3), .val (.int (own_pg x)), s_4] [(.int (own_pg x)), (.ref P)]))
    have J86 : ∀ (s_4 : Slot) (h_4 : s_4 = .unset ∨ ∃ w, s_4 = .val w ∧ w.category = 1) (T : State) (L : List Loc) (X : Stand p l e ({ frames := 1, cells := 1, slots := 256, locals := 14 } : Room) s m #[(.ref a1), (.int x), (.ref a3)] below meth c T L 1 256) (N : Fr n0 L) (hH : Heap) (eT : T.heap = hH) (O : Old Z n0 hH) (Z0 : n0 ≤ hH.size) (hs0 : h0.size ≤ hH.size) (held : Int32) (f : Nat → Value) (M : own_Map Z n0 hH a1 S val held size (own_pg x) f) (hf0 : f (x.toNatClampNeg / 256) ≠ .null), own_Go p.tables e below (own_End s below (fun v h L => ∃ S' held' size' lp' f', v = none ∧ Fr n0 L ∧ Old Z n0 h ∧ h0.size ≤ h.size ∧ S'.length ≤ S.length + 1 ∧ own_Map Z n0 h a1 S' (own_set val x.toNatClampNeg (o + 1)) held' size' lp' f') ({ frames := 1, cells := 1, slots := 256, locals := 14 } : Room).cells ({ frames := 1, cells := 1, slots := 256, locals := 14 } : Room).slots) (T.setTop (mkF m 86 #[.val (.ref a1), .val (.int x), .val (.ref a3), .val (.int (own_pg x)), s_4] [])) := by
      intro s_4 h_4 T L X N hH eT O Z0 hs0 held f M hf0
      have M0 := M
      obtain ⟨P, K, kP, kK, E1, F_pages, F_taken, F_lastPage, F_pagesHeld, F_size, ge_P, ge_K, nePK, nePm, neKm, G_P, OvP, G_K, PG, IV, lp1, lp2⟩ := M
      show own_Go _ _ _ _ (T.setTop (mkF m 86 #[.val (.ref a1), .val (.int x), .val (.ref a3), .val (.int (own_pg x)), s_4] []))
      refine own_go (fun _ kont => XS.iloadN X.here hx rfl (hb hby own_d5_86) rfl kont) ?_
      show own_Go _ _ _ _ (T.setTop (mkF m 87 #[.val (.ref a1), .val (.int x), .val (.ref a3), .val (.int (own_pg x)), s_4] [(.int x)]))
      refine own_go (fun _ kont => XS.sipush X.here hx rfl (hb hby own_d5_87) kont) ?_
      show own_Go _ _ _ _ (T.setTop (mkF m 90 #[.val (.ref a1), .val (.int x), .val (.ref a3), .val (.int (own_pg x)), s_4] [(.int (255 : Int32)), (.int x)]))
      refine own_go (fun _ kont => XS.iand X.here hx rfl (hb hby own_d5_90) rfl kont) ?_
      show own_Go _ _ _ _ (T.setTop (mkF m 91 #[.val (.ref a1), .val (.int x), .val (.ref a3), .val (.int (own_pg x)), s_4] [(.int (own_sl x))]))
      refine own_go (fun _ kont => XS.istoreS X.here hx rfl (hb hby own_d5_91) rfl rfl h_4 kont) ?_
      show own_Go _ _ _ _ (T.setTop (mkF m 93 #[.val (.ref a1), .val (.int x), .val (.ref a3), .val (.int (own_pg x)), .val (.int (own_sl x))] []))
      refine own_go (fun _ kont => XS.aloadN X.here hx rfl (hb hby own_d5_93) rfl rfl kont) ?_
      show own_Go _ _ _ _ (T.setTop (mkF m 94 #[.val (.ref a1), .val (.int x), .val (.ref a3), .val (.int (own_pg x)), .val (.int (own_sl x))] [(.ref a1)]))
      obtain ⟨T4, X4, e4, st4⟩ := getF X hx hZ hown (host := "") (Or.inl (hw _ (List.mem_of_getElem? (i := 27) rfl))) Via.refl eT F_pages (g := (mkF m 94 #[.val (.ref a1), .val (.int x), .val (.ref a3), .val (.int (own_pg x)), .val (.int (own_sl x))] [(.ref a1)])) rfl rfl (hb hby own_d5_94)
      refine own_go st4 ?_
      show own_Go _ _ _ _ (T4.setTop (mkF m 97 #[.val (.ref a1), .val (.int x), .val (.ref a3), .val (.int (own_pg x)), .val (.int (own_sl x))] [(.ref P)]))
      refine own_go (fun _ kont => XS.iloadN X4.here hx rfl (hb hby own_d5_97) rfl kont) ?_
      show own_Go _ _ _ _ (T4.setTop (mkF m 98 #[.val (.ref a1), .val (.int x), .val (.ref a3), .val (.int (own_pg x)), .val (.int (own_sl x))] [(.int (own_pg x)), (.ref P)]))
      obtain ⟨A, kA, hfp, geA, neAP, neAK, neAm, GA⟩ := (PG (x.toNatClampNeg / 256) pgl).resolve_left hf0
      have ge_A := geA
      obtain ⟨cl5, Ar5, q5, Sz5, Hs5⟩ := id G_P
      have hin5 := own_in Sz5 pg0 pg1
      have hat5 : cl5.slots[((own_pg x)).toNatClampNeg]? = some (.ref A) := (Hs5 _ pg1).trans (congrArg some (by rw [pgn]; exact hfp))
      refine own_go (X4.aaload hx (j := (own_pg x)) (v := (.ref A)) (own_hp e4 Ar5.1) (State.isArrayOf_alike hZ.alike Ar5.2.1) rfl Ar5.2.2 hin5 hat5 (g := (mkF m 98 #[.val (.ref a1), .val (.int x), .val (.ref a3), .val (.int (own_pg x)), .val (.int (own_sl x))] [(.int (own_pg x)), (.ref P)])) rfl rfl (hb hby own_d5_98)) ?_
      show own_Go _ _ _ _ (T4.setTop (mkF m 99 #[.val (.ref a1), .val (.int x), .val (.ref a3), .val (.int (own_pg x)), .val (.int (own_sl x))] [(.ref A)]))
      refine own_go (fun _ kont => XS.iload X4.here hx rfl (hb hby own_d5_99) rfl kont) ?_
      show own_Go _ _ _ _ (T4.setTop (mkF m 101 #[.val (.ref a1), .val (.int x), .val (.ref a3), .val (.int (own_pg x)), .val (.int (own_sl x))] [(.int (own_sl x)), (.ref A)]))
      obtain ⟨cl6, Ar6, q6, Sz6, Hs6⟩ := id GA
      have hin6 := own_in Sz6 sl0 sl1
      have hat6 : cl6.slots[((own_sl x)).toNatClampNeg]? = some (.int (val x.toNatClampNeg)) := (Hs6 _ sl1).trans (congrArg some (by show Value.int _ = _; rw [sln, own_x]))
      refine own_go (X4.baloadBytes hx (j := (own_sl x)) (v := (.int (val x.toNatClampNeg))) (own_hp e4 Ar6.1) (State.isArrayOf_alike hZ.alike Ar6.2.1) Ar6.2.2 hin6 hat6 (g := (mkF m 101 #[.val (.ref a1), .val (.int x), .val (.ref a3), .val (.int (own_pg x)), .val (.int (own_sl x))] [(.int (own_sl x)), (.ref A)])) rfl rfl (hb hby own_d5_101)) ?_
      show own_Go _ _ _ _ (T4.setTop (mkF m 102 #[.val (.ref a1), .val (.int x), .val (.ref a3), .val (.int (own_pg x)), .val (.int (own_sl x))] [(.int (val x.toNatClampNeg))]))
      by_cases hv : (val x.toNatClampNeg) = (0 : Int32)
      · have _h := hv
        refine own_go (fun _ kont => XS.ifNo X4.here hx rfl (hb hby own_d5_102) rfl ((if0 _ _).trans (teq hv).2) kont) ?_
        show own_Go _ _ _ _ (T4.setTop (mkF m 105 #[.val (.ref a1), .val (.int x), .val (.ref a3), .val (.int (own_pg x)), .val (.int (own_sl x))] []))
        refine own_go (fun _ kont => XS.aloadN X4.here hx rfl (hb hby own_d5_105) rfl rfl kont) ?_
        show own_Go _ _ _ _ (T4.setTop (mkF m 106 #[.val (.ref a1), .val (.int x), .val (.ref a3), .val (.int (own_pg x)), .val (.int (own_sl x))] [(.ref a1)]))
        obtain ⟨T7, X7, e7, st7⟩ := getF X4 hx hZ hown (host := "") (Or.inl (hw _ (List.mem_of_getElem? (i := 37) rfl))) Via.refl e4 F_taken (g := (mkF m 106 #[.val (.ref a1), .val (.int x), .val (.ref a3), .val (.int (own_pg x)), .val (.int (own_sl x))] [(.ref a1)])) rfl rfl (hb hby own_d5_106)
        refine own_go st7 ?_
        show own_Go _ _ _ _ (T7.setTop (mkF m 109 #[.val (.ref a1), .val (.int x), .val (.ref a3), .val (.int (own_pg x)), .val (.int (own_sl x))] [(.ref K)]))
        refine own_go (fun _ kont => XS.iloadN X7.here hx rfl (hb hby own_d5_109) rfl kont) ?_
        show own_Go _ _ _ _ (T7.setTop (mkF m 110 #[.val (.ref a1), .val (.int x), .val (.ref a3), .val (.int (own_pg x)), .val (.int (own_sl x))] [(.int (own_pg x)), (.ref K)]))
        refine own_go (fun _ kont => Jvm.Free.XT.dup2 X7.here hx rfl (hb hby own_d5_110) rfl rfl rfl kont) ?_
        show own_Go _ _ _ _ (T7.setTop (mkF m 111 #[.val (.ref a1), .val (.int x), .val (.ref a3), .val (.int (own_pg x)), .val (.int (own_sl x))] [(.int (own_pg x)), (.ref K), (.int (own_pg x)), (.ref K)]))
        obtain ⟨cl8, Ar8, q8, Sz8, Hs8⟩ := id G_K
        have hin8 := own_in Sz8 pg0 pg1
        have hat8 : cl8.slots[((own_pg x)).toNatClampNeg]? = some (.int (Int32.ofNat (own_cnt S (x.toNatClampNeg / 256)))) := (Hs8 _ pg1).trans (congrArg some (by show Value.int _ = _; rw [pgn]))
        refine own_go (X7.caload hx (j := (own_pg x)) (v := (.int (Int32.ofNat (own_cnt S (x.toNatClampNeg / 256))))) (own_hp e7 Ar8.1) (State.isArrayOf_alike hZ.alike Ar8.2.1) Ar8.2.2 hin8 hat8 (g := (mkF m 111 #[.val (.ref a1), .val (.int x), .val (.ref a3), .val (.int (own_pg x)), .val (.int (own_sl x))] [(.int (own_pg x)), (.ref K), (.int (own_pg x)), (.ref K)])) rfl rfl (hb hby own_d5_111)) ?_
        show own_Go _ _ _ _ (T7.setTop (mkF m 112 #[.val (.ref a1), .val (.int x), .val (.ref a3), .val (.int (own_pg x)), .val (.int (own_sl x))] [(.int (Int32.ofNat (own_cnt S (x.toNatClampNeg / 256)))), (.int (own_pg x)), (.ref K)]))
        refine own_go (fun _ kont => XS.iconst X7.here hx rfl (hb hby own_d5_112) kont) ?_
        show own_Go _ _ _ _ (T7.setTop (mkF m 113 #[.val (.ref a1), .val (.int x), .val (.ref a3), .val (.int (own_pg x)), .val (.int (own_sl x))] [(.int (1 : Int32)), (.int (Int32.ofNat (own_cnt S (x.toNatClampNeg / 256)))), (.int (own_pg x)), (.ref K)]))
        refine own_go (fun _ kont => XS.iadd X7.here hx rfl (hb hby own_d5_113) rfl kont) ?_
        show own_Go _ _ _ _ (T7.setTop (mkF m 114 #[.val (.ref a1), .val (.int x), .val (.ref a3), .val (.int (own_pg x)), .val (.int (own_sl x))] [(.int ((Int32.ofNat (own_cnt S (x.toNatClampNeg / 256))) + (1 : Int32))), (.int (own_pg x)), (.ref K)]))
        refine own_go (fun _ kont => XS.i2c X7.here hx rfl (hb hby own_d5_114) rfl kont) ?_
        show own_Go _ _ _ _ (T7.setTop (mkF m 115 #[.val (.ref a1), .val (.int x), .val (.ref a3), .val (.int (own_pg x)), .val (.int (own_sl x))] [(.int (((Int32.ofNat (own_cnt S (x.toNatClampNeg / 256))) + (1 : Int32)).toUInt32.toUInt16.toUInt32.toInt32)), (.int (own_pg x)), (.ref K)]))
        have cl : own_cnt S (x.toNatClampNeg / 256) ≤ 100 := Nat.le_trans (own_cnt_le _ _) IV.2.2.2.2
        obtain ⟨cl9, Ar9, q9, Sz9, Hs9⟩ := id G_K
        have hin9 := own_in Sz9 pg0 pg1
        obtain ⟨T9, h9, X9, e9, W9, st9⟩ := stC X7 hx hZ e7 Ar9 (j := (own_pg x)) hin9 (g := (mkF m 115 #[.val (.ref a1), .val (.int x), .val (.ref a3), .val (.int (own_pg x)), .val (.int (own_sl x))] [(.int (((Int32.ofNat (own_cnt S (x.toNatClampNeg / 256))) + (1 : Int32)).toUInt32.toUInt16.toUInt32.toInt32)), (.int (own_pg x)), (.ref K)])) rfl rfl (hb hby own_d5_115)
        refine own_go st9 ?_
        have NF9 := Fr.snoc X9 N ge_K
        replace G_K : own_Arf Z h9 K kK .char 256 (fun i => .int (Int32.ofNat (own_cnt (x.toNatClampNeg :: S) i))) := ((G_K.set W9 pg1).cong fun j hj => by rw [pgn, own_inc cl, own_cnt_cons]; by_cases e : j = x.toNatClampNeg / 256 <;> simp [e, eq_comm])
        replace O := O.wr W9 ge_K
        replace E1 := E1.wr W9
        replace F_pages := F_pages.other W9 (Or.inl (Ne.symm neKm))
        replace F_taken := F_taken.other W9 (Or.inl (Ne.symm neKm))
        replace F_lastPage := F_lastPage.other W9 (Or.inl (Ne.symm neKm))
        replace F_pagesHeld := F_pagesHeld.other W9 (Or.inl (Ne.symm neKm))
        replace F_size := F_size.other W9 (Or.inl (Ne.symm neKm))
        replace G_P := G_P.other W9 nePK
        replace PG := PG.wr W9 (Or.inr (Or.inl rfl))
        replace GA := GA.other W9 neAK
        replace Z0 := Nat.le_trans Z0 (Keep.of_wr W9).1
        replace hs0 := Nat.le_trans hs0 (Keep.of_wr W9).1
        show own_Go _ _ _ _ (T9.setTop (mkF m 116 #[.val (.ref a1), .val (.int x), .val (.ref a3), .val (.int (own_pg x)), .val (.int (own_sl x))] []))
        refine own_go (fun _ kont => XS.aloadN X9.here hx rfl (hb hby own_d5_116) rfl rfl kont) ?_
        show own_Go _ _ _ _ (T9.setTop (mkF m 117 #[.val (.ref a1), .val (.int x), .val (.ref a3), .val (.int (own_pg x)), .val (.int (own_sl x))] [(.ref a1)]))
        refine own_go (fun _ kont => XS.dup X9.here hx rfl (hb hby own_d5_117) rfl rfl kont) ?_
        show own_Go _ _ _ _ (T9.setTop (mkF m 118 #[.val (.ref a1), .val (.int x), .val (.ref a3), .val (.int (own_pg x)), .val (.int (own_sl x))] [(.ref a1), (.ref a1)]))
        obtain ⟨T10, X10, e10, st10⟩ := getF X9 hx hZ hown (host := "") (Or.inl (hw _ (List.mem_of_getElem? (i := 47) rfl))) Via.refl e9 F_size (g := (mkF m 118 #[.val (.ref a1), .val (.int x), .val (.ref a3), .val (.int (own_pg x)), .val (.int (own_sl x))] [(.ref a1), (.ref a1)])) rfl rfl (hb hby own_d5_118)
        refine own_go st10 ?_
        show own_Go _ _ _ _ (T10.setTop (mkF m 121 #[.val (.ref a1), .val (.int x), .val (.ref a3), .val (.int (own_pg x)), .val (.int (own_sl x))] [(.int size), (.ref a1)]))
        refine own_go (fun _ kont => XS.iconst X10.here hx rfl (hb hby own_d5_121) kont) ?_
        show own_Go _ _ _ _ (T10.setTop (mkF m 122 #[.val (.ref a1), .val (.int x), .val (.ref a3), .val (.int (own_pg x)), .val (.int (own_sl x))] [(.int (1 : Int32)), (.int size), (.ref a1)]))
        refine own_go (fun _ kont => XS.iadd X10.here hx rfl (hb hby own_d5_122) rfl kont) ?_
        show own_Go _ _ _ _ (T10.setTop (mkF m 123 #[.val (.ref a1), .val (.int x), .val (.ref a3), .val (.int (own_pg x)), .val (.int (own_sl x))] [(.int (size + (1 : Int32))), (.ref a1)]))
        obtain ⟨T11, h11, X11, e11, W11, st11⟩ := putF X10 hx hZ hown (host := "") (Or.inl (hw _ (List.mem_of_getElem? (i := 47) rfl))) Via.refl e10 F_size E1 (Or.inl (hw _ (List.mem_of_getElem? (i := 48) rfl))) (hw _ (List.mem_of_getElem? (i := 12) rfl)) (ty := .int) (by decide) rfl rfl (g := (mkF m 123 #[.val (.ref a1), .val (.int x), .val (.ref a3), .val (.int (own_pg x)), .val (.int (own_sl x))] [(.int (size + (1 : Int32))), (.ref a1)])) rfl rfl (hb hby own_d5_123)
        refine own_go st11 ?_
        have NF11 := Fr.snoc X11 NF9 ge_a1
        replace F_size := F_size.same W11
        replace O := O.wr W11 ge_a1
        replace E1 := E1.wr W11
        replace F_pages := F_pages.other W11 (Or.inr (slot_ne (Or.inl (hw _ (List.mem_of_getElem? (i := 28) rfl))) (Or.inl (hw _ (List.mem_of_getElem? (i := 48) rfl))) (by decide) (t := (.array (.array .byte))) (t' := .int) (by decide) (by decide)))
        replace F_taken := F_taken.other W11 (Or.inr (slot_ne (Or.inl (hw _ (List.mem_of_getElem? (i := 38) rfl))) (Or.inl (hw _ (List.mem_of_getElem? (i := 48) rfl))) (by decide) (t := (.array .char)) (t' := .int) (by decide) (by decide)))
        replace F_lastPage := F_lastPage.other W11 (Or.inr (slot_ne (Or.inl (hw _ (List.mem_of_getElem? (i := 21) rfl))) (Or.inl (hw _ (List.mem_of_getElem? (i := 48) rfl))) (by decide) (t := .int) (t' := .int) (by decide) (by decide)))
        replace F_pagesHeld := F_pagesHeld.other W11 (Or.inr (slot_ne (Or.inl (hw _ (List.mem_of_getElem? (i := 46) rfl))) (Or.inl (hw _ (List.mem_of_getElem? (i := 48) rfl))) (by decide) (t := .int) (t' := .int) (by decide) (by decide)))
        replace G_P := G_P.other W11 nePm
        replace G_K := G_K.other W11 neKm
        replace PG := PG.wr W11 (Or.inr (Or.inr rfl))
        replace GA := GA.other W11 neAm
        replace Z0 := Nat.le_trans Z0 (Keep.of_wr W11).1
        replace hs0 := Nat.le_trans hs0 (Keep.of_wr W11).1
        show own_Go _ _ _ _ (T11.setTop (mkF m 126 #[.val (.ref a1), .val (.int x), .val (.ref a3), .val (.int (own_pg x)), .val (.int (own_sl x))] []))
        refine own_go (fun _ kont => XS.aloadN X11.here hx rfl (hb hby own_d5_126) rfl rfl kont) ?_
        show own_Go _ _ _ _ (T11.setTop (mkF m 127 #[.val (.ref a1), .val (.int x), .val (.ref a3), .val (.int (own_pg x)), .val (.int (own_sl x))] [(.ref a1)]))
        obtain ⟨T12, X12, e12, st12⟩ := getF X11 hx hZ hown (host := "") (Or.inl (hw _ (List.mem_of_getElem? (i := 27) rfl))) Via.refl e11 F_pages (g := (mkF m 127 #[.val (.ref a1), .val (.int x), .val (.ref a3), .val (.int (own_pg x)), .val (.int (own_sl x))] [(.ref a1)])) rfl rfl (hb hby own_d5_127)
        refine own_go st12 ?_
        show own_Go _ _ _ _ (T12.setTop (mkF m 130 #[.val (.ref a1), .val (.int x), .val (.ref a3), .val (.int (own_pg x)), .val (.int (own_sl x))] [(.ref P)]))
        refine own_go (fun _ kont => XS.iloadN X12.here hx rfl (hb hby own_d5_130) rfl kont) ?_
        show own_Go _ _ _ _ (T12.setTop (mkF m 131 #[.val (.ref a1), .val (.int x), .val (.ref a3), .val (.int (own_pg x)), .val (.int (own_sl x))] [(.int (own_pg x)), (.ref P)]))
        obtain ⟨cl13, Ar13, q13, Sz13, Hs13⟩ := id G_P
        have hin13 := own_in Sz13 pg0 pg1
        have hat13 : cl13.slots[((own_pg x)).toNatClampNeg]? = some (.ref A) := (Hs13 _ pg1).trans (congrArg some (by rw [pgn]; exact hfp))
        refine own_go (X12.aaload hx (j := (own_pg x)) (v := (.ref A)) (own_hp e12 Ar13.1) (State.isArrayOf_alike hZ.alike Ar13.2.1) rfl Ar13.2.2 hin13 hat13 (g := (mkF m 131 #[.val (.ref a1), .val (.int x), .val (.ref a3), .val (.int (own_pg x)), .val (.int (own_sl x))] [(.int (own_pg x)), (.ref P)])) rfl rfl (hb hby own_d5_131)) ?_
        show own_Go _ _ _ _ (T12.setTop (mkF m 132 #[.val (.ref a1), .val (.int x), .val (.ref a3), .val (.int (own_pg x)), .val (.int (own_sl x))] [(.ref A)]))
        refine own_go (fun _ kont => XS.iload X12.here hx rfl (hb hby own_d5_132) rfl kont) ?_
        show own_Go _ _ _ _ (T12.setTop (mkF m 134 #[.val (.ref a1), .val (.int x), .val (.ref a3), .val (.int (own_pg x)), .val (.int (own_sl x))] [(.int (own_sl x)), (.ref A)]))
        refine own_go (fun _ kont => XS.aloadN X12.here hx rfl (hb hby own_d5_134) rfl rfl kont) ?_
        show own_Go _ _ _ _ (T12.setTop (mkF m 135 #[.val (.ref a1), .val (.int x), .val (.ref a3), .val (.int (own_pg x)), .val (.int (own_sl x))] [(.ref a3), (.int (own_sl x)), (.ref A)]))
        obtain ⟨cq14, kq14, q14a, q14b, q14c⟩ := isOf hZ e12 (E3.ext O.2)
        obtain ⟨_, _, ⟨T14, L14, k14, n14⟩, -, X14, ⟨Lc14, hQ14, l14, y14, z14⟩, st14⟩ := X12.virtualBackUp hx (owner := "java/lang/Enum") (x := (⟨"com/example/utopic/utopic/codec/PacketType", "ordinal", "()I"⟩ : MethodName)) (y := (⟨"java/lang/Enum", "ordinal", "()I"⟩ : MethodName)) hown (mvT hZ (hw _ (List.mem_of_getElem? (i := 49) rfl))) (mvT hZ (hw _ (List.mem_of_getElem? (i := 50) rfl))) (mvT hZ (hw _ (List.mem_of_getElem? (i := 51) rfl))) (by decide) (mvT hZ (hw _ (List.mem_of_getElem? (i := 53) rfl))) (mvT hZ (hw _ (List.mem_of_getElem? (i := 52) rfl))) (own_back (W := 2) (own_rmO l Z a0 hw a3 o h11 n0 Z0 (F3.ext O.2)) hZ (hw _ (List.mem_of_getElem? (i := 55) rfl)) (hw _ (List.mem_of_getElem? (i := 54) rfl)) (by decide) (by decide)) q14a q14c (g := (mkF m 135 #[.val (.ref a1), .val (.int x), .val (.ref a3), .val (.int (own_pg x)), .val (.int (own_sl x))] [(.ref a3), (.int (own_sl x)), (.ref A)])) rfl (by rw [hml]; rfl) (Steps.refl _) (argsL := []) (rest := [(.int (own_sl x)), (.ref A)]) (lenOf own_pd1 rfl) rfl (by show 2 * 0 + _ ≤ _; exact Nat.le_of_eq rfl) (hb hby own_d5_135) (fun _ _ => ⟨rfl, e12, (by decide : 1 + 0 ≤ _), (by decide : 256 + 0 ≤ _)⟩)
        dsimp only [Pt.U, Pt.locs, Pt.cells, Pt.slots] at X14 l14 y14 z14 st14 hQ14
        replace X14 := own_cst X14 l14 y14 z14 (k2 := 1) (n2 := 256) rfl rfl
        clear l14 y14 z14
        obtain ⟨rfl, Nq14, eq14⟩ := hQ14
        have NF14 := Fr.app NF11 Nq14
        refine own_goT st14 ?_
        show own_Go _ _ _ _ (T14.setTop (mkF m 138 #[.val (.ref a1), .val (.int x), .val (.ref a3), .val (.int (own_pg x)), .val (.int (own_sl x))] [(.int o), (.int (own_sl x)), (.ref A)]))
        refine own_go (fun _ kont => XS.iconst X14.here hx rfl (hb hby own_d5_138) kont) ?_
        show own_Go _ _ _ _ (T14.setTop (mkF m 139 #[.val (.ref a1), .val (.int x), .val (.ref a3), .val (.int (own_pg x)), .val (.int (own_sl x))] [(.int (1 : Int32)), (.int o), (.int (own_sl x)), (.ref A)]))
        refine own_go (fun _ kont => XS.iadd X14.here hx rfl (hb hby own_d5_139) rfl kont) ?_
        show own_Go _ _ _ _ (T14.setTop (mkF m 140 #[.val (.ref a1), .val (.int x), .val (.ref a3), .val (.int (own_pg x)), .val (.int (own_sl x))] [(.int (o + (1 : Int32))), (.int (own_sl x)), (.ref A)]))
        refine own_go (fun _ kont => XS.i2b X14.here hx rfl (hb hby own_d5_140) rfl kont) ?_
        show own_Go _ _ _ _ (T14.setTop (mkF m 141 #[.val (.ref a1), .val (.int x), .val (.ref a3), .val (.int (own_pg x)), .val (.int (own_sl x))] [(.int ((o + (1 : Int32)).toInt8.toInt32)), (.int (own_sl x)), (.ref A)]))
        obtain ⟨cl15, Ar15, q15, Sz15, Hs15⟩ := id GA
        have hin15 := own_in Sz15 sl0 sl1
        obtain ⟨T15, h15, X15, e15, W15, st15⟩ := stB X14 hx hZ eq14 Ar15 (j := (own_sl x)) hin15 (g := (mkF m 141 #[.val (.ref a1), .val (.int x), .val (.ref a3), .val (.int (own_pg x)), .val (.int (own_sl x))] [(.int ((o + (1 : Int32)).toInt8.toInt32)), (.int (own_sl x)), (.ref A)])) rfl rfl (hb hby own_d5_141)
        refine own_go st15 ?_
        have NF15 := Fr.snoc X15 NF14 ge_A
        replace O := O.wr W15 ge_A
        replace E1 := E1.wr W15
        replace F_pages := F_pages.other W15 (Or.inl (Ne.symm neAm))
        replace F_taken := F_taken.other W15 (Or.inl (Ne.symm neAm))
        replace F_lastPage := F_lastPage.other W15 (Or.inl (Ne.symm neAm))
        replace F_pagesHeld := F_pagesHeld.other W15 (Or.inl (Ne.symm neAm))
        replace F_size := F_size.other W15 (Or.inl (Ne.symm neAm))
        replace G_P := G_P.other W15 (Ne.symm neAP)
        replace G_K := G_K.other W15 (Ne.symm neAK)
        replace Z0 := Nat.le_trans Z0 (Keep.of_wr W15).1
        replace hs0 := Nat.le_trans hs0 (Keep.of_wr W15).1
        show own_Go _ _ _ _ (T15.setTop (mkF m 142 #[.val (.ref a1), .val (.int x), .val (.ref a3), .val (.int (own_pg x)), .val (.int (own_sl x))] []))
        rw [(own_ordb o1 o2).1] at W15
        replace PG := PG.put IV.2.1 xl hfp GA W15 sln
        show own_Go _ _ _ _ (T15.setTop (mkF m 142 #[.val (.ref a1), .val (.int x), .val (.ref a3), .val (.int (own_pg x)), .val (.int (own_sl x))] []))
        refine own_ret X15 hlk (v := none) (fun _ => rfl) (fun fs hr => X15.returnOut hx Bd.returns (hb hby own_d5_142) hr) ?_ (by decide) (by decide)
        try rw [e15]
        exact ⟨(x.toNatClampNeg :: S), _, _, _, _, rfl, NF15, O, hs0, by simp, P, K, kP, kK, E1, F_pages, F_taken, F_lastPage, F_pagesHeld, F_size, ge_P, ge_K, nePK, nePm, neKm, G_P, OvP, G_K, PG, IV.put xl hf0 (List.nodup_cons.mpr ⟨fun q => (IV.2.2.2.1 _ xl).mp q hv, IV.2.2.1⟩) (fun y => by by_cases e : y = x.toNatClampNeg <;> simp [e, own_onz o1 o2]) (by simp; omega), lp1, lp2⟩
      · have _h := hv
        refine own_go (fun _ kont => XS.ifYes X4.here hx rfl (pc0 := 102) (pc' := 126) rfl (hb hby own_d5_102) rfl ((if0 _ _).trans (feq hv).2) (by decide) (by decide) kont) ?_
        show own_Go _ _ _ _ (T4.setTop (mkF m 126 #[.val (.ref a1), .val (.int x), .val (.ref a3), .val (.int (own_pg x)), .val (.int (own_sl x))] []))
        refine own_go (fun _ kont => XS.aloadN X4.here hx rfl (hb hby own_d5_126) rfl rfl kont) ?_
        show own_Go _ _ _ _ (T4.setTop (mkF m 127 #[.val (.ref a1), .val (.int x), .val (.ref a3), .val (.int (own_pg x)), .val (.int (own_sl x))] [(.ref a1)]))
        obtain ⟨T16, X16, e16, st16⟩ := getF X4 hx hZ hown (host := "") (Or.inl (hw _ (List.mem_of_getElem? (i := 27) rfl))) Via.refl e4 F_pages (g := (mkF m 127 #[.val (.ref a1), .val (.int x), .val (.ref a3), .val (.int (own_pg x)), .val (.int (own_sl x))] [(.ref a1)])) rfl rfl (hb hby own_d5_127)
        refine own_go st16 ?_
        show own_Go _ _ _ _ (T16.setTop (mkF m 130 #[.val (.ref a1), .val (.int x), .val (.ref a3), .val (.int (own_pg x)), .val (.int (own_sl x))] [(.ref P)]))
        refine own_go (fun _ kont => XS.iloadN X16.here hx rfl (hb hby own_d5_130) rfl kont) ?_
        show own_Go _ _ _ _ (T16.setTop (mkF m 131 #[.val (.ref a1), .val (.int x), .val (.ref a3), .val (.int (own_pg x)), .val (.int (own_sl x))] [(.int (own_pg x)), (.ref P)]))
        obtain ⟨cl17, Ar17, q17, Sz17, Hs17⟩ := id G_P
        have hin17 := own_in Sz17 pg0 pg1
        have hat17 : cl17.slots[((own_pg x)).toNatClampNeg]? = some (.ref A) := (Hs17 _ pg1).trans (congrArg some (by rw [pgn]; exact hfp))
        refine own_go (X16.aaload hx (j := (own_pg x)) (v := (.ref A)) (own_hp e16 Ar17.1) (State.isArrayOf_alike hZ.alike Ar17.2.1) rfl Ar17.2.2 hin17 hat17 (g := (mkF m 131 #[.val (.ref a1), .val (.int x), .val (.ref a3), .val (.int (own_pg x)), .val (.int (own_sl x))] [(.int (own_pg x)), (.ref P)])) rfl rfl (hb hby own_d5_131)) ?_
        show own_Go _ _ _ _ (T16.setTop (mkF m 132 #[.val (.ref a1), .val (.int x), .val (.ref a3), .val (.int (own_pg x)), .val (.int (own_sl x))] [(.ref A)]))
        refine own_go (fun _ kont => XS.iload X16.here hx rfl (hb hby own_d5_132) rfl kont) ?_
        show own_Go _ _ _ _ (T16.setTop (mkF m 134 #[.val (.ref a1), .val (.int x), .val (.ref a3), .val (.int (own_pg x)), .val (.int (own_sl x))] [(.int (own_sl x)), (.ref A)]))
        refine own_go (fun _ kont => XS.aloadN X16.here hx rfl (hb hby own_d5_134) rfl rfl kont) ?_
        show own_Go _ _ _ _ (T16.setTop (mkF m 135 #[.val (.ref a1), .val (.int x), .val (.ref a3), .val (.int (own_pg x)), .val (.int (own_sl x))] [(.ref a3), (.int (own_sl x)), (.ref A)]))
        obtain ⟨cq18, kq18, q18a, q18b, q18c⟩ := isOf hZ e16 (E3.ext O.2)
        obtain ⟨_, _, ⟨T18, L18, k18, n18⟩, -, X18, ⟨Lc18, hQ18, l18, y18, z18⟩, st18⟩ := X16.virtualBackUp hx (owner := "java/lang/Enum") (x := (⟨"com/example/utopic/utopic/codec/PacketType", "ordinal", "()I"⟩ : MethodName)) (y := (⟨"java/lang/Enum", "ordinal", "()I"⟩ : MethodName)) hown (mvT hZ (hw _ (List.mem_of_getElem? (i := 49) rfl))) (mvT hZ (hw _ (List.mem_of_getElem? (i := 50) rfl))) (mvT hZ (hw _ (List.mem_of_getElem? (i := 51) rfl))) (by decide) (mvT hZ (hw _ (List.mem_of_getElem? (i := 53) rfl))) (mvT hZ (hw _ (List.mem_of_getElem? (i := 52) rfl))) (own_back (W := 2) (own_rmO l Z a0 hw a3 o hH n0 Z0 (F3.ext O.2)) hZ (hw _ (List.mem_of_getElem? (i := 55) rfl)) (hw _ (List.mem_of_getElem? (i := 54) rfl)) (by decide) (by decide)) q18a q18c (g := (mkF m 135 #[.val (.ref a1), .val (.int x), .val (.ref a3), .val (.int (own_pg x)), .val (.int (own_sl x))] [(.ref a3), (.int (own_sl x)), (.ref A)])) rfl (by rw [hml]; rfl) (Steps.refl _) (argsL := []) (rest := [(.int (own_sl x)), (.ref A)]) (lenOf own_pd1 rfl) rfl (by show 2 * 0 + _ ≤ _; exact Nat.le_of_eq rfl) (hb hby own_d5_135) (fun _ _ => ⟨rfl, e16, (by decide : 1 + 0 ≤ _), (by decide : 256 + 0 ≤ _)⟩)
        dsimp only [Pt.U, Pt.locs, Pt.cells, Pt.slots] at X18 l18 y18 z18 st18 hQ18
        replace X18 := own_cst X18 l18 y18 z18 (k2 := 1) (n2 := 256) rfl rfl
        clear l18 y18 z18
        obtain ⟨rfl, Nq18, eq18⟩ := hQ18
        have NF18 := Fr.app N Nq18
        refine own_goT st18 ?_
        show own_Go _ _ _ _ (T18.setTop (mkF m 138 #[.val (.ref a1), .val (.int x), .val (.ref a3), .val (.int (own_pg x)), .val (.int (own_sl x))] [(.int o), (.int (own_sl x)), (.ref A)]))
        refine own_go (fun _ kont => XS.iconst X18.here hx rfl (hb hby own_d5_138) kont) ?_
        show own_Go _ _ _ _ (T18.setTop (mkF m 139 #[.val (.ref a1), .val (.int x), .val (.ref a3), .val (.int (own_pg x)), .val (.int (own_sl x))] [(.int (1 : Int32)), (.int o), (.int (own_sl x)), (.ref A)]))
        refine own_go (fun _ kont => XS.iadd X18.here hx rfl (hb hby own_d5_139) rfl kont) ?_
        show own_Go _ _ _ _ (T18.setTop (mkF m 140 #[.val (.ref a1), .val (.int x), .val (.ref a3), .val (.int (own_pg x)), .val (.int (own_sl x))] [(.int (o + (1 : Int32))), (.int (own_sl x)), (.ref A)]))
        refine own_go (fun _ kont => XS.i2b X18.here hx rfl (hb hby own_d5_140) rfl kont) ?_
        show own_Go _ _ _ _ (T18.setTop (mkF m 141 #[.val (.ref a1), .val (.int x), .val (.ref a3), .val (.int (own_pg x)), .val (.int (own_sl x))] [(.int ((o + (1 : Int32)).toInt8.toInt32)), (.int (own_sl x)), (.ref A)]))
        obtain ⟨cl19, Ar19, q19, Sz19, Hs19⟩ := id GA
        have hin19 := own_in Sz19 sl0 sl1
        obtain ⟨T19, h19, X19, e19, W19, st19⟩ := stB X18 hx hZ eq18 Ar19 (j := (own_sl x)) hin19 (g := (mkF m 141 #[.val (.ref a1), .val (.int x), .val (.ref a3), .val (.int (own_pg x)), .val (.int (own_sl x))] [(.int ((o + (1 : Int32)).toInt8.toInt32)), (.int (own_sl x)), (.ref A)])) rfl rfl (hb hby own_d5_141)
        refine own_go st19 ?_
        have NF19 := Fr.snoc X19 NF18 ge_A
        replace O := O.wr W19 ge_A
        replace E1 := E1.wr W19
        replace F_pages := F_pages.other W19 (Or.inl (Ne.symm neAm))
        replace F_taken := F_taken.other W19 (Or.inl (Ne.symm neAm))
        replace F_lastPage := F_lastPage.other W19 (Or.inl (Ne.symm neAm))
        replace F_pagesHeld := F_pagesHeld.other W19 (Or.inl (Ne.symm neAm))
        replace F_size := F_size.other W19 (Or.inl (Ne.symm neAm))
        replace G_P := G_P.other W19 (Ne.symm neAP)
        replace G_K := G_K.other W19 (Ne.symm neAK)
        replace Z0 := Nat.le_trans Z0 (Keep.of_wr W19).1
        replace hs0 := Nat.le_trans hs0 (Keep.of_wr W19).1
        show own_Go _ _ _ _ (T19.setTop (mkF m 142 #[.val (.ref a1), .val (.int x), .val (.ref a3), .val (.int (own_pg x)), .val (.int (own_sl x))] []))
        rw [(own_ordb o1 o2).1] at W19
        replace PG := PG.put IV.2.1 xl hfp GA W19 sln
        show own_Go _ _ _ _ (T19.setTop (mkF m 142 #[.val (.ref a1), .val (.int x), .val (.ref a3), .val (.int (own_pg x)), .val (.int (own_sl x))] []))
        refine own_ret X19 hlk (v := none) (fun _ => rfl) (fun fs hr => X19.returnOut hx Bd.returns (hb hby own_d5_142) hr) ?_ (by decide) (by decide)
        try rw [e19]
        exact ⟨S, _, _, _, _, rfl, NF19, O, hs0, by omega, P, K, kP, kK, E1, F_pages, F_taken, F_lastPage, F_pagesHeld, F_size, ge_P, ge_K, nePK, nePm, neKm, G_P, OvP, G_K, PG, IV.put xl hf0 IV.2.2.1 (fun y => by by_cases e : y = x.toNatClampNeg; simp [e, own_onz o1 o2, (IV.2.2.2.1 _ xl).mpr hv]; simp [e]) (by omega), lp1, lp2⟩
    rcases PG (x.toNatClampNeg / 256) pgl with hf | ⟨A, kA, hf, geA, neAP, neAK, neAm, GA⟩
    · have _u := trivial
      obtain ⟨cl20, Ar20, q20, Sz20, Hs20⟩ := id G_P
      have hin20 := own_in Sz20 pg0 pg1
      have hat20 : cl20.slots[((own_pg x)).toNatClampNeg]? = some .null := (Hs20 _ pg1).trans (congrArg some (by rw [pgn]; exact hf))
      refine own_go (X3.aaload hx (j := (own_pg x)) (v := .null) (own_hp e3 Ar20.1) (State.isArrayOf_alike hZ.alike Ar20.2.1) rfl Ar20.2.2 hin20 hat20 (g := (mkF m 61 #[.val (.ref a1), .val (.int x), .val (.ref a3), .val (.int (own_pg x)), s_4] [(.int (own_pg x)), (.ref P)])) rfl rfl (hb hby own_d5_61)) ?_
      show own_Go _ _ _ _ (T3.setTop (mkF m 62 #[.val (.ref a1), .val (.int x), .val (.ref a3), .val (.int (own_pg x)), s_4] [.null]))
      refine own_go (fun _ kont => XS.ifnonnullNo X3.here hx rfl (hb hby own_d5_62) rfl kont) ?_
      show own_Go _ _ _ _ (T3.setTop (mkF m 65 #[.val (.ref a1), .val (.int x), .val (.ref a3), .val (.int (own_pg x)), s_4] []))
      refine own_go (fun _ kont => XS.aloadN X3.here hx rfl (hb hby own_d5_65) rfl rfl kont) ?_
      show own_Go _ _ _ _ (T3.setTop (mkF m 66 #[.val (.ref a1), .val (.int x), .val (.ref a3), .val (.int (own_pg x)), s_4] [(.ref a1)]))
      obtain ⟨T21, X21, e21, st21⟩ := getF X3 hx hZ hown (host := "") (Or.inl (hw _ (List.mem_of_getElem? (i := 27) rfl))) Via.refl e3 F_pages (g := (mkF m 66 #[.val (.ref a1), .val (.int x), .val (.ref a3), .val (.int (own_pg x)), s_4] [(.ref a1)])) rfl rfl (hb hby own_d5_66)
      refine own_go st21 ?_
      show own_Go _ _ _ _ (T21.setTop (mkF m 69 #[.val (.ref a1), .val (.int x), .val (.ref a3), .val (.int (own_pg x)), s_4] [(.ref P)]))
      refine own_go (fun _ kont => XS.iloadN X21.here hx rfl (hb hby own_d5_69) rfl kont) ?_
      show own_Go _ _ _ _ (T21.setTop (mkF m 70 #[.val (.ref a1), .val (.int x), .val (.ref a3), .val (.int (own_pg x)), s_4] [(.int (own_pg x)), (.ref P)]))
      refine own_go (fun _ kont => XS.sipush X21.here hx rfl (hb hby own_d5_70) kont) ?_
      show own_Go _ _ _ _ (T21.setTop (mkF m 73 #[.val (.ref a1), .val (.int x), .val (.ref a3), .val (.int (own_pg x)), s_4] [(.int (256 : Int32)), (.int (own_pg x)), (.ref P)]))
      obtain ⟨T22, h22, k22, X22, e22, E22, A22, ExA, st22⟩ := newPE X21 hx hZ (hw _ (List.mem_of_getElem? (i := 43) rfl)) e21 (g := (mkF m 73 #[.val (.ref a1), .val (.int x), .val (.ref a3), .val (.int (own_pg x)), s_4] [(.int (256 : Int32)), (.int (own_pg x)), (.ref P)])) rfl (hb hby own_d5_73) rfl (by decide) (cap := 256) (by decide) (by decide) (by decide) (by decide) (ad := "[B") (by decide)
      obtain ⟨A, gA⟩ : ∃ z, z = hH.size := ⟨_, rfl⟩
      rw [← gA] at A22 ExA st22
      refine own_go st22 ?_
      have ge_A : n0 ≤ A := Nat.le_trans Z0 (Nat.le_of_eq gA.symm)
      have ne_a1_A : a1 ≠ A := Nat.ne_of_lt (Nat.lt_of_lt_of_le E1.lt (Nat.le_of_eq gA.symm))
      have ne_P_A : P ≠ A := Nat.ne_of_lt (Nat.lt_of_lt_of_le G_P.lt (Nat.le_of_eq gA.symm))
      have ne_K_A : K ≠ A := Nat.ne_of_lt (Nat.lt_of_lt_of_le G_K.lt (Nat.le_of_eq gA.symm))
      have hnew : ∀ j, j < 256 → f j ≠ .ref A := fun j hj q => by
        rcases PG j hj with r | ⟨B, kB, r1, r2, r3, r4, r5, r6⟩
        · rw [r] at q; cases q
        · rw [r1] at q; cases q; exact absurd r6.lt (Nat.not_lt.mpr (Nat.le_of_eq gA.symm))
      replace O := O.ext E22
      replace E1 := E1.ext E22
      replace F_pages := F_pages.ext E22
      replace F_taken := F_taken.ext E22
      replace F_lastPage := F_lastPage.ext E22
      replace F_pagesHeld := F_pagesHeld.ext E22
      replace F_size := F_size.ext E22
      replace G_P := G_P.ext E22
      replace G_K := G_K.ext E22
      replace PG := PG.ext E22
      replace Z0 := Nat.le_trans Z0 E22.1
      replace hs0 := Nat.le_trans hs0 E22.1
      have GA : own_Arf Z h22 A k22 .byte 256 (fun j => .int (val (256 * (x.toNatClampNeg / 256) + j))) := (own_Arf.new A22 (by decide)).cong fun j hj => by show Value.int 0 = _; rw [IV.1 _ pgl hf j hj]
      show own_Go _ _ _ _ (T22.setTop (mkF m 75 #[.val (.ref a1), .val (.int x), .val (.ref a3), .val (.int (own_pg x)), s_4] [(.ref A), (.int (own_pg x)), (.ref P)]))
      obtain ⟨cl23, Ar23, q23, Sz23, Hs23⟩ := id G_P
      have hin23 := own_in Sz23 pg0 pg1
      obtain ⟨T23, h23, X23, e23, W23, st23⟩ := stR X22 hx hZ e22 Ar23 (j := (own_pg x)) hin23 rfl (Sto.ofVA Ar23 q23 OvP (Ins.self ExA)) (g := (mkF m 75 #[.val (.ref a1), .val (.int x), .val (.ref a3), .val (.int (own_pg x)), s_4] [(.ref A), (.int (own_pg x)), (.ref P)])) rfl rfl (hb hby own_d5_75)
      refine own_go st23 ?_
      have NF23 := Fr.snoc X23 N ge_P
      replace G_P : own_Arf Z h23 P kP (.array .byte) 256 (fun j => if j = x.toNatClampNeg / 256 then Value.ref A else f j) := ((G_P.set W23 pg1).cong fun j hj => by rw [pgn])
      replace O := O.wr W23 ge_P
      replace E1 := E1.wr W23
      replace F_pages := F_pages.other W23 (Or.inl (Ne.symm nePm))
      replace F_taken := F_taken.other W23 (Or.inl (Ne.symm nePm))
      replace F_lastPage := F_lastPage.other W23 (Or.inl (Ne.symm nePm))
      replace F_pagesHeld := F_pagesHeld.other W23 (Or.inl (Ne.symm nePm))
      replace F_size := F_size.other W23 (Or.inl (Ne.symm nePm))
      replace G_K := G_K.other W23 (Ne.symm nePK)
      replace PG := PG.wr W23 (Or.inl rfl)
      replace GA := GA.other W23 (Ne.symm ne_P_A)
      replace Z0 := Nat.le_trans Z0 (Keep.of_wr W23).1
      replace hs0 := Nat.le_trans hs0 (Keep.of_wr W23).1
      show own_Go _ _ _ _ (T23.setTop (mkF m 76 #[.val (.ref a1), .val (.int x), .val (.ref a3), .val (.int (own_pg x)), s_4] []))
      replace PG := PG.page (i := x.toNatClampNeg / 256) ge_A (Ne.symm ne_P_A) (Ne.symm ne_K_A) (Ne.symm ne_a1_A) GA
      have IV := IV.page (i := x.toNatClampNeg / 256) hnew
      have hfp : (fun j => if j = x.toNatClampNeg / 256 then Value.ref A else f j) (x.toNatClampNeg / 256) = .ref A := if_pos rfl
      show own_Go _ _ _ _ (T23.setTop (mkF m 76 #[.val (.ref a1), .val (.int x), .val (.ref a3), .val (.int (own_pg x)), s_4] []))
      refine own_go (fun _ kont => XS.aloadN X23.here hx rfl (hb hby own_d5_76) rfl rfl kont) ?_
      show own_Go _ _ _ _ (T23.setTop (mkF m 77 #[.val (.ref a1), .val (.int x), .val (.ref a3), .val (.int (own_pg x)), s_4] [(.ref a1)]))
      refine own_go (fun _ kont => XS.dup X23.here hx rfl (hb hby own_d5_77) rfl rfl kont) ?_
      show own_Go _ _ _ _ (T23.setTop (mkF m 78 #[.val (.ref a1), .val (.int x), .val (.ref a3), .val (.int (own_pg x)), s_4] [(.ref a1), (.ref a1)]))
      obtain ⟨T24, X24, e24, st24⟩ := getF X23 hx hZ hown (host := "") (Or.inl (hw _ (List.mem_of_getElem? (i := 45) rfl))) Via.refl e23 F_pagesHeld (g := (mkF m 78 #[.val (.ref a1), .val (.int x), .val (.ref a3), .val (.int (own_pg x)), s_4] [(.ref a1), (.ref a1)])) rfl rfl (hb hby own_d5_78)
      refine own_go st24 ?_
      show own_Go _ _ _ _ (T24.setTop (mkF m 81 #[.val (.ref a1), .val (.int x), .val (.ref a3), .val (.int (own_pg x)), s_4] [(.int held), (.ref a1)]))
      refine own_go (fun _ kont => XS.iconst X24.here hx rfl (hb hby own_d5_81) kont) ?_
      show own_Go _ _ _ _ (T24.setTop (mkF m 82 #[.val (.ref a1), .val (.int x), .val (.ref a3), .val (.int (own_pg x)), s_4] [(.int (1 : Int32)), (.int held), (.ref a1)]))
      refine own_go (fun _ kont => XS.iadd X24.here hx rfl (hb hby own_d5_82) rfl kont) ?_
      show own_Go _ _ _ _ (T24.setTop (mkF m 83 #[.val (.ref a1), .val (.int x), .val (.ref a3), .val (.int (own_pg x)), s_4] [(.int (held + (1 : Int32))), (.ref a1)]))
      obtain ⟨T25, h25, X25, e25, W25, st25⟩ := putF X24 hx hZ hown (host := "") (Or.inl (hw _ (List.mem_of_getElem? (i := 45) rfl))) Via.refl e24 F_pagesHeld E1 (Or.inl (hw _ (List.mem_of_getElem? (i := 46) rfl))) (hw _ (List.mem_of_getElem? (i := 12) rfl)) (ty := .int) (by decide) rfl rfl (g := (mkF m 83 #[.val (.ref a1), .val (.int x), .val (.ref a3), .val (.int (own_pg x)), s_4] [(.int (held + (1 : Int32))), (.ref a1)])) rfl rfl (hb hby own_d5_83)
      refine own_go st25 ?_
      have NF25 := Fr.snoc X25 NF23 ge_a1
      replace F_pagesHeld := F_pagesHeld.same W25
      replace O := O.wr W25 ge_a1
      replace E1 := E1.wr W25
      replace F_pages := F_pages.other W25 (Or.inr (slot_ne (Or.inl (hw _ (List.mem_of_getElem? (i := 28) rfl))) (Or.inl (hw _ (List.mem_of_getElem? (i := 46) rfl))) (by decide) (t := (.array (.array .byte))) (t' := .int) (by decide) (by decide)))
      replace F_taken := F_taken.other W25 (Or.inr (slot_ne (Or.inl (hw _ (List.mem_of_getElem? (i := 38) rfl))) (Or.inl (hw _ (List.mem_of_getElem? (i := 46) rfl))) (by decide) (t := (.array .char)) (t' := .int) (by decide) (by decide)))
      replace F_lastPage := F_lastPage.other W25 (Or.inr (slot_ne (Or.inl (hw _ (List.mem_of_getElem? (i := 21) rfl))) (Or.inl (hw _ (List.mem_of_getElem? (i := 46) rfl))) (by decide) (t := .int) (t' := .int) (by decide) (by decide)))
      replace F_size := F_size.other W25 (Or.inr (slot_ne (Or.inl (hw _ (List.mem_of_getElem? (i := 48) rfl))) (Or.inl (hw _ (List.mem_of_getElem? (i := 46) rfl))) (by decide) (t := .int) (t' := .int) (by decide) (by decide)))
      replace G_P := G_P.other W25 nePm
      replace G_K := G_K.other W25 neKm
      replace PG := PG.wr W25 (Or.inr (Or.inr rfl))
      replace GA := GA.other W25 (Ne.symm ne_a1_A)
      replace Z0 := Nat.le_trans Z0 (Keep.of_wr W25).1
      replace hs0 := Nat.le_trans hs0 (Keep.of_wr W25).1
      show own_Go _ _ _ _ (T25.setTop (mkF m 86 #[.val (.ref a1), .val (.int x), .val (.ref a3), .val (.int (own_pg x)), s_4] []))
      exact J86 _ h_4 _ _ X25 NF25 _ e25 O Z0 hs0 _ _ ⟨P, K, kP, kK, E1, F_pages, F_taken, F_lastPage, F_pagesHeld, F_size, ge_P, ge_K, nePK, nePm, neKm, G_P, OvP, G_K, PG, IV, lp1, lp2⟩ (fun q => by have q2 := hfp.symm.trans q; cases q2)
    · have _u := trivial
      obtain ⟨cl26, Ar26, q26, Sz26, Hs26⟩ := id G_P
      have hin26 := own_in Sz26 pg0 pg1
      have hat26 : cl26.slots[((own_pg x)).toNatClampNeg]? = some (.ref A) := (Hs26 _ pg1).trans (congrArg some (by rw [pgn]; exact hf))
      refine own_go (X3.aaload hx (j := (own_pg x)) (v := (.ref A)) (own_hp e3 Ar26.1) (State.isArrayOf_alike hZ.alike Ar26.2.1) rfl Ar26.2.2 hin26 hat26 (g := (mkF m 61 #[.val (.ref a1), .val (.int x), .val (.ref a3), .val (.int (own_pg x)), s_4] [(.int (own_pg x)), (.ref P)])) rfl rfl (hb hby own_d5_61)) ?_
      show own_Go _ _ _ _ (T3.setTop (mkF m 62 #[.val (.ref a1), .val (.int x), .val (.ref a3), .val (.int (own_pg x)), s_4] [(.ref A)]))
      refine own_go (fun _ kont => XS.ifnonnullYes X3.here hx rfl (pc0 := 62) (pc' := 86) rfl (hb hby own_d5_62) rfl (by decide) (by decide) kont) ?_
      show own_Go _ _ _ _ (T3.setTop (mkF m 86 #[.val (.ref a1), .val (.int x), .val (.ref a3), .val (.int (own_pg x)), s_4] []))
      exact J86 _ h_4 _ _ (X3.more (by decide) (by decide)) N _ e3 O Z0 hs0 _ _ M0 (by rw [hf]; exact nofun)
  by_cases hl : (own_pg x) = lp
  · have _h := hl
    refine own_go (fun _ kont => XS.icmpYes X2.here hx rfl (pc0 := 36) (pc' := 56) rfl (hb hby own_d5_36) rfl (teq hl).1 (by decide) (by decide) kont) ?_
    show own_Go _ _ _ _ (T2.setTop (mkF m 56 #[.val (.ref a1), .val (.int x), .val (.ref a3), .val (.int (own_pg x)), .unset] []))
    exact J56 _ (Or.inl rfl) _ _ X2 N0 _ e2 O Z0 hs0 _ _ (by rw [hl]; exact M0)
  · have _h := hl
    refine own_go (fun _ kont => XS.icmpNo X2.here hx rfl (hb hby own_d5_36) rfl (feq hl).1 kont) ?_
    show own_Go _ _ _ _ (T2.setTop (mkF m 39 #[.val (.ref a1), .val (.int x), .val (.ref a3), .val (.int (own_pg x)), .unset] []))
    refine own_go (fun _ kont => XS.aloadN X2.here hx rfl (hb hby own_d5_39) rfl rfl kont) ?_
    show own_Go _ _ _ _ (T2.setTop (mkF m 40 #[.val (.ref a1), .val (.int x), .val (.ref a3), .val (.int (own_pg x)), .unset] [(.ref a1)]))
    obtain ⟨T27, X27, e27, st27⟩ := getF X2 hx hZ hown (host := "") (Or.inl (hw _ (List.mem_of_getElem? (i := 20) rfl))) Via.refl e2 F_lastPage (g := (mkF m 40 #[.val (.ref a1), .val (.int x), .val (.ref a3), .val (.int (own_pg x)), .unset] [(.ref a1)])) rfl rfl (hb hby own_d5_40)
    refine own_go st27 ?_
    show own_Go _ _ _ _ (T27.setTop (mkF m 43 #[.val (.ref a1), .val (.int x), .val (.ref a3), .val (.int (own_pg x)), .unset] [(.int lp)]))
    refine own_go (fun _ kont => XS.istore X27.here hx rfl (hb hby own_d5_43) rfl (l' := #[.val (.ref a1), .val (.int x), .val (.ref a3), .val (.int (own_pg x)), .val (.int lp)]) rfl kont) ?_
    show own_Go _ _ _ _ (T27.setTop (mkF m 45 #[.val (.ref a1), .val (.int x), .val (.ref a3), .val (.int (own_pg x)), .val (.int lp)] []))
    refine own_go (fun _ kont => XS.aloadN X27.here hx rfl (hb hby own_d5_45) rfl rfl kont) ?_
    show own_Go _ _ _ _ (T27.setTop (mkF m 46 #[.val (.ref a1), .val (.int x), .val (.ref a3), .val (.int (own_pg x)), .val (.int lp)] [(.ref a1)]))
    refine own_go (fun _ kont => XS.iloadN X27.here hx rfl (hb hby own_d5_46) rfl kont) ?_
    show own_Go _ _ _ _ (T27.setTop (mkF m 47 #[.val (.ref a1), .val (.int x), .val (.ref a3), .val (.int (own_pg x)), .val (.int lp)] [(.int (own_pg x)), (.ref a1)]))
    obtain ⟨T28, h28, X28, e28, W28, st28⟩ := putF X27 hx hZ hown (host := "") (Or.inl (hw _ (List.mem_of_getElem? (i := 20) rfl))) Via.refl e27 F_lastPage E1 (Or.inl (hw _ (List.mem_of_getElem? (i := 21) rfl))) (hw _ (List.mem_of_getElem? (i := 12) rfl)) (ty := .int) (by decide) rfl rfl (g := (mkF m 47 #[.val (.ref a1), .val (.int x), .val (.ref a3), .val (.int (own_pg x)), .val (.int lp)] [(.int (own_pg x)), (.ref a1)])) rfl rfl (hb hby own_d5_47)
    refine own_go st28 ?_
    have NF28 := Fr.snoc X28 N0 ge_a1
    replace F_lastPage := F_lastPage.same W28
    replace O := O.wr W28 ge_a1
    replace E1 := E1.wr W28
    replace F_pages := F_pages.other W28 (Or.inr (slot_ne (Or.inl (hw _ (List.mem_of_getElem? (i := 28) rfl))) (Or.inl (hw _ (List.mem_of_getElem? (i := 21) rfl))) (by decide) (t := (.array (.array .byte))) (t' := .int) (by decide) (by decide)))
    replace F_taken := F_taken.other W28 (Or.inr (slot_ne (Or.inl (hw _ (List.mem_of_getElem? (i := 38) rfl))) (Or.inl (hw _ (List.mem_of_getElem? (i := 21) rfl))) (by decide) (t := (.array .char)) (t' := .int) (by decide) (by decide)))
    replace F_pagesHeld := F_pagesHeld.other W28 (Or.inr (slot_ne (Or.inl (hw _ (List.mem_of_getElem? (i := 46) rfl))) (Or.inl (hw _ (List.mem_of_getElem? (i := 21) rfl))) (by decide) (t := .int) (t' := .int) (by decide) (by decide)))
    replace F_size := F_size.other W28 (Or.inr (slot_ne (Or.inl (hw _ (List.mem_of_getElem? (i := 48) rfl))) (Or.inl (hw _ (List.mem_of_getElem? (i := 21) rfl))) (by decide) (t := .int) (t' := .int) (by decide) (by decide)))
    replace G_P := G_P.other W28 nePm
    replace G_K := G_K.other W28 neKm
    replace PG := PG.wr W28 (Or.inr (Or.inr rfl))
    replace Z0 := Nat.le_trans Z0 (Keep.of_wr W28).1
    replace hs0 := Nat.le_trans hs0 (Keep.of_wr W28).1
    show own_Go _ _ _ _ (T28.setTop (mkF m 50 #[.val (.ref a1), .val (.int x), .val (.ref a3), .val (.int (own_pg x)), .val (.int lp)] []))
    refine own_go (fun _ kont => XS.aloadN X28.here hx rfl (hb hby own_d5_50) rfl rfl kont) ?_
    show own_Go _ _ _ _ (T28.setTop (mkF m 51 #[.val (.ref a1), .val (.int x), .val (.ref a3), .val (.int (own_pg x)), .val (.int lp)] [(.ref a1)]))
    refine own_go (fun _ kont => XS.iload X28.here hx rfl (hb hby own_d5_51) rfl kont) ?_
    show own_Go _ _ _ _ (T28.setTop (mkF m 53 #[.val (.ref a1), .val (.int x), .val (.ref a3), .val (.int (own_pg x)), .val (.int lp)] [(.int lp), (.ref a1)]))
    obtain ⟨cq29, q29, q29'⟩ := E1.cell
    obtain ⟨_, _, ⟨T29, L29, k29, n29⟩, -, X29, ⟨Lc29, hQ29, l29, y29, z29⟩, st29⟩ := X28.privateBack hx (y := (⟨"com/example/utopic/utopic/broker/MessageIds", "dropIfEmpty", "(I)V"⟩ : MethodName)) hown (mvT hZ (hw _ (List.mem_of_getElem? (i := 39) rfl))) (mvT hZ (hw _ (List.mem_of_getElem? (i := 40) rfl))) (own_selp (args := #[]) (args' := #[]) (args'' := #[]) (by decide) (mvT hZ (hw _ (List.mem_of_getElem? (i := 12) rfl))) (mvP hZ (hw _ (List.mem_of_getElem? (i := 41) rfl))) (mvT hZ (hw _ (List.mem_of_getElem? (i := 40) rfl)))) (Cond.privateMethod_at (mvP hZ (hw _ (List.mem_of_getElem? (i := 41) rfl)) (args := #[]))) (mvT hZ (hw _ (List.mem_of_getElem? (i := 42) rfl))) (by decide) (own_back (W := 0) (own_rmD l Z a0 hw a1 lp S val held size (own_pg x) f h28 n0 Z0 ⟨P, K, kP, kK, E1, F_pages, F_taken, F_lastPage, F_pagesHeld, F_size, ge_P, ge_K, nePK, nePm, neKm, G_P, OvP, G_K, PG, IV, pb1, pb2⟩ ge_a1 lp1 lp2 O) hZ (hw _ (List.mem_of_getElem? (i := 42) rfl)) (hw _ (List.mem_of_getElem? (i := 13) rfl)) (by decide) (by decide)) (g := (mkF m 53 #[.val (.ref a1), .val (.int x), .val (.ref a3), .val (.int (own_pg x)), .val (.int lp)] [(.int lp), (.ref a1)])) rfl (by rw [hml]; rfl) (Steps.refl _) (a := a1) (own_hp e28 q29) q29' (argsL := [(.int lp)]) (rest := []) (lenOf own_pd0 rfl) rfl (by show 2 * 0 + _ ≤ _; exact Nat.le_of_eq rfl) (hb hby own_d5_53) (fun _ _ => ⟨rfl, e28, (by decide : 0 + 0 ≤ _), (by decide : 0 + 0 ≤ _)⟩)
    dsimp only [Pt.U, Pt.locs, Pt.cells, Pt.slots] at X29 l29 y29 z29 st29 hQ29
    replace X29 := own_cst X29 l29 y29 z29 (k2 := 0) (n2 := 0) rfl rfl
    clear l29 y29 z29
    obtain ⟨held29, f29, rfl, Nq29, O29, hsq29, M29⟩ := hQ29
    have NF29 := Fr.app NF28 Nq29
    refine own_goT st29 ?_
    replace hs0 := Nat.le_trans hs0 hsq29
    replace Z0 := Nat.le_trans Z0 hsq29
    show own_Go _ _ _ _ (T29.setTop (mkF m 56 #[.val (.ref a1), .val (.int x), .val (.ref a3), .val (.int (own_pg x)), .val (.int lp)] []))
    exact J56 _ (Or.inr ⟨_, rfl, rfl⟩) _ _ X29 NF29 _ rfl O29 Z0 hs0 _ _ M29
theorem own_d8_0 : decode prog_5_method_4_code 0 = .ok (.iload_n 1, 1) := by decide +kernel
theorem own_d8_1 : decode prog_5_method_4_code 1 = .ok (.bipush 8, 2) := by decide +kernel
theorem own_d8_3 : decode prog_5_method_4_code 3 = .ok (.iushr, 1) := by decide +kernel
theorem own_d8_4 : decode prog_5_method_4_code 4 = .ok (.istore_n 2, 1) := by decide +kernel
theorem own_d8_5 : decode prog_5_method_4_code 5 = .ok (.iload_n 1, 1) := by decide +kernel
theorem own_d8_6 : decode prog_5_method_4_code 6 = .ok (.sipush 255, 3) := by decide +kernel
theorem own_d8_9 : decode prog_5_method_4_code 9 = .ok (.iand, 1) := by decide +kernel
theorem own_d8_10 : decode prog_5_method_4_code 10 = .ok (.istore_n 3, 1) := by decide +kernel
theorem own_d8_11 : decode prog_5_method_4_code 11 = .ok (.aload_n 0, 1) := by decide +kernel
theorem own_d8_12 : decode prog_5_method_4_code 12 = .ok (.getfield 17, 3) := by decide +kernel
theorem own_d8_15 : decode prog_5_method_4_code 15 = .ok (.ifnull 23, 3) := by decide +kernel
theorem own_d8_18 : decode prog_5_method_4_code 18 = .ok (.aload_n 0, 1) := by decide +kernel
theorem own_d8_19 : decode prog_5_method_4_code 19 = .ok (.getfield 17, 3) := by decide +kernel
theorem own_d8_22 : decode prog_5_method_4_code 22 = .ok (.iload_n 2, 1) := by decide +kernel
theorem own_d8_23 : decode prog_5_method_4_code 23 = .ok (.aaload, 1) := by decide +kernel
theorem own_d8_24 : decode prog_5_method_4_code 24 = .ok (.ifnull 14, 3) := by decide +kernel
theorem own_d8_27 : decode prog_5_method_4_code 27 = .ok (.aload_n 0, 1) := by decide +kernel
theorem own_d8_28 : decode prog_5_method_4_code 28 = .ok (.getfield 17, 3) := by decide +kernel
theorem own_d8_31 : decode prog_5_method_4_code 31 = .ok (.iload_n 2, 1) := by decide +kernel
theorem own_d8_32 : decode prog_5_method_4_code 32 = .ok (.aaload, 1) := by decide +kernel
theorem own_d8_33 : decode prog_5_method_4_code 33 = .ok (.iload_n 3, 1) := by decide +kernel
theorem own_d8_34 : decode prog_5_method_4_code 34 = .ok (.baload, 1) := by decide +kernel
theorem own_d8_35 : decode prog_5_method_4_code 35 = .ok (.ifCond .ne 4, 3) := by decide +kernel
theorem own_d8_38 : decode prog_5_method_4_code 38 = .ok (.return_, 1) := by decide +kernel
theorem own_d8_39 : decode prog_5_method_4_code 39 = .ok (.aload_n 0, 1) := by decide +kernel
theorem own_d8_40 : decode prog_5_method_4_code 40 = .ok (.getfield 17, 3) := by decide +kernel
theorem own_d8_43 : decode prog_5_method_4_code 43 = .ok (.iload_n 2, 1) := by decide +kernel
theorem own_d8_44 : decode prog_5_method_4_code 44 = .ok (.aaload, 1) := by decide +kernel
theorem own_d8_45 : decode prog_5_method_4_code 45 = .ok (.iload_n 3, 1) := by decide +kernel
theorem own_d8_46 : decode prog_5_method_4_code 46 = .ok (.iconst 0, 1) := by decide +kernel
theorem own_d8_47 : decode prog_5_method_4_code 47 = .ok (.bastore, 1) := by decide +kernel
theorem own_d8_48 : decode prog_5_method_4_code 48 = .ok (.aload_n 0, 1) := by decide +kernel
theorem own_d8_49 : decode prog_5_method_4_code 49 = .ok (.getfield 27, 3) := by decide +kernel
theorem own_d8_52 : decode prog_5_method_4_code 52 = .ok (.iload_n 2, 1) := by decide +kernel
theorem own_d8_53 : decode prog_5_method_4_code 53 = .ok (.dup2, 1) := by decide +kernel
theorem own_d8_54 : decode prog_5_method_4_code 54 = .ok (.caload, 1) := by decide +kernel
theorem own_d8_55 : decode prog_5_method_4_code 55 = .ok (.iconst 1, 1) := by decide +kernel
theorem own_d8_56 : decode prog_5_method_4_code 56 = .ok (.isub, 1) := by decide +kernel
theorem own_d8_57 : decode prog_5_method_4_code 57 = .ok (.i2c, 1) := by decide +kernel
theorem own_d8_58 : decode prog_5_method_4_code 58 = .ok (.castore, 1) := by decide +kernel
theorem own_d8_59 : decode prog_5_method_4_code 59 = .ok (.aload_n 0, 1) := by decide +kernel
theorem own_d8_60 : decode prog_5_method_4_code 60 = .ok (.dup, 1) := by decide +kernel
theorem own_d8_61 : decode prog_5_method_4_code 61 = .ok (.getfield 38, 3) := by decide +kernel
theorem own_d8_64 : decode prog_5_method_4_code 64 = .ok (.iconst 1, 1) := by decide +kernel
theorem own_d8_65 : decode prog_5_method_4_code 65 = .ok (.isub, 1) := by decide +kernel
theorem own_d8_66 : decode prog_5_method_4_code 66 = .ok (.putfield 38, 3) := by decide +kernel
theorem own_d8_69 : decode prog_5_method_4_code 69 = .ok (.aload_n 0, 1) := by decide +kernel
theorem own_d8_70 : decode prog_5_method_4_code 70 = .ok (.iload_n 2, 1) := by decide +kernel
theorem own_d8_71 : decode prog_5_method_4_code 71 = .ok (.invokevirtual 31, 3) := by decide +kernel
theorem own_d8_74 : decode prog_5_method_4_code 74 = .ok (.return_, 1) := by decide +kernel
set_option maxRecDepth 65536 in
set_option maxHeartbeats 40000000 in
theorem own_rmR (l : Launch) (Z : State) (a0 : Array Value) (hw : ∀ d ∈ tables_1, d.before a0 Z = true) (a1 : Addr) (x : Int32) (S : List Nat) (val : Nat → Int32) (held : Int32) (size : Int32) (h0 : Heap) (n0 : Nat) (Z0 : n0 ≤ h0.size) (M : own_St Z n0 h0 a1 S val held size) (i1 : 0 ≤ x.toInt) (i2 : x.toInt < 65536) (ge_a1 : n0 ≤ a1) (O : Old Z n0 h0) :
    own_Met l Z [] (⟨"com/example/utopic/utopic/broker/MessageIds", "remove", "(I)V"⟩ : MethodName) prog_5_method_4_code 4 none ({ frames := 1, cells := 0, slots := 0, locals := 13 } : Room) #[(.ref a1), (.int x)] h0 (fun v h L => ∃ S' held' size', v = none ∧ Fr n0 L ∧ Old Z n0 h ∧ h0.size ≤ h.size ∧ own_St Z n0 h a1 S' (own_set val x.toNatClampNeg 0) held' size') := by
  refine MetFree.of_bodySF (plainFor_of_name own_pn0) hisR ?_
  intro p e s m args below meth c s₁ Bd hml0 hP hK
  obtain ⟨rfl, hZ, hh⟩ := hP
  have hx := Bd.exec
  have hby := Bd.bytes
  have hml : c.maxLocals = 4 := hml0
  have hown : s.vm.findClass "com/example/utopic/utopic/broker/MessageIds" = some m.cls := findClass_of_methodNamed Bd.named
  have hnm := (name_of_methodNamed Bd.named Bd.method).1
  have hlk : meth.locks = false := Bd.notSynchronized
  have X0 : Stand p l e ({ frames := 1, cells := 0, slots := 0, locals := 13 } : Room) s m #[(.ref a1), (.int x)] below meth c s₁ [] 0 0 := Stand.of_body Bd
  have e0 : s₁.heap = h0 := by rw [← hh, Bd.state]; rfl
  have N0 := Fr.nil n0
  refine own_body (Q := fun v h L => ∃ S' held' size', v = none ∧ Fr n0 L ∧ Old Z n0 h ∧ h0.size ≤ h.size ∧ own_St Z n0 h a1 S' (own_set val x.toNatClampNeg 0) held' size') ?_
  refine own_go (fun _ kont => castTop (own_ef m #[(.ref a1), (.int x)] 4 #[.val (.ref a1), .val (.int x), .unset, .unset] (own_al [(.ref a1), (.int x)] 4 [.val (.ref a1), .val (.int x), .unset, .unset] rfl)) kont) ?_
  show own_Go _ _ _ _ (s₁.setTop (mkF m 0 #[.val (.ref a1), .val (.int x), .unset, .unset] []))
  obtain ⟨pg0, pgn, pgl, sl0, sln, pgi⟩ := own_idx i1 i2
  have pg1 : (own_pg x).toNatClampNeg < 256 := by rw [pgn]; exact pgl
  have sl1 : (own_sl x).toNatClampNeg < 256 := by rw [sln]; omega
  have xl : x.toNatClampNeg < 65536 := by omega
  have hs0 : h0.size ≤ h0.size := Nat.le_refl _
  have M0 := M
  have pb1 : -1 ≤ (own_pg x).toInt := by rw [pgi]; omega
  have pb2 : (own_pg x).toInt < 256 := by rw [pgi]; omega
  rcases M with ⟨⟨E1, F_pages, -⟩, -, hz, -⟩ | ⟨lp, f, M⟩
  · have _u := trivial
    have hv : val x.toNatClampNeg = 0 := hz _ xl
    refine own_go (fun _ kont => XS.iloadN X0.here hx rfl (hb hby own_d8_0) rfl kont) ?_
    show own_Go _ _ _ _ (s₁.setTop (mkF m 1 #[.val (.ref a1), .val (.int x), .unset, .unset] [(.int x)]))
    refine own_go (fun _ kont => XS.bipush X0.here hx rfl (hb hby own_d8_1) kont) ?_
    show own_Go _ _ _ _ (s₁.setTop (mkF m 3 #[.val (.ref a1), .val (.int x), .unset, .unset] [(.int (8 : Int32)), (.int x)]))
    refine own_go (fun _ kont => XS.iushr X0.here hx rfl (hb hby own_d8_3) rfl kont) ?_
    show own_Go _ _ _ _ (s₁.setTop (mkF m 4 #[.val (.ref a1), .val (.int x), .unset, .unset] [(.int (own_pg x))]))
    refine own_go (fun _ kont => XS.istoreN X0.here hx rfl (hb hby own_d8_4) rfl (l' := #[.val (.ref a1), .val (.int x), .val (.int (own_pg x)), .unset]) rfl kont) ?_
    show own_Go _ _ _ _ (s₁.setTop (mkF m 5 #[.val (.ref a1), .val (.int x), .val (.int (own_pg x)), .unset] []))
    refine own_go (fun _ kont => XS.iloadN X0.here hx rfl (hb hby own_d8_5) rfl kont) ?_
    show own_Go _ _ _ _ (s₁.setTop (mkF m 6 #[.val (.ref a1), .val (.int x), .val (.int (own_pg x)), .unset] [(.int x)]))
    refine own_go (fun _ kont => XS.sipush X0.here hx rfl (hb hby own_d8_6) kont) ?_
    show own_Go _ _ _ _ (s₁.setTop (mkF m 9 #[.val (.ref a1), .val (.int x), .val (.int (own_pg x)), .unset] [(.int (255 : Int32)), (.int x)]))
    refine own_go (fun _ kont => XS.iand X0.here hx rfl (hb hby own_d8_9) rfl kont) ?_
    show own_Go _ _ _ _ (s₁.setTop (mkF m 10 #[.val (.ref a1), .val (.int x), .val (.int (own_pg x)), .unset] [(.int (own_sl x))]))
    refine own_go (fun _ kont => XS.istoreN X0.here hx rfl (hb hby own_d8_10) rfl (l' := #[.val (.ref a1), .val (.int x), .val (.int (own_pg x)), .val (.int (own_sl x))]) rfl kont) ?_
    show own_Go _ _ _ _ (s₁.setTop (mkF m 11 #[.val (.ref a1), .val (.int x), .val (.int (own_pg x)), .val (.int (own_sl x))] []))
    refine own_go (fun _ kont => XS.aloadN X0.here hx rfl (hb hby own_d8_11) rfl rfl kont) ?_
    show own_Go _ _ _ _ (s₁.setTop (mkF m 12 #[.val (.ref a1), .val (.int x), .val (.int (own_pg x)), .val (.int (own_sl x))] [(.ref a1)]))
    obtain ⟨T1, X1, e1, st1⟩ := getF X0 hx hZ hown (host := "") (Or.inl (hw _ (List.mem_of_getElem? (i := 27) rfl))) Via.refl e0 F_pages (g := (mkF m 12 #[.val (.ref a1), .val (.int x), .val (.int (own_pg x)), .val (.int (own_sl x))] [(.ref a1)])) rfl rfl (hb hby own_d8_12)
    refine own_go st1 ?_
    show own_Go _ _ _ _ (T1.setTop (mkF m 15 #[.val (.ref a1), .val (.int x), .val (.int (own_pg x)), .val (.int (own_sl x))] [.null]))
    refine own_go (fun _ kont => XS.ifnullYes X1.here hx rfl (pc0 := 15) (pc' := 38) rfl (hb hby own_d8_15) rfl (by decide) (by decide) kont) ?_
    show own_Go _ _ _ _ (T1.setTop (mkF m 38 #[.val (.ref a1), .val (.int x), .val (.int (own_pg x)), .val (.int (own_sl x))] []))
    refine own_ret X1 hlk (v := none) (fun _ => rfl) (fun fs hr => X1.returnOut hx Bd.returns (hb hby own_d8_38) hr) ?_ (by decide) (by decide)
    try rw [e1]
    exact ⟨S, held, size, rfl, N0, O, Nat.le_refl _, by rw [own_set0 hv]; exact M0⟩
  · have _u := trivial
    obtain ⟨P, K, kP, kK, E1, F_pages, F_taken, F_lastPage, F_pagesHeld, F_size, ge_P, ge_K, nePK, nePm, neKm, G_P, OvP, G_K, PG, IV, lp1, lp2⟩ := M
    refine own_go (fun _ kont => XS.iloadN X0.here hx rfl (hb hby own_d8_0) rfl kont) ?_
    show own_Go _ _ _ _ (s₁.setTop (mkF m 1 #[.val (.ref a1), .val (.int x), .unset, .unset] [(.int x)]))
    refine own_go (fun _ kont => XS.bipush X0.here hx rfl (hb hby own_d8_1) kont) ?_
    show own_Go _ _ _ _ (s₁.setTop (mkF m 3 #[.val (.ref a1), .val (.int x), .unset, .unset] [(.int (8 : Int32)), (.int x)]))
    refine own_go (fun _ kont => XS.iushr X0.here hx rfl (hb hby own_d8_3) rfl kont) ?_
    show own_Go _ _ _ _ (s₁.setTop (mkF m 4 #[.val (.ref a1), .val (.int x), .unset, .unset] [(.int (own_pg x))]))
    refine own_go (fun _ kont => XS.istoreN X0.here hx rfl (hb hby own_d8_4) rfl (l' := #[.val (.ref a1), .val (.int x), .val (.int (own_pg x)), .unset]) rfl kont) ?_
    show own_Go _ _ _ _ (s₁.setTop (mkF m 5 #[.val (.ref a1), .val (.int x), .val (.int (own_pg x)), .unset] []))
    refine own_go (fun _ kont => XS.iloadN X0.here hx rfl (hb hby own_d8_5) rfl kont) ?_
    show own_Go _ _ _ _ (s₁.setTop (mkF m 6 #[.val (.ref a1), .val (.int x), .val (.int (own_pg x)), .unset] [(.int x)]))
    refine own_go (fun _ kont => XS.sipush X0.here hx rfl (hb hby own_d8_6) kont) ?_
    show own_Go _ _ _ _ (s₁.setTop (mkF m 9 #[.val (.ref a1), .val (.int x), .val (.int (own_pg x)), .unset] [(.int (255 : Int32)), (.int x)]))
    refine own_go (fun _ kont => XS.iand X0.here hx rfl (hb hby own_d8_9) rfl kont) ?_
    show own_Go _ _ _ _ (s₁.setTop (mkF m 10 #[.val (.ref a1), .val (.int x), .val (.int (own_pg x)), .unset] [(.int (own_sl x))]))
    refine own_go (fun _ kont => XS.istoreN X0.here hx rfl (hb hby own_d8_10) rfl (l' := #[.val (.ref a1), .val (.int x), .val (.int (own_pg x)), .val (.int (own_sl x))]) rfl kont) ?_
    show own_Go _ _ _ _ (s₁.setTop (mkF m 11 #[.val (.ref a1), .val (.int x), .val (.int (own_pg x)), .val (.int (own_sl x))] []))
    refine own_go (fun _ kont => XS.aloadN X0.here hx rfl (hb hby own_d8_11) rfl rfl kont) ?_
    show own_Go _ _ _ _ (s₁.setTop (mkF m 12 #[.val (.ref a1), .val (.int x), .val (.int (own_pg x)), .val (.int (own_sl x))] [(.ref a1)]))
    obtain ⟨T2, X2, e2, st2⟩ := getF X0 hx hZ hown (host := "") (Or.inl (hw _ (List.mem_of_getElem? (i := 27) rfl))) Via.refl e0 F_pages (g := (mkF m 12 #[.val (.ref a1), .val (.int x), .val (.int (own_pg x)), .val (.int (own_sl x))] [(.ref a1)])) rfl rfl (hb hby own_d8_12)
    refine own_go st2 ?_
    show own_Go _ _ _ _ (T2.setTop (mkF m 15 #[.val (.ref a1), .val (.int x), .val (.int (own_pg x)), .val (.int (own_sl x))] [(.ref P)]))
    refine own_go (fun _ kont => XS.ifnullNo X2.here hx rfl (hb hby own_d8_15) rfl kont) ?_
    show own_Go _ _ _ _ (T2.setTop (mkF m 18 #[.val (.ref a1), .val (.int x), .val (.int (own_pg x)), .val (.int (own_sl x))] []))
    refine own_go (fun _ kont => XS.aloadN X2.here hx rfl (hb hby own_d8_18) rfl rfl kont) ?_
    show own_Go _ _ _ _ (T2.setTop (mkF m 19 #[.val (.ref a1), .val (.int x), .val (.int (own_pg x)), .val (.int (own_sl x))] [(.ref a1)]))
    obtain ⟨T3, X3, e3, st3⟩ := getF X2 hx hZ hown (host := "") (Or.inl (hw _ (List.mem_of_getElem? (i := 27) rfl))) Via.refl e2 F_pages (g := (mkF m 19 #[.val (.ref a1), .val (.int x), .val (.int (own_pg x)), .val (.int (own_sl x))] [(.ref a1)])) rfl rfl (hb hby own_d8_19)
    refine own_go st3 ?_
    show own_Go _ _ _ _ (T3.setTop (mkF m 22 #[.val (.ref a1), .val (.int x), .val (.int (own_pg x)), .val (.int (own_sl x))] [(.ref P)]))
    refine own_go (fun _ kont => XS.iloadN X3.here hx rfl (hb hby own_d8_22) rfl kont) ?_
    show own_Go _ _ _ _ (T3.setTop (mkF m 23 #[.val (.ref a1), .val (.int x), .val (.int (own_pg x)), .val (.int (own_sl x))] [(.int (own_pg x)), (.ref P)]))
    rcases PG (x.toNatClampNeg / 256) pgl with hf | ⟨A, kA, hfp, geA, neAP, neAK, neAm, GA⟩
    · have _u := trivial
      have hv : val x.toNatClampNeg = 0 := by have := IV.1 _ pgl hf (x.toNatClampNeg % 256) (by omega); rw [own_x] at this; exact this
      obtain ⟨cl4, Ar4, q4, Sz4, Hs4⟩ := id G_P
      have hin4 := own_in Sz4 pg0 pg1
      have hat4 : cl4.slots[((own_pg x)).toNatClampNeg]? = some .null := (Hs4 _ pg1).trans (congrArg some (by rw [pgn]; exact hf))
      refine own_go (X3.aaload hx (j := (own_pg x)) (v := .null) (own_hp e3 Ar4.1) (State.isArrayOf_alike hZ.alike Ar4.2.1) rfl Ar4.2.2 hin4 hat4 (g := (mkF m 23 #[.val (.ref a1), .val (.int x), .val (.int (own_pg x)), .val (.int (own_sl x))] [(.int (own_pg x)), (.ref P)])) rfl rfl (hb hby own_d8_23)) ?_
      show own_Go _ _ _ _ (T3.setTop (mkF m 24 #[.val (.ref a1), .val (.int x), .val (.int (own_pg x)), .val (.int (own_sl x))] [.null]))
      refine own_go (fun _ kont => XS.ifnullYes X3.here hx rfl (pc0 := 24) (pc' := 38) rfl (hb hby own_d8_24) rfl (by decide) (by decide) kont) ?_
      show own_Go _ _ _ _ (T3.setTop (mkF m 38 #[.val (.ref a1), .val (.int x), .val (.int (own_pg x)), .val (.int (own_sl x))] []))
      refine own_ret X3 hlk (v := none) (fun _ => rfl) (fun fs hr => X3.returnOut hx Bd.returns (hb hby own_d8_38) hr) ?_ (by decide) (by decide)
      try rw [e3]
      exact ⟨S, held, size, rfl, N0, O, Nat.le_refl _, by rw [own_set0 hv]; exact M0⟩
    · have _u := trivial
      have ge_A := geA
      obtain ⟨cl5, Ar5, q5, Sz5, Hs5⟩ := id G_P
      have hin5 := own_in Sz5 pg0 pg1
      have hat5 : cl5.slots[((own_pg x)).toNatClampNeg]? = some (.ref A) := (Hs5 _ pg1).trans (congrArg some (by rw [pgn]; exact hfp))
      refine own_go (X3.aaload hx (j := (own_pg x)) (v := (.ref A)) (own_hp e3 Ar5.1) (State.isArrayOf_alike hZ.alike Ar5.2.1) rfl Ar5.2.2 hin5 hat5 (g := (mkF m 23 #[.val (.ref a1), .val (.int x), .val (.int (own_pg x)), .val (.int (own_sl x))] [(.int (own_pg x)), (.ref P)])) rfl rfl (hb hby own_d8_23)) ?_
      show own_Go _ _ _ _ (T3.setTop (mkF m 24 #[.val (.ref a1), .val (.int x), .val (.int (own_pg x)), .val (.int (own_sl x))] [(.ref A)]))
      refine own_go (fun _ kont => XS.ifnullNo X3.here hx rfl (hb hby own_d8_24) rfl kont) ?_
      show own_Go _ _ _ _ (T3.setTop (mkF m 27 #[.val (.ref a1), .val (.int x), .val (.int (own_pg x)), .val (.int (own_sl x))] []))
      refine own_go (fun _ kont => XS.aloadN X3.here hx rfl (hb hby own_d8_27) rfl rfl kont) ?_
      show own_Go _ _ _ _ (T3.setTop (mkF m 28 #[.val (.ref a1), .val (.int x), .val (.int (own_pg x)), .val (.int (own_sl x))] [(.ref a1)]))
      obtain ⟨T6, X6, e6, st6⟩ := getF X3 hx hZ hown (host := "") (Or.inl (hw _ (List.mem_of_getElem? (i := 27) rfl))) Via.refl e3 F_pages (g := (mkF m 28 #[.val (.ref a1), .val (.int x), .val (.int (own_pg x)), .val (.int (own_sl x))] [(.ref a1)])) rfl rfl (hb hby own_d8_28)
      refine own_go st6 ?_
      show own_Go _ _ _ _ (T6.setTop (mkF m 31 #[.val (.ref a1), .val (.int x), .val (.int (own_pg x)), .val (.int (own_sl x))] [(.ref P)]))
      refine own_go (fun _ kont => XS.iloadN X6.here hx rfl (hb hby own_d8_31) rfl kont) ?_
      show own_Go _ _ _ _ (T6.setTop (mkF m 32 #[.val (.ref a1), .val (.int x), .val (.int (own_pg x)), .val (.int (own_sl x))] [(.int (own_pg x)), (.ref P)]))
      obtain ⟨cl7, Ar7, q7, Sz7, Hs7⟩ := id G_P
      have hin7 := own_in Sz7 pg0 pg1
      have hat7 : cl7.slots[((own_pg x)).toNatClampNeg]? = some (.ref A) := (Hs7 _ pg1).trans (congrArg some (by rw [pgn]; exact hfp))
      refine own_go (X6.aaload hx (j := (own_pg x)) (v := (.ref A)) (own_hp e6 Ar7.1) (State.isArrayOf_alike hZ.alike Ar7.2.1) rfl Ar7.2.2 hin7 hat7 (g := (mkF m 32 #[.val (.ref a1), .val (.int x), .val (.int (own_pg x)), .val (.int (own_sl x))] [(.int (own_pg x)), (.ref P)])) rfl rfl (hb hby own_d8_32)) ?_
      show own_Go _ _ _ _ (T6.setTop (mkF m 33 #[.val (.ref a1), .val (.int x), .val (.int (own_pg x)), .val (.int (own_sl x))] [(.ref A)]))
      refine own_go (fun _ kont => XS.iloadN X6.here hx rfl (hb hby own_d8_33) rfl kont) ?_
      show own_Go _ _ _ _ (T6.setTop (mkF m 34 #[.val (.ref a1), .val (.int x), .val (.int (own_pg x)), .val (.int (own_sl x))] [(.int (own_sl x)), (.ref A)]))
      obtain ⟨cl8, Ar8, q8, Sz8, Hs8⟩ := id GA
      have hin8 := own_in Sz8 sl0 sl1
      have hat8 : cl8.slots[((own_sl x)).toNatClampNeg]? = some (.int (val x.toNatClampNeg)) := (Hs8 _ sl1).trans (congrArg some (by show Value.int _ = _; rw [sln, own_x]))
      refine own_go (X6.baloadBytes hx (j := (own_sl x)) (v := (.int (val x.toNatClampNeg))) (own_hp e6 Ar8.1) (State.isArrayOf_alike hZ.alike Ar8.2.1) Ar8.2.2 hin8 hat8 (g := (mkF m 34 #[.val (.ref a1), .val (.int x), .val (.int (own_pg x)), .val (.int (own_sl x))] [(.int (own_sl x)), (.ref A)])) rfl rfl (hb hby own_d8_34)) ?_
      show own_Go _ _ _ _ (T6.setTop (mkF m 35 #[.val (.ref a1), .val (.int x), .val (.int (own_pg x)), .val (.int (own_sl x))] [(.int (val x.toNatClampNeg))]))
      by_cases hv : (val x.toNatClampNeg) = (0 : Int32)
      · have _h := hv
        refine own_go (fun _ kont => XS.ifNo X6.here hx rfl (hb hby own_d8_35) rfl ((if0 _ _).trans (teq hv).2) kont) ?_
        show own_Go _ _ _ _ (T6.setTop (mkF m 38 #[.val (.ref a1), .val (.int x), .val (.int (own_pg x)), .val (.int (own_sl x))] []))
        refine own_ret X6 hlk (v := none) (fun _ => rfl) (fun fs hr => X6.returnOut hx Bd.returns (hb hby own_d8_38) hr) ?_ (by decide) (by decide)
        try rw [e6]
        exact ⟨S, held, size, rfl, N0, O, Nat.le_refl _, by rw [own_set0 hv]; exact M0⟩
      · have _h := hv
        refine own_go (fun _ kont => XS.ifYes X6.here hx rfl (pc0 := 35) (pc' := 39) rfl (hb hby own_d8_35) rfl ((if0 _ _).trans (feq hv).2) (by decide) (by decide) kont) ?_
        show own_Go _ _ _ _ (T6.setTop (mkF m 39 #[.val (.ref a1), .val (.int x), .val (.int (own_pg x)), .val (.int (own_sl x))] []))
        refine own_go (fun _ kont => XS.aloadN X6.here hx rfl (hb hby own_d8_39) rfl rfl kont) ?_
        show own_Go _ _ _ _ (T6.setTop (mkF m 40 #[.val (.ref a1), .val (.int x), .val (.int (own_pg x)), .val (.int (own_sl x))] [(.ref a1)]))
        obtain ⟨T9, X9, e9, st9⟩ := getF X6 hx hZ hown (host := "") (Or.inl (hw _ (List.mem_of_getElem? (i := 27) rfl))) Via.refl e6 F_pages (g := (mkF m 40 #[.val (.ref a1), .val (.int x), .val (.int (own_pg x)), .val (.int (own_sl x))] [(.ref a1)])) rfl rfl (hb hby own_d8_40)
        refine own_go st9 ?_
        show own_Go _ _ _ _ (T9.setTop (mkF m 43 #[.val (.ref a1), .val (.int x), .val (.int (own_pg x)), .val (.int (own_sl x))] [(.ref P)]))
        refine own_go (fun _ kont => XS.iloadN X9.here hx rfl (hb hby own_d8_43) rfl kont) ?_
        show own_Go _ _ _ _ (T9.setTop (mkF m 44 #[.val (.ref a1), .val (.int x), .val (.int (own_pg x)), .val (.int (own_sl x))] [(.int (own_pg x)), (.ref P)]))
        obtain ⟨cl10, Ar10, q10, Sz10, Hs10⟩ := id G_P
        have hin10 := own_in Sz10 pg0 pg1
        have hat10 : cl10.slots[((own_pg x)).toNatClampNeg]? = some (.ref A) := (Hs10 _ pg1).trans (congrArg some (by rw [pgn]; exact hfp))
        refine own_go (X9.aaload hx (j := (own_pg x)) (v := (.ref A)) (own_hp e9 Ar10.1) (State.isArrayOf_alike hZ.alike Ar10.2.1) rfl Ar10.2.2 hin10 hat10 (g := (mkF m 44 #[.val (.ref a1), .val (.int x), .val (.int (own_pg x)), .val (.int (own_sl x))] [(.int (own_pg x)), (.ref P)])) rfl rfl (hb hby own_d8_44)) ?_
        show own_Go _ _ _ _ (T9.setTop (mkF m 45 #[.val (.ref a1), .val (.int x), .val (.int (own_pg x)), .val (.int (own_sl x))] [(.ref A)]))
        refine own_go (fun _ kont => XS.iloadN X9.here hx rfl (hb hby own_d8_45) rfl kont) ?_
        show own_Go _ _ _ _ (T9.setTop (mkF m 46 #[.val (.ref a1), .val (.int x), .val (.int (own_pg x)), .val (.int (own_sl x))] [(.int (own_sl x)), (.ref A)]))
        refine own_go (fun _ kont => XS.iconst X9.here hx rfl (hb hby own_d8_46) kont) ?_
        show own_Go _ _ _ _ (T9.setTop (mkF m 47 #[.val (.ref a1), .val (.int x), .val (.int (own_pg x)), .val (.int (own_sl x))] [(.int (0 : Int32)), (.int (own_sl x)), (.ref A)]))
        obtain ⟨cl11, Ar11, q11, Sz11, Hs11⟩ := id GA
        have hin11 := own_in Sz11 sl0 sl1
        obtain ⟨T11, h11, X11, e11, W11, st11⟩ := stB X9 hx hZ e9 Ar11 (j := (own_sl x)) hin11 (g := (mkF m 47 #[.val (.ref a1), .val (.int x), .val (.int (own_pg x)), .val (.int (own_sl x))] [(.int (0 : Int32)), (.int (own_sl x)), (.ref A)])) rfl rfl (hb hby own_d8_47)
        refine own_go st11 ?_
        have NF11 := Fr.snoc X11 N0 ge_A
        replace O := O.wr W11 ge_A
        replace E1 := E1.wr W11
        replace F_pages := F_pages.other W11 (Or.inl (Ne.symm neAm))
        replace F_taken := F_taken.other W11 (Or.inl (Ne.symm neAm))
        replace F_lastPage := F_lastPage.other W11 (Or.inl (Ne.symm neAm))
        replace F_pagesHeld := F_pagesHeld.other W11 (Or.inl (Ne.symm neAm))
        replace F_size := F_size.other W11 (Or.inl (Ne.symm neAm))
        replace G_P := G_P.other W11 (Ne.symm neAP)
        replace G_K := G_K.other W11 (Ne.symm neAK)
        replace Z0 := Nat.le_trans Z0 (Keep.of_wr W11).1
        replace hs0 := Nat.le_trans hs0 (Keep.of_wr W11).1
        show own_Go _ _ _ _ (T11.setTop (mkF m 48 #[.val (.ref a1), .val (.int x), .val (.int (own_pg x)), .val (.int (own_sl x))] []))
        have W11' : Wr h0 h11 A (own_sl x).toNatClampNeg (.int 0) := W11
        replace PG := PG.put IV.2.1 xl hfp GA W11' sln
        show own_Go _ _ _ _ (T11.setTop (mkF m 48 #[.val (.ref a1), .val (.int x), .val (.int (own_pg x)), .val (.int (own_sl x))] []))
        refine own_go (fun _ kont => XS.aloadN X11.here hx rfl (hb hby own_d8_48) rfl rfl kont) ?_
        show own_Go _ _ _ _ (T11.setTop (mkF m 49 #[.val (.ref a1), .val (.int x), .val (.int (own_pg x)), .val (.int (own_sl x))] [(.ref a1)]))
        obtain ⟨T12, X12, e12, st12⟩ := getF X11 hx hZ hown (host := "") (Or.inl (hw _ (List.mem_of_getElem? (i := 37) rfl))) Via.refl e11 F_taken (g := (mkF m 49 #[.val (.ref a1), .val (.int x), .val (.int (own_pg x)), .val (.int (own_sl x))] [(.ref a1)])) rfl rfl (hb hby own_d8_49)
        refine own_go st12 ?_
        show own_Go _ _ _ _ (T12.setTop (mkF m 52 #[.val (.ref a1), .val (.int x), .val (.int (own_pg x)), .val (.int (own_sl x))] [(.ref K)]))
        refine own_go (fun _ kont => XS.iloadN X12.here hx rfl (hb hby own_d8_52) rfl kont) ?_
        show own_Go _ _ _ _ (T12.setTop (mkF m 53 #[.val (.ref a1), .val (.int x), .val (.int (own_pg x)), .val (.int (own_sl x))] [(.int (own_pg x)), (.ref K)]))
        refine own_go (fun _ kont => Jvm.Free.XT.dup2 X12.here hx rfl (hb hby own_d8_53) rfl rfl rfl kont) ?_
        show own_Go _ _ _ _ (T12.setTop (mkF m 54 #[.val (.ref a1), .val (.int x), .val (.int (own_pg x)), .val (.int (own_sl x))] [(.int (own_pg x)), (.ref K), (.int (own_pg x)), (.ref K)]))
        obtain ⟨cl13, Ar13, q13, Sz13, Hs13⟩ := id G_K
        have hin13 := own_in Sz13 pg0 pg1
        have hat13 : cl13.slots[((own_pg x)).toNatClampNeg]? = some (.int (Int32.ofNat (own_cnt S (x.toNatClampNeg / 256)))) := (Hs13 _ pg1).trans (congrArg some (by show Value.int _ = _; rw [pgn]))
        refine own_go (X12.caload hx (j := (own_pg x)) (v := (.int (Int32.ofNat (own_cnt S (x.toNatClampNeg / 256))))) (own_hp e12 Ar13.1) (State.isArrayOf_alike hZ.alike Ar13.2.1) Ar13.2.2 hin13 hat13 (g := (mkF m 54 #[.val (.ref a1), .val (.int x), .val (.int (own_pg x)), .val (.int (own_sl x))] [(.int (own_pg x)), (.ref K), (.int (own_pg x)), (.ref K)])) rfl rfl (hb hby own_d8_54)) ?_
        show own_Go _ _ _ _ (T12.setTop (mkF m 55 #[.val (.ref a1), .val (.int x), .val (.int (own_pg x)), .val (.int (own_sl x))] [(.int (Int32.ofNat (own_cnt S (x.toNatClampNeg / 256)))), (.int (own_pg x)), (.ref K)]))
        refine own_go (fun _ kont => XS.iconst X12.here hx rfl (hb hby own_d8_55) kont) ?_
        show own_Go _ _ _ _ (T12.setTop (mkF m 56 #[.val (.ref a1), .val (.int x), .val (.int (own_pg x)), .val (.int (own_sl x))] [(.int (1 : Int32)), (.int (Int32.ofNat (own_cnt S (x.toNatClampNeg / 256)))), (.int (own_pg x)), (.ref K)]))
        refine own_go (fun _ kont => XS.isub X12.here hx rfl (hb hby own_d8_56) rfl kont) ?_
        show own_Go _ _ _ _ (T12.setTop (mkF m 57 #[.val (.ref a1), .val (.int x), .val (.int (own_pg x)), .val (.int (own_sl x))] [(.int ((Int32.ofNat (own_cnt S (x.toNatClampNeg / 256))) - (1 : Int32))), (.int (own_pg x)), (.ref K)]))
        refine own_go (fun _ kont => XS.i2c X12.here hx rfl (hb hby own_d8_57) rfl kont) ?_
        show own_Go _ _ _ _ (T12.setTop (mkF m 58 #[.val (.ref a1), .val (.int x), .val (.int (own_pg x)), .val (.int (own_sl x))] [(.int (((Int32.ofNat (own_cnt S (x.toNatClampNeg / 256))) - (1 : Int32)).toUInt32.toUInt16.toUInt32.toInt32)), (.int (own_pg x)), (.ref K)]))
        have hin : x.toNatClampNeg ∈ S := (IV.2.2.2.1 _ xl).mpr hv
        have ce := fun i => own_cnt_erase hin i
        have cl : own_cnt (S.erase x.toNatClampNeg) (x.toNatClampNeg / 256) ≤ 100 := Nat.le_trans (own_cnt_le _ _) (Nat.le_trans (List.length_erase_le) IV.2.2.2.2)
        obtain ⟨cl14, Ar14, q14, Sz14, Hs14⟩ := id G_K
        have hin14 := own_in Sz14 pg0 pg1
        obtain ⟨T14, h14, X14, e14, W14, st14⟩ := stC X12 hx hZ e12 Ar14 (j := (own_pg x)) hin14 (g := (mkF m 58 #[.val (.ref a1), .val (.int x), .val (.int (own_pg x)), .val (.int (own_sl x))] [(.int (((Int32.ofNat (own_cnt S (x.toNatClampNeg / 256))) - (1 : Int32)).toUInt32.toUInt16.toUInt32.toInt32)), (.int (own_pg x)), (.ref K)])) rfl rfl (hb hby own_d8_58)
        refine own_go st14 ?_
        have NF14 := Fr.snoc X14 NF11 ge_K
        replace G_K : own_Arf Z h14 K kK .char 256 (fun i => .int (Int32.ofNat (own_cnt (S.erase x.toNatClampNeg) i))) := ((G_K.set W14 pg1).cong fun j hj => by rw [pgn, ce (x.toNatClampNeg / 256), if_pos rfl, own_dec cl]; by_cases e : j = x.toNatClampNeg / 256; rw [if_pos e, e]; rw [if_neg e, ce j, if_neg (Ne.symm e)]; rfl)
        replace O := O.wr W14 ge_K
        replace E1 := E1.wr W14
        replace F_pages := F_pages.other W14 (Or.inl (Ne.symm neKm))
        replace F_taken := F_taken.other W14 (Or.inl (Ne.symm neKm))
        replace F_lastPage := F_lastPage.other W14 (Or.inl (Ne.symm neKm))
        replace F_pagesHeld := F_pagesHeld.other W14 (Or.inl (Ne.symm neKm))
        replace F_size := F_size.other W14 (Or.inl (Ne.symm neKm))
        replace G_P := G_P.other W14 nePK
        replace PG := PG.wr W14 (Or.inr (Or.inl rfl))
        replace Z0 := Nat.le_trans Z0 (Keep.of_wr W14).1
        replace hs0 := Nat.le_trans hs0 (Keep.of_wr W14).1
        show own_Go _ _ _ _ (T14.setTop (mkF m 59 #[.val (.ref a1), .val (.int x), .val (.int (own_pg x)), .val (.int (own_sl x))] []))
        refine own_go (fun _ kont => XS.aloadN X14.here hx rfl (hb hby own_d8_59) rfl rfl kont) ?_
        show own_Go _ _ _ _ (T14.setTop (mkF m 60 #[.val (.ref a1), .val (.int x), .val (.int (own_pg x)), .val (.int (own_sl x))] [(.ref a1)]))
        refine own_go (fun _ kont => XS.dup X14.here hx rfl (hb hby own_d8_60) rfl rfl kont) ?_
        show own_Go _ _ _ _ (T14.setTop (mkF m 61 #[.val (.ref a1), .val (.int x), .val (.int (own_pg x)), .val (.int (own_sl x))] [(.ref a1), (.ref a1)]))
        obtain ⟨T15, X15, e15, st15⟩ := getF X14 hx hZ hown (host := "") (Or.inl (hw _ (List.mem_of_getElem? (i := 47) rfl))) Via.refl e14 F_size (g := (mkF m 61 #[.val (.ref a1), .val (.int x), .val (.int (own_pg x)), .val (.int (own_sl x))] [(.ref a1), (.ref a1)])) rfl rfl (hb hby own_d8_61)
        refine own_go st15 ?_
        show own_Go _ _ _ _ (T15.setTop (mkF m 64 #[.val (.ref a1), .val (.int x), .val (.int (own_pg x)), .val (.int (own_sl x))] [(.int size), (.ref a1)]))
        refine own_go (fun _ kont => XS.iconst X15.here hx rfl (hb hby own_d8_64) kont) ?_
        show own_Go _ _ _ _ (T15.setTop (mkF m 65 #[.val (.ref a1), .val (.int x), .val (.int (own_pg x)), .val (.int (own_sl x))] [(.int (1 : Int32)), (.int size), (.ref a1)]))
        refine own_go (fun _ kont => XS.isub X15.here hx rfl (hb hby own_d8_65) rfl kont) ?_
        show own_Go _ _ _ _ (T15.setTop (mkF m 66 #[.val (.ref a1), .val (.int x), .val (.int (own_pg x)), .val (.int (own_sl x))] [(.int (size - (1 : Int32))), (.ref a1)]))
        obtain ⟨T16, h16, X16, e16, W16, st16⟩ := putF X15 hx hZ hown (host := "") (Or.inl (hw _ (List.mem_of_getElem? (i := 47) rfl))) Via.refl e15 F_size E1 (Or.inl (hw _ (List.mem_of_getElem? (i := 48) rfl))) (hw _ (List.mem_of_getElem? (i := 12) rfl)) (ty := .int) (by decide) rfl rfl (g := (mkF m 66 #[.val (.ref a1), .val (.int x), .val (.int (own_pg x)), .val (.int (own_sl x))] [(.int (size - (1 : Int32))), (.ref a1)])) rfl rfl (hb hby own_d8_66)
        refine own_go st16 ?_
        have NF16 := Fr.snoc X16 NF14 ge_a1
        replace F_size := F_size.same W16
        replace O := O.wr W16 ge_a1
        replace E1 := E1.wr W16
        replace F_pages := F_pages.other W16 (Or.inr (slot_ne (Or.inl (hw _ (List.mem_of_getElem? (i := 28) rfl))) (Or.inl (hw _ (List.mem_of_getElem? (i := 48) rfl))) (by decide) (t := (.array (.array .byte))) (t' := .int) (by decide) (by decide)))
        replace F_taken := F_taken.other W16 (Or.inr (slot_ne (Or.inl (hw _ (List.mem_of_getElem? (i := 38) rfl))) (Or.inl (hw _ (List.mem_of_getElem? (i := 48) rfl))) (by decide) (t := (.array .char)) (t' := .int) (by decide) (by decide)))
        replace F_lastPage := F_lastPage.other W16 (Or.inr (slot_ne (Or.inl (hw _ (List.mem_of_getElem? (i := 21) rfl))) (Or.inl (hw _ (List.mem_of_getElem? (i := 48) rfl))) (by decide) (t := .int) (t' := .int) (by decide) (by decide)))
        replace F_pagesHeld := F_pagesHeld.other W16 (Or.inr (slot_ne (Or.inl (hw _ (List.mem_of_getElem? (i := 46) rfl))) (Or.inl (hw _ (List.mem_of_getElem? (i := 48) rfl))) (by decide) (t := .int) (t' := .int) (by decide) (by decide)))
        replace G_P := G_P.other W16 nePm
        replace G_K := G_K.other W16 neKm
        replace PG := PG.wr W16 (Or.inr (Or.inr rfl))
        replace Z0 := Nat.le_trans Z0 (Keep.of_wr W16).1
        replace hs0 := Nat.le_trans hs0 (Keep.of_wr W16).1
        show own_Go _ _ _ _ (T16.setTop (mkF m 69 #[.val (.ref a1), .val (.int x), .val (.int (own_pg x)), .val (.int (own_sl x))] []))
        refine own_go (fun _ kont => XS.aloadN X16.here hx rfl (hb hby own_d8_69) rfl rfl kont) ?_
        show own_Go _ _ _ _ (T16.setTop (mkF m 70 #[.val (.ref a1), .val (.int x), .val (.int (own_pg x)), .val (.int (own_sl x))] [(.ref a1)]))
        refine own_go (fun _ kont => XS.iloadN X16.here hx rfl (hb hby own_d8_70) rfl kont) ?_
        show own_Go _ _ _ _ (T16.setTop (mkF m 71 #[.val (.ref a1), .val (.int x), .val (.int (own_pg x)), .val (.int (own_sl x))] [(.int (own_pg x)), (.ref a1)]))
        have IV' : own_Inv f (S.erase x.toNatClampNeg) (own_set val x.toNatClampNeg 0) := IV.put xl (fun q => by have q2 := hfp.symm.trans q; cases q2) (IV.2.2.1.erase _) (fun y => by rw [IV.2.2.1.mem_erase_iff]; by_cases e : y = x.toNatClampNeg <;> simp [e]) (Nat.le_trans List.length_erase_le IV.2.2.2.2)
        obtain ⟨cq17, q17, q17'⟩ := E1.cell
        obtain ⟨_, _, ⟨T17, L17, k17, n17⟩, -, X17, ⟨Lc17, hQ17, l17, y17, z17⟩, st17⟩ := X16.privateBack hx (y := (⟨"com/example/utopic/utopic/broker/MessageIds", "dropIfEmpty", "(I)V"⟩ : MethodName)) hown (mvT hZ (hw _ (List.mem_of_getElem? (i := 39) rfl))) (mvT hZ (hw _ (List.mem_of_getElem? (i := 40) rfl))) (own_selp (args := #[]) (args' := #[]) (args'' := #[]) (by decide) (mvT hZ (hw _ (List.mem_of_getElem? (i := 12) rfl))) (mvP hZ (hw _ (List.mem_of_getElem? (i := 41) rfl))) (mvT hZ (hw _ (List.mem_of_getElem? (i := 40) rfl)))) (Cond.privateMethod_at (mvP hZ (hw _ (List.mem_of_getElem? (i := 41) rfl)) (args := #[]))) (mvT hZ (hw _ (List.mem_of_getElem? (i := 42) rfl))) (by decide) (own_back (W := 0) (own_rmD l Z a0 hw a1 (own_pg x) _ _ _ _ lp f h16 n0 Z0 ⟨P, K, kP, kK, E1, F_pages, F_taken, F_lastPage, F_pagesHeld, F_size, ge_P, ge_K, nePK, nePm, neKm, G_P, OvP, G_K, PG, IV', lp1, lp2⟩ ge_a1 pb1 pb2 O) hZ (hw _ (List.mem_of_getElem? (i := 42) rfl)) (hw _ (List.mem_of_getElem? (i := 13) rfl)) (by decide) (by decide)) (g := (mkF m 71 #[.val (.ref a1), .val (.int x), .val (.int (own_pg x)), .val (.int (own_sl x))] [(.int (own_pg x)), (.ref a1)])) rfl (by rw [hml]; rfl) (Steps.refl _) (a := a1) (own_hp e16 q17) q17' (argsL := [(.int (own_pg x))]) (rest := []) (lenOf own_pd0 rfl) rfl (by show 2 * 0 + _ ≤ _; exact Nat.le_of_eq rfl) (hb hby own_d8_71) (fun _ _ => ⟨rfl, e16, (by decide : 0 + 0 ≤ _), (by decide : 0 + 0 ≤ _)⟩)
        dsimp only [Pt.U, Pt.locs, Pt.cells, Pt.slots] at X17 l17 y17 z17 st17 hQ17
        replace X17 := own_cst X17 l17 y17 z17 (k2 := 0) (n2 := 0) rfl rfl
        clear l17 y17 z17
        obtain ⟨held17, f17, rfl, Nq17, O17, hsq17, M17⟩ := hQ17
        have NF17 := Fr.app NF16 Nq17
        refine own_goT st17 ?_
        replace hs0 := Nat.le_trans hs0 hsq17
        replace Z0 := Nat.le_trans Z0 hsq17
        show own_Go _ _ _ _ (T17.setTop (mkF m 74 #[.val (.ref a1), .val (.int x), .val (.int (own_pg x)), .val (.int (own_sl x))] []))
        refine own_ret X17 hlk (v := none) (fun _ => rfl) (fun fs hr => X17.returnOut hx Bd.returns (hb hby own_d8_74) hr) ?_ (by decide) (by decide)
        skip
        exact ⟨_, _, _, rfl, NF17, O17, hs0, Or.inr ⟨_, _, M17⟩⟩
theorem own_pn3 : plainName "com/example/utopic/utopic/broker/MessageIdsGetPinLaw" = true := by first | (simp [plainName, overriddenIn]; done) | decide +kernel
theorem own_pd2 : parseMethodDescriptor "(I)Lcom/example/utopic/utopic/codec/PacketType;" = some ⟨[.int], some (.object "com/example/utopic/utopic/codec/PacketType")⟩ := by decide +kernel
theorem own_pd3 : parseMethodDescriptor "()V" = some ⟨[], none⟩ := by decide +kernel
theorem own_pd4 : parseMethodDescriptor "(ILcom/example/utopic/utopic/codec/PacketType;)V" = some ⟨[.int, (.object "com/example/utopic/utopic/codec/PacketType")], none⟩ := by decide +kernel
set_option maxRecDepth 65536 in
set_option maxHeartbeats 40000000 in
theorem own_rm0 (l : Launch) (Z : State) (a0 : Array Value) (hw : ∀ d ∈ tables_1, d.before a0 Z = true) (p1 : Int32) (p2 : Int32) (p3 : Int32) (p4 : Int32) (p5 : Int32) (p6 : Int32) (aC : Addr) (clC : Cell) (aT : Addr) (kT : ClassId) (tys : List Addr) (h0 : Heap) (n0 : Nat) (Z0 : n0 ≤ h0.size) (O : Old Z n0 h0) (S_C : Sta Z Z.heap "com/example/utopic/utopic/codec/PacketType" "BY_CODE" "[Lcom/example/utopic/utopic/codec/PacketType;" (.ref aC)) (Ar_C : Arr Z Z.heap aC clC (.object "com/example/utopic/utopic/codec/PacketType")) (sz_C : clC.slots.size = 16) (el_C : ∀ n, n < 14 → clC.slots[n + 1]? = some (.ref (tys.getD n 0))) (S_T : Sta Z Z.heap "com/example/utopic/utopic/broker/MessageIds" "TYPES" "[Lcom/example/utopic/utopic/codec/PacketType;" (.ref aT)) (V_T : Arv Z Z.heap aT kT (.object "com/example/utopic/utopic/codec/PacketType") 14 (tys.map Value.ref) .null) (hlen : tys.length = 14) (hT : ∀ n, n < 14 → Exa Z Z.heap (tys.getD n 0) "com/example/utopic/utopic/codec/PacketType" ∧ Fld Z Z.heap (tys.getD n 0) "java/lang/Enum" "ordinal" "I" (.int (Int32.ofNat n))) :
    own_Met l Z tables_1 x code maxLocals ret room_1 #[(.int p1), (.int p2), (.int p3), (.int p4), (.int p5), (.int p6)] h0 (fun v h L => v = some (.int 1) ∧ Fr n0 L) := by
  refine MetFree.of_bodySF (plainFor_of_name own_pn3) hisR ?_
  intro p e s m args below meth c s₁ Bd hml0 hP hK
  obtain ⟨rfl, hZ, hh⟩ := hP
  have hx := Bd.exec
  have hby := Bd.bytes
  have hml : c.maxLocals = 22 := hml0
  have hown : s.vm.findClass "com/example/utopic/utopic/broker/MessageIdsGetPinLaw" = some m.cls := findClass_of_methodNamed Bd.named
  have hnm := (name_of_methodNamed Bd.named Bd.method).1
  have hlk : meth.locks = false := Bd.notSynchronized
  have X0 : Stand p l e room_1 s m #[(.int p1), (.int p2), (.int p3), (.int p4), (.int p5), (.int p6)] below meth c s₁ [] 0 0 := Stand.of_body Bd
  have e0 : s₁.heap = h0 := by rw [← hh, Bd.state]; rfl
  have N0 := Fr.nil n0
  refine own_body (Q := fun v h L => v = some (.int 1) ∧ Fr n0 L) ?_
  refine own_go (fun _ kont => castTop (own_ef m #[(.int p1), (.int p2), (.int p3), (.int p4), (.int p5), (.int p6)] maxLocals #[.val (.int p1), .val (.int p2), .val (.int p3), .val (.int p4), .val (.int p5), .val (.int p6), .unset, .unset, .unset, .unset, .unset, .unset, .unset, .unset, .unset, .unset, .unset, .unset, .unset, .unset, .unset, .unset] (own_al [(.int p1), (.int p2), (.int p3), (.int p4), (.int p5), (.int p6)] maxLocals [.val (.int p1), .val (.int p2), .val (.int p3), .val (.int p4), .val (.int p5), .val (.int p6), .unset, .unset, .unset, .unset, .unset, .unset, .unset, .unset, .unset, .unset, .unset, .unset, .unset, .unset, .unset, .unset] rfl)) kont) ?_
  show own_Go _ _ _ _ (s₁.setTop (mkF m 0 #[.val (.int p1), .val (.int p2), .val (.int p3), .val (.int p4), .val (.int p5), .val (.int p6), .unset, .unset, .unset, .unset, .unset, .unset, .unset, .unset, .unset, .unset, .unset, .unset, .unset, .unset, .unset, .unset] []))
  refine own_go (fun _ kont => XS.iloadN X0.here hx rfl (hb hby at_0) rfl kont) ?_
  show own_Go _ _ _ _ (s₁.setTop (mkF m 1 #[.val (.int p1), .val (.int p2), .val (.int p3), .val (.int p4), .val (.int p5), .val (.int p6), .unset, .unset, .unset, .unset, .unset, .unset, .unset, .unset, .unset, .unset, .unset, .unset, .unset, .unset, .unset, .unset] [(.int p1)]))
  refine own_go (X0.ldcInt hx hown (mvT hZ (hw _ (List.mem_of_getElem? (i := 0) rfl))) (g := (mkF m 1 #[.val (.int p1), .val (.int p2), .val (.int p3), .val (.int p4), .val (.int p5), .val (.int p6), .unset, .unset, .unset, .unset, .unset, .unset, .unset, .unset, .unset, .unset, .unset, .unset, .unset, .unset, .unset, .unset] [(.int p1)])) rfl (hb hby at_1)) ?_
  show own_Go _ _ _ _ (s₁.setTop (mkF m 3 #[.val (.int p1), .val (.int p2), .val (.int p3), .val (.int p4), .val (.int p5), .val (.int p6), .unset, .unset, .unset, .unset, .unset, .unset, .unset, .unset, .unset, .unset, .unset, .unset, .unset, .unset, .unset, .unset] [(.int (65535 : Int32)), (.int p1)]))
  refine own_go (fun _ kont => XS.iand X0.here hx rfl (hb hby at_3) rfl kont) ?_
  show own_Go _ _ _ _ (s₁.setTop (mkF m 4 #[.val (.int p1), .val (.int p2), .val (.int p3), .val (.int p4), .val (.int p5), .val (.int p6), .unset, .unset, .unset, .unset, .unset, .unset, .unset, .unset, .unset, .unset, .unset, .unset, .unset, .unset, .unset, .unset] [(.int (p1 &&& (65535 : Int32)))]))
  obtain ⟨a1, a2⟩ := own_m16 p1
  generalize ha : (p1 &&& (65535 : Int32)) = a
  rw [ha] at a1 a2
  show own_Go _ _ _ _ (s₁.setTop (mkF m 4 #[.val (.int p1), .val (.int p2), .val (.int p3), .val (.int p4), .val (.int p5), .val (.int p6), .unset, .unset, .unset, .unset, .unset, .unset, .unset, .unset, .unset, .unset, .unset, .unset, .unset, .unset, .unset, .unset] [(.int a)]))
  refine own_go (fun _ kont => XS.istore X0.here hx rfl (hb hby at_4) rfl (l' := #[.val (.int p1), .val (.int p2), .val (.int p3), .val (.int p4), .val (.int p5), .val (.int p6), .val (.int a), .unset, .unset, .unset, .unset, .unset, .unset, .unset, .unset, .unset, .unset, .unset, .unset, .unset, .unset, .unset]) rfl kont) ?_
  show own_Go _ _ _ _ (s₁.setTop (mkF m 6 #[.val (.int p1), .val (.int p2), .val (.int p3), .val (.int p4), .val (.int p5), .val (.int p6), .val (.int a), .unset, .unset, .unset, .unset, .unset, .unset, .unset, .unset, .unset, .unset, .unset, .unset, .unset, .unset, .unset] []))
  refine own_go (fun _ kont => XS.iload X0.here hx rfl (hb hby at_6) rfl kont) ?_
  show own_Go _ _ _ _ (s₁.setTop (mkF m 8 #[.val (.int p1), .val (.int p2), .val (.int p3), .val (.int p4), .val (.int p5), .val (.int p6), .val (.int a), .unset, .unset, .unset, .unset, .unset, .unset, .unset, .unset, .unset, .unset, .unset, .unset, .unset, .unset, .unset] [(.int p6)]))
  refine own_go (fun _ kont => XS.iconst X0.here hx rfl (hb hby at_8) kont) ?_
  show own_Go _ _ _ _ (s₁.setTop (mkF m 9 #[.val (.int p1), .val (.int p2), .val (.int p3), .val (.int p4), .val (.int p5), .val (.int p6), .val (.int a), .unset, .unset, .unset, .unset, .unset, .unset, .unset, .unset, .unset, .unset, .unset, .unset, .unset, .unset, .unset] [(.int (1 : Int32)), (.int p6)]))
  refine own_go (fun _ kont => XS.iushr X0.here hx rfl (hb hby at_9) rfl kont) ?_
  show own_Go _ _ _ _ (s₁.setTop (mkF m 10 #[.val (.int p1), .val (.int p2), .val (.int p3), .val (.int p4), .val (.int p5), .val (.int p6), .val (.int a), .unset, .unset, .unset, .unset, .unset, .unset, .unset, .unset, .unset, .unset, .unset, .unset, .unset, .unset, .unset] [(.int ((p6.toUInt32 >>> ((1 : Int32) &&& 31).toUInt32).toInt32))]))
  refine own_go (fun _ kont => XS.iconst X0.here hx rfl (hb hby at_10) kont) ?_
  show own_Go _ _ _ _ (s₁.setTop (mkF m 11 #[.val (.int p1), .val (.int p2), .val (.int p3), .val (.int p4), .val (.int p5), .val (.int p6), .val (.int a), .unset, .unset, .unset, .unset, .unset, .unset, .unset, .unset, .unset, .unset, .unset, .unset, .unset, .unset, .unset] [(.int (3 : Int32)), (.int ((p6.toUInt32 >>> ((1 : Int32) &&& 31).toUInt32).toInt32))]))
  refine own_go (fun _ kont => XS.iand X0.here hx rfl (hb hby at_11) rfl kont) ?_
  show own_Go _ _ _ _ (s₁.setTop (mkF m 12 #[.val (.int p1), .val (.int p2), .val (.int p3), .val (.int p4), .val (.int p5), .val (.int p6), .val (.int a), .unset, .unset, .unset, .unset, .unset, .unset, .unset, .unset, .unset, .unset, .unset, .unset, .unset, .unset, .unset] [(.int (((p6.toUInt32 >>> ((1 : Int32) &&& 31).toUInt32).toInt32) &&& (3 : Int32)))]))
  refine own_go (fun _ kont => XS.istore X0.here hx rfl (hb hby at_12) rfl (l' := #[.val (.int p1), .val (.int p2), .val (.int p3), .val (.int p4), .val (.int p5), .val (.int p6), .val (.int a), .val (.int (((p6.toUInt32 >>> ((1 : Int32) &&& 31).toUInt32).toInt32) &&& (3 : Int32))), .unset, .unset, .unset, .unset, .unset, .unset, .unset, .unset, .unset, .unset, .unset, .unset, .unset, .unset]) rfl kont) ?_
  show own_Go _ _ _ _ (s₁.setTop (mkF m 14 #[.val (.int p1), .val (.int p2), .val (.int p3), .val (.int p4), .val (.int p5), .val (.int p6), .val (.int a), .val (.int (((p6.toUInt32 >>> ((1 : Int32) &&& 31).toUInt32).toInt32) &&& (3 : Int32))), .unset, .unset, .unset, .unset, .unset, .unset, .unset, .unset, .unset, .unset, .unset, .unset, .unset, .unset] []))
  refine own_go (fun _ kont => XS.iloadN X0.here hx rfl (hb hby at_14) rfl kont) ?_
  show own_Go _ _ _ _ (s₁.setTop (mkF m 15 #[.val (.int p1), .val (.int p2), .val (.int p3), .val (.int p4), .val (.int p5), .val (.int p6), .val (.int a), .val (.int (((p6.toUInt32 >>> ((1 : Int32) &&& 31).toUInt32).toInt32) &&& (3 : Int32))), .unset, .unset, .unset, .unset, .unset, .unset, .unset, .unset, .unset, .unset, .unset, .unset, .unset, .unset] [(.int p2)]))
  refine own_go (X0.ldcInt hx hown (mvT hZ (hw _ (List.mem_of_getElem? (i := 0) rfl))) (g := (mkF m 15 #[.val (.int p1), .val (.int p2), .val (.int p3), .val (.int p4), .val (.int p5), .val (.int p6), .val (.int a), .val (.int (((p6.toUInt32 >>> ((1 : Int32) &&& 31).toUInt32).toInt32) &&& (3 : Int32))), .unset, .unset, .unset, .unset, .unset, .unset, .unset, .unset, .unset, .unset, .unset, .unset, .unset, .unset] [(.int p2)])) rfl (hb hby at_15)) ?_
  show own_Go _ _ _ _ (s₁.setTop (mkF m 17 #[.val (.int p1), .val (.int p2), .val (.int p3), .val (.int p4), .val (.int p5), .val (.int p6), .val (.int a), .val (.int (((p6.toUInt32 >>> ((1 : Int32) &&& 31).toUInt32).toInt32) &&& (3 : Int32))), .unset, .unset, .unset, .unset, .unset, .unset, .unset, .unset, .unset, .unset, .unset, .unset, .unset, .unset] [(.int (65535 : Int32)), (.int p2)]))
  refine own_go (fun _ kont => XS.iand X0.here hx rfl (hb hby at_17) rfl kont) ?_
  show own_Go _ _ _ _ (s₁.setTop (mkF m 18 #[.val (.int p1), .val (.int p2), .val (.int p3), .val (.int p4), .val (.int p5), .val (.int p6), .val (.int a), .val (.int (((p6.toUInt32 >>> ((1 : Int32) &&& 31).toUInt32).toInt32) &&& (3 : Int32))), .unset, .unset, .unset, .unset, .unset, .unset, .unset, .unset, .unset, .unset, .unset, .unset, .unset, .unset] [(.int (p2 &&& (65535 : Int32)))]))
  refine own_go (fun _ kont => XS.istore X0.here hx rfl (hb hby at_18) rfl (l' := #[.val (.int p1), .val (.int p2), .val (.int p3), .val (.int p4), .val (.int p5), .val (.int p6), .val (.int a), .val (.int (((p6.toUInt32 >>> ((1 : Int32) &&& 31).toUInt32).toInt32) &&& (3 : Int32))), .val (.int (p2 &&& (65535 : Int32))), .unset, .unset, .unset, .unset, .unset, .unset, .unset, .unset, .unset, .unset, .unset, .unset, .unset]) rfl kont) ?_
  show own_Go _ _ _ _ (s₁.setTop (mkF m 20 #[.val (.int p1), .val (.int p2), .val (.int p3), .val (.int p4), .val (.int p5), .val (.int p6), .val (.int a), .val (.int (((p6.toUInt32 >>> ((1 : Int32) &&& 31).toUInt32).toInt32) &&& (3 : Int32))), .val (.int (p2 &&& (65535 : Int32))), .unset, .unset, .unset, .unset, .unset, .unset, .unset, .unset, .unset, .unset, .unset, .unset, .unset] []))
  refine own_go (fun _ kont => XS.iload X0.here hx rfl (hb hby at_20) rfl kont) ?_
  show own_Go _ _ _ _ (s₁.setTop (mkF m 22 #[.val (.int p1), .val (.int p2), .val (.int p3), .val (.int p4), .val (.int p5), .val (.int p6), .val (.int a), .val (.int (((p6.toUInt32 >>> ((1 : Int32) &&& 31).toUInt32).toInt32) &&& (3 : Int32))), .val (.int (p2 &&& (65535 : Int32))), .unset, .unset, .unset, .unset, .unset, .unset, .unset, .unset, .unset, .unset, .unset, .unset, .unset] [(.int (((p6.toUInt32 >>> ((1 : Int32) &&& 31).toUInt32).toInt32) &&& (3 : Int32)))]))
  refine own_go (fun _ kont => XS.iconst X0.here hx rfl (hb hby at_22) kont) ?_
  show own_Go _ _ _ _ (s₁.setTop (mkF m 23 #[.val (.int p1), .val (.int p2), .val (.int p3), .val (.int p4), .val (.int p5), .val (.int p6), .val (.int a), .val (.int (((p6.toUInt32 >>> ((1 : Int32) &&& 31).toUInt32).toInt32) &&& (3 : Int32))), .val (.int (p2 &&& (65535 : Int32))), .unset, .unset, .unset, .unset, .unset, .unset, .unset, .unset, .unset, .unset, .unset, .unset, .unset] [(.int (1 : Int32)), (.int (((p6.toUInt32 >>> ((1 : Int32) &&& 31).toUInt32).toInt32) &&& (3 : Int32)))]))
  have J74 : ∀ (b : Int32) (b1 : 0 ≤ b.toInt) (b2 : b.toInt < 65536), own_Go p.tables e below (own_End s below (fun v h L => v = some (.int 1) ∧ Fr n0 L) room_1.cells room_1.slots) (s₁.setTop (mkF m 74 #[.val (.int p1), .val (.int p2), .val (.int p3), .val (.int p4), .val (.int p5), .val (.int p6), .val (.int a), .val (.int (((p6.toUInt32 >>> ((1 : Int32) &&& 31).toUInt32).toInt32) &&& (3 : Int32))), .val (.int b), .unset, .unset, .unset, .unset, .unset, .unset, .unset, .unset, .unset, .unset, .unset, .unset, .unset] [])) := by
    intro b b1 b2
    refine own_go (fun _ kont => XS.iload X0.here hx rfl (hb hby at_74) rfl kont) ?_
    show own_Go _ _ _ _ (s₁.setTop (mkF m 76 #[.val (.int p1), .val (.int p2), .val (.int p3), .val (.int p4), .val (.int p5), .val (.int p6), .val (.int a), .val (.int (((p6.toUInt32 >>> ((1 : Int32) &&& 31).toUInt32).toInt32) &&& (3 : Int32))), .val (.int b), .unset, .unset, .unset, .unset, .unset, .unset, .unset, .unset, .unset, .unset, .unset, .unset, .unset] [(.int p6)]))
    refine own_go (fun _ kont => XS.iconst X0.here hx rfl (hb hby at_76) kont) ?_
    show own_Go _ _ _ _ (s₁.setTop (mkF m 77 #[.val (.int p1), .val (.int p2), .val (.int p3), .val (.int p4), .val (.int p5), .val (.int p6), .val (.int a), .val (.int (((p6.toUInt32 >>> ((1 : Int32) &&& 31).toUInt32).toInt32) &&& (3 : Int32))), .val (.int b), .unset, .unset, .unset, .unset, .unset, .unset, .unset, .unset, .unset, .unset, .unset, .unset, .unset] [(.int (3 : Int32)), (.int p6)]))
    refine own_go (fun _ kont => XS.iushr X0.here hx rfl (hb hby at_77) rfl kont) ?_
    show own_Go _ _ _ _ (s₁.setTop (mkF m 78 #[.val (.int p1), .val (.int p2), .val (.int p3), .val (.int p4), .val (.int p5), .val (.int p6), .val (.int a), .val (.int (((p6.toUInt32 >>> ((1 : Int32) &&& 31).toUInt32).toInt32) &&& (3 : Int32))), .val (.int b), .unset, .unset, .unset, .unset, .unset, .unset, .unset, .unset, .unset, .unset, .unset, .unset, .unset] [(.int ((p6.toUInt32 >>> ((3 : Int32) &&& 31).toUInt32).toInt32))]))
    refine own_go (fun _ kont => XS.iconst X0.here hx rfl (hb hby at_78) kont) ?_
    show own_Go _ _ _ _ (s₁.setTop (mkF m 79 #[.val (.int p1), .val (.int p2), .val (.int p3), .val (.int p4), .val (.int p5), .val (.int p6), .val (.int a), .val (.int (((p6.toUInt32 >>> ((1 : Int32) &&& 31).toUInt32).toInt32) &&& (3 : Int32))), .val (.int b), .unset, .unset, .unset, .unset, .unset, .unset, .unset, .unset, .unset, .unset, .unset, .unset, .unset] [(.int (3 : Int32)), (.int ((p6.toUInt32 >>> ((3 : Int32) &&& 31).toUInt32).toInt32))]))
    refine own_go (fun _ kont => XS.iand X0.here hx rfl (hb hby at_79) rfl kont) ?_
    show own_Go _ _ _ _ (s₁.setTop (mkF m 80 #[.val (.int p1), .val (.int p2), .val (.int p3), .val (.int p4), .val (.int p5), .val (.int p6), .val (.int a), .val (.int (((p6.toUInt32 >>> ((1 : Int32) &&& 31).toUInt32).toInt32) &&& (3 : Int32))), .val (.int b), .unset, .unset, .unset, .unset, .unset, .unset, .unset, .unset, .unset, .unset, .unset, .unset, .unset] [(.int (((p6.toUInt32 >>> ((3 : Int32) &&& 31).toUInt32).toInt32) &&& (3 : Int32)))]))
    refine own_go (fun _ kont => XS.istore X0.here hx rfl (hb hby at_80) rfl (l' := #[.val (.int p1), .val (.int p2), .val (.int p3), .val (.int p4), .val (.int p5), .val (.int p6), .val (.int a), .val (.int (((p6.toUInt32 >>> ((1 : Int32) &&& 31).toUInt32).toInt32) &&& (3 : Int32))), .val (.int b), .val (.int (((p6.toUInt32 >>> ((3 : Int32) &&& 31).toUInt32).toInt32) &&& (3 : Int32))), .unset, .unset, .unset, .unset, .unset, .unset, .unset, .unset, .unset, .unset, .unset, .unset]) rfl kont) ?_
    show own_Go _ _ _ _ (s₁.setTop (mkF m 82 #[.val (.int p1), .val (.int p2), .val (.int p3), .val (.int p4), .val (.int p5), .val (.int p6), .val (.int a), .val (.int (((p6.toUInt32 >>> ((1 : Int32) &&& 31).toUInt32).toInt32) &&& (3 : Int32))), .val (.int b), .val (.int (((p6.toUInt32 >>> ((3 : Int32) &&& 31).toUInt32).toInt32) &&& (3 : Int32))), .unset, .unset, .unset, .unset, .unset, .unset, .unset, .unset, .unset, .unset, .unset, .unset] []))
    refine own_go (fun _ kont => XS.iloadN X0.here hx rfl (hb hby at_82) rfl kont) ?_
    show own_Go _ _ _ _ (s₁.setTop (mkF m 83 #[.val (.int p1), .val (.int p2), .val (.int p3), .val (.int p4), .val (.int p5), .val (.int p6), .val (.int a), .val (.int (((p6.toUInt32 >>> ((1 : Int32) &&& 31).toUInt32).toInt32) &&& (3 : Int32))), .val (.int b), .val (.int (((p6.toUInt32 >>> ((3 : Int32) &&& 31).toUInt32).toInt32) &&& (3 : Int32))), .unset, .unset, .unset, .unset, .unset, .unset, .unset, .unset, .unset, .unset, .unset, .unset] [(.int p3)]))
    refine own_go (X0.ldcInt hx hown (mvT hZ (hw _ (List.mem_of_getElem? (i := 0) rfl))) (g := (mkF m 83 #[.val (.int p1), .val (.int p2), .val (.int p3), .val (.int p4), .val (.int p5), .val (.int p6), .val (.int a), .val (.int (((p6.toUInt32 >>> ((1 : Int32) &&& 31).toUInt32).toInt32) &&& (3 : Int32))), .val (.int b), .val (.int (((p6.toUInt32 >>> ((3 : Int32) &&& 31).toUInt32).toInt32) &&& (3 : Int32))), .unset, .unset, .unset, .unset, .unset, .unset, .unset, .unset, .unset, .unset, .unset, .unset] [(.int p3)])) rfl (hb hby at_83)) ?_
    show own_Go _ _ _ _ (s₁.setTop (mkF m 85 #[.val (.int p1), .val (.int p2), .val (.int p3), .val (.int p4), .val (.int p5), .val (.int p6), .val (.int a), .val (.int (((p6.toUInt32 >>> ((1 : Int32) &&& 31).toUInt32).toInt32) &&& (3 : Int32))), .val (.int b), .val (.int (((p6.toUInt32 >>> ((3 : Int32) &&& 31).toUInt32).toInt32) &&& (3 : Int32))), .unset, .unset, .unset, .unset, .unset, .unset, .unset, .unset, .unset, .unset, .unset, .unset] [(.int (65535 : Int32)), (.int p3)]))
    refine own_go (fun _ kont => XS.iand X0.here hx rfl (hb hby at_85) rfl kont) ?_
    show own_Go _ _ _ _ (s₁.setTop (mkF m 86 #[.val (.int p1), .val (.int p2), .val (.int p3), .val (.int p4), .val (.int p5), .val (.int p6), .val (.int a), .val (.int (((p6.toUInt32 >>> ((1 : Int32) &&& 31).toUInt32).toInt32) &&& (3 : Int32))), .val (.int b), .val (.int (((p6.toUInt32 >>> ((3 : Int32) &&& 31).toUInt32).toInt32) &&& (3 : Int32))), .unset, .unset, .unset, .unset, .unset, .unset, .unset, .unset, .unset, .unset, .unset, .unset] [(.int (p3 &&& (65535 : Int32)))]))
    refine own_go (fun _ kont => XS.istore X0.here hx rfl (hb hby at_86) rfl (l' := #[.val (.int p1), .val (.int p2), .val (.int p3), .val (.int p4), .val (.int p5), .val (.int p6), .val (.int a), .val (.int (((p6.toUInt32 >>> ((1 : Int32) &&& 31).toUInt32).toInt32) &&& (3 : Int32))), .val (.int b), .val (.int (((p6.toUInt32 >>> ((3 : Int32) &&& 31).toUInt32).toInt32) &&& (3 : Int32))), .val (.int (p3 &&& (65535 : Int32))), .unset, .unset, .unset, .unset, .unset, .unset, .unset, .unset, .unset, .unset, .unset]) rfl kont) ?_
    show own_Go _ _ _ _ (s₁.setTop (mkF m 88 #[.val (.int p1), .val (.int p2), .val (.int p3), .val (.int p4), .val (.int p5), .val (.int p6), .val (.int a), .val (.int (((p6.toUInt32 >>> ((1 : Int32) &&& 31).toUInt32).toInt32) &&& (3 : Int32))), .val (.int b), .val (.int (((p6.toUInt32 >>> ((3 : Int32) &&& 31).toUInt32).toInt32) &&& (3 : Int32))), .val (.int (p3 &&& (65535 : Int32))), .unset, .unset, .unset, .unset, .unset, .unset, .unset, .unset, .unset, .unset, .unset] []))
    refine own_go (fun _ kont => XS.iload X0.here hx rfl (hb hby at_88) rfl kont) ?_
    show own_Go _ _ _ _ (s₁.setTop (mkF m 90 #[.val (.int p1), .val (.int p2), .val (.int p3), .val (.int p4), .val (.int p5), .val (.int p6), .val (.int a), .val (.int (((p6.toUInt32 >>> ((1 : Int32) &&& 31).toUInt32).toInt32) &&& (3 : Int32))), .val (.int b), .val (.int (((p6.toUInt32 >>> ((3 : Int32) &&& 31).toUInt32).toInt32) &&& (3 : Int32))), .val (.int (p3 &&& (65535 : Int32))), .unset, .unset, .unset, .unset, .unset, .unset, .unset, .unset, .unset, .unset, .unset] [(.int (((p6.toUInt32 >>> ((3 : Int32) &&& 31).toUInt32).toInt32) &&& (3 : Int32)))]))
    have J132 : ∀ (q : Int32) (q1 : 0 ≤ q.toInt) (q2 : q.toInt < 65536), own_Go p.tables e below (own_End s below (fun v h L => v = some (.int 1) ∧ Fr n0 L) room_1.cells room_1.slots) (s₁.setTop (mkF m 132 #[.val (.int p1), .val (.int p2), .val (.int p3), .val (.int p4), .val (.int p5), .val (.int p6), .val (.int a), .val (.int (((p6.toUInt32 >>> ((1 : Int32) &&& 31).toUInt32).toInt32) &&& (3 : Int32))), .val (.int b), .val (.int (((p6.toUInt32 >>> ((3 : Int32) &&& 31).toUInt32).toInt32) &&& (3 : Int32))), .val (.int q), .unset, .unset, .unset, .unset, .unset, .unset, .unset, .unset, .unset, .unset, .unset] [])) := by
      intro q q1 q2
      refine own_go (fun _ kont => XS.iload X0.here hx rfl (hb hby at_132) rfl kont) ?_
      show own_Go _ _ _ _ (s₁.setTop (mkF m 134 #[.val (.int p1), .val (.int p2), .val (.int p3), .val (.int p4), .val (.int p5), .val (.int p6), .val (.int a), .val (.int (((p6.toUInt32 >>> ((1 : Int32) &&& 31).toUInt32).toInt32) &&& (3 : Int32))), .val (.int b), .val (.int (((p6.toUInt32 >>> ((3 : Int32) &&& 31).toUInt32).toInt32) &&& (3 : Int32))), .val (.int q), .unset, .unset, .unset, .unset, .unset, .unset, .unset, .unset, .unset, .unset, .unset] [(.int p6)]))
      refine own_go (fun _ kont => XS.iconst X0.here hx rfl (hb hby at_134) kont) ?_
      show own_Go _ _ _ _ (s₁.setTop (mkF m 135 #[.val (.int p1), .val (.int p2), .val (.int p3), .val (.int p4), .val (.int p5), .val (.int p6), .val (.int a), .val (.int (((p6.toUInt32 >>> ((1 : Int32) &&& 31).toUInt32).toInt32) &&& (3 : Int32))), .val (.int b), .val (.int (((p6.toUInt32 >>> ((3 : Int32) &&& 31).toUInt32).toInt32) &&& (3 : Int32))), .val (.int q), .unset, .unset, .unset, .unset, .unset, .unset, .unset, .unset, .unset, .unset, .unset] [(.int (1 : Int32)), (.int p6)]))
      refine own_go (fun _ kont => XS.iand X0.here hx rfl (hb hby at_135) rfl kont) ?_
      show own_Go _ _ _ _ (s₁.setTop (mkF m 136 #[.val (.int p1), .val (.int p2), .val (.int p3), .val (.int p4), .val (.int p5), .val (.int p6), .val (.int a), .val (.int (((p6.toUInt32 >>> ((1 : Int32) &&& 31).toUInt32).toInt32) &&& (3 : Int32))), .val (.int b), .val (.int (((p6.toUInt32 >>> ((3 : Int32) &&& 31).toUInt32).toInt32) &&& (3 : Int32))), .val (.int q), .unset, .unset, .unset, .unset, .unset, .unset, .unset, .unset, .unset, .unset, .unset] [(.int (p6 &&& (1 : Int32)))]))
      have J144 : ∀ (fa : Int32), own_Go p.tables e below (own_End s below (fun v h L => v = some (.int 1) ∧ Fr n0 L) room_1.cells room_1.slots) (s₁.setTop (mkF m 144 #[.val (.int p1), .val (.int p2), .val (.int p3), .val (.int p4), .val (.int p5), .val (.int p6), .val (.int a), .val (.int (((p6.toUInt32 >>> ((1 : Int32) &&& 31).toUInt32).toInt32) &&& (3 : Int32))), .val (.int b), .val (.int (((p6.toUInt32 >>> ((3 : Int32) &&& 31).toUInt32).toInt32) &&& (3 : Int32))), .val (.int q), .unset, .unset, .unset, .unset, .unset, .unset, .unset, .unset, .unset, .unset, .unset] [(.int fa)])) := by
        intro fa
        refine own_go (fun _ kont => XS.istore X0.here hx rfl (hb hby at_144) rfl (l' := #[.val (.int p1), .val (.int p2), .val (.int p3), .val (.int p4), .val (.int p5), .val (.int p6), .val (.int a), .val (.int (((p6.toUInt32 >>> ((1 : Int32) &&& 31).toUInt32).toInt32) &&& (3 : Int32))), .val (.int b), .val (.int (((p6.toUInt32 >>> ((3 : Int32) &&& 31).toUInt32).toInt32) &&& (3 : Int32))), .val (.int q), .val (.int fa), .unset, .unset, .unset, .unset, .unset, .unset, .unset, .unset, .unset, .unset]) rfl kont) ?_
        show own_Go _ _ _ _ (s₁.setTop (mkF m 146 #[.val (.int p1), .val (.int p2), .val (.int p3), .val (.int p4), .val (.int p5), .val (.int p6), .val (.int a), .val (.int (((p6.toUInt32 >>> ((1 : Int32) &&& 31).toUInt32).toInt32) &&& (3 : Int32))), .val (.int b), .val (.int (((p6.toUInt32 >>> ((3 : Int32) &&& 31).toUInt32).toInt32) &&& (3 : Int32))), .val (.int q), .val (.int fa), .unset, .unset, .unset, .unset, .unset, .unset, .unset, .unset, .unset, .unset] []))
        refine own_go (fun _ kont => XS.iload X0.here hx rfl (hb hby at_146) rfl kont) ?_
        show own_Go _ _ _ _ (s₁.setTop (mkF m 148 #[.val (.int p1), .val (.int p2), .val (.int p3), .val (.int p4), .val (.int p5), .val (.int p6), .val (.int a), .val (.int (((p6.toUInt32 >>> ((1 : Int32) &&& 31).toUInt32).toInt32) &&& (3 : Int32))), .val (.int b), .val (.int (((p6.toUInt32 >>> ((3 : Int32) &&& 31).toUInt32).toInt32) &&& (3 : Int32))), .val (.int q), .val (.int fa), .unset, .unset, .unset, .unset, .unset, .unset, .unset, .unset, .unset, .unset] [(.int p6)]))
        refine own_go (fun _ kont => XS.bipush X0.here hx rfl (hb hby at_148) kont) ?_
        show own_Go _ _ _ _ (s₁.setTop (mkF m 150 #[.val (.int p1), .val (.int p2), .val (.int p3), .val (.int p4), .val (.int p5), .val (.int p6), .val (.int a), .val (.int (((p6.toUInt32 >>> ((1 : Int32) &&& 31).toUInt32).toInt32) &&& (3 : Int32))), .val (.int b), .val (.int (((p6.toUInt32 >>> ((3 : Int32) &&& 31).toUInt32).toInt32) &&& (3 : Int32))), .val (.int q), .val (.int fa), .unset, .unset, .unset, .unset, .unset, .unset, .unset, .unset, .unset, .unset] [(.int (32 : Int32)), (.int p6)]))
        refine own_go (fun _ kont => XS.iand X0.here hx rfl (hb hby at_150) rfl kont) ?_
        show own_Go _ _ _ _ (s₁.setTop (mkF m 151 #[.val (.int p1), .val (.int p2), .val (.int p3), .val (.int p4), .val (.int p5), .val (.int p6), .val (.int a), .val (.int (((p6.toUInt32 >>> ((1 : Int32) &&& 31).toUInt32).toInt32) &&& (3 : Int32))), .val (.int b), .val (.int (((p6.toUInt32 >>> ((3 : Int32) &&& 31).toUInt32).toInt32) &&& (3 : Int32))), .val (.int q), .val (.int fa), .unset, .unset, .unset, .unset, .unset, .unset, .unset, .unset, .unset, .unset] [(.int (p6 &&& (32 : Int32)))]))
        have J159 : ∀ (fb : Int32), own_Go p.tables e below (own_End s below (fun v h L => v = some (.int 1) ∧ Fr n0 L) room_1.cells room_1.slots) (s₁.setTop (mkF m 159 #[.val (.int p1), .val (.int p2), .val (.int p3), .val (.int p4), .val (.int p5), .val (.int p6), .val (.int a), .val (.int (((p6.toUInt32 >>> ((1 : Int32) &&& 31).toUInt32).toInt32) &&& (3 : Int32))), .val (.int b), .val (.int (((p6.toUInt32 >>> ((3 : Int32) &&& 31).toUInt32).toInt32) &&& (3 : Int32))), .val (.int q), .val (.int fa), .unset, .unset, .unset, .unset, .unset, .unset, .unset, .unset, .unset, .unset] [(.int fb)])) := by
          intro fb
          refine own_go (fun _ kont => XS.istore X0.here hx rfl (hb hby at_159) rfl (l' := #[.val (.int p1), .val (.int p2), .val (.int p3), .val (.int p4), .val (.int p5), .val (.int p6), .val (.int a), .val (.int (((p6.toUInt32 >>> ((1 : Int32) &&& 31).toUInt32).toInt32) &&& (3 : Int32))), .val (.int b), .val (.int (((p6.toUInt32 >>> ((3 : Int32) &&& 31).toUInt32).toInt32) &&& (3 : Int32))), .val (.int q), .val (.int fa), .val (.int fb), .unset, .unset, .unset, .unset, .unset, .unset, .unset, .unset, .unset]) rfl kont) ?_
          show own_Go _ _ _ _ (s₁.setTop (mkF m 161 #[.val (.int p1), .val (.int p2), .val (.int p3), .val (.int p4), .val (.int p5), .val (.int p6), .val (.int a), .val (.int (((p6.toUInt32 >>> ((1 : Int32) &&& 31).toUInt32).toInt32) &&& (3 : Int32))), .val (.int b), .val (.int (((p6.toUInt32 >>> ((3 : Int32) &&& 31).toUInt32).toInt32) &&& (3 : Int32))), .val (.int q), .val (.int fa), .val (.int fb), .unset, .unset, .unset, .unset, .unset, .unset, .unset, .unset, .unset] []))
          refine own_go (fun _ kont => XS.iload X0.here hx rfl (hb hby at_161) rfl kont) ?_
          show own_Go _ _ _ _ (s₁.setTop (mkF m 163 #[.val (.int p1), .val (.int p2), .val (.int p3), .val (.int p4), .val (.int p5), .val (.int p6), .val (.int a), .val (.int (((p6.toUInt32 >>> ((1 : Int32) &&& 31).toUInt32).toInt32) &&& (3 : Int32))), .val (.int b), .val (.int (((p6.toUInt32 >>> ((3 : Int32) &&& 31).toUInt32).toInt32) &&& (3 : Int32))), .val (.int q), .val (.int fa), .val (.int fb), .unset, .unset, .unset, .unset, .unset, .unset, .unset, .unset, .unset] [(.int p6)]))
          refine own_go (fun _ kont => XS.bipush X0.here hx rfl (hb hby at_163) kont) ?_
          show own_Go _ _ _ _ (s₁.setTop (mkF m 165 #[.val (.int p1), .val (.int p2), .val (.int p3), .val (.int p4), .val (.int p5), .val (.int p6), .val (.int a), .val (.int (((p6.toUInt32 >>> ((1 : Int32) &&& 31).toUInt32).toInt32) &&& (3 : Int32))), .val (.int b), .val (.int (((p6.toUInt32 >>> ((3 : Int32) &&& 31).toUInt32).toInt32) &&& (3 : Int32))), .val (.int q), .val (.int fa), .val (.int fb), .unset, .unset, .unset, .unset, .unset, .unset, .unset, .unset, .unset] [(.int (64 : Int32)), (.int p6)]))
          refine own_go (fun _ kont => XS.iand X0.here hx rfl (hb hby at_165) rfl kont) ?_
          show own_Go _ _ _ _ (s₁.setTop (mkF m 166 #[.val (.int p1), .val (.int p2), .val (.int p3), .val (.int p4), .val (.int p5), .val (.int p6), .val (.int a), .val (.int (((p6.toUInt32 >>> ((1 : Int32) &&& 31).toUInt32).toInt32) &&& (3 : Int32))), .val (.int b), .val (.int (((p6.toUInt32 >>> ((3 : Int32) &&& 31).toUInt32).toInt32) &&& (3 : Int32))), .val (.int q), .val (.int fa), .val (.int fb), .unset, .unset, .unset, .unset, .unset, .unset, .unset, .unset, .unset] [(.int (p6 &&& (64 : Int32)))]))
          have J174 : ∀ (fr : Int32), own_Go p.tables e below (own_End s below (fun v h L => v = some (.int 1) ∧ Fr n0 L) room_1.cells room_1.slots) (s₁.setTop (mkF m 174 #[.val (.int p1), .val (.int p2), .val (.int p3), .val (.int p4), .val (.int p5), .val (.int p6), .val (.int a), .val (.int (((p6.toUInt32 >>> ((1 : Int32) &&& 31).toUInt32).toInt32) &&& (3 : Int32))), .val (.int b), .val (.int (((p6.toUInt32 >>> ((3 : Int32) &&& 31).toUInt32).toInt32) &&& (3 : Int32))), .val (.int q), .val (.int fa), .val (.int fb), .unset, .unset, .unset, .unset, .unset, .unset, .unset, .unset, .unset] [(.int fr)])) := by
            intro fr
            refine own_go (fun _ kont => XS.istore X0.here hx rfl (hb hby at_174) rfl (l' := #[.val (.int p1), .val (.int p2), .val (.int p3), .val (.int p4), .val (.int p5), .val (.int p6), .val (.int a), .val (.int (((p6.toUInt32 >>> ((1 : Int32) &&& 31).toUInt32).toInt32) &&& (3 : Int32))), .val (.int b), .val (.int (((p6.toUInt32 >>> ((3 : Int32) &&& 31).toUInt32).toInt32) &&& (3 : Int32))), .val (.int q), .val (.int fa), .val (.int fb), .val (.int fr), .unset, .unset, .unset, .unset, .unset, .unset, .unset, .unset]) rfl kont) ?_
            show own_Go _ _ _ _ (s₁.setTop (mkF m 176 #[.val (.int p1), .val (.int p2), .val (.int p3), .val (.int p4), .val (.int p5), .val (.int p6), .val (.int a), .val (.int (((p6.toUInt32 >>> ((1 : Int32) &&& 31).toUInt32).toInt32) &&& (3 : Int32))), .val (.int b), .val (.int (((p6.toUInt32 >>> ((3 : Int32) &&& 31).toUInt32).toInt32) &&& (3 : Int32))), .val (.int q), .val (.int fa), .val (.int fb), .val (.int fr), .unset, .unset, .unset, .unset, .unset, .unset, .unset, .unset] []))
            refine own_go (fun _ kont => XS.iconst X0.here hx rfl (hb hby at_176) kont) ?_
            show own_Go _ _ _ _ (s₁.setTop (mkF m 177 #[.val (.int p1), .val (.int p2), .val (.int p3), .val (.int p4), .val (.int p5), .val (.int p6), .val (.int a), .val (.int (((p6.toUInt32 >>> ((1 : Int32) &&& 31).toUInt32).toInt32) &&& (3 : Int32))), .val (.int b), .val (.int (((p6.toUInt32 >>> ((3 : Int32) &&& 31).toUInt32).toInt32) &&& (3 : Int32))), .val (.int q), .val (.int fa), .val (.int fb), .val (.int fr), .unset, .unset, .unset, .unset, .unset, .unset, .unset, .unset] [(.int (1 : Int32))]))
            refine own_go (fun _ kont => XS.iloadN X0.here hx rfl (hb hby at_177) rfl kont) ?_
            show own_Go _ _ _ _ (s₁.setTop (mkF m 178 #[.val (.int p1), .val (.int p2), .val (.int p3), .val (.int p4), .val (.int p5), .val (.int p6), .val (.int a), .val (.int (((p6.toUInt32 >>> ((1 : Int32) &&& 31).toUInt32).toInt32) &&& (3 : Int32))), .val (.int b), .val (.int (((p6.toUInt32 >>> ((3 : Int32) &&& 31).toUInt32).toInt32) &&& (3 : Int32))), .val (.int q), .val (.int fa), .val (.int fb), .val (.int fr), .unset, .unset, .unset, .unset, .unset, .unset, .unset, .unset] [(.int p4), (.int (1 : Int32))]))
            refine own_go (X0.ldcInt hx hown (mvT hZ (hw _ (List.mem_of_getElem? (i := 2) rfl))) (g := (mkF m 178 #[.val (.int p1), .val (.int p2), .val (.int p3), .val (.int p4), .val (.int p5), .val (.int p6), .val (.int a), .val (.int (((p6.toUInt32 >>> ((1 : Int32) &&& 31).toUInt32).toInt32) &&& (3 : Int32))), .val (.int b), .val (.int (((p6.toUInt32 >>> ((3 : Int32) &&& 31).toUInt32).toInt32) &&& (3 : Int32))), .val (.int q), .val (.int fa), .val (.int fb), .val (.int fr), .unset, .unset, .unset, .unset, .unset, .unset, .unset, .unset] [(.int p4), (.int (1 : Int32))])) rfl (hb hby at_178)) ?_
            show own_Go _ _ _ _ (s₁.setTop (mkF m 180 #[.val (.int p1), .val (.int p2), .val (.int p3), .val (.int p4), .val (.int p5), .val (.int p6), .val (.int a), .val (.int (((p6.toUInt32 >>> ((1 : Int32) &&& 31).toUInt32).toInt32) &&& (3 : Int32))), .val (.int b), .val (.int (((p6.toUInt32 >>> ((3 : Int32) &&& 31).toUInt32).toInt32) &&& (3 : Int32))), .val (.int q), .val (.int fa), .val (.int fb), .val (.int fr), .unset, .unset, .unset, .unset, .unset, .unset, .unset, .unset] [(.int (2147483647 : Int32)), (.int p4), (.int (1 : Int32))]))
            refine own_go (fun _ kont => XS.iand X0.here hx rfl (hb hby at_180) rfl kont) ?_
            show own_Go _ _ _ _ (s₁.setTop (mkF m 181 #[.val (.int p1), .val (.int p2), .val (.int p3), .val (.int p4), .val (.int p5), .val (.int p6), .val (.int a), .val (.int (((p6.toUInt32 >>> ((1 : Int32) &&& 31).toUInt32).toInt32) &&& (3 : Int32))), .val (.int b), .val (.int (((p6.toUInt32 >>> ((3 : Int32) &&& 31).toUInt32).toInt32) &&& (3 : Int32))), .val (.int q), .val (.int fa), .val (.int fb), .val (.int fr), .unset, .unset, .unset, .unset, .unset, .unset, .unset, .unset] [(.int (p4 &&& (2147483647 : Int32))), (.int (1 : Int32))]))
            refine own_go (fun _ kont => XS.bipush X0.here hx rfl (hb hby at_181) kont) ?_
            show own_Go _ _ _ _ (s₁.setTop (mkF m 183 #[.val (.int p1), .val (.int p2), .val (.int p3), .val (.int p4), .val (.int p5), .val (.int p6), .val (.int a), .val (.int (((p6.toUInt32 >>> ((1 : Int32) &&& 31).toUInt32).toInt32) &&& (3 : Int32))), .val (.int b), .val (.int (((p6.toUInt32 >>> ((3 : Int32) &&& 31).toUInt32).toInt32) &&& (3 : Int32))), .val (.int q), .val (.int fa), .val (.int fb), .val (.int fr), .unset, .unset, .unset, .unset, .unset, .unset, .unset, .unset] [(.int (14 : Int32)), (.int (p4 &&& (2147483647 : Int32))), (.int (1 : Int32))]))
            refine own_go (fun _ kont => iremM X0 hx rfl (hb hby at_183) rfl (by decide) kont) ?_
            show own_Go _ _ _ _ (s₁.setTop (mkF m 184 #[.val (.int p1), .val (.int p2), .val (.int p3), .val (.int p4), .val (.int p5), .val (.int p6), .val (.int a), .val (.int (((p6.toUInt32 >>> ((1 : Int32) &&& 31).toUInt32).toInt32) &&& (3 : Int32))), .val (.int b), .val (.int (((p6.toUInt32 >>> ((3 : Int32) &&& 31).toUInt32).toInt32) &&& (3 : Int32))), .val (.int q), .val (.int fa), .val (.int fb), .val (.int fr), .unset, .unset, .unset, .unset, .unset, .unset, .unset, .unset] [(.int ((p4 &&& (2147483647 : Int32)) % (14 : Int32))), (.int (1 : Int32))]))
            refine own_go (fun _ kont => XS.iadd X0.here hx rfl (hb hby at_184) rfl kont) ?_
            show own_Go _ _ _ _ (s₁.setTop (mkF m 185 #[.val (.int p1), .val (.int p2), .val (.int p3), .val (.int p4), .val (.int p5), .val (.int p6), .val (.int a), .val (.int (((p6.toUInt32 >>> ((1 : Int32) &&& 31).toUInt32).toInt32) &&& (3 : Int32))), .val (.int b), .val (.int (((p6.toUInt32 >>> ((3 : Int32) &&& 31).toUInt32).toInt32) &&& (3 : Int32))), .val (.int q), .val (.int fa), .val (.int fb), .val (.int fr), .unset, .unset, .unset, .unset, .unset, .unset, .unset, .unset] [(.int ((1 : Int32) + ((p4 &&& (2147483647 : Int32)) % (14 : Int32))))]))
            obtain ⟨oa1, oa2⟩ := own_m14 p4
            generalize hoa : ((p4 &&& (2147483647 : Int32)) % (14 : Int32)) = oa
            rw [hoa] at oa1 oa2
            show own_Go _ _ _ _ (s₁.setTop (mkF m 185 #[.val (.int p1), .val (.int p2), .val (.int p3), .val (.int p4), .val (.int p5), .val (.int p6), .val (.int a), .val (.int (((p6.toUInt32 >>> ((1 : Int32) &&& 31).toUInt32).toInt32) &&& (3 : Int32))), .val (.int b), .val (.int (((p6.toUInt32 >>> ((3 : Int32) &&& 31).toUInt32).toInt32) &&& (3 : Int32))), .val (.int q), .val (.int fa), .val (.int fb), .val (.int fr), .unset, .unset, .unset, .unset, .unset, .unset, .unset, .unset] [(.int ((1 : Int32) + oa))]))
            have hkoa : (((1 : Int32) + oa)).toInt = oa.toInt + 1 := by have := c_iadd 1 oa; have e1 : (1 : Int32).toInt = 1 := rfl; have := rng32 (((1 : Int32) + oa)); omega
            obtain ⟨hinoa, hknoa, hloa⟩ := own_codein sz_C hkoa oa1 oa2
            obtain ⟨_, _, ⟨T1, L1, k1, n1⟩, -, X1, ⟨Lc1, hQ1, l1, y1, z1⟩, st1⟩ := Jvm.LawKit.callS X0 hx (y := (⟨"com/example/utopic/utopic/codec/PacketType", "of", "(I)Lcom/example/utopic/utopic/codec/PacketType;"⟩ : MethodName)) hown (mvT hZ (hw _ (List.mem_of_getElem? (i := 3) rfl))) (mvT hZ (hw _ (List.mem_of_getElem? (i := 4) rfl))) (mvT hZ (hw _ (List.mem_of_getElem? (i := 5) rfl))) (mvT hZ (hw _ (List.mem_of_getElem? (i := 6) rfl))) (by decide) (own_back (W := 0) (own_rmP l Z a0 hw ((1 : Int32) + oa) aC clC (tys.getD oa.toNatClampNeg 0) h0 n0 Z0 (S_C.ext O.2) (Ar_C.ext O.2) hinoa (by rw [hknoa]; exact el_C _ hloa)) hZ (hw _ (List.mem_of_getElem? (i := 6) rfl)) (hw _ (List.mem_of_getElem? (i := 5) rfl)) (by decide) (by decide)) (g := (mkF m 185 #[.val (.int p1), .val (.int p2), .val (.int p3), .val (.int p4), .val (.int p5), .val (.int p6), .val (.int a), .val (.int (((p6.toUInt32 >>> ((1 : Int32) &&& 31).toUInt32).toInt32) &&& (3 : Int32))), .val (.int b), .val (.int (((p6.toUInt32 >>> ((3 : Int32) &&& 31).toUInt32).toInt32) &&& (3 : Int32))), .val (.int q), .val (.int fa), .val (.int fb), .val (.int fr), .unset, .unset, .unset, .unset, .unset, .unset, .unset, .unset] [(.int ((1 : Int32) + oa))])) rfl (by rw [hml]; rfl) (argsL := [(.int ((1 : Int32) + oa))]) (rest := []) (lenOf own_pd2 rfl) rfl (by show 2 * 0 + _ ≤ _; exact Nat.le_of_eq rfl) (hb hby at_185) (fun _ _ => ⟨rfl, e0, (by decide : 0 + 0 ≤ _), (by decide : 0 + 0 ≤ _)⟩)
            dsimp only [Pt.U, Pt.locs, Pt.cells, Pt.slots] at X1 l1 y1 z1 st1 hQ1
            replace X1 := own_cst X1 l1 y1 z1 (k2 := 0) (n2 := 0) rfl rfl
            clear l1 y1 z1
            obtain ⟨rfl, Nq1, eq1⟩ := hQ1
            have NF1 := Fr.app N0 Nq1
            refine own_go st1 ?_
            show own_Go _ _ _ _ (T1.setTop (mkF m 188 #[.val (.int p1), .val (.int p2), .val (.int p3), .val (.int p4), .val (.int p5), .val (.int p6), .val (.int a), .val (.int (((p6.toUInt32 >>> ((1 : Int32) &&& 31).toUInt32).toInt32) &&& (3 : Int32))), .val (.int b), .val (.int (((p6.toUInt32 >>> ((3 : Int32) &&& 31).toUInt32).toInt32) &&& (3 : Int32))), .val (.int q), .val (.int fa), .val (.int fb), .val (.int fr), .unset, .unset, .unset, .unset, .unset, .unset, .unset, .unset] [(.ref (tys.getD oa.toNatClampNeg 0))]))
            obtain ⟨E_ta, F_ta⟩ := hT _ hloa
            rw [own_ofn oa1] at F_ta
            have T_ta := own_ty1 (tys := tys) oa1 oa2
            generalize hta : (tys.getD oa.toNatClampNeg 0) = ta
            rw [hta] at E_ta F_ta T_ta
            show own_Go _ _ _ _ (T1.setTop (mkF m 188 #[.val (.int p1), .val (.int p2), .val (.int p3), .val (.int p4), .val (.int p5), .val (.int p6), .val (.int a), .val (.int (((p6.toUInt32 >>> ((1 : Int32) &&& 31).toUInt32).toInt32) &&& (3 : Int32))), .val (.int b), .val (.int (((p6.toUInt32 >>> ((3 : Int32) &&& 31).toUInt32).toInt32) &&& (3 : Int32))), .val (.int q), .val (.int fa), .val (.int fb), .val (.int fr), .unset, .unset, .unset, .unset, .unset, .unset, .unset, .unset] [(.ref ta)]))
            refine own_go (fun _ kont => XS.astore X1.here hx rfl (hb hby at_188) rfl rfl (l' := #[.val (.int p1), .val (.int p2), .val (.int p3), .val (.int p4), .val (.int p5), .val (.int p6), .val (.int a), .val (.int (((p6.toUInt32 >>> ((1 : Int32) &&& 31).toUInt32).toInt32) &&& (3 : Int32))), .val (.int b), .val (.int (((p6.toUInt32 >>> ((3 : Int32) &&& 31).toUInt32).toInt32) &&& (3 : Int32))), .val (.int q), .val (.int fa), .val (.int fb), .val (.int fr), .val (.ref ta), .unset, .unset, .unset, .unset, .unset, .unset, .unset]) rfl kont) ?_
            show own_Go _ _ _ _ (T1.setTop (mkF m 190 #[.val (.int p1), .val (.int p2), .val (.int p3), .val (.int p4), .val (.int p5), .val (.int p6), .val (.int a), .val (.int (((p6.toUInt32 >>> ((1 : Int32) &&& 31).toUInt32).toInt32) &&& (3 : Int32))), .val (.int b), .val (.int (((p6.toUInt32 >>> ((3 : Int32) &&& 31).toUInt32).toInt32) &&& (3 : Int32))), .val (.int q), .val (.int fa), .val (.int fb), .val (.int fr), .val (.ref ta), .unset, .unset, .unset, .unset, .unset, .unset, .unset] []))
            refine own_go (fun _ kont => XS.iconst X1.here hx rfl (hb hby at_190) kont) ?_
            show own_Go _ _ _ _ (T1.setTop (mkF m 191 #[.val (.int p1), .val (.int p2), .val (.int p3), .val (.int p4), .val (.int p5), .val (.int p6), .val (.int a), .val (.int (((p6.toUInt32 >>> ((1 : Int32) &&& 31).toUInt32).toInt32) &&& (3 : Int32))), .val (.int b), .val (.int (((p6.toUInt32 >>> ((3 : Int32) &&& 31).toUInt32).toInt32) &&& (3 : Int32))), .val (.int q), .val (.int fa), .val (.int fb), .val (.int fr), .val (.ref ta), .unset, .unset, .unset, .unset, .unset, .unset, .unset] [(.int (1 : Int32))]))
            refine own_go (fun _ kont => XS.iload X1.here hx rfl (hb hby at_191) rfl kont) ?_
            show own_Go _ _ _ _ (T1.setTop (mkF m 193 #[.val (.int p1), .val (.int p2), .val (.int p3), .val (.int p4), .val (.int p5), .val (.int p6), .val (.int a), .val (.int (((p6.toUInt32 >>> ((1 : Int32) &&& 31).toUInt32).toInt32) &&& (3 : Int32))), .val (.int b), .val (.int (((p6.toUInt32 >>> ((3 : Int32) &&& 31).toUInt32).toInt32) &&& (3 : Int32))), .val (.int q), .val (.int fa), .val (.int fb), .val (.int fr), .val (.ref ta), .unset, .unset, .unset, .unset, .unset, .unset, .unset] [(.int p5), (.int (1 : Int32))]))
            refine own_go (X1.ldcInt hx hown (mvT hZ (hw _ (List.mem_of_getElem? (i := 2) rfl))) (g := (mkF m 193 #[.val (.int p1), .val (.int p2), .val (.int p3), .val (.int p4), .val (.int p5), .val (.int p6), .val (.int a), .val (.int (((p6.toUInt32 >>> ((1 : Int32) &&& 31).toUInt32).toInt32) &&& (3 : Int32))), .val (.int b), .val (.int (((p6.toUInt32 >>> ((3 : Int32) &&& 31).toUInt32).toInt32) &&& (3 : Int32))), .val (.int q), .val (.int fa), .val (.int fb), .val (.int fr), .val (.ref ta), .unset, .unset, .unset, .unset, .unset, .unset, .unset] [(.int p5), (.int (1 : Int32))])) rfl (hb hby at_193)) ?_
            show own_Go _ _ _ _ (T1.setTop (mkF m 195 #[.val (.int p1), .val (.int p2), .val (.int p3), .val (.int p4), .val (.int p5), .val (.int p6), .val (.int a), .val (.int (((p6.toUInt32 >>> ((1 : Int32) &&& 31).toUInt32).toInt32) &&& (3 : Int32))), .val (.int b), .val (.int (((p6.toUInt32 >>> ((3 : Int32) &&& 31).toUInt32).toInt32) &&& (3 : Int32))), .val (.int q), .val (.int fa), .val (.int fb), .val (.int fr), .val (.ref ta), .unset, .unset, .unset, .unset, .unset, .unset, .unset] [(.int (2147483647 : Int32)), (.int p5), (.int (1 : Int32))]))
            refine own_go (fun _ kont => XS.iand X1.here hx rfl (hb hby at_195) rfl kont) ?_
            show own_Go _ _ _ _ (T1.setTop (mkF m 196 #[.val (.int p1), .val (.int p2), .val (.int p3), .val (.int p4), .val (.int p5), .val (.int p6), .val (.int a), .val (.int (((p6.toUInt32 >>> ((1 : Int32) &&& 31).toUInt32).toInt32) &&& (3 : Int32))), .val (.int b), .val (.int (((p6.toUInt32 >>> ((3 : Int32) &&& 31).toUInt32).toInt32) &&& (3 : Int32))), .val (.int q), .val (.int fa), .val (.int fb), .val (.int fr), .val (.ref ta), .unset, .unset, .unset, .unset, .unset, .unset, .unset] [(.int (p5 &&& (2147483647 : Int32))), (.int (1 : Int32))]))
            refine own_go (fun _ kont => XS.bipush X1.here hx rfl (hb hby at_196) kont) ?_
            show own_Go _ _ _ _ (T1.setTop (mkF m 198 #[.val (.int p1), .val (.int p2), .val (.int p3), .val (.int p4), .val (.int p5), .val (.int p6), .val (.int a), .val (.int (((p6.toUInt32 >>> ((1 : Int32) &&& 31).toUInt32).toInt32) &&& (3 : Int32))), .val (.int b), .val (.int (((p6.toUInt32 >>> ((3 : Int32) &&& 31).toUInt32).toInt32) &&& (3 : Int32))), .val (.int q), .val (.int fa), .val (.int fb), .val (.int fr), .val (.ref ta), .unset, .unset, .unset, .unset, .unset, .unset, .unset] [(.int (14 : Int32)), (.int (p5 &&& (2147483647 : Int32))), (.int (1 : Int32))]))
            refine own_go (fun _ kont => iremM X1 hx rfl (hb hby at_198) rfl (by decide) kont) ?_
            show own_Go _ _ _ _ (T1.setTop (mkF m 199 #[.val (.int p1), .val (.int p2), .val (.int p3), .val (.int p4), .val (.int p5), .val (.int p6), .val (.int a), .val (.int (((p6.toUInt32 >>> ((1 : Int32) &&& 31).toUInt32).toInt32) &&& (3 : Int32))), .val (.int b), .val (.int (((p6.toUInt32 >>> ((3 : Int32) &&& 31).toUInt32).toInt32) &&& (3 : Int32))), .val (.int q), .val (.int fa), .val (.int fb), .val (.int fr), .val (.ref ta), .unset, .unset, .unset, .unset, .unset, .unset, .unset] [(.int ((p5 &&& (2147483647 : Int32)) % (14 : Int32))), (.int (1 : Int32))]))
            refine own_go (fun _ kont => XS.iadd X1.here hx rfl (hb hby at_199) rfl kont) ?_
            show own_Go _ _ _ _ (T1.setTop (mkF m 200 #[.val (.int p1), .val (.int p2), .val (.int p3), .val (.int p4), .val (.int p5), .val (.int p6), .val (.int a), .val (.int (((p6.toUInt32 >>> ((1 : Int32) &&& 31).toUInt32).toInt32) &&& (3 : Int32))), .val (.int b), .val (.int (((p6.toUInt32 >>> ((3 : Int32) &&& 31).toUInt32).toInt32) &&& (3 : Int32))), .val (.int q), .val (.int fa), .val (.int fb), .val (.int fr), .val (.ref ta), .unset, .unset, .unset, .unset, .unset, .unset, .unset] [(.int ((1 : Int32) + ((p5 &&& (2147483647 : Int32)) % (14 : Int32))))]))
            obtain ⟨ob1, ob2⟩ := own_m14 p5
            generalize hob : ((p5 &&& (2147483647 : Int32)) % (14 : Int32)) = ob
            rw [hob] at ob1 ob2
            show own_Go _ _ _ _ (T1.setTop (mkF m 200 #[.val (.int p1), .val (.int p2), .val (.int p3), .val (.int p4), .val (.int p5), .val (.int p6), .val (.int a), .val (.int (((p6.toUInt32 >>> ((1 : Int32) &&& 31).toUInt32).toInt32) &&& (3 : Int32))), .val (.int b), .val (.int (((p6.toUInt32 >>> ((3 : Int32) &&& 31).toUInt32).toInt32) &&& (3 : Int32))), .val (.int q), .val (.int fa), .val (.int fb), .val (.int fr), .val (.ref ta), .unset, .unset, .unset, .unset, .unset, .unset, .unset] [(.int ((1 : Int32) + ob))]))
            have hkob : (((1 : Int32) + ob)).toInt = ob.toInt + 1 := by have := c_iadd 1 ob; have e1 : (1 : Int32).toInt = 1 := rfl; have := rng32 (((1 : Int32) + ob)); omega
            obtain ⟨hinob, hknob, hlob⟩ := own_codein sz_C hkob ob1 ob2
            obtain ⟨_, _, ⟨T2, L2, k2, n2⟩, -, X2, ⟨Lc2, hQ2, l2, y2, z2⟩, st2⟩ := Jvm.LawKit.callS X1 hx (y := (⟨"com/example/utopic/utopic/codec/PacketType", "of", "(I)Lcom/example/utopic/utopic/codec/PacketType;"⟩ : MethodName)) hown (mvT hZ (hw _ (List.mem_of_getElem? (i := 3) rfl))) (mvT hZ (hw _ (List.mem_of_getElem? (i := 4) rfl))) (mvT hZ (hw _ (List.mem_of_getElem? (i := 5) rfl))) (mvT hZ (hw _ (List.mem_of_getElem? (i := 6) rfl))) (by decide) (own_back (W := 0) (own_rmP l Z a0 hw ((1 : Int32) + ob) aC clC (tys.getD ob.toNatClampNeg 0) h0 n0 Z0 (S_C.ext O.2) (Ar_C.ext O.2) hinob (by rw [hknob]; exact el_C _ hlob)) hZ (hw _ (List.mem_of_getElem? (i := 6) rfl)) (hw _ (List.mem_of_getElem? (i := 5) rfl)) (by decide) (by decide)) (g := (mkF m 200 #[.val (.int p1), .val (.int p2), .val (.int p3), .val (.int p4), .val (.int p5), .val (.int p6), .val (.int a), .val (.int (((p6.toUInt32 >>> ((1 : Int32) &&& 31).toUInt32).toInt32) &&& (3 : Int32))), .val (.int b), .val (.int (((p6.toUInt32 >>> ((3 : Int32) &&& 31).toUInt32).toInt32) &&& (3 : Int32))), .val (.int q), .val (.int fa), .val (.int fb), .val (.int fr), .val (.ref ta), .unset, .unset, .unset, .unset, .unset, .unset, .unset] [(.int ((1 : Int32) + ob))])) rfl (by rw [hml]; rfl) (argsL := [(.int ((1 : Int32) + ob))]) (rest := []) (lenOf own_pd2 rfl) rfl (by show 2 * 0 + _ ≤ _; exact Nat.le_of_eq rfl) (hb hby at_200) (fun _ _ => ⟨rfl, eq1, (by decide : 0 + 0 ≤ _), (by decide : 0 + 0 ≤ _)⟩)
            dsimp only [Pt.U, Pt.locs, Pt.cells, Pt.slots] at X2 l2 y2 z2 st2 hQ2
            replace X2 := own_cst X2 l2 y2 z2 (k2 := 0) (n2 := 0) rfl rfl
            clear l2 y2 z2
            obtain ⟨rfl, Nq2, eq2⟩ := hQ2
            have NF2 := Fr.app NF1 Nq2
            refine own_go st2 ?_
            show own_Go _ _ _ _ (T2.setTop (mkF m 203 #[.val (.int p1), .val (.int p2), .val (.int p3), .val (.int p4), .val (.int p5), .val (.int p6), .val (.int a), .val (.int (((p6.toUInt32 >>> ((1 : Int32) &&& 31).toUInt32).toInt32) &&& (3 : Int32))), .val (.int b), .val (.int (((p6.toUInt32 >>> ((3 : Int32) &&& 31).toUInt32).toInt32) &&& (3 : Int32))), .val (.int q), .val (.int fa), .val (.int fb), .val (.int fr), .val (.ref ta), .unset, .unset, .unset, .unset, .unset, .unset, .unset] [(.ref (tys.getD ob.toNatClampNeg 0))]))
            obtain ⟨E_tb, F_tb⟩ := hT _ hlob
            rw [own_ofn ob1] at F_tb
            have T_tb := own_ty1 (tys := tys) ob1 ob2
            generalize htb : (tys.getD ob.toNatClampNeg 0) = tb
            rw [htb] at E_tb F_tb T_tb
            show own_Go _ _ _ _ (T2.setTop (mkF m 203 #[.val (.int p1), .val (.int p2), .val (.int p3), .val (.int p4), .val (.int p5), .val (.int p6), .val (.int a), .val (.int (((p6.toUInt32 >>> ((1 : Int32) &&& 31).toUInt32).toInt32) &&& (3 : Int32))), .val (.int b), .val (.int (((p6.toUInt32 >>> ((3 : Int32) &&& 31).toUInt32).toInt32) &&& (3 : Int32))), .val (.int q), .val (.int fa), .val (.int fb), .val (.int fr), .val (.ref ta), .unset, .unset, .unset, .unset, .unset, .unset, .unset] [(.ref tb)]))
            refine own_go (fun _ kont => XS.astore X2.here hx rfl (hb hby at_203) rfl rfl (l' := #[.val (.int p1), .val (.int p2), .val (.int p3), .val (.int p4), .val (.int p5), .val (.int p6), .val (.int a), .val (.int (((p6.toUInt32 >>> ((1 : Int32) &&& 31).toUInt32).toInt32) &&& (3 : Int32))), .val (.int b), .val (.int (((p6.toUInt32 >>> ((3 : Int32) &&& 31).toUInt32).toInt32) &&& (3 : Int32))), .val (.int q), .val (.int fa), .val (.int fb), .val (.int fr), .val (.ref ta), .val (.ref tb), .unset, .unset, .unset, .unset, .unset, .unset]) rfl kont) ?_
            show own_Go _ _ _ _ (T2.setTop (mkF m 205 #[.val (.int p1), .val (.int p2), .val (.int p3), .val (.int p4), .val (.int p5), .val (.int p6), .val (.int a), .val (.int (((p6.toUInt32 >>> ((1 : Int32) &&& 31).toUInt32).toInt32) &&& (3 : Int32))), .val (.int b), .val (.int (((p6.toUInt32 >>> ((3 : Int32) &&& 31).toUInt32).toInt32) &&& (3 : Int32))), .val (.int q), .val (.int fa), .val (.int fb), .val (.int fr), .val (.ref ta), .val (.ref tb), .unset, .unset, .unset, .unset, .unset, .unset] []))
            obtain ⟨T3, h3, X3, e3, E3, A3, D3, -, st3⟩ := newO X2 hx hZ hown (hw _ (List.mem_of_getElem? (i := 11) rfl)) (hw _ (List.mem_of_getElem? (i := 12) rfl)) (hw _ (List.mem_of_getElem? (i := 13) rfl)) eq2 (g := (mkF m 205 #[.val (.int p1), .val (.int p2), .val (.int p3), .val (.int p4), .val (.int p5), .val (.int p6), .val (.int a), .val (.int (((p6.toUInt32 >>> ((1 : Int32) &&& 31).toUInt32).toInt32) &&& (3 : Int32))), .val (.int b), .val (.int (((p6.toUInt32 >>> ((3 : Int32) &&& 31).toUInt32).toInt32) &&& (3 : Int32))), .val (.int q), .val (.int fa), .val (.int fb), .val (.int fr), .val (.ref ta), .val (.ref tb), .unset, .unset, .unset, .unset, .unset, .unset] [])) rfl (hb hby at_205) (by decide) (by decide)
            obtain ⟨b3, g3⟩ : ∃ z, z = h0.size := ⟨_, rfl⟩
            rw [← g3] at A3 D3 st3
            refine own_go st3 ?_
            have ge_b3 : n0 ≤ b3 := Nat.le_trans Z0 (Nat.le_of_eq g3.symm)
            replace O := O.ext E3
            replace Z0 := Nat.le_trans Z0 E3.1
            have F_lastPage_b3 : Fld Z h3 b3 "com/example/utopic/utopic/broker/MessageIds" "lastPage" "I" (.int (0 : Int32)) := D3 (Or.inl (hw _ (List.mem_of_getElem? (i := 21) rfl))) (ty := .int) (by decide)
            have F_pages_b3 : Fld Z h3 b3 "com/example/utopic/utopic/broker/MessageIds" "pages" "[[B" .null := D3 (Or.inl (hw _ (List.mem_of_getElem? (i := 28) rfl))) (ty := (.array (.array .byte))) (by decide)
            have F_taken_b3 : Fld Z h3 b3 "com/example/utopic/utopic/broker/MessageIds" "taken" "[C" .null := D3 (Or.inl (hw _ (List.mem_of_getElem? (i := 38) rfl))) (ty := (.array .char)) (by decide)
            have F_pagesHeld_b3 : Fld Z h3 b3 "com/example/utopic/utopic/broker/MessageIds" "pagesHeld" "I" (.int (0 : Int32)) := D3 (Or.inl (hw _ (List.mem_of_getElem? (i := 46) rfl))) (ty := .int) (by decide)
            have F_size_b3 : Fld Z h3 b3 "com/example/utopic/utopic/broker/MessageIds" "size" "I" (.int (0 : Int32)) := D3 (Or.inl (hw _ (List.mem_of_getElem? (i := 48) rfl))) (ty := .int) (by decide)
            show own_Go _ _ _ _ (T3.setTop (mkF m 208 #[.val (.int p1), .val (.int p2), .val (.int p3), .val (.int p4), .val (.int p5), .val (.int p6), .val (.int a), .val (.int (((p6.toUInt32 >>> ((1 : Int32) &&& 31).toUInt32).toInt32) &&& (3 : Int32))), .val (.int b), .val (.int (((p6.toUInt32 >>> ((3 : Int32) &&& 31).toUInt32).toInt32) &&& (3 : Int32))), .val (.int q), .val (.int fa), .val (.int fb), .val (.int fr), .val (.ref ta), .val (.ref tb), .unset, .unset, .unset, .unset, .unset, .unset] [(.ref b3)]))
            refine own_go (fun _ kont => XS.dup X3.here hx rfl (hb hby at_208) rfl rfl kont) ?_
            show own_Go _ _ _ _ (T3.setTop (mkF m 209 #[.val (.int p1), .val (.int p2), .val (.int p3), .val (.int p4), .val (.int p5), .val (.int p6), .val (.int a), .val (.int (((p6.toUInt32 >>> ((1 : Int32) &&& 31).toUInt32).toInt32) &&& (3 : Int32))), .val (.int b), .val (.int (((p6.toUInt32 >>> ((3 : Int32) &&& 31).toUInt32).toInt32) &&& (3 : Int32))), .val (.int q), .val (.int fa), .val (.int fb), .val (.int fr), .val (.ref ta), .val (.ref tb), .unset, .unset, .unset, .unset, .unset, .unset] [(.ref b3), (.ref b3)]))
            obtain ⟨_, _, ⟨T4, L4, k4, n4⟩, -, X4, ⟨Lc4, hQ4, l4, y4, z4⟩, st4⟩ := X3.specialBack hx (y := (⟨"com/example/utopic/utopic/broker/MessageIds", "<init>", "()V"⟩ : MethodName)) rfl hown (mvT hZ (hw _ (List.mem_of_getElem? (i := 14) rfl))) (mvT hZ (hw _ (List.mem_of_getElem? (i := 15) rfl))) (mvT hZ (hw _ (List.mem_of_getElem? (i := 16) rfl))) (by decide) (own_back (W := 1) (own_rmI l Z a0 hw b3 h3 n0 Z0 A3 F_pages_b3 F_taken_b3 F_lastPage_b3 F_pagesHeld_b3 F_size_b3 ge_b3) hZ (hw _ (List.mem_of_getElem? (i := 16) rfl)) (hw _ (List.mem_of_getElem? (i := 13) rfl)) (by decide) (by decide)) (g := (mkF m 209 #[.val (.int p1), .val (.int p2), .val (.int p3), .val (.int p4), .val (.int p5), .val (.int p6), .val (.int a), .val (.int (((p6.toUInt32 >>> ((1 : Int32) &&& 31).toUInt32).toInt32) &&& (3 : Int32))), .val (.int b), .val (.int (((p6.toUInt32 >>> ((3 : Int32) &&& 31).toUInt32).toInt32) &&& (3 : Int32))), .val (.int q), .val (.int fa), .val (.int fb), .val (.int fr), .val (.ref ta), .val (.ref tb), .unset, .unset, .unset, .unset, .unset, .unset] [(.ref b3), (.ref b3)])) rfl (by rw [hml]; rfl) (Steps.refl _) (a := b3) (argsL := []) (rest := [(.ref b3)]) (lenOf own_pd3 rfl) rfl (by show 2 * 0 + _ ≤ _; exact Nat.le_of_eq rfl) (hb hby at_209) (fun _ _ => ⟨rfl, e3, (by decide : 1 + 0 ≤ _), (by decide : 5 + 0 ≤ _)⟩)
            dsimp only [Pt.U, Pt.locs, Pt.cells, Pt.slots] at X4 l4 y4 z4 st4 hQ4
            replace X4 := own_cst X4 l4 y4 z4 (k2 := 1) (n2 := 5) rfl rfl
            clear l4 y4 z4
            obtain ⟨rfl, Nq4, K4, M4⟩ := hQ4
            have NF4 := Fr.app NF2 Nq4
            refine own_goT st4 ?_
            have O := O.keep K4 (allS ge_b3 all0)
            have Z0 := Nat.le_trans Z0 K4.1
            show own_Go _ _ _ _ (T4.setTop (mkF m 212 #[.val (.int p1), .val (.int p2), .val (.int p3), .val (.int p4), .val (.int p5), .val (.int p6), .val (.int a), .val (.int (((p6.toUInt32 >>> ((1 : Int32) &&& 31).toUInt32).toInt32) &&& (3 : Int32))), .val (.int b), .val (.int (((p6.toUInt32 >>> ((3 : Int32) &&& 31).toUInt32).toInt32) &&& (3 : Int32))), .val (.int q), .val (.int fa), .val (.int fb), .val (.int fr), .val (.ref ta), .val (.ref tb), .unset, .unset, .unset, .unset, .unset, .unset] [(.ref b3)]))
            refine own_go (fun _ kont => XS.astore X4.here hx rfl (hb hby at_212) rfl rfl (l' := #[.val (.int p1), .val (.int p2), .val (.int p3), .val (.int p4), .val (.int p5), .val (.int p6), .val (.int a), .val (.int (((p6.toUInt32 >>> ((1 : Int32) &&& 31).toUInt32).toInt32) &&& (3 : Int32))), .val (.int b), .val (.int (((p6.toUInt32 >>> ((3 : Int32) &&& 31).toUInt32).toInt32) &&& (3 : Int32))), .val (.int q), .val (.int fa), .val (.int fb), .val (.int fr), .val (.ref ta), .val (.ref tb), .val (.ref b3), .unset, .unset, .unset, .unset, .unset]) rfl kont) ?_
            show own_Go _ _ _ _ (T4.setTop (mkF m 214 #[.val (.int p1), .val (.int p2), .val (.int p3), .val (.int p4), .val (.int p5), .val (.int p6), .val (.int a), .val (.int (((p6.toUInt32 >>> ((1 : Int32) &&& 31).toUInt32).toInt32) &&& (3 : Int32))), .val (.int b), .val (.int (((p6.toUInt32 >>> ((3 : Int32) &&& 31).toUInt32).toInt32) &&& (3 : Int32))), .val (.int q), .val (.int fa), .val (.int fb), .val (.int fr), .val (.ref ta), .val (.ref tb), .val (.ref b3), .unset, .unset, .unset, .unset, .unset] []))
            refine own_go (fun _ kont => XS.aload X4.here hx rfl (hb hby at_214) rfl rfl kont) ?_
            show own_Go _ _ _ _ (T4.setTop (mkF m 216 #[.val (.int p1), .val (.int p2), .val (.int p3), .val (.int p4), .val (.int p5), .val (.int p6), .val (.int a), .val (.int (((p6.toUInt32 >>> ((1 : Int32) &&& 31).toUInt32).toInt32) &&& (3 : Int32))), .val (.int b), .val (.int (((p6.toUInt32 >>> ((3 : Int32) &&& 31).toUInt32).toInt32) &&& (3 : Int32))), .val (.int q), .val (.int fa), .val (.int fb), .val (.int fr), .val (.ref ta), .val (.ref tb), .val (.ref b3), .unset, .unset, .unset, .unset, .unset] [(.ref b3)]))
            refine own_go (fun _ kont => XS.iload X4.here hx rfl (hb hby at_216) rfl kont) ?_
            show own_Go _ _ _ _ (T4.setTop (mkF m 218 #[.val (.int p1), .val (.int p2), .val (.int p3), .val (.int p4), .val (.int p5), .val (.int p6), .val (.int a), .val (.int (((p6.toUInt32 >>> ((1 : Int32) &&& 31).toUInt32).toInt32) &&& (3 : Int32))), .val (.int b), .val (.int (((p6.toUInt32 >>> ((3 : Int32) &&& 31).toUInt32).toInt32) &&& (3 : Int32))), .val (.int q), .val (.int fa), .val (.int fb), .val (.int fr), .val (.ref ta), .val (.ref tb), .val (.ref b3), .unset, .unset, .unset, .unset, .unset] [(.int q), (.ref b3)]))
            obtain ⟨cq5, kq5, q5a, q5b, q5c⟩ := isOf hZ rfl (own_Exa_St (n0 := n0) (Or.inl ⟨M4, rfl, fun _ _ => rfl, rfl, rfl⟩))
            obtain ⟨_, _, ⟨T5, L5, k5, n5⟩, -, X5, ⟨Lc5, hQ5, l5, y5, z5⟩, st5⟩ := X4.virtualBack hx (y := (⟨"com/example/utopic/utopic/broker/MessageIds", "get", "(I)Lcom/example/utopic/utopic/codec/PacketType;"⟩ : MethodName)) (z := (⟨"com/example/utopic/utopic/broker/MessageIds", "get", "(I)Lcom/example/utopic/utopic/codec/PacketType;"⟩ : MethodName)) hown (mvT hZ (hw _ (List.mem_of_getElem? (i := 22) rfl))) (mvT hZ (hw _ (List.mem_of_getElem? (i := 23) rfl))) (notFace_of_selects (args := #[]) (mvT hZ (hw _ (List.mem_of_getElem? (i := 25) rfl)))) (mvT hZ (hw _ (List.mem_of_getElem? (i := 25) rfl))) (mvT hZ (hw _ (List.mem_of_getElem? (i := 24) rfl))) (by decide) (own_back (W := 0) (own_rmG l Z a0 hw b3 q _ (fun _ => 0 : Nat → Int32) _ _ aT kT tys T4.heap n0 Z0 (Or.inl ⟨M4, rfl, fun _ _ => rfl, rfl, rfl⟩) q1 q2 (S_T.ext O.2) (V_T.ext O.2) hlen own_r0.1 own_r0.2) hZ (hw _ (List.mem_of_getElem? (i := 26) rfl)) (hw _ (List.mem_of_getElem? (i := 13) rfl)) (by decide) (by decide)) q5a q5c (g := (mkF m 218 #[.val (.int p1), .val (.int p2), .val (.int p3), .val (.int p4), .val (.int p5), .val (.int p6), .val (.int a), .val (.int (((p6.toUInt32 >>> ((1 : Int32) &&& 31).toUInt32).toInt32) &&& (3 : Int32))), .val (.int b), .val (.int (((p6.toUInt32 >>> ((3 : Int32) &&& 31).toUInt32).toInt32) &&& (3 : Int32))), .val (.int q), .val (.int fa), .val (.int fb), .val (.int fr), .val (.ref ta), .val (.ref tb), .val (.ref b3), .unset, .unset, .unset, .unset, .unset] [(.int q), (.ref b3)])) rfl (by rw [hml]; rfl) (Steps.refl _) (argsL := [(.int q)]) (rest := []) (lenOf own_pd2 rfl) rfl (by show 2 * 0 + _ ≤ _; exact Nat.le_of_eq rfl) (hb hby at_218) (fun _ _ => ⟨rfl, rfl, (by decide : 1 + 0 ≤ _), (by decide : 5 + 0 ≤ _)⟩)
            dsimp only [Pt.U, Pt.locs, Pt.cells, Pt.slots] at X5 l5 y5 z5 st5 hQ5
            replace X5 := own_cst X5 l5 y5 z5 (k2 := 1) (n2 := 5) rfl rfl
            clear l5 y5 z5
            obtain ⟨rfl, Nq5, eq5⟩ := hQ5
            have NF5 := Fr.app NF4 Nq5
            refine own_goT st5 ?_
            show own_Go _ _ _ _ (T5.setTop (mkF m 221 #[.val (.int p1), .val (.int p2), .val (.int p3), .val (.int p4), .val (.int p5), .val (.int p6), .val (.int a), .val (.int (((p6.toUInt32 >>> ((1 : Int32) &&& 31).toUInt32).toInt32) &&& (3 : Int32))), .val (.int b), .val (.int (((p6.toUInt32 >>> ((3 : Int32) &&& 31).toUInt32).toInt32) &&& (3 : Int32))), .val (.int q), .val (.int fa), .val (.int fb), .val (.int fr), .val (.ref ta), .val (.ref tb), .val (.ref b3), .unset, .unset, .unset, .unset, .unset] [(own_ty tys ((fun _ => 0 : Nat → Int32) q.toNatClampNeg))]))
            rw [show own_ty tys ((fun _ => 0 : Nat → Int32) q.toNatClampNeg) = .null from rfl]
            show own_Go _ _ _ _ (T5.setTop (mkF m 221 #[.val (.int p1), .val (.int p2), .val (.int p3), .val (.int p4), .val (.int p5), .val (.int p6), .val (.int a), .val (.int (((p6.toUInt32 >>> ((1 : Int32) &&& 31).toUInt32).toInt32) &&& (3 : Int32))), .val (.int b), .val (.int (((p6.toUInt32 >>> ((3 : Int32) &&& 31).toUInt32).toInt32) &&& (3 : Int32))), .val (.int q), .val (.int fa), .val (.int fb), .val (.int fr), .val (.ref ta), .val (.ref tb), .val (.ref b3), .unset, .unset, .unset, .unset, .unset] [.null]))
            refine own_go (fun _ kont => XS.ifnonnullNo X5.here hx rfl (hb hby at_221) rfl kont) ?_
            show own_Go _ _ _ _ (T5.setTop (mkF m 224 #[.val (.int p1), .val (.int p2), .val (.int p3), .val (.int p4), .val (.int p5), .val (.int p6), .val (.int a), .val (.int (((p6.toUInt32 >>> ((1 : Int32) &&& 31).toUInt32).toInt32) &&& (3 : Int32))), .val (.int b), .val (.int (((p6.toUInt32 >>> ((3 : Int32) &&& 31).toUInt32).toInt32) &&& (3 : Int32))), .val (.int q), .val (.int fa), .val (.int fb), .val (.int fr), .val (.ref ta), .val (.ref tb), .val (.ref b3), .unset, .unset, .unset, .unset, .unset] []))
            refine own_go (fun _ kont => XS.iconst X5.here hx rfl (hb hby at_224) kont) ?_
            show own_Go _ _ _ _ (T5.setTop (mkF m 225 #[.val (.int p1), .val (.int p2), .val (.int p3), .val (.int p4), .val (.int p5), .val (.int p6), .val (.int a), .val (.int (((p6.toUInt32 >>> ((1 : Int32) &&& 31).toUInt32).toInt32) &&& (3 : Int32))), .val (.int b), .val (.int (((p6.toUInt32 >>> ((3 : Int32) &&& 31).toUInt32).toInt32) &&& (3 : Int32))), .val (.int q), .val (.int fa), .val (.int fb), .val (.int fr), .val (.ref ta), .val (.ref tb), .val (.ref b3), .unset, .unset, .unset, .unset, .unset] [(.int (1 : Int32))]))
            refine own_go (fun _ kont => XS.goto X5.here hx rfl (pc0 := 225) (pc' := 229) rfl (hb hby at_225) (by decide) (by decide) kont) ?_
            show own_Go _ _ _ _ (T5.setTop (mkF m 229 #[.val (.int p1), .val (.int p2), .val (.int p3), .val (.int p4), .val (.int p5), .val (.int p6), .val (.int a), .val (.int (((p6.toUInt32 >>> ((1 : Int32) &&& 31).toUInt32).toInt32) &&& (3 : Int32))), .val (.int b), .val (.int (((p6.toUInt32 >>> ((3 : Int32) &&& 31).toUInt32).toInt32) &&& (3 : Int32))), .val (.int q), .val (.int fa), .val (.int fb), .val (.int fr), .val (.ref ta), .val (.ref tb), .val (.ref b3), .unset, .unset, .unset, .unset, .unset] [(.int (1 : Int32))]))
            refine own_go (fun _ kont => XS.istore X5.here hx rfl (hb hby at_229) rfl (l' := #[.val (.int p1), .val (.int p2), .val (.int p3), .val (.int p4), .val (.int p5), .val (.int p6), .val (.int a), .val (.int (((p6.toUInt32 >>> ((1 : Int32) &&& 31).toUInt32).toInt32) &&& (3 : Int32))), .val (.int b), .val (.int (((p6.toUInt32 >>> ((3 : Int32) &&& 31).toUInt32).toInt32) &&& (3 : Int32))), .val (.int q), .val (.int fa), .val (.int fb), .val (.int fr), .val (.ref ta), .val (.ref tb), .val (.ref b3), .val (.int (1 : Int32)), .unset, .unset, .unset, .unset]) rfl kont) ?_
            show own_Go _ _ _ _ (T5.setTop (mkF m 231 #[.val (.int p1), .val (.int p2), .val (.int p3), .val (.int p4), .val (.int p5), .val (.int p6), .val (.int a), .val (.int (((p6.toUInt32 >>> ((1 : Int32) &&& 31).toUInt32).toInt32) &&& (3 : Int32))), .val (.int b), .val (.int (((p6.toUInt32 >>> ((3 : Int32) &&& 31).toUInt32).toInt32) &&& (3 : Int32))), .val (.int q), .val (.int fa), .val (.int fb), .val (.int fr), .val (.ref ta), .val (.ref tb), .val (.ref b3), .val (.int (1 : Int32)), .unset, .unset, .unset, .unset] []))
            refine own_go (fun _ kont => XS.iload X5.here hx rfl (hb hby at_231) rfl kont) ?_
            show own_Go _ _ _ _ (T5.setTop (mkF m 233 #[.val (.int p1), .val (.int p2), .val (.int p3), .val (.int p4), .val (.int p5), .val (.int p6), .val (.int a), .val (.int (((p6.toUInt32 >>> ((1 : Int32) &&& 31).toUInt32).toInt32) &&& (3 : Int32))), .val (.int b), .val (.int (((p6.toUInt32 >>> ((3 : Int32) &&& 31).toUInt32).toInt32) &&& (3 : Int32))), .val (.int q), .val (.int fa), .val (.int fb), .val (.int fr), .val (.ref ta), .val (.ref tb), .val (.ref b3), .val (.int (1 : Int32)), .unset, .unset, .unset, .unset] [(.int fa)]))
            have J245 : ∀ (T : State) (L : List Loc) (X : Stand p l e room_1 s m #[(.int p1), (.int p2), (.int p3), (.int p4), (.int p5), (.int p6)] below meth c T L 4 773) (N : Fr n0 L) (hH : Heap) (eT : T.heap = hH) (O : Old Z n0 hH) (Z0 : n0 ≤ hH.size) (S : List Nat) (held size : Int32) (hS : S.length ≤ 1) (M : own_St Z n0 hH b3 S (own_v1 fa a.toNatClampNeg oa) held size), own_Go p.tables e below (own_End s below (fun v h L => v = some (.int 1) ∧ Fr n0 L) room_1.cells room_1.slots) (T.setTop (mkF m 245 #[.val (.int p1), .val (.int p2), .val (.int p3), .val (.int p4), .val (.int p5), .val (.int p6), .val (.int a), .val (.int (((p6.toUInt32 >>> ((1 : Int32) &&& 31).toUInt32).toInt32) &&& (3 : Int32))), .val (.int b), .val (.int (((p6.toUInt32 >>> ((3 : Int32) &&& 31).toUInt32).toInt32) &&& (3 : Int32))), .val (.int q), .val (.int fa), .val (.int fb), .val (.int fr), .val (.ref ta), .val (.ref tb), .val (.ref b3), .val (.int (1 : Int32)), .unset, .unset, .unset, .unset] [])) := by
              intro T L X N hH eT O Z0 S held size hS M
              show own_Go _ _ _ _ (T.setTop (mkF m 245 #[.val (.int p1), .val (.int p2), .val (.int p3), .val (.int p4), .val (.int p5), .val (.int p6), .val (.int a), .val (.int (((p6.toUInt32 >>> ((1 : Int32) &&& 31).toUInt32).toInt32) &&& (3 : Int32))), .val (.int b), .val (.int (((p6.toUInt32 >>> ((3 : Int32) &&& 31).toUInt32).toInt32) &&& (3 : Int32))), .val (.int q), .val (.int fa), .val (.int fb), .val (.int fr), .val (.ref ta), .val (.ref tb), .val (.ref b3), .val (.int (1 : Int32)), .unset, .unset, .unset, .unset] []))
              refine own_go (fun _ kont => XS.iload X.here hx rfl (hb hby at_245) rfl kont) ?_
              show own_Go _ _ _ _ (T.setTop (mkF m 247 #[.val (.int p1), .val (.int p2), .val (.int p3), .val (.int p4), .val (.int p5), .val (.int p6), .val (.int a), .val (.int (((p6.toUInt32 >>> ((1 : Int32) &&& 31).toUInt32).toInt32) &&& (3 : Int32))), .val (.int b), .val (.int (((p6.toUInt32 >>> ((3 : Int32) &&& 31).toUInt32).toInt32) &&& (3 : Int32))), .val (.int q), .val (.int fa), .val (.int fb), .val (.int fr), .val (.ref ta), .val (.ref tb), .val (.ref b3), .val (.int (1 : Int32)), .unset, .unset, .unset, .unset] [(.int fb)]))
              have J259 : ∀ (T : State) (L : List Loc) (X : Stand p l e room_1 s m #[(.int p1), (.int p2), (.int p3), (.int p4), (.int p5), (.int p6)] below meth c T L 7 1541) (N : Fr n0 L) (hH : Heap) (eT : T.heap = hH) (O : Old Z n0 hH) (Z0 : n0 ≤ hH.size) (S : List Nat) (held size : Int32) (hS : S.length ≤ 2) (M : own_St Z n0 hH b3 S (own_v2 fa fb a.toNatClampNeg b.toNatClampNeg oa ob) held size), own_Go p.tables e below (own_End s below (fun v h L => v = some (.int 1) ∧ Fr n0 L) room_1.cells room_1.slots) (T.setTop (mkF m 259 #[.val (.int p1), .val (.int p2), .val (.int p3), .val (.int p4), .val (.int p5), .val (.int p6), .val (.int a), .val (.int (((p6.toUInt32 >>> ((1 : Int32) &&& 31).toUInt32).toInt32) &&& (3 : Int32))), .val (.int b), .val (.int (((p6.toUInt32 >>> ((3 : Int32) &&& 31).toUInt32).toInt32) &&& (3 : Int32))), .val (.int q), .val (.int fa), .val (.int fb), .val (.int fr), .val (.ref ta), .val (.ref tb), .val (.ref b3), .val (.int (1 : Int32)), .unset, .unset, .unset, .unset] [])) := by
                intro T L X N hH eT O Z0 S held size hS M
                show own_Go _ _ _ _ (T.setTop (mkF m 259 #[.val (.int p1), .val (.int p2), .val (.int p3), .val (.int p4), .val (.int p5), .val (.int p6), .val (.int a), .val (.int (((p6.toUInt32 >>> ((1 : Int32) &&& 31).toUInt32).toInt32) &&& (3 : Int32))), .val (.int b), .val (.int (((p6.toUInt32 >>> ((3 : Int32) &&& 31).toUInt32).toInt32) &&& (3 : Int32))), .val (.int q), .val (.int fa), .val (.int fb), .val (.int fr), .val (.ref ta), .val (.ref tb), .val (.ref b3), .val (.int (1 : Int32)), .unset, .unset, .unset, .unset] []))
                refine own_go (fun _ kont => XS.aconstNull X.here hx rfl (hb hby at_259) kont) ?_
                show own_Go _ _ _ _ (T.setTop (mkF m 260 #[.val (.int p1), .val (.int p2), .val (.int p3), .val (.int p4), .val (.int p5), .val (.int p6), .val (.int a), .val (.int (((p6.toUInt32 >>> ((1 : Int32) &&& 31).toUInt32).toInt32) &&& (3 : Int32))), .val (.int b), .val (.int (((p6.toUInt32 >>> ((3 : Int32) &&& 31).toUInt32).toInt32) &&& (3 : Int32))), .val (.int q), .val (.int fa), .val (.int fb), .val (.int fr), .val (.ref ta), .val (.ref tb), .val (.ref b3), .val (.int (1 : Int32)), .unset, .unset, .unset, .unset] [.null]))
                refine own_go (fun _ kont => XS.astore X.here hx rfl (hb hby at_260) rfl rfl (l' := #[.val (.int p1), .val (.int p2), .val (.int p3), .val (.int p4), .val (.int p5), .val (.int p6), .val (.int a), .val (.int (((p6.toUInt32 >>> ((1 : Int32) &&& 31).toUInt32).toInt32) &&& (3 : Int32))), .val (.int b), .val (.int (((p6.toUInt32 >>> ((3 : Int32) &&& 31).toUInt32).toInt32) &&& (3 : Int32))), .val (.int q), .val (.int fa), .val (.int fb), .val (.int fr), .val (.ref ta), .val (.ref tb), .val (.ref b3), .val (.int (1 : Int32)), .val .null, .unset, .unset, .unset]) rfl kont) ?_
                show own_Go _ _ _ _ (T.setTop (mkF m 262 #[.val (.int p1), .val (.int p2), .val (.int p3), .val (.int p4), .val (.int p5), .val (.int p6), .val (.int a), .val (.int (((p6.toUInt32 >>> ((1 : Int32) &&& 31).toUInt32).toInt32) &&& (3 : Int32))), .val (.int b), .val (.int (((p6.toUInt32 >>> ((3 : Int32) &&& 31).toUInt32).toInt32) &&& (3 : Int32))), .val (.int q), .val (.int fa), .val (.int fb), .val (.int fr), .val (.ref ta), .val (.ref tb), .val (.ref b3), .val (.int (1 : Int32)), .val .null, .unset, .unset, .unset] []))
                refine own_go (fun _ kont => XS.iload X.here hx rfl (hb hby at_262) rfl kont) ?_
                show own_Go _ _ _ _ (T.setTop (mkF m 264 #[.val (.int p1), .val (.int p2), .val (.int p3), .val (.int p4), .val (.int p5), .val (.int p6), .val (.int a), .val (.int (((p6.toUInt32 >>> ((1 : Int32) &&& 31).toUInt32).toInt32) &&& (3 : Int32))), .val (.int b), .val (.int (((p6.toUInt32 >>> ((3 : Int32) &&& 31).toUInt32).toInt32) &&& (3 : Int32))), .val (.int q), .val (.int fa), .val (.int fb), .val (.int fr), .val (.ref ta), .val (.ref tb), .val (.ref b3), .val (.int (1 : Int32)), .val .null, .unset, .unset, .unset] [(.int fa)]))
                have J278 : own_Go p.tables e below (own_End s below (fun v h L => v = some (.int 1) ∧ Fr n0 L) room_1.cells room_1.slots) (T.setTop (mkF m 278 #[.val (.int p1), .val (.int p2), .val (.int p3), .val (.int p4), .val (.int p5), .val (.int p6), .val (.int a), .val (.int (((p6.toUInt32 >>> ((1 : Int32) &&& 31).toUInt32).toInt32) &&& (3 : Int32))), .val (.int b), .val (.int (((p6.toUInt32 >>> ((3 : Int32) &&& 31).toUInt32).toInt32) &&& (3 : Int32))), .val (.int q), .val (.int fa), .val (.int fb), .val (.int fr), .val (.ref ta), .val (.ref tb), .val (.ref b3), .val (.int (1 : Int32)), .val (own_m1 fa a q ta), .unset, .unset, .unset] [])) := by
                  refine own_go (fun _ kont => XS.iload X.here hx rfl (hb hby at_278) rfl kont) ?_
                  show own_Go _ _ _ _ (T.setTop (mkF m 280 #[.val (.int p1), .val (.int p2), .val (.int p3), .val (.int p4), .val (.int p5), .val (.int p6), .val (.int a), .val (.int (((p6.toUInt32 >>> ((1 : Int32) &&& 31).toUInt32).toInt32) &&& (3 : Int32))), .val (.int b), .val (.int (((p6.toUInt32 >>> ((3 : Int32) &&& 31).toUInt32).toInt32) &&& (3 : Int32))), .val (.int q), .val (.int fa), .val (.int fb), .val (.int fr), .val (.ref ta), .val (.ref tb), .val (.ref b3), .val (.int (1 : Int32)), .val (own_m1 fa a q ta), .unset, .unset, .unset] [(.int fb)]))
                  have J294 : own_Go p.tables e below (own_End s below (fun v h L => v = some (.int 1) ∧ Fr n0 L) room_1.cells room_1.slots) (T.setTop (mkF m 294 #[.val (.int p1), .val (.int p2), .val (.int p3), .val (.int p4), .val (.int p5), .val (.int p6), .val (.int a), .val (.int (((p6.toUInt32 >>> ((1 : Int32) &&& 31).toUInt32).toInt32) &&& (3 : Int32))), .val (.int b), .val (.int (((p6.toUInt32 >>> ((3 : Int32) &&& 31).toUInt32).toInt32) &&& (3 : Int32))), .val (.int q), .val (.int fa), .val (.int fb), .val (.int fr), .val (.ref ta), .val (.ref tb), .val (.ref b3), .val (.int (1 : Int32)), .val (own_m2 fa fb a b q ta tb), .unset, .unset, .unset] [])) := by
                    refine own_go (fun _ kont => XS.aload X.here hx rfl (hb hby at_294) rfl rfl kont) ?_
                    show own_Go _ _ _ _ (T.setTop (mkF m 296 #[.val (.int p1), .val (.int p2), .val (.int p3), .val (.int p4), .val (.int p5), .val (.int p6), .val (.int a), .val (.int (((p6.toUInt32 >>> ((1 : Int32) &&& 31).toUInt32).toInt32) &&& (3 : Int32))), .val (.int b), .val (.int (((p6.toUInt32 >>> ((3 : Int32) &&& 31).toUInt32).toInt32) &&& (3 : Int32))), .val (.int q), .val (.int fa), .val (.int fb), .val (.int fr), .val (.ref ta), .val (.ref tb), .val (.ref b3), .val (.int (1 : Int32)), .val (own_m2 fa fb a b q ta tb), .unset, .unset, .unset] [(.ref b3)]))
                    refine own_go (fun _ kont => XS.iload X.here hx rfl (hb hby at_296) rfl kont) ?_
                    show own_Go _ _ _ _ (T.setTop (mkF m 298 #[.val (.int p1), .val (.int p2), .val (.int p3), .val (.int p4), .val (.int p5), .val (.int p6), .val (.int a), .val (.int (((p6.toUInt32 >>> ((1 : Int32) &&& 31).toUInt32).toInt32) &&& (3 : Int32))), .val (.int b), .val (.int (((p6.toUInt32 >>> ((3 : Int32) &&& 31).toUInt32).toInt32) &&& (3 : Int32))), .val (.int q), .val (.int fa), .val (.int fb), .val (.int fr), .val (.ref ta), .val (.ref tb), .val (.ref b3), .val (.int (1 : Int32)), .val (own_m2 fa fb a b q ta tb), .unset, .unset, .unset] [(.int q), (.ref b3)]))
                    obtain ⟨cq6, kq6, q6a, q6b, q6c⟩ := isOf hZ eT (own_Exa_St (n0 := n0) M)
                    obtain ⟨_, _, ⟨T6, L6, k6, n6⟩, -, X6, ⟨Lc6, hQ6, l6, y6, z6⟩, st6⟩ := X.virtualBack hx (y := (⟨"com/example/utopic/utopic/broker/MessageIds", "get", "(I)Lcom/example/utopic/utopic/codec/PacketType;"⟩ : MethodName)) (z := (⟨"com/example/utopic/utopic/broker/MessageIds", "get", "(I)Lcom/example/utopic/utopic/codec/PacketType;"⟩ : MethodName)) hown (mvT hZ (hw _ (List.mem_of_getElem? (i := 22) rfl))) (mvT hZ (hw _ (List.mem_of_getElem? (i := 23) rfl))) (notFace_of_selects (args := #[]) (mvT hZ (hw _ (List.mem_of_getElem? (i := 25) rfl)))) (mvT hZ (hw _ (List.mem_of_getElem? (i := 25) rfl))) (mvT hZ (hw _ (List.mem_of_getElem? (i := 24) rfl))) (by decide) (own_back (W := 0) (own_rmG l Z a0 hw b3 q _ (own_v2 fa fb a.toNatClampNeg b.toNatClampNeg oa ob) _ _ aT kT tys hH n0 Z0 M q1 q2 (S_T.ext O.2) (V_T.ext O.2) hlen (own_rv2 oa1 oa2 ob1 ob2).1 (own_rv2 oa1 oa2 ob1 ob2).2) hZ (hw _ (List.mem_of_getElem? (i := 26) rfl)) (hw _ (List.mem_of_getElem? (i := 13) rfl)) (by decide) (by decide)) q6a q6c (g := (mkF m 298 #[.val (.int p1), .val (.int p2), .val (.int p3), .val (.int p4), .val (.int p5), .val (.int p6), .val (.int a), .val (.int (((p6.toUInt32 >>> ((1 : Int32) &&& 31).toUInt32).toInt32) &&& (3 : Int32))), .val (.int b), .val (.int (((p6.toUInt32 >>> ((3 : Int32) &&& 31).toUInt32).toInt32) &&& (3 : Int32))), .val (.int q), .val (.int fa), .val (.int fb), .val (.int fr), .val (.ref ta), .val (.ref tb), .val (.ref b3), .val (.int (1 : Int32)), .val (own_m2 fa fb a b q ta tb), .unset, .unset, .unset] [(.int q), (.ref b3)])) rfl (by rw [hml]; rfl) (Steps.refl _) (argsL := [(.int q)]) (rest := []) (lenOf own_pd2 rfl) rfl (by show 2 * 0 + _ ≤ _; exact Nat.le_of_eq rfl) (hb hby at_298) (fun _ _ => ⟨rfl, eT, (by decide : 7 + 0 ≤ _), (by decide : 1541 + 0 ≤ _)⟩)
                    dsimp only [Pt.U, Pt.locs, Pt.cells, Pt.slots] at X6 l6 y6 z6 st6 hQ6
                    replace X6 := own_cst X6 l6 y6 z6 (k2 := 7) (n2 := 1541) rfl rfl
                    clear l6 y6 z6
                    obtain ⟨rfl, Nq6, eq6⟩ := hQ6
                    have NF6 := Fr.app N Nq6
                    refine own_goT st6 ?_
                    show own_Go _ _ _ _ (T6.setTop (mkF m 301 #[.val (.int p1), .val (.int p2), .val (.int p3), .val (.int p4), .val (.int p5), .val (.int p6), .val (.int a), .val (.int (((p6.toUInt32 >>> ((1 : Int32) &&& 31).toUInt32).toInt32) &&& (3 : Int32))), .val (.int b), .val (.int (((p6.toUInt32 >>> ((3 : Int32) &&& 31).toUInt32).toInt32) &&& (3 : Int32))), .val (.int q), .val (.int fa), .val (.int fb), .val (.int fr), .val (.ref ta), .val (.ref tb), .val (.ref b3), .val (.int (1 : Int32)), .val (own_m2 fa fb a b q ta tb), .unset, .unset, .unset] [(own_ty tys ((own_v2 fa fb a.toNatClampNeg b.toNatClampNeg oa ob) q.toNatClampNeg))]))
                    refine own_go (fun _ kont => XS.aload X6.here hx rfl (hb hby at_301) rfl (own_m2R ..) kont) ?_
                    show own_Go _ _ _ _ (T6.setTop (mkF m 303 #[.val (.int p1), .val (.int p2), .val (.int p3), .val (.int p4), .val (.int p5), .val (.int p6), .val (.int a), .val (.int (((p6.toUInt32 >>> ((1 : Int32) &&& 31).toUInt32).toInt32) &&& (3 : Int32))), .val (.int b), .val (.int (((p6.toUInt32 >>> ((3 : Int32) &&& 31).toUInt32).toInt32) &&& (3 : Int32))), .val (.int q), .val (.int fa), .val (.int fb), .val (.int fr), .val (.ref ta), .val (.ref tb), .val (.ref b3), .val (.int (1 : Int32)), .val (own_m2 fa fb a b q ta tb), .unset, .unset, .unset] [(own_m2 fa fb a b q ta tb), (own_ty tys ((own_v2 fa fb a.toNatClampNeg b.toNatClampNeg oa ob) q.toNatClampNeg))]))
                    refine own_go (fun _ kont => Jvm.RoadKit.acmp (g := (mkF m 303 #[.val (.int p1), .val (.int p2), .val (.int p3), .val (.int p4), .val (.int p5), .val (.int p6), .val (.int a), .val (.int (((p6.toUInt32 >>> ((1 : Int32) &&& 31).toUInt32).toInt32) &&& (3 : Int32))), .val (.int b), .val (.int (((p6.toUInt32 >>> ((3 : Int32) &&& 31).toUInt32).toInt32) &&& (3 : Int32))), .val (.int q), .val (.int fa), .val (.int fb), .val (.int fr), .val (.ref ta), .val (.ref tb), .val (.ref b3), .val (.int (1 : Int32)), .val (own_m2 fa fb a b q ta tb), .unset, .unset, .unset] [(own_m2 fa fb a b q ta tb), (own_ty tys ((own_v2 fa fb a.toNatClampNeg b.toNatClampNeg oa ob) q.toNatClampNeg))])) X6 hx rfl (own_tyR ..) (own_m2R ..) (pc0 := 303) (pc' := 306) (same := true) rfl (hb hby at_303) rfl (decide_eq_true (own_E2 a1 b1 q1 T_ta T_tb)) (by decide) (by decide) kont) ?_
                    show own_Go _ _ _ _ (T6.setTop (mkF m 306 #[.val (.int p1), .val (.int p2), .val (.int p3), .val (.int p4), .val (.int p5), .val (.int p6), .val (.int a), .val (.int (((p6.toUInt32 >>> ((1 : Int32) &&& 31).toUInt32).toInt32) &&& (3 : Int32))), .val (.int b), .val (.int (((p6.toUInt32 >>> ((3 : Int32) &&& 31).toUInt32).toInt32) &&& (3 : Int32))), .val (.int q), .val (.int fa), .val (.int fb), .val (.int fr), .val (.ref ta), .val (.ref tb), .val (.ref b3), .val (.int (1 : Int32)), .val (own_m2 fa fb a b q ta tb), .unset, .unset, .unset] []))
                    refine own_go (fun _ kont => XS.iconst X6.here hx rfl (hb hby at_306) kont) ?_
                    show own_Go _ _ _ _ (T6.setTop (mkF m 307 #[.val (.int p1), .val (.int p2), .val (.int p3), .val (.int p4), .val (.int p5), .val (.int p6), .val (.int a), .val (.int (((p6.toUInt32 >>> ((1 : Int32) &&& 31).toUInt32).toInt32) &&& (3 : Int32))), .val (.int b), .val (.int (((p6.toUInt32 >>> ((3 : Int32) &&& 31).toUInt32).toInt32) &&& (3 : Int32))), .val (.int q), .val (.int fa), .val (.int fb), .val (.int fr), .val (.ref ta), .val (.ref tb), .val (.ref b3), .val (.int (1 : Int32)), .val (own_m2 fa fb a b q ta tb), .unset, .unset, .unset] [(.int (1 : Int32))]))
                    refine own_go (fun _ kont => XS.goto X6.here hx rfl (pc0 := 307) (pc' := 311) rfl (hb hby at_307) (by decide) (by decide) kont) ?_
                    show own_Go _ _ _ _ (T6.setTop (mkF m 311 #[.val (.int p1), .val (.int p2), .val (.int p3), .val (.int p4), .val (.int p5), .val (.int p6), .val (.int a), .val (.int (((p6.toUInt32 >>> ((1 : Int32) &&& 31).toUInt32).toInt32) &&& (3 : Int32))), .val (.int b), .val (.int (((p6.toUInt32 >>> ((3 : Int32) &&& 31).toUInt32).toInt32) &&& (3 : Int32))), .val (.int q), .val (.int fa), .val (.int fb), .val (.int fr), .val (.ref ta), .val (.ref tb), .val (.ref b3), .val (.int (1 : Int32)), .val (own_m2 fa fb a b q ta tb), .unset, .unset, .unset] [(.int (1 : Int32))]))
                    refine own_go (fun _ kont => XS.istore X6.here hx rfl (hb hby at_311) rfl (l' := #[.val (.int p1), .val (.int p2), .val (.int p3), .val (.int p4), .val (.int p5), .val (.int p6), .val (.int a), .val (.int (((p6.toUInt32 >>> ((1 : Int32) &&& 31).toUInt32).toInt32) &&& (3 : Int32))), .val (.int b), .val (.int (((p6.toUInt32 >>> ((3 : Int32) &&& 31).toUInt32).toInt32) &&& (3 : Int32))), .val (.int q), .val (.int fa), .val (.int fb), .val (.int fr), .val (.ref ta), .val (.ref tb), .val (.ref b3), .val (.int (1 : Int32)), .val (own_m2 fa fb a b q ta tb), .val (.int (1 : Int32)), .unset, .unset]) rfl kont) ?_
                    show own_Go _ _ _ _ (T6.setTop (mkF m 313 #[.val (.int p1), .val (.int p2), .val (.int p3), .val (.int p4), .val (.int p5), .val (.int p6), .val (.int a), .val (.int (((p6.toUInt32 >>> ((1 : Int32) &&& 31).toUInt32).toInt32) &&& (3 : Int32))), .val (.int b), .val (.int (((p6.toUInt32 >>> ((3 : Int32) &&& 31).toUInt32).toInt32) &&& (3 : Int32))), .val (.int q), .val (.int fa), .val (.int fb), .val (.int fr), .val (.ref ta), .val (.ref tb), .val (.ref b3), .val (.int (1 : Int32)), .val (own_m2 fa fb a b q ta tb), .val (.int (1 : Int32)), .unset, .unset] []))
                    refine own_go (fun _ kont => XS.iload X6.here hx rfl (hb hby at_313) rfl kont) ?_
                    show own_Go _ _ _ _ (T6.setTop (mkF m 315 #[.val (.int p1), .val (.int p2), .val (.int p3), .val (.int p4), .val (.int p5), .val (.int p6), .val (.int a), .val (.int (((p6.toUInt32 >>> ((1 : Int32) &&& 31).toUInt32).toInt32) &&& (3 : Int32))), .val (.int b), .val (.int (((p6.toUInt32 >>> ((3 : Int32) &&& 31).toUInt32).toInt32) &&& (3 : Int32))), .val (.int q), .val (.int fa), .val (.int fb), .val (.int fr), .val (.ref ta), .val (.ref tb), .val (.ref b3), .val (.int (1 : Int32)), .val (own_m2 fa fb a b q ta tb), .val (.int (1 : Int32)), .unset, .unset] [(.int fr)]))
                    have J325 : ∀ (T : State) (L : List Loc) (X : Stand p l e room_1 s m #[(.int p1), (.int p2), (.int p3), (.int p4), (.int p5), (.int p6)] below meth c T L 7 1541) (N : Fr n0 L) (hH : Heap) (eT : T.heap = hH) (O : Old Z n0 hH) (Z0 : n0 ≤ hH.size) (S : List Nat) (held size : Int32) (M : own_St Z n0 hH b3 S (own_v3 fa fb fr a.toNatClampNeg b.toNatClampNeg oa ob) held size), own_Go p.tables e below (own_End s below (fun v h L => v = some (.int 1) ∧ Fr n0 L) room_1.cells room_1.slots) (T.setTop (mkF m 325 #[.val (.int p1), .val (.int p2), .val (.int p3), .val (.int p4), .val (.int p5), .val (.int p6), .val (.int a), .val (.int (((p6.toUInt32 >>> ((1 : Int32) &&& 31).toUInt32).toInt32) &&& (3 : Int32))), .val (.int b), .val (.int (((p6.toUInt32 >>> ((3 : Int32) &&& 31).toUInt32).toInt32) &&& (3 : Int32))), .val (.int q), .val (.int fa), .val (.int fb), .val (.int fr), .val (.ref ta), .val (.ref tb), .val (.ref b3), .val (.int (1 : Int32)), .val (own_m2 fa fb a b q ta tb), .val (.int (1 : Int32)), .unset, .unset] [])) := by
                      intro T L X N hH eT O Z0 S held size M
                      show own_Go _ _ _ _ (T.setTop (mkF m 325 #[.val (.int p1), .val (.int p2), .val (.int p3), .val (.int p4), .val (.int p5), .val (.int p6), .val (.int a), .val (.int (((p6.toUInt32 >>> ((1 : Int32) &&& 31).toUInt32).toInt32) &&& (3 : Int32))), .val (.int b), .val (.int (((p6.toUInt32 >>> ((3 : Int32) &&& 31).toUInt32).toInt32) &&& (3 : Int32))), .val (.int q), .val (.int fa), .val (.int fb), .val (.int fr), .val (.ref ta), .val (.ref tb), .val (.ref b3), .val (.int (1 : Int32)), .val (own_m2 fa fb a b q ta tb), .val (.int (1 : Int32)), .unset, .unset] []))
                      refine own_go (fun _ kont => XS.iload X.here hx rfl (hb hby at_325) rfl kont) ?_
                      show own_Go _ _ _ _ (T.setTop (mkF m 327 #[.val (.int p1), .val (.int p2), .val (.int p3), .val (.int p4), .val (.int p5), .val (.int p6), .val (.int a), .val (.int (((p6.toUInt32 >>> ((1 : Int32) &&& 31).toUInt32).toInt32) &&& (3 : Int32))), .val (.int b), .val (.int (((p6.toUInt32 >>> ((3 : Int32) &&& 31).toUInt32).toInt32) &&& (3 : Int32))), .val (.int q), .val (.int fa), .val (.int fb), .val (.int fr), .val (.ref ta), .val (.ref tb), .val (.ref b3), .val (.int (1 : Int32)), .val (own_m2 fa fb a b q ta tb), .val (.int (1 : Int32)), .unset, .unset] [(.int fr)]))
                      have J343 : own_Go p.tables e below (own_End s below (fun v h L => v = some (.int 1) ∧ Fr n0 L) room_1.cells room_1.slots) (T.setTop (mkF m 343 #[.val (.int p1), .val (.int p2), .val (.int p3), .val (.int p4), .val (.int p5), .val (.int p6), .val (.int a), .val (.int (((p6.toUInt32 >>> ((1 : Int32) &&& 31).toUInt32).toInt32) &&& (3 : Int32))), .val (.int b), .val (.int (((p6.toUInt32 >>> ((3 : Int32) &&& 31).toUInt32).toInt32) &&& (3 : Int32))), .val (.int q), .val (.int fa), .val (.int fb), .val (.int fr), .val (.ref ta), .val (.ref tb), .val (.ref b3), .val (.int (1 : Int32)), .val (own_m2 fa fb a b q ta tb), .val (.int (1 : Int32)), .unset, .unset] [(own_m3 fr a q (own_m2 fa fb a b q ta tb))])) := by
                        refine own_go (fun _ kont => XS.astoreS X.here hx rfl (hb hby at_343) rfl (own_m3R _ _ _ (own_m2R ..)) (Jvm.Free.XT.cat1 (own_m3R _ _ _ (own_m2R ..))) rfl (Or.inl rfl) kont) ?_
                        show own_Go _ _ _ _ (T.setTop (mkF m 345 #[.val (.int p1), .val (.int p2), .val (.int p3), .val (.int p4), .val (.int p5), .val (.int p6), .val (.int a), .val (.int (((p6.toUInt32 >>> ((1 : Int32) &&& 31).toUInt32).toInt32) &&& (3 : Int32))), .val (.int b), .val (.int (((p6.toUInt32 >>> ((3 : Int32) &&& 31).toUInt32).toInt32) &&& (3 : Int32))), .val (.int q), .val (.int fa), .val (.int fb), .val (.int fr), .val (.ref ta), .val (.ref tb), .val (.ref b3), .val (.int (1 : Int32)), .val (own_m2 fa fb a b q ta tb), .val (.int (1 : Int32)), .val (own_m3 fr a q (own_m2 fa fb a b q ta tb)), .unset] []))
                        refine own_go (fun _ kont => XS.aload X.here hx rfl (hb hby at_345) rfl rfl kont) ?_
                        show own_Go _ _ _ _ (T.setTop (mkF m 347 #[.val (.int p1), .val (.int p2), .val (.int p3), .val (.int p4), .val (.int p5), .val (.int p6), .val (.int a), .val (.int (((p6.toUInt32 >>> ((1 : Int32) &&& 31).toUInt32).toInt32) &&& (3 : Int32))), .val (.int b), .val (.int (((p6.toUInt32 >>> ((3 : Int32) &&& 31).toUInt32).toInt32) &&& (3 : Int32))), .val (.int q), .val (.int fa), .val (.int fb), .val (.int fr), .val (.ref ta), .val (.ref tb), .val (.ref b3), .val (.int (1 : Int32)), .val (own_m2 fa fb a b q ta tb), .val (.int (1 : Int32)), .val (own_m3 fr a q (own_m2 fa fb a b q ta tb)), .unset] [(.ref b3)]))
                        refine own_go (fun _ kont => XS.iload X.here hx rfl (hb hby at_347) rfl kont) ?_
                        show own_Go _ _ _ _ (T.setTop (mkF m 349 #[.val (.int p1), .val (.int p2), .val (.int p3), .val (.int p4), .val (.int p5), .val (.int p6), .val (.int a), .val (.int (((p6.toUInt32 >>> ((1 : Int32) &&& 31).toUInt32).toInt32) &&& (3 : Int32))), .val (.int b), .val (.int (((p6.toUInt32 >>> ((3 : Int32) &&& 31).toUInt32).toInt32) &&& (3 : Int32))), .val (.int q), .val (.int fa), .val (.int fb), .val (.int fr), .val (.ref ta), .val (.ref tb), .val (.ref b3), .val (.int (1 : Int32)), .val (own_m2 fa fb a b q ta tb), .val (.int (1 : Int32)), .val (own_m3 fr a q (own_m2 fa fb a b q ta tb)), .unset] [(.int q), (.ref b3)]))
                        obtain ⟨cq7, kq7, q7a, q7b, q7c⟩ := isOf hZ eT (own_Exa_St (n0 := n0) M)
                        obtain ⟨_, _, ⟨T7, L7, k7, n7⟩, -, X7, ⟨Lc7, hQ7, l7, y7, z7⟩, st7⟩ := X.virtualBack hx (y := (⟨"com/example/utopic/utopic/broker/MessageIds", "get", "(I)Lcom/example/utopic/utopic/codec/PacketType;"⟩ : MethodName)) (z := (⟨"com/example/utopic/utopic/broker/MessageIds", "get", "(I)Lcom/example/utopic/utopic/codec/PacketType;"⟩ : MethodName)) hown (mvT hZ (hw _ (List.mem_of_getElem? (i := 22) rfl))) (mvT hZ (hw _ (List.mem_of_getElem? (i := 23) rfl))) (notFace_of_selects (args := #[]) (mvT hZ (hw _ (List.mem_of_getElem? (i := 25) rfl)))) (mvT hZ (hw _ (List.mem_of_getElem? (i := 25) rfl))) (mvT hZ (hw _ (List.mem_of_getElem? (i := 24) rfl))) (by decide) (own_back (W := 0) (own_rmG l Z a0 hw b3 q _ (own_v3 fa fb fr a.toNatClampNeg b.toNatClampNeg oa ob) _ _ aT kT tys hH n0 Z0 M q1 q2 (S_T.ext O.2) (V_T.ext O.2) hlen (own_rv3 oa1 oa2 ob1 ob2).1 (own_rv3 oa1 oa2 ob1 ob2).2) hZ (hw _ (List.mem_of_getElem? (i := 26) rfl)) (hw _ (List.mem_of_getElem? (i := 13) rfl)) (by decide) (by decide)) q7a q7c (g := (mkF m 349 #[.val (.int p1), .val (.int p2), .val (.int p3), .val (.int p4), .val (.int p5), .val (.int p6), .val (.int a), .val (.int (((p6.toUInt32 >>> ((1 : Int32) &&& 31).toUInt32).toInt32) &&& (3 : Int32))), .val (.int b), .val (.int (((p6.toUInt32 >>> ((3 : Int32) &&& 31).toUInt32).toInt32) &&& (3 : Int32))), .val (.int q), .val (.int fa), .val (.int fb), .val (.int fr), .val (.ref ta), .val (.ref tb), .val (.ref b3), .val (.int (1 : Int32)), .val (own_m2 fa fb a b q ta tb), .val (.int (1 : Int32)), .val (own_m3 fr a q (own_m2 fa fb a b q ta tb)), .unset] [(.int q), (.ref b3)])) rfl (by rw [hml]; rfl) (Steps.refl _) (argsL := [(.int q)]) (rest := []) (lenOf own_pd2 rfl) rfl (by show 2 * 0 + _ ≤ _; exact Nat.le_of_eq rfl) (hb hby at_349) (fun _ _ => ⟨rfl, eT, (by decide : 7 + 0 ≤ _), (by decide : 1541 + 0 ≤ _)⟩)
                        dsimp only [Pt.U, Pt.locs, Pt.cells, Pt.slots] at X7 l7 y7 z7 st7 hQ7
                        replace X7 := own_cst X7 l7 y7 z7 (k2 := 7) (n2 := 1541) rfl rfl
                        clear l7 y7 z7
                        obtain ⟨rfl, Nq7, eq7⟩ := hQ7
                        have NF7 := Fr.app N Nq7
                        refine own_goT st7 ?_
                        show own_Go _ _ _ _ (T7.setTop (mkF m 352 #[.val (.int p1), .val (.int p2), .val (.int p3), .val (.int p4), .val (.int p5), .val (.int p6), .val (.int a), .val (.int (((p6.toUInt32 >>> ((1 : Int32) &&& 31).toUInt32).toInt32) &&& (3 : Int32))), .val (.int b), .val (.int (((p6.toUInt32 >>> ((3 : Int32) &&& 31).toUInt32).toInt32) &&& (3 : Int32))), .val (.int q), .val (.int fa), .val (.int fb), .val (.int fr), .val (.ref ta), .val (.ref tb), .val (.ref b3), .val (.int (1 : Int32)), .val (own_m2 fa fb a b q ta tb), .val (.int (1 : Int32)), .val (own_m3 fr a q (own_m2 fa fb a b q ta tb)), .unset] [(own_ty tys ((own_v3 fa fb fr a.toNatClampNeg b.toNatClampNeg oa ob) q.toNatClampNeg))]))
                        refine own_go (fun _ kont => XS.aload X7.here hx rfl (hb hby at_352) rfl (own_m3R _ _ _ (own_m2R ..)) kont) ?_
                        show own_Go _ _ _ _ (T7.setTop (mkF m 354 #[.val (.int p1), .val (.int p2), .val (.int p3), .val (.int p4), .val (.int p5), .val (.int p6), .val (.int a), .val (.int (((p6.toUInt32 >>> ((1 : Int32) &&& 31).toUInt32).toInt32) &&& (3 : Int32))), .val (.int b), .val (.int (((p6.toUInt32 >>> ((3 : Int32) &&& 31).toUInt32).toInt32) &&& (3 : Int32))), .val (.int q), .val (.int fa), .val (.int fb), .val (.int fr), .val (.ref ta), .val (.ref tb), .val (.ref b3), .val (.int (1 : Int32)), .val (own_m2 fa fb a b q ta tb), .val (.int (1 : Int32)), .val (own_m3 fr a q (own_m2 fa fb a b q ta tb)), .unset] [(own_m3 fr a q (own_m2 fa fb a b q ta tb)), (own_ty tys ((own_v3 fa fb fr a.toNatClampNeg b.toNatClampNeg oa ob) q.toNatClampNeg))]))
                        refine own_go (fun _ kont => Jvm.RoadKit.acmp (g := (mkF m 354 #[.val (.int p1), .val (.int p2), .val (.int p3), .val (.int p4), .val (.int p5), .val (.int p6), .val (.int a), .val (.int (((p6.toUInt32 >>> ((1 : Int32) &&& 31).toUInt32).toInt32) &&& (3 : Int32))), .val (.int b), .val (.int (((p6.toUInt32 >>> ((3 : Int32) &&& 31).toUInt32).toInt32) &&& (3 : Int32))), .val (.int q), .val (.int fa), .val (.int fb), .val (.int fr), .val (.ref ta), .val (.ref tb), .val (.ref b3), .val (.int (1 : Int32)), .val (own_m2 fa fb a b q ta tb), .val (.int (1 : Int32)), .val (own_m3 fr a q (own_m2 fa fb a b q ta tb)), .unset] [(own_m3 fr a q (own_m2 fa fb a b q ta tb)), (own_ty tys ((own_v3 fa fb fr a.toNatClampNeg b.toNatClampNeg oa ob) q.toNatClampNeg))])) X7 hx rfl (own_tyR ..) (own_m3R _ _ _ (own_m2R ..)) (pc0 := 354) (pc' := 357) (same := true) rfl (hb hby at_354) rfl (decide_eq_true (own_E3 a1 b1 q1 T_ta T_tb)) (by decide) (by decide) kont) ?_
                        show own_Go _ _ _ _ (T7.setTop (mkF m 357 #[.val (.int p1), .val (.int p2), .val (.int p3), .val (.int p4), .val (.int p5), .val (.int p6), .val (.int a), .val (.int (((p6.toUInt32 >>> ((1 : Int32) &&& 31).toUInt32).toInt32) &&& (3 : Int32))), .val (.int b), .val (.int (((p6.toUInt32 >>> ((3 : Int32) &&& 31).toUInt32).toInt32) &&& (3 : Int32))), .val (.int q), .val (.int fa), .val (.int fb), .val (.int fr), .val (.ref ta), .val (.ref tb), .val (.ref b3), .val (.int (1 : Int32)), .val (own_m2 fa fb a b q ta tb), .val (.int (1 : Int32)), .val (own_m3 fr a q (own_m2 fa fb a b q ta tb)), .unset] []))
                        refine own_go (fun _ kont => XS.iconst X7.here hx rfl (hb hby at_357) kont) ?_
                        show own_Go _ _ _ _ (T7.setTop (mkF m 358 #[.val (.int p1), .val (.int p2), .val (.int p3), .val (.int p4), .val (.int p5), .val (.int p6), .val (.int a), .val (.int (((p6.toUInt32 >>> ((1 : Int32) &&& 31).toUInt32).toInt32) &&& (3 : Int32))), .val (.int b), .val (.int (((p6.toUInt32 >>> ((3 : Int32) &&& 31).toUInt32).toInt32) &&& (3 : Int32))), .val (.int q), .val (.int fa), .val (.int fb), .val (.int fr), .val (.ref ta), .val (.ref tb), .val (.ref b3), .val (.int (1 : Int32)), .val (own_m2 fa fb a b q ta tb), .val (.int (1 : Int32)), .val (own_m3 fr a q (own_m2 fa fb a b q ta tb)), .unset] [(.int (1 : Int32))]))
                        refine own_go (fun _ kont => XS.goto X7.here hx rfl (pc0 := 358) (pc' := 362) rfl (hb hby at_358) (by decide) (by decide) kont) ?_
                        show own_Go _ _ _ _ (T7.setTop (mkF m 362 #[.val (.int p1), .val (.int p2), .val (.int p3), .val (.int p4), .val (.int p5), .val (.int p6), .val (.int a), .val (.int (((p6.toUInt32 >>> ((1 : Int32) &&& 31).toUInt32).toInt32) &&& (3 : Int32))), .val (.int b), .val (.int (((p6.toUInt32 >>> ((3 : Int32) &&& 31).toUInt32).toInt32) &&& (3 : Int32))), .val (.int q), .val (.int fa), .val (.int fb), .val (.int fr), .val (.ref ta), .val (.ref tb), .val (.ref b3), .val (.int (1 : Int32)), .val (own_m2 fa fb a b q ta tb), .val (.int (1 : Int32)), .val (own_m3 fr a q (own_m2 fa fb a b q ta tb)), .unset] [(.int (1 : Int32))]))
                        refine own_go (fun _ kont => XS.istore X7.here hx rfl (hb hby at_362) rfl (l' := #[.val (.int p1), .val (.int p2), .val (.int p3), .val (.int p4), .val (.int p5), .val (.int p6), .val (.int a), .val (.int (((p6.toUInt32 >>> ((1 : Int32) &&& 31).toUInt32).toInt32) &&& (3 : Int32))), .val (.int b), .val (.int (((p6.toUInt32 >>> ((3 : Int32) &&& 31).toUInt32).toInt32) &&& (3 : Int32))), .val (.int q), .val (.int fa), .val (.int fb), .val (.int fr), .val (.ref ta), .val (.ref tb), .val (.ref b3), .val (.int (1 : Int32)), .val (own_m2 fa fb a b q ta tb), .val (.int (1 : Int32)), .val (own_m3 fr a q (own_m2 fa fb a b q ta tb)), .val (.int (1 : Int32))]) rfl kont) ?_
                        show own_Go _ _ _ _ (T7.setTop (mkF m 364 #[.val (.int p1), .val (.int p2), .val (.int p3), .val (.int p4), .val (.int p5), .val (.int p6), .val (.int a), .val (.int (((p6.toUInt32 >>> ((1 : Int32) &&& 31).toUInt32).toInt32) &&& (3 : Int32))), .val (.int b), .val (.int (((p6.toUInt32 >>> ((3 : Int32) &&& 31).toUInt32).toInt32) &&& (3 : Int32))), .val (.int q), .val (.int fa), .val (.int fb), .val (.int fr), .val (.ref ta), .val (.ref tb), .val (.ref b3), .val (.int (1 : Int32)), .val (own_m2 fa fb a b q ta tb), .val (.int (1 : Int32)), .val (own_m3 fr a q (own_m2 fa fb a b q ta tb)), .val (.int (1 : Int32))] []))
                        refine own_go (fun _ kont => XS.iload X7.here hx rfl (hb hby at_364) rfl kont) ?_
                        show own_Go _ _ _ _ (T7.setTop (mkF m 366 #[.val (.int p1), .val (.int p2), .val (.int p3), .val (.int p4), .val (.int p5), .val (.int p6), .val (.int a), .val (.int (((p6.toUInt32 >>> ((1 : Int32) &&& 31).toUInt32).toInt32) &&& (3 : Int32))), .val (.int b), .val (.int (((p6.toUInt32 >>> ((3 : Int32) &&& 31).toUInt32).toInt32) &&& (3 : Int32))), .val (.int q), .val (.int fa), .val (.int fb), .val (.int fr), .val (.ref ta), .val (.ref tb), .val (.ref b3), .val (.int (1 : Int32)), .val (own_m2 fa fb a b q ta tb), .val (.int (1 : Int32)), .val (own_m3 fr a q (own_m2 fa fb a b q ta tb)), .val (.int (1 : Int32))] [(.int (1 : Int32))]))
                        refine own_go (fun _ kont => XS.ifNo X7.here hx rfl (hb hby at_366) rfl ((if0 _ _).trans (feq (by decide)).1) kont) ?_
                        show own_Go _ _ _ _ (T7.setTop (mkF m 369 #[.val (.int p1), .val (.int p2), .val (.int p3), .val (.int p4), .val (.int p5), .val (.int p6), .val (.int a), .val (.int (((p6.toUInt32 >>> ((1 : Int32) &&& 31).toUInt32).toInt32) &&& (3 : Int32))), .val (.int b), .val (.int (((p6.toUInt32 >>> ((3 : Int32) &&& 31).toUInt32).toInt32) &&& (3 : Int32))), .val (.int q), .val (.int fa), .val (.int fb), .val (.int fr), .val (.ref ta), .val (.ref tb), .val (.ref b3), .val (.int (1 : Int32)), .val (own_m2 fa fb a b q ta tb), .val (.int (1 : Int32)), .val (own_m3 fr a q (own_m2 fa fb a b q ta tb)), .val (.int (1 : Int32))] []))
                        refine own_go (fun _ kont => XS.iload X7.here hx rfl (hb hby at_369) rfl kont) ?_
                        show own_Go _ _ _ _ (T7.setTop (mkF m 371 #[.val (.int p1), .val (.int p2), .val (.int p3), .val (.int p4), .val (.int p5), .val (.int p6), .val (.int a), .val (.int (((p6.toUInt32 >>> ((1 : Int32) &&& 31).toUInt32).toInt32) &&& (3 : Int32))), .val (.int b), .val (.int (((p6.toUInt32 >>> ((3 : Int32) &&& 31).toUInt32).toInt32) &&& (3 : Int32))), .val (.int q), .val (.int fa), .val (.int fb), .val (.int fr), .val (.ref ta), .val (.ref tb), .val (.ref b3), .val (.int (1 : Int32)), .val (own_m2 fa fb a b q ta tb), .val (.int (1 : Int32)), .val (own_m3 fr a q (own_m2 fa fb a b q ta tb)), .val (.int (1 : Int32))] [(.int (1 : Int32))]))
                        refine own_go (fun _ kont => XS.ifNo X7.here hx rfl (hb hby at_371) rfl ((if0 _ _).trans (feq (by decide)).1) kont) ?_
                        show own_Go _ _ _ _ (T7.setTop (mkF m 374 #[.val (.int p1), .val (.int p2), .val (.int p3), .val (.int p4), .val (.int p5), .val (.int p6), .val (.int a), .val (.int (((p6.toUInt32 >>> ((1 : Int32) &&& 31).toUInt32).toInt32) &&& (3 : Int32))), .val (.int b), .val (.int (((p6.toUInt32 >>> ((3 : Int32) &&& 31).toUInt32).toInt32) &&& (3 : Int32))), .val (.int q), .val (.int fa), .val (.int fb), .val (.int fr), .val (.ref ta), .val (.ref tb), .val (.ref b3), .val (.int (1 : Int32)), .val (own_m2 fa fb a b q ta tb), .val (.int (1 : Int32)), .val (own_m3 fr a q (own_m2 fa fb a b q ta tb)), .val (.int (1 : Int32))] []))
                        refine own_go (fun _ kont => XS.iload X7.here hx rfl (hb hby at_374) rfl kont) ?_
                        show own_Go _ _ _ _ (T7.setTop (mkF m 376 #[.val (.int p1), .val (.int p2), .val (.int p3), .val (.int p4), .val (.int p5), .val (.int p6), .val (.int a), .val (.int (((p6.toUInt32 >>> ((1 : Int32) &&& 31).toUInt32).toInt32) &&& (3 : Int32))), .val (.int b), .val (.int (((p6.toUInt32 >>> ((3 : Int32) &&& 31).toUInt32).toInt32) &&& (3 : Int32))), .val (.int q), .val (.int fa), .val (.int fb), .val (.int fr), .val (.ref ta), .val (.ref tb), .val (.ref b3), .val (.int (1 : Int32)), .val (own_m2 fa fb a b q ta tb), .val (.int (1 : Int32)), .val (own_m3 fr a q (own_m2 fa fb a b q ta tb)), .val (.int (1 : Int32))] [(.int (1 : Int32))]))
                        refine own_go (fun _ kont => XS.ifNo X7.here hx rfl (hb hby at_376) rfl ((if0 _ _).trans (feq (by decide)).1) kont) ?_
                        show own_Go _ _ _ _ (T7.setTop (mkF m 379 #[.val (.int p1), .val (.int p2), .val (.int p3), .val (.int p4), .val (.int p5), .val (.int p6), .val (.int a), .val (.int (((p6.toUInt32 >>> ((1 : Int32) &&& 31).toUInt32).toInt32) &&& (3 : Int32))), .val (.int b), .val (.int (((p6.toUInt32 >>> ((3 : Int32) &&& 31).toUInt32).toInt32) &&& (3 : Int32))), .val (.int q), .val (.int fa), .val (.int fb), .val (.int fr), .val (.ref ta), .val (.ref tb), .val (.ref b3), .val (.int (1 : Int32)), .val (own_m2 fa fb a b q ta tb), .val (.int (1 : Int32)), .val (own_m3 fr a q (own_m2 fa fb a b q ta tb)), .val (.int (1 : Int32))] []))
                        refine own_go (fun _ kont => XS.iconst X7.here hx rfl (hb hby at_379) kont) ?_
                        show own_Go _ _ _ _ (T7.setTop (mkF m 380 #[.val (.int p1), .val (.int p2), .val (.int p3), .val (.int p4), .val (.int p5), .val (.int p6), .val (.int a), .val (.int (((p6.toUInt32 >>> ((1 : Int32) &&& 31).toUInt32).toInt32) &&& (3 : Int32))), .val (.int b), .val (.int (((p6.toUInt32 >>> ((3 : Int32) &&& 31).toUInt32).toInt32) &&& (3 : Int32))), .val (.int q), .val (.int fa), .val (.int fb), .val (.int fr), .val (.ref ta), .val (.ref tb), .val (.ref b3), .val (.int (1 : Int32)), .val (own_m2 fa fb a b q ta tb), .val (.int (1 : Int32)), .val (own_m3 fr a q (own_m2 fa fb a b q ta tb)), .val (.int (1 : Int32))] [(.int (1 : Int32))]))
                        refine own_go (fun _ kont => XS.goto X7.here hx rfl (pc0 := 380) (pc' := 384) rfl (hb hby at_380) (by decide) (by decide) kont) ?_
                        show own_Go _ _ _ _ (T7.setTop (mkF m 384 #[.val (.int p1), .val (.int p2), .val (.int p3), .val (.int p4), .val (.int p5), .val (.int p6), .val (.int a), .val (.int (((p6.toUInt32 >>> ((1 : Int32) &&& 31).toUInt32).toInt32) &&& (3 : Int32))), .val (.int b), .val (.int (((p6.toUInt32 >>> ((3 : Int32) &&& 31).toUInt32).toInt32) &&& (3 : Int32))), .val (.int q), .val (.int fa), .val (.int fb), .val (.int fr), .val (.ref ta), .val (.ref tb), .val (.ref b3), .val (.int (1 : Int32)), .val (own_m2 fa fb a b q ta tb), .val (.int (1 : Int32)), .val (own_m3 fr a q (own_m2 fa fb a b q ta tb)), .val (.int (1 : Int32))] [(.int (1 : Int32))]))
                        refine own_ret X7 hlk (v := some (.int (1 : Int32))) (fun h => by rw [Bd.returns] at h; cases h) (fun fs hr => retN X7 hx (t := .boolean) Bd.returns (by simp) (hb hby at_384) hr) ?_ (by decide) (by decide)
                        try rw [eq7]
                        exact ⟨rfl, NF7⟩
                      by_cases hoA : fr = (0 : Int32)
                      · have _h := hoA
                        refine own_go (fun _ kont => XS.ifYes X.here hx rfl (pc0 := 327) (pc' := 341) rfl (hb hby at_327) rfl ((if0 _ _).trans (teq hoA).1) (by decide) (by decide) kont) ?_
                        show own_Go _ _ _ _ (T.setTop (mkF m 341 #[.val (.int p1), .val (.int p2), .val (.int p3), .val (.int p4), .val (.int p5), .val (.int p6), .val (.int a), .val (.int (((p6.toUInt32 >>> ((1 : Int32) &&& 31).toUInt32).toInt32) &&& (3 : Int32))), .val (.int b), .val (.int (((p6.toUInt32 >>> ((3 : Int32) &&& 31).toUInt32).toInt32) &&& (3 : Int32))), .val (.int q), .val (.int fa), .val (.int fb), .val (.int fr), .val (.ref ta), .val (.ref tb), .val (.ref b3), .val (.int (1 : Int32)), .val (own_m2 fa fb a b q ta tb), .val (.int (1 : Int32)), .unset, .unset] []))
                        refine own_go (fun _ kont => XS.aload X.here hx rfl (hb hby at_341) rfl (own_m2R ..) kont) ?_
                        show own_Go _ _ _ _ (T.setTop (mkF m 343 #[.val (.int p1), .val (.int p2), .val (.int p3), .val (.int p4), .val (.int p5), .val (.int p6), .val (.int a), .val (.int (((p6.toUInt32 >>> ((1 : Int32) &&& 31).toUInt32).toInt32) &&& (3 : Int32))), .val (.int b), .val (.int (((p6.toUInt32 >>> ((3 : Int32) &&& 31).toUInt32).toInt32) &&& (3 : Int32))), .val (.int q), .val (.int fa), .val (.int fb), .val (.int fr), .val (.ref ta), .val (.ref tb), .val (.ref b3), .val (.int (1 : Int32)), .val (own_m2 fa fb a b q ta tb), .val (.int (1 : Int32)), .unset, .unset] [(own_m2 fa fb a b q ta tb)]))
                        rw [show (own_m3 fr a q (own_m2 fa fb a b q ta tb)) = (own_m2 fa fb a b q ta tb) from if_pos hoA] at J343
                        exact J343
                      · have _h := hoA
                        refine own_go (fun _ kont => XS.ifNo X.here hx rfl (hb hby at_327) rfl ((if0 _ _).trans (feq hoA).1) kont) ?_
                        show own_Go _ _ _ _ (T.setTop (mkF m 330 #[.val (.int p1), .val (.int p2), .val (.int p3), .val (.int p4), .val (.int p5), .val (.int p6), .val (.int a), .val (.int (((p6.toUInt32 >>> ((1 : Int32) &&& 31).toUInt32).toInt32) &&& (3 : Int32))), .val (.int b), .val (.int (((p6.toUInt32 >>> ((3 : Int32) &&& 31).toUInt32).toInt32) &&& (3 : Int32))), .val (.int q), .val (.int fa), .val (.int fb), .val (.int fr), .val (.ref ta), .val (.ref tb), .val (.ref b3), .val (.int (1 : Int32)), .val (own_m2 fa fb a b q ta tb), .val (.int (1 : Int32)), .unset, .unset] []))
                        refine own_go (fun _ kont => XS.iload X.here hx rfl (hb hby at_330) rfl kont) ?_
                        show own_Go _ _ _ _ (T.setTop (mkF m 332 #[.val (.int p1), .val (.int p2), .val (.int p3), .val (.int p4), .val (.int p5), .val (.int p6), .val (.int a), .val (.int (((p6.toUInt32 >>> ((1 : Int32) &&& 31).toUInt32).toInt32) &&& (3 : Int32))), .val (.int b), .val (.int (((p6.toUInt32 >>> ((3 : Int32) &&& 31).toUInt32).toInt32) &&& (3 : Int32))), .val (.int q), .val (.int fa), .val (.int fb), .val (.int fr), .val (.ref ta), .val (.ref tb), .val (.ref b3), .val (.int (1 : Int32)), .val (own_m2 fa fb a b q ta tb), .val (.int (1 : Int32)), .unset, .unset] [(.int q)]))
                        refine own_go (fun _ kont => XS.iload X.here hx rfl (hb hby at_332) rfl kont) ?_
                        show own_Go _ _ _ _ (T.setTop (mkF m 334 #[.val (.int p1), .val (.int p2), .val (.int p3), .val (.int p4), .val (.int p5), .val (.int p6), .val (.int a), .val (.int (((p6.toUInt32 >>> ((1 : Int32) &&& 31).toUInt32).toInt32) &&& (3 : Int32))), .val (.int b), .val (.int (((p6.toUInt32 >>> ((3 : Int32) &&& 31).toUInt32).toInt32) &&& (3 : Int32))), .val (.int q), .val (.int fa), .val (.int fb), .val (.int fr), .val (.ref ta), .val (.ref tb), .val (.ref b3), .val (.int (1 : Int32)), .val (own_m2 fa fb a b q ta tb), .val (.int (1 : Int32)), .unset, .unset] [(.int a), (.int q)]))
                        by_cases hoB : q = a
                        · have _h := hoB
                          refine own_go (fun _ kont => XS.icmpNo X.here hx rfl (hb hby at_334) rfl (teq hoB).2 kont) ?_
                          show own_Go _ _ _ _ (T.setTop (mkF m 337 #[.val (.int p1), .val (.int p2), .val (.int p3), .val (.int p4), .val (.int p5), .val (.int p6), .val (.int a), .val (.int (((p6.toUInt32 >>> ((1 : Int32) &&& 31).toUInt32).toInt32) &&& (3 : Int32))), .val (.int b), .val (.int (((p6.toUInt32 >>> ((3 : Int32) &&& 31).toUInt32).toInt32) &&& (3 : Int32))), .val (.int q), .val (.int fa), .val (.int fb), .val (.int fr), .val (.ref ta), .val (.ref tb), .val (.ref b3), .val (.int (1 : Int32)), .val (own_m2 fa fb a b q ta tb), .val (.int (1 : Int32)), .unset, .unset] []))
                          refine own_go (fun _ kont => XS.aconstNull X.here hx rfl (hb hby at_337) kont) ?_
                          show own_Go _ _ _ _ (T.setTop (mkF m 338 #[.val (.int p1), .val (.int p2), .val (.int p3), .val (.int p4), .val (.int p5), .val (.int p6), .val (.int a), .val (.int (((p6.toUInt32 >>> ((1 : Int32) &&& 31).toUInt32).toInt32) &&& (3 : Int32))), .val (.int b), .val (.int (((p6.toUInt32 >>> ((3 : Int32) &&& 31).toUInt32).toInt32) &&& (3 : Int32))), .val (.int q), .val (.int fa), .val (.int fb), .val (.int fr), .val (.ref ta), .val (.ref tb), .val (.ref b3), .val (.int (1 : Int32)), .val (own_m2 fa fb a b q ta tb), .val (.int (1 : Int32)), .unset, .unset] [.null]))
                          refine own_go (fun _ kont => XS.goto X.here hx rfl (pc0 := 338) (pc' := 343) rfl (hb hby at_338) (by decide) (by decide) kont) ?_
                          show own_Go _ _ _ _ (T.setTop (mkF m 343 #[.val (.int p1), .val (.int p2), .val (.int p3), .val (.int p4), .val (.int p5), .val (.int p6), .val (.int a), .val (.int (((p6.toUInt32 >>> ((1 : Int32) &&& 31).toUInt32).toInt32) &&& (3 : Int32))), .val (.int b), .val (.int (((p6.toUInt32 >>> ((3 : Int32) &&& 31).toUInt32).toInt32) &&& (3 : Int32))), .val (.int q), .val (.int fa), .val (.int fb), .val (.int fr), .val (.ref ta), .val (.ref tb), .val (.ref b3), .val (.int (1 : Int32)), .val (own_m2 fa fb a b q ta tb), .val (.int (1 : Int32)), .unset, .unset] [.null]))
                          rw [show (own_m3 fr a q (own_m2 fa fb a b q ta tb)) = .null from (if_neg hoA).trans (if_pos hoB)] at J343
                          exact J343
                        · have _h := hoB
                          refine own_go (fun _ kont => XS.icmpYes X.here hx rfl (pc0 := 334) (pc' := 341) rfl (hb hby at_334) rfl (feq hoB).2 (by decide) (by decide) kont) ?_
                          show own_Go _ _ _ _ (T.setTop (mkF m 341 #[.val (.int p1), .val (.int p2), .val (.int p3), .val (.int p4), .val (.int p5), .val (.int p6), .val (.int a), .val (.int (((p6.toUInt32 >>> ((1 : Int32) &&& 31).toUInt32).toInt32) &&& (3 : Int32))), .val (.int b), .val (.int (((p6.toUInt32 >>> ((3 : Int32) &&& 31).toUInt32).toInt32) &&& (3 : Int32))), .val (.int q), .val (.int fa), .val (.int fb), .val (.int fr), .val (.ref ta), .val (.ref tb), .val (.ref b3), .val (.int (1 : Int32)), .val (own_m2 fa fb a b q ta tb), .val (.int (1 : Int32)), .unset, .unset] []))
                          refine own_go (fun _ kont => XS.aload X.here hx rfl (hb hby at_341) rfl (own_m2R ..) kont) ?_
                          show own_Go _ _ _ _ (T.setTop (mkF m 343 #[.val (.int p1), .val (.int p2), .val (.int p3), .val (.int p4), .val (.int p5), .val (.int p6), .val (.int a), .val (.int (((p6.toUInt32 >>> ((1 : Int32) &&& 31).toUInt32).toInt32) &&& (3 : Int32))), .val (.int b), .val (.int (((p6.toUInt32 >>> ((3 : Int32) &&& 31).toUInt32).toInt32) &&& (3 : Int32))), .val (.int q), .val (.int fa), .val (.int fb), .val (.int fr), .val (.ref ta), .val (.ref tb), .val (.ref b3), .val (.int (1 : Int32)), .val (own_m2 fa fb a b q ta tb), .val (.int (1 : Int32)), .unset, .unset] [(own_m2 fa fb a b q ta tb)]))
                          rw [show (own_m3 fr a q (own_m2 fa fb a b q ta tb)) = (own_m2 fa fb a b q ta tb) from (if_neg hoA).trans (if_neg hoB)] at J343
                          exact J343
                    by_cases hfr : fr = (0 : Int32)
                    · have _h := hfr
                      refine own_go (fun _ kont => XS.ifYes X6.here hx rfl (pc0 := 315) (pc' := 325) rfl (hb hby at_315) rfl ((if0 _ _).trans (teq hfr).1) (by decide) (by decide) kont) ?_
                      show own_Go _ _ _ _ (T6.setTop (mkF m 325 #[.val (.int p1), .val (.int p2), .val (.int p3), .val (.int p4), .val (.int p5), .val (.int p6), .val (.int a), .val (.int (((p6.toUInt32 >>> ((1 : Int32) &&& 31).toUInt32).toInt32) &&& (3 : Int32))), .val (.int b), .val (.int (((p6.toUInt32 >>> ((3 : Int32) &&& 31).toUInt32).toInt32) &&& (3 : Int32))), .val (.int q), .val (.int fa), .val (.int fb), .val (.int fr), .val (.ref ta), .val (.ref tb), .val (.ref b3), .val (.int (1 : Int32)), .val (own_m2 fa fb a b q ta tb), .val (.int (1 : Int32)), .unset, .unset] []))
                      exact J325 _ _ X6 NF6 _ eq6 O Z0 _ _ _ (by rw [show (own_v3 fa fb fr a.toNatClampNeg b.toNatClampNeg oa ob) = (own_v2 fa fb a.toNatClampNeg b.toNatClampNeg oa ob) from if_pos hfr]; exact M)
                    · have _h := hfr
                      refine own_go (fun _ kont => XS.ifNo X6.here hx rfl (hb hby at_315) rfl ((if0 _ _).trans (feq hfr).1) kont) ?_
                      show own_Go _ _ _ _ (T6.setTop (mkF m 318 #[.val (.int p1), .val (.int p2), .val (.int p3), .val (.int p4), .val (.int p5), .val (.int p6), .val (.int a), .val (.int (((p6.toUInt32 >>> ((1 : Int32) &&& 31).toUInt32).toInt32) &&& (3 : Int32))), .val (.int b), .val (.int (((p6.toUInt32 >>> ((3 : Int32) &&& 31).toUInt32).toInt32) &&& (3 : Int32))), .val (.int q), .val (.int fa), .val (.int fb), .val (.int fr), .val (.ref ta), .val (.ref tb), .val (.ref b3), .val (.int (1 : Int32)), .val (own_m2 fa fb a b q ta tb), .val (.int (1 : Int32)), .unset, .unset] []))
                      refine own_go (fun _ kont => XS.aload X6.here hx rfl (hb hby at_318) rfl rfl kont) ?_
                      show own_Go _ _ _ _ (T6.setTop (mkF m 320 #[.val (.int p1), .val (.int p2), .val (.int p3), .val (.int p4), .val (.int p5), .val (.int p6), .val (.int a), .val (.int (((p6.toUInt32 >>> ((1 : Int32) &&& 31).toUInt32).toInt32) &&& (3 : Int32))), .val (.int b), .val (.int (((p6.toUInt32 >>> ((3 : Int32) &&& 31).toUInt32).toInt32) &&& (3 : Int32))), .val (.int q), .val (.int fa), .val (.int fb), .val (.int fr), .val (.ref ta), .val (.ref tb), .val (.ref b3), .val (.int (1 : Int32)), .val (own_m2 fa fb a b q ta tb), .val (.int (1 : Int32)), .unset, .unset] [(.ref b3)]))
                      refine own_go (fun _ kont => XS.iload X6.here hx rfl (hb hby at_320) rfl kont) ?_
                      show own_Go _ _ _ _ (T6.setTop (mkF m 322 #[.val (.int p1), .val (.int p2), .val (.int p3), .val (.int p4), .val (.int p5), .val (.int p6), .val (.int a), .val (.int (((p6.toUInt32 >>> ((1 : Int32) &&& 31).toUInt32).toInt32) &&& (3 : Int32))), .val (.int b), .val (.int (((p6.toUInt32 >>> ((3 : Int32) &&& 31).toUInt32).toInt32) &&& (3 : Int32))), .val (.int q), .val (.int fa), .val (.int fb), .val (.int fr), .val (.ref ta), .val (.ref tb), .val (.ref b3), .val (.int (1 : Int32)), .val (own_m2 fa fb a b q ta tb), .val (.int (1 : Int32)), .unset, .unset] [(.int a), (.ref b3)]))
                      obtain ⟨cq8, kq8, q8a, q8b, q8c⟩ := isOf hZ eq6 (own_Exa_St M)
                      obtain ⟨_, _, ⟨T8, L8, k8, n8⟩, -, X8, ⟨Lc8, hQ8, l8, y8, z8⟩, st8⟩ := X6.virtualBack hx (y := (⟨"com/example/utopic/utopic/broker/MessageIds", "remove", "(I)V"⟩ : MethodName)) (z := (⟨"com/example/utopic/utopic/broker/MessageIds", "remove", "(I)V"⟩ : MethodName)) hown (mvT hZ (hw _ (List.mem_of_getElem? (i := 64) rfl))) (mvT hZ (hw _ (List.mem_of_getElem? (i := 65) rfl))) (notFace_of_selects (args := #[]) (mvT hZ (hw _ (List.mem_of_getElem? (i := 67) rfl)))) (mvT hZ (hw _ (List.mem_of_getElem? (i := 67) rfl))) (mvT hZ (hw _ (List.mem_of_getElem? (i := 66) rfl))) (by decide) (own_back (W := 0) (own_rmR l Z a0 hw b3 a _ (own_v2 fa fb a.toNatClampNeg b.toNatClampNeg oa ob) _ _ hH n0 Z0 M a1 a2 ge_b3 O) hZ (hw _ (List.mem_of_getElem? (i := 68) rfl)) (hw _ (List.mem_of_getElem? (i := 13) rfl)) (by decide) (by decide)) q8a q8c (g := (mkF m 322 #[.val (.int p1), .val (.int p2), .val (.int p3), .val (.int p4), .val (.int p5), .val (.int p6), .val (.int a), .val (.int (((p6.toUInt32 >>> ((1 : Int32) &&& 31).toUInt32).toInt32) &&& (3 : Int32))), .val (.int b), .val (.int (((p6.toUInt32 >>> ((3 : Int32) &&& 31).toUInt32).toInt32) &&& (3 : Int32))), .val (.int q), .val (.int fa), .val (.int fb), .val (.int fr), .val (.ref ta), .val (.ref tb), .val (.ref b3), .val (.int (1 : Int32)), .val (own_m2 fa fb a b q ta tb), .val (.int (1 : Int32)), .unset, .unset] [(.int a), (.ref b3)])) rfl (by rw [hml]; rfl) (Steps.refl _) (argsL := [(.int a)]) (rest := []) (lenOf own_pd0 rfl) rfl (by show 2 * 0 + _ ≤ _; exact Nat.le_of_eq rfl) (hb hby at_322) (fun _ _ => ⟨rfl, eq6, (by decide : 7 + 0 ≤ _), (by decide : 1541 + 0 ≤ _)⟩)
                      dsimp only [Pt.U, Pt.locs, Pt.cells, Pt.slots] at X8 l8 y8 z8 st8 hQ8
                      replace X8 := own_cst X8 l8 y8 z8 (k2 := 7) (n2 := 1541) rfl rfl
                      clear l8 y8 z8
                      obtain ⟨S8, held8, size8, rfl, Nq8, O8, hsq8, M8⟩ := hQ8
                      have NF8 := Fr.app NF6 Nq8
                      refine own_goT st8 ?_
                      have O := O8
                      have Z0 := Nat.le_trans Z0 hsq8
                      show own_Go _ _ _ _ (T8.setTop (mkF m 325 #[.val (.int p1), .val (.int p2), .val (.int p3), .val (.int p4), .val (.int p5), .val (.int p6), .val (.int a), .val (.int (((p6.toUInt32 >>> ((1 : Int32) &&& 31).toUInt32).toInt32) &&& (3 : Int32))), .val (.int b), .val (.int (((p6.toUInt32 >>> ((3 : Int32) &&& 31).toUInt32).toInt32) &&& (3 : Int32))), .val (.int q), .val (.int fa), .val (.int fb), .val (.int fr), .val (.ref ta), .val (.ref tb), .val (.ref b3), .val (.int (1 : Int32)), .val (own_m2 fa fb a b q ta tb), .val (.int (1 : Int32)), .unset, .unset] []))
                      exact J325 _ _ X8 NF8 _ rfl O Z0 _ _ _ (by rw [show (own_v3 fa fb fr a.toNatClampNeg b.toNatClampNeg oa ob) = own_set (own_v2 fa fb a.toNatClampNeg b.toNatClampNeg oa ob) a.toNatClampNeg 0 from if_neg hfr]; exact M8)
                  by_cases hnA : fb = (0 : Int32)
                  · have _h := hnA
                    refine own_go (fun _ kont => XS.ifYes X.here hx rfl (pc0 := 280) (pc' := 294) rfl (hb hby at_280) rfl ((if0 _ _).trans (teq hnA).1) (by decide) (by decide) kont) ?_
                    show own_Go _ _ _ _ (T.setTop (mkF m 294 #[.val (.int p1), .val (.int p2), .val (.int p3), .val (.int p4), .val (.int p5), .val (.int p6), .val (.int a), .val (.int (((p6.toUInt32 >>> ((1 : Int32) &&& 31).toUInt32).toInt32) &&& (3 : Int32))), .val (.int b), .val (.int (((p6.toUInt32 >>> ((3 : Int32) &&& 31).toUInt32).toInt32) &&& (3 : Int32))), .val (.int q), .val (.int fa), .val (.int fb), .val (.int fr), .val (.ref ta), .val (.ref tb), .val (.ref b3), .val (.int (1 : Int32)), .val (own_m1 fa a q ta), .unset, .unset, .unset] []))
                    rw [show (own_m2 fa fb a b q ta tb) = (own_m1 fa a q ta) from if_pos hnA] at J294
                    exact J294
                  · have _h := hnA
                    refine own_go (fun _ kont => XS.ifNo X.here hx rfl (hb hby at_280) rfl ((if0 _ _).trans (feq hnA).1) kont) ?_
                    show own_Go _ _ _ _ (T.setTop (mkF m 283 #[.val (.int p1), .val (.int p2), .val (.int p3), .val (.int p4), .val (.int p5), .val (.int p6), .val (.int a), .val (.int (((p6.toUInt32 >>> ((1 : Int32) &&& 31).toUInt32).toInt32) &&& (3 : Int32))), .val (.int b), .val (.int (((p6.toUInt32 >>> ((3 : Int32) &&& 31).toUInt32).toInt32) &&& (3 : Int32))), .val (.int q), .val (.int fa), .val (.int fb), .val (.int fr), .val (.ref ta), .val (.ref tb), .val (.ref b3), .val (.int (1 : Int32)), .val (own_m1 fa a q ta), .unset, .unset, .unset] []))
                    refine own_go (fun _ kont => XS.iload X.here hx rfl (hb hby at_283) rfl kont) ?_
                    show own_Go _ _ _ _ (T.setTop (mkF m 285 #[.val (.int p1), .val (.int p2), .val (.int p3), .val (.int p4), .val (.int p5), .val (.int p6), .val (.int a), .val (.int (((p6.toUInt32 >>> ((1 : Int32) &&& 31).toUInt32).toInt32) &&& (3 : Int32))), .val (.int b), .val (.int (((p6.toUInt32 >>> ((3 : Int32) &&& 31).toUInt32).toInt32) &&& (3 : Int32))), .val (.int q), .val (.int fa), .val (.int fb), .val (.int fr), .val (.ref ta), .val (.ref tb), .val (.ref b3), .val (.int (1 : Int32)), .val (own_m1 fa a q ta), .unset, .unset, .unset] [(.int q)]))
                    refine own_go (fun _ kont => XS.iload X.here hx rfl (hb hby at_285) rfl kont) ?_
                    show own_Go _ _ _ _ (T.setTop (mkF m 287 #[.val (.int p1), .val (.int p2), .val (.int p3), .val (.int p4), .val (.int p5), .val (.int p6), .val (.int a), .val (.int (((p6.toUInt32 >>> ((1 : Int32) &&& 31).toUInt32).toInt32) &&& (3 : Int32))), .val (.int b), .val (.int (((p6.toUInt32 >>> ((3 : Int32) &&& 31).toUInt32).toInt32) &&& (3 : Int32))), .val (.int q), .val (.int fa), .val (.int fb), .val (.int fr), .val (.ref ta), .val (.ref tb), .val (.ref b3), .val (.int (1 : Int32)), .val (own_m1 fa a q ta), .unset, .unset, .unset] [(.int b), (.int q)]))
                    by_cases hnB : q = b
                    · have _h := hnB
                      refine own_go (fun _ kont => XS.icmpNo X.here hx rfl (hb hby at_287) rfl (teq hnB).2 kont) ?_
                      show own_Go _ _ _ _ (T.setTop (mkF m 290 #[.val (.int p1), .val (.int p2), .val (.int p3), .val (.int p4), .val (.int p5), .val (.int p6), .val (.int a), .val (.int (((p6.toUInt32 >>> ((1 : Int32) &&& 31).toUInt32).toInt32) &&& (3 : Int32))), .val (.int b), .val (.int (((p6.toUInt32 >>> ((3 : Int32) &&& 31).toUInt32).toInt32) &&& (3 : Int32))), .val (.int q), .val (.int fa), .val (.int fb), .val (.int fr), .val (.ref ta), .val (.ref tb), .val (.ref b3), .val (.int (1 : Int32)), .val (own_m1 fa a q ta), .unset, .unset, .unset] []))
                      refine own_go (fun _ kont => XS.aload X.here hx rfl (hb hby at_290) rfl rfl kont) ?_
                      show own_Go _ _ _ _ (T.setTop (mkF m 292 #[.val (.int p1), .val (.int p2), .val (.int p3), .val (.int p4), .val (.int p5), .val (.int p6), .val (.int a), .val (.int (((p6.toUInt32 >>> ((1 : Int32) &&& 31).toUInt32).toInt32) &&& (3 : Int32))), .val (.int b), .val (.int (((p6.toUInt32 >>> ((3 : Int32) &&& 31).toUInt32).toInt32) &&& (3 : Int32))), .val (.int q), .val (.int fa), .val (.int fb), .val (.int fr), .val (.ref ta), .val (.ref tb), .val (.ref b3), .val (.int (1 : Int32)), .val (own_m1 fa a q ta), .unset, .unset, .unset] [(.ref tb)]))
                      refine own_go (fun _ kont => XS.astoreS X.here hx rfl (hb hby at_292) rfl rfl (Jvm.Free.XT.cat1 rfl) rfl (Jvm.Free.XT.slot1 (own_m1R ..)) kont) ?_
                      show own_Go _ _ _ _ (T.setTop (mkF m 294 #[.val (.int p1), .val (.int p2), .val (.int p3), .val (.int p4), .val (.int p5), .val (.int p6), .val (.int a), .val (.int (((p6.toUInt32 >>> ((1 : Int32) &&& 31).toUInt32).toInt32) &&& (3 : Int32))), .val (.int b), .val (.int (((p6.toUInt32 >>> ((3 : Int32) &&& 31).toUInt32).toInt32) &&& (3 : Int32))), .val (.int q), .val (.int fa), .val (.int fb), .val (.int fr), .val (.ref ta), .val (.ref tb), .val (.ref b3), .val (.int (1 : Int32)), .val (.ref tb), .unset, .unset, .unset] []))
                      rw [show (own_m2 fa fb a b q ta tb) = (.ref tb) from (if_neg hnA).trans (if_pos hnB)] at J294
                      exact J294
                    · have _h := hnB
                      refine own_go (fun _ kont => XS.icmpYes X.here hx rfl (pc0 := 287) (pc' := 294) rfl (hb hby at_287) rfl (feq hnB).2 (by decide) (by decide) kont) ?_
                      show own_Go _ _ _ _ (T.setTop (mkF m 294 #[.val (.int p1), .val (.int p2), .val (.int p3), .val (.int p4), .val (.int p5), .val (.int p6), .val (.int a), .val (.int (((p6.toUInt32 >>> ((1 : Int32) &&& 31).toUInt32).toInt32) &&& (3 : Int32))), .val (.int b), .val (.int (((p6.toUInt32 >>> ((3 : Int32) &&& 31).toUInt32).toInt32) &&& (3 : Int32))), .val (.int q), .val (.int fa), .val (.int fb), .val (.int fr), .val (.ref ta), .val (.ref tb), .val (.ref b3), .val (.int (1 : Int32)), .val (own_m1 fa a q ta), .unset, .unset, .unset] []))
                      rw [show (own_m2 fa fb a b q ta tb) = (own_m1 fa a q ta) from (if_neg hnA).trans (if_neg hnB)] at J294
                      exact J294
                by_cases hmA : fa = (0 : Int32)
                · have _h := hmA
                  refine own_go (fun _ kont => XS.ifYes X.here hx rfl (pc0 := 264) (pc' := 278) rfl (hb hby at_264) rfl ((if0 _ _).trans (teq hmA).1) (by decide) (by decide) kont) ?_
                  show own_Go _ _ _ _ (T.setTop (mkF m 278 #[.val (.int p1), .val (.int p2), .val (.int p3), .val (.int p4), .val (.int p5), .val (.int p6), .val (.int a), .val (.int (((p6.toUInt32 >>> ((1 : Int32) &&& 31).toUInt32).toInt32) &&& (3 : Int32))), .val (.int b), .val (.int (((p6.toUInt32 >>> ((3 : Int32) &&& 31).toUInt32).toInt32) &&& (3 : Int32))), .val (.int q), .val (.int fa), .val (.int fb), .val (.int fr), .val (.ref ta), .val (.ref tb), .val (.ref b3), .val (.int (1 : Int32)), .val .null, .unset, .unset, .unset] []))
                  rw [show (own_m1 fa a q ta) = .null from if_pos hmA] at J278
                  exact J278
                · have _h := hmA
                  refine own_go (fun _ kont => XS.ifNo X.here hx rfl (hb hby at_264) rfl ((if0 _ _).trans (feq hmA).1) kont) ?_
                  show own_Go _ _ _ _ (T.setTop (mkF m 267 #[.val (.int p1), .val (.int p2), .val (.int p3), .val (.int p4), .val (.int p5), .val (.int p6), .val (.int a), .val (.int (((p6.toUInt32 >>> ((1 : Int32) &&& 31).toUInt32).toInt32) &&& (3 : Int32))), .val (.int b), .val (.int (((p6.toUInt32 >>> ((3 : Int32) &&& 31).toUInt32).toInt32) &&& (3 : Int32))), .val (.int q), .val (.int fa), .val (.int fb), .val (.int fr), .val (.ref ta), .val (.ref tb), .val (.ref b3), .val (.int (1 : Int32)), .val .null, .unset, .unset, .unset] []))
                  refine own_go (fun _ kont => XS.iload X.here hx rfl (hb hby at_267) rfl kont) ?_
                  show own_Go _ _ _ _ (T.setTop (mkF m 269 #[.val (.int p1), .val (.int p2), .val (.int p3), .val (.int p4), .val (.int p5), .val (.int p6), .val (.int a), .val (.int (((p6.toUInt32 >>> ((1 : Int32) &&& 31).toUInt32).toInt32) &&& (3 : Int32))), .val (.int b), .val (.int (((p6.toUInt32 >>> ((3 : Int32) &&& 31).toUInt32).toInt32) &&& (3 : Int32))), .val (.int q), .val (.int fa), .val (.int fb), .val (.int fr), .val (.ref ta), .val (.ref tb), .val (.ref b3), .val (.int (1 : Int32)), .val .null, .unset, .unset, .unset] [(.int q)]))
                  refine own_go (fun _ kont => XS.iload X.here hx rfl (hb hby at_269) rfl kont) ?_
                  show own_Go _ _ _ _ (T.setTop (mkF m 271 #[.val (.int p1), .val (.int p2), .val (.int p3), .val (.int p4), .val (.int p5), .val (.int p6), .val (.int a), .val (.int (((p6.toUInt32 >>> ((1 : Int32) &&& 31).toUInt32).toInt32) &&& (3 : Int32))), .val (.int b), .val (.int (((p6.toUInt32 >>> ((3 : Int32) &&& 31).toUInt32).toInt32) &&& (3 : Int32))), .val (.int q), .val (.int fa), .val (.int fb), .val (.int fr), .val (.ref ta), .val (.ref tb), .val (.ref b3), .val (.int (1 : Int32)), .val .null, .unset, .unset, .unset] [(.int a), (.int q)]))
                  by_cases hmB : q = a
                  · have _h := hmB
                    refine own_go (fun _ kont => XS.icmpNo X.here hx rfl (hb hby at_271) rfl (teq hmB).2 kont) ?_
                    show own_Go _ _ _ _ (T.setTop (mkF m 274 #[.val (.int p1), .val (.int p2), .val (.int p3), .val (.int p4), .val (.int p5), .val (.int p6), .val (.int a), .val (.int (((p6.toUInt32 >>> ((1 : Int32) &&& 31).toUInt32).toInt32) &&& (3 : Int32))), .val (.int b), .val (.int (((p6.toUInt32 >>> ((3 : Int32) &&& 31).toUInt32).toInt32) &&& (3 : Int32))), .val (.int q), .val (.int fa), .val (.int fb), .val (.int fr), .val (.ref ta), .val (.ref tb), .val (.ref b3), .val (.int (1 : Int32)), .val .null, .unset, .unset, .unset] []))
                    refine own_go (fun _ kont => XS.aload X.here hx rfl (hb hby at_274) rfl rfl kont) ?_
                    show own_Go _ _ _ _ (T.setTop (mkF m 276 #[.val (.int p1), .val (.int p2), .val (.int p3), .val (.int p4), .val (.int p5), .val (.int p6), .val (.int a), .val (.int (((p6.toUInt32 >>> ((1 : Int32) &&& 31).toUInt32).toInt32) &&& (3 : Int32))), .val (.int b), .val (.int (((p6.toUInt32 >>> ((3 : Int32) &&& 31).toUInt32).toInt32) &&& (3 : Int32))), .val (.int q), .val (.int fa), .val (.int fb), .val (.int fr), .val (.ref ta), .val (.ref tb), .val (.ref b3), .val (.int (1 : Int32)), .val .null, .unset, .unset, .unset] [(.ref ta)]))
                    refine own_go (fun _ kont => XS.astore X.here hx rfl (hb hby at_276) rfl rfl (l' := #[.val (.int p1), .val (.int p2), .val (.int p3), .val (.int p4), .val (.int p5), .val (.int p6), .val (.int a), .val (.int (((p6.toUInt32 >>> ((1 : Int32) &&& 31).toUInt32).toInt32) &&& (3 : Int32))), .val (.int b), .val (.int (((p6.toUInt32 >>> ((3 : Int32) &&& 31).toUInt32).toInt32) &&& (3 : Int32))), .val (.int q), .val (.int fa), .val (.int fb), .val (.int fr), .val (.ref ta), .val (.ref tb), .val (.ref b3), .val (.int (1 : Int32)), .val (.ref ta), .unset, .unset, .unset]) rfl kont) ?_
                    show own_Go _ _ _ _ (T.setTop (mkF m 278 #[.val (.int p1), .val (.int p2), .val (.int p3), .val (.int p4), .val (.int p5), .val (.int p6), .val (.int a), .val (.int (((p6.toUInt32 >>> ((1 : Int32) &&& 31).toUInt32).toInt32) &&& (3 : Int32))), .val (.int b), .val (.int (((p6.toUInt32 >>> ((3 : Int32) &&& 31).toUInt32).toInt32) &&& (3 : Int32))), .val (.int q), .val (.int fa), .val (.int fb), .val (.int fr), .val (.ref ta), .val (.ref tb), .val (.ref b3), .val (.int (1 : Int32)), .val (.ref ta), .unset, .unset, .unset] []))
                    rw [show (own_m1 fa a q ta) = (.ref ta) from (if_neg hmA).trans (if_pos hmB)] at J278
                    exact J278
                  · have _h := hmB
                    refine own_go (fun _ kont => XS.icmpYes X.here hx rfl (pc0 := 271) (pc' := 278) rfl (hb hby at_271) rfl (feq hmB).2 (by decide) (by decide) kont) ?_
                    show own_Go _ _ _ _ (T.setTop (mkF m 278 #[.val (.int p1), .val (.int p2), .val (.int p3), .val (.int p4), .val (.int p5), .val (.int p6), .val (.int a), .val (.int (((p6.toUInt32 >>> ((1 : Int32) &&& 31).toUInt32).toInt32) &&& (3 : Int32))), .val (.int b), .val (.int (((p6.toUInt32 >>> ((3 : Int32) &&& 31).toUInt32).toInt32) &&& (3 : Int32))), .val (.int q), .val (.int fa), .val (.int fb), .val (.int fr), .val (.ref ta), .val (.ref tb), .val (.ref b3), .val (.int (1 : Int32)), .val .null, .unset, .unset, .unset] []))
                    rw [show (own_m1 fa a q ta) = .null from (if_neg hmA).trans (if_neg hmB)] at J278
                    exact J278
              by_cases hfb : fb = (0 : Int32)
              · have _h := hfb
                refine own_go (fun _ kont => XS.ifYes X.here hx rfl (pc0 := 247) (pc' := 259) rfl (hb hby at_247) rfl ((if0 _ _).trans (teq hfb).1) (by decide) (by decide) kont) ?_
                show own_Go _ _ _ _ (T.setTop (mkF m 259 #[.val (.int p1), .val (.int p2), .val (.int p3), .val (.int p4), .val (.int p5), .val (.int p6), .val (.int a), .val (.int (((p6.toUInt32 >>> ((1 : Int32) &&& 31).toUInt32).toInt32) &&& (3 : Int32))), .val (.int b), .val (.int (((p6.toUInt32 >>> ((3 : Int32) &&& 31).toUInt32).toInt32) &&& (3 : Int32))), .val (.int q), .val (.int fa), .val (.int fb), .val (.int fr), .val (.ref ta), .val (.ref tb), .val (.ref b3), .val (.int (1 : Int32)), .unset, .unset, .unset, .unset] []))
                exact J259 _ _ (X.more (by decide) (by decide)) N _ eT O Z0 S held size (by omega) (by rw [show (own_v2 fa fb a.toNatClampNeg b.toNatClampNeg oa ob) = (own_v1 fa a.toNatClampNeg oa) from if_pos hfb]; exact M)
              · have _h := hfb
                refine own_go (fun _ kont => XS.ifNo X.here hx rfl (hb hby at_247) rfl ((if0 _ _).trans (feq hfb).1) kont) ?_
                show own_Go _ _ _ _ (T.setTop (mkF m 250 #[.val (.int p1), .val (.int p2), .val (.int p3), .val (.int p4), .val (.int p5), .val (.int p6), .val (.int a), .val (.int (((p6.toUInt32 >>> ((1 : Int32) &&& 31).toUInt32).toInt32) &&& (3 : Int32))), .val (.int b), .val (.int (((p6.toUInt32 >>> ((3 : Int32) &&& 31).toUInt32).toInt32) &&& (3 : Int32))), .val (.int q), .val (.int fa), .val (.int fb), .val (.int fr), .val (.ref ta), .val (.ref tb), .val (.ref b3), .val (.int (1 : Int32)), .unset, .unset, .unset, .unset] []))
                refine own_go (fun _ kont => XS.aload X.here hx rfl (hb hby at_250) rfl rfl kont) ?_
                show own_Go _ _ _ _ (T.setTop (mkF m 252 #[.val (.int p1), .val (.int p2), .val (.int p3), .val (.int p4), .val (.int p5), .val (.int p6), .val (.int a), .val (.int (((p6.toUInt32 >>> ((1 : Int32) &&& 31).toUInt32).toInt32) &&& (3 : Int32))), .val (.int b), .val (.int (((p6.toUInt32 >>> ((3 : Int32) &&& 31).toUInt32).toInt32) &&& (3 : Int32))), .val (.int q), .val (.int fa), .val (.int fb), .val (.int fr), .val (.ref ta), .val (.ref tb), .val (.ref b3), .val (.int (1 : Int32)), .unset, .unset, .unset, .unset] [(.ref b3)]))
                refine own_go (fun _ kont => XS.iload X.here hx rfl (hb hby at_252) rfl kont) ?_
                show own_Go _ _ _ _ (T.setTop (mkF m 254 #[.val (.int p1), .val (.int p2), .val (.int p3), .val (.int p4), .val (.int p5), .val (.int p6), .val (.int a), .val (.int (((p6.toUInt32 >>> ((1 : Int32) &&& 31).toUInt32).toInt32) &&& (3 : Int32))), .val (.int b), .val (.int (((p6.toUInt32 >>> ((3 : Int32) &&& 31).toUInt32).toInt32) &&& (3 : Int32))), .val (.int q), .val (.int fa), .val (.int fb), .val (.int fr), .val (.ref ta), .val (.ref tb), .val (.ref b3), .val (.int (1 : Int32)), .unset, .unset, .unset, .unset] [(.int b), (.ref b3)]))
                refine own_go (fun _ kont => XS.aload X.here hx rfl (hb hby at_254) rfl rfl kont) ?_
                show own_Go _ _ _ _ (T.setTop (mkF m 256 #[.val (.int p1), .val (.int p2), .val (.int p3), .val (.int p4), .val (.int p5), .val (.int p6), .val (.int a), .val (.int (((p6.toUInt32 >>> ((1 : Int32) &&& 31).toUInt32).toInt32) &&& (3 : Int32))), .val (.int b), .val (.int (((p6.toUInt32 >>> ((3 : Int32) &&& 31).toUInt32).toInt32) &&& (3 : Int32))), .val (.int q), .val (.int fa), .val (.int fb), .val (.int fr), .val (.ref ta), .val (.ref tb), .val (.ref b3), .val (.int (1 : Int32)), .unset, .unset, .unset, .unset] [(.ref tb), (.int b), (.ref b3)]))
                rcases M with ⟨M, hS0, hz, -, -⟩ | ⟨lp, f, M⟩
                · have _u := trivial
                  obtain ⟨cq9, kq9, q9a, q9b, q9c⟩ := isOf hZ eT M.1
                  obtain ⟨_, _, ⟨T9, L9, k9, n9⟩, -, X9, ⟨Lc9, hQ9, l9, y9, z9⟩, st9⟩ := X.virtualBack hx (y := (⟨"com/example/utopic/utopic/broker/MessageIds", "put", "(ILcom/example/utopic/utopic/codec/PacketType;)V"⟩ : MethodName)) (z := (⟨"com/example/utopic/utopic/broker/MessageIds", "put", "(ILcom/example/utopic/utopic/codec/PacketType;)V"⟩ : MethodName)) hown (mvT hZ (hw _ (List.mem_of_getElem? (i := 29) rfl))) (mvT hZ (hw _ (List.mem_of_getElem? (i := 30) rfl))) (notFace_of_selects (args := #[]) (mvT hZ (hw _ (List.mem_of_getElem? (i := 32) rfl)))) (mvT hZ (hw _ (List.mem_of_getElem? (i := 32) rfl))) (mvT hZ (hw _ (List.mem_of_getElem? (i := 31) rfl))) (by decide) (own_back (W := 0) (own_rmU0 l Z a0 hw b3 b tb ob (own_v1 fa a.toNatClampNeg oa) hH n0 Z0 M hz b1 b2 ge_b3 O E_tb F_tb ob1 ob2) hZ (hw _ (List.mem_of_getElem? (i := 33) rfl)) (hw _ (List.mem_of_getElem? (i := 13) rfl)) (by decide) (by decide)) q9a q9c (g := (mkF m 256 #[.val (.int p1), .val (.int p2), .val (.int p3), .val (.int p4), .val (.int p5), .val (.int p6), .val (.int a), .val (.int (((p6.toUInt32 >>> ((1 : Int32) &&& 31).toUInt32).toInt32) &&& (3 : Int32))), .val (.int b), .val (.int (((p6.toUInt32 >>> ((3 : Int32) &&& 31).toUInt32).toInt32) &&& (3 : Int32))), .val (.int q), .val (.int fa), .val (.int fb), .val (.int fr), .val (.ref ta), .val (.ref tb), .val (.ref b3), .val (.int (1 : Int32)), .unset, .unset, .unset, .unset] [(.ref tb), (.int b), (.ref b3)])) rfl (by rw [hml]; rfl) (Steps.refl _) (argsL := [(.int b), (.ref tb)]) (rest := []) (lenOf own_pd4 rfl) rfl (by show 2 * 0 + _ ≤ _; exact Nat.le_of_eq rfl) (hb hby at_256) (fun _ _ => ⟨rfl, eT, (by decide : 4 + 3 ≤ _), (by decide : 773 + 768 ≤ _)⟩)
                  dsimp only [Pt.U, Pt.locs, Pt.cells, Pt.slots] at X9 l9 y9 z9 st9 hQ9
                  replace X9 := own_cst X9 l9 y9 z9 (k2 := 7) (n2 := 1541) rfl rfl
                  clear l9 y9 z9
                  obtain ⟨lp9, f9, rfl, Nq9, O9, hsq9, M9⟩ := hQ9
                  have NF9 := Fr.app N Nq9
                  refine own_goT st9 ?_
                  have O := O9
                  have Z0 := Nat.le_trans Z0 hsq9
                  show own_Go _ _ _ _ (T9.setTop (mkF m 259 #[.val (.int p1), .val (.int p2), .val (.int p3), .val (.int p4), .val (.int p5), .val (.int p6), .val (.int a), .val (.int (((p6.toUInt32 >>> ((1 : Int32) &&& 31).toUInt32).toInt32) &&& (3 : Int32))), .val (.int b), .val (.int (((p6.toUInt32 >>> ((3 : Int32) &&& 31).toUInt32).toInt32) &&& (3 : Int32))), .val (.int q), .val (.int fa), .val (.int fb), .val (.int fr), .val (.ref ta), .val (.ref tb), .val (.ref b3), .val (.int (1 : Int32)), .unset, .unset, .unset, .unset] []))
                  exact J259 _ _ X9 NF9 _ rfl O Z0 [b.toNatClampNeg] 1 1 (by simp) (by rw [show (own_v2 fa fb a.toNatClampNeg b.toNatClampNeg oa ob) = own_set (own_v1 fa a.toNatClampNeg oa) b.toNatClampNeg (ob + 1) from if_neg hfb]; exact Or.inr ⟨_, _, M9⟩)
                · have _u := trivial
                  obtain ⟨cq10, kq10, q10a, q10b, q10c⟩ := isOf hZ eT (own_Exa_Map M)
                  obtain ⟨_, _, ⟨T10, L10, k10, n10⟩, -, X10, ⟨Lc10, hQ10, l10, y10, z10⟩, st10⟩ := X.virtualBack hx (y := (⟨"com/example/utopic/utopic/broker/MessageIds", "put", "(ILcom/example/utopic/utopic/codec/PacketType;)V"⟩ : MethodName)) (z := (⟨"com/example/utopic/utopic/broker/MessageIds", "put", "(ILcom/example/utopic/utopic/codec/PacketType;)V"⟩ : MethodName)) hown (mvT hZ (hw _ (List.mem_of_getElem? (i := 29) rfl))) (mvT hZ (hw _ (List.mem_of_getElem? (i := 30) rfl))) (notFace_of_selects (args := #[]) (mvT hZ (hw _ (List.mem_of_getElem? (i := 32) rfl)))) (mvT hZ (hw _ (List.mem_of_getElem? (i := 32) rfl))) (mvT hZ (hw _ (List.mem_of_getElem? (i := 31) rfl))) (by decide) (own_back (W := 0) (own_rmU l Z a0 hw b3 b tb ob _ _ _ _ _ _ hH n0 Z0 M (by omega) b1 b2 ge_b3 O E_tb F_tb ob1 ob2) hZ (hw _ (List.mem_of_getElem? (i := 33) rfl)) (hw _ (List.mem_of_getElem? (i := 13) rfl)) (by decide) (by decide)) q10a q10c (g := (mkF m 256 #[.val (.int p1), .val (.int p2), .val (.int p3), .val (.int p4), .val (.int p5), .val (.int p6), .val (.int a), .val (.int (((p6.toUInt32 >>> ((1 : Int32) &&& 31).toUInt32).toInt32) &&& (3 : Int32))), .val (.int b), .val (.int (((p6.toUInt32 >>> ((3 : Int32) &&& 31).toUInt32).toInt32) &&& (3 : Int32))), .val (.int q), .val (.int fa), .val (.int fb), .val (.int fr), .val (.ref ta), .val (.ref tb), .val (.ref b3), .val (.int (1 : Int32)), .unset, .unset, .unset, .unset] [(.ref tb), (.int b), (.ref b3)])) rfl (by rw [hml]; rfl) (Steps.refl _) (argsL := [(.int b), (.ref tb)]) (rest := []) (lenOf own_pd4 rfl) rfl (by show 2 * 0 + _ ≤ _; exact Nat.le_of_eq rfl) (hb hby at_256) (fun _ _ => ⟨rfl, eT, (by decide : 4 + 1 ≤ _), (by decide : 773 + 256 ≤ _)⟩)
                  dsimp only [Pt.U, Pt.locs, Pt.cells, Pt.slots] at X10 l10 y10 z10 st10 hQ10
                  replace X10 := own_cst X10 l10 y10 z10 (k2 := 5) (n2 := 1029) rfl rfl
                  clear l10 y10 z10
                  obtain ⟨S10, held10, size10, lp10, f10, rfl, Nq10, O10, hsq10, ln10, M10⟩ := hQ10
                  have NF10 := Fr.app N Nq10
                  refine own_goT st10 ?_
                  have O := O10
                  have Z0 := Nat.le_trans Z0 hsq10
                  show own_Go _ _ _ _ (T10.setTop (mkF m 259 #[.val (.int p1), .val (.int p2), .val (.int p3), .val (.int p4), .val (.int p5), .val (.int p6), .val (.int a), .val (.int (((p6.toUInt32 >>> ((1 : Int32) &&& 31).toUInt32).toInt32) &&& (3 : Int32))), .val (.int b), .val (.int (((p6.toUInt32 >>> ((3 : Int32) &&& 31).toUInt32).toInt32) &&& (3 : Int32))), .val (.int q), .val (.int fa), .val (.int fb), .val (.int fr), .val (.ref ta), .val (.ref tb), .val (.ref b3), .val (.int (1 : Int32)), .unset, .unset, .unset, .unset] []))
                  exact J259 _ _ (X10.more (by decide) (by decide)) NF10 _ rfl O Z0 S10 held10 size10 (by omega) (by rw [show (own_v2 fa fb a.toNatClampNeg b.toNatClampNeg oa ob) = own_set (own_v1 fa a.toNatClampNeg oa) b.toNatClampNeg (ob + 1) from if_neg hfb]; exact Or.inr ⟨_, _, M10⟩)
            by_cases hfa : fa = (0 : Int32)
            · have _h := hfa
              refine own_go (fun _ kont => XS.ifYes X5.here hx rfl (pc0 := 233) (pc' := 245) rfl (hb hby at_233) rfl ((if0 _ _).trans (teq hfa).1) (by decide) (by decide) kont) ?_
              show own_Go _ _ _ _ (T5.setTop (mkF m 245 #[.val (.int p1), .val (.int p2), .val (.int p3), .val (.int p4), .val (.int p5), .val (.int p6), .val (.int a), .val (.int (((p6.toUInt32 >>> ((1 : Int32) &&& 31).toUInt32).toInt32) &&& (3 : Int32))), .val (.int b), .val (.int (((p6.toUInt32 >>> ((3 : Int32) &&& 31).toUInt32).toInt32) &&& (3 : Int32))), .val (.int q), .val (.int fa), .val (.int fb), .val (.int fr), .val (.ref ta), .val (.ref tb), .val (.ref b3), .val (.int (1 : Int32)), .unset, .unset, .unset, .unset] []))
              exact J245 _ _ (X5.more (by decide) (by decide)) NF5 _ eq5 O Z0 [] 0 0 (by simp) (by rw [show (own_v1 fa a.toNatClampNeg oa) = fun _ => 0 from if_pos hfa]; exact Or.inl ⟨M4, rfl, fun _ _ => rfl, rfl, rfl⟩)
            · have _h := hfa
              refine own_go (fun _ kont => XS.ifNo X5.here hx rfl (hb hby at_233) rfl ((if0 _ _).trans (feq hfa).1) kont) ?_
              show own_Go _ _ _ _ (T5.setTop (mkF m 236 #[.val (.int p1), .val (.int p2), .val (.int p3), .val (.int p4), .val (.int p5), .val (.int p6), .val (.int a), .val (.int (((p6.toUInt32 >>> ((1 : Int32) &&& 31).toUInt32).toInt32) &&& (3 : Int32))), .val (.int b), .val (.int (((p6.toUInt32 >>> ((3 : Int32) &&& 31).toUInt32).toInt32) &&& (3 : Int32))), .val (.int q), .val (.int fa), .val (.int fb), .val (.int fr), .val (.ref ta), .val (.ref tb), .val (.ref b3), .val (.int (1 : Int32)), .unset, .unset, .unset, .unset] []))
              refine own_go (fun _ kont => XS.aload X5.here hx rfl (hb hby at_236) rfl rfl kont) ?_
              show own_Go _ _ _ _ (T5.setTop (mkF m 238 #[.val (.int p1), .val (.int p2), .val (.int p3), .val (.int p4), .val (.int p5), .val (.int p6), .val (.int a), .val (.int (((p6.toUInt32 >>> ((1 : Int32) &&& 31).toUInt32).toInt32) &&& (3 : Int32))), .val (.int b), .val (.int (((p6.toUInt32 >>> ((3 : Int32) &&& 31).toUInt32).toInt32) &&& (3 : Int32))), .val (.int q), .val (.int fa), .val (.int fb), .val (.int fr), .val (.ref ta), .val (.ref tb), .val (.ref b3), .val (.int (1 : Int32)), .unset, .unset, .unset, .unset] [(.ref b3)]))
              refine own_go (fun _ kont => XS.iload X5.here hx rfl (hb hby at_238) rfl kont) ?_
              show own_Go _ _ _ _ (T5.setTop (mkF m 240 #[.val (.int p1), .val (.int p2), .val (.int p3), .val (.int p4), .val (.int p5), .val (.int p6), .val (.int a), .val (.int (((p6.toUInt32 >>> ((1 : Int32) &&& 31).toUInt32).toInt32) &&& (3 : Int32))), .val (.int b), .val (.int (((p6.toUInt32 >>> ((3 : Int32) &&& 31).toUInt32).toInt32) &&& (3 : Int32))), .val (.int q), .val (.int fa), .val (.int fb), .val (.int fr), .val (.ref ta), .val (.ref tb), .val (.ref b3), .val (.int (1 : Int32)), .unset, .unset, .unset, .unset] [(.int a), (.ref b3)]))
              refine own_go (fun _ kont => XS.aload X5.here hx rfl (hb hby at_240) rfl rfl kont) ?_
              show own_Go _ _ _ _ (T5.setTop (mkF m 242 #[.val (.int p1), .val (.int p2), .val (.int p3), .val (.int p4), .val (.int p5), .val (.int p6), .val (.int a), .val (.int (((p6.toUInt32 >>> ((1 : Int32) &&& 31).toUInt32).toInt32) &&& (3 : Int32))), .val (.int b), .val (.int (((p6.toUInt32 >>> ((3 : Int32) &&& 31).toUInt32).toInt32) &&& (3 : Int32))), .val (.int q), .val (.int fa), .val (.int fb), .val (.int fr), .val (.ref ta), .val (.ref tb), .val (.ref b3), .val (.int (1 : Int32)), .unset, .unset, .unset, .unset] [(.ref ta), (.int a), (.ref b3)]))
              obtain ⟨cq11, kq11, q11a, q11b, q11c⟩ := isOf hZ eq5 M4.1
              obtain ⟨_, _, ⟨T11, L11, k11, n11⟩, -, X11, ⟨Lc11, hQ11, l11, y11, z11⟩, st11⟩ := X5.virtualBack hx (y := (⟨"com/example/utopic/utopic/broker/MessageIds", "put", "(ILcom/example/utopic/utopic/codec/PacketType;)V"⟩ : MethodName)) (z := (⟨"com/example/utopic/utopic/broker/MessageIds", "put", "(ILcom/example/utopic/utopic/codec/PacketType;)V"⟩ : MethodName)) hown (mvT hZ (hw _ (List.mem_of_getElem? (i := 29) rfl))) (mvT hZ (hw _ (List.mem_of_getElem? (i := 30) rfl))) (notFace_of_selects (args := #[]) (mvT hZ (hw _ (List.mem_of_getElem? (i := 32) rfl)))) (mvT hZ (hw _ (List.mem_of_getElem? (i := 32) rfl))) (mvT hZ (hw _ (List.mem_of_getElem? (i := 31) rfl))) (by decide) (own_back (W := 0) (own_rmU0 l Z a0 hw b3 a ta oa (fun _ => 0) T4.heap n0 Z0 M4 (fun _ _ => rfl) a1 a2 ge_b3 O E_ta F_ta oa1 oa2) hZ (hw _ (List.mem_of_getElem? (i := 33) rfl)) (hw _ (List.mem_of_getElem? (i := 13) rfl)) (by decide) (by decide)) q11a q11c (g := (mkF m 242 #[.val (.int p1), .val (.int p2), .val (.int p3), .val (.int p4), .val (.int p5), .val (.int p6), .val (.int a), .val (.int (((p6.toUInt32 >>> ((1 : Int32) &&& 31).toUInt32).toInt32) &&& (3 : Int32))), .val (.int b), .val (.int (((p6.toUInt32 >>> ((3 : Int32) &&& 31).toUInt32).toInt32) &&& (3 : Int32))), .val (.int q), .val (.int fa), .val (.int fb), .val (.int fr), .val (.ref ta), .val (.ref tb), .val (.ref b3), .val (.int (1 : Int32)), .unset, .unset, .unset, .unset] [(.ref ta), (.int a), (.ref b3)])) rfl (by rw [hml]; rfl) (Steps.refl _) (argsL := [(.int a), (.ref ta)]) (rest := []) (lenOf own_pd4 rfl) rfl (by show 2 * 0 + _ ≤ _; exact Nat.le_of_eq rfl) (hb hby at_242) (fun _ _ => ⟨rfl, eq5, (by decide : 1 + 3 ≤ _), (by decide : 5 + 768 ≤ _)⟩)
              dsimp only [Pt.U, Pt.locs, Pt.cells, Pt.slots] at X11 l11 y11 z11 st11 hQ11
              replace X11 := own_cst X11 l11 y11 z11 (k2 := 4) (n2 := 773) rfl rfl
              clear l11 y11 z11
              obtain ⟨lp11, f11, rfl, Nq11, O11, hsq11, M11⟩ := hQ11
              have NF11 := Fr.app NF5 Nq11
              refine own_goT st11 ?_
              have O := O11
              have Z0 := Nat.le_trans Z0 hsq11
              show own_Go _ _ _ _ (T11.setTop (mkF m 245 #[.val (.int p1), .val (.int p2), .val (.int p3), .val (.int p4), .val (.int p5), .val (.int p6), .val (.int a), .val (.int (((p6.toUInt32 >>> ((1 : Int32) &&& 31).toUInt32).toInt32) &&& (3 : Int32))), .val (.int b), .val (.int (((p6.toUInt32 >>> ((3 : Int32) &&& 31).toUInt32).toInt32) &&& (3 : Int32))), .val (.int q), .val (.int fa), .val (.int fb), .val (.int fr), .val (.ref ta), .val (.ref tb), .val (.ref b3), .val (.int (1 : Int32)), .unset, .unset, .unset, .unset] []))
              exact J245 _ _ X11 NF11 _ rfl O Z0 [a.toNatClampNeg] 1 1 (by simp) (by rw [show (own_v1 fa a.toNatClampNeg oa) = own_set (fun _ => 0) a.toNatClampNeg (oa + 1) from if_neg hfa]; exact Or.inr ⟨_, _, M11⟩)
          by_cases hb166 : (p6 &&& (64 : Int32)) = (0 : Int32)
          · have _h := hb166
            refine own_go (fun _ kont => XS.ifYes X0.here hx rfl (pc0 := 166) (pc' := 173) rfl (hb hby at_166) rfl ((if0 _ _).trans (teq hb166).1) (by decide) (by decide) kont) ?_
            show own_Go _ _ _ _ (s₁.setTop (mkF m 173 #[.val (.int p1), .val (.int p2), .val (.int p3), .val (.int p4), .val (.int p5), .val (.int p6), .val (.int a), .val (.int (((p6.toUInt32 >>> ((1 : Int32) &&& 31).toUInt32).toInt32) &&& (3 : Int32))), .val (.int b), .val (.int (((p6.toUInt32 >>> ((3 : Int32) &&& 31).toUInt32).toInt32) &&& (3 : Int32))), .val (.int q), .val (.int fa), .val (.int fb), .unset, .unset, .unset, .unset, .unset, .unset, .unset, .unset, .unset] []))
            refine own_go (fun _ kont => XS.iconst X0.here hx rfl (hb hby at_173) kont) ?_
            show own_Go _ _ _ _ (s₁.setTop (mkF m 174 #[.val (.int p1), .val (.int p2), .val (.int p3), .val (.int p4), .val (.int p5), .val (.int p6), .val (.int a), .val (.int (((p6.toUInt32 >>> ((1 : Int32) &&& 31).toUInt32).toInt32) &&& (3 : Int32))), .val (.int b), .val (.int (((p6.toUInt32 >>> ((3 : Int32) &&& 31).toUInt32).toInt32) &&& (3 : Int32))), .val (.int q), .val (.int fa), .val (.int fb), .unset, .unset, .unset, .unset, .unset, .unset, .unset, .unset, .unset] [(.int (0 : Int32))]))
            exact J174 _
          · have _h := hb166
            refine own_go (fun _ kont => XS.ifNo X0.here hx rfl (hb hby at_166) rfl ((if0 _ _).trans (feq hb166).1) kont) ?_
            show own_Go _ _ _ _ (s₁.setTop (mkF m 169 #[.val (.int p1), .val (.int p2), .val (.int p3), .val (.int p4), .val (.int p5), .val (.int p6), .val (.int a), .val (.int (((p6.toUInt32 >>> ((1 : Int32) &&& 31).toUInt32).toInt32) &&& (3 : Int32))), .val (.int b), .val (.int (((p6.toUInt32 >>> ((3 : Int32) &&& 31).toUInt32).toInt32) &&& (3 : Int32))), .val (.int q), .val (.int fa), .val (.int fb), .unset, .unset, .unset, .unset, .unset, .unset, .unset, .unset, .unset] []))
            refine own_go (fun _ kont => XS.iconst X0.here hx rfl (hb hby at_169) kont) ?_
            show own_Go _ _ _ _ (s₁.setTop (mkF m 170 #[.val (.int p1), .val (.int p2), .val (.int p3), .val (.int p4), .val (.int p5), .val (.int p6), .val (.int a), .val (.int (((p6.toUInt32 >>> ((1 : Int32) &&& 31).toUInt32).toInt32) &&& (3 : Int32))), .val (.int b), .val (.int (((p6.toUInt32 >>> ((3 : Int32) &&& 31).toUInt32).toInt32) &&& (3 : Int32))), .val (.int q), .val (.int fa), .val (.int fb), .unset, .unset, .unset, .unset, .unset, .unset, .unset, .unset, .unset] [(.int (1 : Int32))]))
            refine own_go (fun _ kont => XS.goto X0.here hx rfl (pc0 := 170) (pc' := 174) rfl (hb hby at_170) (by decide) (by decide) kont) ?_
            show own_Go _ _ _ _ (s₁.setTop (mkF m 174 #[.val (.int p1), .val (.int p2), .val (.int p3), .val (.int p4), .val (.int p5), .val (.int p6), .val (.int a), .val (.int (((p6.toUInt32 >>> ((1 : Int32) &&& 31).toUInt32).toInt32) &&& (3 : Int32))), .val (.int b), .val (.int (((p6.toUInt32 >>> ((3 : Int32) &&& 31).toUInt32).toInt32) &&& (3 : Int32))), .val (.int q), .val (.int fa), .val (.int fb), .unset, .unset, .unset, .unset, .unset, .unset, .unset, .unset, .unset] [(.int (1 : Int32))]))
            exact J174 _
        by_cases hb151 : (p6 &&& (32 : Int32)) = (0 : Int32)
        · have _h := hb151
          refine own_go (fun _ kont => XS.ifYes X0.here hx rfl (pc0 := 151) (pc' := 158) rfl (hb hby at_151) rfl ((if0 _ _).trans (teq hb151).1) (by decide) (by decide) kont) ?_
          show own_Go _ _ _ _ (s₁.setTop (mkF m 158 #[.val (.int p1), .val (.int p2), .val (.int p3), .val (.int p4), .val (.int p5), .val (.int p6), .val (.int a), .val (.int (((p6.toUInt32 >>> ((1 : Int32) &&& 31).toUInt32).toInt32) &&& (3 : Int32))), .val (.int b), .val (.int (((p6.toUInt32 >>> ((3 : Int32) &&& 31).toUInt32).toInt32) &&& (3 : Int32))), .val (.int q), .val (.int fa), .unset, .unset, .unset, .unset, .unset, .unset, .unset, .unset, .unset, .unset] []))
          refine own_go (fun _ kont => XS.iconst X0.here hx rfl (hb hby at_158) kont) ?_
          show own_Go _ _ _ _ (s₁.setTop (mkF m 159 #[.val (.int p1), .val (.int p2), .val (.int p3), .val (.int p4), .val (.int p5), .val (.int p6), .val (.int a), .val (.int (((p6.toUInt32 >>> ((1 : Int32) &&& 31).toUInt32).toInt32) &&& (3 : Int32))), .val (.int b), .val (.int (((p6.toUInt32 >>> ((3 : Int32) &&& 31).toUInt32).toInt32) &&& (3 : Int32))), .val (.int q), .val (.int fa), .unset, .unset, .unset, .unset, .unset, .unset, .unset, .unset, .unset, .unset] [(.int (0 : Int32))]))
          exact J159 _
        · have _h := hb151
          refine own_go (fun _ kont => XS.ifNo X0.here hx rfl (hb hby at_151) rfl ((if0 _ _).trans (feq hb151).1) kont) ?_
          show own_Go _ _ _ _ (s₁.setTop (mkF m 154 #[.val (.int p1), .val (.int p2), .val (.int p3), .val (.int p4), .val (.int p5), .val (.int p6), .val (.int a), .val (.int (((p6.toUInt32 >>> ((1 : Int32) &&& 31).toUInt32).toInt32) &&& (3 : Int32))), .val (.int b), .val (.int (((p6.toUInt32 >>> ((3 : Int32) &&& 31).toUInt32).toInt32) &&& (3 : Int32))), .val (.int q), .val (.int fa), .unset, .unset, .unset, .unset, .unset, .unset, .unset, .unset, .unset, .unset] []))
          refine own_go (fun _ kont => XS.iconst X0.here hx rfl (hb hby at_154) kont) ?_
          show own_Go _ _ _ _ (s₁.setTop (mkF m 155 #[.val (.int p1), .val (.int p2), .val (.int p3), .val (.int p4), .val (.int p5), .val (.int p6), .val (.int a), .val (.int (((p6.toUInt32 >>> ((1 : Int32) &&& 31).toUInt32).toInt32) &&& (3 : Int32))), .val (.int b), .val (.int (((p6.toUInt32 >>> ((3 : Int32) &&& 31).toUInt32).toInt32) &&& (3 : Int32))), .val (.int q), .val (.int fa), .unset, .unset, .unset, .unset, .unset, .unset, .unset, .unset, .unset, .unset] [(.int (1 : Int32))]))
          refine own_go (fun _ kont => XS.goto X0.here hx rfl (pc0 := 155) (pc' := 159) rfl (hb hby at_155) (by decide) (by decide) kont) ?_
          show own_Go _ _ _ _ (s₁.setTop (mkF m 159 #[.val (.int p1), .val (.int p2), .val (.int p3), .val (.int p4), .val (.int p5), .val (.int p6), .val (.int a), .val (.int (((p6.toUInt32 >>> ((1 : Int32) &&& 31).toUInt32).toInt32) &&& (3 : Int32))), .val (.int b), .val (.int (((p6.toUInt32 >>> ((3 : Int32) &&& 31).toUInt32).toInt32) &&& (3 : Int32))), .val (.int q), .val (.int fa), .unset, .unset, .unset, .unset, .unset, .unset, .unset, .unset, .unset, .unset] [(.int (1 : Int32))]))
          exact J159 _
      by_cases hb136 : (p6 &&& (1 : Int32)) = (0 : Int32)
      · have _h := hb136
        refine own_go (fun _ kont => XS.ifYes X0.here hx rfl (pc0 := 136) (pc' := 143) rfl (hb hby at_136) rfl ((if0 _ _).trans (teq hb136).1) (by decide) (by decide) kont) ?_
        show own_Go _ _ _ _ (s₁.setTop (mkF m 143 #[.val (.int p1), .val (.int p2), .val (.int p3), .val (.int p4), .val (.int p5), .val (.int p6), .val (.int a), .val (.int (((p6.toUInt32 >>> ((1 : Int32) &&& 31).toUInt32).toInt32) &&& (3 : Int32))), .val (.int b), .val (.int (((p6.toUInt32 >>> ((3 : Int32) &&& 31).toUInt32).toInt32) &&& (3 : Int32))), .val (.int q), .unset, .unset, .unset, .unset, .unset, .unset, .unset, .unset, .unset, .unset, .unset] []))
        refine own_go (fun _ kont => XS.iconst X0.here hx rfl (hb hby at_143) kont) ?_
        show own_Go _ _ _ _ (s₁.setTop (mkF m 144 #[.val (.int p1), .val (.int p2), .val (.int p3), .val (.int p4), .val (.int p5), .val (.int p6), .val (.int a), .val (.int (((p6.toUInt32 >>> ((1 : Int32) &&& 31).toUInt32).toInt32) &&& (3 : Int32))), .val (.int b), .val (.int (((p6.toUInt32 >>> ((3 : Int32) &&& 31).toUInt32).toInt32) &&& (3 : Int32))), .val (.int q), .unset, .unset, .unset, .unset, .unset, .unset, .unset, .unset, .unset, .unset, .unset] [(.int (0 : Int32))]))
        exact J144 _
      · have _h := hb136
        refine own_go (fun _ kont => XS.ifNo X0.here hx rfl (hb hby at_136) rfl ((if0 _ _).trans (feq hb136).1) kont) ?_
        show own_Go _ _ _ _ (s₁.setTop (mkF m 139 #[.val (.int p1), .val (.int p2), .val (.int p3), .val (.int p4), .val (.int p5), .val (.int p6), .val (.int a), .val (.int (((p6.toUInt32 >>> ((1 : Int32) &&& 31).toUInt32).toInt32) &&& (3 : Int32))), .val (.int b), .val (.int (((p6.toUInt32 >>> ((3 : Int32) &&& 31).toUInt32).toInt32) &&& (3 : Int32))), .val (.int q), .unset, .unset, .unset, .unset, .unset, .unset, .unset, .unset, .unset, .unset, .unset] []))
        refine own_go (fun _ kont => XS.iconst X0.here hx rfl (hb hby at_139) kont) ?_
        show own_Go _ _ _ _ (s₁.setTop (mkF m 140 #[.val (.int p1), .val (.int p2), .val (.int p3), .val (.int p4), .val (.int p5), .val (.int p6), .val (.int a), .val (.int (((p6.toUInt32 >>> ((1 : Int32) &&& 31).toUInt32).toInt32) &&& (3 : Int32))), .val (.int b), .val (.int (((p6.toUInt32 >>> ((3 : Int32) &&& 31).toUInt32).toInt32) &&& (3 : Int32))), .val (.int q), .unset, .unset, .unset, .unset, .unset, .unset, .unset, .unset, .unset, .unset, .unset] [(.int (1 : Int32))]))
        refine own_go (fun _ kont => XS.goto X0.here hx rfl (pc0 := 140) (pc' := 144) rfl (hb hby at_140) (by decide) (by decide) kont) ?_
        show own_Go _ _ _ _ (s₁.setTop (mkF m 144 #[.val (.int p1), .val (.int p2), .val (.int p3), .val (.int p4), .val (.int p5), .val (.int p6), .val (.int a), .val (.int (((p6.toUInt32 >>> ((1 : Int32) &&& 31).toUInt32).toInt32) &&& (3 : Int32))), .val (.int b), .val (.int (((p6.toUInt32 >>> ((3 : Int32) &&& 31).toUInt32).toInt32) &&& (3 : Int32))), .val (.int q), .unset, .unset, .unset, .unset, .unset, .unset, .unset, .unset, .unset, .unset, .unset] [(.int (1 : Int32))]))
        exact J144 _
    by_cases hb90 : (((p6.toUInt32 >>> ((3 : Int32) &&& 31).toUInt32).toInt32) &&& (3 : Int32)) = (0 : Int32)
    · have _h := hb90
      refine own_go (fun _ kont => XS.ifNo X0.here hx rfl (hb hby at_90) rfl ((if0 _ _).trans (teq hb90).2) kont) ?_
      show own_Go _ _ _ _ (s₁.setTop (mkF m 93 #[.val (.int p1), .val (.int p2), .val (.int p3), .val (.int p4), .val (.int p5), .val (.int p6), .val (.int a), .val (.int (((p6.toUInt32 >>> ((1 : Int32) &&& 31).toUInt32).toInt32) &&& (3 : Int32))), .val (.int b), .val (.int (((p6.toUInt32 >>> ((3 : Int32) &&& 31).toUInt32).toInt32) &&& (3 : Int32))), .val (.int (p3 &&& (65535 : Int32))), .unset, .unset, .unset, .unset, .unset, .unset, .unset, .unset, .unset, .unset, .unset] []))
      refine own_go (fun _ kont => XS.iload X0.here hx rfl (hb hby at_93) rfl kont) ?_
      show own_Go _ _ _ _ (s₁.setTop (mkF m 95 #[.val (.int p1), .val (.int p2), .val (.int p3), .val (.int p4), .val (.int p5), .val (.int p6), .val (.int a), .val (.int (((p6.toUInt32 >>> ((1 : Int32) &&& 31).toUInt32).toInt32) &&& (3 : Int32))), .val (.int b), .val (.int (((p6.toUInt32 >>> ((3 : Int32) &&& 31).toUInt32).toInt32) &&& (3 : Int32))), .val (.int (p3 &&& (65535 : Int32))), .unset, .unset, .unset, .unset, .unset, .unset, .unset, .unset, .unset, .unset, .unset] [(.int a)]))
      refine own_go (fun _ kont => XS.istore X0.here hx rfl (hb hby at_95) rfl (l' := #[.val (.int p1), .val (.int p2), .val (.int p3), .val (.int p4), .val (.int p5), .val (.int p6), .val (.int a), .val (.int (((p6.toUInt32 >>> ((1 : Int32) &&& 31).toUInt32).toInt32) &&& (3 : Int32))), .val (.int b), .val (.int (((p6.toUInt32 >>> ((3 : Int32) &&& 31).toUInt32).toInt32) &&& (3 : Int32))), .val (.int a), .unset, .unset, .unset, .unset, .unset, .unset, .unset, .unset, .unset, .unset, .unset]) rfl kont) ?_
      show own_Go _ _ _ _ (s₁.setTop (mkF m 97 #[.val (.int p1), .val (.int p2), .val (.int p3), .val (.int p4), .val (.int p5), .val (.int p6), .val (.int a), .val (.int (((p6.toUInt32 >>> ((1 : Int32) &&& 31).toUInt32).toInt32) &&& (3 : Int32))), .val (.int b), .val (.int (((p6.toUInt32 >>> ((3 : Int32) &&& 31).toUInt32).toInt32) &&& (3 : Int32))), .val (.int a), .unset, .unset, .unset, .unset, .unset, .unset, .unset, .unset, .unset, .unset, .unset] []))
      refine own_go (fun _ kont => XS.goto X0.here hx rfl (pc0 := 97) (pc' := 132) rfl (hb hby at_97) (by decide) (by decide) kont) ?_
      show own_Go _ _ _ _ (s₁.setTop (mkF m 132 #[.val (.int p1), .val (.int p2), .val (.int p3), .val (.int p4), .val (.int p5), .val (.int p6), .val (.int a), .val (.int (((p6.toUInt32 >>> ((1 : Int32) &&& 31).toUInt32).toInt32) &&& (3 : Int32))), .val (.int b), .val (.int (((p6.toUInt32 >>> ((3 : Int32) &&& 31).toUInt32).toInt32) &&& (3 : Int32))), .val (.int a), .unset, .unset, .unset, .unset, .unset, .unset, .unset, .unset, .unset, .unset, .unset] []))
      exact J132 _ a1 a2
    · have _h := hb90
      refine own_go (fun _ kont => XS.ifYes X0.here hx rfl (pc0 := 90) (pc' := 100) rfl (hb hby at_90) rfl ((if0 _ _).trans (feq hb90).2) (by decide) (by decide) kont) ?_
      show own_Go _ _ _ _ (s₁.setTop (mkF m 100 #[.val (.int p1), .val (.int p2), .val (.int p3), .val (.int p4), .val (.int p5), .val (.int p6), .val (.int a), .val (.int (((p6.toUInt32 >>> ((1 : Int32) &&& 31).toUInt32).toInt32) &&& (3 : Int32))), .val (.int b), .val (.int (((p6.toUInt32 >>> ((3 : Int32) &&& 31).toUInt32).toInt32) &&& (3 : Int32))), .val (.int (p3 &&& (65535 : Int32))), .unset, .unset, .unset, .unset, .unset, .unset, .unset, .unset, .unset, .unset, .unset] []))
      refine own_go (fun _ kont => XS.iload X0.here hx rfl (hb hby at_100) rfl kont) ?_
      show own_Go _ _ _ _ (s₁.setTop (mkF m 102 #[.val (.int p1), .val (.int p2), .val (.int p3), .val (.int p4), .val (.int p5), .val (.int p6), .val (.int a), .val (.int (((p6.toUInt32 >>> ((1 : Int32) &&& 31).toUInt32).toInt32) &&& (3 : Int32))), .val (.int b), .val (.int (((p6.toUInt32 >>> ((3 : Int32) &&& 31).toUInt32).toInt32) &&& (3 : Int32))), .val (.int (p3 &&& (65535 : Int32))), .unset, .unset, .unset, .unset, .unset, .unset, .unset, .unset, .unset, .unset, .unset] [(.int (((p6.toUInt32 >>> ((3 : Int32) &&& 31).toUInt32).toInt32) &&& (3 : Int32)))]))
      refine own_go (fun _ kont => XS.iconst X0.here hx rfl (hb hby at_102) kont) ?_
      show own_Go _ _ _ _ (s₁.setTop (mkF m 103 #[.val (.int p1), .val (.int p2), .val (.int p3), .val (.int p4), .val (.int p5), .val (.int p6), .val (.int a), .val (.int (((p6.toUInt32 >>> ((1 : Int32) &&& 31).toUInt32).toInt32) &&& (3 : Int32))), .val (.int b), .val (.int (((p6.toUInt32 >>> ((3 : Int32) &&& 31).toUInt32).toInt32) &&& (3 : Int32))), .val (.int (p3 &&& (65535 : Int32))), .unset, .unset, .unset, .unset, .unset, .unset, .unset, .unset, .unset, .unset, .unset] [(.int (1 : Int32)), (.int (((p6.toUInt32 >>> ((3 : Int32) &&& 31).toUInt32).toInt32) &&& (3 : Int32)))]))
      by_cases hb103 : (((p6.toUInt32 >>> ((3 : Int32) &&& 31).toUInt32).toInt32) &&& (3 : Int32)) = (1 : Int32)
      · have _h := hb103
        refine own_go (fun _ kont => XS.icmpNo X0.here hx rfl (hb hby at_103) rfl (teq hb103).2 kont) ?_
        show own_Go _ _ _ _ (s₁.setTop (mkF m 106 #[.val (.int p1), .val (.int p2), .val (.int p3), .val (.int p4), .val (.int p5), .val (.int p6), .val (.int a), .val (.int (((p6.toUInt32 >>> ((1 : Int32) &&& 31).toUInt32).toInt32) &&& (3 : Int32))), .val (.int b), .val (.int (((p6.toUInt32 >>> ((3 : Int32) &&& 31).toUInt32).toInt32) &&& (3 : Int32))), .val (.int (p3 &&& (65535 : Int32))), .unset, .unset, .unset, .unset, .unset, .unset, .unset, .unset, .unset, .unset, .unset] []))
        refine own_go (fun _ kont => XS.iload X0.here hx rfl (hb hby at_106) rfl kont) ?_
        show own_Go _ _ _ _ (s₁.setTop (mkF m 108 #[.val (.int p1), .val (.int p2), .val (.int p3), .val (.int p4), .val (.int p5), .val (.int p6), .val (.int a), .val (.int (((p6.toUInt32 >>> ((1 : Int32) &&& 31).toUInt32).toInt32) &&& (3 : Int32))), .val (.int b), .val (.int (((p6.toUInt32 >>> ((3 : Int32) &&& 31).toUInt32).toInt32) &&& (3 : Int32))), .val (.int (p3 &&& (65535 : Int32))), .unset, .unset, .unset, .unset, .unset, .unset, .unset, .unset, .unset, .unset, .unset] [(.int b)]))
        refine own_go (fun _ kont => XS.istore X0.here hx rfl (hb hby at_108) rfl (l' := #[.val (.int p1), .val (.int p2), .val (.int p3), .val (.int p4), .val (.int p5), .val (.int p6), .val (.int a), .val (.int (((p6.toUInt32 >>> ((1 : Int32) &&& 31).toUInt32).toInt32) &&& (3 : Int32))), .val (.int b), .val (.int (((p6.toUInt32 >>> ((3 : Int32) &&& 31).toUInt32).toInt32) &&& (3 : Int32))), .val (.int b), .unset, .unset, .unset, .unset, .unset, .unset, .unset, .unset, .unset, .unset, .unset]) rfl kont) ?_
        show own_Go _ _ _ _ (s₁.setTop (mkF m 110 #[.val (.int p1), .val (.int p2), .val (.int p3), .val (.int p4), .val (.int p5), .val (.int p6), .val (.int a), .val (.int (((p6.toUInt32 >>> ((1 : Int32) &&& 31).toUInt32).toInt32) &&& (3 : Int32))), .val (.int b), .val (.int (((p6.toUInt32 >>> ((3 : Int32) &&& 31).toUInt32).toInt32) &&& (3 : Int32))), .val (.int b), .unset, .unset, .unset, .unset, .unset, .unset, .unset, .unset, .unset, .unset, .unset] []))
        refine own_go (fun _ kont => XS.goto X0.here hx rfl (pc0 := 110) (pc' := 132) rfl (hb hby at_110) (by decide) (by decide) kont) ?_
        show own_Go _ _ _ _ (s₁.setTop (mkF m 132 #[.val (.int p1), .val (.int p2), .val (.int p3), .val (.int p4), .val (.int p5), .val (.int p6), .val (.int a), .val (.int (((p6.toUInt32 >>> ((1 : Int32) &&& 31).toUInt32).toInt32) &&& (3 : Int32))), .val (.int b), .val (.int (((p6.toUInt32 >>> ((3 : Int32) &&& 31).toUInt32).toInt32) &&& (3 : Int32))), .val (.int b), .unset, .unset, .unset, .unset, .unset, .unset, .unset, .unset, .unset, .unset, .unset] []))
        exact J132 _ b1 b2
      · have _h := hb103
        refine own_go (fun _ kont => XS.icmpYes X0.here hx rfl (pc0 := 103) (pc' := 113) rfl (hb hby at_103) rfl (feq hb103).2 (by decide) (by decide) kont) ?_
        show own_Go _ _ _ _ (s₁.setTop (mkF m 113 #[.val (.int p1), .val (.int p2), .val (.int p3), .val (.int p4), .val (.int p5), .val (.int p6), .val (.int a), .val (.int (((p6.toUInt32 >>> ((1 : Int32) &&& 31).toUInt32).toInt32) &&& (3 : Int32))), .val (.int b), .val (.int (((p6.toUInt32 >>> ((3 : Int32) &&& 31).toUInt32).toInt32) &&& (3 : Int32))), .val (.int (p3 &&& (65535 : Int32))), .unset, .unset, .unset, .unset, .unset, .unset, .unset, .unset, .unset, .unset, .unset] []))
        refine own_go (fun _ kont => XS.iload X0.here hx rfl (hb hby at_113) rfl kont) ?_
        show own_Go _ _ _ _ (s₁.setTop (mkF m 115 #[.val (.int p1), .val (.int p2), .val (.int p3), .val (.int p4), .val (.int p5), .val (.int p6), .val (.int a), .val (.int (((p6.toUInt32 >>> ((1 : Int32) &&& 31).toUInt32).toInt32) &&& (3 : Int32))), .val (.int b), .val (.int (((p6.toUInt32 >>> ((3 : Int32) &&& 31).toUInt32).toInt32) &&& (3 : Int32))), .val (.int (p3 &&& (65535 : Int32))), .unset, .unset, .unset, .unset, .unset, .unset, .unset, .unset, .unset, .unset, .unset] [(.int (((p6.toUInt32 >>> ((3 : Int32) &&& 31).toUInt32).toInt32) &&& (3 : Int32)))]))
        refine own_go (fun _ kont => XS.iconst X0.here hx rfl (hb hby at_115) kont) ?_
        show own_Go _ _ _ _ (s₁.setTop (mkF m 116 #[.val (.int p1), .val (.int p2), .val (.int p3), .val (.int p4), .val (.int p5), .val (.int p6), .val (.int a), .val (.int (((p6.toUInt32 >>> ((1 : Int32) &&& 31).toUInt32).toInt32) &&& (3 : Int32))), .val (.int b), .val (.int (((p6.toUInt32 >>> ((3 : Int32) &&& 31).toUInt32).toInt32) &&& (3 : Int32))), .val (.int (p3 &&& (65535 : Int32))), .unset, .unset, .unset, .unset, .unset, .unset, .unset, .unset, .unset, .unset, .unset] [(.int (3 : Int32)), (.int (((p6.toUInt32 >>> ((3 : Int32) &&& 31).toUInt32).toInt32) &&& (3 : Int32)))]))
        by_cases hb116 : (((p6.toUInt32 >>> ((3 : Int32) &&& 31).toUInt32).toInt32) &&& (3 : Int32)) = (3 : Int32)
        · have _h := hb116
          refine own_go (fun _ kont => XS.icmpNo X0.here hx rfl (hb hby at_116) rfl (teq hb116).2 kont) ?_
          show own_Go _ _ _ _ (s₁.setTop (mkF m 119 #[.val (.int p1), .val (.int p2), .val (.int p3), .val (.int p4), .val (.int p5), .val (.int p6), .val (.int a), .val (.int (((p6.toUInt32 >>> ((1 : Int32) &&& 31).toUInt32).toInt32) &&& (3 : Int32))), .val (.int b), .val (.int (((p6.toUInt32 >>> ((3 : Int32) &&& 31).toUInt32).toInt32) &&& (3 : Int32))), .val (.int (p3 &&& (65535 : Int32))), .unset, .unset, .unset, .unset, .unset, .unset, .unset, .unset, .unset, .unset, .unset] []))
          refine own_go (fun _ kont => XS.iload X0.here hx rfl (hb hby at_119) rfl kont) ?_
          show own_Go _ _ _ _ (s₁.setTop (mkF m 121 #[.val (.int p1), .val (.int p2), .val (.int p3), .val (.int p4), .val (.int p5), .val (.int p6), .val (.int a), .val (.int (((p6.toUInt32 >>> ((1 : Int32) &&& 31).toUInt32).toInt32) &&& (3 : Int32))), .val (.int b), .val (.int (((p6.toUInt32 >>> ((3 : Int32) &&& 31).toUInt32).toInt32) &&& (3 : Int32))), .val (.int (p3 &&& (65535 : Int32))), .unset, .unset, .unset, .unset, .unset, .unset, .unset, .unset, .unset, .unset, .unset] [(.int a)]))
          refine own_go (X0.ldcInt hx hown (mvT hZ (hw _ (List.mem_of_getElem? (i := 1) rfl))) (g := (mkF m 121 #[.val (.int p1), .val (.int p2), .val (.int p3), .val (.int p4), .val (.int p5), .val (.int p6), .val (.int a), .val (.int (((p6.toUInt32 >>> ((1 : Int32) &&& 31).toUInt32).toInt32) &&& (3 : Int32))), .val (.int b), .val (.int (((p6.toUInt32 >>> ((3 : Int32) &&& 31).toUInt32).toInt32) &&& (3 : Int32))), .val (.int (p3 &&& (65535 : Int32))), .unset, .unset, .unset, .unset, .unset, .unset, .unset, .unset, .unset, .unset, .unset] [(.int a)])) rfl (hb hby at_121)) ?_
          show own_Go _ _ _ _ (s₁.setTop (mkF m 123 #[.val (.int p1), .val (.int p2), .val (.int p3), .val (.int p4), .val (.int p5), .val (.int p6), .val (.int a), .val (.int (((p6.toUInt32 >>> ((1 : Int32) &&& 31).toUInt32).toInt32) &&& (3 : Int32))), .val (.int b), .val (.int (((p6.toUInt32 >>> ((3 : Int32) &&& 31).toUInt32).toInt32) &&& (3 : Int32))), .val (.int (p3 &&& (65535 : Int32))), .unset, .unset, .unset, .unset, .unset, .unset, .unset, .unset, .unset, .unset, .unset] [(.int (65280 : Int32)), (.int a)]))
          refine own_go (fun _ kont => XS.iand X0.here hx rfl (hb hby at_123) rfl kont) ?_
          show own_Go _ _ _ _ (s₁.setTop (mkF m 124 #[.val (.int p1), .val (.int p2), .val (.int p3), .val (.int p4), .val (.int p5), .val (.int p6), .val (.int a), .val (.int (((p6.toUInt32 >>> ((1 : Int32) &&& 31).toUInt32).toInt32) &&& (3 : Int32))), .val (.int b), .val (.int (((p6.toUInt32 >>> ((3 : Int32) &&& 31).toUInt32).toInt32) &&& (3 : Int32))), .val (.int (p3 &&& (65535 : Int32))), .unset, .unset, .unset, .unset, .unset, .unset, .unset, .unset, .unset, .unset, .unset] [(.int (a &&& (65280 : Int32)))]))
          refine own_go (fun _ kont => XS.iloadN X0.here hx rfl (hb hby at_124) rfl kont) ?_
          show own_Go _ _ _ _ (s₁.setTop (mkF m 125 #[.val (.int p1), .val (.int p2), .val (.int p3), .val (.int p4), .val (.int p5), .val (.int p6), .val (.int a), .val (.int (((p6.toUInt32 >>> ((1 : Int32) &&& 31).toUInt32).toInt32) &&& (3 : Int32))), .val (.int b), .val (.int (((p6.toUInt32 >>> ((3 : Int32) &&& 31).toUInt32).toInt32) &&& (3 : Int32))), .val (.int (p3 &&& (65535 : Int32))), .unset, .unset, .unset, .unset, .unset, .unset, .unset, .unset, .unset, .unset, .unset] [(.int p3), (.int (a &&& (65280 : Int32)))]))
          refine own_go (fun _ kont => XS.sipush X0.here hx rfl (hb hby at_125) kont) ?_
          show own_Go _ _ _ _ (s₁.setTop (mkF m 128 #[.val (.int p1), .val (.int p2), .val (.int p3), .val (.int p4), .val (.int p5), .val (.int p6), .val (.int a), .val (.int (((p6.toUInt32 >>> ((1 : Int32) &&& 31).toUInt32).toInt32) &&& (3 : Int32))), .val (.int b), .val (.int (((p6.toUInt32 >>> ((3 : Int32) &&& 31).toUInt32).toInt32) &&& (3 : Int32))), .val (.int (p3 &&& (65535 : Int32))), .unset, .unset, .unset, .unset, .unset, .unset, .unset, .unset, .unset, .unset, .unset] [(.int (255 : Int32)), (.int p3), (.int (a &&& (65280 : Int32)))]))
          refine own_go (fun _ kont => XS.iand X0.here hx rfl (hb hby at_128) rfl kont) ?_
          show own_Go _ _ _ _ (s₁.setTop (mkF m 129 #[.val (.int p1), .val (.int p2), .val (.int p3), .val (.int p4), .val (.int p5), .val (.int p6), .val (.int a), .val (.int (((p6.toUInt32 >>> ((1 : Int32) &&& 31).toUInt32).toInt32) &&& (3 : Int32))), .val (.int b), .val (.int (((p6.toUInt32 >>> ((3 : Int32) &&& 31).toUInt32).toInt32) &&& (3 : Int32))), .val (.int (p3 &&& (65535 : Int32))), .unset, .unset, .unset, .unset, .unset, .unset, .unset, .unset, .unset, .unset, .unset] [(.int (p3 &&& (255 : Int32))), (.int (a &&& (65280 : Int32)))]))
          refine own_go (fun _ kont => XS.ior X0.here hx rfl (hb hby at_129) rfl kont) ?_
          show own_Go _ _ _ _ (s₁.setTop (mkF m 130 #[.val (.int p1), .val (.int p2), .val (.int p3), .val (.int p4), .val (.int p5), .val (.int p6), .val (.int a), .val (.int (((p6.toUInt32 >>> ((1 : Int32) &&& 31).toUInt32).toInt32) &&& (3 : Int32))), .val (.int b), .val (.int (((p6.toUInt32 >>> ((3 : Int32) &&& 31).toUInt32).toInt32) &&& (3 : Int32))), .val (.int (p3 &&& (65535 : Int32))), .unset, .unset, .unset, .unset, .unset, .unset, .unset, .unset, .unset, .unset, .unset] [(.int ((a &&& (65280 : Int32)) ||| (p3 &&& (255 : Int32))))]))
          refine own_go (fun _ kont => XS.istore X0.here hx rfl (hb hby at_130) rfl (l' := #[.val (.int p1), .val (.int p2), .val (.int p3), .val (.int p4), .val (.int p5), .val (.int p6), .val (.int a), .val (.int (((p6.toUInt32 >>> ((1 : Int32) &&& 31).toUInt32).toInt32) &&& (3 : Int32))), .val (.int b), .val (.int (((p6.toUInt32 >>> ((3 : Int32) &&& 31).toUInt32).toInt32) &&& (3 : Int32))), .val (.int ((a &&& (65280 : Int32)) ||| (p3 &&& (255 : Int32)))), .unset, .unset, .unset, .unset, .unset, .unset, .unset, .unset, .unset, .unset, .unset]) rfl kont) ?_
          show own_Go _ _ _ _ (s₁.setTop (mkF m 132 #[.val (.int p1), .val (.int p2), .val (.int p3), .val (.int p4), .val (.int p5), .val (.int p6), .val (.int a), .val (.int (((p6.toUInt32 >>> ((1 : Int32) &&& 31).toUInt32).toInt32) &&& (3 : Int32))), .val (.int b), .val (.int (((p6.toUInt32 >>> ((3 : Int32) &&& 31).toUInt32).toInt32) &&& (3 : Int32))), .val (.int ((a &&& (65280 : Int32)) ||| (p3 &&& (255 : Int32)))), .unset, .unset, .unset, .unset, .unset, .unset, .unset, .unset, .unset, .unset, .unset] []))
          exact J132 _ (own_b16 _ _).1 (own_b16 _ _).2
        · have _h := hb116
          refine own_go (fun _ kont => XS.icmpYes X0.here hx rfl (pc0 := 116) (pc' := 132) rfl (hb hby at_116) rfl (feq hb116).2 (by decide) (by decide) kont) ?_
          show own_Go _ _ _ _ (s₁.setTop (mkF m 132 #[.val (.int p1), .val (.int p2), .val (.int p3), .val (.int p4), .val (.int p5), .val (.int p6), .val (.int a), .val (.int (((p6.toUInt32 >>> ((1 : Int32) &&& 31).toUInt32).toInt32) &&& (3 : Int32))), .val (.int b), .val (.int (((p6.toUInt32 >>> ((3 : Int32) &&& 31).toUInt32).toInt32) &&& (3 : Int32))), .val (.int (p3 &&& (65535 : Int32))), .unset, .unset, .unset, .unset, .unset, .unset, .unset, .unset, .unset, .unset, .unset] []))
          exact J132 _ (own_m16 p3).1 (own_m16 p3).2
  by_cases hb23 : (((p6.toUInt32 >>> ((1 : Int32) &&& 31).toUInt32).toInt32) &&& (3 : Int32)) = (1 : Int32)
  · have _h := hb23
    refine own_go (fun _ kont => XS.icmpNo X0.here hx rfl (hb hby at_23) rfl (teq hb23).2 kont) ?_
    show own_Go _ _ _ _ (s₁.setTop (mkF m 26 #[.val (.int p1), .val (.int p2), .val (.int p3), .val (.int p4), .val (.int p5), .val (.int p6), .val (.int a), .val (.int (((p6.toUInt32 >>> ((1 : Int32) &&& 31).toUInt32).toInt32) &&& (3 : Int32))), .val (.int (p2 &&& (65535 : Int32))), .unset, .unset, .unset, .unset, .unset, .unset, .unset, .unset, .unset, .unset, .unset, .unset, .unset] []))
    refine own_go (fun _ kont => XS.iload X0.here hx rfl (hb hby at_26) rfl kont) ?_
    show own_Go _ _ _ _ (s₁.setTop (mkF m 28 #[.val (.int p1), .val (.int p2), .val (.int p3), .val (.int p4), .val (.int p5), .val (.int p6), .val (.int a), .val (.int (((p6.toUInt32 >>> ((1 : Int32) &&& 31).toUInt32).toInt32) &&& (3 : Int32))), .val (.int (p2 &&& (65535 : Int32))), .unset, .unset, .unset, .unset, .unset, .unset, .unset, .unset, .unset, .unset, .unset, .unset, .unset] [(.int a)]))
    refine own_go (X0.ldcInt hx hown (mvT hZ (hw _ (List.mem_of_getElem? (i := 1) rfl))) (g := (mkF m 28 #[.val (.int p1), .val (.int p2), .val (.int p3), .val (.int p4), .val (.int p5), .val (.int p6), .val (.int a), .val (.int (((p6.toUInt32 >>> ((1 : Int32) &&& 31).toUInt32).toInt32) &&& (3 : Int32))), .val (.int (p2 &&& (65535 : Int32))), .unset, .unset, .unset, .unset, .unset, .unset, .unset, .unset, .unset, .unset, .unset, .unset, .unset] [(.int a)])) rfl (hb hby at_28)) ?_
    show own_Go _ _ _ _ (s₁.setTop (mkF m 30 #[.val (.int p1), .val (.int p2), .val (.int p3), .val (.int p4), .val (.int p5), .val (.int p6), .val (.int a), .val (.int (((p6.toUInt32 >>> ((1 : Int32) &&& 31).toUInt32).toInt32) &&& (3 : Int32))), .val (.int (p2 &&& (65535 : Int32))), .unset, .unset, .unset, .unset, .unset, .unset, .unset, .unset, .unset, .unset, .unset, .unset, .unset] [(.int (65280 : Int32)), (.int a)]))
    refine own_go (fun _ kont => XS.iand X0.here hx rfl (hb hby at_30) rfl kont) ?_
    show own_Go _ _ _ _ (s₁.setTop (mkF m 31 #[.val (.int p1), .val (.int p2), .val (.int p3), .val (.int p4), .val (.int p5), .val (.int p6), .val (.int a), .val (.int (((p6.toUInt32 >>> ((1 : Int32) &&& 31).toUInt32).toInt32) &&& (3 : Int32))), .val (.int (p2 &&& (65535 : Int32))), .unset, .unset, .unset, .unset, .unset, .unset, .unset, .unset, .unset, .unset, .unset, .unset, .unset] [(.int (a &&& (65280 : Int32)))]))
    refine own_go (fun _ kont => XS.iloadN X0.here hx rfl (hb hby at_31) rfl kont) ?_
    show own_Go _ _ _ _ (s₁.setTop (mkF m 32 #[.val (.int p1), .val (.int p2), .val (.int p3), .val (.int p4), .val (.int p5), .val (.int p6), .val (.int a), .val (.int (((p6.toUInt32 >>> ((1 : Int32) &&& 31).toUInt32).toInt32) &&& (3 : Int32))), .val (.int (p2 &&& (65535 : Int32))), .unset, .unset, .unset, .unset, .unset, .unset, .unset, .unset, .unset, .unset, .unset, .unset, .unset] [(.int p2), (.int (a &&& (65280 : Int32)))]))
    refine own_go (fun _ kont => XS.sipush X0.here hx rfl (hb hby at_32) kont) ?_
    show own_Go _ _ _ _ (s₁.setTop (mkF m 35 #[.val (.int p1), .val (.int p2), .val (.int p3), .val (.int p4), .val (.int p5), .val (.int p6), .val (.int a), .val (.int (((p6.toUInt32 >>> ((1 : Int32) &&& 31).toUInt32).toInt32) &&& (3 : Int32))), .val (.int (p2 &&& (65535 : Int32))), .unset, .unset, .unset, .unset, .unset, .unset, .unset, .unset, .unset, .unset, .unset, .unset, .unset] [(.int (255 : Int32)), (.int p2), (.int (a &&& (65280 : Int32)))]))
    refine own_go (fun _ kont => XS.iand X0.here hx rfl (hb hby at_35) rfl kont) ?_
    show own_Go _ _ _ _ (s₁.setTop (mkF m 36 #[.val (.int p1), .val (.int p2), .val (.int p3), .val (.int p4), .val (.int p5), .val (.int p6), .val (.int a), .val (.int (((p6.toUInt32 >>> ((1 : Int32) &&& 31).toUInt32).toInt32) &&& (3 : Int32))), .val (.int (p2 &&& (65535 : Int32))), .unset, .unset, .unset, .unset, .unset, .unset, .unset, .unset, .unset, .unset, .unset, .unset, .unset] [(.int (p2 &&& (255 : Int32))), (.int (a &&& (65280 : Int32)))]))
    refine own_go (fun _ kont => XS.ior X0.here hx rfl (hb hby at_36) rfl kont) ?_
    show own_Go _ _ _ _ (s₁.setTop (mkF m 37 #[.val (.int p1), .val (.int p2), .val (.int p3), .val (.int p4), .val (.int p5), .val (.int p6), .val (.int a), .val (.int (((p6.toUInt32 >>> ((1 : Int32) &&& 31).toUInt32).toInt32) &&& (3 : Int32))), .val (.int (p2 &&& (65535 : Int32))), .unset, .unset, .unset, .unset, .unset, .unset, .unset, .unset, .unset, .unset, .unset, .unset, .unset] [(.int ((a &&& (65280 : Int32)) ||| (p2 &&& (255 : Int32))))]))
    refine own_go (fun _ kont => XS.istore X0.here hx rfl (hb hby at_37) rfl (l' := #[.val (.int p1), .val (.int p2), .val (.int p3), .val (.int p4), .val (.int p5), .val (.int p6), .val (.int a), .val (.int (((p6.toUInt32 >>> ((1 : Int32) &&& 31).toUInt32).toInt32) &&& (3 : Int32))), .val (.int ((a &&& (65280 : Int32)) ||| (p2 &&& (255 : Int32)))), .unset, .unset, .unset, .unset, .unset, .unset, .unset, .unset, .unset, .unset, .unset, .unset, .unset]) rfl kont) ?_
    show own_Go _ _ _ _ (s₁.setTop (mkF m 39 #[.val (.int p1), .val (.int p2), .val (.int p3), .val (.int p4), .val (.int p5), .val (.int p6), .val (.int a), .val (.int (((p6.toUInt32 >>> ((1 : Int32) &&& 31).toUInt32).toInt32) &&& (3 : Int32))), .val (.int ((a &&& (65280 : Int32)) ||| (p2 &&& (255 : Int32)))), .unset, .unset, .unset, .unset, .unset, .unset, .unset, .unset, .unset, .unset, .unset, .unset, .unset] []))
    refine own_go (fun _ kont => XS.goto X0.here hx rfl (pc0 := 39) (pc' := 74) rfl (hb hby at_39) (by decide) (by decide) kont) ?_
    show own_Go _ _ _ _ (s₁.setTop (mkF m 74 #[.val (.int p1), .val (.int p2), .val (.int p3), .val (.int p4), .val (.int p5), .val (.int p6), .val (.int a), .val (.int (((p6.toUInt32 >>> ((1 : Int32) &&& 31).toUInt32).toInt32) &&& (3 : Int32))), .val (.int ((a &&& (65280 : Int32)) ||| (p2 &&& (255 : Int32)))), .unset, .unset, .unset, .unset, .unset, .unset, .unset, .unset, .unset, .unset, .unset, .unset, .unset] []))
    exact J74 _ (own_b16 _ _).1 (own_b16 _ _).2
  · have _h := hb23
    refine own_go (fun _ kont => XS.icmpYes X0.here hx rfl (pc0 := 23) (pc' := 42) rfl (hb hby at_23) rfl (feq hb23).2 (by decide) (by decide) kont) ?_
    show own_Go _ _ _ _ (s₁.setTop (mkF m 42 #[.val (.int p1), .val (.int p2), .val (.int p3), .val (.int p4), .val (.int p5), .val (.int p6), .val (.int a), .val (.int (((p6.toUInt32 >>> ((1 : Int32) &&& 31).toUInt32).toInt32) &&& (3 : Int32))), .val (.int (p2 &&& (65535 : Int32))), .unset, .unset, .unset, .unset, .unset, .unset, .unset, .unset, .unset, .unset, .unset, .unset, .unset] []))
    refine own_go (fun _ kont => XS.iload X0.here hx rfl (hb hby at_42) rfl kont) ?_
    show own_Go _ _ _ _ (s₁.setTop (mkF m 44 #[.val (.int p1), .val (.int p2), .val (.int p3), .val (.int p4), .val (.int p5), .val (.int p6), .val (.int a), .val (.int (((p6.toUInt32 >>> ((1 : Int32) &&& 31).toUInt32).toInt32) &&& (3 : Int32))), .val (.int (p2 &&& (65535 : Int32))), .unset, .unset, .unset, .unset, .unset, .unset, .unset, .unset, .unset, .unset, .unset, .unset, .unset] [(.int (((p6.toUInt32 >>> ((1 : Int32) &&& 31).toUInt32).toInt32) &&& (3 : Int32)))]))
    refine own_go (fun _ kont => XS.iconst X0.here hx rfl (hb hby at_44) kont) ?_
    show own_Go _ _ _ _ (s₁.setTop (mkF m 45 #[.val (.int p1), .val (.int p2), .val (.int p3), .val (.int p4), .val (.int p5), .val (.int p6), .val (.int a), .val (.int (((p6.toUInt32 >>> ((1 : Int32) &&& 31).toUInt32).toInt32) &&& (3 : Int32))), .val (.int (p2 &&& (65535 : Int32))), .unset, .unset, .unset, .unset, .unset, .unset, .unset, .unset, .unset, .unset, .unset, .unset, .unset] [(.int (2 : Int32)), (.int (((p6.toUInt32 >>> ((1 : Int32) &&& 31).toUInt32).toInt32) &&& (3 : Int32)))]))
    by_cases hb45 : (((p6.toUInt32 >>> ((1 : Int32) &&& 31).toUInt32).toInt32) &&& (3 : Int32)) = (2 : Int32)
    · have _h := hb45
      refine own_go (fun _ kont => XS.icmpNo X0.here hx rfl (hb hby at_45) rfl (teq hb45).2 kont) ?_
      show own_Go _ _ _ _ (s₁.setTop (mkF m 48 #[.val (.int p1), .val (.int p2), .val (.int p3), .val (.int p4), .val (.int p5), .val (.int p6), .val (.int a), .val (.int (((p6.toUInt32 >>> ((1 : Int32) &&& 31).toUInt32).toInt32) &&& (3 : Int32))), .val (.int (p2 &&& (65535 : Int32))), .unset, .unset, .unset, .unset, .unset, .unset, .unset, .unset, .unset, .unset, .unset, .unset, .unset] []))
      refine own_go (fun _ kont => XS.iloadN X0.here hx rfl (hb hby at_48) rfl kont) ?_
      show own_Go _ _ _ _ (s₁.setTop (mkF m 49 #[.val (.int p1), .val (.int p2), .val (.int p3), .val (.int p4), .val (.int p5), .val (.int p6), .val (.int a), .val (.int (((p6.toUInt32 >>> ((1 : Int32) &&& 31).toUInt32).toInt32) &&& (3 : Int32))), .val (.int (p2 &&& (65535 : Int32))), .unset, .unset, .unset, .unset, .unset, .unset, .unset, .unset, .unset, .unset, .unset, .unset, .unset] [(.int p2)]))
      refine own_go (X0.ldcInt hx hown (mvT hZ (hw _ (List.mem_of_getElem? (i := 1) rfl))) (g := (mkF m 49 #[.val (.int p1), .val (.int p2), .val (.int p3), .val (.int p4), .val (.int p5), .val (.int p6), .val (.int a), .val (.int (((p6.toUInt32 >>> ((1 : Int32) &&& 31).toUInt32).toInt32) &&& (3 : Int32))), .val (.int (p2 &&& (65535 : Int32))), .unset, .unset, .unset, .unset, .unset, .unset, .unset, .unset, .unset, .unset, .unset, .unset, .unset] [(.int p2)])) rfl (hb hby at_49)) ?_
      show own_Go _ _ _ _ (s₁.setTop (mkF m 51 #[.val (.int p1), .val (.int p2), .val (.int p3), .val (.int p4), .val (.int p5), .val (.int p6), .val (.int a), .val (.int (((p6.toUInt32 >>> ((1 : Int32) &&& 31).toUInt32).toInt32) &&& (3 : Int32))), .val (.int (p2 &&& (65535 : Int32))), .unset, .unset, .unset, .unset, .unset, .unset, .unset, .unset, .unset, .unset, .unset, .unset, .unset] [(.int (65280 : Int32)), (.int p2)]))
      refine own_go (fun _ kont => XS.iand X0.here hx rfl (hb hby at_51) rfl kont) ?_
      show own_Go _ _ _ _ (s₁.setTop (mkF m 52 #[.val (.int p1), .val (.int p2), .val (.int p3), .val (.int p4), .val (.int p5), .val (.int p6), .val (.int a), .val (.int (((p6.toUInt32 >>> ((1 : Int32) &&& 31).toUInt32).toInt32) &&& (3 : Int32))), .val (.int (p2 &&& (65535 : Int32))), .unset, .unset, .unset, .unset, .unset, .unset, .unset, .unset, .unset, .unset, .unset, .unset, .unset] [(.int (p2 &&& (65280 : Int32)))]))
      refine own_go (fun _ kont => XS.iload X0.here hx rfl (hb hby at_52) rfl kont) ?_
      show own_Go _ _ _ _ (s₁.setTop (mkF m 54 #[.val (.int p1), .val (.int p2), .val (.int p3), .val (.int p4), .val (.int p5), .val (.int p6), .val (.int a), .val (.int (((p6.toUInt32 >>> ((1 : Int32) &&& 31).toUInt32).toInt32) &&& (3 : Int32))), .val (.int (p2 &&& (65535 : Int32))), .unset, .unset, .unset, .unset, .unset, .unset, .unset, .unset, .unset, .unset, .unset, .unset, .unset] [(.int a), (.int (p2 &&& (65280 : Int32)))]))
      refine own_go (fun _ kont => XS.sipush X0.here hx rfl (hb hby at_54) kont) ?_
      show own_Go _ _ _ _ (s₁.setTop (mkF m 57 #[.val (.int p1), .val (.int p2), .val (.int p3), .val (.int p4), .val (.int p5), .val (.int p6), .val (.int a), .val (.int (((p6.toUInt32 >>> ((1 : Int32) &&& 31).toUInt32).toInt32) &&& (3 : Int32))), .val (.int (p2 &&& (65535 : Int32))), .unset, .unset, .unset, .unset, .unset, .unset, .unset, .unset, .unset, .unset, .unset, .unset, .unset] [(.int (255 : Int32)), (.int a), (.int (p2 &&& (65280 : Int32)))]))
      refine own_go (fun _ kont => XS.iand X0.here hx rfl (hb hby at_57) rfl kont) ?_
      show own_Go _ _ _ _ (s₁.setTop (mkF m 58 #[.val (.int p1), .val (.int p2), .val (.int p3), .val (.int p4), .val (.int p5), .val (.int p6), .val (.int a), .val (.int (((p6.toUInt32 >>> ((1 : Int32) &&& 31).toUInt32).toInt32) &&& (3 : Int32))), .val (.int (p2 &&& (65535 : Int32))), .unset, .unset, .unset, .unset, .unset, .unset, .unset, .unset, .unset, .unset, .unset, .unset, .unset] [(.int (a &&& (255 : Int32))), (.int (p2 &&& (65280 : Int32)))]))
      refine own_go (fun _ kont => XS.ior X0.here hx rfl (hb hby at_58) rfl kont) ?_
      show own_Go _ _ _ _ (s₁.setTop (mkF m 59 #[.val (.int p1), .val (.int p2), .val (.int p3), .val (.int p4), .val (.int p5), .val (.int p6), .val (.int a), .val (.int (((p6.toUInt32 >>> ((1 : Int32) &&& 31).toUInt32).toInt32) &&& (3 : Int32))), .val (.int (p2 &&& (65535 : Int32))), .unset, .unset, .unset, .unset, .unset, .unset, .unset, .unset, .unset, .unset, .unset, .unset, .unset] [(.int ((p2 &&& (65280 : Int32)) ||| (a &&& (255 : Int32))))]))
      refine own_go (fun _ kont => XS.istore X0.here hx rfl (hb hby at_59) rfl (l' := #[.val (.int p1), .val (.int p2), .val (.int p3), .val (.int p4), .val (.int p5), .val (.int p6), .val (.int a), .val (.int (((p6.toUInt32 >>> ((1 : Int32) &&& 31).toUInt32).toInt32) &&& (3 : Int32))), .val (.int ((p2 &&& (65280 : Int32)) ||| (a &&& (255 : Int32)))), .unset, .unset, .unset, .unset, .unset, .unset, .unset, .unset, .unset, .unset, .unset, .unset, .unset]) rfl kont) ?_
      show own_Go _ _ _ _ (s₁.setTop (mkF m 61 #[.val (.int p1), .val (.int p2), .val (.int p3), .val (.int p4), .val (.int p5), .val (.int p6), .val (.int a), .val (.int (((p6.toUInt32 >>> ((1 : Int32) &&& 31).toUInt32).toInt32) &&& (3 : Int32))), .val (.int ((p2 &&& (65280 : Int32)) ||| (a &&& (255 : Int32)))), .unset, .unset, .unset, .unset, .unset, .unset, .unset, .unset, .unset, .unset, .unset, .unset, .unset] []))
      refine own_go (fun _ kont => XS.goto X0.here hx rfl (pc0 := 61) (pc' := 74) rfl (hb hby at_61) (by decide) (by decide) kont) ?_
      show own_Go _ _ _ _ (s₁.setTop (mkF m 74 #[.val (.int p1), .val (.int p2), .val (.int p3), .val (.int p4), .val (.int p5), .val (.int p6), .val (.int a), .val (.int (((p6.toUInt32 >>> ((1 : Int32) &&& 31).toUInt32).toInt32) &&& (3 : Int32))), .val (.int ((p2 &&& (65280 : Int32)) ||| (a &&& (255 : Int32)))), .unset, .unset, .unset, .unset, .unset, .unset, .unset, .unset, .unset, .unset, .unset, .unset, .unset] []))
      exact J74 _ (own_b16 _ _).1 (own_b16 _ _).2
    · have _h := hb45
      refine own_go (fun _ kont => XS.icmpYes X0.here hx rfl (pc0 := 45) (pc' := 64) rfl (hb hby at_45) rfl (feq hb45).2 (by decide) (by decide) kont) ?_
      show own_Go _ _ _ _ (s₁.setTop (mkF m 64 #[.val (.int p1), .val (.int p2), .val (.int p3), .val (.int p4), .val (.int p5), .val (.int p6), .val (.int a), .val (.int (((p6.toUInt32 >>> ((1 : Int32) &&& 31).toUInt32).toInt32) &&& (3 : Int32))), .val (.int (p2 &&& (65535 : Int32))), .unset, .unset, .unset, .unset, .unset, .unset, .unset, .unset, .unset, .unset, .unset, .unset, .unset] []))
      refine own_go (fun _ kont => XS.iload X0.here hx rfl (hb hby at_64) rfl kont) ?_
      show own_Go _ _ _ _ (s₁.setTop (mkF m 66 #[.val (.int p1), .val (.int p2), .val (.int p3), .val (.int p4), .val (.int p5), .val (.int p6), .val (.int a), .val (.int (((p6.toUInt32 >>> ((1 : Int32) &&& 31).toUInt32).toInt32) &&& (3 : Int32))), .val (.int (p2 &&& (65535 : Int32))), .unset, .unset, .unset, .unset, .unset, .unset, .unset, .unset, .unset, .unset, .unset, .unset, .unset] [(.int (((p6.toUInt32 >>> ((1 : Int32) &&& 31).toUInt32).toInt32) &&& (3 : Int32)))]))
      refine own_go (fun _ kont => XS.iconst X0.here hx rfl (hb hby at_66) kont) ?_
      show own_Go _ _ _ _ (s₁.setTop (mkF m 67 #[.val (.int p1), .val (.int p2), .val (.int p3), .val (.int p4), .val (.int p5), .val (.int p6), .val (.int a), .val (.int (((p6.toUInt32 >>> ((1 : Int32) &&& 31).toUInt32).toInt32) &&& (3 : Int32))), .val (.int (p2 &&& (65535 : Int32))), .unset, .unset, .unset, .unset, .unset, .unset, .unset, .unset, .unset, .unset, .unset, .unset, .unset] [(.int (3 : Int32)), (.int (((p6.toUInt32 >>> ((1 : Int32) &&& 31).toUInt32).toInt32) &&& (3 : Int32)))]))
      by_cases hb67 : (((p6.toUInt32 >>> ((1 : Int32) &&& 31).toUInt32).toInt32) &&& (3 : Int32)) = (3 : Int32)
      · have _h := hb67
        refine own_go (fun _ kont => XS.icmpNo X0.here hx rfl (hb hby at_67) rfl (teq hb67).2 kont) ?_
        show own_Go _ _ _ _ (s₁.setTop (mkF m 70 #[.val (.int p1), .val (.int p2), .val (.int p3), .val (.int p4), .val (.int p5), .val (.int p6), .val (.int a), .val (.int (((p6.toUInt32 >>> ((1 : Int32) &&& 31).toUInt32).toInt32) &&& (3 : Int32))), .val (.int (p2 &&& (65535 : Int32))), .unset, .unset, .unset, .unset, .unset, .unset, .unset, .unset, .unset, .unset, .unset, .unset, .unset] []))
        refine own_go (fun _ kont => XS.iload X0.here hx rfl (hb hby at_70) rfl kont) ?_
        show own_Go _ _ _ _ (s₁.setTop (mkF m 72 #[.val (.int p1), .val (.int p2), .val (.int p3), .val (.int p4), .val (.int p5), .val (.int p6), .val (.int a), .val (.int (((p6.toUInt32 >>> ((1 : Int32) &&& 31).toUInt32).toInt32) &&& (3 : Int32))), .val (.int (p2 &&& (65535 : Int32))), .unset, .unset, .unset, .unset, .unset, .unset, .unset, .unset, .unset, .unset, .unset, .unset, .unset] [(.int a)]))
        refine own_go (fun _ kont => XS.istore X0.here hx rfl (hb hby at_72) rfl (l' := #[.val (.int p1), .val (.int p2), .val (.int p3), .val (.int p4), .val (.int p5), .val (.int p6), .val (.int a), .val (.int (((p6.toUInt32 >>> ((1 : Int32) &&& 31).toUInt32).toInt32) &&& (3 : Int32))), .val (.int a), .unset, .unset, .unset, .unset, .unset, .unset, .unset, .unset, .unset, .unset, .unset, .unset, .unset]) rfl kont) ?_
        show own_Go _ _ _ _ (s₁.setTop (mkF m 74 #[.val (.int p1), .val (.int p2), .val (.int p3), .val (.int p4), .val (.int p5), .val (.int p6), .val (.int a), .val (.int (((p6.toUInt32 >>> ((1 : Int32) &&& 31).toUInt32).toInt32) &&& (3 : Int32))), .val (.int a), .unset, .unset, .unset, .unset, .unset, .unset, .unset, .unset, .unset, .unset, .unset, .unset, .unset] []))
        exact J74 _ a1 a2
      · have _h := hb67
        refine own_go (fun _ kont => XS.icmpYes X0.here hx rfl (pc0 := 67) (pc' := 74) rfl (hb hby at_67) rfl (feq hb67).2 (by decide) (by decide) kont) ?_
        show own_Go _ _ _ _ (s₁.setTop (mkF m 74 #[.val (.int p1), .val (.int p2), .val (.int p3), .val (.int p4), .val (.int p5), .val (.int p6), .val (.int a), .val (.int (((p6.toUInt32 >>> ((1 : Int32) &&& 31).toUInt32).toInt32) &&& (3 : Int32))), .val (.int (p2 &&& (65535 : Int32))), .unset, .unset, .unset, .unset, .unset, .unset, .unset, .unset, .unset, .unset, .unset, .unset, .unset] []))
        exact J74 _ (own_m16 p2).1 (own_m16 p2).2
set_option maxRecDepth 65536 in
set_option maxHeartbeats 40000000 in
theorem own_comes {Post : Tables → Env → Array Value → State → Outcome → State → Prop} (hpost : ∀ tb e args s v u, (limb_1_1.after args s (.returned v) u = true ∧ limb_1_2.after args s (.returned v) u = true ∧ True) → FrameEnd s (.returned v) u (Jvm.fieldLocs frame_1_writes args s ++ Jvm.arrayLocs frame_1_arrays args s ++ Jvm.staticLocs frame_1_statics s) 24 2176 → Post tb e args s (.returned v) u) :
    ArmFor flags0 classFile x code maxLocals ret World_1 tables_1 room_1 Calls_1 rest_1 Pre_1 Post := by
  intro l hfl _ _ p e ha hc hk s m args below hf hA hF happ hP
  obtain ⟨hcalls, hrest, hpre⟩ := hP
  obtain ⟨-, -, -, hnamed, -, -, -, hat⟩ := (Spec.applies_iff hf).mp happ
  obtain ⟨hg, hn⟩ := and_e (Cond.before_iff.mp (show (Jvm.Cond.and given_1 narrow_1).before args s = true from hpre))
  obtain ⟨hcount, hg⟩ := and_e hg
  obtain ⟨ha0, hg⟩ := and_e hg
  obtain ⟨ha1, hg⟩ := and_e hg
  obtain ⟨ha2, hg⟩ := and_e hg
  obtain ⟨ha3, hg⟩ := and_e hg
  obtain ⟨ha4, hg⟩ := and_e hg
  obtain ⟨w0, w1, w2, w3, w4, w5, rfl⟩ : ∃ w0 w1 w2 w3 w4 w5 : Value, args = #[w0, w1, w2, w3, w4, w5] := by
    have hs : args.size = 6 := by simpa [Cond.value, given_1] using hcount
    obtain ⟨L⟩ := args
    match L, hs with
    | [w0, w1, w2, w3, w4, w5], _ => exact ⟨w0, w1, w2, w3, w4, w5, rfl⟩
  have hw := fun d (hd : d ∈ tables_1) => atoms_spec (ws := Jvm.Cond.code x code maxLocals ret :: tables_1) hat d (List.mem_cons_of_mem _ hd)
  have hfit : Fit s := fun {y c} hc i hi => by
    obtain ⟨ha, rfl⟩ := Array.getElem?_eq_some_iff.mp hc
    have q := List.all_eq_true.mp ((Array.all_eq_true_iff_forall_mem.mp hF) _ (Array.getElem_mem ha)) i (List.mem_range.mpr hi)
    simpa [Array.getElem?_eq_getElem hi] using q
  obtain ⟨i0, ei0⟩ := is_v ha0
  obtain rfl : w0 = (.int i0) := Option.some.inj ei0
  obtain ⟨i1, ei1⟩ := is_v ha1
  obtain rfl : w1 = (.int i1) := Option.some.inj ei1
  obtain ⟨i2, ei2⟩ := is_v ha2
  obtain rfl : w2 = (.int i2) := Option.some.inj ei2
  obtain ⟨i3, ei3⟩ := is_v ha3
  obtain rfl : w3 = (.int i3) := Option.some.inj ei3
  obtain ⟨i4, ei4⟩ := is_v ha4
  obtain rfl : w4 = (.int i4) := Option.some.inj ei4
  obtain ⟨i5, ei5⟩ := is_v hg
  obtain rfl : w5 = (.int i5) := Option.some.inj ei5
  obtain ⟨hn0, hn⟩ := and_e hn
  obtain ⟨hn1, hn⟩ := and_e hn
  obtain ⟨hn2, hn⟩ := and_e hn
  obtain ⟨hn3, hn⟩ := and_e hn
  obtain ⟨hn4, hn⟩ := and_e hn
  obtain ⟨hn5, hn⟩ := and_e hn
  obtain ⟨hn6, hn⟩ := and_e hn
  obtain ⟨hn7, hn⟩ := and_e hn
  obtain ⟨hn8, hn⟩ := and_e hn
  obtain ⟨hn9, hn⟩ := and_e hn
  obtain ⟨hn10, hn⟩ := and_e hn
  obtain ⟨hn11, hn⟩ := and_e hn
  obtain ⟨hn12, hn⟩ := and_e hn
  obtain ⟨hn13, hn⟩ := and_e hn
  obtain ⟨hn14, hn⟩ := and_e hn
  obtain ⟨hn15, hn⟩ := and_e hn
  obtain ⟨hn16, hn⟩ := and_e hn
  obtain ⟨hn17, hn⟩ := and_e hn
  obtain ⟨hn18, hn⟩ := and_e hn
  obtain ⟨hn19, hn⟩ := and_e hn
  obtain ⟨hn20, hn⟩ := and_e hn
  obtain ⟨hn21, hn⟩ := and_e hn
  obtain ⟨hn22, hn⟩ := and_e hn
  obtain ⟨hn23, hn⟩ := and_e hn
  obtain ⟨hn24, hn⟩ := and_e hn
  obtain ⟨hn25, hn⟩ := and_e hn
  obtain ⟨hn26, hn⟩ := and_e hn
  obtain ⟨hn27, hn⟩ := and_e hn
  obtain ⟨hn28, hn⟩ := and_e hn
  obtain ⟨hn29, hn⟩ := and_e hn
  obtain ⟨hn30, hn⟩ := and_e hn
  obtain ⟨hn31, hn⟩ := and_e hn
  obtain ⟨hn32, hn⟩ := and_e hn
  obtain ⟨hn33, hn⟩ := and_e hn
  obtain ⟨hn34, hn⟩ := and_e hn
  obtain ⟨hn35, hn⟩ := and_e hn
  obtain ⟨hn36, hn⟩ := and_e hn
  obtain ⟨hn37, hn⟩ := and_e hn
  obtain ⟨hn38, hn⟩ := and_e hn
  obtain ⟨hn39, hn⟩ := and_e hn
  obtain ⟨hn40, hn⟩ := and_e hn
  obtain ⟨hn41, hn⟩ := and_e hn
  obtain ⟨hn42, hn⟩ := and_e hn
  obtain ⟨hn43, hn⟩ := and_e hn
  obtain ⟨hn44, hn⟩ := and_e hn
  obtain ⟨hn45, hn⟩ := and_e hn
  obtain ⟨hn46, hn⟩ := and_e hn
  obtain ⟨hn47, hn⟩ := and_e hn
  obtain ⟨hn48, hn⟩ := and_e hn
  obtain ⟨hn49, hn⟩ := and_e hn
  obtain ⟨hn50, hn⟩ := and_e hn
  obtain ⟨hn51, hn⟩ := and_e hn
  obtain ⟨hn52, hn⟩ := and_e hn
  obtain ⟨hn53, hn⟩ := and_e hn
  obtain ⟨hn54, hn⟩ := and_e hn
  obtain ⟨hn55, hn⟩ := and_e hn
  obtain ⟨hn56, hn⟩ := and_e hn
  obtain ⟨hn57, hn⟩ := and_e hn
  obtain ⟨hn58, hn⟩ := and_e hn
  obtain ⟨hn59, hn⟩ := and_e hn
  obtain ⟨hn60, hn⟩ := and_e hn
  have hn61 := hn
  obtain ⟨a_BY_CODE, ev_BY_CODE⟩ := arr_v hn0
  have S_BY_CODE := Sta.start ev_BY_CODE (Or.inr ⟨(hw _ (List.mem_of_getElem? (i := 5) rfl)), (hw _ (List.mem_of_getElem? (i := 8) rfl))⟩)
  obtain ⟨cl_BY_CODE, Ar_BY_CODE⟩ := Arr.start ev_BY_CODE hn0
  have ln_BY_CODE := own_len Ar_BY_CODE ev_BY_CODE (own_eqi hn1)
  obtain ⟨a_CONNACK, ev_CONNACK⟩ := exa_v hn2
  have S_CONNACK := Sta.start ev_CONNACK (Or.inr ⟨(hw _ (List.mem_of_getElem? (i := 5) rfl)), (hw _ (List.mem_of_getElem? (i := 9) rfl))⟩)
  have E_CONNACK := Exa.start ev_CONNACK hn2
  have el_BY_CODE_2 := own_elem ev_BY_CODE Ar_BY_CODE (own_eqr hn3 ev_CONNACK)
  obtain ⟨a_CONNECT, ev_CONNECT⟩ := exa_v hn4
  have S_CONNECT := Sta.start ev_CONNECT (Or.inr ⟨(hw _ (List.mem_of_getElem? (i := 5) rfl)), (hw _ (List.mem_of_getElem? (i := 10) rfl))⟩)
  have E_CONNECT := Exa.start ev_CONNECT hn4
  have el_BY_CODE_1 := own_elem ev_BY_CODE Ar_BY_CODE (own_eqr hn5 ev_CONNECT)
  have F_ordinal_CONNACK := own_fld ev_CONNACK (own_eqi hn6)
  obtain ⟨a_TYPES, ev_TYPES⟩ := arr_v hn7
  have S_TYPES := Sta.start ev_TYPES (Or.inr ⟨(hw _ (List.mem_of_getElem? (i := 13) rfl)), (hw _ (List.mem_of_getElem? (i := 59) rfl))⟩)
  obtain ⟨cl_TYPES, Ar_TYPES⟩ := Arr.start ev_TYPES hn7
  have ln_TYPES := own_len Ar_TYPES ev_TYPES (own_eqi hn8)
  have el_TYPES_1 := own_elem ev_TYPES Ar_TYPES (own_eqr hn9 ev_CONNACK)
  obtain ⟨a_SUBSCRIBE, ev_SUBSCRIBE⟩ := exa_v hn10
  have S_SUBSCRIBE := Sta.start ev_SUBSCRIBE (Or.inr ⟨(hw _ (List.mem_of_getElem? (i := 5) rfl)), (hw _ (List.mem_of_getElem? (i := 60) rfl))⟩)
  have E_SUBSCRIBE := Exa.start ev_SUBSCRIBE hn10
  have el_BY_CODE_8 := own_elem ev_BY_CODE Ar_BY_CODE (own_eqr hn11 ev_SUBSCRIBE)
  obtain ⟨a_SUBACK, ev_SUBACK⟩ := exa_v hn12
  have S_SUBACK := Sta.start ev_SUBACK (Or.inr ⟨(hw _ (List.mem_of_getElem? (i := 5) rfl)), (hw _ (List.mem_of_getElem? (i := 61) rfl))⟩)
  have E_SUBACK := Exa.start ev_SUBACK hn12
  have el_BY_CODE_9 := own_elem ev_BY_CODE Ar_BY_CODE (own_eqr hn13 ev_SUBACK)
  obtain ⟨a_PINGREQ, ev_PINGREQ⟩ := exa_v hn14
  have S_PINGREQ := Sta.start ev_PINGREQ (Or.inr ⟨(hw _ (List.mem_of_getElem? (i := 5) rfl)), (hw _ (List.mem_of_getElem? (i := 62) rfl))⟩)
  have E_PINGREQ := Exa.start ev_PINGREQ hn14
  have el_BY_CODE_12 := own_elem ev_BY_CODE Ar_BY_CODE (own_eqr hn15 ev_PINGREQ)
  have F_ordinal_CONNECT := own_fld ev_CONNECT (own_eqi hn16)
  have F_ordinal_PINGREQ := own_fld ev_PINGREQ (own_eqi hn17)
  obtain ⟨a_PUBLISH, ev_PUBLISH⟩ := exa_v hn18
  have S_PUBLISH := Sta.start ev_PUBLISH (Or.inr ⟨(hw _ (List.mem_of_getElem? (i := 5) rfl)), (hw _ (List.mem_of_getElem? (i := 63) rfl))⟩)
  have E_PUBLISH := Exa.start ev_PUBLISH hn18
  have el_BY_CODE_3 := own_elem ev_BY_CODE Ar_BY_CODE (own_eqr hn19 ev_PUBLISH)
  have F_ordinal_PUBLISH := own_fld ev_PUBLISH (own_eqi hn20)
  have el_TYPES_2 := own_elem ev_TYPES Ar_TYPES (own_eqr hn21 ev_PUBLISH)
  obtain ⟨a_PUBACK, ev_PUBACK⟩ := exa_v hn22
  have S_PUBACK := Sta.start ev_PUBACK (Or.inr ⟨(hw _ (List.mem_of_getElem? (i := 5) rfl)), (hw _ (List.mem_of_getElem? (i := 69) rfl))⟩)
  have E_PUBACK := Exa.start ev_PUBACK hn22
  have el_BY_CODE_4 := own_elem ev_BY_CODE Ar_BY_CODE (own_eqr hn23 ev_PUBACK)
  obtain ⟨a_DISCONNECT, ev_DISCONNECT⟩ := exa_v hn24
  have S_DISCONNECT := Sta.start ev_DISCONNECT (Or.inr ⟨(hw _ (List.mem_of_getElem? (i := 5) rfl)), (hw _ (List.mem_of_getElem? (i := 70) rfl))⟩)
  have E_DISCONNECT := Exa.start ev_DISCONNECT hn24
  have el_BY_CODE_14 := own_elem ev_BY_CODE Ar_BY_CODE (own_eqr hn25 ev_DISCONNECT)
  have F_ordinal_PUBACK := own_fld ev_PUBACK (own_eqi hn26)
  have F_ordinal_DISCONNECT := own_fld ev_DISCONNECT (own_eqi hn27)
  obtain ⟨a_UNSUBSCRIBE, ev_UNSUBSCRIBE⟩ := exa_v hn28
  have S_UNSUBSCRIBE := Sta.start ev_UNSUBSCRIBE (Or.inr ⟨(hw _ (List.mem_of_getElem? (i := 5) rfl)), (hw _ (List.mem_of_getElem? (i := 71) rfl))⟩)
  have E_UNSUBSCRIBE := Exa.start ev_UNSUBSCRIBE hn28
  have el_BY_CODE_10 := own_elem ev_BY_CODE Ar_BY_CODE (own_eqr hn29 ev_UNSUBSCRIBE)
  have F_ordinal_UNSUBSCRIBE := own_fld ev_UNSUBSCRIBE (own_eqi hn30)
  obtain ⟨a_UNSUBACK, ev_UNSUBACK⟩ := exa_v hn31
  have S_UNSUBACK := Sta.start ev_UNSUBACK (Or.inr ⟨(hw _ (List.mem_of_getElem? (i := 5) rfl)), (hw _ (List.mem_of_getElem? (i := 72) rfl))⟩)
  have E_UNSUBACK := Exa.start ev_UNSUBACK hn31
  have el_BY_CODE_11 := own_elem ev_BY_CODE Ar_BY_CODE (own_eqr hn32 ev_UNSUBACK)
  have F_ordinal_UNSUBACK := own_fld ev_UNSUBACK (own_eqi hn33)
  obtain ⟨a_PUBREC, ev_PUBREC⟩ := exa_v hn34
  have S_PUBREC := Sta.start ev_PUBREC (Or.inr ⟨(hw _ (List.mem_of_getElem? (i := 5) rfl)), (hw _ (List.mem_of_getElem? (i := 73) rfl))⟩)
  have E_PUBREC := Exa.start ev_PUBREC hn34
  have el_BY_CODE_5 := own_elem ev_BY_CODE Ar_BY_CODE (own_eqr hn35 ev_PUBREC)
  have F_ordinal_PUBREC := own_fld ev_PUBREC (own_eqi hn36)
  have F_ordinal_SUBACK := own_fld ev_SUBACK (own_eqi hn37)
  have el_TYPES_4 := own_elem ev_TYPES Ar_TYPES (own_eqr hn38 ev_PUBREC)
  obtain ⟨a_PUBCOMP, ev_PUBCOMP⟩ := exa_v hn39
  have S_PUBCOMP := Sta.start ev_PUBCOMP (Or.inr ⟨(hw _ (List.mem_of_getElem? (i := 5) rfl)), (hw _ (List.mem_of_getElem? (i := 74) rfl))⟩)
  have E_PUBCOMP := Exa.start ev_PUBCOMP hn39
  have el_BY_CODE_7 := own_elem ev_BY_CODE Ar_BY_CODE (own_eqr hn40 ev_PUBCOMP)
  have F_ordinal_PUBCOMP := own_fld ev_PUBCOMP (own_eqi hn41)
  have el_TYPES_3 := own_elem ev_TYPES Ar_TYPES (own_eqr hn42 ev_PUBACK)
  obtain ⟨a_PINGRESP, ev_PINGRESP⟩ := exa_v hn43
  have S_PINGRESP := Sta.start ev_PINGRESP (Or.inr ⟨(hw _ (List.mem_of_getElem? (i := 5) rfl)), (hw _ (List.mem_of_getElem? (i := 75) rfl))⟩)
  have E_PINGRESP := Exa.start ev_PINGRESP hn43
  have el_BY_CODE_13 := own_elem ev_BY_CODE Ar_BY_CODE (own_eqr hn44 ev_PINGRESP)
  have el_TYPES_0 := own_elem ev_TYPES Ar_TYPES (own_eqr hn45 ev_CONNECT)
  have F_ordinal_SUBSCRIBE := own_fld ev_SUBSCRIBE (own_eqi hn46)
  obtain ⟨a_PUBREL, ev_PUBREL⟩ := exa_v hn47
  have S_PUBREL := Sta.start ev_PUBREL (Or.inr ⟨(hw _ (List.mem_of_getElem? (i := 5) rfl)), (hw _ (List.mem_of_getElem? (i := 76) rfl))⟩)
  have E_PUBREL := Exa.start ev_PUBREL hn47
  have el_BY_CODE_6 := own_elem ev_BY_CODE Ar_BY_CODE (own_eqr hn48 ev_PUBREL)
  have el_TYPES_7 := own_elem ev_TYPES Ar_TYPES (own_eqr hn49 ev_SUBSCRIBE)
  have el_TYPES_10 := own_elem ev_TYPES Ar_TYPES (own_eqr hn50 ev_UNSUBACK)
  have el_TYPES_13 := own_elem ev_TYPES Ar_TYPES (own_eqr hn51 ev_DISCONNECT)
  have el_TYPES_8 := own_elem ev_TYPES Ar_TYPES (own_eqr hn52 ev_SUBACK)
  have F_ordinal_PINGRESP := own_fld ev_PINGRESP (own_eqi hn53)
  have F_ordinal_PUBREL := own_fld ev_PUBREL (own_eqi hn54)
  have el_TYPES_5 := own_elem ev_TYPES Ar_TYPES (own_eqr hn55 ev_PUBREL)
  have el_TYPES_9 := own_elem ev_TYPES Ar_TYPES (own_eqr hn56 ev_UNSUBSCRIBE)
  have el_TYPES_11 := own_elem ev_TYPES Ar_TYPES (own_eqr hn57 ev_PINGREQ)
  have el_TYPES_6 := own_elem ev_TYPES Ar_TYPES (own_eqr hn58 ev_PUBCOMP)
  have el_TYPES_12 := own_elem ev_TYPES Ar_TYPES (own_eqr hn59 ev_PINGRESP)
  obtain ⟨tys, htys⟩ : ∃ tys : List Addr, tys = [a_CONNECT, a_CONNACK, a_PUBLISH, a_PUBACK, a_PUBREC, a_PUBREL, a_PUBCOMP, a_SUBSCRIBE, a_SUBACK, a_UNSUBSCRIBE, a_UNSUBACK, a_PINGREQ, a_PINGRESP, a_DISCONNECT] := ⟨_, rfl⟩
  have V_T : Arv s s.heap a_TYPES cl_TYPES.cls (.object "com/example/utopic/utopic/codec/PacketType") 14 (tys.map Value.ref) .null := by rw [htys]; exact Arv.start hfit Ar_TYPES ln_TYPES.1 ln_TYPES.2 (by decide) rfl ⟨el_TYPES_0, el_TYPES_1, el_TYPES_2, el_TYPES_3, el_TYPES_4, el_TYPES_5, el_TYPES_6, el_TYPES_7, el_TYPES_8, el_TYPES_9, el_TYPES_10, el_TYPES_11, el_TYPES_12, el_TYPES_13, trivial⟩
  have hlen : tys.length = 14 := by rw [htys]; rfl
  have sz_C : cl_BY_CODE.slots.size = 16 := own_sz ln_BY_CODE
  have el_C : ∀ n, n < 14 → cl_BY_CODE.slots[n + 1]? = some (.ref (tys.getD n 0)) := fun n hn => by
    rw [htys]
    match n, hn with
    | 0, _ => exact el_BY_CODE_1
    | 1, _ => exact el_BY_CODE_2
    | 2, _ => exact el_BY_CODE_3
    | 3, _ => exact el_BY_CODE_4
    | 4, _ => exact el_BY_CODE_5
    | 5, _ => exact el_BY_CODE_6
    | 6, _ => exact el_BY_CODE_7
    | 7, _ => exact el_BY_CODE_8
    | 8, _ => exact el_BY_CODE_9
    | 9, _ => exact el_BY_CODE_10
    | 10, _ => exact el_BY_CODE_11
    | 11, _ => exact el_BY_CODE_12
    | 12, _ => exact el_BY_CODE_13
    | 13, _ => exact el_BY_CODE_14
    | n + 14, hn => exact absurd hn (by omega)
  have hT : ∀ n, n < 14 → Exa s s.heap (tys.getD n 0) "com/example/utopic/utopic/codec/PacketType" ∧ Fld s s.heap (tys.getD n 0) "java/lang/Enum" "ordinal" "I" (.int (Int32.ofNat n)) := fun n hn => by
    rw [htys]
    match n, hn with
    | 0, _ => exact ⟨E_CONNECT, F_ordinal_CONNECT⟩
    | 1, _ => exact ⟨E_CONNACK, F_ordinal_CONNACK⟩
    | 2, _ => exact ⟨E_PUBLISH, F_ordinal_PUBLISH⟩
    | 3, _ => exact ⟨E_PUBACK, F_ordinal_PUBACK⟩
    | 4, _ => exact ⟨E_PUBREC, F_ordinal_PUBREC⟩
    | 5, _ => exact ⟨E_PUBREL, F_ordinal_PUBREL⟩
    | 6, _ => exact ⟨E_PUBCOMP, F_ordinal_PUBCOMP⟩
    | 7, _ => exact ⟨E_SUBSCRIBE, F_ordinal_SUBSCRIBE⟩
    | 8, _ => exact ⟨E_SUBACK, F_ordinal_SUBACK⟩
    | 9, _ => exact ⟨E_UNSUBSCRIBE, F_ordinal_UNSUBSCRIBE⟩
    | 10, _ => exact ⟨E_UNSUBACK, F_ordinal_UNSUBACK⟩
    | 11, _ => exact ⟨E_PINGREQ, F_ordinal_PINGREQ⟩
    | 12, _ => exact ⟨E_PINGRESP, F_ordinal_PINGRESP⟩
    | 13, _ => exact ⟨E_DISCONNECT, F_ordinal_DISCONNECT⟩
    | n + 14, hn => exact absurd hn (by omega)
  obtain ⟨n, o, h1, h2, h3, _, L, rfl, ⟨rfl, N⟩, hq⟩ := own_rm0 l s _ hw i0 i1 i2 i3 i4 i5 a_BY_CODE cl_BY_CODE a_TYPES cl_TYPES.cls tys s.heap s.heap.size (Nat.le_refl _) (Old.start s) S_BY_CODE Ar_BY_CODE sz_C el_C S_TYPES V_T hlen hT p e ha hc hk s m _ below hf ((Spec.applies_iff_loose hf).mp happ).1 ⟨rfl, State.Warmed39.refl s, rfl⟩ trivial
  refine ⟨n, _, h1, h2, h3, hpost _ _ _ _ _ _ ⟨Cond.after_iff.mpr rfl, Cond.after_iff.mpr (eq_i res_at (Term.int_eval (1)) rfl), trivial⟩ ⟨hq.1, hq.2.1, (hq.2.2.sift fun y hy => Or.inr (N y hy)).mono (by decide) (by decide)⟩⟩
theorem main_1_1 : Claimed_1_1 := own_comes fun _ _ _ _ _ _ h hF => ⟨h.1, hF⟩
theorem main_1_2 : Claimed_1_2 := own_comes fun _ _ _ _ _ _ h hF => ⟨h.2.1, hF⟩
end Jvm.Pilot.@@N@@
namespace Jvm.Pilot.@@N@@
open Jvm Jvm.ClassFile Sem Op Lib Jvm.Free Jvm.Stand Jvm.Pilot.@@N@@.Jvm.D
/-! MADE BY PROGRAM (witnessworld.py) out of the Statement's table words and the real class files: 16 classes; the members and pool entries that the words name. The judged class is class 1, her method 1. -/
namespace start1
open Jvm.ClassFile
def u (s : String) : CpInfo := .utf8 (stringToUtf16 s)
/-- a pool by its gaps: so many unusable entries, then the entry; so many at the end -/
def gap : Nat → List CpInfo → List CpInfo
  | 0, r => r
  | n + 1, r => .unusable :: gap n r
def poolList (es : List (Nat × CpInfo)) (last : Nat) : List CpInfo := es.foldr (fun e r => gap e.1 (e.2 :: r)) (gap last [])
def pool (es : List (Nat × CpInfo)) (last : Nat) : Array CpInfo := ⟨poolList es last⟩
def fileOf (pool : Array CpInfo) (this : Nat) (attrs : Array Attribute := #[]) (ms : Array MethodInfo := #[]) (fl : Nat := 33) (sup : Nat := 0) (ifs : Array Nat := #[]) (fds : Array FieldInfo := #[]) : ClassFile where
  minorVersion := 0
  majorVersion := 65
  constantPool := pool
  accessFlags := fl
  thisClass := this
  superClass := sup
  interfaces := ifs
  fields := fds
  methods := ms
  attributes := attrs
def plain (name : String) (sup : Option ClassId) : Class where
  name := name
  kind := .ordinary
  loader := none
  accessFlags := 33
  super := sup
  interfaces := #[]
  cf := none
  fields := #[]
  methods := #[]
  instanceTypes := #[]
  staticTypes := #[]
  resolved := #[]
  callSites := []
  init := .initialized
  statics := none
  mirror := none

def pool0 : Array CpInfo := pool [(5, u "<init>"), (0, u "()V"), (1, .class_ 10), (1, u "java/lang/Object")] 113

def k0c0 : Code := { maxStack := 0, maxLocals := 1, code := object_method_1_code, exceptionTable := #[], attributes := #[] }
def k0m0 : Method := { name := "<init>", desc := "()V", sig := { parameters := [], returnType := none }, accessFlags := 1, code := some k0c0 }
/-- java/lang/Object -/
def k0 : Class := { plain "java/lang/Object" none with
  accessFlags := 33
  interfaces := #[]
  cf := some (fileOf pool0 8 #[] #[{ accessFlags := 1, nameIndex := 5, descriptorIndex := 6, attributes := #[] }] 33 0 #[] #[])
  fields := #[]
  methods := #[k0m0]
  instanceTypes := #[]
  staticTypes := #[]
  resolved := Array.replicate 124 none
  statics := none }

def pool1 : Array CpInfo := pool [(2, .class_ 4), (0, .nameAndType 5 6), (0, u "java/lang/Object"), (0, u "<init>"), (0, u "()V"), (0, .integer 65535), (0, .integer 65280), (0, .integer 2147483647), (0, .methodref 11 12), (0, .class_ 13), (0, .nameAndType 14 15), (0, u "com/example/utopic/utopic/codec/PacketType"), (0, u "of"), (0, u "(I)Lcom/example/utopic/utopic/codec/PacketType;"), (0, .class_ 17), (0, u "com/example/utopic/utopic/broker/MessageIds"), (0, .methodref 16 3), (0, .methodref 16 20), (0, .nameAndType 21 15), (0, u "get"), (0, .methodref 16 23), (0, .nameAndType 24 25), (0, u "put"), (0, u "(ILcom/example/utopic/utopic/codec/PacketType;)V"), (0, .methodref 16 27), (0, .nameAndType 28 29), (0, u "remove"), (0, u "(I)V"), (0, .class_ 31), (0, u "com/example/utopic/utopic/broker/MessageIdsGetPinLaw"), (2, u "law"), (0, u "(IIIIII)Z")] 6

def k1m0 : Method := { name := "<init>", desc := "()V", sig := { parameters := [], returnType := none }, accessFlags := 1, code := none }
def k1c1 : Code := { maxStack := 3, maxLocals := 22, code := code, exceptionTable := #[], attributes := #[] }
def k1m1 : Method := { name := "law", desc := "(IIIIII)Z", sig := { parameters := [.int, .int, .int, .int, .int, .int], returnType := some .boolean }, accessFlags := 9, code := some k1c1 }
/-- com/example/utopic/utopic/broker/MessageIdsGetPinLaw -/
def k1 : Class := { plain "com/example/utopic/utopic/broker/MessageIdsGetPinLaw" (some 0) with
  accessFlags := 49
  interfaces := #[]
  cf := some (fileOf pool1 30 #[] #[{ accessFlags := 1, nameIndex := 5, descriptorIndex := 6, attributes := #[] }, { accessFlags := 9, nameIndex := 34, descriptorIndex := 35, attributes := #[] }] 49 2 #[] #[])
  fields := #[]
  methods := #[k1m0, k1m1]
  instanceTypes := #[]
  staticTypes := #[]
  resolved := Array.replicate 42 none
  statics := none }

def pool2 : Array CpInfo := pool [(1, .class_ 2), (0, u "java/lang/constant/Constable"), (0, .class_ 4), (0, u "java/lang/Object")] 6

/-- java/lang/constant/Constable -/
def k2 : Class := { plain "java/lang/constant/Constable" (some 0) with
  accessFlags := 1537
  interfaces := #[]
  cf := some (fileOf pool2 1 #[] #[] 1537 3 #[] #[])
  fields := #[]
  methods := #[]
  instanceTypes := #[]
  staticTypes := #[]
  resolved := Array.replicate 11 none
  statics := none }

def pool3 : Array CpInfo := pool [(1, .class_ 2), (0, u "java/lang/Comparable"), (0, .class_ 4), (0, u "java/lang/Object")] 7

/-- java/lang/Comparable -/
def k3 : Class := { plain "java/lang/Comparable" (some 0) with
  accessFlags := 1537
  interfaces := #[]
  cf := some (fileOf pool3 1 #[] #[] 1537 3 #[] #[])
  fields := #[]
  methods := #[]
  instanceTypes := #[]
  staticTypes := #[]
  resolved := Array.replicate 12 none
  statics := none }

def pool4 : Array CpInfo := pool [(1, .class_ 2), (0, u "java/io/Serializable"), (0, .class_ 4), (0, u "java/lang/Object")] 2

/-- java/io/Serializable -/
def k4 : Class := { plain "java/io/Serializable" (some 0) with
  accessFlags := 1537
  interfaces := #[]
  cf := some (fileOf pool4 1 #[] #[] 1537 3 #[] #[])
  fields := #[]
  methods := #[]
  instanceTypes := #[]
  staticTypes := #[]
  resolved := Array.replicate 7 none
  statics := none }

def pool5 : Array CpInfo := pool [(2, .class_ 4), (1, u "java/lang/Enum"), (0, u "name"), (0, u "Ljava/lang/String;"), (0, .fieldref 2 8), (0, .nameAndType 9 10), (0, u "ordinal"), (0, u "I"), (1, .class_ 14), (1, u "java/lang/Object"), (4, u "hash"), (86, .class_ 108), (1, u "java/lang/Enum$EnumDesc"), (2, .class_ 112), (0, u "java/lang/constant/Constable"), (0, .class_ 114), (0, u "java/lang/Comparable"), (0, .class_ 116), (0, u "java/io/Serializable"), (9, u "()I")] 77

def k5c0 : Code := { maxStack := 1, maxLocals := 1, code := jdk_37_method_2_code, exceptionTable := #[], attributes := #[] }
def k5m0 : Method := { name := "ordinal", desc := "()I", sig := { parameters := [], returnType := some .int }, accessFlags := 17, code := some k5c0 }
/-- java/lang/Enum -/
def k5 : Class := { plain "java/lang/Enum" (some 0) with
  accessFlags := 1057
  interfaces := #[2, 3, 4]
  cf := some (fileOf pool5 2 #[.nestMembers #[106]] #[{ accessFlags := 17, nameIndex := 9, descriptorIndex := 126, attributes := #[] }] 1057 12 #[111, 113, 115] #[{ accessFlags := 18, nameIndex := 5, descriptorIndex := 6, attributes := #[] }, { accessFlags := 18, nameIndex := 9, descriptorIndex := 10, attributes := #[] }, { accessFlags := 2, nameIndex := 19, descriptorIndex := 10, attributes := #[] }])
  fields := #[{ name := "name", type := (.object "java/lang/String"), accessFlags := 18, slot := 0, constantValue := 0 }, { name := "ordinal", type := .int, accessFlags := 18, slot := 1, constantValue := 0 }, { name := "hash", type := .int, accessFlags := 2, slot := 2, constantValue := 0 }]
  methods := #[k5m0]
  instanceTypes := #[(.object "java/lang/String"), .int, .int]
  staticTypes := #[]
  resolved := Array.replicate 204 none
  statics := none }

def pool6 : Array CpInfo := pool [(1, .class_ 2), (0, u "com/example/utopic/utopic/codec/PacketType"), (2, u "CONNECT"), (0, u "Lcom/example/utopic/utopic/codec/PacketType;"), (2, u "CONNACK"), (2, u "PUBLISH"), (2, u "PUBACK"), (2, u "PUBREC"), (2, u "PUBREL"), (2, u "PUBCOMP"), (2, u "SUBSCRIBE"), (2, u "SUBACK"), (2, u "UNSUBSCRIBE"), (2, u "UNSUBACK"), (2, u "PINGREQ"), (2, u "PINGRESP"), (2, u "DISCONNECT"), (2, u "$VALUES"), (0, u "[Lcom/example/utopic/utopic/codec/PacketType;"), (6, .class_ 58), (1, u "java/lang/Enum"), (8, u "code"), (0, u "I"), (2, u "flags"), (2, u "bodyLength"), (0, .fieldref 1 76), (0, .nameAndType 77 49), (0, u "BY_CODE"), (9, .class_ 88), (0, u "com/example/utopic/utopic/codec/PacketType$Shape"), (49, u "DUP"), (10, u "of"), (0, u "(I)Lcom/example/utopic/utopic/codec/PacketType;")] 30

def k6c0 : Code := { maxStack := 3, maxLocals := 2, code := prog_29_method_6_code, exceptionTable := #[], attributes := #[] }
def k6m0 : Method := { name := "of", desc := "(I)Lcom/example/utopic/utopic/codec/PacketType;", sig := { parameters := [.int], returnType := some (.object "com/example/utopic/utopic/codec/PacketType") }, accessFlags := 9, code := some k6c0 }
/-- com/example/utopic/utopic/codec/PacketType -/
def k6 : Class := { plain "com/example/utopic/utopic/codec/PacketType" (some 5) with
  accessFlags := 16433
  interfaces := #[]
  cf := some (fileOf pool6 1 #[.nestMembers #[87]] #[{ accessFlags := 9, nameIndex := 149, descriptorIndex := 150, attributes := #[] }] 16433 56 #[] #[{ accessFlags := 16409, nameIndex := 5, descriptorIndex := 6, attributes := #[] }, { accessFlags := 16409, nameIndex := 9, descriptorIndex := 6, attributes := #[] }, { accessFlags := 16409, nameIndex := 12, descriptorIndex := 6, attributes := #[] }, { accessFlags := 16409, nameIndex := 15, descriptorIndex := 6, attributes := #[] }, { accessFlags := 16409, nameIndex := 18, descriptorIndex := 6, attributes := #[] }, { accessFlags := 16409, nameIndex := 21, descriptorIndex := 6, attributes := #[] }, { accessFlags := 16409, nameIndex := 24, descriptorIndex := 6, attributes := #[] }, { accessFlags := 16409, nameIndex := 27, descriptorIndex := 6, attributes := #[] }, { accessFlags := 16409, nameIndex := 30, descriptorIndex := 6, attributes := #[] }, { accessFlags := 16409, nameIndex := 33, descriptorIndex := 6, attributes := #[] }, { accessFlags := 16409, nameIndex := 36, descriptorIndex := 6, attributes := #[] }, { accessFlags := 16409, nameIndex := 39, descriptorIndex := 6, attributes := #[] }, { accessFlags := 16409, nameIndex := 42, descriptorIndex := 6, attributes := #[] }, { accessFlags := 16409, nameIndex := 45, descriptorIndex := 6, attributes := #[] }, { accessFlags := 26, nameIndex := 138, descriptorIndex := 68, attributes := #[] }, { accessFlags := 26, nameIndex := 77, descriptorIndex := 49, attributes := #[] }, { accessFlags := 18, nameIndex := 67, descriptorIndex := 68, attributes := #[] }, { accessFlags := 18, nameIndex := 71, descriptorIndex := 68, attributes := #[] }, { accessFlags := 18, nameIndex := 74, descriptorIndex := 68, attributes := #[] }, { accessFlags := 4122, nameIndex := 48, descriptorIndex := 49, attributes := #[] }])
  fields := #[{ name := "CONNECT", type := (.object "com/example/utopic/utopic/codec/PacketType"), accessFlags := 16409, slot := 0, constantValue := 0 }, { name := "CONNACK", type := (.object "com/example/utopic/utopic/codec/PacketType"), accessFlags := 16409, slot := 1, constantValue := 0 }, { name := "PUBLISH", type := (.object "com/example/utopic/utopic/codec/PacketType"), accessFlags := 16409, slot := 2, constantValue := 0 }, { name := "PUBACK", type := (.object "com/example/utopic/utopic/codec/PacketType"), accessFlags := 16409, slot := 3, constantValue := 0 }, { name := "PUBREC", type := (.object "com/example/utopic/utopic/codec/PacketType"), accessFlags := 16409, slot := 4, constantValue := 0 }, { name := "PUBREL", type := (.object "com/example/utopic/utopic/codec/PacketType"), accessFlags := 16409, slot := 5, constantValue := 0 }, { name := "PUBCOMP", type := (.object "com/example/utopic/utopic/codec/PacketType"), accessFlags := 16409, slot := 6, constantValue := 0 }, { name := "SUBSCRIBE", type := (.object "com/example/utopic/utopic/codec/PacketType"), accessFlags := 16409, slot := 7, constantValue := 0 }, { name := "SUBACK", type := (.object "com/example/utopic/utopic/codec/PacketType"), accessFlags := 16409, slot := 8, constantValue := 0 }, { name := "UNSUBSCRIBE", type := (.object "com/example/utopic/utopic/codec/PacketType"), accessFlags := 16409, slot := 9, constantValue := 0 }, { name := "UNSUBACK", type := (.object "com/example/utopic/utopic/codec/PacketType"), accessFlags := 16409, slot := 10, constantValue := 0 }, { name := "PINGREQ", type := (.object "com/example/utopic/utopic/codec/PacketType"), accessFlags := 16409, slot := 11, constantValue := 0 }, { name := "PINGRESP", type := (.object "com/example/utopic/utopic/codec/PacketType"), accessFlags := 16409, slot := 12, constantValue := 0 }, { name := "DISCONNECT", type := (.object "com/example/utopic/utopic/codec/PacketType"), accessFlags := 16409, slot := 13, constantValue := 0 }, { name := "DUP", type := .int, accessFlags := 26, slot := 14, constantValue := 0 }, { name := "BY_CODE", type := (.array (.object "com/example/utopic/utopic/codec/PacketType")), accessFlags := 26, slot := 15, constantValue := 0 }, { name := "code", type := .int, accessFlags := 18, slot := 3, constantValue := 0 }, { name := "flags", type := .int, accessFlags := 18, slot := 4, constantValue := 0 }, { name := "bodyLength", type := .int, accessFlags := 18, slot := 5, constantValue := 0 }, { name := "$VALUES", type := (.array (.object "com/example/utopic/utopic/codec/PacketType")), accessFlags := 4122, slot := 16, constantValue := 0 }]
  methods := #[k6m0]
  instanceTypes := #[(.object "java/lang/String"), .int, .int, .int, .int, .int]
  staticTypes := #[(.object "com/example/utopic/utopic/codec/PacketType"), (.object "com/example/utopic/utopic/codec/PacketType"), (.object "com/example/utopic/utopic/codec/PacketType"), (.object "com/example/utopic/utopic/codec/PacketType"), (.object "com/example/utopic/utopic/codec/PacketType"), (.object "com/example/utopic/utopic/codec/PacketType"), (.object "com/example/utopic/utopic/codec/PacketType"), (.object "com/example/utopic/utopic/codec/PacketType"), (.object "com/example/utopic/utopic/codec/PacketType"), (.object "com/example/utopic/utopic/codec/PacketType"), (.object "com/example/utopic/utopic/codec/PacketType"), (.object "com/example/utopic/utopic/codec/PacketType"), (.object "com/example/utopic/utopic/codec/PacketType"), (.object "com/example/utopic/utopic/codec/PacketType"), .int, (.array (.object "com/example/utopic/utopic/codec/PacketType")), (.array (.object "com/example/utopic/utopic/codec/PacketType"))]
  resolved := Array.replicate 181 none
  statics := some 0 }

def pool7 : Array CpInfo := pool [(1, .class_ 2), (0, u "com/example/utopic/utopic/broker/MessageIds"), (4, .methodref 8 9), (0, .class_ 10), (0, .nameAndType 11 12), (0, u "java/lang/Object"), (0, u "<init>"), (0, u "()V"), (0, .fieldref 1 14), (0, .nameAndType 15 16), (0, u "lastPage"), (0, u "I"), (0, .fieldref 1 18), (0, .nameAndType 19 20), (0, u "pages"), (0, u "[[B"), (0, .fieldref 1 22), (0, .nameAndType 23 24), (0, u "TYPES"), (0, u "[Lcom/example/utopic/utopic/codec/PacketType;"), (0, .class_ 26), (0, u "[B"), (0, .fieldref 1 28), (0, .nameAndType 29 30), (0, u "taken"), (0, u "[C"), (0, .methodref 1 32), (0, .nameAndType 33 34), (0, u "dropIfEmpty"), (0, u "(I)V"), (0, .fieldref 1 36), (0, .nameAndType 37 16), (0, u "pagesHeld"), (0, .fieldref 1 39), (0, .nameAndType 40 16), (0, u "size"), (0, .methodref 42 43), (0, .class_ 44), (0, .nameAndType 45 46), (0, u "com/example/utopic/utopic/codec/PacketType"), (0, u "ordinal"), (0, u "()I"), (8, u "PAGE_BITS"), (2, u "PAGE_SIZE"), (1, u "PAGES"), (0, u "ARRAY_BYTES"), (1, u "REFERENCE_BYTES"), (0, u "INDEX_BYTES"), (0, u "J"), (0, u "PAGE_BYTES"), (2, u "get"), (0, u "(I)Lcom/example/utopic/utopic/codec/PacketType;"), (1, u "put"), (0, u "(ILcom/example/utopic/utopic/codec/PacketType;)V"), (0, u "remove")] 6

def k7c0 : Code := { maxStack := 2, maxLocals := 1, code := prog_5_method_1_code, exceptionTable := #[], attributes := #[] }
def k7m0 : Method := { name := "<init>", desc := "()V", sig := { parameters := [], returnType := none }, accessFlags := 0, code := some k7c0 }
def k7c1 : Code := { maxStack := 3, maxLocals := 4, code := prog_5_method_2_code, exceptionTable := #[], attributes := #[] }
def k7m1 : Method := { name := "get", desc := "(I)Lcom/example/utopic/utopic/codec/PacketType;", sig := { parameters := [.int], returnType := some (.object "com/example/utopic/utopic/codec/PacketType") }, accessFlags := 0, code := some k7c1 }
def k7c2 : Code := { maxStack := 4, maxLocals := 5, code := prog_5_method_3_code, exceptionTable := #[], attributes := #[] }
def k7m2 : Method := { name := "put", desc := "(ILcom/example/utopic/utopic/codec/PacketType;)V", sig := { parameters := [.int, (.object "com/example/utopic/utopic/codec/PacketType")], returnType := none }, accessFlags := 0, code := some k7c2 }
def k7c3 : Code := { maxStack := 4, maxLocals := 4, code := prog_5_method_4_code, exceptionTable := #[], attributes := #[] }
def k7m3 : Method := { name := "remove", desc := "(I)V", sig := { parameters := [.int], returnType := none }, accessFlags := 0, code := some k7c3 }
def k7c4 : Code := { maxStack := 3, maxLocals := 2, code := prog_5_method_8_code, exceptionTable := #[], attributes := #[] }
def k7m4 : Method := { name := "dropIfEmpty", desc := "(I)V", sig := { parameters := [.int], returnType := none }, accessFlags := 2, code := some k7c4 }
/-- com/example/utopic/utopic/broker/MessageIds -/
def k7 : Class := { plain "com/example/utopic/utopic/broker/MessageIds" (some 0) with
  accessFlags := 32
  interfaces := #[]
  cf := some (fileOf pool7 1 #[] #[{ accessFlags := 0, nameIndex := 11, descriptorIndex := 12, attributes := #[] }, { accessFlags := 0, nameIndex := 69, descriptorIndex := 70, attributes := #[] }, { accessFlags := 0, nameIndex := 72, descriptorIndex := 73, attributes := #[] }, { accessFlags := 0, nameIndex := 74, descriptorIndex := 34, attributes := #[] }, { accessFlags := 2, nameIndex := 33, descriptorIndex := 34, attributes := #[] }] 32 8 #[] #[{ accessFlags := 26, nameIndex := 55, descriptorIndex := 16, attributes := #[] }, { accessFlags := 26, nameIndex := 58, descriptorIndex := 16, attributes := #[] }, { accessFlags := 26, nameIndex := 60, descriptorIndex := 16, attributes := #[] }, { accessFlags := 26, nameIndex := 61, descriptorIndex := 16, attributes := #[] }, { accessFlags := 26, nameIndex := 63, descriptorIndex := 16, attributes := #[] }, { accessFlags := 26, nameIndex := 64, descriptorIndex := 65, attributes := #[] }, { accessFlags := 26, nameIndex := 66, descriptorIndex := 65, attributes := #[] }, { accessFlags := 26, nameIndex := 23, descriptorIndex := 24, attributes := #[] }, { accessFlags := 2, nameIndex := 19, descriptorIndex := 20, attributes := #[] }, { accessFlags := 2, nameIndex := 29, descriptorIndex := 30, attributes := #[] }, { accessFlags := 2, nameIndex := 40, descriptorIndex := 16, attributes := #[] }, { accessFlags := 2, nameIndex := 37, descriptorIndex := 16, attributes := #[] }, { accessFlags := 2, nameIndex := 15, descriptorIndex := 16, attributes := #[] }])
  fields := #[{ name := "PAGE_BITS", type := .int, accessFlags := 26, slot := 0, constantValue := 0 }, { name := "PAGE_SIZE", type := .int, accessFlags := 26, slot := 1, constantValue := 0 }, { name := "PAGES", type := .int, accessFlags := 26, slot := 2, constantValue := 0 }, { name := "ARRAY_BYTES", type := .int, accessFlags := 26, slot := 3, constantValue := 0 }, { name := "REFERENCE_BYTES", type := .int, accessFlags := 26, slot := 4, constantValue := 0 }, { name := "INDEX_BYTES", type := .long, accessFlags := 26, slot := 5, constantValue := 0 }, { name := "PAGE_BYTES", type := .long, accessFlags := 26, slot := 6, constantValue := 0 }, { name := "TYPES", type := (.array (.object "com/example/utopic/utopic/codec/PacketType")), accessFlags := 26, slot := 7, constantValue := 0 }, { name := "pages", type := (.array (.array .byte)), accessFlags := 2, slot := 0, constantValue := 0 }, { name := "taken", type := (.array .char), accessFlags := 2, slot := 1, constantValue := 0 }, { name := "size", type := .int, accessFlags := 2, slot := 2, constantValue := 0 }, { name := "pagesHeld", type := .int, accessFlags := 2, slot := 3, constantValue := 0 }, { name := "lastPage", type := .int, accessFlags := 2, slot := 4, constantValue := 0 }]
  methods := #[k7m0, k7m1, k7m2, k7m3, k7m4]
  instanceTypes := #[(.array (.array .byte)), (.array .char), .int, .int, .int]
  staticTypes := #[.int, .int, .int, .int, .int, .long, .long, (.array (.object "com/example/utopic/utopic/codec/PacketType"))]
  resolved := Array.replicate 81 none
  statics := some 1 }

def pool8 : Array CpInfo := pool [(1, u "java/lang/Cloneable"), (0, .class_ 1), (0, u "java/lang/Object"), (0, .class_ 3)] 3

/-- java/lang/Cloneable -/
def k8 : Class := { plain "java/lang/Cloneable" (some 0) with
  accessFlags := 1537
  interfaces := #[]
  cf := some (fileOf pool8 2 #[] #[] 1537 4 #[] #[])
  fields := #[]
  methods := #[]
  instanceTypes := #[]
  staticTypes := #[]
  resolved := Array.replicate 8 none
  statics := none }

/-- the primitive byte -/
def k9 : Class := { plain "byte" none with kind := .primitive 'B', accessFlags := 0x411 }
/-- [B -/
def k10 : Class := { plain "[B" (some 0) with kind := .array 9 .byte, interfaces := #[8, 4], accessFlags := 1041 }

/-- the primitive char -/
def k11 : Class := { plain "char" none with kind := .primitive 'C', accessFlags := 0x411 }
/-- [C -/
def k12 : Class := { plain "[C" (some 0) with kind := .array 11 .char, interfaces := #[8, 4], accessFlags := 1041 }

/-- the primitive int -/
def k13 : Class := { plain "int" none with kind := .primitive 'I', accessFlags := 0x411 }
/-- [I -/
def k14 : Class := { plain "[I" (some 0) with kind := .array 13 .int, interfaces := #[8, 4], accessFlags := 1041 }

/-- [Lcom/example/utopic/utopic/codec/PacketType; -/
def k15 : Class := { plain "[Lcom/example/utopic/utopic/codec/PacketType;" (some 0) with kind := .array 6 (.object "com/example/utopic/utopic/codec/PacketType"), interfaces := #[8, 4], accessFlags := 1041 }

def k16 : Class := { plain "[[B" (some 0) with kind := .array 10 (.array .byte), interfaces := #[8, 4], accessFlags := 1041 }
def heap : Heap := #[{ cls := 6, slots := #[.ref 4, .ref 5, .ref 6, .ref 7, .ref 8, .ref 9, .ref 10, .ref 11, .ref 12, .ref 13, .ref 14, .ref 15, .ref 16, .ref 17, .int 0, .ref 2, .null], vm := .statics 6 },
  { cls := 7, slots := #[.int 0, .int 0, .int 0, .int 0, .int 0, .long 0, .long 0, .ref 3], vm := .statics 7 },
  { cls := 15, slots := #[.null, .ref 4, .ref 5, .ref 6, .ref 7, .ref 8, .ref 9, .ref 10, .ref 11, .ref 12, .ref 13, .ref 14, .ref 15, .ref 16, .ref 17, .null], vm := .none },
  { cls := 15, slots := #[.ref 4, .ref 5, .ref 6, .ref 7, .ref 8, .ref 9, .ref 10, .ref 11, .ref 12, .ref 13, .ref 14, .ref 15, .ref 16, .ref 17], vm := .none },
  { cls := 6, slots := #[.null, .int 0, .int 0, .int 0, .int 0, .int 0], vm := .none },
  { cls := 6, slots := #[.null, .int 1, .int 0, .int 0, .int 0, .int 0], vm := .none },
  { cls := 6, slots := #[.null, .int 2, .int 0, .int 0, .int 0, .int 0], vm := .none },
  { cls := 6, slots := #[.null, .int 3, .int 0, .int 0, .int 0, .int 0], vm := .none },
  { cls := 6, slots := #[.null, .int 4, .int 0, .int 0, .int 0, .int 0], vm := .none },
  { cls := 6, slots := #[.null, .int 5, .int 0, .int 0, .int 0, .int 0], vm := .none },
  { cls := 6, slots := #[.null, .int 6, .int 0, .int 0, .int 0, .int 0], vm := .none },
  { cls := 6, slots := #[.null, .int 7, .int 0, .int 0, .int 0, .int 0], vm := .none },
  { cls := 6, slots := #[.null, .int 8, .int 0, .int 0, .int 0, .int 0], vm := .none },
  { cls := 6, slots := #[.null, .int 9, .int 0, .int 0, .int 0, .int 0], vm := .none },
  { cls := 6, slots := #[.null, .int 10, .int 0, .int 0, .int 0, .int 0], vm := .none },
  { cls := 6, slots := #[.null, .int 11, .int 0, .int 0, .int 0, .int 0], vm := .none },
  { cls := 6, slots := #[.null, .int 12, .int 0, .int 0, .int 0, .int 0], vm := .none },
  { cls := 6, slots := #[.null, .int 13, .int 0, .int 0, .int 0, .int 0], vm := .none }]
def classes : Array Class := #[k0, k1, k2, k3, k4, k5, k6, k7, k8, k9, k10, k11, k12, k13, k14, k15, k16]
def interned : List (Array UInt16 × Addr) := []
def slotsUsed : Nat := 139
def theMethod : MethodId := ⟨1, 1⟩
def args0 : Array Value := #[.int 5, .int 6, .int 7, .int 8, .int 9, .int 10]
def aboutOver (below : List Frame) : State where
  vm := { classes := classes, interned := interned.toArray }
  heap := heap
  slotsUsed := slotsUsed
  threads := #[{ frames := .invoking theMethod args0 :: below }]
def below0 : List Frame := [.native { method := ⟨0, 0⟩, args := #[] }]
def about1 : State := aboutOver below0
def p0 : Program := .bare "" "" ""
def e0 : Env := launch0.env 0 0 0
theorem w_frames : about1.frames = Frame.invoking theMethod args0 :: below0 := rfl
set_option maxRecDepth 65536 in
theorem w_args : argsFit about1.vm theMethod args0 = true := by decide +kernel
set_option maxRecDepth 65536 in
theorem w_heap : heapFits about1 = true := by decide +kernel
set_option maxRecDepth 65536 in
theorem w_runnable : about1.curStatus? = some .runnable := by decide +kernel
set_option maxRecDepth 65536 in
theorem w_alone : about1.alone = true := by decide +kernel
set_option maxRecDepth 65536 in
theorem w_named : about1.methodNamed? x = some theMethod := by decide +kernel
set_option maxRecDepth 65536 in
theorem w_hears : about1.hears theMethod below0 = true := by decide +kernel
set_option maxRecDepth 65536 in
theorem w_ripe : about1.ripe theMethod args0 below0 = true := by decide +kernel
theorem w_running : about1.status = .running := rfl
set_option maxRecDepth 65536 in
theorem w_room : about1.hasRoom e0.platform room_1 = true :=
  launch0.hasRoom_least _ room_1 (by decide +kernel) (by decide +kernel) (by decide +kernel) (by decide +kernel) (by decide +kernel) (by decide +kernel)
theorem allAtoms_all (ts : List Jvm.Cond) (a : Array Jvm.Value) (st : Jvm.State) : (allAtoms ts).before a st = ts.all (fun c => c.before a st) := by
  induction ts with
  | nil => rfl
  | cons c t ih =>
    show (Jvm.Cond.and c (allAtoms t)).before a st = _
    rw [Jvm.Cond.before_and, ih, List.all_cons]
def words1 : List Jvm.Cond := Jvm.Cond.code x code maxLocals ret :: tables_1
/-- a 'code' word, met by the world's own term for the bytes: nothing is compared byte by byte -/
theorem code_word {y : MethodName} {bytes : ByteArray} {mx : Nat} {rt : Option FieldType} {a : Array Value} {s : State} {m : MethodId} {meth : Method} {c : Code} (h1 : s.methodNamed? y = some m) (h2 : s.vm.method? m = some meth) (h3 : meth.code = some c) (h4 : c.code = bytes)
    (h5 : (c.maxLocals == mx && c.exceptionTable.isEmpty && decide (c.maxStack ≤ mostOperands) && decide (meth.sig.returnType = rt) && !meth.locks && decide (parseMethodDescriptor y.desc = some meth.sig)) = true) : (Jvm.Cond.code y bytes mx rt).before a s = true := by
  simp only [Bool.and_eq_true, beq_iff_eq, Bool.not_eq_true', decide_eq_true_eq] at h5
  obtain ⟨⟨⟨⟨⟨g1, g2⟩, g3⟩, g4⟩, g5⟩, g6⟩ := h5
  simp [Cond.before, Cond.holds, Cond.value, h1, h2, h3, h4, g1, g2, g3, g4, g5, g6]
def isCode : Jvm.Cond → Bool
  | .code _ _ _ _ => true
  | _ => false
theorem all_split {L : List Jvm.Cond} {P : Jvm.Cond → Bool} (h1 : L.all (fun c => isCode c || P c) = true) (h2 : ∀ c ∈ L.filter isCode, P c = true) : L.all P = true := by
  refine List.all_eq_true.mpr fun c hc => ?_
  have h := List.all_eq_true.mp h1 c hc
  rcases Bool.eq_false_or_eq_true (isCode c) with hi | hi
  · exact h2 c (List.mem_filter.mpr ⟨hc, hi⟩)
  · simpa [hi] using h
set_option maxRecDepth 65536 in
theorem w_c0 : (Jvm.Cond.code x code maxLocals ret).before args0 about1 = true := code_word (m := ⟨1, 1⟩) (meth := k1m1) (c := k1c1) (by decide +kernel) rfl rfl rfl (by decide +kernel)
set_option maxRecDepth 65536 in
theorem w_c1 : (Jvm.Cond.code ({ cls := "com/example/utopic/utopic/codec/PacketType", name := "of", desc := "(I)Lcom/example/utopic/utopic/codec/PacketType;" } : Jvm.MethodName) prog_29_method_6_code (2 : Nat) (Option.some (Jvm.ClassFile.FieldType.object "com/example/utopic/utopic/codec/PacketType"))).before args0 about1 = true := code_word (m := ⟨6, 0⟩) (meth := k6m0) (c := k6c0) (by decide +kernel) rfl rfl rfl (by decide +kernel)
set_option maxRecDepth 65536 in
theorem w_c2 : (Jvm.Cond.code ({ cls := "com/example/utopic/utopic/broker/MessageIds", name := "<init>", desc := "()V" } : Jvm.MethodName) prog_5_method_1_code (1 : Nat) (Option.none : Option Jvm.ClassFile.FieldType)).before args0 about1 = true := code_word (m := ⟨7, 0⟩) (meth := k7m0) (c := k7c0) (by decide +kernel) rfl rfl rfl (by decide +kernel)
set_option maxRecDepth 65536 in
theorem w_c3 : (Jvm.Cond.code ({ cls := "java/lang/Object", name := "<init>", desc := "()V" } : Jvm.MethodName) object_method_1_code (1 : Nat) (Option.none : Option Jvm.ClassFile.FieldType)).before args0 about1 = true := code_word (m := ⟨0, 0⟩) (meth := k0m0) (c := k0c0) (by decide +kernel) rfl rfl rfl (by decide +kernel)
set_option maxRecDepth 65536 in
theorem w_c4 : (Jvm.Cond.code ({ cls := "com/example/utopic/utopic/broker/MessageIds", name := "get", desc := "(I)Lcom/example/utopic/utopic/codec/PacketType;" } : Jvm.MethodName) prog_5_method_2_code (4 : Nat) (Option.some (Jvm.ClassFile.FieldType.object "com/example/utopic/utopic/codec/PacketType"))).before args0 about1 = true := code_word (m := ⟨7, 1⟩) (meth := k7m1) (c := k7c1) (by decide +kernel) rfl rfl rfl (by decide +kernel)
set_option maxRecDepth 65536 in
theorem w_c5 : (Jvm.Cond.code ({ cls := "com/example/utopic/utopic/broker/MessageIds", name := "put", desc := "(ILcom/example/utopic/utopic/codec/PacketType;)V" } : Jvm.MethodName) prog_5_method_3_code (5 : Nat) (Option.none : Option Jvm.ClassFile.FieldType)).before args0 about1 = true := code_word (m := ⟨7, 2⟩) (meth := k7m2) (c := k7c2) (by decide +kernel) rfl rfl rfl (by decide +kernel)
set_option maxRecDepth 65536 in
theorem w_c6 : (Jvm.Cond.code ({ cls := "com/example/utopic/utopic/broker/MessageIds", name := "dropIfEmpty", desc := "(I)V" } : Jvm.MethodName) prog_5_method_8_code (2 : Nat) (Option.none : Option Jvm.ClassFile.FieldType)).before args0 about1 = true := code_word (m := ⟨7, 4⟩) (meth := k7m4) (c := k7c4) (by decide +kernel) rfl rfl rfl (by decide +kernel)
set_option maxRecDepth 65536 in
theorem w_c7 : (Jvm.Cond.code ({ cls := "java/lang/Enum", name := "ordinal", desc := "()I" } : Jvm.MethodName) jdk_37_method_2_code (1 : Nat) (Option.some Jvm.ClassFile.FieldType.int)).before args0 about1 = true := code_word (m := ⟨5, 0⟩) (meth := k5m0) (c := k5c0) (by decide +kernel) rfl rfl rfl (by decide +kernel)
set_option maxRecDepth 65536 in
theorem w_c8 : (Jvm.Cond.code ({ cls := "com/example/utopic/utopic/broker/MessageIds", name := "remove", desc := "(I)V" } : Jvm.MethodName) prog_5_method_4_code (4 : Nat) (Option.none : Option Jvm.ClassFile.FieldType)).before args0 about1 = true := code_word (m := ⟨7, 3⟩) (meth := k7m3) (c := k7c3) (by decide +kernel) rfl rfl rfl (by decide +kernel)
def codes1 : List Jvm.Cond := [Jvm.Cond.code x code maxLocals ret, Jvm.Cond.code ({ cls := "com/example/utopic/utopic/codec/PacketType", name := "of", desc := "(I)Lcom/example/utopic/utopic/codec/PacketType;" } : Jvm.MethodName) prog_29_method_6_code (2 : Nat) (Option.some (Jvm.ClassFile.FieldType.object "com/example/utopic/utopic/codec/PacketType")), Jvm.Cond.code ({ cls := "com/example/utopic/utopic/broker/MessageIds", name := "<init>", desc := "()V" } : Jvm.MethodName) prog_5_method_1_code (1 : Nat) (Option.none : Option Jvm.ClassFile.FieldType), Jvm.Cond.code ({ cls := "java/lang/Object", name := "<init>", desc := "()V" } : Jvm.MethodName) object_method_1_code (1 : Nat) (Option.none : Option Jvm.ClassFile.FieldType), Jvm.Cond.code ({ cls := "com/example/utopic/utopic/broker/MessageIds", name := "get", desc := "(I)Lcom/example/utopic/utopic/codec/PacketType;" } : Jvm.MethodName) prog_5_method_2_code (4 : Nat) (Option.some (Jvm.ClassFile.FieldType.object "com/example/utopic/utopic/codec/PacketType")), Jvm.Cond.code ({ cls := "com/example/utopic/utopic/broker/MessageIds", name := "put", desc := "(ILcom/example/utopic/utopic/codec/PacketType;)V" } : Jvm.MethodName) prog_5_method_3_code (5 : Nat) (Option.none : Option Jvm.ClassFile.FieldType), Jvm.Cond.code ({ cls := "com/example/utopic/utopic/broker/MessageIds", name := "dropIfEmpty", desc := "(I)V" } : Jvm.MethodName) prog_5_method_8_code (2 : Nat) (Option.none : Option Jvm.ClassFile.FieldType), Jvm.Cond.code ({ cls := "java/lang/Enum", name := "ordinal", desc := "()I" } : Jvm.MethodName) jdk_37_method_2_code (1 : Nat) (Option.some Jvm.ClassFile.FieldType.int), Jvm.Cond.code ({ cls := "com/example/utopic/utopic/broker/MessageIds", name := "remove", desc := "(I)V" } : Jvm.MethodName) prog_5_method_4_code (4 : Nat) (Option.none : Option Jvm.ClassFile.FieldType)]
set_option maxRecDepth 65536 in
theorem codes_eq : words1.filter isCode = codes1 := rfl
theorem w_codes : ∀ c ∈ words1.filter isCode, c.before args0 about1 = true := by
  rw [codes_eq]
  intro c hc
  simp only [codes1, List.mem_cons, List.not_mem_nil, or_false] at hc
  rcases hc with rfl | rfl | rfl | rfl | rfl | rfl | rfl | rfl | rfl
  · exact w_c0
  · exact w_c1
  · exact w_c2
  · exact w_c3
  · exact w_c4
  · exact w_c5
  · exact w_c6
  · exact w_c7
  · exact w_c8
set_option maxRecDepth 65536 in
theorem w_t1 : (words1.take 24).all (fun c => isCode c || c.before args0 about1) = true := by decide +kernel
set_option maxRecDepth 65536 in
theorem w_t2 : ((words1.drop 24).take 24).all (fun c => isCode c || c.before args0 about1) = true := by decide +kernel
set_option maxRecDepth 65536 in
theorem w_t3 : (((words1.drop 24).drop 24).take 24).all (fun c => isCode c || c.before args0 about1) = true := by decide +kernel
set_option maxRecDepth 65536 in
theorem w_t4 : (((words1.drop 24).drop 24).drop 24).all (fun c => isCode c || c.before args0 about1) = true := by decide +kernel
theorem w_tables : (allAtoms (Jvm.Cond.code x code maxLocals ret :: tables_1)).before args0 about1 = true := by
  rw [allAtoms_all]
  show words1.all (fun c => c.before args0 about1) = true
  refine all_split ?_ w_codes
  rw [← List.take_append_drop 24 words1, List.all_append, w_t1, ← List.take_append_drop 24 (words1.drop 24), List.all_append, w_t2, ← List.take_append_drop 24 ((words1.drop 24).drop 24), List.all_append, w_t3, w_t4]
  rfl
set_option maxRecDepth 65536 in
theorem w_case : (Jvm.Cond.and given_1 narrow_1).before args0 about1 = true := by decide +kernel
theorem w_applies : (headSpec (Jvm.Cond.code x code maxLocals ret :: tables_1) room_1).applies x e0.platform about1 = true :=
  (Spec.applies_iff w_frames).mpr ⟨w_running, w_runnable, w_alone, w_named, w_hears, w_ripe, w_room, w_tables⟩
theorem atStart : AtStart classFile x code maxLocals ret World_1 tables_1 room_1 Calls_1 rest_1 Pre_1 launch0 p0 e0 about1 theMethod args0 below0 :=
  ⟨lists_1, trivial, launch0.admits_env _ _ _, launch0.least_env, fairChoices_fair.cas, fairChoices_fair.clock, w_frames, w_args, w_heap, w_applies, trivial, trivial, w_case⟩
end start1
theorem witness_1 : WitnessClaimed_1 := ⟨start1.p0, start1.e0, start1.about1, start1.theMethod, start1.args0, start1.below0, start1.atStart⟩
end Jvm.Pilot.@@N@@
