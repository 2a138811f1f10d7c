import JvmDerived
import JvmDerived.Pilot.@@N@@Statement
import JvmDerived.Pilot.@@N@@Code
set_option linter.unusedVariables false
set_option linter.unusedSimpArgs false

namespace Jvm.Pilot.@@N@@
open Jvm Jvm.ClassFile Sem Op Lib Jvm.Free Jvm.Stand Jvm.LawKit Jvm.RoadKit Bundle Jvm.Pilot.@@N@@.Jvm.D
/-- the run from A comes to a state of which P holds -/
def own_Go (tb : Tables) (e : Env) (below : List Frame) (P : State → Prop) (A : State) : Prop := ∃ U, Steps tb e below A U ∧ P U
theorem own_go {tb : Tables} {e : Env} {below : List Frame} {P : State → Prop} {A B : State} (h : ∀ t, Steps tb e below B t → Steps tb e below A t) (k : own_Go tb e below P B) : own_Go tb e below P A := by
  obtain ⟨U, h1, h2⟩ := k; exact ⟨U, h U h1, h2⟩
theorem own_goT {tb : Tables} {e : Env} {below : List Frame} {P : State → Prop} {A B : State} (h : Steps tb e below A B) (k : own_Go tb e below P B) : own_Go tb e below P A := by
  obtain ⟨U, h1, h2⟩ := k; exact ⟨U, h.trans h1, h2⟩
/-- the body's end: it returned, and Q says of what -/
def own_End (s : State) (below : List Frame) (Q : Option Value → Heap → List Loc → Prop) (cells slots : Nat) (t : State) : Prop := ∃ o, t.status = .running ∧ Ended t below o ∧ ∃ v L, o = .returned v ∧ Q v t.heap L ∧ FrameEnd s o t L cells slots
theorem own_body {tb : Tables} {e : Env} {below : List Frame} {s A : State} {Q : Option Value → Heap → List Loc → Prop} {cells slots : Nat} (k : own_Go tb e below (own_End s below Q cells slots) A) :
    ∃ s₂ o, Steps tb e below A s₂ ∧ s₂.status = .running ∧ Ended s₂ below o ∧ ∃ v L, o = .returned v ∧ Q v s₂.heap L ∧ FrameEnd s o s₂ L cells slots := by
  obtain ⟨U, h1, o, h2, h3, h4⟩ := k; exact ⟨U, o, h1, h2, h3, h4⟩
theorem own_ret {p : Program} {l : Launch} {e : Env} {R : Room} {s : State} {m : MethodId} {args : Array Value} {below : List Frame} {meth : Method} {c : Code} {T A : State} {locs : List Loc} {cells slots : Nat} {Q : Option Value → Heap → List Loc → Prop} {cs ss : Nat}
    (X : Stand p l e R s m args below meth c T locs cells slots) (hlk : meth.locks = false) {v : Option Value} (hv : meth.sig.returnType = none → v = none)
    (hst : ∀ fs : List Frame, (∀ (f : JFrame) (acts : List Action), f.method = m → f.locked = none → f.entered = [] → (doReturn e (T.setTop f) acts v).1 = T.setFrames fs) → Steps p.tables e below A (T.setFrames fs))
    (hQ : Q v T.heap locs) (hc : cells ≤ cs) (hs : slots ≤ ss) : own_Go p.tables e below (own_End s below Q cs ss) A := by
  obtain ⟨fs, hr, hrun, hended, hW, hsame⟩ := X.leave (v := v) hv hlk
  exact ⟨_, hst fs hr, _, hrun, hended, _, _, rfl, hQ, ⟨_, rfl⟩, hW, hsame.mono hc hs⟩
theorem own_ef (m : MethodId) (as : Array Value) (n : Nat) (Ls : Array Slot) (h : argsToLocals as n = Ls) : entryFrame m as n = mkF m 0 Ls [] := by rw [← h]; rfl
/-- a body's contract in this family -/
abbrev own_Met (l : Launch) (Z : State) (ws : List Jvm.Cond) (y : MethodName) (bytes : ByteArray) (maxL : Nat) (ret : Option FieldType) (rm : Room) (as : Array Value) (h0 : Heap) (Q : Option Value → Heap → List Loc → Prop) : Prop :=
  MetFree l y (head1 (Jvm.Cond.code y bytes maxL ret :: ws) rm) (fun a U => a = as ∧ Z.Warmed39 U.vm ∧ U.heap = h0) (fun _ _ _ _ _ => True) (fun _ U o U' => ∃ v L, o = .returned v ∧ Q v U'.heap L ∧ FrameEnd U o U' L rm.cells rm.slots)
theorem own_sta_keep {Z : State} {h h' : Heap} {C n d : String} {v : Value} {ws : List Addr} (F : Sta Z h C n d v) (K : Keep h h' ws) (q : ∀ a ∈ ws, ∃ C', Exa Z h a C') : Sta Z h' C n d v := by
  obtain ⟨cf, i, k, f, st, cell, h1, h2, h3, h4, h5, h6, h7⟩ := F
  refine ⟨cf, i, k, f, st, cell, h1, h2, h3, h4, K.2.1 st cell h5 fun hm => ?_, h6, h7⟩
  obtain ⟨C', cell', k', e1, -, -, e4, -⟩ := q st hm
  cases h5.symm.trans e1
  rw [e4] at h6; cases h6
theorem own_back {p : Program} {l : Launch} {e : Env} {R : Room} {s : State} {args : Array Value} {below : List Frame} {Z : State} {a0 : Array Value} {h : Heap} {y : MethodName} {bytes : ByteArray} {maxL : Nat} {ret : Option FieldType} {rm : Room} {len W : Nat} {as' : Array Value} {Q : Option Value → Heap → List Loc → Prop}
    (hM : own_Met l Z [] y bytes maxL ret rm as' h Q) (hZ : Z.Warmed39 s.vm) (wc : (Cond.code y bytes maxL ret).before a0 Z = true) (wz : (Cond.initialized y.cls).before a0 Z = true) (hf : rm.frames + 1 ≤ R.frames) (hl : W + (maxL + 11) + rm.locals ≤ R.locals) :
    Back l R p e below s args y len W (fun A a => a = as' ∧ A.U.heap = h ∧ A.cells + rm.cells ≤ R.cells ∧ A.slots + rm.slots ≤ R.slots)
      (fun A _ v B => ∃ L, Q v B.U.heap L ∧ B.locs = A.locs ++ L ∧ B.cells = A.cells + rm.cells ∧ B.slots = A.slots + rm.slots) :=
  backOf (Q := Q) hM hZ wc wz hf hl
theorem own_hp {T : State} {h : Heap} {a : Addr} {cl : Cell} (eT : T.heap = h) (h1 : h[a]? = some cl) : T.heap[a]? = some cl := by rw [eT]; exact h1

theorem own_p (x : Int32) : 0 ≤ (x &&& 65535).toInt ∧ (x &&& 65535).toInt < 65536 := by
  have h := c_mask x 65535 16 (by decide) (by decide); omega
/-- the low byte, stored and read back -/
theorem own_lo {p : Int32} (h1 : 0 ≤ p.toInt) (h2 : p.toInt < 65536) : (nar .byte p.toInt8.toInt32 &&& 255) = p % 256 := by
  apply Int32.toInt_inj.mp
  have a1 := c_i2b p; have a2 := c_i2b p.toInt8.toInt32
  have a3 := c_mask (nar .byte p.toInt8.toInt32) 255 8 (by decide) (by decide)
  have a4 := (c_irem p 256 256 rfl).1 h1
  have e : nar .byte p.toInt8.toInt32 = p.toInt8.toInt32.toInt8.toInt32 := rfl
  rw [e] at a3 ⊢; omega
theorem own_hi {p : Int32} (h1 : 0 ≤ p.toInt) (h2 : p.toInt < 65536) : (nar .byte ((p.toUInt32 >>> ((8 : Int32) &&& 31).toUInt32).toInt32).toInt8.toInt32 &&& 255) = p / 256 := by
  apply Int32.toInt_inj.mp
  have a0 := c_iushr p 8 8 (by decide) (by decide)
  generalize (p.toUInt32 >>> ((8 : Int32) &&& 31).toUInt32).toInt32 = q at a0 ⊢
  have a1 := c_i2b q; have a2 := c_i2b q.toInt8.toInt32
  have a3 := c_mask (nar .byte q.toInt8.toInt32) 255 8 (by decide) (by decide)
  have a4 := (c_idiv p 256 256 rfl (by decide)).1 h1
  have e : nar .byte q.toInt8.toInt32 = q.toInt8.toInt32.toInt8.toInt32 := rfl
  rw [e] at a3 ⊢; omega
theorem own_bk {p : Int32} (h1 : 0 ≤ p.toInt) (h2 : p.toInt < 65536) : (p % 256) ||| ((p / 256) <<< ((8 : Int32) &&& 31)) = p := by
  apply Int32.toInt_inj.mp
  have a4 := (c_idiv p 256 256 rfl (by decide)).1 h1
  have a5 := (c_irem p 256 256 rfl).1 h1
  have a6 := c_ishl (p / 256) 8 8 (by decide)
  have r6 := rng32 ((p / 256) <<< ((8 : Int32) &&& 31))
  have a7 := c_or' (p % 256) ((p / 256) <<< ((8 : Int32) &&& 31)) 8 (by decide) 256 rfl (by omega) (by omega) (by omega)
  have r7 := rng32 ((p % 256) ||| ((p / 256) <<< ((8 : Int32) &&& 31)))
  omega
theorem own_d1_0 : decode prog_3_method_4_code 0 = .ok (.bipush 6, 2) := by decide +kernel
theorem own_d1_2 : decode prog_3_method_4_code 2 = .ok (.newarray .byte, 2) := by decide +kernel
theorem own_d1_4 : decode prog_3_method_4_code 4 = .ok (.dup, 1) := by decide +kernel
theorem own_d1_5 : decode prog_3_method_4_code 5 = .ok (.iconst 0, 1) := by decide +kernel
theorem own_d1_6 : decode prog_3_method_4_code 6 = .ok (.iconst 5, 1) := by decide +kernel
theorem own_d1_7 : decode prog_3_method_4_code 7 = .ok (.bastore, 1) := by decide +kernel
theorem own_d1_8 : decode prog_3_method_4_code 8 = .ok (.dup, 1) := by decide +kernel
theorem own_d1_9 : decode prog_3_method_4_code 9 = .ok (.iconst 1, 1) := by decide +kernel
theorem own_d1_10 : decode prog_3_method_4_code 10 = .ok (.bipush 6, 2) := by decide +kernel
theorem own_d1_12 : decode prog_3_method_4_code 12 = .ok (.bastore, 1) := by decide +kernel
theorem own_d1_13 : decode prog_3_method_4_code 13 = .ok (.dup, 1) := by decide +kernel
theorem own_d1_14 : decode prog_3_method_4_code 14 = .ok (.iconst 2, 1) := by decide +kernel
theorem own_d1_15 : decode prog_3_method_4_code 15 = .ok (.iconst 0, 1) := by decide +kernel
theorem own_d1_16 : decode prog_3_method_4_code 16 = .ok (.bastore, 1) := by decide +kernel
theorem own_d1_17 : decode prog_3_method_4_code 17 = .ok (.dup, 1) := by decide +kernel
theorem own_d1_18 : decode prog_3_method_4_code 18 = .ok (.iconst 3, 1) := by decide +kernel
theorem own_d1_19 : decode prog_3_method_4_code 19 = .ok (.iconst 1, 1) := by decide +kernel
theorem own_d1_20 : decode prog_3_method_4_code 20 = .ok (.bastore, 1) := by decide +kernel
theorem own_d1_21 : decode prog_3_method_4_code 21 = .ok (.dup, 1) := by decide +kernel
theorem own_d1_22 : decode prog_3_method_4_code 22 = .ok (.iconst 4, 1) := by decide +kernel
theorem own_d1_23 : decode prog_3_method_4_code 23 = .ok (.iload_n 0, 1) := by decide +kernel
theorem own_d1_24 : decode prog_3_method_4_code 24 = .ok (.i2b, 1) := by decide +kernel
theorem own_d1_25 : decode prog_3_method_4_code 25 = .ok (.bastore, 1) := by decide +kernel
theorem own_d1_26 : decode prog_3_method_4_code 26 = .ok (.dup, 1) := by decide +kernel
theorem own_d1_27 : decode prog_3_method_4_code 27 = .ok (.iconst 5, 1) := by decide +kernel
theorem own_d1_28 : decode prog_3_method_4_code 28 = .ok (.iload_n 0, 1) := by decide +kernel
theorem own_d1_29 : decode prog_3_method_4_code 29 = .ok (.bipush 8, 2) := by decide +kernel
theorem own_d1_31 : decode prog_3_method_4_code 31 = .ok (.iushr, 1) := by decide +kernel
theorem own_d1_32 : decode prog_3_method_4_code 32 = .ok (.i2b, 1) := by decide +kernel
theorem own_d1_33 : decode prog_3_method_4_code 33 = .ok (.bastore, 1) := by decide +kernel
theorem own_d1_34 : decode prog_3_method_4_code 34 = .ok (.areturn, 1) := by decide +kernel
theorem own_pn0 : plainName "com/example/portcall/portcall/codec/Answer" = true := by first | (simp [plainName, overriddenIn]; done) | decide +kernel
set_option maxRecDepth 65536 in
set_option maxHeartbeats 40000000 in
theorem own_rm1 (l : Launch) (Z : State) (a0 : Array Value) (hw : ∀ d ∈ tables_1, d.before a0 Z = true) (p1 : Int32) (h0 : Heap) (n0 : Nat) (Z0 : n0 ≤ h0.size)  :
    own_Met l Z [] (⟨"com/example/portcall/portcall/codec/Answer", "admin", "(I)[B"⟩ : MethodName) prog_3_method_4_code 1 (some (.array .byte)) ({ frames := 0, cells := 1, slots := 6, locals := 0 } : Room) #[(.int p1)] h0 (fun v h L => ∃ (b : Addr) (k : ClassId), v = some (.ref b) ∧ Fr n0 L ∧ Keep h0 h [] ∧ n0 ≤ b ∧ h0.size ≤ b ∧ Arv Z h b k .byte 6 [(.int 5), (.int 6), (.int 0), (.int 1), (.int (nar .byte p1.toInt8.toInt32)), (.int (nar .byte ((p1.toUInt32 >>> ((8 : Int32) &&& 31).toUInt32).toInt32).toInt8.toInt32))] (.int 0)) := by
  refine MetFree.of_bodySF (plainFor_of_name own_pn0) hisR ?_
  intro p e s m args below meth c s₁ Bd hml0 hP hK
  obtain ⟨rfl, hZ, hh⟩ := hP
  have hx := Bd.exec
  have hby := Bd.bytes
  have hml : c.maxLocals = 1 := hml0
  have hown : s.vm.findClass "com/example/portcall/portcall/codec/Answer" = some m.cls := findClass_of_methodNamed Bd.named
  have hnm := (name_of_methodNamed Bd.named Bd.method).1
  have hlk : meth.locks = false := Bd.notSynchronized
  have X0 : Stand p l e ({ frames := 0, cells := 1, slots := 6, locals := 0 } : Room) s m #[(.int p1)] below meth c s₁ [] 0 0 := Stand.of_body Bd
  have e0 : s₁.heap = h0 := by rw [← hh, Bd.state]; rfl
  have N0 := Fr.nil n0
  refine own_body (Q := fun v h L => ∃ (b : Addr) (k : ClassId), v = some (.ref b) ∧ Fr n0 L ∧ Keep h0 h [] ∧ n0 ≤ b ∧ h0.size ≤ b ∧ Arv Z h b k .byte 6 [(.int 5), (.int 6), (.int 0), (.int 1), (.int (nar .byte p1.toInt8.toInt32)), (.int (nar .byte ((p1.toUInt32 >>> ((8 : Int32) &&& 31).toUInt32).toInt32).toInt8.toInt32))] (.int 0)) ?_
  refine own_go (fun t k => castTop (own_ef m #[(.int p1)] 1 #[.val (.int p1)] (by first | rfl | simp [argsToLocals, Value.category, maxLocals])) k) ?_
  show own_Go _ _ _ _ (s₁.setTop (mkF m 0 #[.val (.int p1)] []))
  have K0 : Keep h0 h0 [] := Keep.refl _ _
  refine own_go (fun _ k => XS.bipush X0.here hx rfl (hb hby own_d1_0) k) ?_
  show own_Go _ _ _ _ (s₁.setTop (mkF m 2 #[.val (.int p1)] [(.int (6 : Int32))]))
  obtain ⟨T1, h1, k1, X1, e1, E1, A1, st1⟩ := newP X0 hx hZ (hw _ (List.mem_of_getElem? (i := 5) rfl)) e0 (g := (mkF m 2 #[.val (.int p1)] [(.int (6 : Int32))])) rfl (hb hby own_d1_2) rfl (by decide) (cap := 6) (by decide) (by decide) (by decide) (by decide)
  obtain ⟨b1, g1⟩ : ∃ z, z = h0.size := ⟨_, rfl⟩
  rw [← g1] at A1 st1
  refine own_go st1 ?_
  have ge_b1 : n0 ≤ b1 := Nat.le_trans Z0 (Nat.le_of_eq g1.symm)
  have sz_b1 : h0.size ≤ b1 := Nat.le_trans K0.1 (Nat.le_of_eq g1.symm)
  replace Z0 := Nat.le_trans Z0 E1.1
  replace K0 := K0.ext E1
  have V_b1 : Arv Z h1 b1 k1 .byte (6 : Int32) [(.int (0 : Int32)), (.int (0 : Int32)), (.int (0 : Int32)), (.int (0 : Int32)), (.int (0 : Int32)), (.int (0 : Int32))] (.int (0 : Int32)) := (Arv.new A1 (by decide)).pad (pad_rep [] (.int (0 : Int32)) 6)
  show own_Go _ _ _ _ (T1.setTop (mkF m 4 #[.val (.int p1)] [(.ref b1)]))
  refine own_go (fun _ k => XS.dup X1.here hx rfl (hb hby own_d1_4) rfl rfl k) ?_
  show own_Go _ _ _ _ (T1.setTop (mkF m 5 #[.val (.int p1)] [(.ref b1), (.ref b1)]))
  refine own_go (fun _ k => XS.iconst X1.here hx rfl (hb hby own_d1_5) k) ?_
  show own_Go _ _ _ _ (T1.setTop (mkF m 6 #[.val (.int p1)] [(.int (0 : Int32)), (.ref b1), (.ref b1)]))
  refine own_go (fun _ k => XS.iconst X1.here hx rfl (hb hby own_d1_6) k) ?_
  show own_Go _ _ _ _ (T1.setTop (mkF m 7 #[.val (.int p1)] [(.int (5 : Int32)), (.int (0 : Int32)), (.ref b1), (.ref b1)]))
  obtain ⟨cl2, Ar2, q2, Sz2, Ng2, Hs2, Gs2⟩ := V_b1
  have hin2 : ¬ ((0 : Int32) < 0 ∨ cl2.slots.size ≤ ((0 : Int32)).toNatClampNeg) := inb_of Sz2 ⟨by decide, by decide⟩
  obtain ⟨T2, h2, X2, e2, W2, st2⟩ := stB X1 hx hZ e1 Ar2 (j := (0 : Int32)) hin2 (g := (mkF m 7 #[.val (.int p1)] [(.int (5 : Int32)), (.int (0 : Int32)), (.ref b1), (.ref b1)])) rfl rfl (hb hby own_d1_7)
  refine own_go st2 ?_
  have NF2 := Fr.snoc X2 N0 ge_b1
  replace V_b1 : Arv Z h2 b1 k1 .byte (6 : Int32) [(.int (nar .byte (5 : Int32))), (.int (0 : Int32)), (.int (0 : Int32)), (.int (0 : Int32)), (.int (0 : Int32)), (.int (0 : Int32))] (.int (0 : Int32)) := Arv.set Ar2 q2 Sz2 Ng2 Hs2 Gs2 (fits_nar_byte _) W2 0 rfl (Nat.le_of_ble_eq_true rfl)
  replace Z0 := Nat.le_trans Z0 (Keep.of_wr W2).1
  replace K0 := K0.wr W2 (Or.inr sz_b1)
  show own_Go _ _ _ _ (T2.setTop (mkF m 8 #[.val (.int p1)] [(.ref b1)]))
  refine own_go (fun _ k => XS.dup X2.here hx rfl (hb hby own_d1_8) rfl rfl k) ?_
  show own_Go _ _ _ _ (T2.setTop (mkF m 9 #[.val (.int p1)] [(.ref b1), (.ref b1)]))
  refine own_go (fun _ k => XS.iconst X2.here hx rfl (hb hby own_d1_9) k) ?_
  show own_Go _ _ _ _ (T2.setTop (mkF m 10 #[.val (.int p1)] [(.int (1 : Int32)), (.ref b1), (.ref b1)]))
  refine own_go (fun _ k => XS.bipush X2.here hx rfl (hb hby own_d1_10) k) ?_
  show own_Go _ _ _ _ (T2.setTop (mkF m 12 #[.val (.int p1)] [(.int (6 : Int32)), (.int (1 : Int32)), (.ref b1), (.ref b1)]))
  obtain ⟨cl3, Ar3, q3, Sz3, Ng3, Hs3, Gs3⟩ := V_b1
  have hin3 : ¬ ((1 : Int32) < 0 ∨ cl3.slots.size ≤ ((1 : Int32)).toNatClampNeg) := inb_of Sz3 ⟨by decide, by decide⟩
  obtain ⟨T3, h3, X3, e3, W3, st3⟩ := stB X2 hx hZ e2 Ar3 (j := (1 : Int32)) hin3 (g := (mkF m 12 #[.val (.int p1)] [(.int (6 : Int32)), (.int (1 : Int32)), (.ref b1), (.ref b1)])) rfl rfl (hb hby own_d1_12)
  refine own_go st3 ?_
  have NF3 := Fr.snoc X3 NF2 ge_b1
  replace V_b1 : Arv Z h3 b1 k1 .byte (6 : Int32) [(.int (nar .byte (5 : Int32))), (.int (nar .byte (6 : Int32))), (.int (0 : Int32)), (.int (0 : Int32)), (.int (0 : Int32)), (.int (0 : Int32))] (.int (0 : Int32)) := Arv.set Ar3 q3 Sz3 Ng3 Hs3 Gs3 (fits_nar_byte _) W3 1 rfl (Nat.le_of_ble_eq_true rfl)
  replace Z0 := Nat.le_trans Z0 (Keep.of_wr W3).1
  replace K0 := K0.wr W3 (Or.inr sz_b1)
  show own_Go _ _ _ _ (T3.setTop (mkF m 13 #[.val (.int p1)] [(.ref b1)]))
  refine own_go (fun _ k => XS.dup X3.here hx rfl (hb hby own_d1_13) rfl rfl k) ?_
  show own_Go _ _ _ _ (T3.setTop (mkF m 14 #[.val (.int p1)] [(.ref b1), (.ref b1)]))
  refine own_go (fun _ k => XS.iconst X3.here hx rfl (hb hby own_d1_14) k) ?_
  show own_Go _ _ _ _ (T3.setTop (mkF m 15 #[.val (.int p1)] [(.int (2 : Int32)), (.ref b1), (.ref b1)]))
  refine own_go (fun _ k => XS.iconst X3.here hx rfl (hb hby own_d1_15) k) ?_
  show own_Go _ _ _ _ (T3.setTop (mkF m 16 #[.val (.int p1)] [(.int (0 : Int32)), (.int (2 : Int32)), (.ref b1), (.ref b1)]))
  obtain ⟨cl4, Ar4, q4, Sz4, Ng4, Hs4, Gs4⟩ := V_b1
  have hin4 : ¬ ((2 : Int32) < 0 ∨ cl4.slots.size ≤ ((2 : Int32)).toNatClampNeg) := inb_of Sz4 ⟨by decide, by decide⟩
  obtain ⟨T4, h4, X4, e4, W4, st4⟩ := stB X3 hx hZ e3 Ar4 (j := (2 : Int32)) hin4 (g := (mkF m 16 #[.val (.int p1)] [(.int (0 : Int32)), (.int (2 : Int32)), (.ref b1), (.ref b1)])) rfl rfl (hb hby own_d1_16)
  refine own_go st4 ?_
  have NF4 := Fr.snoc X4 NF3 ge_b1
  replace V_b1 : Arv Z h4 b1 k1 .byte (6 : Int32) [(.int (nar .byte (5 : Int32))), (.int (nar .byte (6 : Int32))), (.int (nar .byte (0 : Int32))), (.int (0 : Int32)), (.int (0 : Int32)), (.int (0 : Int32))] (.int (0 : Int32)) := Arv.set Ar4 q4 Sz4 Ng4 Hs4 Gs4 (fits_nar_byte _) W4 2 rfl (Nat.le_of_ble_eq_true rfl)
  replace Z0 := Nat.le_trans Z0 (Keep.of_wr W4).1
  replace K0 := K0.wr W4 (Or.inr sz_b1)
  show own_Go _ _ _ _ (T4.setTop (mkF m 17 #[.val (.int p1)] [(.ref b1)]))
  refine own_go (fun _ k => XS.dup X4.here hx rfl (hb hby own_d1_17) rfl rfl k) ?_
  show own_Go _ _ _ _ (T4.setTop (mkF m 18 #[.val (.int p1)] [(.ref b1), (.ref b1)]))
  refine own_go (fun _ k => XS.iconst X4.here hx rfl (hb hby own_d1_18) k) ?_
  show own_Go _ _ _ _ (T4.setTop (mkF m 19 #[.val (.int p1)] [(.int (3 : Int32)), (.ref b1), (.ref b1)]))
  refine own_go (fun _ k => XS.iconst X4.here hx rfl (hb hby own_d1_19) k) ?_
  show own_Go _ _ _ _ (T4.setTop (mkF m 20 #[.val (.int p1)] [(.int (1 : Int32)), (.int (3 : Int32)), (.ref b1), (.ref b1)]))
  obtain ⟨cl5, Ar5, q5, Sz5, Ng5, Hs5, Gs5⟩ := V_b1
  have hin5 : ¬ ((3 : Int32) < 0 ∨ cl5.slots.size ≤ ((3 : Int32)).toNatClampNeg) := inb_of Sz5 ⟨by decide, by decide⟩
  obtain ⟨T5, h5, X5, e5, W5, st5⟩ := stB X4 hx hZ e4 Ar5 (j := (3 : Int32)) hin5 (g := (mkF m 20 #[.val (.int p1)] [(.int (1 : Int32)), (.int (3 : Int32)), (.ref b1), (.ref b1)])) rfl rfl (hb hby own_d1_20)
  refine own_go st5 ?_
  have NF5 := Fr.snoc X5 NF4 ge_b1
  replace V_b1 : Arv Z h5 b1 k1 .byte (6 : Int32) [(.int (nar .byte (5 : Int32))), (.int (nar .byte (6 : Int32))), (.int (nar .byte (0 : Int32))), (.int (nar .byte (1 : Int32))), (.int (0 : Int32)), (.int (0 : Int32))] (.int (0 : Int32)) := Arv.set Ar5 q5 Sz5 Ng5 Hs5 Gs5 (fits_nar_byte _) W5 3 rfl (Nat.le_of_ble_eq_true rfl)
  replace Z0 := Nat.le_trans Z0 (Keep.of_wr W5).1
  replace K0 := K0.wr W5 (Or.inr sz_b1)
  show own_Go _ _ _ _ (T5.setTop (mkF m 21 #[.val (.int p1)] [(.ref b1)]))
  refine own_go (fun _ k => XS.dup X5.here hx rfl (hb hby own_d1_21) rfl rfl k) ?_
  show own_Go _ _ _ _ (T5.setTop (mkF m 22 #[.val (.int p1)] [(.ref b1), (.ref b1)]))
  refine own_go (fun _ k => XS.iconst X5.here hx rfl (hb hby own_d1_22) k) ?_
  show own_Go _ _ _ _ (T5.setTop (mkF m 23 #[.val (.int p1)] [(.int (4 : Int32)), (.ref b1), (.ref b1)]))
  refine own_go (fun _ k => XS.iloadN X5.here hx rfl (hb hby own_d1_23) rfl k) ?_
  show own_Go _ _ _ _ (T5.setTop (mkF m 24 #[.val (.int p1)] [(.int p1), (.int (4 : Int32)), (.ref b1), (.ref b1)]))
  refine own_go (fun _ k => XS.i2b X5.here hx rfl (hb hby own_d1_24) rfl k) ?_
  show own_Go _ _ _ _ (T5.setTop (mkF m 25 #[.val (.int p1)] [(.int (p1.toInt8.toInt32)), (.int (4 : Int32)), (.ref b1), (.ref b1)]))
  obtain ⟨cl6, Ar6, q6, Sz6, Ng6, Hs6, Gs6⟩ := V_b1
  have hin6 : ¬ ((4 : Int32) < 0 ∨ cl6.slots.size ≤ ((4 : Int32)).toNatClampNeg) := inb_of Sz6 ⟨by decide, by decide⟩
  obtain ⟨T6, h6, X6, e6, W6, st6⟩ := stB X5 hx hZ e5 Ar6 (j := (4 : Int32)) hin6 (g := (mkF m 25 #[.val (.int p1)] [(.int (p1.toInt8.toInt32)), (.int (4 : Int32)), (.ref b1), (.ref b1)])) rfl rfl (hb hby own_d1_25)
  refine own_go st6 ?_
  have NF6 := Fr.snoc X6 NF5 ge_b1
  replace V_b1 : Arv Z h6 b1 k1 .byte (6 : Int32) [(.int (nar .byte (5 : Int32))), (.int (nar .byte (6 : Int32))), (.int (nar .byte (0 : Int32))), (.int (nar .byte (1 : Int32))), (.int (nar .byte (p1.toInt8.toInt32))), (.int (0 : Int32))] (.int (0 : Int32)) := Arv.set Ar6 q6 Sz6 Ng6 Hs6 Gs6 (fits_nar_byte _) W6 4 rfl (Nat.le_of_ble_eq_true rfl)
  replace Z0 := Nat.le_trans Z0 (Keep.of_wr W6).1
  replace K0 := K0.wr W6 (Or.inr sz_b1)
  show own_Go _ _ _ _ (T6.setTop (mkF m 26 #[.val (.int p1)] [(.ref b1)]))
  refine own_go (fun _ k => XS.dup X6.here hx rfl (hb hby own_d1_26) rfl rfl k) ?_
  show own_Go _ _ _ _ (T6.setTop (mkF m 27 #[.val (.int p1)] [(.ref b1), (.ref b1)]))
  refine own_go (fun _ k => XS.iconst X6.here hx rfl (hb hby own_d1_27) k) ?_
  show own_Go _ _ _ _ (T6.setTop (mkF m 28 #[.val (.int p1)] [(.int (5 : Int32)), (.ref b1), (.ref b1)]))
  refine own_go (fun _ k => XS.iloadN X6.here hx rfl (hb hby own_d1_28) rfl k) ?_
  show own_Go _ _ _ _ (T6.setTop (mkF m 29 #[.val (.int p1)] [(.int p1), (.int (5 : Int32)), (.ref b1), (.ref b1)]))
  refine own_go (fun _ k => XS.bipush X6.here hx rfl (hb hby own_d1_29) k) ?_
  show own_Go _ _ _ _ (T6.setTop (mkF m 31 #[.val (.int p1)] [(.int (8 : Int32)), (.int p1), (.int (5 : Int32)), (.ref b1), (.ref b1)]))
  refine own_go (fun _ k => XS.iushr X6.here hx rfl (hb hby own_d1_31) rfl k) ?_
  show own_Go _ _ _ _ (T6.setTop (mkF m 32 #[.val (.int p1)] [(.int ((p1.toUInt32 >>> ((8 : Int32) &&& 31).toUInt32).toInt32)), (.int (5 : Int32)), (.ref b1), (.ref b1)]))
  refine own_go (fun _ k => XS.i2b X6.here hx rfl (hb hby own_d1_32) rfl k) ?_
  show own_Go _ _ _ _ (T6.setTop (mkF m 33 #[.val (.int p1)] [(.int (((p1.toUInt32 >>> ((8 : Int32) &&& 31).toUInt32).toInt32).toInt8.toInt32)), (.int (5 : Int32)), (.ref b1), (.ref b1)]))
  obtain ⟨cl7, Ar7, q7, Sz7, Ng7, Hs7, Gs7⟩ := V_b1
  have hin7 : ¬ ((5 : Int32) < 0 ∨ cl7.slots.size ≤ ((5 : Int32)).toNatClampNeg) := inb_of Sz7 ⟨by decide, by decide⟩
  obtain ⟨T7, h7, X7, e7, W7, st7⟩ := stB X6 hx hZ e6 Ar7 (j := (5 : Int32)) hin7 (g := (mkF m 33 #[.val (.int p1)] [(.int (((p1.toUInt32 >>> ((8 : Int32) &&& 31).toUInt32).toInt32).toInt8.toInt32)), (.int (5 : Int32)), (.ref b1), (.ref b1)])) rfl rfl (hb hby own_d1_33)
  refine own_go st7 ?_
  have NF7 := Fr.snoc X7 NF6 ge_b1
  replace V_b1 : Arv Z h7 b1 k1 .byte (6 : Int32) [(.int (nar .byte (5 : Int32))), (.int (nar .byte (6 : Int32))), (.int (nar .byte (0 : Int32))), (.int (nar .byte (1 : Int32))), (.int (nar .byte (p1.toInt8.toInt32))), (.int (nar .byte (((p1.toUInt32 >>> ((8 : Int32) &&& 31).toUInt32).toInt32).toInt8.toInt32)))] (.int (0 : Int32)) := Arv.set Ar7 q7 Sz7 Ng7 Hs7 Gs7 (fits_nar_byte _) W7 5 rfl (Nat.le_of_ble_eq_true rfl)
  replace Z0 := Nat.le_trans Z0 (Keep.of_wr W7).1
  replace K0 := K0.wr W7 (Or.inr sz_b1)
  show own_Go _ _ _ _ (T7.setTop (mkF m 34 #[.val (.int p1)] [(.ref b1)]))
  refine own_ret X7 hlk (v := some (.ref b1)) (fun h => by rw [Bd.returns] at h; cases h) (fun fs hr => retOut X7 hx Bd.returns rfl (Or.inr (Or.inr (Or.inr (Or.inr ⟨rfl, rfl, rfl⟩)))) (hb hby own_d1_34) hr) ?_ (by decide) (by decide)
  try rw [e7]
  exact ⟨b1, k1, rfl, NF7, K0, ge_b1, sz_b1, V_b1⟩
theorem own_d4_0 : decode prog_3_method_11_code 0 = .ok (.aload_n 0, 1) := by decide +kernel
theorem own_d4_1 : decode prog_3_method_11_code 1 = .ok (.iload_n 1, 1) := by decide +kernel
theorem own_d4_2 : decode prog_3_method_11_code 2 = .ok (.baload, 1) := by decide +kernel
theorem own_d4_3 : decode prog_3_method_11_code 3 = .ok (.sipush 255, 3) := by decide +kernel
theorem own_d4_6 : decode prog_3_method_11_code 6 = .ok (.iand, 1) := by decide +kernel
theorem own_d4_7 : decode prog_3_method_11_code 7 = .ok (.aload_n 0, 1) := by decide +kernel
theorem own_d4_8 : decode prog_3_method_11_code 8 = .ok (.iload_n 1, 1) := by decide +kernel
theorem own_d4_9 : decode prog_3_method_11_code 9 = .ok (.iconst 1, 1) := by decide +kernel
theorem own_d4_10 : decode prog_3_method_11_code 10 = .ok (.iadd, 1) := by decide +kernel
theorem own_d4_11 : decode prog_3_method_11_code 11 = .ok (.baload, 1) := by decide +kernel
theorem own_d4_12 : decode prog_3_method_11_code 12 = .ok (.sipush 255, 3) := by decide +kernel
theorem own_d4_15 : decode prog_3_method_11_code 15 = .ok (.iand, 1) := by decide +kernel
theorem own_d4_16 : decode prog_3_method_11_code 16 = .ok (.bipush 8, 2) := by decide +kernel
theorem own_d4_18 : decode prog_3_method_11_code 18 = .ok (.ishl, 1) := by decide +kernel
theorem own_d4_19 : decode prog_3_method_11_code 19 = .ok (.ior, 1) := by decide +kernel
theorem own_d4_20 : decode prog_3_method_11_code 20 = .ok (.ireturn, 1) := by decide +kernel
set_option maxRecDepth 65536 in
set_option maxHeartbeats 40000000 in
theorem own_rmL1 (l : Launch) (Z : State) (a0 : Array Value) (hw : ∀ d ∈ tables_1, d.before a0 Z = true) (a1 : Addr) (k : ClassId) (x0 : Int32) (x1 : Int32) (x2 : Int32) (x3 : Int32) (x4 : Int32) (x5 : Int32) (h0 : Heap) (n0 : Nat) (Z0 : n0 ≤ h0.size) (V : Arv Z h0 a1 k .byte 6 [(.int x0), (.int x1), (.int x2), (.int x3), (.int x4), (.int x5)] (.int 0)) :
    own_Met l Z [] (⟨"com/example/portcall/portcall/codec/Answer", "littleEndian", "([BI)I"⟩ : MethodName) prog_3_method_11_code 2 (some .int) ({ frames := 0, cells := 0, slots := 0, locals := 0 } : Room) #[(.ref a1), (.int (1 : Int32))] h0 (fun v h L => v = some (.int ((x1 &&& 255) ||| ((x2 &&& 255) <<< ((8 : Int32) &&& 31)))) ∧ Fr n0 L ∧ h = h0) := by
  refine MetFree.of_bodySF (plainFor_of_name own_pn0) hisR ?_
  intro p e s m args below meth c s₁ Bd hml0 hP hK
  obtain ⟨rfl, hZ, hh⟩ := hP
  have hx := Bd.exec
  have hby := Bd.bytes
  have hml : c.maxLocals = 2 := hml0
  have hown : s.vm.findClass "com/example/portcall/portcall/codec/Answer" = some m.cls := findClass_of_methodNamed Bd.named
  have hnm := (name_of_methodNamed Bd.named Bd.method).1
  have hlk : meth.locks = false := Bd.notSynchronized
  have X0 : Stand p l e ({ frames := 0, cells := 0, slots := 0, locals := 0 } : Room) s m #[(.ref a1), (.int (1 : Int32))] below meth c s₁ [] 0 0 := Stand.of_body Bd
  have e0 : s₁.heap = h0 := by rw [← hh, Bd.state]; rfl
  have N0 := Fr.nil n0
  refine own_body (Q := fun v h L => v = some (.int ((x1 &&& 255) ||| ((x2 &&& 255) <<< ((8 : Int32) &&& 31)))) ∧ Fr n0 L ∧ h = h0) ?_
  refine own_go (fun t k => castTop (own_ef m #[(.ref a1), (.int (1 : Int32))] 2 #[.val (.ref a1), .val (.int (1 : Int32))] (by first | rfl | simp [argsToLocals, Value.category, maxLocals])) k) ?_
  show own_Go _ _ _ _ (s₁.setTop (mkF m 0 #[.val (.ref a1), .val (.int (1 : Int32))] []))
  refine own_go (fun _ k => XS.aloadN X0.here hx rfl (hb hby own_d4_0) rfl rfl k) ?_
  show own_Go _ _ _ _ (s₁.setTop (mkF m 1 #[.val (.ref a1), .val (.int (1 : Int32))] [(.ref a1)]))
  refine own_go (fun _ k => XS.iloadN X0.here hx rfl (hb hby own_d4_1) rfl k) ?_
  show own_Go _ _ _ _ (s₁.setTop (mkF m 2 #[.val (.ref a1), .val (.int (1 : Int32))] [(.int (1 : Int32)), (.ref a1)]))
  obtain ⟨cl1, Ar1, q1, Sz1, Ng1, Hs1, Gs1⟩ := id V
  have hin1 : ¬ ((1 : Int32) < 0 ∨ cl1.slots.size ≤ ((1 : Int32)).toNatClampNeg) := inb_of Sz1 ⟨by decide, by decide⟩
  have hat1 : cl1.slots[((1 : Int32)).toNatClampNeg]? = some (.int x1) := Hs1.at hin1 rfl
  refine own_go (X0.baloadBytes hx (j := (1 : Int32)) (v := (.int x1)) (own_hp e0 Ar1.1) (State.isArrayOf_alike hZ.alike Ar1.2.1) Ar1.2.2 hin1 hat1 (g := (mkF m 2 #[.val (.ref a1), .val (.int (1 : Int32))] [(.int (1 : Int32)), (.ref a1)])) rfl rfl (hb hby own_d4_2)) ?_
  show own_Go _ _ _ _ (s₁.setTop (mkF m 3 #[.val (.ref a1), .val (.int (1 : Int32))] [(.int x1)]))
  refine own_go (fun _ k => XS.sipush X0.here hx rfl (hb hby own_d4_3) k) ?_
  show own_Go _ _ _ _ (s₁.setTop (mkF m 6 #[.val (.ref a1), .val (.int (1 : Int32))] [(.int (255 : Int32)), (.int x1)]))
  refine own_go (fun _ k => XS.iand X0.here hx rfl (hb hby own_d4_6) rfl k) ?_
  show own_Go _ _ _ _ (s₁.setTop (mkF m 7 #[.val (.ref a1), .val (.int (1 : Int32))] [(.int (x1 &&& (255 : Int32)))]))
  refine own_go (fun _ k => XS.aloadN X0.here hx rfl (hb hby own_d4_7) rfl rfl k) ?_
  show own_Go _ _ _ _ (s₁.setTop (mkF m 8 #[.val (.ref a1), .val (.int (1 : Int32))] [(.ref a1), (.int (x1 &&& (255 : Int32)))]))
  refine own_go (fun _ k => XS.iloadN X0.here hx rfl (hb hby own_d4_8) rfl k) ?_
  show own_Go _ _ _ _ (s₁.setTop (mkF m 9 #[.val (.ref a1), .val (.int (1 : Int32))] [(.int (1 : Int32)), (.ref a1), (.int (x1 &&& (255 : Int32)))]))
  refine own_go (fun _ k => XS.iconst X0.here hx rfl (hb hby own_d4_9) k) ?_
  show own_Go _ _ _ _ (s₁.setTop (mkF m 10 #[.val (.ref a1), .val (.int (1 : Int32))] [(.int (1 : Int32)), (.int (1 : Int32)), (.ref a1), (.int (x1 &&& (255 : Int32)))]))
  refine own_go (fun _ k => XS.iadd X0.here hx rfl (hb hby own_d4_10) rfl k) ?_
  show own_Go _ _ _ _ (s₁.setTop (mkF m 11 #[.val (.ref a1), .val (.int (1 : Int32))] [(.int (2 : Int32)), (.ref a1), (.int (x1 &&& (255 : Int32)))]))
  obtain ⟨cl2, Ar2, q2, Sz2, Ng2, Hs2, Gs2⟩ := id V
  have hin2 : ¬ ((2 : Int32) < 0 ∨ cl2.slots.size ≤ ((2 : Int32)).toNatClampNeg) := inb_of Sz2 ⟨by decide, by decide⟩
  have hat2 : cl2.slots[((2 : Int32)).toNatClampNeg]? = some (.int x2) := Hs2.at hin2 rfl
  refine own_go (X0.baloadBytes hx (j := (2 : Int32)) (v := (.int x2)) (own_hp e0 Ar2.1) (State.isArrayOf_alike hZ.alike Ar2.2.1) Ar2.2.2 hin2 hat2 (g := (mkF m 11 #[.val (.ref a1), .val (.int (1 : Int32))] [(.int (2 : Int32)), (.ref a1), (.int (x1 &&& (255 : Int32)))])) rfl rfl (hb hby own_d4_11)) ?_
  show own_Go _ _ _ _ (s₁.setTop (mkF m 12 #[.val (.ref a1), .val (.int (1 : Int32))] [(.int x2), (.int (x1 &&& (255 : Int32)))]))
  refine own_go (fun _ k => XS.sipush X0.here hx rfl (hb hby own_d4_12) k) ?_
  show own_Go _ _ _ _ (s₁.setTop (mkF m 15 #[.val (.ref a1), .val (.int (1 : Int32))] [(.int (255 : Int32)), (.int x2), (.int (x1 &&& (255 : Int32)))]))
  refine own_go (fun _ k => XS.iand X0.here hx rfl (hb hby own_d4_15) rfl k) ?_
  show own_Go _ _ _ _ (s₁.setTop (mkF m 16 #[.val (.ref a1), .val (.int (1 : Int32))] [(.int (x2 &&& (255 : Int32))), (.int (x1 &&& (255 : Int32)))]))
  refine own_go (fun _ k => XS.bipush X0.here hx rfl (hb hby own_d4_16) k) ?_
  show own_Go _ _ _ _ (s₁.setTop (mkF m 18 #[.val (.ref a1), .val (.int (1 : Int32))] [(.int (8 : Int32)), (.int (x2 &&& (255 : Int32))), (.int (x1 &&& (255 : Int32)))]))
  refine own_go (fun _ k => XS.ishl X0.here hx rfl (hb hby own_d4_18) rfl k) ?_
  show own_Go _ _ _ _ (s₁.setTop (mkF m 19 #[.val (.ref a1), .val (.int (1 : Int32))] [(.int ((x2 &&& (255 : Int32)) <<< ((8 : Int32) &&& 31))), (.int (x1 &&& (255 : Int32)))]))
  refine own_go (fun _ k => XS.ior X0.here hx rfl (hb hby own_d4_19) rfl k) ?_
  show own_Go _ _ _ _ (s₁.setTop (mkF m 20 #[.val (.ref a1), .val (.int (1 : Int32))] [(.int ((x1 &&& (255 : Int32)) ||| ((x2 &&& (255 : Int32)) <<< ((8 : Int32) &&& 31))))]))
  refine own_ret X0 hlk (v := some (.int ((x1 &&& (255 : Int32)) ||| ((x2 &&& (255 : Int32)) <<< ((8 : Int32) &&& 31))))) (fun h => by rw [Bd.returns] at h; cases h) (fun fs hr => retOut X0 hx Bd.returns rfl (Or.inl ⟨rfl, Or.inl rfl, _, rfl⟩) (hb hby own_d4_20) hr) ?_ (by decide) (by decide)
  try rw [e0]
  exact ⟨rfl, N0, rfl⟩
set_option maxRecDepth 65536 in
set_option maxHeartbeats 40000000 in
theorem own_rmL4 (l : Launch) (Z : State) (a0 : Array Value) (hw : ∀ d ∈ tables_1, d.before a0 Z = true) (a1 : Addr) (k : ClassId) (x0 : Int32) (x1 : Int32) (x2 : Int32) (x3 : Int32) (x4 : Int32) (x5 : Int32) (h0 : Heap) (n0 : Nat) (Z0 : n0 ≤ h0.size) (V : Arv Z h0 a1 k .byte 6 [(.int x0), (.int x1), (.int x2), (.int x3), (.int x4), (.int x5)] (.int 0)) :
    own_Met l Z [] (⟨"com/example/portcall/portcall/codec/Answer", "littleEndian", "([BI)I"⟩ : MethodName) prog_3_method_11_code 2 (some .int) ({ frames := 0, cells := 0, slots := 0, locals := 0 } : Room) #[(.ref a1), (.int (4 : Int32))] h0 (fun v h L => v = some (.int ((x4 &&& 255) ||| ((x5 &&& 255) <<< ((8 : Int32) &&& 31)))) ∧ Fr n0 L ∧ h = h0) := by
  refine MetFree.of_bodySF (plainFor_of_name own_pn0) hisR ?_
  intro p e s m args below meth c s₁ Bd hml0 hP hK
  obtain ⟨rfl, hZ, hh⟩ := hP
  have hx := Bd.exec
  have hby := Bd.bytes
  have hml : c.maxLocals = 2 := hml0
  have hown : s.vm.findClass "com/example/portcall/portcall/codec/Answer" = some m.cls := findClass_of_methodNamed Bd.named
  have hnm := (name_of_methodNamed Bd.named Bd.method).1
  have hlk : meth.locks = false := Bd.notSynchronized
  have X0 : Stand p l e ({ frames := 0, cells := 0, slots := 0, locals := 0 } : Room) s m #[(.ref a1), (.int (4 : Int32))] below meth c s₁ [] 0 0 := Stand.of_body Bd
  have e0 : s₁.heap = h0 := by rw [← hh, Bd.state]; rfl
  have N0 := Fr.nil n0
  refine own_body (Q := fun v h L => v = some (.int ((x4 &&& 255) ||| ((x5 &&& 255) <<< ((8 : Int32) &&& 31)))) ∧ Fr n0 L ∧ h = h0) ?_
  refine own_go (fun t k => castTop (own_ef m #[(.ref a1), (.int (4 : Int32))] 2 #[.val (.ref a1), .val (.int (4 : Int32))] (by first | rfl | simp [argsToLocals, Value.category, maxLocals])) k) ?_
  show own_Go _ _ _ _ (s₁.setTop (mkF m 0 #[.val (.ref a1), .val (.int (4 : Int32))] []))
  refine own_go (fun _ k => XS.aloadN X0.here hx rfl (hb hby own_d4_0) rfl rfl k) ?_
  show own_Go _ _ _ _ (s₁.setTop (mkF m 1 #[.val (.ref a1), .val (.int (4 : Int32))] [(.ref a1)]))
  refine own_go (fun _ k => XS.iloadN X0.here hx rfl (hb hby own_d4_1) rfl k) ?_
  show own_Go _ _ _ _ (s₁.setTop (mkF m 2 #[.val (.ref a1), .val (.int (4 : Int32))] [(.int (4 : Int32)), (.ref a1)]))
  obtain ⟨cl1, Ar1, q1, Sz1, Ng1, Hs1, Gs1⟩ := id V
  have hin1 : ¬ ((4 : Int32) < 0 ∨ cl1.slots.size ≤ ((4 : Int32)).toNatClampNeg) := inb_of Sz1 ⟨by decide, by decide⟩
  have hat1 : cl1.slots[((4 : Int32)).toNatClampNeg]? = some (.int x4) := Hs1.at hin1 rfl
  refine own_go (X0.baloadBytes hx (j := (4 : Int32)) (v := (.int x4)) (own_hp e0 Ar1.1) (State.isArrayOf_alike hZ.alike Ar1.2.1) Ar1.2.2 hin1 hat1 (g := (mkF m 2 #[.val (.ref a1), .val (.int (4 : Int32))] [(.int (4 : Int32)), (.ref a1)])) rfl rfl (hb hby own_d4_2)) ?_
  show own_Go _ _ _ _ (s₁.setTop (mkF m 3 #[.val (.ref a1), .val (.int (4 : Int32))] [(.int x4)]))
  refine own_go (fun _ k => XS.sipush X0.here hx rfl (hb hby own_d4_3) k) ?_
  show own_Go _ _ _ _ (s₁.setTop (mkF m 6 #[.val (.ref a1), .val (.int (4 : Int32))] [(.int (255 : Int32)), (.int x4)]))
  refine own_go (fun _ k => XS.iand X0.here hx rfl (hb hby own_d4_6) rfl k) ?_
  show own_Go _ _ _ _ (s₁.setTop (mkF m 7 #[.val (.ref a1), .val (.int (4 : Int32))] [(.int (x4 &&& (255 : Int32)))]))
  refine own_go (fun _ k => XS.aloadN X0.here hx rfl (hb hby own_d4_7) rfl rfl k) ?_
  show own_Go _ _ _ _ (s₁.setTop (mkF m 8 #[.val (.ref a1), .val (.int (4 : Int32))] [(.ref a1), (.int (x4 &&& (255 : Int32)))]))
  refine own_go (fun _ k => XS.iloadN X0.here hx rfl (hb hby own_d4_8) rfl k) ?_
  show own_Go _ _ _ _ (s₁.setTop (mkF m 9 #[.val (.ref a1), .val (.int (4 : Int32))] [(.int (4 : Int32)), (.ref a1), (.int (x4 &&& (255 : Int32)))]))
  refine own_go (fun _ k => XS.iconst X0.here hx rfl (hb hby own_d4_9) k) ?_
  show own_Go _ _ _ _ (s₁.setTop (mkF m 10 #[.val (.ref a1), .val (.int (4 : Int32))] [(.int (1 : Int32)), (.int (4 : Int32)), (.ref a1), (.int (x4 &&& (255 : Int32)))]))
  refine own_go (fun _ k => XS.iadd X0.here hx rfl (hb hby own_d4_10) rfl k) ?_
  show own_Go _ _ _ _ (s₁.setTop (mkF m 11 #[.val (.ref a1), .val (.int (4 : Int32))] [(.int (5 : Int32)), (.ref a1), (.int (x4 &&& (255 : Int32)))]))
  obtain ⟨cl2, Ar2, q2, Sz2, Ng2, Hs2, Gs2⟩ := id V
  have hin2 : ¬ ((5 : Int32) < 0 ∨ cl2.slots.size ≤ ((5 : Int32)).toNatClampNeg) := inb_of Sz2 ⟨by decide, by decide⟩
  have hat2 : cl2.slots[((5 : Int32)).toNatClampNeg]? = some (.int x5) := Hs2.at hin2 rfl
  refine own_go (X0.baloadBytes hx (j := (5 : Int32)) (v := (.int x5)) (own_hp e0 Ar2.1) (State.isArrayOf_alike hZ.alike Ar2.2.1) Ar2.2.2 hin2 hat2 (g := (mkF m 11 #[.val (.ref a1), .val (.int (4 : Int32))] [(.int (5 : Int32)), (.ref a1), (.int (x4 &&& (255 : Int32)))])) rfl rfl (hb hby own_d4_11)) ?_
  show own_Go _ _ _ _ (s₁.setTop (mkF m 12 #[.val (.ref a1), .val (.int (4 : Int32))] [(.int x5), (.int (x4 &&& (255 : Int32)))]))
  refine own_go (fun _ k => XS.sipush X0.here hx rfl (hb hby own_d4_12) k) ?_
  show own_Go _ _ _ _ (s₁.setTop (mkF m 15 #[.val (.ref a1), .val (.int (4 : Int32))] [(.int (255 : Int32)), (.int x5), (.int (x4 &&& (255 : Int32)))]))
  refine own_go (fun _ k => XS.iand X0.here hx rfl (hb hby own_d4_15) rfl k) ?_
  show own_Go _ _ _ _ (s₁.setTop (mkF m 16 #[.val (.ref a1), .val (.int (4 : Int32))] [(.int (x5 &&& (255 : Int32))), (.int (x4 &&& (255 : Int32)))]))
  refine own_go (fun _ k => XS.bipush X0.here hx rfl (hb hby own_d4_16) k) ?_
  show own_Go _ _ _ _ (s₁.setTop (mkF m 18 #[.val (.ref a1), .val (.int (4 : Int32))] [(.int (8 : Int32)), (.int (x5 &&& (255 : Int32))), (.int (x4 &&& (255 : Int32)))]))
  refine own_go (fun _ k => XS.ishl X0.here hx rfl (hb hby own_d4_18) rfl k) ?_
  show own_Go _ _ _ _ (s₁.setTop (mkF m 19 #[.val (.ref a1), .val (.int (4 : Int32))] [(.int ((x5 &&& (255 : Int32)) <<< ((8 : Int32) &&& 31))), (.int (x4 &&& (255 : Int32)))]))
  refine own_go (fun _ k => XS.ior X0.here hx rfl (hb hby own_d4_19) rfl k) ?_
  show own_Go _ _ _ _ (s₁.setTop (mkF m 20 #[.val (.ref a1), .val (.int (4 : Int32))] [(.int ((x4 &&& (255 : Int32)) ||| ((x5 &&& (255 : Int32)) <<< ((8 : Int32) &&& 31))))]))
  refine own_ret X0 hlk (v := some (.int ((x4 &&& (255 : Int32)) ||| ((x5 &&& (255 : Int32)) <<< ((8 : Int32) &&& 31))))) (fun h => by rw [Bd.returns] at h; cases h) (fun fs hr => retOut X0 hx Bd.returns rfl (Or.inl ⟨rfl, Or.inl rfl, _, rfl⟩) (hb hby own_d4_20) hr) ?_ (by decide) (by decide)
  try rw [e0]
  exact ⟨rfl, N0, rfl⟩
theorem own_d3_0 : decode prog_3_method_10_code 0 = .ok (.iload_n 1, 1) := by decide +kernel
theorem own_d3_1 : decode prog_3_method_10_code 1 = .ok (.iconst 3, 1) := by decide +kernel
theorem own_d3_2 : decode prog_3_method_10_code 2 = .ok (.if_icmp .ge 17, 3) := by decide +kernel
theorem own_d3_5 : decode prog_3_method_10_code 5 = .ok (.new 78, 3) := by decide +kernel
theorem own_d3_8 : decode prog_3_method_10_code 8 = .ok (.dup, 1) := by decide +kernel
theorem own_d3_9 : decode prog_3_method_10_code 9 = .ok (.iload_n 1, 1) := by decide +kernel
theorem own_d3_10 : decode prog_3_method_10_code 10 = .ok (.invokedynamic 142, 5) := by decide +kernel
theorem own_d3_15 : decode prog_3_method_10_code 15 = .ok (.invokespecial 84, 3) := by decide +kernel
theorem own_d3_18 : decode prog_3_method_10_code 18 = .ok (.athrow, 1) := by decide +kernel
theorem own_d3_19 : decode prog_3_method_10_code 19 = .ok (.aload_n 0, 1) := by decide +kernel
theorem own_d3_20 : decode prog_3_method_10_code 20 = .ok (.iconst 0, 1) := by decide +kernel
theorem own_d3_21 : decode prog_3_method_10_code 21 = .ok (.baload, 1) := by decide +kernel
theorem own_d3_22 : decode prog_3_method_10_code 22 = .ok (.iconst 5, 1) := by decide +kernel
theorem own_d3_23 : decode prog_3_method_10_code 23 = .ok (.if_icmp .eq 29, 3) := by decide +kernel
theorem own_d3_26 : decode prog_3_method_10_code 26 = .ok (.new 78, 3) := by decide +kernel
theorem own_d3_29 : decode prog_3_method_10_code 29 = .ok (.dup, 1) := by decide +kernel
theorem own_d3_30 : decode prog_3_method_10_code 30 = .ok (.ldc 143, 2) := by decide +kernel
theorem own_d3_32 : decode prog_3_method_10_code 32 = .ok (.iconst 1, 1) := by decide +kernel
theorem own_d3_33 : decode prog_3_method_10_code 33 = .ok (.anewarray 2, 3) := by decide +kernel
theorem own_d3_36 : decode prog_3_method_10_code 36 = .ok (.dup, 1) := by decide +kernel
theorem own_d3_37 : decode prog_3_method_10_code 37 = .ok (.iconst 0, 1) := by decide +kernel
theorem own_d3_38 : decode prog_3_method_10_code 38 = .ok (.aload_n 0, 1) := by decide +kernel
theorem own_d3_39 : decode prog_3_method_10_code 39 = .ok (.iconst 0, 1) := by decide +kernel
theorem own_d3_40 : decode prog_3_method_10_code 40 = .ok (.baload, 1) := by decide +kernel
theorem own_d3_41 : decode prog_3_method_10_code 41 = .ok (.invokestatic 118, 3) := by decide +kernel
theorem own_d3_44 : decode prog_3_method_10_code 44 = .ok (.aastore, 1) := by decide +kernel
theorem own_d3_45 : decode prog_3_method_10_code 45 = .ok (.invokestatic 124, 3) := by decide +kernel
theorem own_d3_48 : decode prog_3_method_10_code 48 = .ok (.invokespecial 84, 3) := by decide +kernel
theorem own_d3_51 : decode prog_3_method_10_code 51 = .ok (.athrow, 1) := by decide +kernel
theorem own_d3_52 : decode prog_3_method_10_code 52 = .ok (.aload_n 0, 1) := by decide +kernel
theorem own_d3_53 : decode prog_3_method_10_code 53 = .ok (.iconst 1, 1) := by decide +kernel
theorem own_d3_54 : decode prog_3_method_10_code 54 = .ok (.invokestatic 130, 3) := by decide +kernel
theorem own_d3_57 : decode prog_3_method_10_code 57 = .ok (.ireturn, 1) := by decide +kernel
theorem own_pd0 : parseMethodDescriptor "([BI)I" = some ⟨[(.array .byte), .int], some .int⟩ := by decide +kernel
set_option maxRecDepth 65536 in
set_option maxHeartbeats 40000000 in
theorem own_rmS (l : Launch) (Z : State) (a0 : Array Value) (hw : ∀ d ∈ tables_1, d.before a0 Z = true) (a1 : Addr) (k : ClassId) (x4 : Int32) (x5 : Int32) (h0 : Heap) (n0 : Nat) (Z0 : n0 ≤ h0.size) (V : Arv Z h0 a1 k .byte 6 [(.int 5), (.int 6), (.int 0), (.int 1), (.int x4), (.int x5)] (.int 0)) :
    own_Met l Z [] (⟨"com/example/portcall/portcall/codec/Answer", "sizeField", "([BI)I"⟩ : MethodName) prog_3_method_10_code 2 (some .int) ({ frames := 1, cells := 0, slots := 0, locals := 13 } : Room) #[(.ref a1), (.int (6 : Int32))] h0 (fun v h L => v = some (.int 6) ∧ Fr n0 L ∧ h = h0) := by
  refine MetFree.of_bodySF (plainFor_of_name own_pn0) hisR ?_
  intro p e s m args below meth c s₁ Bd hml0 hP hK
  obtain ⟨rfl, hZ, hh⟩ := hP
  have hx := Bd.exec
  have hby := Bd.bytes
  have hml : c.maxLocals = 2 := hml0
  have hown : s.vm.findClass "com/example/portcall/portcall/codec/Answer" = some m.cls := findClass_of_methodNamed Bd.named
  have hnm := (name_of_methodNamed Bd.named Bd.method).1
  have hlk : meth.locks = false := Bd.notSynchronized
  have X0 : Stand p l e ({ frames := 1, cells := 0, slots := 0, locals := 13 } : Room) s m #[(.ref a1), (.int (6 : Int32))] below meth c s₁ [] 0 0 := Stand.of_body Bd
  have e0 : s₁.heap = h0 := by rw [← hh, Bd.state]; rfl
  have N0 := Fr.nil n0
  refine own_body (Q := fun v h L => v = some (.int 6) ∧ Fr n0 L ∧ h = h0) ?_
  refine own_go (fun t k => castTop (own_ef m #[(.ref a1), (.int (6 : Int32))] 2 #[.val (.ref a1), .val (.int (6 : Int32))] (by first | rfl | simp [argsToLocals, Value.category, maxLocals])) k) ?_
  show own_Go _ _ _ _ (s₁.setTop (mkF m 0 #[.val (.ref a1), .val (.int (6 : Int32))] []))
  refine own_go (fun _ k => XS.iloadN X0.here hx rfl (hb hby own_d3_0) rfl k) ?_
  show own_Go _ _ _ _ (s₁.setTop (mkF m 1 #[.val (.ref a1), .val (.int (6 : Int32))] [(.int (6 : Int32))]))
  refine own_go (fun _ k => XS.iconst X0.here hx rfl (hb hby own_d3_1) k) ?_
  show own_Go _ _ _ _ (s₁.setTop (mkF m 2 #[.val (.ref a1), .val (.int (6 : Int32))] [(.int (3 : Int32)), (.int (6 : Int32))]))
  refine own_go (fun _ k => XS.icmpYes X0.here hx rfl (pc0 := 2) (pc' := 19) rfl (hb hby own_d3_2) rfl (flt (by decide)).2.1 (by decide) (by decide) k) ?_
  show own_Go _ _ _ _ (s₁.setTop (mkF m 19 #[.val (.ref a1), .val (.int (6 : Int32))] []))
  refine own_go (fun _ k => XS.aloadN X0.here hx rfl (hb hby own_d3_19) rfl rfl k) ?_
  show own_Go _ _ _ _ (s₁.setTop (mkF m 20 #[.val (.ref a1), .val (.int (6 : Int32))] [(.ref a1)]))
  refine own_go (fun _ k => XS.iconst X0.here hx rfl (hb hby own_d3_20) k) ?_
  show own_Go _ _ _ _ (s₁.setTop (mkF m 21 #[.val (.ref a1), .val (.int (6 : Int32))] [(.int (0 : Int32)), (.ref a1)]))
  obtain ⟨cl1, Ar1, q1, Sz1, Ng1, Hs1, Gs1⟩ := id V
  have hin1 : ¬ ((0 : Int32) < 0 ∨ cl1.slots.size ≤ ((0 : Int32)).toNatClampNeg) := inb_of Sz1 ⟨by decide, by decide⟩
  have hat1 : cl1.slots[((0 : Int32)).toNatClampNeg]? = some (.int 5) := Hs1.at hin1 rfl
  refine own_go (X0.baloadBytes hx (j := (0 : Int32)) (v := (.int 5)) (own_hp e0 Ar1.1) (State.isArrayOf_alike hZ.alike Ar1.2.1) Ar1.2.2 hin1 hat1 (g := (mkF m 21 #[.val (.ref a1), .val (.int (6 : Int32))] [(.int (0 : Int32)), (.ref a1)])) rfl rfl (hb hby own_d3_21)) ?_
  show own_Go _ _ _ _ (s₁.setTop (mkF m 22 #[.val (.ref a1), .val (.int (6 : Int32))] [(.int 5)]))
  refine own_go (fun _ k => XS.iconst X0.here hx rfl (hb hby own_d3_22) k) ?_
  show own_Go _ _ _ _ (s₁.setTop (mkF m 23 #[.val (.ref a1), .val (.int (6 : Int32))] [(.int (5 : Int32)), (.int 5)]))
  refine own_go (fun _ k => XS.icmpYes X0.here hx rfl (pc0 := 23) (pc' := 52) rfl (hb hby own_d3_23) rfl (teq rfl).1 (by decide) (by decide) k) ?_
  show own_Go _ _ _ _ (s₁.setTop (mkF m 52 #[.val (.ref a1), .val (.int (6 : Int32))] []))
  refine own_go (fun _ k => XS.aloadN X0.here hx rfl (hb hby own_d3_52) rfl rfl k) ?_
  show own_Go _ _ _ _ (s₁.setTop (mkF m 53 #[.val (.ref a1), .val (.int (6 : Int32))] [(.ref a1)]))
  refine own_go (fun _ k => XS.iconst X0.here hx rfl (hb hby own_d3_53) k) ?_
  show own_Go _ _ _ _ (s₁.setTop (mkF m 54 #[.val (.ref a1), .val (.int (6 : Int32))] [(.int (1 : Int32)), (.ref a1)]))
  obtain ⟨_, _, ⟨T2, L2, k2, n2⟩, -, X2, ⟨Lc2, hQ2, l2, y2, z2⟩, st2⟩ := Jvm.LawKit.callS X0 hx (y := (⟨"com/example/portcall/portcall/codec/Answer", "littleEndian", "([BI)I"⟩ : MethodName)) hown (mvT hZ (hw _ (List.mem_of_getElem? (i := 12) rfl))) (mvT hZ (hw _ (List.mem_of_getElem? (i := 13) rfl))) (mvT hZ (hw _ (List.mem_of_getElem? (i := 3) rfl))) (mvT hZ (hw _ (List.mem_of_getElem? (i := 14) rfl))) (by decide) (own_back (W := 0) (own_rmL1 l Z a0 hw a1 k 5 6 0 1 x4 x5 h0 n0 Z0 V) hZ (hw _ (List.mem_of_getElem? (i := 14) rfl)) (hw _ (List.mem_of_getElem? (i := 3) rfl)) (by decide) (by decide)) (g := (mkF m 54 #[.val (.ref a1), .val (.int (6 : Int32))] [(.int (1 : Int32)), (.ref a1)])) rfl (by rw [hml]; rfl) (argsL := [(.ref a1), (.int (1 : Int32))]) (rest := []) (lenOf own_pd0 rfl) rfl (by show 2 * 0 + _ ≤ _; exact Nat.le_of_eq rfl) (hb hby own_d3_54) (fun _ _ => ⟨rfl, e0, (by decide : 0 + 0 ≤ _), (by decide : 0 + 0 ≤ _)⟩)
  dsimp only [Pt.U, Pt.locs, Pt.cells, Pt.slots] at X2 l2 y2 z2 st2 hQ2
  subst l2 y2 z2
  obtain ⟨rfl, Nq2, eq2⟩ := hQ2
  have NF2 := Fr.app N0 Nq2
  refine own_go st2 ?_
  show own_Go _ _ _ _ (T2.setTop (mkF m 57 #[.val (.ref a1), .val (.int (6 : Int32))] [(.int (6 : Int32))]))
  refine own_ret X2 hlk (v := some (.int (6 : Int32))) (fun h => by rw [Bd.returns] at h; cases h) (fun fs hr => retOut X2 hx Bd.returns rfl (Or.inl ⟨rfl, Or.inl rfl, _, rfl⟩) (hb hby own_d3_57) hr) ?_ (by decide) (by decide)
  try rw [eq2]
  exact ⟨rfl, NF2, rfl⟩
theorem own_d2_0 : decode prog_3_method_8_code 0 = .ok (.aload_n 0, 1) := by decide +kernel
theorem own_d2_1 : decode prog_3_method_8_code 1 = .ok (.iload_n 1, 1) := by decide +kernel
theorem own_d2_2 : decode prog_3_method_8_code 2 = .ok (.invokestatic 110, 3) := by decide +kernel
theorem own_d2_5 : decode prog_3_method_8_code 5 = .ok (.istore_n 2, 1) := by decide +kernel
theorem own_d2_6 : decode prog_3_method_8_code 6 = .ok (.iload_n 2, 1) := by decide +kernel
theorem own_d2_7 : decode prog_3_method_8_code 7 = .ok (.bipush 6, 2) := by decide +kernel
theorem own_d2_9 : decode prog_3_method_8_code 9 = .ok (.if_icmp .eq 17, 3) := by decide +kernel
theorem own_d2_12 : decode prog_3_method_8_code 12 = .ok (.new 78, 3) := by decide +kernel
theorem own_d2_15 : decode prog_3_method_8_code 15 = .ok (.dup, 1) := by decide +kernel
theorem own_d2_16 : decode prog_3_method_8_code 16 = .ok (.iload_n 2, 1) := by decide +kernel
theorem own_d2_17 : decode prog_3_method_8_code 17 = .ok (.invokedynamic 114, 5) := by decide +kernel
theorem own_d2_22 : decode prog_3_method_8_code 22 = .ok (.invokespecial 84, 3) := by decide +kernel
theorem own_d2_25 : decode prog_3_method_8_code 25 = .ok (.athrow, 1) := by decide +kernel
theorem own_d2_26 : decode prog_3_method_8_code 26 = .ok (.iload_n 1, 1) := by decide +kernel
theorem own_d2_27 : decode prog_3_method_8_code 27 = .ok (.bipush 6, 2) := by decide +kernel
theorem own_d2_29 : decode prog_3_method_8_code 29 = .ok (.if_icmp .eq 17, 3) := by decide +kernel
theorem own_d2_32 : decode prog_3_method_8_code 32 = .ok (.new 78, 3) := by decide +kernel
theorem own_d2_35 : decode prog_3_method_8_code 35 = .ok (.dup, 1) := by decide +kernel
theorem own_d2_36 : decode prog_3_method_8_code 36 = .ok (.iload_n 1, 1) := by decide +kernel
theorem own_d2_37 : decode prog_3_method_8_code 37 = .ok (.invokedynamic 115, 5) := by decide +kernel
theorem own_d2_42 : decode prog_3_method_8_code 42 = .ok (.invokespecial 84, 3) := by decide +kernel
theorem own_d2_45 : decode prog_3_method_8_code 45 = .ok (.athrow, 1) := by decide +kernel
theorem own_d2_46 : decode prog_3_method_8_code 46 = .ok (.aload_n 0, 1) := by decide +kernel
theorem own_d2_47 : decode prog_3_method_8_code 47 = .ok (.iconst 3, 1) := by decide +kernel
theorem own_d2_48 : decode prog_3_method_8_code 48 = .ok (.baload, 1) := by decide +kernel
theorem own_d2_49 : decode prog_3_method_8_code 49 = .ok (.iconst 1, 1) := by decide +kernel
theorem own_d2_50 : decode prog_3_method_8_code 50 = .ok (.if_icmp .eq 29, 3) := by decide +kernel
theorem own_d2_53 : decode prog_3_method_8_code 53 = .ok (.new 78, 3) := by decide +kernel
theorem own_d2_56 : decode prog_3_method_8_code 56 = .ok (.dup, 1) := by decide +kernel
theorem own_d2_57 : decode prog_3_method_8_code 57 = .ok (.ldc 116, 2) := by decide +kernel
theorem own_d2_59 : decode prog_3_method_8_code 59 = .ok (.iconst 1, 1) := by decide +kernel
theorem own_d2_60 : decode prog_3_method_8_code 60 = .ok (.anewarray 2, 3) := by decide +kernel
theorem own_d2_63 : decode prog_3_method_8_code 63 = .ok (.dup, 1) := by decide +kernel
theorem own_d2_64 : decode prog_3_method_8_code 64 = .ok (.iconst 0, 1) := by decide +kernel
theorem own_d2_65 : decode prog_3_method_8_code 65 = .ok (.aload_n 0, 1) := by decide +kernel
theorem own_d2_66 : decode prog_3_method_8_code 66 = .ok (.iconst 3, 1) := by decide +kernel
theorem own_d2_67 : decode prog_3_method_8_code 67 = .ok (.baload, 1) := by decide +kernel
theorem own_d2_68 : decode prog_3_method_8_code 68 = .ok (.invokestatic 118, 3) := by decide +kernel
theorem own_d2_71 : decode prog_3_method_8_code 71 = .ok (.aastore, 1) := by decide +kernel
theorem own_d2_72 : decode prog_3_method_8_code 72 = .ok (.invokestatic 124, 3) := by decide +kernel
theorem own_d2_75 : decode prog_3_method_8_code 75 = .ok (.invokespecial 84, 3) := by decide +kernel
theorem own_d2_78 : decode prog_3_method_8_code 78 = .ok (.athrow, 1) := by decide +kernel
theorem own_d2_79 : decode prog_3_method_8_code 79 = .ok (.aload_n 0, 1) := by decide +kernel
theorem own_d2_80 : decode prog_3_method_8_code 80 = .ok (.iconst 4, 1) := by decide +kernel
theorem own_d2_81 : decode prog_3_method_8_code 81 = .ok (.invokestatic 130, 3) := by decide +kernel
theorem own_d2_84 : decode prog_3_method_8_code 84 = .ok (.istore_n 3, 1) := by decide +kernel
theorem own_d2_85 : decode prog_3_method_8_code 85 = .ok (.iload_n 3, 1) := by decide +kernel
theorem own_d2_86 : decode prog_3_method_8_code 86 = .ok (.ifCond .ne 13, 3) := by decide +kernel
theorem own_d2_89 : decode prog_3_method_8_code 89 = .ok (.new 78, 3) := by decide +kernel
theorem own_d2_92 : decode prog_3_method_8_code 92 = .ok (.dup, 1) := by decide +kernel
theorem own_d2_93 : decode prog_3_method_8_code 93 = .ok (.ldc 133, 2) := by decide +kernel
theorem own_d2_95 : decode prog_3_method_8_code 95 = .ok (.invokespecial 84, 3) := by decide +kernel
theorem own_d2_98 : decode prog_3_method_8_code 98 = .ok (.athrow, 1) := by decide +kernel
theorem own_d2_99 : decode prog_3_method_8_code 99 = .ok (.iload_n 3, 1) := by decide +kernel
theorem own_d2_100 : decode prog_3_method_8_code 100 = .ok (.ireturn, 1) := by decide +kernel
set_option maxRecDepth 65536 in
set_option maxHeartbeats 40000000 in
theorem own_rmR (l : Launch) (Z : State) (a0 : Array Value) (hw : ∀ d ∈ tables_1, d.before a0 Z = true) (a1 : Addr) (k : ClassId) (x4 : Int32) (x5 : Int32) (r : Int32) (h0 : Heap) (n0 : Nat) (Z0 : n0 ≤ h0.size) (V : Arv Z h0 a1 k .byte 6 [(.int 5), (.int 6), (.int 0), (.int 1), (.int x4), (.int x5)] (.int 0)) (hr : (x4 &&& 255) ||| ((x5 &&& 255) <<< ((8 : Int32) &&& 31)) = r) (hz : ¬ r = 0) :
    own_Met l Z [] (⟨"com/example/portcall/portcall/codec/Answer", "readAdmin", "([BI)I"⟩ : MethodName) prog_3_method_8_code 4 (some .int) ({ frames := 2, cells := 0, slots := 0, locals := 26 } : Room) #[(.ref a1), (.int (6 : Int32))] h0 (fun v h L => v = some (.int r) ∧ Fr n0 L ∧ h = h0) := by
  refine MetFree.of_bodySF (plainFor_of_name own_pn0) hisR ?_
  intro p e s m args below meth c s₁ Bd hml0 hP hK
  obtain ⟨rfl, hZ, hh⟩ := hP
  have hx := Bd.exec
  have hby := Bd.bytes
  have hml : c.maxLocals = 4 := hml0
  have hown : s.vm.findClass "com/example/portcall/portcall/codec/Answer" = some m.cls := findClass_of_methodNamed Bd.named
  have hnm := (name_of_methodNamed Bd.named Bd.method).1
  have hlk : meth.locks = false := Bd.notSynchronized
  have X0 : Stand p l e ({ frames := 2, cells := 0, slots := 0, locals := 26 } : Room) s m #[(.ref a1), (.int (6 : Int32))] below meth c s₁ [] 0 0 := Stand.of_body Bd
  have e0 : s₁.heap = h0 := by rw [← hh, Bd.state]; rfl
  have N0 := Fr.nil n0
  refine own_body (Q := fun v h L => v = some (.int r) ∧ Fr n0 L ∧ h = h0) ?_
  refine own_go (fun t k => castTop (own_ef m #[(.ref a1), (.int (6 : Int32))] 4 #[.val (.ref a1), .val (.int (6 : Int32)), .unset, .unset] (by first | rfl | simp [argsToLocals, Value.category, maxLocals])) k) ?_
  show own_Go _ _ _ _ (s₁.setTop (mkF m 0 #[.val (.ref a1), .val (.int (6 : Int32)), .unset, .unset] []))
  refine own_go (fun _ k => XS.aloadN X0.here hx rfl (hb hby own_d2_0) rfl rfl k) ?_
  show own_Go _ _ _ _ (s₁.setTop (mkF m 1 #[.val (.ref a1), .val (.int (6 : Int32)), .unset, .unset] [(.ref a1)]))
  refine own_go (fun _ k => XS.iloadN X0.here hx rfl (hb hby own_d2_1) rfl k) ?_
  show own_Go _ _ _ _ (s₁.setTop (mkF m 2 #[.val (.ref a1), .val (.int (6 : Int32)), .unset, .unset] [(.int (6 : Int32)), (.ref a1)]))
  obtain ⟨_, _, ⟨T1, L1, k1, n1⟩, -, X1, ⟨Lc1, hQ1, l1, y1, z1⟩, st1⟩ := Jvm.LawKit.callS X0 hx (y := (⟨"com/example/portcall/portcall/codec/Answer", "sizeField", "([BI)I"⟩ : MethodName)) hown (mvT hZ (hw _ (List.mem_of_getElem? (i := 9) rfl))) (mvT hZ (hw _ (List.mem_of_getElem? (i := 10) rfl))) (mvT hZ (hw _ (List.mem_of_getElem? (i := 3) rfl))) (mvT hZ (hw _ (List.mem_of_getElem? (i := 11) rfl))) (by decide) (own_back (W := 0) (own_rmS l Z a0 hw a1 k x4 x5 h0 n0 Z0 V) hZ (hw _ (List.mem_of_getElem? (i := 11) rfl)) (hw _ (List.mem_of_getElem? (i := 3) rfl)) (by decide) (by decide)) (g := (mkF m 2 #[.val (.ref a1), .val (.int (6 : Int32)), .unset, .unset] [(.int (6 : Int32)), (.ref a1)])) rfl (by rw [hml]; rfl) (argsL := [(.ref a1), (.int (6 : Int32))]) (rest := []) (lenOf own_pd0 rfl) rfl (by show 2 * 0 + _ ≤ _; exact Nat.le_of_eq rfl) (hb hby own_d2_2) (fun _ _ => ⟨rfl, e0, (by decide : 0 + 0 ≤ _), (by decide : 0 + 0 ≤ _)⟩)
  dsimp only [Pt.U, Pt.locs, Pt.cells, Pt.slots] at X1 l1 y1 z1 st1 hQ1
  subst l1 y1 z1
  obtain ⟨rfl, Nq1, eq1⟩ := hQ1
  have NF1 := Fr.app N0 Nq1
  refine own_go st1 ?_
  show own_Go _ _ _ _ (T1.setTop (mkF m 5 #[.val (.ref a1), .val (.int (6 : Int32)), .unset, .unset] [(.int (6 : Int32))]))
  refine own_go (fun _ k => XS.istoreN X1.here hx rfl (hb hby own_d2_5) rfl (l' := #[.val (.ref a1), .val (.int (6 : Int32)), .val (.int (6 : Int32)), .unset]) rfl k) ?_
  show own_Go _ _ _ _ (T1.setTop (mkF m 6 #[.val (.ref a1), .val (.int (6 : Int32)), .val (.int (6 : Int32)), .unset] []))
  refine own_go (fun _ k => XS.iloadN X1.here hx rfl (hb hby own_d2_6) rfl k) ?_
  show own_Go _ _ _ _ (T1.setTop (mkF m 7 #[.val (.ref a1), .val (.int (6 : Int32)), .val (.int (6 : Int32)), .unset] [(.int (6 : Int32))]))
  refine own_go (fun _ k => XS.bipush X1.here hx rfl (hb hby own_d2_7) k) ?_
  show own_Go _ _ _ _ (T1.setTop (mkF m 9 #[.val (.ref a1), .val (.int (6 : Int32)), .val (.int (6 : Int32)), .unset] [(.int (6 : Int32)), (.int (6 : Int32))]))
  refine own_go (fun _ k => XS.icmpYes X1.here hx rfl (pc0 := 9) (pc' := 26) rfl (hb hby own_d2_9) rfl (teq rfl).1 (by decide) (by decide) k) ?_
  show own_Go _ _ _ _ (T1.setTop (mkF m 26 #[.val (.ref a1), .val (.int (6 : Int32)), .val (.int (6 : Int32)), .unset] []))
  refine own_go (fun _ k => XS.iloadN X1.here hx rfl (hb hby own_d2_26) rfl k) ?_
  show own_Go _ _ _ _ (T1.setTop (mkF m 27 #[.val (.ref a1), .val (.int (6 : Int32)), .val (.int (6 : Int32)), .unset] [(.int (6 : Int32))]))
  refine own_go (fun _ k => XS.bipush X1.here hx rfl (hb hby own_d2_27) k) ?_
  show own_Go _ _ _ _ (T1.setTop (mkF m 29 #[.val (.ref a1), .val (.int (6 : Int32)), .val (.int (6 : Int32)), .unset] [(.int (6 : Int32)), (.int (6 : Int32))]))
  refine own_go (fun _ k => XS.icmpYes X1.here hx rfl (pc0 := 29) (pc' := 46) rfl (hb hby own_d2_29) rfl (teq rfl).1 (by decide) (by decide) k) ?_
  show own_Go _ _ _ _ (T1.setTop (mkF m 46 #[.val (.ref a1), .val (.int (6 : Int32)), .val (.int (6 : Int32)), .unset] []))
  refine own_go (fun _ k => XS.aloadN X1.here hx rfl (hb hby own_d2_46) rfl rfl k) ?_
  show own_Go _ _ _ _ (T1.setTop (mkF m 47 #[.val (.ref a1), .val (.int (6 : Int32)), .val (.int (6 : Int32)), .unset] [(.ref a1)]))
  refine own_go (fun _ k => XS.iconst X1.here hx rfl (hb hby own_d2_47) k) ?_
  show own_Go _ _ _ _ (T1.setTop (mkF m 48 #[.val (.ref a1), .val (.int (6 : Int32)), .val (.int (6 : Int32)), .unset] [(.int (3 : Int32)), (.ref a1)]))
  obtain ⟨cl2, Ar2, q2, Sz2, Ng2, Hs2, Gs2⟩ := id V
  have hin2 : ¬ ((3 : Int32) < 0 ∨ cl2.slots.size ≤ ((3 : Int32)).toNatClampNeg) := inb_of Sz2 ⟨by decide, by decide⟩
  have hat2 : cl2.slots[((3 : Int32)).toNatClampNeg]? = some (.int 1) := Hs2.at hin2 rfl
  refine own_go (X1.baloadBytes hx (j := (3 : Int32)) (v := (.int 1)) (own_hp eq1 Ar2.1) (State.isArrayOf_alike hZ.alike Ar2.2.1) Ar2.2.2 hin2 hat2 (g := (mkF m 48 #[.val (.ref a1), .val (.int (6 : Int32)), .val (.int (6 : Int32)), .unset] [(.int (3 : Int32)), (.ref a1)])) rfl rfl (hb hby own_d2_48)) ?_
  show own_Go _ _ _ _ (T1.setTop (mkF m 49 #[.val (.ref a1), .val (.int (6 : Int32)), .val (.int (6 : Int32)), .unset] [(.int 1)]))
  refine own_go (fun _ k => XS.iconst X1.here hx rfl (hb hby own_d2_49) k) ?_
  show own_Go _ _ _ _ (T1.setTop (mkF m 50 #[.val (.ref a1), .val (.int (6 : Int32)), .val (.int (6 : Int32)), .unset] [(.int (1 : Int32)), (.int 1)]))
  refine own_go (fun _ k => XS.icmpYes X1.here hx rfl (pc0 := 50) (pc' := 79) rfl (hb hby own_d2_50) rfl (teq rfl).1 (by decide) (by decide) k) ?_
  show own_Go _ _ _ _ (T1.setTop (mkF m 79 #[.val (.ref a1), .val (.int (6 : Int32)), .val (.int (6 : Int32)), .unset] []))
  refine own_go (fun _ k => XS.aloadN X1.here hx rfl (hb hby own_d2_79) rfl rfl k) ?_
  show own_Go _ _ _ _ (T1.setTop (mkF m 80 #[.val (.ref a1), .val (.int (6 : Int32)), .val (.int (6 : Int32)), .unset] [(.ref a1)]))
  refine own_go (fun _ k => XS.iconst X1.here hx rfl (hb hby own_d2_80) k) ?_
  show own_Go _ _ _ _ (T1.setTop (mkF m 81 #[.val (.ref a1), .val (.int (6 : Int32)), .val (.int (6 : Int32)), .unset] [(.int (4 : Int32)), (.ref a1)]))
  obtain ⟨_, _, ⟨T3, L3, k3, n3⟩, -, X3, ⟨Lc3, hQ3, l3, y3, z3⟩, st3⟩ := Jvm.LawKit.callS X1 hx (y := (⟨"com/example/portcall/portcall/codec/Answer", "littleEndian", "([BI)I"⟩ : MethodName)) hown (mvT hZ (hw _ (List.mem_of_getElem? (i := 12) rfl))) (mvT hZ (hw _ (List.mem_of_getElem? (i := 13) rfl))) (mvT hZ (hw _ (List.mem_of_getElem? (i := 3) rfl))) (mvT hZ (hw _ (List.mem_of_getElem? (i := 14) rfl))) (by decide) (own_back (W := 0) (own_rmL4 l Z a0 hw a1 k 5 6 0 1 x4 x5 h0 n0 Z0 V) hZ (hw _ (List.mem_of_getElem? (i := 14) rfl)) (hw _ (List.mem_of_getElem? (i := 3) rfl)) (by decide) (by decide)) (g := (mkF m 81 #[.val (.ref a1), .val (.int (6 : Int32)), .val (.int (6 : Int32)), .unset] [(.int (4 : Int32)), (.ref a1)])) rfl (by rw [hml]; rfl) (argsL := [(.ref a1), (.int (4 : Int32))]) (rest := []) (lenOf own_pd0 rfl) rfl (by show 2 * 0 + _ ≤ _; exact Nat.le_of_eq rfl) (hb hby own_d2_81) (fun _ _ => ⟨rfl, eq1, (by decide : 0 + 0 ≤ _), (by decide : 0 + 0 ≤ _)⟩)
  dsimp only [Pt.U, Pt.locs, Pt.cells, Pt.slots] at X3 l3 y3 z3 st3 hQ3
  subst l3 y3 z3
  obtain ⟨rfl, Nq3, eq3⟩ := hQ3
  have NF3 := Fr.app NF1 Nq3
  refine own_go st3 ?_
  show own_Go _ _ _ _ (T3.setTop (mkF m 84 #[.val (.ref a1), .val (.int (6 : Int32)), .val (.int (6 : Int32)), .unset] [(.int ((x4 &&& 255) ||| ((x5 &&& 255) <<< ((8 : Int32) &&& 31))))]))
  rw [hr]
  show own_Go _ _ _ _ (T3.setTop (mkF m 84 #[.val (.ref a1), .val (.int (6 : Int32)), .val (.int (6 : Int32)), .unset] [(.int r)]))
  refine own_go (fun _ k => XS.istoreN X3.here hx rfl (hb hby own_d2_84) rfl (l' := #[.val (.ref a1), .val (.int (6 : Int32)), .val (.int (6 : Int32)), .val (.int r)]) rfl k) ?_
  show own_Go _ _ _ _ (T3.setTop (mkF m 85 #[.val (.ref a1), .val (.int (6 : Int32)), .val (.int (6 : Int32)), .val (.int r)] []))
  refine own_go (fun _ k => XS.iloadN X3.here hx rfl (hb hby own_d2_85) rfl k) ?_
  show own_Go _ _ _ _ (T3.setTop (mkF m 86 #[.val (.ref a1), .val (.int (6 : Int32)), .val (.int (6 : Int32)), .val (.int r)] [(.int r)]))
  refine own_go (fun _ k => XS.ifYes X3.here hx rfl (pc0 := 86) (pc' := 99) rfl (hb hby own_d2_86) rfl ((if0 _ _).trans (feq hz).2) (by decide) (by decide) k) ?_
  show own_Go _ _ _ _ (T3.setTop (mkF m 99 #[.val (.ref a1), .val (.int (6 : Int32)), .val (.int (6 : Int32)), .val (.int r)] []))
  refine own_go (fun _ k => XS.iloadN X3.here hx rfl (hb hby own_d2_99) rfl k) ?_
  show own_Go _ _ _ _ (T3.setTop (mkF m 100 #[.val (.ref a1), .val (.int (6 : Int32)), .val (.int (6 : Int32)), .val (.int r)] [(.int r)]))
  refine own_ret X3 hlk (v := some (.int r)) (fun h => by rw [Bd.returns] at h; cases h) (fun fs hr => retOut X3 hx Bd.returns rfl (Or.inl ⟨rfl, Or.inl rfl, _, rfl⟩) (hb hby own_d2_100) hr) ?_ (by decide) (by decide)
  try rw [eq3]
  exact ⟨rfl, NF3, rfl⟩
theorem own_pn1 : plainName "com/example/portcall/portcall/codec/AnswerAdminPinLaw" = true := by first | (simp [plainName, overriddenIn]; done) | decide +kernel
theorem own_pd1 : parseMethodDescriptor "(I)[B" = some ⟨[.int], some (.array .byte)⟩ := by decide +kernel
set_option maxRecDepth 65536 in
set_option maxHeartbeats 40000000 in
theorem own_rm0 (l : Launch) (Z : State) (a0 : Array Value) (hw : ∀ d ∈ tables_1, d.before a0 Z = true) (p1 : Int32) (h0 : Heap) (n0 : Nat) (Z0 : n0 ≤ h0.size)  :
    own_Met l Z tables_1 x code maxLocals ret room_1 #[(.int p1)] h0 (fun v h L => v = some (.int 1) ∧ Fr n0 L) := by
  refine MetFree.of_bodySF (plainFor_of_name own_pn1) hisR ?_
  intro p e s m args below meth c s₁ Bd hml0 hP hK
  obtain ⟨rfl, hZ, hh⟩ := hP
  have hx := Bd.exec
  have hby := Bd.bytes
  have hml : c.maxLocals = 4 := hml0
  have hown : s.vm.findClass "com/example/portcall/portcall/codec/AnswerAdminPinLaw" = some m.cls := findClass_of_methodNamed Bd.named
  have hnm := (name_of_methodNamed Bd.named Bd.method).1
  have hlk : meth.locks = false := Bd.notSynchronized
  have X0 : Stand p l e room_1 s m #[(.int p1)] below meth c s₁ [] 0 0 := Stand.of_body Bd
  have e0 : s₁.heap = h0 := by rw [← hh, Bd.state]; rfl
  have N0 := Fr.nil n0
  refine own_body (Q := fun v h L => v = some (.int 1) ∧ Fr n0 L) ?_
  refine own_go (fun t k => castTop (own_ef m #[(.int p1)] maxLocals #[.val (.int p1), .unset, .unset, .unset] (by first | rfl | simp [argsToLocals, Value.category, maxLocals])) k) ?_
  show own_Go _ _ _ _ (s₁.setTop (mkF m 0 #[.val (.int p1), .unset, .unset, .unset] []))
  have K0 : Keep h0 h0 [] := Keep.refl _ _
  refine own_go (fun _ k => XS.iloadN X0.here hx rfl (hb hby at_0) rfl k) ?_
  show own_Go _ _ _ _ (s₁.setTop (mkF m 1 #[.val (.int p1), .unset, .unset, .unset] [(.int p1)]))
  refine own_go (X0.ldcInt hx hown (mvT hZ (hw _ (List.mem_of_getElem? (i := 0) rfl))) (g := (mkF m 1 #[.val (.int p1), .unset, .unset, .unset] [(.int p1)])) rfl (hb hby at_1)) ?_
  show own_Go _ _ _ _ (s₁.setTop (mkF m 3 #[.val (.int p1), .unset, .unset, .unset] [(.int (65535 : Int32)), (.int p1)]))
  refine own_go (fun _ k => XS.iand X0.here hx rfl (hb hby at_3) rfl k) ?_
  show own_Go _ _ _ _ (s₁.setTop (mkF m 4 #[.val (.int p1), .unset, .unset, .unset] [(.int (p1 &&& (65535 : Int32)))]))
  obtain ⟨hp1, hp2⟩ := own_p p1
  generalize hq : (p1 &&& (65535 : Int32)) = q
  rw [hq] at hp1 hp2
  show own_Go _ _ _ _ (s₁.setTop (mkF m 4 #[.val (.int p1), .unset, .unset, .unset] [(.int q)]))
  refine own_go (fun _ k => XS.istoreN X0.here hx rfl (hb hby at_4) rfl (l' := #[.val (.int p1), .val (.int q), .unset, .unset]) rfl k) ?_
  show own_Go _ _ _ _ (s₁.setTop (mkF m 5 #[.val (.int p1), .val (.int q), .unset, .unset] []))
  refine own_go (fun _ k => XS.iloadN X0.here hx rfl (hb hby at_5) rfl k) ?_
  show own_Go _ _ _ _ (s₁.setTop (mkF m 6 #[.val (.int p1), .val (.int q), .unset, .unset] [(.int q)]))
  obtain ⟨_, _, ⟨T1, L1, k1, n1⟩, -, X1, ⟨Lc1, hQ1, l1, y1, z1⟩, st1⟩ := Jvm.LawKit.callS X0 hx (y := (⟨"com/example/portcall/portcall/codec/Answer", "admin", "(I)[B"⟩ : MethodName)) hown (mvT hZ (hw _ (List.mem_of_getElem? (i := 1) rfl))) (mvT hZ (hw _ (List.mem_of_getElem? (i := 2) rfl))) (mvT hZ (hw _ (List.mem_of_getElem? (i := 3) rfl))) (mvT hZ (hw _ (List.mem_of_getElem? (i := 4) rfl))) (by decide) (own_back (W := 0) (own_rm1 l Z a0 hw q h0 n0 Z0) hZ (hw _ (List.mem_of_getElem? (i := 4) rfl)) (hw _ (List.mem_of_getElem? (i := 3) rfl)) (by decide) (by decide)) (g := (mkF m 6 #[.val (.int p1), .val (.int q), .unset, .unset] [(.int q)])) rfl (by rw [hml]; rfl) (argsL := [(.int q)]) (rest := []) (lenOf own_pd1 rfl) rfl (by show 2 * 0 + _ ≤ _; exact Nat.le_of_eq rfl) (hb hby at_6) (fun _ _ => ⟨rfl, e0, (by decide : 0 + 1 ≤ _), (by decide : 0 + 6 ≤ _)⟩)
  dsimp only [Pt.U, Pt.locs, Pt.cells, Pt.slots] at X1 l1 y1 z1 st1 hQ1
  subst l1 y1 z1
  obtain ⟨b1, kk1, rfl, Nq1, K1, ge_b1, szq1, V_b1⟩ := hQ1
  have NF1 := Fr.app N0 Nq1
  refine own_go st1 ?_
  have E1 : Keep h0 T1.heap [] := K1
  have sz_b1 : h0.size ≤ b1 := Nat.le_trans K0.1 szq1
  replace Z0 := Nat.le_trans Z0 K1.1
  replace K0 := K0.trans K1 all0
  show own_Go _ _ _ _ (T1.setTop (mkF m 9 #[.val (.int p1), .val (.int q), .unset, .unset] [(.ref b1)]))
  refine own_go (fun _ k => XS.astoreN X1.here hx rfl (hb hby at_9) rfl rfl (l' := #[.val (.int p1), .val (.int q), .val (.ref b1), .unset]) rfl k) ?_
  show own_Go _ _ _ _ (T1.setTop (mkF m 10 #[.val (.int p1), .val (.int q), .val (.ref b1), .unset] []))
  refine own_go (fun _ k => XS.aloadN X1.here hx rfl (hb hby at_10) rfl rfl k) ?_
  show own_Go _ _ _ _ (T1.setTop (mkF m 11 #[.val (.int p1), .val (.int q), .val (.ref b1), .unset] [(.ref b1)]))
  obtain ⟨cl2, Ar2, -, Sz2, Ng2, -, -⟩ := id V_b1
  refine own_go (X1.arraylength hx (own_hp rfl Ar2.1) (State.isArrayOf_alike hZ.alike Ar2.2.1) (g := (mkF m 11 #[.val (.int p1), .val (.int q), .val (.ref b1), .unset] [(.ref b1)])) rfl rfl (hb hby at_11)) ?_
  rw [len_of Sz2 Ng2]
  show own_Go _ _ _ _ (T1.setTop (mkF m 12 #[.val (.int p1), .val (.int q), .val (.ref b1), .unset] [(.int (6 : Int32))]))
  refine own_go (fun _ k => XS.bipush X1.here hx rfl (hb hby at_12) k) ?_
  show own_Go _ _ _ _ (T1.setTop (mkF m 14 #[.val (.int p1), .val (.int q), .val (.ref b1), .unset] [(.int (6 : Int32)), (.int (6 : Int32))]))
  refine own_go (fun _ k => XS.icmpYes X1.here hx rfl (pc0 := 14) (pc' := 19) rfl (hb hby at_14) rfl (teq rfl).1 (by decide) (by decide) k) ?_
  show own_Go _ _ _ _ (T1.setTop (mkF m 19 #[.val (.int p1), .val (.int q), .val (.ref b1), .unset] []))
  refine own_go (fun _ k => XS.aloadN X1.here hx rfl (hb hby at_19) rfl rfl k) ?_
  show own_Go _ _ _ _ (T1.setTop (mkF m 20 #[.val (.int p1), .val (.int q), .val (.ref b1), .unset] [(.ref b1)]))
  refine own_go (fun _ k => XS.iconst X1.here hx rfl (hb hby at_20) k) ?_
  show own_Go _ _ _ _ (T1.setTop (mkF m 21 #[.val (.int p1), .val (.int q), .val (.ref b1), .unset] [(.int (0 : Int32)), (.ref b1)]))
  obtain ⟨cl3, Ar3, q3, Sz3, Ng3, Hs3, Gs3⟩ := id V_b1
  have hin3 : ¬ ((0 : Int32) < 0 ∨ cl3.slots.size ≤ ((0 : Int32)).toNatClampNeg) := inb_of Sz3 ⟨by decide, by decide⟩
  have hat3 : cl3.slots[((0 : Int32)).toNatClampNeg]? = some (.int (5 : Int32)) := Hs3.at hin3 rfl
  refine own_go (X1.baloadBytes hx (j := (0 : Int32)) (v := (.int (5 : Int32))) (own_hp rfl Ar3.1) (State.isArrayOf_alike hZ.alike Ar3.2.1) Ar3.2.2 hin3 hat3 (g := (mkF m 21 #[.val (.int p1), .val (.int q), .val (.ref b1), .unset] [(.int (0 : Int32)), (.ref b1)])) rfl rfl (hb hby at_21)) ?_
  show own_Go _ _ _ _ (T1.setTop (mkF m 22 #[.val (.int p1), .val (.int q), .val (.ref b1), .unset] [(.int (5 : Int32))]))
  refine own_go (fun _ k => XS.iconst X1.here hx rfl (hb hby at_22) k) ?_
  show own_Go _ _ _ _ (T1.setTop (mkF m 23 #[.val (.int p1), .val (.int q), .val (.ref b1), .unset] [(.int (5 : Int32)), (.int (5 : Int32))]))
  refine own_go (fun _ k => XS.icmpNo X1.here hx rfl (hb hby at_23) rfl (teq (by decide)).2 k) ?_
  show own_Go _ _ _ _ (T1.setTop (mkF m 26 #[.val (.int p1), .val (.int q), .val (.ref b1), .unset] []))
  refine own_go (fun _ k => XS.aloadN X1.here hx rfl (hb hby at_26) rfl rfl k) ?_
  show own_Go _ _ _ _ (T1.setTop (mkF m 27 #[.val (.int p1), .val (.int q), .val (.ref b1), .unset] [(.ref b1)]))
  refine own_go (fun _ k => XS.iconst X1.here hx rfl (hb hby at_27) k) ?_
  show own_Go _ _ _ _ (T1.setTop (mkF m 28 #[.val (.int p1), .val (.int q), .val (.ref b1), .unset] [(.int (1 : Int32)), (.ref b1)]))
  obtain ⟨cl4, Ar4, q4, Sz4, Ng4, Hs4, Gs4⟩ := id V_b1
  have hin4 : ¬ ((1 : Int32) < 0 ∨ cl4.slots.size ≤ ((1 : Int32)).toNatClampNeg) := inb_of Sz4 ⟨by decide, by decide⟩
  have hat4 : cl4.slots[((1 : Int32)).toNatClampNeg]? = some (.int (6 : Int32)) := Hs4.at hin4 rfl
  refine own_go (X1.baloadBytes hx (j := (1 : Int32)) (v := (.int (6 : Int32))) (own_hp rfl Ar4.1) (State.isArrayOf_alike hZ.alike Ar4.2.1) Ar4.2.2 hin4 hat4 (g := (mkF m 28 #[.val (.int p1), .val (.int q), .val (.ref b1), .unset] [(.int (1 : Int32)), (.ref b1)])) rfl rfl (hb hby at_28)) ?_
  show own_Go _ _ _ _ (T1.setTop (mkF m 29 #[.val (.int p1), .val (.int q), .val (.ref b1), .unset] [(.int (6 : Int32))]))
  refine own_go (fun _ k => XS.bipush X1.here hx rfl (hb hby at_29) k) ?_
  show own_Go _ _ _ _ (T1.setTop (mkF m 31 #[.val (.int p1), .val (.int q), .val (.ref b1), .unset] [(.int (6 : Int32)), (.int (6 : Int32))]))
  refine own_go (fun _ k => XS.icmpNo X1.here hx rfl (hb hby at_31) rfl (teq (by decide)).2 k) ?_
  show own_Go _ _ _ _ (T1.setTop (mkF m 34 #[.val (.int p1), .val (.int q), .val (.ref b1), .unset] []))
  refine own_go (fun _ k => XS.aloadN X1.here hx rfl (hb hby at_34) rfl rfl k) ?_
  show own_Go _ _ _ _ (T1.setTop (mkF m 35 #[.val (.int p1), .val (.int q), .val (.ref b1), .unset] [(.ref b1)]))
  refine own_go (fun _ k => XS.iconst X1.here hx rfl (hb hby at_35) k) ?_
  show own_Go _ _ _ _ (T1.setTop (mkF m 36 #[.val (.int p1), .val (.int q), .val (.ref b1), .unset] [(.int (2 : Int32)), (.ref b1)]))
  obtain ⟨cl5, Ar5, q5, Sz5, Ng5, Hs5, Gs5⟩ := id V_b1
  have hin5 : ¬ ((2 : Int32) < 0 ∨ cl5.slots.size ≤ ((2 : Int32)).toNatClampNeg) := inb_of Sz5 ⟨by decide, by decide⟩
  have hat5 : cl5.slots[((2 : Int32)).toNatClampNeg]? = some (.int (0 : Int32)) := Hs5.at hin5 rfl
  refine own_go (X1.baloadBytes hx (j := (2 : Int32)) (v := (.int (0 : Int32))) (own_hp rfl Ar5.1) (State.isArrayOf_alike hZ.alike Ar5.2.1) Ar5.2.2 hin5 hat5 (g := (mkF m 36 #[.val (.int p1), .val (.int q), .val (.ref b1), .unset] [(.int (2 : Int32)), (.ref b1)])) rfl rfl (hb hby at_36)) ?_
  show own_Go _ _ _ _ (T1.setTop (mkF m 37 #[.val (.int p1), .val (.int q), .val (.ref b1), .unset] [(.int (0 : Int32))]))
  refine own_go (fun _ k => XS.ifNo X1.here hx rfl (hb hby at_37) rfl ((if0 _ _).trans (teq (by decide)).2) k) ?_
  show own_Go _ _ _ _ (T1.setTop (mkF m 40 #[.val (.int p1), .val (.int q), .val (.ref b1), .unset] []))
  refine own_go (fun _ k => XS.aloadN X1.here hx rfl (hb hby at_40) rfl rfl k) ?_
  show own_Go _ _ _ _ (T1.setTop (mkF m 41 #[.val (.int p1), .val (.int q), .val (.ref b1), .unset] [(.ref b1)]))
  refine own_go (fun _ k => XS.iconst X1.here hx rfl (hb hby at_41) k) ?_
  show own_Go _ _ _ _ (T1.setTop (mkF m 42 #[.val (.int p1), .val (.int q), .val (.ref b1), .unset] [(.int (3 : Int32)), (.ref b1)]))
  obtain ⟨cl6, Ar6, q6, Sz6, Ng6, Hs6, Gs6⟩ := id V_b1
  have hin6 : ¬ ((3 : Int32) < 0 ∨ cl6.slots.size ≤ ((3 : Int32)).toNatClampNeg) := inb_of Sz6 ⟨by decide, by decide⟩
  have hat6 : cl6.slots[((3 : Int32)).toNatClampNeg]? = some (.int (1 : Int32)) := Hs6.at hin6 rfl
  refine own_go (X1.baloadBytes hx (j := (3 : Int32)) (v := (.int (1 : Int32))) (own_hp rfl Ar6.1) (State.isArrayOf_alike hZ.alike Ar6.2.1) Ar6.2.2 hin6 hat6 (g := (mkF m 42 #[.val (.int p1), .val (.int q), .val (.ref b1), .unset] [(.int (3 : Int32)), (.ref b1)])) rfl rfl (hb hby at_42)) ?_
  show own_Go _ _ _ _ (T1.setTop (mkF m 43 #[.val (.int p1), .val (.int q), .val (.ref b1), .unset] [(.int (1 : Int32))]))
  refine own_go (fun _ k => XS.iconst X1.here hx rfl (hb hby at_43) k) ?_
  show own_Go _ _ _ _ (T1.setTop (mkF m 44 #[.val (.int p1), .val (.int q), .val (.ref b1), .unset] [(.int (1 : Int32)), (.int (1 : Int32))]))
  refine own_go (fun _ k => XS.icmpNo X1.here hx rfl (hb hby at_44) rfl (teq (by decide)).2 k) ?_
  show own_Go _ _ _ _ (T1.setTop (mkF m 47 #[.val (.int p1), .val (.int q), .val (.ref b1), .unset] []))
  refine own_go (fun _ k => XS.aloadN X1.here hx rfl (hb hby at_47) rfl rfl k) ?_
  show own_Go _ _ _ _ (T1.setTop (mkF m 48 #[.val (.int p1), .val (.int q), .val (.ref b1), .unset] [(.ref b1)]))
  refine own_go (fun _ k => XS.iconst X1.here hx rfl (hb hby at_48) k) ?_
  show own_Go _ _ _ _ (T1.setTop (mkF m 49 #[.val (.int p1), .val (.int q), .val (.ref b1), .unset] [(.int (4 : Int32)), (.ref b1)]))
  obtain ⟨cl7, Ar7, q7, Sz7, Ng7, Hs7, Gs7⟩ := id V_b1
  have hin7 : ¬ ((4 : Int32) < 0 ∨ cl7.slots.size ≤ ((4 : Int32)).toNatClampNeg) := inb_of Sz7 ⟨by decide, by decide⟩
  have hat7 : cl7.slots[((4 : Int32)).toNatClampNeg]? = some (.int (nar .byte q.toInt8.toInt32)) := Hs7.at hin7 rfl
  refine own_go (X1.baloadBytes hx (j := (4 : Int32)) (v := (.int (nar .byte q.toInt8.toInt32))) (own_hp rfl Ar7.1) (State.isArrayOf_alike hZ.alike Ar7.2.1) Ar7.2.2 hin7 hat7 (g := (mkF m 49 #[.val (.int p1), .val (.int q), .val (.ref b1), .unset] [(.int (4 : Int32)), (.ref b1)])) rfl rfl (hb hby at_49)) ?_
  show own_Go _ _ _ _ (T1.setTop (mkF m 50 #[.val (.int p1), .val (.int q), .val (.ref b1), .unset] [(.int (nar .byte q.toInt8.toInt32))]))
  refine own_go (fun _ k => XS.sipush X1.here hx rfl (hb hby at_50) k) ?_
  show own_Go _ _ _ _ (T1.setTop (mkF m 53 #[.val (.int p1), .val (.int q), .val (.ref b1), .unset] [(.int (255 : Int32)), (.int (nar .byte q.toInt8.toInt32))]))
  refine own_go (fun _ k => XS.iand X1.here hx rfl (hb hby at_53) rfl k) ?_
  show own_Go _ _ _ _ (T1.setTop (mkF m 54 #[.val (.int p1), .val (.int q), .val (.ref b1), .unset] [(.int ((nar .byte q.toInt8.toInt32) &&& (255 : Int32)))]))
  refine own_go (fun _ k => XS.iloadN X1.here hx rfl (hb hby at_54) rfl k) ?_
  show own_Go _ _ _ _ (T1.setTop (mkF m 55 #[.val (.int p1), .val (.int q), .val (.ref b1), .unset] [(.int q), (.int ((nar .byte q.toInt8.toInt32) &&& (255 : Int32)))]))
  refine own_go (fun _ k => XS.sipush X1.here hx rfl (hb hby at_55) k) ?_
  show own_Go _ _ _ _ (T1.setTop (mkF m 58 #[.val (.int p1), .val (.int q), .val (.ref b1), .unset] [(.int (256 : Int32)), (.int q), (.int ((nar .byte q.toInt8.toInt32) &&& (255 : Int32)))]))
  refine own_go (fun _ k => iremM X1 hx rfl (hb hby at_58) rfl (by decide) k) ?_
  show own_Go _ _ _ _ (T1.setTop (mkF m 59 #[.val (.int p1), .val (.int q), .val (.ref b1), .unset] [(.int (q % (256 : Int32))), (.int ((nar .byte q.toInt8.toInt32) &&& (255 : Int32)))]))
  refine own_go (fun _ k => XS.icmpNo X1.here hx rfl (hb hby at_59) rfl (teq (own_lo hp1 hp2)).2 k) ?_
  show own_Go _ _ _ _ (T1.setTop (mkF m 62 #[.val (.int p1), .val (.int q), .val (.ref b1), .unset] []))
  refine own_go (fun _ k => XS.aloadN X1.here hx rfl (hb hby at_62) rfl rfl k) ?_
  show own_Go _ _ _ _ (T1.setTop (mkF m 63 #[.val (.int p1), .val (.int q), .val (.ref b1), .unset] [(.ref b1)]))
  refine own_go (fun _ k => XS.iconst X1.here hx rfl (hb hby at_63) k) ?_
  show own_Go _ _ _ _ (T1.setTop (mkF m 64 #[.val (.int p1), .val (.int q), .val (.ref b1), .unset] [(.int (5 : Int32)), (.ref b1)]))
  obtain ⟨cl8, Ar8, q8, Sz8, Ng8, Hs8, Gs8⟩ := id V_b1
  have hin8 : ¬ ((5 : Int32) < 0 ∨ cl8.slots.size ≤ ((5 : Int32)).toNatClampNeg) := inb_of Sz8 ⟨by decide, by decide⟩
  have hat8 : cl8.slots[((5 : Int32)).toNatClampNeg]? = some (.int (nar .byte ((q.toUInt32 >>> ((8 : Int32) &&& 31).toUInt32).toInt32).toInt8.toInt32)) := Hs8.at hin8 rfl
  refine own_go (X1.baloadBytes hx (j := (5 : Int32)) (v := (.int (nar .byte ((q.toUInt32 >>> ((8 : Int32) &&& 31).toUInt32).toInt32).toInt8.toInt32))) (own_hp rfl Ar8.1) (State.isArrayOf_alike hZ.alike Ar8.2.1) Ar8.2.2 hin8 hat8 (g := (mkF m 64 #[.val (.int p1), .val (.int q), .val (.ref b1), .unset] [(.int (5 : Int32)), (.ref b1)])) rfl rfl (hb hby at_64)) ?_
  show own_Go _ _ _ _ (T1.setTop (mkF m 65 #[.val (.int p1), .val (.int q), .val (.ref b1), .unset] [(.int (nar .byte ((q.toUInt32 >>> ((8 : Int32) &&& 31).toUInt32).toInt32).toInt8.toInt32))]))
  refine own_go (fun _ k => XS.sipush X1.here hx rfl (hb hby at_65) k) ?_
  show own_Go _ _ _ _ (T1.setTop (mkF m 68 #[.val (.int p1), .val (.int q), .val (.ref b1), .unset] [(.int (255 : Int32)), (.int (nar .byte ((q.toUInt32 >>> ((8 : Int32) &&& 31).toUInt32).toInt32).toInt8.toInt32))]))
  refine own_go (fun _ k => XS.iand X1.here hx rfl (hb hby at_68) rfl k) ?_
  show own_Go _ _ _ _ (T1.setTop (mkF m 69 #[.val (.int p1), .val (.int q), .val (.ref b1), .unset] [(.int ((nar .byte ((q.toUInt32 >>> ((8 : Int32) &&& 31).toUInt32).toInt32).toInt8.toInt32) &&& (255 : Int32)))]))
  refine own_go (fun _ k => XS.iloadN X1.here hx rfl (hb hby at_69) rfl k) ?_
  show own_Go _ _ _ _ (T1.setTop (mkF m 70 #[.val (.int p1), .val (.int q), .val (.ref b1), .unset] [(.int q), (.int ((nar .byte ((q.toUInt32 >>> ((8 : Int32) &&& 31).toUInt32).toInt32).toInt8.toInt32) &&& (255 : Int32)))]))
  refine own_go (fun _ k => XS.sipush X1.here hx rfl (hb hby at_70) k) ?_
  show own_Go _ _ _ _ (T1.setTop (mkF m 73 #[.val (.int p1), .val (.int q), .val (.ref b1), .unset] [(.int (256 : Int32)), (.int q), (.int ((nar .byte ((q.toUInt32 >>> ((8 : Int32) &&& 31).toUInt32).toInt32).toInt8.toInt32) &&& (255 : Int32)))]))
  refine own_go (fun _ k => XS.idiv X1.here hx rfl (hb hby at_73) rfl (by decide) k) ?_
  show own_Go _ _ _ _ (T1.setTop (mkF m 74 #[.val (.int p1), .val (.int q), .val (.ref b1), .unset] [(.int (q / (256 : Int32))), (.int ((nar .byte ((q.toUInt32 >>> ((8 : Int32) &&& 31).toUInt32).toInt32).toInt8.toInt32) &&& (255 : Int32)))]))
  refine own_go (fun _ k => XS.icmpNo X1.here hx rfl (hb hby at_74) rfl (teq (own_hi hp1 hp2)).2 k) ?_
  show own_Go _ _ _ _ (T1.setTop (mkF m 77 #[.val (.int p1), .val (.int q), .val (.ref b1), .unset] []))
  refine own_go (fun _ k => XS.iconst X1.here hx rfl (hb hby at_77) k) ?_
  show own_Go _ _ _ _ (T1.setTop (mkF m 78 #[.val (.int p1), .val (.int q), .val (.ref b1), .unset] [(.int (1 : Int32))]))
  refine own_go (fun _ k => XS.goto X1.here hx rfl (pc0 := 78) (pc' := 82) rfl (hb hby at_78) (by decide) (by decide) k) ?_
  show own_Go _ _ _ _ (T1.setTop (mkF m 82 #[.val (.int p1), .val (.int q), .val (.ref b1), .unset] [(.int (1 : Int32))]))
  refine own_go (fun _ k => XS.istoreN X1.here hx rfl (hb hby at_82) rfl (l' := #[.val (.int p1), .val (.int q), .val (.ref b1), .val (.int (1 : Int32))]) rfl k) ?_
  show own_Go _ _ _ _ (T1.setTop (mkF m 83 #[.val (.int p1), .val (.int q), .val (.ref b1), .val (.int (1 : Int32))] []))
  refine own_go (fun _ k => XS.iloadN X1.here hx rfl (hb hby at_83) rfl k) ?_
  show own_Go _ _ _ _ (T1.setTop (mkF m 84 #[.val (.int p1), .val (.int q), .val (.ref b1), .val (.int (1 : Int32))] [(.int (1 : Int32))]))
  refine own_go (fun _ k => XS.ifYes X1.here hx rfl (pc0 := 84) (pc' := 89) rfl (hb hby at_84) rfl ((if0 _ _).trans (feq (by decide)).2) (by decide) (by decide) k) ?_
  show own_Go _ _ _ _ (T1.setTop (mkF m 89 #[.val (.int p1), .val (.int q), .val (.ref b1), .val (.int (1 : Int32))] []))
  refine own_go (fun _ k => XS.iloadN X1.here hx rfl (hb hby at_89) rfl k) ?_
  show own_Go _ _ _ _ (T1.setTop (mkF m 90 #[.val (.int p1), .val (.int q), .val (.ref b1), .val (.int (1 : Int32))] [(.int q)]))
  by_cases hz : q = (0 : Int32)
  · have _h := hz
    refine own_go (fun _ k => XS.ifNo X1.here hx rfl (hb hby at_90) rfl ((if0 _ _).trans (teq hz).2) k) ?_
    show own_Go _ _ _ _ (T1.setTop (mkF m 93 #[.val (.int p1), .val (.int q), .val (.ref b1), .val (.int (1 : Int32))] []))
    refine own_go (fun _ k => XS.iconst X1.here hx rfl (hb hby at_93) k) ?_
    show own_Go _ _ _ _ (T1.setTop (mkF m 94 #[.val (.int p1), .val (.int q), .val (.ref b1), .val (.int (1 : Int32))] [(.int (1 : Int32))]))
    refine own_ret X1 hlk (v := some (.int (1 : Int32))) (fun h => by rw [Bd.returns] at h; cases h) (fun fs hr => retN X1 hx (t := .boolean) Bd.returns (by simp) (hb hby at_94) hr) ?_ (by decide) (by decide)
    skip
    exact ⟨rfl, NF1⟩
  · have _h := hz
    refine own_go (fun _ k => XS.ifYes X1.here hx rfl (pc0 := 90) (pc' := 95) rfl (hb hby at_90) rfl ((if0 _ _).trans (feq hz).2) (by decide) (by decide) k) ?_
    show own_Go _ _ _ _ (T1.setTop (mkF m 95 #[.val (.int p1), .val (.int q), .val (.ref b1), .val (.int (1 : Int32))] []))
    refine own_go (fun _ k => XS.aloadN X1.here hx rfl (hb hby at_95) rfl rfl k) ?_
    show own_Go _ _ _ _ (T1.setTop (mkF m 96 #[.val (.int p1), .val (.int q), .val (.ref b1), .val (.int (1 : Int32))] [(.ref b1)]))
    refine own_go (fun _ k => XS.bipush X1.here hx rfl (hb hby at_96) k) ?_
    show own_Go _ _ _ _ (T1.setTop (mkF m 98 #[.val (.int p1), .val (.int q), .val (.ref b1), .val (.int (1 : Int32))] [(.int (6 : Int32)), (.ref b1)]))
    obtain ⟨_, _, ⟨T9, L9, k9, n9⟩, -, X9, ⟨Lc9, hQ9, l9, y9, z9⟩, st9⟩ := Jvm.LawKit.callS X1 hx (y := (⟨"com/example/portcall/portcall/codec/Answer", "readAdmin", "([BI)I"⟩ : MethodName)) hown (mvT hZ (hw _ (List.mem_of_getElem? (i := 6) rfl))) (mvT hZ (hw _ (List.mem_of_getElem? (i := 7) rfl))) (mvT hZ (hw _ (List.mem_of_getElem? (i := 3) rfl))) (mvT hZ (hw _ (List.mem_of_getElem? (i := 8) rfl))) (by decide) (own_back (W := 0) (own_rmR l Z a0 hw b1 kk1 _ _ q T1.heap n0 Z0 V_b1 (by rw [own_lo hp1 hp2, own_hi hp1 hp2]; exact own_bk hp1 hp2) hz) hZ (hw _ (List.mem_of_getElem? (i := 8) rfl)) (hw _ (List.mem_of_getElem? (i := 3) rfl)) (by decide) (by decide)) (g := (mkF m 98 #[.val (.int p1), .val (.int q), .val (.ref b1), .val (.int (1 : Int32))] [(.int (6 : Int32)), (.ref b1)])) rfl (by rw [hml]; rfl) (argsL := [(.ref b1), (.int (6 : Int32))]) (rest := []) (lenOf own_pd0 rfl) rfl (by show 2 * 0 + _ ≤ _; exact Nat.le_of_eq rfl) (hb hby at_98) (fun _ _ => ⟨rfl, rfl, (by decide : 1 + 0 ≤ _), (by decide : 6 + 0 ≤ _)⟩)
    dsimp only [Pt.U, Pt.locs, Pt.cells, Pt.slots] at X9 l9 y9 z9 st9 hQ9
    subst l9 y9 z9
    obtain ⟨rfl, Nq9, eq9⟩ := hQ9
    have NF9 := Fr.app NF1 Nq9
    refine own_go st9 ?_
    show own_Go _ _ _ _ (T9.setTop (mkF m 101 #[.val (.int p1), .val (.int q), .val (.ref b1), .val (.int (1 : Int32))] [(.int q)]))
    refine own_go (fun _ k => XS.iloadN X9.here hx rfl (hb hby at_101) rfl k) ?_
    show own_Go _ _ _ _ (T9.setTop (mkF m 102 #[.val (.int p1), .val (.int q), .val (.ref b1), .val (.int (1 : Int32))] [(.int q), (.int q)]))
    refine own_go (fun _ k => XS.icmpNo X9.here hx rfl (hb hby at_102) rfl (teq rfl).2 k) ?_
    show own_Go _ _ _ _ (T9.setTop (mkF m 105 #[.val (.int p1), .val (.int q), .val (.ref b1), .val (.int (1 : Int32))] []))
    refine own_go (fun _ k => XS.iconst X9.here hx rfl (hb hby at_105) k) ?_
    show own_Go _ _ _ _ (T9.setTop (mkF m 106 #[.val (.int p1), .val (.int q), .val (.ref b1), .val (.int (1 : Int32))] [(.int (1 : Int32))]))
    refine own_go (fun _ k => XS.goto X9.here hx rfl (pc0 := 106) (pc' := 110) rfl (hb hby at_106) (by decide) (by decide) k) ?_
    show own_Go _ _ _ _ (T9.setTop (mkF m 110 #[.val (.int p1), .val (.int q), .val (.ref b1), .val (.int (1 : Int32))] [(.int (1 : Int32))]))
    refine own_ret X9 hlk (v := some (.int (1 : Int32))) (fun h => by rw [Bd.returns] at h; cases h) (fun fs hr => retN X9 hx (t := .boolean) Bd.returns (by simp) (hb hby at_110) hr) ?_ (by decide) (by decide)
    try rw [eq9]
    exact ⟨rfl, NF9⟩
set_option maxRecDepth 65536 in
set_option maxHeartbeats 40000000 in
theorem own_comes {Post : Tables → Env → Array Value → State → Outcome → State → Prop} (hpost : ∀ tb e args s v u, (limb_1_1.after args s (.returned v) u = true ∧ limb_1_2.after args s (.returned v) u = true ∧ True) → FrameEnd s (.returned v) u (Jvm.fieldLocs frame_1_writes args s ++ Jvm.arrayLocs frame_1_arrays args s ++ Jvm.staticLocs frame_1_statics s) 16 128 → Post tb e args s (.returned v) u) :
    ArmFor flags0 classFile x code maxLocals ret World_1 tables_1 room_1 Calls_1 rest_1 Pre_1 Post := by
  intro l hfl _ _ p e ha hc hk s m args below hf hA hF happ hP
  obtain ⟨hcalls, hrest, hpre⟩ := hP
  obtain ⟨-, -, -, hnamed, -, -, -, hat⟩ := (Spec.applies_iff hf).mp happ
  obtain ⟨hg, hn⟩ := and_e (Cond.before_iff.mp (show (Jvm.Cond.and given_1 narrow_1).before args s = true from hpre))
  obtain ⟨hcount, hg⟩ := and_e hg
  obtain ⟨w0, rfl⟩ : ∃ w0 : Value, args = #[w0] := by
    have hs : args.size = 1 := by simpa [Cond.value, given_1] using hcount
    obtain ⟨L⟩ := args
    match L, hs with
    | [w0], _ => exact ⟨w0, rfl⟩
  have hw := fun d (hd : d ∈ tables_1) => atoms_spec (ws := Jvm.Cond.code x code maxLocals ret :: tables_1) hat d (List.mem_cons_of_mem _ hd)
  have hfit : Fit s := fun {y c} hc i hi => by
    obtain ⟨ha, rfl⟩ := Array.getElem?_eq_some_iff.mp hc
    have q := List.all_eq_true.mp ((Array.all_eq_true_iff_forall_mem.mp hF) _ (Array.getElem_mem ha)) i (List.mem_range.mpr hi)
    simpa [Array.getElem?_eq_getElem hi] using q
  obtain ⟨i0, ei0⟩ := is_v hg
  obtain rfl : w0 = (.int i0) := Option.some.inj ei0
  obtain ⟨n, o, h1, h2, h3, _, L, rfl, ⟨rfl, N⟩, hq⟩ := own_rm0 l s _ hw i0 s.heap s.heap.size (Nat.le_refl _)  p e ha hc hk s m _ below hf ((Spec.applies_iff_loose hf).mp happ).1 ⟨rfl, State.Warmed39.refl s, rfl⟩ trivial
  refine ⟨n, _, h1, h2, h3, hpost _ _ _ _ _ _ ⟨Cond.after_iff.mpr rfl, Cond.after_iff.mpr (eq_i res_at (Term.int_eval (1)) rfl), trivial⟩ ⟨hq.1, hq.2.1, (hq.2.2.sift fun y hy => Or.inr (N y hy)).mono (by decide) (by decide)⟩⟩
theorem main_1_1 : Claimed_1_1 := own_comes fun _ _ _ _ _ _ h hF => ⟨h.1, hF⟩
theorem main_1_2 : Claimed_1_2 := own_comes fun _ _ _ _ _ _ h hF => ⟨h.2.1, hF⟩
end Jvm.Pilot.@@N@@
namespace Jvm.Pilot.@@N@@
open Jvm Jvm.ClassFile Sem Op Lib Jvm.Free Jvm.Stand Jvm.Pilot.@@N@@.Jvm.D
/-! MADE BY PROGRAM (witnessworld.py) out of the Statement's table words and the real class files: 9 classes; the members and pool entries that the words name. The judged class is class 1, her method 1. -/
namespace start1
open Jvm.ClassFile
def u (s : String) : CpInfo := .utf8 (stringToUtf16 s)
/-- a pool by its gaps: so many unusable entries, then the entry; so many at the end -/
def gap : Nat → List CpInfo → List CpInfo
  | 0, r => r
  | n + 1, r => .unusable :: gap n r
def poolList (es : List (Nat × CpInfo)) (last : Nat) : List CpInfo := es.foldr (fun e r => gap e.1 (e.2 :: r)) (gap last [])
def pool (es : List (Nat × CpInfo)) (last : Nat) : Array CpInfo := ⟨poolList es last⟩
def fileOf (pool : Array CpInfo) (this : Nat) (attrs : Array Attribute := #[]) (ms : Array MethodInfo := #[]) (fl : Nat := 33) (sup : Nat := 0) (ifs : Array Nat := #[]) (fds : Array FieldInfo := #[]) : ClassFile where
  minorVersion := 0
  majorVersion := 65
  constantPool := pool
  accessFlags := fl
  thisClass := this
  superClass := sup
  interfaces := ifs
  fields := fds
  methods := ms
  attributes := attrs
def plain (name : String) (sup : Option ClassId) : Class where
  name := name
  kind := .ordinary
  loader := none
  accessFlags := 33
  super := sup
  interfaces := #[]
  cf := none
  fields := #[]
  methods := #[]
  instanceTypes := #[]
  staticTypes := #[]
  resolved := #[]
  callSites := []
  init := .initialized
  statics := none
  mirror := none

def pool0 : Array CpInfo := pool [(5, u "<init>"), (0, u "()V"), (1, .class_ 10), (1, u "java/lang/Object")] 113

def k0m0 : Method := { name := "<init>", desc := "()V", sig := { parameters := [], returnType := none }, accessFlags := 1, code := none }
/-- java/lang/Object -/
def k0 : Class := { plain "java/lang/Object" none with
  accessFlags := 33
  interfaces := #[]
  cf := some (fileOf pool0 8 #[] #[{ accessFlags := 1, nameIndex := 5, descriptorIndex := 6, attributes := #[] }] 33 0 #[] #[])
  fields := #[]
  methods := #[k0m0]
  instanceTypes := #[]
  staticTypes := #[]
  resolved := Array.replicate 124 none
  statics := none }

def pool1 : Array CpInfo := pool [(2, .class_ 4), (1, u "java/lang/Object"), (0, u "<init>"), (0, u "()V"), (0, .integer 65535), (0, .methodref 9 10), (0, .class_ 11), (0, .nameAndType 12 13), (0, u "com/example/portcall/portcall/codec/Answer"), (0, u "admin"), (0, u "(I)[B"), (0, .methodref 9 15), (0, .nameAndType 16 17), (0, u "readAdmin"), (0, u "([BI)I"), (0, .class_ 19), (0, u "com/example/portcall/portcall/codec/AnswerAdminPinLaw"), (2, u "law"), (0, u "(I)Z")] 8

def k1m0 : Method := { name := "<init>", desc := "()V", sig := { parameters := [], returnType := none }, accessFlags := 2, code := none }
def k1c1 : Code := { maxStack := 3, maxLocals := 4, code := code, exceptionTable := #[], attributes := #[] }
def k1m1 : Method := { name := "law", desc := "(I)Z", sig := { parameters := [.int], returnType := some .boolean }, accessFlags := 9, code := some k1c1 }
/-- com/example/portcall/portcall/codec/AnswerAdminPinLaw -/
def k1 : Class := { plain "com/example/portcall/portcall/codec/AnswerAdminPinLaw" (some 0) with
  accessFlags := 49
  interfaces := #[]
  cf := some (fileOf pool1 18 #[] #[{ accessFlags := 2, nameIndex := 5, descriptorIndex := 6, attributes := #[] }, { accessFlags := 9, nameIndex := 22, descriptorIndex := 23, attributes := #[] }] 49 2 #[] #[])
  fields := #[]
  methods := #[k1m0, k1m1]
  instanceTypes := #[]
  staticTypes := #[]
  resolved := Array.replicate 32 none
  statics := none }

def pool2 : Array CpInfo := pool [(2, .class_ 4), (1, u "java/lang/Object"), (0, u "<init>"), (0, u "()V"), (13, .class_ 22), (1, u "com/example/portcall/portcall/codec/Answer"), (87, .methodref 20 111), (0, .nameAndType 112 113), (0, u "sizeField"), (0, u "([BI)I"), (16, .methodref 20 131), (0, .nameAndType 132 113), (0, u "littleEndian"), (12, u "SVR_RESP"), (0, u "B"), (2, u "HEADER_BYTES"), (0, u "I"), (1, u "MAX_DATA_BYTES"), (0, u "ADMIN_SIZE"), (1, u "ADMIN_VERSION"), (12, u "admin"), (0, u "(I)[B"), (6, u "readAdmin")] 27

def k2m0 : Method := { name := "<init>", desc := "()V", sig := { parameters := [], returnType := none }, accessFlags := 2, code := none }
def k2c1 : Code := { maxStack := 5, maxLocals := 1, code := prog_3_method_4_code, exceptionTable := #[], attributes := #[] }
def k2m1 : Method := { name := "admin", desc := "(I)[B", sig := { parameters := [.int], returnType := some (.array .byte) }, accessFlags := 9, code := some k2c1 }
def k2c2 : Code := { maxStack := 8, maxLocals := 4, code := prog_3_method_8_code, exceptionTable := #[], attributes := #[] }
def k2m2 : Method := { name := "readAdmin", desc := "([BI)I", sig := { parameters := [(.array .byte), .int], returnType := some .int }, accessFlags := 9, code := some k2c2 }
def k2c3 : Code := { maxStack := 8, maxLocals := 2, code := prog_3_method_10_code, exceptionTable := #[], attributes := #[] }
def k2m3 : Method := { name := "sizeField", desc := "([BI)I", sig := { parameters := [(.array .byte), .int], returnType := some .int }, accessFlags := 10, code := some k2c3 }
def k2c4 : Code := { maxStack := 4, maxLocals := 2, code := prog_3_method_11_code, exceptionTable := #[], attributes := #[] }
def k2m4 : Method := { name := "littleEndian", desc := "([BI)I", sig := { parameters := [(.array .byte), .int], returnType := some .int }, accessFlags := 10, code := some k2c4 }
/-- com/example/portcall/portcall/codec/Answer -/
def k2 : Class := { plain "com/example/portcall/portcall/codec/Answer" (some 0) with
  accessFlags := 49
  interfaces := #[]
  cf := some (fileOf pool2 20 #[] #[{ accessFlags := 2, nameIndex := 5, descriptorIndex := 6, attributes := #[] }, { accessFlags := 9, nameIndex := 168, descriptorIndex := 169, attributes := #[] }, { accessFlags := 9, nameIndex := 176, descriptorIndex := 113, attributes := #[] }, { accessFlags := 10, nameIndex := 112, descriptorIndex := 113, attributes := #[] }, { accessFlags := 10, nameIndex := 132, descriptorIndex := 113, attributes := #[] }] 49 2 #[] #[{ accessFlags := 26, nameIndex := 145, descriptorIndex := 146, attributes := #[] }, { accessFlags := 26, nameIndex := 149, descriptorIndex := 150, attributes := #[] }, { accessFlags := 26, nameIndex := 152, descriptorIndex := 150, attributes := #[] }, { accessFlags := 26, nameIndex := 153, descriptorIndex := 146, attributes := #[] }, { accessFlags := 26, nameIndex := 155, descriptorIndex := 146, attributes := #[] }])
  fields := #[{ name := "SVR_RESP", type := .byte, accessFlags := 26, slot := 0, constantValue := 0 }, { name := "HEADER_BYTES", type := .int, accessFlags := 26, slot := 1, constantValue := 0 }, { name := "MAX_DATA_BYTES", type := .int, accessFlags := 26, slot := 2, constantValue := 0 }, { name := "ADMIN_SIZE", type := .byte, accessFlags := 26, slot := 3, constantValue := 0 }, { name := "ADMIN_VERSION", type := .byte, accessFlags := 26, slot := 4, constantValue := 0 }]
  methods := #[k2m0, k2m1, k2m2, k2m3, k2m4]
  instanceTypes := #[]
  staticTypes := #[.byte, .int, .int, .byte, .byte]
  resolved := Array.replicate 204 none
  statics := none }

def pool3 : Array CpInfo := pool [(1, u "java/lang/Cloneable"), (0, .class_ 1), (0, u "java/lang/Object"), (0, .class_ 3)] 3

/-- java/lang/Cloneable -/
def k3 : Class := { plain "java/lang/Cloneable" (some 0) with
  accessFlags := 1537
  interfaces := #[]
  cf := some (fileOf pool3 2 #[] #[] 1537 4 #[] #[])
  fields := #[]
  methods := #[]
  instanceTypes := #[]
  staticTypes := #[]
  resolved := Array.replicate 8 none
  statics := none }

def pool4 : Array CpInfo := pool [(1, u "java/io/Serializable"), (0, .class_ 1), (0, u "java/lang/Object"), (0, .class_ 3)] 3

/-- java/io/Serializable -/
def k4 : Class := { plain "java/io/Serializable" (some 0) with
  accessFlags := 1537
  interfaces := #[]
  cf := some (fileOf pool4 2 #[] #[] 1537 4 #[] #[])
  fields := #[]
  methods := #[]
  instanceTypes := #[]
  staticTypes := #[]
  resolved := Array.replicate 8 none
  statics := none }

/-- the primitive byte -/
def k5 : Class := { plain "byte" none with kind := .primitive 'B', accessFlags := 0x411 }
/-- [B -/
def k6 : Class := { plain "[B" (some 0) with kind := .array 5 .byte, interfaces := #[3, 4], accessFlags := 1041 }

/-- the primitive int -/
def k7 : Class := { plain "int" none with kind := .primitive 'I', accessFlags := 0x411 }
/-- [I -/
def k8 : Class := { plain "[I" (some 0) with kind := .array 7 .int, interfaces := #[3, 4], accessFlags := 1041 }

def heap : Heap := #[]
def classes : Array Class := #[k0, k1, k2, k3, k4, k5, k6, k7, k8]
def interned : List (Array UInt16 × Addr) := []
def slotsUsed : Nat := 0
def theMethod : MethodId := ⟨1, 1⟩
def args0 : Array Value := #[.int 5]
def aboutOver (below : List Frame) : State where
  vm := { classes := classes, interned := interned.toArray }
  heap := heap
  slotsUsed := slotsUsed
  threads := #[{ frames := .invoking theMethod args0 :: below }]
def below0 : List Frame := [.native { method := ⟨0, 0⟩, args := #[] }]
def about1 : State := aboutOver below0
def p0 : Program := .bare "" "" ""
def e0 : Env := launch0.env 0 0 0
theorem w_frames : about1.frames = Frame.invoking theMethod args0 :: below0 := rfl
set_option maxRecDepth 65536 in
theorem w_args : argsFit about1.vm theMethod args0 = true := by decide +kernel
set_option maxRecDepth 65536 in
theorem w_heap : heapFits about1 = true := by decide +kernel
set_option maxRecDepth 65536 in
theorem w_runnable : about1.curStatus? = some .runnable := by decide +kernel
set_option maxRecDepth 65536 in
theorem w_alone : about1.alone = true := by decide +kernel
set_option maxRecDepth 65536 in
theorem w_named : about1.methodNamed? x = some theMethod := by decide +kernel
set_option maxRecDepth 65536 in
theorem w_hears : about1.hears theMethod below0 = true := by decide +kernel
set_option maxRecDepth 65536 in
theorem w_ripe : about1.ripe theMethod args0 below0 = true := by decide +kernel
theorem w_running : about1.status = .running := rfl
set_option maxRecDepth 65536 in
theorem w_room : about1.hasRoom e0.platform room_1 = true :=
  launch0.hasRoom_least _ room_1 (by decide +kernel) (by decide +kernel) (by decide +kernel) (by decide +kernel) (by decide +kernel) (by decide +kernel)
theorem allAtoms_all (ts : List Jvm.Cond) (a : Array Jvm.Value) (st : Jvm.State) : (allAtoms ts).before a st = ts.all (fun c => c.before a st) := by
  induction ts with
  | nil => rfl
  | cons c t ih =>
    show (Jvm.Cond.and c (allAtoms t)).before a st = _
    rw [Jvm.Cond.before_and, ih, List.all_cons]
def words1 : List Jvm.Cond := Jvm.Cond.code x code maxLocals ret :: tables_1
/-- a 'code' word, met by the world's own term for the bytes: nothing is compared byte by byte -/
theorem code_word {y : MethodName} {bytes : ByteArray} {mx : Nat} {rt : Option FieldType} {a : Array Value} {s : State} {m : MethodId} {meth : Method} {c : Code} (h1 : s.methodNamed? y = some m) (h2 : s.vm.method? m = some meth) (h3 : meth.code = some c) (h4 : c.code = bytes)
    (h5 : (c.maxLocals == mx && c.exceptionTable.isEmpty && decide (c.maxStack ≤ mostOperands) && decide (meth.sig.returnType = rt) && !meth.locks && decide (parseMethodDescriptor y.desc = some meth.sig)) = true) : (Jvm.Cond.code y bytes mx rt).before a s = true := by
  simp only [Bool.and_eq_true, beq_iff_eq, Bool.not_eq_true', decide_eq_true_eq] at h5
  obtain ⟨⟨⟨⟨⟨g1, g2⟩, g3⟩, g4⟩, g5⟩, g6⟩ := h5
  simp [Cond.before, Cond.holds, Cond.value, h1, h2, h3, h4, g1, g2, g3, g4, g5, g6]
def isCode : Jvm.Cond → Bool
  | .code _ _ _ _ => true
  | _ => false
theorem all_split {L : List Jvm.Cond} {P : Jvm.Cond → Bool} (h1 : L.all (fun c => isCode c || P c) = true) (h2 : ∀ c ∈ L.filter isCode, P c = true) : L.all P = true := by
  refine List.all_eq_true.mpr fun c hc => ?_
  have h := List.all_eq_true.mp h1 c hc
  rcases Bool.eq_false_or_eq_true (isCode c) with hi | hi
  · exact h2 c (List.mem_filter.mpr ⟨hc, hi⟩)
  · simpa [hi] using h
set_option maxRecDepth 65536 in
theorem w_c0 : (Jvm.Cond.code x code maxLocals ret).before args0 about1 = true := code_word (m := ⟨1, 1⟩) (meth := k1m1) (c := k1c1) (by decide +kernel) rfl rfl rfl (by decide +kernel)
set_option maxRecDepth 65536 in
theorem w_c1 : (Jvm.Cond.code ({ cls := "com/example/portcall/portcall/codec/Answer", name := "admin", desc := "(I)[B" } : Jvm.MethodName) prog_3_method_4_code (1 : Nat) (Option.some (Jvm.ClassFile.FieldType.array Jvm.ClassFile.FieldType.byte))).before args0 about1 = true := code_word (m := ⟨2, 1⟩) (meth := k2m1) (c := k2c1) (by decide +kernel) rfl rfl rfl (by decide +kernel)
set_option maxRecDepth 65536 in
theorem w_c2 : (Jvm.Cond.code ({ cls := "com/example/portcall/portcall/codec/Answer", name := "readAdmin", desc := "([BI)I" } : Jvm.MethodName) prog_3_method_8_code (4 : Nat) (Option.some Jvm.ClassFile.FieldType.int)).before args0 about1 = true := code_word (m := ⟨2, 2⟩) (meth := k2m2) (c := k2c2) (by decide +kernel) rfl rfl rfl (by decide +kernel)
set_option maxRecDepth 65536 in
theorem w_c3 : (Jvm.Cond.code ({ cls := "com/example/portcall/portcall/codec/Answer", name := "sizeField", desc := "([BI)I" } : Jvm.MethodName) prog_3_method_10_code (2 : Nat) (Option.some Jvm.ClassFile.FieldType.int)).before args0 about1 = true := code_word (m := ⟨2, 3⟩) (meth := k2m3) (c := k2c3) (by decide +kernel) rfl rfl rfl (by decide +kernel)
set_option maxRecDepth 65536 in
theorem w_c4 : (Jvm.Cond.code ({ cls := "com/example/portcall/portcall/codec/Answer", name := "littleEndian", desc := "([BI)I" } : Jvm.MethodName) prog_3_method_11_code (2 : Nat) (Option.some Jvm.ClassFile.FieldType.int)).before args0 about1 = true := code_word (m := ⟨2, 4⟩) (meth := k2m4) (c := k2c4) (by decide +kernel) rfl rfl rfl (by decide +kernel)
def codes1 : List Jvm.Cond := [Jvm.Cond.code x code maxLocals ret, Jvm.Cond.code ({ cls := "com/example/portcall/portcall/codec/Answer", name := "admin", desc := "(I)[B" } : Jvm.MethodName) prog_3_method_4_code (1 : Nat) (Option.some (Jvm.ClassFile.FieldType.array Jvm.ClassFile.FieldType.byte)), Jvm.Cond.code ({ cls := "com/example/portcall/portcall/codec/Answer", name := "readAdmin", desc := "([BI)I" } : Jvm.MethodName) prog_3_method_8_code (4 : Nat) (Option.some Jvm.ClassFile.FieldType.int), Jvm.Cond.code ({ cls := "com/example/portcall/portcall/codec/Answer", name := "sizeField", desc := "([BI)I" } : Jvm.MethodName) prog_3_method_10_code (2 : Nat) (Option.some Jvm.ClassFile.FieldType.int), Jvm.Cond.code ({ cls := "com/example/portcall/portcall/codec/Answer", name := "littleEndian", desc := "([BI)I" } : Jvm.MethodName) prog_3_method_11_code (2 : Nat) (Option.some Jvm.ClassFile.FieldType.int)]
set_option maxRecDepth 65536 in
theorem codes_eq : words1.filter isCode = codes1 := rfl
theorem w_codes : ∀ c ∈ words1.filter isCode, c.before args0 about1 = true := by
  rw [codes_eq]
  intro c hc
  simp only [codes1, List.mem_cons, List.not_mem_nil, or_false] at hc
  rcases hc with rfl | rfl | rfl | rfl | rfl
  · exact w_c0
  · exact w_c1
  · exact w_c2
  · exact w_c3
  · exact w_c4
set_option maxRecDepth 65536 in
theorem w_t1 : words1.all (fun c => isCode c || c.before args0 about1) = true := by decide +kernel
theorem w_tables : (allAtoms (Jvm.Cond.code x code maxLocals ret :: tables_1)).before args0 about1 = true := by
  rw [allAtoms_all]
  show words1.all (fun c => c.before args0 about1) = true
  refine all_split ?_ w_codes
  rw [w_t1]
set_option maxRecDepth 65536 in
theorem w_case : (Jvm.Cond.and given_1 narrow_1).before args0 about1 = true := by decide +kernel
theorem w_applies : (headSpec (Jvm.Cond.code x code maxLocals ret :: tables_1) room_1).applies x e0.platform about1 = true :=
  (Spec.applies_iff w_frames).mpr ⟨w_running, w_runnable, w_alone, w_named, w_hears, w_ripe, w_room, w_tables⟩
theorem atStart : AtStart classFile x code maxLocals ret World_1 tables_1 room_1 Calls_1 rest_1 Pre_1 launch0 p0 e0 about1 theMethod args0 below0 :=
  ⟨lists_1, trivial, launch0.admits_env _ _ _, launch0.least_env, fairChoices_fair.cas, fairChoices_fair.clock, w_frames, w_args, w_heap, w_applies, trivial, trivial, w_case⟩
end start1
theorem witness_1 : WitnessClaimed_1 := ⟨start1.p0, start1.e0, start1.about1, start1.theMethod, start1.args0, start1.below0, start1.atStart⟩
end Jvm.Pilot.@@N@@
