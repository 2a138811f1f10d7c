import JvmDerived
import JvmDerived.Pilot.@@N@@Statement
import JvmDerived.Pilot.@@N@@Code
set_option linter.unusedVariables false
set_option linter.unusedSimpArgs false

namespace Jvm.Pilot.@@N@@
open Jvm Jvm.ClassFile Sem Op Lib Jvm.Free Jvm.Stand Jvm.LawKit Jvm.RoadKit Bundle Jvm.Pilot.@@N@@.Jvm.D
/-- the run from A comes to a state of which P holds -/
def own_Go (tb : Tables) (e : Env) (below : List Frame) (P : State → Prop) (A : State) : Prop := ∃ U, Steps tb e below A U ∧ P U
theorem own_go {tb : Tables} {e : Env} {below : List Frame} {P : State → Prop} {A B : State} (h : ∀ t, Steps tb e below B t → Steps tb e below A t) (k : own_Go tb e below P B) : own_Go tb e below P A := by
  obtain ⟨U, h1, h2⟩ := k; exact ⟨U, h U h1, h2⟩
theorem own_goT {tb : Tables} {e : Env} {below : List Frame} {P : State → Prop} {A B : State} (h : Steps tb e below A B) (k : own_Go tb e below P B) : own_Go tb e below P A := by
  obtain ⟨U, h1, h2⟩ := k; exact ⟨U, h.trans h1, h2⟩
/-- the body's end: it returned, and Q says of what -/
def own_End (s : State) (below : List Frame) (Q : Option Value → Heap → List Loc → Prop) (cells slots : Nat) (t : State) : Prop := ∃ o, t.status = .running ∧ Ended t below o ∧ ∃ v L, o = .returned v ∧ Q v t.heap L ∧ FrameEnd s o t L cells slots
theorem own_body {tb : Tables} {e : Env} {below : List Frame} {s A : State} {Q : Option Value → Heap → List Loc → Prop} {cells slots : Nat} (k : own_Go tb e below (own_End s below Q cells slots) A) :
    ∃ s₂ o, Steps tb e below A s₂ ∧ s₂.status = .running ∧ Ended s₂ below o ∧ ∃ v L, o = .returned v ∧ Q v s₂.heap L ∧ FrameEnd s o s₂ L cells slots := by
  obtain ⟨U, h1, o, h2, h3, h4⟩ := k; exact ⟨U, o, h1, h2, h3, h4⟩
theorem own_ret {p : Program} {l : Launch} {e : Env} {R : Room} {s : State} {m : MethodId} {args : Array Value} {below : List Frame} {meth : Method} {c : Code} {T A : State} {locs : List Loc} {cells slots : Nat} {Q : Option Value → Heap → List Loc → Prop} {cs ss : Nat}
    (X : Stand p l e R s m args below meth c T locs cells slots) (hlk : meth.locks = false) {v : Option Value} (hv : meth.sig.returnType = none → v = none)
    (hst : ∀ fs : List Frame, (∀ (f : JFrame) (acts : List Action), f.method = m → f.locked = none → f.entered = [] → (doReturn e (T.setTop f) acts v).1 = T.setFrames fs) → Steps p.tables e below A (T.setFrames fs))
    (hQ : Q v T.heap locs) (hc : cells ≤ cs) (hs : slots ≤ ss) : own_Go p.tables e below (own_End s below Q cs ss) A := by
  obtain ⟨fs, hr, hrun, hended, hW, hsame⟩ := X.leave (v := v) hv hlk
  exact ⟨_, hst fs hr, _, hrun, hended, _, _, rfl, hQ, ⟨_, rfl⟩, hW, hsame.mono hc hs⟩
theorem own_ef (m : MethodId) (as : Array Value) (n : Nat) (Ls : Array Slot) (h : argsToLocals as n = Ls) : entryFrame m as n = mkF m 0 Ls [] := by rw [← h]; rfl
/-- a body's contract in this family -/
abbrev own_Met (l : Launch) (Z : State) (ws : List Jvm.Cond) (y : MethodName) (bytes : ByteArray) (maxL : Nat) (ret : Option FieldType) (rm : Room) (as : Array Value) (h0 : Heap) (Q : Option Value → Heap → List Loc → Prop) : Prop :=
  MetFree l y (head1 (Jvm.Cond.code y bytes maxL ret :: ws) rm) (fun a U => a = as ∧ Z.Warmed39 U.vm ∧ U.heap = h0) (fun _ _ _ _ _ => True) (fun _ U o U' => ∃ v L, o = .returned v ∧ Q v U'.heap L ∧ FrameEnd U o U' L rm.cells rm.slots)
theorem own_sta_keep {Z : State} {h h' : Heap} {C n d : String} {v : Value} {ws : List Addr} (F : Sta Z h C n d v) (K : Keep h h' ws) (q : ∀ a ∈ ws, ∃ C', Exa Z h a C') : Sta Z h' C n d v := by
  obtain ⟨cf, i, k, f, st, cell, h1, h2, h3, h4, h5, h6, h7⟩ := F
  refine ⟨cf, i, k, f, st, cell, h1, h2, h3, h4, K.2.1 st cell h5 fun hm => ?_, h6, h7⟩
  obtain ⟨C', cell', k', e1, -, -, e4, -⟩ := q st hm
  cases h5.symm.trans e1
  rw [e4] at h6; cases h6
theorem own_back {p : Program} {l : Launch} {e : Env} {R : Room} {s : State} {args : Array Value} {below : List Frame} {Z : State} {a0 : Array Value} {h : Heap} {y : MethodName} {bytes : ByteArray} {maxL : Nat} {ret : Option FieldType} {rm : Room} {len W : Nat} {as' : Array Value} {Q : Option Value → Heap → List Loc → Prop}
    (hM : own_Met l Z [] y bytes maxL ret rm as' h Q) (hZ : Z.Warmed39 s.vm) (wc : (Cond.code y bytes maxL ret).before a0 Z = true) (wz : (Cond.initialized y.cls).before a0 Z = true) (hf : rm.frames + 1 ≤ R.frames) (hl : W + (maxL + 11) + rm.locals ≤ R.locals) :
    Back l R p e below s args y len W (fun A a => a = as' ∧ A.U.heap = h ∧ A.cells + rm.cells ≤ R.cells ∧ A.slots + rm.slots ≤ R.slots)
      (fun A _ v B => ∃ L, Q v B.U.heap L ∧ B.locs = A.locs ++ L ∧ B.cells = A.cells + rm.cells ∧ B.slots = A.slots + rm.slots) :=
  backOf (Q := Q) hM hZ wc wz hf hl
theorem own_hp {T : State} {h : Heap} {a : Addr} {cl : Cell} (eT : T.heap = h) (h1 : h[a]? = some cl) : T.heap[a]? = some cl := by rw [eT]; exact h1
theorem own_d2_0 : decode prog_35_method_1_code 0 = .ok (.aload_n 0, 1) := by decide +kernel
theorem own_d2_1 : decode prog_35_method_1_code 1 = .ok (.invokespecial 1, 3) := by decide +kernel
theorem own_d2_4 : decode prog_35_method_1_code 4 = .ok (.aload_n 0, 1) := by decide +kernel
theorem own_d2_5 : decode prog_35_method_1_code 5 = .ok (.aload_n 1, 1) := by decide +kernel
theorem own_d2_6 : decode prog_35_method_1_code 6 = .ok (.putfield 7, 3) := by decide +kernel
theorem own_d2_9 : decode prog_35_method_1_code 9 = .ok (.aload_n 0, 1) := by decide +kernel
theorem own_d2_10 : decode prog_35_method_1_code 10 = .ok (.aload_n 2, 1) := by decide +kernel
theorem own_d2_11 : decode prog_35_method_1_code 11 = .ok (.putfield 13, 3) := by decide +kernel
theorem own_d2_14 : decode prog_35_method_1_code 14 = .ok (.aload_n 0, 1) := by decide +kernel
theorem own_d2_15 : decode prog_35_method_1_code 15 = .ok (.lload_n 3, 1) := by decide +kernel
theorem own_d2_16 : decode prog_35_method_1_code 16 = .ok (.putfield 17, 3) := by decide +kernel
theorem own_d2_19 : decode prog_35_method_1_code 19 = .ok (.return_, 1) := by decide +kernel
theorem own_pn0 : plainName "com/example/chartpost/chartpost/io/FileContent" = true := by first | (simp [plainName, overriddenIn]; done) | decide +kernel
set_option maxRecDepth 65536 in
set_option maxHeartbeats 40000000 in
theorem own_rmI (l : Launch) (Z : State) (a0 : Array Value) (hw : ∀ d ∈ tables_1, d.before a0 Z = true) (a1 : Addr) (a2 : Addr) (q4 : Int64) (h0 : Heap) (n0 : Nat) (Z0 : n0 ≤ h0.size) (E1 : Exa Z h0 a1 "com/example/chartpost/chartpost/io/FileContent") (F1 : Fld Z h0 a1 "com/example/chartpost/chartpost/io/FileContent" "bytes" "[B" .null) (F2 : Fld Z h0 a1 "com/example/chartpost/chartpost/io/FileContent" "file" "Ljava/nio/channels/FileChannel;" .null) (F3 : Fld Z h0 a1 "com/example/chartpost/chartpost/io/FileContent" "length" "J" (.long 0)) (ge_a1 : n0 ≤ a1) :
    own_Met l Z [] (⟨"com/example/chartpost/chartpost/io/FileContent", "<init>", "([BLjava/nio/channels/FileChannel;J)V"⟩ : MethodName) prog_35_method_1_code 5 none ({ frames := 1, cells := 0, slots := 0, locals := 12 } : Room) #[(.ref a1), (.ref a2), .null, (.long q4)] h0 (fun v h L => v = none ∧ Fr n0 L ∧ Keep h0 h [a1] ∧ Exa Z h a1 "com/example/chartpost/chartpost/io/FileContent" ∧ Fld Z h a1 "com/example/chartpost/chartpost/io/FileContent" "file" "Ljava/nio/channels/FileChannel;" .null ∧ Fld Z h a1 "com/example/chartpost/chartpost/io/FileContent" "length" "J" (.long q4)) := by
  refine MetFree.of_bodySF (plainFor_of_name own_pn0) hisR ?_
  intro p e s m args below meth c s₁ Bd hml0 hP hK
  obtain ⟨rfl, hZ, hh⟩ := hP
  have hx := Bd.exec
  have hby := Bd.bytes
  have hml : c.maxLocals = 5 := hml0
  have hown : s.vm.findClass "com/example/chartpost/chartpost/io/FileContent" = some m.cls := findClass_of_methodNamed Bd.named
  have hnm := (name_of_methodNamed Bd.named Bd.method).1
  have hlk : meth.locks = false := Bd.notSynchronized
  have X0 : Stand p l e ({ frames := 1, cells := 0, slots := 0, locals := 12 } : Room) s m #[(.ref a1), (.ref a2), .null, (.long q4)] below meth c s₁ [] 0 0 := Stand.of_body Bd
  have e0 : s₁.heap = h0 := by rw [← hh, Bd.state]; rfl
  have N0 := Fr.nil n0
  refine own_body (Q := fun v h L => v = none ∧ Fr n0 L ∧ Keep h0 h [a1] ∧ Exa Z h a1 "com/example/chartpost/chartpost/io/FileContent" ∧ Fld Z h a1 "com/example/chartpost/chartpost/io/FileContent" "file" "Ljava/nio/channels/FileChannel;" .null ∧ Fld Z h a1 "com/example/chartpost/chartpost/io/FileContent" "length" "J" (.long q4)) ?_
  refine own_go (fun t k => castTop (own_ef m #[(.ref a1), (.ref a2), .null, (.long q4)] 5 #[.val (.ref a1), .val (.ref a2), .val .null, .val (.long q4), .second] (by first | rfl | simp [argsToLocals, Value.category, maxLocals])) k) ?_
  show own_Go _ _ _ _ (s₁.setTop (mkF m 0 #[.val (.ref a1), .val (.ref a2), .val .null, .val (.long q4), .second] []))
  have K0 : Keep h0 h0 [a1] := Keep.refl _ _
  refine own_go (fun _ k => XS.aloadN X0.here hx rfl (hb hby own_d2_0) rfl rfl k) ?_
  show own_Go _ _ _ _ (s₁.setTop (mkF m 1 #[.val (.ref a1), .val (.ref a2), .val .null, .val (.long q4), .second] [(.ref a1)]))
  obtain ⟨T1, X1, e1, st1⟩ := initO X0 hx hZ hown (hw _ (List.mem_of_getElem? (i := 10) rfl)) (hw _ (List.mem_of_getElem? (i := 11) rfl)) (hw _ (List.mem_of_getElem? (i := 12) rfl)) e0 (g := (mkF m 1 #[.val (.ref a1), .val (.ref a2), .val .null, .val (.long q4), .second] [(.ref a1)])) rfl (by rw [hml]; rfl) rfl (hb hby own_d2_1) (by decide) (W := 0) (by show 2 * 0 + _ ≤ _; exact Nat.le_of_eq rfl) (by decide)
  refine own_go st1 ?_
  show own_Go _ _ _ _ (T1.setTop (mkF m 4 #[.val (.ref a1), .val (.ref a2), .val .null, .val (.long q4), .second] []))
  refine own_go (fun _ k => XS.aloadN X1.here hx rfl (hb hby own_d2_4) rfl rfl k) ?_
  show own_Go _ _ _ _ (T1.setTop (mkF m 5 #[.val (.ref a1), .val (.ref a2), .val .null, .val (.long q4), .second] [(.ref a1)]))
  refine own_go (fun _ k => XS.aloadN X1.here hx rfl (hb hby own_d2_5) rfl rfl k) ?_
  show own_Go _ _ _ _ (T1.setTop (mkF m 6 #[.val (.ref a1), .val (.ref a2), .val .null, .val (.long q4), .second] [(.ref a2), (.ref a1)]))
  obtain ⟨T2, h2, X2, e2, W2, st2⟩ := putF X1 hx hZ hown (host := "") (Or.inl (hw _ (List.mem_of_getElem? (i := 13) rfl))) Via.refl e1 F1 E1 (Or.inr ⟨(hw _ (List.mem_of_getElem? (i := 14) rfl)), rfl, hnm⟩) (hw _ (List.mem_of_getElem? (i := 6) rfl)) (ty := (.array .byte)) (by decide) rfl rfl (g := (mkF m 6 #[.val (.ref a1), .val (.ref a2), .val .null, .val (.long q4), .second] [(.ref a2), (.ref a1)])) rfl rfl (hb hby own_d2_6)
  refine own_go st2 ?_
  have NF2 := Fr.snoc X2 N0 ge_a1
  replace F1 := F1.same W2
  replace E1 := E1.wr W2
  replace F2 := F2.other W2 (Or.inr (slot_ne (Or.inr (hw _ (List.mem_of_getElem? (i := 16) rfl))) (Or.inr (hw _ (List.mem_of_getElem? (i := 14) rfl))) (by decide) (t := (.object "java/nio/channels/FileChannel")) (t' := (.array .byte)) (by decide) (by decide)))
  replace F3 := F3.other W2 (Or.inr (slot_ne (Or.inr (hw _ (List.mem_of_getElem? (i := 18) rfl))) (Or.inr (hw _ (List.mem_of_getElem? (i := 14) rfl))) (by decide) (t := .long) (t' := (.array .byte)) (by decide) (by decide)))
  replace Z0 := Nat.le_trans Z0 (Keep.of_wr W2).1
  replace K0 := K0.wr W2 (Or.inl (List.mem_of_getElem? (i := 0) rfl))
  show own_Go _ _ _ _ (T2.setTop (mkF m 9 #[.val (.ref a1), .val (.ref a2), .val .null, .val (.long q4), .second] []))
  refine own_go (fun _ k => XS.aloadN X2.here hx rfl (hb hby own_d2_9) rfl rfl k) ?_
  show own_Go _ _ _ _ (T2.setTop (mkF m 10 #[.val (.ref a1), .val (.ref a2), .val .null, .val (.long q4), .second] [(.ref a1)]))
  refine own_go (fun _ k => XS.aloadN X2.here hx rfl (hb hby own_d2_10) rfl rfl k) ?_
  show own_Go _ _ _ _ (T2.setTop (mkF m 11 #[.val (.ref a1), .val (.ref a2), .val .null, .val (.long q4), .second] [.null, (.ref a1)]))
  obtain ⟨T3, h3, X3, e3, W3, st3⟩ := putF X2 hx hZ hown (host := "") (Or.inl (hw _ (List.mem_of_getElem? (i := 15) rfl))) Via.refl e2 F2 E1 (Or.inr ⟨(hw _ (List.mem_of_getElem? (i := 16) rfl)), rfl, hnm⟩) (hw _ (List.mem_of_getElem? (i := 6) rfl)) (ty := (.object "java/nio/channels/FileChannel")) (by decide) rfl rfl (g := (mkF m 11 #[.val (.ref a1), .val (.ref a2), .val .null, .val (.long q4), .second] [.null, (.ref a1)])) rfl rfl (hb hby own_d2_11)
  refine own_go st3 ?_
  have NF3 := Fr.snoc X3 NF2 ge_a1
  replace F2 := F2.same W3
  replace E1 := E1.wr W3
  replace F1 := F1.other W3 (Or.inr (slot_ne (Or.inr (hw _ (List.mem_of_getElem? (i := 14) rfl))) (Or.inr (hw _ (List.mem_of_getElem? (i := 16) rfl))) (by decide) (t := (.array .byte)) (t' := (.object "java/nio/channels/FileChannel")) (by decide) (by decide)))
  replace F3 := F3.other W3 (Or.inr (slot_ne (Or.inr (hw _ (List.mem_of_getElem? (i := 18) rfl))) (Or.inr (hw _ (List.mem_of_getElem? (i := 16) rfl))) (by decide) (t := .long) (t' := (.object "java/nio/channels/FileChannel")) (by decide) (by decide)))
  replace Z0 := Nat.le_trans Z0 (Keep.of_wr W3).1
  replace K0 := K0.wr W3 (Or.inl (List.mem_of_getElem? (i := 0) rfl))
  show own_Go _ _ _ _ (T3.setTop (mkF m 14 #[.val (.ref a1), .val (.ref a2), .val .null, .val (.long q4), .second] []))
  refine own_go (fun _ k => XS.aloadN X3.here hx rfl (hb hby own_d2_14) rfl rfl k) ?_
  show own_Go _ _ _ _ (T3.setTop (mkF m 15 #[.val (.ref a1), .val (.ref a2), .val .null, .val (.long q4), .second] [(.ref a1)]))
  refine own_go (fun _ k => XS.lloadN X3.here hx rfl (hb hby own_d2_15) rfl k) ?_
  show own_Go _ _ _ _ (T3.setTop (mkF m 16 #[.val (.ref a1), .val (.ref a2), .val .null, .val (.long q4), .second] [(.long q4), (.ref a1)]))
  obtain ⟨T4, h4, X4, e4, W4, st4⟩ := putF X3 hx hZ hown (host := "") (Or.inl (hw _ (List.mem_of_getElem? (i := 17) rfl))) Via.refl e3 F3 E1 (Or.inr ⟨(hw _ (List.mem_of_getElem? (i := 18) rfl)), rfl, hnm⟩) (hw _ (List.mem_of_getElem? (i := 6) rfl)) (ty := .long) (by decide) rfl rfl (g := (mkF m 16 #[.val (.ref a1), .val (.ref a2), .val .null, .val (.long q4), .second] [(.long q4), (.ref a1)])) rfl rfl (hb hby own_d2_16)
  refine own_go st4 ?_
  have NF4 := Fr.snoc X4 NF3 ge_a1
  replace F3 := F3.same W4
  replace E1 := E1.wr W4
  replace F1 := F1.other W4 (Or.inr (slot_ne (Or.inr (hw _ (List.mem_of_getElem? (i := 14) rfl))) (Or.inr (hw _ (List.mem_of_getElem? (i := 18) rfl))) (by decide) (t := (.array .byte)) (t' := .long) (by decide) (by decide)))
  replace F2 := F2.other W4 (Or.inr (slot_ne (Or.inr (hw _ (List.mem_of_getElem? (i := 16) rfl))) (Or.inr (hw _ (List.mem_of_getElem? (i := 18) rfl))) (by decide) (t := (.object "java/nio/channels/FileChannel")) (t' := .long) (by decide) (by decide)))
  replace Z0 := Nat.le_trans Z0 (Keep.of_wr W4).1
  replace K0 := K0.wr W4 (Or.inl (List.mem_of_getElem? (i := 0) rfl))
  show own_Go _ _ _ _ (T4.setTop (mkF m 19 #[.val (.ref a1), .val (.ref a2), .val .null, .val (.long q4), .second] []))
  refine own_ret X4 hlk (v := none) (fun _ => rfl) (fun fs hr => X4.returnOut hx Bd.returns (hb hby own_d2_19) hr) ?_ (by decide) (by decide)
  try rw [e4]
  exact ⟨rfl, NF4, K0, E1, F2, F3⟩
theorem own_d1_0 : decode prog_35_method_2_code 0 = .ok (.new 8, 3) := by decide +kernel
theorem own_d1_3 : decode prog_35_method_2_code 3 = .ok (.dup, 1) := by decide +kernel
theorem own_d1_4 : decode prog_35_method_2_code 4 = .ok (.aload_n 0, 1) := by decide +kernel
theorem own_d1_5 : decode prog_35_method_2_code 5 = .ok (.aconst_null, 1) := by decide +kernel
theorem own_d1_6 : decode prog_35_method_2_code 6 = .ok (.aload_n 0, 1) := by decide +kernel
theorem own_d1_7 : decode prog_35_method_2_code 7 = .ok (.arraylength, 1) := by decide +kernel
theorem own_d1_8 : decode prog_35_method_2_code 8 = .ok (.i2l, 1) := by decide +kernel
theorem own_d1_9 : decode prog_35_method_2_code 9 = .ok (.invokespecial 21, 3) := by decide +kernel
theorem own_d1_12 : decode prog_35_method_2_code 12 = .ok (.areturn, 1) := by decide +kernel
theorem own_pd0 : parseMethodDescriptor "([BLjava/nio/channels/FileChannel;J)V" = some ⟨[(.array .byte), (.object "java/nio/channels/FileChannel"), .long], none⟩ := by decide +kernel
set_option maxRecDepth 65536 in
set_option maxHeartbeats 40000000 in
theorem own_rmO (l : Launch) (Z : State) (a0 : Array Value) (hw : ∀ d ∈ tables_1, d.before a0 Z = true) (a1 : Addr) (k : ClassId) (z : Int32) (vs : List Value) (dv : Value) (h0 : Heap) (n0 : Nat) (Z0 : n0 ≤ h0.size) (V : Arv Z h0 a1 k .byte z vs dv) :
    own_Met l Z [] (⟨"com/example/chartpost/chartpost/io/FileContent", "of", "([B)Lcom/example/chartpost/chartpost/io/FileContent;"⟩ : MethodName) prog_35_method_2_code 1 (some (.object "com/example/chartpost/chartpost/io/FileContent")) ({ frames := 2, cells := 1, slots := 3, locals := 32 } : Room) #[(.ref a1)] h0 (fun v h L => ∃ b : Addr, v = some (.ref b) ∧ Fr n0 L ∧ Keep h0 h [] ∧ n0 ≤ b ∧ h0.size ≤ b ∧ Exa Z h b "com/example/chartpost/chartpost/io/FileContent" ∧ Fld Z h b "com/example/chartpost/chartpost/io/FileContent" "file" "Ljava/nio/channels/FileChannel;" .null ∧ Fld Z h b "com/example/chartpost/chartpost/io/FileContent" "length" "J" (.long z.toInt64)) := by
  refine MetFree.of_bodySF (plainFor_of_name own_pn0) hisR ?_
  intro p e s m args below meth c s₁ Bd hml0 hP hK
  obtain ⟨rfl, hZ, hh⟩ := hP
  have hx := Bd.exec
  have hby := Bd.bytes
  have hml : c.maxLocals = 1 := hml0
  have hown : s.vm.findClass "com/example/chartpost/chartpost/io/FileContent" = some m.cls := findClass_of_methodNamed Bd.named
  have hnm := (name_of_methodNamed Bd.named Bd.method).1
  have hlk : meth.locks = false := Bd.notSynchronized
  have X0 : Stand p l e ({ frames := 2, cells := 1, slots := 3, locals := 32 } : Room) s m #[(.ref a1)] below meth c s₁ [] 0 0 := Stand.of_body Bd
  have e0 : s₁.heap = h0 := by rw [← hh, Bd.state]; rfl
  have N0 := Fr.nil n0
  refine own_body (Q := fun v h L => ∃ b : Addr, v = some (.ref b) ∧ Fr n0 L ∧ Keep h0 h [] ∧ n0 ≤ b ∧ h0.size ≤ b ∧ Exa Z h b "com/example/chartpost/chartpost/io/FileContent" ∧ Fld Z h b "com/example/chartpost/chartpost/io/FileContent" "file" "Ljava/nio/channels/FileChannel;" .null ∧ Fld Z h b "com/example/chartpost/chartpost/io/FileContent" "length" "J" (.long z.toInt64)) ?_
  refine own_go (fun t k => castTop (own_ef m #[(.ref a1)] 1 #[.val (.ref a1)] (by first | rfl | simp [argsToLocals, Value.category, maxLocals])) k) ?_
  show own_Go _ _ _ _ (s₁.setTop (mkF m 0 #[.val (.ref a1)] []))
  have K0 : Keep h0 h0 [] := Keep.refl _ _
  obtain ⟨T1, h1, X1, e1, E1, A1, D1, -, st1⟩ := newO X0 hx hZ hown (hw _ (List.mem_of_getElem? (i := 5) rfl)) (hw _ (List.mem_of_getElem? (i := 6) rfl)) (hw _ (List.mem_of_getElem? (i := 3) rfl)) e0 (g := (mkF m 0 #[.val (.ref a1)] [])) rfl (hb hby own_d1_0) (by decide) (by decide)
  obtain ⟨b1, g1⟩ : ∃ z, z = h0.size := ⟨_, rfl⟩
  rw [← g1] at A1 D1 st1
  refine own_go st1 ?_
  have ge_b1 : n0 ≤ b1 := Nat.le_trans Z0 (Nat.le_of_eq g1.symm)
  have ne_a1_b1 : a1 ≠ b1 := Nat.ne_of_lt (Nat.lt_of_lt_of_le V.lt (Nat.le_of_eq g1.symm))
  have sz_b1 : h0.size ≤ b1 := Nat.le_trans K0.1 (Nat.le_of_eq g1.symm)
  replace V := V.ext E1
  replace Z0 := Nat.le_trans Z0 E1.1
  replace K0 := K0.ext E1
  have F_bytes_b1 : Fld Z h1 b1 "com/example/chartpost/chartpost/io/FileContent" "bytes" "[B" .null := D1 (Or.inr (hw _ (List.mem_of_getElem? (i := 14) rfl))) (ty := (.array .byte)) (by decide)
  have F_file_b1 : Fld Z h1 b1 "com/example/chartpost/chartpost/io/FileContent" "file" "Ljava/nio/channels/FileChannel;" .null := D1 (Or.inr (hw _ (List.mem_of_getElem? (i := 16) rfl))) (ty := (.object "java/nio/channels/FileChannel")) (by decide)
  have F_length_b1 : Fld Z h1 b1 "com/example/chartpost/chartpost/io/FileContent" "length" "J" (.long (0 : Int64)) := D1 (Or.inr (hw _ (List.mem_of_getElem? (i := 18) rfl))) (ty := .long) (by decide)
  show own_Go _ _ _ _ (T1.setTop (mkF m 3 #[.val (.ref a1)] [(.ref b1)]))
  refine own_go (fun _ k => XS.dup X1.here hx rfl (hb hby own_d1_3) rfl rfl k) ?_
  show own_Go _ _ _ _ (T1.setTop (mkF m 4 #[.val (.ref a1)] [(.ref b1), (.ref b1)]))
  refine own_go (fun _ k => XS.aloadN X1.here hx rfl (hb hby own_d1_4) rfl rfl k) ?_
  show own_Go _ _ _ _ (T1.setTop (mkF m 5 #[.val (.ref a1)] [(.ref a1), (.ref b1), (.ref b1)]))
  refine own_go (fun _ k => XS.aconstNull X1.here hx rfl (hb hby own_d1_5) k) ?_
  show own_Go _ _ _ _ (T1.setTop (mkF m 6 #[.val (.ref a1)] [.null, (.ref a1), (.ref b1), (.ref b1)]))
  refine own_go (fun _ k => XS.aloadN X1.here hx rfl (hb hby own_d1_6) rfl rfl k) ?_
  show own_Go _ _ _ _ (T1.setTop (mkF m 7 #[.val (.ref a1)] [(.ref a1), .null, (.ref a1), (.ref b1), (.ref b1)]))
  obtain ⟨cl2, Ar2, -, Sz2, Ng2, -, -⟩ := id V
  refine own_go (X1.arraylength hx (own_hp e1 Ar2.1) (State.isArrayOf_alike hZ.alike Ar2.2.1) (g := (mkF m 7 #[.val (.ref a1)] [(.ref a1), .null, (.ref a1), (.ref b1), (.ref b1)])) rfl rfl (hb hby own_d1_7)) ?_
  rw [len_of Sz2 Ng2]
  show own_Go _ _ _ _ (T1.setTop (mkF m 8 #[.val (.ref a1)] [(.int z), .null, (.ref a1), (.ref b1), (.ref b1)]))
  refine own_go (fun _ k => XS.i2l X1.here hx rfl (hb hby own_d1_8) rfl k) ?_
  show own_Go _ _ _ _ (T1.setTop (mkF m 9 #[.val (.ref a1)] [(.long (z.toInt64)), .null, (.ref a1), (.ref b1), (.ref b1)]))
  obtain ⟨_, _, ⟨T3, L3, k3, n3⟩, -, X3, ⟨Lc3, hQ3, l3, y3, z3⟩, st3⟩ := X1.specialBack hx (y := (⟨"com/example/chartpost/chartpost/io/FileContent", "<init>", "([BLjava/nio/channels/FileChannel;J)V"⟩ : MethodName)) rfl hown (mvT hZ (hw _ (List.mem_of_getElem? (i := 7) rfl))) (mvT hZ (hw _ (List.mem_of_getElem? (i := 8) rfl))) (mvT hZ (hw _ (List.mem_of_getElem? (i := 9) rfl))) (by decide) (own_back (W := 1) (own_rmI l Z a0 hw b1 a1 (z.toInt64) h1 n0 Z0 A1 F_bytes_b1 F_file_b1 F_length_b1 ge_b1) hZ (hw _ (List.mem_of_getElem? (i := 9) rfl)) (hw _ (List.mem_of_getElem? (i := 3) rfl)) (by decide) (by decide)) (g := (mkF m 9 #[.val (.ref a1)] [(.long (z.toInt64)), .null, (.ref a1), (.ref b1), (.ref b1)])) rfl (by rw [hml]; rfl) (Steps.refl _) (a := b1) (argsL := [(.ref a1), .null, (.long (z.toInt64))]) (rest := [(.ref b1)]) (lenOf own_pd0 rfl) rfl (by show 2 * 0 + _ ≤ _; exact Nat.le_of_eq rfl) (hb hby own_d1_9) (fun _ _ => ⟨rfl, e1, (by decide : 1 + 0 ≤ _), (by decide : 3 + 0 ≤ _)⟩)
  dsimp only [Pt.U, Pt.locs, Pt.cells, Pt.slots] at X3 l3 y3 z3 st3 hQ3
  subst l3 y3 z3
  obtain ⟨rfl, Nq3, K3, Ex3, Ff3, Fl3⟩ := hQ3
  have NF3 := Fr.app N0 Nq3
  refine own_goT st3 ?_
  replace V := V.keep K3 (ninS ne_a1_b1 nin0)
  replace A1 := A1.keep K3
  replace Z0 := Nat.le_trans Z0 K3.1
  replace K0 := K0.trans K3 (allS (Or.inr sz_b1) all0)
  show own_Go _ _ _ _ (T3.setTop (mkF m 12 #[.val (.ref a1)] [(.ref b1)]))
  refine own_ret X3 hlk (v := some (.ref b1)) (fun h => by rw [Bd.returns] at h; cases h) (fun fs hr => retOut X3 hx Bd.returns rfl (Or.inr (Or.inr (Or.inr (Or.inr ⟨rfl, rfl, rfl⟩)))) (hb hby own_d1_12) hr) ?_ (by decide) (by decide)
  skip
  exact ⟨b1, rfl, NF3, K0, ge_b1, sz_b1, A1, Ff3, Fl3⟩
theorem own_d4_0 : decode prog_35_method_4_code 0 = .ok (.aload_n 0, 1) := by decide +kernel
theorem own_d4_1 : decode prog_35_method_4_code 1 = .ok (.getfield 17, 3) := by decide +kernel
theorem own_d4_4 : decode prog_35_method_4_code 4 = .ok (.lreturn, 1) := by decide +kernel
set_option maxRecDepth 65536 in
set_option maxHeartbeats 40000000 in
theorem own_rmL (l : Launch) (Z : State) (a0 : Array Value) (hw : ∀ d ∈ tables_1, d.before a0 Z = true) (a1 : Addr) (q : Int64) (h0 : Heap) (n0 : Nat) (Z0 : n0 ≤ h0.size) (F3 : Fld Z h0 a1 "com/example/chartpost/chartpost/io/FileContent" "length" "J" (.long q)) :
    own_Met l Z [] (⟨"com/example/chartpost/chartpost/io/FileContent", "length", "()J"⟩ : MethodName) prog_35_method_4_code 1 (some .long) ({ frames := 0, cells := 0, slots := 0, locals := 0 } : Room) #[(.ref a1)] h0 (fun v h L => v = some (.long q) ∧ Fr n0 L ∧ h = h0) := by
  refine MetFree.of_bodySF (plainFor_of_name own_pn0) hisR ?_
  intro p e s m args below meth c s₁ Bd hml0 hP hK
  obtain ⟨rfl, hZ, hh⟩ := hP
  have hx := Bd.exec
  have hby := Bd.bytes
  have hml : c.maxLocals = 1 := hml0
  have hown : s.vm.findClass "com/example/chartpost/chartpost/io/FileContent" = some m.cls := findClass_of_methodNamed Bd.named
  have hnm := (name_of_methodNamed Bd.named Bd.method).1
  have hlk : meth.locks = false := Bd.notSynchronized
  have X0 : Stand p l e ({ frames := 0, cells := 0, slots := 0, locals := 0 } : Room) s m #[(.ref a1)] below meth c s₁ [] 0 0 := Stand.of_body Bd
  have e0 : s₁.heap = h0 := by rw [← hh, Bd.state]; rfl
  have N0 := Fr.nil n0
  refine own_body (Q := fun v h L => v = some (.long q) ∧ Fr n0 L ∧ h = h0) ?_
  refine own_go (fun t k => castTop (own_ef m #[(.ref a1)] 1 #[.val (.ref a1)] (by first | rfl | simp [argsToLocals, Value.category, maxLocals])) k) ?_
  show own_Go _ _ _ _ (s₁.setTop (mkF m 0 #[.val (.ref a1)] []))
  refine own_go (fun _ k => XS.aloadN X0.here hx rfl (hb hby own_d4_0) rfl rfl k) ?_
  show own_Go _ _ _ _ (s₁.setTop (mkF m 1 #[.val (.ref a1)] [(.ref a1)]))
  obtain ⟨T1, X1, e1, st1⟩ := getF X0 hx hZ hown (host := "") (Or.inl (hw _ (List.mem_of_getElem? (i := 17) rfl))) Via.refl e0 F3 (g := (mkF m 1 #[.val (.ref a1)] [(.ref a1)])) rfl rfl (hb hby own_d4_1)
  refine own_go st1 ?_
  show own_Go _ _ _ _ (T1.setTop (mkF m 4 #[.val (.ref a1)] [(.long q)]))
  refine own_ret X1 hlk (v := some (.long q)) (fun h => by rw [Bd.returns] at h; cases h) (fun fs hr => retOut X1 hx Bd.returns rfl (Or.inr (Or.inl ⟨rfl, rfl, _, rfl⟩)) (hb hby own_d4_4) hr) ?_ (by decide) (by decide)
  try rw [e1]
  exact ⟨rfl, N0, rfl⟩
theorem own_d5_0 : decode prog_35_method_7_code 0 = .ok (.aload_n 0, 1) := by decide +kernel
theorem own_d5_1 : decode prog_35_method_7_code 1 = .ok (.getfield 13, 3) := by decide +kernel
theorem own_d5_4 : decode prog_35_method_7_code 4 = .ok (.ifnull 10, 3) := by decide +kernel
theorem own_d5_7 : decode prog_35_method_7_code 7 = .ok (.aload_n 0, 1) := by decide +kernel
theorem own_d5_8 : decode prog_35_method_7_code 8 = .ok (.getfield 13, 3) := by decide +kernel
theorem own_d5_11 : decode prog_35_method_7_code 11 = .ok (.invokevirtual 84, 3) := by decide +kernel
theorem own_d5_14 : decode prog_35_method_7_code 14 = .ok (.return_, 1) := by decide +kernel
set_option maxRecDepth 65536 in
set_option maxHeartbeats 40000000 in
theorem own_rmC (l : Launch) (Z : State) (a0 : Array Value) (hw : ∀ d ∈ tables_1, d.before a0 Z = true) (a1 : Addr) (h0 : Heap) (n0 : Nat) (Z0 : n0 ≤ h0.size) (F2 : Fld Z h0 a1 "com/example/chartpost/chartpost/io/FileContent" "file" "Ljava/nio/channels/FileChannel;" .null) :
    own_Met l Z [] (⟨"com/example/chartpost/chartpost/io/FileContent", "close", "()V"⟩ : MethodName) prog_35_method_7_code 1 none ({ frames := 0, cells := 0, slots := 0, locals := 0 } : Room) #[(.ref a1)] h0 (fun v h L => v = none ∧ Fr n0 L ∧ h = h0) := by
  refine MetFree.of_bodySF (plainFor_of_name own_pn0) hisR ?_
  intro p e s m args below meth c s₁ Bd hml0 hP hK
  obtain ⟨rfl, hZ, hh⟩ := hP
  have hx := Bd.exec
  have hby := Bd.bytes
  have hml : c.maxLocals = 1 := hml0
  have hown : s.vm.findClass "com/example/chartpost/chartpost/io/FileContent" = some m.cls := findClass_of_methodNamed Bd.named
  have hnm := (name_of_methodNamed Bd.named Bd.method).1
  have hlk : meth.locks = false := Bd.notSynchronized
  have X0 : Stand p l e ({ frames := 0, cells := 0, slots := 0, locals := 0 } : Room) s m #[(.ref a1)] below meth c s₁ [] 0 0 := Stand.of_body Bd
  have e0 : s₁.heap = h0 := by rw [← hh, Bd.state]; rfl
  have N0 := Fr.nil n0
  refine own_body (Q := fun v h L => v = none ∧ Fr n0 L ∧ h = h0) ?_
  refine own_go (fun t k => castTop (own_ef m #[(.ref a1)] 1 #[.val (.ref a1)] (by first | rfl | simp [argsToLocals, Value.category, maxLocals])) k) ?_
  show own_Go _ _ _ _ (s₁.setTop (mkF m 0 #[.val (.ref a1)] []))
  refine own_go (fun _ k => XS.aloadN X0.here hx rfl (hb hby own_d5_0) rfl rfl k) ?_
  show own_Go _ _ _ _ (s₁.setTop (mkF m 1 #[.val (.ref a1)] [(.ref a1)]))
  obtain ⟨T1, X1, e1, st1⟩ := getF X0 hx hZ hown (host := "") (Or.inl (hw _ (List.mem_of_getElem? (i := 15) rfl))) Via.refl e0 F2 (g := (mkF m 1 #[.val (.ref a1)] [(.ref a1)])) rfl rfl (hb hby own_d5_1)
  refine own_go st1 ?_
  show own_Go _ _ _ _ (T1.setTop (mkF m 4 #[.val (.ref a1)] [.null]))
  refine own_go (fun _ k => XS.ifnullYes X1.here hx rfl (pc0 := 4) (pc' := 14) rfl (hb hby own_d5_4) rfl (by decide) (by decide) k) ?_
  show own_Go _ _ _ _ (T1.setTop (mkF m 14 #[.val (.ref a1)] []))
  refine own_ret X1 hlk (v := none) (fun _ => rfl) (fun fs hr => X1.returnOut hx Bd.returns (hb hby own_d5_14) hr) ?_ (by decide) (by decide)
  try rw [e1]
  exact ⟨rfl, N0, rfl⟩
theorem own_pn1 : plainName "com/example/chartpost/chartpost/io/FileContentOfPinLaw" = true := by first | (simp [plainName, overriddenIn]; done) | decide +kernel
theorem own_pd1 : parseMethodDescriptor "([B)Lcom/example/chartpost/chartpost/io/FileContent;" = some ⟨[(.array .byte)], some (.object "com/example/chartpost/chartpost/io/FileContent")⟩ := by decide +kernel
theorem own_pd2 : parseMethodDescriptor "()J" = some ⟨[], some .long⟩ := by decide +kernel
theorem own_pd3 : parseMethodDescriptor "()V" = some ⟨[], none⟩ := by decide +kernel
set_option maxRecDepth 65536 in
set_option maxHeartbeats 40000000 in
theorem own_rm0 (l : Launch) (Z : State) (a0 : Array Value) (hw : ∀ d ∈ tables_1, d.before a0 Z = true) (p1 : Int32) (p2 : Int32) (p3 : Int32) (h0 : Heap) (n0 : Nat) (Z0 : n0 ≤ h0.size)  :
    own_Met l Z tables_1 x code maxLocals ret room_1 #[(.int p1), (.int p2), (.int p3)] h0 (fun v h L => v = some (.int 1) ∧ Fr n0 L) := by
  refine MetFree.of_bodySF (plainFor_of_name own_pn1) hisR ?_
  intro p e s m args below meth c s₁ Bd hml0 hP hK
  obtain ⟨rfl, hZ, hh⟩ := hP
  have hx := Bd.exec
  have hby := Bd.bytes
  have hml : c.maxLocals = 16 := hml0
  have hown : s.vm.findClass "com/example/chartpost/chartpost/io/FileContentOfPinLaw" = some m.cls := findClass_of_methodNamed Bd.named
  have hnm := (name_of_methodNamed Bd.named Bd.method).1
  have hlk : meth.locks = false := Bd.notSynchronized
  have X0 : Stand p l e room_1 s m #[(.int p1), (.int p2), (.int p3)] below meth c s₁ [] 0 0 := Stand.of_body Bd
  have e0 : s₁.heap = h0 := by rw [← hh, Bd.state]; rfl
  have N0 := Fr.nil n0
  refine own_body (Q := fun v h L => v = some (.int 1) ∧ Fr n0 L) ?_
  refine own_go (fun t k => castTop (own_ef m #[(.int p1), (.int p2), (.int p3)] maxLocals #[.val (.int p1), .val (.int p2), .val (.int p3), .unset, .unset, .unset, .unset, .unset, .unset, .unset, .unset, .unset, .unset, .unset, .unset, .unset] (by first | rfl | simp [argsToLocals, Value.category, maxLocals])) k) ?_
  show own_Go _ _ _ _ (s₁.setTop (mkF m 0 #[.val (.int p1), .val (.int p2), .val (.int p3), .unset, .unset, .unset, .unset, .unset, .unset, .unset, .unset, .unset, .unset, .unset, .unset, .unset] []))
  have K0 : Keep h0 h0 [] := Keep.refl _ _
  refine own_go (fun _ k => XS.iloadN X0.here hx rfl (hb hby at_0) rfl k) ?_
  show own_Go _ _ _ _ (s₁.setTop (mkF m 1 #[.val (.int p1), .val (.int p2), .val (.int p3), .unset, .unset, .unset, .unset, .unset, .unset, .unset, .unset, .unset, .unset, .unset, .unset, .unset] [(.int p1)]))
  refine own_go (fun _ k => XS.iconst X0.here hx rfl (hb hby at_1) k) ?_
  show own_Go _ _ _ _ (s₁.setTop (mkF m 2 #[.val (.int p1), .val (.int p2), .val (.int p3), .unset, .unset, .unset, .unset, .unset, .unset, .unset, .unset, .unset, .unset, .unset, .unset, .unset] [(.int (3 : Int32)), (.int p1)]))
  refine own_go (fun _ k => XS.iand X0.here hx rfl (hb hby at_2) rfl k) ?_
  show own_Go _ _ _ _ (s₁.setTop (mkF m 3 #[.val (.int p1), .val (.int p2), .val (.int p3), .unset, .unset, .unset, .unset, .unset, .unset, .unset, .unset, .unset, .unset, .unset, .unset, .unset] [(.int (p1 &&& (3 : Int32)))]))
  refine own_go (fun _ k => XS.istoreN X0.here hx rfl (hb hby at_3) rfl (l' := #[.val (.int p1), .val (.int p2), .val (.int p3), .val (.int (p1 &&& (3 : Int32))), .unset, .unset, .unset, .unset, .unset, .unset, .unset, .unset, .unset, .unset, .unset, .unset]) rfl k) ?_
  show own_Go _ _ _ _ (s₁.setTop (mkF m 4 #[.val (.int p1), .val (.int p2), .val (.int p3), .val (.int (p1 &&& (3 : Int32))), .unset, .unset, .unset, .unset, .unset, .unset, .unset, .unset, .unset, .unset, .unset, .unset] []))
  refine own_go (fun _ k => XS.iconst X0.here hx rfl (hb hby at_4) k) ?_
  show own_Go _ _ _ _ (s₁.setTop (mkF m 5 #[.val (.int p1), .val (.int p2), .val (.int p3), .val (.int (p1 &&& (3 : Int32))), .unset, .unset, .unset, .unset, .unset, .unset, .unset, .unset, .unset, .unset, .unset, .unset] [(.int (0 : Int32))]))
  obtain ⟨T1, h1, k1, X1, e1, E1, A1, st1⟩ := newP X0 hx hZ (hw _ (List.mem_of_getElem? (i := 0) rfl)) e0 (g := (mkF m 5 #[.val (.int p1), .val (.int p2), .val (.int p3), .val (.int (p1 &&& (3 : Int32))), .unset, .unset, .unset, .unset, .unset, .unset, .unset, .unset, .unset, .unset, .unset, .unset] [(.int (0 : Int32))])) rfl (hb hby at_5) rfl (by decide) (cap := 0) (by decide) (by decide) (by decide) (by decide)
  obtain ⟨b1, g1⟩ : ∃ z, z = h0.size := ⟨_, rfl⟩
  rw [← g1] at A1 st1
  refine own_go st1 ?_
  have ge_b1 : n0 ≤ b1 := Nat.le_trans Z0 (Nat.le_of_eq g1.symm)
  have sz_b1 : h0.size ≤ b1 := Nat.le_trans K0.1 (Nat.le_of_eq g1.symm)
  replace Z0 := Nat.le_trans Z0 E1.1
  replace K0 := K0.ext E1
  have V_b1 : Arv Z h1 b1 k1 .byte (0 : Int32) [] (.int (0 : Int32)) := Arv.new A1 (by decide)
  show own_Go _ _ _ _ (T1.setTop (mkF m 7 #[.val (.int p1), .val (.int p2), .val (.int p3), .val (.int (p1 &&& (3 : Int32))), .unset, .unset, .unset, .unset, .unset, .unset, .unset, .unset, .unset, .unset, .unset, .unset] [(.ref b1)]))
  refine own_go (fun _ k => XS.astore X1.here hx rfl (hb hby at_7) rfl rfl (l' := #[.val (.int p1), .val (.int p2), .val (.int p3), .val (.int (p1 &&& (3 : Int32))), .val (.ref b1), .unset, .unset, .unset, .unset, .unset, .unset, .unset, .unset, .unset, .unset, .unset]) rfl k) ?_
  show own_Go _ _ _ _ (T1.setTop (mkF m 9 #[.val (.int p1), .val (.int p2), .val (.int p3), .val (.int (p1 &&& (3 : Int32))), .val (.ref b1), .unset, .unset, .unset, .unset, .unset, .unset, .unset, .unset, .unset, .unset, .unset] []))
  refine own_go (fun _ k => XS.iconst X1.here hx rfl (hb hby at_9) k) ?_
  show own_Go _ _ _ _ (T1.setTop (mkF m 10 #[.val (.int p1), .val (.int p2), .val (.int p3), .val (.int (p1 &&& (3 : Int32))), .val (.ref b1), .unset, .unset, .unset, .unset, .unset, .unset, .unset, .unset, .unset, .unset, .unset] [(.int (1 : Int32))]))
  obtain ⟨T2, h2, k2, X2, e2, E2, A2, st2⟩ := newP X1 hx hZ (hw _ (List.mem_of_getElem? (i := 0) rfl)) e1 (g := (mkF m 10 #[.val (.int p1), .val (.int p2), .val (.int p3), .val (.int (p1 &&& (3 : Int32))), .val (.ref b1), .unset, .unset, .unset, .unset, .unset, .unset, .unset, .unset, .unset, .unset, .unset] [(.int (1 : Int32))])) rfl (hb hby at_10) rfl (by decide) (cap := 1) (by decide) (by decide) (by decide) (by decide)
  obtain ⟨b2, g2⟩ : ∃ z, z = h1.size := ⟨_, rfl⟩
  rw [← g2] at A2 st2
  refine own_go st2 ?_
  have ge_b2 : n0 ≤ b2 := Nat.le_trans Z0 (Nat.le_of_eq g2.symm)
  have ne_b1_b2 : b1 ≠ b2 := Nat.ne_of_lt (Nat.lt_of_lt_of_le V_b1.lt (Nat.le_of_eq g2.symm))
  have sz_b2 : h0.size ≤ b2 := Nat.le_trans K0.1 (Nat.le_of_eq g2.symm)
  replace V_b1 := V_b1.ext E2
  replace Z0 := Nat.le_trans Z0 E2.1
  replace K0 := K0.ext E2
  have V_b2 : Arv Z h2 b2 k2 .byte (1 : Int32) [(.int (0 : Int32))] (.int (0 : Int32)) := (Arv.new A2 (by decide)).pad (pad_rep [] (.int (0 : Int32)) 1)
  show own_Go _ _ _ _ (T2.setTop (mkF m 12 #[.val (.int p1), .val (.int p2), .val (.int p3), .val (.int (p1 &&& (3 : Int32))), .val (.ref b1), .unset, .unset, .unset, .unset, .unset, .unset, .unset, .unset, .unset, .unset, .unset] [(.ref b2)]))
  refine own_go (fun _ k => XS.astore X2.here hx rfl (hb hby at_12) rfl rfl (l' := #[.val (.int p1), .val (.int p2), .val (.int p3), .val (.int (p1 &&& (3 : Int32))), .val (.ref b1), .val (.ref b2), .unset, .unset, .unset, .unset, .unset, .unset, .unset, .unset, .unset, .unset]) rfl k) ?_
  show own_Go _ _ _ _ (T2.setTop (mkF m 14 #[.val (.int p1), .val (.int p2), .val (.int p3), .val (.int (p1 &&& (3 : Int32))), .val (.ref b1), .val (.ref b2), .unset, .unset, .unset, .unset, .unset, .unset, .unset, .unset, .unset, .unset] []))
  refine own_go (fun _ k => XS.iconst X2.here hx rfl (hb hby at_14) k) ?_
  show own_Go _ _ _ _ (T2.setTop (mkF m 15 #[.val (.int p1), .val (.int p2), .val (.int p3), .val (.int (p1 &&& (3 : Int32))), .val (.ref b1), .val (.ref b2), .unset, .unset, .unset, .unset, .unset, .unset, .unset, .unset, .unset, .unset] [(.int (3 : Int32))]))
  obtain ⟨T3, h3, k3, X3, e3, E3, A3, st3⟩ := newP X2 hx hZ (hw _ (List.mem_of_getElem? (i := 0) rfl)) e2 (g := (mkF m 15 #[.val (.int p1), .val (.int p2), .val (.int p3), .val (.int (p1 &&& (3 : Int32))), .val (.ref b1), .val (.ref b2), .unset, .unset, .unset, .unset, .unset, .unset, .unset, .unset, .unset, .unset] [(.int (3 : Int32))])) rfl (hb hby at_15) rfl (by decide) (cap := 3) (by decide) (by decide) (by decide) (by decide)
  obtain ⟨b3, g3⟩ : ∃ z, z = h2.size := ⟨_, rfl⟩
  rw [← g3] at A3 st3
  refine own_go st3 ?_
  have ge_b3 : n0 ≤ b3 := Nat.le_trans Z0 (Nat.le_of_eq g3.symm)
  have ne_b1_b3 : b1 ≠ b3 := Nat.ne_of_lt (Nat.lt_of_lt_of_le V_b1.lt (Nat.le_of_eq g3.symm))
  have ne_b2_b3 : b2 ≠ b3 := Nat.ne_of_lt (Nat.lt_of_lt_of_le V_b2.lt (Nat.le_of_eq g3.symm))
  have sz_b3 : h0.size ≤ b3 := Nat.le_trans K0.1 (Nat.le_of_eq g3.symm)
  replace V_b1 := V_b1.ext E3
  replace V_b2 := V_b2.ext E3
  replace Z0 := Nat.le_trans Z0 E3.1
  replace K0 := K0.ext E3
  have V_b3 : Arv Z h3 b3 k3 .byte (3 : Int32) [(.int (0 : Int32)), (.int (0 : Int32)), (.int (0 : Int32))] (.int (0 : Int32)) := (Arv.new A3 (by decide)).pad (pad_rep [] (.int (0 : Int32)) 3)
  show own_Go _ _ _ _ (T3.setTop (mkF m 17 #[.val (.int p1), .val (.int p2), .val (.int p3), .val (.int (p1 &&& (3 : Int32))), .val (.ref b1), .val (.ref b2), .unset, .unset, .unset, .unset, .unset, .unset, .unset, .unset, .unset, .unset] [(.ref b3)]))
  refine own_go (fun _ k => XS.astore X3.here hx rfl (hb hby at_17) rfl rfl (l' := #[.val (.int p1), .val (.int p2), .val (.int p3), .val (.int (p1 &&& (3 : Int32))), .val (.ref b1), .val (.ref b2), .val (.ref b3), .unset, .unset, .unset, .unset, .unset, .unset, .unset, .unset, .unset]) rfl k) ?_
  show own_Go _ _ _ _ (T3.setTop (mkF m 19 #[.val (.int p1), .val (.int p2), .val (.int p3), .val (.int (p1 &&& (3 : Int32))), .val (.ref b1), .val (.ref b2), .val (.ref b3), .unset, .unset, .unset, .unset, .unset, .unset, .unset, .unset, .unset] []))
  refine own_go (fun _ k => XS.bipush X3.here hx rfl (hb hby at_19) k) ?_
  show own_Go _ _ _ _ (T3.setTop (mkF m 21 #[.val (.int p1), .val (.int p2), .val (.int p3), .val (.int (p1 &&& (3 : Int32))), .val (.ref b1), .val (.ref b2), .val (.ref b3), .unset, .unset, .unset, .unset, .unset, .unset, .unset, .unset, .unset] [(.int (8 : Int32))]))
  obtain ⟨T4, h4, k4, X4, e4, E4, A4, st4⟩ := newP X3 hx hZ (hw _ (List.mem_of_getElem? (i := 0) rfl)) e3 (g := (mkF m 21 #[.val (.int p1), .val (.int p2), .val (.int p3), .val (.int (p1 &&& (3 : Int32))), .val (.ref b1), .val (.ref b2), .val (.ref b3), .unset, .unset, .unset, .unset, .unset, .unset, .unset, .unset, .unset] [(.int (8 : Int32))])) rfl (hb hby at_21) rfl (by decide) (cap := 8) (by decide) (by decide) (by decide) (by decide)
  obtain ⟨b4, g4⟩ : ∃ z, z = h3.size := ⟨_, rfl⟩
  rw [← g4] at A4 st4
  refine own_go st4 ?_
  have ge_b4 : n0 ≤ b4 := Nat.le_trans Z0 (Nat.le_of_eq g4.symm)
  have ne_b1_b4 : b1 ≠ b4 := Nat.ne_of_lt (Nat.lt_of_lt_of_le V_b1.lt (Nat.le_of_eq g4.symm))
  have ne_b2_b4 : b2 ≠ b4 := Nat.ne_of_lt (Nat.lt_of_lt_of_le V_b2.lt (Nat.le_of_eq g4.symm))
  have ne_b3_b4 : b3 ≠ b4 := Nat.ne_of_lt (Nat.lt_of_lt_of_le V_b3.lt (Nat.le_of_eq g4.symm))
  have sz_b4 : h0.size ≤ b4 := Nat.le_trans K0.1 (Nat.le_of_eq g4.symm)
  replace V_b1 := V_b1.ext E4
  replace V_b2 := V_b2.ext E4
  replace V_b3 := V_b3.ext E4
  replace Z0 := Nat.le_trans Z0 E4.1
  replace K0 := K0.ext E4
  have V_b4 : Arv Z h4 b4 k4 .byte (8 : Int32) [(.int (0 : Int32)), (.int (0 : Int32)), (.int (0 : Int32)), (.int (0 : Int32)), (.int (0 : Int32)), (.int (0 : Int32)), (.int (0 : Int32)), (.int (0 : Int32))] (.int (0 : Int32)) := (Arv.new A4 (by decide)).pad (pad_rep [] (.int (0 : Int32)) 8)
  show own_Go _ _ _ _ (T4.setTop (mkF m 23 #[.val (.int p1), .val (.int p2), .val (.int p3), .val (.int (p1 &&& (3 : Int32))), .val (.ref b1), .val (.ref b2), .val (.ref b3), .unset, .unset, .unset, .unset, .unset, .unset, .unset, .unset, .unset] [(.ref b4)]))
  refine own_go (fun _ k => XS.astore X4.here hx rfl (hb hby at_23) rfl rfl (l' := #[.val (.int p1), .val (.int p2), .val (.int p3), .val (.int (p1 &&& (3 : Int32))), .val (.ref b1), .val (.ref b2), .val (.ref b3), .val (.ref b4), .unset, .unset, .unset, .unset, .unset, .unset, .unset, .unset]) rfl k) ?_
  show own_Go _ _ _ _ (T4.setTop (mkF m 25 #[.val (.int p1), .val (.int p2), .val (.int p3), .val (.int (p1 &&& (3 : Int32))), .val (.ref b1), .val (.ref b2), .val (.ref b3), .val (.ref b4), .unset, .unset, .unset, .unset, .unset, .unset, .unset, .unset] []))
  refine own_go (fun _ k => XS.aload X4.here hx rfl (hb hby at_25) rfl rfl k) ?_
  show own_Go _ _ _ _ (T4.setTop (mkF m 27 #[.val (.int p1), .val (.int p2), .val (.int p3), .val (.int (p1 &&& (3 : Int32))), .val (.ref b1), .val (.ref b2), .val (.ref b3), .val (.ref b4), .unset, .unset, .unset, .unset, .unset, .unset, .unset, .unset] [(.ref b2)]))
  refine own_go (fun _ k => XS.iconst X4.here hx rfl (hb hby at_27) k) ?_
  show own_Go _ _ _ _ (T4.setTop (mkF m 28 #[.val (.int p1), .val (.int p2), .val (.int p3), .val (.int (p1 &&& (3 : Int32))), .val (.ref b1), .val (.ref b2), .val (.ref b3), .val (.ref b4), .unset, .unset, .unset, .unset, .unset, .unset, .unset, .unset] [(.int (0 : Int32)), (.ref b2)]))
  refine own_go (fun _ k => XS.iloadN X4.here hx rfl (hb hby at_28) rfl k) ?_
  show own_Go _ _ _ _ (T4.setTop (mkF m 29 #[.val (.int p1), .val (.int p2), .val (.int p3), .val (.int (p1 &&& (3 : Int32))), .val (.ref b1), .val (.ref b2), .val (.ref b3), .val (.ref b4), .unset, .unset, .unset, .unset, .unset, .unset, .unset, .unset] [(.int p2), (.int (0 : Int32)), (.ref b2)]))
  refine own_go (fun _ k => XS.i2b X4.here hx rfl (hb hby at_29) rfl k) ?_
  show own_Go _ _ _ _ (T4.setTop (mkF m 30 #[.val (.int p1), .val (.int p2), .val (.int p3), .val (.int (p1 &&& (3 : Int32))), .val (.ref b1), .val (.ref b2), .val (.ref b3), .val (.ref b4), .unset, .unset, .unset, .unset, .unset, .unset, .unset, .unset] [(.int (p2.toInt8.toInt32)), (.int (0 : Int32)), (.ref b2)]))
  obtain ⟨cl5, Ar5, q5, Sz5, Ng5, Hs5, Gs5⟩ := V_b2
  have hin5 : ¬ ((0 : Int32) < 0 ∨ cl5.slots.size ≤ ((0 : Int32)).toNatClampNeg) := inb_of Sz5 ⟨by decide, by decide⟩
  obtain ⟨T5, h5, X5, e5, W5, st5⟩ := stB X4 hx hZ e4 Ar5 (j := (0 : Int32)) hin5 (g := (mkF m 30 #[.val (.int p1), .val (.int p2), .val (.int p3), .val (.int (p1 &&& (3 : Int32))), .val (.ref b1), .val (.ref b2), .val (.ref b3), .val (.ref b4), .unset, .unset, .unset, .unset, .unset, .unset, .unset, .unset] [(.int (p2.toInt8.toInt32)), (.int (0 : Int32)), (.ref b2)])) rfl rfl (hb hby at_30)
  refine own_go st5 ?_
  have NF5 := Fr.snoc X5 N0 ge_b2
  replace V_b2 : Arv Z h5 b2 k2 .byte (1 : Int32) [(.int (nar .byte (p2.toInt8.toInt32)))] (.int (0 : Int32)) := Arv.set Ar5 q5 Sz5 Ng5 Hs5 Gs5 (fits_nar_byte _) W5 0 rfl (Nat.le_of_ble_eq_true rfl)
  replace V_b1 := V_b1.other W5 ne_b1_b2
  replace V_b3 := V_b3.other W5 (Ne.symm ne_b2_b3)
  replace V_b4 := V_b4.other W5 (Ne.symm ne_b2_b4)
  replace Z0 := Nat.le_trans Z0 (Keep.of_wr W5).1
  replace K0 := K0.wr W5 (Or.inr sz_b2)
  show own_Go _ _ _ _ (T5.setTop (mkF m 31 #[.val (.int p1), .val (.int p2), .val (.int p3), .val (.int (p1 &&& (3 : Int32))), .val (.ref b1), .val (.ref b2), .val (.ref b3), .val (.ref b4), .unset, .unset, .unset, .unset, .unset, .unset, .unset, .unset] []))
  refine own_go (fun _ k => XS.aload X5.here hx rfl (hb hby at_31) rfl rfl k) ?_
  show own_Go _ _ _ _ (T5.setTop (mkF m 33 #[.val (.int p1), .val (.int p2), .val (.int p3), .val (.int (p1 &&& (3 : Int32))), .val (.ref b1), .val (.ref b2), .val (.ref b3), .val (.ref b4), .unset, .unset, .unset, .unset, .unset, .unset, .unset, .unset] [(.ref b3)]))
  refine own_go (fun _ k => XS.iconst X5.here hx rfl (hb hby at_33) k) ?_
  show own_Go _ _ _ _ (T5.setTop (mkF m 34 #[.val (.int p1), .val (.int p2), .val (.int p3), .val (.int (p1 &&& (3 : Int32))), .val (.ref b1), .val (.ref b2), .val (.ref b3), .val (.ref b4), .unset, .unset, .unset, .unset, .unset, .unset, .unset, .unset] [(.int (0 : Int32)), (.ref b3)]))
  refine own_go (fun _ k => XS.iloadN X5.here hx rfl (hb hby at_34) rfl k) ?_
  show own_Go _ _ _ _ (T5.setTop (mkF m 35 #[.val (.int p1), .val (.int p2), .val (.int p3), .val (.int (p1 &&& (3 : Int32))), .val (.ref b1), .val (.ref b2), .val (.ref b3), .val (.ref b4), .unset, .unset, .unset, .unset, .unset, .unset, .unset, .unset] [(.int p2), (.int (0 : Int32)), (.ref b3)]))
  refine own_go (fun _ k => XS.i2b X5.here hx rfl (hb hby at_35) rfl k) ?_
  show own_Go _ _ _ _ (T5.setTop (mkF m 36 #[.val (.int p1), .val (.int p2), .val (.int p3), .val (.int (p1 &&& (3 : Int32))), .val (.ref b1), .val (.ref b2), .val (.ref b3), .val (.ref b4), .unset, .unset, .unset, .unset, .unset, .unset, .unset, .unset] [(.int (p2.toInt8.toInt32)), (.int (0 : Int32)), (.ref b3)]))
  obtain ⟨cl6, Ar6, q6, Sz6, Ng6, Hs6, Gs6⟩ := V_b3
  have hin6 : ¬ ((0 : Int32) < 0 ∨ cl6.slots.size ≤ ((0 : Int32)).toNatClampNeg) := inb_of Sz6 ⟨by decide, by decide⟩
  obtain ⟨T6, h6, X6, e6, W6, st6⟩ := stB X5 hx hZ e5 Ar6 (j := (0 : Int32)) hin6 (g := (mkF m 36 #[.val (.int p1), .val (.int p2), .val (.int p3), .val (.int (p1 &&& (3 : Int32))), .val (.ref b1), .val (.ref b2), .val (.ref b3), .val (.ref b4), .unset, .unset, .unset, .unset, .unset, .unset, .unset, .unset] [(.int (p2.toInt8.toInt32)), (.int (0 : Int32)), (.ref b3)])) rfl rfl (hb hby at_36)
  refine own_go st6 ?_
  have NF6 := Fr.snoc X6 NF5 ge_b3
  replace V_b3 : Arv Z h6 b3 k3 .byte (3 : Int32) [(.int (nar .byte (p2.toInt8.toInt32))), (.int (0 : Int32)), (.int (0 : Int32))] (.int (0 : Int32)) := Arv.set Ar6 q6 Sz6 Ng6 Hs6 Gs6 (fits_nar_byte _) W6 0 rfl (Nat.le_of_ble_eq_true rfl)
  replace V_b1 := V_b1.other W6 ne_b1_b3
  replace V_b2 := V_b2.other W6 ne_b2_b3
  replace V_b4 := V_b4.other W6 (Ne.symm ne_b3_b4)
  replace Z0 := Nat.le_trans Z0 (Keep.of_wr W6).1
  replace K0 := K0.wr W6 (Or.inr sz_b3)
  show own_Go _ _ _ _ (T6.setTop (mkF m 37 #[.val (.int p1), .val (.int p2), .val (.int p3), .val (.int (p1 &&& (3 : Int32))), .val (.ref b1), .val (.ref b2), .val (.ref b3), .val (.ref b4), .unset, .unset, .unset, .unset, .unset, .unset, .unset, .unset] []))
  refine own_go (fun _ k => XS.aload X6.here hx rfl (hb hby at_37) rfl rfl k) ?_
  show own_Go _ _ _ _ (T6.setTop (mkF m 39 #[.val (.int p1), .val (.int p2), .val (.int p3), .val (.int (p1 &&& (3 : Int32))), .val (.ref b1), .val (.ref b2), .val (.ref b3), .val (.ref b4), .unset, .unset, .unset, .unset, .unset, .unset, .unset, .unset] [(.ref b3)]))
  refine own_go (fun _ k => XS.iconst X6.here hx rfl (hb hby at_39) k) ?_
  show own_Go _ _ _ _ (T6.setTop (mkF m 40 #[.val (.int p1), .val (.int p2), .val (.int p3), .val (.int (p1 &&& (3 : Int32))), .val (.ref b1), .val (.ref b2), .val (.ref b3), .val (.ref b4), .unset, .unset, .unset, .unset, .unset, .unset, .unset, .unset] [(.int (2 : Int32)), (.ref b3)]))
  refine own_go (fun _ k => XS.iloadN X6.here hx rfl (hb hby at_40) rfl k) ?_
  show own_Go _ _ _ _ (T6.setTop (mkF m 41 #[.val (.int p1), .val (.int p2), .val (.int p3), .val (.int (p1 &&& (3 : Int32))), .val (.ref b1), .val (.ref b2), .val (.ref b3), .val (.ref b4), .unset, .unset, .unset, .unset, .unset, .unset, .unset, .unset] [(.int p3), (.int (2 : Int32)), (.ref b3)]))
  refine own_go (fun _ k => XS.i2b X6.here hx rfl (hb hby at_41) rfl k) ?_
  show own_Go _ _ _ _ (T6.setTop (mkF m 42 #[.val (.int p1), .val (.int p2), .val (.int p3), .val (.int (p1 &&& (3 : Int32))), .val (.ref b1), .val (.ref b2), .val (.ref b3), .val (.ref b4), .unset, .unset, .unset, .unset, .unset, .unset, .unset, .unset] [(.int (p3.toInt8.toInt32)), (.int (2 : Int32)), (.ref b3)]))
  obtain ⟨cl7, Ar7, q7, Sz7, Ng7, Hs7, Gs7⟩ := V_b3
  have hin7 : ¬ ((2 : Int32) < 0 ∨ cl7.slots.size ≤ ((2 : Int32)).toNatClampNeg) := inb_of Sz7 ⟨by decide, by decide⟩
  obtain ⟨T7, h7, X7, e7, W7, st7⟩ := stB X6 hx hZ e6 Ar7 (j := (2 : Int32)) hin7 (g := (mkF m 42 #[.val (.int p1), .val (.int p2), .val (.int p3), .val (.int (p1 &&& (3 : Int32))), .val (.ref b1), .val (.ref b2), .val (.ref b3), .val (.ref b4), .unset, .unset, .unset, .unset, .unset, .unset, .unset, .unset] [(.int (p3.toInt8.toInt32)), (.int (2 : Int32)), (.ref b3)])) rfl rfl (hb hby at_42)
  refine own_go st7 ?_
  have NF7 := Fr.snoc X7 NF6 ge_b3
  replace V_b3 : Arv Z h7 b3 k3 .byte (3 : Int32) [(.int (nar .byte (p2.toInt8.toInt32))), (.int (0 : Int32)), (.int (nar .byte (p3.toInt8.toInt32)))] (.int (0 : Int32)) := Arv.set Ar7 q7 Sz7 Ng7 Hs7 Gs7 (fits_nar_byte _) W7 2 rfl (Nat.le_of_ble_eq_true rfl)
  replace V_b1 := V_b1.other W7 ne_b1_b3
  replace V_b2 := V_b2.other W7 ne_b2_b3
  replace V_b4 := V_b4.other W7 (Ne.symm ne_b3_b4)
  replace Z0 := Nat.le_trans Z0 (Keep.of_wr W7).1
  replace K0 := K0.wr W7 (Or.inr sz_b3)
  show own_Go _ _ _ _ (T7.setTop (mkF m 43 #[.val (.int p1), .val (.int p2), .val (.int p3), .val (.int (p1 &&& (3 : Int32))), .val (.ref b1), .val (.ref b2), .val (.ref b3), .val (.ref b4), .unset, .unset, .unset, .unset, .unset, .unset, .unset, .unset] []))
  refine own_go (fun _ k => XS.aload X7.here hx rfl (hb hby at_43) rfl rfl k) ?_
  show own_Go _ _ _ _ (T7.setTop (mkF m 45 #[.val (.int p1), .val (.int p2), .val (.int p3), .val (.int (p1 &&& (3 : Int32))), .val (.ref b1), .val (.ref b2), .val (.ref b3), .val (.ref b4), .unset, .unset, .unset, .unset, .unset, .unset, .unset, .unset] [(.ref b4)]))
  refine own_go (fun _ k => XS.bipush X7.here hx rfl (hb hby at_45) k) ?_
  show own_Go _ _ _ _ (T7.setTop (mkF m 47 #[.val (.int p1), .val (.int p2), .val (.int p3), .val (.int (p1 &&& (3 : Int32))), .val (.ref b1), .val (.ref b2), .val (.ref b3), .val (.ref b4), .unset, .unset, .unset, .unset, .unset, .unset, .unset, .unset] [(.int (7 : Int32)), (.ref b4)]))
  refine own_go (fun _ k => XS.iloadN X7.here hx rfl (hb hby at_47) rfl k) ?_
  show own_Go _ _ _ _ (T7.setTop (mkF m 48 #[.val (.int p1), .val (.int p2), .val (.int p3), .val (.int (p1 &&& (3 : Int32))), .val (.ref b1), .val (.ref b2), .val (.ref b3), .val (.ref b4), .unset, .unset, .unset, .unset, .unset, .unset, .unset, .unset] [(.int p3), (.int (7 : Int32)), (.ref b4)]))
  refine own_go (fun _ k => XS.i2b X7.here hx rfl (hb hby at_48) rfl k) ?_
  show own_Go _ _ _ _ (T7.setTop (mkF m 49 #[.val (.int p1), .val (.int p2), .val (.int p3), .val (.int (p1 &&& (3 : Int32))), .val (.ref b1), .val (.ref b2), .val (.ref b3), .val (.ref b4), .unset, .unset, .unset, .unset, .unset, .unset, .unset, .unset] [(.int (p3.toInt8.toInt32)), (.int (7 : Int32)), (.ref b4)]))
  obtain ⟨cl8, Ar8, q8, Sz8, Ng8, Hs8, Gs8⟩ := V_b4
  have hin8 : ¬ ((7 : Int32) < 0 ∨ cl8.slots.size ≤ ((7 : Int32)).toNatClampNeg) := inb_of Sz8 ⟨by decide, by decide⟩
  obtain ⟨T8, h8, X8, e8, W8, st8⟩ := stB X7 hx hZ e7 Ar8 (j := (7 : Int32)) hin8 (g := (mkF m 49 #[.val (.int p1), .val (.int p2), .val (.int p3), .val (.int (p1 &&& (3 : Int32))), .val (.ref b1), .val (.ref b2), .val (.ref b3), .val (.ref b4), .unset, .unset, .unset, .unset, .unset, .unset, .unset, .unset] [(.int (p3.toInt8.toInt32)), (.int (7 : Int32)), (.ref b4)])) rfl rfl (hb hby at_49)
  refine own_go st8 ?_
  have NF8 := Fr.snoc X8 NF7 ge_b4
  replace V_b4 : Arv Z h8 b4 k4 .byte (8 : Int32) [(.int (0 : Int32)), (.int (0 : Int32)), (.int (0 : Int32)), (.int (0 : Int32)), (.int (0 : Int32)), (.int (0 : Int32)), (.int (0 : Int32)), (.int (nar .byte (p3.toInt8.toInt32)))] (.int (0 : Int32)) := Arv.set Ar8 q8 Sz8 Ng8 Hs8 Gs8 (fits_nar_byte _) W8 7 rfl (Nat.le_of_ble_eq_true rfl)
  replace V_b1 := V_b1.other W8 ne_b1_b4
  replace V_b2 := V_b2.other W8 ne_b2_b4
  replace V_b3 := V_b3.other W8 ne_b3_b4
  replace Z0 := Nat.le_trans Z0 (Keep.of_wr W8).1
  replace K0 := K0.wr W8 (Or.inr sz_b4)
  show own_Go _ _ _ _ (T8.setTop (mkF m 50 #[.val (.int p1), .val (.int p2), .val (.int p3), .val (.int (p1 &&& (3 : Int32))), .val (.ref b1), .val (.ref b2), .val (.ref b3), .val (.ref b4), .unset, .unset, .unset, .unset, .unset, .unset, .unset, .unset] []))
  refine own_go (fun _ k => XS.iloadN X8.here hx rfl (hb hby at_50) rfl k) ?_
  show own_Go _ _ _ _ (T8.setTop (mkF m 51 #[.val (.int p1), .val (.int p2), .val (.int p3), .val (.int (p1 &&& (3 : Int32))), .val (.ref b1), .val (.ref b2), .val (.ref b3), .val (.ref b4), .unset, .unset, .unset, .unset, .unset, .unset, .unset, .unset] [(.int (p1 &&& (3 : Int32)))]))
  by_cases hc51 : (p1 &&& (3 : Int32)) = (0 : Int32)
  · have _h := hc51
    refine own_go (fun _ k => XS.ifNo X8.here hx rfl (hb hby at_51) rfl ((if0 _ _).trans (teq hc51).2) k) ?_
    show own_Go _ _ _ _ (T8.setTop (mkF m 54 #[.val (.int p1), .val (.int p2), .val (.int p3), .val (.int (p1 &&& (3 : Int32))), .val (.ref b1), .val (.ref b2), .val (.ref b3), .val (.ref b4), .unset, .unset, .unset, .unset, .unset, .unset, .unset, .unset] []))
    refine own_go (fun _ k => XS.aload X8.here hx rfl (hb hby at_54) rfl rfl k) ?_
    show own_Go _ _ _ _ (T8.setTop (mkF m 56 #[.val (.int p1), .val (.int p2), .val (.int p3), .val (.int (p1 &&& (3 : Int32))), .val (.ref b1), .val (.ref b2), .val (.ref b3), .val (.ref b4), .unset, .unset, .unset, .unset, .unset, .unset, .unset, .unset] [(.ref b1)]))
    refine own_go (fun _ k => XS.astore X8.here hx rfl (hb hby at_56) rfl rfl (l' := #[.val (.int p1), .val (.int p2), .val (.int p3), .val (.int (p1 &&& (3 : Int32))), .val (.ref b1), .val (.ref b2), .val (.ref b3), .val (.ref b4), .val (.ref b1), .unset, .unset, .unset, .unset, .unset, .unset, .unset]) rfl k) ?_
    show own_Go _ _ _ _ (T8.setTop (mkF m 58 #[.val (.int p1), .val (.int p2), .val (.int p3), .val (.int (p1 &&& (3 : Int32))), .val (.ref b1), .val (.ref b2), .val (.ref b3), .val (.ref b4), .val (.ref b1), .unset, .unset, .unset, .unset, .unset, .unset, .unset] []))
    refine own_go (fun _ k => XS.lconst X8.here hx rfl (hb hby at_58) k) ?_
    show own_Go _ _ _ _ (T8.setTop (mkF m 59 #[.val (.int p1), .val (.int p2), .val (.int p3), .val (.int (p1 &&& (3 : Int32))), .val (.ref b1), .val (.ref b2), .val (.ref b3), .val (.ref b4), .val (.ref b1), .unset, .unset, .unset, .unset, .unset, .unset, .unset] [(.long (0 : Int64))]))
    refine own_go (fun _ k => XS.lstore X8.here hx rfl (hb hby at_59) rfl (l' := #[.val (.int p1), .val (.int p2), .val (.int p3), .val (.int (p1 &&& (3 : Int32))), .val (.ref b1), .val (.ref b2), .val (.ref b3), .val (.ref b4), .val (.ref b1), .val (.long (0 : Int64)), .second, .unset, .unset, .unset, .unset, .unset]) rfl k) ?_
    show own_Go _ _ _ _ (T8.setTop (mkF m 61 #[.val (.int p1), .val (.int p2), .val (.int p3), .val (.int (p1 &&& (3 : Int32))), .val (.ref b1), .val (.ref b2), .val (.ref b3), .val (.ref b4), .val (.ref b1), .val (.long (0 : Int64)), .second, .unset, .unset, .unset, .unset, .unset] []))
    refine own_go (fun _ k => XS.goto X8.here hx rfl (pc0 := 61) (pc' := 105) rfl (hb hby at_61) (by decide) (by decide) k) ?_
    show own_Go _ _ _ _ (T8.setTop (mkF m 105 #[.val (.int p1), .val (.int p2), .val (.int p3), .val (.int (p1 &&& (3 : Int32))), .val (.ref b1), .val (.ref b2), .val (.ref b3), .val (.ref b4), .val (.ref b1), .val (.long (0 : Int64)), .second, .unset, .unset, .unset, .unset, .unset] []))
    refine own_go (fun _ k => XS.aload X8.here hx rfl (hb hby at_105) rfl rfl k) ?_
    show own_Go _ _ _ _ (T8.setTop (mkF m 107 #[.val (.int p1), .val (.int p2), .val (.int p3), .val (.int (p1 &&& (3 : Int32))), .val (.ref b1), .val (.ref b2), .val (.ref b3), .val (.ref b4), .val (.ref b1), .val (.long (0 : Int64)), .second, .unset, .unset, .unset, .unset, .unset] [(.ref b1)]))
    obtain ⟨_, _, ⟨T9, L9, k9, n9⟩, -, X9, ⟨Lc9, hQ9, l9, y9, z9⟩, st9⟩ := Jvm.LawKit.callS X8 hx (y := (⟨"com/example/chartpost/chartpost/io/FileContent", "of", "([B)Lcom/example/chartpost/chartpost/io/FileContent;"⟩ : MethodName)) hown (mvT hZ (hw _ (List.mem_of_getElem? (i := 1) rfl))) (mvT hZ (hw _ (List.mem_of_getElem? (i := 2) rfl))) (mvT hZ (hw _ (List.mem_of_getElem? (i := 3) rfl))) (mvT hZ (hw _ (List.mem_of_getElem? (i := 4) rfl))) (by decide) (own_back (W := 0) (own_rmO l Z a0 hw b1 _ _ _ _ h8 n0 Z0 V_b1) hZ (hw _ (List.mem_of_getElem? (i := 4) rfl)) (hw _ (List.mem_of_getElem? (i := 3) rfl)) (by decide) (by decide)) (g := (mkF m 107 #[.val (.int p1), .val (.int p2), .val (.int p3), .val (.int (p1 &&& (3 : Int32))), .val (.ref b1), .val (.ref b2), .val (.ref b3), .val (.ref b4), .val (.ref b1), .val (.long (0 : Int64)), .second, .unset, .unset, .unset, .unset, .unset] [(.ref b1)])) rfl (by rw [hml]; rfl) (argsL := [(.ref b1)]) (rest := []) (lenOf own_pd1 rfl) rfl (by show 2 * 0 + _ ≤ _; exact Nat.le_of_eq rfl) (hb hby at_107) (fun _ _ => ⟨rfl, e8, (by decide : 4 + 1 ≤ _), (by decide : 12 + 3 ≤ _)⟩)
    dsimp only [Pt.U, Pt.locs, Pt.cells, Pt.slots] at X9 l9 y9 z9 st9 hQ9
    subst l9 y9 z9
    obtain ⟨b9, rfl, Nq9, K9, ge_b9, szq9, Ex9, Ff9, Fl9⟩ := hQ9
    have NF9 := Fr.app NF8 Nq9
    refine own_go st9 ?_
    have ne_b1_b9 : b1 ≠ b9 := Nat.ne_of_lt (Nat.lt_of_lt_of_le V_b1.lt szq9)
    have ne_b2_b9 : b2 ≠ b9 := Nat.ne_of_lt (Nat.lt_of_lt_of_le V_b2.lt szq9)
    have ne_b3_b9 : b3 ≠ b9 := Nat.ne_of_lt (Nat.lt_of_lt_of_le V_b3.lt szq9)
    have ne_b4_b9 : b4 ≠ b9 := Nat.ne_of_lt (Nat.lt_of_lt_of_le V_b4.lt szq9)
    have sz_b9 : h0.size ≤ b9 := Nat.le_trans K0.1 szq9
    replace V_b1 := V_b1.keep K9 nin0
    replace V_b2 := V_b2.keep K9 nin0
    replace V_b3 := V_b3.keep K9 nin0
    replace V_b4 := V_b4.keep K9 nin0
    replace Z0 := Nat.le_trans Z0 K9.1
    replace K0 := K0.trans K9 all0
    show own_Go _ _ _ _ (T9.setTop (mkF m 110 #[.val (.int p1), .val (.int p2), .val (.int p3), .val (.int (p1 &&& (3 : Int32))), .val (.ref b1), .val (.ref b2), .val (.ref b3), .val (.ref b4), .val (.ref b1), .val (.long (0 : Int64)), .second, .unset, .unset, .unset, .unset, .unset] [(.ref b9)]))
    refine own_go (fun _ k => XS.astore X9.here hx rfl (hb hby at_110) rfl rfl (l' := #[.val (.int p1), .val (.int p2), .val (.int p3), .val (.int (p1 &&& (3 : Int32))), .val (.ref b1), .val (.ref b2), .val (.ref b3), .val (.ref b4), .val (.ref b1), .val (.long (0 : Int64)), .second, .val (.ref b9), .unset, .unset, .unset, .unset]) rfl k) ?_
    show own_Go _ _ _ _ (T9.setTop (mkF m 112 #[.val (.int p1), .val (.int p2), .val (.int p3), .val (.int (p1 &&& (3 : Int32))), .val (.ref b1), .val (.ref b2), .val (.ref b3), .val (.ref b4), .val (.ref b1), .val (.long (0 : Int64)), .second, .val (.ref b9), .unset, .unset, .unset, .unset] []))
    refine own_go (fun _ k => XS.aload X9.here hx rfl (hb hby at_112) rfl rfl k) ?_
    show own_Go _ _ _ _ (T9.setTop (mkF m 114 #[.val (.int p1), .val (.int p2), .val (.int p3), .val (.int (p1 &&& (3 : Int32))), .val (.ref b1), .val (.ref b2), .val (.ref b3), .val (.ref b4), .val (.ref b1), .val (.long (0 : Int64)), .second, .val (.ref b9), .unset, .unset, .unset, .unset] [(.ref b9)]))
    obtain ⟨cq10, kq10, q10a, q10b, q10c⟩ := isOf hZ rfl Ex9
    obtain ⟨_, _, ⟨T10, L10, k10, n10⟩, -, X10, ⟨Lc10, hQ10, l10, y10, z10⟩, st10⟩ := X9.virtualBack hx (y := (⟨"com/example/chartpost/chartpost/io/FileContent", "length", "()J"⟩ : MethodName)) (z := (⟨"com/example/chartpost/chartpost/io/FileContent", "length", "()J"⟩ : MethodName)) hown (mvT hZ (hw _ (List.mem_of_getElem? (i := 19) rfl))) (mvT hZ (hw _ (List.mem_of_getElem? (i := 20) rfl))) (notFace_of_selects (args := #[]) (mvT hZ (hw _ (List.mem_of_getElem? (i := 22) rfl)))) (mvT hZ (hw _ (List.mem_of_getElem? (i := 22) rfl))) (mvT hZ (hw _ (List.mem_of_getElem? (i := 21) rfl))) (by decide) (own_back (W := 0) (own_rmL l Z a0 hw b9 _ T9.heap n0 Z0 Fl9) hZ (hw _ (List.mem_of_getElem? (i := 23) rfl)) (hw _ (List.mem_of_getElem? (i := 3) rfl)) (by decide) (by decide)) q10a q10c (g := (mkF m 114 #[.val (.int p1), .val (.int p2), .val (.int p3), .val (.int (p1 &&& (3 : Int32))), .val (.ref b1), .val (.ref b2), .val (.ref b3), .val (.ref b4), .val (.ref b1), .val (.long (0 : Int64)), .second, .val (.ref b9), .unset, .unset, .unset, .unset] [(.ref b9)])) rfl (by rw [hml]; rfl) (Steps.refl _) (argsL := []) (rest := []) (lenOf own_pd2 rfl) rfl (by show 2 * 0 + _ ≤ _; exact Nat.le_of_eq rfl) (hb hby at_114) (fun _ _ => ⟨rfl, rfl, (by decide : 5 + 0 ≤ _), (by decide : 15 + 0 ≤ _)⟩)
    dsimp only [Pt.U, Pt.locs, Pt.cells, Pt.slots] at X10 l10 y10 z10 st10 hQ10
    subst l10 y10 z10
    obtain ⟨rfl, Nq10, eq10⟩ := hQ10
    have NF10 := Fr.app NF9 Nq10
    refine own_goT st10 ?_
    show own_Go _ _ _ _ (T10.setTop (mkF m 117 #[.val (.int p1), .val (.int p2), .val (.int p3), .val (.int (p1 &&& (3 : Int32))), .val (.ref b1), .val (.ref b2), .val (.ref b3), .val (.ref b4), .val (.ref b1), .val (.long (0 : Int64)), .second, .val (.ref b9), .unset, .unset, .unset, .unset] [(.long (0 : Int32).toInt64)]))
    refine own_go (fun _ k => XS.lstore X10.here hx rfl (hb hby at_117) rfl (l' := #[.val (.int p1), .val (.int p2), .val (.int p3), .val (.int (p1 &&& (3 : Int32))), .val (.ref b1), .val (.ref b2), .val (.ref b3), .val (.ref b4), .val (.ref b1), .val (.long (0 : Int64)), .second, .val (.ref b9), .val (.long (0 : Int32).toInt64), .second, .unset, .unset]) rfl k) ?_
    show own_Go _ _ _ _ (T10.setTop (mkF m 119 #[.val (.int p1), .val (.int p2), .val (.int p3), .val (.int (p1 &&& (3 : Int32))), .val (.ref b1), .val (.ref b2), .val (.ref b3), .val (.ref b4), .val (.ref b1), .val (.long (0 : Int64)), .second, .val (.ref b9), .val (.long (0 : Int32).toInt64), .second, .unset, .unset] []))
    refine own_go (fun _ k => XS.aload X10.here hx rfl (hb hby at_119) rfl rfl k) ?_
    show own_Go _ _ _ _ (T10.setTop (mkF m 121 #[.val (.int p1), .val (.int p2), .val (.int p3), .val (.int (p1 &&& (3 : Int32))), .val (.ref b1), .val (.ref b2), .val (.ref b3), .val (.ref b4), .val (.ref b1), .val (.long (0 : Int64)), .second, .val (.ref b9), .val (.long (0 : Int32).toInt64), .second, .unset, .unset] [(.ref b9)]))
    obtain ⟨cq11, kq11, q11a, q11b, q11c⟩ := isOf hZ eq10 Ex9
    obtain ⟨_, _, ⟨T11, L11, k11, n11⟩, -, X11, ⟨Lc11, hQ11, l11, y11, z11⟩, st11⟩ := X10.virtualBack hx (y := (⟨"com/example/chartpost/chartpost/io/FileContent", "close", "()V"⟩ : MethodName)) (z := (⟨"com/example/chartpost/chartpost/io/FileContent", "close", "()V"⟩ : MethodName)) hown (mvT hZ (hw _ (List.mem_of_getElem? (i := 24) rfl))) (mvT hZ (hw _ (List.mem_of_getElem? (i := 25) rfl))) (notFace_of_selects (args := #[]) (mvT hZ (hw _ (List.mem_of_getElem? (i := 27) rfl)))) (mvT hZ (hw _ (List.mem_of_getElem? (i := 27) rfl))) (mvT hZ (hw _ (List.mem_of_getElem? (i := 26) rfl))) (by decide) (own_back (W := 0) (own_rmC l Z a0 hw b9 T9.heap n0 Z0 Ff9) hZ (hw _ (List.mem_of_getElem? (i := 28) rfl)) (hw _ (List.mem_of_getElem? (i := 3) rfl)) (by decide) (by decide)) q11a q11c (g := (mkF m 121 #[.val (.int p1), .val (.int p2), .val (.int p3), .val (.int (p1 &&& (3 : Int32))), .val (.ref b1), .val (.ref b2), .val (.ref b3), .val (.ref b4), .val (.ref b1), .val (.long (0 : Int64)), .second, .val (.ref b9), .val (.long (0 : Int32).toInt64), .second, .unset, .unset] [(.ref b9)])) rfl (by rw [hml]; rfl) (Steps.refl _) (argsL := []) (rest := []) (lenOf own_pd3 rfl) rfl (by show 2 * 0 + _ ≤ _; exact Nat.le_of_eq rfl) (hb hby at_121) (fun _ _ => ⟨rfl, eq10, (by decide : 5 + 0 ≤ _), (by decide : 15 + 0 ≤ _)⟩)
    dsimp only [Pt.U, Pt.locs, Pt.cells, Pt.slots] at X11 l11 y11 z11 st11 hQ11
    subst l11 y11 z11
    obtain ⟨rfl, Nq11, eq11⟩ := hQ11
    have NF11 := Fr.app NF10 Nq11
    refine own_goT st11 ?_
    show own_Go _ _ _ _ (T11.setTop (mkF m 124 #[.val (.int p1), .val (.int p2), .val (.int p3), .val (.int (p1 &&& (3 : Int32))), .val (.ref b1), .val (.ref b2), .val (.ref b3), .val (.ref b4), .val (.ref b1), .val (.long (0 : Int64)), .second, .val (.ref b9), .val (.long (0 : Int32).toInt64), .second, .unset, .unset] []))
    refine own_go (fun _ k => XS.aload X11.here hx rfl (hb hby at_124) rfl rfl k) ?_
    show own_Go _ _ _ _ (T11.setTop (mkF m 126 #[.val (.int p1), .val (.int p2), .val (.int p3), .val (.int (p1 &&& (3 : Int32))), .val (.ref b1), .val (.ref b2), .val (.ref b3), .val (.ref b4), .val (.ref b1), .val (.long (0 : Int64)), .second, .val (.ref b9), .val (.long (0 : Int32).toInt64), .second, .unset, .unset] [(.ref b9)]))
    obtain ⟨cq12, kq12, q12a, q12b, q12c⟩ := isOf hZ eq11 Ex9
    obtain ⟨_, _, ⟨T12, L12, k12, n12⟩, -, X12, ⟨Lc12, hQ12, l12, y12, z12⟩, st12⟩ := X11.virtualBack hx (y := (⟨"com/example/chartpost/chartpost/io/FileContent", "length", "()J"⟩ : MethodName)) (z := (⟨"com/example/chartpost/chartpost/io/FileContent", "length", "()J"⟩ : MethodName)) hown (mvT hZ (hw _ (List.mem_of_getElem? (i := 19) rfl))) (mvT hZ (hw _ (List.mem_of_getElem? (i := 20) rfl))) (notFace_of_selects (args := #[]) (mvT hZ (hw _ (List.mem_of_getElem? (i := 22) rfl)))) (mvT hZ (hw _ (List.mem_of_getElem? (i := 22) rfl))) (mvT hZ (hw _ (List.mem_of_getElem? (i := 21) rfl))) (by decide) (own_back (W := 0) (own_rmL l Z a0 hw b9 _ T9.heap n0 Z0 Fl9) hZ (hw _ (List.mem_of_getElem? (i := 23) rfl)) (hw _ (List.mem_of_getElem? (i := 3) rfl)) (by decide) (by decide)) q12a q12c (g := (mkF m 126 #[.val (.int p1), .val (.int p2), .val (.int p3), .val (.int (p1 &&& (3 : Int32))), .val (.ref b1), .val (.ref b2), .val (.ref b3), .val (.ref b4), .val (.ref b1), .val (.long (0 : Int64)), .second, .val (.ref b9), .val (.long (0 : Int32).toInt64), .second, .unset, .unset] [(.ref b9)])) rfl (by rw [hml]; rfl) (Steps.refl _) (argsL := []) (rest := []) (lenOf own_pd2 rfl) rfl (by show 2 * 0 + _ ≤ _; exact Nat.le_of_eq rfl) (hb hby at_126) (fun _ _ => ⟨rfl, eq11, (by decide : 5 + 0 ≤ _), (by decide : 15 + 0 ≤ _)⟩)
    dsimp only [Pt.U, Pt.locs, Pt.cells, Pt.slots] at X12 l12 y12 z12 st12 hQ12
    subst l12 y12 z12
    obtain ⟨rfl, Nq12, eq12⟩ := hQ12
    have NF12 := Fr.app NF11 Nq12
    refine own_goT st12 ?_
    show own_Go _ _ _ _ (T12.setTop (mkF m 129 #[.val (.int p1), .val (.int p2), .val (.int p3), .val (.int (p1 &&& (3 : Int32))), .val (.ref b1), .val (.ref b2), .val (.ref b3), .val (.ref b4), .val (.ref b1), .val (.long (0 : Int64)), .second, .val (.ref b9), .val (.long (0 : Int32).toInt64), .second, .unset, .unset] [(.long (0 : Int32).toInt64)]))
    refine own_go (fun _ k => XS.lstore X12.here hx rfl (hb hby at_129) rfl (l' := #[.val (.int p1), .val (.int p2), .val (.int p3), .val (.int (p1 &&& (3 : Int32))), .val (.ref b1), .val (.ref b2), .val (.ref b3), .val (.ref b4), .val (.ref b1), .val (.long (0 : Int64)), .second, .val (.ref b9), .val (.long (0 : Int32).toInt64), .second, .val (.long (0 : Int32).toInt64), .second]) rfl k) ?_
    show own_Go _ _ _ _ (T12.setTop (mkF m 131 #[.val (.int p1), .val (.int p2), .val (.int p3), .val (.int (p1 &&& (3 : Int32))), .val (.ref b1), .val (.ref b2), .val (.ref b3), .val (.ref b4), .val (.ref b1), .val (.long (0 : Int64)), .second, .val (.ref b9), .val (.long (0 : Int32).toInt64), .second, .val (.long (0 : Int32).toInt64), .second] []))
    refine own_go (fun _ k => XS.lload X12.here hx rfl (hb hby at_131) rfl k) ?_
    show own_Go _ _ _ _ (T12.setTop (mkF m 133 #[.val (.int p1), .val (.int p2), .val (.int p3), .val (.int (p1 &&& (3 : Int32))), .val (.ref b1), .val (.ref b2), .val (.ref b3), .val (.ref b4), .val (.ref b1), .val (.long (0 : Int64)), .second, .val (.ref b9), .val (.long (0 : Int32).toInt64), .second, .val (.long (0 : Int32).toInt64), .second] [(.long (0 : Int32).toInt64)]))
    refine own_go (fun _ k => XS.lload X12.here hx rfl (hb hby at_133) rfl k) ?_
    show own_Go _ _ _ _ (T12.setTop (mkF m 135 #[.val (.int p1), .val (.int p2), .val (.int p3), .val (.int (p1 &&& (3 : Int32))), .val (.ref b1), .val (.ref b2), .val (.ref b3), .val (.ref b4), .val (.ref b1), .val (.long (0 : Int64)), .second, .val (.ref b9), .val (.long (0 : Int32).toInt64), .second, .val (.long (0 : Int32).toInt64), .second] [(.long (0 : Int64)), (.long (0 : Int32).toInt64)]))
    refine own_go (fun _ k => XS.lcmp X12.here hx rfl (hb hby at_135) rfl k) ?_
    show own_Go _ _ _ _ (T12.setTop (mkF m 136 #[.val (.int p1), .val (.int p2), .val (.int p3), .val (.int (p1 &&& (3 : Int32))), .val (.ref b1), .val (.ref b2), .val (.ref b3), .val (.ref b4), .val (.ref b1), .val (.long (0 : Int64)), .second, .val (.ref b9), .val (.long (0 : Int32).toInt64), .second, .val (.long (0 : Int32).toInt64), .second] [(.int (lcmpW (0 : Int32).toInt64 (0 : Int64)))]))
    refine own_go (fun _ k => XS.ifNo X12.here hx rfl (hb hby at_136) rfl ((if0 _ _).trans (teq ((lw_eq _ _).mpr (by decide))).2) k) ?_
    show own_Go _ _ _ _ (T12.setTop (mkF m 139 #[.val (.int p1), .val (.int p2), .val (.int p3), .val (.int (p1 &&& (3 : Int32))), .val (.ref b1), .val (.ref b2), .val (.ref b3), .val (.ref b4), .val (.ref b1), .val (.long (0 : Int64)), .second, .val (.ref b9), .val (.long (0 : Int32).toInt64), .second, .val (.long (0 : Int32).toInt64), .second] []))
    refine own_go (fun _ k => XS.lload X12.here hx rfl (hb hby at_139) rfl k) ?_
    show own_Go _ _ _ _ (T12.setTop (mkF m 141 #[.val (.int p1), .val (.int p2), .val (.int p3), .val (.int (p1 &&& (3 : Int32))), .val (.ref b1), .val (.ref b2), .val (.ref b3), .val (.ref b4), .val (.ref b1), .val (.long (0 : Int64)), .second, .val (.ref b9), .val (.long (0 : Int32).toInt64), .second, .val (.long (0 : Int32).toInt64), .second] [(.long (0 : Int32).toInt64)]))
    refine own_go (fun _ k => XS.lload X12.here hx rfl (hb hby at_141) rfl k) ?_
    show own_Go _ _ _ _ (T12.setTop (mkF m 143 #[.val (.int p1), .val (.int p2), .val (.int p3), .val (.int (p1 &&& (3 : Int32))), .val (.ref b1), .val (.ref b2), .val (.ref b3), .val (.ref b4), .val (.ref b1), .val (.long (0 : Int64)), .second, .val (.ref b9), .val (.long (0 : Int32).toInt64), .second, .val (.long (0 : Int32).toInt64), .second] [(.long (0 : Int64)), (.long (0 : Int32).toInt64)]))
    refine own_go (fun _ k => XS.lcmp X12.here hx rfl (hb hby at_143) rfl k) ?_
    show own_Go _ _ _ _ (T12.setTop (mkF m 144 #[.val (.int p1), .val (.int p2), .val (.int p3), .val (.int (p1 &&& (3 : Int32))), .val (.ref b1), .val (.ref b2), .val (.ref b3), .val (.ref b4), .val (.ref b1), .val (.long (0 : Int64)), .second, .val (.ref b9), .val (.long (0 : Int32).toInt64), .second, .val (.long (0 : Int32).toInt64), .second] [(.int (lcmpW (0 : Int32).toInt64 (0 : Int64)))]))
    refine own_go (fun _ k => XS.ifNo X12.here hx rfl (hb hby at_144) rfl ((if0 _ _).trans (teq ((lw_eq _ _).mpr (by decide))).2) k) ?_
    show own_Go _ _ _ _ (T12.setTop (mkF m 147 #[.val (.int p1), .val (.int p2), .val (.int p3), .val (.int (p1 &&& (3 : Int32))), .val (.ref b1), .val (.ref b2), .val (.ref b3), .val (.ref b4), .val (.ref b1), .val (.long (0 : Int64)), .second, .val (.ref b9), .val (.long (0 : Int32).toInt64), .second, .val (.long (0 : Int32).toInt64), .second] []))
    refine own_go (fun _ k => XS.iconst X12.here hx rfl (hb hby at_147) k) ?_
    show own_Go _ _ _ _ (T12.setTop (mkF m 148 #[.val (.int p1), .val (.int p2), .val (.int p3), .val (.int (p1 &&& (3 : Int32))), .val (.ref b1), .val (.ref b2), .val (.ref b3), .val (.ref b4), .val (.ref b1), .val (.long (0 : Int64)), .second, .val (.ref b9), .val (.long (0 : Int32).toInt64), .second, .val (.long (0 : Int32).toInt64), .second] [(.int (1 : Int32))]))
    refine own_go (fun _ k => XS.goto X12.here hx rfl (pc0 := 148) (pc' := 152) rfl (hb hby at_148) (by decide) (by decide) k) ?_
    show own_Go _ _ _ _ (T12.setTop (mkF m 152 #[.val (.int p1), .val (.int p2), .val (.int p3), .val (.int (p1 &&& (3 : Int32))), .val (.ref b1), .val (.ref b2), .val (.ref b3), .val (.ref b4), .val (.ref b1), .val (.long (0 : Int64)), .second, .val (.ref b9), .val (.long (0 : Int32).toInt64), .second, .val (.long (0 : Int32).toInt64), .second] [(.int (1 : Int32))]))
    refine own_ret X12 hlk (v := some (.int (1 : Int32))) (fun h => by rw [Bd.returns] at h; cases h) (fun fs hr => retN X12 hx (t := .boolean) Bd.returns (by simp) (hb hby at_152) hr) ?_ (by decide) (by decide)
    try rw [eq12]
    exact ⟨rfl, NF12⟩
  · have _h := hc51
    refine own_go (fun _ k => XS.ifYes X8.here hx rfl (pc0 := 51) (pc' := 64) rfl (hb hby at_51) rfl ((if0 _ _).trans (feq hc51).2) (by decide) (by decide) k) ?_
    show own_Go _ _ _ _ (T8.setTop (mkF m 64 #[.val (.int p1), .val (.int p2), .val (.int p3), .val (.int (p1 &&& (3 : Int32))), .val (.ref b1), .val (.ref b2), .val (.ref b3), .val (.ref b4), .unset, .unset, .unset, .unset, .unset, .unset, .unset, .unset] []))
    refine own_go (fun _ k => XS.iloadN X8.here hx rfl (hb hby at_64) rfl k) ?_
    show own_Go _ _ _ _ (T8.setTop (mkF m 65 #[.val (.int p1), .val (.int p2), .val (.int p3), .val (.int (p1 &&& (3 : Int32))), .val (.ref b1), .val (.ref b2), .val (.ref b3), .val (.ref b4), .unset, .unset, .unset, .unset, .unset, .unset, .unset, .unset] [(.int (p1 &&& (3 : Int32)))]))
    refine own_go (fun _ k => XS.iconst X8.here hx rfl (hb hby at_65) k) ?_
    show own_Go _ _ _ _ (T8.setTop (mkF m 66 #[.val (.int p1), .val (.int p2), .val (.int p3), .val (.int (p1 &&& (3 : Int32))), .val (.ref b1), .val (.ref b2), .val (.ref b3), .val (.ref b4), .unset, .unset, .unset, .unset, .unset, .unset, .unset, .unset] [(.int (1 : Int32)), (.int (p1 &&& (3 : Int32)))]))
    by_cases hc66 : (p1 &&& (3 : Int32)) = (1 : Int32)
    · have _h := hc66
      refine own_go (fun _ k => XS.icmpNo X8.here hx rfl (hb hby at_66) rfl (teq hc66).2 k) ?_
      show own_Go _ _ _ _ (T8.setTop (mkF m 69 #[.val (.int p1), .val (.int p2), .val (.int p3), .val (.int (p1 &&& (3 : Int32))), .val (.ref b1), .val (.ref b2), .val (.ref b3), .val (.ref b4), .unset, .unset, .unset, .unset, .unset, .unset, .unset, .unset] []))
      refine own_go (fun _ k => XS.aload X8.here hx rfl (hb hby at_69) rfl rfl k) ?_
      show own_Go _ _ _ _ (T8.setTop (mkF m 71 #[.val (.int p1), .val (.int p2), .val (.int p3), .val (.int (p1 &&& (3 : Int32))), .val (.ref b1), .val (.ref b2), .val (.ref b3), .val (.ref b4), .unset, .unset, .unset, .unset, .unset, .unset, .unset, .unset] [(.ref b2)]))
      refine own_go (fun _ k => XS.astore X8.here hx rfl (hb hby at_71) rfl rfl (l' := #[.val (.int p1), .val (.int p2), .val (.int p3), .val (.int (p1 &&& (3 : Int32))), .val (.ref b1), .val (.ref b2), .val (.ref b3), .val (.ref b4), .val (.ref b2), .unset, .unset, .unset, .unset, .unset, .unset, .unset]) rfl k) ?_
      show own_Go _ _ _ _ (T8.setTop (mkF m 73 #[.val (.int p1), .val (.int p2), .val (.int p3), .val (.int (p1 &&& (3 : Int32))), .val (.ref b1), .val (.ref b2), .val (.ref b3), .val (.ref b4), .val (.ref b2), .unset, .unset, .unset, .unset, .unset, .unset, .unset] []))
      refine own_go (fun _ k => XS.lconst X8.here hx rfl (hb hby at_73) k) ?_
      show own_Go _ _ _ _ (T8.setTop (mkF m 74 #[.val (.int p1), .val (.int p2), .val (.int p3), .val (.int (p1 &&& (3 : Int32))), .val (.ref b1), .val (.ref b2), .val (.ref b3), .val (.ref b4), .val (.ref b2), .unset, .unset, .unset, .unset, .unset, .unset, .unset] [(.long (1 : Int64))]))
      refine own_go (fun _ k => XS.lstore X8.here hx rfl (hb hby at_74) rfl (l' := #[.val (.int p1), .val (.int p2), .val (.int p3), .val (.int (p1 &&& (3 : Int32))), .val (.ref b1), .val (.ref b2), .val (.ref b3), .val (.ref b4), .val (.ref b2), .val (.long (1 : Int64)), .second, .unset, .unset, .unset, .unset, .unset]) rfl k) ?_
      show own_Go _ _ _ _ (T8.setTop (mkF m 76 #[.val (.int p1), .val (.int p2), .val (.int p3), .val (.int (p1 &&& (3 : Int32))), .val (.ref b1), .val (.ref b2), .val (.ref b3), .val (.ref b4), .val (.ref b2), .val (.long (1 : Int64)), .second, .unset, .unset, .unset, .unset, .unset] []))
      refine own_go (fun _ k => XS.goto X8.here hx rfl (pc0 := 76) (pc' := 105) rfl (hb hby at_76) (by decide) (by decide) k) ?_
      show own_Go _ _ _ _ (T8.setTop (mkF m 105 #[.val (.int p1), .val (.int p2), .val (.int p3), .val (.int (p1 &&& (3 : Int32))), .val (.ref b1), .val (.ref b2), .val (.ref b3), .val (.ref b4), .val (.ref b2), .val (.long (1 : Int64)), .second, .unset, .unset, .unset, .unset, .unset] []))
      refine own_go (fun _ k => XS.aload X8.here hx rfl (hb hby at_105) rfl rfl k) ?_
      show own_Go _ _ _ _ (T8.setTop (mkF m 107 #[.val (.int p1), .val (.int p2), .val (.int p3), .val (.int (p1 &&& (3 : Int32))), .val (.ref b1), .val (.ref b2), .val (.ref b3), .val (.ref b4), .val (.ref b2), .val (.long (1 : Int64)), .second, .unset, .unset, .unset, .unset, .unset] [(.ref b2)]))
      obtain ⟨_, _, ⟨T13, L13, k13, n13⟩, -, X13, ⟨Lc13, hQ13, l13, y13, z13⟩, st13⟩ := Jvm.LawKit.callS X8 hx (y := (⟨"com/example/chartpost/chartpost/io/FileContent", "of", "([B)Lcom/example/chartpost/chartpost/io/FileContent;"⟩ : MethodName)) hown (mvT hZ (hw _ (List.mem_of_getElem? (i := 1) rfl))) (mvT hZ (hw _ (List.mem_of_getElem? (i := 2) rfl))) (mvT hZ (hw _ (List.mem_of_getElem? (i := 3) rfl))) (mvT hZ (hw _ (List.mem_of_getElem? (i := 4) rfl))) (by decide) (own_back (W := 0) (own_rmO l Z a0 hw b2 _ _ _ _ h8 n0 Z0 V_b2) hZ (hw _ (List.mem_of_getElem? (i := 4) rfl)) (hw _ (List.mem_of_getElem? (i := 3) rfl)) (by decide) (by decide)) (g := (mkF m 107 #[.val (.int p1), .val (.int p2), .val (.int p3), .val (.int (p1 &&& (3 : Int32))), .val (.ref b1), .val (.ref b2), .val (.ref b3), .val (.ref b4), .val (.ref b2), .val (.long (1 : Int64)), .second, .unset, .unset, .unset, .unset, .unset] [(.ref b2)])) rfl (by rw [hml]; rfl) (argsL := [(.ref b2)]) (rest := []) (lenOf own_pd1 rfl) rfl (by show 2 * 0 + _ ≤ _; exact Nat.le_of_eq rfl) (hb hby at_107) (fun _ _ => ⟨rfl, e8, (by decide : 4 + 1 ≤ _), (by decide : 12 + 3 ≤ _)⟩)
      dsimp only [Pt.U, Pt.locs, Pt.cells, Pt.slots] at X13 l13 y13 z13 st13 hQ13
      subst l13 y13 z13
      obtain ⟨b13, rfl, Nq13, K13, ge_b13, szq13, Ex13, Ff13, Fl13⟩ := hQ13
      have NF13 := Fr.app NF8 Nq13
      refine own_go st13 ?_
      have ne_b1_b13 : b1 ≠ b13 := Nat.ne_of_lt (Nat.lt_of_lt_of_le V_b1.lt szq13)
      have ne_b2_b13 : b2 ≠ b13 := Nat.ne_of_lt (Nat.lt_of_lt_of_le V_b2.lt szq13)
      have ne_b3_b13 : b3 ≠ b13 := Nat.ne_of_lt (Nat.lt_of_lt_of_le V_b3.lt szq13)
      have ne_b4_b13 : b4 ≠ b13 := Nat.ne_of_lt (Nat.lt_of_lt_of_le V_b4.lt szq13)
      have sz_b13 : h0.size ≤ b13 := Nat.le_trans K0.1 szq13
      replace V_b1 := V_b1.keep K13 nin0
      replace V_b2 := V_b2.keep K13 nin0
      replace V_b3 := V_b3.keep K13 nin0
      replace V_b4 := V_b4.keep K13 nin0
      replace Z0 := Nat.le_trans Z0 K13.1
      replace K0 := K0.trans K13 all0
      show own_Go _ _ _ _ (T13.setTop (mkF m 110 #[.val (.int p1), .val (.int p2), .val (.int p3), .val (.int (p1 &&& (3 : Int32))), .val (.ref b1), .val (.ref b2), .val (.ref b3), .val (.ref b4), .val (.ref b2), .val (.long (1 : Int64)), .second, .unset, .unset, .unset, .unset, .unset] [(.ref b13)]))
      refine own_go (fun _ k => XS.astore X13.here hx rfl (hb hby at_110) rfl rfl (l' := #[.val (.int p1), .val (.int p2), .val (.int p3), .val (.int (p1 &&& (3 : Int32))), .val (.ref b1), .val (.ref b2), .val (.ref b3), .val (.ref b4), .val (.ref b2), .val (.long (1 : Int64)), .second, .val (.ref b13), .unset, .unset, .unset, .unset]) rfl k) ?_
      show own_Go _ _ _ _ (T13.setTop (mkF m 112 #[.val (.int p1), .val (.int p2), .val (.int p3), .val (.int (p1 &&& (3 : Int32))), .val (.ref b1), .val (.ref b2), .val (.ref b3), .val (.ref b4), .val (.ref b2), .val (.long (1 : Int64)), .second, .val (.ref b13), .unset, .unset, .unset, .unset] []))
      refine own_go (fun _ k => XS.aload X13.here hx rfl (hb hby at_112) rfl rfl k) ?_
      show own_Go _ _ _ _ (T13.setTop (mkF m 114 #[.val (.int p1), .val (.int p2), .val (.int p3), .val (.int (p1 &&& (3 : Int32))), .val (.ref b1), .val (.ref b2), .val (.ref b3), .val (.ref b4), .val (.ref b2), .val (.long (1 : Int64)), .second, .val (.ref b13), .unset, .unset, .unset, .unset] [(.ref b13)]))
      obtain ⟨cq14, kq14, q14a, q14b, q14c⟩ := isOf hZ rfl Ex13
      obtain ⟨_, _, ⟨T14, L14, k14, n14⟩, -, X14, ⟨Lc14, hQ14, l14, y14, z14⟩, st14⟩ := X13.virtualBack hx (y := (⟨"com/example/chartpost/chartpost/io/FileContent", "length", "()J"⟩ : MethodName)) (z := (⟨"com/example/chartpost/chartpost/io/FileContent", "length", "()J"⟩ : MethodName)) hown (mvT hZ (hw _ (List.mem_of_getElem? (i := 19) rfl))) (mvT hZ (hw _ (List.mem_of_getElem? (i := 20) rfl))) (notFace_of_selects (args := #[]) (mvT hZ (hw _ (List.mem_of_getElem? (i := 22) rfl)))) (mvT hZ (hw _ (List.mem_of_getElem? (i := 22) rfl))) (mvT hZ (hw _ (List.mem_of_getElem? (i := 21) rfl))) (by decide) (own_back (W := 0) (own_rmL l Z a0 hw b13 _ T13.heap n0 Z0 Fl13) hZ (hw _ (List.mem_of_getElem? (i := 23) rfl)) (hw _ (List.mem_of_getElem? (i := 3) rfl)) (by decide) (by decide)) q14a q14c (g := (mkF m 114 #[.val (.int p1), .val (.int p2), .val (.int p3), .val (.int (p1 &&& (3 : Int32))), .val (.ref b1), .val (.ref b2), .val (.ref b3), .val (.ref b4), .val (.ref b2), .val (.long (1 : Int64)), .second, .val (.ref b13), .unset, .unset, .unset, .unset] [(.ref b13)])) rfl (by rw [hml]; rfl) (Steps.refl _) (argsL := []) (rest := []) (lenOf own_pd2 rfl) rfl (by show 2 * 0 + _ ≤ _; exact Nat.le_of_eq rfl) (hb hby at_114) (fun _ _ => ⟨rfl, rfl, (by decide : 5 + 0 ≤ _), (by decide : 15 + 0 ≤ _)⟩)
      dsimp only [Pt.U, Pt.locs, Pt.cells, Pt.slots] at X14 l14 y14 z14 st14 hQ14
      subst l14 y14 z14
      obtain ⟨rfl, Nq14, eq14⟩ := hQ14
      have NF14 := Fr.app NF13 Nq14
      refine own_goT st14 ?_
      show own_Go _ _ _ _ (T14.setTop (mkF m 117 #[.val (.int p1), .val (.int p2), .val (.int p3), .val (.int (p1 &&& (3 : Int32))), .val (.ref b1), .val (.ref b2), .val (.ref b3), .val (.ref b4), .val (.ref b2), .val (.long (1 : Int64)), .second, .val (.ref b13), .unset, .unset, .unset, .unset] [(.long (1 : Int32).toInt64)]))
      refine own_go (fun _ k => XS.lstore X14.here hx rfl (hb hby at_117) rfl (l' := #[.val (.int p1), .val (.int p2), .val (.int p3), .val (.int (p1 &&& (3 : Int32))), .val (.ref b1), .val (.ref b2), .val (.ref b3), .val (.ref b4), .val (.ref b2), .val (.long (1 : Int64)), .second, .val (.ref b13), .val (.long (1 : Int32).toInt64), .second, .unset, .unset]) rfl k) ?_
      show own_Go _ _ _ _ (T14.setTop (mkF m 119 #[.val (.int p1), .val (.int p2), .val (.int p3), .val (.int (p1 &&& (3 : Int32))), .val (.ref b1), .val (.ref b2), .val (.ref b3), .val (.ref b4), .val (.ref b2), .val (.long (1 : Int64)), .second, .val (.ref b13), .val (.long (1 : Int32).toInt64), .second, .unset, .unset] []))
      refine own_go (fun _ k => XS.aload X14.here hx rfl (hb hby at_119) rfl rfl k) ?_
      show own_Go _ _ _ _ (T14.setTop (mkF m 121 #[.val (.int p1), .val (.int p2), .val (.int p3), .val (.int (p1 &&& (3 : Int32))), .val (.ref b1), .val (.ref b2), .val (.ref b3), .val (.ref b4), .val (.ref b2), .val (.long (1 : Int64)), .second, .val (.ref b13), .val (.long (1 : Int32).toInt64), .second, .unset, .unset] [(.ref b13)]))
      obtain ⟨cq15, kq15, q15a, q15b, q15c⟩ := isOf hZ eq14 Ex13
      obtain ⟨_, _, ⟨T15, L15, k15, n15⟩, -, X15, ⟨Lc15, hQ15, l15, y15, z15⟩, st15⟩ := X14.virtualBack hx (y := (⟨"com/example/chartpost/chartpost/io/FileContent", "close", "()V"⟩ : MethodName)) (z := (⟨"com/example/chartpost/chartpost/io/FileContent", "close", "()V"⟩ : MethodName)) hown (mvT hZ (hw _ (List.mem_of_getElem? (i := 24) rfl))) (mvT hZ (hw _ (List.mem_of_getElem? (i := 25) rfl))) (notFace_of_selects (args := #[]) (mvT hZ (hw _ (List.mem_of_getElem? (i := 27) rfl)))) (mvT hZ (hw _ (List.mem_of_getElem? (i := 27) rfl))) (mvT hZ (hw _ (List.mem_of_getElem? (i := 26) rfl))) (by decide) (own_back (W := 0) (own_rmC l Z a0 hw b13 T13.heap n0 Z0 Ff13) hZ (hw _ (List.mem_of_getElem? (i := 28) rfl)) (hw _ (List.mem_of_getElem? (i := 3) rfl)) (by decide) (by decide)) q15a q15c (g := (mkF m 121 #[.val (.int p1), .val (.int p2), .val (.int p3), .val (.int (p1 &&& (3 : Int32))), .val (.ref b1), .val (.ref b2), .val (.ref b3), .val (.ref b4), .val (.ref b2), .val (.long (1 : Int64)), .second, .val (.ref b13), .val (.long (1 : Int32).toInt64), .second, .unset, .unset] [(.ref b13)])) rfl (by rw [hml]; rfl) (Steps.refl _) (argsL := []) (rest := []) (lenOf own_pd3 rfl) rfl (by show 2 * 0 + _ ≤ _; exact Nat.le_of_eq rfl) (hb hby at_121) (fun _ _ => ⟨rfl, eq14, (by decide : 5 + 0 ≤ _), (by decide : 15 + 0 ≤ _)⟩)
      dsimp only [Pt.U, Pt.locs, Pt.cells, Pt.slots] at X15 l15 y15 z15 st15 hQ15
      subst l15 y15 z15
      obtain ⟨rfl, Nq15, eq15⟩ := hQ15
      have NF15 := Fr.app NF14 Nq15
      refine own_goT st15 ?_
      show own_Go _ _ _ _ (T15.setTop (mkF m 124 #[.val (.int p1), .val (.int p2), .val (.int p3), .val (.int (p1 &&& (3 : Int32))), .val (.ref b1), .val (.ref b2), .val (.ref b3), .val (.ref b4), .val (.ref b2), .val (.long (1 : Int64)), .second, .val (.ref b13), .val (.long (1 : Int32).toInt64), .second, .unset, .unset] []))
      refine own_go (fun _ k => XS.aload X15.here hx rfl (hb hby at_124) rfl rfl k) ?_
      show own_Go _ _ _ _ (T15.setTop (mkF m 126 #[.val (.int p1), .val (.int p2), .val (.int p3), .val (.int (p1 &&& (3 : Int32))), .val (.ref b1), .val (.ref b2), .val (.ref b3), .val (.ref b4), .val (.ref b2), .val (.long (1 : Int64)), .second, .val (.ref b13), .val (.long (1 : Int32).toInt64), .second, .unset, .unset] [(.ref b13)]))
      obtain ⟨cq16, kq16, q16a, q16b, q16c⟩ := isOf hZ eq15 Ex13
      obtain ⟨_, _, ⟨T16, L16, k16, n16⟩, -, X16, ⟨Lc16, hQ16, l16, y16, z16⟩, st16⟩ := X15.virtualBack hx (y := (⟨"com/example/chartpost/chartpost/io/FileContent", "length", "()J"⟩ : MethodName)) (z := (⟨"com/example/chartpost/chartpost/io/FileContent", "length", "()J"⟩ : MethodName)) hown (mvT hZ (hw _ (List.mem_of_getElem? (i := 19) rfl))) (mvT hZ (hw _ (List.mem_of_getElem? (i := 20) rfl))) (notFace_of_selects (args := #[]) (mvT hZ (hw _ (List.mem_of_getElem? (i := 22) rfl)))) (mvT hZ (hw _ (List.mem_of_getElem? (i := 22) rfl))) (mvT hZ (hw _ (List.mem_of_getElem? (i := 21) rfl))) (by decide) (own_back (W := 0) (own_rmL l Z a0 hw b13 _ T13.heap n0 Z0 Fl13) hZ (hw _ (List.mem_of_getElem? (i := 23) rfl)) (hw _ (List.mem_of_getElem? (i := 3) rfl)) (by decide) (by decide)) q16a q16c (g := (mkF m 126 #[.val (.int p1), .val (.int p2), .val (.int p3), .val (.int (p1 &&& (3 : Int32))), .val (.ref b1), .val (.ref b2), .val (.ref b3), .val (.ref b4), .val (.ref b2), .val (.long (1 : Int64)), .second, .val (.ref b13), .val (.long (1 : Int32).toInt64), .second, .unset, .unset] [(.ref b13)])) rfl (by rw [hml]; rfl) (Steps.refl _) (argsL := []) (rest := []) (lenOf own_pd2 rfl) rfl (by show 2 * 0 + _ ≤ _; exact Nat.le_of_eq rfl) (hb hby at_126) (fun _ _ => ⟨rfl, eq15, (by decide : 5 + 0 ≤ _), (by decide : 15 + 0 ≤ _)⟩)
      dsimp only [Pt.U, Pt.locs, Pt.cells, Pt.slots] at X16 l16 y16 z16 st16 hQ16
      subst l16 y16 z16
      obtain ⟨rfl, Nq16, eq16⟩ := hQ16
      have NF16 := Fr.app NF15 Nq16
      refine own_goT st16 ?_
      show own_Go _ _ _ _ (T16.setTop (mkF m 129 #[.val (.int p1), .val (.int p2), .val (.int p3), .val (.int (p1 &&& (3 : Int32))), .val (.ref b1), .val (.ref b2), .val (.ref b3), .val (.ref b4), .val (.ref b2), .val (.long (1 : Int64)), .second, .val (.ref b13), .val (.long (1 : Int32).toInt64), .second, .unset, .unset] [(.long (1 : Int32).toInt64)]))
      refine own_go (fun _ k => XS.lstore X16.here hx rfl (hb hby at_129) rfl (l' := #[.val (.int p1), .val (.int p2), .val (.int p3), .val (.int (p1 &&& (3 : Int32))), .val (.ref b1), .val (.ref b2), .val (.ref b3), .val (.ref b4), .val (.ref b2), .val (.long (1 : Int64)), .second, .val (.ref b13), .val (.long (1 : Int32).toInt64), .second, .val (.long (1 : Int32).toInt64), .second]) rfl k) ?_
      show own_Go _ _ _ _ (T16.setTop (mkF m 131 #[.val (.int p1), .val (.int p2), .val (.int p3), .val (.int (p1 &&& (3 : Int32))), .val (.ref b1), .val (.ref b2), .val (.ref b3), .val (.ref b4), .val (.ref b2), .val (.long (1 : Int64)), .second, .val (.ref b13), .val (.long (1 : Int32).toInt64), .second, .val (.long (1 : Int32).toInt64), .second] []))
      refine own_go (fun _ k => XS.lload X16.here hx rfl (hb hby at_131) rfl k) ?_
      show own_Go _ _ _ _ (T16.setTop (mkF m 133 #[.val (.int p1), .val (.int p2), .val (.int p3), .val (.int (p1 &&& (3 : Int32))), .val (.ref b1), .val (.ref b2), .val (.ref b3), .val (.ref b4), .val (.ref b2), .val (.long (1 : Int64)), .second, .val (.ref b13), .val (.long (1 : Int32).toInt64), .second, .val (.long (1 : Int32).toInt64), .second] [(.long (1 : Int32).toInt64)]))
      refine own_go (fun _ k => XS.lload X16.here hx rfl (hb hby at_133) rfl k) ?_
      show own_Go _ _ _ _ (T16.setTop (mkF m 135 #[.val (.int p1), .val (.int p2), .val (.int p3), .val (.int (p1 &&& (3 : Int32))), .val (.ref b1), .val (.ref b2), .val (.ref b3), .val (.ref b4), .val (.ref b2), .val (.long (1 : Int64)), .second, .val (.ref b13), .val (.long (1 : Int32).toInt64), .second, .val (.long (1 : Int32).toInt64), .second] [(.long (1 : Int64)), (.long (1 : Int32).toInt64)]))
      refine own_go (fun _ k => XS.lcmp X16.here hx rfl (hb hby at_135) rfl k) ?_
      show own_Go _ _ _ _ (T16.setTop (mkF m 136 #[.val (.int p1), .val (.int p2), .val (.int p3), .val (.int (p1 &&& (3 : Int32))), .val (.ref b1), .val (.ref b2), .val (.ref b3), .val (.ref b4), .val (.ref b2), .val (.long (1 : Int64)), .second, .val (.ref b13), .val (.long (1 : Int32).toInt64), .second, .val (.long (1 : Int32).toInt64), .second] [(.int (lcmpW (1 : Int32).toInt64 (1 : Int64)))]))
      refine own_go (fun _ k => XS.ifNo X16.here hx rfl (hb hby at_136) rfl ((if0 _ _).trans (teq ((lw_eq _ _).mpr (by decide))).2) k) ?_
      show own_Go _ _ _ _ (T16.setTop (mkF m 139 #[.val (.int p1), .val (.int p2), .val (.int p3), .val (.int (p1 &&& (3 : Int32))), .val (.ref b1), .val (.ref b2), .val (.ref b3), .val (.ref b4), .val (.ref b2), .val (.long (1 : Int64)), .second, .val (.ref b13), .val (.long (1 : Int32).toInt64), .second, .val (.long (1 : Int32).toInt64), .second] []))
      refine own_go (fun _ k => XS.lload X16.here hx rfl (hb hby at_139) rfl k) ?_
      show own_Go _ _ _ _ (T16.setTop (mkF m 141 #[.val (.int p1), .val (.int p2), .val (.int p3), .val (.int (p1 &&& (3 : Int32))), .val (.ref b1), .val (.ref b2), .val (.ref b3), .val (.ref b4), .val (.ref b2), .val (.long (1 : Int64)), .second, .val (.ref b13), .val (.long (1 : Int32).toInt64), .second, .val (.long (1 : Int32).toInt64), .second] [(.long (1 : Int32).toInt64)]))
      refine own_go (fun _ k => XS.lload X16.here hx rfl (hb hby at_141) rfl k) ?_
      show own_Go _ _ _ _ (T16.setTop (mkF m 143 #[.val (.int p1), .val (.int p2), .val (.int p3), .val (.int (p1 &&& (3 : Int32))), .val (.ref b1), .val (.ref b2), .val (.ref b3), .val (.ref b4), .val (.ref b2), .val (.long (1 : Int64)), .second, .val (.ref b13), .val (.long (1 : Int32).toInt64), .second, .val (.long (1 : Int32).toInt64), .second] [(.long (1 : Int64)), (.long (1 : Int32).toInt64)]))
      refine own_go (fun _ k => XS.lcmp X16.here hx rfl (hb hby at_143) rfl k) ?_
      show own_Go _ _ _ _ (T16.setTop (mkF m 144 #[.val (.int p1), .val (.int p2), .val (.int p3), .val (.int (p1 &&& (3 : Int32))), .val (.ref b1), .val (.ref b2), .val (.ref b3), .val (.ref b4), .val (.ref b2), .val (.long (1 : Int64)), .second, .val (.ref b13), .val (.long (1 : Int32).toInt64), .second, .val (.long (1 : Int32).toInt64), .second] [(.int (lcmpW (1 : Int32).toInt64 (1 : Int64)))]))
      refine own_go (fun _ k => XS.ifNo X16.here hx rfl (hb hby at_144) rfl ((if0 _ _).trans (teq ((lw_eq _ _).mpr (by decide))).2) k) ?_
      show own_Go _ _ _ _ (T16.setTop (mkF m 147 #[.val (.int p1), .val (.int p2), .val (.int p3), .val (.int (p1 &&& (3 : Int32))), .val (.ref b1), .val (.ref b2), .val (.ref b3), .val (.ref b4), .val (.ref b2), .val (.long (1 : Int64)), .second, .val (.ref b13), .val (.long (1 : Int32).toInt64), .second, .val (.long (1 : Int32).toInt64), .second] []))
      refine own_go (fun _ k => XS.iconst X16.here hx rfl (hb hby at_147) k) ?_
      show own_Go _ _ _ _ (T16.setTop (mkF m 148 #[.val (.int p1), .val (.int p2), .val (.int p3), .val (.int (p1 &&& (3 : Int32))), .val (.ref b1), .val (.ref b2), .val (.ref b3), .val (.ref b4), .val (.ref b2), .val (.long (1 : Int64)), .second, .val (.ref b13), .val (.long (1 : Int32).toInt64), .second, .val (.long (1 : Int32).toInt64), .second] [(.int (1 : Int32))]))
      refine own_go (fun _ k => XS.goto X16.here hx rfl (pc0 := 148) (pc' := 152) rfl (hb hby at_148) (by decide) (by decide) k) ?_
      show own_Go _ _ _ _ (T16.setTop (mkF m 152 #[.val (.int p1), .val (.int p2), .val (.int p3), .val (.int (p1 &&& (3 : Int32))), .val (.ref b1), .val (.ref b2), .val (.ref b3), .val (.ref b4), .val (.ref b2), .val (.long (1 : Int64)), .second, .val (.ref b13), .val (.long (1 : Int32).toInt64), .second, .val (.long (1 : Int32).toInt64), .second] [(.int (1 : Int32))]))
      refine own_ret X16 hlk (v := some (.int (1 : Int32))) (fun h => by rw [Bd.returns] at h; cases h) (fun fs hr => retN X16 hx (t := .boolean) Bd.returns (by simp) (hb hby at_152) hr) ?_ (by decide) (by decide)
      try rw [eq16]
      exact ⟨rfl, NF16⟩
    · have _h := hc66
      refine own_go (fun _ k => XS.icmpYes X8.here hx rfl (pc0 := 66) (pc' := 79) rfl (hb hby at_66) rfl (feq hc66).2 (by decide) (by decide) k) ?_
      show own_Go _ _ _ _ (T8.setTop (mkF m 79 #[.val (.int p1), .val (.int p2), .val (.int p3), .val (.int (p1 &&& (3 : Int32))), .val (.ref b1), .val (.ref b2), .val (.ref b3), .val (.ref b4), .unset, .unset, .unset, .unset, .unset, .unset, .unset, .unset] []))
      refine own_go (fun _ k => XS.iloadN X8.here hx rfl (hb hby at_79) rfl k) ?_
      show own_Go _ _ _ _ (T8.setTop (mkF m 80 #[.val (.int p1), .val (.int p2), .val (.int p3), .val (.int (p1 &&& (3 : Int32))), .val (.ref b1), .val (.ref b2), .val (.ref b3), .val (.ref b4), .unset, .unset, .unset, .unset, .unset, .unset, .unset, .unset] [(.int (p1 &&& (3 : Int32)))]))
      refine own_go (fun _ k => XS.iconst X8.here hx rfl (hb hby at_80) k) ?_
      show own_Go _ _ _ _ (T8.setTop (mkF m 81 #[.val (.int p1), .val (.int p2), .val (.int p3), .val (.int (p1 &&& (3 : Int32))), .val (.ref b1), .val (.ref b2), .val (.ref b3), .val (.ref b4), .unset, .unset, .unset, .unset, .unset, .unset, .unset, .unset] [(.int (2 : Int32)), (.int (p1 &&& (3 : Int32)))]))
      by_cases hc81 : (p1 &&& (3 : Int32)) = (2 : Int32)
      · have _h := hc81
        refine own_go (fun _ k => XS.icmpNo X8.here hx rfl (hb hby at_81) rfl (teq hc81).2 k) ?_
        show own_Go _ _ _ _ (T8.setTop (mkF m 84 #[.val (.int p1), .val (.int p2), .val (.int p3), .val (.int (p1 &&& (3 : Int32))), .val (.ref b1), .val (.ref b2), .val (.ref b3), .val (.ref b4), .unset, .unset, .unset, .unset, .unset, .unset, .unset, .unset] []))
        refine own_go (fun _ k => XS.aload X8.here hx rfl (hb hby at_84) rfl rfl k) ?_
        show own_Go _ _ _ _ (T8.setTop (mkF m 86 #[.val (.int p1), .val (.int p2), .val (.int p3), .val (.int (p1 &&& (3 : Int32))), .val (.ref b1), .val (.ref b2), .val (.ref b3), .val (.ref b4), .unset, .unset, .unset, .unset, .unset, .unset, .unset, .unset] [(.ref b3)]))
        refine own_go (fun _ k => XS.astore X8.here hx rfl (hb hby at_86) rfl rfl (l' := #[.val (.int p1), .val (.int p2), .val (.int p3), .val (.int (p1 &&& (3 : Int32))), .val (.ref b1), .val (.ref b2), .val (.ref b3), .val (.ref b4), .val (.ref b3), .unset, .unset, .unset, .unset, .unset, .unset, .unset]) rfl k) ?_
        show own_Go _ _ _ _ (T8.setTop (mkF m 88 #[.val (.int p1), .val (.int p2), .val (.int p3), .val (.int (p1 &&& (3 : Int32))), .val (.ref b1), .val (.ref b2), .val (.ref b3), .val (.ref b4), .val (.ref b3), .unset, .unset, .unset, .unset, .unset, .unset, .unset] []))
        refine own_go (X8.ldc2Long hx hown (mvT hZ (hw _ (List.mem_of_getElem? (i := 30) rfl))) (g := (mkF m 88 #[.val (.int p1), .val (.int p2), .val (.int p3), .val (.int (p1 &&& (3 : Int32))), .val (.ref b1), .val (.ref b2), .val (.ref b3), .val (.ref b4), .val (.ref b3), .unset, .unset, .unset, .unset, .unset, .unset, .unset] [])) rfl (hb hby at_88)) ?_
        show own_Go _ _ _ _ (T8.setTop (mkF m 91 #[.val (.int p1), .val (.int p2), .val (.int p3), .val (.int (p1 &&& (3 : Int32))), .val (.ref b1), .val (.ref b2), .val (.ref b3), .val (.ref b4), .val (.ref b3), .unset, .unset, .unset, .unset, .unset, .unset, .unset] [(.long (3 : Int64))]))
        refine own_go (fun _ k => XS.lstore X8.here hx rfl (hb hby at_91) rfl (l' := #[.val (.int p1), .val (.int p2), .val (.int p3), .val (.int (p1 &&& (3 : Int32))), .val (.ref b1), .val (.ref b2), .val (.ref b3), .val (.ref b4), .val (.ref b3), .val (.long (3 : Int64)), .second, .unset, .unset, .unset, .unset, .unset]) rfl k) ?_
        show own_Go _ _ _ _ (T8.setTop (mkF m 93 #[.val (.int p1), .val (.int p2), .val (.int p3), .val (.int (p1 &&& (3 : Int32))), .val (.ref b1), .val (.ref b2), .val (.ref b3), .val (.ref b4), .val (.ref b3), .val (.long (3 : Int64)), .second, .unset, .unset, .unset, .unset, .unset] []))
        refine own_go (fun _ k => XS.goto X8.here hx rfl (pc0 := 93) (pc' := 105) rfl (hb hby at_93) (by decide) (by decide) k) ?_
        show own_Go _ _ _ _ (T8.setTop (mkF m 105 #[.val (.int p1), .val (.int p2), .val (.int p3), .val (.int (p1 &&& (3 : Int32))), .val (.ref b1), .val (.ref b2), .val (.ref b3), .val (.ref b4), .val (.ref b3), .val (.long (3 : Int64)), .second, .unset, .unset, .unset, .unset, .unset] []))
        refine own_go (fun _ k => XS.aload X8.here hx rfl (hb hby at_105) rfl rfl k) ?_
        show own_Go _ _ _ _ (T8.setTop (mkF m 107 #[.val (.int p1), .val (.int p2), .val (.int p3), .val (.int (p1 &&& (3 : Int32))), .val (.ref b1), .val (.ref b2), .val (.ref b3), .val (.ref b4), .val (.ref b3), .val (.long (3 : Int64)), .second, .unset, .unset, .unset, .unset, .unset] [(.ref b3)]))
        obtain ⟨_, _, ⟨T17, L17, k17, n17⟩, -, X17, ⟨Lc17, hQ17, l17, y17, z17⟩, st17⟩ := Jvm.LawKit.callS X8 hx (y := (⟨"com/example/chartpost/chartpost/io/FileContent", "of", "([B)Lcom/example/chartpost/chartpost/io/FileContent;"⟩ : MethodName)) hown (mvT hZ (hw _ (List.mem_of_getElem? (i := 1) rfl))) (mvT hZ (hw _ (List.mem_of_getElem? (i := 2) rfl))) (mvT hZ (hw _ (List.mem_of_getElem? (i := 3) rfl))) (mvT hZ (hw _ (List.mem_of_getElem? (i := 4) rfl))) (by decide) (own_back (W := 0) (own_rmO l Z a0 hw b3 _ _ _ _ h8 n0 Z0 V_b3) hZ (hw _ (List.mem_of_getElem? (i := 4) rfl)) (hw _ (List.mem_of_getElem? (i := 3) rfl)) (by decide) (by decide)) (g := (mkF m 107 #[.val (.int p1), .val (.int p2), .val (.int p3), .val (.int (p1 &&& (3 : Int32))), .val (.ref b1), .val (.ref b2), .val (.ref b3), .val (.ref b4), .val (.ref b3), .val (.long (3 : Int64)), .second, .unset, .unset, .unset, .unset, .unset] [(.ref b3)])) rfl (by rw [hml]; rfl) (argsL := [(.ref b3)]) (rest := []) (lenOf own_pd1 rfl) rfl (by show 2 * 0 + _ ≤ _; exact Nat.le_of_eq rfl) (hb hby at_107) (fun _ _ => ⟨rfl, e8, (by decide : 4 + 1 ≤ _), (by decide : 12 + 3 ≤ _)⟩)
        dsimp only [Pt.U, Pt.locs, Pt.cells, Pt.slots] at X17 l17 y17 z17 st17 hQ17
        subst l17 y17 z17
        obtain ⟨b17, rfl, Nq17, K17, ge_b17, szq17, Ex17, Ff17, Fl17⟩ := hQ17
        have NF17 := Fr.app NF8 Nq17
        refine own_go st17 ?_
        have ne_b1_b17 : b1 ≠ b17 := Nat.ne_of_lt (Nat.lt_of_lt_of_le V_b1.lt szq17)
        have ne_b2_b17 : b2 ≠ b17 := Nat.ne_of_lt (Nat.lt_of_lt_of_le V_b2.lt szq17)
        have ne_b3_b17 : b3 ≠ b17 := Nat.ne_of_lt (Nat.lt_of_lt_of_le V_b3.lt szq17)
        have ne_b4_b17 : b4 ≠ b17 := Nat.ne_of_lt (Nat.lt_of_lt_of_le V_b4.lt szq17)
        have sz_b17 : h0.size ≤ b17 := Nat.le_trans K0.1 szq17
        replace V_b1 := V_b1.keep K17 nin0
        replace V_b2 := V_b2.keep K17 nin0
        replace V_b3 := V_b3.keep K17 nin0
        replace V_b4 := V_b4.keep K17 nin0
        replace Z0 := Nat.le_trans Z0 K17.1
        replace K0 := K0.trans K17 all0
        show own_Go _ _ _ _ (T17.setTop (mkF m 110 #[.val (.int p1), .val (.int p2), .val (.int p3), .val (.int (p1 &&& (3 : Int32))), .val (.ref b1), .val (.ref b2), .val (.ref b3), .val (.ref b4), .val (.ref b3), .val (.long (3 : Int64)), .second, .unset, .unset, .unset, .unset, .unset] [(.ref b17)]))
        refine own_go (fun _ k => XS.astore X17.here hx rfl (hb hby at_110) rfl rfl (l' := #[.val (.int p1), .val (.int p2), .val (.int p3), .val (.int (p1 &&& (3 : Int32))), .val (.ref b1), .val (.ref b2), .val (.ref b3), .val (.ref b4), .val (.ref b3), .val (.long (3 : Int64)), .second, .val (.ref b17), .unset, .unset, .unset, .unset]) rfl k) ?_
        show own_Go _ _ _ _ (T17.setTop (mkF m 112 #[.val (.int p1), .val (.int p2), .val (.int p3), .val (.int (p1 &&& (3 : Int32))), .val (.ref b1), .val (.ref b2), .val (.ref b3), .val (.ref b4), .val (.ref b3), .val (.long (3 : Int64)), .second, .val (.ref b17), .unset, .unset, .unset, .unset] []))
        refine own_go (fun _ k => XS.aload X17.here hx rfl (hb hby at_112) rfl rfl k) ?_
        show own_Go _ _ _ _ (T17.setTop (mkF m 114 #[.val (.int p1), .val (.int p2), .val (.int p3), .val (.int (p1 &&& (3 : Int32))), .val (.ref b1), .val (.ref b2), .val (.ref b3), .val (.ref b4), .val (.ref b3), .val (.long (3 : Int64)), .second, .val (.ref b17), .unset, .unset, .unset, .unset] [(.ref b17)]))
        obtain ⟨cq18, kq18, q18a, q18b, q18c⟩ := isOf hZ rfl Ex17
        obtain ⟨_, _, ⟨T18, L18, k18, n18⟩, -, X18, ⟨Lc18, hQ18, l18, y18, z18⟩, st18⟩ := X17.virtualBack hx (y := (⟨"com/example/chartpost/chartpost/io/FileContent", "length", "()J"⟩ : MethodName)) (z := (⟨"com/example/chartpost/chartpost/io/FileContent", "length", "()J"⟩ : MethodName)) hown (mvT hZ (hw _ (List.mem_of_getElem? (i := 19) rfl))) (mvT hZ (hw _ (List.mem_of_getElem? (i := 20) rfl))) (notFace_of_selects (args := #[]) (mvT hZ (hw _ (List.mem_of_getElem? (i := 22) rfl)))) (mvT hZ (hw _ (List.mem_of_getElem? (i := 22) rfl))) (mvT hZ (hw _ (List.mem_of_getElem? (i := 21) rfl))) (by decide) (own_back (W := 0) (own_rmL l Z a0 hw b17 _ T17.heap n0 Z0 Fl17) hZ (hw _ (List.mem_of_getElem? (i := 23) rfl)) (hw _ (List.mem_of_getElem? (i := 3) rfl)) (by decide) (by decide)) q18a q18c (g := (mkF m 114 #[.val (.int p1), .val (.int p2), .val (.int p3), .val (.int (p1 &&& (3 : Int32))), .val (.ref b1), .val (.ref b2), .val (.ref b3), .val (.ref b4), .val (.ref b3), .val (.long (3 : Int64)), .second, .val (.ref b17), .unset, .unset, .unset, .unset] [(.ref b17)])) rfl (by rw [hml]; rfl) (Steps.refl _) (argsL := []) (rest := []) (lenOf own_pd2 rfl) rfl (by show 2 * 0 + _ ≤ _; exact Nat.le_of_eq rfl) (hb hby at_114) (fun _ _ => ⟨rfl, rfl, (by decide : 5 + 0 ≤ _), (by decide : 15 + 0 ≤ _)⟩)
        dsimp only [Pt.U, Pt.locs, Pt.cells, Pt.slots] at X18 l18 y18 z18 st18 hQ18
        subst l18 y18 z18
        obtain ⟨rfl, Nq18, eq18⟩ := hQ18
        have NF18 := Fr.app NF17 Nq18
        refine own_goT st18 ?_
        show own_Go _ _ _ _ (T18.setTop (mkF m 117 #[.val (.int p1), .val (.int p2), .val (.int p3), .val (.int (p1 &&& (3 : Int32))), .val (.ref b1), .val (.ref b2), .val (.ref b3), .val (.ref b4), .val (.ref b3), .val (.long (3 : Int64)), .second, .val (.ref b17), .unset, .unset, .unset, .unset] [(.long (3 : Int32).toInt64)]))
        refine own_go (fun _ k => XS.lstore X18.here hx rfl (hb hby at_117) rfl (l' := #[.val (.int p1), .val (.int p2), .val (.int p3), .val (.int (p1 &&& (3 : Int32))), .val (.ref b1), .val (.ref b2), .val (.ref b3), .val (.ref b4), .val (.ref b3), .val (.long (3 : Int64)), .second, .val (.ref b17), .val (.long (3 : Int32).toInt64), .second, .unset, .unset]) rfl k) ?_
        show own_Go _ _ _ _ (T18.setTop (mkF m 119 #[.val (.int p1), .val (.int p2), .val (.int p3), .val (.int (p1 &&& (3 : Int32))), .val (.ref b1), .val (.ref b2), .val (.ref b3), .val (.ref b4), .val (.ref b3), .val (.long (3 : Int64)), .second, .val (.ref b17), .val (.long (3 : Int32).toInt64), .second, .unset, .unset] []))
        refine own_go (fun _ k => XS.aload X18.here hx rfl (hb hby at_119) rfl rfl k) ?_
        show own_Go _ _ _ _ (T18.setTop (mkF m 121 #[.val (.int p1), .val (.int p2), .val (.int p3), .val (.int (p1 &&& (3 : Int32))), .val (.ref b1), .val (.ref b2), .val (.ref b3), .val (.ref b4), .val (.ref b3), .val (.long (3 : Int64)), .second, .val (.ref b17), .val (.long (3 : Int32).toInt64), .second, .unset, .unset] [(.ref b17)]))
        obtain ⟨cq19, kq19, q19a, q19b, q19c⟩ := isOf hZ eq18 Ex17
        obtain ⟨_, _, ⟨T19, L19, k19, n19⟩, -, X19, ⟨Lc19, hQ19, l19, y19, z19⟩, st19⟩ := X18.virtualBack hx (y := (⟨"com/example/chartpost/chartpost/io/FileContent", "close", "()V"⟩ : MethodName)) (z := (⟨"com/example/chartpost/chartpost/io/FileContent", "close", "()V"⟩ : MethodName)) hown (mvT hZ (hw _ (List.mem_of_getElem? (i := 24) rfl))) (mvT hZ (hw _ (List.mem_of_getElem? (i := 25) rfl))) (notFace_of_selects (args := #[]) (mvT hZ (hw _ (List.mem_of_getElem? (i := 27) rfl)))) (mvT hZ (hw _ (List.mem_of_getElem? (i := 27) rfl))) (mvT hZ (hw _ (List.mem_of_getElem? (i := 26) rfl))) (by decide) (own_back (W := 0) (own_rmC l Z a0 hw b17 T17.heap n0 Z0 Ff17) hZ (hw _ (List.mem_of_getElem? (i := 28) rfl)) (hw _ (List.mem_of_getElem? (i := 3) rfl)) (by decide) (by decide)) q19a q19c (g := (mkF m 121 #[.val (.int p1), .val (.int p2), .val (.int p3), .val (.int (p1 &&& (3 : Int32))), .val (.ref b1), .val (.ref b2), .val (.ref b3), .val (.ref b4), .val (.ref b3), .val (.long (3 : Int64)), .second, .val (.ref b17), .val (.long (3 : Int32).toInt64), .second, .unset, .unset] [(.ref b17)])) rfl (by rw [hml]; rfl) (Steps.refl _) (argsL := []) (rest := []) (lenOf own_pd3 rfl) rfl (by show 2 * 0 + _ ≤ _; exact Nat.le_of_eq rfl) (hb hby at_121) (fun _ _ => ⟨rfl, eq18, (by decide : 5 + 0 ≤ _), (by decide : 15 + 0 ≤ _)⟩)
        dsimp only [Pt.U, Pt.locs, Pt.cells, Pt.slots] at X19 l19 y19 z19 st19 hQ19
        subst l19 y19 z19
        obtain ⟨rfl, Nq19, eq19⟩ := hQ19
        have NF19 := Fr.app NF18 Nq19
        refine own_goT st19 ?_
        show own_Go _ _ _ _ (T19.setTop (mkF m 124 #[.val (.int p1), .val (.int p2), .val (.int p3), .val (.int (p1 &&& (3 : Int32))), .val (.ref b1), .val (.ref b2), .val (.ref b3), .val (.ref b4), .val (.ref b3), .val (.long (3 : Int64)), .second, .val (.ref b17), .val (.long (3 : Int32).toInt64), .second, .unset, .unset] []))
        refine own_go (fun _ k => XS.aload X19.here hx rfl (hb hby at_124) rfl rfl k) ?_
        show own_Go _ _ _ _ (T19.setTop (mkF m 126 #[.val (.int p1), .val (.int p2), .val (.int p3), .val (.int (p1 &&& (3 : Int32))), .val (.ref b1), .val (.ref b2), .val (.ref b3), .val (.ref b4), .val (.ref b3), .val (.long (3 : Int64)), .second, .val (.ref b17), .val (.long (3 : Int32).toInt64), .second, .unset, .unset] [(.ref b17)]))
        obtain ⟨cq20, kq20, q20a, q20b, q20c⟩ := isOf hZ eq19 Ex17
        obtain ⟨_, _, ⟨T20, L20, k20, n20⟩, -, X20, ⟨Lc20, hQ20, l20, y20, z20⟩, st20⟩ := X19.virtualBack hx (y := (⟨"com/example/chartpost/chartpost/io/FileContent", "length", "()J"⟩ : MethodName)) (z := (⟨"com/example/chartpost/chartpost/io/FileContent", "length", "()J"⟩ : MethodName)) hown (mvT hZ (hw _ (List.mem_of_getElem? (i := 19) rfl))) (mvT hZ (hw _ (List.mem_of_getElem? (i := 20) rfl))) (notFace_of_selects (args := #[]) (mvT hZ (hw _ (List.mem_of_getElem? (i := 22) rfl)))) (mvT hZ (hw _ (List.mem_of_getElem? (i := 22) rfl))) (mvT hZ (hw _ (List.mem_of_getElem? (i := 21) rfl))) (by decide) (own_back (W := 0) (own_rmL l Z a0 hw b17 _ T17.heap n0 Z0 Fl17) hZ (hw _ (List.mem_of_getElem? (i := 23) rfl)) (hw _ (List.mem_of_getElem? (i := 3) rfl)) (by decide) (by decide)) q20a q20c (g := (mkF m 126 #[.val (.int p1), .val (.int p2), .val (.int p3), .val (.int (p1 &&& (3 : Int32))), .val (.ref b1), .val (.ref b2), .val (.ref b3), .val (.ref b4), .val (.ref b3), .val (.long (3 : Int64)), .second, .val (.ref b17), .val (.long (3 : Int32).toInt64), .second, .unset, .unset] [(.ref b17)])) rfl (by rw [hml]; rfl) (Steps.refl _) (argsL := []) (rest := []) (lenOf own_pd2 rfl) rfl (by show 2 * 0 + _ ≤ _; exact Nat.le_of_eq rfl) (hb hby at_126) (fun _ _ => ⟨rfl, eq19, (by decide : 5 + 0 ≤ _), (by decide : 15 + 0 ≤ _)⟩)
        dsimp only [Pt.U, Pt.locs, Pt.cells, Pt.slots] at X20 l20 y20 z20 st20 hQ20
        subst l20 y20 z20
        obtain ⟨rfl, Nq20, eq20⟩ := hQ20
        have NF20 := Fr.app NF19 Nq20
        refine own_goT st20 ?_
        show own_Go _ _ _ _ (T20.setTop (mkF m 129 #[.val (.int p1), .val (.int p2), .val (.int p3), .val (.int (p1 &&& (3 : Int32))), .val (.ref b1), .val (.ref b2), .val (.ref b3), .val (.ref b4), .val (.ref b3), .val (.long (3 : Int64)), .second, .val (.ref b17), .val (.long (3 : Int32).toInt64), .second, .unset, .unset] [(.long (3 : Int32).toInt64)]))
        refine own_go (fun _ k => XS.lstore X20.here hx rfl (hb hby at_129) rfl (l' := #[.val (.int p1), .val (.int p2), .val (.int p3), .val (.int (p1 &&& (3 : Int32))), .val (.ref b1), .val (.ref b2), .val (.ref b3), .val (.ref b4), .val (.ref b3), .val (.long (3 : Int64)), .second, .val (.ref b17), .val (.long (3 : Int32).toInt64), .second, .val (.long (3 : Int32).toInt64), .second]) rfl k) ?_
        show own_Go _ _ _ _ (T20.setTop (mkF m 131 #[.val (.int p1), .val (.int p2), .val (.int p3), .val (.int (p1 &&& (3 : Int32))), .val (.ref b1), .val (.ref b2), .val (.ref b3), .val (.ref b4), .val (.ref b3), .val (.long (3 : Int64)), .second, .val (.ref b17), .val (.long (3 : Int32).toInt64), .second, .val (.long (3 : Int32).toInt64), .second] []))
        refine own_go (fun _ k => XS.lload X20.here hx rfl (hb hby at_131) rfl k) ?_
        show own_Go _ _ _ _ (T20.setTop (mkF m 133 #[.val (.int p1), .val (.int p2), .val (.int p3), .val (.int (p1 &&& (3 : Int32))), .val (.ref b1), .val (.ref b2), .val (.ref b3), .val (.ref b4), .val (.ref b3), .val (.long (3 : Int64)), .second, .val (.ref b17), .val (.long (3 : Int32).toInt64), .second, .val (.long (3 : Int32).toInt64), .second] [(.long (3 : Int32).toInt64)]))
        refine own_go (fun _ k => XS.lload X20.here hx rfl (hb hby at_133) rfl k) ?_
        show own_Go _ _ _ _ (T20.setTop (mkF m 135 #[.val (.int p1), .val (.int p2), .val (.int p3), .val (.int (p1 &&& (3 : Int32))), .val (.ref b1), .val (.ref b2), .val (.ref b3), .val (.ref b4), .val (.ref b3), .val (.long (3 : Int64)), .second, .val (.ref b17), .val (.long (3 : Int32).toInt64), .second, .val (.long (3 : Int32).toInt64), .second] [(.long (3 : Int64)), (.long (3 : Int32).toInt64)]))
        refine own_go (fun _ k => XS.lcmp X20.here hx rfl (hb hby at_135) rfl k) ?_
        show own_Go _ _ _ _ (T20.setTop (mkF m 136 #[.val (.int p1), .val (.int p2), .val (.int p3), .val (.int (p1 &&& (3 : Int32))), .val (.ref b1), .val (.ref b2), .val (.ref b3), .val (.ref b4), .val (.ref b3), .val (.long (3 : Int64)), .second, .val (.ref b17), .val (.long (3 : Int32).toInt64), .second, .val (.long (3 : Int32).toInt64), .second] [(.int (lcmpW (3 : Int32).toInt64 (3 : Int64)))]))
        refine own_go (fun _ k => XS.ifNo X20.here hx rfl (hb hby at_136) rfl ((if0 _ _).trans (teq ((lw_eq _ _).mpr (by decide))).2) k) ?_
        show own_Go _ _ _ _ (T20.setTop (mkF m 139 #[.val (.int p1), .val (.int p2), .val (.int p3), .val (.int (p1 &&& (3 : Int32))), .val (.ref b1), .val (.ref b2), .val (.ref b3), .val (.ref b4), .val (.ref b3), .val (.long (3 : Int64)), .second, .val (.ref b17), .val (.long (3 : Int32).toInt64), .second, .val (.long (3 : Int32).toInt64), .second] []))
        refine own_go (fun _ k => XS.lload X20.here hx rfl (hb hby at_139) rfl k) ?_
        show own_Go _ _ _ _ (T20.setTop (mkF m 141 #[.val (.int p1), .val (.int p2), .val (.int p3), .val (.int (p1 &&& (3 : Int32))), .val (.ref b1), .val (.ref b2), .val (.ref b3), .val (.ref b4), .val (.ref b3), .val (.long (3 : Int64)), .second, .val (.ref b17), .val (.long (3 : Int32).toInt64), .second, .val (.long (3 : Int32).toInt64), .second] [(.long (3 : Int32).toInt64)]))
        refine own_go (fun _ k => XS.lload X20.here hx rfl (hb hby at_141) rfl k) ?_
        show own_Go _ _ _ _ (T20.setTop (mkF m 143 #[.val (.int p1), .val (.int p2), .val (.int p3), .val (.int (p1 &&& (3 : Int32))), .val (.ref b1), .val (.ref b2), .val (.ref b3), .val (.ref b4), .val (.ref b3), .val (.long (3 : Int64)), .second, .val (.ref b17), .val (.long (3 : Int32).toInt64), .second, .val (.long (3 : Int32).toInt64), .second] [(.long (3 : Int64)), (.long (3 : Int32).toInt64)]))
        refine own_go (fun _ k => XS.lcmp X20.here hx rfl (hb hby at_143) rfl k) ?_
        show own_Go _ _ _ _ (T20.setTop (mkF m 144 #[.val (.int p1), .val (.int p2), .val (.int p3), .val (.int (p1 &&& (3 : Int32))), .val (.ref b1), .val (.ref b2), .val (.ref b3), .val (.ref b4), .val (.ref b3), .val (.long (3 : Int64)), .second, .val (.ref b17), .val (.long (3 : Int32).toInt64), .second, .val (.long (3 : Int32).toInt64), .second] [(.int (lcmpW (3 : Int32).toInt64 (3 : Int64)))]))
        refine own_go (fun _ k => XS.ifNo X20.here hx rfl (hb hby at_144) rfl ((if0 _ _).trans (teq ((lw_eq _ _).mpr (by decide))).2) k) ?_
        show own_Go _ _ _ _ (T20.setTop (mkF m 147 #[.val (.int p1), .val (.int p2), .val (.int p3), .val (.int (p1 &&& (3 : Int32))), .val (.ref b1), .val (.ref b2), .val (.ref b3), .val (.ref b4), .val (.ref b3), .val (.long (3 : Int64)), .second, .val (.ref b17), .val (.long (3 : Int32).toInt64), .second, .val (.long (3 : Int32).toInt64), .second] []))
        refine own_go (fun _ k => XS.iconst X20.here hx rfl (hb hby at_147) k) ?_
        show own_Go _ _ _ _ (T20.setTop (mkF m 148 #[.val (.int p1), .val (.int p2), .val (.int p3), .val (.int (p1 &&& (3 : Int32))), .val (.ref b1), .val (.ref b2), .val (.ref b3), .val (.ref b4), .val (.ref b3), .val (.long (3 : Int64)), .second, .val (.ref b17), .val (.long (3 : Int32).toInt64), .second, .val (.long (3 : Int32).toInt64), .second] [(.int (1 : Int32))]))
        refine own_go (fun _ k => XS.goto X20.here hx rfl (pc0 := 148) (pc' := 152) rfl (hb hby at_148) (by decide) (by decide) k) ?_
        show own_Go _ _ _ _ (T20.setTop (mkF m 152 #[.val (.int p1), .val (.int p2), .val (.int p3), .val (.int (p1 &&& (3 : Int32))), .val (.ref b1), .val (.ref b2), .val (.ref b3), .val (.ref b4), .val (.ref b3), .val (.long (3 : Int64)), .second, .val (.ref b17), .val (.long (3 : Int32).toInt64), .second, .val (.long (3 : Int32).toInt64), .second] [(.int (1 : Int32))]))
        refine own_ret X20 hlk (v := some (.int (1 : Int32))) (fun h => by rw [Bd.returns] at h; cases h) (fun fs hr => retN X20 hx (t := .boolean) Bd.returns (by simp) (hb hby at_152) hr) ?_ (by decide) (by decide)
        try rw [eq20]
        exact ⟨rfl, NF20⟩
      · have _h := hc81
        refine own_go (fun _ k => XS.icmpYes X8.here hx rfl (pc0 := 81) (pc' := 96) rfl (hb hby at_81) rfl (feq hc81).2 (by decide) (by decide) k) ?_
        show own_Go _ _ _ _ (T8.setTop (mkF m 96 #[.val (.int p1), .val (.int p2), .val (.int p3), .val (.int (p1 &&& (3 : Int32))), .val (.ref b1), .val (.ref b2), .val (.ref b3), .val (.ref b4), .unset, .unset, .unset, .unset, .unset, .unset, .unset, .unset] []))
        refine own_go (fun _ k => XS.aload X8.here hx rfl (hb hby at_96) rfl rfl k) ?_
        show own_Go _ _ _ _ (T8.setTop (mkF m 98 #[.val (.int p1), .val (.int p2), .val (.int p3), .val (.int (p1 &&& (3 : Int32))), .val (.ref b1), .val (.ref b2), .val (.ref b3), .val (.ref b4), .unset, .unset, .unset, .unset, .unset, .unset, .unset, .unset] [(.ref b4)]))
        refine own_go (fun _ k => XS.astore X8.here hx rfl (hb hby at_98) rfl rfl (l' := #[.val (.int p1), .val (.int p2), .val (.int p3), .val (.int (p1 &&& (3 : Int32))), .val (.ref b1), .val (.ref b2), .val (.ref b3), .val (.ref b4), .val (.ref b4), .unset, .unset, .unset, .unset, .unset, .unset, .unset]) rfl k) ?_
        show own_Go _ _ _ _ (T8.setTop (mkF m 100 #[.val (.int p1), .val (.int p2), .val (.int p3), .val (.int (p1 &&& (3 : Int32))), .val (.ref b1), .val (.ref b2), .val (.ref b3), .val (.ref b4), .val (.ref b4), .unset, .unset, .unset, .unset, .unset, .unset, .unset] []))
        refine own_go (X8.ldc2Long hx hown (mvT hZ (hw _ (List.mem_of_getElem? (i := 29) rfl))) (g := (mkF m 100 #[.val (.int p1), .val (.int p2), .val (.int p3), .val (.int (p1 &&& (3 : Int32))), .val (.ref b1), .val (.ref b2), .val (.ref b3), .val (.ref b4), .val (.ref b4), .unset, .unset, .unset, .unset, .unset, .unset, .unset] [])) rfl (hb hby at_100)) ?_
        show own_Go _ _ _ _ (T8.setTop (mkF m 103 #[.val (.int p1), .val (.int p2), .val (.int p3), .val (.int (p1 &&& (3 : Int32))), .val (.ref b1), .val (.ref b2), .val (.ref b3), .val (.ref b4), .val (.ref b4), .unset, .unset, .unset, .unset, .unset, .unset, .unset] [(.long (8 : Int64))]))
        refine own_go (fun _ k => XS.lstore X8.here hx rfl (hb hby at_103) rfl (l' := #[.val (.int p1), .val (.int p2), .val (.int p3), .val (.int (p1 &&& (3 : Int32))), .val (.ref b1), .val (.ref b2), .val (.ref b3), .val (.ref b4), .val (.ref b4), .val (.long (8 : Int64)), .second, .unset, .unset, .unset, .unset, .unset]) rfl k) ?_
        show own_Go _ _ _ _ (T8.setTop (mkF m 105 #[.val (.int p1), .val (.int p2), .val (.int p3), .val (.int (p1 &&& (3 : Int32))), .val (.ref b1), .val (.ref b2), .val (.ref b3), .val (.ref b4), .val (.ref b4), .val (.long (8 : Int64)), .second, .unset, .unset, .unset, .unset, .unset] []))
        refine own_go (fun _ k => XS.aload X8.here hx rfl (hb hby at_105) rfl rfl k) ?_
        show own_Go _ _ _ _ (T8.setTop (mkF m 107 #[.val (.int p1), .val (.int p2), .val (.int p3), .val (.int (p1 &&& (3 : Int32))), .val (.ref b1), .val (.ref b2), .val (.ref b3), .val (.ref b4), .val (.ref b4), .val (.long (8 : Int64)), .second, .unset, .unset, .unset, .unset, .unset] [(.ref b4)]))
        obtain ⟨_, _, ⟨T21, L21, k21, n21⟩, -, X21, ⟨Lc21, hQ21, l21, y21, z21⟩, st21⟩ := Jvm.LawKit.callS X8 hx (y := (⟨"com/example/chartpost/chartpost/io/FileContent", "of", "([B)Lcom/example/chartpost/chartpost/io/FileContent;"⟩ : MethodName)) hown (mvT hZ (hw _ (List.mem_of_getElem? (i := 1) rfl))) (mvT hZ (hw _ (List.mem_of_getElem? (i := 2) rfl))) (mvT hZ (hw _ (List.mem_of_getElem? (i := 3) rfl))) (mvT hZ (hw _ (List.mem_of_getElem? (i := 4) rfl))) (by decide) (own_back (W := 0) (own_rmO l Z a0 hw b4 _ _ _ _ h8 n0 Z0 V_b4) hZ (hw _ (List.mem_of_getElem? (i := 4) rfl)) (hw _ (List.mem_of_getElem? (i := 3) rfl)) (by decide) (by decide)) (g := (mkF m 107 #[.val (.int p1), .val (.int p2), .val (.int p3), .val (.int (p1 &&& (3 : Int32))), .val (.ref b1), .val (.ref b2), .val (.ref b3), .val (.ref b4), .val (.ref b4), .val (.long (8 : Int64)), .second, .unset, .unset, .unset, .unset, .unset] [(.ref b4)])) rfl (by rw [hml]; rfl) (argsL := [(.ref b4)]) (rest := []) (lenOf own_pd1 rfl) rfl (by show 2 * 0 + _ ≤ _; exact Nat.le_of_eq rfl) (hb hby at_107) (fun _ _ => ⟨rfl, e8, (by decide : 4 + 1 ≤ _), (by decide : 12 + 3 ≤ _)⟩)
        dsimp only [Pt.U, Pt.locs, Pt.cells, Pt.slots] at X21 l21 y21 z21 st21 hQ21
        subst l21 y21 z21
        obtain ⟨b21, rfl, Nq21, K21, ge_b21, szq21, Ex21, Ff21, Fl21⟩ := hQ21
        have NF21 := Fr.app NF8 Nq21
        refine own_go st21 ?_
        have ne_b1_b21 : b1 ≠ b21 := Nat.ne_of_lt (Nat.lt_of_lt_of_le V_b1.lt szq21)
        have ne_b2_b21 : b2 ≠ b21 := Nat.ne_of_lt (Nat.lt_of_lt_of_le V_b2.lt szq21)
        have ne_b3_b21 : b3 ≠ b21 := Nat.ne_of_lt (Nat.lt_of_lt_of_le V_b3.lt szq21)
        have ne_b4_b21 : b4 ≠ b21 := Nat.ne_of_lt (Nat.lt_of_lt_of_le V_b4.lt szq21)
        have sz_b21 : h0.size ≤ b21 := Nat.le_trans K0.1 szq21
        replace V_b1 := V_b1.keep K21 nin0
        replace V_b2 := V_b2.keep K21 nin0
        replace V_b3 := V_b3.keep K21 nin0
        replace V_b4 := V_b4.keep K21 nin0
        replace Z0 := Nat.le_trans Z0 K21.1
        replace K0 := K0.trans K21 all0
        show own_Go _ _ _ _ (T21.setTop (mkF m 110 #[.val (.int p1), .val (.int p2), .val (.int p3), .val (.int (p1 &&& (3 : Int32))), .val (.ref b1), .val (.ref b2), .val (.ref b3), .val (.ref b4), .val (.ref b4), .val (.long (8 : Int64)), .second, .unset, .unset, .unset, .unset, .unset] [(.ref b21)]))
        refine own_go (fun _ k => XS.astore X21.here hx rfl (hb hby at_110) rfl rfl (l' := #[.val (.int p1), .val (.int p2), .val (.int p3), .val (.int (p1 &&& (3 : Int32))), .val (.ref b1), .val (.ref b2), .val (.ref b3), .val (.ref b4), .val (.ref b4), .val (.long (8 : Int64)), .second, .val (.ref b21), .unset, .unset, .unset, .unset]) rfl k) ?_
        show own_Go _ _ _ _ (T21.setTop (mkF m 112 #[.val (.int p1), .val (.int p2), .val (.int p3), .val (.int (p1 &&& (3 : Int32))), .val (.ref b1), .val (.ref b2), .val (.ref b3), .val (.ref b4), .val (.ref b4), .val (.long (8 : Int64)), .second, .val (.ref b21), .unset, .unset, .unset, .unset] []))
        refine own_go (fun _ k => XS.aload X21.here hx rfl (hb hby at_112) rfl rfl k) ?_
        show own_Go _ _ _ _ (T21.setTop (mkF m 114 #[.val (.int p1), .val (.int p2), .val (.int p3), .val (.int (p1 &&& (3 : Int32))), .val (.ref b1), .val (.ref b2), .val (.ref b3), .val (.ref b4), .val (.ref b4), .val (.long (8 : Int64)), .second, .val (.ref b21), .unset, .unset, .unset, .unset] [(.ref b21)]))
        obtain ⟨cq22, kq22, q22a, q22b, q22c⟩ := isOf hZ rfl Ex21
        obtain ⟨_, _, ⟨T22, L22, k22, n22⟩, -, X22, ⟨Lc22, hQ22, l22, y22, z22⟩, st22⟩ := X21.virtualBack hx (y := (⟨"com/example/chartpost/chartpost/io/FileContent", "length", "()J"⟩ : MethodName)) (z := (⟨"com/example/chartpost/chartpost/io/FileContent", "length", "()J"⟩ : MethodName)) hown (mvT hZ (hw _ (List.mem_of_getElem? (i := 19) rfl))) (mvT hZ (hw _ (List.mem_of_getElem? (i := 20) rfl))) (notFace_of_selects (args := #[]) (mvT hZ (hw _ (List.mem_of_getElem? (i := 22) rfl)))) (mvT hZ (hw _ (List.mem_of_getElem? (i := 22) rfl))) (mvT hZ (hw _ (List.mem_of_getElem? (i := 21) rfl))) (by decide) (own_back (W := 0) (own_rmL l Z a0 hw b21 _ T21.heap n0 Z0 Fl21) hZ (hw _ (List.mem_of_getElem? (i := 23) rfl)) (hw _ (List.mem_of_getElem? (i := 3) rfl)) (by decide) (by decide)) q22a q22c (g := (mkF m 114 #[.val (.int p1), .val (.int p2), .val (.int p3), .val (.int (p1 &&& (3 : Int32))), .val (.ref b1), .val (.ref b2), .val (.ref b3), .val (.ref b4), .val (.ref b4), .val (.long (8 : Int64)), .second, .val (.ref b21), .unset, .unset, .unset, .unset] [(.ref b21)])) rfl (by rw [hml]; rfl) (Steps.refl _) (argsL := []) (rest := []) (lenOf own_pd2 rfl) rfl (by show 2 * 0 + _ ≤ _; exact Nat.le_of_eq rfl) (hb hby at_114) (fun _ _ => ⟨rfl, rfl, (by decide : 5 + 0 ≤ _), (by decide : 15 + 0 ≤ _)⟩)
        dsimp only [Pt.U, Pt.locs, Pt.cells, Pt.slots] at X22 l22 y22 z22 st22 hQ22
        subst l22 y22 z22
        obtain ⟨rfl, Nq22, eq22⟩ := hQ22
        have NF22 := Fr.app NF21 Nq22
        refine own_goT st22 ?_
        show own_Go _ _ _ _ (T22.setTop (mkF m 117 #[.val (.int p1), .val (.int p2), .val (.int p3), .val (.int (p1 &&& (3 : Int32))), .val (.ref b1), .val (.ref b2), .val (.ref b3), .val (.ref b4), .val (.ref b4), .val (.long (8 : Int64)), .second, .val (.ref b21), .unset, .unset, .unset, .unset] [(.long (8 : Int32).toInt64)]))
        refine own_go (fun _ k => XS.lstore X22.here hx rfl (hb hby at_117) rfl (l' := #[.val (.int p1), .val (.int p2), .val (.int p3), .val (.int (p1 &&& (3 : Int32))), .val (.ref b1), .val (.ref b2), .val (.ref b3), .val (.ref b4), .val (.ref b4), .val (.long (8 : Int64)), .second, .val (.ref b21), .val (.long (8 : Int32).toInt64), .second, .unset, .unset]) rfl k) ?_
        show own_Go _ _ _ _ (T22.setTop (mkF m 119 #[.val (.int p1), .val (.int p2), .val (.int p3), .val (.int (p1 &&& (3 : Int32))), .val (.ref b1), .val (.ref b2), .val (.ref b3), .val (.ref b4), .val (.ref b4), .val (.long (8 : Int64)), .second, .val (.ref b21), .val (.long (8 : Int32).toInt64), .second, .unset, .unset] []))
        refine own_go (fun _ k => XS.aload X22.here hx rfl (hb hby at_119) rfl rfl k) ?_
        show own_Go _ _ _ _ (T22.setTop (mkF m 121 #[.val (.int p1), .val (.int p2), .val (.int p3), .val (.int (p1 &&& (3 : Int32))), .val (.ref b1), .val (.ref b2), .val (.ref b3), .val (.ref b4), .val (.ref b4), .val (.long (8 : Int64)), .second, .val (.ref b21), .val (.long (8 : Int32).toInt64), .second, .unset, .unset] [(.ref b21)]))
        obtain ⟨cq23, kq23, q23a, q23b, q23c⟩ := isOf hZ eq22 Ex21
        obtain ⟨_, _, ⟨T23, L23, k23, n23⟩, -, X23, ⟨Lc23, hQ23, l23, y23, z23⟩, st23⟩ := X22.virtualBack hx (y := (⟨"com/example/chartpost/chartpost/io/FileContent", "close", "()V"⟩ : MethodName)) (z := (⟨"com/example/chartpost/chartpost/io/FileContent", "close", "()V"⟩ : MethodName)) hown (mvT hZ (hw _ (List.mem_of_getElem? (i := 24) rfl))) (mvT hZ (hw _ (List.mem_of_getElem? (i := 25) rfl))) (notFace_of_selects (args := #[]) (mvT hZ (hw _ (List.mem_of_getElem? (i := 27) rfl)))) (mvT hZ (hw _ (List.mem_of_getElem? (i := 27) rfl))) (mvT hZ (hw _ (List.mem_of_getElem? (i := 26) rfl))) (by decide) (own_back (W := 0) (own_rmC l Z a0 hw b21 T21.heap n0 Z0 Ff21) hZ (hw _ (List.mem_of_getElem? (i := 28) rfl)) (hw _ (List.mem_of_getElem? (i := 3) rfl)) (by decide) (by decide)) q23a q23c (g := (mkF m 121 #[.val (.int p1), .val (.int p2), .val (.int p3), .val (.int (p1 &&& (3 : Int32))), .val (.ref b1), .val (.ref b2), .val (.ref b3), .val (.ref b4), .val (.ref b4), .val (.long (8 : Int64)), .second, .val (.ref b21), .val (.long (8 : Int32).toInt64), .second, .unset, .unset] [(.ref b21)])) rfl (by rw [hml]; rfl) (Steps.refl _) (argsL := []) (rest := []) (lenOf own_pd3 rfl) rfl (by show 2 * 0 + _ ≤ _; exact Nat.le_of_eq rfl) (hb hby at_121) (fun _ _ => ⟨rfl, eq22, (by decide : 5 + 0 ≤ _), (by decide : 15 + 0 ≤ _)⟩)
        dsimp only [Pt.U, Pt.locs, Pt.cells, Pt.slots] at X23 l23 y23 z23 st23 hQ23
        subst l23 y23 z23
        obtain ⟨rfl, Nq23, eq23⟩ := hQ23
        have NF23 := Fr.app NF22 Nq23
        refine own_goT st23 ?_
        show own_Go _ _ _ _ (T23.setTop (mkF m 124 #[.val (.int p1), .val (.int p2), .val (.int p3), .val (.int (p1 &&& (3 : Int32))), .val (.ref b1), .val (.ref b2), .val (.ref b3), .val (.ref b4), .val (.ref b4), .val (.long (8 : Int64)), .second, .val (.ref b21), .val (.long (8 : Int32).toInt64), .second, .unset, .unset] []))
        refine own_go (fun _ k => XS.aload X23.here hx rfl (hb hby at_124) rfl rfl k) ?_
        show own_Go _ _ _ _ (T23.setTop (mkF m 126 #[.val (.int p1), .val (.int p2), .val (.int p3), .val (.int (p1 &&& (3 : Int32))), .val (.ref b1), .val (.ref b2), .val (.ref b3), .val (.ref b4), .val (.ref b4), .val (.long (8 : Int64)), .second, .val (.ref b21), .val (.long (8 : Int32).toInt64), .second, .unset, .unset] [(.ref b21)]))
        obtain ⟨cq24, kq24, q24a, q24b, q24c⟩ := isOf hZ eq23 Ex21
        obtain ⟨_, _, ⟨T24, L24, k24, n24⟩, -, X24, ⟨Lc24, hQ24, l24, y24, z24⟩, st24⟩ := X23.virtualBack hx (y := (⟨"com/example/chartpost/chartpost/io/FileContent", "length", "()J"⟩ : MethodName)) (z := (⟨"com/example/chartpost/chartpost/io/FileContent", "length", "()J"⟩ : MethodName)) hown (mvT hZ (hw _ (List.mem_of_getElem? (i := 19) rfl))) (mvT hZ (hw _ (List.mem_of_getElem? (i := 20) rfl))) (notFace_of_selects (args := #[]) (mvT hZ (hw _ (List.mem_of_getElem? (i := 22) rfl)))) (mvT hZ (hw _ (List.mem_of_getElem? (i := 22) rfl))) (mvT hZ (hw _ (List.mem_of_getElem? (i := 21) rfl))) (by decide) (own_back (W := 0) (own_rmL l Z a0 hw b21 _ T21.heap n0 Z0 Fl21) hZ (hw _ (List.mem_of_getElem? (i := 23) rfl)) (hw _ (List.mem_of_getElem? (i := 3) rfl)) (by decide) (by decide)) q24a q24c (g := (mkF m 126 #[.val (.int p1), .val (.int p2), .val (.int p3), .val (.int (p1 &&& (3 : Int32))), .val (.ref b1), .val (.ref b2), .val (.ref b3), .val (.ref b4), .val (.ref b4), .val (.long (8 : Int64)), .second, .val (.ref b21), .val (.long (8 : Int32).toInt64), .second, .unset, .unset] [(.ref b21)])) rfl (by rw [hml]; rfl) (Steps.refl _) (argsL := []) (rest := []) (lenOf own_pd2 rfl) rfl (by show 2 * 0 + _ ≤ _; exact Nat.le_of_eq rfl) (hb hby at_126) (fun _ _ => ⟨rfl, eq23, (by decide : 5 + 0 ≤ _), (by decide : 15 + 0 ≤ _)⟩)
        dsimp only [Pt.U, Pt.locs, Pt.cells, Pt.slots] at X24 l24 y24 z24 st24 hQ24
        subst l24 y24 z24
        obtain ⟨rfl, Nq24, eq24⟩ := hQ24
        have NF24 := Fr.app NF23 Nq24
        refine own_goT st24 ?_
        show own_Go _ _ _ _ (T24.setTop (mkF m 129 #[.val (.int p1), .val (.int p2), .val (.int p3), .val (.int (p1 &&& (3 : Int32))), .val (.ref b1), .val (.ref b2), .val (.ref b3), .val (.ref b4), .val (.ref b4), .val (.long (8 : Int64)), .second, .val (.ref b21), .val (.long (8 : Int32).toInt64), .second, .unset, .unset] [(.long (8 : Int32).toInt64)]))
        refine own_go (fun _ k => XS.lstore X24.here hx rfl (hb hby at_129) rfl (l' := #[.val (.int p1), .val (.int p2), .val (.int p3), .val (.int (p1 &&& (3 : Int32))), .val (.ref b1), .val (.ref b2), .val (.ref b3), .val (.ref b4), .val (.ref b4), .val (.long (8 : Int64)), .second, .val (.ref b21), .val (.long (8 : Int32).toInt64), .second, .val (.long (8 : Int32).toInt64), .second]) rfl k) ?_
        show own_Go _ _ _ _ (T24.setTop (mkF m 131 #[.val (.int p1), .val (.int p2), .val (.int p3), .val (.int (p1 &&& (3 : Int32))), .val (.ref b1), .val (.ref b2), .val (.ref b3), .val (.ref b4), .val (.ref b4), .val (.long (8 : Int64)), .second, .val (.ref b21), .val (.long (8 : Int32).toInt64), .second, .val (.long (8 : Int32).toInt64), .second] []))
        refine own_go (fun _ k => XS.lload X24.here hx rfl (hb hby at_131) rfl k) ?_
        show own_Go _ _ _ _ (T24.setTop (mkF m 133 #[.val (.int p1), .val (.int p2), .val (.int p3), .val (.int (p1 &&& (3 : Int32))), .val (.ref b1), .val (.ref b2), .val (.ref b3), .val (.ref b4), .val (.ref b4), .val (.long (8 : Int64)), .second, .val (.ref b21), .val (.long (8 : Int32).toInt64), .second, .val (.long (8 : Int32).toInt64), .second] [(.long (8 : Int32).toInt64)]))
        refine own_go (fun _ k => XS.lload X24.here hx rfl (hb hby at_133) rfl k) ?_
        show own_Go _ _ _ _ (T24.setTop (mkF m 135 #[.val (.int p1), .val (.int p2), .val (.int p3), .val (.int (p1 &&& (3 : Int32))), .val (.ref b1), .val (.ref b2), .val (.ref b3), .val (.ref b4), .val (.ref b4), .val (.long (8 : Int64)), .second, .val (.ref b21), .val (.long (8 : Int32).toInt64), .second, .val (.long (8 : Int32).toInt64), .second] [(.long (8 : Int64)), (.long (8 : Int32).toInt64)]))
        refine own_go (fun _ k => XS.lcmp X24.here hx rfl (hb hby at_135) rfl k) ?_
        show own_Go _ _ _ _ (T24.setTop (mkF m 136 #[.val (.int p1), .val (.int p2), .val (.int p3), .val (.int (p1 &&& (3 : Int32))), .val (.ref b1), .val (.ref b2), .val (.ref b3), .val (.ref b4), .val (.ref b4), .val (.long (8 : Int64)), .second, .val (.ref b21), .val (.long (8 : Int32).toInt64), .second, .val (.long (8 : Int32).toInt64), .second] [(.int (lcmpW (8 : Int32).toInt64 (8 : Int64)))]))
        refine own_go (fun _ k => XS.ifNo X24.here hx rfl (hb hby at_136) rfl ((if0 _ _).trans (teq ((lw_eq _ _).mpr (by decide))).2) k) ?_
        show own_Go _ _ _ _ (T24.setTop (mkF m 139 #[.val (.int p1), .val (.int p2), .val (.int p3), .val (.int (p1 &&& (3 : Int32))), .val (.ref b1), .val (.ref b2), .val (.ref b3), .val (.ref b4), .val (.ref b4), .val (.long (8 : Int64)), .second, .val (.ref b21), .val (.long (8 : Int32).toInt64), .second, .val (.long (8 : Int32).toInt64), .second] []))
        refine own_go (fun _ k => XS.lload X24.here hx rfl (hb hby at_139) rfl k) ?_
        show own_Go _ _ _ _ (T24.setTop (mkF m 141 #[.val (.int p1), .val (.int p2), .val (.int p3), .val (.int (p1 &&& (3 : Int32))), .val (.ref b1), .val (.ref b2), .val (.ref b3), .val (.ref b4), .val (.ref b4), .val (.long (8 : Int64)), .second, .val (.ref b21), .val (.long (8 : Int32).toInt64), .second, .val (.long (8 : Int32).toInt64), .second] [(.long (8 : Int32).toInt64)]))
        refine own_go (fun _ k => XS.lload X24.here hx rfl (hb hby at_141) rfl k) ?_
        show own_Go _ _ _ _ (T24.setTop (mkF m 143 #[.val (.int p1), .val (.int p2), .val (.int p3), .val (.int (p1 &&& (3 : Int32))), .val (.ref b1), .val (.ref b2), .val (.ref b3), .val (.ref b4), .val (.ref b4), .val (.long (8 : Int64)), .second, .val (.ref b21), .val (.long (8 : Int32).toInt64), .second, .val (.long (8 : Int32).toInt64), .second] [(.long (8 : Int64)), (.long (8 : Int32).toInt64)]))
        refine own_go (fun _ k => XS.lcmp X24.here hx rfl (hb hby at_143) rfl k) ?_
        show own_Go _ _ _ _ (T24.setTop (mkF m 144 #[.val (.int p1), .val (.int p2), .val (.int p3), .val (.int (p1 &&& (3 : Int32))), .val (.ref b1), .val (.ref b2), .val (.ref b3), .val (.ref b4), .val (.ref b4), .val (.long (8 : Int64)), .second, .val (.ref b21), .val (.long (8 : Int32).toInt64), .second, .val (.long (8 : Int32).toInt64), .second] [(.int (lcmpW (8 : Int32).toInt64 (8 : Int64)))]))
        refine own_go (fun _ k => XS.ifNo X24.here hx rfl (hb hby at_144) rfl ((if0 _ _).trans (teq ((lw_eq _ _).mpr (by decide))).2) k) ?_
        show own_Go _ _ _ _ (T24.setTop (mkF m 147 #[.val (.int p1), .val (.int p2), .val (.int p3), .val (.int (p1 &&& (3 : Int32))), .val (.ref b1), .val (.ref b2), .val (.ref b3), .val (.ref b4), .val (.ref b4), .val (.long (8 : Int64)), .second, .val (.ref b21), .val (.long (8 : Int32).toInt64), .second, .val (.long (8 : Int32).toInt64), .second] []))
        refine own_go (fun _ k => XS.iconst X24.here hx rfl (hb hby at_147) k) ?_
        show own_Go _ _ _ _ (T24.setTop (mkF m 148 #[.val (.int p1), .val (.int p2), .val (.int p3), .val (.int (p1 &&& (3 : Int32))), .val (.ref b1), .val (.ref b2), .val (.ref b3), .val (.ref b4), .val (.ref b4), .val (.long (8 : Int64)), .second, .val (.ref b21), .val (.long (8 : Int32).toInt64), .second, .val (.long (8 : Int32).toInt64), .second] [(.int (1 : Int32))]))
        refine own_go (fun _ k => XS.goto X24.here hx rfl (pc0 := 148) (pc' := 152) rfl (hb hby at_148) (by decide) (by decide) k) ?_
        show own_Go _ _ _ _ (T24.setTop (mkF m 152 #[.val (.int p1), .val (.int p2), .val (.int p3), .val (.int (p1 &&& (3 : Int32))), .val (.ref b1), .val (.ref b2), .val (.ref b3), .val (.ref b4), .val (.ref b4), .val (.long (8 : Int64)), .second, .val (.ref b21), .val (.long (8 : Int32).toInt64), .second, .val (.long (8 : Int32).toInt64), .second] [(.int (1 : Int32))]))
        refine own_ret X24 hlk (v := some (.int (1 : Int32))) (fun h => by rw [Bd.returns] at h; cases h) (fun fs hr => retN X24 hx (t := .boolean) Bd.returns (by simp) (hb hby at_152) hr) ?_ (by decide) (by decide)
        try rw [eq24]
        exact ⟨rfl, NF24⟩
set_option maxRecDepth 65536 in
set_option maxHeartbeats 40000000 in
theorem own_comes {Post : Tables → Env → Array Value → State → Outcome → State → Prop} (hpost : ∀ tb e args s v u, (limb_1_1.after args s (.returned v) u = true ∧ limb_1_2.after args s (.returned v) u = true ∧ True) → FrameEnd s (.returned v) u (Jvm.fieldLocs frame_1_writes args s ++ Jvm.arrayLocs frame_1_arrays args s ++ Jvm.staticLocs frame_1_statics s) 24 128 → Post tb e args s (.returned v) u) :
    ArmFor flags0 classFile x code maxLocals ret World_1 tables_1 room_1 Calls_1 rest_1 Pre_1 Post := by
  intro l hfl _ _ p e ha hc hk s m args below hf hA hF happ hP
  obtain ⟨hcalls, hrest, hpre⟩ := hP
  obtain ⟨-, -, -, hnamed, -, -, -, hat⟩ := (Spec.applies_iff hf).mp happ
  obtain ⟨hg, hn⟩ := and_e (Cond.before_iff.mp (show (Jvm.Cond.and given_1 narrow_1).before args s = true from hpre))
  obtain ⟨hcount, hg⟩ := and_e hg
  obtain ⟨ha0, hg⟩ := and_e hg
  obtain ⟨ha1, hg⟩ := and_e hg
  obtain ⟨w0, w1, w2, rfl⟩ : ∃ w0 w1 w2 : Value, args = #[w0, w1, w2] := by
    have hs : args.size = 3 := by simpa [Cond.value, given_1] using hcount
    obtain ⟨L⟩ := args
    match L, hs with
    | [w0, w1, w2], _ => exact ⟨w0, w1, w2, rfl⟩
  have hw := fun d (hd : d ∈ tables_1) => atoms_spec (ws := Jvm.Cond.code x code maxLocals ret :: tables_1) hat d (List.mem_cons_of_mem _ hd)
  have hfit : Fit s := fun {y c} hc i hi => by
    obtain ⟨ha, rfl⟩ := Array.getElem?_eq_some_iff.mp hc
    have q := List.all_eq_true.mp ((Array.all_eq_true_iff_forall_mem.mp hF) _ (Array.getElem_mem ha)) i (List.mem_range.mpr hi)
    simpa [Array.getElem?_eq_getElem hi] using q
  obtain ⟨i0, ei0⟩ := is_v ha0
  obtain rfl : w0 = (.int i0) := Option.some.inj ei0
  obtain ⟨i1, ei1⟩ := is_v ha1
  obtain rfl : w1 = (.int i1) := Option.some.inj ei1
  obtain ⟨i2, ei2⟩ := is_v hg
  obtain rfl : w2 = (.int i2) := Option.some.inj ei2
  obtain ⟨n, o, h1, h2, h3, _, L, rfl, ⟨rfl, N⟩, hq⟩ := own_rm0 l s _ hw i0 i1 i2 s.heap s.heap.size (Nat.le_refl _)  p e ha hc hk s m _ below hf ((Spec.applies_iff_loose hf).mp happ).1 ⟨rfl, State.Warmed39.refl s, rfl⟩ trivial
  refine ⟨n, _, h1, h2, h3, hpost _ _ _ _ _ _ ⟨Cond.after_iff.mpr rfl, Cond.after_iff.mpr (eq_i res_at (Term.int_eval (1)) rfl), trivial⟩ ⟨hq.1, hq.2.1, (hq.2.2.sift fun y hy => Or.inr (N y hy)).mono (by decide) (by decide)⟩⟩
theorem main_1_1 : Claimed_1_1 := own_comes fun _ _ _ _ _ _ h hF => ⟨h.1, hF⟩
theorem main_1_2 : Claimed_1_2 := own_comes fun _ _ _ _ _ _ h hF => ⟨h.2.1, hF⟩
end Jvm.Pilot.@@N@@
namespace Jvm.Pilot.@@N@@
open Jvm Jvm.ClassFile Sem Op Lib Jvm.Free Jvm.Stand Jvm.Pilot.@@N@@.Jvm.D
/-! MADE BY PROGRAM (witnessworld.py) out of the Statement's table words and the real class files: 11 classes; the members and pool entries that the words name. The judged class is class 1, her method 1. -/
namespace start1
open Jvm.ClassFile
def u (s : String) : CpInfo := .utf8 (stringToUtf16 s)
/-- a pool by its gaps: so many unusable entries, then the entry; so many at the end -/
def gap : Nat → List CpInfo → List CpInfo
  | 0, r => r
  | n + 1, r => .unusable :: gap n r
def poolList (es : List (Nat × CpInfo)) (last : Nat) : List CpInfo := es.foldr (fun e r => gap e.1 (e.2 :: r)) (gap last [])
def pool (es : List (Nat × CpInfo)) (last : Nat) : Array CpInfo := ⟨poolList es last⟩
def fileOf (pool : Array CpInfo) (this : Nat) (attrs : Array Attribute := #[]) (ms : Array MethodInfo := #[]) (fl : Nat := 33) (sup : Nat := 0) (ifs : Array Nat := #[]) (fds : Array FieldInfo := #[]) : ClassFile where
  minorVersion := 0
  majorVersion := 65
  constantPool := pool
  accessFlags := fl
  thisClass := this
  superClass := sup
  interfaces := ifs
  fields := fds
  methods := ms
  attributes := attrs
def plain (name : String) (sup : Option ClassId) : Class where
  name := name
  kind := .ordinary
  loader := none
  accessFlags := 33
  super := sup
  interfaces := #[]
  cf := none
  fields := #[]
  methods := #[]
  instanceTypes := #[]
  staticTypes := #[]
  resolved := #[]
  callSites := []
  init := .initialized
  statics := none
  mirror := none

def pool0 : Array CpInfo := pool [(5, u "<init>"), (0, u "()V"), (1, .class_ 10), (1, u "java/lang/Object")] 113

def k0c0 : Code := { maxStack := 0, maxLocals := 1, code := object_method_1_code, exceptionTable := #[], attributes := #[] }
def k0m0 : Method := { name := "<init>", desc := "()V", sig := { parameters := [], returnType := none }, accessFlags := 1, code := some k0c0 }
/-- java/lang/Object -/
def k0 : Class := { plain "java/lang/Object" none with
  accessFlags := 33
  interfaces := #[]
  cf := some (fileOf pool0 8 #[] #[{ accessFlags := 1, nameIndex := 5, descriptorIndex := 6, attributes := #[] }] 33 0 #[] #[])
  fields := #[]
  methods := #[k0m0]
  instanceTypes := #[]
  staticTypes := #[]
  resolved := Array.replicate 124 none
  statics := none }

def pool1 : Array CpInfo := pool [(2, .class_ 4), (1, u "java/lang/Object"), (0, u "<init>"), (0, u "()V"), (0, .long 3), (1, .long 8), (1, .methodref 12 13), (0, .class_ 14), (0, .nameAndType 15 16), (0, u "com/example/chartpost/chartpost/io/FileContent"), (0, u "of"), (0, u "([B)Lcom/example/chartpost/chartpost/io/FileContent;"), (0, .methodref 12 18), (0, .nameAndType 19 20), (0, u "length"), (0, u "()J"), (0, .methodref 12 22), (0, .nameAndType 23 6), (0, u "close"), (0, .class_ 25), (0, u "com/example/chartpost/chartpost/io/FileContentOfPinLaw"), (2, u "law"), (0, u "(III)Z")] 8

def k1m0 : Method := { name := "<init>", desc := "()V", sig := { parameters := [], returnType := none }, accessFlags := 1, code := none }
def k1c1 : Code := { maxStack := 4, maxLocals := 16, code := code, exceptionTable := #[], attributes := #[] }
def k1m1 : Method := { name := "law", desc := "(III)Z", sig := { parameters := [.int, .int, .int], returnType := some .boolean }, accessFlags := 9, code := some k1c1 }
/-- com/example/chartpost/chartpost/io/FileContentOfPinLaw -/
def k1 : Class := { plain "com/example/chartpost/chartpost/io/FileContentOfPinLaw" (some 0) with
  accessFlags := 49
  interfaces := #[]
  cf := some (fileOf pool1 24 #[] #[{ accessFlags := 1, nameIndex := 5, descriptorIndex := 6, attributes := #[] }, { accessFlags := 9, nameIndex := 28, descriptorIndex := 29, attributes := #[] }] 49 2 #[] #[])
  fields := #[]
  methods := #[k1m0, k1m1]
  instanceTypes := #[]
  staticTypes := #[]
  resolved := Array.replicate 38 none
  statics := none }

def pool2 : Array CpInfo := pool [(1, .class_ 2), (0, u "java/lang/AutoCloseable"), (0, .class_ 4), (0, u "java/lang/Object")] 7

/-- java/lang/AutoCloseable -/
def k2 : Class := { plain "java/lang/AutoCloseable" (some 0) with
  accessFlags := 1537
  interfaces := #[]
  cf := some (fileOf pool2 1 #[] #[] 1537 3 #[] #[])
  fields := #[]
  methods := #[]
  instanceTypes := #[]
  staticTypes := #[]
  resolved := Array.replicate 12 none
  statics := none }

def pool3 : Array CpInfo := pool [(1, .class_ 2), (0, u "java/io/Closeable"), (0, .class_ 4), (0, u "java/lang/Object"), (0, .class_ 6), (0, u "java/lang/AutoCloseable")] 7

/-- java/io/Closeable -/
def k3 : Class := { plain "java/io/Closeable" (some 0) with
  accessFlags := 1537
  interfaces := #[2]
  cf := some (fileOf pool3 1 #[] #[] 1537 3 #[5] #[])
  fields := #[]
  methods := #[]
  instanceTypes := #[]
  staticTypes := #[]
  resolved := Array.replicate 14 none
  statics := none }

def pool4 : Array CpInfo := pool [(1, .methodref 2 3), (0, .class_ 4), (0, .nameAndType 5 6), (0, u "java/lang/Object"), (0, u "<init>"), (0, u "()V"), (0, .fieldref 8 9), (0, .class_ 10), (0, .nameAndType 11 12), (0, u "com/example/chartpost/chartpost/io/FileContent"), (0, u "bytes"), (0, u "[B"), (0, .fieldref 8 14), (0, .nameAndType 15 16), (0, u "file"), (0, u "Ljava/nio/channels/FileChannel;"), (0, .fieldref 8 18), (0, .nameAndType 19 20), (0, u "length"), (0, u "J"), (0, .methodref 8 22), (0, .nameAndType 5 23), (0, u "([BLjava/nio/channels/FileChannel;J)V"), (62, u "close"), (0, .class_ 88), (0, u "java/io/Closeable"), (0, u "CHUNK"), (0, u "I"), (4, u "of"), (0, u "([B)Lcom/example/chartpost/chartpost/io/FileContent;"), (2, u "()J")] 22

def k4c0 : Code := { maxStack := 3, maxLocals := 5, code := prog_35_method_1_code, exceptionTable := #[], attributes := #[] }
def k4m0 : Method := { name := "<init>", desc := "([BLjava/nio/channels/FileChannel;J)V", sig := { parameters := [(.array .byte), (.object "java/nio/channels/FileChannel"), .long], returnType := none }, accessFlags := 2, code := some k4c0 }
def k4c1 : Code := { maxStack := 6, maxLocals := 1, code := prog_35_method_2_code, exceptionTable := #[], attributes := #[] }
def k4m1 : Method := { name := "of", desc := "([B)Lcom/example/chartpost/chartpost/io/FileContent;", sig := { parameters := [(.array .byte)], returnType := some (.object "com/example/chartpost/chartpost/io/FileContent") }, accessFlags := 9, code := some k4c1 }
def k4c2 : Code := { maxStack := 2, maxLocals := 1, code := prog_35_method_4_code, exceptionTable := #[], attributes := #[] }
def k4m2 : Method := { name := "length", desc := "()J", sig := { parameters := [], returnType := some .long }, accessFlags := 1, code := some k4c2 }
def k4c3 : Code := { maxStack := 1, maxLocals := 1, code := prog_35_method_7_code, exceptionTable := #[], attributes := #[] }
def k4m3 : Method := { name := "close", desc := "()V", sig := { parameters := [], returnType := none }, accessFlags := 1, code := some k4c3 }
/-- com/example/chartpost/chartpost/io/FileContent -/
def k4 : Class := { plain "com/example/chartpost/chartpost/io/FileContent" (some 0) with
  accessFlags := 49
  interfaces := #[3]
  cf := some (fileOf pool4 8 #[] #[{ accessFlags := 2, nameIndex := 5, descriptorIndex := 23, attributes := #[] }, { accessFlags := 9, nameIndex := 95, descriptorIndex := 96, attributes := #[] }, { accessFlags := 1, nameIndex := 19, descriptorIndex := 99, attributes := #[] }, { accessFlags := 1, nameIndex := 86, descriptorIndex := 6, attributes := #[] }] 49 2 #[87] #[{ accessFlags := 26, nameIndex := 89, descriptorIndex := 90, attributes := #[] }, { accessFlags := 18, nameIndex := 11, descriptorIndex := 12, attributes := #[] }, { accessFlags := 18, nameIndex := 15, descriptorIndex := 16, attributes := #[] }, { accessFlags := 18, nameIndex := 19, descriptorIndex := 20, attributes := #[] }])
  fields := #[{ name := "CHUNK", type := .int, accessFlags := 26, slot := 0, constantValue := 0 }, { name := "bytes", type := (.array .byte), accessFlags := 18, slot := 0, constantValue := 0 }, { name := "file", type := (.object "java/nio/channels/FileChannel"), accessFlags := 18, slot := 1, constantValue := 0 }, { name := "length", type := .long, accessFlags := 18, slot := 2, constantValue := 0 }]
  methods := #[k4m0, k4m1, k4m2, k4m3]
  instanceTypes := #[(.array .byte), (.object "java/nio/channels/FileChannel"), .long]
  staticTypes := #[.int]
  resolved := Array.replicate 122 none
  statics := none }

def pool5 : Array CpInfo := pool [(1, u "java/lang/Cloneable"), (0, .class_ 1), (0, u "java/lang/Object"), (0, .class_ 3)] 3

/-- java/lang/Cloneable -/
def k5 : Class := { plain "java/lang/Cloneable" (some 0) with
  accessFlags := 1537
  interfaces := #[]
  cf := some (fileOf pool5 2 #[] #[] 1537 4 #[] #[])
  fields := #[]
  methods := #[]
  instanceTypes := #[]
  staticTypes := #[]
  resolved := Array.replicate 8 none
  statics := none }

def pool6 : Array CpInfo := pool [(1, u "java/io/Serializable"), (0, .class_ 1), (0, u "java/lang/Object"), (0, .class_ 3)] 3

/-- java/io/Serializable -/
def k6 : Class := { plain "java/io/Serializable" (some 0) with
  accessFlags := 1537
  interfaces := #[]
  cf := some (fileOf pool6 2 #[] #[] 1537 4 #[] #[])
  fields := #[]
  methods := #[]
  instanceTypes := #[]
  staticTypes := #[]
  resolved := Array.replicate 8 none
  statics := none }

/-- the primitive byte -/
def k7 : Class := { plain "byte" none with kind := .primitive 'B', accessFlags := 0x411 }
/-- [B -/
def k8 : Class := { plain "[B" (some 0) with kind := .array 7 .byte, interfaces := #[5, 6], accessFlags := 1041 }

/-- the primitive int -/
def k9 : Class := { plain "int" none with kind := .primitive 'I', accessFlags := 0x411 }
/-- [I -/
def k10 : Class := { plain "[I" (some 0) with kind := .array 9 .int, interfaces := #[5, 6], accessFlags := 1041 }

def heap : Heap := #[]
def classes : Array Class := #[k0, k1, k2, k3, k4, k5, k6, k7, k8, k9, k10]
def interned : List (Array UInt16 × Addr) := []
def slotsUsed : Nat := 0
def theMethod : MethodId := ⟨1, 1⟩
def args0 : Array Value := #[.int 5, .int 6, .int 7]
def aboutOver (below : List Frame) : State where
  vm := { classes := classes, interned := interned.toArray }
  heap := heap
  slotsUsed := slotsUsed
  threads := #[{ frames := .invoking theMethod args0 :: below }]
def below0 : List Frame := [.native { method := ⟨0, 0⟩, args := #[] }]
def about1 : State := aboutOver below0
def p0 : Program := .bare "" "" ""
def e0 : Env := launch0.env 0 0 0
theorem w_frames : about1.frames = Frame.invoking theMethod args0 :: below0 := rfl
set_option maxRecDepth 65536 in
theorem w_args : argsFit about1.vm theMethod args0 = true := by decide +kernel
set_option maxRecDepth 65536 in
theorem w_heap : heapFits about1 = true := by decide +kernel
set_option maxRecDepth 65536 in
theorem w_runnable : about1.curStatus? = some .runnable := by decide +kernel
set_option maxRecDepth 65536 in
theorem w_alone : about1.alone = true := by decide +kernel
set_option maxRecDepth 65536 in
theorem w_named : about1.methodNamed? x = some theMethod := by decide +kernel
set_option maxRecDepth 65536 in
theorem w_hears : about1.hears theMethod below0 = true := by decide +kernel
set_option maxRecDepth 65536 in
theorem w_ripe : about1.ripe theMethod args0 below0 = true := by decide +kernel
theorem w_running : about1.status = .running := rfl
set_option maxRecDepth 65536 in
theorem w_room : about1.hasRoom e0.platform room_1 = true :=
  launch0.hasRoom_least _ room_1 (by decide +kernel) (by decide +kernel) (by decide +kernel) (by decide +kernel) (by decide +kernel) (by decide +kernel)
theorem allAtoms_all (ts : List Jvm.Cond) (a : Array Jvm.Value) (st : Jvm.State) : (allAtoms ts).before a st = ts.all (fun c => c.before a st) := by
  induction ts with
  | nil => rfl
  | cons c t ih =>
    show (Jvm.Cond.and c (allAtoms t)).before a st = _
    rw [Jvm.Cond.before_and, ih, List.all_cons]
def words1 : List Jvm.Cond := Jvm.Cond.code x code maxLocals ret :: tables_1
/-- a 'code' word, met by the world's own term for the bytes: nothing is compared byte by byte -/
theorem code_word {y : MethodName} {bytes : ByteArray} {mx : Nat} {rt : Option FieldType} {a : Array Value} {s : State} {m : MethodId} {meth : Method} {c : Code} (h1 : s.methodNamed? y = some m) (h2 : s.vm.method? m = some meth) (h3 : meth.code = some c) (h4 : c.code = bytes)
    (h5 : (c.maxLocals == mx && c.exceptionTable.isEmpty && decide (c.maxStack ≤ mostOperands) && decide (meth.sig.returnType = rt) && !meth.locks && decide (parseMethodDescriptor y.desc = some meth.sig)) = true) : (Jvm.Cond.code y bytes mx rt).before a s = true := by
  simp only [Bool.and_eq_true, beq_iff_eq, Bool.not_eq_true', decide_eq_true_eq] at h5
  obtain ⟨⟨⟨⟨⟨g1, g2⟩, g3⟩, g4⟩, g5⟩, g6⟩ := h5
  simp [Cond.before, Cond.holds, Cond.value, h1, h2, h3, h4, g1, g2, g3, g4, g5, g6]
def isCode : Jvm.Cond → Bool
  | .code _ _ _ _ => true
  | _ => false
theorem all_split {L : List Jvm.Cond} {P : Jvm.Cond → Bool} (h1 : L.all (fun c => isCode c || P c) = true) (h2 : ∀ c ∈ L.filter isCode, P c = true) : L.all P = true := by
  refine List.all_eq_true.mpr fun c hc => ?_
  have h := List.all_eq_true.mp h1 c hc
  rcases Bool.eq_false_or_eq_true (isCode c) with hi | hi
  · exact h2 c (List.mem_filter.mpr ⟨hc, hi⟩)
  · simpa [hi] using h
set_option maxRecDepth 65536 in
theorem w_c0 : (Jvm.Cond.code x code maxLocals ret).before args0 about1 = true := code_word (m := ⟨1, 1⟩) (meth := k1m1) (c := k1c1) (by decide +kernel) rfl rfl rfl (by decide +kernel)
set_option maxRecDepth 65536 in
theorem w_c1 : (Jvm.Cond.code ({ cls := "com/example/chartpost/chartpost/io/FileContent", name := "of", desc := "([B)Lcom/example/chartpost/chartpost/io/FileContent;" } : Jvm.MethodName) prog_35_method_2_code (1 : Nat) (Option.some (Jvm.ClassFile.FieldType.object "com/example/chartpost/chartpost/io/FileContent"))).before args0 about1 = true := code_word (m := ⟨4, 1⟩) (meth := k4m1) (c := k4c1) (by decide +kernel) rfl rfl rfl (by decide +kernel)
set_option maxRecDepth 65536 in
theorem w_c2 : (Jvm.Cond.code ({ cls := "com/example/chartpost/chartpost/io/FileContent", name := "<init>", desc := "([BLjava/nio/channels/FileChannel;J)V" } : Jvm.MethodName) prog_35_method_1_code (5 : Nat) (Option.none : Option Jvm.ClassFile.FieldType)).before args0 about1 = true := code_word (m := ⟨4, 0⟩) (meth := k4m0) (c := k4c0) (by decide +kernel) rfl rfl rfl (by decide +kernel)
set_option maxRecDepth 65536 in
theorem w_c3 : (Jvm.Cond.code ({ cls := "java/lang/Object", name := "<init>", desc := "()V" } : Jvm.MethodName) object_method_1_code (1 : Nat) (Option.none : Option Jvm.ClassFile.FieldType)).before args0 about1 = true := code_word (m := ⟨0, 0⟩) (meth := k0m0) (c := k0c0) (by decide +kernel) rfl rfl rfl (by decide +kernel)
set_option maxRecDepth 65536 in
theorem w_c4 : (Jvm.Cond.code ({ cls := "com/example/chartpost/chartpost/io/FileContent", name := "length", desc := "()J" } : Jvm.MethodName) prog_35_method_4_code (1 : Nat) (Option.some Jvm.ClassFile.FieldType.long)).before args0 about1 = true := code_word (m := ⟨4, 2⟩) (meth := k4m2) (c := k4c2) (by decide +kernel) rfl rfl rfl (by decide +kernel)
set_option maxRecDepth 65536 in
theorem w_c5 : (Jvm.Cond.code ({ cls := "com/example/chartpost/chartpost/io/FileContent", name := "close", desc := "()V" } : Jvm.MethodName) prog_35_method_7_code (1 : Nat) (Option.none : Option Jvm.ClassFile.FieldType)).before args0 about1 = true := code_word (m := ⟨4, 3⟩) (meth := k4m3) (c := k4c3) (by decide +kernel) rfl rfl rfl (by decide +kernel)
def codes1 : List Jvm.Cond := [Jvm.Cond.code x code maxLocals ret, Jvm.Cond.code ({ cls := "com/example/chartpost/chartpost/io/FileContent", name := "of", desc := "([B)Lcom/example/chartpost/chartpost/io/FileContent;" } : Jvm.MethodName) prog_35_method_2_code (1 : Nat) (Option.some (Jvm.ClassFile.FieldType.object "com/example/chartpost/chartpost/io/FileContent")), Jvm.Cond.code ({ cls := "com/example/chartpost/chartpost/io/FileContent", name := "<init>", desc := "([BLjava/nio/channels/FileChannel;J)V" } : Jvm.MethodName) prog_35_method_1_code (5 : Nat) (Option.none : Option Jvm.ClassFile.FieldType), Jvm.Cond.code ({ cls := "java/lang/Object", name := "<init>", desc := "()V" } : Jvm.MethodName) object_method_1_code (1 : Nat) (Option.none : Option Jvm.ClassFile.FieldType), Jvm.Cond.code ({ cls := "com/example/chartpost/chartpost/io/FileContent", name := "length", desc := "()J" } : Jvm.MethodName) prog_35_method_4_code (1 : Nat) (Option.some Jvm.ClassFile.FieldType.long), Jvm.Cond.code ({ cls := "com/example/chartpost/chartpost/io/FileContent", name := "close", desc := "()V" } : Jvm.MethodName) prog_35_method_7_code (1 : Nat) (Option.none : Option Jvm.ClassFile.FieldType)]
set_option maxRecDepth 65536 in
theorem codes_eq : words1.filter isCode = codes1 := rfl
theorem w_codes : ∀ c ∈ words1.filter isCode, c.before args0 about1 = true := by
  rw [codes_eq]
  intro c hc
  simp only [codes1, List.mem_cons, List.not_mem_nil, or_false] at hc
  rcases hc with rfl | rfl | rfl | rfl | rfl | rfl
  · exact w_c0
  · exact w_c1
  · exact w_c2
  · exact w_c3
  · exact w_c4
  · exact w_c5
set_option maxRecDepth 65536 in
theorem w_t1 : (words1.take 24).all (fun c => isCode c || c.before args0 about1) = true := by decide +kernel
set_option maxRecDepth 65536 in
theorem w_t2 : (words1.drop 24).all (fun c => isCode c || c.before args0 about1) = true := by decide +kernel
theorem w_tables : (allAtoms (Jvm.Cond.code x code maxLocals ret :: tables_1)).before args0 about1 = true := by
  rw [allAtoms_all]
  show words1.all (fun c => c.before args0 about1) = true
  refine all_split ?_ w_codes
  rw [← List.take_append_drop 24 words1, List.all_append, w_t1, w_t2]
  rfl
set_option maxRecDepth 65536 in
theorem w_case : (Jvm.Cond.and given_1 narrow_1).before args0 about1 = true := by decide +kernel
theorem w_applies : (headSpec (Jvm.Cond.code x code maxLocals ret :: tables_1) room_1).applies x e0.platform about1 = true :=
  (Spec.applies_iff w_frames).mpr ⟨w_running, w_runnable, w_alone, w_named, w_hears, w_ripe, w_room, w_tables⟩
theorem atStart : AtStart classFile x code maxLocals ret World_1 tables_1 room_1 Calls_1 rest_1 Pre_1 launch0 p0 e0 about1 theMethod args0 below0 :=
  ⟨lists_1, trivial, launch0.admits_env _ _ _, launch0.least_env, fairChoices_fair.cas, fairChoices_fair.clock, w_frames, w_args, w_heap, w_applies, trivial, trivial, w_case⟩
end start1
theorem witness_1 : WitnessClaimed_1 := ⟨start1.p0, start1.e0, start1.about1, start1.theMethod, start1.args0, start1.below0, start1.atStart⟩
end Jvm.Pilot.@@N@@
