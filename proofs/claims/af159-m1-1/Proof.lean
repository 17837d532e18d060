import JvmDerived
import JvmDerived.Pilot.@@N@@Statement
import JvmDerived.Pilot.@@N@@Code
set_option linter.unusedVariables false
set_option linter.unusedSimpArgs false
namespace Jvm.Pilot.@@N@@
open Jvm Jvm.ClassFile Sem Op Lib Jvm.Free Jvm.Stand Jvm.LawKit Jvm.RoadKit Bundle Jvm.Pilot.@@N@@.Jvm.D
section Own
variable {p : Program} {l : Launch} {e : Env} {R : Room} {s : State} {m : MethodId} {args : Array Value} {below : List Frame} {meth : Method} {c : Code} {T : State} {locs : List Loc} {cells slots : Nat}
def Ends (p : Program) (e : Env) (below : List Frame) (Q : Outcome → State → Prop) (S : State) : Prop := ∃ s₂ o, Steps p.tables e below S s₂ ∧ s₂.status = .running ∧ Ended s₂ below o ∧ Q o s₂
theorem Ends.opn {Q : Outcome → State → Prop} {S : State} (h : ∀ QQ : Outcome → State → Prop, (∀ o t, Q o t → QQ o t) → Ends p e below QQ S) : ∃ s₂ o, Steps p.tables e below S s₂ ∧ s₂.status = .running ∧ Ended s₂ below o ∧ Q o s₂ := h Q fun _ _ q => q
theorem Ends.step {Q : Outcome → State → Prop} {S S' : State} (k : ∀ t, Steps p.tables e below S' t → Steps p.tables e below S t) (h : Ends p e below Q S') : Ends p e below Q S := by
  obtain ⟨a, o, h1, h2⟩ := h
  exact ⟨a, o, k _ h1, h2⟩
theorem Ends.fin {QQ : Outcome → State → Prop} {Q : Option Value → Heap → List Loc → Prop} {cl sl : Nat} {g : JFrame} {h : Heap} (v : Option Value) (X : Stand p l e R s m args below meth c T locs cells slots)
    (hQQ : ∀ o t, (∃ v L, o = .returned v ∧ Q v t.heap L ∧ FrameEnd s o t L cl sl) → QQ o t) (hv : meth.sig.returnType = none → v = none) (hlocks : meth.locks = false)
    (hstep : ∀ fs, (∀ (f : JFrame) (acts : List Action), f.method = m → f.locked = none → f.entered = [] → (doReturn e (T.setTop f) acts v).1 = T.setFrames fs) → Steps p.tables e below (T.setTop g) (T.setFrames fs))
    (eT : T.heap = h) (hc : cells ≤ cl) (hs : slots ≤ sl) (q : Q v h locs) : Ends p e below QQ (T.setTop g) := by
  obtain ⟨fs, hr, hrun, hended, hW, hsame⟩ := X.leave hv hlocks
  subst eT
  exact ⟨_, _, hstep fs hr, hrun, hended, hQQ _ _ ⟨v, locs, rfl, q, ⟨_, rfl⟩, hW, hsame.mono hc hs⟩⟩
theorem own_narB {x : Int32} (h : x = 0 ∨ x = 1) : narrow .boolean (.int x) = .int x := by rcases h with rfl | rfl <;> rfl
theorem own_narref {v : Value} {t : FieldType} (h : v.isRef = true) (ht : t.isReference = true) : narrow t v = v := by
  cases t <;> first | (cases ht; done) | (cases v <;> first | rfl | cases h)
theorem own_fitref {v : Value} {t : FieldType} (h : v.isRef = true) (ht : t.isReference = true) : fits t v = true := by
  cases t <;> first | (cases ht; done) | (cases v <;> first | rfl | cases h)
theorem own_nar255 (b : Int32) : narrow .char (.int (b &&& (255 : Int32))) = .int (b &&& (255 : Int32)) := by
  have h := XT.narrow_c (b &&& 255)
  rw [i2c_mask] at h
  exact h
theorem own_narb (x : Int32) : nar .byte x.toInt8.toInt32 = x.toInt8.toInt32 := by simp [nar]
theorem own_ins_keep {Z : State} {h h' : Heap} {a : Addr} {C : String} {b : Bool} {ws : List Addr} (F : Ins Z h a C b) (K : Keep h h' ws) : Ins Z h' a C b := by
  obtain ⟨cell, cT, h1, h2, h3⟩ := F
  obtain ⟨c', q1, q2, q3, -⟩ := K.2.2 _ _ h1
  exact ⟨c', cT, q1, h2, by rw [q2, q3]; exact h3⟩
theorem own_sta_keep {Z : State} {h h' : Heap} {C n d : String} {v : Value} {ws : List Addr} (F : Sta Z h C n d v) (K : Keep h h' ws) (q : ∀ x ∈ ws, ∃ c : Cell, h[x]? = some c ∧ ∀ q, c.vm ≠ .statics q) : Sta Z h' C n d v := by
  obtain ⟨cf, i, k, f, st, cell, h1, h2, h3, h4, h5, h6, h7⟩ := F
  refine ⟨cf, i, k, f, st, cell, h1, h2, h3, h4, K.2.1 _ _ h5 fun hm => ?_, h6, h7⟩
  obtain ⟨c, q1, q2⟩ := q _ hm
  cases h5.symm.trans q1
  cases hq : cell.vm <;> first | exact q2 _ hq | (rw [hq] at h6; cases h6)
theorem lremM {g : JFrame} {target : State} (X : Stand p l e R s m args below meth c T locs cells slots) (hx : p.tables.exec = Jvm.exec) (hg : g.method = m) {x y : Int64} {rest : List Value} (hd : decode c.code g.pc = .ok (.lrem, 1)) (hs : g.stack = .long y :: .long x :: rest) (hy : y ≠ 0)
    (hr : Steps p.tables e below (T.setTop { g with pc := g.pc + 1, stack := .long (x % y) :: rest }) target) : Steps p.tables e below (T.setTop g) target := by
  have q : x - x / y * y = x % y := lrem_mod x y
  exact XT.lrem X.here hx hg hd hs hy (by rw [q]; exact hr)
end Own
theorem pn_0 : plainName "com/example/wunce/wunce/StoredCall" = true := by first | (simp [plainName, overriddenIn]; done) | decide +kernel
theorem pn_1 : plainName "com/example/wunce/wunce/StoredCallFinishedPinLaw" = true := by first | (simp [plainName, overriddenIn]; done) | decide +kernel
theorem pd_0 : parseMethodDescriptor "([B[B)V" = some ⟨[(.array .byte), (.array .byte)], none⟩ := by decide +kernel
theorem pd_1 : parseMethodDescriptor "([B[B)Lcom/example/wunce/wunce/StoredCall;" = some ⟨[(.array .byte), (.array .byte)], some (.object "com/example/wunce/wunce/StoredCall")⟩ := by decide +kernel
theorem pd_2 : parseMethodDescriptor "()[B" = some ⟨[], some (.array .byte)⟩ := by decide +kernel
theorem pd_3 : parseMethodDescriptor "()Z" = some ⟨[], some .boolean⟩ := by decide +kernel
theorem pd_4 : parseMethodDescriptor "([BIBB)Z" = some ⟨[(.array .byte), .int, .byte, .byte], some .boolean⟩ := by decide +kernel

theorem d2_0 : decode prog_26_method_1_code 0 = .ok (.aload_n 0, 1) := by decide +kernel
theorem d2_1 : decode prog_26_method_1_code 1 = .ok (.invokespecial 1, 3) := by decide +kernel
theorem d2_4 : decode prog_26_method_1_code 4 = .ok (.aload_n 0, 1) := by decide +kernel
theorem d2_5 : decode prog_26_method_1_code 5 = .ok (.aload_n 1, 1) := by decide +kernel
theorem d2_6 : decode prog_26_method_1_code 6 = .ok (.putfield 7, 3) := by decide +kernel
theorem d2_9 : decode prog_26_method_1_code 9 = .ok (.aload_n 0, 1) := by decide +kernel
theorem d2_10 : decode prog_26_method_1_code 10 = .ok (.aload_n 2, 1) := by decide +kernel
theorem d2_11 : decode prog_26_method_1_code 11 = .ok (.putfield 13, 3) := by decide +kernel
theorem d2_14 : decode prog_26_method_1_code 14 = .ok (.return_, 1) := by decide +kernel
theorem ef_2 (m : MethodId) (x0 : Addr) (x1 : Value) (x2 : Value) (hx1 : x1.isRef = true) (hx2 : x2.isRef = true) : entryFrame m #[(.ref x0), x1, x2] 3 = mkF m 0 #[.val (.ref x0), .val x1, .val x2] [] := by
  rcases XT.refc hx1 with rfl | ⟨_, rfl⟩ <;> rcases XT.refc hx2 with rfl | ⟨_, rfl⟩ <;> rfl
def Q2 (Z : State) (o0 : Addr) (r1 : Value) (r2 : Value) (u : Value) (w : Value) (h0 : Heap) (n0 : Nat) (v : Option Value) (h : Heap) (L : List Loc) : Prop := (v = none) ∧ (Fr n0 L) ∧ (Keep h0 h [o0]) ∧ (Exa Z h o0 "com/example/wunce/wunce/StoredCall") ∧ (Fld Z h o0 "com/example/wunce/wunce/StoredCall" "_fingerprint" "[B" r1) ∧ (Fld Z h o0 "com/example/wunce/wunce/StoredCall" "_answer" "[B" r2)
set_option maxRecDepth 65536 in
set_option maxHeartbeats 40000000 in
theorem rm2 (l : Launch) (Z : State) (a0 : Array Value) (hw : ∀ d ∈ tables_1, d.before a0 Z = true) (ws : List Jvm.Cond) (o0 : Addr) (r1 : Value) (r2 : Value) (u : Value) (w : Value) (h0 : Heap) (n0 : Nat) (Z0 : n0 ≤ h0.size) (hr_r1 : r1.isRef = true) (hr_r2 : r2.isRef = true) (E_o0 : Exa Z h0 o0 "com/example/wunce/wunce/StoredCall") (F__fingerprint_o0 : Fld Z h0 o0 "com/example/wunce/wunce/StoredCall" "_fingerprint" "[B" u) (F__answer_o0 : Fld Z h0 o0 "com/example/wunce/wunce/StoredCall" "_answer" "[B" w) (g_o0 : n0 ≤ o0) :
    MetFree l (⟨"com/example/wunce/wunce/StoredCall", "<init>", "([B[B)V"⟩ : MethodName) (head1 (Jvm.Cond.code (⟨"com/example/wunce/wunce/StoredCall", "<init>", "([B[B)V"⟩ : MethodName) prog_26_method_1_code 3 none :: ws) ({ frames := 1, cells := 0, slots := 0, locals := 12 } : Room)) (fun a U => a = #[(.ref o0), r1, r2] ∧ Z.Warmed39 U.vm ∧ U.heap = h0) (fun _ _ _ _ _ => True) (fun _ U o U' => ∃ v L, o = .returned v ∧ Q2 Z o0 r1 r2 u w h0 n0 v U'.heap L ∧ FrameEnd U o U' L ({ frames := 1, cells := 0, slots := 0, locals := 12 } : Room).cells ({ frames := 1, cells := 0, slots := 0, locals := 12 } : Room).slots) := by
  refine MetFree.of_bodySF (plainFor_of_name pn_0) hisR ?_
  intro p e s m args below meth c s₁ Bd hml0 hP hK
  obtain ⟨rfl, hZ, hh⟩ := hP
  have hx := Bd.exec
  have hby := Bd.bytes
  have hml : c.maxLocals = 3 := hml0
  have hown : s.vm.findClass "com/example/wunce/wunce/StoredCall" = some m.cls := findClass_of_methodNamed Bd.named
  have hnm := (name_of_methodNamed Bd.named Bd.method).1
  have X0 : Stand p l e ({ frames := 1, cells := 0, slots := 0, locals := 12 } : Room) s m #[(.ref o0), r1, r2] below meth c s₁ [] 0 0 := Stand.of_body Bd
  have e0 : s₁.heap = h0 := by rw [← hh, Bd.state]; rfl
  have N0 := Fr.nil n0
  refine Ends.opn ?_
  intro QQ hQQ
  refine Ends.step (S' := s₁.setTop (mkF m 0 #[.val (.ref o0), .val r1, .val r2] [])) (fun t k => castTop (ef_2 m o0 r1 r2 hr_r1 hr_r2) k) ?_
  show Ends p e below QQ (s₁.setTop (mkF m 0 #[.val (.ref o0), .val r1, .val r2] []))
  refine Ends.step (fun _ k => XS.aloadN X0.here hx rfl (hb hby d2_0) rfl rfl k) ?_
  show Ends p e below QQ (s₁.setTop (mkF m 1 #[.val (.ref o0), .val r1, .val r2] [(.ref o0)]))
  obtain ⟨T1, X1, e1, st1⟩ := initO X0 hx hZ hown (hw _ (List.mem_of_getElem? (i := 10) rfl)) (hw _ (List.mem_of_getElem? (i := 11) rfl)) (hw _ (List.mem_of_getElem? (i := 12) rfl)) e0 (g := (mkF m 1 #[.val (.ref o0), .val r1, .val r2] [(.ref o0)])) rfl (by rw [hml]; rfl) rfl (hb hby d2_1) (by decide) (W := 0) (by show 2 * 0 + _ ≤ _; exact Nat.le_of_eq rfl) (by decide)
  refine Ends.step st1 ?_
  show Ends p e below QQ (T1.setTop (mkF m 4 #[.val (.ref o0), .val r1, .val r2] []))
  refine Ends.step (fun _ k => XS.aloadN X1.here hx rfl (hb hby d2_4) rfl rfl k) ?_
  show Ends p e below QQ (T1.setTop (mkF m 5 #[.val (.ref o0), .val r1, .val r2] [(.ref o0)]))
  refine Ends.step (fun _ k => XS.aloadN X1.here hx rfl (hb hby d2_5) rfl hr_r1 k) ?_
  show Ends p e below QQ (T1.setTop (mkF m 6 #[.val (.ref o0), .val r1, .val r2] [r1, (.ref o0)]))
  obtain ⟨T2, h2, X2, e2, W2, st2⟩ := putF X1 hx hZ hown (host := "") (Or.inl (hw _ (List.mem_of_getElem? (i := 13) rfl))) Via.refl e1 F__fingerprint_o0 E_o0 (Or.inr ⟨(hw _ (List.mem_of_getElem? (i := 14) rfl)), rfl, hnm⟩) (hw _ (List.mem_of_getElem? (i := 6) rfl)) (ty := (.array .byte)) (by decide) (own_narref hr_r1 rfl) (own_fitref hr_r1 rfl) (g := (mkF m 6 #[.val (.ref o0), .val r1, .val r2] [r1, (.ref o0)])) rfl rfl (hb hby d2_6)
  have E_o0 := E_o0.wr W2
  have F__answer_o0 := F__answer_o0.other W2 (Or.inr (slot_ne (Or.inr (hw _ (List.mem_of_getElem? (i := 16) rfl))) (Or.inr (hw _ (List.mem_of_getElem? (i := 14) rfl))) (by decide) (t := (.array .byte)) (t' := (.array .byte)) (by decide) (by decide)))
  have F__fingerprint_o0 : Fld Z h2 o0 "com/example/wunce/wunce/StoredCall" "_fingerprint" "[B" r1 := F__fingerprint_o0.same W2
  have K2 := (Keep.refl h0 [o0]).wr W2 (Or.inl (List.mem_of_getElem? (i := 0) rfl))
  have N2 := Fr.snoc X2 N0 g_o0
  refine Ends.step st2 ?_
  show Ends p e below QQ (T2.setTop (mkF m 9 #[.val (.ref o0), .val r1, .val r2] []))
  refine Ends.step (fun _ k => XS.aloadN X2.here hx rfl (hb hby d2_9) rfl rfl k) ?_
  show Ends p e below QQ (T2.setTop (mkF m 10 #[.val (.ref o0), .val r1, .val r2] [(.ref o0)]))
  refine Ends.step (fun _ k => XS.aloadN X2.here hx rfl (hb hby d2_10) rfl hr_r2 k) ?_
  show Ends p e below QQ (T2.setTop (mkF m 11 #[.val (.ref o0), .val r1, .val r2] [r2, (.ref o0)]))
  obtain ⟨T3, h3, X3, e3, W3, st3⟩ := putF X2 hx hZ hown (host := "") (Or.inl (hw _ (List.mem_of_getElem? (i := 15) rfl))) Via.refl e2 F__answer_o0 E_o0 (Or.inr ⟨(hw _ (List.mem_of_getElem? (i := 16) rfl)), rfl, hnm⟩) (hw _ (List.mem_of_getElem? (i := 6) rfl)) (ty := (.array .byte)) (by decide) (own_narref hr_r2 rfl) (own_fitref hr_r2 rfl) (g := (mkF m 11 #[.val (.ref o0), .val r1, .val r2] [r2, (.ref o0)])) rfl rfl (hb hby d2_11)
  have E_o0 := E_o0.wr W3
  have F__fingerprint_o0 := F__fingerprint_o0.other W3 (Or.inr (slot_ne (Or.inr (hw _ (List.mem_of_getElem? (i := 14) rfl))) (Or.inr (hw _ (List.mem_of_getElem? (i := 16) rfl))) (by decide) (t := (.array .byte)) (t' := (.array .byte)) (by decide) (by decide)))
  have F__answer_o0 : Fld Z h3 o0 "com/example/wunce/wunce/StoredCall" "_answer" "[B" r2 := F__answer_o0.same W3
  have K3 := K2.wr W3 (Or.inl (List.mem_of_getElem? (i := 0) rfl))
  have N3 := Fr.snoc X3 N2 g_o0
  refine Ends.step st3 ?_
  show Ends p e below QQ (T3.setTop (mkF m 14 #[.val (.ref o0), .val r1, .val r2] []))
  exact Ends.fin (none) X3 hQQ (fun _ => rfl) Bd.notSynchronized (fun _ hr => X3.returnOut hx Bd.returns (hb hby d2_14) hr) e3 (by decide) (by decide) ⟨rfl, N3, K3, E_o0, F__fingerprint_o0, F__answer_o0⟩
theorem d1_0 : decode prog_26_method_3_code 0 = .ok (.aload_n 1, 1) := by decide +kernel
theorem d1_1 : decode prog_26_method_3_code 1 = .ok (.ifnonnull 13, 3) := by decide +kernel
theorem d1_14 : decode prog_26_method_3_code 14 = .ok (.new 8, 3) := by decide +kernel
theorem d1_17 : decode prog_26_method_3_code 17 = .ok (.dup, 1) := by decide +kernel
theorem d1_18 : decode prog_26_method_3_code 18 = .ok (.aload_n 0, 1) := by decide +kernel
theorem d1_19 : decode prog_26_method_3_code 19 = .ok (.aload_n 1, 1) := by decide +kernel
theorem d1_20 : decode prog_26_method_3_code 20 = .ok (.invokespecial 16, 3) := by decide +kernel
theorem d1_23 : decode prog_26_method_3_code 23 = .ok (.areturn, 1) := by decide +kernel
theorem ef_1 (m : MethodId) (x0 : Value) (x1 : Addr) (hx0 : x0.isRef = true) : entryFrame m #[x0, (.ref x1)] 2 = mkF m 0 #[.val x0, .val (.ref x1)] [] := by
  rcases XT.refc hx0 with rfl | ⟨_, rfl⟩ <;> rfl
def Q1 (Z : State) (r0 : Value) (o1 : Addr) (h0 : Heap) (n0 : Nat) (v : Option Value) (h : Heap) (L : List Loc) : Prop := ∃ (b : Addr), (v = some (.ref b)) ∧ (Fr n0 L) ∧ (Keep h0 h []) ∧ (h0.size ≤ b) ∧ (n0 ≤ b) ∧ (Exa Z h b "com/example/wunce/wunce/StoredCall") ∧ (Fld Z h b "com/example/wunce/wunce/StoredCall" "_fingerprint" "[B" r0) ∧ (Fld Z h b "com/example/wunce/wunce/StoredCall" "_answer" "[B" (.ref o1))
set_option maxRecDepth 65536 in
set_option maxHeartbeats 40000000 in
theorem rm1 (l : Launch) (Z : State) (a0 : Array Value) (hw : ∀ d ∈ tables_1, d.before a0 Z = true) (ws : List Jvm.Cond) (r0 : Value) (o1 : Addr) (h0 : Heap) (n0 : Nat) (Z0 : n0 ≤ h0.size) (hr_r0 : r0.isRef = true) :
    MetFree l (⟨"com/example/wunce/wunce/StoredCall", "finished", "([B[B)Lcom/example/wunce/wunce/StoredCall;"⟩ : MethodName) (head1 (Jvm.Cond.code (⟨"com/example/wunce/wunce/StoredCall", "finished", "([B[B)Lcom/example/wunce/wunce/StoredCall;"⟩ : MethodName) prog_26_method_3_code 2 (some (.object "com/example/wunce/wunce/StoredCall")) :: ws) ({ frames := 2, cells := 1, slots := 2, locals := 27 } : Room)) (fun a U => a = #[r0, (.ref o1)] ∧ Z.Warmed39 U.vm ∧ U.heap = h0) (fun _ _ _ _ _ => True) (fun _ U o U' => ∃ v L, o = .returned v ∧ Q1 Z r0 o1 h0 n0 v U'.heap L ∧ FrameEnd U o U' L ({ frames := 2, cells := 1, slots := 2, locals := 27 } : Room).cells ({ frames := 2, cells := 1, slots := 2, locals := 27 } : Room).slots) := by
  refine MetFree.of_bodySF (plainFor_of_name pn_0) hisR ?_
  intro p e s m args below meth c s₁ Bd hml0 hP hK
  obtain ⟨rfl, hZ, hh⟩ := hP
  have hx := Bd.exec
  have hby := Bd.bytes
  have hml : c.maxLocals = 2 := hml0
  have hown : s.vm.findClass "com/example/wunce/wunce/StoredCall" = some m.cls := findClass_of_methodNamed Bd.named
  have hnm := (name_of_methodNamed Bd.named Bd.method).1
  have X0 : Stand p l e ({ frames := 2, cells := 1, slots := 2, locals := 27 } : Room) s m #[r0, (.ref o1)] below meth c s₁ [] 0 0 := Stand.of_body Bd
  have e0 : s₁.heap = h0 := by rw [← hh, Bd.state]; rfl
  have N0 := Fr.nil n0
  refine Ends.opn ?_
  intro QQ hQQ
  refine Ends.step (S' := s₁.setTop (mkF m 0 #[.val r0, .val (.ref o1)] [])) (fun t k => castTop (ef_1 m r0 o1 hr_r0) k) ?_
  show Ends p e below QQ (s₁.setTop (mkF m 0 #[.val r0, .val (.ref o1)] []))
  refine Ends.step (fun _ k => XS.aloadN X0.here hx rfl (hb hby d1_0) rfl rfl k) ?_
  show Ends p e below QQ (s₁.setTop (mkF m 1 #[.val r0, .val (.ref o1)] [(.ref o1)]))
  refine Ends.step (fun _ k => XT.ifnonnullYes X0.here hx rfl (pc0 := 1) (pc' := 14) rfl (hb hby d1_1) rfl (by decide) (by decide) k) ?_
  show Ends p e below QQ (s₁.setTop (mkF m 14 #[.val r0, .val (.ref o1)] []))
  obtain ⟨T4, h4, X4, e4, E4, A4, D4, U4, st4⟩ := newO X0 hx hZ hown (hw _ (List.mem_of_getElem? (i := 5) rfl)) (hw _ (List.mem_of_getElem? (i := 6) rfl)) (hw _ (List.mem_of_getElem? (i := 3) rfl)) e0 (g := (mkF m 14 #[.val r0, .val (.ref o1)] [])) rfl (hb hby d1_14) (by decide) (by decide)
  obtain ⟨b4, g4⟩ : ∃ z, z = h0.size := ⟨_, rfl⟩
  rw [← g4] at A4 D4 U4 st4
  have g_b4 : n0 ≤ b4 := Nat.le_trans Z0 (Nat.le_trans (Keep.refl h0 []).1 (Nat.le_of_eq g4.symm))
  have sz_b4 : h0.size ≤ b4 := Nat.le_trans (Keep.refl h0 []).1 (Nat.le_of_eq g4.symm)
  have K4 := (Keep.refl h0 []).ext E4
  have E_b4 := A4
  have F__fingerprint_b4 : Fld Z h4 b4 "com/example/wunce/wunce/StoredCall" "_fingerprint" "[B" .null := D4 (Or.inr (hw _ (List.mem_of_getElem? (i := 14) rfl))) (ty := (.array .byte)) (by decide)
  have F__answer_b4 : Fld Z h4 b4 "com/example/wunce/wunce/StoredCall" "_answer" "[B" .null := D4 (Or.inr (hw _ (List.mem_of_getElem? (i := 16) rfl))) (ty := (.array .byte)) (by decide)
  refine Ends.step st4 ?_
  show Ends p e below QQ (T4.setTop (mkF m 17 #[.val r0, .val (.ref o1)] [(.ref b4)]))
  refine Ends.step (fun _ k => XS.dup X4.here hx rfl (hb hby d1_17) rfl rfl k) ?_
  show Ends p e below QQ (T4.setTop (mkF m 18 #[.val r0, .val (.ref o1)] [(.ref b4), (.ref b4)]))
  refine Ends.step (fun _ k => XS.aloadN X4.here hx rfl (hb hby d1_18) rfl hr_r0 k) ?_
  show Ends p e below QQ (T4.setTop (mkF m 19 #[.val r0, .val (.ref o1)] [r0, (.ref b4), (.ref b4)]))
  refine Ends.step (fun _ k => XS.aloadN X4.here hx rfl (hb hby d1_19) rfl rfl k) ?_
  show Ends p e below QQ (T4.setTop (mkF m 20 #[.val r0, .val (.ref o1)] [(.ref o1), r0, (.ref b4), (.ref b4)]))
  obtain ⟨_, _, ⟨T5, L5, k5, n5⟩, -, X5, ⟨Lc5, hQ5, l5, y5, z5⟩, st5⟩ := X4.specialBack hx (y := (⟨"com/example/wunce/wunce/StoredCall", "<init>", "([B[B)V"⟩ : MethodName)) rfl hown (mvT hZ (hw _ (List.mem_of_getElem? (i := 7) rfl))) (mvT hZ (hw _ (List.mem_of_getElem? (i := 8) rfl))) (mvT hZ (hw _ (List.mem_of_getElem? (i := 9) rfl))) (by decide) (backOf (W := 1) (rm2 l Z a0 hw [] b4 r0 ((.ref o1) : Value) (.null : Value) (.null : Value) h4 n0 (Nat.le_trans Z0 K4.1) hr_r0 rfl E_b4 F__fingerprint_b4 F__answer_b4 g_b4) hZ (hw _ (List.mem_of_getElem? (i := 9) rfl)) (hw _ (List.mem_of_getElem? (i := 3) rfl)) (by decide) (by decide)) (g := (mkF m 20 #[.val r0, .val (.ref o1)] [(.ref o1), r0, (.ref b4), (.ref b4)])) rfl (by rw [hml]; rfl) (Steps.refl _) (a := b4) (argsL := [r0, (.ref o1)]) (rest := [(.ref b4)]) (lenOf pd_0 rfl) rfl (by show 2 * 0 + _ ≤ _; exact Nat.le_of_eq rfl) (hb hby d1_20) (fun _ _ => ⟨rfl, e4, (by decide : 1 + 0 ≤ _), (by decide : 2 + 0 ≤ _)⟩)
  dsimp only [Pt.U, Pt.locs, Pt.cells, Pt.slots] at X5 l5 y5 z5 st5 hQ5
  subst l5 y5 z5
  obtain ⟨rfl, Nq5, Kq5, fq5_0, fq5_1, fq5_2⟩ := hQ5
  have N5 := Fr.app N0 Nq5
  have E_b4 := fq5_0
  have F__fingerprint_b4 := fq5_1
  have F__answer_b4 := fq5_2
  have K5 := K4.trans Kq5 (allS (Or.inr sz_b4) all0)
  refine Ends.step (fun _ k => st5.trans k) ?_
  show Ends p e below QQ (T5.setTop (mkF m 23 #[.val r0, .val (.ref o1)] [(.ref b4)]))
  exact Ends.fin (some (.ref b4)) X5 hQQ (fun h => by rw [Bd.returns] at h; cases h) Bd.notSynchronized (fun _ hr => retOut X5 hx (t := (.object "com/example/wunce/wunce/StoredCall")) Bd.returns rfl (Or.inr (Or.inr (Or.inr (Or.inr ⟨rfl, rfl, rfl⟩)))) (hb hby d1_23) hr) rfl (by decide) (by decide) ⟨b4, rfl, N5, K5, sz_b4, g_b4, E_b4, F__fingerprint_b4, F__answer_b4⟩
theorem d4_0 : decode prog_26_method_4_code 0 = .ok (.aload_n 0, 1) := by decide +kernel
theorem d4_1 : decode prog_26_method_4_code 1 = .ok (.getfield 7, 3) := by decide +kernel
theorem d4_4 : decode prog_26_method_4_code 4 = .ok (.areturn, 1) := by decide +kernel
theorem ef_4 (m : MethodId) (x0 : Addr) : entryFrame m #[(.ref x0)] 1 = mkF m 0 #[.val (.ref x0)] [] := by first | (simp [entryFrame, mkF, argsToLocals, Value.category]; done) | rfl
def Q4 (Z : State) (o0 : Addr) (u : Value) (h0 : Heap) (n0 : Nat) (v : Option Value) (h : Heap) (L : List Loc) : Prop := (v = some u) ∧ (Fr n0 L) ∧ (h = h0)
set_option maxRecDepth 65536 in
set_option maxHeartbeats 40000000 in
theorem rm4 (l : Launch) (Z : State) (a0 : Array Value) (hw : ∀ d ∈ tables_1, d.before a0 Z = true) (ws : List Jvm.Cond) (o0 : Addr) (u : Value) (h0 : Heap) (n0 : Nat) (Z0 : n0 ≤ h0.size) (F__fingerprint_o0 : Fld Z h0 o0 "com/example/wunce/wunce/StoredCall" "_fingerprint" "[B" u) (hr_u : u.isRef = true) :
    MetFree l (⟨"com/example/wunce/wunce/StoredCall", "fingerprint", "()[B"⟩ : MethodName) (head1 (Jvm.Cond.code (⟨"com/example/wunce/wunce/StoredCall", "fingerprint", "()[B"⟩ : MethodName) prog_26_method_4_code 1 (some (.array .byte)) :: ws) ({ frames := 0, cells := 0, slots := 0, locals := 0 } : Room)) (fun a U => a = #[(.ref o0)] ∧ Z.Warmed39 U.vm ∧ U.heap = h0) (fun _ _ _ _ _ => True) (fun _ U o U' => ∃ v L, o = .returned v ∧ Q4 Z o0 u h0 n0 v U'.heap L ∧ FrameEnd U o U' L ({ frames := 0, cells := 0, slots := 0, locals := 0 } : Room).cells ({ frames := 0, cells := 0, slots := 0, locals := 0 } : Room).slots) := by
  refine MetFree.of_bodySF (plainFor_of_name pn_0) hisR ?_
  intro p e s m args below meth c s₁ Bd hml0 hP hK
  obtain ⟨rfl, hZ, hh⟩ := hP
  have hx := Bd.exec
  have hby := Bd.bytes
  have hml : c.maxLocals = 1 := hml0
  have hown : s.vm.findClass "com/example/wunce/wunce/StoredCall" = some m.cls := findClass_of_methodNamed Bd.named
  have hnm := (name_of_methodNamed Bd.named Bd.method).1
  have X0 : Stand p l e ({ frames := 0, cells := 0, slots := 0, locals := 0 } : Room) s m #[(.ref o0)] below meth c s₁ [] 0 0 := Stand.of_body Bd
  have e0 : s₁.heap = h0 := by rw [← hh, Bd.state]; rfl
  have N0 := Fr.nil n0
  refine Ends.opn ?_
  intro QQ hQQ
  refine Ends.step (S' := s₁.setTop (mkF m 0 #[.val (.ref o0)] [])) (fun t k => castTop (ef_4 m o0) k) ?_
  show Ends p e below QQ (s₁.setTop (mkF m 0 #[.val (.ref o0)] []))
  refine Ends.step (fun _ k => XS.aloadN X0.here hx rfl (hb hby d4_0) rfl rfl k) ?_
  show Ends p e below QQ (s₁.setTop (mkF m 1 #[.val (.ref o0)] [(.ref o0)]))
  obtain ⟨T6, X6, e6, st6⟩ := getF X0 hx hZ hown (host := "") (Or.inl (hw _ (List.mem_of_getElem? (i := 13) rfl))) Via.refl e0 F__fingerprint_o0 (g := (mkF m 1 #[.val (.ref o0)] [(.ref o0)])) rfl rfl (hb hby d4_1)
  refine Ends.step st6 ?_
  show Ends p e below QQ (T6.setTop (mkF m 4 #[.val (.ref o0)] [u]))
  exact Ends.fin (some u) X6 hQQ (fun h => by rw [Bd.returns] at h; cases h) Bd.notSynchronized (fun _ hr => retOut X6 hx (t := (.array .byte)) Bd.returns (own_narref hr_u rfl) (Or.inr (Or.inr (Or.inr (Or.inr ⟨rfl, rfl, hr_u⟩)))) (hb hby d4_4) hr) e6 (by decide) (by decide) ⟨rfl, N0, rfl⟩
theorem d5_0 : decode prog_26_method_6_code 0 = .ok (.aload_n 0, 1) := by decide +kernel
theorem d5_1 : decode prog_26_method_6_code 1 = .ok (.getfield 13, 3) := by decide +kernel
theorem d5_4 : decode prog_26_method_6_code 4 = .ok (.areturn, 1) := by decide +kernel
theorem ef_5 (m : MethodId) (x0 : Addr) : entryFrame m #[(.ref x0)] 1 = mkF m 0 #[.val (.ref x0)] [] := by first | (simp [entryFrame, mkF, argsToLocals, Value.category]; done) | rfl
def Q5 (Z : State) (o0 : Addr) (u : Value) (h0 : Heap) (n0 : Nat) (v : Option Value) (h : Heap) (L : List Loc) : Prop := (v = some u) ∧ (Fr n0 L) ∧ (h = h0)
set_option maxRecDepth 65536 in
set_option maxHeartbeats 40000000 in
theorem rm5 (l : Launch) (Z : State) (a0 : Array Value) (hw : ∀ d ∈ tables_1, d.before a0 Z = true) (ws : List Jvm.Cond) (o0 : Addr) (u : Value) (h0 : Heap) (n0 : Nat) (Z0 : n0 ≤ h0.size) (F__answer_o0 : Fld Z h0 o0 "com/example/wunce/wunce/StoredCall" "_answer" "[B" u) (hr_u : u.isRef = true) :
    MetFree l (⟨"com/example/wunce/wunce/StoredCall", "answer", "()[B"⟩ : MethodName) (head1 (Jvm.Cond.code (⟨"com/example/wunce/wunce/StoredCall", "answer", "()[B"⟩ : MethodName) prog_26_method_6_code 1 (some (.array .byte)) :: ws) ({ frames := 0, cells := 0, slots := 0, locals := 0 } : Room)) (fun a U => a = #[(.ref o0)] ∧ Z.Warmed39 U.vm ∧ U.heap = h0) (fun _ _ _ _ _ => True) (fun _ U o U' => ∃ v L, o = .returned v ∧ Q5 Z o0 u h0 n0 v U'.heap L ∧ FrameEnd U o U' L ({ frames := 0, cells := 0, slots := 0, locals := 0 } : Room).cells ({ frames := 0, cells := 0, slots := 0, locals := 0 } : Room).slots) := by
  refine MetFree.of_bodySF (plainFor_of_name pn_0) hisR ?_
  intro p e s m args below meth c s₁ Bd hml0 hP hK
  obtain ⟨rfl, hZ, hh⟩ := hP
  have hx := Bd.exec
  have hby := Bd.bytes
  have hml : c.maxLocals = 1 := hml0
  have hown : s.vm.findClass "com/example/wunce/wunce/StoredCall" = some m.cls := findClass_of_methodNamed Bd.named
  have hnm := (name_of_methodNamed Bd.named Bd.method).1
  have X0 : Stand p l e ({ frames := 0, cells := 0, slots := 0, locals := 0 } : Room) s m #[(.ref o0)] below meth c s₁ [] 0 0 := Stand.of_body Bd
  have e0 : s₁.heap = h0 := by rw [← hh, Bd.state]; rfl
  have N0 := Fr.nil n0
  refine Ends.opn ?_
  intro QQ hQQ
  refine Ends.step (S' := s₁.setTop (mkF m 0 #[.val (.ref o0)] [])) (fun t k => castTop (ef_5 m o0) k) ?_
  show Ends p e below QQ (s₁.setTop (mkF m 0 #[.val (.ref o0)] []))
  refine Ends.step (fun _ k => XS.aloadN X0.here hx rfl (hb hby d5_0) rfl rfl k) ?_
  show Ends p e below QQ (s₁.setTop (mkF m 1 #[.val (.ref o0)] [(.ref o0)]))
  obtain ⟨T7, X7, e7, st7⟩ := getF X0 hx hZ hown (host := "") (Or.inl (hw _ (List.mem_of_getElem? (i := 15) rfl))) Via.refl e0 F__answer_o0 (g := (mkF m 1 #[.val (.ref o0)] [(.ref o0)])) rfl rfl (hb hby d5_1)
  refine Ends.step st7 ?_
  show Ends p e below QQ (T7.setTop (mkF m 4 #[.val (.ref o0)] [u]))
  exact Ends.fin (some u) X7 hQQ (fun h => by rw [Bd.returns] at h; cases h) Bd.notSynchronized (fun _ hr => retOut X7 hx (t := (.array .byte)) Bd.returns (own_narref hr_u rfl) (Or.inr (Or.inr (Or.inr (Or.inr ⟨rfl, rfl, hr_u⟩)))) (hb hby d5_4) hr) e7 (by decide) (by decide) ⟨rfl, N0, rfl⟩
theorem d6_0 : decode prog_26_method_5_code 0 = .ok (.aload_n 0, 1) := by decide +kernel
theorem d6_1 : decode prog_26_method_5_code 1 = .ok (.getfield 13, 3) := by decide +kernel
theorem d6_4 : decode prog_26_method_5_code 4 = .ok (.ifnull 7, 3) := by decide +kernel
theorem d6_7 : decode prog_26_method_5_code 7 = .ok (.iconst 1, 1) := by decide +kernel
theorem d6_8 : decode prog_26_method_5_code 8 = .ok (.goto 4, 3) := by decide +kernel
theorem d6_12 : decode prog_26_method_5_code 12 = .ok (.ireturn, 1) := by decide +kernel
theorem ef_6 (m : MethodId) (x0 : Addr) : entryFrame m #[(.ref x0)] 1 = mkF m 0 #[.val (.ref x0)] [] := by first | (simp [entryFrame, mkF, argsToLocals, Value.category]; done) | rfl
def Q6 (Z : State) (o0 : Addr) (w : Addr) (h0 : Heap) (n0 : Nat) (v : Option Value) (h : Heap) (L : List Loc) : Prop := (v = some (.int (1 : Int32))) ∧ (Fr n0 L) ∧ (h = h0)
set_option maxRecDepth 65536 in
set_option maxHeartbeats 40000000 in
theorem rm6 (l : Launch) (Z : State) (a0 : Array Value) (hw : ∀ d ∈ tables_1, d.before a0 Z = true) (ws : List Jvm.Cond) (o0 : Addr) (w : Addr) (h0 : Heap) (n0 : Nat) (Z0 : n0 ≤ h0.size) (F__answer_o0 : Fld Z h0 o0 "com/example/wunce/wunce/StoredCall" "_answer" "[B" (.ref w)) :
    MetFree l (⟨"com/example/wunce/wunce/StoredCall", "isFinished", "()Z"⟩ : MethodName) (head1 (Jvm.Cond.code (⟨"com/example/wunce/wunce/StoredCall", "isFinished", "()Z"⟩ : MethodName) prog_26_method_5_code 1 (some .boolean) :: ws) ({ frames := 0, cells := 0, slots := 0, locals := 0 } : Room)) (fun a U => a = #[(.ref o0)] ∧ Z.Warmed39 U.vm ∧ U.heap = h0) (fun _ _ _ _ _ => True) (fun _ U o U' => ∃ v L, o = .returned v ∧ Q6 Z o0 w h0 n0 v U'.heap L ∧ FrameEnd U o U' L ({ frames := 0, cells := 0, slots := 0, locals := 0 } : Room).cells ({ frames := 0, cells := 0, slots := 0, locals := 0 } : Room).slots) := by
  refine MetFree.of_bodySF (plainFor_of_name pn_0) hisR ?_
  intro p e s m args below meth c s₁ Bd hml0 hP hK
  obtain ⟨rfl, hZ, hh⟩ := hP
  have hx := Bd.exec
  have hby := Bd.bytes
  have hml : c.maxLocals = 1 := hml0
  have hown : s.vm.findClass "com/example/wunce/wunce/StoredCall" = some m.cls := findClass_of_methodNamed Bd.named
  have hnm := (name_of_methodNamed Bd.named Bd.method).1
  have X0 : Stand p l e ({ frames := 0, cells := 0, slots := 0, locals := 0 } : Room) s m #[(.ref o0)] below meth c s₁ [] 0 0 := Stand.of_body Bd
  have e0 : s₁.heap = h0 := by rw [← hh, Bd.state]; rfl
  have N0 := Fr.nil n0
  refine Ends.opn ?_
  intro QQ hQQ
  refine Ends.step (S' := s₁.setTop (mkF m 0 #[.val (.ref o0)] [])) (fun t k => castTop (ef_6 m o0) k) ?_
  show Ends p e below QQ (s₁.setTop (mkF m 0 #[.val (.ref o0)] []))
  refine Ends.step (fun _ k => XS.aloadN X0.here hx rfl (hb hby d6_0) rfl rfl k) ?_
  show Ends p e below QQ (s₁.setTop (mkF m 1 #[.val (.ref o0)] [(.ref o0)]))
  obtain ⟨T8, X8, e8, st8⟩ := getF X0 hx hZ hown (host := "") (Or.inl (hw _ (List.mem_of_getElem? (i := 15) rfl))) Via.refl e0 F__answer_o0 (g := (mkF m 1 #[.val (.ref o0)] [(.ref o0)])) rfl rfl (hb hby d6_1)
  refine Ends.step st8 ?_
  show Ends p e below QQ (T8.setTop (mkF m 4 #[.val (.ref o0)] [(.ref w)]))
  refine Ends.step (fun _ k => XS.ifnullNo X8.here hx rfl (hb hby d6_4) rfl k) ?_
  show Ends p e below QQ (T8.setTop (mkF m 7 #[.val (.ref o0)] []))
  refine Ends.step (fun _ k => XT.iconstV X8.here hx rfl (1 : Int32) (hb hby d6_7) rfl k) ?_
  show Ends p e below QQ (T8.setTop (mkF m 8 #[.val (.ref o0)] [(.int (1 : Int32))]))
  refine Ends.step (fun _ k => XS.goto X8.here hx rfl (pc0 := 8) (pc' := 12) rfl (hb hby d6_8) (by decide) (by decide) k) ?_
  show Ends p e below QQ (T8.setTop (mkF m 12 #[.val (.ref o0)] [(.int (1 : Int32))]))
  exact Ends.fin (some (.int (1 : Int32))) X8 hQQ (fun h => by rw [Bd.returns] at h; cases h) Bd.notSynchronized (fun _ hr => retOut X8 hx (t := .boolean) Bd.returns rfl (Or.inl ⟨rfl, (by simp), _, rfl⟩) (hb hby d6_12) hr) e8 (by decide) (by decide) ⟨rfl, N0, rfl⟩
theorem d7_0 : decode method_3_code 0 = .ok (.iload_n 1, 1) := by decide +kernel
theorem d7_1 : decode method_3_code 1 = .ok (.ifCond .ne 14, 3) := by decide +kernel
theorem d7_4 : decode method_3_code 4 = .ok (.aload_n 0, 1) := by decide +kernel
theorem d7_5 : decode method_3_code 5 = .ok (.arraylength, 1) := by decide +kernel
theorem d7_6 : decode method_3_code 6 = .ok (.ifCond .ne 7, 3) := by decide +kernel
theorem d7_9 : decode method_3_code 9 = .ok (.iconst 1, 1) := by decide +kernel
theorem d7_10 : decode method_3_code 10 = .ok (.goto 4, 3) := by decide +kernel
theorem d7_14 : decode method_3_code 14 = .ok (.ireturn, 1) := by decide +kernel
theorem ef_7a (m : MethodId) (x0 : Addr) (x1 : Int32) (x2 : Int32) (x3 : Int32) : entryFrame m #[(.ref x0), (.int x1), (.int x2), (.int x3)] 4 = mkF m 0 #[.val (.ref x0), .val (.int x1), .val (.int x2), .val (.int x3)] [] := by first | (simp [entryFrame, mkF, argsToLocals, Value.category]; done) | rfl
def Q7a (Z : State) (o0 : Addr) (p1 : Int32) (p2 : Int32) (p3 : Int32) (k : ClassId) (h0 : Heap) (n0 : Nat) (v : Option Value) (h : Heap) (L : List Loc) : Prop := (v = some (.int (1 : Int32))) ∧ (Fr n0 L) ∧ (h = h0)
set_option maxRecDepth 65536 in
set_option maxHeartbeats 40000000 in
theorem rm7a (l : Launch) (Z : State) (a0 : Array Value) (hw : ∀ d ∈ tables_1, d.before a0 Z = true) (ws : List Jvm.Cond) (o0 : Addr) (p1 : Int32) (p2 : Int32) (p3 : Int32) (k : ClassId) (h0 : Heap) (n0 : Nat) (Z0 : n0 ≤ h0.size) (A_o0 : Arv Z h0 o0 k .byte (0 : Int32) [] (.int (0 : Int32))) (hk : p1 = (0 : Int32)) :
    MetFree l (⟨"com/example/wunce/wunce/StoredCallFinishedPinLaw", "answerIntact", "([BIBB)Z"⟩ : MethodName) (head1 (Jvm.Cond.code (⟨"com/example/wunce/wunce/StoredCallFinishedPinLaw", "answerIntact", "([BIBB)Z"⟩ : MethodName) method_3_code 4 (some .boolean) :: ws) ({ frames := 0, cells := 0, slots := 0, locals := 0 } : Room)) (fun a U => a = #[(.ref o0), (.int p1), (.int p2), (.int p3)] ∧ Z.Warmed39 U.vm ∧ U.heap = h0) (fun _ _ _ _ _ => True) (fun _ U o U' => ∃ v L, o = .returned v ∧ Q7a Z o0 p1 p2 p3 k h0 n0 v U'.heap L ∧ FrameEnd U o U' L ({ frames := 0, cells := 0, slots := 0, locals := 0 } : Room).cells ({ frames := 0, cells := 0, slots := 0, locals := 0 } : Room).slots) := by
  refine MetFree.of_bodySF (plainFor_of_name pn_1) hisR ?_
  intro p e s m args below meth c s₁ Bd hml0 hP hK
  obtain ⟨rfl, hZ, hh⟩ := hP
  have hx := Bd.exec
  have hby := Bd.bytes
  have hml : c.maxLocals = 4 := hml0
  have hown : s.vm.findClass "com/example/wunce/wunce/StoredCallFinishedPinLaw" = some m.cls := findClass_of_methodNamed Bd.named
  have hnm := (name_of_methodNamed Bd.named Bd.method).1
  have X0 : Stand p l e ({ frames := 0, cells := 0, slots := 0, locals := 0 } : Room) s m #[(.ref o0), (.int p1), (.int p2), (.int p3)] below meth c s₁ [] 0 0 := Stand.of_body Bd
  have e0 : s₁.heap = h0 := by rw [← hh, Bd.state]; rfl
  have N0 := Fr.nil n0
  refine Ends.opn ?_
  intro QQ hQQ
  refine Ends.step (S' := s₁.setTop (mkF m 0 #[.val (.ref o0), .val (.int p1), .val (.int p2), .val (.int p3)] [])) (fun t k => castTop (ef_7a m o0 p1 p2 p3) k) ?_
  show Ends p e below QQ (s₁.setTop (mkF m 0 #[.val (.ref o0), .val (.int p1), .val (.int p2), .val (.int p3)] []))
  refine Ends.step (fun _ k => XS.iloadN X0.here hx rfl (hb hby d7_0) rfl k) ?_
  show Ends p e below QQ (s₁.setTop (mkF m 1 #[.val (.ref o0), .val (.int p1), .val (.int p2), .val (.int p3)] [(.int p1)]))
  have hc1 : p1 = (0 : Int32) := hk
  refine Ends.step (fun _ k => XS.ifNo X0.here hx rfl (hb hby d7_1) rfl (XT.i0_ne_f hc1) k) ?_
  show Ends p e below QQ (s₁.setTop (mkF m 4 #[.val (.ref o0), .val (.int p1), .val (.int p2), .val (.int p3)] []))
  refine Ends.step (fun _ k => XS.aloadN X0.here hx rfl (hb hby d7_4) rfl rfl k) ?_
  show Ends p e below QQ (s₁.setTop (mkF m 5 #[.val (.ref o0), .val (.int p1), .val (.int p2), .val (.int p3)] [(.ref o0)]))
  obtain ⟨cl9, Ar9, -, S9, P9, -, -⟩ := id A_o0
  refine Ends.step (S' := s₁.setTop (mkF m 6 #[.val (.ref o0), .val (.int p1), .val (.int p2), .val (.int p3)] [(.int (0 : Int32))])) (fun _ k => X0.arraylength hx (by rw [e0]; exact Ar9.1) (State.isArrayOf_alike hZ.alike Ar9.2.1) (g := (mkF m 5 #[.val (.ref o0), .val (.int p1), .val (.int p2), .val (.int p3)] [(.ref o0)])) rfl rfl (hb hby d7_5) _ (by rw [len_of S9 P9]; exact k)) ?_
  show Ends p e below QQ (s₁.setTop (mkF m 6 #[.val (.ref o0), .val (.int p1), .val (.int p2), .val (.int p3)] [(.int (0 : Int32))]))
  refine Ends.step (fun _ k => XS.ifNo X0.here hx rfl (hb hby d7_6) rfl (XT.i0_ne_f (by decide)) k) ?_
  show Ends p e below QQ (s₁.setTop (mkF m 9 #[.val (.ref o0), .val (.int p1), .val (.int p2), .val (.int p3)] []))
  refine Ends.step (fun _ k => XT.iconstV X0.here hx rfl (1 : Int32) (hb hby d7_9) rfl k) ?_
  show Ends p e below QQ (s₁.setTop (mkF m 10 #[.val (.ref o0), .val (.int p1), .val (.int p2), .val (.int p3)] [(.int (1 : Int32))]))
  refine Ends.step (fun _ k => XS.goto X0.here hx rfl (pc0 := 10) (pc' := 14) rfl (hb hby d7_10) (by decide) (by decide) k) ?_
  show Ends p e below QQ (s₁.setTop (mkF m 14 #[.val (.ref o0), .val (.int p1), .val (.int p2), .val (.int p3)] [(.int (1 : Int32))]))
  exact Ends.fin (some (.int (1 : Int32))) X0 hQQ (fun h => by rw [Bd.returns] at h; cases h) Bd.notSynchronized (fun _ hr => retOut X0 hx (t := .boolean) Bd.returns rfl (Or.inl ⟨rfl, (by simp), _, rfl⟩) (hb hby d7_14) hr) e0 (by decide) (by decide) ⟨rfl, N0, rfl⟩
theorem d7_15 : decode method_3_code 15 = .ok (.iload_n 1, 1) := by decide +kernel
theorem d7_16 : decode method_3_code 16 = .ok (.iconst 1, 1) := by decide +kernel
theorem d7_17 : decode method_3_code 17 = .ok (.if_icmp .ne 22, 3) := by decide +kernel
theorem d7_20 : decode method_3_code 20 = .ok (.aload_n 0, 1) := by decide +kernel
theorem d7_21 : decode method_3_code 21 = .ok (.arraylength, 1) := by decide +kernel
theorem d7_22 : decode method_3_code 22 = .ok (.iconst 1, 1) := by decide +kernel
theorem d7_23 : decode method_3_code 23 = .ok (.if_icmp .ne 14, 3) := by decide +kernel
theorem d7_26 : decode method_3_code 26 = .ok (.aload_n 0, 1) := by decide +kernel
theorem d7_27 : decode method_3_code 27 = .ok (.iconst 0, 1) := by decide +kernel
theorem d7_28 : decode method_3_code 28 = .ok (.baload, 1) := by decide +kernel
theorem d7_29 : decode method_3_code 29 = .ok (.iload_n 2, 1) := by decide +kernel
theorem d7_30 : decode method_3_code 30 = .ok (.if_icmp .ne 7, 3) := by decide +kernel
theorem d7_33 : decode method_3_code 33 = .ok (.iconst 1, 1) := by decide +kernel
theorem d7_34 : decode method_3_code 34 = .ok (.goto 4, 3) := by decide +kernel
theorem d7_38 : decode method_3_code 38 = .ok (.ireturn, 1) := by decide +kernel
theorem ef_7b (m : MethodId) (x0 : Addr) (x1 : Int32) (x2 : Int32) (x3 : Int32) : entryFrame m #[(.ref x0), (.int x1), (.int x2), (.int x3)] 4 = mkF m 0 #[.val (.ref x0), .val (.int x1), .val (.int x2), .val (.int x3)] [] := by first | (simp [entryFrame, mkF, argsToLocals, Value.category]; done) | rfl
def Q7b (Z : State) (o0 : Addr) (p1 : Int32) (p2 : Int32) (p3 : Int32) (k : ClassId) (h0 : Heap) (n0 : Nat) (v : Option Value) (h : Heap) (L : List Loc) : Prop := (v = some (.int (1 : Int32))) ∧ (Fr n0 L) ∧ (h = h0)
set_option maxRecDepth 65536 in
set_option maxHeartbeats 40000000 in
theorem rm7b (l : Launch) (Z : State) (a0 : Array Value) (hw : ∀ d ∈ tables_1, d.before a0 Z = true) (ws : List Jvm.Cond) (o0 : Addr) (p1 : Int32) (p2 : Int32) (p3 : Int32) (k : ClassId) (h0 : Heap) (n0 : Nat) (Z0 : n0 ≤ h0.size) (A_o0 : Arv Z h0 o0 k .byte (1 : Int32) [(.int p2)] (.int (0 : Int32))) (hk : ¬ p1 = (0 : Int32)) (hk1 : p1 = (1 : Int32)) :
    MetFree l (⟨"com/example/wunce/wunce/StoredCallFinishedPinLaw", "answerIntact", "([BIBB)Z"⟩ : MethodName) (head1 (Jvm.Cond.code (⟨"com/example/wunce/wunce/StoredCallFinishedPinLaw", "answerIntact", "([BIBB)Z"⟩ : MethodName) method_3_code 4 (some .boolean) :: ws) ({ frames := 0, cells := 0, slots := 0, locals := 0 } : Room)) (fun a U => a = #[(.ref o0), (.int p1), (.int p2), (.int p3)] ∧ Z.Warmed39 U.vm ∧ U.heap = h0) (fun _ _ _ _ _ => True) (fun _ U o U' => ∃ v L, o = .returned v ∧ Q7b Z o0 p1 p2 p3 k h0 n0 v U'.heap L ∧ FrameEnd U o U' L ({ frames := 0, cells := 0, slots := 0, locals := 0 } : Room).cells ({ frames := 0, cells := 0, slots := 0, locals := 0 } : Room).slots) := by
  refine MetFree.of_bodySF (plainFor_of_name pn_1) hisR ?_
  intro p e s m args below meth c s₁ Bd hml0 hP hK
  obtain ⟨rfl, hZ, hh⟩ := hP
  have hx := Bd.exec
  have hby := Bd.bytes
  have hml : c.maxLocals = 4 := hml0
  have hown : s.vm.findClass "com/example/wunce/wunce/StoredCallFinishedPinLaw" = some m.cls := findClass_of_methodNamed Bd.named
  have hnm := (name_of_methodNamed Bd.named Bd.method).1
  have X0 : Stand p l e ({ frames := 0, cells := 0, slots := 0, locals := 0 } : Room) s m #[(.ref o0), (.int p1), (.int p2), (.int p3)] below meth c s₁ [] 0 0 := Stand.of_body Bd
  have e0 : s₁.heap = h0 := by rw [← hh, Bd.state]; rfl
  have N0 := Fr.nil n0
  refine Ends.opn ?_
  intro QQ hQQ
  refine Ends.step (S' := s₁.setTop (mkF m 0 #[.val (.ref o0), .val (.int p1), .val (.int p2), .val (.int p3)] [])) (fun t k => castTop (ef_7b m o0 p1 p2 p3) k) ?_
  show Ends p e below QQ (s₁.setTop (mkF m 0 #[.val (.ref o0), .val (.int p1), .val (.int p2), .val (.int p3)] []))
  refine Ends.step (fun _ k => XS.iloadN X0.here hx rfl (hb hby d7_0) rfl k) ?_
  show Ends p e below QQ (s₁.setTop (mkF m 1 #[.val (.ref o0), .val (.int p1), .val (.int p2), .val (.int p3)] [(.int p1)]))
  have hc1 : ¬ (p1 = (0 : Int32)) := hk
  refine Ends.step (fun _ k => XS.ifYes X0.here hx rfl (pc0 := 1) (pc' := 15) rfl (hb hby d7_1) rfl (XT.i0_ne_t hc1) (by decide) (by decide) k) ?_
  show Ends p e below QQ (s₁.setTop (mkF m 15 #[.val (.ref o0), .val (.int p1), .val (.int p2), .val (.int p3)] []))
  refine Ends.step (fun _ k => XS.iloadN X0.here hx rfl (hb hby d7_15) rfl k) ?_
  show Ends p e below QQ (s₁.setTop (mkF m 16 #[.val (.ref o0), .val (.int p1), .val (.int p2), .val (.int p3)] [(.int p1)]))
  refine Ends.step (fun _ k => XT.iconstV X0.here hx rfl (1 : Int32) (hb hby d7_16) rfl k) ?_
  show Ends p e below QQ (s₁.setTop (mkF m 17 #[.val (.ref o0), .val (.int p1), .val (.int p2), .val (.int p3)] [(.int (1 : Int32)), (.int p1)]))
  have hc17 : p1 = (1 : Int32) := hk1
  refine Ends.step (fun _ k => XS.icmpNo X0.here hx rfl (hb hby d7_17) rfl (XT.ii_ne_f hc17) k) ?_
  show Ends p e below QQ (s₁.setTop (mkF m 20 #[.val (.ref o0), .val (.int p1), .val (.int p2), .val (.int p3)] []))
  refine Ends.step (fun _ k => XS.aloadN X0.here hx rfl (hb hby d7_20) rfl rfl k) ?_
  show Ends p e below QQ (s₁.setTop (mkF m 21 #[.val (.ref o0), .val (.int p1), .val (.int p2), .val (.int p3)] [(.ref o0)]))
  obtain ⟨cl10, Ar10, -, S10, P10, -, -⟩ := id A_o0
  refine Ends.step (S' := s₁.setTop (mkF m 22 #[.val (.ref o0), .val (.int p1), .val (.int p2), .val (.int p3)] [(.int (1 : Int32))])) (fun _ k => X0.arraylength hx (by rw [e0]; exact Ar10.1) (State.isArrayOf_alike hZ.alike Ar10.2.1) (g := (mkF m 21 #[.val (.ref o0), .val (.int p1), .val (.int p2), .val (.int p3)] [(.ref o0)])) rfl rfl (hb hby d7_21) _ (by rw [len_of S10 P10]; exact k)) ?_
  show Ends p e below QQ (s₁.setTop (mkF m 22 #[.val (.ref o0), .val (.int p1), .val (.int p2), .val (.int p3)] [(.int (1 : Int32))]))
  refine Ends.step (fun _ k => XT.iconstV X0.here hx rfl (1 : Int32) (hb hby d7_22) rfl k) ?_
  show Ends p e below QQ (s₁.setTop (mkF m 23 #[.val (.ref o0), .val (.int p1), .val (.int p2), .val (.int p3)] [(.int (1 : Int32)), (.int (1 : Int32))]))
  refine Ends.step (fun _ k => XS.icmpNo X0.here hx rfl (hb hby d7_23) rfl (XT.ii_ne_f (by decide)) k) ?_
  show Ends p e below QQ (s₁.setTop (mkF m 26 #[.val (.ref o0), .val (.int p1), .val (.int p2), .val (.int p3)] []))
  refine Ends.step (fun _ k => XS.aloadN X0.here hx rfl (hb hby d7_26) rfl rfl k) ?_
  show Ends p e below QQ (s₁.setTop (mkF m 27 #[.val (.ref o0), .val (.int p1), .val (.int p2), .val (.int p3)] [(.ref o0)]))
  refine Ends.step (fun _ k => XT.iconstV X0.here hx rfl (0 : Int32) (hb hby d7_27) rfl k) ?_
  show Ends p e below QQ (s₁.setTop (mkF m 28 #[.val (.ref o0), .val (.int p1), .val (.int p2), .val (.int p3)] [(.int (0 : Int32)), (.ref o0)]))
  obtain ⟨cl11, Ar11, q11, S11, P11, H11, G11⟩ := id A_o0
  have hin11 : ¬ ((0 : Int32) < 0 ∨ cl11.slots.size ≤ ((0 : Int32)).toNatClampNeg) := inb_of S11 ⟨by decide, by decide⟩
  have hat11 : cl11.slots[((0 : Int32)).toNatClampNeg]? = some (.int p2) := H11.at hin11 (rfl)
  refine Ends.step (fun _ k => X0.baloadBytes hx (j := (0 : Int32)) (v := (.int p2)) (by rw [e0]; exact Ar11.1) (State.isArrayOf_alike hZ.alike Ar11.2.1) Ar11.2.2 hin11 hat11 (g := (mkF m 28 #[.val (.ref o0), .val (.int p1), .val (.int p2), .val (.int p3)] [(.int (0 : Int32)), (.ref o0)])) rfl rfl (hb hby d7_28) _ k) ?_
  show Ends p e below QQ (s₁.setTop (mkF m 29 #[.val (.ref o0), .val (.int p1), .val (.int p2), .val (.int p3)] [(.int p2)]))
  refine Ends.step (fun _ k => XS.iloadN X0.here hx rfl (hb hby d7_29) rfl k) ?_
  show Ends p e below QQ (s₁.setTop (mkF m 30 #[.val (.ref o0), .val (.int p1), .val (.int p2), .val (.int p3)] [(.int p2), (.int p2)]))
  refine Ends.step (fun _ k => XS.icmpNo X0.here hx rfl (hb hby d7_30) rfl (XT.ii_ne_f rfl) k) ?_
  show Ends p e below QQ (s₁.setTop (mkF m 33 #[.val (.ref o0), .val (.int p1), .val (.int p2), .val (.int p3)] []))
  refine Ends.step (fun _ k => XT.iconstV X0.here hx rfl (1 : Int32) (hb hby d7_33) rfl k) ?_
  show Ends p e below QQ (s₁.setTop (mkF m 34 #[.val (.ref o0), .val (.int p1), .val (.int p2), .val (.int p3)] [(.int (1 : Int32))]))
  refine Ends.step (fun _ k => XS.goto X0.here hx rfl (pc0 := 34) (pc' := 38) rfl (hb hby d7_34) (by decide) (by decide) k) ?_
  show Ends p e below QQ (s₁.setTop (mkF m 38 #[.val (.ref o0), .val (.int p1), .val (.int p2), .val (.int p3)] [(.int (1 : Int32))]))
  exact Ends.fin (some (.int (1 : Int32))) X0 hQQ (fun h => by rw [Bd.returns] at h; cases h) Bd.notSynchronized (fun _ hr => retOut X0 hx (t := .boolean) Bd.returns rfl (Or.inl ⟨rfl, (by simp), _, rfl⟩) (hb hby d7_38) hr) e0 (by decide) (by decide) ⟨rfl, N0, rfl⟩
theorem d7_39 : decode method_3_code 39 = .ok (.aload_n 0, 1) := by decide +kernel
theorem d7_40 : decode method_3_code 40 = .ok (.arraylength, 1) := by decide +kernel
theorem d7_41 : decode method_3_code 41 = .ok (.iconst 2, 1) := by decide +kernel
theorem d7_42 : decode method_3_code 42 = .ok (.if_icmp .ne 21, 3) := by decide +kernel
theorem d7_45 : decode method_3_code 45 = .ok (.aload_n 0, 1) := by decide +kernel
theorem d7_46 : decode method_3_code 46 = .ok (.iconst 0, 1) := by decide +kernel
theorem d7_47 : decode method_3_code 47 = .ok (.baload, 1) := by decide +kernel
theorem d7_48 : decode method_3_code 48 = .ok (.iload_n 2, 1) := by decide +kernel
theorem d7_49 : decode method_3_code 49 = .ok (.if_icmp .ne 14, 3) := by decide +kernel
theorem d7_52 : decode method_3_code 52 = .ok (.aload_n 0, 1) := by decide +kernel
theorem d7_53 : decode method_3_code 53 = .ok (.iconst 1, 1) := by decide +kernel
theorem d7_54 : decode method_3_code 54 = .ok (.baload, 1) := by decide +kernel
theorem d7_55 : decode method_3_code 55 = .ok (.iload_n 3, 1) := by decide +kernel
theorem d7_56 : decode method_3_code 56 = .ok (.if_icmp .ne 7, 3) := by decide +kernel
theorem d7_59 : decode method_3_code 59 = .ok (.iconst 1, 1) := by decide +kernel
theorem d7_60 : decode method_3_code 60 = .ok (.goto 4, 3) := by decide +kernel
theorem d7_64 : decode method_3_code 64 = .ok (.ireturn, 1) := by decide +kernel
theorem ef_7c (m : MethodId) (x0 : Addr) (x1 : Int32) (x2 : Int32) (x3 : Int32) : entryFrame m #[(.ref x0), (.int x1), (.int x2), (.int x3)] 4 = mkF m 0 #[.val (.ref x0), .val (.int x1), .val (.int x2), .val (.int x3)] [] := by first | (simp [entryFrame, mkF, argsToLocals, Value.category]; done) | rfl
def Q7c (Z : State) (o0 : Addr) (p1 : Int32) (p2 : Int32) (p3 : Int32) (k : ClassId) (h0 : Heap) (n0 : Nat) (v : Option Value) (h : Heap) (L : List Loc) : Prop := (v = some (.int (1 : Int32))) ∧ (Fr n0 L) ∧ (h = h0)
set_option maxRecDepth 65536 in
set_option maxHeartbeats 40000000 in
theorem rm7c (l : Launch) (Z : State) (a0 : Array Value) (hw : ∀ d ∈ tables_1, d.before a0 Z = true) (ws : List Jvm.Cond) (o0 : Addr) (p1 : Int32) (p2 : Int32) (p3 : Int32) (k : ClassId) (h0 : Heap) (n0 : Nat) (Z0 : n0 ≤ h0.size) (A_o0 : Arv Z h0 o0 k .byte (2 : Int32) [(.int p2), (.int p3)] (.int (0 : Int32))) (hk : ¬ p1 = (0 : Int32)) (hk1 : ¬ p1 = (1 : Int32)) :
    MetFree l (⟨"com/example/wunce/wunce/StoredCallFinishedPinLaw", "answerIntact", "([BIBB)Z"⟩ : MethodName) (head1 (Jvm.Cond.code (⟨"com/example/wunce/wunce/StoredCallFinishedPinLaw", "answerIntact", "([BIBB)Z"⟩ : MethodName) method_3_code 4 (some .boolean) :: ws) ({ frames := 0, cells := 0, slots := 0, locals := 0 } : Room)) (fun a U => a = #[(.ref o0), (.int p1), (.int p2), (.int p3)] ∧ Z.Warmed39 U.vm ∧ U.heap = h0) (fun _ _ _ _ _ => True) (fun _ U o U' => ∃ v L, o = .returned v ∧ Q7c Z o0 p1 p2 p3 k h0 n0 v U'.heap L ∧ FrameEnd U o U' L ({ frames := 0, cells := 0, slots := 0, locals := 0 } : Room).cells ({ frames := 0, cells := 0, slots := 0, locals := 0 } : Room).slots) := by
  refine MetFree.of_bodySF (plainFor_of_name pn_1) hisR ?_
  intro p e s m args below meth c s₁ Bd hml0 hP hK
  obtain ⟨rfl, hZ, hh⟩ := hP
  have hx := Bd.exec
  have hby := Bd.bytes
  have hml : c.maxLocals = 4 := hml0
  have hown : s.vm.findClass "com/example/wunce/wunce/StoredCallFinishedPinLaw" = some m.cls := findClass_of_methodNamed Bd.named
  have hnm := (name_of_methodNamed Bd.named Bd.method).1
  have X0 : Stand p l e ({ frames := 0, cells := 0, slots := 0, locals := 0 } : Room) s m #[(.ref o0), (.int p1), (.int p2), (.int p3)] below meth c s₁ [] 0 0 := Stand.of_body Bd
  have e0 : s₁.heap = h0 := by rw [← hh, Bd.state]; rfl
  have N0 := Fr.nil n0
  refine Ends.opn ?_
  intro QQ hQQ
  refine Ends.step (S' := s₁.setTop (mkF m 0 #[.val (.ref o0), .val (.int p1), .val (.int p2), .val (.int p3)] [])) (fun t k => castTop (ef_7c m o0 p1 p2 p3) k) ?_
  show Ends p e below QQ (s₁.setTop (mkF m 0 #[.val (.ref o0), .val (.int p1), .val (.int p2), .val (.int p3)] []))
  refine Ends.step (fun _ k => XS.iloadN X0.here hx rfl (hb hby d7_0) rfl k) ?_
  show Ends p e below QQ (s₁.setTop (mkF m 1 #[.val (.ref o0), .val (.int p1), .val (.int p2), .val (.int p3)] [(.int p1)]))
  have hc1 : ¬ (p1 = (0 : Int32)) := hk
  refine Ends.step (fun _ k => XS.ifYes X0.here hx rfl (pc0 := 1) (pc' := 15) rfl (hb hby d7_1) rfl (XT.i0_ne_t hc1) (by decide) (by decide) k) ?_
  show Ends p e below QQ (s₁.setTop (mkF m 15 #[.val (.ref o0), .val (.int p1), .val (.int p2), .val (.int p3)] []))
  refine Ends.step (fun _ k => XS.iloadN X0.here hx rfl (hb hby d7_15) rfl k) ?_
  show Ends p e below QQ (s₁.setTop (mkF m 16 #[.val (.ref o0), .val (.int p1), .val (.int p2), .val (.int p3)] [(.int p1)]))
  refine Ends.step (fun _ k => XT.iconstV X0.here hx rfl (1 : Int32) (hb hby d7_16) rfl k) ?_
  show Ends p e below QQ (s₁.setTop (mkF m 17 #[.val (.ref o0), .val (.int p1), .val (.int p2), .val (.int p3)] [(.int (1 : Int32)), (.int p1)]))
  have hc17 : ¬ (p1 = (1 : Int32)) := hk1
  refine Ends.step (fun _ k => XS.icmpYes X0.here hx rfl (pc0 := 17) (pc' := 39) rfl (hb hby d7_17) rfl (XT.ii_ne_t hc17) (by decide) (by decide) k) ?_
  show Ends p e below QQ (s₁.setTop (mkF m 39 #[.val (.ref o0), .val (.int p1), .val (.int p2), .val (.int p3)] []))
  refine Ends.step (fun _ k => XS.aloadN X0.here hx rfl (hb hby d7_39) rfl rfl k) ?_
  show Ends p e below QQ (s₁.setTop (mkF m 40 #[.val (.ref o0), .val (.int p1), .val (.int p2), .val (.int p3)] [(.ref o0)]))
  obtain ⟨cl12, Ar12, -, S12, P12, -, -⟩ := id A_o0
  refine Ends.step (S' := s₁.setTop (mkF m 41 #[.val (.ref o0), .val (.int p1), .val (.int p2), .val (.int p3)] [(.int (2 : Int32))])) (fun _ k => X0.arraylength hx (by rw [e0]; exact Ar12.1) (State.isArrayOf_alike hZ.alike Ar12.2.1) (g := (mkF m 40 #[.val (.ref o0), .val (.int p1), .val (.int p2), .val (.int p3)] [(.ref o0)])) rfl rfl (hb hby d7_40) _ (by rw [len_of S12 P12]; exact k)) ?_
  show Ends p e below QQ (s₁.setTop (mkF m 41 #[.val (.ref o0), .val (.int p1), .val (.int p2), .val (.int p3)] [(.int (2 : Int32))]))
  refine Ends.step (fun _ k => XT.iconstV X0.here hx rfl (2 : Int32) (hb hby d7_41) rfl k) ?_
  show Ends p e below QQ (s₁.setTop (mkF m 42 #[.val (.ref o0), .val (.int p1), .val (.int p2), .val (.int p3)] [(.int (2 : Int32)), (.int (2 : Int32))]))
  refine Ends.step (fun _ k => XS.icmpNo X0.here hx rfl (hb hby d7_42) rfl (XT.ii_ne_f (by decide)) k) ?_
  show Ends p e below QQ (s₁.setTop (mkF m 45 #[.val (.ref o0), .val (.int p1), .val (.int p2), .val (.int p3)] []))
  refine Ends.step (fun _ k => XS.aloadN X0.here hx rfl (hb hby d7_45) rfl rfl k) ?_
  show Ends p e below QQ (s₁.setTop (mkF m 46 #[.val (.ref o0), .val (.int p1), .val (.int p2), .val (.int p3)] [(.ref o0)]))
  refine Ends.step (fun _ k => XT.iconstV X0.here hx rfl (0 : Int32) (hb hby d7_46) rfl k) ?_
  show Ends p e below QQ (s₁.setTop (mkF m 47 #[.val (.ref o0), .val (.int p1), .val (.int p2), .val (.int p3)] [(.int (0 : Int32)), (.ref o0)]))
  obtain ⟨cl13, Ar13, q13, S13, P13, H13, G13⟩ := id A_o0
  have hin13 : ¬ ((0 : Int32) < 0 ∨ cl13.slots.size ≤ ((0 : Int32)).toNatClampNeg) := inb_of S13 ⟨by decide, by decide⟩
  have hat13 : cl13.slots[((0 : Int32)).toNatClampNeg]? = some (.int p2) := H13.at hin13 (rfl)
  refine Ends.step (fun _ k => X0.baloadBytes hx (j := (0 : Int32)) (v := (.int p2)) (by rw [e0]; exact Ar13.1) (State.isArrayOf_alike hZ.alike Ar13.2.1) Ar13.2.2 hin13 hat13 (g := (mkF m 47 #[.val (.ref o0), .val (.int p1), .val (.int p2), .val (.int p3)] [(.int (0 : Int32)), (.ref o0)])) rfl rfl (hb hby d7_47) _ k) ?_
  show Ends p e below QQ (s₁.setTop (mkF m 48 #[.val (.ref o0), .val (.int p1), .val (.int p2), .val (.int p3)] [(.int p2)]))
  refine Ends.step (fun _ k => XS.iloadN X0.here hx rfl (hb hby d7_48) rfl k) ?_
  show Ends p e below QQ (s₁.setTop (mkF m 49 #[.val (.ref o0), .val (.int p1), .val (.int p2), .val (.int p3)] [(.int p2), (.int p2)]))
  refine Ends.step (fun _ k => XS.icmpNo X0.here hx rfl (hb hby d7_49) rfl (XT.ii_ne_f rfl) k) ?_
  show Ends p e below QQ (s₁.setTop (mkF m 52 #[.val (.ref o0), .val (.int p1), .val (.int p2), .val (.int p3)] []))
  refine Ends.step (fun _ k => XS.aloadN X0.here hx rfl (hb hby d7_52) rfl rfl k) ?_
  show Ends p e below QQ (s₁.setTop (mkF m 53 #[.val (.ref o0), .val (.int p1), .val (.int p2), .val (.int p3)] [(.ref o0)]))
  refine Ends.step (fun _ k => XT.iconstV X0.here hx rfl (1 : Int32) (hb hby d7_53) rfl k) ?_
  show Ends p e below QQ (s₁.setTop (mkF m 54 #[.val (.ref o0), .val (.int p1), .val (.int p2), .val (.int p3)] [(.int (1 : Int32)), (.ref o0)]))
  obtain ⟨cl14, Ar14, q14, S14, P14, H14, G14⟩ := id A_o0
  have hin14 : ¬ ((1 : Int32) < 0 ∨ cl14.slots.size ≤ ((1 : Int32)).toNatClampNeg) := inb_of S14 ⟨by decide, by decide⟩
  have hat14 : cl14.slots[((1 : Int32)).toNatClampNeg]? = some (.int p3) := H14.at hin14 (rfl)
  refine Ends.step (fun _ k => X0.baloadBytes hx (j := (1 : Int32)) (v := (.int p3)) (by rw [e0]; exact Ar14.1) (State.isArrayOf_alike hZ.alike Ar14.2.1) Ar14.2.2 hin14 hat14 (g := (mkF m 54 #[.val (.ref o0), .val (.int p1), .val (.int p2), .val (.int p3)] [(.int (1 : Int32)), (.ref o0)])) rfl rfl (hb hby d7_54) _ k) ?_
  show Ends p e below QQ (s₁.setTop (mkF m 55 #[.val (.ref o0), .val (.int p1), .val (.int p2), .val (.int p3)] [(.int p3)]))
  refine Ends.step (fun _ k => XS.iloadN X0.here hx rfl (hb hby d7_55) rfl k) ?_
  show Ends p e below QQ (s₁.setTop (mkF m 56 #[.val (.ref o0), .val (.int p1), .val (.int p2), .val (.int p3)] [(.int p3), (.int p3)]))
  refine Ends.step (fun _ k => XS.icmpNo X0.here hx rfl (hb hby d7_56) rfl (XT.ii_ne_f rfl) k) ?_
  show Ends p e below QQ (s₁.setTop (mkF m 59 #[.val (.ref o0), .val (.int p1), .val (.int p2), .val (.int p3)] []))
  refine Ends.step (fun _ k => XT.iconstV X0.here hx rfl (1 : Int32) (hb hby d7_59) rfl k) ?_
  show Ends p e below QQ (s₁.setTop (mkF m 60 #[.val (.ref o0), .val (.int p1), .val (.int p2), .val (.int p3)] [(.int (1 : Int32))]))
  refine Ends.step (fun _ k => XS.goto X0.here hx rfl (pc0 := 60) (pc' := 64) rfl (hb hby d7_60) (by decide) (by decide) k) ?_
  show Ends p e below QQ (s₁.setTop (mkF m 64 #[.val (.ref o0), .val (.int p1), .val (.int p2), .val (.int p3)] [(.int (1 : Int32))]))
  exact Ends.fin (some (.int (1 : Int32))) X0 hQQ (fun h => by rw [Bd.returns] at h; cases h) Bd.notSynchronized (fun _ hr => retOut X0 hx (t := .boolean) Bd.returns rfl (Or.inl ⟨rfl, (by simp), _, rfl⟩) (hb hby d7_64) hr) e0 (by decide) (by decide) ⟨rfl, N0, rfl⟩
theorem d8_0 : decode method_4_code 0 = .ok (.iload_n 1, 1) := by decide +kernel
theorem d8_1 : decode method_4_code 1 = .ok (.ifCond .eq 8, 3) := by decide +kernel
theorem d8_9 : decode method_4_code 9 = .ok (.iconst 1, 1) := by decide +kernel
theorem d8_10 : decode method_4_code 10 = .ok (.ireturn, 1) := by decide +kernel
theorem ef_8a (m : MethodId) (x0 : Value) (x1 : Int32) (x2 : Int32) (x3 : Int32) (hx0 : x0.isRef = true) : entryFrame m #[x0, (.int x1), (.int x2), (.int x3)] 4 = mkF m 0 #[.val x0, .val (.int x1), .val (.int x2), .val (.int x3)] [] := by
  rcases XT.refc hx0 with rfl | ⟨_, rfl⟩ <;> rfl
def Q8a (Z : State) (r0 : Value) (p1 : Int32) (p2 : Int32) (p3 : Int32) (h0 : Heap) (n0 : Nat) (v : Option Value) (h : Heap) (L : List Loc) : Prop := (v = some (.int (1 : Int32))) ∧ (Fr n0 L) ∧ (h = h0)
set_option maxRecDepth 65536 in
set_option maxHeartbeats 40000000 in
theorem rm8a (l : Launch) (Z : State) (a0 : Array Value) (hw : ∀ d ∈ tables_1, d.before a0 Z = true) (ws : List Jvm.Cond) (r0 : Value) (p1 : Int32) (p2 : Int32) (p3 : Int32) (h0 : Heap) (n0 : Nat) (Z0 : n0 ≤ h0.size) (hr_r0 : r0.isRef = true) (hk : p1 = (0 : Int32)) :
    MetFree l (⟨"com/example/wunce/wunce/StoredCallFinishedPinLaw", "fingerprintIntact", "([BIBB)Z"⟩ : MethodName) (head1 (Jvm.Cond.code (⟨"com/example/wunce/wunce/StoredCallFinishedPinLaw", "fingerprintIntact", "([BIBB)Z"⟩ : MethodName) method_4_code 4 (some .boolean) :: ws) ({ frames := 0, cells := 0, slots := 0, locals := 0 } : Room)) (fun a U => a = #[r0, (.int p1), (.int p2), (.int p3)] ∧ Z.Warmed39 U.vm ∧ U.heap = h0) (fun _ _ _ _ _ => True) (fun _ U o U' => ∃ v L, o = .returned v ∧ Q8a Z r0 p1 p2 p3 h0 n0 v U'.heap L ∧ FrameEnd U o U' L ({ frames := 0, cells := 0, slots := 0, locals := 0 } : Room).cells ({ frames := 0, cells := 0, slots := 0, locals := 0 } : Room).slots) := by
  refine MetFree.of_bodySF (plainFor_of_name pn_1) hisR ?_
  intro p e s m args below meth c s₁ Bd hml0 hP hK
  obtain ⟨rfl, hZ, hh⟩ := hP
  have hx := Bd.exec
  have hby := Bd.bytes
  have hml : c.maxLocals = 4 := hml0
  have hown : s.vm.findClass "com/example/wunce/wunce/StoredCallFinishedPinLaw" = some m.cls := findClass_of_methodNamed Bd.named
  have hnm := (name_of_methodNamed Bd.named Bd.method).1
  have X0 : Stand p l e ({ frames := 0, cells := 0, slots := 0, locals := 0 } : Room) s m #[r0, (.int p1), (.int p2), (.int p3)] below meth c s₁ [] 0 0 := Stand.of_body Bd
  have e0 : s₁.heap = h0 := by rw [← hh, Bd.state]; rfl
  have N0 := Fr.nil n0
  refine Ends.opn ?_
  intro QQ hQQ
  refine Ends.step (S' := s₁.setTop (mkF m 0 #[.val r0, .val (.int p1), .val (.int p2), .val (.int p3)] [])) (fun t k => castTop (ef_8a m r0 p1 p2 p3 hr_r0) k) ?_
  show Ends p e below QQ (s₁.setTop (mkF m 0 #[.val r0, .val (.int p1), .val (.int p2), .val (.int p3)] []))
  refine Ends.step (fun _ k => XS.iloadN X0.here hx rfl (hb hby d8_0) rfl k) ?_
  show Ends p e below QQ (s₁.setTop (mkF m 1 #[.val r0, .val (.int p1), .val (.int p2), .val (.int p3)] [(.int p1)]))
  have hc1 : p1 = (0 : Int32) := hk
  refine Ends.step (fun _ k => XS.ifYes X0.here hx rfl (pc0 := 1) (pc' := 9) rfl (hb hby d8_1) rfl (XT.i0_eq_t hc1) (by decide) (by decide) k) ?_
  show Ends p e below QQ (s₁.setTop (mkF m 9 #[.val r0, .val (.int p1), .val (.int p2), .val (.int p3)] []))
  refine Ends.step (fun _ k => XT.iconstV X0.here hx rfl (1 : Int32) (hb hby d8_9) rfl k) ?_
  show Ends p e below QQ (s₁.setTop (mkF m 10 #[.val r0, .val (.int p1), .val (.int p2), .val (.int p3)] [(.int (1 : Int32))]))
  exact Ends.fin (some (.int (1 : Int32))) X0 hQQ (fun h => by rw [Bd.returns] at h; cases h) Bd.notSynchronized (fun _ hr => retOut X0 hx (t := .boolean) Bd.returns rfl (Or.inl ⟨rfl, (by simp), _, rfl⟩) (hb hby d8_10) hr) e0 (by decide) (by decide) ⟨rfl, N0, rfl⟩
theorem d8_4 : decode method_4_code 4 = .ok (.iload_n 1, 1) := by decide +kernel
theorem d8_5 : decode method_4_code 5 = .ok (.iconst 1, 1) := by decide +kernel
theorem d8_6 : decode method_4_code 6 = .ok (.if_icmp .ne 5, 3) := by decide +kernel
theorem ef_8b (m : MethodId) (x0 : Value) (x1 : Int32) (x2 : Int32) (x3 : Int32) (hx0 : x0.isRef = true) : entryFrame m #[x0, (.int x1), (.int x2), (.int x3)] 4 = mkF m 0 #[.val x0, .val (.int x1), .val (.int x2), .val (.int x3)] [] := by
  rcases XT.refc hx0 with rfl | ⟨_, rfl⟩ <;> rfl
def Q8b (Z : State) (r0 : Value) (p1 : Int32) (p2 : Int32) (p3 : Int32) (h0 : Heap) (n0 : Nat) (v : Option Value) (h : Heap) (L : List Loc) : Prop := (v = some (.int (1 : Int32))) ∧ (Fr n0 L) ∧ (h = h0)
set_option maxRecDepth 65536 in
set_option maxHeartbeats 40000000 in
theorem rm8b (l : Launch) (Z : State) (a0 : Array Value) (hw : ∀ d ∈ tables_1, d.before a0 Z = true) (ws : List Jvm.Cond) (r0 : Value) (p1 : Int32) (p2 : Int32) (p3 : Int32) (h0 : Heap) (n0 : Nat) (Z0 : n0 ≤ h0.size) (hr_r0 : r0.isRef = true) (hk : ¬ p1 = (0 : Int32)) (hk1 : p1 = (1 : Int32)) :
    MetFree l (⟨"com/example/wunce/wunce/StoredCallFinishedPinLaw", "fingerprintIntact", "([BIBB)Z"⟩ : MethodName) (head1 (Jvm.Cond.code (⟨"com/example/wunce/wunce/StoredCallFinishedPinLaw", "fingerprintIntact", "([BIBB)Z"⟩ : MethodName) method_4_code 4 (some .boolean) :: ws) ({ frames := 0, cells := 0, slots := 0, locals := 0 } : Room)) (fun a U => a = #[r0, (.int p1), (.int p2), (.int p3)] ∧ Z.Warmed39 U.vm ∧ U.heap = h0) (fun _ _ _ _ _ => True) (fun _ U o U' => ∃ v L, o = .returned v ∧ Q8b Z r0 p1 p2 p3 h0 n0 v U'.heap L ∧ FrameEnd U o U' L ({ frames := 0, cells := 0, slots := 0, locals := 0 } : Room).cells ({ frames := 0, cells := 0, slots := 0, locals := 0 } : Room).slots) := by
  refine MetFree.of_bodySF (plainFor_of_name pn_1) hisR ?_
  intro p e s m args below meth c s₁ Bd hml0 hP hK
  obtain ⟨rfl, hZ, hh⟩ := hP
  have hx := Bd.exec
  have hby := Bd.bytes
  have hml : c.maxLocals = 4 := hml0
  have hown : s.vm.findClass "com/example/wunce/wunce/StoredCallFinishedPinLaw" = some m.cls := findClass_of_methodNamed Bd.named
  have hnm := (name_of_methodNamed Bd.named Bd.method).1
  have X0 : Stand p l e ({ frames := 0, cells := 0, slots := 0, locals := 0 } : Room) s m #[r0, (.int p1), (.int p2), (.int p3)] below meth c s₁ [] 0 0 := Stand.of_body Bd
  have e0 : s₁.heap = h0 := by rw [← hh, Bd.state]; rfl
  have N0 := Fr.nil n0
  refine Ends.opn ?_
  intro QQ hQQ
  refine Ends.step (S' := s₁.setTop (mkF m 0 #[.val r0, .val (.int p1), .val (.int p2), .val (.int p3)] [])) (fun t k => castTop (ef_8b m r0 p1 p2 p3 hr_r0) k) ?_
  show Ends p e below QQ (s₁.setTop (mkF m 0 #[.val r0, .val (.int p1), .val (.int p2), .val (.int p3)] []))
  refine Ends.step (fun _ k => XS.iloadN X0.here hx rfl (hb hby d8_0) rfl k) ?_
  show Ends p e below QQ (s₁.setTop (mkF m 1 #[.val r0, .val (.int p1), .val (.int p2), .val (.int p3)] [(.int p1)]))
  have hc1 : ¬ (p1 = (0 : Int32)) := hk
  refine Ends.step (fun _ k => XS.ifNo X0.here hx rfl (hb hby d8_1) rfl (XT.i0_eq_f hc1) k) ?_
  show Ends p e below QQ (s₁.setTop (mkF m 4 #[.val r0, .val (.int p1), .val (.int p2), .val (.int p3)] []))
  refine Ends.step (fun _ k => XS.iloadN X0.here hx rfl (hb hby d8_4) rfl k) ?_
  show Ends p e below QQ (s₁.setTop (mkF m 5 #[.val r0, .val (.int p1), .val (.int p2), .val (.int p3)] [(.int p1)]))
  refine Ends.step (fun _ k => XT.iconstV X0.here hx rfl (1 : Int32) (hb hby d8_5) rfl k) ?_
  show Ends p e below QQ (s₁.setTop (mkF m 6 #[.val r0, .val (.int p1), .val (.int p2), .val (.int p3)] [(.int (1 : Int32)), (.int p1)]))
  have hc6 : p1 = (1 : Int32) := hk1
  refine Ends.step (fun _ k => XS.icmpNo X0.here hx rfl (hb hby d8_6) rfl (XT.ii_ne_f hc6) k) ?_
  show Ends p e below QQ (s₁.setTop (mkF m 9 #[.val r0, .val (.int p1), .val (.int p2), .val (.int p3)] []))
  refine Ends.step (fun _ k => XT.iconstV X0.here hx rfl (1 : Int32) (hb hby d8_9) rfl k) ?_
  show Ends p e below QQ (s₁.setTop (mkF m 10 #[.val r0, .val (.int p1), .val (.int p2), .val (.int p3)] [(.int (1 : Int32))]))
  exact Ends.fin (some (.int (1 : Int32))) X0 hQQ (fun h => by rw [Bd.returns] at h; cases h) Bd.notSynchronized (fun _ hr => retOut X0 hx (t := .boolean) Bd.returns rfl (Or.inl ⟨rfl, (by simp), _, rfl⟩) (hb hby d8_10) hr) e0 (by decide) (by decide) ⟨rfl, N0, rfl⟩
theorem d8_11 : decode method_4_code 11 = .ok (.iload_n 1, 1) := by decide +kernel
theorem d8_12 : decode method_4_code 12 = .ok (.iconst 2, 1) := by decide +kernel
theorem d8_13 : decode method_4_code 13 = .ok (.if_icmp .ne 14, 3) := by decide +kernel
theorem d8_16 : decode method_4_code 16 = .ok (.aload_n 0, 1) := by decide +kernel
theorem d8_17 : decode method_4_code 17 = .ok (.arraylength, 1) := by decide +kernel
theorem d8_18 : decode method_4_code 18 = .ok (.ifCond .ne 7, 3) := by decide +kernel
theorem d8_21 : decode method_4_code 21 = .ok (.iconst 1, 1) := by decide +kernel
theorem d8_22 : decode method_4_code 22 = .ok (.goto 4, 3) := by decide +kernel
theorem d8_26 : decode method_4_code 26 = .ok (.ireturn, 1) := by decide +kernel
theorem ef_8c (m : MethodId) (x0 : Addr) (x1 : Int32) (x2 : Int32) (x3 : Int32) : entryFrame m #[(.ref x0), (.int x1), (.int x2), (.int x3)] 4 = mkF m 0 #[.val (.ref x0), .val (.int x1), .val (.int x2), .val (.int x3)] [] := by first | (simp [entryFrame, mkF, argsToLocals, Value.category]; done) | rfl
def Q8c (Z : State) (o0 : Addr) (p1 : Int32) (p2 : Int32) (p3 : Int32) (k : ClassId) (h0 : Heap) (n0 : Nat) (v : Option Value) (h : Heap) (L : List Loc) : Prop := (v = some (.int (1 : Int32))) ∧ (Fr n0 L) ∧ (h = h0)
set_option maxRecDepth 65536 in
set_option maxHeartbeats 40000000 in
theorem rm8c (l : Launch) (Z : State) (a0 : Array Value) (hw : ∀ d ∈ tables_1, d.before a0 Z = true) (ws : List Jvm.Cond) (o0 : Addr) (p1 : Int32) (p2 : Int32) (p3 : Int32) (k : ClassId) (h0 : Heap) (n0 : Nat) (Z0 : n0 ≤ h0.size) (A_o0 : Arv Z h0 o0 k .byte (0 : Int32) [] (.int (0 : Int32))) (hk : ¬ p1 = (0 : Int32)) (hk1 : ¬ p1 = (1 : Int32)) (hk2 : p1 = (2 : Int32)) :
    MetFree l (⟨"com/example/wunce/wunce/StoredCallFinishedPinLaw", "fingerprintIntact", "([BIBB)Z"⟩ : MethodName) (head1 (Jvm.Cond.code (⟨"com/example/wunce/wunce/StoredCallFinishedPinLaw", "fingerprintIntact", "([BIBB)Z"⟩ : MethodName) method_4_code 4 (some .boolean) :: ws) ({ frames := 0, cells := 0, slots := 0, locals := 0 } : Room)) (fun a U => a = #[(.ref o0), (.int p1), (.int p2), (.int p3)] ∧ Z.Warmed39 U.vm ∧ U.heap = h0) (fun _ _ _ _ _ => True) (fun _ U o U' => ∃ v L, o = .returned v ∧ Q8c Z o0 p1 p2 p3 k h0 n0 v U'.heap L ∧ FrameEnd U o U' L ({ frames := 0, cells := 0, slots := 0, locals := 0 } : Room).cells ({ frames := 0, cells := 0, slots := 0, locals := 0 } : Room).slots) := by
  refine MetFree.of_bodySF (plainFor_of_name pn_1) hisR ?_
  intro p e s m args below meth c s₁ Bd hml0 hP hK
  obtain ⟨rfl, hZ, hh⟩ := hP
  have hx := Bd.exec
  have hby := Bd.bytes
  have hml : c.maxLocals = 4 := hml0
  have hown : s.vm.findClass "com/example/wunce/wunce/StoredCallFinishedPinLaw" = some m.cls := findClass_of_methodNamed Bd.named
  have hnm := (name_of_methodNamed Bd.named Bd.method).1
  have X0 : Stand p l e ({ frames := 0, cells := 0, slots := 0, locals := 0 } : Room) s m #[(.ref o0), (.int p1), (.int p2), (.int p3)] below meth c s₁ [] 0 0 := Stand.of_body Bd
  have e0 : s₁.heap = h0 := by rw [← hh, Bd.state]; rfl
  have N0 := Fr.nil n0
  refine Ends.opn ?_
  intro QQ hQQ
  refine Ends.step (S' := s₁.setTop (mkF m 0 #[.val (.ref o0), .val (.int p1), .val (.int p2), .val (.int p3)] [])) (fun t k => castTop (ef_8c m o0 p1 p2 p3) k) ?_
  show Ends p e below QQ (s₁.setTop (mkF m 0 #[.val (.ref o0), .val (.int p1), .val (.int p2), .val (.int p3)] []))
  refine Ends.step (fun _ k => XS.iloadN X0.here hx rfl (hb hby d8_0) rfl k) ?_
  show Ends p e below QQ (s₁.setTop (mkF m 1 #[.val (.ref o0), .val (.int p1), .val (.int p2), .val (.int p3)] [(.int p1)]))
  have hc1 : ¬ (p1 = (0 : Int32)) := hk
  refine Ends.step (fun _ k => XS.ifNo X0.here hx rfl (hb hby d8_1) rfl (XT.i0_eq_f hc1) k) ?_
  show Ends p e below QQ (s₁.setTop (mkF m 4 #[.val (.ref o0), .val (.int p1), .val (.int p2), .val (.int p3)] []))
  refine Ends.step (fun _ k => XS.iloadN X0.here hx rfl (hb hby d8_4) rfl k) ?_
  show Ends p e below QQ (s₁.setTop (mkF m 5 #[.val (.ref o0), .val (.int p1), .val (.int p2), .val (.int p3)] [(.int p1)]))
  refine Ends.step (fun _ k => XT.iconstV X0.here hx rfl (1 : Int32) (hb hby d8_5) rfl k) ?_
  show Ends p e below QQ (s₁.setTop (mkF m 6 #[.val (.ref o0), .val (.int p1), .val (.int p2), .val (.int p3)] [(.int (1 : Int32)), (.int p1)]))
  have hc6 : ¬ (p1 = (1 : Int32)) := hk1
  refine Ends.step (fun _ k => XS.icmpYes X0.here hx rfl (pc0 := 6) (pc' := 11) rfl (hb hby d8_6) rfl (XT.ii_ne_t hc6) (by decide) (by decide) k) ?_
  show Ends p e below QQ (s₁.setTop (mkF m 11 #[.val (.ref o0), .val (.int p1), .val (.int p2), .val (.int p3)] []))
  refine Ends.step (fun _ k => XS.iloadN X0.here hx rfl (hb hby d8_11) rfl k) ?_
  show Ends p e below QQ (s₁.setTop (mkF m 12 #[.val (.ref o0), .val (.int p1), .val (.int p2), .val (.int p3)] [(.int p1)]))
  refine Ends.step (fun _ k => XT.iconstV X0.here hx rfl (2 : Int32) (hb hby d8_12) rfl k) ?_
  show Ends p e below QQ (s₁.setTop (mkF m 13 #[.val (.ref o0), .val (.int p1), .val (.int p2), .val (.int p3)] [(.int (2 : Int32)), (.int p1)]))
  have hc13 : p1 = (2 : Int32) := hk2
  refine Ends.step (fun _ k => XS.icmpNo X0.here hx rfl (hb hby d8_13) rfl (XT.ii_ne_f hc13) k) ?_
  show Ends p e below QQ (s₁.setTop (mkF m 16 #[.val (.ref o0), .val (.int p1), .val (.int p2), .val (.int p3)] []))
  refine Ends.step (fun _ k => XS.aloadN X0.here hx rfl (hb hby d8_16) rfl rfl k) ?_
  show Ends p e below QQ (s₁.setTop (mkF m 17 #[.val (.ref o0), .val (.int p1), .val (.int p2), .val (.int p3)] [(.ref o0)]))
  obtain ⟨cl15, Ar15, -, S15, P15, -, -⟩ := id A_o0
  refine Ends.step (S' := s₁.setTop (mkF m 18 #[.val (.ref o0), .val (.int p1), .val (.int p2), .val (.int p3)] [(.int (0 : Int32))])) (fun _ k => X0.arraylength hx (by rw [e0]; exact Ar15.1) (State.isArrayOf_alike hZ.alike Ar15.2.1) (g := (mkF m 17 #[.val (.ref o0), .val (.int p1), .val (.int p2), .val (.int p3)] [(.ref o0)])) rfl rfl (hb hby d8_17) _ (by rw [len_of S15 P15]; exact k)) ?_
  show Ends p e below QQ (s₁.setTop (mkF m 18 #[.val (.ref o0), .val (.int p1), .val (.int p2), .val (.int p3)] [(.int (0 : Int32))]))
  refine Ends.step (fun _ k => XS.ifNo X0.here hx rfl (hb hby d8_18) rfl (XT.i0_ne_f (by decide)) k) ?_
  show Ends p e below QQ (s₁.setTop (mkF m 21 #[.val (.ref o0), .val (.int p1), .val (.int p2), .val (.int p3)] []))
  refine Ends.step (fun _ k => XT.iconstV X0.here hx rfl (1 : Int32) (hb hby d8_21) rfl k) ?_
  show Ends p e below QQ (s₁.setTop (mkF m 22 #[.val (.ref o0), .val (.int p1), .val (.int p2), .val (.int p3)] [(.int (1 : Int32))]))
  refine Ends.step (fun _ k => XS.goto X0.here hx rfl (pc0 := 22) (pc' := 26) rfl (hb hby d8_22) (by decide) (by decide) k) ?_
  show Ends p e below QQ (s₁.setTop (mkF m 26 #[.val (.ref o0), .val (.int p1), .val (.int p2), .val (.int p3)] [(.int (1 : Int32))]))
  exact Ends.fin (some (.int (1 : Int32))) X0 hQQ (fun h => by rw [Bd.returns] at h; cases h) Bd.notSynchronized (fun _ hr => retOut X0 hx (t := .boolean) Bd.returns rfl (Or.inl ⟨rfl, (by simp), _, rfl⟩) (hb hby d8_26) hr) e0 (by decide) (by decide) ⟨rfl, N0, rfl⟩
theorem d8_27 : decode method_4_code 27 = .ok (.aload_n 0, 1) := by decide +kernel
theorem d8_28 : decode method_4_code 28 = .ok (.arraylength, 1) := by decide +kernel
theorem d8_29 : decode method_4_code 29 = .ok (.iconst 2, 1) := by decide +kernel
theorem d8_30 : decode method_4_code 30 = .ok (.if_icmp .ne 21, 3) := by decide +kernel
theorem d8_33 : decode method_4_code 33 = .ok (.aload_n 0, 1) := by decide +kernel
theorem d8_34 : decode method_4_code 34 = .ok (.iconst 0, 1) := by decide +kernel
theorem d8_35 : decode method_4_code 35 = .ok (.baload, 1) := by decide +kernel
theorem d8_36 : decode method_4_code 36 = .ok (.iload_n 3, 1) := by decide +kernel
theorem d8_37 : decode method_4_code 37 = .ok (.if_icmp .ne 14, 3) := by decide +kernel
theorem d8_40 : decode method_4_code 40 = .ok (.aload_n 0, 1) := by decide +kernel
theorem d8_41 : decode method_4_code 41 = .ok (.iconst 1, 1) := by decide +kernel
theorem d8_42 : decode method_4_code 42 = .ok (.baload, 1) := by decide +kernel
theorem d8_43 : decode method_4_code 43 = .ok (.iload_n 2, 1) := by decide +kernel
theorem d8_44 : decode method_4_code 44 = .ok (.if_icmp .ne 7, 3) := by decide +kernel
theorem d8_47 : decode method_4_code 47 = .ok (.iconst 1, 1) := by decide +kernel
theorem d8_48 : decode method_4_code 48 = .ok (.goto 4, 3) := by decide +kernel
theorem d8_52 : decode method_4_code 52 = .ok (.ireturn, 1) := by decide +kernel
theorem ef_8d (m : MethodId) (x0 : Addr) (x1 : Int32) (x2 : Int32) (x3 : Int32) : entryFrame m #[(.ref x0), (.int x1), (.int x2), (.int x3)] 4 = mkF m 0 #[.val (.ref x0), .val (.int x1), .val (.int x2), .val (.int x3)] [] := by first | (simp [entryFrame, mkF, argsToLocals, Value.category]; done) | rfl
def Q8d (Z : State) (o0 : Addr) (p1 : Int32) (p2 : Int32) (p3 : Int32) (k : ClassId) (h0 : Heap) (n0 : Nat) (v : Option Value) (h : Heap) (L : List Loc) : Prop := (v = some (.int (1 : Int32))) ∧ (Fr n0 L) ∧ (h = h0)
set_option maxRecDepth 65536 in
set_option maxHeartbeats 40000000 in
theorem rm8d (l : Launch) (Z : State) (a0 : Array Value) (hw : ∀ d ∈ tables_1, d.before a0 Z = true) (ws : List Jvm.Cond) (o0 : Addr) (p1 : Int32) (p2 : Int32) (p3 : Int32) (k : ClassId) (h0 : Heap) (n0 : Nat) (Z0 : n0 ≤ h0.size) (A_o0 : Arv Z h0 o0 k .byte (2 : Int32) [(.int p3), (.int p2)] (.int (0 : Int32))) (hk : ¬ p1 = (0 : Int32)) (hk1 : ¬ p1 = (1 : Int32)) (hk2 : ¬ p1 = (2 : Int32)) :
    MetFree l (⟨"com/example/wunce/wunce/StoredCallFinishedPinLaw", "fingerprintIntact", "([BIBB)Z"⟩ : MethodName) (head1 (Jvm.Cond.code (⟨"com/example/wunce/wunce/StoredCallFinishedPinLaw", "fingerprintIntact", "([BIBB)Z"⟩ : MethodName) method_4_code 4 (some .boolean) :: ws) ({ frames := 0, cells := 0, slots := 0, locals := 0 } : Room)) (fun a U => a = #[(.ref o0), (.int p1), (.int p2), (.int p3)] ∧ Z.Warmed39 U.vm ∧ U.heap = h0) (fun _ _ _ _ _ => True) (fun _ U o U' => ∃ v L, o = .returned v ∧ Q8d Z o0 p1 p2 p3 k h0 n0 v U'.heap L ∧ FrameEnd U o U' L ({ frames := 0, cells := 0, slots := 0, locals := 0 } : Room).cells ({ frames := 0, cells := 0, slots := 0, locals := 0 } : Room).slots) := by
  refine MetFree.of_bodySF (plainFor_of_name pn_1) hisR ?_
  intro p e s m args below meth c s₁ Bd hml0 hP hK
  obtain ⟨rfl, hZ, hh⟩ := hP
  have hx := Bd.exec
  have hby := Bd.bytes
  have hml : c.maxLocals = 4 := hml0
  have hown : s.vm.findClass "com/example/wunce/wunce/StoredCallFinishedPinLaw" = some m.cls := findClass_of_methodNamed Bd.named
  have hnm := (name_of_methodNamed Bd.named Bd.method).1
  have X0 : Stand p l e ({ frames := 0, cells := 0, slots := 0, locals := 0 } : Room) s m #[(.ref o0), (.int p1), (.int p2), (.int p3)] below meth c s₁ [] 0 0 := Stand.of_body Bd
  have e0 : s₁.heap = h0 := by rw [← hh, Bd.state]; rfl
  have N0 := Fr.nil n0
  refine Ends.opn ?_
  intro QQ hQQ
  refine Ends.step (S' := s₁.setTop (mkF m 0 #[.val (.ref o0), .val (.int p1), .val (.int p2), .val (.int p3)] [])) (fun t k => castTop (ef_8d m o0 p1 p2 p3) k) ?_
  show Ends p e below QQ (s₁.setTop (mkF m 0 #[.val (.ref o0), .val (.int p1), .val (.int p2), .val (.int p3)] []))
  refine Ends.step (fun _ k => XS.iloadN X0.here hx rfl (hb hby d8_0) rfl k) ?_
  show Ends p e below QQ (s₁.setTop (mkF m 1 #[.val (.ref o0), .val (.int p1), .val (.int p2), .val (.int p3)] [(.int p1)]))
  have hc1 : ¬ (p1 = (0 : Int32)) := hk
  refine Ends.step (fun _ k => XS.ifNo X0.here hx rfl (hb hby d8_1) rfl (XT.i0_eq_f hc1) k) ?_
  show Ends p e below QQ (s₁.setTop (mkF m 4 #[.val (.ref o0), .val (.int p1), .val (.int p2), .val (.int p3)] []))
  refine Ends.step (fun _ k => XS.iloadN X0.here hx rfl (hb hby d8_4) rfl k) ?_
  show Ends p e below QQ (s₁.setTop (mkF m 5 #[.val (.ref o0), .val (.int p1), .val (.int p2), .val (.int p3)] [(.int p1)]))
  refine Ends.step (fun _ k => XT.iconstV X0.here hx rfl (1 : Int32) (hb hby d8_5) rfl k) ?_
  show Ends p e below QQ (s₁.setTop (mkF m 6 #[.val (.ref o0), .val (.int p1), .val (.int p2), .val (.int p3)] [(.int (1 : Int32)), (.int p1)]))
  have hc6 : ¬ (p1 = (1 : Int32)) := hk1
  refine Ends.step (fun _ k => XS.icmpYes X0.here hx rfl (pc0 := 6) (pc' := 11) rfl (hb hby d8_6) rfl (XT.ii_ne_t hc6) (by decide) (by decide) k) ?_
  show Ends p e below QQ (s₁.setTop (mkF m 11 #[.val (.ref o0), .val (.int p1), .val (.int p2), .val (.int p3)] []))
  refine Ends.step (fun _ k => XS.iloadN X0.here hx rfl (hb hby d8_11) rfl k) ?_
  show Ends p e below QQ (s₁.setTop (mkF m 12 #[.val (.ref o0), .val (.int p1), .val (.int p2), .val (.int p3)] [(.int p1)]))
  refine Ends.step (fun _ k => XT.iconstV X0.here hx rfl (2 : Int32) (hb hby d8_12) rfl k) ?_
  show Ends p e below QQ (s₁.setTop (mkF m 13 #[.val (.ref o0), .val (.int p1), .val (.int p2), .val (.int p3)] [(.int (2 : Int32)), (.int p1)]))
  have hc13 : ¬ (p1 = (2 : Int32)) := hk2
  refine Ends.step (fun _ k => XS.icmpYes X0.here hx rfl (pc0 := 13) (pc' := 27) rfl (hb hby d8_13) rfl (XT.ii_ne_t hc13) (by decide) (by decide) k) ?_
  show Ends p e below QQ (s₁.setTop (mkF m 27 #[.val (.ref o0), .val (.int p1), .val (.int p2), .val (.int p3)] []))
  refine Ends.step (fun _ k => XS.aloadN X0.here hx rfl (hb hby d8_27) rfl rfl k) ?_
  show Ends p e below QQ (s₁.setTop (mkF m 28 #[.val (.ref o0), .val (.int p1), .val (.int p2), .val (.int p3)] [(.ref o0)]))
  obtain ⟨cl16, Ar16, -, S16, P16, -, -⟩ := id A_o0
  refine Ends.step (S' := s₁.setTop (mkF m 29 #[.val (.ref o0), .val (.int p1), .val (.int p2), .val (.int p3)] [(.int (2 : Int32))])) (fun _ k => X0.arraylength hx (by rw [e0]; exact Ar16.1) (State.isArrayOf_alike hZ.alike Ar16.2.1) (g := (mkF m 28 #[.val (.ref o0), .val (.int p1), .val (.int p2), .val (.int p3)] [(.ref o0)])) rfl rfl (hb hby d8_28) _ (by rw [len_of S16 P16]; exact k)) ?_
  show Ends p e below QQ (s₁.setTop (mkF m 29 #[.val (.ref o0), .val (.int p1), .val (.int p2), .val (.int p3)] [(.int (2 : Int32))]))
  refine Ends.step (fun _ k => XT.iconstV X0.here hx rfl (2 : Int32) (hb hby d8_29) rfl k) ?_
  show Ends p e below QQ (s₁.setTop (mkF m 30 #[.val (.ref o0), .val (.int p1), .val (.int p2), .val (.int p3)] [(.int (2 : Int32)), (.int (2 : Int32))]))
  refine Ends.step (fun _ k => XS.icmpNo X0.here hx rfl (hb hby d8_30) rfl (XT.ii_ne_f (by decide)) k) ?_
  show Ends p e below QQ (s₁.setTop (mkF m 33 #[.val (.ref o0), .val (.int p1), .val (.int p2), .val (.int p3)] []))
  refine Ends.step (fun _ k => XS.aloadN X0.here hx rfl (hb hby d8_33) rfl rfl k) ?_
  show Ends p e below QQ (s₁.setTop (mkF m 34 #[.val (.ref o0), .val (.int p1), .val (.int p2), .val (.int p3)] [(.ref o0)]))
  refine Ends.step (fun _ k => XT.iconstV X0.here hx rfl (0 : Int32) (hb hby d8_34) rfl k) ?_
  show Ends p e below QQ (s₁.setTop (mkF m 35 #[.val (.ref o0), .val (.int p1), .val (.int p2), .val (.int p3)] [(.int (0 : Int32)), (.ref o0)]))
  obtain ⟨cl17, Ar17, q17, S17, P17, H17, G17⟩ := id A_o0
  have hin17 : ¬ ((0 : Int32) < 0 ∨ cl17.slots.size ≤ ((0 : Int32)).toNatClampNeg) := inb_of S17 ⟨by decide, by decide⟩
  have hat17 : cl17.slots[((0 : Int32)).toNatClampNeg]? = some (.int p3) := H17.at hin17 (rfl)
  refine Ends.step (fun _ k => X0.baloadBytes hx (j := (0 : Int32)) (v := (.int p3)) (by rw [e0]; exact Ar17.1) (State.isArrayOf_alike hZ.alike Ar17.2.1) Ar17.2.2 hin17 hat17 (g := (mkF m 35 #[.val (.ref o0), .val (.int p1), .val (.int p2), .val (.int p3)] [(.int (0 : Int32)), (.ref o0)])) rfl rfl (hb hby d8_35) _ k) ?_
  show Ends p e below QQ (s₁.setTop (mkF m 36 #[.val (.ref o0), .val (.int p1), .val (.int p2), .val (.int p3)] [(.int p3)]))
  refine Ends.step (fun _ k => XS.iloadN X0.here hx rfl (hb hby d8_36) rfl k) ?_
  show Ends p e below QQ (s₁.setTop (mkF m 37 #[.val (.ref o0), .val (.int p1), .val (.int p2), .val (.int p3)] [(.int p3), (.int p3)]))
  refine Ends.step (fun _ k => XS.icmpNo X0.here hx rfl (hb hby d8_37) rfl (XT.ii_ne_f rfl) k) ?_
  show Ends p e below QQ (s₁.setTop (mkF m 40 #[.val (.ref o0), .val (.int p1), .val (.int p2), .val (.int p3)] []))
  refine Ends.step (fun _ k => XS.aloadN X0.here hx rfl (hb hby d8_40) rfl rfl k) ?_
  show Ends p e below QQ (s₁.setTop (mkF m 41 #[.val (.ref o0), .val (.int p1), .val (.int p2), .val (.int p3)] [(.ref o0)]))
  refine Ends.step (fun _ k => XT.iconstV X0.here hx rfl (1 : Int32) (hb hby d8_41) rfl k) ?_
  show Ends p e below QQ (s₁.setTop (mkF m 42 #[.val (.ref o0), .val (.int p1), .val (.int p2), .val (.int p3)] [(.int (1 : Int32)), (.ref o0)]))
  obtain ⟨cl18, Ar18, q18, S18, P18, H18, G18⟩ := id A_o0
  have hin18 : ¬ ((1 : Int32) < 0 ∨ cl18.slots.size ≤ ((1 : Int32)).toNatClampNeg) := inb_of S18 ⟨by decide, by decide⟩
  have hat18 : cl18.slots[((1 : Int32)).toNatClampNeg]? = some (.int p2) := H18.at hin18 (rfl)
  refine Ends.step (fun _ k => X0.baloadBytes hx (j := (1 : Int32)) (v := (.int p2)) (by rw [e0]; exact Ar18.1) (State.isArrayOf_alike hZ.alike Ar18.2.1) Ar18.2.2 hin18 hat18 (g := (mkF m 42 #[.val (.ref o0), .val (.int p1), .val (.int p2), .val (.int p3)] [(.int (1 : Int32)), (.ref o0)])) rfl rfl (hb hby d8_42) _ k) ?_
  show Ends p e below QQ (s₁.setTop (mkF m 43 #[.val (.ref o0), .val (.int p1), .val (.int p2), .val (.int p3)] [(.int p2)]))
  refine Ends.step (fun _ k => XS.iloadN X0.here hx rfl (hb hby d8_43) rfl k) ?_
  show Ends p e below QQ (s₁.setTop (mkF m 44 #[.val (.ref o0), .val (.int p1), .val (.int p2), .val (.int p3)] [(.int p2), (.int p2)]))
  refine Ends.step (fun _ k => XS.icmpNo X0.here hx rfl (hb hby d8_44) rfl (XT.ii_ne_f rfl) k) ?_
  show Ends p e below QQ (s₁.setTop (mkF m 47 #[.val (.ref o0), .val (.int p1), .val (.int p2), .val (.int p3)] []))
  refine Ends.step (fun _ k => XT.iconstV X0.here hx rfl (1 : Int32) (hb hby d8_47) rfl k) ?_
  show Ends p e below QQ (s₁.setTop (mkF m 48 #[.val (.ref o0), .val (.int p1), .val (.int p2), .val (.int p3)] [(.int (1 : Int32))]))
  refine Ends.step (fun _ k => XS.goto X0.here hx rfl (pc0 := 48) (pc' := 52) rfl (hb hby d8_48) (by decide) (by decide) k) ?_
  show Ends p e below QQ (s₁.setTop (mkF m 52 #[.val (.ref o0), .val (.int p1), .val (.int p2), .val (.int p3)] [(.int (1 : Int32))]))
  exact Ends.fin (some (.int (1 : Int32))) X0 hQQ (fun h => by rw [Bd.returns] at h; cases h) Bd.notSynchronized (fun _ hr => retOut X0 hx (t := .boolean) Bd.returns rfl (Or.inl ⟨rfl, (by simp), _, rfl⟩) (hb hby d8_52) hr) e0 (by decide) (by decide) ⟨rfl, N0, rfl⟩
theorem ef_0 (m : MethodId) (x0 : Int32) (x1 : Int32) (x2 : Int32) (x3 : Int32) : entryFrame m #[(.int x0), (.int x1), (.int x2), (.int x3)] maxLocals = mkF m 0 #[.val (.int x0), .val (.int x1), .val (.int x2), .val (.int x3), .unset, .unset, .unset, .unset, .unset, .unset, .unset] [] := by first | (simp [entryFrame, mkF, argsToLocals, Value.category, maxLocals]; done) | rfl
def f0 (p0 : Int32) (p1 : Int32) (p2 : Int32) (p3 : Int32) : Int32 := (1 : Int32)
def Q0 (Z : State) (p0 : Int32) (p1 : Int32) (p2 : Int32) (p3 : Int32) (h0 : Heap) (n0 : Nat) (v : Option Value) (h : Heap) (L : List Loc) : Prop := (v = some (.int (f0 p0 p1 p2 p3))) ∧ (Fr n0 L) ∧ (Keep h0 h [])
set_option maxRecDepth 65536 in
set_option maxHeartbeats 40000000 in
theorem rm0 (l : Launch) (Z : State) (a0 : Array Value) (hw : ∀ d ∈ tables_1, d.before a0 Z = true) (ws : List Jvm.Cond) (p0 : Int32) (p1 : Int32) (p2 : Int32) (p3 : Int32) (h0 : Heap) (n0 : Nat) (Z0 : n0 ≤ h0.size) :
    MetFree l x (head1 (Jvm.Cond.code x code maxLocals ret :: ws) room_1) (fun a U => a = #[(.int p0), (.int p1), (.int p2), (.int p3)] ∧ Z.Warmed39 U.vm ∧ U.heap = h0) (fun _ _ _ _ _ => True) (fun _ U o U' => ∃ v L, o = .returned v ∧ Q0 Z p0 p1 p2 p3 h0 n0 v U'.heap L ∧ FrameEnd U o U' L room_1.cells room_1.slots) := by
  refine MetFree.of_bodySF (plainFor_of_name pn_1) hisR ?_
  intro p e s m args below meth c s₁ Bd hml0 hP hK
  obtain ⟨rfl, hZ, hh⟩ := hP
  have hx := Bd.exec
  have hby := Bd.bytes
  have hml : c.maxLocals = 11 := hml0
  have hown : s.vm.findClass "com/example/wunce/wunce/StoredCallFinishedPinLaw" = some m.cls := findClass_of_methodNamed Bd.named
  have hnm := (name_of_methodNamed Bd.named Bd.method).1
  have X0 : Stand p l e room_1 s m #[(.int p0), (.int p1), (.int p2), (.int p3)] below meth c s₁ [] 0 0 := Stand.of_body Bd
  have e0 : s₁.heap = h0 := by rw [← hh, Bd.state]; rfl
  have N0 := Fr.nil n0
  refine Ends.opn ?_
  intro QQ hQQ
  refine Ends.step (S' := s₁.setTop (mkF m 0 #[.val (.int p0), .val (.int p1), .val (.int p2), .val (.int p3), .unset, .unset, .unset, .unset, .unset, .unset, .unset] [])) (fun t k => castTop (ef_0 m p0 p1 p2 p3) k) ?_
  show Ends p e below QQ (s₁.setTop (mkF m 0 #[.val (.int p0), .val (.int p1), .val (.int p2), .val (.int p3), .unset, .unset, .unset, .unset, .unset, .unset, .unset] []))
  refine Ends.step (fun _ k => XS.iloadN X0.here hx rfl (hb hby at_0) rfl k) ?_
  show Ends p e below QQ (s₁.setTop (mkF m 1 #[.val (.int p0), .val (.int p1), .val (.int p2), .val (.int p3), .unset, .unset, .unset, .unset, .unset, .unset, .unset] [(.int p2)]))
  refine Ends.step (fun _ k => XT.i2b X0.here hx rfl (hb hby at_1) rfl k) ?_
  show Ends p e below QQ (s₁.setTop (mkF m 2 #[.val (.int p0), .val (.int p1), .val (.int p2), .val (.int p3), .unset, .unset, .unset, .unset, .unset, .unset, .unset] [(.int p2.toInt8.toInt32)]))
  refine Ends.step (fun _ k => XS.istore X0.here hx rfl (hb hby at_2) rfl (l' := #[.val (.int p0), .val (.int p1), .val (.int p2), .val (.int p3), .val (.int p2.toInt8.toInt32), .unset, .unset, .unset, .unset, .unset, .unset]) rfl k) ?_
  show Ends p e below QQ (s₁.setTop (mkF m 4 #[.val (.int p0), .val (.int p1), .val (.int p2), .val (.int p3), .val (.int p2.toInt8.toInt32), .unset, .unset, .unset, .unset, .unset, .unset] []))
  refine Ends.step (fun _ k => XS.iloadN X0.here hx rfl (hb hby at_4) rfl k) ?_
  show Ends p e below QQ (s₁.setTop (mkF m 5 #[.val (.int p0), .val (.int p1), .val (.int p2), .val (.int p3), .val (.int p2.toInt8.toInt32), .unset, .unset, .unset, .unset, .unset, .unset] [(.int p3)]))
  refine Ends.step (fun _ k => XT.i2b X0.here hx rfl (hb hby at_5) rfl k) ?_
  show Ends p e below QQ (s₁.setTop (mkF m 6 #[.val (.int p0), .val (.int p1), .val (.int p2), .val (.int p3), .val (.int p2.toInt8.toInt32), .unset, .unset, .unset, .unset, .unset, .unset] [(.int p3.toInt8.toInt32)]))
  refine Ends.step (fun _ k => XS.istore X0.here hx rfl (hb hby at_6) rfl (l' := #[.val (.int p0), .val (.int p1), .val (.int p2), .val (.int p3), .val (.int p2.toInt8.toInt32), .val (.int p3.toInt8.toInt32), .unset, .unset, .unset, .unset, .unset]) rfl k) ?_
  show Ends p e below QQ (s₁.setTop (mkF m 8 #[.val (.int p0), .val (.int p1), .val (.int p2), .val (.int p3), .val (.int p2.toInt8.toInt32), .val (.int p3.toInt8.toInt32), .unset, .unset, .unset, .unset, .unset] []))
  refine Ends.step (fun _ k => XS.iloadN X0.here hx rfl (hb hby at_8) rfl k) ?_
  show Ends p e below QQ (s₁.setTop (mkF m 9 #[.val (.int p0), .val (.int p1), .val (.int p2), .val (.int p3), .val (.int p2.toInt8.toInt32), .val (.int p3.toInt8.toInt32), .unset, .unset, .unset, .unset, .unset] [(.int p1)]))
  refine Ends.step (fun _ k => XT.iconstV X0.here hx rfl (3 : Int32) (hb hby at_9) rfl k) ?_
  show Ends p e below QQ (s₁.setTop (mkF m 10 #[.val (.int p0), .val (.int p1), .val (.int p2), .val (.int p3), .val (.int p2.toInt8.toInt32), .val (.int p3.toInt8.toInt32), .unset, .unset, .unset, .unset, .unset] [(.int (3 : Int32)), (.int p1)]))
  refine Ends.step (fun _ k => XS.iand X0.here hx rfl (hb hby at_10) rfl k) ?_
  show Ends p e below QQ (s₁.setTop (mkF m 11 #[.val (.int p0), .val (.int p1), .val (.int p2), .val (.int p3), .val (.int p2.toInt8.toInt32), .val (.int p3.toInt8.toInt32), .unset, .unset, .unset, .unset, .unset] [(.int (p1 &&& (3 : Int32)))]))
  refine Ends.step (fun _ k => XS.istore X0.here hx rfl (hb hby at_11) rfl (l' := #[.val (.int p0), .val (.int p1), .val (.int p2), .val (.int p3), .val (.int p2.toInt8.toInt32), .val (.int p3.toInt8.toInt32), .val (.int (p1 &&& (3 : Int32))), .unset, .unset, .unset, .unset]) rfl k) ?_
  show Ends p e below QQ (s₁.setTop (mkF m 13 #[.val (.int p0), .val (.int p1), .val (.int p2), .val (.int p3), .val (.int p2.toInt8.toInt32), .val (.int p3.toInt8.toInt32), .val (.int (p1 &&& (3 : Int32))), .unset, .unset, .unset, .unset] []))
  refine Ends.step (fun _ k => XS.iload X0.here hx rfl (hb hby at_13) rfl k) ?_
  show Ends p e below QQ (s₁.setTop (mkF m 15 #[.val (.int p0), .val (.int p1), .val (.int p2), .val (.int p3), .val (.int p2.toInt8.toInt32), .val (.int p3.toInt8.toInt32), .val (.int (p1 &&& (3 : Int32))), .unset, .unset, .unset, .unset] [(.int (p1 &&& (3 : Int32)))]))
  by_cases hc15_19 : (p1 &&& (3 : Int32)) = (0 : Int32)
  · refine Ends.step (fun _ k => XS.ifNo X0.here hx rfl (hb hby at_15) rfl (XT.i0_ne_f hc15_19) k) ?_
    show Ends p e below QQ (s₁.setTop (mkF m 18 #[.val (.int p0), .val (.int p1), .val (.int p2), .val (.int p3), .val (.int p2.toInt8.toInt32), .val (.int p3.toInt8.toInt32), .val (.int (p1 &&& (3 : Int32))), .unset, .unset, .unset, .unset] []))
    refine Ends.step (fun _ k => XT.iconstV X0.here hx rfl (0 : Int32) (hb hby at_18) rfl k) ?_
    show Ends p e below QQ (s₁.setTop (mkF m 19 #[.val (.int p0), .val (.int p1), .val (.int p2), .val (.int p3), .val (.int p2.toInt8.toInt32), .val (.int p3.toInt8.toInt32), .val (.int (p1 &&& (3 : Int32))), .unset, .unset, .unset, .unset] [(.int (0 : Int32))]))
    obtain ⟨T20, h20, k20, X20, e20, E20, A20, st20⟩ := newP X0 hx hZ (hw _ (List.mem_of_getElem? (i := 0) rfl)) e0 (g := (mkF m 19 #[.val (.int p0), .val (.int p1), .val (.int p2), .val (.int p3), .val (.int p2.toInt8.toInt32), .val (.int p3.toInt8.toInt32), .val (.int (p1 &&& (3 : Int32))), .unset, .unset, .unset, .unset] [(.int (0 : Int32))])) rfl (hb hby at_19) rfl (by decide) (cap := 0) (by decide) (by decide) (by decide) (by decide)
    obtain ⟨b20, g20⟩ : ∃ z, z = h0.size := ⟨_, rfl⟩
    rw [← g20] at A20 st20
    have g_b20 : n0 ≤ b20 := Nat.le_trans Z0 (Nat.le_trans (Keep.refl h0 []).1 (Nat.le_of_eq g20.symm))
    have sz_b20 : h0.size ≤ b20 := Nat.le_trans (Keep.refl h0 []).1 (Nat.le_of_eq g20.symm)
    have K20 := (Keep.refl h0 []).ext E20
    have A_b20 : Arv Z h20 b20 k20 .byte (0 : Int32) [] (.int (0 : Int32)) := Arv.new A20 (by decide)
    refine Ends.step st20 ?_
    show Ends p e below QQ (T20.setTop (mkF m 21 #[.val (.int p0), .val (.int p1), .val (.int p2), .val (.int p3), .val (.int p2.toInt8.toInt32), .val (.int p3.toInt8.toInt32), .val (.int (p1 &&& (3 : Int32))), .unset, .unset, .unset, .unset] [(.ref b20)]))
    refine Ends.step (fun _ k => XS.astore X20.here hx rfl (hb hby at_21) rfl rfl (l' := #[.val (.int p0), .val (.int p1), .val (.int p2), .val (.int p3), .val (.int p2.toInt8.toInt32), .val (.int p3.toInt8.toInt32), .val (.int (p1 &&& (3 : Int32))), .val (.ref b20), .unset, .unset, .unset]) rfl k) ?_
    show Ends p e below QQ (T20.setTop (mkF m 23 #[.val (.int p0), .val (.int p1), .val (.int p2), .val (.int p3), .val (.int p2.toInt8.toInt32), .val (.int p3.toInt8.toInt32), .val (.int (p1 &&& (3 : Int32))), .val (.ref b20), .unset, .unset, .unset] []))
    refine Ends.step (fun _ k => XS.goto X20.here hx rfl (pc0 := 23) (pc' := 60) rfl (hb hby at_23) (by decide) (by decide) k) ?_
    show Ends p e below QQ (T20.setTop (mkF m 60 #[.val (.int p0), .val (.int p1), .val (.int p2), .val (.int p3), .val (.int p2.toInt8.toInt32), .val (.int p3.toInt8.toInt32), .val (.int (p1 &&& (3 : Int32))), .val (.ref b20), .unset, .unset, .unset] []))
    refine Ends.step (fun _ k => XS.iloadN X20.here hx rfl (hb hby at_60) rfl k) ?_
    show Ends p e below QQ (T20.setTop (mkF m 61 #[.val (.int p0), .val (.int p1), .val (.int p2), .val (.int p3), .val (.int p2.toInt8.toInt32), .val (.int p3.toInt8.toInt32), .val (.int (p1 &&& (3 : Int32))), .val (.ref b20), .unset, .unset, .unset] [(.int p0)]))
    refine Ends.step (fun _ k => XT.iconstV X20.here hx rfl (3 : Int32) (hb hby at_61) rfl k) ?_
    show Ends p e below QQ (T20.setTop (mkF m 62 #[.val (.int p0), .val (.int p1), .val (.int p2), .val (.int p3), .val (.int p2.toInt8.toInt32), .val (.int p3.toInt8.toInt32), .val (.int (p1 &&& (3 : Int32))), .val (.ref b20), .unset, .unset, .unset] [(.int (3 : Int32)), (.int p0)]))
    refine Ends.step (fun _ k => XS.iand X20.here hx rfl (hb hby at_62) rfl k) ?_
    show Ends p e below QQ (T20.setTop (mkF m 63 #[.val (.int p0), .val (.int p1), .val (.int p2), .val (.int p3), .val (.int p2.toInt8.toInt32), .val (.int p3.toInt8.toInt32), .val (.int (p1 &&& (3 : Int32))), .val (.ref b20), .unset, .unset, .unset] [(.int (p0 &&& (3 : Int32)))]))
    refine Ends.step (fun _ k => XS.istore X20.here hx rfl (hb hby at_63) rfl (l' := #[.val (.int p0), .val (.int p1), .val (.int p2), .val (.int p3), .val (.int p2.toInt8.toInt32), .val (.int p3.toInt8.toInt32), .val (.int (p1 &&& (3 : Int32))), .val (.ref b20), .val (.int (p0 &&& (3 : Int32))), .unset, .unset]) rfl k) ?_
    show Ends p e below QQ (T20.setTop (mkF m 65 #[.val (.int p0), .val (.int p1), .val (.int p2), .val (.int p3), .val (.int p2.toInt8.toInt32), .val (.int p3.toInt8.toInt32), .val (.int (p1 &&& (3 : Int32))), .val (.ref b20), .val (.int (p0 &&& (3 : Int32))), .unset, .unset] []))
    refine Ends.step (fun _ k => XS.iload X20.here hx rfl (hb hby at_65) rfl k) ?_
    show Ends p e below QQ (T20.setTop (mkF m 67 #[.val (.int p0), .val (.int p1), .val (.int p2), .val (.int p3), .val (.int p2.toInt8.toInt32), .val (.int p3.toInt8.toInt32), .val (.int (p1 &&& (3 : Int32))), .val (.ref b20), .val (.int (p0 &&& (3 : Int32))), .unset, .unset] [(.int (p0 &&& (3 : Int32)))]))
    by_cases hc67_21 : (p0 &&& (3 : Int32)) = (0 : Int32)
    · refine Ends.step (fun _ k => XS.ifNo X20.here hx rfl (hb hby at_67) rfl (XT.i0_ne_f hc67_21) k) ?_
      show Ends p e below QQ (T20.setTop (mkF m 70 #[.val (.int p0), .val (.int p1), .val (.int p2), .val (.int p3), .val (.int p2.toInt8.toInt32), .val (.int p3.toInt8.toInt32), .val (.int (p1 &&& (3 : Int32))), .val (.ref b20), .val (.int (p0 &&& (3 : Int32))), .unset, .unset] []))
      refine Ends.step (fun _ k => XS.aconstNull X20.here hx rfl (hb hby at_70) k) ?_
      show Ends p e below QQ (T20.setTop (mkF m 71 #[.val (.int p0), .val (.int p1), .val (.int p2), .val (.int p3), .val (.int p2.toInt8.toInt32), .val (.int p3.toInt8.toInt32), .val (.int (p1 &&& (3 : Int32))), .val (.ref b20), .val (.int (p0 &&& (3 : Int32))), .unset, .unset] [.null]))
      refine Ends.step (fun _ k => XS.astore X20.here hx rfl (hb hby at_71) rfl rfl (l' := #[.val (.int p0), .val (.int p1), .val (.int p2), .val (.int p3), .val (.int p2.toInt8.toInt32), .val (.int p3.toInt8.toInt32), .val (.int (p1 &&& (3 : Int32))), .val (.ref b20), .val (.int (p0 &&& (3 : Int32))), .val .null, .unset]) rfl k) ?_
      show Ends p e below QQ (T20.setTop (mkF m 73 #[.val (.int p0), .val (.int p1), .val (.int p2), .val (.int p3), .val (.int p2.toInt8.toInt32), .val (.int p3.toInt8.toInt32), .val (.int (p1 &&& (3 : Int32))), .val (.ref b20), .val (.int (p0 &&& (3 : Int32))), .val .null, .unset] []))
      refine Ends.step (fun _ k => XS.goto X20.here hx rfl (pc0 := 73) (pc' := 118) rfl (hb hby at_73) (by decide) (by decide) k) ?_
      show Ends p e below QQ (T20.setTop (mkF m 118 #[.val (.int p0), .val (.int p1), .val (.int p2), .val (.int p3), .val (.int p2.toInt8.toInt32), .val (.int p3.toInt8.toInt32), .val (.int (p1 &&& (3 : Int32))), .val (.ref b20), .val (.int (p0 &&& (3 : Int32))), .val .null, .unset] []))
      refine Ends.step (fun _ k => XS.aload X20.here hx rfl (hb hby at_118) rfl rfl k) ?_
      show Ends p e below QQ (T20.setTop (mkF m 120 #[.val (.int p0), .val (.int p1), .val (.int p2), .val (.int p3), .val (.int p2.toInt8.toInt32), .val (.int p3.toInt8.toInt32), .val (.int (p1 &&& (3 : Int32))), .val (.ref b20), .val (.int (p0 &&& (3 : Int32))), .val .null, .unset] [.null]))
      refine Ends.step (fun _ k => XS.aload X20.here hx rfl (hb hby at_120) rfl rfl k) ?_
      show Ends p e below QQ (T20.setTop (mkF m 122 #[.val (.int p0), .val (.int p1), .val (.int p2), .val (.int p3), .val (.int p2.toInt8.toInt32), .val (.int p3.toInt8.toInt32), .val (.int (p1 &&& (3 : Int32))), .val (.ref b20), .val (.int (p0 &&& (3 : Int32))), .val .null, .unset] [(.ref b20), .null]))
      obtain ⟨_, _, ⟨T22, L22, k22, n22⟩, -, X22, ⟨Lc22, hQ22, l22, y22, z22⟩, st22⟩ := Jvm.LawKit.callS X20 hx (y := (⟨"com/example/wunce/wunce/StoredCall", "finished", "([B[B)Lcom/example/wunce/wunce/StoredCall;"⟩ : MethodName)) hown (mvT hZ (hw _ (List.mem_of_getElem? (i := 1) rfl))) (mvT hZ (hw _ (List.mem_of_getElem? (i := 2) rfl))) (mvT hZ (hw _ (List.mem_of_getElem? (i := 3) rfl))) (mvT hZ (hw _ (List.mem_of_getElem? (i := 4) rfl))) (by decide) (backOf (W := 0) (rm1 l Z a0 hw [] (.null : Value) b20 h20 n0 (Nat.le_trans Z0 K20.1) rfl) hZ (hw _ (List.mem_of_getElem? (i := 4) rfl)) (hw _ (List.mem_of_getElem? (i := 3) rfl)) (by decide) (by decide)) (g := (mkF m 122 #[.val (.int p0), .val (.int p1), .val (.int p2), .val (.int p3), .val (.int p2.toInt8.toInt32), .val (.int p3.toInt8.toInt32), .val (.int (p1 &&& (3 : Int32))), .val (.ref b20), .val (.int (p0 &&& (3 : Int32))), .val .null, .unset] [(.ref b20), .null])) rfl (by rw [hml]; rfl) (argsL := [.null, (.ref b20)]) (rest := []) (lenOf pd_1 rfl) rfl (by show 2 * 0 + _ ≤ _; exact Nat.le_of_eq rfl) (hb hby at_122) (fun _ _ => ⟨rfl, e20, (by decide : 1 + 1 ≤ _), (by decide : 0 + 2 ≤ _)⟩)
      dsimp only [Pt.U, Pt.locs, Pt.cells, Pt.slots] at X22 l22 y22 z22 st22 hQ22
      subst l22 y22 z22
      obtain ⟨b_22, rfl, Nq22, Kq22, fq22_0, fq22_1, fq22_2, fq22_3, fq22_4⟩ := hQ22
      have N22 := Fr.app N0 Nq22
      have ne_b20_b_22 : b20 ≠ b_22 := Nat.ne_of_lt (Nat.lt_of_lt_of_le A_b20.lt fq22_0)
      have sz_b_22 := Nat.le_trans K20.1 fq22_0
      have A_b20 := A_b20.keep Kq22 nin0
      have g_b_22 := fq22_1
      have E_b_22 := fq22_2
      have F__fingerprint_b_22 := fq22_3
      have F__answer_b_22 := fq22_4
      have K22 := K20.trans Kq22 all0
      refine Ends.step st22 ?_
      show Ends p e below QQ (T22.setTop (mkF m 125 #[.val (.int p0), .val (.int p1), .val (.int p2), .val (.int p3), .val (.int p2.toInt8.toInt32), .val (.int p3.toInt8.toInt32), .val (.int (p1 &&& (3 : Int32))), .val (.ref b20), .val (.int (p0 &&& (3 : Int32))), .val .null, .unset] [(.ref b_22)]))
      refine Ends.step (fun _ k => XS.astore X22.here hx rfl (hb hby at_125) rfl rfl (l' := #[.val (.int p0), .val (.int p1), .val (.int p2), .val (.int p3), .val (.int p2.toInt8.toInt32), .val (.int p3.toInt8.toInt32), .val (.int (p1 &&& (3 : Int32))), .val (.ref b20), .val (.int (p0 &&& (3 : Int32))), .val .null, .val (.ref b_22)]) rfl k) ?_
      show Ends p e below QQ (T22.setTop (mkF m 127 #[.val (.int p0), .val (.int p1), .val (.int p2), .val (.int p3), .val (.int p2.toInt8.toInt32), .val (.int p3.toInt8.toInt32), .val (.int (p1 &&& (3 : Int32))), .val (.ref b20), .val (.int (p0 &&& (3 : Int32))), .val .null, .val (.ref b_22)] []))
      refine Ends.step (fun _ k => XS.aload X22.here hx rfl (hb hby at_127) rfl rfl k) ?_
      show Ends p e below QQ (T22.setTop (mkF m 129 #[.val (.int p0), .val (.int p1), .val (.int p2), .val (.int p3), .val (.int p2.toInt8.toInt32), .val (.int p3.toInt8.toInt32), .val (.int (p1 &&& (3 : Int32))), .val (.ref b20), .val (.int (p0 &&& (3 : Int32))), .val .null, .val (.ref b_22)] [(.ref b_22)]))
      refine Ends.step (fun _ k => XT.ifnonnullYes X22.here hx rfl (pc0 := 129) (pc' := 134) rfl (hb hby at_129) rfl (by decide) (by decide) k) ?_
      show Ends p e below QQ (T22.setTop (mkF m 134 #[.val (.int p0), .val (.int p1), .val (.int p2), .val (.int p3), .val (.int p2.toInt8.toInt32), .val (.int p3.toInt8.toInt32), .val (.int (p1 &&& (3 : Int32))), .val (.ref b20), .val (.int (p0 &&& (3 : Int32))), .val .null, .val (.ref b_22)] []))
      refine Ends.step (fun _ k => XS.aload X22.here hx rfl (hb hby at_134) rfl rfl k) ?_
      show Ends p e below QQ (T22.setTop (mkF m 136 #[.val (.int p0), .val (.int p1), .val (.int p2), .val (.int p3), .val (.int p2.toInt8.toInt32), .val (.int p3.toInt8.toInt32), .val (.int (p1 &&& (3 : Int32))), .val (.ref b20), .val (.int (p0 &&& (3 : Int32))), .val .null, .val (.ref b_22)] [(.ref b_22)]))
      obtain ⟨cq23, kq23, q23a, q23b, q23c⟩ := isOf hZ rfl E_b_22
      obtain ⟨_, _, ⟨T23, L23, k23, n23⟩, -, X23, ⟨Lc23, hQ23, l23, y23, z23⟩, st23⟩ := X22.virtualBack hx (y := (⟨"com/example/wunce/wunce/StoredCall", "fingerprint", "()[B"⟩ : MethodName)) (z := (⟨"com/example/wunce/wunce/StoredCall", "fingerprint", "()[B"⟩ : MethodName)) hown (mvT hZ (hw _ (List.mem_of_getElem? (i := 17) rfl))) (mvT hZ (hw _ (List.mem_of_getElem? (i := 18) rfl))) (notFace_of_selects (args := #[]) (mvT hZ (hw _ (List.mem_of_getElem? (i := 20) rfl)))) (mvT hZ (hw _ (List.mem_of_getElem? (i := 20) rfl))) (mvT hZ (hw _ (List.mem_of_getElem? (i := 19) rfl))) (by decide) (backOf (W := 0) (rm4 l Z a0 hw [] b_22 (.null : Value) T22.heap n0 (Nat.le_trans Z0 K22.1) F__fingerprint_b_22 rfl) hZ (hw _ (List.mem_of_getElem? (i := 21) rfl)) (hw _ (List.mem_of_getElem? (i := 3) rfl)) (by decide) (by decide)) q23a q23c (g := (mkF m 136 #[.val (.int p0), .val (.int p1), .val (.int p2), .val (.int p3), .val (.int p2.toInt8.toInt32), .val (.int p3.toInt8.toInt32), .val (.int (p1 &&& (3 : Int32))), .val (.ref b20), .val (.int (p0 &&& (3 : Int32))), .val .null, .val (.ref b_22)] [(.ref b_22)])) rfl (by rw [hml]; rfl) (Steps.refl _) (argsL := []) (rest := []) (lenOf pd_2 rfl) rfl (by show 2 * 0 + _ ≤ _; exact Nat.le_of_eq rfl) (hb hby at_136) (fun _ _ => ⟨rfl, rfl, (by decide : 2 + 0 ≤ _), (by decide : 2 + 0 ≤ _)⟩)
      dsimp only [Pt.U, Pt.locs, Pt.cells, Pt.slots] at X23 l23 y23 z23 st23 hQ23
      subst l23 y23 z23
      obtain ⟨rfl, Nq23, hh23⟩ := hQ23
      have N23 := Fr.app N22 Nq23
      refine Ends.step (fun _ k => st23.trans k) ?_
      show Ends p e below QQ (T23.setTop (mkF m 139 #[.val (.int p0), .val (.int p1), .val (.int p2), .val (.int p3), .val (.int p2.toInt8.toInt32), .val (.int p3.toInt8.toInt32), .val (.int (p1 &&& (3 : Int32))), .val (.ref b20), .val (.int (p0 &&& (3 : Int32))), .val .null, .val (.ref b_22)] [.null]))
      refine Ends.step (fun _ k => XS.aload X23.here hx rfl (hb hby at_139) rfl rfl k) ?_
      show Ends p e below QQ (T23.setTop (mkF m 141 #[.val (.int p0), .val (.int p1), .val (.int p2), .val (.int p3), .val (.int p2.toInt8.toInt32), .val (.int p3.toInt8.toInt32), .val (.int (p1 &&& (3 : Int32))), .val (.ref b20), .val (.int (p0 &&& (3 : Int32))), .val .null, .val (.ref b_22)] [.null, .null]))
      refine Ends.step (fun _ k => Jvm.RoadKit.acmp (g := (mkF m 141 #[.val (.int p0), .val (.int p1), .val (.int p2), .val (.int p3), .val (.int p2.toInt8.toInt32), .val (.int p3.toInt8.toInt32), .val (.int (p1 &&& (3 : Int32))), .val (.ref b20), .val (.int (p0 &&& (3 : Int32))), .val .null, .val (.ref b_22)] [.null, .null])) X23 hx rfl rfl rfl (pc0 := 141) (pc' := 146) (same := true) rfl (hb hby at_141) rfl (decide_eq_true rfl) (by decide) (by decide) k) ?_
      show Ends p e below QQ (T23.setTop (mkF m 146 #[.val (.int p0), .val (.int p1), .val (.int p2), .val (.int p3), .val (.int p2.toInt8.toInt32), .val (.int p3.toInt8.toInt32), .val (.int (p1 &&& (3 : Int32))), .val (.ref b20), .val (.int (p0 &&& (3 : Int32))), .val .null, .val (.ref b_22)] []))
      refine Ends.step (fun _ k => XS.aload X23.here hx rfl (hb hby at_146) rfl rfl k) ?_
      show Ends p e below QQ (T23.setTop (mkF m 148 #[.val (.int p0), .val (.int p1), .val (.int p2), .val (.int p3), .val (.int p2.toInt8.toInt32), .val (.int p3.toInt8.toInt32), .val (.int (p1 &&& (3 : Int32))), .val (.ref b20), .val (.int (p0 &&& (3 : Int32))), .val .null, .val (.ref b_22)] [(.ref b_22)]))
      obtain ⟨cq24, kq24, q24a, q24b, q24c⟩ := isOf hZ hh23 E_b_22
      obtain ⟨_, _, ⟨T24, L24, k24, n24⟩, -, X24, ⟨Lc24, hQ24, l24, y24, z24⟩, st24⟩ := X23.virtualBack hx (y := (⟨"com/example/wunce/wunce/StoredCall", "answer", "()[B"⟩ : MethodName)) (z := (⟨"com/example/wunce/wunce/StoredCall", "answer", "()[B"⟩ : MethodName)) hown (mvT hZ (hw _ (List.mem_of_getElem? (i := 22) rfl))) (mvT hZ (hw _ (List.mem_of_getElem? (i := 23) rfl))) (notFace_of_selects (args := #[]) (mvT hZ (hw _ (List.mem_of_getElem? (i := 25) rfl)))) (mvT hZ (hw _ (List.mem_of_getElem? (i := 25) rfl))) (mvT hZ (hw _ (List.mem_of_getElem? (i := 24) rfl))) (by decide) (backOf (W := 0) (rm5 l Z a0 hw [] b_22 ((.ref b20) : Value) T22.heap n0 (Nat.le_trans Z0 K22.1) F__answer_b_22 rfl) hZ (hw _ (List.mem_of_getElem? (i := 26) rfl)) (hw _ (List.mem_of_getElem? (i := 3) rfl)) (by decide) (by decide)) q24a q24c (g := (mkF m 148 #[.val (.int p0), .val (.int p1), .val (.int p2), .val (.int p3), .val (.int p2.toInt8.toInt32), .val (.int p3.toInt8.toInt32), .val (.int (p1 &&& (3 : Int32))), .val (.ref b20), .val (.int (p0 &&& (3 : Int32))), .val .null, .val (.ref b_22)] [(.ref b_22)])) rfl (by rw [hml]; rfl) (Steps.refl _) (argsL := []) (rest := []) (lenOf pd_2 rfl) rfl (by show 2 * 0 + _ ≤ _; exact Nat.le_of_eq rfl) (hb hby at_148) (fun _ _ => ⟨rfl, hh23, (by decide : 2 + 0 ≤ _), (by decide : 2 + 0 ≤ _)⟩)
      dsimp only [Pt.U, Pt.locs, Pt.cells, Pt.slots] at X24 l24 y24 z24 st24 hQ24
      subst l24 y24 z24
      obtain ⟨rfl, Nq24, hh24⟩ := hQ24
      have N24 := Fr.app N23 Nq24
      refine Ends.step (fun _ k => st24.trans k) ?_
      show Ends p e below QQ (T24.setTop (mkF m 151 #[.val (.int p0), .val (.int p1), .val (.int p2), .val (.int p3), .val (.int p2.toInt8.toInt32), .val (.int p3.toInt8.toInt32), .val (.int (p1 &&& (3 : Int32))), .val (.ref b20), .val (.int (p0 &&& (3 : Int32))), .val .null, .val (.ref b_22)] [(.ref b20)]))
      refine Ends.step (fun _ k => XS.aload X24.here hx rfl (hb hby at_151) rfl rfl k) ?_
      show Ends p e below QQ (T24.setTop (mkF m 153 #[.val (.int p0), .val (.int p1), .val (.int p2), .val (.int p3), .val (.int p2.toInt8.toInt32), .val (.int p3.toInt8.toInt32), .val (.int (p1 &&& (3 : Int32))), .val (.ref b20), .val (.int (p0 &&& (3 : Int32))), .val .null, .val (.ref b_22)] [(.ref b20), (.ref b20)]))
      refine Ends.step (fun _ k => Jvm.RoadKit.acmp (g := (mkF m 153 #[.val (.int p0), .val (.int p1), .val (.int p2), .val (.int p3), .val (.int p2.toInt8.toInt32), .val (.int p3.toInt8.toInt32), .val (.int (p1 &&& (3 : Int32))), .val (.ref b20), .val (.int (p0 &&& (3 : Int32))), .val .null, .val (.ref b_22)] [(.ref b20), (.ref b20)])) X24 hx rfl rfl rfl (pc0 := 153) (pc' := 158) (same := true) rfl (hb hby at_153) rfl (decide_eq_true rfl) (by decide) (by decide) k) ?_
      show Ends p e below QQ (T24.setTop (mkF m 158 #[.val (.int p0), .val (.int p1), .val (.int p2), .val (.int p3), .val (.int p2.toInt8.toInt32), .val (.int p3.toInt8.toInt32), .val (.int (p1 &&& (3 : Int32))), .val (.ref b20), .val (.int (p0 &&& (3 : Int32))), .val .null, .val (.ref b_22)] []))
      refine Ends.step (fun _ k => XS.aload X24.here hx rfl (hb hby at_158) rfl rfl k) ?_
      show Ends p e below QQ (T24.setTop (mkF m 160 #[.val (.int p0), .val (.int p1), .val (.int p2), .val (.int p3), .val (.int p2.toInt8.toInt32), .val (.int p3.toInt8.toInt32), .val (.int (p1 &&& (3 : Int32))), .val (.ref b20), .val (.int (p0 &&& (3 : Int32))), .val .null, .val (.ref b_22)] [(.ref b_22)]))
      obtain ⟨cq25, kq25, q25a, q25b, q25c⟩ := isOf hZ hh24 E_b_22
      obtain ⟨_, _, ⟨T25, L25, k25, n25⟩, -, X25, ⟨Lc25, hQ25, l25, y25, z25⟩, st25⟩ := X24.virtualBack hx (y := (⟨"com/example/wunce/wunce/StoredCall", "isFinished", "()Z"⟩ : MethodName)) (z := (⟨"com/example/wunce/wunce/StoredCall", "isFinished", "()Z"⟩ : MethodName)) hown (mvT hZ (hw _ (List.mem_of_getElem? (i := 27) rfl))) (mvT hZ (hw _ (List.mem_of_getElem? (i := 28) rfl))) (notFace_of_selects (args := #[]) (mvT hZ (hw _ (List.mem_of_getElem? (i := 30) rfl)))) (mvT hZ (hw _ (List.mem_of_getElem? (i := 30) rfl))) (mvT hZ (hw _ (List.mem_of_getElem? (i := 29) rfl))) (by decide) (backOf (W := 0) (rm6 l Z a0 hw [] b_22 b20 T22.heap n0 (Nat.le_trans Z0 K22.1) F__answer_b_22) hZ (hw _ (List.mem_of_getElem? (i := 31) rfl)) (hw _ (List.mem_of_getElem? (i := 3) rfl)) (by decide) (by decide)) q25a q25c (g := (mkF m 160 #[.val (.int p0), .val (.int p1), .val (.int p2), .val (.int p3), .val (.int p2.toInt8.toInt32), .val (.int p3.toInt8.toInt32), .val (.int (p1 &&& (3 : Int32))), .val (.ref b20), .val (.int (p0 &&& (3 : Int32))), .val .null, .val (.ref b_22)] [(.ref b_22)])) rfl (by rw [hml]; rfl) (Steps.refl _) (argsL := []) (rest := []) (lenOf pd_3 rfl) rfl (by show 2 * 0 + _ ≤ _; exact Nat.le_of_eq rfl) (hb hby at_160) (fun _ _ => ⟨rfl, hh24, (by decide : 2 + 0 ≤ _), (by decide : 2 + 0 ≤ _)⟩)
      dsimp only [Pt.U, Pt.locs, Pt.cells, Pt.slots] at X25 l25 y25 z25 st25 hQ25
      subst l25 y25 z25
      obtain ⟨rfl, Nq25, hh25⟩ := hQ25
      have N25 := Fr.app N24 Nq25
      refine Ends.step (fun _ k => st25.trans k) ?_
      show Ends p e below QQ (T25.setTop (mkF m 163 #[.val (.int p0), .val (.int p1), .val (.int p2), .val (.int p3), .val (.int p2.toInt8.toInt32), .val (.int p3.toInt8.toInt32), .val (.int (p1 &&& (3 : Int32))), .val (.ref b20), .val (.int (p0 &&& (3 : Int32))), .val .null, .val (.ref b_22)] [(.int (1 : Int32))]))
      refine Ends.step (fun _ k => XS.ifYes X25.here hx rfl (pc0 := 163) (pc' := 168) rfl (hb hby at_163) rfl (XT.i0_ne_t (by decide)) (by decide) (by decide) k) ?_
      show Ends p e below QQ (T25.setTop (mkF m 168 #[.val (.int p0), .val (.int p1), .val (.int p2), .val (.int p3), .val (.int p2.toInt8.toInt32), .val (.int p3.toInt8.toInt32), .val (.int (p1 &&& (3 : Int32))), .val (.ref b20), .val (.int (p0 &&& (3 : Int32))), .val .null, .val (.ref b_22)] []))
      refine Ends.step (fun _ k => XS.aload X25.here hx rfl (hb hby at_168) rfl rfl k) ?_
      show Ends p e below QQ (T25.setTop (mkF m 170 #[.val (.int p0), .val (.int p1), .val (.int p2), .val (.int p3), .val (.int p2.toInt8.toInt32), .val (.int p3.toInt8.toInt32), .val (.int (p1 &&& (3 : Int32))), .val (.ref b20), .val (.int (p0 &&& (3 : Int32))), .val .null, .val (.ref b_22)] [(.ref b20)]))
      refine Ends.step (fun _ k => XS.iload X25.here hx rfl (hb hby at_170) rfl k) ?_
      show Ends p e below QQ (T25.setTop (mkF m 172 #[.val (.int p0), .val (.int p1), .val (.int p2), .val (.int p3), .val (.int p2.toInt8.toInt32), .val (.int p3.toInt8.toInt32), .val (.int (p1 &&& (3 : Int32))), .val (.ref b20), .val (.int (p0 &&& (3 : Int32))), .val .null, .val (.ref b_22)] [(.int (p1 &&& (3 : Int32))), (.ref b20)]))
      refine Ends.step (fun _ k => XS.iload X25.here hx rfl (hb hby at_172) rfl k) ?_
      show Ends p e below QQ (T25.setTop (mkF m 174 #[.val (.int p0), .val (.int p1), .val (.int p2), .val (.int p3), .val (.int p2.toInt8.toInt32), .val (.int p3.toInt8.toInt32), .val (.int (p1 &&& (3 : Int32))), .val (.ref b20), .val (.int (p0 &&& (3 : Int32))), .val .null, .val (.ref b_22)] [(.int p2.toInt8.toInt32), (.int (p1 &&& (3 : Int32))), (.ref b20)]))
      refine Ends.step (fun _ k => XS.iload X25.here hx rfl (hb hby at_174) rfl k) ?_
      show Ends p e below QQ (T25.setTop (mkF m 176 #[.val (.int p0), .val (.int p1), .val (.int p2), .val (.int p3), .val (.int p2.toInt8.toInt32), .val (.int p3.toInt8.toInt32), .val (.int (p1 &&& (3 : Int32))), .val (.ref b20), .val (.int (p0 &&& (3 : Int32))), .val .null, .val (.ref b_22)] [(.int p3.toInt8.toInt32), (.int p2.toInt8.toInt32), (.int (p1 &&& (3 : Int32))), (.ref b20)]))
      obtain ⟨_, _, ⟨T26, L26, k26, n26⟩, -, X26, ⟨Lc26, hQ26, l26, y26, z26⟩, st26⟩ := Jvm.LawKit.callS X25 hx (y := (⟨"com/example/wunce/wunce/StoredCallFinishedPinLaw", "answerIntact", "([BIBB)Z"⟩ : MethodName)) hown (mvT hZ (hw _ (List.mem_of_getElem? (i := 32) rfl))) (mvT hZ (hw _ (List.mem_of_getElem? (i := 33) rfl))) (mvT hZ (hw _ (List.mem_of_getElem? (i := 34) rfl))) (mvT hZ (hw _ (List.mem_of_getElem? (i := 35) rfl))) (by decide) (backOf (W := 0) (rm7a l Z a0 hw [] b20 (p1 &&& (3 : Int32)) (p2.toInt8.toInt32) (p3.toInt8.toInt32) k20 T22.heap n0 (Nat.le_trans Z0 K22.1) A_b20 (by first | assumption | rfl | decide)) hZ (hw _ (List.mem_of_getElem? (i := 35) rfl)) (hw _ (List.mem_of_getElem? (i := 34) rfl)) (by decide) (by decide)) (g := (mkF m 176 #[.val (.int p0), .val (.int p1), .val (.int p2), .val (.int p3), .val (.int p2.toInt8.toInt32), .val (.int p3.toInt8.toInt32), .val (.int (p1 &&& (3 : Int32))), .val (.ref b20), .val (.int (p0 &&& (3 : Int32))), .val .null, .val (.ref b_22)] [(.int p3.toInt8.toInt32), (.int p2.toInt8.toInt32), (.int (p1 &&& (3 : Int32))), (.ref b20)])) rfl (by rw [hml]; rfl) (argsL := [(.ref b20), (.int (p1 &&& (3 : Int32))), (.int p2.toInt8.toInt32), (.int p3.toInt8.toInt32)]) (rest := []) (lenOf pd_4 rfl) rfl (by show 2 * 0 + _ ≤ _; exact Nat.le_of_eq rfl) (hb hby at_176) (fun _ _ => ⟨rfl, hh25, (by decide : 2 + 0 ≤ _), (by decide : 2 + 0 ≤ _)⟩)
      dsimp only [Pt.U, Pt.locs, Pt.cells, Pt.slots] at X26 l26 y26 z26 st26 hQ26
      subst l26 y26 z26
      obtain ⟨rfl, Nq26, hh26⟩ := hQ26
      have N26 := Fr.app N25 Nq26
      refine Ends.step st26 ?_
      show Ends p e below QQ (T26.setTop (mkF m 179 #[.val (.int p0), .val (.int p1), .val (.int p2), .val (.int p3), .val (.int p2.toInt8.toInt32), .val (.int p3.toInt8.toInt32), .val (.int (p1 &&& (3 : Int32))), .val (.ref b20), .val (.int (p0 &&& (3 : Int32))), .val .null, .val (.ref b_22)] [(.int (1 : Int32))]))
      refine Ends.step (fun _ k => XS.ifNo X26.here hx rfl (hb hby at_179) rfl (XT.i0_eq_f (by decide)) k) ?_
      show Ends p e below QQ (T26.setTop (mkF m 182 #[.val (.int p0), .val (.int p1), .val (.int p2), .val (.int p3), .val (.int p2.toInt8.toInt32), .val (.int p3.toInt8.toInt32), .val (.int (p1 &&& (3 : Int32))), .val (.ref b20), .val (.int (p0 &&& (3 : Int32))), .val .null, .val (.ref b_22)] []))
      refine Ends.step (fun _ k => XS.aload X26.here hx rfl (hb hby at_182) rfl rfl k) ?_
      show Ends p e below QQ (T26.setTop (mkF m 184 #[.val (.int p0), .val (.int p1), .val (.int p2), .val (.int p3), .val (.int p2.toInt8.toInt32), .val (.int p3.toInt8.toInt32), .val (.int (p1 &&& (3 : Int32))), .val (.ref b20), .val (.int (p0 &&& (3 : Int32))), .val .null, .val (.ref b_22)] [.null]))
      refine Ends.step (fun _ k => XS.iload X26.here hx rfl (hb hby at_184) rfl k) ?_
      show Ends p e below QQ (T26.setTop (mkF m 186 #[.val (.int p0), .val (.int p1), .val (.int p2), .val (.int p3), .val (.int p2.toInt8.toInt32), .val (.int p3.toInt8.toInt32), .val (.int (p1 &&& (3 : Int32))), .val (.ref b20), .val (.int (p0 &&& (3 : Int32))), .val .null, .val (.ref b_22)] [(.int (p0 &&& (3 : Int32))), .null]))
      refine Ends.step (fun _ k => XS.iload X26.here hx rfl (hb hby at_186) rfl k) ?_
      show Ends p e below QQ (T26.setTop (mkF m 188 #[.val (.int p0), .val (.int p1), .val (.int p2), .val (.int p3), .val (.int p2.toInt8.toInt32), .val (.int p3.toInt8.toInt32), .val (.int (p1 &&& (3 : Int32))), .val (.ref b20), .val (.int (p0 &&& (3 : Int32))), .val .null, .val (.ref b_22)] [(.int p2.toInt8.toInt32), (.int (p0 &&& (3 : Int32))), .null]))
      refine Ends.step (fun _ k => XS.iload X26.here hx rfl (hb hby at_188) rfl k) ?_
      show Ends p e below QQ (T26.setTop (mkF m 190 #[.val (.int p0), .val (.int p1), .val (.int p2), .val (.int p3), .val (.int p2.toInt8.toInt32), .val (.int p3.toInt8.toInt32), .val (.int (p1 &&& (3 : Int32))), .val (.ref b20), .val (.int (p0 &&& (3 : Int32))), .val .null, .val (.ref b_22)] [(.int p3.toInt8.toInt32), (.int p2.toInt8.toInt32), (.int (p0 &&& (3 : Int32))), .null]))
      obtain ⟨_, _, ⟨T27, L27, k27, n27⟩, -, X27, ⟨Lc27, hQ27, l27, y27, z27⟩, st27⟩ := Jvm.LawKit.callS X26 hx (y := (⟨"com/example/wunce/wunce/StoredCallFinishedPinLaw", "fingerprintIntact", "([BIBB)Z"⟩ : MethodName)) hown (mvT hZ (hw _ (List.mem_of_getElem? (i := 36) rfl))) (mvT hZ (hw _ (List.mem_of_getElem? (i := 37) rfl))) (mvT hZ (hw _ (List.mem_of_getElem? (i := 34) rfl))) (mvT hZ (hw _ (List.mem_of_getElem? (i := 38) rfl))) (by decide) (backOf (W := 0) (rm8a l Z a0 hw [] (.null : Value) (p0 &&& (3 : Int32)) (p2.toInt8.toInt32) (p3.toInt8.toInt32) T22.heap n0 (Nat.le_trans Z0 K22.1) rfl (by first | assumption | rfl | decide)) hZ (hw _ (List.mem_of_getElem? (i := 38) rfl)) (hw _ (List.mem_of_getElem? (i := 34) rfl)) (by decide) (by decide)) (g := (mkF m 190 #[.val (.int p0), .val (.int p1), .val (.int p2), .val (.int p3), .val (.int p2.toInt8.toInt32), .val (.int p3.toInt8.toInt32), .val (.int (p1 &&& (3 : Int32))), .val (.ref b20), .val (.int (p0 &&& (3 : Int32))), .val .null, .val (.ref b_22)] [(.int p3.toInt8.toInt32), (.int p2.toInt8.toInt32), (.int (p0 &&& (3 : Int32))), .null])) rfl (by rw [hml]; rfl) (argsL := [.null, (.int (p0 &&& (3 : Int32))), (.int p2.toInt8.toInt32), (.int p3.toInt8.toInt32)]) (rest := []) (lenOf pd_4 rfl) rfl (by show 2 * 0 + _ ≤ _; exact Nat.le_of_eq rfl) (hb hby at_190) (fun _ _ => ⟨rfl, hh26, (by decide : 2 + 0 ≤ _), (by decide : 2 + 0 ≤ _)⟩)
      dsimp only [Pt.U, Pt.locs, Pt.cells, Pt.slots] at X27 l27 y27 z27 st27 hQ27
      subst l27 y27 z27
      obtain ⟨rfl, Nq27, hh27⟩ := hQ27
      have N27 := Fr.app N26 Nq27
      refine Ends.step st27 ?_
      show Ends p e below QQ (T27.setTop (mkF m 193 #[.val (.int p0), .val (.int p1), .val (.int p2), .val (.int p3), .val (.int p2.toInt8.toInt32), .val (.int p3.toInt8.toInt32), .val (.int (p1 &&& (3 : Int32))), .val (.ref b20), .val (.int (p0 &&& (3 : Int32))), .val .null, .val (.ref b_22)] [(.int (1 : Int32))]))
      refine Ends.step (fun _ k => XS.ifNo X27.here hx rfl (hb hby at_193) rfl (XT.i0_eq_f (by decide)) k) ?_
      show Ends p e below QQ (T27.setTop (mkF m 196 #[.val (.int p0), .val (.int p1), .val (.int p2), .val (.int p3), .val (.int p2.toInt8.toInt32), .val (.int p3.toInt8.toInt32), .val (.int (p1 &&& (3 : Int32))), .val (.ref b20), .val (.int (p0 &&& (3 : Int32))), .val .null, .val (.ref b_22)] []))
      refine Ends.step (fun _ k => XT.iconstV X27.here hx rfl (1 : Int32) (hb hby at_196) rfl k) ?_
      show Ends p e below QQ (T27.setTop (mkF m 197 #[.val (.int p0), .val (.int p1), .val (.int p2), .val (.int p3), .val (.int p2.toInt8.toInt32), .val (.int p3.toInt8.toInt32), .val (.int (p1 &&& (3 : Int32))), .val (.ref b20), .val (.int (p0 &&& (3 : Int32))), .val .null, .val (.ref b_22)] [(.int (1 : Int32))]))
      refine Ends.step (fun _ k => XS.goto X27.here hx rfl (pc0 := 197) (pc' := 201) rfl (hb hby at_197) (by decide) (by decide) k) ?_
      show Ends p e below QQ (T27.setTop (mkF m 201 #[.val (.int p0), .val (.int p1), .val (.int p2), .val (.int p3), .val (.int p2.toInt8.toInt32), .val (.int p3.toInt8.toInt32), .val (.int (p1 &&& (3 : Int32))), .val (.ref b20), .val (.int (p0 &&& (3 : Int32))), .val .null, .val (.ref b_22)] [(.int (1 : Int32))]))
      exact Ends.fin (some (.int (1 : Int32))) X27 hQQ (fun h => by rw [Bd.returns] at h; cases h) Bd.notSynchronized (fun _ hr => retOut X27 hx (t := .boolean) Bd.returns rfl (Or.inl ⟨rfl, (by simp), _, rfl⟩) (hb hby at_201) hr) hh27 (by decide) (by decide) ⟨(by simp only [f0, if_pos hc15_19, if_pos hc67_21]), N27, K22⟩
    · refine Ends.step (fun _ k => XS.ifYes X20.here hx rfl (pc0 := 67) (pc' := 76) rfl (hb hby at_67) rfl (XT.i0_ne_t hc67_21) (by decide) (by decide) k) ?_
      show Ends p e below QQ (T20.setTop (mkF m 76 #[.val (.int p0), .val (.int p1), .val (.int p2), .val (.int p3), .val (.int p2.toInt8.toInt32), .val (.int p3.toInt8.toInt32), .val (.int (p1 &&& (3 : Int32))), .val (.ref b20), .val (.int (p0 &&& (3 : Int32))), .unset, .unset] []))
      refine Ends.step (fun _ k => XS.iload X20.here hx rfl (hb hby at_76) rfl k) ?_
      show Ends p e below QQ (T20.setTop (mkF m 78 #[.val (.int p0), .val (.int p1), .val (.int p2), .val (.int p3), .val (.int p2.toInt8.toInt32), .val (.int p3.toInt8.toInt32), .val (.int (p1 &&& (3 : Int32))), .val (.ref b20), .val (.int (p0 &&& (3 : Int32))), .unset, .unset] [(.int (p0 &&& (3 : Int32)))]))
      refine Ends.step (fun _ k => XT.iconstV X20.here hx rfl (1 : Int32) (hb hby at_78) rfl k) ?_
      show Ends p e below QQ (T20.setTop (mkF m 79 #[.val (.int p0), .val (.int p1), .val (.int p2), .val (.int p3), .val (.int p2.toInt8.toInt32), .val (.int p3.toInt8.toInt32), .val (.int (p1 &&& (3 : Int32))), .val (.ref b20), .val (.int (p0 &&& (3 : Int32))), .unset, .unset] [(.int (1 : Int32)), (.int (p0 &&& (3 : Int32)))]))
      by_cases hc79_28 : (p0 &&& (3 : Int32)) = (1 : Int32)
      · refine Ends.step (fun _ k => XS.icmpNo X20.here hx rfl (hb hby at_79) rfl (XT.ii_ne_f hc79_28) k) ?_
        show Ends p e below QQ (T20.setTop (mkF m 82 #[.val (.int p0), .val (.int p1), .val (.int p2), .val (.int p3), .val (.int p2.toInt8.toInt32), .val (.int p3.toInt8.toInt32), .val (.int (p1 &&& (3 : Int32))), .val (.ref b20), .val (.int (p0 &&& (3 : Int32))), .unset, .unset] []))
        refine Ends.step (fun _ k => XS.aload X20.here hx rfl (hb hby at_82) rfl rfl k) ?_
        show Ends p e below QQ (T20.setTop (mkF m 84 #[.val (.int p0), .val (.int p1), .val (.int p2), .val (.int p3), .val (.int p2.toInt8.toInt32), .val (.int p3.toInt8.toInt32), .val (.int (p1 &&& (3 : Int32))), .val (.ref b20), .val (.int (p0 &&& (3 : Int32))), .unset, .unset] [(.ref b20)]))
        refine Ends.step (fun _ k => XS.astore X20.here hx rfl (hb hby at_84) rfl rfl (l' := #[.val (.int p0), .val (.int p1), .val (.int p2), .val (.int p3), .val (.int p2.toInt8.toInt32), .val (.int p3.toInt8.toInt32), .val (.int (p1 &&& (3 : Int32))), .val (.ref b20), .val (.int (p0 &&& (3 : Int32))), .val (.ref b20), .unset]) rfl k) ?_
        show Ends p e below QQ (T20.setTop (mkF m 86 #[.val (.int p0), .val (.int p1), .val (.int p2), .val (.int p3), .val (.int p2.toInt8.toInt32), .val (.int p3.toInt8.toInt32), .val (.int (p1 &&& (3 : Int32))), .val (.ref b20), .val (.int (p0 &&& (3 : Int32))), .val (.ref b20), .unset] []))
        refine Ends.step (fun _ k => XS.goto X20.here hx rfl (pc0 := 86) (pc' := 118) rfl (hb hby at_86) (by decide) (by decide) k) ?_
        show Ends p e below QQ (T20.setTop (mkF m 118 #[.val (.int p0), .val (.int p1), .val (.int p2), .val (.int p3), .val (.int p2.toInt8.toInt32), .val (.int p3.toInt8.toInt32), .val (.int (p1 &&& (3 : Int32))), .val (.ref b20), .val (.int (p0 &&& (3 : Int32))), .val (.ref b20), .unset] []))
        refine Ends.step (fun _ k => XS.aload X20.here hx rfl (hb hby at_118) rfl rfl k) ?_
        show Ends p e below QQ (T20.setTop (mkF m 120 #[.val (.int p0), .val (.int p1), .val (.int p2), .val (.int p3), .val (.int p2.toInt8.toInt32), .val (.int p3.toInt8.toInt32), .val (.int (p1 &&& (3 : Int32))), .val (.ref b20), .val (.int (p0 &&& (3 : Int32))), .val (.ref b20), .unset] [(.ref b20)]))
        refine Ends.step (fun _ k => XS.aload X20.here hx rfl (hb hby at_120) rfl rfl k) ?_
        show Ends p e below QQ (T20.setTop (mkF m 122 #[.val (.int p0), .val (.int p1), .val (.int p2), .val (.int p3), .val (.int p2.toInt8.toInt32), .val (.int p3.toInt8.toInt32), .val (.int (p1 &&& (3 : Int32))), .val (.ref b20), .val (.int (p0 &&& (3 : Int32))), .val (.ref b20), .unset] [(.ref b20), (.ref b20)]))
        obtain ⟨_, _, ⟨T29, L29, k29, n29⟩, -, X29, ⟨Lc29, hQ29, l29, y29, z29⟩, st29⟩ := Jvm.LawKit.callS X20 hx (y := (⟨"com/example/wunce/wunce/StoredCall", "finished", "([B[B)Lcom/example/wunce/wunce/StoredCall;"⟩ : MethodName)) hown (mvT hZ (hw _ (List.mem_of_getElem? (i := 1) rfl))) (mvT hZ (hw _ (List.mem_of_getElem? (i := 2) rfl))) (mvT hZ (hw _ (List.mem_of_getElem? (i := 3) rfl))) (mvT hZ (hw _ (List.mem_of_getElem? (i := 4) rfl))) (by decide) (backOf (W := 0) (rm1 l Z a0 hw [] ((.ref b20) : Value) b20 h20 n0 (Nat.le_trans Z0 K20.1) rfl) hZ (hw _ (List.mem_of_getElem? (i := 4) rfl)) (hw _ (List.mem_of_getElem? (i := 3) rfl)) (by decide) (by decide)) (g := (mkF m 122 #[.val (.int p0), .val (.int p1), .val (.int p2), .val (.int p3), .val (.int p2.toInt8.toInt32), .val (.int p3.toInt8.toInt32), .val (.int (p1 &&& (3 : Int32))), .val (.ref b20), .val (.int (p0 &&& (3 : Int32))), .val (.ref b20), .unset] [(.ref b20), (.ref b20)])) rfl (by rw [hml]; rfl) (argsL := [(.ref b20), (.ref b20)]) (rest := []) (lenOf pd_1 rfl) rfl (by show 2 * 0 + _ ≤ _; exact Nat.le_of_eq rfl) (hb hby at_122) (fun _ _ => ⟨rfl, e20, (by decide : 1 + 1 ≤ _), (by decide : 0 + 2 ≤ _)⟩)
        dsimp only [Pt.U, Pt.locs, Pt.cells, Pt.slots] at X29 l29 y29 z29 st29 hQ29
        subst l29 y29 z29
        obtain ⟨b_29, rfl, Nq29, Kq29, fq29_0, fq29_1, fq29_2, fq29_3, fq29_4⟩ := hQ29
        have N29 := Fr.app N0 Nq29
        have ne_b20_b_29 : b20 ≠ b_29 := Nat.ne_of_lt (Nat.lt_of_lt_of_le A_b20.lt fq29_0)
        have sz_b_29 := Nat.le_trans K20.1 fq29_0
        have A_b20 := A_b20.keep Kq29 nin0
        have g_b_29 := fq29_1
        have E_b_29 := fq29_2
        have F__fingerprint_b_29 := fq29_3
        have F__answer_b_29 := fq29_4
        have K29 := K20.trans Kq29 all0
        refine Ends.step st29 ?_
        show Ends p e below QQ (T29.setTop (mkF m 125 #[.val (.int p0), .val (.int p1), .val (.int p2), .val (.int p3), .val (.int p2.toInt8.toInt32), .val (.int p3.toInt8.toInt32), .val (.int (p1 &&& (3 : Int32))), .val (.ref b20), .val (.int (p0 &&& (3 : Int32))), .val (.ref b20), .unset] [(.ref b_29)]))
        refine Ends.step (fun _ k => XS.astore X29.here hx rfl (hb hby at_125) rfl rfl (l' := #[.val (.int p0), .val (.int p1), .val (.int p2), .val (.int p3), .val (.int p2.toInt8.toInt32), .val (.int p3.toInt8.toInt32), .val (.int (p1 &&& (3 : Int32))), .val (.ref b20), .val (.int (p0 &&& (3 : Int32))), .val (.ref b20), .val (.ref b_29)]) rfl k) ?_
        show Ends p e below QQ (T29.setTop (mkF m 127 #[.val (.int p0), .val (.int p1), .val (.int p2), .val (.int p3), .val (.int p2.toInt8.toInt32), .val (.int p3.toInt8.toInt32), .val (.int (p1 &&& (3 : Int32))), .val (.ref b20), .val (.int (p0 &&& (3 : Int32))), .val (.ref b20), .val (.ref b_29)] []))
        refine Ends.step (fun _ k => XS.aload X29.here hx rfl (hb hby at_127) rfl rfl k) ?_
        show Ends p e below QQ (T29.setTop (mkF m 129 #[.val (.int p0), .val (.int p1), .val (.int p2), .val (.int p3), .val (.int p2.toInt8.toInt32), .val (.int p3.toInt8.toInt32), .val (.int (p1 &&& (3 : Int32))), .val (.ref b20), .val (.int (p0 &&& (3 : Int32))), .val (.ref b20), .val (.ref b_29)] [(.ref b_29)]))
        refine Ends.step (fun _ k => XT.ifnonnullYes X29.here hx rfl (pc0 := 129) (pc' := 134) rfl (hb hby at_129) rfl (by decide) (by decide) k) ?_
        show Ends p e below QQ (T29.setTop (mkF m 134 #[.val (.int p0), .val (.int p1), .val (.int p2), .val (.int p3), .val (.int p2.toInt8.toInt32), .val (.int p3.toInt8.toInt32), .val (.int (p1 &&& (3 : Int32))), .val (.ref b20), .val (.int (p0 &&& (3 : Int32))), .val (.ref b20), .val (.ref b_29)] []))
        refine Ends.step (fun _ k => XS.aload X29.here hx rfl (hb hby at_134) rfl rfl k) ?_
        show Ends p e below QQ (T29.setTop (mkF m 136 #[.val (.int p0), .val (.int p1), .val (.int p2), .val (.int p3), .val (.int p2.toInt8.toInt32), .val (.int p3.toInt8.toInt32), .val (.int (p1 &&& (3 : Int32))), .val (.ref b20), .val (.int (p0 &&& (3 : Int32))), .val (.ref b20), .val (.ref b_29)] [(.ref b_29)]))
        obtain ⟨cq30, kq30, q30a, q30b, q30c⟩ := isOf hZ rfl E_b_29
        obtain ⟨_, _, ⟨T30, L30, k30, n30⟩, -, X30, ⟨Lc30, hQ30, l30, y30, z30⟩, st30⟩ := X29.virtualBack hx (y := (⟨"com/example/wunce/wunce/StoredCall", "fingerprint", "()[B"⟩ : MethodName)) (z := (⟨"com/example/wunce/wunce/StoredCall", "fingerprint", "()[B"⟩ : MethodName)) hown (mvT hZ (hw _ (List.mem_of_getElem? (i := 17) rfl))) (mvT hZ (hw _ (List.mem_of_getElem? (i := 18) rfl))) (notFace_of_selects (args := #[]) (mvT hZ (hw _ (List.mem_of_getElem? (i := 20) rfl)))) (mvT hZ (hw _ (List.mem_of_getElem? (i := 20) rfl))) (mvT hZ (hw _ (List.mem_of_getElem? (i := 19) rfl))) (by decide) (backOf (W := 0) (rm4 l Z a0 hw [] b_29 ((.ref b20) : Value) T29.heap n0 (Nat.le_trans Z0 K29.1) F__fingerprint_b_29 rfl) hZ (hw _ (List.mem_of_getElem? (i := 21) rfl)) (hw _ (List.mem_of_getElem? (i := 3) rfl)) (by decide) (by decide)) q30a q30c (g := (mkF m 136 #[.val (.int p0), .val (.int p1), .val (.int p2), .val (.int p3), .val (.int p2.toInt8.toInt32), .val (.int p3.toInt8.toInt32), .val (.int (p1 &&& (3 : Int32))), .val (.ref b20), .val (.int (p0 &&& (3 : Int32))), .val (.ref b20), .val (.ref b_29)] [(.ref b_29)])) rfl (by rw [hml]; rfl) (Steps.refl _) (argsL := []) (rest := []) (lenOf pd_2 rfl) rfl (by show 2 * 0 + _ ≤ _; exact Nat.le_of_eq rfl) (hb hby at_136) (fun _ _ => ⟨rfl, rfl, (by decide : 2 + 0 ≤ _), (by decide : 2 + 0 ≤ _)⟩)
        dsimp only [Pt.U, Pt.locs, Pt.cells, Pt.slots] at X30 l30 y30 z30 st30 hQ30
        subst l30 y30 z30
        obtain ⟨rfl, Nq30, hh30⟩ := hQ30
        have N30 := Fr.app N29 Nq30
        refine Ends.step (fun _ k => st30.trans k) ?_
        show Ends p e below QQ (T30.setTop (mkF m 139 #[.val (.int p0), .val (.int p1), .val (.int p2), .val (.int p3), .val (.int p2.toInt8.toInt32), .val (.int p3.toInt8.toInt32), .val (.int (p1 &&& (3 : Int32))), .val (.ref b20), .val (.int (p0 &&& (3 : Int32))), .val (.ref b20), .val (.ref b_29)] [(.ref b20)]))
        refine Ends.step (fun _ k => XS.aload X30.here hx rfl (hb hby at_139) rfl rfl k) ?_
        show Ends p e below QQ (T30.setTop (mkF m 141 #[.val (.int p0), .val (.int p1), .val (.int p2), .val (.int p3), .val (.int p2.toInt8.toInt32), .val (.int p3.toInt8.toInt32), .val (.int (p1 &&& (3 : Int32))), .val (.ref b20), .val (.int (p0 &&& (3 : Int32))), .val (.ref b20), .val (.ref b_29)] [(.ref b20), (.ref b20)]))
        refine Ends.step (fun _ k => Jvm.RoadKit.acmp (g := (mkF m 141 #[.val (.int p0), .val (.int p1), .val (.int p2), .val (.int p3), .val (.int p2.toInt8.toInt32), .val (.int p3.toInt8.toInt32), .val (.int (p1 &&& (3 : Int32))), .val (.ref b20), .val (.int (p0 &&& (3 : Int32))), .val (.ref b20), .val (.ref b_29)] [(.ref b20), (.ref b20)])) X30 hx rfl rfl rfl (pc0 := 141) (pc' := 146) (same := true) rfl (hb hby at_141) rfl (decide_eq_true rfl) (by decide) (by decide) k) ?_
        show Ends p e below QQ (T30.setTop (mkF m 146 #[.val (.int p0), .val (.int p1), .val (.int p2), .val (.int p3), .val (.int p2.toInt8.toInt32), .val (.int p3.toInt8.toInt32), .val (.int (p1 &&& (3 : Int32))), .val (.ref b20), .val (.int (p0 &&& (3 : Int32))), .val (.ref b20), .val (.ref b_29)] []))
        refine Ends.step (fun _ k => XS.aload X30.here hx rfl (hb hby at_146) rfl rfl k) ?_
        show Ends p e below QQ (T30.setTop (mkF m 148 #[.val (.int p0), .val (.int p1), .val (.int p2), .val (.int p3), .val (.int p2.toInt8.toInt32), .val (.int p3.toInt8.toInt32), .val (.int (p1 &&& (3 : Int32))), .val (.ref b20), .val (.int (p0 &&& (3 : Int32))), .val (.ref b20), .val (.ref b_29)] [(.ref b_29)]))
        obtain ⟨cq31, kq31, q31a, q31b, q31c⟩ := isOf hZ hh30 E_b_29
        obtain ⟨_, _, ⟨T31, L31, k31, n31⟩, -, X31, ⟨Lc31, hQ31, l31, y31, z31⟩, st31⟩ := X30.virtualBack hx (y := (⟨"com/example/wunce/wunce/StoredCall", "answer", "()[B"⟩ : MethodName)) (z := (⟨"com/example/wunce/wunce/StoredCall", "answer", "()[B"⟩ : MethodName)) hown (mvT hZ (hw _ (List.mem_of_getElem? (i := 22) rfl))) (mvT hZ (hw _ (List.mem_of_getElem? (i := 23) rfl))) (notFace_of_selects (args := #[]) (mvT hZ (hw _ (List.mem_of_getElem? (i := 25) rfl)))) (mvT hZ (hw _ (List.mem_of_getElem? (i := 25) rfl))) (mvT hZ (hw _ (List.mem_of_getElem? (i := 24) rfl))) (by decide) (backOf (W := 0) (rm5 l Z a0 hw [] b_29 ((.ref b20) : Value) T29.heap n0 (Nat.le_trans Z0 K29.1) F__answer_b_29 rfl) hZ (hw _ (List.mem_of_getElem? (i := 26) rfl)) (hw _ (List.mem_of_getElem? (i := 3) rfl)) (by decide) (by decide)) q31a q31c (g := (mkF m 148 #[.val (.int p0), .val (.int p1), .val (.int p2), .val (.int p3), .val (.int p2.toInt8.toInt32), .val (.int p3.toInt8.toInt32), .val (.int (p1 &&& (3 : Int32))), .val (.ref b20), .val (.int (p0 &&& (3 : Int32))), .val (.ref b20), .val (.ref b_29)] [(.ref b_29)])) rfl (by rw [hml]; rfl) (Steps.refl _) (argsL := []) (rest := []) (lenOf pd_2 rfl) rfl (by show 2 * 0 + _ ≤ _; exact Nat.le_of_eq rfl) (hb hby at_148) (fun _ _ => ⟨rfl, hh30, (by decide : 2 + 0 ≤ _), (by decide : 2 + 0 ≤ _)⟩)
        dsimp only [Pt.U, Pt.locs, Pt.cells, Pt.slots] at X31 l31 y31 z31 st31 hQ31
        subst l31 y31 z31
        obtain ⟨rfl, Nq31, hh31⟩ := hQ31
        have N31 := Fr.app N30 Nq31
        refine Ends.step (fun _ k => st31.trans k) ?_
        show Ends p e below QQ (T31.setTop (mkF m 151 #[.val (.int p0), .val (.int p1), .val (.int p2), .val (.int p3), .val (.int p2.toInt8.toInt32), .val (.int p3.toInt8.toInt32), .val (.int (p1 &&& (3 : Int32))), .val (.ref b20), .val (.int (p0 &&& (3 : Int32))), .val (.ref b20), .val (.ref b_29)] [(.ref b20)]))
        refine Ends.step (fun _ k => XS.aload X31.here hx rfl (hb hby at_151) rfl rfl k) ?_
        show Ends p e below QQ (T31.setTop (mkF m 153 #[.val (.int p0), .val (.int p1), .val (.int p2), .val (.int p3), .val (.int p2.toInt8.toInt32), .val (.int p3.toInt8.toInt32), .val (.int (p1 &&& (3 : Int32))), .val (.ref b20), .val (.int (p0 &&& (3 : Int32))), .val (.ref b20), .val (.ref b_29)] [(.ref b20), (.ref b20)]))
        refine Ends.step (fun _ k => Jvm.RoadKit.acmp (g := (mkF m 153 #[.val (.int p0), .val (.int p1), .val (.int p2), .val (.int p3), .val (.int p2.toInt8.toInt32), .val (.int p3.toInt8.toInt32), .val (.int (p1 &&& (3 : Int32))), .val (.ref b20), .val (.int (p0 &&& (3 : Int32))), .val (.ref b20), .val (.ref b_29)] [(.ref b20), (.ref b20)])) X31 hx rfl rfl rfl (pc0 := 153) (pc' := 158) (same := true) rfl (hb hby at_153) rfl (decide_eq_true rfl) (by decide) (by decide) k) ?_
        show Ends p e below QQ (T31.setTop (mkF m 158 #[.val (.int p0), .val (.int p1), .val (.int p2), .val (.int p3), .val (.int p2.toInt8.toInt32), .val (.int p3.toInt8.toInt32), .val (.int (p1 &&& (3 : Int32))), .val (.ref b20), .val (.int (p0 &&& (3 : Int32))), .val (.ref b20), .val (.ref b_29)] []))
        refine Ends.step (fun _ k => XS.aload X31.here hx rfl (hb hby at_158) rfl rfl k) ?_
        show Ends p e below QQ (T31.setTop (mkF m 160 #[.val (.int p0), .val (.int p1), .val (.int p2), .val (.int p3), .val (.int p2.toInt8.toInt32), .val (.int p3.toInt8.toInt32), .val (.int (p1 &&& (3 : Int32))), .val (.ref b20), .val (.int (p0 &&& (3 : Int32))), .val (.ref b20), .val (.ref b_29)] [(.ref b_29)]))
        obtain ⟨cq32, kq32, q32a, q32b, q32c⟩ := isOf hZ hh31 E_b_29
        obtain ⟨_, _, ⟨T32, L32, k32, n32⟩, -, X32, ⟨Lc32, hQ32, l32, y32, z32⟩, st32⟩ := X31.virtualBack hx (y := (⟨"com/example/wunce/wunce/StoredCall", "isFinished", "()Z"⟩ : MethodName)) (z := (⟨"com/example/wunce/wunce/StoredCall", "isFinished", "()Z"⟩ : MethodName)) hown (mvT hZ (hw _ (List.mem_of_getElem? (i := 27) rfl))) (mvT hZ (hw _ (List.mem_of_getElem? (i := 28) rfl))) (notFace_of_selects (args := #[]) (mvT hZ (hw _ (List.mem_of_getElem? (i := 30) rfl)))) (mvT hZ (hw _ (List.mem_of_getElem? (i := 30) rfl))) (mvT hZ (hw _ (List.mem_of_getElem? (i := 29) rfl))) (by decide) (backOf (W := 0) (rm6 l Z a0 hw [] b_29 b20 T29.heap n0 (Nat.le_trans Z0 K29.1) F__answer_b_29) hZ (hw _ (List.mem_of_getElem? (i := 31) rfl)) (hw _ (List.mem_of_getElem? (i := 3) rfl)) (by decide) (by decide)) q32a q32c (g := (mkF m 160 #[.val (.int p0), .val (.int p1), .val (.int p2), .val (.int p3), .val (.int p2.toInt8.toInt32), .val (.int p3.toInt8.toInt32), .val (.int (p1 &&& (3 : Int32))), .val (.ref b20), .val (.int (p0 &&& (3 : Int32))), .val (.ref b20), .val (.ref b_29)] [(.ref b_29)])) rfl (by rw [hml]; rfl) (Steps.refl _) (argsL := []) (rest := []) (lenOf pd_3 rfl) rfl (by show 2 * 0 + _ ≤ _; exact Nat.le_of_eq rfl) (hb hby at_160) (fun _ _ => ⟨rfl, hh31, (by decide : 2 + 0 ≤ _), (by decide : 2 + 0 ≤ _)⟩)
        dsimp only [Pt.U, Pt.locs, Pt.cells, Pt.slots] at X32 l32 y32 z32 st32 hQ32
        subst l32 y32 z32
        obtain ⟨rfl, Nq32, hh32⟩ := hQ32
        have N32 := Fr.app N31 Nq32
        refine Ends.step (fun _ k => st32.trans k) ?_
        show Ends p e below QQ (T32.setTop (mkF m 163 #[.val (.int p0), .val (.int p1), .val (.int p2), .val (.int p3), .val (.int p2.toInt8.toInt32), .val (.int p3.toInt8.toInt32), .val (.int (p1 &&& (3 : Int32))), .val (.ref b20), .val (.int (p0 &&& (3 : Int32))), .val (.ref b20), .val (.ref b_29)] [(.int (1 : Int32))]))
        refine Ends.step (fun _ k => XS.ifYes X32.here hx rfl (pc0 := 163) (pc' := 168) rfl (hb hby at_163) rfl (XT.i0_ne_t (by decide)) (by decide) (by decide) k) ?_
        show Ends p e below QQ (T32.setTop (mkF m 168 #[.val (.int p0), .val (.int p1), .val (.int p2), .val (.int p3), .val (.int p2.toInt8.toInt32), .val (.int p3.toInt8.toInt32), .val (.int (p1 &&& (3 : Int32))), .val (.ref b20), .val (.int (p0 &&& (3 : Int32))), .val (.ref b20), .val (.ref b_29)] []))
        refine Ends.step (fun _ k => XS.aload X32.here hx rfl (hb hby at_168) rfl rfl k) ?_
        show Ends p e below QQ (T32.setTop (mkF m 170 #[.val (.int p0), .val (.int p1), .val (.int p2), .val (.int p3), .val (.int p2.toInt8.toInt32), .val (.int p3.toInt8.toInt32), .val (.int (p1 &&& (3 : Int32))), .val (.ref b20), .val (.int (p0 &&& (3 : Int32))), .val (.ref b20), .val (.ref b_29)] [(.ref b20)]))
        refine Ends.step (fun _ k => XS.iload X32.here hx rfl (hb hby at_170) rfl k) ?_
        show Ends p e below QQ (T32.setTop (mkF m 172 #[.val (.int p0), .val (.int p1), .val (.int p2), .val (.int p3), .val (.int p2.toInt8.toInt32), .val (.int p3.toInt8.toInt32), .val (.int (p1 &&& (3 : Int32))), .val (.ref b20), .val (.int (p0 &&& (3 : Int32))), .val (.ref b20), .val (.ref b_29)] [(.int (p1 &&& (3 : Int32))), (.ref b20)]))
        refine Ends.step (fun _ k => XS.iload X32.here hx rfl (hb hby at_172) rfl k) ?_
        show Ends p e below QQ (T32.setTop (mkF m 174 #[.val (.int p0), .val (.int p1), .val (.int p2), .val (.int p3), .val (.int p2.toInt8.toInt32), .val (.int p3.toInt8.toInt32), .val (.int (p1 &&& (3 : Int32))), .val (.ref b20), .val (.int (p0 &&& (3 : Int32))), .val (.ref b20), .val (.ref b_29)] [(.int p2.toInt8.toInt32), (.int (p1 &&& (3 : Int32))), (.ref b20)]))
        refine Ends.step (fun _ k => XS.iload X32.here hx rfl (hb hby at_174) rfl k) ?_
        show Ends p e below QQ (T32.setTop (mkF m 176 #[.val (.int p0), .val (.int p1), .val (.int p2), .val (.int p3), .val (.int p2.toInt8.toInt32), .val (.int p3.toInt8.toInt32), .val (.int (p1 &&& (3 : Int32))), .val (.ref b20), .val (.int (p0 &&& (3 : Int32))), .val (.ref b20), .val (.ref b_29)] [(.int p3.toInt8.toInt32), (.int p2.toInt8.toInt32), (.int (p1 &&& (3 : Int32))), (.ref b20)]))
        obtain ⟨_, _, ⟨T33, L33, k33, n33⟩, -, X33, ⟨Lc33, hQ33, l33, y33, z33⟩, st33⟩ := Jvm.LawKit.callS X32 hx (y := (⟨"com/example/wunce/wunce/StoredCallFinishedPinLaw", "answerIntact", "([BIBB)Z"⟩ : MethodName)) hown (mvT hZ (hw _ (List.mem_of_getElem? (i := 32) rfl))) (mvT hZ (hw _ (List.mem_of_getElem? (i := 33) rfl))) (mvT hZ (hw _ (List.mem_of_getElem? (i := 34) rfl))) (mvT hZ (hw _ (List.mem_of_getElem? (i := 35) rfl))) (by decide) (backOf (W := 0) (rm7a l Z a0 hw [] b20 (p1 &&& (3 : Int32)) (p2.toInt8.toInt32) (p3.toInt8.toInt32) k20 T29.heap n0 (Nat.le_trans Z0 K29.1) A_b20 (by first | assumption | rfl | decide)) hZ (hw _ (List.mem_of_getElem? (i := 35) rfl)) (hw _ (List.mem_of_getElem? (i := 34) rfl)) (by decide) (by decide)) (g := (mkF m 176 #[.val (.int p0), .val (.int p1), .val (.int p2), .val (.int p3), .val (.int p2.toInt8.toInt32), .val (.int p3.toInt8.toInt32), .val (.int (p1 &&& (3 : Int32))), .val (.ref b20), .val (.int (p0 &&& (3 : Int32))), .val (.ref b20), .val (.ref b_29)] [(.int p3.toInt8.toInt32), (.int p2.toInt8.toInt32), (.int (p1 &&& (3 : Int32))), (.ref b20)])) rfl (by rw [hml]; rfl) (argsL := [(.ref b20), (.int (p1 &&& (3 : Int32))), (.int p2.toInt8.toInt32), (.int p3.toInt8.toInt32)]) (rest := []) (lenOf pd_4 rfl) rfl (by show 2 * 0 + _ ≤ _; exact Nat.le_of_eq rfl) (hb hby at_176) (fun _ _ => ⟨rfl, hh32, (by decide : 2 + 0 ≤ _), (by decide : 2 + 0 ≤ _)⟩)
        dsimp only [Pt.U, Pt.locs, Pt.cells, Pt.slots] at X33 l33 y33 z33 st33 hQ33
        subst l33 y33 z33
        obtain ⟨rfl, Nq33, hh33⟩ := hQ33
        have N33 := Fr.app N32 Nq33
        refine Ends.step st33 ?_
        show Ends p e below QQ (T33.setTop (mkF m 179 #[.val (.int p0), .val (.int p1), .val (.int p2), .val (.int p3), .val (.int p2.toInt8.toInt32), .val (.int p3.toInt8.toInt32), .val (.int (p1 &&& (3 : Int32))), .val (.ref b20), .val (.int (p0 &&& (3 : Int32))), .val (.ref b20), .val (.ref b_29)] [(.int (1 : Int32))]))
        refine Ends.step (fun _ k => XS.ifNo X33.here hx rfl (hb hby at_179) rfl (XT.i0_eq_f (by decide)) k) ?_
        show Ends p e below QQ (T33.setTop (mkF m 182 #[.val (.int p0), .val (.int p1), .val (.int p2), .val (.int p3), .val (.int p2.toInt8.toInt32), .val (.int p3.toInt8.toInt32), .val (.int (p1 &&& (3 : Int32))), .val (.ref b20), .val (.int (p0 &&& (3 : Int32))), .val (.ref b20), .val (.ref b_29)] []))
        refine Ends.step (fun _ k => XS.aload X33.here hx rfl (hb hby at_182) rfl rfl k) ?_
        show Ends p e below QQ (T33.setTop (mkF m 184 #[.val (.int p0), .val (.int p1), .val (.int p2), .val (.int p3), .val (.int p2.toInt8.toInt32), .val (.int p3.toInt8.toInt32), .val (.int (p1 &&& (3 : Int32))), .val (.ref b20), .val (.int (p0 &&& (3 : Int32))), .val (.ref b20), .val (.ref b_29)] [(.ref b20)]))
        refine Ends.step (fun _ k => XS.iload X33.here hx rfl (hb hby at_184) rfl k) ?_
        show Ends p e below QQ (T33.setTop (mkF m 186 #[.val (.int p0), .val (.int p1), .val (.int p2), .val (.int p3), .val (.int p2.toInt8.toInt32), .val (.int p3.toInt8.toInt32), .val (.int (p1 &&& (3 : Int32))), .val (.ref b20), .val (.int (p0 &&& (3 : Int32))), .val (.ref b20), .val (.ref b_29)] [(.int (p0 &&& (3 : Int32))), (.ref b20)]))
        refine Ends.step (fun _ k => XS.iload X33.here hx rfl (hb hby at_186) rfl k) ?_
        show Ends p e below QQ (T33.setTop (mkF m 188 #[.val (.int p0), .val (.int p1), .val (.int p2), .val (.int p3), .val (.int p2.toInt8.toInt32), .val (.int p3.toInt8.toInt32), .val (.int (p1 &&& (3 : Int32))), .val (.ref b20), .val (.int (p0 &&& (3 : Int32))), .val (.ref b20), .val (.ref b_29)] [(.int p2.toInt8.toInt32), (.int (p0 &&& (3 : Int32))), (.ref b20)]))
        refine Ends.step (fun _ k => XS.iload X33.here hx rfl (hb hby at_188) rfl k) ?_
        show Ends p e below QQ (T33.setTop (mkF m 190 #[.val (.int p0), .val (.int p1), .val (.int p2), .val (.int p3), .val (.int p2.toInt8.toInt32), .val (.int p3.toInt8.toInt32), .val (.int (p1 &&& (3 : Int32))), .val (.ref b20), .val (.int (p0 &&& (3 : Int32))), .val (.ref b20), .val (.ref b_29)] [(.int p3.toInt8.toInt32), (.int p2.toInt8.toInt32), (.int (p0 &&& (3 : Int32))), (.ref b20)]))
        obtain ⟨_, _, ⟨T34, L34, k34, n34⟩, -, X34, ⟨Lc34, hQ34, l34, y34, z34⟩, st34⟩ := Jvm.LawKit.callS X33 hx (y := (⟨"com/example/wunce/wunce/StoredCallFinishedPinLaw", "fingerprintIntact", "([BIBB)Z"⟩ : MethodName)) hown (mvT hZ (hw _ (List.mem_of_getElem? (i := 36) rfl))) (mvT hZ (hw _ (List.mem_of_getElem? (i := 37) rfl))) (mvT hZ (hw _ (List.mem_of_getElem? (i := 34) rfl))) (mvT hZ (hw _ (List.mem_of_getElem? (i := 38) rfl))) (by decide) (backOf (W := 0) (rm8b l Z a0 hw [] ((.ref b20) : Value) (p0 &&& (3 : Int32)) (p2.toInt8.toInt32) (p3.toInt8.toInt32) T29.heap n0 (Nat.le_trans Z0 K29.1) rfl (by first | assumption | rfl | decide) (by first | assumption | rfl | decide)) hZ (hw _ (List.mem_of_getElem? (i := 38) rfl)) (hw _ (List.mem_of_getElem? (i := 34) rfl)) (by decide) (by decide)) (g := (mkF m 190 #[.val (.int p0), .val (.int p1), .val (.int p2), .val (.int p3), .val (.int p2.toInt8.toInt32), .val (.int p3.toInt8.toInt32), .val (.int (p1 &&& (3 : Int32))), .val (.ref b20), .val (.int (p0 &&& (3 : Int32))), .val (.ref b20), .val (.ref b_29)] [(.int p3.toInt8.toInt32), (.int p2.toInt8.toInt32), (.int (p0 &&& (3 : Int32))), (.ref b20)])) rfl (by rw [hml]; rfl) (argsL := [(.ref b20), (.int (p0 &&& (3 : Int32))), (.int p2.toInt8.toInt32), (.int p3.toInt8.toInt32)]) (rest := []) (lenOf pd_4 rfl) rfl (by show 2 * 0 + _ ≤ _; exact Nat.le_of_eq rfl) (hb hby at_190) (fun _ _ => ⟨rfl, hh33, (by decide : 2 + 0 ≤ _), (by decide : 2 + 0 ≤ _)⟩)
        dsimp only [Pt.U, Pt.locs, Pt.cells, Pt.slots] at X34 l34 y34 z34 st34 hQ34
        subst l34 y34 z34
        obtain ⟨rfl, Nq34, hh34⟩ := hQ34
        have N34 := Fr.app N33 Nq34
        refine Ends.step st34 ?_
        show Ends p e below QQ (T34.setTop (mkF m 193 #[.val (.int p0), .val (.int p1), .val (.int p2), .val (.int p3), .val (.int p2.toInt8.toInt32), .val (.int p3.toInt8.toInt32), .val (.int (p1 &&& (3 : Int32))), .val (.ref b20), .val (.int (p0 &&& (3 : Int32))), .val (.ref b20), .val (.ref b_29)] [(.int (1 : Int32))]))
        refine Ends.step (fun _ k => XS.ifNo X34.here hx rfl (hb hby at_193) rfl (XT.i0_eq_f (by decide)) k) ?_
        show Ends p e below QQ (T34.setTop (mkF m 196 #[.val (.int p0), .val (.int p1), .val (.int p2), .val (.int p3), .val (.int p2.toInt8.toInt32), .val (.int p3.toInt8.toInt32), .val (.int (p1 &&& (3 : Int32))), .val (.ref b20), .val (.int (p0 &&& (3 : Int32))), .val (.ref b20), .val (.ref b_29)] []))
        refine Ends.step (fun _ k => XT.iconstV X34.here hx rfl (1 : Int32) (hb hby at_196) rfl k) ?_
        show Ends p e below QQ (T34.setTop (mkF m 197 #[.val (.int p0), .val (.int p1), .val (.int p2), .val (.int p3), .val (.int p2.toInt8.toInt32), .val (.int p3.toInt8.toInt32), .val (.int (p1 &&& (3 : Int32))), .val (.ref b20), .val (.int (p0 &&& (3 : Int32))), .val (.ref b20), .val (.ref b_29)] [(.int (1 : Int32))]))
        refine Ends.step (fun _ k => XS.goto X34.here hx rfl (pc0 := 197) (pc' := 201) rfl (hb hby at_197) (by decide) (by decide) k) ?_
        show Ends p e below QQ (T34.setTop (mkF m 201 #[.val (.int p0), .val (.int p1), .val (.int p2), .val (.int p3), .val (.int p2.toInt8.toInt32), .val (.int p3.toInt8.toInt32), .val (.int (p1 &&& (3 : Int32))), .val (.ref b20), .val (.int (p0 &&& (3 : Int32))), .val (.ref b20), .val (.ref b_29)] [(.int (1 : Int32))]))
        exact Ends.fin (some (.int (1 : Int32))) X34 hQQ (fun h => by rw [Bd.returns] at h; cases h) Bd.notSynchronized (fun _ hr => retOut X34 hx (t := .boolean) Bd.returns rfl (Or.inl ⟨rfl, (by simp), _, rfl⟩) (hb hby at_201) hr) hh34 (by decide) (by decide) ⟨(by simp only [f0, if_pos hc15_19, if_neg hc67_21, if_pos hc79_28]), N34, K29⟩
      · refine Ends.step (fun _ k => XS.icmpYes X20.here hx rfl (pc0 := 79) (pc' := 89) rfl (hb hby at_79) rfl (XT.ii_ne_t hc79_28) (by decide) (by decide) k) ?_
        show Ends p e below QQ (T20.setTop (mkF m 89 #[.val (.int p0), .val (.int p1), .val (.int p2), .val (.int p3), .val (.int p2.toInt8.toInt32), .val (.int p3.toInt8.toInt32), .val (.int (p1 &&& (3 : Int32))), .val (.ref b20), .val (.int (p0 &&& (3 : Int32))), .unset, .unset] []))
        refine Ends.step (fun _ k => XS.iload X20.here hx rfl (hb hby at_89) rfl k) ?_
        show Ends p e below QQ (T20.setTop (mkF m 91 #[.val (.int p0), .val (.int p1), .val (.int p2), .val (.int p3), .val (.int p2.toInt8.toInt32), .val (.int p3.toInt8.toInt32), .val (.int (p1 &&& (3 : Int32))), .val (.ref b20), .val (.int (p0 &&& (3 : Int32))), .unset, .unset] [(.int (p0 &&& (3 : Int32)))]))
        refine Ends.step (fun _ k => XT.iconstV X20.here hx rfl (2 : Int32) (hb hby at_91) rfl k) ?_
        show Ends p e below QQ (T20.setTop (mkF m 92 #[.val (.int p0), .val (.int p1), .val (.int p2), .val (.int p3), .val (.int p2.toInt8.toInt32), .val (.int p3.toInt8.toInt32), .val (.int (p1 &&& (3 : Int32))), .val (.ref b20), .val (.int (p0 &&& (3 : Int32))), .unset, .unset] [(.int (2 : Int32)), (.int (p0 &&& (3 : Int32)))]))
        by_cases hc92_35 : (p0 &&& (3 : Int32)) = (2 : Int32)
        · refine Ends.step (fun _ k => XS.icmpNo X20.here hx rfl (hb hby at_92) rfl (XT.ii_ne_f hc92_35) k) ?_
          show Ends p e below QQ (T20.setTop (mkF m 95 #[.val (.int p0), .val (.int p1), .val (.int p2), .val (.int p3), .val (.int p2.toInt8.toInt32), .val (.int p3.toInt8.toInt32), .val (.int (p1 &&& (3 : Int32))), .val (.ref b20), .val (.int (p0 &&& (3 : Int32))), .unset, .unset] []))
          refine Ends.step (fun _ k => XT.iconstV X20.here hx rfl (0 : Int32) (hb hby at_95) rfl k) ?_
          show Ends p e below QQ (T20.setTop (mkF m 96 #[.val (.int p0), .val (.int p1), .val (.int p2), .val (.int p3), .val (.int p2.toInt8.toInt32), .val (.int p3.toInt8.toInt32), .val (.int (p1 &&& (3 : Int32))), .val (.ref b20), .val (.int (p0 &&& (3 : Int32))), .unset, .unset] [(.int (0 : Int32))]))
          obtain ⟨T36, h36, k36, X36, e36, E36, A36, st36⟩ := newP X20 hx hZ (hw _ (List.mem_of_getElem? (i := 0) rfl)) e20 (g := (mkF m 96 #[.val (.int p0), .val (.int p1), .val (.int p2), .val (.int p3), .val (.int p2.toInt8.toInt32), .val (.int p3.toInt8.toInt32), .val (.int (p1 &&& (3 : Int32))), .val (.ref b20), .val (.int (p0 &&& (3 : Int32))), .unset, .unset] [(.int (0 : Int32))])) rfl (hb hby at_96) rfl (by decide) (cap := 0) (by decide) (by decide) (by decide) (by decide)
          obtain ⟨b36, g36⟩ : ∃ z, z = h20.size := ⟨_, rfl⟩
          rw [← g36] at A36 st36
          have ne_b20_b36 : b20 ≠ b36 := Nat.ne_of_lt (Nat.lt_of_lt_of_le A_b20.lt (Nat.le_of_eq g36.symm))
          have g_b36 : n0 ≤ b36 := Nat.le_trans Z0 (Nat.le_trans K20.1 (Nat.le_of_eq g36.symm))
          have sz_b36 : h0.size ≤ b36 := Nat.le_trans K20.1 (Nat.le_of_eq g36.symm)
          have A_b20 := A_b20.ext E36
          have K36 := K20.ext E36
          have A_b36 : Arv Z h36 b36 k36 .byte (0 : Int32) [] (.int (0 : Int32)) := Arv.new A36 (by decide)
          refine Ends.step st36 ?_
          show Ends p e below QQ (T36.setTop (mkF m 98 #[.val (.int p0), .val (.int p1), .val (.int p2), .val (.int p3), .val (.int p2.toInt8.toInt32), .val (.int p3.toInt8.toInt32), .val (.int (p1 &&& (3 : Int32))), .val (.ref b20), .val (.int (p0 &&& (3 : Int32))), .unset, .unset] [(.ref b36)]))
          refine Ends.step (fun _ k => XS.astore X36.here hx rfl (hb hby at_98) rfl rfl (l' := #[.val (.int p0), .val (.int p1), .val (.int p2), .val (.int p3), .val (.int p2.toInt8.toInt32), .val (.int p3.toInt8.toInt32), .val (.int (p1 &&& (3 : Int32))), .val (.ref b20), .val (.int (p0 &&& (3 : Int32))), .val (.ref b36), .unset]) rfl k) ?_
          show Ends p e below QQ (T36.setTop (mkF m 100 #[.val (.int p0), .val (.int p1), .val (.int p2), .val (.int p3), .val (.int p2.toInt8.toInt32), .val (.int p3.toInt8.toInt32), .val (.int (p1 &&& (3 : Int32))), .val (.ref b20), .val (.int (p0 &&& (3 : Int32))), .val (.ref b36), .unset] []))
          refine Ends.step (fun _ k => XS.goto X36.here hx rfl (pc0 := 100) (pc' := 118) rfl (hb hby at_100) (by decide) (by decide) k) ?_
          show Ends p e below QQ (T36.setTop (mkF m 118 #[.val (.int p0), .val (.int p1), .val (.int p2), .val (.int p3), .val (.int p2.toInt8.toInt32), .val (.int p3.toInt8.toInt32), .val (.int (p1 &&& (3 : Int32))), .val (.ref b20), .val (.int (p0 &&& (3 : Int32))), .val (.ref b36), .unset] []))
          refine Ends.step (fun _ k => XS.aload X36.here hx rfl (hb hby at_118) rfl rfl k) ?_
          show Ends p e below QQ (T36.setTop (mkF m 120 #[.val (.int p0), .val (.int p1), .val (.int p2), .val (.int p3), .val (.int p2.toInt8.toInt32), .val (.int p3.toInt8.toInt32), .val (.int (p1 &&& (3 : Int32))), .val (.ref b20), .val (.int (p0 &&& (3 : Int32))), .val (.ref b36), .unset] [(.ref b36)]))
          refine Ends.step (fun _ k => XS.aload X36.here hx rfl (hb hby at_120) rfl rfl k) ?_
          show Ends p e below QQ (T36.setTop (mkF m 122 #[.val (.int p0), .val (.int p1), .val (.int p2), .val (.int p3), .val (.int p2.toInt8.toInt32), .val (.int p3.toInt8.toInt32), .val (.int (p1 &&& (3 : Int32))), .val (.ref b20), .val (.int (p0 &&& (3 : Int32))), .val (.ref b36), .unset] [(.ref b20), (.ref b36)]))
          obtain ⟨_, _, ⟨T37, L37, k37, n37⟩, -, X37, ⟨Lc37, hQ37, l37, y37, z37⟩, st37⟩ := Jvm.LawKit.callS X36 hx (y := (⟨"com/example/wunce/wunce/StoredCall", "finished", "([B[B)Lcom/example/wunce/wunce/StoredCall;"⟩ : MethodName)) hown (mvT hZ (hw _ (List.mem_of_getElem? (i := 1) rfl))) (mvT hZ (hw _ (List.mem_of_getElem? (i := 2) rfl))) (mvT hZ (hw _ (List.mem_of_getElem? (i := 3) rfl))) (mvT hZ (hw _ (List.mem_of_getElem? (i := 4) rfl))) (by decide) (backOf (W := 0) (rm1 l Z a0 hw [] ((.ref b36) : Value) b20 h36 n0 (Nat.le_trans Z0 K36.1) rfl) hZ (hw _ (List.mem_of_getElem? (i := 4) rfl)) (hw _ (List.mem_of_getElem? (i := 3) rfl)) (by decide) (by decide)) (g := (mkF m 122 #[.val (.int p0), .val (.int p1), .val (.int p2), .val (.int p3), .val (.int p2.toInt8.toInt32), .val (.int p3.toInt8.toInt32), .val (.int (p1 &&& (3 : Int32))), .val (.ref b20), .val (.int (p0 &&& (3 : Int32))), .val (.ref b36), .unset] [(.ref b20), (.ref b36)])) rfl (by rw [hml]; rfl) (argsL := [(.ref b36), (.ref b20)]) (rest := []) (lenOf pd_1 rfl) rfl (by show 2 * 0 + _ ≤ _; exact Nat.le_of_eq rfl) (hb hby at_122) (fun _ _ => ⟨rfl, e36, (by decide : 2 + 1 ≤ _), (by decide : 0 + 2 ≤ _)⟩)
          dsimp only [Pt.U, Pt.locs, Pt.cells, Pt.slots] at X37 l37 y37 z37 st37 hQ37
          subst l37 y37 z37
          obtain ⟨b_37, rfl, Nq37, Kq37, fq37_0, fq37_1, fq37_2, fq37_3, fq37_4⟩ := hQ37
          have N37 := Fr.app N0 Nq37
          have ne_b20_b_37 : b20 ≠ b_37 := Nat.ne_of_lt (Nat.lt_of_lt_of_le A_b20.lt fq37_0)
          have ne_b36_b_37 : b36 ≠ b_37 := Nat.ne_of_lt (Nat.lt_of_lt_of_le A_b36.lt fq37_0)
          have sz_b_37 := Nat.le_trans K36.1 fq37_0
          have A_b20 := A_b20.keep Kq37 nin0
          have A_b36 := A_b36.keep Kq37 nin0
          have g_b_37 := fq37_1
          have E_b_37 := fq37_2
          have F__fingerprint_b_37 := fq37_3
          have F__answer_b_37 := fq37_4
          have K37 := K36.trans Kq37 all0
          refine Ends.step st37 ?_
          show Ends p e below QQ (T37.setTop (mkF m 125 #[.val (.int p0), .val (.int p1), .val (.int p2), .val (.int p3), .val (.int p2.toInt8.toInt32), .val (.int p3.toInt8.toInt32), .val (.int (p1 &&& (3 : Int32))), .val (.ref b20), .val (.int (p0 &&& (3 : Int32))), .val (.ref b36), .unset] [(.ref b_37)]))
          refine Ends.step (fun _ k => XS.astore X37.here hx rfl (hb hby at_125) rfl rfl (l' := #[.val (.int p0), .val (.int p1), .val (.int p2), .val (.int p3), .val (.int p2.toInt8.toInt32), .val (.int p3.toInt8.toInt32), .val (.int (p1 &&& (3 : Int32))), .val (.ref b20), .val (.int (p0 &&& (3 : Int32))), .val (.ref b36), .val (.ref b_37)]) rfl k) ?_
          show Ends p e below QQ (T37.setTop (mkF m 127 #[.val (.int p0), .val (.int p1), .val (.int p2), .val (.int p3), .val (.int p2.toInt8.toInt32), .val (.int p3.toInt8.toInt32), .val (.int (p1 &&& (3 : Int32))), .val (.ref b20), .val (.int (p0 &&& (3 : Int32))), .val (.ref b36), .val (.ref b_37)] []))
          refine Ends.step (fun _ k => XS.aload X37.here hx rfl (hb hby at_127) rfl rfl k) ?_
          show Ends p e below QQ (T37.setTop (mkF m 129 #[.val (.int p0), .val (.int p1), .val (.int p2), .val (.int p3), .val (.int p2.toInt8.toInt32), .val (.int p3.toInt8.toInt32), .val (.int (p1 &&& (3 : Int32))), .val (.ref b20), .val (.int (p0 &&& (3 : Int32))), .val (.ref b36), .val (.ref b_37)] [(.ref b_37)]))
          refine Ends.step (fun _ k => XT.ifnonnullYes X37.here hx rfl (pc0 := 129) (pc' := 134) rfl (hb hby at_129) rfl (by decide) (by decide) k) ?_
          show Ends p e below QQ (T37.setTop (mkF m 134 #[.val (.int p0), .val (.int p1), .val (.int p2), .val (.int p3), .val (.int p2.toInt8.toInt32), .val (.int p3.toInt8.toInt32), .val (.int (p1 &&& (3 : Int32))), .val (.ref b20), .val (.int (p0 &&& (3 : Int32))), .val (.ref b36), .val (.ref b_37)] []))
          refine Ends.step (fun _ k => XS.aload X37.here hx rfl (hb hby at_134) rfl rfl k) ?_
          show Ends p e below QQ (T37.setTop (mkF m 136 #[.val (.int p0), .val (.int p1), .val (.int p2), .val (.int p3), .val (.int p2.toInt8.toInt32), .val (.int p3.toInt8.toInt32), .val (.int (p1 &&& (3 : Int32))), .val (.ref b20), .val (.int (p0 &&& (3 : Int32))), .val (.ref b36), .val (.ref b_37)] [(.ref b_37)]))
          obtain ⟨cq38, kq38, q38a, q38b, q38c⟩ := isOf hZ rfl E_b_37
          obtain ⟨_, _, ⟨T38, L38, k38, n38⟩, -, X38, ⟨Lc38, hQ38, l38, y38, z38⟩, st38⟩ := X37.virtualBack hx (y := (⟨"com/example/wunce/wunce/StoredCall", "fingerprint", "()[B"⟩ : MethodName)) (z := (⟨"com/example/wunce/wunce/StoredCall", "fingerprint", "()[B"⟩ : MethodName)) hown (mvT hZ (hw _ (List.mem_of_getElem? (i := 17) rfl))) (mvT hZ (hw _ (List.mem_of_getElem? (i := 18) rfl))) (notFace_of_selects (args := #[]) (mvT hZ (hw _ (List.mem_of_getElem? (i := 20) rfl)))) (mvT hZ (hw _ (List.mem_of_getElem? (i := 20) rfl))) (mvT hZ (hw _ (List.mem_of_getElem? (i := 19) rfl))) (by decide) (backOf (W := 0) (rm4 l Z a0 hw [] b_37 ((.ref b36) : Value) T37.heap n0 (Nat.le_trans Z0 K37.1) F__fingerprint_b_37 rfl) hZ (hw _ (List.mem_of_getElem? (i := 21) rfl)) (hw _ (List.mem_of_getElem? (i := 3) rfl)) (by decide) (by decide)) q38a q38c (g := (mkF m 136 #[.val (.int p0), .val (.int p1), .val (.int p2), .val (.int p3), .val (.int p2.toInt8.toInt32), .val (.int p3.toInt8.toInt32), .val (.int (p1 &&& (3 : Int32))), .val (.ref b20), .val (.int (p0 &&& (3 : Int32))), .val (.ref b36), .val (.ref b_37)] [(.ref b_37)])) rfl (by rw [hml]; rfl) (Steps.refl _) (argsL := []) (rest := []) (lenOf pd_2 rfl) rfl (by show 2 * 0 + _ ≤ _; exact Nat.le_of_eq rfl) (hb hby at_136) (fun _ _ => ⟨rfl, rfl, (by decide : 3 + 0 ≤ _), (by decide : 2 + 0 ≤ _)⟩)
          dsimp only [Pt.U, Pt.locs, Pt.cells, Pt.slots] at X38 l38 y38 z38 st38 hQ38
          subst l38 y38 z38
          obtain ⟨rfl, Nq38, hh38⟩ := hQ38
          have N38 := Fr.app N37 Nq38
          refine Ends.step (fun _ k => st38.trans k) ?_
          show Ends p e below QQ (T38.setTop (mkF m 139 #[.val (.int p0), .val (.int p1), .val (.int p2), .val (.int p3), .val (.int p2.toInt8.toInt32), .val (.int p3.toInt8.toInt32), .val (.int (p1 &&& (3 : Int32))), .val (.ref b20), .val (.int (p0 &&& (3 : Int32))), .val (.ref b36), .val (.ref b_37)] [(.ref b36)]))
          refine Ends.step (fun _ k => XS.aload X38.here hx rfl (hb hby at_139) rfl rfl k) ?_
          show Ends p e below QQ (T38.setTop (mkF m 141 #[.val (.int p0), .val (.int p1), .val (.int p2), .val (.int p3), .val (.int p2.toInt8.toInt32), .val (.int p3.toInt8.toInt32), .val (.int (p1 &&& (3 : Int32))), .val (.ref b20), .val (.int (p0 &&& (3 : Int32))), .val (.ref b36), .val (.ref b_37)] [(.ref b36), (.ref b36)]))
          refine Ends.step (fun _ k => Jvm.RoadKit.acmp (g := (mkF m 141 #[.val (.int p0), .val (.int p1), .val (.int p2), .val (.int p3), .val (.int p2.toInt8.toInt32), .val (.int p3.toInt8.toInt32), .val (.int (p1 &&& (3 : Int32))), .val (.ref b20), .val (.int (p0 &&& (3 : Int32))), .val (.ref b36), .val (.ref b_37)] [(.ref b36), (.ref b36)])) X38 hx rfl rfl rfl (pc0 := 141) (pc' := 146) (same := true) rfl (hb hby at_141) rfl (decide_eq_true rfl) (by decide) (by decide) k) ?_
          show Ends p e below QQ (T38.setTop (mkF m 146 #[.val (.int p0), .val (.int p1), .val (.int p2), .val (.int p3), .val (.int p2.toInt8.toInt32), .val (.int p3.toInt8.toInt32), .val (.int (p1 &&& (3 : Int32))), .val (.ref b20), .val (.int (p0 &&& (3 : Int32))), .val (.ref b36), .val (.ref b_37)] []))
          refine Ends.step (fun _ k => XS.aload X38.here hx rfl (hb hby at_146) rfl rfl k) ?_
          show Ends p e below QQ (T38.setTop (mkF m 148 #[.val (.int p0), .val (.int p1), .val (.int p2), .val (.int p3), .val (.int p2.toInt8.toInt32), .val (.int p3.toInt8.toInt32), .val (.int (p1 &&& (3 : Int32))), .val (.ref b20), .val (.int (p0 &&& (3 : Int32))), .val (.ref b36), .val (.ref b_37)] [(.ref b_37)]))
          obtain ⟨cq39, kq39, q39a, q39b, q39c⟩ := isOf hZ hh38 E_b_37
          obtain ⟨_, _, ⟨T39, L39, k39, n39⟩, -, X39, ⟨Lc39, hQ39, l39, y39, z39⟩, st39⟩ := X38.virtualBack hx (y := (⟨"com/example/wunce/wunce/StoredCall", "answer", "()[B"⟩ : MethodName)) (z := (⟨"com/example/wunce/wunce/StoredCall", "answer", "()[B"⟩ : MethodName)) hown (mvT hZ (hw _ (List.mem_of_getElem? (i := 22) rfl))) (mvT hZ (hw _ (List.mem_of_getElem? (i := 23) rfl))) (notFace_of_selects (args := #[]) (mvT hZ (hw _ (List.mem_of_getElem? (i := 25) rfl)))) (mvT hZ (hw _ (List.mem_of_getElem? (i := 25) rfl))) (mvT hZ (hw _ (List.mem_of_getElem? (i := 24) rfl))) (by decide) (backOf (W := 0) (rm5 l Z a0 hw [] b_37 ((.ref b20) : Value) T37.heap n0 (Nat.le_trans Z0 K37.1) F__answer_b_37 rfl) hZ (hw _ (List.mem_of_getElem? (i := 26) rfl)) (hw _ (List.mem_of_getElem? (i := 3) rfl)) (by decide) (by decide)) q39a q39c (g := (mkF m 148 #[.val (.int p0), .val (.int p1), .val (.int p2), .val (.int p3), .val (.int p2.toInt8.toInt32), .val (.int p3.toInt8.toInt32), .val (.int (p1 &&& (3 : Int32))), .val (.ref b20), .val (.int (p0 &&& (3 : Int32))), .val (.ref b36), .val (.ref b_37)] [(.ref b_37)])) rfl (by rw [hml]; rfl) (Steps.refl _) (argsL := []) (rest := []) (lenOf pd_2 rfl) rfl (by show 2 * 0 + _ ≤ _; exact Nat.le_of_eq rfl) (hb hby at_148) (fun _ _ => ⟨rfl, hh38, (by decide : 3 + 0 ≤ _), (by decide : 2 + 0 ≤ _)⟩)
          dsimp only [Pt.U, Pt.locs, Pt.cells, Pt.slots] at X39 l39 y39 z39 st39 hQ39
          subst l39 y39 z39
          obtain ⟨rfl, Nq39, hh39⟩ := hQ39
          have N39 := Fr.app N38 Nq39
          refine Ends.step (fun _ k => st39.trans k) ?_
          show Ends p e below QQ (T39.setTop (mkF m 151 #[.val (.int p0), .val (.int p1), .val (.int p2), .val (.int p3), .val (.int p2.toInt8.toInt32), .val (.int p3.toInt8.toInt32), .val (.int (p1 &&& (3 : Int32))), .val (.ref b20), .val (.int (p0 &&& (3 : Int32))), .val (.ref b36), .val (.ref b_37)] [(.ref b20)]))
          refine Ends.step (fun _ k => XS.aload X39.here hx rfl (hb hby at_151) rfl rfl k) ?_
          show Ends p e below QQ (T39.setTop (mkF m 153 #[.val (.int p0), .val (.int p1), .val (.int p2), .val (.int p3), .val (.int p2.toInt8.toInt32), .val (.int p3.toInt8.toInt32), .val (.int (p1 &&& (3 : Int32))), .val (.ref b20), .val (.int (p0 &&& (3 : Int32))), .val (.ref b36), .val (.ref b_37)] [(.ref b20), (.ref b20)]))
          refine Ends.step (fun _ k => Jvm.RoadKit.acmp (g := (mkF m 153 #[.val (.int p0), .val (.int p1), .val (.int p2), .val (.int p3), .val (.int p2.toInt8.toInt32), .val (.int p3.toInt8.toInt32), .val (.int (p1 &&& (3 : Int32))), .val (.ref b20), .val (.int (p0 &&& (3 : Int32))), .val (.ref b36), .val (.ref b_37)] [(.ref b20), (.ref b20)])) X39 hx rfl rfl rfl (pc0 := 153) (pc' := 158) (same := true) rfl (hb hby at_153) rfl (decide_eq_true rfl) (by decide) (by decide) k) ?_
          show Ends p e below QQ (T39.setTop (mkF m 158 #[.val (.int p0), .val (.int p1), .val (.int p2), .val (.int p3), .val (.int p2.toInt8.toInt32), .val (.int p3.toInt8.toInt32), .val (.int (p1 &&& (3 : Int32))), .val (.ref b20), .val (.int (p0 &&& (3 : Int32))), .val (.ref b36), .val (.ref b_37)] []))
          refine Ends.step (fun _ k => XS.aload X39.here hx rfl (hb hby at_158) rfl rfl k) ?_
          show Ends p e below QQ (T39.setTop (mkF m 160 #[.val (.int p0), .val (.int p1), .val (.int p2), .val (.int p3), .val (.int p2.toInt8.toInt32), .val (.int p3.toInt8.toInt32), .val (.int (p1 &&& (3 : Int32))), .val (.ref b20), .val (.int (p0 &&& (3 : Int32))), .val (.ref b36), .val (.ref b_37)] [(.ref b_37)]))
          obtain ⟨cq40, kq40, q40a, q40b, q40c⟩ := isOf hZ hh39 E_b_37
          obtain ⟨_, _, ⟨T40, L40, k40, n40⟩, -, X40, ⟨Lc40, hQ40, l40, y40, z40⟩, st40⟩ := X39.virtualBack hx (y := (⟨"com/example/wunce/wunce/StoredCall", "isFinished", "()Z"⟩ : MethodName)) (z := (⟨"com/example/wunce/wunce/StoredCall", "isFinished", "()Z"⟩ : MethodName)) hown (mvT hZ (hw _ (List.mem_of_getElem? (i := 27) rfl))) (mvT hZ (hw _ (List.mem_of_getElem? (i := 28) rfl))) (notFace_of_selects (args := #[]) (mvT hZ (hw _ (List.mem_of_getElem? (i := 30) rfl)))) (mvT hZ (hw _ (List.mem_of_getElem? (i := 30) rfl))) (mvT hZ (hw _ (List.mem_of_getElem? (i := 29) rfl))) (by decide) (backOf (W := 0) (rm6 l Z a0 hw [] b_37 b20 T37.heap n0 (Nat.le_trans Z0 K37.1) F__answer_b_37) hZ (hw _ (List.mem_of_getElem? (i := 31) rfl)) (hw _ (List.mem_of_getElem? (i := 3) rfl)) (by decide) (by decide)) q40a q40c (g := (mkF m 160 #[.val (.int p0), .val (.int p1), .val (.int p2), .val (.int p3), .val (.int p2.toInt8.toInt32), .val (.int p3.toInt8.toInt32), .val (.int (p1 &&& (3 : Int32))), .val (.ref b20), .val (.int (p0 &&& (3 : Int32))), .val (.ref b36), .val (.ref b_37)] [(.ref b_37)])) rfl (by rw [hml]; rfl) (Steps.refl _) (argsL := []) (rest := []) (lenOf pd_3 rfl) rfl (by show 2 * 0 + _ ≤ _; exact Nat.le_of_eq rfl) (hb hby at_160) (fun _ _ => ⟨rfl, hh39, (by decide : 3 + 0 ≤ _), (by decide : 2 + 0 ≤ _)⟩)
          dsimp only [Pt.U, Pt.locs, Pt.cells, Pt.slots] at X40 l40 y40 z40 st40 hQ40
          subst l40 y40 z40
          obtain ⟨rfl, Nq40, hh40⟩ := hQ40
          have N40 := Fr.app N39 Nq40
          refine Ends.step (fun _ k => st40.trans k) ?_
          show Ends p e below QQ (T40.setTop (mkF m 163 #[.val (.int p0), .val (.int p1), .val (.int p2), .val (.int p3), .val (.int p2.toInt8.toInt32), .val (.int p3.toInt8.toInt32), .val (.int (p1 &&& (3 : Int32))), .val (.ref b20), .val (.int (p0 &&& (3 : Int32))), .val (.ref b36), .val (.ref b_37)] [(.int (1 : Int32))]))
          refine Ends.step (fun _ k => XS.ifYes X40.here hx rfl (pc0 := 163) (pc' := 168) rfl (hb hby at_163) rfl (XT.i0_ne_t (by decide)) (by decide) (by decide) k) ?_
          show Ends p e below QQ (T40.setTop (mkF m 168 #[.val (.int p0), .val (.int p1), .val (.int p2), .val (.int p3), .val (.int p2.toInt8.toInt32), .val (.int p3.toInt8.toInt32), .val (.int (p1 &&& (3 : Int32))), .val (.ref b20), .val (.int (p0 &&& (3 : Int32))), .val (.ref b36), .val (.ref b_37)] []))
          refine Ends.step (fun _ k => XS.aload X40.here hx rfl (hb hby at_168) rfl rfl k) ?_
          show Ends p e below QQ (T40.setTop (mkF m 170 #[.val (.int p0), .val (.int p1), .val (.int p2), .val (.int p3), .val (.int p2.toInt8.toInt32), .val (.int p3.toInt8.toInt32), .val (.int (p1 &&& (3 : Int32))), .val (.ref b20), .val (.int (p0 &&& (3 : Int32))), .val (.ref b36), .val (.ref b_37)] [(.ref b20)]))
          refine Ends.step (fun _ k => XS.iload X40.here hx rfl (hb hby at_170) rfl k) ?_
          show Ends p e below QQ (T40.setTop (mkF m 172 #[.val (.int p0), .val (.int p1), .val (.int p2), .val (.int p3), .val (.int p2.toInt8.toInt32), .val (.int p3.toInt8.toInt32), .val (.int (p1 &&& (3 : Int32))), .val (.ref b20), .val (.int (p0 &&& (3 : Int32))), .val (.ref b36), .val (.ref b_37)] [(.int (p1 &&& (3 : Int32))), (.ref b20)]))
          refine Ends.step (fun _ k => XS.iload X40.here hx rfl (hb hby at_172) rfl k) ?_
          show Ends p e below QQ (T40.setTop (mkF m 174 #[.val (.int p0), .val (.int p1), .val (.int p2), .val (.int p3), .val (.int p2.toInt8.toInt32), .val (.int p3.toInt8.toInt32), .val (.int (p1 &&& (3 : Int32))), .val (.ref b20), .val (.int (p0 &&& (3 : Int32))), .val (.ref b36), .val (.ref b_37)] [(.int p2.toInt8.toInt32), (.int (p1 &&& (3 : Int32))), (.ref b20)]))
          refine Ends.step (fun _ k => XS.iload X40.here hx rfl (hb hby at_174) rfl k) ?_
          show Ends p e below QQ (T40.setTop (mkF m 176 #[.val (.int p0), .val (.int p1), .val (.int p2), .val (.int p3), .val (.int p2.toInt8.toInt32), .val (.int p3.toInt8.toInt32), .val (.int (p1 &&& (3 : Int32))), .val (.ref b20), .val (.int (p0 &&& (3 : Int32))), .val (.ref b36), .val (.ref b_37)] [(.int p3.toInt8.toInt32), (.int p2.toInt8.toInt32), (.int (p1 &&& (3 : Int32))), (.ref b20)]))
          obtain ⟨_, _, ⟨T41, L41, k41, n41⟩, -, X41, ⟨Lc41, hQ41, l41, y41, z41⟩, st41⟩ := Jvm.LawKit.callS X40 hx (y := (⟨"com/example/wunce/wunce/StoredCallFinishedPinLaw", "answerIntact", "([BIBB)Z"⟩ : MethodName)) hown (mvT hZ (hw _ (List.mem_of_getElem? (i := 32) rfl))) (mvT hZ (hw _ (List.mem_of_getElem? (i := 33) rfl))) (mvT hZ (hw _ (List.mem_of_getElem? (i := 34) rfl))) (mvT hZ (hw _ (List.mem_of_getElem? (i := 35) rfl))) (by decide) (backOf (W := 0) (rm7a l Z a0 hw [] b20 (p1 &&& (3 : Int32)) (p2.toInt8.toInt32) (p3.toInt8.toInt32) k20 T37.heap n0 (Nat.le_trans Z0 K37.1) A_b20 (by first | assumption | rfl | decide)) hZ (hw _ (List.mem_of_getElem? (i := 35) rfl)) (hw _ (List.mem_of_getElem? (i := 34) rfl)) (by decide) (by decide)) (g := (mkF m 176 #[.val (.int p0), .val (.int p1), .val (.int p2), .val (.int p3), .val (.int p2.toInt8.toInt32), .val (.int p3.toInt8.toInt32), .val (.int (p1 &&& (3 : Int32))), .val (.ref b20), .val (.int (p0 &&& (3 : Int32))), .val (.ref b36), .val (.ref b_37)] [(.int p3.toInt8.toInt32), (.int p2.toInt8.toInt32), (.int (p1 &&& (3 : Int32))), (.ref b20)])) rfl (by rw [hml]; rfl) (argsL := [(.ref b20), (.int (p1 &&& (3 : Int32))), (.int p2.toInt8.toInt32), (.int p3.toInt8.toInt32)]) (rest := []) (lenOf pd_4 rfl) rfl (by show 2 * 0 + _ ≤ _; exact Nat.le_of_eq rfl) (hb hby at_176) (fun _ _ => ⟨rfl, hh40, (by decide : 3 + 0 ≤ _), (by decide : 2 + 0 ≤ _)⟩)
          dsimp only [Pt.U, Pt.locs, Pt.cells, Pt.slots] at X41 l41 y41 z41 st41 hQ41
          subst l41 y41 z41
          obtain ⟨rfl, Nq41, hh41⟩ := hQ41
          have N41 := Fr.app N40 Nq41
          refine Ends.step st41 ?_
          show Ends p e below QQ (T41.setTop (mkF m 179 #[.val (.int p0), .val (.int p1), .val (.int p2), .val (.int p3), .val (.int p2.toInt8.toInt32), .val (.int p3.toInt8.toInt32), .val (.int (p1 &&& (3 : Int32))), .val (.ref b20), .val (.int (p0 &&& (3 : Int32))), .val (.ref b36), .val (.ref b_37)] [(.int (1 : Int32))]))
          refine Ends.step (fun _ k => XS.ifNo X41.here hx rfl (hb hby at_179) rfl (XT.i0_eq_f (by decide)) k) ?_
          show Ends p e below QQ (T41.setTop (mkF m 182 #[.val (.int p0), .val (.int p1), .val (.int p2), .val (.int p3), .val (.int p2.toInt8.toInt32), .val (.int p3.toInt8.toInt32), .val (.int (p1 &&& (3 : Int32))), .val (.ref b20), .val (.int (p0 &&& (3 : Int32))), .val (.ref b36), .val (.ref b_37)] []))
          refine Ends.step (fun _ k => XS.aload X41.here hx rfl (hb hby at_182) rfl rfl k) ?_
          show Ends p e below QQ (T41.setTop (mkF m 184 #[.val (.int p0), .val (.int p1), .val (.int p2), .val (.int p3), .val (.int p2.toInt8.toInt32), .val (.int p3.toInt8.toInt32), .val (.int (p1 &&& (3 : Int32))), .val (.ref b20), .val (.int (p0 &&& (3 : Int32))), .val (.ref b36), .val (.ref b_37)] [(.ref b36)]))
          refine Ends.step (fun _ k => XS.iload X41.here hx rfl (hb hby at_184) rfl k) ?_
          show Ends p e below QQ (T41.setTop (mkF m 186 #[.val (.int p0), .val (.int p1), .val (.int p2), .val (.int p3), .val (.int p2.toInt8.toInt32), .val (.int p3.toInt8.toInt32), .val (.int (p1 &&& (3 : Int32))), .val (.ref b20), .val (.int (p0 &&& (3 : Int32))), .val (.ref b36), .val (.ref b_37)] [(.int (p0 &&& (3 : Int32))), (.ref b36)]))
          refine Ends.step (fun _ k => XS.iload X41.here hx rfl (hb hby at_186) rfl k) ?_
          show Ends p e below QQ (T41.setTop (mkF m 188 #[.val (.int p0), .val (.int p1), .val (.int p2), .val (.int p3), .val (.int p2.toInt8.toInt32), .val (.int p3.toInt8.toInt32), .val (.int (p1 &&& (3 : Int32))), .val (.ref b20), .val (.int (p0 &&& (3 : Int32))), .val (.ref b36), .val (.ref b_37)] [(.int p2.toInt8.toInt32), (.int (p0 &&& (3 : Int32))), (.ref b36)]))
          refine Ends.step (fun _ k => XS.iload X41.here hx rfl (hb hby at_188) rfl k) ?_
          show Ends p e below QQ (T41.setTop (mkF m 190 #[.val (.int p0), .val (.int p1), .val (.int p2), .val (.int p3), .val (.int p2.toInt8.toInt32), .val (.int p3.toInt8.toInt32), .val (.int (p1 &&& (3 : Int32))), .val (.ref b20), .val (.int (p0 &&& (3 : Int32))), .val (.ref b36), .val (.ref b_37)] [(.int p3.toInt8.toInt32), (.int p2.toInt8.toInt32), (.int (p0 &&& (3 : Int32))), (.ref b36)]))
          obtain ⟨_, _, ⟨T42, L42, k42, n42⟩, -, X42, ⟨Lc42, hQ42, l42, y42, z42⟩, st42⟩ := Jvm.LawKit.callS X41 hx (y := (⟨"com/example/wunce/wunce/StoredCallFinishedPinLaw", "fingerprintIntact", "([BIBB)Z"⟩ : MethodName)) hown (mvT hZ (hw _ (List.mem_of_getElem? (i := 36) rfl))) (mvT hZ (hw _ (List.mem_of_getElem? (i := 37) rfl))) (mvT hZ (hw _ (List.mem_of_getElem? (i := 34) rfl))) (mvT hZ (hw _ (List.mem_of_getElem? (i := 38) rfl))) (by decide) (backOf (W := 0) (rm8c l Z a0 hw [] b36 (p0 &&& (3 : Int32)) (p2.toInt8.toInt32) (p3.toInt8.toInt32) k36 T37.heap n0 (Nat.le_trans Z0 K37.1) A_b36 (by first | assumption | rfl | decide) (by first | assumption | rfl | decide) (by first | assumption | rfl | decide)) hZ (hw _ (List.mem_of_getElem? (i := 38) rfl)) (hw _ (List.mem_of_getElem? (i := 34) rfl)) (by decide) (by decide)) (g := (mkF m 190 #[.val (.int p0), .val (.int p1), .val (.int p2), .val (.int p3), .val (.int p2.toInt8.toInt32), .val (.int p3.toInt8.toInt32), .val (.int (p1 &&& (3 : Int32))), .val (.ref b20), .val (.int (p0 &&& (3 : Int32))), .val (.ref b36), .val (.ref b_37)] [(.int p3.toInt8.toInt32), (.int p2.toInt8.toInt32), (.int (p0 &&& (3 : Int32))), (.ref b36)])) rfl (by rw [hml]; rfl) (argsL := [(.ref b36), (.int (p0 &&& (3 : Int32))), (.int p2.toInt8.toInt32), (.int p3.toInt8.toInt32)]) (rest := []) (lenOf pd_4 rfl) rfl (by show 2 * 0 + _ ≤ _; exact Nat.le_of_eq rfl) (hb hby at_190) (fun _ _ => ⟨rfl, hh41, (by decide : 3 + 0 ≤ _), (by decide : 2 + 0 ≤ _)⟩)
          dsimp only [Pt.U, Pt.locs, Pt.cells, Pt.slots] at X42 l42 y42 z42 st42 hQ42
          subst l42 y42 z42
          obtain ⟨rfl, Nq42, hh42⟩ := hQ42
          have N42 := Fr.app N41 Nq42
          refine Ends.step st42 ?_
          show Ends p e below QQ (T42.setTop (mkF m 193 #[.val (.int p0), .val (.int p1), .val (.int p2), .val (.int p3), .val (.int p2.toInt8.toInt32), .val (.int p3.toInt8.toInt32), .val (.int (p1 &&& (3 : Int32))), .val (.ref b20), .val (.int (p0 &&& (3 : Int32))), .val (.ref b36), .val (.ref b_37)] [(.int (1 : Int32))]))
          refine Ends.step (fun _ k => XS.ifNo X42.here hx rfl (hb hby at_193) rfl (XT.i0_eq_f (by decide)) k) ?_
          show Ends p e below QQ (T42.setTop (mkF m 196 #[.val (.int p0), .val (.int p1), .val (.int p2), .val (.int p3), .val (.int p2.toInt8.toInt32), .val (.int p3.toInt8.toInt32), .val (.int (p1 &&& (3 : Int32))), .val (.ref b20), .val (.int (p0 &&& (3 : Int32))), .val (.ref b36), .val (.ref b_37)] []))
          refine Ends.step (fun _ k => XT.iconstV X42.here hx rfl (1 : Int32) (hb hby at_196) rfl k) ?_
          show Ends p e below QQ (T42.setTop (mkF m 197 #[.val (.int p0), .val (.int p1), .val (.int p2), .val (.int p3), .val (.int p2.toInt8.toInt32), .val (.int p3.toInt8.toInt32), .val (.int (p1 &&& (3 : Int32))), .val (.ref b20), .val (.int (p0 &&& (3 : Int32))), .val (.ref b36), .val (.ref b_37)] [(.int (1 : Int32))]))
          refine Ends.step (fun _ k => XS.goto X42.here hx rfl (pc0 := 197) (pc' := 201) rfl (hb hby at_197) (by decide) (by decide) k) ?_
          show Ends p e below QQ (T42.setTop (mkF m 201 #[.val (.int p0), .val (.int p1), .val (.int p2), .val (.int p3), .val (.int p2.toInt8.toInt32), .val (.int p3.toInt8.toInt32), .val (.int (p1 &&& (3 : Int32))), .val (.ref b20), .val (.int (p0 &&& (3 : Int32))), .val (.ref b36), .val (.ref b_37)] [(.int (1 : Int32))]))
          exact Ends.fin (some (.int (1 : Int32))) X42 hQQ (fun h => by rw [Bd.returns] at h; cases h) Bd.notSynchronized (fun _ hr => retOut X42 hx (t := .boolean) Bd.returns rfl (Or.inl ⟨rfl, (by simp), _, rfl⟩) (hb hby at_201) hr) hh42 (by decide) (by decide) ⟨(by simp only [f0, if_pos hc15_19, if_neg hc67_21, if_neg hc79_28, if_pos hc92_35]), N42, K37⟩
        · refine Ends.step (fun _ k => XS.icmpYes X20.here hx rfl (pc0 := 92) (pc' := 103) rfl (hb hby at_92) rfl (XT.ii_ne_t hc92_35) (by decide) (by decide) k) ?_
          show Ends p e below QQ (T20.setTop (mkF m 103 #[.val (.int p0), .val (.int p1), .val (.int p2), .val (.int p3), .val (.int p2.toInt8.toInt32), .val (.int p3.toInt8.toInt32), .val (.int (p1 &&& (3 : Int32))), .val (.ref b20), .val (.int (p0 &&& (3 : Int32))), .unset, .unset] []))
          refine Ends.step (fun _ k => XT.iconstV X20.here hx rfl (2 : Int32) (hb hby at_103) rfl k) ?_
          show Ends p e below QQ (T20.setTop (mkF m 104 #[.val (.int p0), .val (.int p1), .val (.int p2), .val (.int p3), .val (.int p2.toInt8.toInt32), .val (.int p3.toInt8.toInt32), .val (.int (p1 &&& (3 : Int32))), .val (.ref b20), .val (.int (p0 &&& (3 : Int32))), .unset, .unset] [(.int (2 : Int32))]))
          obtain ⟨T43, h43, k43, X43, e43, E43, A43, st43⟩ := newP X20 hx hZ (hw _ (List.mem_of_getElem? (i := 0) rfl)) e20 (g := (mkF m 104 #[.val (.int p0), .val (.int p1), .val (.int p2), .val (.int p3), .val (.int p2.toInt8.toInt32), .val (.int p3.toInt8.toInt32), .val (.int (p1 &&& (3 : Int32))), .val (.ref b20), .val (.int (p0 &&& (3 : Int32))), .unset, .unset] [(.int (2 : Int32))])) rfl (hb hby at_104) rfl (by decide) (cap := 2) (by decide) (by decide) (by decide) (by decide)
          obtain ⟨b43, g43⟩ : ∃ z, z = h20.size := ⟨_, rfl⟩
          rw [← g43] at A43 st43
          have ne_b20_b43 : b20 ≠ b43 := Nat.ne_of_lt (Nat.lt_of_lt_of_le A_b20.lt (Nat.le_of_eq g43.symm))
          have g_b43 : n0 ≤ b43 := Nat.le_trans Z0 (Nat.le_trans K20.1 (Nat.le_of_eq g43.symm))
          have sz_b43 : h0.size ≤ b43 := Nat.le_trans K20.1 (Nat.le_of_eq g43.symm)
          have A_b20 := A_b20.ext E43
          have K43 := K20.ext E43
          have A_b43 : Arv Z h43 b43 k43 .byte (2 : Int32) [(.int (0 : Int32)), (.int (0 : Int32))] (.int (0 : Int32)) := (Arv.new A43 (by decide)).pad (pad_rep [] (.int (0 : Int32)) 2)
          refine Ends.step st43 ?_
          show Ends p e below QQ (T43.setTop (mkF m 106 #[.val (.int p0), .val (.int p1), .val (.int p2), .val (.int p3), .val (.int p2.toInt8.toInt32), .val (.int p3.toInt8.toInt32), .val (.int (p1 &&& (3 : Int32))), .val (.ref b20), .val (.int (p0 &&& (3 : Int32))), .unset, .unset] [(.ref b43)]))
          refine Ends.step (fun _ k => XS.dup X43.here hx rfl (hb hby at_106) rfl rfl k) ?_
          show Ends p e below QQ (T43.setTop (mkF m 107 #[.val (.int p0), .val (.int p1), .val (.int p2), .val (.int p3), .val (.int p2.toInt8.toInt32), .val (.int p3.toInt8.toInt32), .val (.int (p1 &&& (3 : Int32))), .val (.ref b20), .val (.int (p0 &&& (3 : Int32))), .unset, .unset] [(.ref b43), (.ref b43)]))
          refine Ends.step (fun _ k => XT.iconstV X43.here hx rfl (0 : Int32) (hb hby at_107) rfl k) ?_
          show Ends p e below QQ (T43.setTop (mkF m 108 #[.val (.int p0), .val (.int p1), .val (.int p2), .val (.int p3), .val (.int p2.toInt8.toInt32), .val (.int p3.toInt8.toInt32), .val (.int (p1 &&& (3 : Int32))), .val (.ref b20), .val (.int (p0 &&& (3 : Int32))), .unset, .unset] [(.int (0 : Int32)), (.ref b43), (.ref b43)]))
          refine Ends.step (fun _ k => XS.iload X43.here hx rfl (hb hby at_108) rfl k) ?_
          show Ends p e below QQ (T43.setTop (mkF m 110 #[.val (.int p0), .val (.int p1), .val (.int p2), .val (.int p3), .val (.int p2.toInt8.toInt32), .val (.int p3.toInt8.toInt32), .val (.int (p1 &&& (3 : Int32))), .val (.ref b20), .val (.int (p0 &&& (3 : Int32))), .unset, .unset] [(.int p3.toInt8.toInt32), (.int (0 : Int32)), (.ref b43), (.ref b43)]))
          obtain ⟨cl44, Ar44, q44, S44, P44, H44, G44⟩ := id A_b43
          have hin44 : ¬ ((0 : Int32) < 0 ∨ cl44.slots.size ≤ ((0 : Int32)).toNatClampNeg) := inb_of S44 ⟨by decide, by decide⟩
          obtain ⟨T45, h45, X45, e45, W45, st45⟩ := stB X43 hx hZ e43 Ar44 (j := (0 : Int32)) hin44 (g := (mkF m 110 #[.val (.int p0), .val (.int p1), .val (.int p2), .val (.int p3), .val (.int p2.toInt8.toInt32), .val (.int p3.toInt8.toInt32), .val (.int (p1 &&& (3 : Int32))), .val (.ref b20), .val (.int (p0 &&& (3 : Int32))), .unset, .unset] [(.int p3.toInt8.toInt32), (.int (0 : Int32)), (.ref b43), (.ref b43)])) rfl rfl (hb hby at_110)
          rw [own_narb] at W45
          have A_b20 := A_b20.other W45 ne_b20_b43
          have A_b43 : Arv Z h45 b43 k43 .byte (2 : Int32) [(.int p3.toInt8.toInt32), (.int (0 : Int32))] (.int (0 : Int32)) := Arv.set Ar44 q44 S44 P44 H44 G44 (fits_nar_byte _) W45 0 rfl (Nat.le_of_ble_eq_true rfl)
          have K45 := K43.wr W45 (Or.inr sz_b43)
          have N45 := Fr.snoc X45 N0 g_b43
          refine Ends.step st45 ?_
          show Ends p e below QQ (T45.setTop (mkF m 111 #[.val (.int p0), .val (.int p1), .val (.int p2), .val (.int p3), .val (.int p2.toInt8.toInt32), .val (.int p3.toInt8.toInt32), .val (.int (p1 &&& (3 : Int32))), .val (.ref b20), .val (.int (p0 &&& (3 : Int32))), .unset, .unset] [(.ref b43)]))
          refine Ends.step (fun _ k => XS.dup X45.here hx rfl (hb hby at_111) rfl rfl k) ?_
          show Ends p e below QQ (T45.setTop (mkF m 112 #[.val (.int p0), .val (.int p1), .val (.int p2), .val (.int p3), .val (.int p2.toInt8.toInt32), .val (.int p3.toInt8.toInt32), .val (.int (p1 &&& (3 : Int32))), .val (.ref b20), .val (.int (p0 &&& (3 : Int32))), .unset, .unset] [(.ref b43), (.ref b43)]))
          refine Ends.step (fun _ k => XT.iconstV X45.here hx rfl (1 : Int32) (hb hby at_112) rfl k) ?_
          show Ends p e below QQ (T45.setTop (mkF m 113 #[.val (.int p0), .val (.int p1), .val (.int p2), .val (.int p3), .val (.int p2.toInt8.toInt32), .val (.int p3.toInt8.toInt32), .val (.int (p1 &&& (3 : Int32))), .val (.ref b20), .val (.int (p0 &&& (3 : Int32))), .unset, .unset] [(.int (1 : Int32)), (.ref b43), (.ref b43)]))
          refine Ends.step (fun _ k => XS.iload X45.here hx rfl (hb hby at_113) rfl k) ?_
          show Ends p e below QQ (T45.setTop (mkF m 115 #[.val (.int p0), .val (.int p1), .val (.int p2), .val (.int p3), .val (.int p2.toInt8.toInt32), .val (.int p3.toInt8.toInt32), .val (.int (p1 &&& (3 : Int32))), .val (.ref b20), .val (.int (p0 &&& (3 : Int32))), .unset, .unset] [(.int p2.toInt8.toInt32), (.int (1 : Int32)), (.ref b43), (.ref b43)]))
          obtain ⟨cl46, Ar46, q46, S46, P46, H46, G46⟩ := id A_b43
          have hin46 : ¬ ((1 : Int32) < 0 ∨ cl46.slots.size ≤ ((1 : Int32)).toNatClampNeg) := inb_of S46 ⟨by decide, by decide⟩
          obtain ⟨T47, h47, X47, e47, W47, st47⟩ := stB X45 hx hZ e45 Ar46 (j := (1 : Int32)) hin46 (g := (mkF m 115 #[.val (.int p0), .val (.int p1), .val (.int p2), .val (.int p3), .val (.int p2.toInt8.toInt32), .val (.int p3.toInt8.toInt32), .val (.int (p1 &&& (3 : Int32))), .val (.ref b20), .val (.int (p0 &&& (3 : Int32))), .unset, .unset] [(.int p2.toInt8.toInt32), (.int (1 : Int32)), (.ref b43), (.ref b43)])) rfl rfl (hb hby at_115)
          rw [own_narb] at W47
          have A_b20 := A_b20.other W47 ne_b20_b43
          have A_b43 : Arv Z h47 b43 k43 .byte (2 : Int32) [(.int p3.toInt8.toInt32), (.int p2.toInt8.toInt32)] (.int (0 : Int32)) := Arv.set Ar46 q46 S46 P46 H46 G46 (fits_nar_byte _) W47 1 rfl (Nat.le_of_ble_eq_true rfl)
          have K47 := K45.wr W47 (Or.inr sz_b43)
          have N47 := Fr.snoc X47 N45 g_b43
          refine Ends.step st47 ?_
          show Ends p e below QQ (T47.setTop (mkF m 116 #[.val (.int p0), .val (.int p1), .val (.int p2), .val (.int p3), .val (.int p2.toInt8.toInt32), .val (.int p3.toInt8.toInt32), .val (.int (p1 &&& (3 : Int32))), .val (.ref b20), .val (.int (p0 &&& (3 : Int32))), .unset, .unset] [(.ref b43)]))
          refine Ends.step (fun _ k => XS.astore X47.here hx rfl (hb hby at_116) rfl rfl (l' := #[.val (.int p0), .val (.int p1), .val (.int p2), .val (.int p3), .val (.int p2.toInt8.toInt32), .val (.int p3.toInt8.toInt32), .val (.int (p1 &&& (3 : Int32))), .val (.ref b20), .val (.int (p0 &&& (3 : Int32))), .val (.ref b43), .unset]) rfl k) ?_
          show Ends p e below QQ (T47.setTop (mkF m 118 #[.val (.int p0), .val (.int p1), .val (.int p2), .val (.int p3), .val (.int p2.toInt8.toInt32), .val (.int p3.toInt8.toInt32), .val (.int (p1 &&& (3 : Int32))), .val (.ref b20), .val (.int (p0 &&& (3 : Int32))), .val (.ref b43), .unset] []))
          refine Ends.step (fun _ k => XS.aload X47.here hx rfl (hb hby at_118) rfl rfl k) ?_
          show Ends p e below QQ (T47.setTop (mkF m 120 #[.val (.int p0), .val (.int p1), .val (.int p2), .val (.int p3), .val (.int p2.toInt8.toInt32), .val (.int p3.toInt8.toInt32), .val (.int (p1 &&& (3 : Int32))), .val (.ref b20), .val (.int (p0 &&& (3 : Int32))), .val (.ref b43), .unset] [(.ref b43)]))
          refine Ends.step (fun _ k => XS.aload X47.here hx rfl (hb hby at_120) rfl rfl k) ?_
          show Ends p e below QQ (T47.setTop (mkF m 122 #[.val (.int p0), .val (.int p1), .val (.int p2), .val (.int p3), .val (.int p2.toInt8.toInt32), .val (.int p3.toInt8.toInt32), .val (.int (p1 &&& (3 : Int32))), .val (.ref b20), .val (.int (p0 &&& (3 : Int32))), .val (.ref b43), .unset] [(.ref b20), (.ref b43)]))
          obtain ⟨_, _, ⟨T48, L48, k48, n48⟩, -, X48, ⟨Lc48, hQ48, l48, y48, z48⟩, st48⟩ := Jvm.LawKit.callS X47 hx (y := (⟨"com/example/wunce/wunce/StoredCall", "finished", "([B[B)Lcom/example/wunce/wunce/StoredCall;"⟩ : MethodName)) hown (mvT hZ (hw _ (List.mem_of_getElem? (i := 1) rfl))) (mvT hZ (hw _ (List.mem_of_getElem? (i := 2) rfl))) (mvT hZ (hw _ (List.mem_of_getElem? (i := 3) rfl))) (mvT hZ (hw _ (List.mem_of_getElem? (i := 4) rfl))) (by decide) (backOf (W := 0) (rm1 l Z a0 hw [] ((.ref b43) : Value) b20 h47 n0 (Nat.le_trans Z0 K47.1) rfl) hZ (hw _ (List.mem_of_getElem? (i := 4) rfl)) (hw _ (List.mem_of_getElem? (i := 3) rfl)) (by decide) (by decide)) (g := (mkF m 122 #[.val (.int p0), .val (.int p1), .val (.int p2), .val (.int p3), .val (.int p2.toInt8.toInt32), .val (.int p3.toInt8.toInt32), .val (.int (p1 &&& (3 : Int32))), .val (.ref b20), .val (.int (p0 &&& (3 : Int32))), .val (.ref b43), .unset] [(.ref b20), (.ref b43)])) rfl (by rw [hml]; rfl) (argsL := [(.ref b43), (.ref b20)]) (rest := []) (lenOf pd_1 rfl) rfl (by show 2 * 0 + _ ≤ _; exact Nat.le_of_eq rfl) (hb hby at_122) (fun _ _ => ⟨rfl, e47, (by decide : 2 + 1 ≤ _), (by decide : 2 + 2 ≤ _)⟩)
          dsimp only [Pt.U, Pt.locs, Pt.cells, Pt.slots] at X48 l48 y48 z48 st48 hQ48
          subst l48 y48 z48
          obtain ⟨b_48, rfl, Nq48, Kq48, fq48_0, fq48_1, fq48_2, fq48_3, fq48_4⟩ := hQ48
          have N48 := Fr.app N47 Nq48
          have ne_b20_b_48 : b20 ≠ b_48 := Nat.ne_of_lt (Nat.lt_of_lt_of_le A_b20.lt fq48_0)
          have ne_b43_b_48 : b43 ≠ b_48 := Nat.ne_of_lt (Nat.lt_of_lt_of_le A_b43.lt fq48_0)
          have sz_b_48 := Nat.le_trans K47.1 fq48_0
          have A_b20 := A_b20.keep Kq48 nin0
          have A_b43 := A_b43.keep Kq48 nin0
          have g_b_48 := fq48_1
          have E_b_48 := fq48_2
          have F__fingerprint_b_48 := fq48_3
          have F__answer_b_48 := fq48_4
          have K48 := K47.trans Kq48 all0
          refine Ends.step st48 ?_
          show Ends p e below QQ (T48.setTop (mkF m 125 #[.val (.int p0), .val (.int p1), .val (.int p2), .val (.int p3), .val (.int p2.toInt8.toInt32), .val (.int p3.toInt8.toInt32), .val (.int (p1 &&& (3 : Int32))), .val (.ref b20), .val (.int (p0 &&& (3 : Int32))), .val (.ref b43), .unset] [(.ref b_48)]))
          refine Ends.step (fun _ k => XS.astore X48.here hx rfl (hb hby at_125) rfl rfl (l' := #[.val (.int p0), .val (.int p1), .val (.int p2), .val (.int p3), .val (.int p2.toInt8.toInt32), .val (.int p3.toInt8.toInt32), .val (.int (p1 &&& (3 : Int32))), .val (.ref b20), .val (.int (p0 &&& (3 : Int32))), .val (.ref b43), .val (.ref b_48)]) rfl k) ?_
          show Ends p e below QQ (T48.setTop (mkF m 127 #[.val (.int p0), .val (.int p1), .val (.int p2), .val (.int p3), .val (.int p2.toInt8.toInt32), .val (.int p3.toInt8.toInt32), .val (.int (p1 &&& (3 : Int32))), .val (.ref b20), .val (.int (p0 &&& (3 : Int32))), .val (.ref b43), .val (.ref b_48)] []))
          refine Ends.step (fun _ k => XS.aload X48.here hx rfl (hb hby at_127) rfl rfl k) ?_
          show Ends p e below QQ (T48.setTop (mkF m 129 #[.val (.int p0), .val (.int p1), .val (.int p2), .val (.int p3), .val (.int p2.toInt8.toInt32), .val (.int p3.toInt8.toInt32), .val (.int (p1 &&& (3 : Int32))), .val (.ref b20), .val (.int (p0 &&& (3 : Int32))), .val (.ref b43), .val (.ref b_48)] [(.ref b_48)]))
          refine Ends.step (fun _ k => XT.ifnonnullYes X48.here hx rfl (pc0 := 129) (pc' := 134) rfl (hb hby at_129) rfl (by decide) (by decide) k) ?_
          show Ends p e below QQ (T48.setTop (mkF m 134 #[.val (.int p0), .val (.int p1), .val (.int p2), .val (.int p3), .val (.int p2.toInt8.toInt32), .val (.int p3.toInt8.toInt32), .val (.int (p1 &&& (3 : Int32))), .val (.ref b20), .val (.int (p0 &&& (3 : Int32))), .val (.ref b43), .val (.ref b_48)] []))
          refine Ends.step (fun _ k => XS.aload X48.here hx rfl (hb hby at_134) rfl rfl k) ?_
          show Ends p e below QQ (T48.setTop (mkF m 136 #[.val (.int p0), .val (.int p1), .val (.int p2), .val (.int p3), .val (.int p2.toInt8.toInt32), .val (.int p3.toInt8.toInt32), .val (.int (p1 &&& (3 : Int32))), .val (.ref b20), .val (.int (p0 &&& (3 : Int32))), .val (.ref b43), .val (.ref b_48)] [(.ref b_48)]))
          obtain ⟨cq49, kq49, q49a, q49b, q49c⟩ := isOf hZ rfl E_b_48
          obtain ⟨_, _, ⟨T49, L49, k49, n49⟩, -, X49, ⟨Lc49, hQ49, l49, y49, z49⟩, st49⟩ := X48.virtualBack hx (y := (⟨"com/example/wunce/wunce/StoredCall", "fingerprint", "()[B"⟩ : MethodName)) (z := (⟨"com/example/wunce/wunce/StoredCall", "fingerprint", "()[B"⟩ : MethodName)) hown (mvT hZ (hw _ (List.mem_of_getElem? (i := 17) rfl))) (mvT hZ (hw _ (List.mem_of_getElem? (i := 18) rfl))) (notFace_of_selects (args := #[]) (mvT hZ (hw _ (List.mem_of_getElem? (i := 20) rfl)))) (mvT hZ (hw _ (List.mem_of_getElem? (i := 20) rfl))) (mvT hZ (hw _ (List.mem_of_getElem? (i := 19) rfl))) (by decide) (backOf (W := 0) (rm4 l Z a0 hw [] b_48 ((.ref b43) : Value) T48.heap n0 (Nat.le_trans Z0 K48.1) F__fingerprint_b_48 rfl) hZ (hw _ (List.mem_of_getElem? (i := 21) rfl)) (hw _ (List.mem_of_getElem? (i := 3) rfl)) (by decide) (by decide)) q49a q49c (g := (mkF m 136 #[.val (.int p0), .val (.int p1), .val (.int p2), .val (.int p3), .val (.int p2.toInt8.toInt32), .val (.int p3.toInt8.toInt32), .val (.int (p1 &&& (3 : Int32))), .val (.ref b20), .val (.int (p0 &&& (3 : Int32))), .val (.ref b43), .val (.ref b_48)] [(.ref b_48)])) rfl (by rw [hml]; rfl) (Steps.refl _) (argsL := []) (rest := []) (lenOf pd_2 rfl) rfl (by show 2 * 0 + _ ≤ _; exact Nat.le_of_eq rfl) (hb hby at_136) (fun _ _ => ⟨rfl, rfl, (by decide : 3 + 0 ≤ _), (by decide : 4 + 0 ≤ _)⟩)
          dsimp only [Pt.U, Pt.locs, Pt.cells, Pt.slots] at X49 l49 y49 z49 st49 hQ49
          subst l49 y49 z49
          obtain ⟨rfl, Nq49, hh49⟩ := hQ49
          have N49 := Fr.app N48 Nq49
          refine Ends.step (fun _ k => st49.trans k) ?_
          show Ends p e below QQ (T49.setTop (mkF m 139 #[.val (.int p0), .val (.int p1), .val (.int p2), .val (.int p3), .val (.int p2.toInt8.toInt32), .val (.int p3.toInt8.toInt32), .val (.int (p1 &&& (3 : Int32))), .val (.ref b20), .val (.int (p0 &&& (3 : Int32))), .val (.ref b43), .val (.ref b_48)] [(.ref b43)]))
          refine Ends.step (fun _ k => XS.aload X49.here hx rfl (hb hby at_139) rfl rfl k) ?_
          show Ends p e below QQ (T49.setTop (mkF m 141 #[.val (.int p0), .val (.int p1), .val (.int p2), .val (.int p3), .val (.int p2.toInt8.toInt32), .val (.int p3.toInt8.toInt32), .val (.int (p1 &&& (3 : Int32))), .val (.ref b20), .val (.int (p0 &&& (3 : Int32))), .val (.ref b43), .val (.ref b_48)] [(.ref b43), (.ref b43)]))
          refine Ends.step (fun _ k => Jvm.RoadKit.acmp (g := (mkF m 141 #[.val (.int p0), .val (.int p1), .val (.int p2), .val (.int p3), .val (.int p2.toInt8.toInt32), .val (.int p3.toInt8.toInt32), .val (.int (p1 &&& (3 : Int32))), .val (.ref b20), .val (.int (p0 &&& (3 : Int32))), .val (.ref b43), .val (.ref b_48)] [(.ref b43), (.ref b43)])) X49 hx rfl rfl rfl (pc0 := 141) (pc' := 146) (same := true) rfl (hb hby at_141) rfl (decide_eq_true rfl) (by decide) (by decide) k) ?_
          show Ends p e below QQ (T49.setTop (mkF m 146 #[.val (.int p0), .val (.int p1), .val (.int p2), .val (.int p3), .val (.int p2.toInt8.toInt32), .val (.int p3.toInt8.toInt32), .val (.int (p1 &&& (3 : Int32))), .val (.ref b20), .val (.int (p0 &&& (3 : Int32))), .val (.ref b43), .val (.ref b_48)] []))
          refine Ends.step (fun _ k => XS.aload X49.here hx rfl (hb hby at_146) rfl rfl k) ?_
          show Ends p e below QQ (T49.setTop (mkF m 148 #[.val (.int p0), .val (.int p1), .val (.int p2), .val (.int p3), .val (.int p2.toInt8.toInt32), .val (.int p3.toInt8.toInt32), .val (.int (p1 &&& (3 : Int32))), .val (.ref b20), .val (.int (p0 &&& (3 : Int32))), .val (.ref b43), .val (.ref b_48)] [(.ref b_48)]))
          obtain ⟨cq50, kq50, q50a, q50b, q50c⟩ := isOf hZ hh49 E_b_48
          obtain ⟨_, _, ⟨T50, L50, k50, n50⟩, -, X50, ⟨Lc50, hQ50, l50, y50, z50⟩, st50⟩ := X49.virtualBack hx (y := (⟨"com/example/wunce/wunce/StoredCall", "answer", "()[B"⟩ : MethodName)) (z := (⟨"com/example/wunce/wunce/StoredCall", "answer", "()[B"⟩ : MethodName)) hown (mvT hZ (hw _ (List.mem_of_getElem? (i := 22) rfl))) (mvT hZ (hw _ (List.mem_of_getElem? (i := 23) rfl))) (notFace_of_selects (args := #[]) (mvT hZ (hw _ (List.mem_of_getElem? (i := 25) rfl)))) (mvT hZ (hw _ (List.mem_of_getElem? (i := 25) rfl))) (mvT hZ (hw _ (List.mem_of_getElem? (i := 24) rfl))) (by decide) (backOf (W := 0) (rm5 l Z a0 hw [] b_48 ((.ref b20) : Value) T48.heap n0 (Nat.le_trans Z0 K48.1) F__answer_b_48 rfl) hZ (hw _ (List.mem_of_getElem? (i := 26) rfl)) (hw _ (List.mem_of_getElem? (i := 3) rfl)) (by decide) (by decide)) q50a q50c (g := (mkF m 148 #[.val (.int p0), .val (.int p1), .val (.int p2), .val (.int p3), .val (.int p2.toInt8.toInt32), .val (.int p3.toInt8.toInt32), .val (.int (p1 &&& (3 : Int32))), .val (.ref b20), .val (.int (p0 &&& (3 : Int32))), .val (.ref b43), .val (.ref b_48)] [(.ref b_48)])) rfl (by rw [hml]; rfl) (Steps.refl _) (argsL := []) (rest := []) (lenOf pd_2 rfl) rfl (by show 2 * 0 + _ ≤ _; exact Nat.le_of_eq rfl) (hb hby at_148) (fun _ _ => ⟨rfl, hh49, (by decide : 3 + 0 ≤ _), (by decide : 4 + 0 ≤ _)⟩)
          dsimp only [Pt.U, Pt.locs, Pt.cells, Pt.slots] at X50 l50 y50 z50 st50 hQ50
          subst l50 y50 z50
          obtain ⟨rfl, Nq50, hh50⟩ := hQ50
          have N50 := Fr.app N49 Nq50
          refine Ends.step (fun _ k => st50.trans k) ?_
          show Ends p e below QQ (T50.setTop (mkF m 151 #[.val (.int p0), .val (.int p1), .val (.int p2), .val (.int p3), .val (.int p2.toInt8.toInt32), .val (.int p3.toInt8.toInt32), .val (.int (p1 &&& (3 : Int32))), .val (.ref b20), .val (.int (p0 &&& (3 : Int32))), .val (.ref b43), .val (.ref b_48)] [(.ref b20)]))
          refine Ends.step (fun _ k => XS.aload X50.here hx rfl (hb hby at_151) rfl rfl k) ?_
          show Ends p e below QQ (T50.setTop (mkF m 153 #[.val (.int p0), .val (.int p1), .val (.int p2), .val (.int p3), .val (.int p2.toInt8.toInt32), .val (.int p3.toInt8.toInt32), .val (.int (p1 &&& (3 : Int32))), .val (.ref b20), .val (.int (p0 &&& (3 : Int32))), .val (.ref b43), .val (.ref b_48)] [(.ref b20), (.ref b20)]))
          refine Ends.step (fun _ k => Jvm.RoadKit.acmp (g := (mkF m 153 #[.val (.int p0), .val (.int p1), .val (.int p2), .val (.int p3), .val (.int p2.toInt8.toInt32), .val (.int p3.toInt8.toInt32), .val (.int (p1 &&& (3 : Int32))), .val (.ref b20), .val (.int (p0 &&& (3 : Int32))), .val (.ref b43), .val (.ref b_48)] [(.ref b20), (.ref b20)])) X50 hx rfl rfl rfl (pc0 := 153) (pc' := 158) (same := true) rfl (hb hby at_153) rfl (decide_eq_true rfl) (by decide) (by decide) k) ?_
          show Ends p e below QQ (T50.setTop (mkF m 158 #[.val (.int p0), .val (.int p1), .val (.int p2), .val (.int p3), .val (.int p2.toInt8.toInt32), .val (.int p3.toInt8.toInt32), .val (.int (p1 &&& (3 : Int32))), .val (.ref b20), .val (.int (p0 &&& (3 : Int32))), .val (.ref b43), .val (.ref b_48)] []))
          refine Ends.step (fun _ k => XS.aload X50.here hx rfl (hb hby at_158) rfl rfl k) ?_
          show Ends p e below QQ (T50.setTop (mkF m 160 #[.val (.int p0), .val (.int p1), .val (.int p2), .val (.int p3), .val (.int p2.toInt8.toInt32), .val (.int p3.toInt8.toInt32), .val (.int (p1 &&& (3 : Int32))), .val (.ref b20), .val (.int (p0 &&& (3 : Int32))), .val (.ref b43), .val (.ref b_48)] [(.ref b_48)]))
          obtain ⟨cq51, kq51, q51a, q51b, q51c⟩ := isOf hZ hh50 E_b_48
          obtain ⟨_, _, ⟨T51, L51, k51, n51⟩, -, X51, ⟨Lc51, hQ51, l51, y51, z51⟩, st51⟩ := X50.virtualBack hx (y := (⟨"com/example/wunce/wunce/StoredCall", "isFinished", "()Z"⟩ : MethodName)) (z := (⟨"com/example/wunce/wunce/StoredCall", "isFinished", "()Z"⟩ : MethodName)) hown (mvT hZ (hw _ (List.mem_of_getElem? (i := 27) rfl))) (mvT hZ (hw _ (List.mem_of_getElem? (i := 28) rfl))) (notFace_of_selects (args := #[]) (mvT hZ (hw _ (List.mem_of_getElem? (i := 30) rfl)))) (mvT hZ (hw _ (List.mem_of_getElem? (i := 30) rfl))) (mvT hZ (hw _ (List.mem_of_getElem? (i := 29) rfl))) (by decide) (backOf (W := 0) (rm6 l Z a0 hw [] b_48 b20 T48.heap n0 (Nat.le_trans Z0 K48.1) F__answer_b_48) hZ (hw _ (List.mem_of_getElem? (i := 31) rfl)) (hw _ (List.mem_of_getElem? (i := 3) rfl)) (by decide) (by decide)) q51a q51c (g := (mkF m 160 #[.val (.int p0), .val (.int p1), .val (.int p2), .val (.int p3), .val (.int p2.toInt8.toInt32), .val (.int p3.toInt8.toInt32), .val (.int (p1 &&& (3 : Int32))), .val (.ref b20), .val (.int (p0 &&& (3 : Int32))), .val (.ref b43), .val (.ref b_48)] [(.ref b_48)])) rfl (by rw [hml]; rfl) (Steps.refl _) (argsL := []) (rest := []) (lenOf pd_3 rfl) rfl (by show 2 * 0 + _ ≤ _; exact Nat.le_of_eq rfl) (hb hby at_160) (fun _ _ => ⟨rfl, hh50, (by decide : 3 + 0 ≤ _), (by decide : 4 + 0 ≤ _)⟩)
          dsimp only [Pt.U, Pt.locs, Pt.cells, Pt.slots] at X51 l51 y51 z51 st51 hQ51
          subst l51 y51 z51
          obtain ⟨rfl, Nq51, hh51⟩ := hQ51
          have N51 := Fr.app N50 Nq51
          refine Ends.step (fun _ k => st51.trans k) ?_
          show Ends p e below QQ (T51.setTop (mkF m 163 #[.val (.int p0), .val (.int p1), .val (.int p2), .val (.int p3), .val (.int p2.toInt8.toInt32), .val (.int p3.toInt8.toInt32), .val (.int (p1 &&& (3 : Int32))), .val (.ref b20), .val (.int (p0 &&& (3 : Int32))), .val (.ref b43), .val (.ref b_48)] [(.int (1 : Int32))]))
          refine Ends.step (fun _ k => XS.ifYes X51.here hx rfl (pc0 := 163) (pc' := 168) rfl (hb hby at_163) rfl (XT.i0_ne_t (by decide)) (by decide) (by decide) k) ?_
          show Ends p e below QQ (T51.setTop (mkF m 168 #[.val (.int p0), .val (.int p1), .val (.int p2), .val (.int p3), .val (.int p2.toInt8.toInt32), .val (.int p3.toInt8.toInt32), .val (.int (p1 &&& (3 : Int32))), .val (.ref b20), .val (.int (p0 &&& (3 : Int32))), .val (.ref b43), .val (.ref b_48)] []))
          refine Ends.step (fun _ k => XS.aload X51.here hx rfl (hb hby at_168) rfl rfl k) ?_
          show Ends p e below QQ (T51.setTop (mkF m 170 #[.val (.int p0), .val (.int p1), .val (.int p2), .val (.int p3), .val (.int p2.toInt8.toInt32), .val (.int p3.toInt8.toInt32), .val (.int (p1 &&& (3 : Int32))), .val (.ref b20), .val (.int (p0 &&& (3 : Int32))), .val (.ref b43), .val (.ref b_48)] [(.ref b20)]))
          refine Ends.step (fun _ k => XS.iload X51.here hx rfl (hb hby at_170) rfl k) ?_
          show Ends p e below QQ (T51.setTop (mkF m 172 #[.val (.int p0), .val (.int p1), .val (.int p2), .val (.int p3), .val (.int p2.toInt8.toInt32), .val (.int p3.toInt8.toInt32), .val (.int (p1 &&& (3 : Int32))), .val (.ref b20), .val (.int (p0 &&& (3 : Int32))), .val (.ref b43), .val (.ref b_48)] [(.int (p1 &&& (3 : Int32))), (.ref b20)]))
          refine Ends.step (fun _ k => XS.iload X51.here hx rfl (hb hby at_172) rfl k) ?_
          show Ends p e below QQ (T51.setTop (mkF m 174 #[.val (.int p0), .val (.int p1), .val (.int p2), .val (.int p3), .val (.int p2.toInt8.toInt32), .val (.int p3.toInt8.toInt32), .val (.int (p1 &&& (3 : Int32))), .val (.ref b20), .val (.int (p0 &&& (3 : Int32))), .val (.ref b43), .val (.ref b_48)] [(.int p2.toInt8.toInt32), (.int (p1 &&& (3 : Int32))), (.ref b20)]))
          refine Ends.step (fun _ k => XS.iload X51.here hx rfl (hb hby at_174) rfl k) ?_
          show Ends p e below QQ (T51.setTop (mkF m 176 #[.val (.int p0), .val (.int p1), .val (.int p2), .val (.int p3), .val (.int p2.toInt8.toInt32), .val (.int p3.toInt8.toInt32), .val (.int (p1 &&& (3 : Int32))), .val (.ref b20), .val (.int (p0 &&& (3 : Int32))), .val (.ref b43), .val (.ref b_48)] [(.int p3.toInt8.toInt32), (.int p2.toInt8.toInt32), (.int (p1 &&& (3 : Int32))), (.ref b20)]))
          obtain ⟨_, _, ⟨T52, L52, k52, n52⟩, -, X52, ⟨Lc52, hQ52, l52, y52, z52⟩, st52⟩ := Jvm.LawKit.callS X51 hx (y := (⟨"com/example/wunce/wunce/StoredCallFinishedPinLaw", "answerIntact", "([BIBB)Z"⟩ : MethodName)) hown (mvT hZ (hw _ (List.mem_of_getElem? (i := 32) rfl))) (mvT hZ (hw _ (List.mem_of_getElem? (i := 33) rfl))) (mvT hZ (hw _ (List.mem_of_getElem? (i := 34) rfl))) (mvT hZ (hw _ (List.mem_of_getElem? (i := 35) rfl))) (by decide) (backOf (W := 0) (rm7a l Z a0 hw [] b20 (p1 &&& (3 : Int32)) (p2.toInt8.toInt32) (p3.toInt8.toInt32) k20 T48.heap n0 (Nat.le_trans Z0 K48.1) A_b20 (by first | assumption | rfl | decide)) hZ (hw _ (List.mem_of_getElem? (i := 35) rfl)) (hw _ (List.mem_of_getElem? (i := 34) rfl)) (by decide) (by decide)) (g := (mkF m 176 #[.val (.int p0), .val (.int p1), .val (.int p2), .val (.int p3), .val (.int p2.toInt8.toInt32), .val (.int p3.toInt8.toInt32), .val (.int (p1 &&& (3 : Int32))), .val (.ref b20), .val (.int (p0 &&& (3 : Int32))), .val (.ref b43), .val (.ref b_48)] [(.int p3.toInt8.toInt32), (.int p2.toInt8.toInt32), (.int (p1 &&& (3 : Int32))), (.ref b20)])) rfl (by rw [hml]; rfl) (argsL := [(.ref b20), (.int (p1 &&& (3 : Int32))), (.int p2.toInt8.toInt32), (.int p3.toInt8.toInt32)]) (rest := []) (lenOf pd_4 rfl) rfl (by show 2 * 0 + _ ≤ _; exact Nat.le_of_eq rfl) (hb hby at_176) (fun _ _ => ⟨rfl, hh51, (by decide : 3 + 0 ≤ _), (by decide : 4 + 0 ≤ _)⟩)
          dsimp only [Pt.U, Pt.locs, Pt.cells, Pt.slots] at X52 l52 y52 z52 st52 hQ52
          subst l52 y52 z52
          obtain ⟨rfl, Nq52, hh52⟩ := hQ52
          have N52 := Fr.app N51 Nq52
          refine Ends.step st52 ?_
          show Ends p e below QQ (T52.setTop (mkF m 179 #[.val (.int p0), .val (.int p1), .val (.int p2), .val (.int p3), .val (.int p2.toInt8.toInt32), .val (.int p3.toInt8.toInt32), .val (.int (p1 &&& (3 : Int32))), .val (.ref b20), .val (.int (p0 &&& (3 : Int32))), .val (.ref b43), .val (.ref b_48)] [(.int (1 : Int32))]))
          refine Ends.step (fun _ k => XS.ifNo X52.here hx rfl (hb hby at_179) rfl (XT.i0_eq_f (by decide)) k) ?_
          show Ends p e below QQ (T52.setTop (mkF m 182 #[.val (.int p0), .val (.int p1), .val (.int p2), .val (.int p3), .val (.int p2.toInt8.toInt32), .val (.int p3.toInt8.toInt32), .val (.int (p1 &&& (3 : Int32))), .val (.ref b20), .val (.int (p0 &&& (3 : Int32))), .val (.ref b43), .val (.ref b_48)] []))
          refine Ends.step (fun _ k => XS.aload X52.here hx rfl (hb hby at_182) rfl rfl k) ?_
          show Ends p e below QQ (T52.setTop (mkF m 184 #[.val (.int p0), .val (.int p1), .val (.int p2), .val (.int p3), .val (.int p2.toInt8.toInt32), .val (.int p3.toInt8.toInt32), .val (.int (p1 &&& (3 : Int32))), .val (.ref b20), .val (.int (p0 &&& (3 : Int32))), .val (.ref b43), .val (.ref b_48)] [(.ref b43)]))
          refine Ends.step (fun _ k => XS.iload X52.here hx rfl (hb hby at_184) rfl k) ?_
          show Ends p e below QQ (T52.setTop (mkF m 186 #[.val (.int p0), .val (.int p1), .val (.int p2), .val (.int p3), .val (.int p2.toInt8.toInt32), .val (.int p3.toInt8.toInt32), .val (.int (p1 &&& (3 : Int32))), .val (.ref b20), .val (.int (p0 &&& (3 : Int32))), .val (.ref b43), .val (.ref b_48)] [(.int (p0 &&& (3 : Int32))), (.ref b43)]))
          refine Ends.step (fun _ k => XS.iload X52.here hx rfl (hb hby at_186) rfl k) ?_
          show Ends p e below QQ (T52.setTop (mkF m 188 #[.val (.int p0), .val (.int p1), .val (.int p2), .val (.int p3), .val (.int p2.toInt8.toInt32), .val (.int p3.toInt8.toInt32), .val (.int (p1 &&& (3 : Int32))), .val (.ref b20), .val (.int (p0 &&& (3 : Int32))), .val (.ref b43), .val (.ref b_48)] [(.int p2.toInt8.toInt32), (.int (p0 &&& (3 : Int32))), (.ref b43)]))
          refine Ends.step (fun _ k => XS.iload X52.here hx rfl (hb hby at_188) rfl k) ?_
          show Ends p e below QQ (T52.setTop (mkF m 190 #[.val (.int p0), .val (.int p1), .val (.int p2), .val (.int p3), .val (.int p2.toInt8.toInt32), .val (.int p3.toInt8.toInt32), .val (.int (p1 &&& (3 : Int32))), .val (.ref b20), .val (.int (p0 &&& (3 : Int32))), .val (.ref b43), .val (.ref b_48)] [(.int p3.toInt8.toInt32), (.int p2.toInt8.toInt32), (.int (p0 &&& (3 : Int32))), (.ref b43)]))
          obtain ⟨_, _, ⟨T53, L53, k53, n53⟩, -, X53, ⟨Lc53, hQ53, l53, y53, z53⟩, st53⟩ := Jvm.LawKit.callS X52 hx (y := (⟨"com/example/wunce/wunce/StoredCallFinishedPinLaw", "fingerprintIntact", "([BIBB)Z"⟩ : MethodName)) hown (mvT hZ (hw _ (List.mem_of_getElem? (i := 36) rfl))) (mvT hZ (hw _ (List.mem_of_getElem? (i := 37) rfl))) (mvT hZ (hw _ (List.mem_of_getElem? (i := 34) rfl))) (mvT hZ (hw _ (List.mem_of_getElem? (i := 38) rfl))) (by decide) (backOf (W := 0) (rm8d l Z a0 hw [] b43 (p0 &&& (3 : Int32)) (p2.toInt8.toInt32) (p3.toInt8.toInt32) k43 T48.heap n0 (Nat.le_trans Z0 K48.1) A_b43 (by first | assumption | rfl | decide) (by first | assumption | rfl | decide) (by first | assumption | rfl | decide)) hZ (hw _ (List.mem_of_getElem? (i := 38) rfl)) (hw _ (List.mem_of_getElem? (i := 34) rfl)) (by decide) (by decide)) (g := (mkF m 190 #[.val (.int p0), .val (.int p1), .val (.int p2), .val (.int p3), .val (.int p2.toInt8.toInt32), .val (.int p3.toInt8.toInt32), .val (.int (p1 &&& (3 : Int32))), .val (.ref b20), .val (.int (p0 &&& (3 : Int32))), .val (.ref b43), .val (.ref b_48)] [(.int p3.toInt8.toInt32), (.int p2.toInt8.toInt32), (.int (p0 &&& (3 : Int32))), (.ref b43)])) rfl (by rw [hml]; rfl) (argsL := [(.ref b43), (.int (p0 &&& (3 : Int32))), (.int p2.toInt8.toInt32), (.int p3.toInt8.toInt32)]) (rest := []) (lenOf pd_4 rfl) rfl (by show 2 * 0 + _ ≤ _; exact Nat.le_of_eq rfl) (hb hby at_190) (fun _ _ => ⟨rfl, hh52, (by decide : 3 + 0 ≤ _), (by decide : 4 + 0 ≤ _)⟩)
          dsimp only [Pt.U, Pt.locs, Pt.cells, Pt.slots] at X53 l53 y53 z53 st53 hQ53
          subst l53 y53 z53
          obtain ⟨rfl, Nq53, hh53⟩ := hQ53
          have N53 := Fr.app N52 Nq53
          refine Ends.step st53 ?_
          show Ends p e below QQ (T53.setTop (mkF m 193 #[.val (.int p0), .val (.int p1), .val (.int p2), .val (.int p3), .val (.int p2.toInt8.toInt32), .val (.int p3.toInt8.toInt32), .val (.int (p1 &&& (3 : Int32))), .val (.ref b20), .val (.int (p0 &&& (3 : Int32))), .val (.ref b43), .val (.ref b_48)] [(.int (1 : Int32))]))
          refine Ends.step (fun _ k => XS.ifNo X53.here hx rfl (hb hby at_193) rfl (XT.i0_eq_f (by decide)) k) ?_
          show Ends p e below QQ (T53.setTop (mkF m 196 #[.val (.int p0), .val (.int p1), .val (.int p2), .val (.int p3), .val (.int p2.toInt8.toInt32), .val (.int p3.toInt8.toInt32), .val (.int (p1 &&& (3 : Int32))), .val (.ref b20), .val (.int (p0 &&& (3 : Int32))), .val (.ref b43), .val (.ref b_48)] []))
          refine Ends.step (fun _ k => XT.iconstV X53.here hx rfl (1 : Int32) (hb hby at_196) rfl k) ?_
          show Ends p e below QQ (T53.setTop (mkF m 197 #[.val (.int p0), .val (.int p1), .val (.int p2), .val (.int p3), .val (.int p2.toInt8.toInt32), .val (.int p3.toInt8.toInt32), .val (.int (p1 &&& (3 : Int32))), .val (.ref b20), .val (.int (p0 &&& (3 : Int32))), .val (.ref b43), .val (.ref b_48)] [(.int (1 : Int32))]))
          refine Ends.step (fun _ k => XS.goto X53.here hx rfl (pc0 := 197) (pc' := 201) rfl (hb hby at_197) (by decide) (by decide) k) ?_
          show Ends p e below QQ (T53.setTop (mkF m 201 #[.val (.int p0), .val (.int p1), .val (.int p2), .val (.int p3), .val (.int p2.toInt8.toInt32), .val (.int p3.toInt8.toInt32), .val (.int (p1 &&& (3 : Int32))), .val (.ref b20), .val (.int (p0 &&& (3 : Int32))), .val (.ref b43), .val (.ref b_48)] [(.int (1 : Int32))]))
          exact Ends.fin (some (.int (1 : Int32))) X53 hQQ (fun h => by rw [Bd.returns] at h; cases h) Bd.notSynchronized (fun _ hr => retOut X53 hx (t := .boolean) Bd.returns rfl (Or.inl ⟨rfl, (by simp), _, rfl⟩) (hb hby at_201) hr) hh53 (by decide) (by decide) ⟨(by simp only [f0, if_pos hc15_19, if_neg hc67_21, if_neg hc79_28, if_neg hc92_35]), N53, K48⟩
  · refine Ends.step (fun _ k => XS.ifYes X0.here hx rfl (pc0 := 15) (pc' := 26) rfl (hb hby at_15) rfl (XT.i0_ne_t hc15_19) (by decide) (by decide) k) ?_
    show Ends p e below QQ (s₁.setTop (mkF m 26 #[.val (.int p0), .val (.int p1), .val (.int p2), .val (.int p3), .val (.int p2.toInt8.toInt32), .val (.int p3.toInt8.toInt32), .val (.int (p1 &&& (3 : Int32))), .unset, .unset, .unset, .unset] []))
    refine Ends.step (fun _ k => XS.iload X0.here hx rfl (hb hby at_26) rfl k) ?_
    show Ends p e below QQ (s₁.setTop (mkF m 28 #[.val (.int p0), .val (.int p1), .val (.int p2), .val (.int p3), .val (.int p2.toInt8.toInt32), .val (.int p3.toInt8.toInt32), .val (.int (p1 &&& (3 : Int32))), .unset, .unset, .unset, .unset] [(.int (p1 &&& (3 : Int32)))]))
    refine Ends.step (fun _ k => XT.iconstV X0.here hx rfl (1 : Int32) (hb hby at_28) rfl k) ?_
    show Ends p e below QQ (s₁.setTop (mkF m 29 #[.val (.int p0), .val (.int p1), .val (.int p2), .val (.int p3), .val (.int p2.toInt8.toInt32), .val (.int p3.toInt8.toInt32), .val (.int (p1 &&& (3 : Int32))), .unset, .unset, .unset, .unset] [(.int (1 : Int32)), (.int (p1 &&& (3 : Int32)))]))
    by_cases hc29_54 : (p1 &&& (3 : Int32)) = (1 : Int32)
    · refine Ends.step (fun _ k => XS.icmpNo X0.here hx rfl (hb hby at_29) rfl (XT.ii_ne_f hc29_54) k) ?_
      show Ends p e below QQ (s₁.setTop (mkF m 32 #[.val (.int p0), .val (.int p1), .val (.int p2), .val (.int p3), .val (.int p2.toInt8.toInt32), .val (.int p3.toInt8.toInt32), .val (.int (p1 &&& (3 : Int32))), .unset, .unset, .unset, .unset] []))
      refine Ends.step (fun _ k => XT.iconstV X0.here hx rfl (1 : Int32) (hb hby at_32) rfl k) ?_
      show Ends p e below QQ (s₁.setTop (mkF m 33 #[.val (.int p0), .val (.int p1), .val (.int p2), .val (.int p3), .val (.int p2.toInt8.toInt32), .val (.int p3.toInt8.toInt32), .val (.int (p1 &&& (3 : Int32))), .unset, .unset, .unset, .unset] [(.int (1 : Int32))]))
      obtain ⟨T55, h55, k55, X55, e55, E55, A55, st55⟩ := newP X0 hx hZ (hw _ (List.mem_of_getElem? (i := 0) rfl)) e0 (g := (mkF m 33 #[.val (.int p0), .val (.int p1), .val (.int p2), .val (.int p3), .val (.int p2.toInt8.toInt32), .val (.int p3.toInt8.toInt32), .val (.int (p1 &&& (3 : Int32))), .unset, .unset, .unset, .unset] [(.int (1 : Int32))])) rfl (hb hby at_33) rfl (by decide) (cap := 1) (by decide) (by decide) (by decide) (by decide)
      obtain ⟨b55, g55⟩ : ∃ z, z = h0.size := ⟨_, rfl⟩
      rw [← g55] at A55 st55
      have g_b55 : n0 ≤ b55 := Nat.le_trans Z0 (Nat.le_trans (Keep.refl h0 []).1 (Nat.le_of_eq g55.symm))
      have sz_b55 : h0.size ≤ b55 := Nat.le_trans (Keep.refl h0 []).1 (Nat.le_of_eq g55.symm)
      have K55 := (Keep.refl h0 []).ext E55
      have A_b55 : Arv Z h55 b55 k55 .byte (1 : Int32) [(.int (0 : Int32))] (.int (0 : Int32)) := (Arv.new A55 (by decide)).pad (pad_rep [] (.int (0 : Int32)) 1)
      refine Ends.step st55 ?_
      show Ends p e below QQ (T55.setTop (mkF m 35 #[.val (.int p0), .val (.int p1), .val (.int p2), .val (.int p3), .val (.int p2.toInt8.toInt32), .val (.int p3.toInt8.toInt32), .val (.int (p1 &&& (3 : Int32))), .unset, .unset, .unset, .unset] [(.ref b55)]))
      refine Ends.step (fun _ k => XS.dup X55.here hx rfl (hb hby at_35) rfl rfl k) ?_
      show Ends p e below QQ (T55.setTop (mkF m 36 #[.val (.int p0), .val (.int p1), .val (.int p2), .val (.int p3), .val (.int p2.toInt8.toInt32), .val (.int p3.toInt8.toInt32), .val (.int (p1 &&& (3 : Int32))), .unset, .unset, .unset, .unset] [(.ref b55), (.ref b55)]))
      refine Ends.step (fun _ k => XT.iconstV X55.here hx rfl (0 : Int32) (hb hby at_36) rfl k) ?_
      show Ends p e below QQ (T55.setTop (mkF m 37 #[.val (.int p0), .val (.int p1), .val (.int p2), .val (.int p3), .val (.int p2.toInt8.toInt32), .val (.int p3.toInt8.toInt32), .val (.int (p1 &&& (3 : Int32))), .unset, .unset, .unset, .unset] [(.int (0 : Int32)), (.ref b55), (.ref b55)]))
      refine Ends.step (fun _ k => XS.iload X55.here hx rfl (hb hby at_37) rfl k) ?_
      show Ends p e below QQ (T55.setTop (mkF m 39 #[.val (.int p0), .val (.int p1), .val (.int p2), .val (.int p3), .val (.int p2.toInt8.toInt32), .val (.int p3.toInt8.toInt32), .val (.int (p1 &&& (3 : Int32))), .unset, .unset, .unset, .unset] [(.int p2.toInt8.toInt32), (.int (0 : Int32)), (.ref b55), (.ref b55)]))
      obtain ⟨cl56, Ar56, q56, S56, P56, H56, G56⟩ := id A_b55
      have hin56 : ¬ ((0 : Int32) < 0 ∨ cl56.slots.size ≤ ((0 : Int32)).toNatClampNeg) := inb_of S56 ⟨by decide, by decide⟩
      obtain ⟨T57, h57, X57, e57, W57, st57⟩ := stB X55 hx hZ e55 Ar56 (j := (0 : Int32)) hin56 (g := (mkF m 39 #[.val (.int p0), .val (.int p1), .val (.int p2), .val (.int p3), .val (.int p2.toInt8.toInt32), .val (.int p3.toInt8.toInt32), .val (.int (p1 &&& (3 : Int32))), .unset, .unset, .unset, .unset] [(.int p2.toInt8.toInt32), (.int (0 : Int32)), (.ref b55), (.ref b55)])) rfl rfl (hb hby at_39)
      rw [own_narb] at W57
      have A_b55 : Arv Z h57 b55 k55 .byte (1 : Int32) [(.int p2.toInt8.toInt32)] (.int (0 : Int32)) := Arv.set Ar56 q56 S56 P56 H56 G56 (fits_nar_byte _) W57 0 rfl (Nat.le_of_ble_eq_true rfl)
      have K57 := K55.wr W57 (Or.inr sz_b55)
      have N57 := Fr.snoc X57 N0 g_b55
      refine Ends.step st57 ?_
      show Ends p e below QQ (T57.setTop (mkF m 40 #[.val (.int p0), .val (.int p1), .val (.int p2), .val (.int p3), .val (.int p2.toInt8.toInt32), .val (.int p3.toInt8.toInt32), .val (.int (p1 &&& (3 : Int32))), .unset, .unset, .unset, .unset] [(.ref b55)]))
      refine Ends.step (fun _ k => XS.astore X57.here hx rfl (hb hby at_40) rfl rfl (l' := #[.val (.int p0), .val (.int p1), .val (.int p2), .val (.int p3), .val (.int p2.toInt8.toInt32), .val (.int p3.toInt8.toInt32), .val (.int (p1 &&& (3 : Int32))), .val (.ref b55), .unset, .unset, .unset]) rfl k) ?_
      show Ends p e below QQ (T57.setTop (mkF m 42 #[.val (.int p0), .val (.int p1), .val (.int p2), .val (.int p3), .val (.int p2.toInt8.toInt32), .val (.int p3.toInt8.toInt32), .val (.int (p1 &&& (3 : Int32))), .val (.ref b55), .unset, .unset, .unset] []))
      refine Ends.step (fun _ k => XS.goto X57.here hx rfl (pc0 := 42) (pc' := 60) rfl (hb hby at_42) (by decide) (by decide) k) ?_
      show Ends p e below QQ (T57.setTop (mkF m 60 #[.val (.int p0), .val (.int p1), .val (.int p2), .val (.int p3), .val (.int p2.toInt8.toInt32), .val (.int p3.toInt8.toInt32), .val (.int (p1 &&& (3 : Int32))), .val (.ref b55), .unset, .unset, .unset] []))
      refine Ends.step (fun _ k => XS.iloadN X57.here hx rfl (hb hby at_60) rfl k) ?_
      show Ends p e below QQ (T57.setTop (mkF m 61 #[.val (.int p0), .val (.int p1), .val (.int p2), .val (.int p3), .val (.int p2.toInt8.toInt32), .val (.int p3.toInt8.toInt32), .val (.int (p1 &&& (3 : Int32))), .val (.ref b55), .unset, .unset, .unset] [(.int p0)]))
      refine Ends.step (fun _ k => XT.iconstV X57.here hx rfl (3 : Int32) (hb hby at_61) rfl k) ?_
      show Ends p e below QQ (T57.setTop (mkF m 62 #[.val (.int p0), .val (.int p1), .val (.int p2), .val (.int p3), .val (.int p2.toInt8.toInt32), .val (.int p3.toInt8.toInt32), .val (.int (p1 &&& (3 : Int32))), .val (.ref b55), .unset, .unset, .unset] [(.int (3 : Int32)), (.int p0)]))
      refine Ends.step (fun _ k => XS.iand X57.here hx rfl (hb hby at_62) rfl k) ?_
      show Ends p e below QQ (T57.setTop (mkF m 63 #[.val (.int p0), .val (.int p1), .val (.int p2), .val (.int p3), .val (.int p2.toInt8.toInt32), .val (.int p3.toInt8.toInt32), .val (.int (p1 &&& (3 : Int32))), .val (.ref b55), .unset, .unset, .unset] [(.int (p0 &&& (3 : Int32)))]))
      refine Ends.step (fun _ k => XS.istore X57.here hx rfl (hb hby at_63) rfl (l' := #[.val (.int p0), .val (.int p1), .val (.int p2), .val (.int p3), .val (.int p2.toInt8.toInt32), .val (.int p3.toInt8.toInt32), .val (.int (p1 &&& (3 : Int32))), .val (.ref b55), .val (.int (p0 &&& (3 : Int32))), .unset, .unset]) rfl k) ?_
      show Ends p e below QQ (T57.setTop (mkF m 65 #[.val (.int p0), .val (.int p1), .val (.int p2), .val (.int p3), .val (.int p2.toInt8.toInt32), .val (.int p3.toInt8.toInt32), .val (.int (p1 &&& (3 : Int32))), .val (.ref b55), .val (.int (p0 &&& (3 : Int32))), .unset, .unset] []))
      refine Ends.step (fun _ k => XS.iload X57.here hx rfl (hb hby at_65) rfl k) ?_
      show Ends p e below QQ (T57.setTop (mkF m 67 #[.val (.int p0), .val (.int p1), .val (.int p2), .val (.int p3), .val (.int p2.toInt8.toInt32), .val (.int p3.toInt8.toInt32), .val (.int (p1 &&& (3 : Int32))), .val (.ref b55), .val (.int (p0 &&& (3 : Int32))), .unset, .unset] [(.int (p0 &&& (3 : Int32)))]))
      by_cases hc67_58 : (p0 &&& (3 : Int32)) = (0 : Int32)
      · refine Ends.step (fun _ k => XS.ifNo X57.here hx rfl (hb hby at_67) rfl (XT.i0_ne_f hc67_58) k) ?_
        show Ends p e below QQ (T57.setTop (mkF m 70 #[.val (.int p0), .val (.int p1), .val (.int p2), .val (.int p3), .val (.int p2.toInt8.toInt32), .val (.int p3.toInt8.toInt32), .val (.int (p1 &&& (3 : Int32))), .val (.ref b55), .val (.int (p0 &&& (3 : Int32))), .unset, .unset] []))
        refine Ends.step (fun _ k => XS.aconstNull X57.here hx rfl (hb hby at_70) k) ?_
        show Ends p e below QQ (T57.setTop (mkF m 71 #[.val (.int p0), .val (.int p1), .val (.int p2), .val (.int p3), .val (.int p2.toInt8.toInt32), .val (.int p3.toInt8.toInt32), .val (.int (p1 &&& (3 : Int32))), .val (.ref b55), .val (.int (p0 &&& (3 : Int32))), .unset, .unset] [.null]))
        refine Ends.step (fun _ k => XS.astore X57.here hx rfl (hb hby at_71) rfl rfl (l' := #[.val (.int p0), .val (.int p1), .val (.int p2), .val (.int p3), .val (.int p2.toInt8.toInt32), .val (.int p3.toInt8.toInt32), .val (.int (p1 &&& (3 : Int32))), .val (.ref b55), .val (.int (p0 &&& (3 : Int32))), .val .null, .unset]) rfl k) ?_
        show Ends p e below QQ (T57.setTop (mkF m 73 #[.val (.int p0), .val (.int p1), .val (.int p2), .val (.int p3), .val (.int p2.toInt8.toInt32), .val (.int p3.toInt8.toInt32), .val (.int (p1 &&& (3 : Int32))), .val (.ref b55), .val (.int (p0 &&& (3 : Int32))), .val .null, .unset] []))
        refine Ends.step (fun _ k => XS.goto X57.here hx rfl (pc0 := 73) (pc' := 118) rfl (hb hby at_73) (by decide) (by decide) k) ?_
        show Ends p e below QQ (T57.setTop (mkF m 118 #[.val (.int p0), .val (.int p1), .val (.int p2), .val (.int p3), .val (.int p2.toInt8.toInt32), .val (.int p3.toInt8.toInt32), .val (.int (p1 &&& (3 : Int32))), .val (.ref b55), .val (.int (p0 &&& (3 : Int32))), .val .null, .unset] []))
        refine Ends.step (fun _ k => XS.aload X57.here hx rfl (hb hby at_118) rfl rfl k) ?_
        show Ends p e below QQ (T57.setTop (mkF m 120 #[.val (.int p0), .val (.int p1), .val (.int p2), .val (.int p3), .val (.int p2.toInt8.toInt32), .val (.int p3.toInt8.toInt32), .val (.int (p1 &&& (3 : Int32))), .val (.ref b55), .val (.int (p0 &&& (3 : Int32))), .val .null, .unset] [.null]))
        refine Ends.step (fun _ k => XS.aload X57.here hx rfl (hb hby at_120) rfl rfl k) ?_
        show Ends p e below QQ (T57.setTop (mkF m 122 #[.val (.int p0), .val (.int p1), .val (.int p2), .val (.int p3), .val (.int p2.toInt8.toInt32), .val (.int p3.toInt8.toInt32), .val (.int (p1 &&& (3 : Int32))), .val (.ref b55), .val (.int (p0 &&& (3 : Int32))), .val .null, .unset] [(.ref b55), .null]))
        obtain ⟨_, _, ⟨T59, L59, k59, n59⟩, -, X59, ⟨Lc59, hQ59, l59, y59, z59⟩, st59⟩ := Jvm.LawKit.callS X57 hx (y := (⟨"com/example/wunce/wunce/StoredCall", "finished", "([B[B)Lcom/example/wunce/wunce/StoredCall;"⟩ : MethodName)) hown (mvT hZ (hw _ (List.mem_of_getElem? (i := 1) rfl))) (mvT hZ (hw _ (List.mem_of_getElem? (i := 2) rfl))) (mvT hZ (hw _ (List.mem_of_getElem? (i := 3) rfl))) (mvT hZ (hw _ (List.mem_of_getElem? (i := 4) rfl))) (by decide) (backOf (W := 0) (rm1 l Z a0 hw [] (.null : Value) b55 h57 n0 (Nat.le_trans Z0 K57.1) rfl) hZ (hw _ (List.mem_of_getElem? (i := 4) rfl)) (hw _ (List.mem_of_getElem? (i := 3) rfl)) (by decide) (by decide)) (g := (mkF m 122 #[.val (.int p0), .val (.int p1), .val (.int p2), .val (.int p3), .val (.int p2.toInt8.toInt32), .val (.int p3.toInt8.toInt32), .val (.int (p1 &&& (3 : Int32))), .val (.ref b55), .val (.int (p0 &&& (3 : Int32))), .val .null, .unset] [(.ref b55), .null])) rfl (by rw [hml]; rfl) (argsL := [.null, (.ref b55)]) (rest := []) (lenOf pd_1 rfl) rfl (by show 2 * 0 + _ ≤ _; exact Nat.le_of_eq rfl) (hb hby at_122) (fun _ _ => ⟨rfl, e57, (by decide : 1 + 1 ≤ _), (by decide : 1 + 2 ≤ _)⟩)
        dsimp only [Pt.U, Pt.locs, Pt.cells, Pt.slots] at X59 l59 y59 z59 st59 hQ59
        subst l59 y59 z59
        obtain ⟨b_59, rfl, Nq59, Kq59, fq59_0, fq59_1, fq59_2, fq59_3, fq59_4⟩ := hQ59
        have N59 := Fr.app N57 Nq59
        have ne_b55_b_59 : b55 ≠ b_59 := Nat.ne_of_lt (Nat.lt_of_lt_of_le A_b55.lt fq59_0)
        have sz_b_59 := Nat.le_trans K57.1 fq59_0
        have A_b55 := A_b55.keep Kq59 nin0
        have g_b_59 := fq59_1
        have E_b_59 := fq59_2
        have F__fingerprint_b_59 := fq59_3
        have F__answer_b_59 := fq59_4
        have K59 := K57.trans Kq59 all0
        refine Ends.step st59 ?_
        show Ends p e below QQ (T59.setTop (mkF m 125 #[.val (.int p0), .val (.int p1), .val (.int p2), .val (.int p3), .val (.int p2.toInt8.toInt32), .val (.int p3.toInt8.toInt32), .val (.int (p1 &&& (3 : Int32))), .val (.ref b55), .val (.int (p0 &&& (3 : Int32))), .val .null, .unset] [(.ref b_59)]))
        refine Ends.step (fun _ k => XS.astore X59.here hx rfl (hb hby at_125) rfl rfl (l' := #[.val (.int p0), .val (.int p1), .val (.int p2), .val (.int p3), .val (.int p2.toInt8.toInt32), .val (.int p3.toInt8.toInt32), .val (.int (p1 &&& (3 : Int32))), .val (.ref b55), .val (.int (p0 &&& (3 : Int32))), .val .null, .val (.ref b_59)]) rfl k) ?_
        show Ends p e below QQ (T59.setTop (mkF m 127 #[.val (.int p0), .val (.int p1), .val (.int p2), .val (.int p3), .val (.int p2.toInt8.toInt32), .val (.int p3.toInt8.toInt32), .val (.int (p1 &&& (3 : Int32))), .val (.ref b55), .val (.int (p0 &&& (3 : Int32))), .val .null, .val (.ref b_59)] []))
        refine Ends.step (fun _ k => XS.aload X59.here hx rfl (hb hby at_127) rfl rfl k) ?_
        show Ends p e below QQ (T59.setTop (mkF m 129 #[.val (.int p0), .val (.int p1), .val (.int p2), .val (.int p3), .val (.int p2.toInt8.toInt32), .val (.int p3.toInt8.toInt32), .val (.int (p1 &&& (3 : Int32))), .val (.ref b55), .val (.int (p0 &&& (3 : Int32))), .val .null, .val (.ref b_59)] [(.ref b_59)]))
        refine Ends.step (fun _ k => XT.ifnonnullYes X59.here hx rfl (pc0 := 129) (pc' := 134) rfl (hb hby at_129) rfl (by decide) (by decide) k) ?_
        show Ends p e below QQ (T59.setTop (mkF m 134 #[.val (.int p0), .val (.int p1), .val (.int p2), .val (.int p3), .val (.int p2.toInt8.toInt32), .val (.int p3.toInt8.toInt32), .val (.int (p1 &&& (3 : Int32))), .val (.ref b55), .val (.int (p0 &&& (3 : Int32))), .val .null, .val (.ref b_59)] []))
        refine Ends.step (fun _ k => XS.aload X59.here hx rfl (hb hby at_134) rfl rfl k) ?_
        show Ends p e below QQ (T59.setTop (mkF m 136 #[.val (.int p0), .val (.int p1), .val (.int p2), .val (.int p3), .val (.int p2.toInt8.toInt32), .val (.int p3.toInt8.toInt32), .val (.int (p1 &&& (3 : Int32))), .val (.ref b55), .val (.int (p0 &&& (3 : Int32))), .val .null, .val (.ref b_59)] [(.ref b_59)]))
        obtain ⟨cq60, kq60, q60a, q60b, q60c⟩ := isOf hZ rfl E_b_59
        obtain ⟨_, _, ⟨T60, L60, k60, n60⟩, -, X60, ⟨Lc60, hQ60, l60, y60, z60⟩, st60⟩ := X59.virtualBack hx (y := (⟨"com/example/wunce/wunce/StoredCall", "fingerprint", "()[B"⟩ : MethodName)) (z := (⟨"com/example/wunce/wunce/StoredCall", "fingerprint", "()[B"⟩ : MethodName)) hown (mvT hZ (hw _ (List.mem_of_getElem? (i := 17) rfl))) (mvT hZ (hw _ (List.mem_of_getElem? (i := 18) rfl))) (notFace_of_selects (args := #[]) (mvT hZ (hw _ (List.mem_of_getElem? (i := 20) rfl)))) (mvT hZ (hw _ (List.mem_of_getElem? (i := 20) rfl))) (mvT hZ (hw _ (List.mem_of_getElem? (i := 19) rfl))) (by decide) (backOf (W := 0) (rm4 l Z a0 hw [] b_59 (.null : Value) T59.heap n0 (Nat.le_trans Z0 K59.1) F__fingerprint_b_59 rfl) hZ (hw _ (List.mem_of_getElem? (i := 21) rfl)) (hw _ (List.mem_of_getElem? (i := 3) rfl)) (by decide) (by decide)) q60a q60c (g := (mkF m 136 #[.val (.int p0), .val (.int p1), .val (.int p2), .val (.int p3), .val (.int p2.toInt8.toInt32), .val (.int p3.toInt8.toInt32), .val (.int (p1 &&& (3 : Int32))), .val (.ref b55), .val (.int (p0 &&& (3 : Int32))), .val .null, .val (.ref b_59)] [(.ref b_59)])) rfl (by rw [hml]; rfl) (Steps.refl _) (argsL := []) (rest := []) (lenOf pd_2 rfl) rfl (by show 2 * 0 + _ ≤ _; exact Nat.le_of_eq rfl) (hb hby at_136) (fun _ _ => ⟨rfl, rfl, (by decide : 2 + 0 ≤ _), (by decide : 3 + 0 ≤ _)⟩)
        dsimp only [Pt.U, Pt.locs, Pt.cells, Pt.slots] at X60 l60 y60 z60 st60 hQ60
        subst l60 y60 z60
        obtain ⟨rfl, Nq60, hh60⟩ := hQ60
        have N60 := Fr.app N59 Nq60
        refine Ends.step (fun _ k => st60.trans k) ?_
        show Ends p e below QQ (T60.setTop (mkF m 139 #[.val (.int p0), .val (.int p1), .val (.int p2), .val (.int p3), .val (.int p2.toInt8.toInt32), .val (.int p3.toInt8.toInt32), .val (.int (p1 &&& (3 : Int32))), .val (.ref b55), .val (.int (p0 &&& (3 : Int32))), .val .null, .val (.ref b_59)] [.null]))
        refine Ends.step (fun _ k => XS.aload X60.here hx rfl (hb hby at_139) rfl rfl k) ?_
        show Ends p e below QQ (T60.setTop (mkF m 141 #[.val (.int p0), .val (.int p1), .val (.int p2), .val (.int p3), .val (.int p2.toInt8.toInt32), .val (.int p3.toInt8.toInt32), .val (.int (p1 &&& (3 : Int32))), .val (.ref b55), .val (.int (p0 &&& (3 : Int32))), .val .null, .val (.ref b_59)] [.null, .null]))
        refine Ends.step (fun _ k => Jvm.RoadKit.acmp (g := (mkF m 141 #[.val (.int p0), .val (.int p1), .val (.int p2), .val (.int p3), .val (.int p2.toInt8.toInt32), .val (.int p3.toInt8.toInt32), .val (.int (p1 &&& (3 : Int32))), .val (.ref b55), .val (.int (p0 &&& (3 : Int32))), .val .null, .val (.ref b_59)] [.null, .null])) X60 hx rfl rfl rfl (pc0 := 141) (pc' := 146) (same := true) rfl (hb hby at_141) rfl (decide_eq_true rfl) (by decide) (by decide) k) ?_
        show Ends p e below QQ (T60.setTop (mkF m 146 #[.val (.int p0), .val (.int p1), .val (.int p2), .val (.int p3), .val (.int p2.toInt8.toInt32), .val (.int p3.toInt8.toInt32), .val (.int (p1 &&& (3 : Int32))), .val (.ref b55), .val (.int (p0 &&& (3 : Int32))), .val .null, .val (.ref b_59)] []))
        refine Ends.step (fun _ k => XS.aload X60.here hx rfl (hb hby at_146) rfl rfl k) ?_
        show Ends p e below QQ (T60.setTop (mkF m 148 #[.val (.int p0), .val (.int p1), .val (.int p2), .val (.int p3), .val (.int p2.toInt8.toInt32), .val (.int p3.toInt8.toInt32), .val (.int (p1 &&& (3 : Int32))), .val (.ref b55), .val (.int (p0 &&& (3 : Int32))), .val .null, .val (.ref b_59)] [(.ref b_59)]))
        obtain ⟨cq61, kq61, q61a, q61b, q61c⟩ := isOf hZ hh60 E_b_59
        obtain ⟨_, _, ⟨T61, L61, k61, n61⟩, -, X61, ⟨Lc61, hQ61, l61, y61, z61⟩, st61⟩ := X60.virtualBack hx (y := (⟨"com/example/wunce/wunce/StoredCall", "answer", "()[B"⟩ : MethodName)) (z := (⟨"com/example/wunce/wunce/StoredCall", "answer", "()[B"⟩ : MethodName)) hown (mvT hZ (hw _ (List.mem_of_getElem? (i := 22) rfl))) (mvT hZ (hw _ (List.mem_of_getElem? (i := 23) rfl))) (notFace_of_selects (args := #[]) (mvT hZ (hw _ (List.mem_of_getElem? (i := 25) rfl)))) (mvT hZ (hw _ (List.mem_of_getElem? (i := 25) rfl))) (mvT hZ (hw _ (List.mem_of_getElem? (i := 24) rfl))) (by decide) (backOf (W := 0) (rm5 l Z a0 hw [] b_59 ((.ref b55) : Value) T59.heap n0 (Nat.le_trans Z0 K59.1) F__answer_b_59 rfl) hZ (hw _ (List.mem_of_getElem? (i := 26) rfl)) (hw _ (List.mem_of_getElem? (i := 3) rfl)) (by decide) (by decide)) q61a q61c (g := (mkF m 148 #[.val (.int p0), .val (.int p1), .val (.int p2), .val (.int p3), .val (.int p2.toInt8.toInt32), .val (.int p3.toInt8.toInt32), .val (.int (p1 &&& (3 : Int32))), .val (.ref b55), .val (.int (p0 &&& (3 : Int32))), .val .null, .val (.ref b_59)] [(.ref b_59)])) rfl (by rw [hml]; rfl) (Steps.refl _) (argsL := []) (rest := []) (lenOf pd_2 rfl) rfl (by show 2 * 0 + _ ≤ _; exact Nat.le_of_eq rfl) (hb hby at_148) (fun _ _ => ⟨rfl, hh60, (by decide : 2 + 0 ≤ _), (by decide : 3 + 0 ≤ _)⟩)
        dsimp only [Pt.U, Pt.locs, Pt.cells, Pt.slots] at X61 l61 y61 z61 st61 hQ61
        subst l61 y61 z61
        obtain ⟨rfl, Nq61, hh61⟩ := hQ61
        have N61 := Fr.app N60 Nq61
        refine Ends.step (fun _ k => st61.trans k) ?_
        show Ends p e below QQ (T61.setTop (mkF m 151 #[.val (.int p0), .val (.int p1), .val (.int p2), .val (.int p3), .val (.int p2.toInt8.toInt32), .val (.int p3.toInt8.toInt32), .val (.int (p1 &&& (3 : Int32))), .val (.ref b55), .val (.int (p0 &&& (3 : Int32))), .val .null, .val (.ref b_59)] [(.ref b55)]))
        refine Ends.step (fun _ k => XS.aload X61.here hx rfl (hb hby at_151) rfl rfl k) ?_
        show Ends p e below QQ (T61.setTop (mkF m 153 #[.val (.int p0), .val (.int p1), .val (.int p2), .val (.int p3), .val (.int p2.toInt8.toInt32), .val (.int p3.toInt8.toInt32), .val (.int (p1 &&& (3 : Int32))), .val (.ref b55), .val (.int (p0 &&& (3 : Int32))), .val .null, .val (.ref b_59)] [(.ref b55), (.ref b55)]))
        refine Ends.step (fun _ k => Jvm.RoadKit.acmp (g := (mkF m 153 #[.val (.int p0), .val (.int p1), .val (.int p2), .val (.int p3), .val (.int p2.toInt8.toInt32), .val (.int p3.toInt8.toInt32), .val (.int (p1 &&& (3 : Int32))), .val (.ref b55), .val (.int (p0 &&& (3 : Int32))), .val .null, .val (.ref b_59)] [(.ref b55), (.ref b55)])) X61 hx rfl rfl rfl (pc0 := 153) (pc' := 158) (same := true) rfl (hb hby at_153) rfl (decide_eq_true rfl) (by decide) (by decide) k) ?_
        show Ends p e below QQ (T61.setTop (mkF m 158 #[.val (.int p0), .val (.int p1), .val (.int p2), .val (.int p3), .val (.int p2.toInt8.toInt32), .val (.int p3.toInt8.toInt32), .val (.int (p1 &&& (3 : Int32))), .val (.ref b55), .val (.int (p0 &&& (3 : Int32))), .val .null, .val (.ref b_59)] []))
        refine Ends.step (fun _ k => XS.aload X61.here hx rfl (hb hby at_158) rfl rfl k) ?_
        show Ends p e below QQ (T61.setTop (mkF m 160 #[.val (.int p0), .val (.int p1), .val (.int p2), .val (.int p3), .val (.int p2.toInt8.toInt32), .val (.int p3.toInt8.toInt32), .val (.int (p1 &&& (3 : Int32))), .val (.ref b55), .val (.int (p0 &&& (3 : Int32))), .val .null, .val (.ref b_59)] [(.ref b_59)]))
        obtain ⟨cq62, kq62, q62a, q62b, q62c⟩ := isOf hZ hh61 E_b_59
        obtain ⟨_, _, ⟨T62, L62, k62, n62⟩, -, X62, ⟨Lc62, hQ62, l62, y62, z62⟩, st62⟩ := X61.virtualBack hx (y := (⟨"com/example/wunce/wunce/StoredCall", "isFinished", "()Z"⟩ : MethodName)) (z := (⟨"com/example/wunce/wunce/StoredCall", "isFinished", "()Z"⟩ : MethodName)) hown (mvT hZ (hw _ (List.mem_of_getElem? (i := 27) rfl))) (mvT hZ (hw _ (List.mem_of_getElem? (i := 28) rfl))) (notFace_of_selects (args := #[]) (mvT hZ (hw _ (List.mem_of_getElem? (i := 30) rfl)))) (mvT hZ (hw _ (List.mem_of_getElem? (i := 30) rfl))) (mvT hZ (hw _ (List.mem_of_getElem? (i := 29) rfl))) (by decide) (backOf (W := 0) (rm6 l Z a0 hw [] b_59 b55 T59.heap n0 (Nat.le_trans Z0 K59.1) F__answer_b_59) hZ (hw _ (List.mem_of_getElem? (i := 31) rfl)) (hw _ (List.mem_of_getElem? (i := 3) rfl)) (by decide) (by decide)) q62a q62c (g := (mkF m 160 #[.val (.int p0), .val (.int p1), .val (.int p2), .val (.int p3), .val (.int p2.toInt8.toInt32), .val (.int p3.toInt8.toInt32), .val (.int (p1 &&& (3 : Int32))), .val (.ref b55), .val (.int (p0 &&& (3 : Int32))), .val .null, .val (.ref b_59)] [(.ref b_59)])) rfl (by rw [hml]; rfl) (Steps.refl _) (argsL := []) (rest := []) (lenOf pd_3 rfl) rfl (by show 2 * 0 + _ ≤ _; exact Nat.le_of_eq rfl) (hb hby at_160) (fun _ _ => ⟨rfl, hh61, (by decide : 2 + 0 ≤ _), (by decide : 3 + 0 ≤ _)⟩)
        dsimp only [Pt.U, Pt.locs, Pt.cells, Pt.slots] at X62 l62 y62 z62 st62 hQ62
        subst l62 y62 z62
        obtain ⟨rfl, Nq62, hh62⟩ := hQ62
        have N62 := Fr.app N61 Nq62
        refine Ends.step (fun _ k => st62.trans k) ?_
        show Ends p e below QQ (T62.setTop (mkF m 163 #[.val (.int p0), .val (.int p1), .val (.int p2), .val (.int p3), .val (.int p2.toInt8.toInt32), .val (.int p3.toInt8.toInt32), .val (.int (p1 &&& (3 : Int32))), .val (.ref b55), .val (.int (p0 &&& (3 : Int32))), .val .null, .val (.ref b_59)] [(.int (1 : Int32))]))
        refine Ends.step (fun _ k => XS.ifYes X62.here hx rfl (pc0 := 163) (pc' := 168) rfl (hb hby at_163) rfl (XT.i0_ne_t (by decide)) (by decide) (by decide) k) ?_
        show Ends p e below QQ (T62.setTop (mkF m 168 #[.val (.int p0), .val (.int p1), .val (.int p2), .val (.int p3), .val (.int p2.toInt8.toInt32), .val (.int p3.toInt8.toInt32), .val (.int (p1 &&& (3 : Int32))), .val (.ref b55), .val (.int (p0 &&& (3 : Int32))), .val .null, .val (.ref b_59)] []))
        refine Ends.step (fun _ k => XS.aload X62.here hx rfl (hb hby at_168) rfl rfl k) ?_
        show Ends p e below QQ (T62.setTop (mkF m 170 #[.val (.int p0), .val (.int p1), .val (.int p2), .val (.int p3), .val (.int p2.toInt8.toInt32), .val (.int p3.toInt8.toInt32), .val (.int (p1 &&& (3 : Int32))), .val (.ref b55), .val (.int (p0 &&& (3 : Int32))), .val .null, .val (.ref b_59)] [(.ref b55)]))
        refine Ends.step (fun _ k => XS.iload X62.here hx rfl (hb hby at_170) rfl k) ?_
        show Ends p e below QQ (T62.setTop (mkF m 172 #[.val (.int p0), .val (.int p1), .val (.int p2), .val (.int p3), .val (.int p2.toInt8.toInt32), .val (.int p3.toInt8.toInt32), .val (.int (p1 &&& (3 : Int32))), .val (.ref b55), .val (.int (p0 &&& (3 : Int32))), .val .null, .val (.ref b_59)] [(.int (p1 &&& (3 : Int32))), (.ref b55)]))
        refine Ends.step (fun _ k => XS.iload X62.here hx rfl (hb hby at_172) rfl k) ?_
        show Ends p e below QQ (T62.setTop (mkF m 174 #[.val (.int p0), .val (.int p1), .val (.int p2), .val (.int p3), .val (.int p2.toInt8.toInt32), .val (.int p3.toInt8.toInt32), .val (.int (p1 &&& (3 : Int32))), .val (.ref b55), .val (.int (p0 &&& (3 : Int32))), .val .null, .val (.ref b_59)] [(.int p2.toInt8.toInt32), (.int (p1 &&& (3 : Int32))), (.ref b55)]))
        refine Ends.step (fun _ k => XS.iload X62.here hx rfl (hb hby at_174) rfl k) ?_
        show Ends p e below QQ (T62.setTop (mkF m 176 #[.val (.int p0), .val (.int p1), .val (.int p2), .val (.int p3), .val (.int p2.toInt8.toInt32), .val (.int p3.toInt8.toInt32), .val (.int (p1 &&& (3 : Int32))), .val (.ref b55), .val (.int (p0 &&& (3 : Int32))), .val .null, .val (.ref b_59)] [(.int p3.toInt8.toInt32), (.int p2.toInt8.toInt32), (.int (p1 &&& (3 : Int32))), (.ref b55)]))
        obtain ⟨_, _, ⟨T63, L63, k63, n63⟩, -, X63, ⟨Lc63, hQ63, l63, y63, z63⟩, st63⟩ := Jvm.LawKit.callS X62 hx (y := (⟨"com/example/wunce/wunce/StoredCallFinishedPinLaw", "answerIntact", "([BIBB)Z"⟩ : MethodName)) hown (mvT hZ (hw _ (List.mem_of_getElem? (i := 32) rfl))) (mvT hZ (hw _ (List.mem_of_getElem? (i := 33) rfl))) (mvT hZ (hw _ (List.mem_of_getElem? (i := 34) rfl))) (mvT hZ (hw _ (List.mem_of_getElem? (i := 35) rfl))) (by decide) (backOf (W := 0) (rm7b l Z a0 hw [] b55 (p1 &&& (3 : Int32)) (p2.toInt8.toInt32) (p3.toInt8.toInt32) k55 T59.heap n0 (Nat.le_trans Z0 K59.1) A_b55 (by first | assumption | rfl | decide) (by first | assumption | rfl | decide)) hZ (hw _ (List.mem_of_getElem? (i := 35) rfl)) (hw _ (List.mem_of_getElem? (i := 34) rfl)) (by decide) (by decide)) (g := (mkF m 176 #[.val (.int p0), .val (.int p1), .val (.int p2), .val (.int p3), .val (.int p2.toInt8.toInt32), .val (.int p3.toInt8.toInt32), .val (.int (p1 &&& (3 : Int32))), .val (.ref b55), .val (.int (p0 &&& (3 : Int32))), .val .null, .val (.ref b_59)] [(.int p3.toInt8.toInt32), (.int p2.toInt8.toInt32), (.int (p1 &&& (3 : Int32))), (.ref b55)])) rfl (by rw [hml]; rfl) (argsL := [(.ref b55), (.int (p1 &&& (3 : Int32))), (.int p2.toInt8.toInt32), (.int p3.toInt8.toInt32)]) (rest := []) (lenOf pd_4 rfl) rfl (by show 2 * 0 + _ ≤ _; exact Nat.le_of_eq rfl) (hb hby at_176) (fun _ _ => ⟨rfl, hh62, (by decide : 2 + 0 ≤ _), (by decide : 3 + 0 ≤ _)⟩)
        dsimp only [Pt.U, Pt.locs, Pt.cells, Pt.slots] at X63 l63 y63 z63 st63 hQ63
        subst l63 y63 z63
        obtain ⟨rfl, Nq63, hh63⟩ := hQ63
        have N63 := Fr.app N62 Nq63
        refine Ends.step st63 ?_
        show Ends p e below QQ (T63.setTop (mkF m 179 #[.val (.int p0), .val (.int p1), .val (.int p2), .val (.int p3), .val (.int p2.toInt8.toInt32), .val (.int p3.toInt8.toInt32), .val (.int (p1 &&& (3 : Int32))), .val (.ref b55), .val (.int (p0 &&& (3 : Int32))), .val .null, .val (.ref b_59)] [(.int (1 : Int32))]))
        refine Ends.step (fun _ k => XS.ifNo X63.here hx rfl (hb hby at_179) rfl (XT.i0_eq_f (by decide)) k) ?_
        show Ends p e below QQ (T63.setTop (mkF m 182 #[.val (.int p0), .val (.int p1), .val (.int p2), .val (.int p3), .val (.int p2.toInt8.toInt32), .val (.int p3.toInt8.toInt32), .val (.int (p1 &&& (3 : Int32))), .val (.ref b55), .val (.int (p0 &&& (3 : Int32))), .val .null, .val (.ref b_59)] []))
        refine Ends.step (fun _ k => XS.aload X63.here hx rfl (hb hby at_182) rfl rfl k) ?_
        show Ends p e below QQ (T63.setTop (mkF m 184 #[.val (.int p0), .val (.int p1), .val (.int p2), .val (.int p3), .val (.int p2.toInt8.toInt32), .val (.int p3.toInt8.toInt32), .val (.int (p1 &&& (3 : Int32))), .val (.ref b55), .val (.int (p0 &&& (3 : Int32))), .val .null, .val (.ref b_59)] [.null]))
        refine Ends.step (fun _ k => XS.iload X63.here hx rfl (hb hby at_184) rfl k) ?_
        show Ends p e below QQ (T63.setTop (mkF m 186 #[.val (.int p0), .val (.int p1), .val (.int p2), .val (.int p3), .val (.int p2.toInt8.toInt32), .val (.int p3.toInt8.toInt32), .val (.int (p1 &&& (3 : Int32))), .val (.ref b55), .val (.int (p0 &&& (3 : Int32))), .val .null, .val (.ref b_59)] [(.int (p0 &&& (3 : Int32))), .null]))
        refine Ends.step (fun _ k => XS.iload X63.here hx rfl (hb hby at_186) rfl k) ?_
        show Ends p e below QQ (T63.setTop (mkF m 188 #[.val (.int p0), .val (.int p1), .val (.int p2), .val (.int p3), .val (.int p2.toInt8.toInt32), .val (.int p3.toInt8.toInt32), .val (.int (p1 &&& (3 : Int32))), .val (.ref b55), .val (.int (p0 &&& (3 : Int32))), .val .null, .val (.ref b_59)] [(.int p2.toInt8.toInt32), (.int (p0 &&& (3 : Int32))), .null]))
        refine Ends.step (fun _ k => XS.iload X63.here hx rfl (hb hby at_188) rfl k) ?_
        show Ends p e below QQ (T63.setTop (mkF m 190 #[.val (.int p0), .val (.int p1), .val (.int p2), .val (.int p3), .val (.int p2.toInt8.toInt32), .val (.int p3.toInt8.toInt32), .val (.int (p1 &&& (3 : Int32))), .val (.ref b55), .val (.int (p0 &&& (3 : Int32))), .val .null, .val (.ref b_59)] [(.int p3.toInt8.toInt32), (.int p2.toInt8.toInt32), (.int (p0 &&& (3 : Int32))), .null]))
        obtain ⟨_, _, ⟨T64, L64, k64, n64⟩, -, X64, ⟨Lc64, hQ64, l64, y64, z64⟩, st64⟩ := Jvm.LawKit.callS X63 hx (y := (⟨"com/example/wunce/wunce/StoredCallFinishedPinLaw", "fingerprintIntact", "([BIBB)Z"⟩ : MethodName)) hown (mvT hZ (hw _ (List.mem_of_getElem? (i := 36) rfl))) (mvT hZ (hw _ (List.mem_of_getElem? (i := 37) rfl))) (mvT hZ (hw _ (List.mem_of_getElem? (i := 34) rfl))) (mvT hZ (hw _ (List.mem_of_getElem? (i := 38) rfl))) (by decide) (backOf (W := 0) (rm8a l Z a0 hw [] (.null : Value) (p0 &&& (3 : Int32)) (p2.toInt8.toInt32) (p3.toInt8.toInt32) T59.heap n0 (Nat.le_trans Z0 K59.1) rfl (by first | assumption | rfl | decide)) hZ (hw _ (List.mem_of_getElem? (i := 38) rfl)) (hw _ (List.mem_of_getElem? (i := 34) rfl)) (by decide) (by decide)) (g := (mkF m 190 #[.val (.int p0), .val (.int p1), .val (.int p2), .val (.int p3), .val (.int p2.toInt8.toInt32), .val (.int p3.toInt8.toInt32), .val (.int (p1 &&& (3 : Int32))), .val (.ref b55), .val (.int (p0 &&& (3 : Int32))), .val .null, .val (.ref b_59)] [(.int p3.toInt8.toInt32), (.int p2.toInt8.toInt32), (.int (p0 &&& (3 : Int32))), .null])) rfl (by rw [hml]; rfl) (argsL := [.null, (.int (p0 &&& (3 : Int32))), (.int p2.toInt8.toInt32), (.int p3.toInt8.toInt32)]) (rest := []) (lenOf pd_4 rfl) rfl (by show 2 * 0 + _ ≤ _; exact Nat.le_of_eq rfl) (hb hby at_190) (fun _ _ => ⟨rfl, hh63, (by decide : 2 + 0 ≤ _), (by decide : 3 + 0 ≤ _)⟩)
        dsimp only [Pt.U, Pt.locs, Pt.cells, Pt.slots] at X64 l64 y64 z64 st64 hQ64
        subst l64 y64 z64
        obtain ⟨rfl, Nq64, hh64⟩ := hQ64
        have N64 := Fr.app N63 Nq64
        refine Ends.step st64 ?_
        show Ends p e below QQ (T64.setTop (mkF m 193 #[.val (.int p0), .val (.int p1), .val (.int p2), .val (.int p3), .val (.int p2.toInt8.toInt32), .val (.int p3.toInt8.toInt32), .val (.int (p1 &&& (3 : Int32))), .val (.ref b55), .val (.int (p0 &&& (3 : Int32))), .val .null, .val (.ref b_59)] [(.int (1 : Int32))]))
        refine Ends.step (fun _ k => XS.ifNo X64.here hx rfl (hb hby at_193) rfl (XT.i0_eq_f (by decide)) k) ?_
        show Ends p e below QQ (T64.setTop (mkF m 196 #[.val (.int p0), .val (.int p1), .val (.int p2), .val (.int p3), .val (.int p2.toInt8.toInt32), .val (.int p3.toInt8.toInt32), .val (.int (p1 &&& (3 : Int32))), .val (.ref b55), .val (.int (p0 &&& (3 : Int32))), .val .null, .val (.ref b_59)] []))
        refine Ends.step (fun _ k => XT.iconstV X64.here hx rfl (1 : Int32) (hb hby at_196) rfl k) ?_
        show Ends p e below QQ (T64.setTop (mkF m 197 #[.val (.int p0), .val (.int p1), .val (.int p2), .val (.int p3), .val (.int p2.toInt8.toInt32), .val (.int p3.toInt8.toInt32), .val (.int (p1 &&& (3 : Int32))), .val (.ref b55), .val (.int (p0 &&& (3 : Int32))), .val .null, .val (.ref b_59)] [(.int (1 : Int32))]))
        refine Ends.step (fun _ k => XS.goto X64.here hx rfl (pc0 := 197) (pc' := 201) rfl (hb hby at_197) (by decide) (by decide) k) ?_
        show Ends p e below QQ (T64.setTop (mkF m 201 #[.val (.int p0), .val (.int p1), .val (.int p2), .val (.int p3), .val (.int p2.toInt8.toInt32), .val (.int p3.toInt8.toInt32), .val (.int (p1 &&& (3 : Int32))), .val (.ref b55), .val (.int (p0 &&& (3 : Int32))), .val .null, .val (.ref b_59)] [(.int (1 : Int32))]))
        exact Ends.fin (some (.int (1 : Int32))) X64 hQQ (fun h => by rw [Bd.returns] at h; cases h) Bd.notSynchronized (fun _ hr => retOut X64 hx (t := .boolean) Bd.returns rfl (Or.inl ⟨rfl, (by simp), _, rfl⟩) (hb hby at_201) hr) hh64 (by decide) (by decide) ⟨(by simp only [f0, if_neg hc15_19, if_pos hc29_54, if_pos hc67_58]), N64, K59⟩
      · refine Ends.step (fun _ k => XS.ifYes X57.here hx rfl (pc0 := 67) (pc' := 76) rfl (hb hby at_67) rfl (XT.i0_ne_t hc67_58) (by decide) (by decide) k) ?_
        show Ends p e below QQ (T57.setTop (mkF m 76 #[.val (.int p0), .val (.int p1), .val (.int p2), .val (.int p3), .val (.int p2.toInt8.toInt32), .val (.int p3.toInt8.toInt32), .val (.int (p1 &&& (3 : Int32))), .val (.ref b55), .val (.int (p0 &&& (3 : Int32))), .unset, .unset] []))
        refine Ends.step (fun _ k => XS.iload X57.here hx rfl (hb hby at_76) rfl k) ?_
        show Ends p e below QQ (T57.setTop (mkF m 78 #[.val (.int p0), .val (.int p1), .val (.int p2), .val (.int p3), .val (.int p2.toInt8.toInt32), .val (.int p3.toInt8.toInt32), .val (.int (p1 &&& (3 : Int32))), .val (.ref b55), .val (.int (p0 &&& (3 : Int32))), .unset, .unset] [(.int (p0 &&& (3 : Int32)))]))
        refine Ends.step (fun _ k => XT.iconstV X57.here hx rfl (1 : Int32) (hb hby at_78) rfl k) ?_
        show Ends p e below QQ (T57.setTop (mkF m 79 #[.val (.int p0), .val (.int p1), .val (.int p2), .val (.int p3), .val (.int p2.toInt8.toInt32), .val (.int p3.toInt8.toInt32), .val (.int (p1 &&& (3 : Int32))), .val (.ref b55), .val (.int (p0 &&& (3 : Int32))), .unset, .unset] [(.int (1 : Int32)), (.int (p0 &&& (3 : Int32)))]))
        by_cases hc79_65 : (p0 &&& (3 : Int32)) = (1 : Int32)
        · refine Ends.step (fun _ k => XS.icmpNo X57.here hx rfl (hb hby at_79) rfl (XT.ii_ne_f hc79_65) k) ?_
          show Ends p e below QQ (T57.setTop (mkF m 82 #[.val (.int p0), .val (.int p1), .val (.int p2), .val (.int p3), .val (.int p2.toInt8.toInt32), .val (.int p3.toInt8.toInt32), .val (.int (p1 &&& (3 : Int32))), .val (.ref b55), .val (.int (p0 &&& (3 : Int32))), .unset, .unset] []))
          refine Ends.step (fun _ k => XS.aload X57.here hx rfl (hb hby at_82) rfl rfl k) ?_
          show Ends p e below QQ (T57.setTop (mkF m 84 #[.val (.int p0), .val (.int p1), .val (.int p2), .val (.int p3), .val (.int p2.toInt8.toInt32), .val (.int p3.toInt8.toInt32), .val (.int (p1 &&& (3 : Int32))), .val (.ref b55), .val (.int (p0 &&& (3 : Int32))), .unset, .unset] [(.ref b55)]))
          refine Ends.step (fun _ k => XS.astore X57.here hx rfl (hb hby at_84) rfl rfl (l' := #[.val (.int p0), .val (.int p1), .val (.int p2), .val (.int p3), .val (.int p2.toInt8.toInt32), .val (.int p3.toInt8.toInt32), .val (.int (p1 &&& (3 : Int32))), .val (.ref b55), .val (.int (p0 &&& (3 : Int32))), .val (.ref b55), .unset]) rfl k) ?_
          show Ends p e below QQ (T57.setTop (mkF m 86 #[.val (.int p0), .val (.int p1), .val (.int p2), .val (.int p3), .val (.int p2.toInt8.toInt32), .val (.int p3.toInt8.toInt32), .val (.int (p1 &&& (3 : Int32))), .val (.ref b55), .val (.int (p0 &&& (3 : Int32))), .val (.ref b55), .unset] []))
          refine Ends.step (fun _ k => XS.goto X57.here hx rfl (pc0 := 86) (pc' := 118) rfl (hb hby at_86) (by decide) (by decide) k) ?_
          show Ends p e below QQ (T57.setTop (mkF m 118 #[.val (.int p0), .val (.int p1), .val (.int p2), .val (.int p3), .val (.int p2.toInt8.toInt32), .val (.int p3.toInt8.toInt32), .val (.int (p1 &&& (3 : Int32))), .val (.ref b55), .val (.int (p0 &&& (3 : Int32))), .val (.ref b55), .unset] []))
          refine Ends.step (fun _ k => XS.aload X57.here hx rfl (hb hby at_118) rfl rfl k) ?_
          show Ends p e below QQ (T57.setTop (mkF m 120 #[.val (.int p0), .val (.int p1), .val (.int p2), .val (.int p3), .val (.int p2.toInt8.toInt32), .val (.int p3.toInt8.toInt32), .val (.int (p1 &&& (3 : Int32))), .val (.ref b55), .val (.int (p0 &&& (3 : Int32))), .val (.ref b55), .unset] [(.ref b55)]))
          refine Ends.step (fun _ k => XS.aload X57.here hx rfl (hb hby at_120) rfl rfl k) ?_
          show Ends p e below QQ (T57.setTop (mkF m 122 #[.val (.int p0), .val (.int p1), .val (.int p2), .val (.int p3), .val (.int p2.toInt8.toInt32), .val (.int p3.toInt8.toInt32), .val (.int (p1 &&& (3 : Int32))), .val (.ref b55), .val (.int (p0 &&& (3 : Int32))), .val (.ref b55), .unset] [(.ref b55), (.ref b55)]))
          obtain ⟨_, _, ⟨T66, L66, k66, n66⟩, -, X66, ⟨Lc66, hQ66, l66, y66, z66⟩, st66⟩ := Jvm.LawKit.callS X57 hx (y := (⟨"com/example/wunce/wunce/StoredCall", "finished", "([B[B)Lcom/example/wunce/wunce/StoredCall;"⟩ : MethodName)) hown (mvT hZ (hw _ (List.mem_of_getElem? (i := 1) rfl))) (mvT hZ (hw _ (List.mem_of_getElem? (i := 2) rfl))) (mvT hZ (hw _ (List.mem_of_getElem? (i := 3) rfl))) (mvT hZ (hw _ (List.mem_of_getElem? (i := 4) rfl))) (by decide) (backOf (W := 0) (rm1 l Z a0 hw [] ((.ref b55) : Value) b55 h57 n0 (Nat.le_trans Z0 K57.1) rfl) hZ (hw _ (List.mem_of_getElem? (i := 4) rfl)) (hw _ (List.mem_of_getElem? (i := 3) rfl)) (by decide) (by decide)) (g := (mkF m 122 #[.val (.int p0), .val (.int p1), .val (.int p2), .val (.int p3), .val (.int p2.toInt8.toInt32), .val (.int p3.toInt8.toInt32), .val (.int (p1 &&& (3 : Int32))), .val (.ref b55), .val (.int (p0 &&& (3 : Int32))), .val (.ref b55), .unset] [(.ref b55), (.ref b55)])) rfl (by rw [hml]; rfl) (argsL := [(.ref b55), (.ref b55)]) (rest := []) (lenOf pd_1 rfl) rfl (by show 2 * 0 + _ ≤ _; exact Nat.le_of_eq rfl) (hb hby at_122) (fun _ _ => ⟨rfl, e57, (by decide : 1 + 1 ≤ _), (by decide : 1 + 2 ≤ _)⟩)
          dsimp only [Pt.U, Pt.locs, Pt.cells, Pt.slots] at X66 l66 y66 z66 st66 hQ66
          subst l66 y66 z66
          obtain ⟨b_66, rfl, Nq66, Kq66, fq66_0, fq66_1, fq66_2, fq66_3, fq66_4⟩ := hQ66
          have N66 := Fr.app N57 Nq66
          have ne_b55_b_66 : b55 ≠ b_66 := Nat.ne_of_lt (Nat.lt_of_lt_of_le A_b55.lt fq66_0)
          have sz_b_66 := Nat.le_trans K57.1 fq66_0
          have A_b55 := A_b55.keep Kq66 nin0
          have g_b_66 := fq66_1
          have E_b_66 := fq66_2
          have F__fingerprint_b_66 := fq66_3
          have F__answer_b_66 := fq66_4
          have K66 := K57.trans Kq66 all0
          refine Ends.step st66 ?_
          show Ends p e below QQ (T66.setTop (mkF m 125 #[.val (.int p0), .val (.int p1), .val (.int p2), .val (.int p3), .val (.int p2.toInt8.toInt32), .val (.int p3.toInt8.toInt32), .val (.int (p1 &&& (3 : Int32))), .val (.ref b55), .val (.int (p0 &&& (3 : Int32))), .val (.ref b55), .unset] [(.ref b_66)]))
          refine Ends.step (fun _ k => XS.astore X66.here hx rfl (hb hby at_125) rfl rfl (l' := #[.val (.int p0), .val (.int p1), .val (.int p2), .val (.int p3), .val (.int p2.toInt8.toInt32), .val (.int p3.toInt8.toInt32), .val (.int (p1 &&& (3 : Int32))), .val (.ref b55), .val (.int (p0 &&& (3 : Int32))), .val (.ref b55), .val (.ref b_66)]) rfl k) ?_
          show Ends p e below QQ (T66.setTop (mkF m 127 #[.val (.int p0), .val (.int p1), .val (.int p2), .val (.int p3), .val (.int p2.toInt8.toInt32), .val (.int p3.toInt8.toInt32), .val (.int (p1 &&& (3 : Int32))), .val (.ref b55), .val (.int (p0 &&& (3 : Int32))), .val (.ref b55), .val (.ref b_66)] []))
          refine Ends.step (fun _ k => XS.aload X66.here hx rfl (hb hby at_127) rfl rfl k) ?_
          show Ends p e below QQ (T66.setTop (mkF m 129 #[.val (.int p0), .val (.int p1), .val (.int p2), .val (.int p3), .val (.int p2.toInt8.toInt32), .val (.int p3.toInt8.toInt32), .val (.int (p1 &&& (3 : Int32))), .val (.ref b55), .val (.int (p0 &&& (3 : Int32))), .val (.ref b55), .val (.ref b_66)] [(.ref b_66)]))
          refine Ends.step (fun _ k => XT.ifnonnullYes X66.here hx rfl (pc0 := 129) (pc' := 134) rfl (hb hby at_129) rfl (by decide) (by decide) k) ?_
          show Ends p e below QQ (T66.setTop (mkF m 134 #[.val (.int p0), .val (.int p1), .val (.int p2), .val (.int p3), .val (.int p2.toInt8.toInt32), .val (.int p3.toInt8.toInt32), .val (.int (p1 &&& (3 : Int32))), .val (.ref b55), .val (.int (p0 &&& (3 : Int32))), .val (.ref b55), .val (.ref b_66)] []))
          refine Ends.step (fun _ k => XS.aload X66.here hx rfl (hb hby at_134) rfl rfl k) ?_
          show Ends p e below QQ (T66.setTop (mkF m 136 #[.val (.int p0), .val (.int p1), .val (.int p2), .val (.int p3), .val (.int p2.toInt8.toInt32), .val (.int p3.toInt8.toInt32), .val (.int (p1 &&& (3 : Int32))), .val (.ref b55), .val (.int (p0 &&& (3 : Int32))), .val (.ref b55), .val (.ref b_66)] [(.ref b_66)]))
          obtain ⟨cq67, kq67, q67a, q67b, q67c⟩ := isOf hZ rfl E_b_66
          obtain ⟨_, _, ⟨T67, L67, k67, n67⟩, -, X67, ⟨Lc67, hQ67, l67, y67, z67⟩, st67⟩ := X66.virtualBack hx (y := (⟨"com/example/wunce/wunce/StoredCall", "fingerprint", "()[B"⟩ : MethodName)) (z := (⟨"com/example/wunce/wunce/StoredCall", "fingerprint", "()[B"⟩ : MethodName)) hown (mvT hZ (hw _ (List.mem_of_getElem? (i := 17) rfl))) (mvT hZ (hw _ (List.mem_of_getElem? (i := 18) rfl))) (notFace_of_selects (args := #[]) (mvT hZ (hw _ (List.mem_of_getElem? (i := 20) rfl)))) (mvT hZ (hw _ (List.mem_of_getElem? (i := 20) rfl))) (mvT hZ (hw _ (List.mem_of_getElem? (i := 19) rfl))) (by decide) (backOf (W := 0) (rm4 l Z a0 hw [] b_66 ((.ref b55) : Value) T66.heap n0 (Nat.le_trans Z0 K66.1) F__fingerprint_b_66 rfl) hZ (hw _ (List.mem_of_getElem? (i := 21) rfl)) (hw _ (List.mem_of_getElem? (i := 3) rfl)) (by decide) (by decide)) q67a q67c (g := (mkF m 136 #[.val (.int p0), .val (.int p1), .val (.int p2), .val (.int p3), .val (.int p2.toInt8.toInt32), .val (.int p3.toInt8.toInt32), .val (.int (p1 &&& (3 : Int32))), .val (.ref b55), .val (.int (p0 &&& (3 : Int32))), .val (.ref b55), .val (.ref b_66)] [(.ref b_66)])) rfl (by rw [hml]; rfl) (Steps.refl _) (argsL := []) (rest := []) (lenOf pd_2 rfl) rfl (by show 2 * 0 + _ ≤ _; exact Nat.le_of_eq rfl) (hb hby at_136) (fun _ _ => ⟨rfl, rfl, (by decide : 2 + 0 ≤ _), (by decide : 3 + 0 ≤ _)⟩)
          dsimp only [Pt.U, Pt.locs, Pt.cells, Pt.slots] at X67 l67 y67 z67 st67 hQ67
          subst l67 y67 z67
          obtain ⟨rfl, Nq67, hh67⟩ := hQ67
          have N67 := Fr.app N66 Nq67
          refine Ends.step (fun _ k => st67.trans k) ?_
          show Ends p e below QQ (T67.setTop (mkF m 139 #[.val (.int p0), .val (.int p1), .val (.int p2), .val (.int p3), .val (.int p2.toInt8.toInt32), .val (.int p3.toInt8.toInt32), .val (.int (p1 &&& (3 : Int32))), .val (.ref b55), .val (.int (p0 &&& (3 : Int32))), .val (.ref b55), .val (.ref b_66)] [(.ref b55)]))
          refine Ends.step (fun _ k => XS.aload X67.here hx rfl (hb hby at_139) rfl rfl k) ?_
          show Ends p e below QQ (T67.setTop (mkF m 141 #[.val (.int p0), .val (.int p1), .val (.int p2), .val (.int p3), .val (.int p2.toInt8.toInt32), .val (.int p3.toInt8.toInt32), .val (.int (p1 &&& (3 : Int32))), .val (.ref b55), .val (.int (p0 &&& (3 : Int32))), .val (.ref b55), .val (.ref b_66)] [(.ref b55), (.ref b55)]))
          refine Ends.step (fun _ k => Jvm.RoadKit.acmp (g := (mkF m 141 #[.val (.int p0), .val (.int p1), .val (.int p2), .val (.int p3), .val (.int p2.toInt8.toInt32), .val (.int p3.toInt8.toInt32), .val (.int (p1 &&& (3 : Int32))), .val (.ref b55), .val (.int (p0 &&& (3 : Int32))), .val (.ref b55), .val (.ref b_66)] [(.ref b55), (.ref b55)])) X67 hx rfl rfl rfl (pc0 := 141) (pc' := 146) (same := true) rfl (hb hby at_141) rfl (decide_eq_true rfl) (by decide) (by decide) k) ?_
          show Ends p e below QQ (T67.setTop (mkF m 146 #[.val (.int p0), .val (.int p1), .val (.int p2), .val (.int p3), .val (.int p2.toInt8.toInt32), .val (.int p3.toInt8.toInt32), .val (.int (p1 &&& (3 : Int32))), .val (.ref b55), .val (.int (p0 &&& (3 : Int32))), .val (.ref b55), .val (.ref b_66)] []))
          refine Ends.step (fun _ k => XS.aload X67.here hx rfl (hb hby at_146) rfl rfl k) ?_
          show Ends p e below QQ (T67.setTop (mkF m 148 #[.val (.int p0), .val (.int p1), .val (.int p2), .val (.int p3), .val (.int p2.toInt8.toInt32), .val (.int p3.toInt8.toInt32), .val (.int (p1 &&& (3 : Int32))), .val (.ref b55), .val (.int (p0 &&& (3 : Int32))), .val (.ref b55), .val (.ref b_66)] [(.ref b_66)]))
          obtain ⟨cq68, kq68, q68a, q68b, q68c⟩ := isOf hZ hh67 E_b_66
          obtain ⟨_, _, ⟨T68, L68, k68, n68⟩, -, X68, ⟨Lc68, hQ68, l68, y68, z68⟩, st68⟩ := X67.virtualBack hx (y := (⟨"com/example/wunce/wunce/StoredCall", "answer", "()[B"⟩ : MethodName)) (z := (⟨"com/example/wunce/wunce/StoredCall", "answer", "()[B"⟩ : MethodName)) hown (mvT hZ (hw _ (List.mem_of_getElem? (i := 22) rfl))) (mvT hZ (hw _ (List.mem_of_getElem? (i := 23) rfl))) (notFace_of_selects (args := #[]) (mvT hZ (hw _ (List.mem_of_getElem? (i := 25) rfl)))) (mvT hZ (hw _ (List.mem_of_getElem? (i := 25) rfl))) (mvT hZ (hw _ (List.mem_of_getElem? (i := 24) rfl))) (by decide) (backOf (W := 0) (rm5 l Z a0 hw [] b_66 ((.ref b55) : Value) T66.heap n0 (Nat.le_trans Z0 K66.1) F__answer_b_66 rfl) hZ (hw _ (List.mem_of_getElem? (i := 26) rfl)) (hw _ (List.mem_of_getElem? (i := 3) rfl)) (by decide) (by decide)) q68a q68c (g := (mkF m 148 #[.val (.int p0), .val (.int p1), .val (.int p2), .val (.int p3), .val (.int p2.toInt8.toInt32), .val (.int p3.toInt8.toInt32), .val (.int (p1 &&& (3 : Int32))), .val (.ref b55), .val (.int (p0 &&& (3 : Int32))), .val (.ref b55), .val (.ref b_66)] [(.ref b_66)])) rfl (by rw [hml]; rfl) (Steps.refl _) (argsL := []) (rest := []) (lenOf pd_2 rfl) rfl (by show 2 * 0 + _ ≤ _; exact Nat.le_of_eq rfl) (hb hby at_148) (fun _ _ => ⟨rfl, hh67, (by decide : 2 + 0 ≤ _), (by decide : 3 + 0 ≤ _)⟩)
          dsimp only [Pt.U, Pt.locs, Pt.cells, Pt.slots] at X68 l68 y68 z68 st68 hQ68
          subst l68 y68 z68
          obtain ⟨rfl, Nq68, hh68⟩ := hQ68
          have N68 := Fr.app N67 Nq68
          refine Ends.step (fun _ k => st68.trans k) ?_
          show Ends p e below QQ (T68.setTop (mkF m 151 #[.val (.int p0), .val (.int p1), .val (.int p2), .val (.int p3), .val (.int p2.toInt8.toInt32), .val (.int p3.toInt8.toInt32), .val (.int (p1 &&& (3 : Int32))), .val (.ref b55), .val (.int (p0 &&& (3 : Int32))), .val (.ref b55), .val (.ref b_66)] [(.ref b55)]))
          refine Ends.step (fun _ k => XS.aload X68.here hx rfl (hb hby at_151) rfl rfl k) ?_
          show Ends p e below QQ (T68.setTop (mkF m 153 #[.val (.int p0), .val (.int p1), .val (.int p2), .val (.int p3), .val (.int p2.toInt8.toInt32), .val (.int p3.toInt8.toInt32), .val (.int (p1 &&& (3 : Int32))), .val (.ref b55), .val (.int (p0 &&& (3 : Int32))), .val (.ref b55), .val (.ref b_66)] [(.ref b55), (.ref b55)]))
          refine Ends.step (fun _ k => Jvm.RoadKit.acmp (g := (mkF m 153 #[.val (.int p0), .val (.int p1), .val (.int p2), .val (.int p3), .val (.int p2.toInt8.toInt32), .val (.int p3.toInt8.toInt32), .val (.int (p1 &&& (3 : Int32))), .val (.ref b55), .val (.int (p0 &&& (3 : Int32))), .val (.ref b55), .val (.ref b_66)] [(.ref b55), (.ref b55)])) X68 hx rfl rfl rfl (pc0 := 153) (pc' := 158) (same := true) rfl (hb hby at_153) rfl (decide_eq_true rfl) (by decide) (by decide) k) ?_
          show Ends p e below QQ (T68.setTop (mkF m 158 #[.val (.int p0), .val (.int p1), .val (.int p2), .val (.int p3), .val (.int p2.toInt8.toInt32), .val (.int p3.toInt8.toInt32), .val (.int (p1 &&& (3 : Int32))), .val (.ref b55), .val (.int (p0 &&& (3 : Int32))), .val (.ref b55), .val (.ref b_66)] []))
          refine Ends.step (fun _ k => XS.aload X68.here hx rfl (hb hby at_158) rfl rfl k) ?_
          show Ends p e below QQ (T68.setTop (mkF m 160 #[.val (.int p0), .val (.int p1), .val (.int p2), .val (.int p3), .val (.int p2.toInt8.toInt32), .val (.int p3.toInt8.toInt32), .val (.int (p1 &&& (3 : Int32))), .val (.ref b55), .val (.int (p0 &&& (3 : Int32))), .val (.ref b55), .val (.ref b_66)] [(.ref b_66)]))
          obtain ⟨cq69, kq69, q69a, q69b, q69c⟩ := isOf hZ hh68 E_b_66
          obtain ⟨_, _, ⟨T69, L69, k69, n69⟩, -, X69, ⟨Lc69, hQ69, l69, y69, z69⟩, st69⟩ := X68.virtualBack hx (y := (⟨"com/example/wunce/wunce/StoredCall", "isFinished", "()Z"⟩ : MethodName)) (z := (⟨"com/example/wunce/wunce/StoredCall", "isFinished", "()Z"⟩ : MethodName)) hown (mvT hZ (hw _ (List.mem_of_getElem? (i := 27) rfl))) (mvT hZ (hw _ (List.mem_of_getElem? (i := 28) rfl))) (notFace_of_selects (args := #[]) (mvT hZ (hw _ (List.mem_of_getElem? (i := 30) rfl)))) (mvT hZ (hw _ (List.mem_of_getElem? (i := 30) rfl))) (mvT hZ (hw _ (List.mem_of_getElem? (i := 29) rfl))) (by decide) (backOf (W := 0) (rm6 l Z a0 hw [] b_66 b55 T66.heap n0 (Nat.le_trans Z0 K66.1) F__answer_b_66) hZ (hw _ (List.mem_of_getElem? (i := 31) rfl)) (hw _ (List.mem_of_getElem? (i := 3) rfl)) (by decide) (by decide)) q69a q69c (g := (mkF m 160 #[.val (.int p0), .val (.int p1), .val (.int p2), .val (.int p3), .val (.int p2.toInt8.toInt32), .val (.int p3.toInt8.toInt32), .val (.int (p1 &&& (3 : Int32))), .val (.ref b55), .val (.int (p0 &&& (3 : Int32))), .val (.ref b55), .val (.ref b_66)] [(.ref b_66)])) rfl (by rw [hml]; rfl) (Steps.refl _) (argsL := []) (rest := []) (lenOf pd_3 rfl) rfl (by show 2 * 0 + _ ≤ _; exact Nat.le_of_eq rfl) (hb hby at_160) (fun _ _ => ⟨rfl, hh68, (by decide : 2 + 0 ≤ _), (by decide : 3 + 0 ≤ _)⟩)
          dsimp only [Pt.U, Pt.locs, Pt.cells, Pt.slots] at X69 l69 y69 z69 st69 hQ69
          subst l69 y69 z69
          obtain ⟨rfl, Nq69, hh69⟩ := hQ69
          have N69 := Fr.app N68 Nq69
          refine Ends.step (fun _ k => st69.trans k) ?_
          show Ends p e below QQ (T69.setTop (mkF m 163 #[.val (.int p0), .val (.int p1), .val (.int p2), .val (.int p3), .val (.int p2.toInt8.toInt32), .val (.int p3.toInt8.toInt32), .val (.int (p1 &&& (3 : Int32))), .val (.ref b55), .val (.int (p0 &&& (3 : Int32))), .val (.ref b55), .val (.ref b_66)] [(.int (1 : Int32))]))
          refine Ends.step (fun _ k => XS.ifYes X69.here hx rfl (pc0 := 163) (pc' := 168) rfl (hb hby at_163) rfl (XT.i0_ne_t (by decide)) (by decide) (by decide) k) ?_
          show Ends p e below QQ (T69.setTop (mkF m 168 #[.val (.int p0), .val (.int p1), .val (.int p2), .val (.int p3), .val (.int p2.toInt8.toInt32), .val (.int p3.toInt8.toInt32), .val (.int (p1 &&& (3 : Int32))), .val (.ref b55), .val (.int (p0 &&& (3 : Int32))), .val (.ref b55), .val (.ref b_66)] []))
          refine Ends.step (fun _ k => XS.aload X69.here hx rfl (hb hby at_168) rfl rfl k) ?_
          show Ends p e below QQ (T69.setTop (mkF m 170 #[.val (.int p0), .val (.int p1), .val (.int p2), .val (.int p3), .val (.int p2.toInt8.toInt32), .val (.int p3.toInt8.toInt32), .val (.int (p1 &&& (3 : Int32))), .val (.ref b55), .val (.int (p0 &&& (3 : Int32))), .val (.ref b55), .val (.ref b_66)] [(.ref b55)]))
          refine Ends.step (fun _ k => XS.iload X69.here hx rfl (hb hby at_170) rfl k) ?_
          show Ends p e below QQ (T69.setTop (mkF m 172 #[.val (.int p0), .val (.int p1), .val (.int p2), .val (.int p3), .val (.int p2.toInt8.toInt32), .val (.int p3.toInt8.toInt32), .val (.int (p1 &&& (3 : Int32))), .val (.ref b55), .val (.int (p0 &&& (3 : Int32))), .val (.ref b55), .val (.ref b_66)] [(.int (p1 &&& (3 : Int32))), (.ref b55)]))
          refine Ends.step (fun _ k => XS.iload X69.here hx rfl (hb hby at_172) rfl k) ?_
          show Ends p e below QQ (T69.setTop (mkF m 174 #[.val (.int p0), .val (.int p1), .val (.int p2), .val (.int p3), .val (.int p2.toInt8.toInt32), .val (.int p3.toInt8.toInt32), .val (.int (p1 &&& (3 : Int32))), .val (.ref b55), .val (.int (p0 &&& (3 : Int32))), .val (.ref b55), .val (.ref b_66)] [(.int p2.toInt8.toInt32), (.int (p1 &&& (3 : Int32))), (.ref b55)]))
          refine Ends.step (fun _ k => XS.iload X69.here hx rfl (hb hby at_174) rfl k) ?_
          show Ends p e below QQ (T69.setTop (mkF m 176 #[.val (.int p0), .val (.int p1), .val (.int p2), .val (.int p3), .val (.int p2.toInt8.toInt32), .val (.int p3.toInt8.toInt32), .val (.int (p1 &&& (3 : Int32))), .val (.ref b55), .val (.int (p0 &&& (3 : Int32))), .val (.ref b55), .val (.ref b_66)] [(.int p3.toInt8.toInt32), (.int p2.toInt8.toInt32), (.int (p1 &&& (3 : Int32))), (.ref b55)]))
          obtain ⟨_, _, ⟨T70, L70, k70, n70⟩, -, X70, ⟨Lc70, hQ70, l70, y70, z70⟩, st70⟩ := Jvm.LawKit.callS X69 hx (y := (⟨"com/example/wunce/wunce/StoredCallFinishedPinLaw", "answerIntact", "([BIBB)Z"⟩ : MethodName)) hown (mvT hZ (hw _ (List.mem_of_getElem? (i := 32) rfl))) (mvT hZ (hw _ (List.mem_of_getElem? (i := 33) rfl))) (mvT hZ (hw _ (List.mem_of_getElem? (i := 34) rfl))) (mvT hZ (hw _ (List.mem_of_getElem? (i := 35) rfl))) (by decide) (backOf (W := 0) (rm7b l Z a0 hw [] b55 (p1 &&& (3 : Int32)) (p2.toInt8.toInt32) (p3.toInt8.toInt32) k55 T66.heap n0 (Nat.le_trans Z0 K66.1) A_b55 (by first | assumption | rfl | decide) (by first | assumption | rfl | decide)) hZ (hw _ (List.mem_of_getElem? (i := 35) rfl)) (hw _ (List.mem_of_getElem? (i := 34) rfl)) (by decide) (by decide)) (g := (mkF m 176 #[.val (.int p0), .val (.int p1), .val (.int p2), .val (.int p3), .val (.int p2.toInt8.toInt32), .val (.int p3.toInt8.toInt32), .val (.int (p1 &&& (3 : Int32))), .val (.ref b55), .val (.int (p0 &&& (3 : Int32))), .val (.ref b55), .val (.ref b_66)] [(.int p3.toInt8.toInt32), (.int p2.toInt8.toInt32), (.int (p1 &&& (3 : Int32))), (.ref b55)])) rfl (by rw [hml]; rfl) (argsL := [(.ref b55), (.int (p1 &&& (3 : Int32))), (.int p2.toInt8.toInt32), (.int p3.toInt8.toInt32)]) (rest := []) (lenOf pd_4 rfl) rfl (by show 2 * 0 + _ ≤ _; exact Nat.le_of_eq rfl) (hb hby at_176) (fun _ _ => ⟨rfl, hh69, (by decide : 2 + 0 ≤ _), (by decide : 3 + 0 ≤ _)⟩)
          dsimp only [Pt.U, Pt.locs, Pt.cells, Pt.slots] at X70 l70 y70 z70 st70 hQ70
          subst l70 y70 z70
          obtain ⟨rfl, Nq70, hh70⟩ := hQ70
          have N70 := Fr.app N69 Nq70
          refine Ends.step st70 ?_
          show Ends p e below QQ (T70.setTop (mkF m 179 #[.val (.int p0), .val (.int p1), .val (.int p2), .val (.int p3), .val (.int p2.toInt8.toInt32), .val (.int p3.toInt8.toInt32), .val (.int (p1 &&& (3 : Int32))), .val (.ref b55), .val (.int (p0 &&& (3 : Int32))), .val (.ref b55), .val (.ref b_66)] [(.int (1 : Int32))]))
          refine Ends.step (fun _ k => XS.ifNo X70.here hx rfl (hb hby at_179) rfl (XT.i0_eq_f (by decide)) k) ?_
          show Ends p e below QQ (T70.setTop (mkF m 182 #[.val (.int p0), .val (.int p1), .val (.int p2), .val (.int p3), .val (.int p2.toInt8.toInt32), .val (.int p3.toInt8.toInt32), .val (.int (p1 &&& (3 : Int32))), .val (.ref b55), .val (.int (p0 &&& (3 : Int32))), .val (.ref b55), .val (.ref b_66)] []))
          refine Ends.step (fun _ k => XS.aload X70.here hx rfl (hb hby at_182) rfl rfl k) ?_
          show Ends p e below QQ (T70.setTop (mkF m 184 #[.val (.int p0), .val (.int p1), .val (.int p2), .val (.int p3), .val (.int p2.toInt8.toInt32), .val (.int p3.toInt8.toInt32), .val (.int (p1 &&& (3 : Int32))), .val (.ref b55), .val (.int (p0 &&& (3 : Int32))), .val (.ref b55), .val (.ref b_66)] [(.ref b55)]))
          refine Ends.step (fun _ k => XS.iload X70.here hx rfl (hb hby at_184) rfl k) ?_
          show Ends p e below QQ (T70.setTop (mkF m 186 #[.val (.int p0), .val (.int p1), .val (.int p2), .val (.int p3), .val (.int p2.toInt8.toInt32), .val (.int p3.toInt8.toInt32), .val (.int (p1 &&& (3 : Int32))), .val (.ref b55), .val (.int (p0 &&& (3 : Int32))), .val (.ref b55), .val (.ref b_66)] [(.int (p0 &&& (3 : Int32))), (.ref b55)]))
          refine Ends.step (fun _ k => XS.iload X70.here hx rfl (hb hby at_186) rfl k) ?_
          show Ends p e below QQ (T70.setTop (mkF m 188 #[.val (.int p0), .val (.int p1), .val (.int p2), .val (.int p3), .val (.int p2.toInt8.toInt32), .val (.int p3.toInt8.toInt32), .val (.int (p1 &&& (3 : Int32))), .val (.ref b55), .val (.int (p0 &&& (3 : Int32))), .val (.ref b55), .val (.ref b_66)] [(.int p2.toInt8.toInt32), (.int (p0 &&& (3 : Int32))), (.ref b55)]))
          refine Ends.step (fun _ k => XS.iload X70.here hx rfl (hb hby at_188) rfl k) ?_
          show Ends p e below QQ (T70.setTop (mkF m 190 #[.val (.int p0), .val (.int p1), .val (.int p2), .val (.int p3), .val (.int p2.toInt8.toInt32), .val (.int p3.toInt8.toInt32), .val (.int (p1 &&& (3 : Int32))), .val (.ref b55), .val (.int (p0 &&& (3 : Int32))), .val (.ref b55), .val (.ref b_66)] [(.int p3.toInt8.toInt32), (.int p2.toInt8.toInt32), (.int (p0 &&& (3 : Int32))), (.ref b55)]))
          obtain ⟨_, _, ⟨T71, L71, k71, n71⟩, -, X71, ⟨Lc71, hQ71, l71, y71, z71⟩, st71⟩ := Jvm.LawKit.callS X70 hx (y := (⟨"com/example/wunce/wunce/StoredCallFinishedPinLaw", "fingerprintIntact", "([BIBB)Z"⟩ : MethodName)) hown (mvT hZ (hw _ (List.mem_of_getElem? (i := 36) rfl))) (mvT hZ (hw _ (List.mem_of_getElem? (i := 37) rfl))) (mvT hZ (hw _ (List.mem_of_getElem? (i := 34) rfl))) (mvT hZ (hw _ (List.mem_of_getElem? (i := 38) rfl))) (by decide) (backOf (W := 0) (rm8b l Z a0 hw [] ((.ref b55) : Value) (p0 &&& (3 : Int32)) (p2.toInt8.toInt32) (p3.toInt8.toInt32) T66.heap n0 (Nat.le_trans Z0 K66.1) rfl (by first | assumption | rfl | decide) (by first | assumption | rfl | decide)) hZ (hw _ (List.mem_of_getElem? (i := 38) rfl)) (hw _ (List.mem_of_getElem? (i := 34) rfl)) (by decide) (by decide)) (g := (mkF m 190 #[.val (.int p0), .val (.int p1), .val (.int p2), .val (.int p3), .val (.int p2.toInt8.toInt32), .val (.int p3.toInt8.toInt32), .val (.int (p1 &&& (3 : Int32))), .val (.ref b55), .val (.int (p0 &&& (3 : Int32))), .val (.ref b55), .val (.ref b_66)] [(.int p3.toInt8.toInt32), (.int p2.toInt8.toInt32), (.int (p0 &&& (3 : Int32))), (.ref b55)])) rfl (by rw [hml]; rfl) (argsL := [(.ref b55), (.int (p0 &&& (3 : Int32))), (.int p2.toInt8.toInt32), (.int p3.toInt8.toInt32)]) (rest := []) (lenOf pd_4 rfl) rfl (by show 2 * 0 + _ ≤ _; exact Nat.le_of_eq rfl) (hb hby at_190) (fun _ _ => ⟨rfl, hh70, (by decide : 2 + 0 ≤ _), (by decide : 3 + 0 ≤ _)⟩)
          dsimp only [Pt.U, Pt.locs, Pt.cells, Pt.slots] at X71 l71 y71 z71 st71 hQ71
          subst l71 y71 z71
          obtain ⟨rfl, Nq71, hh71⟩ := hQ71
          have N71 := Fr.app N70 Nq71
          refine Ends.step st71 ?_
          show Ends p e below QQ (T71.setTop (mkF m 193 #[.val (.int p0), .val (.int p1), .val (.int p2), .val (.int p3), .val (.int p2.toInt8.toInt32), .val (.int p3.toInt8.toInt32), .val (.int (p1 &&& (3 : Int32))), .val (.ref b55), .val (.int (p0 &&& (3 : Int32))), .val (.ref b55), .val (.ref b_66)] [(.int (1 : Int32))]))
          refine Ends.step (fun _ k => XS.ifNo X71.here hx rfl (hb hby at_193) rfl (XT.i0_eq_f (by decide)) k) ?_
          show Ends p e below QQ (T71.setTop (mkF m 196 #[.val (.int p0), .val (.int p1), .val (.int p2), .val (.int p3), .val (.int p2.toInt8.toInt32), .val (.int p3.toInt8.toInt32), .val (.int (p1 &&& (3 : Int32))), .val (.ref b55), .val (.int (p0 &&& (3 : Int32))), .val (.ref b55), .val (.ref b_66)] []))
          refine Ends.step (fun _ k => XT.iconstV X71.here hx rfl (1 : Int32) (hb hby at_196) rfl k) ?_
          show Ends p e below QQ (T71.setTop (mkF m 197 #[.val (.int p0), .val (.int p1), .val (.int p2), .val (.int p3), .val (.int p2.toInt8.toInt32), .val (.int p3.toInt8.toInt32), .val (.int (p1 &&& (3 : Int32))), .val (.ref b55), .val (.int (p0 &&& (3 : Int32))), .val (.ref b55), .val (.ref b_66)] [(.int (1 : Int32))]))
          refine Ends.step (fun _ k => XS.goto X71.here hx rfl (pc0 := 197) (pc' := 201) rfl (hb hby at_197) (by decide) (by decide) k) ?_
          show Ends p e below QQ (T71.setTop (mkF m 201 #[.val (.int p0), .val (.int p1), .val (.int p2), .val (.int p3), .val (.int p2.toInt8.toInt32), .val (.int p3.toInt8.toInt32), .val (.int (p1 &&& (3 : Int32))), .val (.ref b55), .val (.int (p0 &&& (3 : Int32))), .val (.ref b55), .val (.ref b_66)] [(.int (1 : Int32))]))
          exact Ends.fin (some (.int (1 : Int32))) X71 hQQ (fun h => by rw [Bd.returns] at h; cases h) Bd.notSynchronized (fun _ hr => retOut X71 hx (t := .boolean) Bd.returns rfl (Or.inl ⟨rfl, (by simp), _, rfl⟩) (hb hby at_201) hr) hh71 (by decide) (by decide) ⟨(by simp only [f0, if_neg hc15_19, if_pos hc29_54, if_neg hc67_58, if_pos hc79_65]), N71, K66⟩
        · refine Ends.step (fun _ k => XS.icmpYes X57.here hx rfl (pc0 := 79) (pc' := 89) rfl (hb hby at_79) rfl (XT.ii_ne_t hc79_65) (by decide) (by decide) k) ?_
          show Ends p e below QQ (T57.setTop (mkF m 89 #[.val (.int p0), .val (.int p1), .val (.int p2), .val (.int p3), .val (.int p2.toInt8.toInt32), .val (.int p3.toInt8.toInt32), .val (.int (p1 &&& (3 : Int32))), .val (.ref b55), .val (.int (p0 &&& (3 : Int32))), .unset, .unset] []))
          refine Ends.step (fun _ k => XS.iload X57.here hx rfl (hb hby at_89) rfl k) ?_
          show Ends p e below QQ (T57.setTop (mkF m 91 #[.val (.int p0), .val (.int p1), .val (.int p2), .val (.int p3), .val (.int p2.toInt8.toInt32), .val (.int p3.toInt8.toInt32), .val (.int (p1 &&& (3 : Int32))), .val (.ref b55), .val (.int (p0 &&& (3 : Int32))), .unset, .unset] [(.int (p0 &&& (3 : Int32)))]))
          refine Ends.step (fun _ k => XT.iconstV X57.here hx rfl (2 : Int32) (hb hby at_91) rfl k) ?_
          show Ends p e below QQ (T57.setTop (mkF m 92 #[.val (.int p0), .val (.int p1), .val (.int p2), .val (.int p3), .val (.int p2.toInt8.toInt32), .val (.int p3.toInt8.toInt32), .val (.int (p1 &&& (3 : Int32))), .val (.ref b55), .val (.int (p0 &&& (3 : Int32))), .unset, .unset] [(.int (2 : Int32)), (.int (p0 &&& (3 : Int32)))]))
          by_cases hc92_72 : (p0 &&& (3 : Int32)) = (2 : Int32)
          · refine Ends.step (fun _ k => XS.icmpNo X57.here hx rfl (hb hby at_92) rfl (XT.ii_ne_f hc92_72) k) ?_
            show Ends p e below QQ (T57.setTop (mkF m 95 #[.val (.int p0), .val (.int p1), .val (.int p2), .val (.int p3), .val (.int p2.toInt8.toInt32), .val (.int p3.toInt8.toInt32), .val (.int (p1 &&& (3 : Int32))), .val (.ref b55), .val (.int (p0 &&& (3 : Int32))), .unset, .unset] []))
            refine Ends.step (fun _ k => XT.iconstV X57.here hx rfl (0 : Int32) (hb hby at_95) rfl k) ?_
            show Ends p e below QQ (T57.setTop (mkF m 96 #[.val (.int p0), .val (.int p1), .val (.int p2), .val (.int p3), .val (.int p2.toInt8.toInt32), .val (.int p3.toInt8.toInt32), .val (.int (p1 &&& (3 : Int32))), .val (.ref b55), .val (.int (p0 &&& (3 : Int32))), .unset, .unset] [(.int (0 : Int32))]))
            obtain ⟨T73, h73, k73, X73, e73, E73, A73, st73⟩ := newP X57 hx hZ (hw _ (List.mem_of_getElem? (i := 0) rfl)) e57 (g := (mkF m 96 #[.val (.int p0), .val (.int p1), .val (.int p2), .val (.int p3), .val (.int p2.toInt8.toInt32), .val (.int p3.toInt8.toInt32), .val (.int (p1 &&& (3 : Int32))), .val (.ref b55), .val (.int (p0 &&& (3 : Int32))), .unset, .unset] [(.int (0 : Int32))])) rfl (hb hby at_96) rfl (by decide) (cap := 0) (by decide) (by decide) (by decide) (by decide)
            obtain ⟨b73, g73⟩ : ∃ z, z = h57.size := ⟨_, rfl⟩
            rw [← g73] at A73 st73
            have ne_b55_b73 : b55 ≠ b73 := Nat.ne_of_lt (Nat.lt_of_lt_of_le A_b55.lt (Nat.le_of_eq g73.symm))
            have g_b73 : n0 ≤ b73 := Nat.le_trans Z0 (Nat.le_trans K57.1 (Nat.le_of_eq g73.symm))
            have sz_b73 : h0.size ≤ b73 := Nat.le_trans K57.1 (Nat.le_of_eq g73.symm)
            have A_b55 := A_b55.ext E73
            have K73 := K57.ext E73
            have A_b73 : Arv Z h73 b73 k73 .byte (0 : Int32) [] (.int (0 : Int32)) := Arv.new A73 (by decide)
            refine Ends.step st73 ?_
            show Ends p e below QQ (T73.setTop (mkF m 98 #[.val (.int p0), .val (.int p1), .val (.int p2), .val (.int p3), .val (.int p2.toInt8.toInt32), .val (.int p3.toInt8.toInt32), .val (.int (p1 &&& (3 : Int32))), .val (.ref b55), .val (.int (p0 &&& (3 : Int32))), .unset, .unset] [(.ref b73)]))
            refine Ends.step (fun _ k => XS.astore X73.here hx rfl (hb hby at_98) rfl rfl (l' := #[.val (.int p0), .val (.int p1), .val (.int p2), .val (.int p3), .val (.int p2.toInt8.toInt32), .val (.int p3.toInt8.toInt32), .val (.int (p1 &&& (3 : Int32))), .val (.ref b55), .val (.int (p0 &&& (3 : Int32))), .val (.ref b73), .unset]) rfl k) ?_
            show Ends p e below QQ (T73.setTop (mkF m 100 #[.val (.int p0), .val (.int p1), .val (.int p2), .val (.int p3), .val (.int p2.toInt8.toInt32), .val (.int p3.toInt8.toInt32), .val (.int (p1 &&& (3 : Int32))), .val (.ref b55), .val (.int (p0 &&& (3 : Int32))), .val (.ref b73), .unset] []))
            refine Ends.step (fun _ k => XS.goto X73.here hx rfl (pc0 := 100) (pc' := 118) rfl (hb hby at_100) (by decide) (by decide) k) ?_
            show Ends p e below QQ (T73.setTop (mkF m 118 #[.val (.int p0), .val (.int p1), .val (.int p2), .val (.int p3), .val (.int p2.toInt8.toInt32), .val (.int p3.toInt8.toInt32), .val (.int (p1 &&& (3 : Int32))), .val (.ref b55), .val (.int (p0 &&& (3 : Int32))), .val (.ref b73), .unset] []))
            refine Ends.step (fun _ k => XS.aload X73.here hx rfl (hb hby at_118) rfl rfl k) ?_
            show Ends p e below QQ (T73.setTop (mkF m 120 #[.val (.int p0), .val (.int p1), .val (.int p2), .val (.int p3), .val (.int p2.toInt8.toInt32), .val (.int p3.toInt8.toInt32), .val (.int (p1 &&& (3 : Int32))), .val (.ref b55), .val (.int (p0 &&& (3 : Int32))), .val (.ref b73), .unset] [(.ref b73)]))
            refine Ends.step (fun _ k => XS.aload X73.here hx rfl (hb hby at_120) rfl rfl k) ?_
            show Ends p e below QQ (T73.setTop (mkF m 122 #[.val (.int p0), .val (.int p1), .val (.int p2), .val (.int p3), .val (.int p2.toInt8.toInt32), .val (.int p3.toInt8.toInt32), .val (.int (p1 &&& (3 : Int32))), .val (.ref b55), .val (.int (p0 &&& (3 : Int32))), .val (.ref b73), .unset] [(.ref b55), (.ref b73)]))
            obtain ⟨_, _, ⟨T74, L74, k74, n74⟩, -, X74, ⟨Lc74, hQ74, l74, y74, z74⟩, st74⟩ := Jvm.LawKit.callS X73 hx (y := (⟨"com/example/wunce/wunce/StoredCall", "finished", "([B[B)Lcom/example/wunce/wunce/StoredCall;"⟩ : MethodName)) hown (mvT hZ (hw _ (List.mem_of_getElem? (i := 1) rfl))) (mvT hZ (hw _ (List.mem_of_getElem? (i := 2) rfl))) (mvT hZ (hw _ (List.mem_of_getElem? (i := 3) rfl))) (mvT hZ (hw _ (List.mem_of_getElem? (i := 4) rfl))) (by decide) (backOf (W := 0) (rm1 l Z a0 hw [] ((.ref b73) : Value) b55 h73 n0 (Nat.le_trans Z0 K73.1) rfl) hZ (hw _ (List.mem_of_getElem? (i := 4) rfl)) (hw _ (List.mem_of_getElem? (i := 3) rfl)) (by decide) (by decide)) (g := (mkF m 122 #[.val (.int p0), .val (.int p1), .val (.int p2), .val (.int p3), .val (.int p2.toInt8.toInt32), .val (.int p3.toInt8.toInt32), .val (.int (p1 &&& (3 : Int32))), .val (.ref b55), .val (.int (p0 &&& (3 : Int32))), .val (.ref b73), .unset] [(.ref b55), (.ref b73)])) rfl (by rw [hml]; rfl) (argsL := [(.ref b73), (.ref b55)]) (rest := []) (lenOf pd_1 rfl) rfl (by show 2 * 0 + _ ≤ _; exact Nat.le_of_eq rfl) (hb hby at_122) (fun _ _ => ⟨rfl, e73, (by decide : 2 + 1 ≤ _), (by decide : 1 + 2 ≤ _)⟩)
            dsimp only [Pt.U, Pt.locs, Pt.cells, Pt.slots] at X74 l74 y74 z74 st74 hQ74
            subst l74 y74 z74
            obtain ⟨b_74, rfl, Nq74, Kq74, fq74_0, fq74_1, fq74_2, fq74_3, fq74_4⟩ := hQ74
            have N74 := Fr.app N57 Nq74
            have ne_b55_b_74 : b55 ≠ b_74 := Nat.ne_of_lt (Nat.lt_of_lt_of_le A_b55.lt fq74_0)
            have ne_b73_b_74 : b73 ≠ b_74 := Nat.ne_of_lt (Nat.lt_of_lt_of_le A_b73.lt fq74_0)
            have sz_b_74 := Nat.le_trans K73.1 fq74_0
            have A_b55 := A_b55.keep Kq74 nin0
            have A_b73 := A_b73.keep Kq74 nin0
            have g_b_74 := fq74_1
            have E_b_74 := fq74_2
            have F__fingerprint_b_74 := fq74_3
            have F__answer_b_74 := fq74_4
            have K74 := K73.trans Kq74 all0
            refine Ends.step st74 ?_
            show Ends p e below QQ (T74.setTop (mkF m 125 #[.val (.int p0), .val (.int p1), .val (.int p2), .val (.int p3), .val (.int p2.toInt8.toInt32), .val (.int p3.toInt8.toInt32), .val (.int (p1 &&& (3 : Int32))), .val (.ref b55), .val (.int (p0 &&& (3 : Int32))), .val (.ref b73), .unset] [(.ref b_74)]))
            refine Ends.step (fun _ k => XS.astore X74.here hx rfl (hb hby at_125) rfl rfl (l' := #[.val (.int p0), .val (.int p1), .val (.int p2), .val (.int p3), .val (.int p2.toInt8.toInt32), .val (.int p3.toInt8.toInt32), .val (.int (p1 &&& (3 : Int32))), .val (.ref b55), .val (.int (p0 &&& (3 : Int32))), .val (.ref b73), .val (.ref b_74)]) rfl k) ?_
            show Ends p e below QQ (T74.setTop (mkF m 127 #[.val (.int p0), .val (.int p1), .val (.int p2), .val (.int p3), .val (.int p2.toInt8.toInt32), .val (.int p3.toInt8.toInt32), .val (.int (p1 &&& (3 : Int32))), .val (.ref b55), .val (.int (p0 &&& (3 : Int32))), .val (.ref b73), .val (.ref b_74)] []))
            refine Ends.step (fun _ k => XS.aload X74.here hx rfl (hb hby at_127) rfl rfl k) ?_
            show Ends p e below QQ (T74.setTop (mkF m 129 #[.val (.int p0), .val (.int p1), .val (.int p2), .val (.int p3), .val (.int p2.toInt8.toInt32), .val (.int p3.toInt8.toInt32), .val (.int (p1 &&& (3 : Int32))), .val (.ref b55), .val (.int (p0 &&& (3 : Int32))), .val (.ref b73), .val (.ref b_74)] [(.ref b_74)]))
            refine Ends.step (fun _ k => XT.ifnonnullYes X74.here hx rfl (pc0 := 129) (pc' := 134) rfl (hb hby at_129) rfl (by decide) (by decide) k) ?_
            show Ends p e below QQ (T74.setTop (mkF m 134 #[.val (.int p0), .val (.int p1), .val (.int p2), .val (.int p3), .val (.int p2.toInt8.toInt32), .val (.int p3.toInt8.toInt32), .val (.int (p1 &&& (3 : Int32))), .val (.ref b55), .val (.int (p0 &&& (3 : Int32))), .val (.ref b73), .val (.ref b_74)] []))
            refine Ends.step (fun _ k => XS.aload X74.here hx rfl (hb hby at_134) rfl rfl k) ?_
            show Ends p e below QQ (T74.setTop (mkF m 136 #[.val (.int p0), .val (.int p1), .val (.int p2), .val (.int p3), .val (.int p2.toInt8.toInt32), .val (.int p3.toInt8.toInt32), .val (.int (p1 &&& (3 : Int32))), .val (.ref b55), .val (.int (p0 &&& (3 : Int32))), .val (.ref b73), .val (.ref b_74)] [(.ref b_74)]))
            obtain ⟨cq75, kq75, q75a, q75b, q75c⟩ := isOf hZ rfl E_b_74
            obtain ⟨_, _, ⟨T75, L75, k75, n75⟩, -, X75, ⟨Lc75, hQ75, l75, y75, z75⟩, st75⟩ := X74.virtualBack hx (y := (⟨"com/example/wunce/wunce/StoredCall", "fingerprint", "()[B"⟩ : MethodName)) (z := (⟨"com/example/wunce/wunce/StoredCall", "fingerprint", "()[B"⟩ : MethodName)) hown (mvT hZ (hw _ (List.mem_of_getElem? (i := 17) rfl))) (mvT hZ (hw _ (List.mem_of_getElem? (i := 18) rfl))) (notFace_of_selects (args := #[]) (mvT hZ (hw _ (List.mem_of_getElem? (i := 20) rfl)))) (mvT hZ (hw _ (List.mem_of_getElem? (i := 20) rfl))) (mvT hZ (hw _ (List.mem_of_getElem? (i := 19) rfl))) (by decide) (backOf (W := 0) (rm4 l Z a0 hw [] b_74 ((.ref b73) : Value) T74.heap n0 (Nat.le_trans Z0 K74.1) F__fingerprint_b_74 rfl) hZ (hw _ (List.mem_of_getElem? (i := 21) rfl)) (hw _ (List.mem_of_getElem? (i := 3) rfl)) (by decide) (by decide)) q75a q75c (g := (mkF m 136 #[.val (.int p0), .val (.int p1), .val (.int p2), .val (.int p3), .val (.int p2.toInt8.toInt32), .val (.int p3.toInt8.toInt32), .val (.int (p1 &&& (3 : Int32))), .val (.ref b55), .val (.int (p0 &&& (3 : Int32))), .val (.ref b73), .val (.ref b_74)] [(.ref b_74)])) rfl (by rw [hml]; rfl) (Steps.refl _) (argsL := []) (rest := []) (lenOf pd_2 rfl) rfl (by show 2 * 0 + _ ≤ _; exact Nat.le_of_eq rfl) (hb hby at_136) (fun _ _ => ⟨rfl, rfl, (by decide : 3 + 0 ≤ _), (by decide : 3 + 0 ≤ _)⟩)
            dsimp only [Pt.U, Pt.locs, Pt.cells, Pt.slots] at X75 l75 y75 z75 st75 hQ75
            subst l75 y75 z75
            obtain ⟨rfl, Nq75, hh75⟩ := hQ75
            have N75 := Fr.app N74 Nq75
            refine Ends.step (fun _ k => st75.trans k) ?_
            show Ends p e below QQ (T75.setTop (mkF m 139 #[.val (.int p0), .val (.int p1), .val (.int p2), .val (.int p3), .val (.int p2.toInt8.toInt32), .val (.int p3.toInt8.toInt32), .val (.int (p1 &&& (3 : Int32))), .val (.ref b55), .val (.int (p0 &&& (3 : Int32))), .val (.ref b73), .val (.ref b_74)] [(.ref b73)]))
            refine Ends.step (fun _ k => XS.aload X75.here hx rfl (hb hby at_139) rfl rfl k) ?_
            show Ends p e below QQ (T75.setTop (mkF m 141 #[.val (.int p0), .val (.int p1), .val (.int p2), .val (.int p3), .val (.int p2.toInt8.toInt32), .val (.int p3.toInt8.toInt32), .val (.int (p1 &&& (3 : Int32))), .val (.ref b55), .val (.int (p0 &&& (3 : Int32))), .val (.ref b73), .val (.ref b_74)] [(.ref b73), (.ref b73)]))
            refine Ends.step (fun _ k => Jvm.RoadKit.acmp (g := (mkF m 141 #[.val (.int p0), .val (.int p1), .val (.int p2), .val (.int p3), .val (.int p2.toInt8.toInt32), .val (.int p3.toInt8.toInt32), .val (.int (p1 &&& (3 : Int32))), .val (.ref b55), .val (.int (p0 &&& (3 : Int32))), .val (.ref b73), .val (.ref b_74)] [(.ref b73), (.ref b73)])) X75 hx rfl rfl rfl (pc0 := 141) (pc' := 146) (same := true) rfl (hb hby at_141) rfl (decide_eq_true rfl) (by decide) (by decide) k) ?_
            show Ends p e below QQ (T75.setTop (mkF m 146 #[.val (.int p0), .val (.int p1), .val (.int p2), .val (.int p3), .val (.int p2.toInt8.toInt32), .val (.int p3.toInt8.toInt32), .val (.int (p1 &&& (3 : Int32))), .val (.ref b55), .val (.int (p0 &&& (3 : Int32))), .val (.ref b73), .val (.ref b_74)] []))
            refine Ends.step (fun _ k => XS.aload X75.here hx rfl (hb hby at_146) rfl rfl k) ?_
            show Ends p e below QQ (T75.setTop (mkF m 148 #[.val (.int p0), .val (.int p1), .val (.int p2), .val (.int p3), .val (.int p2.toInt8.toInt32), .val (.int p3.toInt8.toInt32), .val (.int (p1 &&& (3 : Int32))), .val (.ref b55), .val (.int (p0 &&& (3 : Int32))), .val (.ref b73), .val (.ref b_74)] [(.ref b_74)]))
            obtain ⟨cq76, kq76, q76a, q76b, q76c⟩ := isOf hZ hh75 E_b_74
            obtain ⟨_, _, ⟨T76, L76, k76, n76⟩, -, X76, ⟨Lc76, hQ76, l76, y76, z76⟩, st76⟩ := X75.virtualBack hx (y := (⟨"com/example/wunce/wunce/StoredCall", "answer", "()[B"⟩ : MethodName)) (z := (⟨"com/example/wunce/wunce/StoredCall", "answer", "()[B"⟩ : MethodName)) hown (mvT hZ (hw _ (List.mem_of_getElem? (i := 22) rfl))) (mvT hZ (hw _ (List.mem_of_getElem? (i := 23) rfl))) (notFace_of_selects (args := #[]) (mvT hZ (hw _ (List.mem_of_getElem? (i := 25) rfl)))) (mvT hZ (hw _ (List.mem_of_getElem? (i := 25) rfl))) (mvT hZ (hw _ (List.mem_of_getElem? (i := 24) rfl))) (by decide) (backOf (W := 0) (rm5 l Z a0 hw [] b_74 ((.ref b55) : Value) T74.heap n0 (Nat.le_trans Z0 K74.1) F__answer_b_74 rfl) hZ (hw _ (List.mem_of_getElem? (i := 26) rfl)) (hw _ (List.mem_of_getElem? (i := 3) rfl)) (by decide) (by decide)) q76a q76c (g := (mkF m 148 #[.val (.int p0), .val (.int p1), .val (.int p2), .val (.int p3), .val (.int p2.toInt8.toInt32), .val (.int p3.toInt8.toInt32), .val (.int (p1 &&& (3 : Int32))), .val (.ref b55), .val (.int (p0 &&& (3 : Int32))), .val (.ref b73), .val (.ref b_74)] [(.ref b_74)])) rfl (by rw [hml]; rfl) (Steps.refl _) (argsL := []) (rest := []) (lenOf pd_2 rfl) rfl (by show 2 * 0 + _ ≤ _; exact Nat.le_of_eq rfl) (hb hby at_148) (fun _ _ => ⟨rfl, hh75, (by decide : 3 + 0 ≤ _), (by decide : 3 + 0 ≤ _)⟩)
            dsimp only [Pt.U, Pt.locs, Pt.cells, Pt.slots] at X76 l76 y76 z76 st76 hQ76
            subst l76 y76 z76
            obtain ⟨rfl, Nq76, hh76⟩ := hQ76
            have N76 := Fr.app N75 Nq76
            refine Ends.step (fun _ k => st76.trans k) ?_
            show Ends p e below QQ (T76.setTop (mkF m 151 #[.val (.int p0), .val (.int p1), .val (.int p2), .val (.int p3), .val (.int p2.toInt8.toInt32), .val (.int p3.toInt8.toInt32), .val (.int (p1 &&& (3 : Int32))), .val (.ref b55), .val (.int (p0 &&& (3 : Int32))), .val (.ref b73), .val (.ref b_74)] [(.ref b55)]))
            refine Ends.step (fun _ k => XS.aload X76.here hx rfl (hb hby at_151) rfl rfl k) ?_
            show Ends p e below QQ (T76.setTop (mkF m 153 #[.val (.int p0), .val (.int p1), .val (.int p2), .val (.int p3), .val (.int p2.toInt8.toInt32), .val (.int p3.toInt8.toInt32), .val (.int (p1 &&& (3 : Int32))), .val (.ref b55), .val (.int (p0 &&& (3 : Int32))), .val (.ref b73), .val (.ref b_74)] [(.ref b55), (.ref b55)]))
            refine Ends.step (fun _ k => Jvm.RoadKit.acmp (g := (mkF m 153 #[.val (.int p0), .val (.int p1), .val (.int p2), .val (.int p3), .val (.int p2.toInt8.toInt32), .val (.int p3.toInt8.toInt32), .val (.int (p1 &&& (3 : Int32))), .val (.ref b55), .val (.int (p0 &&& (3 : Int32))), .val (.ref b73), .val (.ref b_74)] [(.ref b55), (.ref b55)])) X76 hx rfl rfl rfl (pc0 := 153) (pc' := 158) (same := true) rfl (hb hby at_153) rfl (decide_eq_true rfl) (by decide) (by decide) k) ?_
            show Ends p e below QQ (T76.setTop (mkF m 158 #[.val (.int p0), .val (.int p1), .val (.int p2), .val (.int p3), .val (.int p2.toInt8.toInt32), .val (.int p3.toInt8.toInt32), .val (.int (p1 &&& (3 : Int32))), .val (.ref b55), .val (.int (p0 &&& (3 : Int32))), .val (.ref b73), .val (.ref b_74)] []))
            refine Ends.step (fun _ k => XS.aload X76.here hx rfl (hb hby at_158) rfl rfl k) ?_
            show Ends p e below QQ (T76.setTop (mkF m 160 #[.val (.int p0), .val (.int p1), .val (.int p2), .val (.int p3), .val (.int p2.toInt8.toInt32), .val (.int p3.toInt8.toInt32), .val (.int (p1 &&& (3 : Int32))), .val (.ref b55), .val (.int (p0 &&& (3 : Int32))), .val (.ref b73), .val (.ref b_74)] [(.ref b_74)]))
            obtain ⟨cq77, kq77, q77a, q77b, q77c⟩ := isOf hZ hh76 E_b_74
            obtain ⟨_, _, ⟨T77, L77, k77, n77⟩, -, X77, ⟨Lc77, hQ77, l77, y77, z77⟩, st77⟩ := X76.virtualBack hx (y := (⟨"com/example/wunce/wunce/StoredCall", "isFinished", "()Z"⟩ : MethodName)) (z := (⟨"com/example/wunce/wunce/StoredCall", "isFinished", "()Z"⟩ : MethodName)) hown (mvT hZ (hw _ (List.mem_of_getElem? (i := 27) rfl))) (mvT hZ (hw _ (List.mem_of_getElem? (i := 28) rfl))) (notFace_of_selects (args := #[]) (mvT hZ (hw _ (List.mem_of_getElem? (i := 30) rfl)))) (mvT hZ (hw _ (List.mem_of_getElem? (i := 30) rfl))) (mvT hZ (hw _ (List.mem_of_getElem? (i := 29) rfl))) (by decide) (backOf (W := 0) (rm6 l Z a0 hw [] b_74 b55 T74.heap n0 (Nat.le_trans Z0 K74.1) F__answer_b_74) hZ (hw _ (List.mem_of_getElem? (i := 31) rfl)) (hw _ (List.mem_of_getElem? (i := 3) rfl)) (by decide) (by decide)) q77a q77c (g := (mkF m 160 #[.val (.int p0), .val (.int p1), .val (.int p2), .val (.int p3), .val (.int p2.toInt8.toInt32), .val (.int p3.toInt8.toInt32), .val (.int (p1 &&& (3 : Int32))), .val (.ref b55), .val (.int (p0 &&& (3 : Int32))), .val (.ref b73), .val (.ref b_74)] [(.ref b_74)])) rfl (by rw [hml]; rfl) (Steps.refl _) (argsL := []) (rest := []) (lenOf pd_3 rfl) rfl (by show 2 * 0 + _ ≤ _; exact Nat.le_of_eq rfl) (hb hby at_160) (fun _ _ => ⟨rfl, hh76, (by decide : 3 + 0 ≤ _), (by decide : 3 + 0 ≤ _)⟩)
            dsimp only [Pt.U, Pt.locs, Pt.cells, Pt.slots] at X77 l77 y77 z77 st77 hQ77
            subst l77 y77 z77
            obtain ⟨rfl, Nq77, hh77⟩ := hQ77
            have N77 := Fr.app N76 Nq77
            refine Ends.step (fun _ k => st77.trans k) ?_
            show Ends p e below QQ (T77.setTop (mkF m 163 #[.val (.int p0), .val (.int p1), .val (.int p2), .val (.int p3), .val (.int p2.toInt8.toInt32), .val (.int p3.toInt8.toInt32), .val (.int (p1 &&& (3 : Int32))), .val (.ref b55), .val (.int (p0 &&& (3 : Int32))), .val (.ref b73), .val (.ref b_74)] [(.int (1 : Int32))]))
            refine Ends.step (fun _ k => XS.ifYes X77.here hx rfl (pc0 := 163) (pc' := 168) rfl (hb hby at_163) rfl (XT.i0_ne_t (by decide)) (by decide) (by decide) k) ?_
            show Ends p e below QQ (T77.setTop (mkF m 168 #[.val (.int p0), .val (.int p1), .val (.int p2), .val (.int p3), .val (.int p2.toInt8.toInt32), .val (.int p3.toInt8.toInt32), .val (.int (p1 &&& (3 : Int32))), .val (.ref b55), .val (.int (p0 &&& (3 : Int32))), .val (.ref b73), .val (.ref b_74)] []))
            refine Ends.step (fun _ k => XS.aload X77.here hx rfl (hb hby at_168) rfl rfl k) ?_
            show Ends p e below QQ (T77.setTop (mkF m 170 #[.val (.int p0), .val (.int p1), .val (.int p2), .val (.int p3), .val (.int p2.toInt8.toInt32), .val (.int p3.toInt8.toInt32), .val (.int (p1 &&& (3 : Int32))), .val (.ref b55), .val (.int (p0 &&& (3 : Int32))), .val (.ref b73), .val (.ref b_74)] [(.ref b55)]))
            refine Ends.step (fun _ k => XS.iload X77.here hx rfl (hb hby at_170) rfl k) ?_
            show Ends p e below QQ (T77.setTop (mkF m 172 #[.val (.int p0), .val (.int p1), .val (.int p2), .val (.int p3), .val (.int p2.toInt8.toInt32), .val (.int p3.toInt8.toInt32), .val (.int (p1 &&& (3 : Int32))), .val (.ref b55), .val (.int (p0 &&& (3 : Int32))), .val (.ref b73), .val (.ref b_74)] [(.int (p1 &&& (3 : Int32))), (.ref b55)]))
            refine Ends.step (fun _ k => XS.iload X77.here hx rfl (hb hby at_172) rfl k) ?_
            show Ends p e below QQ (T77.setTop (mkF m 174 #[.val (.int p0), .val (.int p1), .val (.int p2), .val (.int p3), .val (.int p2.toInt8.toInt32), .val (.int p3.toInt8.toInt32), .val (.int (p1 &&& (3 : Int32))), .val (.ref b55), .val (.int (p0 &&& (3 : Int32))), .val (.ref b73), .val (.ref b_74)] [(.int p2.toInt8.toInt32), (.int (p1 &&& (3 : Int32))), (.ref b55)]))
            refine Ends.step (fun _ k => XS.iload X77.here hx rfl (hb hby at_174) rfl k) ?_
            show Ends p e below QQ (T77.setTop (mkF m 176 #[.val (.int p0), .val (.int p1), .val (.int p2), .val (.int p3), .val (.int p2.toInt8.toInt32), .val (.int p3.toInt8.toInt32), .val (.int (p1 &&& (3 : Int32))), .val (.ref b55), .val (.int (p0 &&& (3 : Int32))), .val (.ref b73), .val (.ref b_74)] [(.int p3.toInt8.toInt32), (.int p2.toInt8.toInt32), (.int (p1 &&& (3 : Int32))), (.ref b55)]))
            obtain ⟨_, _, ⟨T78, L78, k78, n78⟩, -, X78, ⟨Lc78, hQ78, l78, y78, z78⟩, st78⟩ := Jvm.LawKit.callS X77 hx (y := (⟨"com/example/wunce/wunce/StoredCallFinishedPinLaw", "answerIntact", "([BIBB)Z"⟩ : MethodName)) hown (mvT hZ (hw _ (List.mem_of_getElem? (i := 32) rfl))) (mvT hZ (hw _ (List.mem_of_getElem? (i := 33) rfl))) (mvT hZ (hw _ (List.mem_of_getElem? (i := 34) rfl))) (mvT hZ (hw _ (List.mem_of_getElem? (i := 35) rfl))) (by decide) (backOf (W := 0) (rm7b l Z a0 hw [] b55 (p1 &&& (3 : Int32)) (p2.toInt8.toInt32) (p3.toInt8.toInt32) k55 T74.heap n0 (Nat.le_trans Z0 K74.1) A_b55 (by first | assumption | rfl | decide) (by first | assumption | rfl | decide)) hZ (hw _ (List.mem_of_getElem? (i := 35) rfl)) (hw _ (List.mem_of_getElem? (i := 34) rfl)) (by decide) (by decide)) (g := (mkF m 176 #[.val (.int p0), .val (.int p1), .val (.int p2), .val (.int p3), .val (.int p2.toInt8.toInt32), .val (.int p3.toInt8.toInt32), .val (.int (p1 &&& (3 : Int32))), .val (.ref b55), .val (.int (p0 &&& (3 : Int32))), .val (.ref b73), .val (.ref b_74)] [(.int p3.toInt8.toInt32), (.int p2.toInt8.toInt32), (.int (p1 &&& (3 : Int32))), (.ref b55)])) rfl (by rw [hml]; rfl) (argsL := [(.ref b55), (.int (p1 &&& (3 : Int32))), (.int p2.toInt8.toInt32), (.int p3.toInt8.toInt32)]) (rest := []) (lenOf pd_4 rfl) rfl (by show 2 * 0 + _ ≤ _; exact Nat.le_of_eq rfl) (hb hby at_176) (fun _ _ => ⟨rfl, hh77, (by decide : 3 + 0 ≤ _), (by decide : 3 + 0 ≤ _)⟩)
            dsimp only [Pt.U, Pt.locs, Pt.cells, Pt.slots] at X78 l78 y78 z78 st78 hQ78
            subst l78 y78 z78
            obtain ⟨rfl, Nq78, hh78⟩ := hQ78
            have N78 := Fr.app N77 Nq78
            refine Ends.step st78 ?_
            show Ends p e below QQ (T78.setTop (mkF m 179 #[.val (.int p0), .val (.int p1), .val (.int p2), .val (.int p3), .val (.int p2.toInt8.toInt32), .val (.int p3.toInt8.toInt32), .val (.int (p1 &&& (3 : Int32))), .val (.ref b55), .val (.int (p0 &&& (3 : Int32))), .val (.ref b73), .val (.ref b_74)] [(.int (1 : Int32))]))
            refine Ends.step (fun _ k => XS.ifNo X78.here hx rfl (hb hby at_179) rfl (XT.i0_eq_f (by decide)) k) ?_
            show Ends p e below QQ (T78.setTop (mkF m 182 #[.val (.int p0), .val (.int p1), .val (.int p2), .val (.int p3), .val (.int p2.toInt8.toInt32), .val (.int p3.toInt8.toInt32), .val (.int (p1 &&& (3 : Int32))), .val (.ref b55), .val (.int (p0 &&& (3 : Int32))), .val (.ref b73), .val (.ref b_74)] []))
            refine Ends.step (fun _ k => XS.aload X78.here hx rfl (hb hby at_182) rfl rfl k) ?_
            show Ends p e below QQ (T78.setTop (mkF m 184 #[.val (.int p0), .val (.int p1), .val (.int p2), .val (.int p3), .val (.int p2.toInt8.toInt32), .val (.int p3.toInt8.toInt32), .val (.int (p1 &&& (3 : Int32))), .val (.ref b55), .val (.int (p0 &&& (3 : Int32))), .val (.ref b73), .val (.ref b_74)] [(.ref b73)]))
            refine Ends.step (fun _ k => XS.iload X78.here hx rfl (hb hby at_184) rfl k) ?_
            show Ends p e below QQ (T78.setTop (mkF m 186 #[.val (.int p0), .val (.int p1), .val (.int p2), .val (.int p3), .val (.int p2.toInt8.toInt32), .val (.int p3.toInt8.toInt32), .val (.int (p1 &&& (3 : Int32))), .val (.ref b55), .val (.int (p0 &&& (3 : Int32))), .val (.ref b73), .val (.ref b_74)] [(.int (p0 &&& (3 : Int32))), (.ref b73)]))
            refine Ends.step (fun _ k => XS.iload X78.here hx rfl (hb hby at_186) rfl k) ?_
            show Ends p e below QQ (T78.setTop (mkF m 188 #[.val (.int p0), .val (.int p1), .val (.int p2), .val (.int p3), .val (.int p2.toInt8.toInt32), .val (.int p3.toInt8.toInt32), .val (.int (p1 &&& (3 : Int32))), .val (.ref b55), .val (.int (p0 &&& (3 : Int32))), .val (.ref b73), .val (.ref b_74)] [(.int p2.toInt8.toInt32), (.int (p0 &&& (3 : Int32))), (.ref b73)]))
            refine Ends.step (fun _ k => XS.iload X78.here hx rfl (hb hby at_188) rfl k) ?_
            show Ends p e below QQ (T78.setTop (mkF m 190 #[.val (.int p0), .val (.int p1), .val (.int p2), .val (.int p3), .val (.int p2.toInt8.toInt32), .val (.int p3.toInt8.toInt32), .val (.int (p1 &&& (3 : Int32))), .val (.ref b55), .val (.int (p0 &&& (3 : Int32))), .val (.ref b73), .val (.ref b_74)] [(.int p3.toInt8.toInt32), (.int p2.toInt8.toInt32), (.int (p0 &&& (3 : Int32))), (.ref b73)]))
            obtain ⟨_, _, ⟨T79, L79, k79, n79⟩, -, X79, ⟨Lc79, hQ79, l79, y79, z79⟩, st79⟩ := Jvm.LawKit.callS X78 hx (y := (⟨"com/example/wunce/wunce/StoredCallFinishedPinLaw", "fingerprintIntact", "([BIBB)Z"⟩ : MethodName)) hown (mvT hZ (hw _ (List.mem_of_getElem? (i := 36) rfl))) (mvT hZ (hw _ (List.mem_of_getElem? (i := 37) rfl))) (mvT hZ (hw _ (List.mem_of_getElem? (i := 34) rfl))) (mvT hZ (hw _ (List.mem_of_getElem? (i := 38) rfl))) (by decide) (backOf (W := 0) (rm8c l Z a0 hw [] b73 (p0 &&& (3 : Int32)) (p2.toInt8.toInt32) (p3.toInt8.toInt32) k73 T74.heap n0 (Nat.le_trans Z0 K74.1) A_b73 (by first | assumption | rfl | decide) (by first | assumption | rfl | decide) (by first | assumption | rfl | decide)) hZ (hw _ (List.mem_of_getElem? (i := 38) rfl)) (hw _ (List.mem_of_getElem? (i := 34) rfl)) (by decide) (by decide)) (g := (mkF m 190 #[.val (.int p0), .val (.int p1), .val (.int p2), .val (.int p3), .val (.int p2.toInt8.toInt32), .val (.int p3.toInt8.toInt32), .val (.int (p1 &&& (3 : Int32))), .val (.ref b55), .val (.int (p0 &&& (3 : Int32))), .val (.ref b73), .val (.ref b_74)] [(.int p3.toInt8.toInt32), (.int p2.toInt8.toInt32), (.int (p0 &&& (3 : Int32))), (.ref b73)])) rfl (by rw [hml]; rfl) (argsL := [(.ref b73), (.int (p0 &&& (3 : Int32))), (.int p2.toInt8.toInt32), (.int p3.toInt8.toInt32)]) (rest := []) (lenOf pd_4 rfl) rfl (by show 2 * 0 + _ ≤ _; exact Nat.le_of_eq rfl) (hb hby at_190) (fun _ _ => ⟨rfl, hh78, (by decide : 3 + 0 ≤ _), (by decide : 3 + 0 ≤ _)⟩)
            dsimp only [Pt.U, Pt.locs, Pt.cells, Pt.slots] at X79 l79 y79 z79 st79 hQ79
            subst l79 y79 z79
            obtain ⟨rfl, Nq79, hh79⟩ := hQ79
            have N79 := Fr.app N78 Nq79
            refine Ends.step st79 ?_
            show Ends p e below QQ (T79.setTop (mkF m 193 #[.val (.int p0), .val (.int p1), .val (.int p2), .val (.int p3), .val (.int p2.toInt8.toInt32), .val (.int p3.toInt8.toInt32), .val (.int (p1 &&& (3 : Int32))), .val (.ref b55), .val (.int (p0 &&& (3 : Int32))), .val (.ref b73), .val (.ref b_74)] [(.int (1 : Int32))]))
            refine Ends.step (fun _ k => XS.ifNo X79.here hx rfl (hb hby at_193) rfl (XT.i0_eq_f (by decide)) k) ?_
            show Ends p e below QQ (T79.setTop (mkF m 196 #[.val (.int p0), .val (.int p1), .val (.int p2), .val (.int p3), .val (.int p2.toInt8.toInt32), .val (.int p3.toInt8.toInt32), .val (.int (p1 &&& (3 : Int32))), .val (.ref b55), .val (.int (p0 &&& (3 : Int32))), .val (.ref b73), .val (.ref b_74)] []))
            refine Ends.step (fun _ k => XT.iconstV X79.here hx rfl (1 : Int32) (hb hby at_196) rfl k) ?_
            show Ends p e below QQ (T79.setTop (mkF m 197 #[.val (.int p0), .val (.int p1), .val (.int p2), .val (.int p3), .val (.int p2.toInt8.toInt32), .val (.int p3.toInt8.toInt32), .val (.int (p1 &&& (3 : Int32))), .val (.ref b55), .val (.int (p0 &&& (3 : Int32))), .val (.ref b73), .val (.ref b_74)] [(.int (1 : Int32))]))
            refine Ends.step (fun _ k => XS.goto X79.here hx rfl (pc0 := 197) (pc' := 201) rfl (hb hby at_197) (by decide) (by decide) k) ?_
            show Ends p e below QQ (T79.setTop (mkF m 201 #[.val (.int p0), .val (.int p1), .val (.int p2), .val (.int p3), .val (.int p2.toInt8.toInt32), .val (.int p3.toInt8.toInt32), .val (.int (p1 &&& (3 : Int32))), .val (.ref b55), .val (.int (p0 &&& (3 : Int32))), .val (.ref b73), .val (.ref b_74)] [(.int (1 : Int32))]))
            exact Ends.fin (some (.int (1 : Int32))) X79 hQQ (fun h => by rw [Bd.returns] at h; cases h) Bd.notSynchronized (fun _ hr => retOut X79 hx (t := .boolean) Bd.returns rfl (Or.inl ⟨rfl, (by simp), _, rfl⟩) (hb hby at_201) hr) hh79 (by decide) (by decide) ⟨(by simp only [f0, if_neg hc15_19, if_pos hc29_54, if_neg hc67_58, if_neg hc79_65, if_pos hc92_72]), N79, K74⟩
          · refine Ends.step (fun _ k => XS.icmpYes X57.here hx rfl (pc0 := 92) (pc' := 103) rfl (hb hby at_92) rfl (XT.ii_ne_t hc92_72) (by decide) (by decide) k) ?_
            show Ends p e below QQ (T57.setTop (mkF m 103 #[.val (.int p0), .val (.int p1), .val (.int p2), .val (.int p3), .val (.int p2.toInt8.toInt32), .val (.int p3.toInt8.toInt32), .val (.int (p1 &&& (3 : Int32))), .val (.ref b55), .val (.int (p0 &&& (3 : Int32))), .unset, .unset] []))
            refine Ends.step (fun _ k => XT.iconstV X57.here hx rfl (2 : Int32) (hb hby at_103) rfl k) ?_
            show Ends p e below QQ (T57.setTop (mkF m 104 #[.val (.int p0), .val (.int p1), .val (.int p2), .val (.int p3), .val (.int p2.toInt8.toInt32), .val (.int p3.toInt8.toInt32), .val (.int (p1 &&& (3 : Int32))), .val (.ref b55), .val (.int (p0 &&& (3 : Int32))), .unset, .unset] [(.int (2 : Int32))]))
            obtain ⟨T80, h80, k80, X80, e80, E80, A80, st80⟩ := newP X57 hx hZ (hw _ (List.mem_of_getElem? (i := 0) rfl)) e57 (g := (mkF m 104 #[.val (.int p0), .val (.int p1), .val (.int p2), .val (.int p3), .val (.int p2.toInt8.toInt32), .val (.int p3.toInt8.toInt32), .val (.int (p1 &&& (3 : Int32))), .val (.ref b55), .val (.int (p0 &&& (3 : Int32))), .unset, .unset] [(.int (2 : Int32))])) rfl (hb hby at_104) rfl (by decide) (cap := 2) (by decide) (by decide) (by decide) (by decide)
            obtain ⟨b80, g80⟩ : ∃ z, z = h57.size := ⟨_, rfl⟩
            rw [← g80] at A80 st80
            have ne_b55_b80 : b55 ≠ b80 := Nat.ne_of_lt (Nat.lt_of_lt_of_le A_b55.lt (Nat.le_of_eq g80.symm))
            have g_b80 : n0 ≤ b80 := Nat.le_trans Z0 (Nat.le_trans K57.1 (Nat.le_of_eq g80.symm))
            have sz_b80 : h0.size ≤ b80 := Nat.le_trans K57.1 (Nat.le_of_eq g80.symm)
            have A_b55 := A_b55.ext E80
            have K80 := K57.ext E80
            have A_b80 : Arv Z h80 b80 k80 .byte (2 : Int32) [(.int (0 : Int32)), (.int (0 : Int32))] (.int (0 : Int32)) := (Arv.new A80 (by decide)).pad (pad_rep [] (.int (0 : Int32)) 2)
            refine Ends.step st80 ?_
            show Ends p e below QQ (T80.setTop (mkF m 106 #[.val (.int p0), .val (.int p1), .val (.int p2), .val (.int p3), .val (.int p2.toInt8.toInt32), .val (.int p3.toInt8.toInt32), .val (.int (p1 &&& (3 : Int32))), .val (.ref b55), .val (.int (p0 &&& (3 : Int32))), .unset, .unset] [(.ref b80)]))
            refine Ends.step (fun _ k => XS.dup X80.here hx rfl (hb hby at_106) rfl rfl k) ?_
            show Ends p e below QQ (T80.setTop (mkF m 107 #[.val (.int p0), .val (.int p1), .val (.int p2), .val (.int p3), .val (.int p2.toInt8.toInt32), .val (.int p3.toInt8.toInt32), .val (.int (p1 &&& (3 : Int32))), .val (.ref b55), .val (.int (p0 &&& (3 : Int32))), .unset, .unset] [(.ref b80), (.ref b80)]))
            refine Ends.step (fun _ k => XT.iconstV X80.here hx rfl (0 : Int32) (hb hby at_107) rfl k) ?_
            show Ends p e below QQ (T80.setTop (mkF m 108 #[.val (.int p0), .val (.int p1), .val (.int p2), .val (.int p3), .val (.int p2.toInt8.toInt32), .val (.int p3.toInt8.toInt32), .val (.int (p1 &&& (3 : Int32))), .val (.ref b55), .val (.int (p0 &&& (3 : Int32))), .unset, .unset] [(.int (0 : Int32)), (.ref b80), (.ref b80)]))
            refine Ends.step (fun _ k => XS.iload X80.here hx rfl (hb hby at_108) rfl k) ?_
            show Ends p e below QQ (T80.setTop (mkF m 110 #[.val (.int p0), .val (.int p1), .val (.int p2), .val (.int p3), .val (.int p2.toInt8.toInt32), .val (.int p3.toInt8.toInt32), .val (.int (p1 &&& (3 : Int32))), .val (.ref b55), .val (.int (p0 &&& (3 : Int32))), .unset, .unset] [(.int p3.toInt8.toInt32), (.int (0 : Int32)), (.ref b80), (.ref b80)]))
            obtain ⟨cl81, Ar81, q81, S81, P81, H81, G81⟩ := id A_b80
            have hin81 : ¬ ((0 : Int32) < 0 ∨ cl81.slots.size ≤ ((0 : Int32)).toNatClampNeg) := inb_of S81 ⟨by decide, by decide⟩
            obtain ⟨T82, h82, X82, e82, W82, st82⟩ := stB X80 hx hZ e80 Ar81 (j := (0 : Int32)) hin81 (g := (mkF m 110 #[.val (.int p0), .val (.int p1), .val (.int p2), .val (.int p3), .val (.int p2.toInt8.toInt32), .val (.int p3.toInt8.toInt32), .val (.int (p1 &&& (3 : Int32))), .val (.ref b55), .val (.int (p0 &&& (3 : Int32))), .unset, .unset] [(.int p3.toInt8.toInt32), (.int (0 : Int32)), (.ref b80), (.ref b80)])) rfl rfl (hb hby at_110)
            rw [own_narb] at W82
            have A_b55 := A_b55.other W82 ne_b55_b80
            have A_b80 : Arv Z h82 b80 k80 .byte (2 : Int32) [(.int p3.toInt8.toInt32), (.int (0 : Int32))] (.int (0 : Int32)) := Arv.set Ar81 q81 S81 P81 H81 G81 (fits_nar_byte _) W82 0 rfl (Nat.le_of_ble_eq_true rfl)
            have K82 := K80.wr W82 (Or.inr sz_b80)
            have N82 := Fr.snoc X82 N57 g_b80
            refine Ends.step st82 ?_
            show Ends p e below QQ (T82.setTop (mkF m 111 #[.val (.int p0), .val (.int p1), .val (.int p2), .val (.int p3), .val (.int p2.toInt8.toInt32), .val (.int p3.toInt8.toInt32), .val (.int (p1 &&& (3 : Int32))), .val (.ref b55), .val (.int (p0 &&& (3 : Int32))), .unset, .unset] [(.ref b80)]))
            refine Ends.step (fun _ k => XS.dup X82.here hx rfl (hb hby at_111) rfl rfl k) ?_
            show Ends p e below QQ (T82.setTop (mkF m 112 #[.val (.int p0), .val (.int p1), .val (.int p2), .val (.int p3), .val (.int p2.toInt8.toInt32), .val (.int p3.toInt8.toInt32), .val (.int (p1 &&& (3 : Int32))), .val (.ref b55), .val (.int (p0 &&& (3 : Int32))), .unset, .unset] [(.ref b80), (.ref b80)]))
            refine Ends.step (fun _ k => XT.iconstV X82.here hx rfl (1 : Int32) (hb hby at_112) rfl k) ?_
            show Ends p e below QQ (T82.setTop (mkF m 113 #[.val (.int p0), .val (.int p1), .val (.int p2), .val (.int p3), .val (.int p2.toInt8.toInt32), .val (.int p3.toInt8.toInt32), .val (.int (p1 &&& (3 : Int32))), .val (.ref b55), .val (.int (p0 &&& (3 : Int32))), .unset, .unset] [(.int (1 : Int32)), (.ref b80), (.ref b80)]))
            refine Ends.step (fun _ k => XS.iload X82.here hx rfl (hb hby at_113) rfl k) ?_
            show Ends p e below QQ (T82.setTop (mkF m 115 #[.val (.int p0), .val (.int p1), .val (.int p2), .val (.int p3), .val (.int p2.toInt8.toInt32), .val (.int p3.toInt8.toInt32), .val (.int (p1 &&& (3 : Int32))), .val (.ref b55), .val (.int (p0 &&& (3 : Int32))), .unset, .unset] [(.int p2.toInt8.toInt32), (.int (1 : Int32)), (.ref b80), (.ref b80)]))
            obtain ⟨cl83, Ar83, q83, S83, P83, H83, G83⟩ := id A_b80
            have hin83 : ¬ ((1 : Int32) < 0 ∨ cl83.slots.size ≤ ((1 : Int32)).toNatClampNeg) := inb_of S83 ⟨by decide, by decide⟩
            obtain ⟨T84, h84, X84, e84, W84, st84⟩ := stB X82 hx hZ e82 Ar83 (j := (1 : Int32)) hin83 (g := (mkF m 115 #[.val (.int p0), .val (.int p1), .val (.int p2), .val (.int p3), .val (.int p2.toInt8.toInt32), .val (.int p3.toInt8.toInt32), .val (.int (p1 &&& (3 : Int32))), .val (.ref b55), .val (.int (p0 &&& (3 : Int32))), .unset, .unset] [(.int p2.toInt8.toInt32), (.int (1 : Int32)), (.ref b80), (.ref b80)])) rfl rfl (hb hby at_115)
            rw [own_narb] at W84
            have A_b55 := A_b55.other W84 ne_b55_b80
            have A_b80 : Arv Z h84 b80 k80 .byte (2 : Int32) [(.int p3.toInt8.toInt32), (.int p2.toInt8.toInt32)] (.int (0 : Int32)) := Arv.set Ar83 q83 S83 P83 H83 G83 (fits_nar_byte _) W84 1 rfl (Nat.le_of_ble_eq_true rfl)
            have K84 := K82.wr W84 (Or.inr sz_b80)
            have N84 := Fr.snoc X84 N82 g_b80
            refine Ends.step st84 ?_
            show Ends p e below QQ (T84.setTop (mkF m 116 #[.val (.int p0), .val (.int p1), .val (.int p2), .val (.int p3), .val (.int p2.toInt8.toInt32), .val (.int p3.toInt8.toInt32), .val (.int (p1 &&& (3 : Int32))), .val (.ref b55), .val (.int (p0 &&& (3 : Int32))), .unset, .unset] [(.ref b80)]))
            refine Ends.step (fun _ k => XS.astore X84.here hx rfl (hb hby at_116) rfl rfl (l' := #[.val (.int p0), .val (.int p1), .val (.int p2), .val (.int p3), .val (.int p2.toInt8.toInt32), .val (.int p3.toInt8.toInt32), .val (.int (p1 &&& (3 : Int32))), .val (.ref b55), .val (.int (p0 &&& (3 : Int32))), .val (.ref b80), .unset]) rfl k) ?_
            show Ends p e below QQ (T84.setTop (mkF m 118 #[.val (.int p0), .val (.int p1), .val (.int p2), .val (.int p3), .val (.int p2.toInt8.toInt32), .val (.int p3.toInt8.toInt32), .val (.int (p1 &&& (3 : Int32))), .val (.ref b55), .val (.int (p0 &&& (3 : Int32))), .val (.ref b80), .unset] []))
            refine Ends.step (fun _ k => XS.aload X84.here hx rfl (hb hby at_118) rfl rfl k) ?_
            show Ends p e below QQ (T84.setTop (mkF m 120 #[.val (.int p0), .val (.int p1), .val (.int p2), .val (.int p3), .val (.int p2.toInt8.toInt32), .val (.int p3.toInt8.toInt32), .val (.int (p1 &&& (3 : Int32))), .val (.ref b55), .val (.int (p0 &&& (3 : Int32))), .val (.ref b80), .unset] [(.ref b80)]))
            refine Ends.step (fun _ k => XS.aload X84.here hx rfl (hb hby at_120) rfl rfl k) ?_
            show Ends p e below QQ (T84.setTop (mkF m 122 #[.val (.int p0), .val (.int p1), .val (.int p2), .val (.int p3), .val (.int p2.toInt8.toInt32), .val (.int p3.toInt8.toInt32), .val (.int (p1 &&& (3 : Int32))), .val (.ref b55), .val (.int (p0 &&& (3 : Int32))), .val (.ref b80), .unset] [(.ref b55), (.ref b80)]))
            obtain ⟨_, _, ⟨T85, L85, k85, n85⟩, -, X85, ⟨Lc85, hQ85, l85, y85, z85⟩, st85⟩ := Jvm.LawKit.callS X84 hx (y := (⟨"com/example/wunce/wunce/StoredCall", "finished", "([B[B)Lcom/example/wunce/wunce/StoredCall;"⟩ : MethodName)) hown (mvT hZ (hw _ (List.mem_of_getElem? (i := 1) rfl))) (mvT hZ (hw _ (List.mem_of_getElem? (i := 2) rfl))) (mvT hZ (hw _ (List.mem_of_getElem? (i := 3) rfl))) (mvT hZ (hw _ (List.mem_of_getElem? (i := 4) rfl))) (by decide) (backOf (W := 0) (rm1 l Z a0 hw [] ((.ref b80) : Value) b55 h84 n0 (Nat.le_trans Z0 K84.1) rfl) hZ (hw _ (List.mem_of_getElem? (i := 4) rfl)) (hw _ (List.mem_of_getElem? (i := 3) rfl)) (by decide) (by decide)) (g := (mkF m 122 #[.val (.int p0), .val (.int p1), .val (.int p2), .val (.int p3), .val (.int p2.toInt8.toInt32), .val (.int p3.toInt8.toInt32), .val (.int (p1 &&& (3 : Int32))), .val (.ref b55), .val (.int (p0 &&& (3 : Int32))), .val (.ref b80), .unset] [(.ref b55), (.ref b80)])) rfl (by rw [hml]; rfl) (argsL := [(.ref b80), (.ref b55)]) (rest := []) (lenOf pd_1 rfl) rfl (by show 2 * 0 + _ ≤ _; exact Nat.le_of_eq rfl) (hb hby at_122) (fun _ _ => ⟨rfl, e84, (by decide : 2 + 1 ≤ _), (by decide : 3 + 2 ≤ _)⟩)
            dsimp only [Pt.U, Pt.locs, Pt.cells, Pt.slots] at X85 l85 y85 z85 st85 hQ85
            subst l85 y85 z85
            obtain ⟨b_85, rfl, Nq85, Kq85, fq85_0, fq85_1, fq85_2, fq85_3, fq85_4⟩ := hQ85
            have N85 := Fr.app N84 Nq85
            have ne_b55_b_85 : b55 ≠ b_85 := Nat.ne_of_lt (Nat.lt_of_lt_of_le A_b55.lt fq85_0)
            have ne_b80_b_85 : b80 ≠ b_85 := Nat.ne_of_lt (Nat.lt_of_lt_of_le A_b80.lt fq85_0)
            have sz_b_85 := Nat.le_trans K84.1 fq85_0
            have A_b55 := A_b55.keep Kq85 nin0
            have A_b80 := A_b80.keep Kq85 nin0
            have g_b_85 := fq85_1
            have E_b_85 := fq85_2
            have F__fingerprint_b_85 := fq85_3
            have F__answer_b_85 := fq85_4
            have K85 := K84.trans Kq85 all0
            refine Ends.step st85 ?_
            show Ends p e below QQ (T85.setTop (mkF m 125 #[.val (.int p0), .val (.int p1), .val (.int p2), .val (.int p3), .val (.int p2.toInt8.toInt32), .val (.int p3.toInt8.toInt32), .val (.int (p1 &&& (3 : Int32))), .val (.ref b55), .val (.int (p0 &&& (3 : Int32))), .val (.ref b80), .unset] [(.ref b_85)]))
            refine Ends.step (fun _ k => XS.astore X85.here hx rfl (hb hby at_125) rfl rfl (l' := #[.val (.int p0), .val (.int p1), .val (.int p2), .val (.int p3), .val (.int p2.toInt8.toInt32), .val (.int p3.toInt8.toInt32), .val (.int (p1 &&& (3 : Int32))), .val (.ref b55), .val (.int (p0 &&& (3 : Int32))), .val (.ref b80), .val (.ref b_85)]) rfl k) ?_
            show Ends p e below QQ (T85.setTop (mkF m 127 #[.val (.int p0), .val (.int p1), .val (.int p2), .val (.int p3), .val (.int p2.toInt8.toInt32), .val (.int p3.toInt8.toInt32), .val (.int (p1 &&& (3 : Int32))), .val (.ref b55), .val (.int (p0 &&& (3 : Int32))), .val (.ref b80), .val (.ref b_85)] []))
            refine Ends.step (fun _ k => XS.aload X85.here hx rfl (hb hby at_127) rfl rfl k) ?_
            show Ends p e below QQ (T85.setTop (mkF m 129 #[.val (.int p0), .val (.int p1), .val (.int p2), .val (.int p3), .val (.int p2.toInt8.toInt32), .val (.int p3.toInt8.toInt32), .val (.int (p1 &&& (3 : Int32))), .val (.ref b55), .val (.int (p0 &&& (3 : Int32))), .val (.ref b80), .val (.ref b_85)] [(.ref b_85)]))
            refine Ends.step (fun _ k => XT.ifnonnullYes X85.here hx rfl (pc0 := 129) (pc' := 134) rfl (hb hby at_129) rfl (by decide) (by decide) k) ?_
            show Ends p e below QQ (T85.setTop (mkF m 134 #[.val (.int p0), .val (.int p1), .val (.int p2), .val (.int p3), .val (.int p2.toInt8.toInt32), .val (.int p3.toInt8.toInt32), .val (.int (p1 &&& (3 : Int32))), .val (.ref b55), .val (.int (p0 &&& (3 : Int32))), .val (.ref b80), .val (.ref b_85)] []))
            refine Ends.step (fun _ k => XS.aload X85.here hx rfl (hb hby at_134) rfl rfl k) ?_
            show Ends p e below QQ (T85.setTop (mkF m 136 #[.val (.int p0), .val (.int p1), .val (.int p2), .val (.int p3), .val (.int p2.toInt8.toInt32), .val (.int p3.toInt8.toInt32), .val (.int (p1 &&& (3 : Int32))), .val (.ref b55), .val (.int (p0 &&& (3 : Int32))), .val (.ref b80), .val (.ref b_85)] [(.ref b_85)]))
            obtain ⟨cq86, kq86, q86a, q86b, q86c⟩ := isOf hZ rfl E_b_85
            obtain ⟨_, _, ⟨T86, L86, k86, n86⟩, -, X86, ⟨Lc86, hQ86, l86, y86, z86⟩, st86⟩ := X85.virtualBack hx (y := (⟨"com/example/wunce/wunce/StoredCall", "fingerprint", "()[B"⟩ : MethodName)) (z := (⟨"com/example/wunce/wunce/StoredCall", "fingerprint", "()[B"⟩ : MethodName)) hown (mvT hZ (hw _ (List.mem_of_getElem? (i := 17) rfl))) (mvT hZ (hw _ (List.mem_of_getElem? (i := 18) rfl))) (notFace_of_selects (args := #[]) (mvT hZ (hw _ (List.mem_of_getElem? (i := 20) rfl)))) (mvT hZ (hw _ (List.mem_of_getElem? (i := 20) rfl))) (mvT hZ (hw _ (List.mem_of_getElem? (i := 19) rfl))) (by decide) (backOf (W := 0) (rm4 l Z a0 hw [] b_85 ((.ref b80) : Value) T85.heap n0 (Nat.le_trans Z0 K85.1) F__fingerprint_b_85 rfl) hZ (hw _ (List.mem_of_getElem? (i := 21) rfl)) (hw _ (List.mem_of_getElem? (i := 3) rfl)) (by decide) (by decide)) q86a q86c (g := (mkF m 136 #[.val (.int p0), .val (.int p1), .val (.int p2), .val (.int p3), .val (.int p2.toInt8.toInt32), .val (.int p3.toInt8.toInt32), .val (.int (p1 &&& (3 : Int32))), .val (.ref b55), .val (.int (p0 &&& (3 : Int32))), .val (.ref b80), .val (.ref b_85)] [(.ref b_85)])) rfl (by rw [hml]; rfl) (Steps.refl _) (argsL := []) (rest := []) (lenOf pd_2 rfl) rfl (by show 2 * 0 + _ ≤ _; exact Nat.le_of_eq rfl) (hb hby at_136) (fun _ _ => ⟨rfl, rfl, (by decide : 3 + 0 ≤ _), (by decide : 5 + 0 ≤ _)⟩)
            dsimp only [Pt.U, Pt.locs, Pt.cells, Pt.slots] at X86 l86 y86 z86 st86 hQ86
            subst l86 y86 z86
            obtain ⟨rfl, Nq86, hh86⟩ := hQ86
            have N86 := Fr.app N85 Nq86
            refine Ends.step (fun _ k => st86.trans k) ?_
            show Ends p e below QQ (T86.setTop (mkF m 139 #[.val (.int p0), .val (.int p1), .val (.int p2), .val (.int p3), .val (.int p2.toInt8.toInt32), .val (.int p3.toInt8.toInt32), .val (.int (p1 &&& (3 : Int32))), .val (.ref b55), .val (.int (p0 &&& (3 : Int32))), .val (.ref b80), .val (.ref b_85)] [(.ref b80)]))
            refine Ends.step (fun _ k => XS.aload X86.here hx rfl (hb hby at_139) rfl rfl k) ?_
            show Ends p e below QQ (T86.setTop (mkF m 141 #[.val (.int p0), .val (.int p1), .val (.int p2), .val (.int p3), .val (.int p2.toInt8.toInt32), .val (.int p3.toInt8.toInt32), .val (.int (p1 &&& (3 : Int32))), .val (.ref b55), .val (.int (p0 &&& (3 : Int32))), .val (.ref b80), .val (.ref b_85)] [(.ref b80), (.ref b80)]))
            refine Ends.step (fun _ k => Jvm.RoadKit.acmp (g := (mkF m 141 #[.val (.int p0), .val (.int p1), .val (.int p2), .val (.int p3), .val (.int p2.toInt8.toInt32), .val (.int p3.toInt8.toInt32), .val (.int (p1 &&& (3 : Int32))), .val (.ref b55), .val (.int (p0 &&& (3 : Int32))), .val (.ref b80), .val (.ref b_85)] [(.ref b80), (.ref b80)])) X86 hx rfl rfl rfl (pc0 := 141) (pc' := 146) (same := true) rfl (hb hby at_141) rfl (decide_eq_true rfl) (by decide) (by decide) k) ?_
            show Ends p e below QQ (T86.setTop (mkF m 146 #[.val (.int p0), .val (.int p1), .val (.int p2), .val (.int p3), .val (.int p2.toInt8.toInt32), .val (.int p3.toInt8.toInt32), .val (.int (p1 &&& (3 : Int32))), .val (.ref b55), .val (.int (p0 &&& (3 : Int32))), .val (.ref b80), .val (.ref b_85)] []))
            refine Ends.step (fun _ k => XS.aload X86.here hx rfl (hb hby at_146) rfl rfl k) ?_
            show Ends p e below QQ (T86.setTop (mkF m 148 #[.val (.int p0), .val (.int p1), .val (.int p2), .val (.int p3), .val (.int p2.toInt8.toInt32), .val (.int p3.toInt8.toInt32), .val (.int (p1 &&& (3 : Int32))), .val (.ref b55), .val (.int (p0 &&& (3 : Int32))), .val (.ref b80), .val (.ref b_85)] [(.ref b_85)]))
            obtain ⟨cq87, kq87, q87a, q87b, q87c⟩ := isOf hZ hh86 E_b_85
            obtain ⟨_, _, ⟨T87, L87, k87, n87⟩, -, X87, ⟨Lc87, hQ87, l87, y87, z87⟩, st87⟩ := X86.virtualBack hx (y := (⟨"com/example/wunce/wunce/StoredCall", "answer", "()[B"⟩ : MethodName)) (z := (⟨"com/example/wunce/wunce/StoredCall", "answer", "()[B"⟩ : MethodName)) hown (mvT hZ (hw _ (List.mem_of_getElem? (i := 22) rfl))) (mvT hZ (hw _ (List.mem_of_getElem? (i := 23) rfl))) (notFace_of_selects (args := #[]) (mvT hZ (hw _ (List.mem_of_getElem? (i := 25) rfl)))) (mvT hZ (hw _ (List.mem_of_getElem? (i := 25) rfl))) (mvT hZ (hw _ (List.mem_of_getElem? (i := 24) rfl))) (by decide) (backOf (W := 0) (rm5 l Z a0 hw [] b_85 ((.ref b55) : Value) T85.heap n0 (Nat.le_trans Z0 K85.1) F__answer_b_85 rfl) hZ (hw _ (List.mem_of_getElem? (i := 26) rfl)) (hw _ (List.mem_of_getElem? (i := 3) rfl)) (by decide) (by decide)) q87a q87c (g := (mkF m 148 #[.val (.int p0), .val (.int p1), .val (.int p2), .val (.int p3), .val (.int p2.toInt8.toInt32), .val (.int p3.toInt8.toInt32), .val (.int (p1 &&& (3 : Int32))), .val (.ref b55), .val (.int (p0 &&& (3 : Int32))), .val (.ref b80), .val (.ref b_85)] [(.ref b_85)])) rfl (by rw [hml]; rfl) (Steps.refl _) (argsL := []) (rest := []) (lenOf pd_2 rfl) rfl (by show 2 * 0 + _ ≤ _; exact Nat.le_of_eq rfl) (hb hby at_148) (fun _ _ => ⟨rfl, hh86, (by decide : 3 + 0 ≤ _), (by decide : 5 + 0 ≤ _)⟩)
            dsimp only [Pt.U, Pt.locs, Pt.cells, Pt.slots] at X87 l87 y87 z87 st87 hQ87
            subst l87 y87 z87
            obtain ⟨rfl, Nq87, hh87⟩ := hQ87
            have N87 := Fr.app N86 Nq87
            refine Ends.step (fun _ k => st87.trans k) ?_
            show Ends p e below QQ (T87.setTop (mkF m 151 #[.val (.int p0), .val (.int p1), .val (.int p2), .val (.int p3), .val (.int p2.toInt8.toInt32), .val (.int p3.toInt8.toInt32), .val (.int (p1 &&& (3 : Int32))), .val (.ref b55), .val (.int (p0 &&& (3 : Int32))), .val (.ref b80), .val (.ref b_85)] [(.ref b55)]))
            refine Ends.step (fun _ k => XS.aload X87.here hx rfl (hb hby at_151) rfl rfl k) ?_
            show Ends p e below QQ (T87.setTop (mkF m 153 #[.val (.int p0), .val (.int p1), .val (.int p2), .val (.int p3), .val (.int p2.toInt8.toInt32), .val (.int p3.toInt8.toInt32), .val (.int (p1 &&& (3 : Int32))), .val (.ref b55), .val (.int (p0 &&& (3 : Int32))), .val (.ref b80), .val (.ref b_85)] [(.ref b55), (.ref b55)]))
            refine Ends.step (fun _ k => Jvm.RoadKit.acmp (g := (mkF m 153 #[.val (.int p0), .val (.int p1), .val (.int p2), .val (.int p3), .val (.int p2.toInt8.toInt32), .val (.int p3.toInt8.toInt32), .val (.int (p1 &&& (3 : Int32))), .val (.ref b55), .val (.int (p0 &&& (3 : Int32))), .val (.ref b80), .val (.ref b_85)] [(.ref b55), (.ref b55)])) X87 hx rfl rfl rfl (pc0 := 153) (pc' := 158) (same := true) rfl (hb hby at_153) rfl (decide_eq_true rfl) (by decide) (by decide) k) ?_
            show Ends p e below QQ (T87.setTop (mkF m 158 #[.val (.int p0), .val (.int p1), .val (.int p2), .val (.int p3), .val (.int p2.toInt8.toInt32), .val (.int p3.toInt8.toInt32), .val (.int (p1 &&& (3 : Int32))), .val (.ref b55), .val (.int (p0 &&& (3 : Int32))), .val (.ref b80), .val (.ref b_85)] []))
            refine Ends.step (fun _ k => XS.aload X87.here hx rfl (hb hby at_158) rfl rfl k) ?_
            show Ends p e below QQ (T87.setTop (mkF m 160 #[.val (.int p0), .val (.int p1), .val (.int p2), .val (.int p3), .val (.int p2.toInt8.toInt32), .val (.int p3.toInt8.toInt32), .val (.int (p1 &&& (3 : Int32))), .val (.ref b55), .val (.int (p0 &&& (3 : Int32))), .val (.ref b80), .val (.ref b_85)] [(.ref b_85)]))
            obtain ⟨cq88, kq88, q88a, q88b, q88c⟩ := isOf hZ hh87 E_b_85
            obtain ⟨_, _, ⟨T88, L88, k88, n88⟩, -, X88, ⟨Lc88, hQ88, l88, y88, z88⟩, st88⟩ := X87.virtualBack hx (y := (⟨"com/example/wunce/wunce/StoredCall", "isFinished", "()Z"⟩ : MethodName)) (z := (⟨"com/example/wunce/wunce/StoredCall", "isFinished", "()Z"⟩ : MethodName)) hown (mvT hZ (hw _ (List.mem_of_getElem? (i := 27) rfl))) (mvT hZ (hw _ (List.mem_of_getElem? (i := 28) rfl))) (notFace_of_selects (args := #[]) (mvT hZ (hw _ (List.mem_of_getElem? (i := 30) rfl)))) (mvT hZ (hw _ (List.mem_of_getElem? (i := 30) rfl))) (mvT hZ (hw _ (List.mem_of_getElem? (i := 29) rfl))) (by decide) (backOf (W := 0) (rm6 l Z a0 hw [] b_85 b55 T85.heap n0 (Nat.le_trans Z0 K85.1) F__answer_b_85) hZ (hw _ (List.mem_of_getElem? (i := 31) rfl)) (hw _ (List.mem_of_getElem? (i := 3) rfl)) (by decide) (by decide)) q88a q88c (g := (mkF m 160 #[.val (.int p0), .val (.int p1), .val (.int p2), .val (.int p3), .val (.int p2.toInt8.toInt32), .val (.int p3.toInt8.toInt32), .val (.int (p1 &&& (3 : Int32))), .val (.ref b55), .val (.int (p0 &&& (3 : Int32))), .val (.ref b80), .val (.ref b_85)] [(.ref b_85)])) rfl (by rw [hml]; rfl) (Steps.refl _) (argsL := []) (rest := []) (lenOf pd_3 rfl) rfl (by show 2 * 0 + _ ≤ _; exact Nat.le_of_eq rfl) (hb hby at_160) (fun _ _ => ⟨rfl, hh87, (by decide : 3 + 0 ≤ _), (by decide : 5 + 0 ≤ _)⟩)
            dsimp only [Pt.U, Pt.locs, Pt.cells, Pt.slots] at X88 l88 y88 z88 st88 hQ88
            subst l88 y88 z88
            obtain ⟨rfl, Nq88, hh88⟩ := hQ88
            have N88 := Fr.app N87 Nq88
            refine Ends.step (fun _ k => st88.trans k) ?_
            show Ends p e below QQ (T88.setTop (mkF m 163 #[.val (.int p0), .val (.int p1), .val (.int p2), .val (.int p3), .val (.int p2.toInt8.toInt32), .val (.int p3.toInt8.toInt32), .val (.int (p1 &&& (3 : Int32))), .val (.ref b55), .val (.int (p0 &&& (3 : Int32))), .val (.ref b80), .val (.ref b_85)] [(.int (1 : Int32))]))
            refine Ends.step (fun _ k => XS.ifYes X88.here hx rfl (pc0 := 163) (pc' := 168) rfl (hb hby at_163) rfl (XT.i0_ne_t (by decide)) (by decide) (by decide) k) ?_
            show Ends p e below QQ (T88.setTop (mkF m 168 #[.val (.int p0), .val (.int p1), .val (.int p2), .val (.int p3), .val (.int p2.toInt8.toInt32), .val (.int p3.toInt8.toInt32), .val (.int (p1 &&& (3 : Int32))), .val (.ref b55), .val (.int (p0 &&& (3 : Int32))), .val (.ref b80), .val (.ref b_85)] []))
            refine Ends.step (fun _ k => XS.aload X88.here hx rfl (hb hby at_168) rfl rfl k) ?_
            show Ends p e below QQ (T88.setTop (mkF m 170 #[.val (.int p0), .val (.int p1), .val (.int p2), .val (.int p3), .val (.int p2.toInt8.toInt32), .val (.int p3.toInt8.toInt32), .val (.int (p1 &&& (3 : Int32))), .val (.ref b55), .val (.int (p0 &&& (3 : Int32))), .val (.ref b80), .val (.ref b_85)] [(.ref b55)]))
            refine Ends.step (fun _ k => XS.iload X88.here hx rfl (hb hby at_170) rfl k) ?_
            show Ends p e below QQ (T88.setTop (mkF m 172 #[.val (.int p0), .val (.int p1), .val (.int p2), .val (.int p3), .val (.int p2.toInt8.toInt32), .val (.int p3.toInt8.toInt32), .val (.int (p1 &&& (3 : Int32))), .val (.ref b55), .val (.int (p0 &&& (3 : Int32))), .val (.ref b80), .val (.ref b_85)] [(.int (p1 &&& (3 : Int32))), (.ref b55)]))
            refine Ends.step (fun _ k => XS.iload X88.here hx rfl (hb hby at_172) rfl k) ?_
            show Ends p e below QQ (T88.setTop (mkF m 174 #[.val (.int p0), .val (.int p1), .val (.int p2), .val (.int p3), .val (.int p2.toInt8.toInt32), .val (.int p3.toInt8.toInt32), .val (.int (p1 &&& (3 : Int32))), .val (.ref b55), .val (.int (p0 &&& (3 : Int32))), .val (.ref b80), .val (.ref b_85)] [(.int p2.toInt8.toInt32), (.int (p1 &&& (3 : Int32))), (.ref b55)]))
            refine Ends.step (fun _ k => XS.iload X88.here hx rfl (hb hby at_174) rfl k) ?_
            show Ends p e below QQ (T88.setTop (mkF m 176 #[.val (.int p0), .val (.int p1), .val (.int p2), .val (.int p3), .val (.int p2.toInt8.toInt32), .val (.int p3.toInt8.toInt32), .val (.int (p1 &&& (3 : Int32))), .val (.ref b55), .val (.int (p0 &&& (3 : Int32))), .val (.ref b80), .val (.ref b_85)] [(.int p3.toInt8.toInt32), (.int p2.toInt8.toInt32), (.int (p1 &&& (3 : Int32))), (.ref b55)]))
            obtain ⟨_, _, ⟨T89, L89, k89, n89⟩, -, X89, ⟨Lc89, hQ89, l89, y89, z89⟩, st89⟩ := Jvm.LawKit.callS X88 hx (y := (⟨"com/example/wunce/wunce/StoredCallFinishedPinLaw", "answerIntact", "([BIBB)Z"⟩ : MethodName)) hown (mvT hZ (hw _ (List.mem_of_getElem? (i := 32) rfl))) (mvT hZ (hw _ (List.mem_of_getElem? (i := 33) rfl))) (mvT hZ (hw _ (List.mem_of_getElem? (i := 34) rfl))) (mvT hZ (hw _ (List.mem_of_getElem? (i := 35) rfl))) (by decide) (backOf (W := 0) (rm7b l Z a0 hw [] b55 (p1 &&& (3 : Int32)) (p2.toInt8.toInt32) (p3.toInt8.toInt32) k55 T85.heap n0 (Nat.le_trans Z0 K85.1) A_b55 (by first | assumption | rfl | decide) (by first | assumption | rfl | decide)) hZ (hw _ (List.mem_of_getElem? (i := 35) rfl)) (hw _ (List.mem_of_getElem? (i := 34) rfl)) (by decide) (by decide)) (g := (mkF m 176 #[.val (.int p0), .val (.int p1), .val (.int p2), .val (.int p3), .val (.int p2.toInt8.toInt32), .val (.int p3.toInt8.toInt32), .val (.int (p1 &&& (3 : Int32))), .val (.ref b55), .val (.int (p0 &&& (3 : Int32))), .val (.ref b80), .val (.ref b_85)] [(.int p3.toInt8.toInt32), (.int p2.toInt8.toInt32), (.int (p1 &&& (3 : Int32))), (.ref b55)])) rfl (by rw [hml]; rfl) (argsL := [(.ref b55), (.int (p1 &&& (3 : Int32))), (.int p2.toInt8.toInt32), (.int p3.toInt8.toInt32)]) (rest := []) (lenOf pd_4 rfl) rfl (by show 2 * 0 + _ ≤ _; exact Nat.le_of_eq rfl) (hb hby at_176) (fun _ _ => ⟨rfl, hh88, (by decide : 3 + 0 ≤ _), (by decide : 5 + 0 ≤ _)⟩)
            dsimp only [Pt.U, Pt.locs, Pt.cells, Pt.slots] at X89 l89 y89 z89 st89 hQ89
            subst l89 y89 z89
            obtain ⟨rfl, Nq89, hh89⟩ := hQ89
            have N89 := Fr.app N88 Nq89
            refine Ends.step st89 ?_
            show Ends p e below QQ (T89.setTop (mkF m 179 #[.val (.int p0), .val (.int p1), .val (.int p2), .val (.int p3), .val (.int p2.toInt8.toInt32), .val (.int p3.toInt8.toInt32), .val (.int (p1 &&& (3 : Int32))), .val (.ref b55), .val (.int (p0 &&& (3 : Int32))), .val (.ref b80), .val (.ref b_85)] [(.int (1 : Int32))]))
            refine Ends.step (fun _ k => XS.ifNo X89.here hx rfl (hb hby at_179) rfl (XT.i0_eq_f (by decide)) k) ?_
            show Ends p e below QQ (T89.setTop (mkF m 182 #[.val (.int p0), .val (.int p1), .val (.int p2), .val (.int p3), .val (.int p2.toInt8.toInt32), .val (.int p3.toInt8.toInt32), .val (.int (p1 &&& (3 : Int32))), .val (.ref b55), .val (.int (p0 &&& (3 : Int32))), .val (.ref b80), .val (.ref b_85)] []))
            refine Ends.step (fun _ k => XS.aload X89.here hx rfl (hb hby at_182) rfl rfl k) ?_
            show Ends p e below QQ (T89.setTop (mkF m 184 #[.val (.int p0), .val (.int p1), .val (.int p2), .val (.int p3), .val (.int p2.toInt8.toInt32), .val (.int p3.toInt8.toInt32), .val (.int (p1 &&& (3 : Int32))), .val (.ref b55), .val (.int (p0 &&& (3 : Int32))), .val (.ref b80), .val (.ref b_85)] [(.ref b80)]))
            refine Ends.step (fun _ k => XS.iload X89.here hx rfl (hb hby at_184) rfl k) ?_
            show Ends p e below QQ (T89.setTop (mkF m 186 #[.val (.int p0), .val (.int p1), .val (.int p2), .val (.int p3), .val (.int p2.toInt8.toInt32), .val (.int p3.toInt8.toInt32), .val (.int (p1 &&& (3 : Int32))), .val (.ref b55), .val (.int (p0 &&& (3 : Int32))), .val (.ref b80), .val (.ref b_85)] [(.int (p0 &&& (3 : Int32))), (.ref b80)]))
            refine Ends.step (fun _ k => XS.iload X89.here hx rfl (hb hby at_186) rfl k) ?_
            show Ends p e below QQ (T89.setTop (mkF m 188 #[.val (.int p0), .val (.int p1), .val (.int p2), .val (.int p3), .val (.int p2.toInt8.toInt32), .val (.int p3.toInt8.toInt32), .val (.int (p1 &&& (3 : Int32))), .val (.ref b55), .val (.int (p0 &&& (3 : Int32))), .val (.ref b80), .val (.ref b_85)] [(.int p2.toInt8.toInt32), (.int (p0 &&& (3 : Int32))), (.ref b80)]))
            refine Ends.step (fun _ k => XS.iload X89.here hx rfl (hb hby at_188) rfl k) ?_
            show Ends p e below QQ (T89.setTop (mkF m 190 #[.val (.int p0), .val (.int p1), .val (.int p2), .val (.int p3), .val (.int p2.toInt8.toInt32), .val (.int p3.toInt8.toInt32), .val (.int (p1 &&& (3 : Int32))), .val (.ref b55), .val (.int (p0 &&& (3 : Int32))), .val (.ref b80), .val (.ref b_85)] [(.int p3.toInt8.toInt32), (.int p2.toInt8.toInt32), (.int (p0 &&& (3 : Int32))), (.ref b80)]))
            obtain ⟨_, _, ⟨T90, L90, k90, n90⟩, -, X90, ⟨Lc90, hQ90, l90, y90, z90⟩, st90⟩ := Jvm.LawKit.callS X89 hx (y := (⟨"com/example/wunce/wunce/StoredCallFinishedPinLaw", "fingerprintIntact", "([BIBB)Z"⟩ : MethodName)) hown (mvT hZ (hw _ (List.mem_of_getElem? (i := 36) rfl))) (mvT hZ (hw _ (List.mem_of_getElem? (i := 37) rfl))) (mvT hZ (hw _ (List.mem_of_getElem? (i := 34) rfl))) (mvT hZ (hw _ (List.mem_of_getElem? (i := 38) rfl))) (by decide) (backOf (W := 0) (rm8d l Z a0 hw [] b80 (p0 &&& (3 : Int32)) (p2.toInt8.toInt32) (p3.toInt8.toInt32) k80 T85.heap n0 (Nat.le_trans Z0 K85.1) A_b80 (by first | assumption | rfl | decide) (by first | assumption | rfl | decide) (by first | assumption | rfl | decide)) hZ (hw _ (List.mem_of_getElem? (i := 38) rfl)) (hw _ (List.mem_of_getElem? (i := 34) rfl)) (by decide) (by decide)) (g := (mkF m 190 #[.val (.int p0), .val (.int p1), .val (.int p2), .val (.int p3), .val (.int p2.toInt8.toInt32), .val (.int p3.toInt8.toInt32), .val (.int (p1 &&& (3 : Int32))), .val (.ref b55), .val (.int (p0 &&& (3 : Int32))), .val (.ref b80), .val (.ref b_85)] [(.int p3.toInt8.toInt32), (.int p2.toInt8.toInt32), (.int (p0 &&& (3 : Int32))), (.ref b80)])) rfl (by rw [hml]; rfl) (argsL := [(.ref b80), (.int (p0 &&& (3 : Int32))), (.int p2.toInt8.toInt32), (.int p3.toInt8.toInt32)]) (rest := []) (lenOf pd_4 rfl) rfl (by show 2 * 0 + _ ≤ _; exact Nat.le_of_eq rfl) (hb hby at_190) (fun _ _ => ⟨rfl, hh89, (by decide : 3 + 0 ≤ _), (by decide : 5 + 0 ≤ _)⟩)
            dsimp only [Pt.U, Pt.locs, Pt.cells, Pt.slots] at X90 l90 y90 z90 st90 hQ90
            subst l90 y90 z90
            obtain ⟨rfl, Nq90, hh90⟩ := hQ90
            have N90 := Fr.app N89 Nq90
            refine Ends.step st90 ?_
            show Ends p e below QQ (T90.setTop (mkF m 193 #[.val (.int p0), .val (.int p1), .val (.int p2), .val (.int p3), .val (.int p2.toInt8.toInt32), .val (.int p3.toInt8.toInt32), .val (.int (p1 &&& (3 : Int32))), .val (.ref b55), .val (.int (p0 &&& (3 : Int32))), .val (.ref b80), .val (.ref b_85)] [(.int (1 : Int32))]))
            refine Ends.step (fun _ k => XS.ifNo X90.here hx rfl (hb hby at_193) rfl (XT.i0_eq_f (by decide)) k) ?_
            show Ends p e below QQ (T90.setTop (mkF m 196 #[.val (.int p0), .val (.int p1), .val (.int p2), .val (.int p3), .val (.int p2.toInt8.toInt32), .val (.int p3.toInt8.toInt32), .val (.int (p1 &&& (3 : Int32))), .val (.ref b55), .val (.int (p0 &&& (3 : Int32))), .val (.ref b80), .val (.ref b_85)] []))
            refine Ends.step (fun _ k => XT.iconstV X90.here hx rfl (1 : Int32) (hb hby at_196) rfl k) ?_
            show Ends p e below QQ (T90.setTop (mkF m 197 #[.val (.int p0), .val (.int p1), .val (.int p2), .val (.int p3), .val (.int p2.toInt8.toInt32), .val (.int p3.toInt8.toInt32), .val (.int (p1 &&& (3 : Int32))), .val (.ref b55), .val (.int (p0 &&& (3 : Int32))), .val (.ref b80), .val (.ref b_85)] [(.int (1 : Int32))]))
            refine Ends.step (fun _ k => XS.goto X90.here hx rfl (pc0 := 197) (pc' := 201) rfl (hb hby at_197) (by decide) (by decide) k) ?_
            show Ends p e below QQ (T90.setTop (mkF m 201 #[.val (.int p0), .val (.int p1), .val (.int p2), .val (.int p3), .val (.int p2.toInt8.toInt32), .val (.int p3.toInt8.toInt32), .val (.int (p1 &&& (3 : Int32))), .val (.ref b55), .val (.int (p0 &&& (3 : Int32))), .val (.ref b80), .val (.ref b_85)] [(.int (1 : Int32))]))
            exact Ends.fin (some (.int (1 : Int32))) X90 hQQ (fun h => by rw [Bd.returns] at h; cases h) Bd.notSynchronized (fun _ hr => retOut X90 hx (t := .boolean) Bd.returns rfl (Or.inl ⟨rfl, (by simp), _, rfl⟩) (hb hby at_201) hr) hh90 (by decide) (by decide) ⟨(by simp only [f0, if_neg hc15_19, if_pos hc29_54, if_neg hc67_58, if_neg hc79_65, if_neg hc92_72]), N90, K85⟩
    · refine Ends.step (fun _ k => XS.icmpYes X0.here hx rfl (pc0 := 29) (pc' := 45) rfl (hb hby at_29) rfl (XT.ii_ne_t hc29_54) (by decide) (by decide) k) ?_
      show Ends p e below QQ (s₁.setTop (mkF m 45 #[.val (.int p0), .val (.int p1), .val (.int p2), .val (.int p3), .val (.int p2.toInt8.toInt32), .val (.int p3.toInt8.toInt32), .val (.int (p1 &&& (3 : Int32))), .unset, .unset, .unset, .unset] []))
      refine Ends.step (fun _ k => XT.iconstV X0.here hx rfl (2 : Int32) (hb hby at_45) rfl k) ?_
      show Ends p e below QQ (s₁.setTop (mkF m 46 #[.val (.int p0), .val (.int p1), .val (.int p2), .val (.int p3), .val (.int p2.toInt8.toInt32), .val (.int p3.toInt8.toInt32), .val (.int (p1 &&& (3 : Int32))), .unset, .unset, .unset, .unset] [(.int (2 : Int32))]))
      obtain ⟨T91, h91, k91, X91, e91, E91, A91, st91⟩ := newP X0 hx hZ (hw _ (List.mem_of_getElem? (i := 0) rfl)) e0 (g := (mkF m 46 #[.val (.int p0), .val (.int p1), .val (.int p2), .val (.int p3), .val (.int p2.toInt8.toInt32), .val (.int p3.toInt8.toInt32), .val (.int (p1 &&& (3 : Int32))), .unset, .unset, .unset, .unset] [(.int (2 : Int32))])) rfl (hb hby at_46) rfl (by decide) (cap := 2) (by decide) (by decide) (by decide) (by decide)
      obtain ⟨b91, g91⟩ : ∃ z, z = h0.size := ⟨_, rfl⟩
      rw [← g91] at A91 st91
      have g_b91 : n0 ≤ b91 := Nat.le_trans Z0 (Nat.le_trans (Keep.refl h0 []).1 (Nat.le_of_eq g91.symm))
      have sz_b91 : h0.size ≤ b91 := Nat.le_trans (Keep.refl h0 []).1 (Nat.le_of_eq g91.symm)
      have K91 := (Keep.refl h0 []).ext E91
      have A_b91 : Arv Z h91 b91 k91 .byte (2 : Int32) [(.int (0 : Int32)), (.int (0 : Int32))] (.int (0 : Int32)) := (Arv.new A91 (by decide)).pad (pad_rep [] (.int (0 : Int32)) 2)
      refine Ends.step st91 ?_
      show Ends p e below QQ (T91.setTop (mkF m 48 #[.val (.int p0), .val (.int p1), .val (.int p2), .val (.int p3), .val (.int p2.toInt8.toInt32), .val (.int p3.toInt8.toInt32), .val (.int (p1 &&& (3 : Int32))), .unset, .unset, .unset, .unset] [(.ref b91)]))
      refine Ends.step (fun _ k => XS.dup X91.here hx rfl (hb hby at_48) rfl rfl k) ?_
      show Ends p e below QQ (T91.setTop (mkF m 49 #[.val (.int p0), .val (.int p1), .val (.int p2), .val (.int p3), .val (.int p2.toInt8.toInt32), .val (.int p3.toInt8.toInt32), .val (.int (p1 &&& (3 : Int32))), .unset, .unset, .unset, .unset] [(.ref b91), (.ref b91)]))
      refine Ends.step (fun _ k => XT.iconstV X91.here hx rfl (0 : Int32) (hb hby at_49) rfl k) ?_
      show Ends p e below QQ (T91.setTop (mkF m 50 #[.val (.int p0), .val (.int p1), .val (.int p2), .val (.int p3), .val (.int p2.toInt8.toInt32), .val (.int p3.toInt8.toInt32), .val (.int (p1 &&& (3 : Int32))), .unset, .unset, .unset, .unset] [(.int (0 : Int32)), (.ref b91), (.ref b91)]))
      refine Ends.step (fun _ k => XS.iload X91.here hx rfl (hb hby at_50) rfl k) ?_
      show Ends p e below QQ (T91.setTop (mkF m 52 #[.val (.int p0), .val (.int p1), .val (.int p2), .val (.int p3), .val (.int p2.toInt8.toInt32), .val (.int p3.toInt8.toInt32), .val (.int (p1 &&& (3 : Int32))), .unset, .unset, .unset, .unset] [(.int p2.toInt8.toInt32), (.int (0 : Int32)), (.ref b91), (.ref b91)]))
      obtain ⟨cl92, Ar92, q92, S92, P92, H92, G92⟩ := id A_b91
      have hin92 : ¬ ((0 : Int32) < 0 ∨ cl92.slots.size ≤ ((0 : Int32)).toNatClampNeg) := inb_of S92 ⟨by decide, by decide⟩
      obtain ⟨T93, h93, X93, e93, W93, st93⟩ := stB X91 hx hZ e91 Ar92 (j := (0 : Int32)) hin92 (g := (mkF m 52 #[.val (.int p0), .val (.int p1), .val (.int p2), .val (.int p3), .val (.int p2.toInt8.toInt32), .val (.int p3.toInt8.toInt32), .val (.int (p1 &&& (3 : Int32))), .unset, .unset, .unset, .unset] [(.int p2.toInt8.toInt32), (.int (0 : Int32)), (.ref b91), (.ref b91)])) rfl rfl (hb hby at_52)
      rw [own_narb] at W93
      have A_b91 : Arv Z h93 b91 k91 .byte (2 : Int32) [(.int p2.toInt8.toInt32), (.int (0 : Int32))] (.int (0 : Int32)) := Arv.set Ar92 q92 S92 P92 H92 G92 (fits_nar_byte _) W93 0 rfl (Nat.le_of_ble_eq_true rfl)
      have K93 := K91.wr W93 (Or.inr sz_b91)
      have N93 := Fr.snoc X93 N0 g_b91
      refine Ends.step st93 ?_
      show Ends p e below QQ (T93.setTop (mkF m 53 #[.val (.int p0), .val (.int p1), .val (.int p2), .val (.int p3), .val (.int p2.toInt8.toInt32), .val (.int p3.toInt8.toInt32), .val (.int (p1 &&& (3 : Int32))), .unset, .unset, .unset, .unset] [(.ref b91)]))
      refine Ends.step (fun _ k => XS.dup X93.here hx rfl (hb hby at_53) rfl rfl k) ?_
      show Ends p e below QQ (T93.setTop (mkF m 54 #[.val (.int p0), .val (.int p1), .val (.int p2), .val (.int p3), .val (.int p2.toInt8.toInt32), .val (.int p3.toInt8.toInt32), .val (.int (p1 &&& (3 : Int32))), .unset, .unset, .unset, .unset] [(.ref b91), (.ref b91)]))
      refine Ends.step (fun _ k => XT.iconstV X93.here hx rfl (1 : Int32) (hb hby at_54) rfl k) ?_
      show Ends p e below QQ (T93.setTop (mkF m 55 #[.val (.int p0), .val (.int p1), .val (.int p2), .val (.int p3), .val (.int p2.toInt8.toInt32), .val (.int p3.toInt8.toInt32), .val (.int (p1 &&& (3 : Int32))), .unset, .unset, .unset, .unset] [(.int (1 : Int32)), (.ref b91), (.ref b91)]))
      refine Ends.step (fun _ k => XS.iload X93.here hx rfl (hb hby at_55) rfl k) ?_
      show Ends p e below QQ (T93.setTop (mkF m 57 #[.val (.int p0), .val (.int p1), .val (.int p2), .val (.int p3), .val (.int p2.toInt8.toInt32), .val (.int p3.toInt8.toInt32), .val (.int (p1 &&& (3 : Int32))), .unset, .unset, .unset, .unset] [(.int p3.toInt8.toInt32), (.int (1 : Int32)), (.ref b91), (.ref b91)]))
      obtain ⟨cl94, Ar94, q94, S94, P94, H94, G94⟩ := id A_b91
      have hin94 : ¬ ((1 : Int32) < 0 ∨ cl94.slots.size ≤ ((1 : Int32)).toNatClampNeg) := inb_of S94 ⟨by decide, by decide⟩
      obtain ⟨T95, h95, X95, e95, W95, st95⟩ := stB X93 hx hZ e93 Ar94 (j := (1 : Int32)) hin94 (g := (mkF m 57 #[.val (.int p0), .val (.int p1), .val (.int p2), .val (.int p3), .val (.int p2.toInt8.toInt32), .val (.int p3.toInt8.toInt32), .val (.int (p1 &&& (3 : Int32))), .unset, .unset, .unset, .unset] [(.int p3.toInt8.toInt32), (.int (1 : Int32)), (.ref b91), (.ref b91)])) rfl rfl (hb hby at_57)
      rw [own_narb] at W95
      have A_b91 : Arv Z h95 b91 k91 .byte (2 : Int32) [(.int p2.toInt8.toInt32), (.int p3.toInt8.toInt32)] (.int (0 : Int32)) := Arv.set Ar94 q94 S94 P94 H94 G94 (fits_nar_byte _) W95 1 rfl (Nat.le_of_ble_eq_true rfl)
      have K95 := K93.wr W95 (Or.inr sz_b91)
      have N95 := Fr.snoc X95 N93 g_b91
      refine Ends.step st95 ?_
      show Ends p e below QQ (T95.setTop (mkF m 58 #[.val (.int p0), .val (.int p1), .val (.int p2), .val (.int p3), .val (.int p2.toInt8.toInt32), .val (.int p3.toInt8.toInt32), .val (.int (p1 &&& (3 : Int32))), .unset, .unset, .unset, .unset] [(.ref b91)]))
      refine Ends.step (fun _ k => XS.astore X95.here hx rfl (hb hby at_58) rfl rfl (l' := #[.val (.int p0), .val (.int p1), .val (.int p2), .val (.int p3), .val (.int p2.toInt8.toInt32), .val (.int p3.toInt8.toInt32), .val (.int (p1 &&& (3 : Int32))), .val (.ref b91), .unset, .unset, .unset]) rfl k) ?_
      show Ends p e below QQ (T95.setTop (mkF m 60 #[.val (.int p0), .val (.int p1), .val (.int p2), .val (.int p3), .val (.int p2.toInt8.toInt32), .val (.int p3.toInt8.toInt32), .val (.int (p1 &&& (3 : Int32))), .val (.ref b91), .unset, .unset, .unset] []))
      refine Ends.step (fun _ k => XS.iloadN X95.here hx rfl (hb hby at_60) rfl k) ?_
      show Ends p e below QQ (T95.setTop (mkF m 61 #[.val (.int p0), .val (.int p1), .val (.int p2), .val (.int p3), .val (.int p2.toInt8.toInt32), .val (.int p3.toInt8.toInt32), .val (.int (p1 &&& (3 : Int32))), .val (.ref b91), .unset, .unset, .unset] [(.int p0)]))
      refine Ends.step (fun _ k => XT.iconstV X95.here hx rfl (3 : Int32) (hb hby at_61) rfl k) ?_
      show Ends p e below QQ (T95.setTop (mkF m 62 #[.val (.int p0), .val (.int p1), .val (.int p2), .val (.int p3), .val (.int p2.toInt8.toInt32), .val (.int p3.toInt8.toInt32), .val (.int (p1 &&& (3 : Int32))), .val (.ref b91), .unset, .unset, .unset] [(.int (3 : Int32)), (.int p0)]))
      refine Ends.step (fun _ k => XS.iand X95.here hx rfl (hb hby at_62) rfl k) ?_
      show Ends p e below QQ (T95.setTop (mkF m 63 #[.val (.int p0), .val (.int p1), .val (.int p2), .val (.int p3), .val (.int p2.toInt8.toInt32), .val (.int p3.toInt8.toInt32), .val (.int (p1 &&& (3 : Int32))), .val (.ref b91), .unset, .unset, .unset] [(.int (p0 &&& (3 : Int32)))]))
      refine Ends.step (fun _ k => XS.istore X95.here hx rfl (hb hby at_63) rfl (l' := #[.val (.int p0), .val (.int p1), .val (.int p2), .val (.int p3), .val (.int p2.toInt8.toInt32), .val (.int p3.toInt8.toInt32), .val (.int (p1 &&& (3 : Int32))), .val (.ref b91), .val (.int (p0 &&& (3 : Int32))), .unset, .unset]) rfl k) ?_
      show Ends p e below QQ (T95.setTop (mkF m 65 #[.val (.int p0), .val (.int p1), .val (.int p2), .val (.int p3), .val (.int p2.toInt8.toInt32), .val (.int p3.toInt8.toInt32), .val (.int (p1 &&& (3 : Int32))), .val (.ref b91), .val (.int (p0 &&& (3 : Int32))), .unset, .unset] []))
      refine Ends.step (fun _ k => XS.iload X95.here hx rfl (hb hby at_65) rfl k) ?_
      show Ends p e below QQ (T95.setTop (mkF m 67 #[.val (.int p0), .val (.int p1), .val (.int p2), .val (.int p3), .val (.int p2.toInt8.toInt32), .val (.int p3.toInt8.toInt32), .val (.int (p1 &&& (3 : Int32))), .val (.ref b91), .val (.int (p0 &&& (3 : Int32))), .unset, .unset] [(.int (p0 &&& (3 : Int32)))]))
      by_cases hc67_96 : (p0 &&& (3 : Int32)) = (0 : Int32)
      · refine Ends.step (fun _ k => XS.ifNo X95.here hx rfl (hb hby at_67) rfl (XT.i0_ne_f hc67_96) k) ?_
        show Ends p e below QQ (T95.setTop (mkF m 70 #[.val (.int p0), .val (.int p1), .val (.int p2), .val (.int p3), .val (.int p2.toInt8.toInt32), .val (.int p3.toInt8.toInt32), .val (.int (p1 &&& (3 : Int32))), .val (.ref b91), .val (.int (p0 &&& (3 : Int32))), .unset, .unset] []))
        refine Ends.step (fun _ k => XS.aconstNull X95.here hx rfl (hb hby at_70) k) ?_
        show Ends p e below QQ (T95.setTop (mkF m 71 #[.val (.int p0), .val (.int p1), .val (.int p2), .val (.int p3), .val (.int p2.toInt8.toInt32), .val (.int p3.toInt8.toInt32), .val (.int (p1 &&& (3 : Int32))), .val (.ref b91), .val (.int (p0 &&& (3 : Int32))), .unset, .unset] [.null]))
        refine Ends.step (fun _ k => XS.astore X95.here hx rfl (hb hby at_71) rfl rfl (l' := #[.val (.int p0), .val (.int p1), .val (.int p2), .val (.int p3), .val (.int p2.toInt8.toInt32), .val (.int p3.toInt8.toInt32), .val (.int (p1 &&& (3 : Int32))), .val (.ref b91), .val (.int (p0 &&& (3 : Int32))), .val .null, .unset]) rfl k) ?_
        show Ends p e below QQ (T95.setTop (mkF m 73 #[.val (.int p0), .val (.int p1), .val (.int p2), .val (.int p3), .val (.int p2.toInt8.toInt32), .val (.int p3.toInt8.toInt32), .val (.int (p1 &&& (3 : Int32))), .val (.ref b91), .val (.int (p0 &&& (3 : Int32))), .val .null, .unset] []))
        refine Ends.step (fun _ k => XS.goto X95.here hx rfl (pc0 := 73) (pc' := 118) rfl (hb hby at_73) (by decide) (by decide) k) ?_
        show Ends p e below QQ (T95.setTop (mkF m 118 #[.val (.int p0), .val (.int p1), .val (.int p2), .val (.int p3), .val (.int p2.toInt8.toInt32), .val (.int p3.toInt8.toInt32), .val (.int (p1 &&& (3 : Int32))), .val (.ref b91), .val (.int (p0 &&& (3 : Int32))), .val .null, .unset] []))
        refine Ends.step (fun _ k => XS.aload X95.here hx rfl (hb hby at_118) rfl rfl k) ?_
        show Ends p e below QQ (T95.setTop (mkF m 120 #[.val (.int p0), .val (.int p1), .val (.int p2), .val (.int p3), .val (.int p2.toInt8.toInt32), .val (.int p3.toInt8.toInt32), .val (.int (p1 &&& (3 : Int32))), .val (.ref b91), .val (.int (p0 &&& (3 : Int32))), .val .null, .unset] [.null]))
        refine Ends.step (fun _ k => XS.aload X95.here hx rfl (hb hby at_120) rfl rfl k) ?_
        show Ends p e below QQ (T95.setTop (mkF m 122 #[.val (.int p0), .val (.int p1), .val (.int p2), .val (.int p3), .val (.int p2.toInt8.toInt32), .val (.int p3.toInt8.toInt32), .val (.int (p1 &&& (3 : Int32))), .val (.ref b91), .val (.int (p0 &&& (3 : Int32))), .val .null, .unset] [(.ref b91), .null]))
        obtain ⟨_, _, ⟨T97, L97, k97, n97⟩, -, X97, ⟨Lc97, hQ97, l97, y97, z97⟩, st97⟩ := Jvm.LawKit.callS X95 hx (y := (⟨"com/example/wunce/wunce/StoredCall", "finished", "([B[B)Lcom/example/wunce/wunce/StoredCall;"⟩ : MethodName)) hown (mvT hZ (hw _ (List.mem_of_getElem? (i := 1) rfl))) (mvT hZ (hw _ (List.mem_of_getElem? (i := 2) rfl))) (mvT hZ (hw _ (List.mem_of_getElem? (i := 3) rfl))) (mvT hZ (hw _ (List.mem_of_getElem? (i := 4) rfl))) (by decide) (backOf (W := 0) (rm1 l Z a0 hw [] (.null : Value) b91 h95 n0 (Nat.le_trans Z0 K95.1) rfl) hZ (hw _ (List.mem_of_getElem? (i := 4) rfl)) (hw _ (List.mem_of_getElem? (i := 3) rfl)) (by decide) (by decide)) (g := (mkF m 122 #[.val (.int p0), .val (.int p1), .val (.int p2), .val (.int p3), .val (.int p2.toInt8.toInt32), .val (.int p3.toInt8.toInt32), .val (.int (p1 &&& (3 : Int32))), .val (.ref b91), .val (.int (p0 &&& (3 : Int32))), .val .null, .unset] [(.ref b91), .null])) rfl (by rw [hml]; rfl) (argsL := [.null, (.ref b91)]) (rest := []) (lenOf pd_1 rfl) rfl (by show 2 * 0 + _ ≤ _; exact Nat.le_of_eq rfl) (hb hby at_122) (fun _ _ => ⟨rfl, e95, (by decide : 1 + 1 ≤ _), (by decide : 2 + 2 ≤ _)⟩)
        dsimp only [Pt.U, Pt.locs, Pt.cells, Pt.slots] at X97 l97 y97 z97 st97 hQ97
        subst l97 y97 z97
        obtain ⟨b_97, rfl, Nq97, Kq97, fq97_0, fq97_1, fq97_2, fq97_3, fq97_4⟩ := hQ97
        have N97 := Fr.app N95 Nq97
        have ne_b91_b_97 : b91 ≠ b_97 := Nat.ne_of_lt (Nat.lt_of_lt_of_le A_b91.lt fq97_0)
        have sz_b_97 := Nat.le_trans K95.1 fq97_0
        have A_b91 := A_b91.keep Kq97 nin0
        have g_b_97 := fq97_1
        have E_b_97 := fq97_2
        have F__fingerprint_b_97 := fq97_3
        have F__answer_b_97 := fq97_4
        have K97 := K95.trans Kq97 all0
        refine Ends.step st97 ?_
        show Ends p e below QQ (T97.setTop (mkF m 125 #[.val (.int p0), .val (.int p1), .val (.int p2), .val (.int p3), .val (.int p2.toInt8.toInt32), .val (.int p3.toInt8.toInt32), .val (.int (p1 &&& (3 : Int32))), .val (.ref b91), .val (.int (p0 &&& (3 : Int32))), .val .null, .unset] [(.ref b_97)]))
        refine Ends.step (fun _ k => XS.astore X97.here hx rfl (hb hby at_125) rfl rfl (l' := #[.val (.int p0), .val (.int p1), .val (.int p2), .val (.int p3), .val (.int p2.toInt8.toInt32), .val (.int p3.toInt8.toInt32), .val (.int (p1 &&& (3 : Int32))), .val (.ref b91), .val (.int (p0 &&& (3 : Int32))), .val .null, .val (.ref b_97)]) rfl k) ?_
        show Ends p e below QQ (T97.setTop (mkF m 127 #[.val (.int p0), .val (.int p1), .val (.int p2), .val (.int p3), .val (.int p2.toInt8.toInt32), .val (.int p3.toInt8.toInt32), .val (.int (p1 &&& (3 : Int32))), .val (.ref b91), .val (.int (p0 &&& (3 : Int32))), .val .null, .val (.ref b_97)] []))
        refine Ends.step (fun _ k => XS.aload X97.here hx rfl (hb hby at_127) rfl rfl k) ?_
        show Ends p e below QQ (T97.setTop (mkF m 129 #[.val (.int p0), .val (.int p1), .val (.int p2), .val (.int p3), .val (.int p2.toInt8.toInt32), .val (.int p3.toInt8.toInt32), .val (.int (p1 &&& (3 : Int32))), .val (.ref b91), .val (.int (p0 &&& (3 : Int32))), .val .null, .val (.ref b_97)] [(.ref b_97)]))
        refine Ends.step (fun _ k => XT.ifnonnullYes X97.here hx rfl (pc0 := 129) (pc' := 134) rfl (hb hby at_129) rfl (by decide) (by decide) k) ?_
        show Ends p e below QQ (T97.setTop (mkF m 134 #[.val (.int p0), .val (.int p1), .val (.int p2), .val (.int p3), .val (.int p2.toInt8.toInt32), .val (.int p3.toInt8.toInt32), .val (.int (p1 &&& (3 : Int32))), .val (.ref b91), .val (.int (p0 &&& (3 : Int32))), .val .null, .val (.ref b_97)] []))
        refine Ends.step (fun _ k => XS.aload X97.here hx rfl (hb hby at_134) rfl rfl k) ?_
        show Ends p e below QQ (T97.setTop (mkF m 136 #[.val (.int p0), .val (.int p1), .val (.int p2), .val (.int p3), .val (.int p2.toInt8.toInt32), .val (.int p3.toInt8.toInt32), .val (.int (p1 &&& (3 : Int32))), .val (.ref b91), .val (.int (p0 &&& (3 : Int32))), .val .null, .val (.ref b_97)] [(.ref b_97)]))
        obtain ⟨cq98, kq98, q98a, q98b, q98c⟩ := isOf hZ rfl E_b_97
        obtain ⟨_, _, ⟨T98, L98, k98, n98⟩, -, X98, ⟨Lc98, hQ98, l98, y98, z98⟩, st98⟩ := X97.virtualBack hx (y := (⟨"com/example/wunce/wunce/StoredCall", "fingerprint", "()[B"⟩ : MethodName)) (z := (⟨"com/example/wunce/wunce/StoredCall", "fingerprint", "()[B"⟩ : MethodName)) hown (mvT hZ (hw _ (List.mem_of_getElem? (i := 17) rfl))) (mvT hZ (hw _ (List.mem_of_getElem? (i := 18) rfl))) (notFace_of_selects (args := #[]) (mvT hZ (hw _ (List.mem_of_getElem? (i := 20) rfl)))) (mvT hZ (hw _ (List.mem_of_getElem? (i := 20) rfl))) (mvT hZ (hw _ (List.mem_of_getElem? (i := 19) rfl))) (by decide) (backOf (W := 0) (rm4 l Z a0 hw [] b_97 (.null : Value) T97.heap n0 (Nat.le_trans Z0 K97.1) F__fingerprint_b_97 rfl) hZ (hw _ (List.mem_of_getElem? (i := 21) rfl)) (hw _ (List.mem_of_getElem? (i := 3) rfl)) (by decide) (by decide)) q98a q98c (g := (mkF m 136 #[.val (.int p0), .val (.int p1), .val (.int p2), .val (.int p3), .val (.int p2.toInt8.toInt32), .val (.int p3.toInt8.toInt32), .val (.int (p1 &&& (3 : Int32))), .val (.ref b91), .val (.int (p0 &&& (3 : Int32))), .val .null, .val (.ref b_97)] [(.ref b_97)])) rfl (by rw [hml]; rfl) (Steps.refl _) (argsL := []) (rest := []) (lenOf pd_2 rfl) rfl (by show 2 * 0 + _ ≤ _; exact Nat.le_of_eq rfl) (hb hby at_136) (fun _ _ => ⟨rfl, rfl, (by decide : 2 + 0 ≤ _), (by decide : 4 + 0 ≤ _)⟩)
        dsimp only [Pt.U, Pt.locs, Pt.cells, Pt.slots] at X98 l98 y98 z98 st98 hQ98
        subst l98 y98 z98
        obtain ⟨rfl, Nq98, hh98⟩ := hQ98
        have N98 := Fr.app N97 Nq98
        refine Ends.step (fun _ k => st98.trans k) ?_
        show Ends p e below QQ (T98.setTop (mkF m 139 #[.val (.int p0), .val (.int p1), .val (.int p2), .val (.int p3), .val (.int p2.toInt8.toInt32), .val (.int p3.toInt8.toInt32), .val (.int (p1 &&& (3 : Int32))), .val (.ref b91), .val (.int (p0 &&& (3 : Int32))), .val .null, .val (.ref b_97)] [.null]))
        refine Ends.step (fun _ k => XS.aload X98.here hx rfl (hb hby at_139) rfl rfl k) ?_
        show Ends p e below QQ (T98.setTop (mkF m 141 #[.val (.int p0), .val (.int p1), .val (.int p2), .val (.int p3), .val (.int p2.toInt8.toInt32), .val (.int p3.toInt8.toInt32), .val (.int (p1 &&& (3 : Int32))), .val (.ref b91), .val (.int (p0 &&& (3 : Int32))), .val .null, .val (.ref b_97)] [.null, .null]))
        refine Ends.step (fun _ k => Jvm.RoadKit.acmp (g := (mkF m 141 #[.val (.int p0), .val (.int p1), .val (.int p2), .val (.int p3), .val (.int p2.toInt8.toInt32), .val (.int p3.toInt8.toInt32), .val (.int (p1 &&& (3 : Int32))), .val (.ref b91), .val (.int (p0 &&& (3 : Int32))), .val .null, .val (.ref b_97)] [.null, .null])) X98 hx rfl rfl rfl (pc0 := 141) (pc' := 146) (same := true) rfl (hb hby at_141) rfl (decide_eq_true rfl) (by decide) (by decide) k) ?_
        show Ends p e below QQ (T98.setTop (mkF m 146 #[.val (.int p0), .val (.int p1), .val (.int p2), .val (.int p3), .val (.int p2.toInt8.toInt32), .val (.int p3.toInt8.toInt32), .val (.int (p1 &&& (3 : Int32))), .val (.ref b91), .val (.int (p0 &&& (3 : Int32))), .val .null, .val (.ref b_97)] []))
        refine Ends.step (fun _ k => XS.aload X98.here hx rfl (hb hby at_146) rfl rfl k) ?_
        show Ends p e below QQ (T98.setTop (mkF m 148 #[.val (.int p0), .val (.int p1), .val (.int p2), .val (.int p3), .val (.int p2.toInt8.toInt32), .val (.int p3.toInt8.toInt32), .val (.int (p1 &&& (3 : Int32))), .val (.ref b91), .val (.int (p0 &&& (3 : Int32))), .val .null, .val (.ref b_97)] [(.ref b_97)]))
        obtain ⟨cq99, kq99, q99a, q99b, q99c⟩ := isOf hZ hh98 E_b_97
        obtain ⟨_, _, ⟨T99, L99, k99, n99⟩, -, X99, ⟨Lc99, hQ99, l99, y99, z99⟩, st99⟩ := X98.virtualBack hx (y := (⟨"com/example/wunce/wunce/StoredCall", "answer", "()[B"⟩ : MethodName)) (z := (⟨"com/example/wunce/wunce/StoredCall", "answer", "()[B"⟩ : MethodName)) hown (mvT hZ (hw _ (List.mem_of_getElem? (i := 22) rfl))) (mvT hZ (hw _ (List.mem_of_getElem? (i := 23) rfl))) (notFace_of_selects (args := #[]) (mvT hZ (hw _ (List.mem_of_getElem? (i := 25) rfl)))) (mvT hZ (hw _ (List.mem_of_getElem? (i := 25) rfl))) (mvT hZ (hw _ (List.mem_of_getElem? (i := 24) rfl))) (by decide) (backOf (W := 0) (rm5 l Z a0 hw [] b_97 ((.ref b91) : Value) T97.heap n0 (Nat.le_trans Z0 K97.1) F__answer_b_97 rfl) hZ (hw _ (List.mem_of_getElem? (i := 26) rfl)) (hw _ (List.mem_of_getElem? (i := 3) rfl)) (by decide) (by decide)) q99a q99c (g := (mkF m 148 #[.val (.int p0), .val (.int p1), .val (.int p2), .val (.int p3), .val (.int p2.toInt8.toInt32), .val (.int p3.toInt8.toInt32), .val (.int (p1 &&& (3 : Int32))), .val (.ref b91), .val (.int (p0 &&& (3 : Int32))), .val .null, .val (.ref b_97)] [(.ref b_97)])) rfl (by rw [hml]; rfl) (Steps.refl _) (argsL := []) (rest := []) (lenOf pd_2 rfl) rfl (by show 2 * 0 + _ ≤ _; exact Nat.le_of_eq rfl) (hb hby at_148) (fun _ _ => ⟨rfl, hh98, (by decide : 2 + 0 ≤ _), (by decide : 4 + 0 ≤ _)⟩)
        dsimp only [Pt.U, Pt.locs, Pt.cells, Pt.slots] at X99 l99 y99 z99 st99 hQ99
        subst l99 y99 z99
        obtain ⟨rfl, Nq99, hh99⟩ := hQ99
        have N99 := Fr.app N98 Nq99
        refine Ends.step (fun _ k => st99.trans k) ?_
        show Ends p e below QQ (T99.setTop (mkF m 151 #[.val (.int p0), .val (.int p1), .val (.int p2), .val (.int p3), .val (.int p2.toInt8.toInt32), .val (.int p3.toInt8.toInt32), .val (.int (p1 &&& (3 : Int32))), .val (.ref b91), .val (.int (p0 &&& (3 : Int32))), .val .null, .val (.ref b_97)] [(.ref b91)]))
        refine Ends.step (fun _ k => XS.aload X99.here hx rfl (hb hby at_151) rfl rfl k) ?_
        show Ends p e below QQ (T99.setTop (mkF m 153 #[.val (.int p0), .val (.int p1), .val (.int p2), .val (.int p3), .val (.int p2.toInt8.toInt32), .val (.int p3.toInt8.toInt32), .val (.int (p1 &&& (3 : Int32))), .val (.ref b91), .val (.int (p0 &&& (3 : Int32))), .val .null, .val (.ref b_97)] [(.ref b91), (.ref b91)]))
        refine Ends.step (fun _ k => Jvm.RoadKit.acmp (g := (mkF m 153 #[.val (.int p0), .val (.int p1), .val (.int p2), .val (.int p3), .val (.int p2.toInt8.toInt32), .val (.int p3.toInt8.toInt32), .val (.int (p1 &&& (3 : Int32))), .val (.ref b91), .val (.int (p0 &&& (3 : Int32))), .val .null, .val (.ref b_97)] [(.ref b91), (.ref b91)])) X99 hx rfl rfl rfl (pc0 := 153) (pc' := 158) (same := true) rfl (hb hby at_153) rfl (decide_eq_true rfl) (by decide) (by decide) k) ?_
        show Ends p e below QQ (T99.setTop (mkF m 158 #[.val (.int p0), .val (.int p1), .val (.int p2), .val (.int p3), .val (.int p2.toInt8.toInt32), .val (.int p3.toInt8.toInt32), .val (.int (p1 &&& (3 : Int32))), .val (.ref b91), .val (.int (p0 &&& (3 : Int32))), .val .null, .val (.ref b_97)] []))
        refine Ends.step (fun _ k => XS.aload X99.here hx rfl (hb hby at_158) rfl rfl k) ?_
        show Ends p e below QQ (T99.setTop (mkF m 160 #[.val (.int p0), .val (.int p1), .val (.int p2), .val (.int p3), .val (.int p2.toInt8.toInt32), .val (.int p3.toInt8.toInt32), .val (.int (p1 &&& (3 : Int32))), .val (.ref b91), .val (.int (p0 &&& (3 : Int32))), .val .null, .val (.ref b_97)] [(.ref b_97)]))
        obtain ⟨cq100, kq100, q100a, q100b, q100c⟩ := isOf hZ hh99 E_b_97
        obtain ⟨_, _, ⟨T100, L100, k100, n100⟩, -, X100, ⟨Lc100, hQ100, l100, y100, z100⟩, st100⟩ := X99.virtualBack hx (y := (⟨"com/example/wunce/wunce/StoredCall", "isFinished", "()Z"⟩ : MethodName)) (z := (⟨"com/example/wunce/wunce/StoredCall", "isFinished", "()Z"⟩ : MethodName)) hown (mvT hZ (hw _ (List.mem_of_getElem? (i := 27) rfl))) (mvT hZ (hw _ (List.mem_of_getElem? (i := 28) rfl))) (notFace_of_selects (args := #[]) (mvT hZ (hw _ (List.mem_of_getElem? (i := 30) rfl)))) (mvT hZ (hw _ (List.mem_of_getElem? (i := 30) rfl))) (mvT hZ (hw _ (List.mem_of_getElem? (i := 29) rfl))) (by decide) (backOf (W := 0) (rm6 l Z a0 hw [] b_97 b91 T97.heap n0 (Nat.le_trans Z0 K97.1) F__answer_b_97) hZ (hw _ (List.mem_of_getElem? (i := 31) rfl)) (hw _ (List.mem_of_getElem? (i := 3) rfl)) (by decide) (by decide)) q100a q100c (g := (mkF m 160 #[.val (.int p0), .val (.int p1), .val (.int p2), .val (.int p3), .val (.int p2.toInt8.toInt32), .val (.int p3.toInt8.toInt32), .val (.int (p1 &&& (3 : Int32))), .val (.ref b91), .val (.int (p0 &&& (3 : Int32))), .val .null, .val (.ref b_97)] [(.ref b_97)])) rfl (by rw [hml]; rfl) (Steps.refl _) (argsL := []) (rest := []) (lenOf pd_3 rfl) rfl (by show 2 * 0 + _ ≤ _; exact Nat.le_of_eq rfl) (hb hby at_160) (fun _ _ => ⟨rfl, hh99, (by decide : 2 + 0 ≤ _), (by decide : 4 + 0 ≤ _)⟩)
        dsimp only [Pt.U, Pt.locs, Pt.cells, Pt.slots] at X100 l100 y100 z100 st100 hQ100
        subst l100 y100 z100
        obtain ⟨rfl, Nq100, hh100⟩ := hQ100
        have N100 := Fr.app N99 Nq100
        refine Ends.step (fun _ k => st100.trans k) ?_
        show Ends p e below QQ (T100.setTop (mkF m 163 #[.val (.int p0), .val (.int p1), .val (.int p2), .val (.int p3), .val (.int p2.toInt8.toInt32), .val (.int p3.toInt8.toInt32), .val (.int (p1 &&& (3 : Int32))), .val (.ref b91), .val (.int (p0 &&& (3 : Int32))), .val .null, .val (.ref b_97)] [(.int (1 : Int32))]))
        refine Ends.step (fun _ k => XS.ifYes X100.here hx rfl (pc0 := 163) (pc' := 168) rfl (hb hby at_163) rfl (XT.i0_ne_t (by decide)) (by decide) (by decide) k) ?_
        show Ends p e below QQ (T100.setTop (mkF m 168 #[.val (.int p0), .val (.int p1), .val (.int p2), .val (.int p3), .val (.int p2.toInt8.toInt32), .val (.int p3.toInt8.toInt32), .val (.int (p1 &&& (3 : Int32))), .val (.ref b91), .val (.int (p0 &&& (3 : Int32))), .val .null, .val (.ref b_97)] []))
        refine Ends.step (fun _ k => XS.aload X100.here hx rfl (hb hby at_168) rfl rfl k) ?_
        show Ends p e below QQ (T100.setTop (mkF m 170 #[.val (.int p0), .val (.int p1), .val (.int p2), .val (.int p3), .val (.int p2.toInt8.toInt32), .val (.int p3.toInt8.toInt32), .val (.int (p1 &&& (3 : Int32))), .val (.ref b91), .val (.int (p0 &&& (3 : Int32))), .val .null, .val (.ref b_97)] [(.ref b91)]))
        refine Ends.step (fun _ k => XS.iload X100.here hx rfl (hb hby at_170) rfl k) ?_
        show Ends p e below QQ (T100.setTop (mkF m 172 #[.val (.int p0), .val (.int p1), .val (.int p2), .val (.int p3), .val (.int p2.toInt8.toInt32), .val (.int p3.toInt8.toInt32), .val (.int (p1 &&& (3 : Int32))), .val (.ref b91), .val (.int (p0 &&& (3 : Int32))), .val .null, .val (.ref b_97)] [(.int (p1 &&& (3 : Int32))), (.ref b91)]))
        refine Ends.step (fun _ k => XS.iload X100.here hx rfl (hb hby at_172) rfl k) ?_
        show Ends p e below QQ (T100.setTop (mkF m 174 #[.val (.int p0), .val (.int p1), .val (.int p2), .val (.int p3), .val (.int p2.toInt8.toInt32), .val (.int p3.toInt8.toInt32), .val (.int (p1 &&& (3 : Int32))), .val (.ref b91), .val (.int (p0 &&& (3 : Int32))), .val .null, .val (.ref b_97)] [(.int p2.toInt8.toInt32), (.int (p1 &&& (3 : Int32))), (.ref b91)]))
        refine Ends.step (fun _ k => XS.iload X100.here hx rfl (hb hby at_174) rfl k) ?_
        show Ends p e below QQ (T100.setTop (mkF m 176 #[.val (.int p0), .val (.int p1), .val (.int p2), .val (.int p3), .val (.int p2.toInt8.toInt32), .val (.int p3.toInt8.toInt32), .val (.int (p1 &&& (3 : Int32))), .val (.ref b91), .val (.int (p0 &&& (3 : Int32))), .val .null, .val (.ref b_97)] [(.int p3.toInt8.toInt32), (.int p2.toInt8.toInt32), (.int (p1 &&& (3 : Int32))), (.ref b91)]))
        obtain ⟨_, _, ⟨T101, L101, k101, n101⟩, -, X101, ⟨Lc101, hQ101, l101, y101, z101⟩, st101⟩ := Jvm.LawKit.callS X100 hx (y := (⟨"com/example/wunce/wunce/StoredCallFinishedPinLaw", "answerIntact", "([BIBB)Z"⟩ : MethodName)) hown (mvT hZ (hw _ (List.mem_of_getElem? (i := 32) rfl))) (mvT hZ (hw _ (List.mem_of_getElem? (i := 33) rfl))) (mvT hZ (hw _ (List.mem_of_getElem? (i := 34) rfl))) (mvT hZ (hw _ (List.mem_of_getElem? (i := 35) rfl))) (by decide) (backOf (W := 0) (rm7c l Z a0 hw [] b91 (p1 &&& (3 : Int32)) (p2.toInt8.toInt32) (p3.toInt8.toInt32) k91 T97.heap n0 (Nat.le_trans Z0 K97.1) A_b91 (by first | assumption | rfl | decide) (by first | assumption | rfl | decide)) hZ (hw _ (List.mem_of_getElem? (i := 35) rfl)) (hw _ (List.mem_of_getElem? (i := 34) rfl)) (by decide) (by decide)) (g := (mkF m 176 #[.val (.int p0), .val (.int p1), .val (.int p2), .val (.int p3), .val (.int p2.toInt8.toInt32), .val (.int p3.toInt8.toInt32), .val (.int (p1 &&& (3 : Int32))), .val (.ref b91), .val (.int (p0 &&& (3 : Int32))), .val .null, .val (.ref b_97)] [(.int p3.toInt8.toInt32), (.int p2.toInt8.toInt32), (.int (p1 &&& (3 : Int32))), (.ref b91)])) rfl (by rw [hml]; rfl) (argsL := [(.ref b91), (.int (p1 &&& (3 : Int32))), (.int p2.toInt8.toInt32), (.int p3.toInt8.toInt32)]) (rest := []) (lenOf pd_4 rfl) rfl (by show 2 * 0 + _ ≤ _; exact Nat.le_of_eq rfl) (hb hby at_176) (fun _ _ => ⟨rfl, hh100, (by decide : 2 + 0 ≤ _), (by decide : 4 + 0 ≤ _)⟩)
        dsimp only [Pt.U, Pt.locs, Pt.cells, Pt.slots] at X101 l101 y101 z101 st101 hQ101
        subst l101 y101 z101
        obtain ⟨rfl, Nq101, hh101⟩ := hQ101
        have N101 := Fr.app N100 Nq101
        refine Ends.step st101 ?_
        show Ends p e below QQ (T101.setTop (mkF m 179 #[.val (.int p0), .val (.int p1), .val (.int p2), .val (.int p3), .val (.int p2.toInt8.toInt32), .val (.int p3.toInt8.toInt32), .val (.int (p1 &&& (3 : Int32))), .val (.ref b91), .val (.int (p0 &&& (3 : Int32))), .val .null, .val (.ref b_97)] [(.int (1 : Int32))]))
        refine Ends.step (fun _ k => XS.ifNo X101.here hx rfl (hb hby at_179) rfl (XT.i0_eq_f (by decide)) k) ?_
        show Ends p e below QQ (T101.setTop (mkF m 182 #[.val (.int p0), .val (.int p1), .val (.int p2), .val (.int p3), .val (.int p2.toInt8.toInt32), .val (.int p3.toInt8.toInt32), .val (.int (p1 &&& (3 : Int32))), .val (.ref b91), .val (.int (p0 &&& (3 : Int32))), .val .null, .val (.ref b_97)] []))
        refine Ends.step (fun _ k => XS.aload X101.here hx rfl (hb hby at_182) rfl rfl k) ?_
        show Ends p e below QQ (T101.setTop (mkF m 184 #[.val (.int p0), .val (.int p1), .val (.int p2), .val (.int p3), .val (.int p2.toInt8.toInt32), .val (.int p3.toInt8.toInt32), .val (.int (p1 &&& (3 : Int32))), .val (.ref b91), .val (.int (p0 &&& (3 : Int32))), .val .null, .val (.ref b_97)] [.null]))
        refine Ends.step (fun _ k => XS.iload X101.here hx rfl (hb hby at_184) rfl k) ?_
        show Ends p e below QQ (T101.setTop (mkF m 186 #[.val (.int p0), .val (.int p1), .val (.int p2), .val (.int p3), .val (.int p2.toInt8.toInt32), .val (.int p3.toInt8.toInt32), .val (.int (p1 &&& (3 : Int32))), .val (.ref b91), .val (.int (p0 &&& (3 : Int32))), .val .null, .val (.ref b_97)] [(.int (p0 &&& (3 : Int32))), .null]))
        refine Ends.step (fun _ k => XS.iload X101.here hx rfl (hb hby at_186) rfl k) ?_
        show Ends p e below QQ (T101.setTop (mkF m 188 #[.val (.int p0), .val (.int p1), .val (.int p2), .val (.int p3), .val (.int p2.toInt8.toInt32), .val (.int p3.toInt8.toInt32), .val (.int (p1 &&& (3 : Int32))), .val (.ref b91), .val (.int (p0 &&& (3 : Int32))), .val .null, .val (.ref b_97)] [(.int p2.toInt8.toInt32), (.int (p0 &&& (3 : Int32))), .null]))
        refine Ends.step (fun _ k => XS.iload X101.here hx rfl (hb hby at_188) rfl k) ?_
        show Ends p e below QQ (T101.setTop (mkF m 190 #[.val (.int p0), .val (.int p1), .val (.int p2), .val (.int p3), .val (.int p2.toInt8.toInt32), .val (.int p3.toInt8.toInt32), .val (.int (p1 &&& (3 : Int32))), .val (.ref b91), .val (.int (p0 &&& (3 : Int32))), .val .null, .val (.ref b_97)] [(.int p3.toInt8.toInt32), (.int p2.toInt8.toInt32), (.int (p0 &&& (3 : Int32))), .null]))
        obtain ⟨_, _, ⟨T102, L102, k102, n102⟩, -, X102, ⟨Lc102, hQ102, l102, y102, z102⟩, st102⟩ := Jvm.LawKit.callS X101 hx (y := (⟨"com/example/wunce/wunce/StoredCallFinishedPinLaw", "fingerprintIntact", "([BIBB)Z"⟩ : MethodName)) hown (mvT hZ (hw _ (List.mem_of_getElem? (i := 36) rfl))) (mvT hZ (hw _ (List.mem_of_getElem? (i := 37) rfl))) (mvT hZ (hw _ (List.mem_of_getElem? (i := 34) rfl))) (mvT hZ (hw _ (List.mem_of_getElem? (i := 38) rfl))) (by decide) (backOf (W := 0) (rm8a l Z a0 hw [] (.null : Value) (p0 &&& (3 : Int32)) (p2.toInt8.toInt32) (p3.toInt8.toInt32) T97.heap n0 (Nat.le_trans Z0 K97.1) rfl (by first | assumption | rfl | decide)) hZ (hw _ (List.mem_of_getElem? (i := 38) rfl)) (hw _ (List.mem_of_getElem? (i := 34) rfl)) (by decide) (by decide)) (g := (mkF m 190 #[.val (.int p0), .val (.int p1), .val (.int p2), .val (.int p3), .val (.int p2.toInt8.toInt32), .val (.int p3.toInt8.toInt32), .val (.int (p1 &&& (3 : Int32))), .val (.ref b91), .val (.int (p0 &&& (3 : Int32))), .val .null, .val (.ref b_97)] [(.int p3.toInt8.toInt32), (.int p2.toInt8.toInt32), (.int (p0 &&& (3 : Int32))), .null])) rfl (by rw [hml]; rfl) (argsL := [.null, (.int (p0 &&& (3 : Int32))), (.int p2.toInt8.toInt32), (.int p3.toInt8.toInt32)]) (rest := []) (lenOf pd_4 rfl) rfl (by show 2 * 0 + _ ≤ _; exact Nat.le_of_eq rfl) (hb hby at_190) (fun _ _ => ⟨rfl, hh101, (by decide : 2 + 0 ≤ _), (by decide : 4 + 0 ≤ _)⟩)
        dsimp only [Pt.U, Pt.locs, Pt.cells, Pt.slots] at X102 l102 y102 z102 st102 hQ102
        subst l102 y102 z102
        obtain ⟨rfl, Nq102, hh102⟩ := hQ102
        have N102 := Fr.app N101 Nq102
        refine Ends.step st102 ?_
        show Ends p e below QQ (T102.setTop (mkF m 193 #[.val (.int p0), .val (.int p1), .val (.int p2), .val (.int p3), .val (.int p2.toInt8.toInt32), .val (.int p3.toInt8.toInt32), .val (.int (p1 &&& (3 : Int32))), .val (.ref b91), .val (.int (p0 &&& (3 : Int32))), .val .null, .val (.ref b_97)] [(.int (1 : Int32))]))
        refine Ends.step (fun _ k => XS.ifNo X102.here hx rfl (hb hby at_193) rfl (XT.i0_eq_f (by decide)) k) ?_
        show Ends p e below QQ (T102.setTop (mkF m 196 #[.val (.int p0), .val (.int p1), .val (.int p2), .val (.int p3), .val (.int p2.toInt8.toInt32), .val (.int p3.toInt8.toInt32), .val (.int (p1 &&& (3 : Int32))), .val (.ref b91), .val (.int (p0 &&& (3 : Int32))), .val .null, .val (.ref b_97)] []))
        refine Ends.step (fun _ k => XT.iconstV X102.here hx rfl (1 : Int32) (hb hby at_196) rfl k) ?_
        show Ends p e below QQ (T102.setTop (mkF m 197 #[.val (.int p0), .val (.int p1), .val (.int p2), .val (.int p3), .val (.int p2.toInt8.toInt32), .val (.int p3.toInt8.toInt32), .val (.int (p1 &&& (3 : Int32))), .val (.ref b91), .val (.int (p0 &&& (3 : Int32))), .val .null, .val (.ref b_97)] [(.int (1 : Int32))]))
        refine Ends.step (fun _ k => XS.goto X102.here hx rfl (pc0 := 197) (pc' := 201) rfl (hb hby at_197) (by decide) (by decide) k) ?_
        show Ends p e below QQ (T102.setTop (mkF m 201 #[.val (.int p0), .val (.int p1), .val (.int p2), .val (.int p3), .val (.int p2.toInt8.toInt32), .val (.int p3.toInt8.toInt32), .val (.int (p1 &&& (3 : Int32))), .val (.ref b91), .val (.int (p0 &&& (3 : Int32))), .val .null, .val (.ref b_97)] [(.int (1 : Int32))]))
        exact Ends.fin (some (.int (1 : Int32))) X102 hQQ (fun h => by rw [Bd.returns] at h; cases h) Bd.notSynchronized (fun _ hr => retOut X102 hx (t := .boolean) Bd.returns rfl (Or.inl ⟨rfl, (by simp), _, rfl⟩) (hb hby at_201) hr) hh102 (by decide) (by decide) ⟨(by simp only [f0, if_neg hc15_19, if_neg hc29_54, if_pos hc67_96]), N102, K97⟩
      · refine Ends.step (fun _ k => XS.ifYes X95.here hx rfl (pc0 := 67) (pc' := 76) rfl (hb hby at_67) rfl (XT.i0_ne_t hc67_96) (by decide) (by decide) k) ?_
        show Ends p e below QQ (T95.setTop (mkF m 76 #[.val (.int p0), .val (.int p1), .val (.int p2), .val (.int p3), .val (.int p2.toInt8.toInt32), .val (.int p3.toInt8.toInt32), .val (.int (p1 &&& (3 : Int32))), .val (.ref b91), .val (.int (p0 &&& (3 : Int32))), .unset, .unset] []))
        refine Ends.step (fun _ k => XS.iload X95.here hx rfl (hb hby at_76) rfl k) ?_
        show Ends p e below QQ (T95.setTop (mkF m 78 #[.val (.int p0), .val (.int p1), .val (.int p2), .val (.int p3), .val (.int p2.toInt8.toInt32), .val (.int p3.toInt8.toInt32), .val (.int (p1 &&& (3 : Int32))), .val (.ref b91), .val (.int (p0 &&& (3 : Int32))), .unset, .unset] [(.int (p0 &&& (3 : Int32)))]))
        refine Ends.step (fun _ k => XT.iconstV X95.here hx rfl (1 : Int32) (hb hby at_78) rfl k) ?_
        show Ends p e below QQ (T95.setTop (mkF m 79 #[.val (.int p0), .val (.int p1), .val (.int p2), .val (.int p3), .val (.int p2.toInt8.toInt32), .val (.int p3.toInt8.toInt32), .val (.int (p1 &&& (3 : Int32))), .val (.ref b91), .val (.int (p0 &&& (3 : Int32))), .unset, .unset] [(.int (1 : Int32)), (.int (p0 &&& (3 : Int32)))]))
        by_cases hc79_103 : (p0 &&& (3 : Int32)) = (1 : Int32)
        · refine Ends.step (fun _ k => XS.icmpNo X95.here hx rfl (hb hby at_79) rfl (XT.ii_ne_f hc79_103) k) ?_
          show Ends p e below QQ (T95.setTop (mkF m 82 #[.val (.int p0), .val (.int p1), .val (.int p2), .val (.int p3), .val (.int p2.toInt8.toInt32), .val (.int p3.toInt8.toInt32), .val (.int (p1 &&& (3 : Int32))), .val (.ref b91), .val (.int (p0 &&& (3 : Int32))), .unset, .unset] []))
          refine Ends.step (fun _ k => XS.aload X95.here hx rfl (hb hby at_82) rfl rfl k) ?_
          show Ends p e below QQ (T95.setTop (mkF m 84 #[.val (.int p0), .val (.int p1), .val (.int p2), .val (.int p3), .val (.int p2.toInt8.toInt32), .val (.int p3.toInt8.toInt32), .val (.int (p1 &&& (3 : Int32))), .val (.ref b91), .val (.int (p0 &&& (3 : Int32))), .unset, .unset] [(.ref b91)]))
          refine Ends.step (fun _ k => XS.astore X95.here hx rfl (hb hby at_84) rfl rfl (l' := #[.val (.int p0), .val (.int p1), .val (.int p2), .val (.int p3), .val (.int p2.toInt8.toInt32), .val (.int p3.toInt8.toInt32), .val (.int (p1 &&& (3 : Int32))), .val (.ref b91), .val (.int (p0 &&& (3 : Int32))), .val (.ref b91), .unset]) rfl k) ?_
          show Ends p e below QQ (T95.setTop (mkF m 86 #[.val (.int p0), .val (.int p1), .val (.int p2), .val (.int p3), .val (.int p2.toInt8.toInt32), .val (.int p3.toInt8.toInt32), .val (.int (p1 &&& (3 : Int32))), .val (.ref b91), .val (.int (p0 &&& (3 : Int32))), .val (.ref b91), .unset] []))
          refine Ends.step (fun _ k => XS.goto X95.here hx rfl (pc0 := 86) (pc' := 118) rfl (hb hby at_86) (by decide) (by decide) k) ?_
          show Ends p e below QQ (T95.setTop (mkF m 118 #[.val (.int p0), .val (.int p1), .val (.int p2), .val (.int p3), .val (.int p2.toInt8.toInt32), .val (.int p3.toInt8.toInt32), .val (.int (p1 &&& (3 : Int32))), .val (.ref b91), .val (.int (p0 &&& (3 : Int32))), .val (.ref b91), .unset] []))
          refine Ends.step (fun _ k => XS.aload X95.here hx rfl (hb hby at_118) rfl rfl k) ?_
          show Ends p e below QQ (T95.setTop (mkF m 120 #[.val (.int p0), .val (.int p1), .val (.int p2), .val (.int p3), .val (.int p2.toInt8.toInt32), .val (.int p3.toInt8.toInt32), .val (.int (p1 &&& (3 : Int32))), .val (.ref b91), .val (.int (p0 &&& (3 : Int32))), .val (.ref b91), .unset] [(.ref b91)]))
          refine Ends.step (fun _ k => XS.aload X95.here hx rfl (hb hby at_120) rfl rfl k) ?_
          show Ends p e below QQ (T95.setTop (mkF m 122 #[.val (.int p0), .val (.int p1), .val (.int p2), .val (.int p3), .val (.int p2.toInt8.toInt32), .val (.int p3.toInt8.toInt32), .val (.int (p1 &&& (3 : Int32))), .val (.ref b91), .val (.int (p0 &&& (3 : Int32))), .val (.ref b91), .unset] [(.ref b91), (.ref b91)]))
          obtain ⟨_, _, ⟨T104, L104, k104, n104⟩, -, X104, ⟨Lc104, hQ104, l104, y104, z104⟩, st104⟩ := Jvm.LawKit.callS X95 hx (y := (⟨"com/example/wunce/wunce/StoredCall", "finished", "([B[B)Lcom/example/wunce/wunce/StoredCall;"⟩ : MethodName)) hown (mvT hZ (hw _ (List.mem_of_getElem? (i := 1) rfl))) (mvT hZ (hw _ (List.mem_of_getElem? (i := 2) rfl))) (mvT hZ (hw _ (List.mem_of_getElem? (i := 3) rfl))) (mvT hZ (hw _ (List.mem_of_getElem? (i := 4) rfl))) (by decide) (backOf (W := 0) (rm1 l Z a0 hw [] ((.ref b91) : Value) b91 h95 n0 (Nat.le_trans Z0 K95.1) rfl) hZ (hw _ (List.mem_of_getElem? (i := 4) rfl)) (hw _ (List.mem_of_getElem? (i := 3) rfl)) (by decide) (by decide)) (g := (mkF m 122 #[.val (.int p0), .val (.int p1), .val (.int p2), .val (.int p3), .val (.int p2.toInt8.toInt32), .val (.int p3.toInt8.toInt32), .val (.int (p1 &&& (3 : Int32))), .val (.ref b91), .val (.int (p0 &&& (3 : Int32))), .val (.ref b91), .unset] [(.ref b91), (.ref b91)])) rfl (by rw [hml]; rfl) (argsL := [(.ref b91), (.ref b91)]) (rest := []) (lenOf pd_1 rfl) rfl (by show 2 * 0 + _ ≤ _; exact Nat.le_of_eq rfl) (hb hby at_122) (fun _ _ => ⟨rfl, e95, (by decide : 1 + 1 ≤ _), (by decide : 2 + 2 ≤ _)⟩)
          dsimp only [Pt.U, Pt.locs, Pt.cells, Pt.slots] at X104 l104 y104 z104 st104 hQ104
          subst l104 y104 z104
          obtain ⟨b_104, rfl, Nq104, Kq104, fq104_0, fq104_1, fq104_2, fq104_3, fq104_4⟩ := hQ104
          have N104 := Fr.app N95 Nq104
          have ne_b91_b_104 : b91 ≠ b_104 := Nat.ne_of_lt (Nat.lt_of_lt_of_le A_b91.lt fq104_0)
          have sz_b_104 := Nat.le_trans K95.1 fq104_0
          have A_b91 := A_b91.keep Kq104 nin0
          have g_b_104 := fq104_1
          have E_b_104 := fq104_2
          have F__fingerprint_b_104 := fq104_3
          have F__answer_b_104 := fq104_4
          have K104 := K95.trans Kq104 all0
          refine Ends.step st104 ?_
          show Ends p e below QQ (T104.setTop (mkF m 125 #[.val (.int p0), .val (.int p1), .val (.int p2), .val (.int p3), .val (.int p2.toInt8.toInt32), .val (.int p3.toInt8.toInt32), .val (.int (p1 &&& (3 : Int32))), .val (.ref b91), .val (.int (p0 &&& (3 : Int32))), .val (.ref b91), .unset] [(.ref b_104)]))
          refine Ends.step (fun _ k => XS.astore X104.here hx rfl (hb hby at_125) rfl rfl (l' := #[.val (.int p0), .val (.int p1), .val (.int p2), .val (.int p3), .val (.int p2.toInt8.toInt32), .val (.int p3.toInt8.toInt32), .val (.int (p1 &&& (3 : Int32))), .val (.ref b91), .val (.int (p0 &&& (3 : Int32))), .val (.ref b91), .val (.ref b_104)]) rfl k) ?_
          show Ends p e below QQ (T104.setTop (mkF m 127 #[.val (.int p0), .val (.int p1), .val (.int p2), .val (.int p3), .val (.int p2.toInt8.toInt32), .val (.int p3.toInt8.toInt32), .val (.int (p1 &&& (3 : Int32))), .val (.ref b91), .val (.int (p0 &&& (3 : Int32))), .val (.ref b91), .val (.ref b_104)] []))
          refine Ends.step (fun _ k => XS.aload X104.here hx rfl (hb hby at_127) rfl rfl k) ?_
          show Ends p e below QQ (T104.setTop (mkF m 129 #[.val (.int p0), .val (.int p1), .val (.int p2), .val (.int p3), .val (.int p2.toInt8.toInt32), .val (.int p3.toInt8.toInt32), .val (.int (p1 &&& (3 : Int32))), .val (.ref b91), .val (.int (p0 &&& (3 : Int32))), .val (.ref b91), .val (.ref b_104)] [(.ref b_104)]))
          refine Ends.step (fun _ k => XT.ifnonnullYes X104.here hx rfl (pc0 := 129) (pc' := 134) rfl (hb hby at_129) rfl (by decide) (by decide) k) ?_
          show Ends p e below QQ (T104.setTop (mkF m 134 #[.val (.int p0), .val (.int p1), .val (.int p2), .val (.int p3), .val (.int p2.toInt8.toInt32), .val (.int p3.toInt8.toInt32), .val (.int (p1 &&& (3 : Int32))), .val (.ref b91), .val (.int (p0 &&& (3 : Int32))), .val (.ref b91), .val (.ref b_104)] []))
          refine Ends.step (fun _ k => XS.aload X104.here hx rfl (hb hby at_134) rfl rfl k) ?_
          show Ends p e below QQ (T104.setTop (mkF m 136 #[.val (.int p0), .val (.int p1), .val (.int p2), .val (.int p3), .val (.int p2.toInt8.toInt32), .val (.int p3.toInt8.toInt32), .val (.int (p1 &&& (3 : Int32))), .val (.ref b91), .val (.int (p0 &&& (3 : Int32))), .val (.ref b91), .val (.ref b_104)] [(.ref b_104)]))
          obtain ⟨cq105, kq105, q105a, q105b, q105c⟩ := isOf hZ rfl E_b_104
          obtain ⟨_, _, ⟨T105, L105, k105, n105⟩, -, X105, ⟨Lc105, hQ105, l105, y105, z105⟩, st105⟩ := X104.virtualBack hx (y := (⟨"com/example/wunce/wunce/StoredCall", "fingerprint", "()[B"⟩ : MethodName)) (z := (⟨"com/example/wunce/wunce/StoredCall", "fingerprint", "()[B"⟩ : MethodName)) hown (mvT hZ (hw _ (List.mem_of_getElem? (i := 17) rfl))) (mvT hZ (hw _ (List.mem_of_getElem? (i := 18) rfl))) (notFace_of_selects (args := #[]) (mvT hZ (hw _ (List.mem_of_getElem? (i := 20) rfl)))) (mvT hZ (hw _ (List.mem_of_getElem? (i := 20) rfl))) (mvT hZ (hw _ (List.mem_of_getElem? (i := 19) rfl))) (by decide) (backOf (W := 0) (rm4 l Z a0 hw [] b_104 ((.ref b91) : Value) T104.heap n0 (Nat.le_trans Z0 K104.1) F__fingerprint_b_104 rfl) hZ (hw _ (List.mem_of_getElem? (i := 21) rfl)) (hw _ (List.mem_of_getElem? (i := 3) rfl)) (by decide) (by decide)) q105a q105c (g := (mkF m 136 #[.val (.int p0), .val (.int p1), .val (.int p2), .val (.int p3), .val (.int p2.toInt8.toInt32), .val (.int p3.toInt8.toInt32), .val (.int (p1 &&& (3 : Int32))), .val (.ref b91), .val (.int (p0 &&& (3 : Int32))), .val (.ref b91), .val (.ref b_104)] [(.ref b_104)])) rfl (by rw [hml]; rfl) (Steps.refl _) (argsL := []) (rest := []) (lenOf pd_2 rfl) rfl (by show 2 * 0 + _ ≤ _; exact Nat.le_of_eq rfl) (hb hby at_136) (fun _ _ => ⟨rfl, rfl, (by decide : 2 + 0 ≤ _), (by decide : 4 + 0 ≤ _)⟩)
          dsimp only [Pt.U, Pt.locs, Pt.cells, Pt.slots] at X105 l105 y105 z105 st105 hQ105
          subst l105 y105 z105
          obtain ⟨rfl, Nq105, hh105⟩ := hQ105
          have N105 := Fr.app N104 Nq105
          refine Ends.step (fun _ k => st105.trans k) ?_
          show Ends p e below QQ (T105.setTop (mkF m 139 #[.val (.int p0), .val (.int p1), .val (.int p2), .val (.int p3), .val (.int p2.toInt8.toInt32), .val (.int p3.toInt8.toInt32), .val (.int (p1 &&& (3 : Int32))), .val (.ref b91), .val (.int (p0 &&& (3 : Int32))), .val (.ref b91), .val (.ref b_104)] [(.ref b91)]))
          refine Ends.step (fun _ k => XS.aload X105.here hx rfl (hb hby at_139) rfl rfl k) ?_
          show Ends p e below QQ (T105.setTop (mkF m 141 #[.val (.int p0), .val (.int p1), .val (.int p2), .val (.int p3), .val (.int p2.toInt8.toInt32), .val (.int p3.toInt8.toInt32), .val (.int (p1 &&& (3 : Int32))), .val (.ref b91), .val (.int (p0 &&& (3 : Int32))), .val (.ref b91), .val (.ref b_104)] [(.ref b91), (.ref b91)]))
          refine Ends.step (fun _ k => Jvm.RoadKit.acmp (g := (mkF m 141 #[.val (.int p0), .val (.int p1), .val (.int p2), .val (.int p3), .val (.int p2.toInt8.toInt32), .val (.int p3.toInt8.toInt32), .val (.int (p1 &&& (3 : Int32))), .val (.ref b91), .val (.int (p0 &&& (3 : Int32))), .val (.ref b91), .val (.ref b_104)] [(.ref b91), (.ref b91)])) X105 hx rfl rfl rfl (pc0 := 141) (pc' := 146) (same := true) rfl (hb hby at_141) rfl (decide_eq_true rfl) (by decide) (by decide) k) ?_
          show Ends p e below QQ (T105.setTop (mkF m 146 #[.val (.int p0), .val (.int p1), .val (.int p2), .val (.int p3), .val (.int p2.toInt8.toInt32), .val (.int p3.toInt8.toInt32), .val (.int (p1 &&& (3 : Int32))), .val (.ref b91), .val (.int (p0 &&& (3 : Int32))), .val (.ref b91), .val (.ref b_104)] []))
          refine Ends.step (fun _ k => XS.aload X105.here hx rfl (hb hby at_146) rfl rfl k) ?_
          show Ends p e below QQ (T105.setTop (mkF m 148 #[.val (.int p0), .val (.int p1), .val (.int p2), .val (.int p3), .val (.int p2.toInt8.toInt32), .val (.int p3.toInt8.toInt32), .val (.int (p1 &&& (3 : Int32))), .val (.ref b91), .val (.int (p0 &&& (3 : Int32))), .val (.ref b91), .val (.ref b_104)] [(.ref b_104)]))
          obtain ⟨cq106, kq106, q106a, q106b, q106c⟩ := isOf hZ hh105 E_b_104
          obtain ⟨_, _, ⟨T106, L106, k106, n106⟩, -, X106, ⟨Lc106, hQ106, l106, y106, z106⟩, st106⟩ := X105.virtualBack hx (y := (⟨"com/example/wunce/wunce/StoredCall", "answer", "()[B"⟩ : MethodName)) (z := (⟨"com/example/wunce/wunce/StoredCall", "answer", "()[B"⟩ : MethodName)) hown (mvT hZ (hw _ (List.mem_of_getElem? (i := 22) rfl))) (mvT hZ (hw _ (List.mem_of_getElem? (i := 23) rfl))) (notFace_of_selects (args := #[]) (mvT hZ (hw _ (List.mem_of_getElem? (i := 25) rfl)))) (mvT hZ (hw _ (List.mem_of_getElem? (i := 25) rfl))) (mvT hZ (hw _ (List.mem_of_getElem? (i := 24) rfl))) (by decide) (backOf (W := 0) (rm5 l Z a0 hw [] b_104 ((.ref b91) : Value) T104.heap n0 (Nat.le_trans Z0 K104.1) F__answer_b_104 rfl) hZ (hw _ (List.mem_of_getElem? (i := 26) rfl)) (hw _ (List.mem_of_getElem? (i := 3) rfl)) (by decide) (by decide)) q106a q106c (g := (mkF m 148 #[.val (.int p0), .val (.int p1), .val (.int p2), .val (.int p3), .val (.int p2.toInt8.toInt32), .val (.int p3.toInt8.toInt32), .val (.int (p1 &&& (3 : Int32))), .val (.ref b91), .val (.int (p0 &&& (3 : Int32))), .val (.ref b91), .val (.ref b_104)] [(.ref b_104)])) rfl (by rw [hml]; rfl) (Steps.refl _) (argsL := []) (rest := []) (lenOf pd_2 rfl) rfl (by show 2 * 0 + _ ≤ _; exact Nat.le_of_eq rfl) (hb hby at_148) (fun _ _ => ⟨rfl, hh105, (by decide : 2 + 0 ≤ _), (by decide : 4 + 0 ≤ _)⟩)
          dsimp only [Pt.U, Pt.locs, Pt.cells, Pt.slots] at X106 l106 y106 z106 st106 hQ106
          subst l106 y106 z106
          obtain ⟨rfl, Nq106, hh106⟩ := hQ106
          have N106 := Fr.app N105 Nq106
          refine Ends.step (fun _ k => st106.trans k) ?_
          show Ends p e below QQ (T106.setTop (mkF m 151 #[.val (.int p0), .val (.int p1), .val (.int p2), .val (.int p3), .val (.int p2.toInt8.toInt32), .val (.int p3.toInt8.toInt32), .val (.int (p1 &&& (3 : Int32))), .val (.ref b91), .val (.int (p0 &&& (3 : Int32))), .val (.ref b91), .val (.ref b_104)] [(.ref b91)]))
          refine Ends.step (fun _ k => XS.aload X106.here hx rfl (hb hby at_151) rfl rfl k) ?_
          show Ends p e below QQ (T106.setTop (mkF m 153 #[.val (.int p0), .val (.int p1), .val (.int p2), .val (.int p3), .val (.int p2.toInt8.toInt32), .val (.int p3.toInt8.toInt32), .val (.int (p1 &&& (3 : Int32))), .val (.ref b91), .val (.int (p0 &&& (3 : Int32))), .val (.ref b91), .val (.ref b_104)] [(.ref b91), (.ref b91)]))
          refine Ends.step (fun _ k => Jvm.RoadKit.acmp (g := (mkF m 153 #[.val (.int p0), .val (.int p1), .val (.int p2), .val (.int p3), .val (.int p2.toInt8.toInt32), .val (.int p3.toInt8.toInt32), .val (.int (p1 &&& (3 : Int32))), .val (.ref b91), .val (.int (p0 &&& (3 : Int32))), .val (.ref b91), .val (.ref b_104)] [(.ref b91), (.ref b91)])) X106 hx rfl rfl rfl (pc0 := 153) (pc' := 158) (same := true) rfl (hb hby at_153) rfl (decide_eq_true rfl) (by decide) (by decide) k) ?_
          show Ends p e below QQ (T106.setTop (mkF m 158 #[.val (.int p0), .val (.int p1), .val (.int p2), .val (.int p3), .val (.int p2.toInt8.toInt32), .val (.int p3.toInt8.toInt32), .val (.int (p1 &&& (3 : Int32))), .val (.ref b91), .val (.int (p0 &&& (3 : Int32))), .val (.ref b91), .val (.ref b_104)] []))
          refine Ends.step (fun _ k => XS.aload X106.here hx rfl (hb hby at_158) rfl rfl k) ?_
          show Ends p e below QQ (T106.setTop (mkF m 160 #[.val (.int p0), .val (.int p1), .val (.int p2), .val (.int p3), .val (.int p2.toInt8.toInt32), .val (.int p3.toInt8.toInt32), .val (.int (p1 &&& (3 : Int32))), .val (.ref b91), .val (.int (p0 &&& (3 : Int32))), .val (.ref b91), .val (.ref b_104)] [(.ref b_104)]))
          obtain ⟨cq107, kq107, q107a, q107b, q107c⟩ := isOf hZ hh106 E_b_104
          obtain ⟨_, _, ⟨T107, L107, k107, n107⟩, -, X107, ⟨Lc107, hQ107, l107, y107, z107⟩, st107⟩ := X106.virtualBack hx (y := (⟨"com/example/wunce/wunce/StoredCall", "isFinished", "()Z"⟩ : MethodName)) (z := (⟨"com/example/wunce/wunce/StoredCall", "isFinished", "()Z"⟩ : MethodName)) hown (mvT hZ (hw _ (List.mem_of_getElem? (i := 27) rfl))) (mvT hZ (hw _ (List.mem_of_getElem? (i := 28) rfl))) (notFace_of_selects (args := #[]) (mvT hZ (hw _ (List.mem_of_getElem? (i := 30) rfl)))) (mvT hZ (hw _ (List.mem_of_getElem? (i := 30) rfl))) (mvT hZ (hw _ (List.mem_of_getElem? (i := 29) rfl))) (by decide) (backOf (W := 0) (rm6 l Z a0 hw [] b_104 b91 T104.heap n0 (Nat.le_trans Z0 K104.1) F__answer_b_104) hZ (hw _ (List.mem_of_getElem? (i := 31) rfl)) (hw _ (List.mem_of_getElem? (i := 3) rfl)) (by decide) (by decide)) q107a q107c (g := (mkF m 160 #[.val (.int p0), .val (.int p1), .val (.int p2), .val (.int p3), .val (.int p2.toInt8.toInt32), .val (.int p3.toInt8.toInt32), .val (.int (p1 &&& (3 : Int32))), .val (.ref b91), .val (.int (p0 &&& (3 : Int32))), .val (.ref b91), .val (.ref b_104)] [(.ref b_104)])) rfl (by rw [hml]; rfl) (Steps.refl _) (argsL := []) (rest := []) (lenOf pd_3 rfl) rfl (by show 2 * 0 + _ ≤ _; exact Nat.le_of_eq rfl) (hb hby at_160) (fun _ _ => ⟨rfl, hh106, (by decide : 2 + 0 ≤ _), (by decide : 4 + 0 ≤ _)⟩)
          dsimp only [Pt.U, Pt.locs, Pt.cells, Pt.slots] at X107 l107 y107 z107 st107 hQ107
          subst l107 y107 z107
          obtain ⟨rfl, Nq107, hh107⟩ := hQ107
          have N107 := Fr.app N106 Nq107
          refine Ends.step (fun _ k => st107.trans k) ?_
          show Ends p e below QQ (T107.setTop (mkF m 163 #[.val (.int p0), .val (.int p1), .val (.int p2), .val (.int p3), .val (.int p2.toInt8.toInt32), .val (.int p3.toInt8.toInt32), .val (.int (p1 &&& (3 : Int32))), .val (.ref b91), .val (.int (p0 &&& (3 : Int32))), .val (.ref b91), .val (.ref b_104)] [(.int (1 : Int32))]))
          refine Ends.step (fun _ k => XS.ifYes X107.here hx rfl (pc0 := 163) (pc' := 168) rfl (hb hby at_163) rfl (XT.i0_ne_t (by decide)) (by decide) (by decide) k) ?_
          show Ends p e below QQ (T107.setTop (mkF m 168 #[.val (.int p0), .val (.int p1), .val (.int p2), .val (.int p3), .val (.int p2.toInt8.toInt32), .val (.int p3.toInt8.toInt32), .val (.int (p1 &&& (3 : Int32))), .val (.ref b91), .val (.int (p0 &&& (3 : Int32))), .val (.ref b91), .val (.ref b_104)] []))
          refine Ends.step (fun _ k => XS.aload X107.here hx rfl (hb hby at_168) rfl rfl k) ?_
          show Ends p e below QQ (T107.setTop (mkF m 170 #[.val (.int p0), .val (.int p1), .val (.int p2), .val (.int p3), .val (.int p2.toInt8.toInt32), .val (.int p3.toInt8.toInt32), .val (.int (p1 &&& (3 : Int32))), .val (.ref b91), .val (.int (p0 &&& (3 : Int32))), .val (.ref b91), .val (.ref b_104)] [(.ref b91)]))
          refine Ends.step (fun _ k => XS.iload X107.here hx rfl (hb hby at_170) rfl k) ?_
          show Ends p e below QQ (T107.setTop (mkF m 172 #[.val (.int p0), .val (.int p1), .val (.int p2), .val (.int p3), .val (.int p2.toInt8.toInt32), .val (.int p3.toInt8.toInt32), .val (.int (p1 &&& (3 : Int32))), .val (.ref b91), .val (.int (p0 &&& (3 : Int32))), .val (.ref b91), .val (.ref b_104)] [(.int (p1 &&& (3 : Int32))), (.ref b91)]))
          refine Ends.step (fun _ k => XS.iload X107.here hx rfl (hb hby at_172) rfl k) ?_
          show Ends p e below QQ (T107.setTop (mkF m 174 #[.val (.int p0), .val (.int p1), .val (.int p2), .val (.int p3), .val (.int p2.toInt8.toInt32), .val (.int p3.toInt8.toInt32), .val (.int (p1 &&& (3 : Int32))), .val (.ref b91), .val (.int (p0 &&& (3 : Int32))), .val (.ref b91), .val (.ref b_104)] [(.int p2.toInt8.toInt32), (.int (p1 &&& (3 : Int32))), (.ref b91)]))
          refine Ends.step (fun _ k => XS.iload X107.here hx rfl (hb hby at_174) rfl k) ?_
          show Ends p e below QQ (T107.setTop (mkF m 176 #[.val (.int p0), .val (.int p1), .val (.int p2), .val (.int p3), .val (.int p2.toInt8.toInt32), .val (.int p3.toInt8.toInt32), .val (.int (p1 &&& (3 : Int32))), .val (.ref b91), .val (.int (p0 &&& (3 : Int32))), .val (.ref b91), .val (.ref b_104)] [(.int p3.toInt8.toInt32), (.int p2.toInt8.toInt32), (.int (p1 &&& (3 : Int32))), (.ref b91)]))
          obtain ⟨_, _, ⟨T108, L108, k108, n108⟩, -, X108, ⟨Lc108, hQ108, l108, y108, z108⟩, st108⟩ := Jvm.LawKit.callS X107 hx (y := (⟨"com/example/wunce/wunce/StoredCallFinishedPinLaw", "answerIntact", "([BIBB)Z"⟩ : MethodName)) hown (mvT hZ (hw _ (List.mem_of_getElem? (i := 32) rfl))) (mvT hZ (hw _ (List.mem_of_getElem? (i := 33) rfl))) (mvT hZ (hw _ (List.mem_of_getElem? (i := 34) rfl))) (mvT hZ (hw _ (List.mem_of_getElem? (i := 35) rfl))) (by decide) (backOf (W := 0) (rm7c l Z a0 hw [] b91 (p1 &&& (3 : Int32)) (p2.toInt8.toInt32) (p3.toInt8.toInt32) k91 T104.heap n0 (Nat.le_trans Z0 K104.1) A_b91 (by first | assumption | rfl | decide) (by first | assumption | rfl | decide)) hZ (hw _ (List.mem_of_getElem? (i := 35) rfl)) (hw _ (List.mem_of_getElem? (i := 34) rfl)) (by decide) (by decide)) (g := (mkF m 176 #[.val (.int p0), .val (.int p1), .val (.int p2), .val (.int p3), .val (.int p2.toInt8.toInt32), .val (.int p3.toInt8.toInt32), .val (.int (p1 &&& (3 : Int32))), .val (.ref b91), .val (.int (p0 &&& (3 : Int32))), .val (.ref b91), .val (.ref b_104)] [(.int p3.toInt8.toInt32), (.int p2.toInt8.toInt32), (.int (p1 &&& (3 : Int32))), (.ref b91)])) rfl (by rw [hml]; rfl) (argsL := [(.ref b91), (.int (p1 &&& (3 : Int32))), (.int p2.toInt8.toInt32), (.int p3.toInt8.toInt32)]) (rest := []) (lenOf pd_4 rfl) rfl (by show 2 * 0 + _ ≤ _; exact Nat.le_of_eq rfl) (hb hby at_176) (fun _ _ => ⟨rfl, hh107, (by decide : 2 + 0 ≤ _), (by decide : 4 + 0 ≤ _)⟩)
          dsimp only [Pt.U, Pt.locs, Pt.cells, Pt.slots] at X108 l108 y108 z108 st108 hQ108
          subst l108 y108 z108
          obtain ⟨rfl, Nq108, hh108⟩ := hQ108
          have N108 := Fr.app N107 Nq108
          refine Ends.step st108 ?_
          show Ends p e below QQ (T108.setTop (mkF m 179 #[.val (.int p0), .val (.int p1), .val (.int p2), .val (.int p3), .val (.int p2.toInt8.toInt32), .val (.int p3.toInt8.toInt32), .val (.int (p1 &&& (3 : Int32))), .val (.ref b91), .val (.int (p0 &&& (3 : Int32))), .val (.ref b91), .val (.ref b_104)] [(.int (1 : Int32))]))
          refine Ends.step (fun _ k => XS.ifNo X108.here hx rfl (hb hby at_179) rfl (XT.i0_eq_f (by decide)) k) ?_
          show Ends p e below QQ (T108.setTop (mkF m 182 #[.val (.int p0), .val (.int p1), .val (.int p2), .val (.int p3), .val (.int p2.toInt8.toInt32), .val (.int p3.toInt8.toInt32), .val (.int (p1 &&& (3 : Int32))), .val (.ref b91), .val (.int (p0 &&& (3 : Int32))), .val (.ref b91), .val (.ref b_104)] []))
          refine Ends.step (fun _ k => XS.aload X108.here hx rfl (hb hby at_182) rfl rfl k) ?_
          show Ends p e below QQ (T108.setTop (mkF m 184 #[.val (.int p0), .val (.int p1), .val (.int p2), .val (.int p3), .val (.int p2.toInt8.toInt32), .val (.int p3.toInt8.toInt32), .val (.int (p1 &&& (3 : Int32))), .val (.ref b91), .val (.int (p0 &&& (3 : Int32))), .val (.ref b91), .val (.ref b_104)] [(.ref b91)]))
          refine Ends.step (fun _ k => XS.iload X108.here hx rfl (hb hby at_184) rfl k) ?_
          show Ends p e below QQ (T108.setTop (mkF m 186 #[.val (.int p0), .val (.int p1), .val (.int p2), .val (.int p3), .val (.int p2.toInt8.toInt32), .val (.int p3.toInt8.toInt32), .val (.int (p1 &&& (3 : Int32))), .val (.ref b91), .val (.int (p0 &&& (3 : Int32))), .val (.ref b91), .val (.ref b_104)] [(.int (p0 &&& (3 : Int32))), (.ref b91)]))
          refine Ends.step (fun _ k => XS.iload X108.here hx rfl (hb hby at_186) rfl k) ?_
          show Ends p e below QQ (T108.setTop (mkF m 188 #[.val (.int p0), .val (.int p1), .val (.int p2), .val (.int p3), .val (.int p2.toInt8.toInt32), .val (.int p3.toInt8.toInt32), .val (.int (p1 &&& (3 : Int32))), .val (.ref b91), .val (.int (p0 &&& (3 : Int32))), .val (.ref b91), .val (.ref b_104)] [(.int p2.toInt8.toInt32), (.int (p0 &&& (3 : Int32))), (.ref b91)]))
          refine Ends.step (fun _ k => XS.iload X108.here hx rfl (hb hby at_188) rfl k) ?_
          show Ends p e below QQ (T108.setTop (mkF m 190 #[.val (.int p0), .val (.int p1), .val (.int p2), .val (.int p3), .val (.int p2.toInt8.toInt32), .val (.int p3.toInt8.toInt32), .val (.int (p1 &&& (3 : Int32))), .val (.ref b91), .val (.int (p0 &&& (3 : Int32))), .val (.ref b91), .val (.ref b_104)] [(.int p3.toInt8.toInt32), (.int p2.toInt8.toInt32), (.int (p0 &&& (3 : Int32))), (.ref b91)]))
          obtain ⟨_, _, ⟨T109, L109, k109, n109⟩, -, X109, ⟨Lc109, hQ109, l109, y109, z109⟩, st109⟩ := Jvm.LawKit.callS X108 hx (y := (⟨"com/example/wunce/wunce/StoredCallFinishedPinLaw", "fingerprintIntact", "([BIBB)Z"⟩ : MethodName)) hown (mvT hZ (hw _ (List.mem_of_getElem? (i := 36) rfl))) (mvT hZ (hw _ (List.mem_of_getElem? (i := 37) rfl))) (mvT hZ (hw _ (List.mem_of_getElem? (i := 34) rfl))) (mvT hZ (hw _ (List.mem_of_getElem? (i := 38) rfl))) (by decide) (backOf (W := 0) (rm8b l Z a0 hw [] ((.ref b91) : Value) (p0 &&& (3 : Int32)) (p2.toInt8.toInt32) (p3.toInt8.toInt32) T104.heap n0 (Nat.le_trans Z0 K104.1) rfl (by first | assumption | rfl | decide) (by first | assumption | rfl | decide)) hZ (hw _ (List.mem_of_getElem? (i := 38) rfl)) (hw _ (List.mem_of_getElem? (i := 34) rfl)) (by decide) (by decide)) (g := (mkF m 190 #[.val (.int p0), .val (.int p1), .val (.int p2), .val (.int p3), .val (.int p2.toInt8.toInt32), .val (.int p3.toInt8.toInt32), .val (.int (p1 &&& (3 : Int32))), .val (.ref b91), .val (.int (p0 &&& (3 : Int32))), .val (.ref b91), .val (.ref b_104)] [(.int p3.toInt8.toInt32), (.int p2.toInt8.toInt32), (.int (p0 &&& (3 : Int32))), (.ref b91)])) rfl (by rw [hml]; rfl) (argsL := [(.ref b91), (.int (p0 &&& (3 : Int32))), (.int p2.toInt8.toInt32), (.int p3.toInt8.toInt32)]) (rest := []) (lenOf pd_4 rfl) rfl (by show 2 * 0 + _ ≤ _; exact Nat.le_of_eq rfl) (hb hby at_190) (fun _ _ => ⟨rfl, hh108, (by decide : 2 + 0 ≤ _), (by decide : 4 + 0 ≤ _)⟩)
          dsimp only [Pt.U, Pt.locs, Pt.cells, Pt.slots] at X109 l109 y109 z109 st109 hQ109
          subst l109 y109 z109
          obtain ⟨rfl, Nq109, hh109⟩ := hQ109
          have N109 := Fr.app N108 Nq109
          refine Ends.step st109 ?_
          show Ends p e below QQ (T109.setTop (mkF m 193 #[.val (.int p0), .val (.int p1), .val (.int p2), .val (.int p3), .val (.int p2.toInt8.toInt32), .val (.int p3.toInt8.toInt32), .val (.int (p1 &&& (3 : Int32))), .val (.ref b91), .val (.int (p0 &&& (3 : Int32))), .val (.ref b91), .val (.ref b_104)] [(.int (1 : Int32))]))
          refine Ends.step (fun _ k => XS.ifNo X109.here hx rfl (hb hby at_193) rfl (XT.i0_eq_f (by decide)) k) ?_
          show Ends p e below QQ (T109.setTop (mkF m 196 #[.val (.int p0), .val (.int p1), .val (.int p2), .val (.int p3), .val (.int p2.toInt8.toInt32), .val (.int p3.toInt8.toInt32), .val (.int (p1 &&& (3 : Int32))), .val (.ref b91), .val (.int (p0 &&& (3 : Int32))), .val (.ref b91), .val (.ref b_104)] []))
          refine Ends.step (fun _ k => XT.iconstV X109.here hx rfl (1 : Int32) (hb hby at_196) rfl k) ?_
          show Ends p e below QQ (T109.setTop (mkF m 197 #[.val (.int p0), .val (.int p1), .val (.int p2), .val (.int p3), .val (.int p2.toInt8.toInt32), .val (.int p3.toInt8.toInt32), .val (.int (p1 &&& (3 : Int32))), .val (.ref b91), .val (.int (p0 &&& (3 : Int32))), .val (.ref b91), .val (.ref b_104)] [(.int (1 : Int32))]))
          refine Ends.step (fun _ k => XS.goto X109.here hx rfl (pc0 := 197) (pc' := 201) rfl (hb hby at_197) (by decide) (by decide) k) ?_
          show Ends p e below QQ (T109.setTop (mkF m 201 #[.val (.int p0), .val (.int p1), .val (.int p2), .val (.int p3), .val (.int p2.toInt8.toInt32), .val (.int p3.toInt8.toInt32), .val (.int (p1 &&& (3 : Int32))), .val (.ref b91), .val (.int (p0 &&& (3 : Int32))), .val (.ref b91), .val (.ref b_104)] [(.int (1 : Int32))]))
          exact Ends.fin (some (.int (1 : Int32))) X109 hQQ (fun h => by rw [Bd.returns] at h; cases h) Bd.notSynchronized (fun _ hr => retOut X109 hx (t := .boolean) Bd.returns rfl (Or.inl ⟨rfl, (by simp), _, rfl⟩) (hb hby at_201) hr) hh109 (by decide) (by decide) ⟨(by simp only [f0, if_neg hc15_19, if_neg hc29_54, if_neg hc67_96, if_pos hc79_103]), N109, K104⟩
        · refine Ends.step (fun _ k => XS.icmpYes X95.here hx rfl (pc0 := 79) (pc' := 89) rfl (hb hby at_79) rfl (XT.ii_ne_t hc79_103) (by decide) (by decide) k) ?_
          show Ends p e below QQ (T95.setTop (mkF m 89 #[.val (.int p0), .val (.int p1), .val (.int p2), .val (.int p3), .val (.int p2.toInt8.toInt32), .val (.int p3.toInt8.toInt32), .val (.int (p1 &&& (3 : Int32))), .val (.ref b91), .val (.int (p0 &&& (3 : Int32))), .unset, .unset] []))
          refine Ends.step (fun _ k => XS.iload X95.here hx rfl (hb hby at_89) rfl k) ?_
          show Ends p e below QQ (T95.setTop (mkF m 91 #[.val (.int p0), .val (.int p1), .val (.int p2), .val (.int p3), .val (.int p2.toInt8.toInt32), .val (.int p3.toInt8.toInt32), .val (.int (p1 &&& (3 : Int32))), .val (.ref b91), .val (.int (p0 &&& (3 : Int32))), .unset, .unset] [(.int (p0 &&& (3 : Int32)))]))
          refine Ends.step (fun _ k => XT.iconstV X95.here hx rfl (2 : Int32) (hb hby at_91) rfl k) ?_
          show Ends p e below QQ (T95.setTop (mkF m 92 #[.val (.int p0), .val (.int p1), .val (.int p2), .val (.int p3), .val (.int p2.toInt8.toInt32), .val (.int p3.toInt8.toInt32), .val (.int (p1 &&& (3 : Int32))), .val (.ref b91), .val (.int (p0 &&& (3 : Int32))), .unset, .unset] [(.int (2 : Int32)), (.int (p0 &&& (3 : Int32)))]))
          by_cases hc92_110 : (p0 &&& (3 : Int32)) = (2 : Int32)
          · refine Ends.step (fun _ k => XS.icmpNo X95.here hx rfl (hb hby at_92) rfl (XT.ii_ne_f hc92_110) k) ?_
            show Ends p e below QQ (T95.setTop (mkF m 95 #[.val (.int p0), .val (.int p1), .val (.int p2), .val (.int p3), .val (.int p2.toInt8.toInt32), .val (.int p3.toInt8.toInt32), .val (.int (p1 &&& (3 : Int32))), .val (.ref b91), .val (.int (p0 &&& (3 : Int32))), .unset, .unset] []))
            refine Ends.step (fun _ k => XT.iconstV X95.here hx rfl (0 : Int32) (hb hby at_95) rfl k) ?_
            show Ends p e below QQ (T95.setTop (mkF m 96 #[.val (.int p0), .val (.int p1), .val (.int p2), .val (.int p3), .val (.int p2.toInt8.toInt32), .val (.int p3.toInt8.toInt32), .val (.int (p1 &&& (3 : Int32))), .val (.ref b91), .val (.int (p0 &&& (3 : Int32))), .unset, .unset] [(.int (0 : Int32))]))
            obtain ⟨T111, h111, k111, X111, e111, E111, A111, st111⟩ := newP X95 hx hZ (hw _ (List.mem_of_getElem? (i := 0) rfl)) e95 (g := (mkF m 96 #[.val (.int p0), .val (.int p1), .val (.int p2), .val (.int p3), .val (.int p2.toInt8.toInt32), .val (.int p3.toInt8.toInt32), .val (.int (p1 &&& (3 : Int32))), .val (.ref b91), .val (.int (p0 &&& (3 : Int32))), .unset, .unset] [(.int (0 : Int32))])) rfl (hb hby at_96) rfl (by decide) (cap := 0) (by decide) (by decide) (by decide) (by decide)
            obtain ⟨b111, g111⟩ : ∃ z, z = h95.size := ⟨_, rfl⟩
            rw [← g111] at A111 st111
            have ne_b91_b111 : b91 ≠ b111 := Nat.ne_of_lt (Nat.lt_of_lt_of_le A_b91.lt (Nat.le_of_eq g111.symm))
            have g_b111 : n0 ≤ b111 := Nat.le_trans Z0 (Nat.le_trans K95.1 (Nat.le_of_eq g111.symm))
            have sz_b111 : h0.size ≤ b111 := Nat.le_trans K95.1 (Nat.le_of_eq g111.symm)
            have A_b91 := A_b91.ext E111
            have K111 := K95.ext E111
            have A_b111 : Arv Z h111 b111 k111 .byte (0 : Int32) [] (.int (0 : Int32)) := Arv.new A111 (by decide)
            refine Ends.step st111 ?_
            show Ends p e below QQ (T111.setTop (mkF m 98 #[.val (.int p0), .val (.int p1), .val (.int p2), .val (.int p3), .val (.int p2.toInt8.toInt32), .val (.int p3.toInt8.toInt32), .val (.int (p1 &&& (3 : Int32))), .val (.ref b91), .val (.int (p0 &&& (3 : Int32))), .unset, .unset] [(.ref b111)]))
            refine Ends.step (fun _ k => XS.astore X111.here hx rfl (hb hby at_98) rfl rfl (l' := #[.val (.int p0), .val (.int p1), .val (.int p2), .val (.int p3), .val (.int p2.toInt8.toInt32), .val (.int p3.toInt8.toInt32), .val (.int (p1 &&& (3 : Int32))), .val (.ref b91), .val (.int (p0 &&& (3 : Int32))), .val (.ref b111), .unset]) rfl k) ?_
            show Ends p e below QQ (T111.setTop (mkF m 100 #[.val (.int p0), .val (.int p1), .val (.int p2), .val (.int p3), .val (.int p2.toInt8.toInt32), .val (.int p3.toInt8.toInt32), .val (.int (p1 &&& (3 : Int32))), .val (.ref b91), .val (.int (p0 &&& (3 : Int32))), .val (.ref b111), .unset] []))
            refine Ends.step (fun _ k => XS.goto X111.here hx rfl (pc0 := 100) (pc' := 118) rfl (hb hby at_100) (by decide) (by decide) k) ?_
            show Ends p e below QQ (T111.setTop (mkF m 118 #[.val (.int p0), .val (.int p1), .val (.int p2), .val (.int p3), .val (.int p2.toInt8.toInt32), .val (.int p3.toInt8.toInt32), .val (.int (p1 &&& (3 : Int32))), .val (.ref b91), .val (.int (p0 &&& (3 : Int32))), .val (.ref b111), .unset] []))
            refine Ends.step (fun _ k => XS.aload X111.here hx rfl (hb hby at_118) rfl rfl k) ?_
            show Ends p e below QQ (T111.setTop (mkF m 120 #[.val (.int p0), .val (.int p1), .val (.int p2), .val (.int p3), .val (.int p2.toInt8.toInt32), .val (.int p3.toInt8.toInt32), .val (.int (p1 &&& (3 : Int32))), .val (.ref b91), .val (.int (p0 &&& (3 : Int32))), .val (.ref b111), .unset] [(.ref b111)]))
            refine Ends.step (fun _ k => XS.aload X111.here hx rfl (hb hby at_120) rfl rfl k) ?_
            show Ends p e below QQ (T111.setTop (mkF m 122 #[.val (.int p0), .val (.int p1), .val (.int p2), .val (.int p3), .val (.int p2.toInt8.toInt32), .val (.int p3.toInt8.toInt32), .val (.int (p1 &&& (3 : Int32))), .val (.ref b91), .val (.int (p0 &&& (3 : Int32))), .val (.ref b111), .unset] [(.ref b91), (.ref b111)]))
            obtain ⟨_, _, ⟨T112, L112, k112, n112⟩, -, X112, ⟨Lc112, hQ112, l112, y112, z112⟩, st112⟩ := Jvm.LawKit.callS X111 hx (y := (⟨"com/example/wunce/wunce/StoredCall", "finished", "([B[B)Lcom/example/wunce/wunce/StoredCall;"⟩ : MethodName)) hown (mvT hZ (hw _ (List.mem_of_getElem? (i := 1) rfl))) (mvT hZ (hw _ (List.mem_of_getElem? (i := 2) rfl))) (mvT hZ (hw _ (List.mem_of_getElem? (i := 3) rfl))) (mvT hZ (hw _ (List.mem_of_getElem? (i := 4) rfl))) (by decide) (backOf (W := 0) (rm1 l Z a0 hw [] ((.ref b111) : Value) b91 h111 n0 (Nat.le_trans Z0 K111.1) rfl) hZ (hw _ (List.mem_of_getElem? (i := 4) rfl)) (hw _ (List.mem_of_getElem? (i := 3) rfl)) (by decide) (by decide)) (g := (mkF m 122 #[.val (.int p0), .val (.int p1), .val (.int p2), .val (.int p3), .val (.int p2.toInt8.toInt32), .val (.int p3.toInt8.toInt32), .val (.int (p1 &&& (3 : Int32))), .val (.ref b91), .val (.int (p0 &&& (3 : Int32))), .val (.ref b111), .unset] [(.ref b91), (.ref b111)])) rfl (by rw [hml]; rfl) (argsL := [(.ref b111), (.ref b91)]) (rest := []) (lenOf pd_1 rfl) rfl (by show 2 * 0 + _ ≤ _; exact Nat.le_of_eq rfl) (hb hby at_122) (fun _ _ => ⟨rfl, e111, (by decide : 2 + 1 ≤ _), (by decide : 2 + 2 ≤ _)⟩)
            dsimp only [Pt.U, Pt.locs, Pt.cells, Pt.slots] at X112 l112 y112 z112 st112 hQ112
            subst l112 y112 z112
            obtain ⟨b_112, rfl, Nq112, Kq112, fq112_0, fq112_1, fq112_2, fq112_3, fq112_4⟩ := hQ112
            have N112 := Fr.app N95 Nq112
            have ne_b91_b_112 : b91 ≠ b_112 := Nat.ne_of_lt (Nat.lt_of_lt_of_le A_b91.lt fq112_0)
            have ne_b111_b_112 : b111 ≠ b_112 := Nat.ne_of_lt (Nat.lt_of_lt_of_le A_b111.lt fq112_0)
            have sz_b_112 := Nat.le_trans K111.1 fq112_0
            have A_b91 := A_b91.keep Kq112 nin0
            have A_b111 := A_b111.keep Kq112 nin0
            have g_b_112 := fq112_1
            have E_b_112 := fq112_2
            have F__fingerprint_b_112 := fq112_3
            have F__answer_b_112 := fq112_4
            have K112 := K111.trans Kq112 all0
            refine Ends.step st112 ?_
            show Ends p e below QQ (T112.setTop (mkF m 125 #[.val (.int p0), .val (.int p1), .val (.int p2), .val (.int p3), .val (.int p2.toInt8.toInt32), .val (.int p3.toInt8.toInt32), .val (.int (p1 &&& (3 : Int32))), .val (.ref b91), .val (.int (p0 &&& (3 : Int32))), .val (.ref b111), .unset] [(.ref b_112)]))
            refine Ends.step (fun _ k => XS.astore X112.here hx rfl (hb hby at_125) rfl rfl (l' := #[.val (.int p0), .val (.int p1), .val (.int p2), .val (.int p3), .val (.int p2.toInt8.toInt32), .val (.int p3.toInt8.toInt32), .val (.int (p1 &&& (3 : Int32))), .val (.ref b91), .val (.int (p0 &&& (3 : Int32))), .val (.ref b111), .val (.ref b_112)]) rfl k) ?_
            show Ends p e below QQ (T112.setTop (mkF m 127 #[.val (.int p0), .val (.int p1), .val (.int p2), .val (.int p3), .val (.int p2.toInt8.toInt32), .val (.int p3.toInt8.toInt32), .val (.int (p1 &&& (3 : Int32))), .val (.ref b91), .val (.int (p0 &&& (3 : Int32))), .val (.ref b111), .val (.ref b_112)] []))
            refine Ends.step (fun _ k => XS.aload X112.here hx rfl (hb hby at_127) rfl rfl k) ?_
            show Ends p e below QQ (T112.setTop (mkF m 129 #[.val (.int p0), .val (.int p1), .val (.int p2), .val (.int p3), .val (.int p2.toInt8.toInt32), .val (.int p3.toInt8.toInt32), .val (.int (p1 &&& (3 : Int32))), .val (.ref b91), .val (.int (p0 &&& (3 : Int32))), .val (.ref b111), .val (.ref b_112)] [(.ref b_112)]))
            refine Ends.step (fun _ k => XT.ifnonnullYes X112.here hx rfl (pc0 := 129) (pc' := 134) rfl (hb hby at_129) rfl (by decide) (by decide) k) ?_
            show Ends p e below QQ (T112.setTop (mkF m 134 #[.val (.int p0), .val (.int p1), .val (.int p2), .val (.int p3), .val (.int p2.toInt8.toInt32), .val (.int p3.toInt8.toInt32), .val (.int (p1 &&& (3 : Int32))), .val (.ref b91), .val (.int (p0 &&& (3 : Int32))), .val (.ref b111), .val (.ref b_112)] []))
            refine Ends.step (fun _ k => XS.aload X112.here hx rfl (hb hby at_134) rfl rfl k) ?_
            show Ends p e below QQ (T112.setTop (mkF m 136 #[.val (.int p0), .val (.int p1), .val (.int p2), .val (.int p3), .val (.int p2.toInt8.toInt32), .val (.int p3.toInt8.toInt32), .val (.int (p1 &&& (3 : Int32))), .val (.ref b91), .val (.int (p0 &&& (3 : Int32))), .val (.ref b111), .val (.ref b_112)] [(.ref b_112)]))
            obtain ⟨cq113, kq113, q113a, q113b, q113c⟩ := isOf hZ rfl E_b_112
            obtain ⟨_, _, ⟨T113, L113, k113, n113⟩, -, X113, ⟨Lc113, hQ113, l113, y113, z113⟩, st113⟩ := X112.virtualBack hx (y := (⟨"com/example/wunce/wunce/StoredCall", "fingerprint", "()[B"⟩ : MethodName)) (z := (⟨"com/example/wunce/wunce/StoredCall", "fingerprint", "()[B"⟩ : MethodName)) hown (mvT hZ (hw _ (List.mem_of_getElem? (i := 17) rfl))) (mvT hZ (hw _ (List.mem_of_getElem? (i := 18) rfl))) (notFace_of_selects (args := #[]) (mvT hZ (hw _ (List.mem_of_getElem? (i := 20) rfl)))) (mvT hZ (hw _ (List.mem_of_getElem? (i := 20) rfl))) (mvT hZ (hw _ (List.mem_of_getElem? (i := 19) rfl))) (by decide) (backOf (W := 0) (rm4 l Z a0 hw [] b_112 ((.ref b111) : Value) T112.heap n0 (Nat.le_trans Z0 K112.1) F__fingerprint_b_112 rfl) hZ (hw _ (List.mem_of_getElem? (i := 21) rfl)) (hw _ (List.mem_of_getElem? (i := 3) rfl)) (by decide) (by decide)) q113a q113c (g := (mkF m 136 #[.val (.int p0), .val (.int p1), .val (.int p2), .val (.int p3), .val (.int p2.toInt8.toInt32), .val (.int p3.toInt8.toInt32), .val (.int (p1 &&& (3 : Int32))), .val (.ref b91), .val (.int (p0 &&& (3 : Int32))), .val (.ref b111), .val (.ref b_112)] [(.ref b_112)])) rfl (by rw [hml]; rfl) (Steps.refl _) (argsL := []) (rest := []) (lenOf pd_2 rfl) rfl (by show 2 * 0 + _ ≤ _; exact Nat.le_of_eq rfl) (hb hby at_136) (fun _ _ => ⟨rfl, rfl, (by decide : 3 + 0 ≤ _), (by decide : 4 + 0 ≤ _)⟩)
            dsimp only [Pt.U, Pt.locs, Pt.cells, Pt.slots] at X113 l113 y113 z113 st113 hQ113
            subst l113 y113 z113
            obtain ⟨rfl, Nq113, hh113⟩ := hQ113
            have N113 := Fr.app N112 Nq113
            refine Ends.step (fun _ k => st113.trans k) ?_
            show Ends p e below QQ (T113.setTop (mkF m 139 #[.val (.int p0), .val (.int p1), .val (.int p2), .val (.int p3), .val (.int p2.toInt8.toInt32), .val (.int p3.toInt8.toInt32), .val (.int (p1 &&& (3 : Int32))), .val (.ref b91), .val (.int (p0 &&& (3 : Int32))), .val (.ref b111), .val (.ref b_112)] [(.ref b111)]))
            refine Ends.step (fun _ k => XS.aload X113.here hx rfl (hb hby at_139) rfl rfl k) ?_
            show Ends p e below QQ (T113.setTop (mkF m 141 #[.val (.int p0), .val (.int p1), .val (.int p2), .val (.int p3), .val (.int p2.toInt8.toInt32), .val (.int p3.toInt8.toInt32), .val (.int (p1 &&& (3 : Int32))), .val (.ref b91), .val (.int (p0 &&& (3 : Int32))), .val (.ref b111), .val (.ref b_112)] [(.ref b111), (.ref b111)]))
            refine Ends.step (fun _ k => Jvm.RoadKit.acmp (g := (mkF m 141 #[.val (.int p0), .val (.int p1), .val (.int p2), .val (.int p3), .val (.int p2.toInt8.toInt32), .val (.int p3.toInt8.toInt32), .val (.int (p1 &&& (3 : Int32))), .val (.ref b91), .val (.int (p0 &&& (3 : Int32))), .val (.ref b111), .val (.ref b_112)] [(.ref b111), (.ref b111)])) X113 hx rfl rfl rfl (pc0 := 141) (pc' := 146) (same := true) rfl (hb hby at_141) rfl (decide_eq_true rfl) (by decide) (by decide) k) ?_
            show Ends p e below QQ (T113.setTop (mkF m 146 #[.val (.int p0), .val (.int p1), .val (.int p2), .val (.int p3), .val (.int p2.toInt8.toInt32), .val (.int p3.toInt8.toInt32), .val (.int (p1 &&& (3 : Int32))), .val (.ref b91), .val (.int (p0 &&& (3 : Int32))), .val (.ref b111), .val (.ref b_112)] []))
            refine Ends.step (fun _ k => XS.aload X113.here hx rfl (hb hby at_146) rfl rfl k) ?_
            show Ends p e below QQ (T113.setTop (mkF m 148 #[.val (.int p0), .val (.int p1), .val (.int p2), .val (.int p3), .val (.int p2.toInt8.toInt32), .val (.int p3.toInt8.toInt32), .val (.int (p1 &&& (3 : Int32))), .val (.ref b91), .val (.int (p0 &&& (3 : Int32))), .val (.ref b111), .val (.ref b_112)] [(.ref b_112)]))
            obtain ⟨cq114, kq114, q114a, q114b, q114c⟩ := isOf hZ hh113 E_b_112
            obtain ⟨_, _, ⟨T114, L114, k114, n114⟩, -, X114, ⟨Lc114, hQ114, l114, y114, z114⟩, st114⟩ := X113.virtualBack hx (y := (⟨"com/example/wunce/wunce/StoredCall", "answer", "()[B"⟩ : MethodName)) (z := (⟨"com/example/wunce/wunce/StoredCall", "answer", "()[B"⟩ : MethodName)) hown (mvT hZ (hw _ (List.mem_of_getElem? (i := 22) rfl))) (mvT hZ (hw _ (List.mem_of_getElem? (i := 23) rfl))) (notFace_of_selects (args := #[]) (mvT hZ (hw _ (List.mem_of_getElem? (i := 25) rfl)))) (mvT hZ (hw _ (List.mem_of_getElem? (i := 25) rfl))) (mvT hZ (hw _ (List.mem_of_getElem? (i := 24) rfl))) (by decide) (backOf (W := 0) (rm5 l Z a0 hw [] b_112 ((.ref b91) : Value) T112.heap n0 (Nat.le_trans Z0 K112.1) F__answer_b_112 rfl) hZ (hw _ (List.mem_of_getElem? (i := 26) rfl)) (hw _ (List.mem_of_getElem? (i := 3) rfl)) (by decide) (by decide)) q114a q114c (g := (mkF m 148 #[.val (.int p0), .val (.int p1), .val (.int p2), .val (.int p3), .val (.int p2.toInt8.toInt32), .val (.int p3.toInt8.toInt32), .val (.int (p1 &&& (3 : Int32))), .val (.ref b91), .val (.int (p0 &&& (3 : Int32))), .val (.ref b111), .val (.ref b_112)] [(.ref b_112)])) rfl (by rw [hml]; rfl) (Steps.refl _) (argsL := []) (rest := []) (lenOf pd_2 rfl) rfl (by show 2 * 0 + _ ≤ _; exact Nat.le_of_eq rfl) (hb hby at_148) (fun _ _ => ⟨rfl, hh113, (by decide : 3 + 0 ≤ _), (by decide : 4 + 0 ≤ _)⟩)
            dsimp only [Pt.U, Pt.locs, Pt.cells, Pt.slots] at X114 l114 y114 z114 st114 hQ114
            subst l114 y114 z114
            obtain ⟨rfl, Nq114, hh114⟩ := hQ114
            have N114 := Fr.app N113 Nq114
            refine Ends.step (fun _ k => st114.trans k) ?_
            show Ends p e below QQ (T114.setTop (mkF m 151 #[.val (.int p0), .val (.int p1), .val (.int p2), .val (.int p3), .val (.int p2.toInt8.toInt32), .val (.int p3.toInt8.toInt32), .val (.int (p1 &&& (3 : Int32))), .val (.ref b91), .val (.int (p0 &&& (3 : Int32))), .val (.ref b111), .val (.ref b_112)] [(.ref b91)]))
            refine Ends.step (fun _ k => XS.aload X114.here hx rfl (hb hby at_151) rfl rfl k) ?_
            show Ends p e below QQ (T114.setTop (mkF m 153 #[.val (.int p0), .val (.int p1), .val (.int p2), .val (.int p3), .val (.int p2.toInt8.toInt32), .val (.int p3.toInt8.toInt32), .val (.int (p1 &&& (3 : Int32))), .val (.ref b91), .val (.int (p0 &&& (3 : Int32))), .val (.ref b111), .val (.ref b_112)] [(.ref b91), (.ref b91)]))
            refine Ends.step (fun _ k => Jvm.RoadKit.acmp (g := (mkF m 153 #[.val (.int p0), .val (.int p1), .val (.int p2), .val (.int p3), .val (.int p2.toInt8.toInt32), .val (.int p3.toInt8.toInt32), .val (.int (p1 &&& (3 : Int32))), .val (.ref b91), .val (.int (p0 &&& (3 : Int32))), .val (.ref b111), .val (.ref b_112)] [(.ref b91), (.ref b91)])) X114 hx rfl rfl rfl (pc0 := 153) (pc' := 158) (same := true) rfl (hb hby at_153) rfl (decide_eq_true rfl) (by decide) (by decide) k) ?_
            show Ends p e below QQ (T114.setTop (mkF m 158 #[.val (.int p0), .val (.int p1), .val (.int p2), .val (.int p3), .val (.int p2.toInt8.toInt32), .val (.int p3.toInt8.toInt32), .val (.int (p1 &&& (3 : Int32))), .val (.ref b91), .val (.int (p0 &&& (3 : Int32))), .val (.ref b111), .val (.ref b_112)] []))
            refine Ends.step (fun _ k => XS.aload X114.here hx rfl (hb hby at_158) rfl rfl k) ?_
            show Ends p e below QQ (T114.setTop (mkF m 160 #[.val (.int p0), .val (.int p1), .val (.int p2), .val (.int p3), .val (.int p2.toInt8.toInt32), .val (.int p3.toInt8.toInt32), .val (.int (p1 &&& (3 : Int32))), .val (.ref b91), .val (.int (p0 &&& (3 : Int32))), .val (.ref b111), .val (.ref b_112)] [(.ref b_112)]))
            obtain ⟨cq115, kq115, q115a, q115b, q115c⟩ := isOf hZ hh114 E_b_112
            obtain ⟨_, _, ⟨T115, L115, k115, n115⟩, -, X115, ⟨Lc115, hQ115, l115, y115, z115⟩, st115⟩ := X114.virtualBack hx (y := (⟨"com/example/wunce/wunce/StoredCall", "isFinished", "()Z"⟩ : MethodName)) (z := (⟨"com/example/wunce/wunce/StoredCall", "isFinished", "()Z"⟩ : MethodName)) hown (mvT hZ (hw _ (List.mem_of_getElem? (i := 27) rfl))) (mvT hZ (hw _ (List.mem_of_getElem? (i := 28) rfl))) (notFace_of_selects (args := #[]) (mvT hZ (hw _ (List.mem_of_getElem? (i := 30) rfl)))) (mvT hZ (hw _ (List.mem_of_getElem? (i := 30) rfl))) (mvT hZ (hw _ (List.mem_of_getElem? (i := 29) rfl))) (by decide) (backOf (W := 0) (rm6 l Z a0 hw [] b_112 b91 T112.heap n0 (Nat.le_trans Z0 K112.1) F__answer_b_112) hZ (hw _ (List.mem_of_getElem? (i := 31) rfl)) (hw _ (List.mem_of_getElem? (i := 3) rfl)) (by decide) (by decide)) q115a q115c (g := (mkF m 160 #[.val (.int p0), .val (.int p1), .val (.int p2), .val (.int p3), .val (.int p2.toInt8.toInt32), .val (.int p3.toInt8.toInt32), .val (.int (p1 &&& (3 : Int32))), .val (.ref b91), .val (.int (p0 &&& (3 : Int32))), .val (.ref b111), .val (.ref b_112)] [(.ref b_112)])) rfl (by rw [hml]; rfl) (Steps.refl _) (argsL := []) (rest := []) (lenOf pd_3 rfl) rfl (by show 2 * 0 + _ ≤ _; exact Nat.le_of_eq rfl) (hb hby at_160) (fun _ _ => ⟨rfl, hh114, (by decide : 3 + 0 ≤ _), (by decide : 4 + 0 ≤ _)⟩)
            dsimp only [Pt.U, Pt.locs, Pt.cells, Pt.slots] at X115 l115 y115 z115 st115 hQ115
            subst l115 y115 z115
            obtain ⟨rfl, Nq115, hh115⟩ := hQ115
            have N115 := Fr.app N114 Nq115
            refine Ends.step (fun _ k => st115.trans k) ?_
            show Ends p e below QQ (T115.setTop (mkF m 163 #[.val (.int p0), .val (.int p1), .val (.int p2), .val (.int p3), .val (.int p2.toInt8.toInt32), .val (.int p3.toInt8.toInt32), .val (.int (p1 &&& (3 : Int32))), .val (.ref b91), .val (.int (p0 &&& (3 : Int32))), .val (.ref b111), .val (.ref b_112)] [(.int (1 : Int32))]))
            refine Ends.step (fun _ k => XS.ifYes X115.here hx rfl (pc0 := 163) (pc' := 168) rfl (hb hby at_163) rfl (XT.i0_ne_t (by decide)) (by decide) (by decide) k) ?_
            show Ends p e below QQ (T115.setTop (mkF m 168 #[.val (.int p0), .val (.int p1), .val (.int p2), .val (.int p3), .val (.int p2.toInt8.toInt32), .val (.int p3.toInt8.toInt32), .val (.int (p1 &&& (3 : Int32))), .val (.ref b91), .val (.int (p0 &&& (3 : Int32))), .val (.ref b111), .val (.ref b_112)] []))
            refine Ends.step (fun _ k => XS.aload X115.here hx rfl (hb hby at_168) rfl rfl k) ?_
            show Ends p e below QQ (T115.setTop (mkF m 170 #[.val (.int p0), .val (.int p1), .val (.int p2), .val (.int p3), .val (.int p2.toInt8.toInt32), .val (.int p3.toInt8.toInt32), .val (.int (p1 &&& (3 : Int32))), .val (.ref b91), .val (.int (p0 &&& (3 : Int32))), .val (.ref b111), .val (.ref b_112)] [(.ref b91)]))
            refine Ends.step (fun _ k => XS.iload X115.here hx rfl (hb hby at_170) rfl k) ?_
            show Ends p e below QQ (T115.setTop (mkF m 172 #[.val (.int p0), .val (.int p1), .val (.int p2), .val (.int p3), .val (.int p2.toInt8.toInt32), .val (.int p3.toInt8.toInt32), .val (.int (p1 &&& (3 : Int32))), .val (.ref b91), .val (.int (p0 &&& (3 : Int32))), .val (.ref b111), .val (.ref b_112)] [(.int (p1 &&& (3 : Int32))), (.ref b91)]))
            refine Ends.step (fun _ k => XS.iload X115.here hx rfl (hb hby at_172) rfl k) ?_
            show Ends p e below QQ (T115.setTop (mkF m 174 #[.val (.int p0), .val (.int p1), .val (.int p2), .val (.int p3), .val (.int p2.toInt8.toInt32), .val (.int p3.toInt8.toInt32), .val (.int (p1 &&& (3 : Int32))), .val (.ref b91), .val (.int (p0 &&& (3 : Int32))), .val (.ref b111), .val (.ref b_112)] [(.int p2.toInt8.toInt32), (.int (p1 &&& (3 : Int32))), (.ref b91)]))
            refine Ends.step (fun _ k => XS.iload X115.here hx rfl (hb hby at_174) rfl k) ?_
            show Ends p e below QQ (T115.setTop (mkF m 176 #[.val (.int p0), .val (.int p1), .val (.int p2), .val (.int p3), .val (.int p2.toInt8.toInt32), .val (.int p3.toInt8.toInt32), .val (.int (p1 &&& (3 : Int32))), .val (.ref b91), .val (.int (p0 &&& (3 : Int32))), .val (.ref b111), .val (.ref b_112)] [(.int p3.toInt8.toInt32), (.int p2.toInt8.toInt32), (.int (p1 &&& (3 : Int32))), (.ref b91)]))
            obtain ⟨_, _, ⟨T116, L116, k116, n116⟩, -, X116, ⟨Lc116, hQ116, l116, y116, z116⟩, st116⟩ := Jvm.LawKit.callS X115 hx (y := (⟨"com/example/wunce/wunce/StoredCallFinishedPinLaw", "answerIntact", "([BIBB)Z"⟩ : MethodName)) hown (mvT hZ (hw _ (List.mem_of_getElem? (i := 32) rfl))) (mvT hZ (hw _ (List.mem_of_getElem? (i := 33) rfl))) (mvT hZ (hw _ (List.mem_of_getElem? (i := 34) rfl))) (mvT hZ (hw _ (List.mem_of_getElem? (i := 35) rfl))) (by decide) (backOf (W := 0) (rm7c l Z a0 hw [] b91 (p1 &&& (3 : Int32)) (p2.toInt8.toInt32) (p3.toInt8.toInt32) k91 T112.heap n0 (Nat.le_trans Z0 K112.1) A_b91 (by first | assumption | rfl | decide) (by first | assumption | rfl | decide)) hZ (hw _ (List.mem_of_getElem? (i := 35) rfl)) (hw _ (List.mem_of_getElem? (i := 34) rfl)) (by decide) (by decide)) (g := (mkF m 176 #[.val (.int p0), .val (.int p1), .val (.int p2), .val (.int p3), .val (.int p2.toInt8.toInt32), .val (.int p3.toInt8.toInt32), .val (.int (p1 &&& (3 : Int32))), .val (.ref b91), .val (.int (p0 &&& (3 : Int32))), .val (.ref b111), .val (.ref b_112)] [(.int p3.toInt8.toInt32), (.int p2.toInt8.toInt32), (.int (p1 &&& (3 : Int32))), (.ref b91)])) rfl (by rw [hml]; rfl) (argsL := [(.ref b91), (.int (p1 &&& (3 : Int32))), (.int p2.toInt8.toInt32), (.int p3.toInt8.toInt32)]) (rest := []) (lenOf pd_4 rfl) rfl (by show 2 * 0 + _ ≤ _; exact Nat.le_of_eq rfl) (hb hby at_176) (fun _ _ => ⟨rfl, hh115, (by decide : 3 + 0 ≤ _), (by decide : 4 + 0 ≤ _)⟩)
            dsimp only [Pt.U, Pt.locs, Pt.cells, Pt.slots] at X116 l116 y116 z116 st116 hQ116
            subst l116 y116 z116
            obtain ⟨rfl, Nq116, hh116⟩ := hQ116
            have N116 := Fr.app N115 Nq116
            refine Ends.step st116 ?_
            show Ends p e below QQ (T116.setTop (mkF m 179 #[.val (.int p0), .val (.int p1), .val (.int p2), .val (.int p3), .val (.int p2.toInt8.toInt32), .val (.int p3.toInt8.toInt32), .val (.int (p1 &&& (3 : Int32))), .val (.ref b91), .val (.int (p0 &&& (3 : Int32))), .val (.ref b111), .val (.ref b_112)] [(.int (1 : Int32))]))
            refine Ends.step (fun _ k => XS.ifNo X116.here hx rfl (hb hby at_179) rfl (XT.i0_eq_f (by decide)) k) ?_
            show Ends p e below QQ (T116.setTop (mkF m 182 #[.val (.int p0), .val (.int p1), .val (.int p2), .val (.int p3), .val (.int p2.toInt8.toInt32), .val (.int p3.toInt8.toInt32), .val (.int (p1 &&& (3 : Int32))), .val (.ref b91), .val (.int (p0 &&& (3 : Int32))), .val (.ref b111), .val (.ref b_112)] []))
            refine Ends.step (fun _ k => XS.aload X116.here hx rfl (hb hby at_182) rfl rfl k) ?_
            show Ends p e below QQ (T116.setTop (mkF m 184 #[.val (.int p0), .val (.int p1), .val (.int p2), .val (.int p3), .val (.int p2.toInt8.toInt32), .val (.int p3.toInt8.toInt32), .val (.int (p1 &&& (3 : Int32))), .val (.ref b91), .val (.int (p0 &&& (3 : Int32))), .val (.ref b111), .val (.ref b_112)] [(.ref b111)]))
            refine Ends.step (fun _ k => XS.iload X116.here hx rfl (hb hby at_184) rfl k) ?_
            show Ends p e below QQ (T116.setTop (mkF m 186 #[.val (.int p0), .val (.int p1), .val (.int p2), .val (.int p3), .val (.int p2.toInt8.toInt32), .val (.int p3.toInt8.toInt32), .val (.int (p1 &&& (3 : Int32))), .val (.ref b91), .val (.int (p0 &&& (3 : Int32))), .val (.ref b111), .val (.ref b_112)] [(.int (p0 &&& (3 : Int32))), (.ref b111)]))
            refine Ends.step (fun _ k => XS.iload X116.here hx rfl (hb hby at_186) rfl k) ?_
            show Ends p e below QQ (T116.setTop (mkF m 188 #[.val (.int p0), .val (.int p1), .val (.int p2), .val (.int p3), .val (.int p2.toInt8.toInt32), .val (.int p3.toInt8.toInt32), .val (.int (p1 &&& (3 : Int32))), .val (.ref b91), .val (.int (p0 &&& (3 : Int32))), .val (.ref b111), .val (.ref b_112)] [(.int p2.toInt8.toInt32), (.int (p0 &&& (3 : Int32))), (.ref b111)]))
            refine Ends.step (fun _ k => XS.iload X116.here hx rfl (hb hby at_188) rfl k) ?_
            show Ends p e below QQ (T116.setTop (mkF m 190 #[.val (.int p0), .val (.int p1), .val (.int p2), .val (.int p3), .val (.int p2.toInt8.toInt32), .val (.int p3.toInt8.toInt32), .val (.int (p1 &&& (3 : Int32))), .val (.ref b91), .val (.int (p0 &&& (3 : Int32))), .val (.ref b111), .val (.ref b_112)] [(.int p3.toInt8.toInt32), (.int p2.toInt8.toInt32), (.int (p0 &&& (3 : Int32))), (.ref b111)]))
            obtain ⟨_, _, ⟨T117, L117, k117, n117⟩, -, X117, ⟨Lc117, hQ117, l117, y117, z117⟩, st117⟩ := Jvm.LawKit.callS X116 hx (y := (⟨"com/example/wunce/wunce/StoredCallFinishedPinLaw", "fingerprintIntact", "([BIBB)Z"⟩ : MethodName)) hown (mvT hZ (hw _ (List.mem_of_getElem? (i := 36) rfl))) (mvT hZ (hw _ (List.mem_of_getElem? (i := 37) rfl))) (mvT hZ (hw _ (List.mem_of_getElem? (i := 34) rfl))) (mvT hZ (hw _ (List.mem_of_getElem? (i := 38) rfl))) (by decide) (backOf (W := 0) (rm8c l Z a0 hw [] b111 (p0 &&& (3 : Int32)) (p2.toInt8.toInt32) (p3.toInt8.toInt32) k111 T112.heap n0 (Nat.le_trans Z0 K112.1) A_b111 (by first | assumption | rfl | decide) (by first | assumption | rfl | decide) (by first | assumption | rfl | decide)) hZ (hw _ (List.mem_of_getElem? (i := 38) rfl)) (hw _ (List.mem_of_getElem? (i := 34) rfl)) (by decide) (by decide)) (g := (mkF m 190 #[.val (.int p0), .val (.int p1), .val (.int p2), .val (.int p3), .val (.int p2.toInt8.toInt32), .val (.int p3.toInt8.toInt32), .val (.int (p1 &&& (3 : Int32))), .val (.ref b91), .val (.int (p0 &&& (3 : Int32))), .val (.ref b111), .val (.ref b_112)] [(.int p3.toInt8.toInt32), (.int p2.toInt8.toInt32), (.int (p0 &&& (3 : Int32))), (.ref b111)])) rfl (by rw [hml]; rfl) (argsL := [(.ref b111), (.int (p0 &&& (3 : Int32))), (.int p2.toInt8.toInt32), (.int p3.toInt8.toInt32)]) (rest := []) (lenOf pd_4 rfl) rfl (by show 2 * 0 + _ ≤ _; exact Nat.le_of_eq rfl) (hb hby at_190) (fun _ _ => ⟨rfl, hh116, (by decide : 3 + 0 ≤ _), (by decide : 4 + 0 ≤ _)⟩)
            dsimp only [Pt.U, Pt.locs, Pt.cells, Pt.slots] at X117 l117 y117 z117 st117 hQ117
            subst l117 y117 z117
            obtain ⟨rfl, Nq117, hh117⟩ := hQ117
            have N117 := Fr.app N116 Nq117
            refine Ends.step st117 ?_
            show Ends p e below QQ (T117.setTop (mkF m 193 #[.val (.int p0), .val (.int p1), .val (.int p2), .val (.int p3), .val (.int p2.toInt8.toInt32), .val (.int p3.toInt8.toInt32), .val (.int (p1 &&& (3 : Int32))), .val (.ref b91), .val (.int (p0 &&& (3 : Int32))), .val (.ref b111), .val (.ref b_112)] [(.int (1 : Int32))]))
            refine Ends.step (fun _ k => XS.ifNo X117.here hx rfl (hb hby at_193) rfl (XT.i0_eq_f (by decide)) k) ?_
            show Ends p e below QQ (T117.setTop (mkF m 196 #[.val (.int p0), .val (.int p1), .val (.int p2), .val (.int p3), .val (.int p2.toInt8.toInt32), .val (.int p3.toInt8.toInt32), .val (.int (p1 &&& (3 : Int32))), .val (.ref b91), .val (.int (p0 &&& (3 : Int32))), .val (.ref b111), .val (.ref b_112)] []))
            refine Ends.step (fun _ k => XT.iconstV X117.here hx rfl (1 : Int32) (hb hby at_196) rfl k) ?_
            show Ends p e below QQ (T117.setTop (mkF m 197 #[.val (.int p0), .val (.int p1), .val (.int p2), .val (.int p3), .val (.int p2.toInt8.toInt32), .val (.int p3.toInt8.toInt32), .val (.int (p1 &&& (3 : Int32))), .val (.ref b91), .val (.int (p0 &&& (3 : Int32))), .val (.ref b111), .val (.ref b_112)] [(.int (1 : Int32))]))
            refine Ends.step (fun _ k => XS.goto X117.here hx rfl (pc0 := 197) (pc' := 201) rfl (hb hby at_197) (by decide) (by decide) k) ?_
            show Ends p e below QQ (T117.setTop (mkF m 201 #[.val (.int p0), .val (.int p1), .val (.int p2), .val (.int p3), .val (.int p2.toInt8.toInt32), .val (.int p3.toInt8.toInt32), .val (.int (p1 &&& (3 : Int32))), .val (.ref b91), .val (.int (p0 &&& (3 : Int32))), .val (.ref b111), .val (.ref b_112)] [(.int (1 : Int32))]))
            exact Ends.fin (some (.int (1 : Int32))) X117 hQQ (fun h => by rw [Bd.returns] at h; cases h) Bd.notSynchronized (fun _ hr => retOut X117 hx (t := .boolean) Bd.returns rfl (Or.inl ⟨rfl, (by simp), _, rfl⟩) (hb hby at_201) hr) hh117 (by decide) (by decide) ⟨(by simp only [f0, if_neg hc15_19, if_neg hc29_54, if_neg hc67_96, if_neg hc79_103, if_pos hc92_110]), N117, K112⟩
          · refine Ends.step (fun _ k => XS.icmpYes X95.here hx rfl (pc0 := 92) (pc' := 103) rfl (hb hby at_92) rfl (XT.ii_ne_t hc92_110) (by decide) (by decide) k) ?_
            show Ends p e below QQ (T95.setTop (mkF m 103 #[.val (.int p0), .val (.int p1), .val (.int p2), .val (.int p3), .val (.int p2.toInt8.toInt32), .val (.int p3.toInt8.toInt32), .val (.int (p1 &&& (3 : Int32))), .val (.ref b91), .val (.int (p0 &&& (3 : Int32))), .unset, .unset] []))
            refine Ends.step (fun _ k => XT.iconstV X95.here hx rfl (2 : Int32) (hb hby at_103) rfl k) ?_
            show Ends p e below QQ (T95.setTop (mkF m 104 #[.val (.int p0), .val (.int p1), .val (.int p2), .val (.int p3), .val (.int p2.toInt8.toInt32), .val (.int p3.toInt8.toInt32), .val (.int (p1 &&& (3 : Int32))), .val (.ref b91), .val (.int (p0 &&& (3 : Int32))), .unset, .unset] [(.int (2 : Int32))]))
            obtain ⟨T118, h118, k118, X118, e118, E118, A118, st118⟩ := newP X95 hx hZ (hw _ (List.mem_of_getElem? (i := 0) rfl)) e95 (g := (mkF m 104 #[.val (.int p0), .val (.int p1), .val (.int p2), .val (.int p3), .val (.int p2.toInt8.toInt32), .val (.int p3.toInt8.toInt32), .val (.int (p1 &&& (3 : Int32))), .val (.ref b91), .val (.int (p0 &&& (3 : Int32))), .unset, .unset] [(.int (2 : Int32))])) rfl (hb hby at_104) rfl (by decide) (cap := 2) (by decide) (by decide) (by decide) (by decide)
            obtain ⟨b118, g118⟩ : ∃ z, z = h95.size := ⟨_, rfl⟩
            rw [← g118] at A118 st118
            have ne_b91_b118 : b91 ≠ b118 := Nat.ne_of_lt (Nat.lt_of_lt_of_le A_b91.lt (Nat.le_of_eq g118.symm))
            have g_b118 : n0 ≤ b118 := Nat.le_trans Z0 (Nat.le_trans K95.1 (Nat.le_of_eq g118.symm))
            have sz_b118 : h0.size ≤ b118 := Nat.le_trans K95.1 (Nat.le_of_eq g118.symm)
            have A_b91 := A_b91.ext E118
            have K118 := K95.ext E118
            have A_b118 : Arv Z h118 b118 k118 .byte (2 : Int32) [(.int (0 : Int32)), (.int (0 : Int32))] (.int (0 : Int32)) := (Arv.new A118 (by decide)).pad (pad_rep [] (.int (0 : Int32)) 2)
            refine Ends.step st118 ?_
            show Ends p e below QQ (T118.setTop (mkF m 106 #[.val (.int p0), .val (.int p1), .val (.int p2), .val (.int p3), .val (.int p2.toInt8.toInt32), .val (.int p3.toInt8.toInt32), .val (.int (p1 &&& (3 : Int32))), .val (.ref b91), .val (.int (p0 &&& (3 : Int32))), .unset, .unset] [(.ref b118)]))
            refine Ends.step (fun _ k => XS.dup X118.here hx rfl (hb hby at_106) rfl rfl k) ?_
            show Ends p e below QQ (T118.setTop (mkF m 107 #[.val (.int p0), .val (.int p1), .val (.int p2), .val (.int p3), .val (.int p2.toInt8.toInt32), .val (.int p3.toInt8.toInt32), .val (.int (p1 &&& (3 : Int32))), .val (.ref b91), .val (.int (p0 &&& (3 : Int32))), .unset, .unset] [(.ref b118), (.ref b118)]))
            refine Ends.step (fun _ k => XT.iconstV X118.here hx rfl (0 : Int32) (hb hby at_107) rfl k) ?_
            show Ends p e below QQ (T118.setTop (mkF m 108 #[.val (.int p0), .val (.int p1), .val (.int p2), .val (.int p3), .val (.int p2.toInt8.toInt32), .val (.int p3.toInt8.toInt32), .val (.int (p1 &&& (3 : Int32))), .val (.ref b91), .val (.int (p0 &&& (3 : Int32))), .unset, .unset] [(.int (0 : Int32)), (.ref b118), (.ref b118)]))
            refine Ends.step (fun _ k => XS.iload X118.here hx rfl (hb hby at_108) rfl k) ?_
            show Ends p e below QQ (T118.setTop (mkF m 110 #[.val (.int p0), .val (.int p1), .val (.int p2), .val (.int p3), .val (.int p2.toInt8.toInt32), .val (.int p3.toInt8.toInt32), .val (.int (p1 &&& (3 : Int32))), .val (.ref b91), .val (.int (p0 &&& (3 : Int32))), .unset, .unset] [(.int p3.toInt8.toInt32), (.int (0 : Int32)), (.ref b118), (.ref b118)]))
            obtain ⟨cl119, Ar119, q119, S119, P119, H119, G119⟩ := id A_b118
            have hin119 : ¬ ((0 : Int32) < 0 ∨ cl119.slots.size ≤ ((0 : Int32)).toNatClampNeg) := inb_of S119 ⟨by decide, by decide⟩
            obtain ⟨T120, h120, X120, e120, W120, st120⟩ := stB X118 hx hZ e118 Ar119 (j := (0 : Int32)) hin119 (g := (mkF m 110 #[.val (.int p0), .val (.int p1), .val (.int p2), .val (.int p3), .val (.int p2.toInt8.toInt32), .val (.int p3.toInt8.toInt32), .val (.int (p1 &&& (3 : Int32))), .val (.ref b91), .val (.int (p0 &&& (3 : Int32))), .unset, .unset] [(.int p3.toInt8.toInt32), (.int (0 : Int32)), (.ref b118), (.ref b118)])) rfl rfl (hb hby at_110)
            rw [own_narb] at W120
            have A_b91 := A_b91.other W120 ne_b91_b118
            have A_b118 : Arv Z h120 b118 k118 .byte (2 : Int32) [(.int p3.toInt8.toInt32), (.int (0 : Int32))] (.int (0 : Int32)) := Arv.set Ar119 q119 S119 P119 H119 G119 (fits_nar_byte _) W120 0 rfl (Nat.le_of_ble_eq_true rfl)
            have K120 := K118.wr W120 (Or.inr sz_b118)
            have N120 := Fr.snoc X120 N95 g_b118
            refine Ends.step st120 ?_
            show Ends p e below QQ (T120.setTop (mkF m 111 #[.val (.int p0), .val (.int p1), .val (.int p2), .val (.int p3), .val (.int p2.toInt8.toInt32), .val (.int p3.toInt8.toInt32), .val (.int (p1 &&& (3 : Int32))), .val (.ref b91), .val (.int (p0 &&& (3 : Int32))), .unset, .unset] [(.ref b118)]))
            refine Ends.step (fun _ k => XS.dup X120.here hx rfl (hb hby at_111) rfl rfl k) ?_
            show Ends p e below QQ (T120.setTop (mkF m 112 #[.val (.int p0), .val (.int p1), .val (.int p2), .val (.int p3), .val (.int p2.toInt8.toInt32), .val (.int p3.toInt8.toInt32), .val (.int (p1 &&& (3 : Int32))), .val (.ref b91), .val (.int (p0 &&& (3 : Int32))), .unset, .unset] [(.ref b118), (.ref b118)]))
            refine Ends.step (fun _ k => XT.iconstV X120.here hx rfl (1 : Int32) (hb hby at_112) rfl k) ?_
            show Ends p e below QQ (T120.setTop (mkF m 113 #[.val (.int p0), .val (.int p1), .val (.int p2), .val (.int p3), .val (.int p2.toInt8.toInt32), .val (.int p3.toInt8.toInt32), .val (.int (p1 &&& (3 : Int32))), .val (.ref b91), .val (.int (p0 &&& (3 : Int32))), .unset, .unset] [(.int (1 : Int32)), (.ref b118), (.ref b118)]))
            refine Ends.step (fun _ k => XS.iload X120.here hx rfl (hb hby at_113) rfl k) ?_
            show Ends p e below QQ (T120.setTop (mkF m 115 #[.val (.int p0), .val (.int p1), .val (.int p2), .val (.int p3), .val (.int p2.toInt8.toInt32), .val (.int p3.toInt8.toInt32), .val (.int (p1 &&& (3 : Int32))), .val (.ref b91), .val (.int (p0 &&& (3 : Int32))), .unset, .unset] [(.int p2.toInt8.toInt32), (.int (1 : Int32)), (.ref b118), (.ref b118)]))
            obtain ⟨cl121, Ar121, q121, S121, P121, H121, G121⟩ := id A_b118
            have hin121 : ¬ ((1 : Int32) < 0 ∨ cl121.slots.size ≤ ((1 : Int32)).toNatClampNeg) := inb_of S121 ⟨by decide, by decide⟩
            obtain ⟨T122, h122, X122, e122, W122, st122⟩ := stB X120 hx hZ e120 Ar121 (j := (1 : Int32)) hin121 (g := (mkF m 115 #[.val (.int p0), .val (.int p1), .val (.int p2), .val (.int p3), .val (.int p2.toInt8.toInt32), .val (.int p3.toInt8.toInt32), .val (.int (p1 &&& (3 : Int32))), .val (.ref b91), .val (.int (p0 &&& (3 : Int32))), .unset, .unset] [(.int p2.toInt8.toInt32), (.int (1 : Int32)), (.ref b118), (.ref b118)])) rfl rfl (hb hby at_115)
            rw [own_narb] at W122
            have A_b91 := A_b91.other W122 ne_b91_b118
            have A_b118 : Arv Z h122 b118 k118 .byte (2 : Int32) [(.int p3.toInt8.toInt32), (.int p2.toInt8.toInt32)] (.int (0 : Int32)) := Arv.set Ar121 q121 S121 P121 H121 G121 (fits_nar_byte _) W122 1 rfl (Nat.le_of_ble_eq_true rfl)
            have K122 := K120.wr W122 (Or.inr sz_b118)
            have N122 := Fr.snoc X122 N120 g_b118
            refine Ends.step st122 ?_
            show Ends p e below QQ (T122.setTop (mkF m 116 #[.val (.int p0), .val (.int p1), .val (.int p2), .val (.int p3), .val (.int p2.toInt8.toInt32), .val (.int p3.toInt8.toInt32), .val (.int (p1 &&& (3 : Int32))), .val (.ref b91), .val (.int (p0 &&& (3 : Int32))), .unset, .unset] [(.ref b118)]))
            refine Ends.step (fun _ k => XS.astore X122.here hx rfl (hb hby at_116) rfl rfl (l' := #[.val (.int p0), .val (.int p1), .val (.int p2), .val (.int p3), .val (.int p2.toInt8.toInt32), .val (.int p3.toInt8.toInt32), .val (.int (p1 &&& (3 : Int32))), .val (.ref b91), .val (.int (p0 &&& (3 : Int32))), .val (.ref b118), .unset]) rfl k) ?_
            show Ends p e below QQ (T122.setTop (mkF m 118 #[.val (.int p0), .val (.int p1), .val (.int p2), .val (.int p3), .val (.int p2.toInt8.toInt32), .val (.int p3.toInt8.toInt32), .val (.int (p1 &&& (3 : Int32))), .val (.ref b91), .val (.int (p0 &&& (3 : Int32))), .val (.ref b118), .unset] []))
            refine Ends.step (fun _ k => XS.aload X122.here hx rfl (hb hby at_118) rfl rfl k) ?_
            show Ends p e below QQ (T122.setTop (mkF m 120 #[.val (.int p0), .val (.int p1), .val (.int p2), .val (.int p3), .val (.int p2.toInt8.toInt32), .val (.int p3.toInt8.toInt32), .val (.int (p1 &&& (3 : Int32))), .val (.ref b91), .val (.int (p0 &&& (3 : Int32))), .val (.ref b118), .unset] [(.ref b118)]))
            refine Ends.step (fun _ k => XS.aload X122.here hx rfl (hb hby at_120) rfl rfl k) ?_
            show Ends p e below QQ (T122.setTop (mkF m 122 #[.val (.int p0), .val (.int p1), .val (.int p2), .val (.int p3), .val (.int p2.toInt8.toInt32), .val (.int p3.toInt8.toInt32), .val (.int (p1 &&& (3 : Int32))), .val (.ref b91), .val (.int (p0 &&& (3 : Int32))), .val (.ref b118), .unset] [(.ref b91), (.ref b118)]))
            obtain ⟨_, _, ⟨T123, L123, k123, n123⟩, -, X123, ⟨Lc123, hQ123, l123, y123, z123⟩, st123⟩ := Jvm.LawKit.callS X122 hx (y := (⟨"com/example/wunce/wunce/StoredCall", "finished", "([B[B)Lcom/example/wunce/wunce/StoredCall;"⟩ : MethodName)) hown (mvT hZ (hw _ (List.mem_of_getElem? (i := 1) rfl))) (mvT hZ (hw _ (List.mem_of_getElem? (i := 2) rfl))) (mvT hZ (hw _ (List.mem_of_getElem? (i := 3) rfl))) (mvT hZ (hw _ (List.mem_of_getElem? (i := 4) rfl))) (by decide) (backOf (W := 0) (rm1 l Z a0 hw [] ((.ref b118) : Value) b91 h122 n0 (Nat.le_trans Z0 K122.1) rfl) hZ (hw _ (List.mem_of_getElem? (i := 4) rfl)) (hw _ (List.mem_of_getElem? (i := 3) rfl)) (by decide) (by decide)) (g := (mkF m 122 #[.val (.int p0), .val (.int p1), .val (.int p2), .val (.int p3), .val (.int p2.toInt8.toInt32), .val (.int p3.toInt8.toInt32), .val (.int (p1 &&& (3 : Int32))), .val (.ref b91), .val (.int (p0 &&& (3 : Int32))), .val (.ref b118), .unset] [(.ref b91), (.ref b118)])) rfl (by rw [hml]; rfl) (argsL := [(.ref b118), (.ref b91)]) (rest := []) (lenOf pd_1 rfl) rfl (by show 2 * 0 + _ ≤ _; exact Nat.le_of_eq rfl) (hb hby at_122) (fun _ _ => ⟨rfl, e122, (by decide : 2 + 1 ≤ _), (by decide : 4 + 2 ≤ _)⟩)
            dsimp only [Pt.U, Pt.locs, Pt.cells, Pt.slots] at X123 l123 y123 z123 st123 hQ123
            subst l123 y123 z123
            obtain ⟨b_123, rfl, Nq123, Kq123, fq123_0, fq123_1, fq123_2, fq123_3, fq123_4⟩ := hQ123
            have N123 := Fr.app N122 Nq123
            have ne_b91_b_123 : b91 ≠ b_123 := Nat.ne_of_lt (Nat.lt_of_lt_of_le A_b91.lt fq123_0)
            have ne_b118_b_123 : b118 ≠ b_123 := Nat.ne_of_lt (Nat.lt_of_lt_of_le A_b118.lt fq123_0)
            have sz_b_123 := Nat.le_trans K122.1 fq123_0
            have A_b91 := A_b91.keep Kq123 nin0
            have A_b118 := A_b118.keep Kq123 nin0
            have g_b_123 := fq123_1
            have E_b_123 := fq123_2
            have F__fingerprint_b_123 := fq123_3
            have F__answer_b_123 := fq123_4
            have K123 := K122.trans Kq123 all0
            refine Ends.step st123 ?_
            show Ends p e below QQ (T123.setTop (mkF m 125 #[.val (.int p0), .val (.int p1), .val (.int p2), .val (.int p3), .val (.int p2.toInt8.toInt32), .val (.int p3.toInt8.toInt32), .val (.int (p1 &&& (3 : Int32))), .val (.ref b91), .val (.int (p0 &&& (3 : Int32))), .val (.ref b118), .unset] [(.ref b_123)]))
            refine Ends.step (fun _ k => XS.astore X123.here hx rfl (hb hby at_125) rfl rfl (l' := #[.val (.int p0), .val (.int p1), .val (.int p2), .val (.int p3), .val (.int p2.toInt8.toInt32), .val (.int p3.toInt8.toInt32), .val (.int (p1 &&& (3 : Int32))), .val (.ref b91), .val (.int (p0 &&& (3 : Int32))), .val (.ref b118), .val (.ref b_123)]) rfl k) ?_
            show Ends p e below QQ (T123.setTop (mkF m 127 #[.val (.int p0), .val (.int p1), .val (.int p2), .val (.int p3), .val (.int p2.toInt8.toInt32), .val (.int p3.toInt8.toInt32), .val (.int (p1 &&& (3 : Int32))), .val (.ref b91), .val (.int (p0 &&& (3 : Int32))), .val (.ref b118), .val (.ref b_123)] []))
            refine Ends.step (fun _ k => XS.aload X123.here hx rfl (hb hby at_127) rfl rfl k) ?_
            show Ends p e below QQ (T123.setTop (mkF m 129 #[.val (.int p0), .val (.int p1), .val (.int p2), .val (.int p3), .val (.int p2.toInt8.toInt32), .val (.int p3.toInt8.toInt32), .val (.int (p1 &&& (3 : Int32))), .val (.ref b91), .val (.int (p0 &&& (3 : Int32))), .val (.ref b118), .val (.ref b_123)] [(.ref b_123)]))
            refine Ends.step (fun _ k => XT.ifnonnullYes X123.here hx rfl (pc0 := 129) (pc' := 134) rfl (hb hby at_129) rfl (by decide) (by decide) k) ?_
            show Ends p e below QQ (T123.setTop (mkF m 134 #[.val (.int p0), .val (.int p1), .val (.int p2), .val (.int p3), .val (.int p2.toInt8.toInt32), .val (.int p3.toInt8.toInt32), .val (.int (p1 &&& (3 : Int32))), .val (.ref b91), .val (.int (p0 &&& (3 : Int32))), .val (.ref b118), .val (.ref b_123)] []))
            refine Ends.step (fun _ k => XS.aload X123.here hx rfl (hb hby at_134) rfl rfl k) ?_
            show Ends p e below QQ (T123.setTop (mkF m 136 #[.val (.int p0), .val (.int p1), .val (.int p2), .val (.int p3), .val (.int p2.toInt8.toInt32), .val (.int p3.toInt8.toInt32), .val (.int (p1 &&& (3 : Int32))), .val (.ref b91), .val (.int (p0 &&& (3 : Int32))), .val (.ref b118), .val (.ref b_123)] [(.ref b_123)]))
            obtain ⟨cq124, kq124, q124a, q124b, q124c⟩ := isOf hZ rfl E_b_123
            obtain ⟨_, _, ⟨T124, L124, k124, n124⟩, -, X124, ⟨Lc124, hQ124, l124, y124, z124⟩, st124⟩ := X123.virtualBack hx (y := (⟨"com/example/wunce/wunce/StoredCall", "fingerprint", "()[B"⟩ : MethodName)) (z := (⟨"com/example/wunce/wunce/StoredCall", "fingerprint", "()[B"⟩ : MethodName)) hown (mvT hZ (hw _ (List.mem_of_getElem? (i := 17) rfl))) (mvT hZ (hw _ (List.mem_of_getElem? (i := 18) rfl))) (notFace_of_selects (args := #[]) (mvT hZ (hw _ (List.mem_of_getElem? (i := 20) rfl)))) (mvT hZ (hw _ (List.mem_of_getElem? (i := 20) rfl))) (mvT hZ (hw _ (List.mem_of_getElem? (i := 19) rfl))) (by decide) (backOf (W := 0) (rm4 l Z a0 hw [] b_123 ((.ref b118) : Value) T123.heap n0 (Nat.le_trans Z0 K123.1) F__fingerprint_b_123 rfl) hZ (hw _ (List.mem_of_getElem? (i := 21) rfl)) (hw _ (List.mem_of_getElem? (i := 3) rfl)) (by decide) (by decide)) q124a q124c (g := (mkF m 136 #[.val (.int p0), .val (.int p1), .val (.int p2), .val (.int p3), .val (.int p2.toInt8.toInt32), .val (.int p3.toInt8.toInt32), .val (.int (p1 &&& (3 : Int32))), .val (.ref b91), .val (.int (p0 &&& (3 : Int32))), .val (.ref b118), .val (.ref b_123)] [(.ref b_123)])) rfl (by rw [hml]; rfl) (Steps.refl _) (argsL := []) (rest := []) (lenOf pd_2 rfl) rfl (by show 2 * 0 + _ ≤ _; exact Nat.le_of_eq rfl) (hb hby at_136) (fun _ _ => ⟨rfl, rfl, (by decide : 3 + 0 ≤ _), (by decide : 6 + 0 ≤ _)⟩)
            dsimp only [Pt.U, Pt.locs, Pt.cells, Pt.slots] at X124 l124 y124 z124 st124 hQ124
            subst l124 y124 z124
            obtain ⟨rfl, Nq124, hh124⟩ := hQ124
            have N124 := Fr.app N123 Nq124
            refine Ends.step (fun _ k => st124.trans k) ?_
            show Ends p e below QQ (T124.setTop (mkF m 139 #[.val (.int p0), .val (.int p1), .val (.int p2), .val (.int p3), .val (.int p2.toInt8.toInt32), .val (.int p3.toInt8.toInt32), .val (.int (p1 &&& (3 : Int32))), .val (.ref b91), .val (.int (p0 &&& (3 : Int32))), .val (.ref b118), .val (.ref b_123)] [(.ref b118)]))
            refine Ends.step (fun _ k => XS.aload X124.here hx rfl (hb hby at_139) rfl rfl k) ?_
            show Ends p e below QQ (T124.setTop (mkF m 141 #[.val (.int p0), .val (.int p1), .val (.int p2), .val (.int p3), .val (.int p2.toInt8.toInt32), .val (.int p3.toInt8.toInt32), .val (.int (p1 &&& (3 : Int32))), .val (.ref b91), .val (.int (p0 &&& (3 : Int32))), .val (.ref b118), .val (.ref b_123)] [(.ref b118), (.ref b118)]))
            refine Ends.step (fun _ k => Jvm.RoadKit.acmp (g := (mkF m 141 #[.val (.int p0), .val (.int p1), .val (.int p2), .val (.int p3), .val (.int p2.toInt8.toInt32), .val (.int p3.toInt8.toInt32), .val (.int (p1 &&& (3 : Int32))), .val (.ref b91), .val (.int (p0 &&& (3 : Int32))), .val (.ref b118), .val (.ref b_123)] [(.ref b118), (.ref b118)])) X124 hx rfl rfl rfl (pc0 := 141) (pc' := 146) (same := true) rfl (hb hby at_141) rfl (decide_eq_true rfl) (by decide) (by decide) k) ?_
            show Ends p e below QQ (T124.setTop (mkF m 146 #[.val (.int p0), .val (.int p1), .val (.int p2), .val (.int p3), .val (.int p2.toInt8.toInt32), .val (.int p3.toInt8.toInt32), .val (.int (p1 &&& (3 : Int32))), .val (.ref b91), .val (.int (p0 &&& (3 : Int32))), .val (.ref b118), .val (.ref b_123)] []))
            refine Ends.step (fun _ k => XS.aload X124.here hx rfl (hb hby at_146) rfl rfl k) ?_
            show Ends p e below QQ (T124.setTop (mkF m 148 #[.val (.int p0), .val (.int p1), .val (.int p2), .val (.int p3), .val (.int p2.toInt8.toInt32), .val (.int p3.toInt8.toInt32), .val (.int (p1 &&& (3 : Int32))), .val (.ref b91), .val (.int (p0 &&& (3 : Int32))), .val (.ref b118), .val (.ref b_123)] [(.ref b_123)]))
            obtain ⟨cq125, kq125, q125a, q125b, q125c⟩ := isOf hZ hh124 E_b_123
            obtain ⟨_, _, ⟨T125, L125, k125, n125⟩, -, X125, ⟨Lc125, hQ125, l125, y125, z125⟩, st125⟩ := X124.virtualBack hx (y := (⟨"com/example/wunce/wunce/StoredCall", "answer", "()[B"⟩ : MethodName)) (z := (⟨"com/example/wunce/wunce/StoredCall", "answer", "()[B"⟩ : MethodName)) hown (mvT hZ (hw _ (List.mem_of_getElem? (i := 22) rfl))) (mvT hZ (hw _ (List.mem_of_getElem? (i := 23) rfl))) (notFace_of_selects (args := #[]) (mvT hZ (hw _ (List.mem_of_getElem? (i := 25) rfl)))) (mvT hZ (hw _ (List.mem_of_getElem? (i := 25) rfl))) (mvT hZ (hw _ (List.mem_of_getElem? (i := 24) rfl))) (by decide) (backOf (W := 0) (rm5 l Z a0 hw [] b_123 ((.ref b91) : Value) T123.heap n0 (Nat.le_trans Z0 K123.1) F__answer_b_123 rfl) hZ (hw _ (List.mem_of_getElem? (i := 26) rfl)) (hw _ (List.mem_of_getElem? (i := 3) rfl)) (by decide) (by decide)) q125a q125c (g := (mkF m 148 #[.val (.int p0), .val (.int p1), .val (.int p2), .val (.int p3), .val (.int p2.toInt8.toInt32), .val (.int p3.toInt8.toInt32), .val (.int (p1 &&& (3 : Int32))), .val (.ref b91), .val (.int (p0 &&& (3 : Int32))), .val (.ref b118), .val (.ref b_123)] [(.ref b_123)])) rfl (by rw [hml]; rfl) (Steps.refl _) (argsL := []) (rest := []) (lenOf pd_2 rfl) rfl (by show 2 * 0 + _ ≤ _; exact Nat.le_of_eq rfl) (hb hby at_148) (fun _ _ => ⟨rfl, hh124, (by decide : 3 + 0 ≤ _), (by decide : 6 + 0 ≤ _)⟩)
            dsimp only [Pt.U, Pt.locs, Pt.cells, Pt.slots] at X125 l125 y125 z125 st125 hQ125
            subst l125 y125 z125
            obtain ⟨rfl, Nq125, hh125⟩ := hQ125
            have N125 := Fr.app N124 Nq125
            refine Ends.step (fun _ k => st125.trans k) ?_
            show Ends p e below QQ (T125.setTop (mkF m 151 #[.val (.int p0), .val (.int p1), .val (.int p2), .val (.int p3), .val (.int p2.toInt8.toInt32), .val (.int p3.toInt8.toInt32), .val (.int (p1 &&& (3 : Int32))), .val (.ref b91), .val (.int (p0 &&& (3 : Int32))), .val (.ref b118), .val (.ref b_123)] [(.ref b91)]))
            refine Ends.step (fun _ k => XS.aload X125.here hx rfl (hb hby at_151) rfl rfl k) ?_
            show Ends p e below QQ (T125.setTop (mkF m 153 #[.val (.int p0), .val (.int p1), .val (.int p2), .val (.int p3), .val (.int p2.toInt8.toInt32), .val (.int p3.toInt8.toInt32), .val (.int (p1 &&& (3 : Int32))), .val (.ref b91), .val (.int (p0 &&& (3 : Int32))), .val (.ref b118), .val (.ref b_123)] [(.ref b91), (.ref b91)]))
            refine Ends.step (fun _ k => Jvm.RoadKit.acmp (g := (mkF m 153 #[.val (.int p0), .val (.int p1), .val (.int p2), .val (.int p3), .val (.int p2.toInt8.toInt32), .val (.int p3.toInt8.toInt32), .val (.int (p1 &&& (3 : Int32))), .val (.ref b91), .val (.int (p0 &&& (3 : Int32))), .val (.ref b118), .val (.ref b_123)] [(.ref b91), (.ref b91)])) X125 hx rfl rfl rfl (pc0 := 153) (pc' := 158) (same := true) rfl (hb hby at_153) rfl (decide_eq_true rfl) (by decide) (by decide) k) ?_
            show Ends p e below QQ (T125.setTop (mkF m 158 #[.val (.int p0), .val (.int p1), .val (.int p2), .val (.int p3), .val (.int p2.toInt8.toInt32), .val (.int p3.toInt8.toInt32), .val (.int (p1 &&& (3 : Int32))), .val (.ref b91), .val (.int (p0 &&& (3 : Int32))), .val (.ref b118), .val (.ref b_123)] []))
            refine Ends.step (fun _ k => XS.aload X125.here hx rfl (hb hby at_158) rfl rfl k) ?_
            show Ends p e below QQ (T125.setTop (mkF m 160 #[.val (.int p0), .val (.int p1), .val (.int p2), .val (.int p3), .val (.int p2.toInt8.toInt32), .val (.int p3.toInt8.toInt32), .val (.int (p1 &&& (3 : Int32))), .val (.ref b91), .val (.int (p0 &&& (3 : Int32))), .val (.ref b118), .val (.ref b_123)] [(.ref b_123)]))
            obtain ⟨cq126, kq126, q126a, q126b, q126c⟩ := isOf hZ hh125 E_b_123
            obtain ⟨_, _, ⟨T126, L126, k126, n126⟩, -, X126, ⟨Lc126, hQ126, l126, y126, z126⟩, st126⟩ := X125.virtualBack hx (y := (⟨"com/example/wunce/wunce/StoredCall", "isFinished", "()Z"⟩ : MethodName)) (z := (⟨"com/example/wunce/wunce/StoredCall", "isFinished", "()Z"⟩ : MethodName)) hown (mvT hZ (hw _ (List.mem_of_getElem? (i := 27) rfl))) (mvT hZ (hw _ (List.mem_of_getElem? (i := 28) rfl))) (notFace_of_selects (args := #[]) (mvT hZ (hw _ (List.mem_of_getElem? (i := 30) rfl)))) (mvT hZ (hw _ (List.mem_of_getElem? (i := 30) rfl))) (mvT hZ (hw _ (List.mem_of_getElem? (i := 29) rfl))) (by decide) (backOf (W := 0) (rm6 l Z a0 hw [] b_123 b91 T123.heap n0 (Nat.le_trans Z0 K123.1) F__answer_b_123) hZ (hw _ (List.mem_of_getElem? (i := 31) rfl)) (hw _ (List.mem_of_getElem? (i := 3) rfl)) (by decide) (by decide)) q126a q126c (g := (mkF m 160 #[.val (.int p0), .val (.int p1), .val (.int p2), .val (.int p3), .val (.int p2.toInt8.toInt32), .val (.int p3.toInt8.toInt32), .val (.int (p1 &&& (3 : Int32))), .val (.ref b91), .val (.int (p0 &&& (3 : Int32))), .val (.ref b118), .val (.ref b_123)] [(.ref b_123)])) rfl (by rw [hml]; rfl) (Steps.refl _) (argsL := []) (rest := []) (lenOf pd_3 rfl) rfl (by show 2 * 0 + _ ≤ _; exact Nat.le_of_eq rfl) (hb hby at_160) (fun _ _ => ⟨rfl, hh125, (by decide : 3 + 0 ≤ _), (by decide : 6 + 0 ≤ _)⟩)
            dsimp only [Pt.U, Pt.locs, Pt.cells, Pt.slots] at X126 l126 y126 z126 st126 hQ126
            subst l126 y126 z126
            obtain ⟨rfl, Nq126, hh126⟩ := hQ126
            have N126 := Fr.app N125 Nq126
            refine Ends.step (fun _ k => st126.trans k) ?_
            show Ends p e below QQ (T126.setTop (mkF m 163 #[.val (.int p0), .val (.int p1), .val (.int p2), .val (.int p3), .val (.int p2.toInt8.toInt32), .val (.int p3.toInt8.toInt32), .val (.int (p1 &&& (3 : Int32))), .val (.ref b91), .val (.int (p0 &&& (3 : Int32))), .val (.ref b118), .val (.ref b_123)] [(.int (1 : Int32))]))
            refine Ends.step (fun _ k => XS.ifYes X126.here hx rfl (pc0 := 163) (pc' := 168) rfl (hb hby at_163) rfl (XT.i0_ne_t (by decide)) (by decide) (by decide) k) ?_
            show Ends p e below QQ (T126.setTop (mkF m 168 #[.val (.int p0), .val (.int p1), .val (.int p2), .val (.int p3), .val (.int p2.toInt8.toInt32), .val (.int p3.toInt8.toInt32), .val (.int (p1 &&& (3 : Int32))), .val (.ref b91), .val (.int (p0 &&& (3 : Int32))), .val (.ref b118), .val (.ref b_123)] []))
            refine Ends.step (fun _ k => XS.aload X126.here hx rfl (hb hby at_168) rfl rfl k) ?_
            show Ends p e below QQ (T126.setTop (mkF m 170 #[.val (.int p0), .val (.int p1), .val (.int p2), .val (.int p3), .val (.int p2.toInt8.toInt32), .val (.int p3.toInt8.toInt32), .val (.int (p1 &&& (3 : Int32))), .val (.ref b91), .val (.int (p0 &&& (3 : Int32))), .val (.ref b118), .val (.ref b_123)] [(.ref b91)]))
            refine Ends.step (fun _ k => XS.iload X126.here hx rfl (hb hby at_170) rfl k) ?_
            show Ends p e below QQ (T126.setTop (mkF m 172 #[.val (.int p0), .val (.int p1), .val (.int p2), .val (.int p3), .val (.int p2.toInt8.toInt32), .val (.int p3.toInt8.toInt32), .val (.int (p1 &&& (3 : Int32))), .val (.ref b91), .val (.int (p0 &&& (3 : Int32))), .val (.ref b118), .val (.ref b_123)] [(.int (p1 &&& (3 : Int32))), (.ref b91)]))
            refine Ends.step (fun _ k => XS.iload X126.here hx rfl (hb hby at_172) rfl k) ?_
            show Ends p e below QQ (T126.setTop (mkF m 174 #[.val (.int p0), .val (.int p1), .val (.int p2), .val (.int p3), .val (.int p2.toInt8.toInt32), .val (.int p3.toInt8.toInt32), .val (.int (p1 &&& (3 : Int32))), .val (.ref b91), .val (.int (p0 &&& (3 : Int32))), .val (.ref b118), .val (.ref b_123)] [(.int p2.toInt8.toInt32), (.int (p1 &&& (3 : Int32))), (.ref b91)]))
            refine Ends.step (fun _ k => XS.iload X126.here hx rfl (hb hby at_174) rfl k) ?_
            show Ends p e below QQ (T126.setTop (mkF m 176 #[.val (.int p0), .val (.int p1), .val (.int p2), .val (.int p3), .val (.int p2.toInt8.toInt32), .val (.int p3.toInt8.toInt32), .val (.int (p1 &&& (3 : Int32))), .val (.ref b91), .val (.int (p0 &&& (3 : Int32))), .val (.ref b118), .val (.ref b_123)] [(.int p3.toInt8.toInt32), (.int p2.toInt8.toInt32), (.int (p1 &&& (3 : Int32))), (.ref b91)]))
            obtain ⟨_, _, ⟨T127, L127, k127, n127⟩, -, X127, ⟨Lc127, hQ127, l127, y127, z127⟩, st127⟩ := Jvm.LawKit.callS X126 hx (y := (⟨"com/example/wunce/wunce/StoredCallFinishedPinLaw", "answerIntact", "([BIBB)Z"⟩ : MethodName)) hown (mvT hZ (hw _ (List.mem_of_getElem? (i := 32) rfl))) (mvT hZ (hw _ (List.mem_of_getElem? (i := 33) rfl))) (mvT hZ (hw _ (List.mem_of_getElem? (i := 34) rfl))) (mvT hZ (hw _ (List.mem_of_getElem? (i := 35) rfl))) (by decide) (backOf (W := 0) (rm7c l Z a0 hw [] b91 (p1 &&& (3 : Int32)) (p2.toInt8.toInt32) (p3.toInt8.toInt32) k91 T123.heap n0 (Nat.le_trans Z0 K123.1) A_b91 (by first | assumption | rfl | decide) (by first | assumption | rfl | decide)) hZ (hw _ (List.mem_of_getElem? (i := 35) rfl)) (hw _ (List.mem_of_getElem? (i := 34) rfl)) (by decide) (by decide)) (g := (mkF m 176 #[.val (.int p0), .val (.int p1), .val (.int p2), .val (.int p3), .val (.int p2.toInt8.toInt32), .val (.int p3.toInt8.toInt32), .val (.int (p1 &&& (3 : Int32))), .val (.ref b91), .val (.int (p0 &&& (3 : Int32))), .val (.ref b118), .val (.ref b_123)] [(.int p3.toInt8.toInt32), (.int p2.toInt8.toInt32), (.int (p1 &&& (3 : Int32))), (.ref b91)])) rfl (by rw [hml]; rfl) (argsL := [(.ref b91), (.int (p1 &&& (3 : Int32))), (.int p2.toInt8.toInt32), (.int p3.toInt8.toInt32)]) (rest := []) (lenOf pd_4 rfl) rfl (by show 2 * 0 + _ ≤ _; exact Nat.le_of_eq rfl) (hb hby at_176) (fun _ _ => ⟨rfl, hh126, (by decide : 3 + 0 ≤ _), (by decide : 6 + 0 ≤ _)⟩)
            dsimp only [Pt.U, Pt.locs, Pt.cells, Pt.slots] at X127 l127 y127 z127 st127 hQ127
            subst l127 y127 z127
            obtain ⟨rfl, Nq127, hh127⟩ := hQ127
            have N127 := Fr.app N126 Nq127
            refine Ends.step st127 ?_
            show Ends p e below QQ (T127.setTop (mkF m 179 #[.val (.int p0), .val (.int p1), .val (.int p2), .val (.int p3), .val (.int p2.toInt8.toInt32), .val (.int p3.toInt8.toInt32), .val (.int (p1 &&& (3 : Int32))), .val (.ref b91), .val (.int (p0 &&& (3 : Int32))), .val (.ref b118), .val (.ref b_123)] [(.int (1 : Int32))]))
            refine Ends.step (fun _ k => XS.ifNo X127.here hx rfl (hb hby at_179) rfl (XT.i0_eq_f (by decide)) k) ?_
            show Ends p e below QQ (T127.setTop (mkF m 182 #[.val (.int p0), .val (.int p1), .val (.int p2), .val (.int p3), .val (.int p2.toInt8.toInt32), .val (.int p3.toInt8.toInt32), .val (.int (p1 &&& (3 : Int32))), .val (.ref b91), .val (.int (p0 &&& (3 : Int32))), .val (.ref b118), .val (.ref b_123)] []))
            refine Ends.step (fun _ k => XS.aload X127.here hx rfl (hb hby at_182) rfl rfl k) ?_
            show Ends p e below QQ (T127.setTop (mkF m 184 #[.val (.int p0), .val (.int p1), .val (.int p2), .val (.int p3), .val (.int p2.toInt8.toInt32), .val (.int p3.toInt8.toInt32), .val (.int (p1 &&& (3 : Int32))), .val (.ref b91), .val (.int (p0 &&& (3 : Int32))), .val (.ref b118), .val (.ref b_123)] [(.ref b118)]))
            refine Ends.step (fun _ k => XS.iload X127.here hx rfl (hb hby at_184) rfl k) ?_
            show Ends p e below QQ (T127.setTop (mkF m 186 #[.val (.int p0), .val (.int p1), .val (.int p2), .val (.int p3), .val (.int p2.toInt8.toInt32), .val (.int p3.toInt8.toInt32), .val (.int (p1 &&& (3 : Int32))), .val (.ref b91), .val (.int (p0 &&& (3 : Int32))), .val (.ref b118), .val (.ref b_123)] [(.int (p0 &&& (3 : Int32))), (.ref b118)]))
            refine Ends.step (fun _ k => XS.iload X127.here hx rfl (hb hby at_186) rfl k) ?_
            show Ends p e below QQ (T127.setTop (mkF m 188 #[.val (.int p0), .val (.int p1), .val (.int p2), .val (.int p3), .val (.int p2.toInt8.toInt32), .val (.int p3.toInt8.toInt32), .val (.int (p1 &&& (3 : Int32))), .val (.ref b91), .val (.int (p0 &&& (3 : Int32))), .val (.ref b118), .val (.ref b_123)] [(.int p2.toInt8.toInt32), (.int (p0 &&& (3 : Int32))), (.ref b118)]))
            refine Ends.step (fun _ k => XS.iload X127.here hx rfl (hb hby at_188) rfl k) ?_
            show Ends p e below QQ (T127.setTop (mkF m 190 #[.val (.int p0), .val (.int p1), .val (.int p2), .val (.int p3), .val (.int p2.toInt8.toInt32), .val (.int p3.toInt8.toInt32), .val (.int (p1 &&& (3 : Int32))), .val (.ref b91), .val (.int (p0 &&& (3 : Int32))), .val (.ref b118), .val (.ref b_123)] [(.int p3.toInt8.toInt32), (.int p2.toInt8.toInt32), (.int (p0 &&& (3 : Int32))), (.ref b118)]))
            obtain ⟨_, _, ⟨T128, L128, k128, n128⟩, -, X128, ⟨Lc128, hQ128, l128, y128, z128⟩, st128⟩ := Jvm.LawKit.callS X127 hx (y := (⟨"com/example/wunce/wunce/StoredCallFinishedPinLaw", "fingerprintIntact", "([BIBB)Z"⟩ : MethodName)) hown (mvT hZ (hw _ (List.mem_of_getElem? (i := 36) rfl))) (mvT hZ (hw _ (List.mem_of_getElem? (i := 37) rfl))) (mvT hZ (hw _ (List.mem_of_getElem? (i := 34) rfl))) (mvT hZ (hw _ (List.mem_of_getElem? (i := 38) rfl))) (by decide) (backOf (W := 0) (rm8d l Z a0 hw [] b118 (p0 &&& (3 : Int32)) (p2.toInt8.toInt32) (p3.toInt8.toInt32) k118 T123.heap n0 (Nat.le_trans Z0 K123.1) A_b118 (by first | assumption | rfl | decide) (by first | assumption | rfl | decide) (by first | assumption | rfl | decide)) hZ (hw _ (List.mem_of_getElem? (i := 38) rfl)) (hw _ (List.mem_of_getElem? (i := 34) rfl)) (by decide) (by decide)) (g := (mkF m 190 #[.val (.int p0), .val (.int p1), .val (.int p2), .val (.int p3), .val (.int p2.toInt8.toInt32), .val (.int p3.toInt8.toInt32), .val (.int (p1 &&& (3 : Int32))), .val (.ref b91), .val (.int (p0 &&& (3 : Int32))), .val (.ref b118), .val (.ref b_123)] [(.int p3.toInt8.toInt32), (.int p2.toInt8.toInt32), (.int (p0 &&& (3 : Int32))), (.ref b118)])) rfl (by rw [hml]; rfl) (argsL := [(.ref b118), (.int (p0 &&& (3 : Int32))), (.int p2.toInt8.toInt32), (.int p3.toInt8.toInt32)]) (rest := []) (lenOf pd_4 rfl) rfl (by show 2 * 0 + _ ≤ _; exact Nat.le_of_eq rfl) (hb hby at_190) (fun _ _ => ⟨rfl, hh127, (by decide : 3 + 0 ≤ _), (by decide : 6 + 0 ≤ _)⟩)
            dsimp only [Pt.U, Pt.locs, Pt.cells, Pt.slots] at X128 l128 y128 z128 st128 hQ128
            subst l128 y128 z128
            obtain ⟨rfl, Nq128, hh128⟩ := hQ128
            have N128 := Fr.app N127 Nq128
            refine Ends.step st128 ?_
            show Ends p e below QQ (T128.setTop (mkF m 193 #[.val (.int p0), .val (.int p1), .val (.int p2), .val (.int p3), .val (.int p2.toInt8.toInt32), .val (.int p3.toInt8.toInt32), .val (.int (p1 &&& (3 : Int32))), .val (.ref b91), .val (.int (p0 &&& (3 : Int32))), .val (.ref b118), .val (.ref b_123)] [(.int (1 : Int32))]))
            refine Ends.step (fun _ k => XS.ifNo X128.here hx rfl (hb hby at_193) rfl (XT.i0_eq_f (by decide)) k) ?_
            show Ends p e below QQ (T128.setTop (mkF m 196 #[.val (.int p0), .val (.int p1), .val (.int p2), .val (.int p3), .val (.int p2.toInt8.toInt32), .val (.int p3.toInt8.toInt32), .val (.int (p1 &&& (3 : Int32))), .val (.ref b91), .val (.int (p0 &&& (3 : Int32))), .val (.ref b118), .val (.ref b_123)] []))
            refine Ends.step (fun _ k => XT.iconstV X128.here hx rfl (1 : Int32) (hb hby at_196) rfl k) ?_
            show Ends p e below QQ (T128.setTop (mkF m 197 #[.val (.int p0), .val (.int p1), .val (.int p2), .val (.int p3), .val (.int p2.toInt8.toInt32), .val (.int p3.toInt8.toInt32), .val (.int (p1 &&& (3 : Int32))), .val (.ref b91), .val (.int (p0 &&& (3 : Int32))), .val (.ref b118), .val (.ref b_123)] [(.int (1 : Int32))]))
            refine Ends.step (fun _ k => XS.goto X128.here hx rfl (pc0 := 197) (pc' := 201) rfl (hb hby at_197) (by decide) (by decide) k) ?_
            show Ends p e below QQ (T128.setTop (mkF m 201 #[.val (.int p0), .val (.int p1), .val (.int p2), .val (.int p3), .val (.int p2.toInt8.toInt32), .val (.int p3.toInt8.toInt32), .val (.int (p1 &&& (3 : Int32))), .val (.ref b91), .val (.int (p0 &&& (3 : Int32))), .val (.ref b118), .val (.ref b_123)] [(.int (1 : Int32))]))
            exact Ends.fin (some (.int (1 : Int32))) X128 hQQ (fun h => by rw [Bd.returns] at h; cases h) Bd.notSynchronized (fun _ hr => retOut X128 hx (t := .boolean) Bd.returns rfl (Or.inl ⟨rfl, (by simp), _, rfl⟩) (hb hby at_201) hr) hh128 (by decide) (by decide) ⟨(by simp only [f0, if_neg hc15_19, if_neg hc29_54, if_neg hc67_96, if_neg hc79_103, if_neg hc92_110]), N128, K123⟩
theorem own_law (a b c d : Int32) : f0 a b c d = 1 := rfl
set_option maxRecDepth 65536 in
set_option maxHeartbeats 40000000 in
theorem comes_1 {Post : Tables → Env → Array Value → State → Outcome → State → Prop} (hpost : ∀ tb e args s v u, (limb_1_1.after args s (.returned v) u = true ∧ limb_1_2.after args s (.returned v) u = true ∧ True) → FrameEnd s (.returned v) u (Jvm.fieldLocs frame_1_writes args s ++ Jvm.arrayLocs frame_1_arrays args s ++ Jvm.staticLocs frame_1_statics s) 16 128 → Post tb e args s (.returned v) u) :
    ArmFor flags0 classFile x code maxLocals ret World_1 tables_1 room_1 Calls_1 rest_1 Pre_1 Post := by
  intro l hfl _ _ p e ha hc hk s m args below hf hA hF happ hP
  obtain ⟨hcalls, hrest, hpre⟩ := hP
  obtain ⟨-, -, -, hnamed, -, -, -, hat⟩ := (Spec.applies_iff hf).mp happ
  obtain ⟨hg, hn⟩ := and_e (Cond.before_iff.mp (show (Jvm.Cond.and given_1 narrow_1).before args s = true from hpre))
  obtain ⟨gl1, gr1⟩ := and_e hg
  obtain ⟨gl2, gr2⟩ := and_e gr1
  obtain ⟨gl3, gr3⟩ := and_e gr2
  obtain ⟨gl4, gr4⟩ := and_e gr3
  obtain ⟨w0, w1, w2, w3, rfl⟩ : ∃ w0 w1 w2 w3 : Value, args = #[w0, w1, w2, w3] := by
    have hs : args.size = 4 := by simpa [Cond.value, given_1] using gl1
    obtain ⟨L⟩ := args
    match L, hs with
    | [w0, w1, w2, w3], _ => exact ⟨w0, w1, w2, w3, rfl⟩
  have hw := fun d (hd : d ∈ tables_1) => atoms_spec (ws := Jvm.Cond.code x code maxLocals ret :: tables_1) hat d (List.mem_cons_of_mem _ hd)
  have hfit : Fit s := fun {y c} hc i hi => by
    obtain ⟨ha, rfl⟩ := Array.getElem?_eq_some_iff.mp hc
    have q := List.all_eq_true.mp ((Array.all_eq_true_iff_forall_mem.mp hF) _ (Array.getElem_mem ha)) i (List.mem_range.mpr hi)
    simpa [Array.getElem?_eq_getElem hi] using q
  obtain ⟨i0, ei0⟩ := is_v gl2
  obtain rfl : w0 = (.int i0) := Option.some.inj ei0
  obtain ⟨i1, ei1⟩ := is_v gl3
  obtain rfl : w1 = (.int i1) := Option.some.inj ei1
  obtain ⟨i2, ei2⟩ := is_v gl4
  obtain rfl : w2 = (.int i2) := Option.some.inj ei2
  obtain ⟨i3, ei3⟩ := is_v gr4
  obtain rfl : w3 = (.int i3) := Option.some.inj ei3
  obtain ⟨n, o, h1, h2, h3, _, L, rfl, hQ, hq⟩ := rm0 l s _ hw tables_1 i0 i1 i2 i3 s.heap s.heap.size (Nat.le_refl _)  p e ha hc hk s m _ below hf ((Spec.applies_iff_loose hf).mp happ).1 ⟨rfl, State.Warmed39.refl s, rfl⟩ trivial
  obtain ⟨hv, N, -⟩ := hQ
  have hlaw : (f0 i0 i1 i2 i3) = 1 := own_law i0 i1 i2 i3
  rw [hlaw] at hv
  subst hv
  refine ⟨n, _, h1, h2, h3, hpost _ _ _ _ _ _ ⟨Cond.after_iff.mpr rfl, Cond.after_iff.mpr (eq_i res_at (Term.int_eval (1)) rfl), trivial⟩ ⟨hq.1, hq.2.1, (hq.2.2.sift fun y hy => Or.inr (N y hy)).mono (by decide) (by decide)⟩⟩
theorem main_1_1 : Claimed_1_1 := comes_1 fun _ _ _ _ _ _ h hF => ⟨h.1, hF⟩
theorem main_1_2 : Claimed_1_2 := comes_1 fun _ _ _ _ _ _ h hF => ⟨h.2.1, hF⟩
end Jvm.Pilot.@@N@@
namespace Jvm.Pilot.@@N@@
open Jvm Jvm.ClassFile Sem Op Lib Jvm.Free Jvm.Stand Jvm.Pilot.@@N@@.Jvm.D
/-! MADE BY PROGRAM (witnessworld.py) out of the Statement's table words and the real class files: 9 classes; the members and pool entries that the words name. The judged class is class 1, her method 1. -/
namespace start1
open Jvm.ClassFile
def u (s : String) : CpInfo := .utf8 (stringToUtf16 s)
/-- a pool by its gaps: so many unusable entries, then the entry; so many at the end -/
def gap : Nat → List CpInfo → List CpInfo
  | 0, r => r
  | n + 1, r => .unusable :: gap n r
def poolList (es : List (Nat × CpInfo)) (last : Nat) : List CpInfo := es.foldr (fun e r => gap e.1 (e.2 :: r)) (gap last [])
def pool (es : List (Nat × CpInfo)) (last : Nat) : Array CpInfo := ⟨poolList es last⟩
def fileOf (pool : Array CpInfo) (this : Nat) (attrs : Array Attribute := #[]) (ms : Array MethodInfo := #[]) (fl : Nat := 33) (sup : Nat := 0) (ifs : Array Nat := #[]) (fds : Array FieldInfo := #[]) : ClassFile where
  minorVersion := 0
  majorVersion := 65
  constantPool := pool
  accessFlags := fl
  thisClass := this
  superClass := sup
  interfaces := ifs
  fields := fds
  methods := ms
  attributes := attrs
def plain (name : String) (sup : Option ClassId) : Class where
  name := name
  kind := .ordinary
  loader := none
  accessFlags := 33
  super := sup
  interfaces := #[]
  cf := none
  fields := #[]
  methods := #[]
  instanceTypes := #[]
  staticTypes := #[]
  resolved := #[]
  callSites := []
  init := .initialized
  statics := none
  mirror := none

def pool0 : Array CpInfo := pool [(5, u "<init>"), (0, u "()V"), (1, .class_ 10), (1, u "java/lang/Object")] 113

def k0c0 : Code := { maxStack := 0, maxLocals := 1, code := object_method_1_code, exceptionTable := #[], attributes := #[] }
def k0m0 : Method := { name := "<init>", desc := "()V", sig := { parameters := [], returnType := none }, accessFlags := 1, code := some k0c0 }
/-- java/lang/Object -/
def k0 : Class := { plain "java/lang/Object" none with
  accessFlags := 33
  interfaces := #[]
  cf := some (fileOf pool0 8 #[] #[{ accessFlags := 1, nameIndex := 5, descriptorIndex := 6, attributes := #[] }] 33 0 #[] #[])
  fields := #[]
  methods := #[k0m0]
  instanceTypes := #[]
  staticTypes := #[]
  resolved := Array.replicate 124 none
  statics := none }

def pool1 : Array CpInfo := pool [(2, .class_ 4), (1, u "java/lang/Object"), (0, u "<init>"), (0, u "()V"), (0, .methodref 8 9), (0, .class_ 10), (0, .nameAndType 11 12), (0, u "com/example/wunce/wunce/StoredCall"), (0, u "finished"), (0, u "([B[B)Lcom/example/wunce/wunce/StoredCall;"), (0, .methodref 8 14), (0, .nameAndType 15 16), (0, u "fingerprint"), (0, u "()[B"), (0, .methodref 8 18), (0, .nameAndType 19 16), (0, u "answer"), (0, .methodref 8 21), (0, .nameAndType 22 23), (0, u "isFinished"), (0, u "()Z"), (0, .methodref 25 26), (0, .class_ 27), (0, .nameAndType 28 29), (0, u "com/example/wunce/wunce/StoredCallFinishedPinLaw"), (0, u "answerIntact"), (0, u "([BIBB)Z"), (0, .methodref 25 31), (0, .nameAndType 32 29), (0, u "fingerprintIntact"), (2, u "law"), (0, u "(IIII)Z")] 5

def k1m0 : Method := { name := "<init>", desc := "()V", sig := { parameters := [], returnType := none }, accessFlags := 1, code := none }
def k1c1 : Code := { maxStack := 4, maxLocals := 11, code := code, exceptionTable := #[], attributes := #[] }
def k1m1 : Method := { name := "law", desc := "(IIII)Z", sig := { parameters := [.int, .int, .int, .int], returnType := some .boolean }, accessFlags := 9, code := some k1c1 }
def k1c2 : Code := { maxStack := 2, maxLocals := 4, code := method_3_code, exceptionTable := #[], attributes := #[] }
def k1m2 : Method := { name := "answerIntact", desc := "([BIBB)Z", sig := { parameters := [(.array .byte), .int, .byte, .byte], returnType := some .boolean }, accessFlags := 10, code := some k1c2 }
def k1c3 : Code := { maxStack := 2, maxLocals := 4, code := method_4_code, exceptionTable := #[], attributes := #[] }
def k1m3 : Method := { name := "fingerprintIntact", desc := "([BIBB)Z", sig := { parameters := [(.array .byte), .int, .byte, .byte], returnType := some .boolean }, accessFlags := 10, code := some k1c3 }
/-- com/example/wunce/wunce/StoredCallFinishedPinLaw -/
def k1 : Class := { plain "com/example/wunce/wunce/StoredCallFinishedPinLaw" (some 0) with
  accessFlags := 49
  interfaces := #[]
  cf := some (fileOf pool1 25 #[] #[{ accessFlags := 1, nameIndex := 5, descriptorIndex := 6, attributes := #[] }, { accessFlags := 9, nameIndex := 35, descriptorIndex := 36, attributes := #[] }, { accessFlags := 10, nameIndex := 28, descriptorIndex := 29, attributes := #[] }, { accessFlags := 10, nameIndex := 32, descriptorIndex := 29, attributes := #[] }] 49 2 #[] #[])
  fields := #[]
  methods := #[k1m0, k1m1, k1m2, k1m3]
  instanceTypes := #[]
  staticTypes := #[]
  resolved := Array.replicate 42 none
  statics := none }

def pool2 : Array CpInfo := pool [(1, .methodref 2 3), (0, .class_ 4), (0, .nameAndType 5 6), (0, u "java/lang/Object"), (0, u "<init>"), (0, u "()V"), (0, .fieldref 8 9), (0, .class_ 10), (0, .nameAndType 11 12), (0, u "com/example/wunce/wunce/StoredCall"), (0, u "_fingerprint"), (0, u "[B"), (0, .fieldref 8 14), (0, .nameAndType 15 12), (0, u "_answer"), (0, .methodref 8 17), (0, .nameAndType 5 18), (0, u "([B[B)V"), (3, u "answer"), (7, u "finished"), (0, u "([B[B)Lcom/example/wunce/wunce/StoredCall;"), (1, u "fingerprint"), (0, u "()[B"), (0, u "isFinished"), (0, u "()Z")] 2

def k2c0 : Code := { maxStack := 2, maxLocals := 3, code := prog_26_method_1_code, exceptionTable := #[], attributes := #[] }
def k2m0 : Method := { name := "<init>", desc := "([B[B)V", sig := { parameters := [(.array .byte), (.array .byte)], returnType := none }, accessFlags := 2, code := some k2c0 }
def k2c1 : Code := { maxStack := 4, maxLocals := 2, code := prog_26_method_3_code, exceptionTable := #[], attributes := #[] }
def k2m1 : Method := { name := "finished", desc := "([B[B)Lcom/example/wunce/wunce/StoredCall;", sig := { parameters := [(.array .byte), (.array .byte)], returnType := some (.object "com/example/wunce/wunce/StoredCall") }, accessFlags := 9, code := some k2c1 }
def k2c2 : Code := { maxStack := 1, maxLocals := 1, code := prog_26_method_4_code, exceptionTable := #[], attributes := #[] }
def k2m2 : Method := { name := "fingerprint", desc := "()[B", sig := { parameters := [], returnType := some (.array .byte) }, accessFlags := 1, code := some k2c2 }
def k2c3 : Code := { maxStack := 1, maxLocals := 1, code := prog_26_method_5_code, exceptionTable := #[], attributes := #[] }
def k2m3 : Method := { name := "isFinished", desc := "()Z", sig := { parameters := [], returnType := some .boolean }, accessFlags := 1, code := some k2c3 }
def k2c4 : Code := { maxStack := 1, maxLocals := 1, code := prog_26_method_6_code, exceptionTable := #[], attributes := #[] }
def k2m4 : Method := { name := "answer", desc := "()[B", sig := { parameters := [], returnType := some (.array .byte) }, accessFlags := 1, code := some k2c4 }
/-- com/example/wunce/wunce/StoredCall -/
def k2 : Class := { plain "com/example/wunce/wunce/StoredCall" (some 0) with
  accessFlags := 49
  interfaces := #[]
  cf := some (fileOf pool2 8 #[] #[{ accessFlags := 2, nameIndex := 5, descriptorIndex := 18, attributes := #[] }, { accessFlags := 9, nameIndex := 30, descriptorIndex := 31, attributes := #[] }, { accessFlags := 1, nameIndex := 33, descriptorIndex := 34, attributes := #[] }, { accessFlags := 1, nameIndex := 35, descriptorIndex := 36, attributes := #[] }, { accessFlags := 1, nameIndex := 22, descriptorIndex := 34, attributes := #[] }] 49 2 #[] #[{ accessFlags := 18, nameIndex := 11, descriptorIndex := 12, attributes := #[] }, { accessFlags := 18, nameIndex := 15, descriptorIndex := 12, attributes := #[] }])
  fields := #[{ name := "_fingerprint", type := (.array .byte), accessFlags := 18, slot := 0, constantValue := 0 }, { name := "_answer", type := (.array .byte), accessFlags := 18, slot := 1, constantValue := 0 }]
  methods := #[k2m0, k2m1, k2m2, k2m3, k2m4]
  instanceTypes := #[(.array .byte), (.array .byte)]
  staticTypes := #[]
  resolved := Array.replicate 39 none
  statics := none }

def pool3 : Array CpInfo := pool [(1, u "java/lang/Cloneable"), (0, .class_ 1), (0, u "java/lang/Object"), (0, .class_ 3)] 3

/-- java/lang/Cloneable -/
def k3 : Class := { plain "java/lang/Cloneable" (some 0) with
  accessFlags := 1537
  interfaces := #[]
  cf := some (fileOf pool3 2 #[] #[] 1537 4 #[] #[])
  fields := #[]
  methods := #[]
  instanceTypes := #[]
  staticTypes := #[]
  resolved := Array.replicate 8 none
  statics := none }

def pool4 : Array CpInfo := pool [(1, u "java/io/Serializable"), (0, .class_ 1), (0, u "java/lang/Object"), (0, .class_ 3)] 3

/-- java/io/Serializable -/
def k4 : Class := { plain "java/io/Serializable" (some 0) with
  accessFlags := 1537
  interfaces := #[]
  cf := some (fileOf pool4 2 #[] #[] 1537 4 #[] #[])
  fields := #[]
  methods := #[]
  instanceTypes := #[]
  staticTypes := #[]
  resolved := Array.replicate 8 none
  statics := none }

/-- the primitive byte -/
def k5 : Class := { plain "byte" none with kind := .primitive 'B', accessFlags := 0x411 }
/-- [B -/
def k6 : Class := { plain "[B" (some 0) with kind := .array 5 .byte, interfaces := #[3, 4], accessFlags := 1041 }

/-- the primitive int -/
def k7 : Class := { plain "int" none with kind := .primitive 'I', accessFlags := 0x411 }
/-- [I -/
def k8 : Class := { plain "[I" (some 0) with kind := .array 7 .int, interfaces := #[3, 4], accessFlags := 1041 }

def heap : Heap := #[]
def classes : Array Class := #[k0, k1, k2, k3, k4, k5, k6, k7, k8]
def interned : List (Array UInt16 × Addr) := []
def slotsUsed : Nat := 0
def theMethod : MethodId := ⟨1, 1⟩
def args0 : Array Value := #[.int 5, .int 7, .int 9, .int 11]
def aboutOver (below : List Frame) : State where
  vm := { classes := classes, interned := interned.toArray }
  heap := heap
  slotsUsed := slotsUsed
  threads := #[{ frames := .invoking theMethod args0 :: below }]
def below0 : List Frame := [.native { method := ⟨0, 0⟩, args := #[] }]
def about1 : State := aboutOver below0
def p0 : Program := .bare "" "" ""
def e0 : Env := launch0.env 0 0 0
theorem w_frames : about1.frames = Frame.invoking theMethod args0 :: below0 := rfl
set_option maxRecDepth 65536 in
theorem w_args : argsFit about1.vm theMethod args0 = true := by decide +kernel
set_option maxRecDepth 65536 in
theorem w_heap : heapFits about1 = true := by decide +kernel
set_option maxRecDepth 65536 in
theorem w_runnable : about1.curStatus? = some .runnable := by decide +kernel
set_option maxRecDepth 65536 in
theorem w_alone : about1.alone = true := by decide +kernel
set_option maxRecDepth 65536 in
theorem w_named : about1.methodNamed? x = some theMethod := by decide +kernel
set_option maxRecDepth 65536 in
theorem w_hears : about1.hears theMethod below0 = true := by decide +kernel
set_option maxRecDepth 65536 in
theorem w_ripe : about1.ripe theMethod args0 below0 = true := by decide +kernel
theorem w_running : about1.status = .running := rfl
set_option maxRecDepth 65536 in
theorem w_room : about1.hasRoom e0.platform room_1 = true :=
  launch0.hasRoom_least _ room_1 (by decide +kernel) (by decide +kernel) (by decide +kernel) (by decide +kernel) (by decide +kernel) (by decide +kernel)
theorem allAtoms_all (ts : List Jvm.Cond) (a : Array Jvm.Value) (st : Jvm.State) : (allAtoms ts).before a st = ts.all (fun c => c.before a st) := by
  induction ts with
  | nil => rfl
  | cons c t ih =>
    show (Jvm.Cond.and c (allAtoms t)).before a st = _
    rw [Jvm.Cond.before_and, ih, List.all_cons]
def words1 : List Jvm.Cond := Jvm.Cond.code x code maxLocals ret :: tables_1
/-- a 'code' word, met by the world's own term for the bytes: nothing is compared byte by byte -/
theorem code_word {y : MethodName} {bytes : ByteArray} {mx : Nat} {rt : Option FieldType} {a : Array Value} {s : State} {m : MethodId} {meth : Method} {c : Code} (h1 : s.methodNamed? y = some m) (h2 : s.vm.method? m = some meth) (h3 : meth.code = some c) (h4 : c.code = bytes)
    (h5 : (c.maxLocals == mx && c.exceptionTable.isEmpty && decide (c.maxStack ≤ mostOperands) && decide (meth.sig.returnType = rt) && !meth.locks && decide (parseMethodDescriptor y.desc = some meth.sig)) = true) : (Jvm.Cond.code y bytes mx rt).before a s = true := by
  simp only [Bool.and_eq_true, beq_iff_eq, Bool.not_eq_true', decide_eq_true_eq] at h5
  obtain ⟨⟨⟨⟨⟨g1, g2⟩, g3⟩, g4⟩, g5⟩, g6⟩ := h5
  simp [Cond.before, Cond.holds, Cond.value, h1, h2, h3, h4, g1, g2, g3, g4, g5, g6]
def isCode : Jvm.Cond → Bool
  | .code _ _ _ _ => true
  | _ => false
theorem all_split {L : List Jvm.Cond} {P : Jvm.Cond → Bool} (h1 : L.all (fun c => isCode c || P c) = true) (h2 : ∀ c ∈ L.filter isCode, P c = true) : L.all P = true := by
  refine List.all_eq_true.mpr fun c hc => ?_
  have h := List.all_eq_true.mp h1 c hc
  rcases Bool.eq_false_or_eq_true (isCode c) with hi | hi
  · exact h2 c (List.mem_filter.mpr ⟨hc, hi⟩)
  · simpa [hi] using h
set_option maxRecDepth 65536 in
theorem w_c0 : (Jvm.Cond.code x code maxLocals ret).before args0 about1 = true := code_word (m := ⟨1, 1⟩) (meth := k1m1) (c := k1c1) (by decide +kernel) rfl rfl rfl (by decide +kernel)
set_option maxRecDepth 65536 in
theorem w_c1 : (Jvm.Cond.code ({ cls := "com/example/wunce/wunce/StoredCall", name := "finished", desc := "([B[B)Lcom/example/wunce/wunce/StoredCall;" } : Jvm.MethodName) prog_26_method_3_code (2 : Nat) (Option.some (Jvm.ClassFile.FieldType.object "com/example/wunce/wunce/StoredCall"))).before args0 about1 = true := code_word (m := ⟨2, 1⟩) (meth := k2m1) (c := k2c1) (by decide +kernel) rfl rfl rfl (by decide +kernel)
set_option maxRecDepth 65536 in
theorem w_c2 : (Jvm.Cond.code ({ cls := "com/example/wunce/wunce/StoredCall", name := "<init>", desc := "([B[B)V" } : Jvm.MethodName) prog_26_method_1_code (3 : Nat) (Option.none : Option Jvm.ClassFile.FieldType)).before args0 about1 = true := code_word (m := ⟨2, 0⟩) (meth := k2m0) (c := k2c0) (by decide +kernel) rfl rfl rfl (by decide +kernel)
set_option maxRecDepth 65536 in
theorem w_c3 : (Jvm.Cond.code ({ cls := "java/lang/Object", name := "<init>", desc := "()V" } : Jvm.MethodName) object_method_1_code (1 : Nat) (Option.none : Option Jvm.ClassFile.FieldType)).before args0 about1 = true := code_word (m := ⟨0, 0⟩) (meth := k0m0) (c := k0c0) (by decide +kernel) rfl rfl rfl (by decide +kernel)
set_option maxRecDepth 65536 in
theorem w_c4 : (Jvm.Cond.code ({ cls := "com/example/wunce/wunce/StoredCall", name := "fingerprint", desc := "()[B" } : Jvm.MethodName) prog_26_method_4_code (1 : Nat) (Option.some (Jvm.ClassFile.FieldType.array Jvm.ClassFile.FieldType.byte))).before args0 about1 = true := code_word (m := ⟨2, 2⟩) (meth := k2m2) (c := k2c2) (by decide +kernel) rfl rfl rfl (by decide +kernel)
set_option maxRecDepth 65536 in
theorem w_c5 : (Jvm.Cond.code ({ cls := "com/example/wunce/wunce/StoredCall", name := "answer", desc := "()[B" } : Jvm.MethodName) prog_26_method_6_code (1 : Nat) (Option.some (Jvm.ClassFile.FieldType.array Jvm.ClassFile.FieldType.byte))).before args0 about1 = true := code_word (m := ⟨2, 4⟩) (meth := k2m4) (c := k2c4) (by decide +kernel) rfl rfl rfl (by decide +kernel)
set_option maxRecDepth 65536 in
theorem w_c6 : (Jvm.Cond.code ({ cls := "com/example/wunce/wunce/StoredCall", name := "isFinished", desc := "()Z" } : Jvm.MethodName) prog_26_method_5_code (1 : Nat) (Option.some Jvm.ClassFile.FieldType.boolean)).before args0 about1 = true := code_word (m := ⟨2, 3⟩) (meth := k2m3) (c := k2c3) (by decide +kernel) rfl rfl rfl (by decide +kernel)
set_option maxRecDepth 65536 in
theorem w_c7 : (Jvm.Cond.code ({ cls := "com/example/wunce/wunce/StoredCallFinishedPinLaw", name := "answerIntact", desc := "([BIBB)Z" } : Jvm.MethodName) method_3_code (4 : Nat) (Option.some Jvm.ClassFile.FieldType.boolean)).before args0 about1 = true := code_word (m := ⟨1, 2⟩) (meth := k1m2) (c := k1c2) (by decide +kernel) rfl rfl rfl (by decide +kernel)
set_option maxRecDepth 65536 in
theorem w_c8 : (Jvm.Cond.code ({ cls := "com/example/wunce/wunce/StoredCallFinishedPinLaw", name := "fingerprintIntact", desc := "([BIBB)Z" } : Jvm.MethodName) method_4_code (4 : Nat) (Option.some Jvm.ClassFile.FieldType.boolean)).before args0 about1 = true := code_word (m := ⟨1, 3⟩) (meth := k1m3) (c := k1c3) (by decide +kernel) rfl rfl rfl (by decide +kernel)
def codes1 : List Jvm.Cond := [Jvm.Cond.code x code maxLocals ret, Jvm.Cond.code ({ cls := "com/example/wunce/wunce/StoredCall", name := "finished", desc := "([B[B)Lcom/example/wunce/wunce/StoredCall;" } : Jvm.MethodName) prog_26_method_3_code (2 : Nat) (Option.some (Jvm.ClassFile.FieldType.object "com/example/wunce/wunce/StoredCall")), Jvm.Cond.code ({ cls := "com/example/wunce/wunce/StoredCall", name := "<init>", desc := "([B[B)V" } : Jvm.MethodName) prog_26_method_1_code (3 : Nat) (Option.none : Option Jvm.ClassFile.FieldType), Jvm.Cond.code ({ cls := "java/lang/Object", name := "<init>", desc := "()V" } : Jvm.MethodName) object_method_1_code (1 : Nat) (Option.none : Option Jvm.ClassFile.FieldType), Jvm.Cond.code ({ cls := "com/example/wunce/wunce/StoredCall", name := "fingerprint", desc := "()[B" } : Jvm.MethodName) prog_26_method_4_code (1 : Nat) (Option.some (Jvm.ClassFile.FieldType.array Jvm.ClassFile.FieldType.byte)), Jvm.Cond.code ({ cls := "com/example/wunce/wunce/StoredCall", name := "answer", desc := "()[B" } : Jvm.MethodName) prog_26_method_6_code (1 : Nat) (Option.some (Jvm.ClassFile.FieldType.array Jvm.ClassFile.FieldType.byte)), Jvm.Cond.code ({ cls := "com/example/wunce/wunce/StoredCall", name := "isFinished", desc := "()Z" } : Jvm.MethodName) prog_26_method_5_code (1 : Nat) (Option.some Jvm.ClassFile.FieldType.boolean), Jvm.Cond.code ({ cls := "com/example/wunce/wunce/StoredCallFinishedPinLaw", name := "answerIntact", desc := "([BIBB)Z" } : Jvm.MethodName) method_3_code (4 : Nat) (Option.some Jvm.ClassFile.FieldType.boolean), Jvm.Cond.code ({ cls := "com/example/wunce/wunce/StoredCallFinishedPinLaw", name := "fingerprintIntact", desc := "([BIBB)Z" } : Jvm.MethodName) method_4_code (4 : Nat) (Option.some Jvm.ClassFile.FieldType.boolean)]
set_option maxRecDepth 65536 in
theorem codes_eq : words1.filter isCode = codes1 := rfl
theorem w_codes : ∀ c ∈ words1.filter isCode, c.before args0 about1 = true := by
  rw [codes_eq]
  intro c hc
  simp only [codes1, List.mem_cons, List.not_mem_nil, or_false] at hc
  rcases hc with rfl | rfl | rfl | rfl | rfl | rfl | rfl | rfl | rfl
  · exact w_c0
  · exact w_c1
  · exact w_c2
  · exact w_c3
  · exact w_c4
  · exact w_c5
  · exact w_c6
  · exact w_c7
  · exact w_c8
set_option maxRecDepth 65536 in
theorem w_t1 : (words1.take 24).all (fun c => isCode c || c.before args0 about1) = true := by decide +kernel
set_option maxRecDepth 65536 in
theorem w_t2 : (words1.drop 24).all (fun c => isCode c || c.before args0 about1) = true := by decide +kernel
theorem w_tables : (allAtoms (Jvm.Cond.code x code maxLocals ret :: tables_1)).before args0 about1 = true := by
  rw [allAtoms_all]
  show words1.all (fun c => c.before args0 about1) = true
  refine all_split ?_ w_codes
  rw [← List.take_append_drop 24 words1, List.all_append, w_t1, w_t2]
  rfl
set_option maxRecDepth 65536 in
theorem w_case : (Jvm.Cond.and given_1 narrow_1).before args0 about1 = true := by decide +kernel
theorem w_applies : (headSpec (Jvm.Cond.code x code maxLocals ret :: tables_1) room_1).applies x e0.platform about1 = true :=
  (Spec.applies_iff w_frames).mpr ⟨w_running, w_runnable, w_alone, w_named, w_hears, w_ripe, w_room, w_tables⟩
theorem atStart : AtStart classFile x code maxLocals ret World_1 tables_1 room_1 Calls_1 rest_1 Pre_1 launch0 p0 e0 about1 theMethod args0 below0 :=
  ⟨lists_1, trivial, launch0.admits_env _ _ _, launch0.least_env, fairChoices_fair.cas, fairChoices_fair.clock, w_frames, w_args, w_heap, w_applies, trivial, trivial, w_case⟩
end start1
theorem witness_1 : WitnessClaimed_1 := ⟨start1.p0, start1.e0, start1.about1, start1.theMethod, start1.args0, start1.below0, start1.atStart⟩
end Jvm.Pilot.@@N@@
