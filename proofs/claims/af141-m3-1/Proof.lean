import JvmDerived
import JvmDerived.Pilot.@@N@@Statement
import JvmDerived.Pilot.@@N@@Code
set_option linter.unusedVariables false
set_option linter.unusedSimpArgs false
namespace Jvm.Pilot.@@N@@
open Jvm Jvm.ClassFile Sem Op Lib Jvm.Free Jvm.Stand Jvm.LawKit Jvm.RoadKit Bundle Jvm.Pilot.@@N@@.Jvm.D
section Own
variable {p : Program} {l : Launch} {e : Env} {R : Room} {s : State} {m : MethodId} {args : Array Value} {below : List Frame} {meth : Method} {c : Code} {T : State} {locs : List Loc} {cells slots : Nat}
def Ends (p : Program) (e : Env) (below : List Frame) (Q : Outcome → State → Prop) (S : State) : Prop := ∃ s₂ o, Steps p.tables e below S s₂ ∧ s₂.status = .running ∧ Ended s₂ below o ∧ Q o s₂
theorem Ends.opn {Q : Outcome → State → Prop} {S : State} (h : ∀ QQ : Outcome → State → Prop, (∀ o t, Q o t → QQ o t) → Ends p e below QQ S) : ∃ s₂ o, Steps p.tables e below S s₂ ∧ s₂.status = .running ∧ Ended s₂ below o ∧ Q o s₂ := h Q fun _ _ q => q
theorem Ends.step {Q : Outcome → State → Prop} {S S' : State} (k : ∀ t, Steps p.tables e below S' t → Steps p.tables e below S t) (h : Ends p e below Q S') : Ends p e below Q S := by
  obtain ⟨a, o, h1, h2⟩ := h
  exact ⟨a, o, k _ h1, h2⟩
theorem Ends.fin {QQ : Outcome → State → Prop} {Q : Option Value → Heap → List Loc → Prop} {cl sl : Nat} {g : JFrame} {h : Heap} (v : Option Value) (X : Stand p l e R s m args below meth c T locs cells slots)
    (hQQ : ∀ o t, (∃ v L, o = .returned v ∧ Q v t.heap L ∧ FrameEnd s o t L cl sl) → QQ o t) (hv : meth.sig.returnType = none → v = none) (hlocks : meth.locks = false)
    (hstep : ∀ fs, (∀ (f : JFrame) (acts : List Action), f.method = m → f.locked = none → f.entered = [] → (doReturn e (T.setTop f) acts v).1 = T.setFrames fs) → Steps p.tables e below (T.setTop g) (T.setFrames fs))
    (eT : T.heap = h) (hc : cells ≤ cl) (hs : slots ≤ sl) (q : Q v h locs) : Ends p e below QQ (T.setTop g) := by
  obtain ⟨fs, hr, hrun, hended, hW, hsame⟩ := X.leave hv hlocks
  subst eT
  exact ⟨_, _, hstep fs hr, hrun, hended, hQQ _ _ ⟨v, locs, rfl, q, ⟨_, rfl⟩, hW, hsame.mono hc hs⟩⟩
theorem own_narB {x : Int32} (h : x = 0 ∨ x = 1) : narrow .boolean (.int x) = .int x := by rcases h with rfl | rfl <;> rfl
theorem own_narref {v : Value} {t : FieldType} (h : v.isRef = true) (ht : t.isReference = true) : narrow t v = v := by
  cases t <;> first | (cases ht; done) | (cases v <;> first | rfl | cases h)
theorem own_fitref {v : Value} {t : FieldType} (h : v.isRef = true) (ht : t.isReference = true) : fits t v = true := by
  cases t <;> first | (cases ht; done) | (cases v <;> first | rfl | cases h)
theorem own_nar255 (b : Int32) : narrow .char (.int (b &&& (255 : Int32))) = .int (b &&& (255 : Int32)) := by
  have h := XT.narrow_c (b &&& 255)
  rw [i2c_mask] at h
  exact h
theorem own_narb (x : Int32) : nar .byte x.toInt8.toInt32 = x.toInt8.toInt32 := by simp [nar]
theorem own_ins_keep {Z : State} {h h' : Heap} {a : Addr} {C : String} {b : Bool} {ws : List Addr} (F : Ins Z h a C b) (K : Keep h h' ws) : Ins Z h' a C b := by
  obtain ⟨cell, cT, h1, h2, h3⟩ := F
  obtain ⟨c', q1, q2, q3, -⟩ := K.2.2 _ _ h1
  exact ⟨c', cT, q1, h2, by rw [q2, q3]; exact h3⟩
theorem own_sta_keep {Z : State} {h h' : Heap} {C n d : String} {v : Value} {ws : List Addr} (F : Sta Z h C n d v) (K : Keep h h' ws) (q : ∀ x ∈ ws, ∃ c : Cell, h[x]? = some c ∧ ∀ q, c.vm ≠ .statics q) : Sta Z h' C n d v := by
  obtain ⟨cf, i, k, f, st, cell, h1, h2, h3, h4, h5, h6, h7⟩ := F
  refine ⟨cf, i, k, f, st, cell, h1, h2, h3, h4, K.2.1 _ _ h5 fun hm => ?_, h6, h7⟩
  obtain ⟨c, q1, q2⟩ := q _ hm
  cases h5.symm.trans q1
  cases hq : cell.vm <;> first | exact q2 _ hq | (rw [hq] at h6; cases h6)
theorem lremM {g : JFrame} {target : State} (X : Stand p l e R s m args below meth c T locs cells slots) (hx : p.tables.exec = Jvm.exec) (hg : g.method = m) {x y : Int64} {rest : List Value} (hd : decode c.code g.pc = .ok (.lrem, 1)) (hs : g.stack = .long y :: .long x :: rest) (hy : y ≠ 0)
    (hr : Steps p.tables e below (T.setTop { g with pc := g.pc + 1, stack := .long (x % y) :: rest }) target) : Steps p.tables e below (T.setTop g) target := by
  have q : x - x / y * y = x % y := lrem_mod x y
  exact XT.lrem X.here hx hg hd hs hy (by rw [q]; exact hr)
end Own
theorem pn_0 : plainName "java/lang/Record" = true := by first | (simp [plainName, overriddenIn]; done) | decide +kernel
theorem pn_1 : plainName "com/example/gatehook/gatehook/engine/AnswerHead$StatusLine" = true := by first | (simp [plainName, overriddenIn]; done) | decide +kernel
theorem pn_2 : plainName "com/example/gatehook/gatehook/engine/StatusLineIsInterimPinLaw" = true := by first | (simp [plainName, overriddenIn]; done) | decide +kernel
theorem pd_0 : parseMethodDescriptor "()V" = some ⟨[], none⟩ := by decide +kernel
theorem pd_1 : parseMethodDescriptor "(IZ)V" = some ⟨[.int, .boolean], none⟩ := by decide +kernel
theorem pd_2 : parseMethodDescriptor "()Z" = some ⟨[], some .boolean⟩ := by decide +kernel

theorem d2_0 : decode jdk_30_method_1_code 0 = .ok (.aload_n 0, 1) := by decide +kernel
theorem d2_1 : decode jdk_30_method_1_code 1 = .ok (.invokespecial 1, 3) := by decide +kernel
theorem d2_4 : decode jdk_30_method_1_code 4 = .ok (.return_, 1) := by decide +kernel
theorem ef_2 (m : MethodId) (x0 : Addr) : entryFrame m #[(.ref x0)] 1 = mkF m 0 #[.val (.ref x0)] [] := by first | (simp [entryFrame, mkF, argsToLocals, Value.category]; done) | rfl
def Q2 (Z : State) (o0 : Addr) (h0 : Heap) (n0 : Nat) (v : Option Value) (h : Heap) (L : List Loc) : Prop := (v = none) ∧ (Fr n0 L) ∧ (h = h0)
set_option maxRecDepth 65536 in
set_option maxHeartbeats 40000000 in
theorem rm2 (l : Launch) (Z : State) (a0 : Array Value) (hw : ∀ d ∈ tables_1, d.before a0 Z = true) (ws : List Jvm.Cond) (o0 : Addr) (h0 : Heap) (n0 : Nat) (Z0 : n0 ≤ h0.size) :
    MetFree l (⟨"java/lang/Record", "<init>", "()V"⟩ : MethodName) (head1 (Jvm.Cond.code (⟨"java/lang/Record", "<init>", "()V"⟩ : MethodName) jdk_30_method_1_code 1 none :: ws) ({ frames := 1, cells := 0, slots := 0, locals := 12 } : Room)) (fun a U => a = #[(.ref o0)] ∧ Z.Warmed39 U.vm ∧ U.heap = h0) (fun _ _ _ _ _ => True) (fun _ U o U' => ∃ v L, o = .returned v ∧ Q2 Z o0 h0 n0 v U'.heap L ∧ FrameEnd U o U' L ({ frames := 1, cells := 0, slots := 0, locals := 12 } : Room).cells ({ frames := 1, cells := 0, slots := 0, locals := 12 } : Room).slots) := by
  refine MetFree.of_bodySF (plainFor_of_name pn_0) hisR ?_
  intro p e s m args below meth c s₁ Bd hml0 hP hK
  obtain ⟨rfl, hZ, hh⟩ := hP
  have hx := Bd.exec
  have hby := Bd.bytes
  have hml : c.maxLocals = 1 := hml0
  have hown : s.vm.findClass "java/lang/Record" = some m.cls := findClass_of_methodNamed Bd.named
  have hnm := (name_of_methodNamed Bd.named Bd.method).1
  have X0 : Stand p l e ({ frames := 1, cells := 0, slots := 0, locals := 12 } : Room) s m #[(.ref o0)] below meth c s₁ [] 0 0 := Stand.of_body Bd
  have e0 : s₁.heap = h0 := by rw [← hh, Bd.state]; rfl
  have N0 := Fr.nil n0
  refine Ends.opn ?_
  intro QQ hQQ
  refine Ends.step (S' := s₁.setTop (mkF m 0 #[.val (.ref o0)] [])) (fun t k => castTop (ef_2 m o0) k) ?_
  show Ends p e below QQ (s₁.setTop (mkF m 0 #[.val (.ref o0)] []))
  refine Ends.step (fun _ k => XS.aloadN X0.here hx rfl (hb hby d2_0) rfl rfl k) ?_
  show Ends p e below QQ (s₁.setTop (mkF m 1 #[.val (.ref o0)] [(.ref o0)]))
  obtain ⟨T1, X1, e1, st1⟩ := initO X0 hx hZ hown (hw _ (List.mem_of_getElem? (i := 12) rfl)) (hw _ (List.mem_of_getElem? (i := 13) rfl)) (hw _ (List.mem_of_getElem? (i := 14) rfl)) e0 (g := (mkF m 1 #[.val (.ref o0)] [(.ref o0)])) rfl (by rw [hml]; rfl) rfl (hb hby d2_1) (by decide) (W := 0) (by show 2 * 0 + _ ≤ _; exact Nat.le_of_eq rfl) (by decide)
  refine Ends.step st1 ?_
  show Ends p e below QQ (T1.setTop (mkF m 4 #[.val (.ref o0)] []))
  exact Ends.fin (none) X1 hQQ (fun _ => rfl) Bd.notSynchronized (fun _ hr => X1.returnOut hx Bd.returns (hb hby d2_4) hr) e1 (by decide) (by decide) ⟨rfl, N0, rfl⟩
theorem d1_0 : decode prog_5_method_1_code 0 = .ok (.aload_n 0, 1) := by decide +kernel
theorem d1_1 : decode prog_5_method_1_code 1 = .ok (.invokespecial 1, 3) := by decide +kernel
theorem d1_4 : decode prog_5_method_1_code 4 = .ok (.aload_n 0, 1) := by decide +kernel
theorem d1_5 : decode prog_5_method_1_code 5 = .ok (.iload_n 1, 1) := by decide +kernel
theorem d1_6 : decode prog_5_method_1_code 6 = .ok (.putfield 7, 3) := by decide +kernel
theorem d1_9 : decode prog_5_method_1_code 9 = .ok (.aload_n 0, 1) := by decide +kernel
theorem d1_10 : decode prog_5_method_1_code 10 = .ok (.iload_n 2, 1) := by decide +kernel
theorem d1_11 : decode prog_5_method_1_code 11 = .ok (.putfield 13, 3) := by decide +kernel
theorem d1_14 : decode prog_5_method_1_code 14 = .ok (.return_, 1) := by decide +kernel
theorem ef_1 (m : MethodId) (x0 : Addr) (x1 : Int32) (x2 : Int32) : entryFrame m #[(.ref x0), (.int x1), (.int x2)] 3 = mkF m 0 #[.val (.ref x0), .val (.int x1), .val (.int x2)] [] := by first | (simp [entryFrame, mkF, argsToLocals, Value.category]; done) | rfl
def Q1 (Z : State) (o0 : Addr) (p1 : Int32) (p2 : Int32) (u : Int32) (w : Int32) (h0 : Heap) (n0 : Nat) (v : Option Value) (h : Heap) (L : List Loc) : Prop := (v = none) ∧ (Fr n0 L) ∧ (Keep h0 h [o0]) ∧ (Exa Z h o0 "com/example/gatehook/gatehook/engine/AnswerHead$StatusLine") ∧ (Fld Z h o0 "com/example/gatehook/gatehook/engine/AnswerHead$StatusLine" "status" "I" (.int p1)) ∧ (Fld Z h o0 "com/example/gatehook/gatehook/engine/AnswerHead$StatusLine" "http10" "Z" (.int (nar .boolean p2)))
set_option maxRecDepth 65536 in
set_option maxHeartbeats 40000000 in
theorem rm1 (l : Launch) (Z : State) (a0 : Array Value) (hw : ∀ d ∈ tables_1, d.before a0 Z = true) (ws : List Jvm.Cond) (o0 : Addr) (p1 : Int32) (p2 : Int32) (u : Int32) (w : Int32) (h0 : Heap) (n0 : Nat) (Z0 : n0 ≤ h0.size) (E_o0 : Exa Z h0 o0 "com/example/gatehook/gatehook/engine/AnswerHead$StatusLine") (F_status_o0 : Fld Z h0 o0 "com/example/gatehook/gatehook/engine/AnswerHead$StatusLine" "status" "I" (.int u)) (F_http10_o0 : Fld Z h0 o0 "com/example/gatehook/gatehook/engine/AnswerHead$StatusLine" "http10" "Z" (.int w)) (g_o0 : n0 ≤ o0) :
    MetFree l (⟨"com/example/gatehook/gatehook/engine/AnswerHead$StatusLine", "<init>", "(IZ)V"⟩ : MethodName) (head1 (Jvm.Cond.code (⟨"com/example/gatehook/gatehook/engine/AnswerHead$StatusLine", "<init>", "(IZ)V"⟩ : MethodName) prog_5_method_1_code 3 none :: ws) ({ frames := 2, cells := 0, slots := 0, locals := 24 } : Room)) (fun a U => a = #[(.ref o0), (.int p1), (.int p2)] ∧ Z.Warmed39 U.vm ∧ U.heap = h0) (fun _ _ _ _ _ => True) (fun _ U o U' => ∃ v L, o = .returned v ∧ Q1 Z o0 p1 p2 u w h0 n0 v U'.heap L ∧ FrameEnd U o U' L ({ frames := 2, cells := 0, slots := 0, locals := 24 } : Room).cells ({ frames := 2, cells := 0, slots := 0, locals := 24 } : Room).slots) := by
  refine MetFree.of_bodySF (plainFor_of_name pn_1) hisR ?_
  intro p e s m args below meth c s₁ Bd hml0 hP hK
  obtain ⟨rfl, hZ, hh⟩ := hP
  have hx := Bd.exec
  have hby := Bd.bytes
  have hml : c.maxLocals = 3 := hml0
  have hown : s.vm.findClass "com/example/gatehook/gatehook/engine/AnswerHead$StatusLine" = some m.cls := findClass_of_methodNamed Bd.named
  have hnm := (name_of_methodNamed Bd.named Bd.method).1
  have X0 : Stand p l e ({ frames := 2, cells := 0, slots := 0, locals := 24 } : Room) s m #[(.ref o0), (.int p1), (.int p2)] below meth c s₁ [] 0 0 := Stand.of_body Bd
  have e0 : s₁.heap = h0 := by rw [← hh, Bd.state]; rfl
  have N0 := Fr.nil n0
  refine Ends.opn ?_
  intro QQ hQQ
  refine Ends.step (S' := s₁.setTop (mkF m 0 #[.val (.ref o0), .val (.int p1), .val (.int p2)] [])) (fun t k => castTop (ef_1 m o0 p1 p2) k) ?_
  show Ends p e below QQ (s₁.setTop (mkF m 0 #[.val (.ref o0), .val (.int p1), .val (.int p2)] []))
  refine Ends.step (fun _ k => XS.aloadN X0.here hx rfl (hb hby d1_0) rfl rfl k) ?_
  show Ends p e below QQ (s₁.setTop (mkF m 1 #[.val (.ref o0), .val (.int p1), .val (.int p2)] [(.ref o0)]))
  obtain ⟨_, _, ⟨T2, L2, k2, n2⟩, -, X2, ⟨Lc2, hQ2, l2, y2, z2⟩, st2⟩ := X0.specialBack hx (y := (⟨"java/lang/Record", "<init>", "()V"⟩ : MethodName)) rfl hown (mvT hZ (hw _ (List.mem_of_getElem? (i := 7) rfl))) (mvT hZ (hw _ (List.mem_of_getElem? (i := 8) rfl))) (mvT hZ (hw _ (List.mem_of_getElem? (i := 11) rfl))) (by decide) (backOf (W := 0) (rm2 l Z a0 hw [] o0 h0 n0 (Nat.le_trans Z0 (Keep.refl h0 [o0]).1)) hZ (hw _ (List.mem_of_getElem? (i := 11) rfl)) (hw _ (List.mem_of_getElem? (i := 10) rfl)) (by decide) (by decide)) (g := (mkF m 1 #[.val (.ref o0), .val (.int p1), .val (.int p2)] [(.ref o0)])) rfl (by rw [hml]; rfl) (Steps.refl _) (a := o0) (argsL := []) (rest := []) (lenOf pd_0 rfl) rfl (by show 2 * 0 + _ ≤ _; exact Nat.le_of_eq rfl) (hb hby d1_1) (fun _ _ => ⟨rfl, e0, (by decide : 0 + 0 ≤ _), (by decide : 0 + 0 ≤ _)⟩)
  dsimp only [Pt.U, Pt.locs, Pt.cells, Pt.slots] at X2 l2 y2 z2 st2 hQ2
  subst l2 y2 z2
  obtain ⟨rfl, Nq2, hh2⟩ := hQ2
  have N2 := Fr.app N0 Nq2
  refine Ends.step (fun _ k => st2.trans k) ?_
  show Ends p e below QQ (T2.setTop (mkF m 4 #[.val (.ref o0), .val (.int p1), .val (.int p2)] []))
  refine Ends.step (fun _ k => XS.aloadN X2.here hx rfl (hb hby d1_4) rfl rfl k) ?_
  show Ends p e below QQ (T2.setTop (mkF m 5 #[.val (.ref o0), .val (.int p1), .val (.int p2)] [(.ref o0)]))
  refine Ends.step (fun _ k => XS.iloadN X2.here hx rfl (hb hby d1_5) rfl k) ?_
  show Ends p e below QQ (T2.setTop (mkF m 6 #[.val (.ref o0), .val (.int p1), .val (.int p2)] [(.int p1), (.ref o0)]))
  obtain ⟨T3, h3, X3, e3, W3, st3⟩ := putF X2 hx hZ hown (host := "") (Or.inl (hw _ (List.mem_of_getElem? (i := 15) rfl))) Via.refl hh2 F_status_o0 E_o0 (Or.inr ⟨(hw _ (List.mem_of_getElem? (i := 16) rfl)), rfl, hnm⟩) (hw _ (List.mem_of_getElem? (i := 2) rfl)) (ty := .int) (by decide) rfl rfl (g := (mkF m 6 #[.val (.ref o0), .val (.int p1), .val (.int p2)] [(.int p1), (.ref o0)])) rfl rfl (hb hby d1_6)
  have E_o0 := E_o0.wr W3
  have F_http10_o0 := F_http10_o0.other W3 (Or.inr (slot_ne (Or.inr (hw _ (List.mem_of_getElem? (i := 18) rfl))) (Or.inr (hw _ (List.mem_of_getElem? (i := 16) rfl))) (by decide) (t := .boolean) (t' := .int) (by decide) (by decide)))
  have F_status_o0 : Fld Z h3 o0 "com/example/gatehook/gatehook/engine/AnswerHead$StatusLine" "status" "I" (.int p1) := F_status_o0.same W3
  have K3 := (Keep.refl h0 [o0]).wr W3 (Or.inl (List.mem_of_getElem? (i := 0) rfl))
  have N3 := Fr.snoc X3 N2 g_o0
  refine Ends.step st3 ?_
  show Ends p e below QQ (T3.setTop (mkF m 9 #[.val (.ref o0), .val (.int p1), .val (.int p2)] []))
  refine Ends.step (fun _ k => XS.aloadN X3.here hx rfl (hb hby d1_9) rfl rfl k) ?_
  show Ends p e below QQ (T3.setTop (mkF m 10 #[.val (.ref o0), .val (.int p1), .val (.int p2)] [(.ref o0)]))
  refine Ends.step (fun _ k => XS.iloadN X3.here hx rfl (hb hby d1_10) rfl k) ?_
  show Ends p e below QQ (T3.setTop (mkF m 11 #[.val (.ref o0), .val (.int p1), .val (.int p2)] [(.int p2), (.ref o0)]))
  obtain ⟨T4, h4, X4, e4, W4, st4⟩ := putFN X3 hx hZ hown (hw _ (List.mem_of_getElem? (i := 17) rfl)) Via.refl e3 F_http10_o0 E_o0 (Or.inr ⟨(hw _ (List.mem_of_getElem? (i := 18) rfl)), rfl, hnm⟩) (hw _ (List.mem_of_getElem? (i := 2) rfl)) (ty := .boolean) (v' := (.int (nar .boolean p2))) (by decide) rfl (fits_nar_bool _) (g := (mkF m 11 #[.val (.ref o0), .val (.int p1), .val (.int p2)] [(.int p2), (.ref o0)])) rfl rfl (hb hby d1_11)
  have E_o0 := E_o0.wr W4
  have F_status_o0 := F_status_o0.other W4 (Or.inr (slot_ne (Or.inr (hw _ (List.mem_of_getElem? (i := 16) rfl))) (Or.inr (hw _ (List.mem_of_getElem? (i := 18) rfl))) (by decide) (t := .int) (t' := .boolean) (by decide) (by decide)))
  have F_http10_o0 : Fld Z h4 o0 "com/example/gatehook/gatehook/engine/AnswerHead$StatusLine" "http10" "Z" (.int (nar .boolean p2)) := F_http10_o0.same W4
  have K4 := K3.wr W4 (Or.inl (List.mem_of_getElem? (i := 0) rfl))
  have N4 := Fr.snoc X4 N3 g_o0
  refine Ends.step st4 ?_
  show Ends p e below QQ (T4.setTop (mkF m 14 #[.val (.ref o0), .val (.int p1), .val (.int p2)] []))
  exact Ends.fin (none) X4 hQQ (fun _ => rfl) Bd.notSynchronized (fun _ hr => X4.returnOut hx Bd.returns (hb hby d1_14) hr) e4 (by decide) (by decide) ⟨rfl, N4, K4, E_o0, F_status_o0, F_http10_o0⟩
theorem d4_0 : decode prog_5_method_3_code 0 = .ok (.aload_n 0, 1) := by decide +kernel
theorem d4_1 : decode prog_5_method_3_code 1 = .ok (.getfield 7, 3) := by decide +kernel
theorem d4_4 : decode prog_5_method_3_code 4 = .ok (.sipush 200, 3) := by decide +kernel
theorem d4_7 : decode prog_5_method_3_code 7 = .ok (.if_icmp .ge 7, 3) := by decide +kernel
theorem d4_10 : decode prog_5_method_3_code 10 = .ok (.iconst 1, 1) := by decide +kernel
theorem d4_11 : decode prog_5_method_3_code 11 = .ok (.goto 4, 3) := by decide +kernel
theorem d4_14 : decode prog_5_method_3_code 14 = .ok (.iconst 0, 1) := by decide +kernel
theorem d4_15 : decode prog_5_method_3_code 15 = .ok (.ireturn, 1) := by decide +kernel
theorem ef_4 (m : MethodId) (x0 : Addr) : entryFrame m #[(.ref x0)] 1 = mkF m 0 #[.val (.ref x0)] [] := by first | (simp [entryFrame, mkF, argsToLocals, Value.category]; done) | rfl
def f4_v15_1 (w : Int32) : Int32 := (if w < (200 : Int32) then (1 : Int32) else (0 : Int32))
def f4 (w : Int32) : Int32 := (f4_v15_1 w)
theorem f4_01 (w : Int32) : f4 w = 0 ∨ f4 w = 1 := by
  simp only [f4, f4_v15_1]
  repeat' split
  all_goals first | exact Or.inl rfl | exact Or.inr rfl
def Q4 (Z : State) (o0 : Addr) (w : Int32) (h0 : Heap) (n0 : Nat) (v : Option Value) (h : Heap) (L : List Loc) : Prop := (v = some (.int (f4 w))) ∧ (Fr n0 L) ∧ (h = h0)
set_option maxRecDepth 65536 in
set_option maxHeartbeats 40000000 in
theorem rm4 (l : Launch) (Z : State) (a0 : Array Value) (hw : ∀ d ∈ tables_1, d.before a0 Z = true) (ws : List Jvm.Cond) (o0 : Addr) (w : Int32) (h0 : Heap) (n0 : Nat) (Z0 : n0 ≤ h0.size) (F_status_o0 : Fld Z h0 o0 "com/example/gatehook/gatehook/engine/AnswerHead$StatusLine" "status" "I" (.int w)) :
    MetFree l (⟨"com/example/gatehook/gatehook/engine/AnswerHead$StatusLine", "isInterim", "()Z"⟩ : MethodName) (head1 (Jvm.Cond.code (⟨"com/example/gatehook/gatehook/engine/AnswerHead$StatusLine", "isInterim", "()Z"⟩ : MethodName) prog_5_method_3_code 1 (some .boolean) :: ws) ({ frames := 0, cells := 0, slots := 0, locals := 0 } : Room)) (fun a U => a = #[(.ref o0)] ∧ Z.Warmed39 U.vm ∧ U.heap = h0) (fun _ _ _ _ _ => True) (fun _ U o U' => ∃ v L, o = .returned v ∧ Q4 Z o0 w h0 n0 v U'.heap L ∧ FrameEnd U o U' L ({ frames := 0, cells := 0, slots := 0, locals := 0 } : Room).cells ({ frames := 0, cells := 0, slots := 0, locals := 0 } : Room).slots) := by
  refine MetFree.of_bodySF (plainFor_of_name pn_1) hisR ?_
  intro p e s m args below meth c s₁ Bd hml0 hP hK
  obtain ⟨rfl, hZ, hh⟩ := hP
  have hx := Bd.exec
  have hby := Bd.bytes
  have hml : c.maxLocals = 1 := hml0
  have hown : s.vm.findClass "com/example/gatehook/gatehook/engine/AnswerHead$StatusLine" = some m.cls := findClass_of_methodNamed Bd.named
  have hnm := (name_of_methodNamed Bd.named Bd.method).1
  have X0 : Stand p l e ({ frames := 0, cells := 0, slots := 0, locals := 0 } : Room) s m #[(.ref o0)] below meth c s₁ [] 0 0 := Stand.of_body Bd
  have e0 : s₁.heap = h0 := by rw [← hh, Bd.state]; rfl
  have N0 := Fr.nil n0
  refine Ends.opn ?_
  intro QQ hQQ
  refine Ends.step (S' := s₁.setTop (mkF m 0 #[.val (.ref o0)] [])) (fun t k => castTop (ef_4 m o0) k) ?_
  show Ends p e below QQ (s₁.setTop (mkF m 0 #[.val (.ref o0)] []))
  refine Ends.step (fun _ k => XS.aloadN X0.here hx rfl (hb hby d4_0) rfl rfl k) ?_
  show Ends p e below QQ (s₁.setTop (mkF m 1 #[.val (.ref o0)] [(.ref o0)]))
  obtain ⟨T5, X5, e5, st5⟩ := getF X0 hx hZ hown (host := "") (Or.inl (hw _ (List.mem_of_getElem? (i := 15) rfl))) Via.refl e0 F_status_o0 (g := (mkF m 1 #[.val (.ref o0)] [(.ref o0)])) rfl rfl (hb hby d4_1)
  refine Ends.step st5 ?_
  show Ends p e below QQ (T5.setTop (mkF m 4 #[.val (.ref o0)] [(.int w)]))
  refine Ends.step (fun _ k => XT.sipushV X5.here hx rfl (200 : Int32) (hb hby d4_4) rfl k) ?_
  show Ends p e below QQ (T5.setTop (mkF m 7 #[.val (.ref o0)] [(.int (200 : Int32)), (.int w)]))
  have J15_6 : (∀ (v15_1 : Int32) (hv15_1 : v15_1 = (if w < (200 : Int32) then (1 : Int32) else (0 : Int32))), Ends p e below QQ (T5.setTop (mkF m 15 #[.val (.ref o0)] [(.int v15_1)]))) → Ends p e below QQ (T5.setTop (mkF m 7 #[.val (.ref o0)] [(.int (200 : Int32)), (.int w)])) := by
    intro hJ
    by_cases hc7_7 : w < (200 : Int32)
    · refine Ends.step (fun _ k => XS.icmpNo X5.here hx rfl (hb hby d4_7) rfl (XT.ii_ge_f hc7_7) k) ?_
      show Ends p e below QQ (T5.setTop (mkF m 10 #[.val (.ref o0)] []))
      refine Ends.step (fun _ k => XT.iconstV X5.here hx rfl (1 : Int32) (hb hby d4_10) rfl k) ?_
      show Ends p e below QQ (T5.setTop (mkF m 11 #[.val (.ref o0)] [(.int (1 : Int32))]))
      refine Ends.step (fun _ k => XS.goto X5.here hx rfl (pc0 := 11) (pc' := 15) rfl (hb hby d4_11) (by decide) (by decide) k) ?_
      exact hJ _ (by simp only [if_pos hc7_7])
    · refine Ends.step (fun _ k => XS.icmpYes X5.here hx rfl (pc0 := 7) (pc' := 14) rfl (hb hby d4_7) rfl (XT.ii_ge_t hc7_7) (by decide) (by decide) k) ?_
      show Ends p e below QQ (T5.setTop (mkF m 14 #[.val (.ref o0)] []))
      refine Ends.step (fun _ k => XT.iconstV X5.here hx rfl (0 : Int32) (hb hby d4_14) rfl k) ?_
      exact hJ _ (by simp only [if_neg hc7_7])
  refine J15_6 fun v15_1 hv15_1 => ?_
  have dv15_1 : f4_v15_1 w = v15_1 := by
    simp only [f4_v15_1]
    exact hv15_1.symm
  show Ends p e below QQ (T5.setTop (mkF m 15 #[.val (.ref o0)] [(.int v15_1)]))
  exact Ends.fin (some (.int v15_1)) X5 hQQ (fun h => by rw [Bd.returns] at h; cases h) Bd.notSynchronized (fun _ hr => retOut X5 hx (t := .boolean) Bd.returns (by rw [hv15_1]; exact own_narB (by repeat' (first | exact Or.inl rfl | exact Or.inr rfl | split))) (Or.inl ⟨rfl, (by simp), _, rfl⟩) (hb hby d4_15) hr) e5 (by decide) (by decide) ⟨(by simp only [f4, dv15_1]), N0, rfl⟩
theorem ef_0 (m : MethodId) (x0 : Int32) (x1 : Int32) : entryFrame m #[(.int x0), (.int x1)] maxLocals = mkF m 0 #[.val (.int x0), .val (.int x1), .unset, .unset, .unset, .unset] [] := by first | (simp [entryFrame, mkF, argsToLocals, Value.category, maxLocals]; done) | rfl
def f0_x2_1 (p0 : Int32) (p1 : Int32) : Int32 := ((100 : Int32) + ((p0 &&& (2147483647 : Int32)) % (900 : Int32)))
def f0_v23_2 (p0 : Int32) (p1 : Int32) : Int32 := (if (p1 &&& (1 : Int32)) = (0 : Int32) then (0 : Int32) else (1 : Int32))
def f0_v48_3 (p0 : Int32) (p1 : Int32) : Int32 := (if ((f0_x2_1 p0 p1) / (100 : Int32)) = (1 : Int32) then (1 : Int32) else (0 : Int32))
def f0_v65_4 (p0 : Int32) (p1 : Int32) : Int32 := (if (f4 (f0_x2_1 p0 p1)) = (f0_v48_3 p0 p1) then (1 : Int32) else (0 : Int32))
def f0 (p0 : Int32) (p1 : Int32) : Int32 := (f0_v65_4 p0 p1)
def Q0 (Z : State) (p0 : Int32) (p1 : Int32) (h0 : Heap) (n0 : Nat) (v : Option Value) (h : Heap) (L : List Loc) : Prop := (v = some (.int (f0 p0 p1))) ∧ (Fr n0 L) ∧ (Keep h0 h [])
set_option maxRecDepth 65536 in
set_option maxHeartbeats 40000000 in
theorem rm0 (l : Launch) (Z : State) (a0 : Array Value) (hw : ∀ d ∈ tables_1, d.before a0 Z = true) (ws : List Jvm.Cond) (p0 : Int32) (p1 : Int32) (h0 : Heap) (n0 : Nat) (Z0 : n0 ≤ h0.size) :
    MetFree l x (head1 (Jvm.Cond.code x code maxLocals ret :: ws) room_1) (fun a U => a = #[(.int p0), (.int p1)] ∧ Z.Warmed39 U.vm ∧ U.heap = h0) (fun _ _ _ _ _ => True) (fun _ U o U' => ∃ v L, o = .returned v ∧ Q0 Z p0 p1 h0 n0 v U'.heap L ∧ FrameEnd U o U' L room_1.cells room_1.slots) := by
  refine MetFree.of_bodySF (plainFor_of_name pn_2) hisR ?_
  intro p e s m args below meth c s₁ Bd hml0 hP hK
  obtain ⟨rfl, hZ, hh⟩ := hP
  have hx := Bd.exec
  have hby := Bd.bytes
  have hml : c.maxLocals = 6 := hml0
  have hown : s.vm.findClass "com/example/gatehook/gatehook/engine/StatusLineIsInterimPinLaw" = some m.cls := findClass_of_methodNamed Bd.named
  have hnm := (name_of_methodNamed Bd.named Bd.method).1
  have X0 : Stand p l e room_1 s m #[(.int p0), (.int p1)] below meth c s₁ [] 0 0 := Stand.of_body Bd
  have e0 : s₁.heap = h0 := by rw [← hh, Bd.state]; rfl
  have N0 := Fr.nil n0
  refine Ends.opn ?_
  intro QQ hQQ
  refine Ends.step (S' := s₁.setTop (mkF m 0 #[.val (.int p0), .val (.int p1), .unset, .unset, .unset, .unset] [])) (fun t k => castTop (ef_0 m p0 p1) k) ?_
  show Ends p e below QQ (s₁.setTop (mkF m 0 #[.val (.int p0), .val (.int p1), .unset, .unset, .unset, .unset] []))
  refine Ends.step (fun _ k => XT.bipushV X0.here hx rfl (100 : Int32) (hb hby at_0) rfl k) ?_
  show Ends p e below QQ (s₁.setTop (mkF m 2 #[.val (.int p0), .val (.int p1), .unset, .unset, .unset, .unset] [(.int (100 : Int32))]))
  refine Ends.step (fun _ k => XS.iloadN X0.here hx rfl (hb hby at_2) rfl k) ?_
  show Ends p e below QQ (s₁.setTop (mkF m 3 #[.val (.int p0), .val (.int p1), .unset, .unset, .unset, .unset] [(.int p0), (.int (100 : Int32))]))
  refine Ends.step (fun _ k => X0.ldcI hx hown (mvT hZ (hw _ (List.mem_of_getElem? (i := 0) rfl))) (g := (mkF m 3 #[.val (.int p0), .val (.int p1), .unset, .unset, .unset, .unset] [(.int p0), (.int (100 : Int32))])) rfl (hb hby at_3) k) ?_
  show Ends p e below QQ (s₁.setTop (mkF m 5 #[.val (.int p0), .val (.int p1), .unset, .unset, .unset, .unset] [(.int (2147483647 : Int32)), (.int p0), (.int (100 : Int32))]))
  refine Ends.step (fun _ k => XS.iand X0.here hx rfl (hb hby at_5) rfl k) ?_
  show Ends p e below QQ (s₁.setTop (mkF m 6 #[.val (.int p0), .val (.int p1), .unset, .unset, .unset, .unset] [(.int (p0 &&& (2147483647 : Int32))), (.int (100 : Int32))]))
  refine Ends.step (fun _ k => XT.sipushV X0.here hx rfl (900 : Int32) (hb hby at_6) rfl k) ?_
  show Ends p e below QQ (s₁.setTop (mkF m 9 #[.val (.int p0), .val (.int p1), .unset, .unset, .unset, .unset] [(.int (900 : Int32)), (.int (p0 &&& (2147483647 : Int32))), (.int (100 : Int32))]))
  refine Ends.step (fun _ k => iremM (g := (mkF m 9 #[.val (.int p0), .val (.int p1), .unset, .unset, .unset, .unset] [(.int (900 : Int32)), (.int (p0 &&& (2147483647 : Int32))), (.int (100 : Int32))])) X0 hx rfl (hb hby at_9) rfl (by decide) k) ?_
  show Ends p e below QQ (s₁.setTop (mkF m 10 #[.val (.int p0), .val (.int p1), .unset, .unset, .unset, .unset] [(.int ((p0 &&& (2147483647 : Int32)) % (900 : Int32))), (.int (100 : Int32))]))
  refine Ends.step (fun _ k => XS.iadd X0.here hx rfl (hb hby at_10) rfl k) ?_
  show Ends p e below QQ (s₁.setTop (mkF m 11 #[.val (.int p0), .val (.int p1), .unset, .unset, .unset, .unset] [(.int ((100 : Int32) + ((p0 &&& (2147483647 : Int32)) % (900 : Int32))))]))
  refine Ends.step (fun _ k => XS.istoreN X0.here hx rfl (hb hby at_11) rfl (l' := #[.val (.int p0), .val (.int p1), .val (.int ((100 : Int32) + ((p0 &&& (2147483647 : Int32)) % (900 : Int32)))), .unset, .unset, .unset]) rfl k) ?_
  show Ends p e below QQ (s₁.setTop (mkF m 12 #[.val (.int p0), .val (.int p1), .val (.int ((100 : Int32) + ((p0 &&& (2147483647 : Int32)) % (900 : Int32)))), .unset, .unset, .unset] []))
  generalize hv2_1 : ((100 : Int32) + ((p0 &&& (2147483647 : Int32)) % (900 : Int32))) = x2_1
  have dx2_1 : f0_x2_1 p0 p1 = x2_1 := by
    simp only [f0_x2_1]
    exact hv2_1
  show Ends p e below QQ (s₁.setTop (mkF m 12 #[.val (.int p0), .val (.int p1), .val (.int x2_1), .unset, .unset, .unset] []))
  refine Ends.step (fun _ k => XS.iloadN X0.here hx rfl (hb hby at_12) rfl k) ?_
  show Ends p e below QQ (s₁.setTop (mkF m 13 #[.val (.int p0), .val (.int p1), .val (.int x2_1), .unset, .unset, .unset] [(.int p1)]))
  refine Ends.step (fun _ k => XT.iconstV X0.here hx rfl (1 : Int32) (hb hby at_13) rfl k) ?_
  show Ends p e below QQ (s₁.setTop (mkF m 14 #[.val (.int p0), .val (.int p1), .val (.int x2_1), .unset, .unset, .unset] [(.int (1 : Int32)), (.int p1)]))
  refine Ends.step (fun _ k => XS.iand X0.here hx rfl (hb hby at_14) rfl k) ?_
  show Ends p e below QQ (s₁.setTop (mkF m 15 #[.val (.int p0), .val (.int p1), .val (.int x2_1), .unset, .unset, .unset] [(.int (p1 &&& (1 : Int32)))]))
  have J23_8 : (∀ (v23_2 : Int32) (hv23_2 : v23_2 = (if (p1 &&& (1 : Int32)) = (0 : Int32) then (0 : Int32) else (1 : Int32))), Ends p e below QQ (s₁.setTop (mkF m 23 #[.val (.int p0), .val (.int p1), .val (.int x2_1), .unset, .unset, .unset] [(.int v23_2)]))) → Ends p e below QQ (s₁.setTop (mkF m 15 #[.val (.int p0), .val (.int p1), .val (.int x2_1), .unset, .unset, .unset] [(.int (p1 &&& (1 : Int32)))])) := by
    intro hJ
    by_cases hc15_9 : (p1 &&& (1 : Int32)) = (0 : Int32)
    · refine Ends.step (fun _ k => XS.ifYes X0.here hx rfl (pc0 := 15) (pc' := 22) rfl (hb hby at_15) rfl (XT.i0_eq_t hc15_9) (by decide) (by decide) k) ?_
      show Ends p e below QQ (s₁.setTop (mkF m 22 #[.val (.int p0), .val (.int p1), .val (.int x2_1), .unset, .unset, .unset] []))
      refine Ends.step (fun _ k => XT.iconstV X0.here hx rfl (0 : Int32) (hb hby at_22) rfl k) ?_
      exact hJ _ (by simp only [if_pos hc15_9])
    · refine Ends.step (fun _ k => XS.ifNo X0.here hx rfl (hb hby at_15) rfl (XT.i0_eq_f hc15_9) k) ?_
      show Ends p e below QQ (s₁.setTop (mkF m 18 #[.val (.int p0), .val (.int p1), .val (.int x2_1), .unset, .unset, .unset] []))
      refine Ends.step (fun _ k => XT.iconstV X0.here hx rfl (1 : Int32) (hb hby at_18) rfl k) ?_
      show Ends p e below QQ (s₁.setTop (mkF m 19 #[.val (.int p0), .val (.int p1), .val (.int x2_1), .unset, .unset, .unset] [(.int (1 : Int32))]))
      refine Ends.step (fun _ k => XS.goto X0.here hx rfl (pc0 := 19) (pc' := 23) rfl (hb hby at_19) (by decide) (by decide) k) ?_
      exact hJ _ (by simp only [if_neg hc15_9])
  refine J23_8 fun v23_2 hv23_2 => ?_
  have dv23_2 : f0_v23_2 p0 p1 = v23_2 := by
    simp only [f0_v23_2]
    exact hv23_2.symm
  show Ends p e below QQ (s₁.setTop (mkF m 23 #[.val (.int p0), .val (.int p1), .val (.int x2_1), .unset, .unset, .unset] [(.int v23_2)]))
  refine Ends.step (fun _ k => XS.istoreN X0.here hx rfl (hb hby at_23) rfl (l' := #[.val (.int p0), .val (.int p1), .val (.int x2_1), .val (.int v23_2), .unset, .unset]) rfl k) ?_
  show Ends p e below QQ (s₁.setTop (mkF m 24 #[.val (.int p0), .val (.int p1), .val (.int x2_1), .val (.int v23_2), .unset, .unset] []))
  obtain ⟨T10, h10, X10, e10, E10, A10, D10, U10, st10⟩ := newO X0 hx hZ hown (hw _ (List.mem_of_getElem? (i := 1) rfl)) (hw _ (List.mem_of_getElem? (i := 2) rfl)) (hw _ (List.mem_of_getElem? (i := 3) rfl)) e0 (g := (mkF m 24 #[.val (.int p0), .val (.int p1), .val (.int x2_1), .val (.int v23_2), .unset, .unset] [])) rfl (hb hby at_24) (by decide) (by decide)
  obtain ⟨b10, g10⟩ : ∃ z, z = h0.size := ⟨_, rfl⟩
  rw [← g10] at A10 D10 U10 st10
  have g_b10 : n0 ≤ b10 := Nat.le_trans Z0 (Nat.le_trans (Keep.refl h0 []).1 (Nat.le_of_eq g10.symm))
  have sz_b10 : h0.size ≤ b10 := Nat.le_trans (Keep.refl h0 []).1 (Nat.le_of_eq g10.symm)
  have K10 := (Keep.refl h0 []).ext E10
  have E_b10 := A10
  have F_status_b10 : Fld Z h10 b10 "com/example/gatehook/gatehook/engine/AnswerHead$StatusLine" "status" "I" (.int (0 : Int32)) := D10 (Or.inr (hw _ (List.mem_of_getElem? (i := 16) rfl))) (ty := .int) (by decide)
  have F_http10_b10 : Fld Z h10 b10 "com/example/gatehook/gatehook/engine/AnswerHead$StatusLine" "http10" "Z" (.int (0 : Int32)) := D10 (Or.inr (hw _ (List.mem_of_getElem? (i := 18) rfl))) (ty := .boolean) (by decide)
  refine Ends.step st10 ?_
  show Ends p e below QQ (T10.setTop (mkF m 27 #[.val (.int p0), .val (.int p1), .val (.int x2_1), .val (.int v23_2), .unset, .unset] [(.ref b10)]))
  refine Ends.step (fun _ k => XS.dup X10.here hx rfl (hb hby at_27) rfl rfl k) ?_
  show Ends p e below QQ (T10.setTop (mkF m 28 #[.val (.int p0), .val (.int p1), .val (.int x2_1), .val (.int v23_2), .unset, .unset] [(.ref b10), (.ref b10)]))
  refine Ends.step (fun _ k => XS.iloadN X10.here hx rfl (hb hby at_28) rfl k) ?_
  show Ends p e below QQ (T10.setTop (mkF m 29 #[.val (.int p0), .val (.int p1), .val (.int x2_1), .val (.int v23_2), .unset, .unset] [(.int x2_1), (.ref b10), (.ref b10)]))
  refine Ends.step (fun _ k => XS.iloadN X10.here hx rfl (hb hby at_29) rfl k) ?_
  show Ends p e below QQ (T10.setTop (mkF m 30 #[.val (.int p0), .val (.int p1), .val (.int x2_1), .val (.int v23_2), .unset, .unset] [(.int v23_2), (.int x2_1), (.ref b10), (.ref b10)]))
  obtain ⟨_, _, ⟨T11, L11, k11, n11⟩, -, X11, ⟨Lc11, hQ11, l11, y11, z11⟩, st11⟩ := X10.specialBack hx (y := (⟨"com/example/gatehook/gatehook/engine/AnswerHead$StatusLine", "<init>", "(IZ)V"⟩ : MethodName)) rfl hown (mvT hZ (hw _ (List.mem_of_getElem? (i := 4) rfl))) (mvT hZ (hw _ (List.mem_of_getElem? (i := 5) rfl))) (mvT hZ (hw _ (List.mem_of_getElem? (i := 6) rfl))) (by decide) (backOf (W := 1) (rm1 l Z a0 hw [] b10 x2_1 v23_2 (0 : Int32) (0 : Int32) h10 n0 (Nat.le_trans Z0 K10.1) E_b10 F_status_b10 F_http10_b10 g_b10) hZ (hw _ (List.mem_of_getElem? (i := 6) rfl)) (hw _ (List.mem_of_getElem? (i := 3) rfl)) (by decide) (by decide)) (g := (mkF m 30 #[.val (.int p0), .val (.int p1), .val (.int x2_1), .val (.int v23_2), .unset, .unset] [(.int v23_2), (.int x2_1), (.ref b10), (.ref b10)])) rfl (by rw [hml]; rfl) (Steps.refl _) (a := b10) (argsL := [(.int x2_1), (.int v23_2)]) (rest := [(.ref b10)]) (lenOf pd_1 rfl) rfl (by show 2 * 0 + _ ≤ _; exact Nat.le_of_eq rfl) (hb hby at_30) (fun _ _ => ⟨rfl, e10, (by decide : 1 + 0 ≤ _), (by decide : 2 + 0 ≤ _)⟩)
  dsimp only [Pt.U, Pt.locs, Pt.cells, Pt.slots] at X11 l11 y11 z11 st11 hQ11
  subst l11 y11 z11
  obtain ⟨rfl, Nq11, Kq11, fq11_0, fq11_1, fq11_2⟩ := hQ11
  have N11 := Fr.app N0 Nq11
  have E_b10 := fq11_0
  have F_status_b10 := fq11_1
  have F_http10_b10 := fq11_2
  have K11 := K10.trans Kq11 (allS (Or.inr sz_b10) all0)
  refine Ends.step (fun _ k => st11.trans k) ?_
  show Ends p e below QQ (T11.setTop (mkF m 33 #[.val (.int p0), .val (.int p1), .val (.int x2_1), .val (.int v23_2), .unset, .unset] [(.ref b10)]))
  refine Ends.step (fun _ k => XS.astore X11.here hx rfl (hb hby at_33) rfl rfl (l' := #[.val (.int p0), .val (.int p1), .val (.int x2_1), .val (.int v23_2), .val (.ref b10), .unset]) rfl k) ?_
  show Ends p e below QQ (T11.setTop (mkF m 35 #[.val (.int p0), .val (.int p1), .val (.int x2_1), .val (.int v23_2), .val (.ref b10), .unset] []))
  refine Ends.step (fun _ k => XS.iloadN X11.here hx rfl (hb hby at_35) rfl k) ?_
  show Ends p e below QQ (T11.setTop (mkF m 36 #[.val (.int p0), .val (.int p1), .val (.int x2_1), .val (.int v23_2), .val (.ref b10), .unset] [(.int x2_1)]))
  refine Ends.step (fun _ k => XT.bipushV X11.here hx rfl (100 : Int32) (hb hby at_36) rfl k) ?_
  show Ends p e below QQ (T11.setTop (mkF m 38 #[.val (.int p0), .val (.int p1), .val (.int x2_1), .val (.int v23_2), .val (.ref b10), .unset] [(.int (100 : Int32)), (.int x2_1)]))
  refine Ends.step (fun _ k => XS.idiv X11.here hx rfl (hb hby at_38) rfl (by decide) k) ?_
  show Ends p e below QQ (T11.setTop (mkF m 39 #[.val (.int p0), .val (.int p1), .val (.int x2_1), .val (.int v23_2), .val (.ref b10), .unset] [(.int (x2_1 / (100 : Int32)))]))
  refine Ends.step (fun _ k => XT.iconstV X11.here hx rfl (1 : Int32) (hb hby at_39) rfl k) ?_
  show Ends p e below QQ (T11.setTop (mkF m 40 #[.val (.int p0), .val (.int p1), .val (.int x2_1), .val (.int v23_2), .val (.ref b10), .unset] [(.int (1 : Int32)), (.int (x2_1 / (100 : Int32)))]))
  have J48_12 : (∀ (v48_3 : Int32) (hv48_3 : v48_3 = (if (x2_1 / (100 : Int32)) = (1 : Int32) then (1 : Int32) else (0 : Int32))), Ends p e below QQ (T11.setTop (mkF m 48 #[.val (.int p0), .val (.int p1), .val (.int x2_1), .val (.int v23_2), .val (.ref b10), .unset] [(.int v48_3)]))) → Ends p e below QQ (T11.setTop (mkF m 40 #[.val (.int p0), .val (.int p1), .val (.int x2_1), .val (.int v23_2), .val (.ref b10), .unset] [(.int (1 : Int32)), (.int (x2_1 / (100 : Int32)))])) := by
    intro hJ
    by_cases hc40_13 : (x2_1 / (100 : Int32)) = (1 : Int32)
    · refine Ends.step (fun _ k => XS.icmpNo X11.here hx rfl (hb hby at_40) rfl (XT.ii_ne_f hc40_13) k) ?_
      show Ends p e below QQ (T11.setTop (mkF m 43 #[.val (.int p0), .val (.int p1), .val (.int x2_1), .val (.int v23_2), .val (.ref b10), .unset] []))
      refine Ends.step (fun _ k => XT.iconstV X11.here hx rfl (1 : Int32) (hb hby at_43) rfl k) ?_
      show Ends p e below QQ (T11.setTop (mkF m 44 #[.val (.int p0), .val (.int p1), .val (.int x2_1), .val (.int v23_2), .val (.ref b10), .unset] [(.int (1 : Int32))]))
      refine Ends.step (fun _ k => XS.goto X11.here hx rfl (pc0 := 44) (pc' := 48) rfl (hb hby at_44) (by decide) (by decide) k) ?_
      exact hJ _ (by simp only [if_pos hc40_13])
    · refine Ends.step (fun _ k => XS.icmpYes X11.here hx rfl (pc0 := 40) (pc' := 47) rfl (hb hby at_40) rfl (XT.ii_ne_t hc40_13) (by decide) (by decide) k) ?_
      show Ends p e below QQ (T11.setTop (mkF m 47 #[.val (.int p0), .val (.int p1), .val (.int x2_1), .val (.int v23_2), .val (.ref b10), .unset] []))
      refine Ends.step (fun _ k => XT.iconstV X11.here hx rfl (0 : Int32) (hb hby at_47) rfl k) ?_
      exact hJ _ (by simp only [if_neg hc40_13])
  refine J48_12 fun v48_3 hv48_3 => ?_
  have dv48_3 : f0_v48_3 p0 p1 = v48_3 := by
    simp only [f0_v48_3, dx2_1]
    exact hv48_3.symm
  show Ends p e below QQ (T11.setTop (mkF m 48 #[.val (.int p0), .val (.int p1), .val (.int x2_1), .val (.int v23_2), .val (.ref b10), .unset] [(.int v48_3)]))
  refine Ends.step (fun _ k => XS.istore X11.here hx rfl (hb hby at_48) rfl (l' := #[.val (.int p0), .val (.int p1), .val (.int x2_1), .val (.int v23_2), .val (.ref b10), .val (.int v48_3)]) rfl k) ?_
  show Ends p e below QQ (T11.setTop (mkF m 50 #[.val (.int p0), .val (.int p1), .val (.int x2_1), .val (.int v23_2), .val (.ref b10), .val (.int v48_3)] []))
  refine Ends.step (fun _ k => XS.aload X11.here hx rfl (hb hby at_50) rfl rfl k) ?_
  show Ends p e below QQ (T11.setTop (mkF m 52 #[.val (.int p0), .val (.int p1), .val (.int x2_1), .val (.int v23_2), .val (.ref b10), .val (.int v48_3)] [(.ref b10)]))
  obtain ⟨cq14, kq14, q14a, q14b, q14c⟩ := isOf hZ rfl E_b10
  obtain ⟨_, _, ⟨T14, L14, k14, n14⟩, -, X14, ⟨Lc14, hQ14, l14, y14, z14⟩, st14⟩ := X11.virtualBack hx (y := (⟨"com/example/gatehook/gatehook/engine/AnswerHead$StatusLine", "isInterim", "()Z"⟩ : MethodName)) (z := (⟨"com/example/gatehook/gatehook/engine/AnswerHead$StatusLine", "isInterim", "()Z"⟩ : MethodName)) hown (mvT hZ (hw _ (List.mem_of_getElem? (i := 19) rfl))) (mvT hZ (hw _ (List.mem_of_getElem? (i := 20) rfl))) (notFace_of_selects (args := #[]) (mvT hZ (hw _ (List.mem_of_getElem? (i := 22) rfl)))) (mvT hZ (hw _ (List.mem_of_getElem? (i := 22) rfl))) (mvT hZ (hw _ (List.mem_of_getElem? (i := 21) rfl))) (by decide) (backOf (W := 0) (rm4 l Z a0 hw [] b10 x2_1 T11.heap n0 (Nat.le_trans Z0 K11.1) F_status_b10) hZ (hw _ (List.mem_of_getElem? (i := 23) rfl)) (hw _ (List.mem_of_getElem? (i := 3) rfl)) (by decide) (by decide)) q14a q14c (g := (mkF m 52 #[.val (.int p0), .val (.int p1), .val (.int x2_1), .val (.int v23_2), .val (.ref b10), .val (.int v48_3)] [(.ref b10)])) rfl (by rw [hml]; rfl) (Steps.refl _) (argsL := []) (rest := []) (lenOf pd_2 rfl) rfl (by show 2 * 0 + _ ≤ _; exact Nat.le_of_eq rfl) (hb hby at_52) (fun _ _ => ⟨rfl, rfl, (by decide : 1 + 0 ≤ _), (by decide : 2 + 0 ≤ _)⟩)
  dsimp only [Pt.U, Pt.locs, Pt.cells, Pt.slots] at X14 l14 y14 z14 st14 hQ14
  subst l14 y14 z14
  obtain ⟨rfl, Nq14, hh14⟩ := hQ14
  have N14 := Fr.app N11 Nq14
  refine Ends.step (fun _ k => st14.trans k) ?_
  show Ends p e below QQ (T14.setTop (mkF m 55 #[.val (.int p0), .val (.int p1), .val (.int x2_1), .val (.int v23_2), .val (.ref b10), .val (.int v48_3)] [(.int (f4 x2_1))]))
  refine Ends.step (fun _ k => XS.iload X14.here hx rfl (hb hby at_55) rfl k) ?_
  show Ends p e below QQ (T14.setTop (mkF m 57 #[.val (.int p0), .val (.int p1), .val (.int x2_1), .val (.int v23_2), .val (.ref b10), .val (.int v48_3)] [(.int v48_3), (.int (f4 x2_1))]))
  have J65_15 : (∀ (v65_4 : Int32) (hv65_4 : v65_4 = (if (f4 x2_1) = v48_3 then (1 : Int32) else (0 : Int32))), Ends p e below QQ (T14.setTop (mkF m 65 #[.val (.int p0), .val (.int p1), .val (.int x2_1), .val (.int v23_2), .val (.ref b10), .val (.int v48_3)] [(.int v65_4)]))) → Ends p e below QQ (T14.setTop (mkF m 57 #[.val (.int p0), .val (.int p1), .val (.int x2_1), .val (.int v23_2), .val (.ref b10), .val (.int v48_3)] [(.int v48_3), (.int (f4 x2_1))])) := by
    intro hJ
    by_cases hc57_16 : (f4 x2_1) = v48_3
    · refine Ends.step (fun _ k => XS.icmpNo X14.here hx rfl (hb hby at_57) rfl (XT.ii_ne_f hc57_16) k) ?_
      show Ends p e below QQ (T14.setTop (mkF m 60 #[.val (.int p0), .val (.int p1), .val (.int x2_1), .val (.int v23_2), .val (.ref b10), .val (.int v48_3)] []))
      refine Ends.step (fun _ k => XT.iconstV X14.here hx rfl (1 : Int32) (hb hby at_60) rfl k) ?_
      show Ends p e below QQ (T14.setTop (mkF m 61 #[.val (.int p0), .val (.int p1), .val (.int x2_1), .val (.int v23_2), .val (.ref b10), .val (.int v48_3)] [(.int (1 : Int32))]))
      refine Ends.step (fun _ k => XS.goto X14.here hx rfl (pc0 := 61) (pc' := 65) rfl (hb hby at_61) (by decide) (by decide) k) ?_
      exact hJ _ (by simp only [if_pos hc57_16])
    · refine Ends.step (fun _ k => XS.icmpYes X14.here hx rfl (pc0 := 57) (pc' := 64) rfl (hb hby at_57) rfl (XT.ii_ne_t hc57_16) (by decide) (by decide) k) ?_
      show Ends p e below QQ (T14.setTop (mkF m 64 #[.val (.int p0), .val (.int p1), .val (.int x2_1), .val (.int v23_2), .val (.ref b10), .val (.int v48_3)] []))
      refine Ends.step (fun _ k => XT.iconstV X14.here hx rfl (0 : Int32) (hb hby at_64) rfl k) ?_
      exact hJ _ (by simp only [if_neg hc57_16])
  refine J65_15 fun v65_4 hv65_4 => ?_
  have dv65_4 : f0_v65_4 p0 p1 = v65_4 := by
    simp only [f0_v65_4, dx2_1, dv48_3]
    exact hv65_4.symm
  show Ends p e below QQ (T14.setTop (mkF m 65 #[.val (.int p0), .val (.int p1), .val (.int x2_1), .val (.int v23_2), .val (.ref b10), .val (.int v48_3)] [(.int v65_4)]))
  exact Ends.fin (some (.int v65_4)) X14 hQQ (fun h => by rw [Bd.returns] at h; cases h) Bd.notSynchronized (fun _ hr => retOut X14 hx (t := .boolean) Bd.returns (by rw [hv65_4]; exact own_narB (by repeat' (first | exact Or.inl rfl | exact Or.inr rfl | split))) (Or.inl ⟨rfl, (by simp), _, rfl⟩) (hb hby at_65) hr) hh14 (by decide) (by decide) ⟨(by simp only [f0, dx2_1, dv23_2, dv48_3, dv65_4]), N14, K11⟩
theorem own_law (x y : Int32) : f0 x y = 1 := by
  have e1 := c_mask x 2147483647 31 (by decide) (by decide)
  generalize hm : x &&& 2147483647 = m at e1
  have e2 := (c_irem m 900 900 (by decide)).1 (by omega)
  generalize hr : m % 900 = r at e2
  have e3 := c_iadd 100 r
  have l1 := (100 + r : Int32).toInt_lt; have l2 := (100 + r : Int32).le_toInt
  simp only [Int32.reduceToInt] at e3
  have e4 := (c_idiv (100 + r) 100 100 (by decide) (by decide)).1 (by omega)
  have hx : f0_x2_1 x y = 100 + r := by simp only [f0_x2_1, hm, hr]
  have key : f4 (100 + r) = f0_v48_3 x y := by
    simp only [f4, f4_v15_1, f0_v48_3, hx]
    by_cases h : (100 + r : Int32) < 200
    · have q : (100 + r) / 100 = (1 : Int32) := by
        apply Int32.toInt_inj.mp
        simp only [Int32.lt_iff_toInt_lt, Int32.reduceToInt] at h
        simp only [e4, Int32.reduceToInt]; omega
      rw [if_pos h, if_pos q]
    · have q : ¬ (100 + r) / 100 = (1 : Int32) := by
        intro q
        have q := congrArg Int32.toInt q
        simp only [Int32.lt_iff_toInt_lt, Int32.reduceToInt] at h
        simp only [e4, Int32.reduceToInt] at q; omega
      rw [if_neg h, if_neg q]
  simp only [f0, f0_v65_4, hx]
  rw [if_pos key]
set_option maxRecDepth 65536 in
set_option maxHeartbeats 40000000 in
theorem comes_1 {Post : Tables → Env → Array Value → State → Outcome → State → Prop} (hpost : ∀ tb e args s v u, (limb_1_1.after args s (.returned v) u = true ∧ limb_1_2.after args s (.returned v) u = true ∧ True) → FrameEnd s (.returned v) u (Jvm.fieldLocs frame_1_writes args s ++ Jvm.arrayLocs frame_1_arrays args s ++ Jvm.staticLocs frame_1_statics s) 16 128 → Post tb e args s (.returned v) u) :
    ArmFor flags0 classFile x code maxLocals ret World_1 tables_1 room_1 Calls_1 rest_1 Pre_1 Post := by
  intro l hfl _ _ p e ha hc hk s m args below hf hA hF happ hP
  obtain ⟨hcalls, hrest, hpre⟩ := hP
  obtain ⟨-, -, -, hnamed, -, -, -, hat⟩ := (Spec.applies_iff hf).mp happ
  obtain ⟨hg, hn⟩ := and_e (Cond.before_iff.mp (show (Jvm.Cond.and given_1 narrow_1).before args s = true from hpre))
  obtain ⟨gl1, gr1⟩ := and_e hg
  obtain ⟨gl2, gr2⟩ := and_e gr1
  obtain ⟨w0, w1, rfl⟩ : ∃ w0 w1 : Value, args = #[w0, w1] := by
    have hs : args.size = 2 := by simpa [Cond.value, given_1] using gl1
    obtain ⟨L⟩ := args
    match L, hs with
    | [w0, w1], _ => exact ⟨w0, w1, rfl⟩
  have hw := fun d (hd : d ∈ tables_1) => atoms_spec (ws := Jvm.Cond.code x code maxLocals ret :: tables_1) hat d (List.mem_cons_of_mem _ hd)
  have hfit : Fit s := fun {y c} hc i hi => by
    obtain ⟨ha, rfl⟩ := Array.getElem?_eq_some_iff.mp hc
    have q := List.all_eq_true.mp ((Array.all_eq_true_iff_forall_mem.mp hF) _ (Array.getElem_mem ha)) i (List.mem_range.mpr hi)
    simpa [Array.getElem?_eq_getElem hi] using q
  obtain ⟨i0, ei0⟩ := is_v gl2
  obtain rfl : w0 = (.int i0) := Option.some.inj ei0
  obtain ⟨i1, ei1⟩ := is_v gr2
  obtain rfl : w1 = (.int i1) := Option.some.inj ei1
  obtain ⟨n, o, h1, h2, h3, _, L, rfl, hQ, hq⟩ := rm0 l s _ hw tables_1 i0 i1 s.heap s.heap.size (Nat.le_refl _)  p e ha hc hk s m _ below hf ((Spec.applies_iff_loose hf).mp happ).1 ⟨rfl, State.Warmed39.refl s, rfl⟩ trivial
  obtain ⟨hv, N, -⟩ := hQ
  have hlaw : (f0 i0 i1) = 1 := own_law i0 i1
  rw [hlaw] at hv
  subst hv
  refine ⟨n, _, h1, h2, h3, hpost _ _ _ _ _ _ ⟨Cond.after_iff.mpr rfl, Cond.after_iff.mpr (eq_i res_at (Term.int_eval (1)) rfl), trivial⟩ ⟨hq.1, hq.2.1, (hq.2.2.sift fun y hy => Or.inr (N y hy)).mono (by decide) (by decide)⟩⟩
theorem main_1_1 : Claimed_1_1 := comes_1 fun _ _ _ _ _ _ h hF => ⟨h.1, hF⟩
theorem main_1_2 : Claimed_1_2 := comes_1 fun _ _ _ _ _ _ h hF => ⟨h.2.1, hF⟩
end Jvm.Pilot.@@N@@
namespace Jvm.Pilot.@@N@@
open Jvm Jvm.ClassFile Sem Op Lib Jvm.Free Jvm.Stand Jvm.Pilot.@@N@@.Jvm.D
/-! MADE BY PROGRAM (witnessworld.py) out of the Statement's table words and the real class files: 10 classes; the members and pool entries that the words name. The judged class is class 1, her method 1. -/
namespace start1
open Jvm.ClassFile
def u (s : String) : CpInfo := .utf8 (stringToUtf16 s)
/-- a pool by its gaps: so many unusable entries, then the entry; so many at the end -/
def gap : Nat → List CpInfo → List CpInfo
  | 0, r => r
  | n + 1, r => .unusable :: gap n r
def poolList (es : List (Nat × CpInfo)) (last : Nat) : List CpInfo := es.foldr (fun e r => gap e.1 (e.2 :: r)) (gap last [])
def pool (es : List (Nat × CpInfo)) (last : Nat) : Array CpInfo := ⟨poolList es last⟩
def fileOf (pool : Array CpInfo) (this : Nat) (attrs : Array Attribute := #[]) (ms : Array MethodInfo := #[]) (fl : Nat := 33) (sup : Nat := 0) (ifs : Array Nat := #[]) (fds : Array FieldInfo := #[]) : ClassFile where
  minorVersion := 0
  majorVersion := 65
  constantPool := pool
  accessFlags := fl
  thisClass := this
  superClass := sup
  interfaces := ifs
  fields := fds
  methods := ms
  attributes := attrs
def plain (name : String) (sup : Option ClassId) : Class where
  name := name
  kind := .ordinary
  loader := none
  accessFlags := 33
  super := sup
  interfaces := #[]
  cf := none
  fields := #[]
  methods := #[]
  instanceTypes := #[]
  staticTypes := #[]
  resolved := #[]
  callSites := []
  init := .initialized
  statics := none
  mirror := none

def pool0 : Array CpInfo := pool [(5, u "<init>"), (0, u "()V"), (1, .class_ 10), (1, u "java/lang/Object")] 113

def k0c0 : Code := { maxStack := 0, maxLocals := 1, code := object_method_1_code, exceptionTable := #[], attributes := #[] }
def k0m0 : Method := { name := "<init>", desc := "()V", sig := { parameters := [], returnType := none }, accessFlags := 1, code := some k0c0 }
/-- java/lang/Object -/
def k0 : Class := { plain "java/lang/Object" none with
  accessFlags := 33
  interfaces := #[]
  cf := some (fileOf pool0 8 #[] #[{ accessFlags := 1, nameIndex := 5, descriptorIndex := 6, attributes := #[] }] 33 0 #[] #[])
  fields := #[]
  methods := #[k0m0]
  instanceTypes := #[]
  staticTypes := #[]
  resolved := Array.replicate 124 none
  statics := none }

def pool1 : Array CpInfo := pool [(2, .class_ 4), (1, u "java/lang/Object"), (0, u "<init>"), (0, u "()V"), (0, .integer 2147483647), (0, .class_ 9), (0, u "com/example/gatehook/gatehook/engine/AnswerHead$StatusLine"), (0, .methodref 8 11), (0, .nameAndType 5 12), (0, u "(IZ)V"), (0, .methodref 8 14), (0, .nameAndType 15 16), (0, u "isInterim"), (0, u "()Z"), (0, .class_ 18), (0, u "com/example/gatehook/gatehook/engine/StatusLineIsInterimPinLaw"), (2, u "law"), (0, u "(II)Z")] 7

def k1m0 : Method := { name := "<init>", desc := "()V", sig := { parameters := [], returnType := none }, accessFlags := 1, code := none }
def k1c1 : Code := { maxStack := 4, maxLocals := 6, code := code, exceptionTable := #[], attributes := #[] }
def k1m1 : Method := { name := "law", desc := "(II)Z", sig := { parameters := [.int, .int], returnType := some .boolean }, accessFlags := 9, code := some k1c1 }
/-- com/example/gatehook/gatehook/engine/StatusLineIsInterimPinLaw -/
def k1 : Class := { plain "com/example/gatehook/gatehook/engine/StatusLineIsInterimPinLaw" (some 0) with
  accessFlags := 49
  interfaces := #[]
  cf := some (fileOf pool1 17 #[] #[{ accessFlags := 1, nameIndex := 5, descriptorIndex := 6, attributes := #[] }, { accessFlags := 9, nameIndex := 21, descriptorIndex := 22, attributes := #[] }] 49 2 #[] #[])
  fields := #[]
  methods := #[k1m0, k1m1]
  instanceTypes := #[]
  staticTypes := #[]
  resolved := Array.replicate 30 none
  statics := none }

def pool2 : Array CpInfo := pool [(1, .methodref 2 3), (0, .class_ 4), (0, .nameAndType 5 6), (0, u "java/lang/Object"), (0, u "<init>"), (0, u "()V"), (0, .class_ 8), (0, u "java/lang/Record")] 13

def k2c0 : Code := { maxStack := 1, maxLocals := 1, code := jdk_30_method_1_code, exceptionTable := #[], attributes := #[] }
def k2m0 : Method := { name := "<init>", desc := "()V", sig := { parameters := [], returnType := none }, accessFlags := 4, code := some k2c0 }
/-- java/lang/Record -/
def k2 : Class := { plain "java/lang/Record" (some 0) with
  accessFlags := 1057
  interfaces := #[]
  cf := some (fileOf pool2 7 #[] #[{ accessFlags := 4, nameIndex := 5, descriptorIndex := 6, attributes := #[] }] 1057 2 #[] #[])
  fields := #[]
  methods := #[k2m0]
  instanceTypes := #[]
  staticTypes := #[]
  resolved := Array.replicate 22 none
  statics := none }

def pool3 : Array CpInfo := pool [(1, .methodref 2 3), (0, .class_ 4), (0, .nameAndType 5 6), (0, u "java/lang/Record"), (0, u "<init>"), (0, u "()V"), (0, .fieldref 8 9), (0, .class_ 10), (0, .nameAndType 11 12), (0, u "com/example/gatehook/gatehook/engine/AnswerHead$StatusLine"), (0, u "status"), (0, u "I"), (0, .fieldref 8 14), (0, .nameAndType 15 16), (0, u "http10"), (0, u "Z"), (61, u "(IZ)V"), (21, u "isInterim"), (0, u "()Z"), (7, .class_ 110), (0, u "com/example/gatehook/gatehook/engine/AnswerHead")] 31

def k3c0 : Code := { maxStack := 2, maxLocals := 3, code := prog_5_method_1_code, exceptionTable := #[], attributes := #[] }
def k3m0 : Method := { name := "<init>", desc := "(IZ)V", sig := { parameters := [.int, .boolean], returnType := none }, accessFlags := 0, code := some k3c0 }
def k3c1 : Code := { maxStack := 2, maxLocals := 1, code := prog_5_method_3_code, exceptionTable := #[], attributes := #[] }
def k3m1 : Method := { name := "isInterim", desc := "()Z", sig := { parameters := [], returnType := some .boolean }, accessFlags := 0, code := some k3c1 }
/-- com/example/gatehook/gatehook/engine/AnswerHead$StatusLine -/
def k3 : Class := { plain "com/example/gatehook/gatehook/engine/AnswerHead$StatusLine" (some 2) with
  accessFlags := 48
  interfaces := #[]
  cf := some (fileOf pool3 8 #[.nestHost 109] #[{ accessFlags := 0, nameIndex := 5, descriptorIndex := 78, attributes := #[] }, { accessFlags := 0, nameIndex := 100, descriptorIndex := 101, attributes := #[] }] 48 2 #[] #[{ accessFlags := 18, nameIndex := 11, descriptorIndex := 12, attributes := #[] }, { accessFlags := 18, nameIndex := 15, descriptorIndex := 16, attributes := #[] }])
  fields := #[{ name := "status", type := .int, accessFlags := 18, slot := 0, constantValue := 0 }, { name := "http10", type := .boolean, accessFlags := 18, slot := 1, constantValue := 0 }]
  methods := #[k3m0, k3m1]
  instanceTypes := #[.int, .boolean]
  staticTypes := #[]
  resolved := Array.replicate 142 none
  statics := none }

def pool4 : Array CpInfo := pool [(1, u "java/lang/Cloneable"), (0, .class_ 1), (0, u "java/lang/Object"), (0, .class_ 3)] 3

/-- java/lang/Cloneable -/
def k4 : Class := { plain "java/lang/Cloneable" (some 0) with
  accessFlags := 1537
  interfaces := #[]
  cf := some (fileOf pool4 2 #[] #[] 1537 4 #[] #[])
  fields := #[]
  methods := #[]
  instanceTypes := #[]
  staticTypes := #[]
  resolved := Array.replicate 8 none
  statics := none }

def pool5 : Array CpInfo := pool [(1, u "java/io/Serializable"), (0, .class_ 1), (0, u "java/lang/Object"), (0, .class_ 3)] 3

/-- java/io/Serializable -/
def k5 : Class := { plain "java/io/Serializable" (some 0) with
  accessFlags := 1537
  interfaces := #[]
  cf := some (fileOf pool5 2 #[] #[] 1537 4 #[] #[])
  fields := #[]
  methods := #[]
  instanceTypes := #[]
  staticTypes := #[]
  resolved := Array.replicate 8 none
  statics := none }

/-- the primitive byte -/
def k6 : Class := { plain "byte" none with kind := .primitive 'B', accessFlags := 0x411 }
/-- [B -/
def k7 : Class := { plain "[B" (some 0) with kind := .array 6 .byte, interfaces := #[4, 5], accessFlags := 1041 }

/-- the primitive int -/
def k8 : Class := { plain "int" none with kind := .primitive 'I', accessFlags := 0x411 }
/-- [I -/
def k9 : Class := { plain "[I" (some 0) with kind := .array 8 .int, interfaces := #[4, 5], accessFlags := 1041 }

def heap : Heap := #[]
def classes : Array Class := #[k0, k1, k2, k3, k4, k5, k6, k7, k8, k9]
def interned : List (Array UInt16 × Addr) := []
def slotsUsed : Nat := 0
def theMethod : MethodId := ⟨1, 1⟩
def args0 : Array Value := #[.int 5, .int 7]
def aboutOver (below : List Frame) : State where
  vm := { classes := classes, interned := interned.toArray }
  heap := heap
  slotsUsed := slotsUsed
  threads := #[{ frames := .invoking theMethod args0 :: below }]
def below0 : List Frame := [.native { method := ⟨0, 0⟩, args := #[] }]
def about1 : State := aboutOver below0
def p0 : Program := .bare "" "" ""
def e0 : Env := launch0.env 0 0 0
theorem w_frames : about1.frames = Frame.invoking theMethod args0 :: below0 := rfl
set_option maxRecDepth 65536 in
theorem w_args : argsFit about1.vm theMethod args0 = true := by decide +kernel
set_option maxRecDepth 65536 in
theorem w_heap : heapFits about1 = true := by decide +kernel
set_option maxRecDepth 65536 in
theorem w_runnable : about1.curStatus? = some .runnable := by decide +kernel
set_option maxRecDepth 65536 in
theorem w_alone : about1.alone = true := by decide +kernel
set_option maxRecDepth 65536 in
theorem w_named : about1.methodNamed? x = some theMethod := by decide +kernel
set_option maxRecDepth 65536 in
theorem w_hears : about1.hears theMethod below0 = true := by decide +kernel
set_option maxRecDepth 65536 in
theorem w_ripe : about1.ripe theMethod args0 below0 = true := by decide +kernel
theorem w_running : about1.status = .running := rfl
set_option maxRecDepth 65536 in
theorem w_room : about1.hasRoom e0.platform room_1 = true :=
  launch0.hasRoom_least _ room_1 (by decide +kernel) (by decide +kernel) (by decide +kernel) (by decide +kernel) (by decide +kernel) (by decide +kernel)
theorem allAtoms_all (ts : List Jvm.Cond) (a : Array Jvm.Value) (st : Jvm.State) : (allAtoms ts).before a st = ts.all (fun c => c.before a st) := by
  induction ts with
  | nil => rfl
  | cons c t ih =>
    show (Jvm.Cond.and c (allAtoms t)).before a st = _
    rw [Jvm.Cond.before_and, ih, List.all_cons]
def words1 : List Jvm.Cond := Jvm.Cond.code x code maxLocals ret :: tables_1
/-- a 'code' word, met by the world's own term for the bytes: nothing is compared byte by byte -/
theorem code_word {y : MethodName} {bytes : ByteArray} {mx : Nat} {rt : Option FieldType} {a : Array Value} {s : State} {m : MethodId} {meth : Method} {c : Code} (h1 : s.methodNamed? y = some m) (h2 : s.vm.method? m = some meth) (h3 : meth.code = some c) (h4 : c.code = bytes)
    (h5 : (c.maxLocals == mx && c.exceptionTable.isEmpty && decide (c.maxStack ≤ mostOperands) && decide (meth.sig.returnType = rt) && !meth.locks && decide (parseMethodDescriptor y.desc = some meth.sig)) = true) : (Jvm.Cond.code y bytes mx rt).before a s = true := by
  simp only [Bool.and_eq_true, beq_iff_eq, Bool.not_eq_true', decide_eq_true_eq] at h5
  obtain ⟨⟨⟨⟨⟨g1, g2⟩, g3⟩, g4⟩, g5⟩, g6⟩ := h5
  simp [Cond.before, Cond.holds, Cond.value, h1, h2, h3, h4, g1, g2, g3, g4, g5, g6]
def isCode : Jvm.Cond → Bool
  | .code _ _ _ _ => true
  | _ => false
theorem all_split {L : List Jvm.Cond} {P : Jvm.Cond → Bool} (h1 : L.all (fun c => isCode c || P c) = true) (h2 : ∀ c ∈ L.filter isCode, P c = true) : L.all P = true := by
  refine List.all_eq_true.mpr fun c hc => ?_
  have h := List.all_eq_true.mp h1 c hc
  rcases Bool.eq_false_or_eq_true (isCode c) with hi | hi
  · exact h2 c (List.mem_filter.mpr ⟨hc, hi⟩)
  · simpa [hi] using h
set_option maxRecDepth 65536 in
theorem w_c0 : (Jvm.Cond.code x code maxLocals ret).before args0 about1 = true := code_word (m := ⟨1, 1⟩) (meth := k1m1) (c := k1c1) (by decide +kernel) rfl rfl rfl (by decide +kernel)
set_option maxRecDepth 65536 in
theorem w_c1 : (Jvm.Cond.code ({ cls := "com/example/gatehook/gatehook/engine/AnswerHead$StatusLine", name := "<init>", desc := "(IZ)V" } : Jvm.MethodName) prog_5_method_1_code (3 : Nat) (Option.none : Option Jvm.ClassFile.FieldType)).before args0 about1 = true := code_word (m := ⟨3, 0⟩) (meth := k3m0) (c := k3c0) (by decide +kernel) rfl rfl rfl (by decide +kernel)
set_option maxRecDepth 65536 in
theorem w_c2 : (Jvm.Cond.code ({ cls := "java/lang/Record", name := "<init>", desc := "()V" } : Jvm.MethodName) jdk_30_method_1_code (1 : Nat) (Option.none : Option Jvm.ClassFile.FieldType)).before args0 about1 = true := code_word (m := ⟨2, 0⟩) (meth := k2m0) (c := k2c0) (by decide +kernel) rfl rfl rfl (by decide +kernel)
set_option maxRecDepth 65536 in
theorem w_c3 : (Jvm.Cond.code ({ cls := "java/lang/Object", name := "<init>", desc := "()V" } : Jvm.MethodName) object_method_1_code (1 : Nat) (Option.none : Option Jvm.ClassFile.FieldType)).before args0 about1 = true := code_word (m := ⟨0, 0⟩) (meth := k0m0) (c := k0c0) (by decide +kernel) rfl rfl rfl (by decide +kernel)
set_option maxRecDepth 65536 in
theorem w_c4 : (Jvm.Cond.code ({ cls := "com/example/gatehook/gatehook/engine/AnswerHead$StatusLine", name := "isInterim", desc := "()Z" } : Jvm.MethodName) prog_5_method_3_code (1 : Nat) (Option.some Jvm.ClassFile.FieldType.boolean)).before args0 about1 = true := code_word (m := ⟨3, 1⟩) (meth := k3m1) (c := k3c1) (by decide +kernel) rfl rfl rfl (by decide +kernel)
def codes1 : List Jvm.Cond := [Jvm.Cond.code x code maxLocals ret, Jvm.Cond.code ({ cls := "com/example/gatehook/gatehook/engine/AnswerHead$StatusLine", name := "<init>", desc := "(IZ)V" } : Jvm.MethodName) prog_5_method_1_code (3 : Nat) (Option.none : Option Jvm.ClassFile.FieldType), Jvm.Cond.code ({ cls := "java/lang/Record", name := "<init>", desc := "()V" } : Jvm.MethodName) jdk_30_method_1_code (1 : Nat) (Option.none : Option Jvm.ClassFile.FieldType), Jvm.Cond.code ({ cls := "java/lang/Object", name := "<init>", desc := "()V" } : Jvm.MethodName) object_method_1_code (1 : Nat) (Option.none : Option Jvm.ClassFile.FieldType), Jvm.Cond.code ({ cls := "com/example/gatehook/gatehook/engine/AnswerHead$StatusLine", name := "isInterim", desc := "()Z" } : Jvm.MethodName) prog_5_method_3_code (1 : Nat) (Option.some Jvm.ClassFile.FieldType.boolean)]
set_option maxRecDepth 65536 in
theorem codes_eq : words1.filter isCode = codes1 := rfl
theorem w_codes : ∀ c ∈ words1.filter isCode, c.before args0 about1 = true := by
  rw [codes_eq]
  intro c hc
  simp only [codes1, List.mem_cons, List.not_mem_nil, or_false] at hc
  rcases hc with rfl | rfl | rfl | rfl | rfl
  · exact w_c0
  · exact w_c1
  · exact w_c2
  · exact w_c3
  · exact w_c4
set_option maxRecDepth 65536 in
theorem w_t1 : (words1.take 24).all (fun c => isCode c || c.before args0 about1) = true := by decide +kernel
set_option maxRecDepth 65536 in
theorem w_t2 : (words1.drop 24).all (fun c => isCode c || c.before args0 about1) = true := by decide +kernel
theorem w_tables : (allAtoms (Jvm.Cond.code x code maxLocals ret :: tables_1)).before args0 about1 = true := by
  rw [allAtoms_all]
  show words1.all (fun c => c.before args0 about1) = true
  refine all_split ?_ w_codes
  rw [← List.take_append_drop 24 words1, List.all_append, w_t1, w_t2]
  rfl
set_option maxRecDepth 65536 in
theorem w_case : (Jvm.Cond.and given_1 narrow_1).before args0 about1 = true := by decide +kernel
theorem w_applies : (headSpec (Jvm.Cond.code x code maxLocals ret :: tables_1) room_1).applies x e0.platform about1 = true :=
  (Spec.applies_iff w_frames).mpr ⟨w_running, w_runnable, w_alone, w_named, w_hears, w_ripe, w_room, w_tables⟩
theorem atStart : AtStart classFile x code maxLocals ret World_1 tables_1 room_1 Calls_1 rest_1 Pre_1 launch0 p0 e0 about1 theMethod args0 below0 :=
  ⟨lists_1, trivial, launch0.admits_env _ _ _, launch0.least_env, fairChoices_fair.cas, fairChoices_fair.clock, w_frames, w_args, w_heap, w_applies, trivial, trivial, w_case⟩
end start1
theorem witness_1 : WitnessClaimed_1 := ⟨start1.p0, start1.e0, start1.about1, start1.theMethod, start1.args0, start1.below0, start1.atStart⟩
end Jvm.Pilot.@@N@@
