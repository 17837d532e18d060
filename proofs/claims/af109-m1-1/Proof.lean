import JvmDerived
import JvmDerived.Pilot.@@N@@Statement
import JvmDerived.Pilot.@@N@@Code
set_option linter.unusedVariables false
set_option linter.unusedSimpArgs false
namespace Jvm.Pilot.@@N@@
open Jvm Jvm.ClassFile Sem Op Lib Jvm.Free Jvm.Stand Jvm.LawKit Jvm.RoadKit Bundle Jvm.Pilot.@@N@@.Jvm.D
section Own
variable {p : Program} {l : Launch} {e : Env} {R : Room} {s : State} {m : MethodId} {args : Array Value} {below : List Frame} {meth : Method} {c : Code} {T : State} {locs : List Loc} {cells slots : Nat}
def Ends (p : Program) (e : Env) (below : List Frame) (Q : Outcome → State → Prop) (S : State) : Prop := ∃ s₂ o, Steps p.tables e below S s₂ ∧ s₂.status = .running ∧ Ended s₂ below o ∧ Q o s₂
theorem Ends.opn {Q : Outcome → State → Prop} {S : State} (h : ∀ QQ : Outcome → State → Prop, (∀ o t, Q o t → QQ o t) → Ends p e below QQ S) : ∃ s₂ o, Steps p.tables e below S s₂ ∧ s₂.status = .running ∧ Ended s₂ below o ∧ Q o s₂ := h Q fun _ _ q => q
theorem Ends.step {Q : Outcome → State → Prop} {S S' : State} (k : ∀ t, Steps p.tables e below S' t → Steps p.tables e below S t) (h : Ends p e below Q S') : Ends p e below Q S := by
  obtain ⟨a, o, h1, h2⟩ := h
  exact ⟨a, o, k _ h1, h2⟩
theorem Ends.fin {QQ : Outcome → State → Prop} {Q : Option Value → Heap → List Loc → Prop} {cl sl : Nat} {g : JFrame} {h : Heap} (v : Option Value) (X : Stand p l e R s m args below meth c T locs cells slots)
    (hQQ : ∀ o t, (∃ v L, o = .returned v ∧ Q v t.heap L ∧ FrameEnd s o t L cl sl) → QQ o t) (hv : meth.sig.returnType = none → v = none) (hlocks : meth.locks = false)
    (hstep : ∀ fs, (∀ (f : JFrame) (acts : List Action), f.method = m → f.locked = none → f.entered = [] → (doReturn e (T.setTop f) acts v).1 = T.setFrames fs) → Steps p.tables e below (T.setTop g) (T.setFrames fs))
    (eT : T.heap = h) (hc : cells ≤ cl) (hs : slots ≤ sl) (q : Q v h locs) : Ends p e below QQ (T.setTop g) := by
  obtain ⟨fs, hr, hrun, hended, hW, hsame⟩ := X.leave hv hlocks
  subst eT
  exact ⟨_, _, hstep fs hr, hrun, hended, hQQ _ _ ⟨v, locs, rfl, q, ⟨_, rfl⟩, hW, hsame.mono hc hs⟩⟩
theorem own_narB {x : Int32} (h : x = 0 ∨ x = 1) : narrow .boolean (.int x) = .int x := by rcases h with rfl | rfl <;> rfl
theorem own_narref {v : Value} {t : FieldType} (h : v.isRef = true) (ht : t.isReference = true) : narrow t v = v := by
  cases t <;> first | (cases ht; done) | (cases v <;> first | rfl | cases h)
theorem own_fitref {v : Value} {t : FieldType} (h : v.isRef = true) (ht : t.isReference = true) : fits t v = true := by
  cases t <;> first | (cases ht; done) | (cases v <;> first | rfl | cases h)
theorem own_nar255 (b : Int32) : narrow .char (.int (b &&& (255 : Int32))) = .int (b &&& (255 : Int32)) := by
  have h := XT.narrow_c (b &&& 255)
  rw [i2c_mask] at h
  exact h
theorem own_narb (x : Int32) : nar .byte x.toInt8.toInt32 = x.toInt8.toInt32 := by simp [nar]
theorem own_ins_keep {Z : State} {h h' : Heap} {a : Addr} {C : String} {b : Bool} {ws : List Addr} (F : Ins Z h a C b) (K : Keep h h' ws) : Ins Z h' a C b := by
  obtain ⟨cell, cT, h1, h2, h3⟩ := F
  obtain ⟨c', q1, q2, q3, -⟩ := K.2.2 _ _ h1
  exact ⟨c', cT, q1, h2, by rw [q2, q3]; exact h3⟩
theorem own_sta_keep {Z : State} {h h' : Heap} {C n d : String} {v : Value} {ws : List Addr} (F : Sta Z h C n d v) (K : Keep h h' ws) (q : ∀ x ∈ ws, ∃ c : Cell, h[x]? = some c ∧ ∀ q, c.vm ≠ .statics q) : Sta Z h' C n d v := by
  obtain ⟨cf, i, k, f, st, cell, h1, h2, h3, h4, h5, h6, h7⟩ := F
  refine ⟨cf, i, k, f, st, cell, h1, h2, h3, h4, K.2.1 _ _ h5 fun hm => ?_, h6, h7⟩
  obtain ⟨c, q1, q2⟩ := q _ hm
  cases h5.symm.trans q1
  cases hq : cell.vm <;> first | exact q2 _ hq | (rw [hq] at h6; cases h6)
theorem lremM {g : JFrame} {target : State} (X : Stand p l e R s m args below meth c T locs cells slots) (hx : p.tables.exec = Jvm.exec) (hg : g.method = m) {x y : Int64} {rest : List Value} (hd : decode c.code g.pc = .ok (.lrem, 1)) (hs : g.stack = .long y :: .long x :: rest) (hy : y ≠ 0)
    (hr : Steps p.tables e below (T.setTop { g with pc := g.pc + 1, stack := .long (x % y) :: rest }) target) : Steps p.tables e below (T.setTop g) target := by
  have q : x - x / y * y = x % y := lrem_mod x y
  exact XT.lrem X.here hx hg hd hs hy (by rw [q]; exact hr)
end Own
theorem pn_0 : plainName "java/lang/Record" = true := by first | (simp [plainName, overriddenIn]; done) | decide +kernel
theorem pn_1 : plainName "com/example/hiscore/hiscore/Load" = true := by first | (simp [plainName, overriddenIn]; done) | decide +kernel
theorem pn_2 : plainName "com/example/hiscore/hiscore/LoadScorePinLaw" = true := by first | (simp [plainName, overriddenIn]; done) | decide +kernel
theorem pd_0 : parseMethodDescriptor "()V" = some ⟨[], none⟩ := by decide +kernel
theorem pd_1 : parseMethodDescriptor "(JJ)J" = some ⟨[.long, .long], some .long⟩ := by decide +kernel
theorem pd_2 : parseMethodDescriptor "(JJ)V" = some ⟨[.long, .long], none⟩ := by decide +kernel
theorem pd_3 : parseMethodDescriptor "(J)J" = some ⟨[.long], some .long⟩ := by decide +kernel

theorem d1_0 : decode jdk_29_method_66_code 0 = .ok (.lload_n 0, 1) := by decide +kernel
theorem d1_1 : decode jdk_29_method_66_code 1 = .ok (.lload_n 2, 1) := by decide +kernel
theorem d1_2 : decode jdk_29_method_66_code 2 = .ok (.lcmp, 1) := by decide +kernel
theorem d1_3 : decode jdk_29_method_66_code 3 = .ok (.ifCond .lt 7, 3) := by decide +kernel
theorem d1_6 : decode jdk_29_method_66_code 6 = .ok (.lload_n 0, 1) := by decide +kernel
theorem d1_7 : decode jdk_29_method_66_code 7 = .ok (.goto 4, 3) := by decide +kernel
theorem d1_10 : decode jdk_29_method_66_code 10 = .ok (.lload_n 2, 1) := by decide +kernel
theorem d1_11 : decode jdk_29_method_66_code 11 = .ok (.lreturn, 1) := by decide +kernel
theorem ef_1 (m : MethodId) (x0 : Int64) (x1 : Int64) : entryFrame m #[(.long x0), (.long x1)] 4 = mkF m 0 #[.val (.long x0), .second, .val (.long x1), .second] [] := by first | (simp [entryFrame, mkF, argsToLocals, Value.category]; done) | rfl
def f1_v11_1 (q0 : Int64) (q1 : Int64) : Int64 := (if q0 < q1 then q1 else q0)
def f1 (q0 : Int64) (q1 : Int64) : Int64 := (f1_v11_1 q0 q1)
def Q1 (Z : State) (q0 : Int64) (q1 : Int64) (h0 : Heap) (n0 : Nat) (v : Option Value) (h : Heap) (L : List Loc) : Prop := (v = some (.long (f1 q0 q1))) ∧ (Fr n0 L) ∧ (h = h0)
set_option maxRecDepth 65536 in
set_option maxHeartbeats 40000000 in
theorem rm1 (l : Launch) (Z : State) (a0 : Array Value) (hw : ∀ d ∈ tables_1, d.before a0 Z = true) (ws : List Jvm.Cond) (q0 : Int64) (q1 : Int64) (h0 : Heap) (n0 : Nat) (Z0 : n0 ≤ h0.size) :
    MetFree l (⟨"java/lang/Math", "max", "(JJ)J"⟩ : MethodName) (head1 (Jvm.Cond.code (⟨"java/lang/Math", "max", "(JJ)J"⟩ : MethodName) jdk_29_method_66_code 4 (some .long) :: ws) ({ frames := 0, cells := 0, slots := 0, locals := 0 } : Room)) (fun a U => a = #[(.long q0), (.long q1)] ∧ Z.Warmed39 U.vm ∧ U.heap = h0) (fun _ _ _ _ _ => True) (fun _ U o U' => ∃ v L, o = .returned v ∧ Q1 Z q0 q1 h0 n0 v U'.heap L ∧ FrameEnd U o U' L ({ frames := 0, cells := 0, slots := 0, locals := 0 } : Room).cells ({ frames := 0, cells := 0, slots := 0, locals := 0 } : Room).slots) := by
  refine MetFree.of_bodySF (Jvm.Free.JP.mathPlain rfl (by decide +kernel)) hisR ?_
  intro p e s m args below meth c s₁ Bd hml0 hP hK
  obtain ⟨rfl, hZ, hh⟩ := hP
  have hx := Bd.exec
  have hby := Bd.bytes
  have hml : c.maxLocals = 4 := hml0
  have hown : s.vm.findClass "java/lang/Math" = some m.cls := findClass_of_methodNamed Bd.named
  have hnm := (name_of_methodNamed Bd.named Bd.method).1
  have X0 : Stand p l e ({ frames := 0, cells := 0, slots := 0, locals := 0 } : Room) s m #[(.long q0), (.long q1)] below meth c s₁ [] 0 0 := Stand.of_body Bd
  have e0 : s₁.heap = h0 := by rw [← hh, Bd.state]; rfl
  have N0 := Fr.nil n0
  refine Ends.opn ?_
  intro QQ hQQ
  refine Ends.step (S' := s₁.setTop (mkF m 0 #[.val (.long q0), .second, .val (.long q1), .second] [])) (fun t k => castTop (ef_1 m q0 q1) k) ?_
  show Ends p e below QQ (s₁.setTop (mkF m 0 #[.val (.long q0), .second, .val (.long q1), .second] []))
  refine Ends.step (fun _ k => XT.lloadN X0.here hx rfl (hb hby d1_0) rfl k) ?_
  show Ends p e below QQ (s₁.setTop (mkF m 1 #[.val (.long q0), .second, .val (.long q1), .second] [(.long q0)]))
  refine Ends.step (fun _ k => XT.lloadN X0.here hx rfl (hb hby d1_1) rfl k) ?_
  show Ends p e below QQ (s₁.setTop (mkF m 2 #[.val (.long q0), .second, .val (.long q1), .second] [(.long q1), (.long q0)]))
  refine Ends.step (fun _ k => XT.lcmp X0.here hx rfl (hb hby d1_2) rfl k) ?_
  show Ends p e below QQ (s₁.setTop (mkF m 3 #[.val (.long q0), .second, .val (.long q1), .second] [(.int (XT.cmpL q0 q1))]))
  have J11_1 : (∀ (v11_1 : Int64) (hv11_1 : v11_1 = (if q0 < q1 then q1 else q0)), Ends p e below QQ (s₁.setTop (mkF m 11 #[.val (.long q0), .second, .val (.long q1), .second] [(.long v11_1)]))) → Ends p e below QQ (s₁.setTop (mkF m 3 #[.val (.long q0), .second, .val (.long q1), .second] [(.int (XT.cmpL q0 q1))])) := by
    intro hJ
    by_cases hc3_2 : q0 < q1
    · refine Ends.step (fun _ k => XS.ifYes X0.here hx rfl (pc0 := 3) (pc' := 10) rfl (hb hby d1_3) rfl (XT.ll_lt_t hc3_2) (by decide) (by decide) k) ?_
      show Ends p e below QQ (s₁.setTop (mkF m 10 #[.val (.long q0), .second, .val (.long q1), .second] []))
      refine Ends.step (fun _ k => XT.lloadN X0.here hx rfl (hb hby d1_10) rfl k) ?_
      exact hJ _ (by simp only [if_pos hc3_2])
    · refine Ends.step (fun _ k => XS.ifNo X0.here hx rfl (hb hby d1_3) rfl (XT.ll_lt_f hc3_2) k) ?_
      show Ends p e below QQ (s₁.setTop (mkF m 6 #[.val (.long q0), .second, .val (.long q1), .second] []))
      refine Ends.step (fun _ k => XT.lloadN X0.here hx rfl (hb hby d1_6) rfl k) ?_
      show Ends p e below QQ (s₁.setTop (mkF m 7 #[.val (.long q0), .second, .val (.long q1), .second] [(.long q0)]))
      refine Ends.step (fun _ k => XS.goto X0.here hx rfl (pc0 := 7) (pc' := 11) rfl (hb hby d1_7) (by decide) (by decide) k) ?_
      exact hJ _ (by simp only [if_neg hc3_2])
  refine J11_1 fun v11_1 hv11_1 => ?_
  have dv11_1 : f1_v11_1 q0 q1 = v11_1 := by
    simp only [f1_v11_1]
    exact hv11_1.symm
  show Ends p e below QQ (s₁.setTop (mkF m 11 #[.val (.long q0), .second, .val (.long q1), .second] [(.long v11_1)]))
  exact Ends.fin (some (.long v11_1)) X0 hQQ (fun h => by rw [Bd.returns] at h; cases h) Bd.notSynchronized (fun _ hr => retOut X0 hx (t := .long) Bd.returns rfl (Or.inr (Or.inl ⟨rfl, rfl, _, rfl⟩)) (hb hby d1_11) hr) e0 (by decide) (by decide) ⟨(by simp only [f1, dv11_1]), N0, rfl⟩
theorem d3_0 : decode jdk_30_method_1_code 0 = .ok (.aload_n 0, 1) := by decide +kernel
theorem d3_1 : decode jdk_30_method_1_code 1 = .ok (.invokespecial 1, 3) := by decide +kernel
theorem d3_4 : decode jdk_30_method_1_code 4 = .ok (.return_, 1) := by decide +kernel
theorem ef_3 (m : MethodId) (x0 : Addr) : entryFrame m #[(.ref x0)] 1 = mkF m 0 #[.val (.ref x0)] [] := by first | (simp [entryFrame, mkF, argsToLocals, Value.category]; done) | rfl
def Q3 (Z : State) (o0 : Addr) (h0 : Heap) (n0 : Nat) (v : Option Value) (h : Heap) (L : List Loc) : Prop := (v = none) ∧ (Fr n0 L) ∧ (h = h0)
set_option maxRecDepth 65536 in
set_option maxHeartbeats 40000000 in
theorem rm3 (l : Launch) (Z : State) (a0 : Array Value) (hw : ∀ d ∈ tables_1, d.before a0 Z = true) (ws : List Jvm.Cond) (o0 : Addr) (h0 : Heap) (n0 : Nat) (Z0 : n0 ≤ h0.size) :
    MetFree l (⟨"java/lang/Record", "<init>", "()V"⟩ : MethodName) (head1 (Jvm.Cond.code (⟨"java/lang/Record", "<init>", "()V"⟩ : MethodName) jdk_30_method_1_code 1 none :: ws) ({ frames := 1, cells := 0, slots := 0, locals := 12 } : Room)) (fun a U => a = #[(.ref o0)] ∧ Z.Warmed39 U.vm ∧ U.heap = h0) (fun _ _ _ _ _ => True) (fun _ U o U' => ∃ v L, o = .returned v ∧ Q3 Z o0 h0 n0 v U'.heap L ∧ FrameEnd U o U' L ({ frames := 1, cells := 0, slots := 0, locals := 12 } : Room).cells ({ frames := 1, cells := 0, slots := 0, locals := 12 } : Room).slots) := by
  refine MetFree.of_bodySF (plainFor_of_name pn_0) hisR ?_
  intro p e s m args below meth c s₁ Bd hml0 hP hK
  obtain ⟨rfl, hZ, hh⟩ := hP
  have hx := Bd.exec
  have hby := Bd.bytes
  have hml : c.maxLocals = 1 := hml0
  have hown : s.vm.findClass "java/lang/Record" = some m.cls := findClass_of_methodNamed Bd.named
  have hnm := (name_of_methodNamed Bd.named Bd.method).1
  have X0 : Stand p l e ({ frames := 1, cells := 0, slots := 0, locals := 12 } : Room) s m #[(.ref o0)] below meth c s₁ [] 0 0 := Stand.of_body Bd
  have e0 : s₁.heap = h0 := by rw [← hh, Bd.state]; rfl
  have N0 := Fr.nil n0
  refine Ends.opn ?_
  intro QQ hQQ
  refine Ends.step (S' := s₁.setTop (mkF m 0 #[.val (.ref o0)] [])) (fun t k => castTop (ef_3 m o0) k) ?_
  show Ends p e below QQ (s₁.setTop (mkF m 0 #[.val (.ref o0)] []))
  refine Ends.step (fun _ k => XS.aloadN X0.here hx rfl (hb hby d3_0) rfl rfl k) ?_
  show Ends p e below QQ (s₁.setTop (mkF m 1 #[.val (.ref o0)] [(.ref o0)]))
  obtain ⟨T3, X3, e3, st3⟩ := initO X0 hx hZ hown (hw _ (List.mem_of_getElem? (i := 18) rfl)) (hw _ (List.mem_of_getElem? (i := 19) rfl)) (hw _ (List.mem_of_getElem? (i := 20) rfl)) e0 (g := (mkF m 1 #[.val (.ref o0)] [(.ref o0)])) rfl (by rw [hml]; rfl) rfl (hb hby d3_1) (by decide) (W := 0) (by show 2 * 0 + _ ≤ _; exact Nat.le_of_eq rfl) (by decide)
  refine Ends.step st3 ?_
  show Ends p e below QQ (T3.setTop (mkF m 4 #[.val (.ref o0)] []))
  exact Ends.fin (none) X3 hQQ (fun _ => rfl) Bd.notSynchronized (fun _ hr => X3.returnOut hx Bd.returns (hb hby d3_4) hr) e3 (by decide) (by decide) ⟨rfl, N0, rfl⟩
theorem own_pl (p : Int64) : ¬ (((p &&& (2147483647 : Int64)) % (1000000000 : Int64)) + (1 : Int64) < (1 : Int64)) ∧ ¬ ((1000000000 : Int64) < ((p &&& (2147483647 : Int64)) % (1000000000 : Int64)) + (1 : Int64)) := by
  have e1 := c_maskL p 2147483647 31 (by decide) (by decide)
  have e2 := (c_lrem (p &&& 2147483647) 1000000000 1000000000 (by decide)).1 (by omega)
  rw [lrem_mod] at e2
  have e3 := c_ladd ((p &&& 2147483647) % 1000000000) 1
  have e4 : (1 : Int64).toInt = 1 := by decide
  have e5 : (1000000000 : Int64).toInt = 1000000000 := by decide
  have l1 := ((p &&& (2147483647 : Int64)) % (1000000000 : Int64) + 1).toInt_lt
  have l2 := ((p &&& (2147483647 : Int64)) % (1000000000 : Int64) + 1).le_toInt
  simp only [Int64.lt_iff_toInt_lt]
  omega
theorem own_up (p : Int64) : ¬ (f1 (1 : Int64) (p &&& (9223372036854775807 : Int64)) < (1 : Int64)) := by
  simp only [f1, f1_v11_1]
  split
  · rename_i h
    intro h2
    simp only [Int64.lt_iff_toInt_lt] at h h2
    omega
  · decide
theorem own_k (p : Int64) : ¬ ((p &&& (9223372036854775807 : Int64)) < (0 : Int64)) := by
  have e1 := c_maskL p 9223372036854775807 63 (by decide) (by decide)
  simp only [Int64.lt_iff_toInt_lt, show (0 : Int64).toInt = 0 from rfl]
  omega
theorem d2_0 : decode prog_8_method_1_code 0 = .ok (.aload_n 0, 1) := by decide +kernel
theorem d2_1 : decode prog_8_method_1_code 1 = .ok (.invokespecial 1, 3) := by decide +kernel
theorem d2_4 : decode prog_8_method_1_code 4 = .ok (.lload_n 1, 1) := by decide +kernel
theorem d2_5 : decode prog_8_method_1_code 5 = .ok (.lconst 1, 1) := by decide +kernel
theorem d2_6 : decode prog_8_method_1_code 6 = .ok (.lcmp, 1) := by decide +kernel
theorem d2_7 : decode prog_8_method_1_code 7 = .ok (.ifCond .lt 11, 3) := by decide +kernel
theorem d2_10 : decode prog_8_method_1_code 10 = .ok (.lload_n 1, 1) := by decide +kernel
theorem d2_11 : decode prog_8_method_1_code 11 = .ok (.ldc2_w 9, 3) := by decide +kernel
theorem d2_14 : decode prog_8_method_1_code 14 = .ok (.lcmp, 1) := by decide +kernel
theorem d2_15 : decode prog_8_method_1_code 15 = .ok (.ifCond .le 13, 3) := by decide +kernel
theorem d2_28 : decode prog_8_method_1_code 28 = .ok (.lload_n 3, 1) := by decide +kernel
theorem d2_29 : decode prog_8_method_1_code 29 = .ok (.lconst 1, 1) := by decide +kernel
theorem d2_30 : decode prog_8_method_1_code 30 = .ok (.lcmp, 1) := by decide +kernel
theorem d2_31 : decode prog_8_method_1_code 31 = .ok (.ifCond .ge 13, 3) := by decide +kernel
theorem d2_44 : decode prog_8_method_1_code 44 = .ok (.aload_n 0, 1) := by decide +kernel
theorem d2_45 : decode prog_8_method_1_code 45 = .ok (.lload_n 1, 1) := by decide +kernel
theorem d2_46 : decode prog_8_method_1_code 46 = .ok (.putfield 20, 3) := by decide +kernel
theorem d2_49 : decode prog_8_method_1_code 49 = .ok (.aload_n 0, 1) := by decide +kernel
theorem d2_50 : decode prog_8_method_1_code 50 = .ok (.lload_n 3, 1) := by decide +kernel
theorem d2_51 : decode prog_8_method_1_code 51 = .ok (.putfield 24, 3) := by decide +kernel
theorem d2_54 : decode prog_8_method_1_code 54 = .ok (.return_, 1) := by decide +kernel
theorem ef_2 (m : MethodId) (x0 : Addr) (x1 : Int64) (x2 : Int64) : entryFrame m #[(.ref x0), (.long x1), (.long x2)] 5 = mkF m 0 #[.val (.ref x0), .val (.long x1), .second, .val (.long x2), .second] [] := by first | (simp [entryFrame, mkF, argsToLocals, Value.category]; done) | rfl
def Q2 (Z : State) (o0 : Addr) (q1 : Int64) (q2 : Int64) (u : Int64) (w : Int64) (h0 : Heap) (n0 : Nat) (v : Option Value) (h : Heap) (L : List Loc) : Prop := (v = none) ∧ (Fr n0 L) ∧ (Keep h0 h [o0]) ∧ (Exa Z h o0 "com/example/hiscore/hiscore/Load") ∧ (Fld Z h o0 "com/example/hiscore/hiscore/Load" "players" "J" (.long q1)) ∧ (Fld Z h o0 "com/example/hiscore/hiscore/Load" "updates" "J" (.long q2))
set_option maxRecDepth 65536 in
set_option maxHeartbeats 40000000 in
theorem rm2 (l : Launch) (Z : State) (a0 : Array Value) (hw : ∀ d ∈ tables_1, d.before a0 Z = true) (ws : List Jvm.Cond) (o0 : Addr) (q1 : Int64) (q2 : Int64) (u : Int64) (w : Int64) (h0 : Heap) (n0 : Nat) (Z0 : n0 ≤ h0.size) (E_o0 : Exa Z h0 o0 "com/example/hiscore/hiscore/Load") (F_players_o0 : Fld Z h0 o0 "com/example/hiscore/hiscore/Load" "players" "J" (.long u)) (F_updates_o0 : Fld Z h0 o0 "com/example/hiscore/hiscore/Load" "updates" "J" (.long w)) (g_o0 : n0 ≤ o0) (hp1 : ¬ (q1 < (1 : Int64))) (hp2 : ¬ ((1000000000 : Int64) < q1)) (hp3 : ¬ (q2 < (1 : Int64))) :
    MetFree l (⟨"com/example/hiscore/hiscore/Load", "<init>", "(JJ)V"⟩ : MethodName) (head1 (Jvm.Cond.code (⟨"com/example/hiscore/hiscore/Load", "<init>", "(JJ)V"⟩ : MethodName) prog_8_method_1_code 5 none :: ws) ({ frames := 2, cells := 0, slots := 0, locals := 24 } : Room)) (fun a U => a = #[(.ref o0), (.long q1), (.long q2)] ∧ Z.Warmed39 U.vm ∧ U.heap = h0) (fun _ _ _ _ _ => True) (fun _ U o U' => ∃ v L, o = .returned v ∧ Q2 Z o0 q1 q2 u w h0 n0 v U'.heap L ∧ FrameEnd U o U' L ({ frames := 2, cells := 0, slots := 0, locals := 24 } : Room).cells ({ frames := 2, cells := 0, slots := 0, locals := 24 } : Room).slots) := by
  refine MetFree.of_bodySF (plainFor_of_name pn_1) hisR ?_
  intro p e s m args below meth c s₁ Bd hml0 hP hK
  obtain ⟨rfl, hZ, hh⟩ := hP
  have hx := Bd.exec
  have hby := Bd.bytes
  have hml : c.maxLocals = 5 := hml0
  have hown : s.vm.findClass "com/example/hiscore/hiscore/Load" = some m.cls := findClass_of_methodNamed Bd.named
  have hnm := (name_of_methodNamed Bd.named Bd.method).1
  have X0 : Stand p l e ({ frames := 2, cells := 0, slots := 0, locals := 24 } : Room) s m #[(.ref o0), (.long q1), (.long q2)] below meth c s₁ [] 0 0 := Stand.of_body Bd
  have e0 : s₁.heap = h0 := by rw [← hh, Bd.state]; rfl
  have N0 := Fr.nil n0
  refine Ends.opn ?_
  intro QQ hQQ
  refine Ends.step (S' := s₁.setTop (mkF m 0 #[.val (.ref o0), .val (.long q1), .second, .val (.long q2), .second] [])) (fun t k => castTop (ef_2 m o0 q1 q2) k) ?_
  show Ends p e below QQ (s₁.setTop (mkF m 0 #[.val (.ref o0), .val (.long q1), .second, .val (.long q2), .second] []))
  refine Ends.step (fun _ k => XS.aloadN X0.here hx rfl (hb hby d2_0) rfl rfl k) ?_
  show Ends p e below QQ (s₁.setTop (mkF m 1 #[.val (.ref o0), .val (.long q1), .second, .val (.long q2), .second] [(.ref o0)]))
  obtain ⟨_, _, ⟨T4, L4, k4, n4⟩, -, X4, ⟨Lc4, hQ4, l4, y4, z4⟩, st4⟩ := X0.specialBack hx (y := (⟨"java/lang/Record", "<init>", "()V"⟩ : MethodName)) rfl hown (mvT hZ (hw _ (List.mem_of_getElem? (i := 13) rfl))) (mvT hZ (hw _ (List.mem_of_getElem? (i := 14) rfl))) (mvT hZ (hw _ (List.mem_of_getElem? (i := 17) rfl))) (by decide) (backOf (W := 0) (rm3 l Z a0 hw [] o0 h0 n0 (Nat.le_trans Z0 (Keep.refl h0 [o0]).1)) hZ (hw _ (List.mem_of_getElem? (i := 17) rfl)) (hw _ (List.mem_of_getElem? (i := 16) rfl)) (by decide) (by decide)) (g := (mkF m 1 #[.val (.ref o0), .val (.long q1), .second, .val (.long q2), .second] [(.ref o0)])) rfl (by rw [hml]; rfl) (Steps.refl _) (a := o0) (argsL := []) (rest := []) (lenOf pd_0 rfl) rfl (by show 2 * 0 + _ ≤ _; exact Nat.le_of_eq rfl) (hb hby d2_1) (fun _ _ => ⟨rfl, e0, (by decide : 0 + 0 ≤ _), (by decide : 0 + 0 ≤ _)⟩)
  dsimp only [Pt.U, Pt.locs, Pt.cells, Pt.slots] at X4 l4 y4 z4 st4 hQ4
  subst l4 y4 z4
  obtain ⟨rfl, Nq4, hh4⟩ := hQ4
  have N4 := Fr.app N0 Nq4
  refine Ends.step (fun _ k => st4.trans k) ?_
  show Ends p e below QQ (T4.setTop (mkF m 4 #[.val (.ref o0), .val (.long q1), .second, .val (.long q2), .second] []))
  refine Ends.step (fun _ k => XT.lloadN X4.here hx rfl (hb hby d2_4) rfl k) ?_
  show Ends p e below QQ (T4.setTop (mkF m 5 #[.val (.ref o0), .val (.long q1), .second, .val (.long q2), .second] [(.long q1)]))
  refine Ends.step (fun _ k => XT.lconstV X4.here hx rfl (1 : Int64) (hb hby d2_5) rfl k) ?_
  show Ends p e below QQ (T4.setTop (mkF m 6 #[.val (.ref o0), .val (.long q1), .second, .val (.long q2), .second] [(.long (1 : Int64)), (.long q1)]))
  refine Ends.step (fun _ k => XT.lcmp X4.here hx rfl (hb hby d2_6) rfl k) ?_
  show Ends p e below QQ (T4.setTop (mkF m 7 #[.val (.ref o0), .val (.long q1), .second, .val (.long q2), .second] [(.int (XT.cmpL q1 (1 : Int64)))]))
  have hc7 : ¬ (q1 < (1 : Int64)) := hp1
  refine Ends.step (fun _ k => XS.ifNo X4.here hx rfl (hb hby d2_7) rfl (XT.ll_lt_f hc7) k) ?_
  show Ends p e below QQ (T4.setTop (mkF m 10 #[.val (.ref o0), .val (.long q1), .second, .val (.long q2), .second] []))
  refine Ends.step (fun _ k => XT.lloadN X4.here hx rfl (hb hby d2_10) rfl k) ?_
  show Ends p e below QQ (T4.setTop (mkF m 11 #[.val (.ref o0), .val (.long q1), .second, .val (.long q2), .second] [(.long q1)]))
  refine Ends.step (fun _ k => X4.ldc2J hx hown (mvT hZ (hw _ (List.mem_of_getElem? (i := 21) rfl))) (g := (mkF m 11 #[.val (.ref o0), .val (.long q1), .second, .val (.long q2), .second] [(.long q1)])) rfl (hb hby d2_11) k) ?_
  show Ends p e below QQ (T4.setTop (mkF m 14 #[.val (.ref o0), .val (.long q1), .second, .val (.long q2), .second] [(.long (1000000000 : Int64)), (.long q1)]))
  refine Ends.step (fun _ k => XT.lcmp X4.here hx rfl (hb hby d2_14) rfl k) ?_
  show Ends p e below QQ (T4.setTop (mkF m 15 #[.val (.ref o0), .val (.long q1), .second, .val (.long q2), .second] [(.int (XT.cmpL q1 (1000000000 : Int64)))]))
  have hc15 : ¬ ((1000000000 : Int64) < q1) := hp2
  refine Ends.step (fun _ k => XS.ifYes X4.here hx rfl (pc0 := 15) (pc' := 28) rfl (hb hby d2_15) rfl (XT.ll_le_t hc15) (by decide) (by decide) k) ?_
  show Ends p e below QQ (T4.setTop (mkF m 28 #[.val (.ref o0), .val (.long q1), .second, .val (.long q2), .second] []))
  refine Ends.step (fun _ k => XT.lloadN X4.here hx rfl (hb hby d2_28) rfl k) ?_
  show Ends p e below QQ (T4.setTop (mkF m 29 #[.val (.ref o0), .val (.long q1), .second, .val (.long q2), .second] [(.long q2)]))
  refine Ends.step (fun _ k => XT.lconstV X4.here hx rfl (1 : Int64) (hb hby d2_29) rfl k) ?_
  show Ends p e below QQ (T4.setTop (mkF m 30 #[.val (.ref o0), .val (.long q1), .second, .val (.long q2), .second] [(.long (1 : Int64)), (.long q2)]))
  refine Ends.step (fun _ k => XT.lcmp X4.here hx rfl (hb hby d2_30) rfl k) ?_
  show Ends p e below QQ (T4.setTop (mkF m 31 #[.val (.ref o0), .val (.long q1), .second, .val (.long q2), .second] [(.int (XT.cmpL q2 (1 : Int64)))]))
  have hc31 : ¬ (q2 < (1 : Int64)) := hp3
  refine Ends.step (fun _ k => XS.ifYes X4.here hx rfl (pc0 := 31) (pc' := 44) rfl (hb hby d2_31) rfl (XT.ll_ge_t hc31) (by decide) (by decide) k) ?_
  show Ends p e below QQ (T4.setTop (mkF m 44 #[.val (.ref o0), .val (.long q1), .second, .val (.long q2), .second] []))
  refine Ends.step (fun _ k => XS.aloadN X4.here hx rfl (hb hby d2_44) rfl rfl k) ?_
  show Ends p e below QQ (T4.setTop (mkF m 45 #[.val (.ref o0), .val (.long q1), .second, .val (.long q2), .second] [(.ref o0)]))
  refine Ends.step (fun _ k => XT.lloadN X4.here hx rfl (hb hby d2_45) rfl k) ?_
  show Ends p e below QQ (T4.setTop (mkF m 46 #[.val (.ref o0), .val (.long q1), .second, .val (.long q2), .second] [(.long q1), (.ref o0)]))
  obtain ⟨T5, h5, X5, e5, W5, st5⟩ := putF X4 hx hZ hown (host := "") (Or.inl (hw _ (List.mem_of_getElem? (i := 22) rfl))) Via.refl hh4 F_players_o0 E_o0 (Or.inr ⟨(hw _ (List.mem_of_getElem? (i := 23) rfl)), rfl, hnm⟩) (hw _ (List.mem_of_getElem? (i := 8) rfl)) (ty := .long) (by decide) rfl rfl (g := (mkF m 46 #[.val (.ref o0), .val (.long q1), .second, .val (.long q2), .second] [(.long q1), (.ref o0)])) rfl rfl (hb hby d2_46)
  have E_o0 := E_o0.wr W5
  have F_updates_o0 := F_updates_o0.other W5 (Or.inr (slot_ne (Or.inr (hw _ (List.mem_of_getElem? (i := 25) rfl))) (Or.inr (hw _ (List.mem_of_getElem? (i := 23) rfl))) (by decide) (t := .long) (t' := .long) (by decide) (by decide)))
  have F_players_o0 : Fld Z h5 o0 "com/example/hiscore/hiscore/Load" "players" "J" (.long q1) := F_players_o0.same W5
  have K5 := (Keep.refl h0 [o0]).wr W5 (Or.inl (List.mem_of_getElem? (i := 0) rfl))
  have N5 := Fr.snoc X5 N4 g_o0
  refine Ends.step st5 ?_
  show Ends p e below QQ (T5.setTop (mkF m 49 #[.val (.ref o0), .val (.long q1), .second, .val (.long q2), .second] []))
  refine Ends.step (fun _ k => XS.aloadN X5.here hx rfl (hb hby d2_49) rfl rfl k) ?_
  show Ends p e below QQ (T5.setTop (mkF m 50 #[.val (.ref o0), .val (.long q1), .second, .val (.long q2), .second] [(.ref o0)]))
  refine Ends.step (fun _ k => XT.lloadN X5.here hx rfl (hb hby d2_50) rfl k) ?_
  show Ends p e below QQ (T5.setTop (mkF m 51 #[.val (.ref o0), .val (.long q1), .second, .val (.long q2), .second] [(.long q2), (.ref o0)]))
  obtain ⟨T6, h6, X6, e6, W6, st6⟩ := putF X5 hx hZ hown (host := "") (Or.inl (hw _ (List.mem_of_getElem? (i := 24) rfl))) Via.refl e5 F_updates_o0 E_o0 (Or.inr ⟨(hw _ (List.mem_of_getElem? (i := 25) rfl)), rfl, hnm⟩) (hw _ (List.mem_of_getElem? (i := 8) rfl)) (ty := .long) (by decide) rfl rfl (g := (mkF m 51 #[.val (.ref o0), .val (.long q1), .second, .val (.long q2), .second] [(.long q2), (.ref o0)])) rfl rfl (hb hby d2_51)
  have E_o0 := E_o0.wr W6
  have F_players_o0 := F_players_o0.other W6 (Or.inr (slot_ne (Or.inr (hw _ (List.mem_of_getElem? (i := 23) rfl))) (Or.inr (hw _ (List.mem_of_getElem? (i := 25) rfl))) (by decide) (t := .long) (t' := .long) (by decide) (by decide)))
  have F_updates_o0 : Fld Z h6 o0 "com/example/hiscore/hiscore/Load" "updates" "J" (.long q2) := F_updates_o0.same W6
  have K6 := K5.wr W6 (Or.inl (List.mem_of_getElem? (i := 0) rfl))
  have N6 := Fr.snoc X6 N5 g_o0
  refine Ends.step st6 ?_
  show Ends p e below QQ (T6.setTop (mkF m 54 #[.val (.ref o0), .val (.long q1), .second, .val (.long q2), .second] []))
  exact Ends.fin (none) X6 hQQ (fun _ => rfl) Bd.notSynchronized (fun _ hr => X6.returnOut hx Bd.returns (hb hby d2_54) hr) e6 (by decide) (by decide) ⟨rfl, N6, K6, E_o0, F_players_o0, F_updates_o0⟩
theorem d5_0 : decode prog_8_method_3_code 0 = .ok (.lload_n 1, 1) := by decide +kernel
theorem d5_1 : decode prog_8_method_3_code 1 = .ok (.lconst 0, 1) := by decide +kernel
theorem d5_2 : decode prog_8_method_3_code 2 = .ok (.lcmp, 1) := by decide +kernel
theorem d5_3 : decode prog_8_method_3_code 3 = .ok (.ifCond .ge 13, 3) := by decide +kernel
theorem d5_16 : decode prog_8_method_3_code 16 = .ok (.lload_n 1, 1) := by decide +kernel
theorem d5_17 : decode prog_8_method_3_code 17 = .ok (.ldc2_w 42, 3) := by decide +kernel
theorem d5_20 : decode prog_8_method_3_code 20 = .ok (.lrem, 1) := by decide +kernel
theorem d5_21 : decode prog_8_method_3_code 21 = .ok (.lconst 1, 1) := by decide +kernel
theorem d5_22 : decode prog_8_method_3_code 22 = .ok (.ladd, 1) := by decide +kernel
theorem d5_23 : decode prog_8_method_3_code 23 = .ok (.lreturn, 1) := by decide +kernel
theorem ef_5 (m : MethodId) (x0 : Addr) (x1 : Int64) : entryFrame m #[(.ref x0), (.long x1)] 3 = mkF m 0 #[.val (.ref x0), .val (.long x1), .second] [] := by first | (simp [entryFrame, mkF, argsToLocals, Value.category]; done) | rfl
def f5 (q1 : Int64) : Int64 := ((q1 % (1000 : Int64)) + (1 : Int64))
def Q5 (Z : State) (o0 : Addr) (q1 : Int64) (h0 : Heap) (n0 : Nat) (v : Option Value) (h : Heap) (L : List Loc) : Prop := (v = some (.long (f5 q1))) ∧ (Fr n0 L) ∧ (h = h0)
set_option maxRecDepth 65536 in
set_option maxHeartbeats 40000000 in
theorem rm5 (l : Launch) (Z : State) (a0 : Array Value) (hw : ∀ d ∈ tables_1, d.before a0 Z = true) (ws : List Jvm.Cond) (o0 : Addr) (q1 : Int64) (h0 : Heap) (n0 : Nat) (Z0 : n0 ≤ h0.size) (hk : ¬ (q1 < (0 : Int64))) :
    MetFree l (⟨"com/example/hiscore/hiscore/Load", "score", "(J)J"⟩ : MethodName) (head1 (Jvm.Cond.code (⟨"com/example/hiscore/hiscore/Load", "score", "(J)J"⟩ : MethodName) prog_8_method_3_code 3 (some .long) :: ws) ({ frames := 0, cells := 0, slots := 0, locals := 0 } : Room)) (fun a U => a = #[(.ref o0), (.long q1)] ∧ Z.Warmed39 U.vm ∧ U.heap = h0) (fun _ _ _ _ _ => True) (fun _ U o U' => ∃ v L, o = .returned v ∧ Q5 Z o0 q1 h0 n0 v U'.heap L ∧ FrameEnd U o U' L ({ frames := 0, cells := 0, slots := 0, locals := 0 } : Room).cells ({ frames := 0, cells := 0, slots := 0, locals := 0 } : Room).slots) := by
  refine MetFree.of_bodySF (plainFor_of_name pn_1) hisR ?_
  intro p e s m args below meth c s₁ Bd hml0 hP hK
  obtain ⟨rfl, hZ, hh⟩ := hP
  have hx := Bd.exec
  have hby := Bd.bytes
  have hml : c.maxLocals = 3 := hml0
  have hown : s.vm.findClass "com/example/hiscore/hiscore/Load" = some m.cls := findClass_of_methodNamed Bd.named
  have hnm := (name_of_methodNamed Bd.named Bd.method).1
  have X0 : Stand p l e ({ frames := 0, cells := 0, slots := 0, locals := 0 } : Room) s m #[(.ref o0), (.long q1)] below meth c s₁ [] 0 0 := Stand.of_body Bd
  have e0 : s₁.heap = h0 := by rw [← hh, Bd.state]; rfl
  have N0 := Fr.nil n0
  refine Ends.opn ?_
  intro QQ hQQ
  refine Ends.step (S' := s₁.setTop (mkF m 0 #[.val (.ref o0), .val (.long q1), .second] [])) (fun t k => castTop (ef_5 m o0 q1) k) ?_
  show Ends p e below QQ (s₁.setTop (mkF m 0 #[.val (.ref o0), .val (.long q1), .second] []))
  refine Ends.step (fun _ k => XT.lloadN X0.here hx rfl (hb hby d5_0) rfl k) ?_
  show Ends p e below QQ (s₁.setTop (mkF m 1 #[.val (.ref o0), .val (.long q1), .second] [(.long q1)]))
  refine Ends.step (fun _ k => XT.lconstV X0.here hx rfl (0 : Int64) (hb hby d5_1) rfl k) ?_
  show Ends p e below QQ (s₁.setTop (mkF m 2 #[.val (.ref o0), .val (.long q1), .second] [(.long (0 : Int64)), (.long q1)]))
  refine Ends.step (fun _ k => XT.lcmp X0.here hx rfl (hb hby d5_2) rfl k) ?_
  show Ends p e below QQ (s₁.setTop (mkF m 3 #[.val (.ref o0), .val (.long q1), .second] [(.int (XT.cmpL q1 (0 : Int64)))]))
  have hc3 : ¬ (q1 < (0 : Int64)) := hk
  refine Ends.step (fun _ k => XS.ifYes X0.here hx rfl (pc0 := 3) (pc' := 16) rfl (hb hby d5_3) rfl (XT.ll_ge_t hc3) (by decide) (by decide) k) ?_
  show Ends p e below QQ (s₁.setTop (mkF m 16 #[.val (.ref o0), .val (.long q1), .second] []))
  refine Ends.step (fun _ k => XT.lloadN X0.here hx rfl (hb hby d5_16) rfl k) ?_
  show Ends p e below QQ (s₁.setTop (mkF m 17 #[.val (.ref o0), .val (.long q1), .second] [(.long q1)]))
  refine Ends.step (fun _ k => X0.ldc2J hx hown (mvT hZ (hw _ (List.mem_of_getElem? (i := 31) rfl))) (g := (mkF m 17 #[.val (.ref o0), .val (.long q1), .second] [(.long q1)])) rfl (hb hby d5_17) k) ?_
  show Ends p e below QQ (s₁.setTop (mkF m 20 #[.val (.ref o0), .val (.long q1), .second] [(.long (1000 : Int64)), (.long q1)]))
  refine Ends.step (fun _ k => lremM (g := (mkF m 20 #[.val (.ref o0), .val (.long q1), .second] [(.long (1000 : Int64)), (.long q1)])) X0 hx rfl (hb hby d5_20) rfl (by decide) k) ?_
  show Ends p e below QQ (s₁.setTop (mkF m 21 #[.val (.ref o0), .val (.long q1), .second] [(.long (q1 % (1000 : Int64)))]))
  refine Ends.step (fun _ k => XT.lconstV X0.here hx rfl (1 : Int64) (hb hby d5_21) rfl k) ?_
  show Ends p e below QQ (s₁.setTop (mkF m 22 #[.val (.ref o0), .val (.long q1), .second] [(.long (1 : Int64)), (.long (q1 % (1000 : Int64)))]))
  refine Ends.step (fun _ k => XT.ladd X0.here hx rfl (hb hby d5_22) rfl k) ?_
  show Ends p e below QQ (s₁.setTop (mkF m 23 #[.val (.ref o0), .val (.long q1), .second] [(.long ((q1 % (1000 : Int64)) + (1 : Int64)))]))
  exact Ends.fin (some (.long ((q1 % (1000 : Int64)) + (1 : Int64)))) X0 hQQ (fun h => by rw [Bd.returns] at h; cases h) Bd.notSynchronized (fun _ hr => retOut X0 hx (t := .long) Bd.returns rfl (Or.inr (Or.inl ⟨rfl, rfl, _, rfl⟩)) (hb hby d5_23) hr) e0 (by decide) (by decide) ⟨(by simp only [f5, if_neg hc3]), N0, rfl⟩
theorem ef_0 (m : MethodId) (x0 : Int64) (x1 : Int64) (x2 : Int64) : entryFrame m #[(.long x0), (.long x1), (.long x2)] maxLocals = mkF m 0 #[.val (.long x0), .second, .val (.long x1), .second, .val (.long x2), .second, .unset, .unset, .unset, .unset, .unset, .unset, .unset, .unset, .unset, .unset, .unset] [] := by first | (simp [entryFrame, mkF, argsToLocals, Value.category, maxLocals]; done) | rfl
def f0_x6_1 (q0 : Int64) (q1 : Int64) (q2 : Int64) : Int64 := (((q0 &&& (2147483647 : Int64)) % (1000000000 : Int64)) + (1 : Int64))
def f0_x8_2 (q0 : Int64) (q1 : Int64) (q2 : Int64) : Int64 := (f1 (1 : Int64) (q1 &&& (9223372036854775807 : Int64)))
def f0_x11_3 (q0 : Int64) (q1 : Int64) (q2 : Int64) : Int64 := (q2 &&& (9223372036854775807 : Int64))
def f0_x15_4 (q0 : Int64) (q1 : Int64) (q2 : Int64) : Int64 := ((f0_x11_3 q0 q1 q2) - ((f5 (f0_x11_3 q0 q1 q2)) - (1 : Int64)))
def f0_v102_5 (q0 : Int64) (q1 : Int64) (q2 : Int64) : Int32 := (if (((f0_x15_4 q0 q1 q2) / (1000 : Int64)) * (1000 : Int64)) = (f0_x15_4 q0 q1 q2) then (1 : Int32) else (0 : Int32))
def f0 (q0 : Int64) (q1 : Int64) (q2 : Int64) : Int32 := (if (f5 (f0_x11_3 q0 q1 q2)) < (1 : Int64) then (0 : Int32) else (if (1000 : Int64) < (f5 (f0_x11_3 q0 q1 q2)) then (0 : Int32) else (f0_v102_5 q0 q1 q2)))
def Q0 (Z : State) (q0 : Int64) (q1 : Int64) (q2 : Int64) (h0 : Heap) (n0 : Nat) (v : Option Value) (h : Heap) (L : List Loc) : Prop := (v = some (.int (f0 q0 q1 q2))) ∧ (Fr n0 L) ∧ (Keep h0 h [])
set_option maxRecDepth 65536 in
set_option maxHeartbeats 40000000 in
theorem rm0 (l : Launch) (Z : State) (a0 : Array Value) (hw : ∀ d ∈ tables_1, d.before a0 Z = true) (ws : List Jvm.Cond) (q0 : Int64) (q1 : Int64) (q2 : Int64) (h0 : Heap) (n0 : Nat) (Z0 : n0 ≤ h0.size) :
    MetFree l x (head1 (Jvm.Cond.code x code maxLocals ret :: ws) room_1) (fun a U => a = #[(.long q0), (.long q1), (.long q2)] ∧ Z.Warmed39 U.vm ∧ U.heap = h0) (fun _ _ _ _ _ => True) (fun _ U o U' => ∃ v L, o = .returned v ∧ Q0 Z q0 q1 q2 h0 n0 v U'.heap L ∧ FrameEnd U o U' L room_1.cells room_1.slots) := by
  refine MetFree.of_bodySF (plainFor_of_name pn_2) hisR ?_
  intro p e s m args below meth c s₁ Bd hml0 hP hK
  obtain ⟨rfl, hZ, hh⟩ := hP
  have hx := Bd.exec
  have hby := Bd.bytes
  have hml : c.maxLocals = 17 := hml0
  have hown : s.vm.findClass "com/example/hiscore/hiscore/LoadScorePinLaw" = some m.cls := findClass_of_methodNamed Bd.named
  have hnm := (name_of_methodNamed Bd.named Bd.method).1
  have X0 : Stand p l e room_1 s m #[(.long q0), (.long q1), (.long q2)] below meth c s₁ [] 0 0 := Stand.of_body Bd
  have e0 : s₁.heap = h0 := by rw [← hh, Bd.state]; rfl
  have N0 := Fr.nil n0
  refine Ends.opn ?_
  intro QQ hQQ
  refine Ends.step (S' := s₁.setTop (mkF m 0 #[.val (.long q0), .second, .val (.long q1), .second, .val (.long q2), .second, .unset, .unset, .unset, .unset, .unset, .unset, .unset, .unset, .unset, .unset, .unset] [])) (fun t k => castTop (ef_0 m q0 q1 q2) k) ?_
  show Ends p e below QQ (s₁.setTop (mkF m 0 #[.val (.long q0), .second, .val (.long q1), .second, .val (.long q2), .second, .unset, .unset, .unset, .unset, .unset, .unset, .unset, .unset, .unset, .unset, .unset] []))
  refine Ends.step (fun _ k => XT.lloadN X0.here hx rfl (hb hby at_0) rfl k) ?_
  show Ends p e below QQ (s₁.setTop (mkF m 1 #[.val (.long q0), .second, .val (.long q1), .second, .val (.long q2), .second, .unset, .unset, .unset, .unset, .unset, .unset, .unset, .unset, .unset, .unset, .unset] [(.long q0)]))
  refine Ends.step (fun _ k => X0.ldc2J hx hown (mvT hZ (hw _ (List.mem_of_getElem? (i := 0) rfl))) (g := (mkF m 1 #[.val (.long q0), .second, .val (.long q1), .second, .val (.long q2), .second, .unset, .unset, .unset, .unset, .unset, .unset, .unset, .unset, .unset, .unset, .unset] [(.long q0)])) rfl (hb hby at_1) k) ?_
  show Ends p e below QQ (s₁.setTop (mkF m 4 #[.val (.long q0), .second, .val (.long q1), .second, .val (.long q2), .second, .unset, .unset, .unset, .unset, .unset, .unset, .unset, .unset, .unset, .unset, .unset] [(.long (2147483647 : Int64)), (.long q0)]))
  refine Ends.step (fun _ k => XT.land X0.here hx rfl (hb hby at_4) rfl k) ?_
  show Ends p e below QQ (s₁.setTop (mkF m 5 #[.val (.long q0), .second, .val (.long q1), .second, .val (.long q2), .second, .unset, .unset, .unset, .unset, .unset, .unset, .unset, .unset, .unset, .unset, .unset] [(.long (q0 &&& (2147483647 : Int64)))]))
  refine Ends.step (fun _ k => X0.ldc2J hx hown (mvT hZ (hw _ (List.mem_of_getElem? (i := 1) rfl))) (g := (mkF m 5 #[.val (.long q0), .second, .val (.long q1), .second, .val (.long q2), .second, .unset, .unset, .unset, .unset, .unset, .unset, .unset, .unset, .unset, .unset, .unset] [(.long (q0 &&& (2147483647 : Int64)))])) rfl (hb hby at_5) k) ?_
  show Ends p e below QQ (s₁.setTop (mkF m 8 #[.val (.long q0), .second, .val (.long q1), .second, .val (.long q2), .second, .unset, .unset, .unset, .unset, .unset, .unset, .unset, .unset, .unset, .unset, .unset] [(.long (1000000000 : Int64)), (.long (q0 &&& (2147483647 : Int64)))]))
  refine Ends.step (fun _ k => lremM (g := (mkF m 8 #[.val (.long q0), .second, .val (.long q1), .second, .val (.long q2), .second, .unset, .unset, .unset, .unset, .unset, .unset, .unset, .unset, .unset, .unset, .unset] [(.long (1000000000 : Int64)), (.long (q0 &&& (2147483647 : Int64)))])) X0 hx rfl (hb hby at_8) rfl (by decide) k) ?_
  show Ends p e below QQ (s₁.setTop (mkF m 9 #[.val (.long q0), .second, .val (.long q1), .second, .val (.long q2), .second, .unset, .unset, .unset, .unset, .unset, .unset, .unset, .unset, .unset, .unset, .unset] [(.long ((q0 &&& (2147483647 : Int64)) % (1000000000 : Int64)))]))
  refine Ends.step (fun _ k => XT.lconstV X0.here hx rfl (1 : Int64) (hb hby at_9) rfl k) ?_
  show Ends p e below QQ (s₁.setTop (mkF m 10 #[.val (.long q0), .second, .val (.long q1), .second, .val (.long q2), .second, .unset, .unset, .unset, .unset, .unset, .unset, .unset, .unset, .unset, .unset, .unset] [(.long (1 : Int64)), (.long ((q0 &&& (2147483647 : Int64)) % (1000000000 : Int64)))]))
  refine Ends.step (fun _ k => XT.ladd X0.here hx rfl (hb hby at_10) rfl k) ?_
  show Ends p e below QQ (s₁.setTop (mkF m 11 #[.val (.long q0), .second, .val (.long q1), .second, .val (.long q2), .second, .unset, .unset, .unset, .unset, .unset, .unset, .unset, .unset, .unset, .unset, .unset] [(.long (((q0 &&& (2147483647 : Int64)) % (1000000000 : Int64)) + (1 : Int64)))]))
  refine Ends.step (fun _ k => XT.lstore X0.here hx rfl (hb hby at_11) rfl (l' := #[.val (.long q0), .second, .val (.long q1), .second, .val (.long q2), .second, .val (.long (((q0 &&& (2147483647 : Int64)) % (1000000000 : Int64)) + (1 : Int64))), .second, .unset, .unset, .unset, .unset, .unset, .unset, .unset, .unset, .unset]) rfl k) ?_
  show Ends p e below QQ (s₁.setTop (mkF m 13 #[.val (.long q0), .second, .val (.long q1), .second, .val (.long q2), .second, .val (.long (((q0 &&& (2147483647 : Int64)) % (1000000000 : Int64)) + (1 : Int64))), .second, .unset, .unset, .unset, .unset, .unset, .unset, .unset, .unset, .unset] []))
  generalize hv6_1 : (((q0 &&& (2147483647 : Int64)) % (1000000000 : Int64)) + (1 : Int64)) = x6_1
  have dx6_1 : f0_x6_1 q0 q1 q2 = x6_1 := by
    simp only [f0_x6_1]
    exact hv6_1
  show Ends p e below QQ (s₁.setTop (mkF m 13 #[.val (.long q0), .second, .val (.long q1), .second, .val (.long q2), .second, .val (.long x6_1), .second, .unset, .unset, .unset, .unset, .unset, .unset, .unset, .unset, .unset] []))
  refine Ends.step (fun _ k => XT.lconstV X0.here hx rfl (1 : Int64) (hb hby at_13) rfl k) ?_
  show Ends p e below QQ (s₁.setTop (mkF m 14 #[.val (.long q0), .second, .val (.long q1), .second, .val (.long q2), .second, .val (.long x6_1), .second, .unset, .unset, .unset, .unset, .unset, .unset, .unset, .unset, .unset] [(.long (1 : Int64))]))
  refine Ends.step (fun _ k => XT.lloadN X0.here hx rfl (hb hby at_14) rfl k) ?_
  show Ends p e below QQ (s₁.setTop (mkF m 15 #[.val (.long q0), .second, .val (.long q1), .second, .val (.long q2), .second, .val (.long x6_1), .second, .unset, .unset, .unset, .unset, .unset, .unset, .unset, .unset, .unset] [(.long q1), (.long (1 : Int64))]))
  refine Ends.step (fun _ k => X0.ldc2J hx hown (mvT hZ (hw _ (List.mem_of_getElem? (i := 2) rfl))) (g := (mkF m 15 #[.val (.long q0), .second, .val (.long q1), .second, .val (.long q2), .second, .val (.long x6_1), .second, .unset, .unset, .unset, .unset, .unset, .unset, .unset, .unset, .unset] [(.long q1), (.long (1 : Int64))])) rfl (hb hby at_15) k) ?_
  show Ends p e below QQ (s₁.setTop (mkF m 18 #[.val (.long q0), .second, .val (.long q1), .second, .val (.long q2), .second, .val (.long x6_1), .second, .unset, .unset, .unset, .unset, .unset, .unset, .unset, .unset, .unset] [(.long (9223372036854775807 : Int64)), (.long q1), (.long (1 : Int64))]))
  refine Ends.step (fun _ k => XT.land X0.here hx rfl (hb hby at_18) rfl k) ?_
  show Ends p e below QQ (s₁.setTop (mkF m 19 #[.val (.long q0), .second, .val (.long q1), .second, .val (.long q2), .second, .val (.long x6_1), .second, .unset, .unset, .unset, .unset, .unset, .unset, .unset, .unset, .unset] [(.long (q1 &&& (9223372036854775807 : Int64))), (.long (1 : Int64))]))
  obtain ⟨_, _, ⟨T7, L7, k7, n7⟩, -, X7, ⟨Lc7, hQ7, l7, y7, z7⟩, st7⟩ := Jvm.LawKit.callS X0 hx (y := (⟨"java/lang/Math", "max", "(JJ)J"⟩ : MethodName)) hown (mvT hZ (hw _ (List.mem_of_getElem? (i := 3) rfl))) (mvT hZ (hw _ (List.mem_of_getElem? (i := 4) rfl))) (mvT hZ (hw _ (List.mem_of_getElem? (i := 5) rfl))) (mvT hZ (hw _ (List.mem_of_getElem? (i := 6) rfl))) (by decide) (backOf (W := 0) (rm1 l Z a0 hw [] (1 : Int64) (q1 &&& (9223372036854775807 : Int64)) h0 n0 (Nat.le_trans Z0 (Keep.refl h0 []).1)) hZ (hw _ (List.mem_of_getElem? (i := 6) rfl)) (hw _ (List.mem_of_getElem? (i := 5) rfl)) (by decide) (by decide)) (g := (mkF m 19 #[.val (.long q0), .second, .val (.long q1), .second, .val (.long q2), .second, .val (.long x6_1), .second, .unset, .unset, .unset, .unset, .unset, .unset, .unset, .unset, .unset] [(.long (q1 &&& (9223372036854775807 : Int64))), (.long (1 : Int64))])) rfl (by rw [hml]; rfl) (argsL := [(.long (1 : Int64)), (.long (q1 &&& (9223372036854775807 : Int64)))]) (rest := []) (lenOf pd_1 rfl) rfl (by show 2 * 0 + _ ≤ _; exact Nat.le_of_eq rfl) (hb hby at_19) (fun _ _ => ⟨rfl, e0, (by decide : 0 + 0 ≤ _), (by decide : 0 + 0 ≤ _)⟩)
  dsimp only [Pt.U, Pt.locs, Pt.cells, Pt.slots] at X7 l7 y7 z7 st7 hQ7
  subst l7 y7 z7
  obtain ⟨rfl, Nq7, hh7⟩ := hQ7
  have N7 := Fr.app N0 Nq7
  refine Ends.step st7 ?_
  show Ends p e below QQ (T7.setTop (mkF m 22 #[.val (.long q0), .second, .val (.long q1), .second, .val (.long q2), .second, .val (.long x6_1), .second, .unset, .unset, .unset, .unset, .unset, .unset, .unset, .unset, .unset] [(.long (f1 (1 : Int64) (q1 &&& (9223372036854775807 : Int64))))]))
  refine Ends.step (fun _ k => XT.lstore X7.here hx rfl (hb hby at_22) rfl (l' := #[.val (.long q0), .second, .val (.long q1), .second, .val (.long q2), .second, .val (.long x6_1), .second, .val (.long (f1 (1 : Int64) (q1 &&& (9223372036854775807 : Int64)))), .second, .unset, .unset, .unset, .unset, .unset, .unset, .unset]) rfl k) ?_
  show Ends p e below QQ (T7.setTop (mkF m 24 #[.val (.long q0), .second, .val (.long q1), .second, .val (.long q2), .second, .val (.long x6_1), .second, .val (.long (f1 (1 : Int64) (q1 &&& (9223372036854775807 : Int64)))), .second, .unset, .unset, .unset, .unset, .unset, .unset, .unset] []))
  generalize hv8_2 : (f1 (1 : Int64) (q1 &&& (9223372036854775807 : Int64))) = x8_2
  have dx8_2 : f0_x8_2 q0 q1 q2 = x8_2 := by
    simp only [f0_x8_2]
    exact hv8_2
  show Ends p e below QQ (T7.setTop (mkF m 24 #[.val (.long q0), .second, .val (.long q1), .second, .val (.long q2), .second, .val (.long x6_1), .second, .val (.long x8_2), .second, .unset, .unset, .unset, .unset, .unset, .unset, .unset] []))
  obtain ⟨T8, h8, X8, e8, E8, A8, D8, U8, st8⟩ := newO X7 hx hZ hown (hw _ (List.mem_of_getElem? (i := 7) rfl)) (hw _ (List.mem_of_getElem? (i := 8) rfl)) (hw _ (List.mem_of_getElem? (i := 9) rfl)) hh7 (g := (mkF m 24 #[.val (.long q0), .second, .val (.long q1), .second, .val (.long q2), .second, .val (.long x6_1), .second, .val (.long x8_2), .second, .unset, .unset, .unset, .unset, .unset, .unset, .unset] [])) rfl (hb hby at_24) (by decide) (by decide)
  obtain ⟨b8, g8⟩ : ∃ z, z = h0.size := ⟨_, rfl⟩
  rw [← g8] at A8 D8 U8 st8
  have g_b8 : n0 ≤ b8 := Nat.le_trans Z0 (Nat.le_trans (Keep.refl h0 []).1 (Nat.le_of_eq g8.symm))
  have sz_b8 : h0.size ≤ b8 := Nat.le_trans (Keep.refl h0 []).1 (Nat.le_of_eq g8.symm)
  have K8 := (Keep.refl h0 []).ext E8
  have E_b8 := A8
  have F_players_b8 : Fld Z h8 b8 "com/example/hiscore/hiscore/Load" "players" "J" (.long (0 : Int64)) := D8 (Or.inr (hw _ (List.mem_of_getElem? (i := 23) rfl))) (ty := .long) (by decide)
  have F_updates_b8 : Fld Z h8 b8 "com/example/hiscore/hiscore/Load" "updates" "J" (.long (0 : Int64)) := D8 (Or.inr (hw _ (List.mem_of_getElem? (i := 25) rfl))) (ty := .long) (by decide)
  refine Ends.step st8 ?_
  show Ends p e below QQ (T8.setTop (mkF m 27 #[.val (.long q0), .second, .val (.long q1), .second, .val (.long q2), .second, .val (.long x6_1), .second, .val (.long x8_2), .second, .unset, .unset, .unset, .unset, .unset, .unset, .unset] [(.ref b8)]))
  refine Ends.step (fun _ k => XS.dup X8.here hx rfl (hb hby at_27) rfl rfl k) ?_
  show Ends p e below QQ (T8.setTop (mkF m 28 #[.val (.long q0), .second, .val (.long q1), .second, .val (.long q2), .second, .val (.long x6_1), .second, .val (.long x8_2), .second, .unset, .unset, .unset, .unset, .unset, .unset, .unset] [(.ref b8), (.ref b8)]))
  refine Ends.step (fun _ k => XT.lload X8.here hx rfl (hb hby at_28) rfl k) ?_
  show Ends p e below QQ (T8.setTop (mkF m 30 #[.val (.long q0), .second, .val (.long q1), .second, .val (.long q2), .second, .val (.long x6_1), .second, .val (.long x8_2), .second, .unset, .unset, .unset, .unset, .unset, .unset, .unset] [(.long x6_1), (.ref b8), (.ref b8)]))
  refine Ends.step (fun _ k => XT.lload X8.here hx rfl (hb hby at_30) rfl k) ?_
  show Ends p e below QQ (T8.setTop (mkF m 32 #[.val (.long q0), .second, .val (.long q1), .second, .val (.long q2), .second, .val (.long x6_1), .second, .val (.long x8_2), .second, .unset, .unset, .unset, .unset, .unset, .unset, .unset] [(.long x8_2), (.long x6_1), (.ref b8), (.ref b8)]))
  obtain ⟨_, _, ⟨T9, L9, k9, n9⟩, -, X9, ⟨Lc9, hQ9, l9, y9, z9⟩, st9⟩ := X8.specialBack hx (y := (⟨"com/example/hiscore/hiscore/Load", "<init>", "(JJ)V"⟩ : MethodName)) rfl hown (mvT hZ (hw _ (List.mem_of_getElem? (i := 10) rfl))) (mvT hZ (hw _ (List.mem_of_getElem? (i := 11) rfl))) (mvT hZ (hw _ (List.mem_of_getElem? (i := 12) rfl))) (by decide) (backOf (W := 1) (rm2 l Z a0 hw [] b8 x6_1 x8_2 (0 : Int64) (0 : Int64) h8 n0 (Nat.le_trans Z0 K8.1) E_b8 F_players_b8 F_updates_b8 g_b8 (by subst_vars; exact (own_pl q0).1) (by subst_vars; exact (own_pl q0).2) (by subst_vars; exact own_up q1)) hZ (hw _ (List.mem_of_getElem? (i := 12) rfl)) (hw _ (List.mem_of_getElem? (i := 9) rfl)) (by decide) (by decide)) (g := (mkF m 32 #[.val (.long q0), .second, .val (.long q1), .second, .val (.long q2), .second, .val (.long x6_1), .second, .val (.long x8_2), .second, .unset, .unset, .unset, .unset, .unset, .unset, .unset] [(.long x8_2), (.long x6_1), (.ref b8), (.ref b8)])) rfl (by rw [hml]; rfl) (Steps.refl _) (a := b8) (argsL := [(.long x6_1), (.long x8_2)]) (rest := [(.ref b8)]) (lenOf pd_2 rfl) rfl (by show 2 * 0 + _ ≤ _; exact Nat.le_of_eq rfl) (hb hby at_32) (fun _ _ => ⟨rfl, e8, (by decide : 1 + 0 ≤ _), (by decide : 2 + 0 ≤ _)⟩)
  dsimp only [Pt.U, Pt.locs, Pt.cells, Pt.slots] at X9 l9 y9 z9 st9 hQ9
  subst l9 y9 z9
  obtain ⟨rfl, Nq9, Kq9, fq9_0, fq9_1, fq9_2⟩ := hQ9
  have N9 := Fr.app N7 Nq9
  have E_b8 := fq9_0
  have F_players_b8 := fq9_1
  have F_updates_b8 := fq9_2
  have K9 := K8.trans Kq9 (allS (Or.inr sz_b8) all0)
  refine Ends.step (fun _ k => st9.trans k) ?_
  show Ends p e below QQ (T9.setTop (mkF m 35 #[.val (.long q0), .second, .val (.long q1), .second, .val (.long q2), .second, .val (.long x6_1), .second, .val (.long x8_2), .second, .unset, .unset, .unset, .unset, .unset, .unset, .unset] [(.ref b8)]))
  refine Ends.step (fun _ k => XS.astore X9.here hx rfl (hb hby at_35) rfl rfl (l' := #[.val (.long q0), .second, .val (.long q1), .second, .val (.long q2), .second, .val (.long x6_1), .second, .val (.long x8_2), .second, .val (.ref b8), .unset, .unset, .unset, .unset, .unset, .unset]) rfl k) ?_
  show Ends p e below QQ (T9.setTop (mkF m 37 #[.val (.long q0), .second, .val (.long q1), .second, .val (.long q2), .second, .val (.long x6_1), .second, .val (.long x8_2), .second, .val (.ref b8), .unset, .unset, .unset, .unset, .unset, .unset] []))
  refine Ends.step (fun _ k => XT.lload X9.here hx rfl (hb hby at_37) rfl k) ?_
  show Ends p e below QQ (T9.setTop (mkF m 39 #[.val (.long q0), .second, .val (.long q1), .second, .val (.long q2), .second, .val (.long x6_1), .second, .val (.long x8_2), .second, .val (.ref b8), .unset, .unset, .unset, .unset, .unset, .unset] [(.long q2)]))
  refine Ends.step (fun _ k => X9.ldc2J hx hown (mvT hZ (hw _ (List.mem_of_getElem? (i := 2) rfl))) (g := (mkF m 39 #[.val (.long q0), .second, .val (.long q1), .second, .val (.long q2), .second, .val (.long x6_1), .second, .val (.long x8_2), .second, .val (.ref b8), .unset, .unset, .unset, .unset, .unset, .unset] [(.long q2)])) rfl (hb hby at_39) k) ?_
  show Ends p e below QQ (T9.setTop (mkF m 42 #[.val (.long q0), .second, .val (.long q1), .second, .val (.long q2), .second, .val (.long x6_1), .second, .val (.long x8_2), .second, .val (.ref b8), .unset, .unset, .unset, .unset, .unset, .unset] [(.long (9223372036854775807 : Int64)), (.long q2)]))
  refine Ends.step (fun _ k => XT.land X9.here hx rfl (hb hby at_42) rfl k) ?_
  show Ends p e below QQ (T9.setTop (mkF m 43 #[.val (.long q0), .second, .val (.long q1), .second, .val (.long q2), .second, .val (.long x6_1), .second, .val (.long x8_2), .second, .val (.ref b8), .unset, .unset, .unset, .unset, .unset, .unset] [(.long (q2 &&& (9223372036854775807 : Int64)))]))
  refine Ends.step (fun _ k => XT.lstore X9.here hx rfl (hb hby at_43) rfl (l' := #[.val (.long q0), .second, .val (.long q1), .second, .val (.long q2), .second, .val (.long x6_1), .second, .val (.long x8_2), .second, .val (.ref b8), .val (.long (q2 &&& (9223372036854775807 : Int64))), .second, .unset, .unset, .unset, .unset]) rfl k) ?_
  show Ends p e below QQ (T9.setTop (mkF m 45 #[.val (.long q0), .second, .val (.long q1), .second, .val (.long q2), .second, .val (.long x6_1), .second, .val (.long x8_2), .second, .val (.ref b8), .val (.long (q2 &&& (9223372036854775807 : Int64))), .second, .unset, .unset, .unset, .unset] []))
  generalize hv11_3 : (q2 &&& (9223372036854775807 : Int64)) = x11_3
  have dx11_3 : f0_x11_3 q0 q1 q2 = x11_3 := by
    simp only [f0_x11_3]
    exact hv11_3
  show Ends p e below QQ (T9.setTop (mkF m 45 #[.val (.long q0), .second, .val (.long q1), .second, .val (.long q2), .second, .val (.long x6_1), .second, .val (.long x8_2), .second, .val (.ref b8), .val (.long x11_3), .second, .unset, .unset, .unset, .unset] []))
  refine Ends.step (fun _ k => XS.aload X9.here hx rfl (hb hby at_45) rfl rfl k) ?_
  show Ends p e below QQ (T9.setTop (mkF m 47 #[.val (.long q0), .second, .val (.long q1), .second, .val (.long q2), .second, .val (.long x6_1), .second, .val (.long x8_2), .second, .val (.ref b8), .val (.long x11_3), .second, .unset, .unset, .unset, .unset] [(.ref b8)]))
  refine Ends.step (fun _ k => XT.lload X9.here hx rfl (hb hby at_47) rfl k) ?_
  show Ends p e below QQ (T9.setTop (mkF m 49 #[.val (.long q0), .second, .val (.long q1), .second, .val (.long q2), .second, .val (.long x6_1), .second, .val (.long x8_2), .second, .val (.ref b8), .val (.long x11_3), .second, .unset, .unset, .unset, .unset] [(.long x11_3), (.ref b8)]))
  obtain ⟨cq10, kq10, q10a, q10b, q10c⟩ := isOf hZ rfl E_b8
  obtain ⟨_, _, ⟨T10, L10, k10, n10⟩, -, X10, ⟨Lc10, hQ10, l10, y10, z10⟩, st10⟩ := X9.virtualBack hx (y := (⟨"com/example/hiscore/hiscore/Load", "score", "(J)J"⟩ : MethodName)) (z := (⟨"com/example/hiscore/hiscore/Load", "score", "(J)J"⟩ : MethodName)) hown (mvT hZ (hw _ (List.mem_of_getElem? (i := 26) rfl))) (mvT hZ (hw _ (List.mem_of_getElem? (i := 27) rfl))) (notFace_of_selects (args := #[]) (mvT hZ (hw _ (List.mem_of_getElem? (i := 29) rfl)))) (mvT hZ (hw _ (List.mem_of_getElem? (i := 29) rfl))) (mvT hZ (hw _ (List.mem_of_getElem? (i := 28) rfl))) (by decide) (backOf (W := 0) (rm5 l Z a0 hw [] b8 x11_3 T9.heap n0 (Nat.le_trans Z0 K9.1) (by subst_vars; exact own_k q2)) hZ (hw _ (List.mem_of_getElem? (i := 30) rfl)) (hw _ (List.mem_of_getElem? (i := 9) rfl)) (by decide) (by decide)) q10a q10c (g := (mkF m 49 #[.val (.long q0), .second, .val (.long q1), .second, .val (.long q2), .second, .val (.long x6_1), .second, .val (.long x8_2), .second, .val (.ref b8), .val (.long x11_3), .second, .unset, .unset, .unset, .unset] [(.long x11_3), (.ref b8)])) rfl (by rw [hml]; rfl) (Steps.refl _) (argsL := [(.long x11_3)]) (rest := []) (lenOf pd_3 rfl) rfl (by show 2 * 0 + _ ≤ _; exact Nat.le_of_eq rfl) (hb hby at_49) (fun _ _ => ⟨rfl, rfl, (by decide : 1 + 0 ≤ _), (by decide : 2 + 0 ≤ _)⟩)
  dsimp only [Pt.U, Pt.locs, Pt.cells, Pt.slots] at X10 l10 y10 z10 st10 hQ10
  subst l10 y10 z10
  obtain ⟨rfl, Nq10, hh10⟩ := hQ10
  have N10 := Fr.app N9 Nq10
  refine Ends.step (fun _ k => st10.trans k) ?_
  show Ends p e below QQ (T10.setTop (mkF m 52 #[.val (.long q0), .second, .val (.long q1), .second, .val (.long q2), .second, .val (.long x6_1), .second, .val (.long x8_2), .second, .val (.ref b8), .val (.long x11_3), .second, .unset, .unset, .unset, .unset] [(.long (f5 x11_3))]))
  refine Ends.step (fun _ k => XT.lstore X10.here hx rfl (hb hby at_52) rfl (l' := #[.val (.long q0), .second, .val (.long q1), .second, .val (.long q2), .second, .val (.long x6_1), .second, .val (.long x8_2), .second, .val (.ref b8), .val (.long x11_3), .second, .val (.long (f5 x11_3)), .second, .unset, .unset]) rfl k) ?_
  show Ends p e below QQ (T10.setTop (mkF m 54 #[.val (.long q0), .second, .val (.long q1), .second, .val (.long q2), .second, .val (.long x6_1), .second, .val (.long x8_2), .second, .val (.ref b8), .val (.long x11_3), .second, .val (.long (f5 x11_3)), .second, .unset, .unset] []))
  refine Ends.step (fun _ k => XT.lload X10.here hx rfl (hb hby at_54) rfl k) ?_
  show Ends p e below QQ (T10.setTop (mkF m 56 #[.val (.long q0), .second, .val (.long q1), .second, .val (.long q2), .second, .val (.long x6_1), .second, .val (.long x8_2), .second, .val (.ref b8), .val (.long x11_3), .second, .val (.long (f5 x11_3)), .second, .unset, .unset] [(.long (f5 x11_3))]))
  refine Ends.step (fun _ k => XT.lconstV X10.here hx rfl (1 : Int64) (hb hby at_56) rfl k) ?_
  show Ends p e below QQ (T10.setTop (mkF m 57 #[.val (.long q0), .second, .val (.long q1), .second, .val (.long q2), .second, .val (.long x6_1), .second, .val (.long x8_2), .second, .val (.ref b8), .val (.long x11_3), .second, .val (.long (f5 x11_3)), .second, .unset, .unset] [(.long (1 : Int64)), (.long (f5 x11_3))]))
  refine Ends.step (fun _ k => XT.lcmp X10.here hx rfl (hb hby at_57) rfl k) ?_
  show Ends p e below QQ (T10.setTop (mkF m 58 #[.val (.long q0), .second, .val (.long q1), .second, .val (.long q2), .second, .val (.long x6_1), .second, .val (.long x8_2), .second, .val (.ref b8), .val (.long x11_3), .second, .val (.long (f5 x11_3)), .second, .unset, .unset] [(.int (XT.cmpL (f5 x11_3) (1 : Int64)))]))
  by_cases hc58_11 : (f5 x11_3) < (1 : Int64)
  · refine Ends.step (fun _ k => XS.ifYes X10.here hx rfl (pc0 := 58) (pc' := 70) rfl (hb hby at_58) rfl (XT.ll_lt_t hc58_11) (by decide) (by decide) k) ?_
    show Ends p e below QQ (T10.setTop (mkF m 70 #[.val (.long q0), .second, .val (.long q1), .second, .val (.long q2), .second, .val (.long x6_1), .second, .val (.long x8_2), .second, .val (.ref b8), .val (.long x11_3), .second, .val (.long (f5 x11_3)), .second, .unset, .unset] []))
    refine Ends.step (fun _ k => XT.iconstV X10.here hx rfl (0 : Int32) (hb hby at_70) rfl k) ?_
    show Ends p e below QQ (T10.setTop (mkF m 71 #[.val (.long q0), .second, .val (.long q1), .second, .val (.long q2), .second, .val (.long x6_1), .second, .val (.long x8_2), .second, .val (.ref b8), .val (.long x11_3), .second, .val (.long (f5 x11_3)), .second, .unset, .unset] [(.int (0 : Int32))]))
    exact Ends.fin (some (.int (0 : Int32))) X10 hQQ (fun h => by rw [Bd.returns] at h; cases h) Bd.notSynchronized (fun _ hr => retOut X10 hx (t := .boolean) Bd.returns rfl (Or.inl ⟨rfl, (by simp), _, rfl⟩) (hb hby at_71) hr) hh10 (by decide) (by decide) ⟨(by simp only [f0, dx6_1, dx8_2, dx11_3, if_pos hc58_11]), N10, K9⟩
  · refine Ends.step (fun _ k => XS.ifNo X10.here hx rfl (hb hby at_58) rfl (XT.ll_lt_f hc58_11) k) ?_
    show Ends p e below QQ (T10.setTop (mkF m 61 #[.val (.long q0), .second, .val (.long q1), .second, .val (.long q2), .second, .val (.long x6_1), .second, .val (.long x8_2), .second, .val (.ref b8), .val (.long x11_3), .second, .val (.long (f5 x11_3)), .second, .unset, .unset] []))
    refine Ends.step (fun _ k => XT.lload X10.here hx rfl (hb hby at_61) rfl k) ?_
    show Ends p e below QQ (T10.setTop (mkF m 63 #[.val (.long q0), .second, .val (.long q1), .second, .val (.long q2), .second, .val (.long x6_1), .second, .val (.long x8_2), .second, .val (.ref b8), .val (.long x11_3), .second, .val (.long (f5 x11_3)), .second, .unset, .unset] [(.long (f5 x11_3))]))
    refine Ends.step (fun _ k => X10.ldc2J hx hown (mvT hZ (hw _ (List.mem_of_getElem? (i := 32) rfl))) (g := (mkF m 63 #[.val (.long q0), .second, .val (.long q1), .second, .val (.long q2), .second, .val (.long x6_1), .second, .val (.long x8_2), .second, .val (.ref b8), .val (.long x11_3), .second, .val (.long (f5 x11_3)), .second, .unset, .unset] [(.long (f5 x11_3))])) rfl (hb hby at_63) k) ?_
    show Ends p e below QQ (T10.setTop (mkF m 66 #[.val (.long q0), .second, .val (.long q1), .second, .val (.long q2), .second, .val (.long x6_1), .second, .val (.long x8_2), .second, .val (.ref b8), .val (.long x11_3), .second, .val (.long (f5 x11_3)), .second, .unset, .unset] [(.long (1000 : Int64)), (.long (f5 x11_3))]))
    refine Ends.step (fun _ k => XT.lcmp X10.here hx rfl (hb hby at_66) rfl k) ?_
    show Ends p e below QQ (T10.setTop (mkF m 67 #[.val (.long q0), .second, .val (.long q1), .second, .val (.long q2), .second, .val (.long x6_1), .second, .val (.long x8_2), .second, .val (.ref b8), .val (.long x11_3), .second, .val (.long (f5 x11_3)), .second, .unset, .unset] [(.int (XT.cmpL (f5 x11_3) (1000 : Int64)))]))
    by_cases hc67_12 : (1000 : Int64) < (f5 x11_3)
    · refine Ends.step (fun _ k => XS.ifNo X10.here hx rfl (hb hby at_67) rfl (XT.ll_le_f hc67_12) k) ?_
      show Ends p e below QQ (T10.setTop (mkF m 70 #[.val (.long q0), .second, .val (.long q1), .second, .val (.long q2), .second, .val (.long x6_1), .second, .val (.long x8_2), .second, .val (.ref b8), .val (.long x11_3), .second, .val (.long (f5 x11_3)), .second, .unset, .unset] []))
      refine Ends.step (fun _ k => XT.iconstV X10.here hx rfl (0 : Int32) (hb hby at_70) rfl k) ?_
      show Ends p e below QQ (T10.setTop (mkF m 71 #[.val (.long q0), .second, .val (.long q1), .second, .val (.long q2), .second, .val (.long x6_1), .second, .val (.long x8_2), .second, .val (.ref b8), .val (.long x11_3), .second, .val (.long (f5 x11_3)), .second, .unset, .unset] [(.int (0 : Int32))]))
      exact Ends.fin (some (.int (0 : Int32))) X10 hQQ (fun h => by rw [Bd.returns] at h; cases h) Bd.notSynchronized (fun _ hr => retOut X10 hx (t := .boolean) Bd.returns rfl (Or.inl ⟨rfl, (by simp), _, rfl⟩) (hb hby at_71) hr) hh10 (by decide) (by decide) ⟨(by simp only [f0, dx6_1, dx8_2, dx11_3, if_neg hc58_11, if_pos hc67_12]), N10, K9⟩
    · refine Ends.step (fun _ k => XS.ifYes X10.here hx rfl (pc0 := 67) (pc' := 72) rfl (hb hby at_67) rfl (XT.ll_le_t hc67_12) (by decide) (by decide) k) ?_
      show Ends p e below QQ (T10.setTop (mkF m 72 #[.val (.long q0), .second, .val (.long q1), .second, .val (.long q2), .second, .val (.long x6_1), .second, .val (.long x8_2), .second, .val (.ref b8), .val (.long x11_3), .second, .val (.long (f5 x11_3)), .second, .unset, .unset] []))
      refine Ends.step (fun _ k => XT.lload X10.here hx rfl (hb hby at_72) rfl k) ?_
      show Ends p e below QQ (T10.setTop (mkF m 74 #[.val (.long q0), .second, .val (.long q1), .second, .val (.long q2), .second, .val (.long x6_1), .second, .val (.long x8_2), .second, .val (.ref b8), .val (.long x11_3), .second, .val (.long (f5 x11_3)), .second, .unset, .unset] [(.long x11_3)]))
      refine Ends.step (fun _ k => XT.lload X10.here hx rfl (hb hby at_74) rfl k) ?_
      show Ends p e below QQ (T10.setTop (mkF m 76 #[.val (.long q0), .second, .val (.long q1), .second, .val (.long q2), .second, .val (.long x6_1), .second, .val (.long x8_2), .second, .val (.ref b8), .val (.long x11_3), .second, .val (.long (f5 x11_3)), .second, .unset, .unset] [(.long (f5 x11_3)), (.long x11_3)]))
      refine Ends.step (fun _ k => XT.lconstV X10.here hx rfl (1 : Int64) (hb hby at_76) rfl k) ?_
      show Ends p e below QQ (T10.setTop (mkF m 77 #[.val (.long q0), .second, .val (.long q1), .second, .val (.long q2), .second, .val (.long x6_1), .second, .val (.long x8_2), .second, .val (.ref b8), .val (.long x11_3), .second, .val (.long (f5 x11_3)), .second, .unset, .unset] [(.long (1 : Int64)), (.long (f5 x11_3)), (.long x11_3)]))
      refine Ends.step (fun _ k => XT.lsub X10.here hx rfl (hb hby at_77) rfl k) ?_
      show Ends p e below QQ (T10.setTop (mkF m 78 #[.val (.long q0), .second, .val (.long q1), .second, .val (.long q2), .second, .val (.long x6_1), .second, .val (.long x8_2), .second, .val (.ref b8), .val (.long x11_3), .second, .val (.long (f5 x11_3)), .second, .unset, .unset] [(.long ((f5 x11_3) - (1 : Int64))), (.long x11_3)]))
      refine Ends.step (fun _ k => XT.lsub X10.here hx rfl (hb hby at_78) rfl k) ?_
      show Ends p e below QQ (T10.setTop (mkF m 79 #[.val (.long q0), .second, .val (.long q1), .second, .val (.long q2), .second, .val (.long x6_1), .second, .val (.long x8_2), .second, .val (.ref b8), .val (.long x11_3), .second, .val (.long (f5 x11_3)), .second, .unset, .unset] [(.long (x11_3 - ((f5 x11_3) - (1 : Int64))))]))
      refine Ends.step (fun _ k => XT.lstore X10.here hx rfl (hb hby at_79) rfl (l' := #[.val (.long q0), .second, .val (.long q1), .second, .val (.long q2), .second, .val (.long x6_1), .second, .val (.long x8_2), .second, .val (.ref b8), .val (.long x11_3), .second, .val (.long (f5 x11_3)), .second, .val (.long (x11_3 - ((f5 x11_3) - (1 : Int64)))), .second]) rfl k) ?_
      show Ends p e below QQ (T10.setTop (mkF m 81 #[.val (.long q0), .second, .val (.long q1), .second, .val (.long q2), .second, .val (.long x6_1), .second, .val (.long x8_2), .second, .val (.ref b8), .val (.long x11_3), .second, .val (.long (f5 x11_3)), .second, .val (.long (x11_3 - ((f5 x11_3) - (1 : Int64)))), .second] []))
      generalize hv15_4 : (x11_3 - ((f5 x11_3) - (1 : Int64))) = x15_4
      have dx15_4 : f0_x15_4 q0 q1 q2 = x15_4 := by
        simp only [f0_x15_4, dx11_3]
        exact hv15_4
      show Ends p e below QQ (T10.setTop (mkF m 81 #[.val (.long q0), .second, .val (.long q1), .second, .val (.long q2), .second, .val (.long x6_1), .second, .val (.long x8_2), .second, .val (.ref b8), .val (.long x11_3), .second, .val (.long (f5 x11_3)), .second, .val (.long x15_4), .second] []))
      refine Ends.step (fun _ k => XT.lload X10.here hx rfl (hb hby at_81) rfl k) ?_
      show Ends p e below QQ (T10.setTop (mkF m 83 #[.val (.long q0), .second, .val (.long q1), .second, .val (.long q2), .second, .val (.long x6_1), .second, .val (.long x8_2), .second, .val (.ref b8), .val (.long x11_3), .second, .val (.long (f5 x11_3)), .second, .val (.long x15_4), .second] [(.long x15_4)]))
      refine Ends.step (fun _ k => X10.ldc2J hx hown (mvT hZ (hw _ (List.mem_of_getElem? (i := 32) rfl))) (g := (mkF m 83 #[.val (.long q0), .second, .val (.long q1), .second, .val (.long q2), .second, .val (.long x6_1), .second, .val (.long x8_2), .second, .val (.ref b8), .val (.long x11_3), .second, .val (.long (f5 x11_3)), .second, .val (.long x15_4), .second] [(.long x15_4)])) rfl (hb hby at_83) k) ?_
      show Ends p e below QQ (T10.setTop (mkF m 86 #[.val (.long q0), .second, .val (.long q1), .second, .val (.long q2), .second, .val (.long x6_1), .second, .val (.long x8_2), .second, .val (.ref b8), .val (.long x11_3), .second, .val (.long (f5 x11_3)), .second, .val (.long x15_4), .second] [(.long (1000 : Int64)), (.long x15_4)]))
      refine Ends.step (fun _ k => XT.ldiv X10.here hx rfl (hb hby at_86) rfl (by decide) k) ?_
      show Ends p e below QQ (T10.setTop (mkF m 87 #[.val (.long q0), .second, .val (.long q1), .second, .val (.long q2), .second, .val (.long x6_1), .second, .val (.long x8_2), .second, .val (.ref b8), .val (.long x11_3), .second, .val (.long (f5 x11_3)), .second, .val (.long x15_4), .second] [(.long (x15_4 / (1000 : Int64)))]))
      refine Ends.step (fun _ k => X10.ldc2J hx hown (mvT hZ (hw _ (List.mem_of_getElem? (i := 32) rfl))) (g := (mkF m 87 #[.val (.long q0), .second, .val (.long q1), .second, .val (.long q2), .second, .val (.long x6_1), .second, .val (.long x8_2), .second, .val (.ref b8), .val (.long x11_3), .second, .val (.long (f5 x11_3)), .second, .val (.long x15_4), .second] [(.long (x15_4 / (1000 : Int64)))])) rfl (hb hby at_87) k) ?_
      show Ends p e below QQ (T10.setTop (mkF m 90 #[.val (.long q0), .second, .val (.long q1), .second, .val (.long q2), .second, .val (.long x6_1), .second, .val (.long x8_2), .second, .val (.ref b8), .val (.long x11_3), .second, .val (.long (f5 x11_3)), .second, .val (.long x15_4), .second] [(.long (1000 : Int64)), (.long (x15_4 / (1000 : Int64)))]))
      refine Ends.step (fun _ k => XT.lmul X10.here hx rfl (hb hby at_90) rfl k) ?_
      show Ends p e below QQ (T10.setTop (mkF m 91 #[.val (.long q0), .second, .val (.long q1), .second, .val (.long q2), .second, .val (.long x6_1), .second, .val (.long x8_2), .second, .val (.ref b8), .val (.long x11_3), .second, .val (.long (f5 x11_3)), .second, .val (.long x15_4), .second] [(.long ((x15_4 / (1000 : Int64)) * (1000 : Int64)))]))
      refine Ends.step (fun _ k => XT.lload X10.here hx rfl (hb hby at_91) rfl k) ?_
      show Ends p e below QQ (T10.setTop (mkF m 93 #[.val (.long q0), .second, .val (.long q1), .second, .val (.long q2), .second, .val (.long x6_1), .second, .val (.long x8_2), .second, .val (.ref b8), .val (.long x11_3), .second, .val (.long (f5 x11_3)), .second, .val (.long x15_4), .second] [(.long x15_4), (.long ((x15_4 / (1000 : Int64)) * (1000 : Int64)))]))
      refine Ends.step (fun _ k => XT.lcmp X10.here hx rfl (hb hby at_93) rfl k) ?_
      show Ends p e below QQ (T10.setTop (mkF m 94 #[.val (.long q0), .second, .val (.long q1), .second, .val (.long q2), .second, .val (.long x6_1), .second, .val (.long x8_2), .second, .val (.ref b8), .val (.long x11_3), .second, .val (.long (f5 x11_3)), .second, .val (.long x15_4), .second] [(.int (XT.cmpL ((x15_4 / (1000 : Int64)) * (1000 : Int64)) x15_4))]))
      have J102_13 : (∀ (v102_5 : Int32) (hv102_5 : v102_5 = (if ((x15_4 / (1000 : Int64)) * (1000 : Int64)) = x15_4 then (1 : Int32) else (0 : Int32))), Ends p e below QQ (T10.setTop (mkF m 102 #[.val (.long q0), .second, .val (.long q1), .second, .val (.long q2), .second, .val (.long x6_1), .second, .val (.long x8_2), .second, .val (.ref b8), .val (.long x11_3), .second, .val (.long (f5 x11_3)), .second, .val (.long x15_4), .second] [(.int v102_5)]))) → Ends p e below QQ (T10.setTop (mkF m 94 #[.val (.long q0), .second, .val (.long q1), .second, .val (.long q2), .second, .val (.long x6_1), .second, .val (.long x8_2), .second, .val (.ref b8), .val (.long x11_3), .second, .val (.long (f5 x11_3)), .second, .val (.long x15_4), .second] [(.int (XT.cmpL ((x15_4 / (1000 : Int64)) * (1000 : Int64)) x15_4))])) := by
        intro hJ
        by_cases hc94_14 : ((x15_4 / (1000 : Int64)) * (1000 : Int64)) = x15_4
        · refine Ends.step (fun _ k => XS.ifNo X10.here hx rfl (hb hby at_94) rfl (XT.ll_ne_f hc94_14) k) ?_
          show Ends p e below QQ (T10.setTop (mkF m 97 #[.val (.long q0), .second, .val (.long q1), .second, .val (.long q2), .second, .val (.long x6_1), .second, .val (.long x8_2), .second, .val (.ref b8), .val (.long x11_3), .second, .val (.long (f5 x11_3)), .second, .val (.long x15_4), .second] []))
          refine Ends.step (fun _ k => XT.iconstV X10.here hx rfl (1 : Int32) (hb hby at_97) rfl k) ?_
          show Ends p e below QQ (T10.setTop (mkF m 98 #[.val (.long q0), .second, .val (.long q1), .second, .val (.long q2), .second, .val (.long x6_1), .second, .val (.long x8_2), .second, .val (.ref b8), .val (.long x11_3), .second, .val (.long (f5 x11_3)), .second, .val (.long x15_4), .second] [(.int (1 : Int32))]))
          refine Ends.step (fun _ k => XS.goto X10.here hx rfl (pc0 := 98) (pc' := 102) rfl (hb hby at_98) (by decide) (by decide) k) ?_
          exact hJ _ (by simp only [if_pos hc94_14])
        · refine Ends.step (fun _ k => XS.ifYes X10.here hx rfl (pc0 := 94) (pc' := 101) rfl (hb hby at_94) rfl (XT.ll_ne_t hc94_14) (by decide) (by decide) k) ?_
          show Ends p e below QQ (T10.setTop (mkF m 101 #[.val (.long q0), .second, .val (.long q1), .second, .val (.long q2), .second, .val (.long x6_1), .second, .val (.long x8_2), .second, .val (.ref b8), .val (.long x11_3), .second, .val (.long (f5 x11_3)), .second, .val (.long x15_4), .second] []))
          refine Ends.step (fun _ k => XT.iconstV X10.here hx rfl (0 : Int32) (hb hby at_101) rfl k) ?_
          exact hJ _ (by simp only [if_neg hc94_14])
      refine J102_13 fun v102_5 hv102_5 => ?_
      have dv102_5 : f0_v102_5 q0 q1 q2 = v102_5 := by
        simp only [f0_v102_5, dx15_4]
        exact hv102_5.symm
      show Ends p e below QQ (T10.setTop (mkF m 102 #[.val (.long q0), .second, .val (.long q1), .second, .val (.long q2), .second, .val (.long x6_1), .second, .val (.long x8_2), .second, .val (.ref b8), .val (.long x11_3), .second, .val (.long (f5 x11_3)), .second, .val (.long x15_4), .second] [(.int v102_5)]))
      exact Ends.fin (some (.int v102_5)) X10 hQQ (fun h => by rw [Bd.returns] at h; cases h) Bd.notSynchronized (fun _ hr => retOut X10 hx (t := .boolean) Bd.returns (by rw [hv102_5]; exact own_narB (by repeat' (first | exact Or.inl rfl | exact Or.inr rfl | split))) (Or.inl ⟨rfl, (by simp), _, rfl⟩) (hb hby at_102) hr) hh10 (by decide) (by decide) ⟨(by simp only [f0, dx6_1, dx8_2, dx11_3, dx15_4, dv102_5, if_neg hc58_11, if_neg hc67_12]), N10, K9⟩
theorem own_law (p q a : Int64) : f0 p q a = 1 := by
  have e1 := c_maskL a 9223372036854775807 63 (by decide) (by decide)
  have hx : f0_x11_3 p q a = a &&& 9223372036854775807 := rfl
  generalize hk : a &&& 9223372036854775807 = k at e1 hx
  have hk0 : 0 ≤ k.toInt := by omega
  have e2 := (c_lrem k 1000 1000 (by decide)).1 hk0
  rw [lrem_mod] at e2
  have kl := k.toInt_lt
  have e3 := c_ladd (k % 1000) 1
  have l1 := (k % 1000 + 1).toInt_lt; have l2 := (k % 1000 + 1).le_toInt
  have e4 := c_lsub (k % 1000 + 1) 1
  have l3 := (k % 1000 + 1 - 1).toInt_lt; have l4 := (k % 1000 + 1 - 1).le_toInt
  simp only [Int64.reduceToInt] at e3 e4
  have f1 : (k % 1000 + 1 - 1).toInt = k.toInt % 1000 := by omega
  have e5 := c_lsub k (k % 1000 + 1 - 1)
  have l5 := (k - (k % 1000 + 1 - 1)).toInt_lt; have l6 := (k - (k % 1000 + 1 - 1)).le_toInt
  have f2 : (k - (k % 1000 + 1 - 1)).toInt = k.toInt - k.toInt % 1000 := by omega
  have e6 := (c_ldiv (k - (k % 1000 + 1 - 1)) 1000 1000 (by decide) (by decide)).1 (by omega)
  have e7 := c_lmul ((k - (k % 1000 + 1 - 1)) / 1000) 1000
  have l7 := ((k - (k % 1000 + 1 - 1)) / 1000 * 1000).toInt_lt; have l8 := ((k - (k % 1000 + 1 - 1)) / 1000 * 1000).le_toInt
  simp only [Int64.reduceToInt] at e7
  have key : (k - (k % 1000 + 1 - 1)) / 1000 * 1000 = k - (k % 1000 + 1 - 1) := by
    apply Int64.toInt_inj.mp
    rw [f2, e6] at *
    omega
  simp only [f0, f0_v102_5, f0_x15_4, f5, hx]
  rw [if_neg (by simp only [Int64.lt_iff_toInt_lt, Int64.reduceToInt]; omega), if_neg (by simp only [Int64.lt_iff_toInt_lt, Int64.reduceToInt]; omega), if_pos key]
set_option maxRecDepth 65536 in
set_option maxHeartbeats 40000000 in
theorem comes_1 {Post : Tables → Env → Array Value → State → Outcome → State → Prop} (hpost : ∀ tb e args s v u, (limb_1_1.after args s (.returned v) u = true ∧ limb_1_2.after args s (.returned v) u = true ∧ True) → FrameEnd s (.returned v) u (Jvm.fieldLocs frame_1_writes args s ++ Jvm.arrayLocs frame_1_arrays args s ++ Jvm.staticLocs frame_1_statics s) 16 128 → Post tb e args s (.returned v) u) :
    ArmFor flags0 classFile x code maxLocals ret World_1 tables_1 room_1 Calls_1 rest_1 Pre_1 Post := by
  intro l hfl _ _ p e ha hc hk s m args below hf hA hF happ hP
  obtain ⟨hcalls, hrest, hpre⟩ := hP
  obtain ⟨-, -, -, hnamed, -, -, -, hat⟩ := (Spec.applies_iff hf).mp happ
  obtain ⟨hg, hn⟩ := and_e (Cond.before_iff.mp (show (Jvm.Cond.and given_1 narrow_1).before args s = true from hpre))
  obtain ⟨gl1, gr1⟩ := and_e hg
  obtain ⟨gl2, gr2⟩ := and_e gr1
  obtain ⟨gl3, gr3⟩ := and_e gr2
  obtain ⟨w0, w1, w2, rfl⟩ : ∃ w0 w1 w2 : Value, args = #[w0, w1, w2] := by
    have hs : args.size = 3 := by simpa [Cond.value, given_1] using gl1
    obtain ⟨L⟩ := args
    match L, hs with
    | [w0, w1, w2], _ => exact ⟨w0, w1, w2, rfl⟩
  have hw := fun d (hd : d ∈ tables_1) => atoms_spec (ws := Jvm.Cond.code x code maxLocals ret :: tables_1) hat d (List.mem_cons_of_mem _ hd)
  have hfit : Fit s := fun {y c} hc i hi => by
    obtain ⟨ha, rfl⟩ := Array.getElem?_eq_some_iff.mp hc
    have q := List.all_eq_true.mp ((Array.all_eq_true_iff_forall_mem.mp hF) _ (Array.getElem_mem ha)) i (List.mem_range.mpr hi)
    simpa [Array.getElem?_eq_getElem hi] using q
  obtain ⟨i0, ei0⟩ := isL_v gl2
  obtain rfl : w0 = (.long i0) := Option.some.inj ei0
  obtain ⟨i1, ei1⟩ := isL_v gl3
  obtain rfl : w1 = (.long i1) := Option.some.inj ei1
  obtain ⟨i2, ei2⟩ := isL_v gr3
  obtain rfl : w2 = (.long i2) := Option.some.inj ei2
  obtain ⟨n, o, h1, h2, h3, _, L, rfl, hQ, hq⟩ := rm0 l s _ hw tables_1 i0 i1 i2 s.heap s.heap.size (Nat.le_refl _)  p e ha hc hk s m _ below hf ((Spec.applies_iff_loose hf).mp happ).1 ⟨rfl, State.Warmed39.refl s, rfl⟩ trivial
  obtain ⟨hv, N, -⟩ := hQ
  have hlaw : (f0 i0 i1 i2) = 1 := own_law i0 i1 i2
  rw [hlaw] at hv
  subst hv
  refine ⟨n, _, h1, h2, h3, hpost _ _ _ _ _ _ ⟨Cond.after_iff.mpr rfl, Cond.after_iff.mpr (eq_i res_at (Term.int_eval (1)) rfl), trivial⟩ ⟨hq.1, hq.2.1, (hq.2.2.sift fun y hy => Or.inr (N y hy)).mono (by decide) (by decide)⟩⟩
theorem main_1_1 : Claimed_1_1 := comes_1 fun _ _ _ _ _ _ h hF => ⟨h.1, hF⟩
theorem main_1_2 : Claimed_1_2 := comes_1 fun _ _ _ _ _ _ h hF => ⟨h.2.1, hF⟩
end Jvm.Pilot.@@N@@
namespace Jvm.Pilot.@@N@@
open Jvm Jvm.ClassFile Sem Op Lib Jvm.Free Jvm.Stand Jvm.Pilot.@@N@@.Jvm.D
/-! MADE BY PROGRAM (witnessworld.py) out of the Statement's table words and the real class files: 11 classes; the members and pool entries that the words name. The judged class is class 1, her method 1. -/
namespace start1
open Jvm.ClassFile
def u (s : String) : CpInfo := .utf8 (stringToUtf16 s)
/-- a pool by its gaps: so many unusable entries, then the entry; so many at the end -/
def gap : Nat → List CpInfo → List CpInfo
  | 0, r => r
  | n + 1, r => .unusable :: gap n r
def poolList (es : List (Nat × CpInfo)) (last : Nat) : List CpInfo := es.foldr (fun e r => gap e.1 (e.2 :: r)) (gap last [])
def pool (es : List (Nat × CpInfo)) (last : Nat) : Array CpInfo := ⟨poolList es last⟩
def fileOf (pool : Array CpInfo) (this : Nat) (attrs : Array Attribute := #[]) (ms : Array MethodInfo := #[]) (fl : Nat := 33) (sup : Nat := 0) (ifs : Array Nat := #[]) (fds : Array FieldInfo := #[]) : ClassFile where
  minorVersion := 0
  majorVersion := 65
  constantPool := pool
  accessFlags := fl
  thisClass := this
  superClass := sup
  interfaces := ifs
  fields := fds
  methods := ms
  attributes := attrs
def plain (name : String) (sup : Option ClassId) : Class where
  name := name
  kind := .ordinary
  loader := none
  accessFlags := 33
  super := sup
  interfaces := #[]
  cf := none
  fields := #[]
  methods := #[]
  instanceTypes := #[]
  staticTypes := #[]
  resolved := #[]
  callSites := []
  init := .initialized
  statics := none
  mirror := none

def pool0 : Array CpInfo := pool [(5, u "<init>"), (0, u "()V"), (1, .class_ 10), (1, u "java/lang/Object")] 113

def k0c0 : Code := { maxStack := 0, maxLocals := 1, code := object_method_1_code, exceptionTable := #[], attributes := #[] }
def k0m0 : Method := { name := "<init>", desc := "()V", sig := { parameters := [], returnType := none }, accessFlags := 1, code := some k0c0 }
/-- java/lang/Object -/
def k0 : Class := { plain "java/lang/Object" none with
  accessFlags := 33
  interfaces := #[]
  cf := some (fileOf pool0 8 #[] #[{ accessFlags := 1, nameIndex := 5, descriptorIndex := 6, attributes := #[] }] 33 0 #[] #[])
  fields := #[]
  methods := #[k0m0]
  instanceTypes := #[]
  staticTypes := #[]
  resolved := Array.replicate 124 none
  statics := none }

def pool1 : Array CpInfo := pool [(2, .class_ 4), (1, u "java/lang/Object"), (0, u "<init>"), (0, u "()V"), (0, .long 2147483647), (1, .long 1000000000), (3, .long 9223372036854775807), (1, .methodref 16 17), (0, .class_ 18), (0, .nameAndType 19 20), (0, u "java/lang/Math"), (0, u "max"), (0, u "(JJ)J"), (0, .class_ 22), (0, u "com/example/hiscore/hiscore/Load"), (0, .methodref 21 24), (0, .nameAndType 5 25), (0, u "(JJ)V"), (0, .methodref 21 27), (0, .nameAndType 28 29), (0, u "score"), (0, u "(J)J"), (0, .long 1000), (1, .class_ 33), (0, u "com/example/hiscore/hiscore/LoadScorePinLaw"), (2, u "law"), (0, u "(JJJ)Z")] 3

def k1m0 : Method := { name := "<init>", desc := "()V", sig := { parameters := [], returnType := none }, accessFlags := 1, code := none }
def k1c1 : Code := { maxStack := 6, maxLocals := 17, code := code, exceptionTable := #[], attributes := #[] }
def k1m1 : Method := { name := "law", desc := "(JJJ)Z", sig := { parameters := [.long, .long, .long], returnType := some .boolean }, accessFlags := 9, code := some k1c1 }
/-- com/example/hiscore/hiscore/LoadScorePinLaw -/
def k1 : Class := { plain "com/example/hiscore/hiscore/LoadScorePinLaw" (some 0) with
  accessFlags := 49
  interfaces := #[]
  cf := some (fileOf pool1 32 #[] #[{ accessFlags := 1, nameIndex := 5, descriptorIndex := 6, attributes := #[] }, { accessFlags := 9, nameIndex := 36, descriptorIndex := 37, attributes := #[] }] 49 2 #[] #[])
  fields := #[]
  methods := #[k1m0, k1m1]
  instanceTypes := #[]
  staticTypes := #[]
  resolved := Array.replicate 41 none
  statics := none }

def pool2 : Array CpInfo := pool [(1, .class_ 2), (0, u "java/lang/Math"), (1, .class_ 6), (1, u "java/lang/Object"), (0, u "<init>"), (0, u "()V"), (89, .class_ 100), (1, u "java/lang/Math$RandomNumberGeneratorHolder"), (20, u "(JJ)J"), (50, u "negativeZeroFloatBits"), (0, u "J"), (2, u "negativeZeroDoubleBits"), (21, u "max"), (46, u "$assertionsDisabled"), (0, u "Z"), (91, u "twoToTheDoubleScaleDown"), (0, u "D"), (4, u "twoToTheDoubleScaleUp"), (9, u "E"), (3, u "PI"), (2, u "TAU"), (2, u "DEGREES_TO_RADIANS"), (0, u "RADIANS_TO_DEGREES")] 94

def k2m0 : Method := { name := "<init>", desc := "()V", sig := { parameters := [], returnType := none }, accessFlags := 2, code := none }
def k2c1 : Code := { maxStack := 4, maxLocals := 4, code := jdk_29_method_66_code, exceptionTable := #[], attributes := #[] }
def k2m1 : Method := { name := "max", desc := "(JJ)J", sig := { parameters := [.long, .long], returnType := some .long }, accessFlags := 9, code := some k2c1 }
/-- java/lang/Math -/
def k2 : Class := { plain "java/lang/Math" (some 0) with
  accessFlags := 49
  interfaces := #[]
  cf := some (fileOf pool2 1 #[.nestMembers #[98]] #[{ accessFlags := 2, nameIndex := 7, descriptorIndex := 8, attributes := #[] }, { accessFlags := 9, nameIndex := 198, descriptorIndex := 121, attributes := #[] }] 49 4 #[] #[{ accessFlags := 25, nameIndex := 354, descriptorIndex := 339, attributes := #[] }, { accessFlags := 25, nameIndex := 358, descriptorIndex := 339, attributes := #[] }, { accessFlags := 25, nameIndex := 361, descriptorIndex := 339, attributes := #[] }, { accessFlags := 26, nameIndex := 364, descriptorIndex := 339, attributes := #[] }, { accessFlags := 26, nameIndex := 365, descriptorIndex := 339, attributes := #[] }, { accessFlags := 26, nameIndex := 172, descriptorIndex := 173, attributes := #[] }, { accessFlags := 26, nameIndex := 176, descriptorIndex := 173, attributes := #[] }, { accessFlags := 8, nameIndex := 344, descriptorIndex := 339, attributes := #[] }, { accessFlags := 8, nameIndex := 338, descriptorIndex := 339, attributes := #[] }, { accessFlags := 4120, nameIndex := 245, descriptorIndex := 246, attributes := #[] }])
  fields := #[{ name := "E", type := .double, accessFlags := 25, slot := 0, constantValue := 0 }, { name := "PI", type := .double, accessFlags := 25, slot := 1, constantValue := 0 }, { name := "TAU", type := .double, accessFlags := 25, slot := 2, constantValue := 0 }, { name := "DEGREES_TO_RADIANS", type := .double, accessFlags := 26, slot := 3, constantValue := 0 }, { name := "RADIANS_TO_DEGREES", type := .double, accessFlags := 26, slot := 4, constantValue := 0 }, { name := "negativeZeroFloatBits", type := .long, accessFlags := 26, slot := 5, constantValue := 0 }, { name := "negativeZeroDoubleBits", type := .long, accessFlags := 26, slot := 6, constantValue := 0 }, { name := "twoToTheDoubleScaleUp", type := .double, accessFlags := 8, slot := 7, constantValue := 0 }, { name := "twoToTheDoubleScaleDown", type := .double, accessFlags := 8, slot := 8, constantValue := 0 }, { name := "$assertionsDisabled", type := .boolean, accessFlags := 4120, slot := 9, constantValue := 0 }]
  methods := #[k2m0, k2m1]
  instanceTypes := #[]
  staticTypes := #[.double, .double, .double, .double, .double, .long, .long, .double, .double, .boolean]
  resolved := Array.replicate 460 none
  statics := none }

def pool3 : Array CpInfo := pool [(1, .methodref 2 3), (0, .class_ 4), (0, .nameAndType 5 6), (0, u "java/lang/Object"), (0, u "<init>"), (0, u "()V"), (0, .class_ 8), (0, u "java/lang/Record")] 13

def k3c0 : Code := { maxStack := 1, maxLocals := 1, code := jdk_30_method_1_code, exceptionTable := #[], attributes := #[] }
def k3m0 : Method := { name := "<init>", desc := "()V", sig := { parameters := [], returnType := none }, accessFlags := 4, code := some k3c0 }
/-- java/lang/Record -/
def k3 : Class := { plain "java/lang/Record" (some 0) with
  accessFlags := 1057
  interfaces := #[]
  cf := some (fileOf pool3 7 #[] #[{ accessFlags := 4, nameIndex := 5, descriptorIndex := 6, attributes := #[] }] 1057 2 #[] #[])
  fields := #[]
  methods := #[k3m0]
  instanceTypes := #[]
  staticTypes := #[]
  resolved := Array.replicate 22 none
  statics := none }

def pool4 : Array CpInfo := pool [(1, .methodref 2 3), (0, .class_ 4), (0, .nameAndType 5 6), (0, u "java/lang/Record"), (0, u "<init>"), (0, u "()V"), (0, .class_ 8), (0, u "com/example/hiscore/hiscore/Load"), (0, .long 1000000000), (10, .fieldref 7 21), (0, .nameAndType 22 23), (0, u "players"), (0, u "J"), (0, .fieldref 7 25), (0, .nameAndType 26 23), (0, u "updates"), (15, .long 1000), (13, u "score"), (0, u "(J)J"), (42, u "MAX_PLAYERS"), (1, u "STEP"), (0, u "SCORES"), (0, u "ID_DIGITS"), (0, u "I"), (1, u "LINE_BYTES"), (1, u "(JJ)V")] 30

def k4c0 : Code := { maxStack := 4, maxLocals := 5, code := prog_8_method_1_code, exceptionTable := #[], attributes := #[] }
def k4m0 : Method := { name := "<init>", desc := "(JJ)V", sig := { parameters := [.long, .long], returnType := none }, accessFlags := 1, code := some k4c0 }
def k4c1 : Code := { maxStack := 4, maxLocals := 3, code := prog_8_method_3_code, exceptionTable := #[], attributes := #[] }
def k4m1 : Method := { name := "score", desc := "(J)J", sig := { parameters := [.long], returnType := some .long }, accessFlags := 1, code := some k4c1 }
/-- com/example/hiscore/hiscore/Load -/
def k4 : Class := { plain "com/example/hiscore/hiscore/Load" (some 3) with
  accessFlags := 49
  interfaces := #[]
  cf := some (fileOf pool4 7 #[] #[{ accessFlags := 1, nameIndex := 5, descriptorIndex := 109, attributes := #[] }, { accessFlags := 1, nameIndex := 56, descriptorIndex := 57, attributes := #[] }] 49 2 #[] #[{ accessFlags := 18, nameIndex := 22, descriptorIndex := 23, attributes := #[] }, { accessFlags := 18, nameIndex := 26, descriptorIndex := 23, attributes := #[] }, { accessFlags := 25, nameIndex := 100, descriptorIndex := 23, attributes := #[] }, { accessFlags := 26, nameIndex := 102, descriptorIndex := 23, attributes := #[] }, { accessFlags := 26, nameIndex := 103, descriptorIndex := 23, attributes := #[] }, { accessFlags := 26, nameIndex := 104, descriptorIndex := 105, attributes := #[] }, { accessFlags := 26, nameIndex := 107, descriptorIndex := 105, attributes := #[] }])
  fields := #[{ name := "players", type := .long, accessFlags := 18, slot := 0, constantValue := 0 }, { name := "updates", type := .long, accessFlags := 18, slot := 1, constantValue := 0 }, { name := "MAX_PLAYERS", type := .long, accessFlags := 25, slot := 0, constantValue := 0 }, { name := "STEP", type := .long, accessFlags := 26, slot := 1, constantValue := 0 }, { name := "SCORES", type := .long, accessFlags := 26, slot := 2, constantValue := 0 }, { name := "ID_DIGITS", type := .int, accessFlags := 26, slot := 3, constantValue := 0 }, { name := "LINE_BYTES", type := .int, accessFlags := 26, slot := 4, constantValue := 0 }]
  methods := #[k4m0, k4m1]
  instanceTypes := #[.long, .long]
  staticTypes := #[.long, .long, .long, .int, .int]
  resolved := Array.replicate 140 none
  statics := none }

def pool5 : Array CpInfo := pool [(1, u "java/lang/Cloneable"), (0, .class_ 1), (0, u "java/lang/Object"), (0, .class_ 3)] 3

/-- java/lang/Cloneable -/
def k5 : Class := { plain "java/lang/Cloneable" (some 0) with
  accessFlags := 1537
  interfaces := #[]
  cf := some (fileOf pool5 2 #[] #[] 1537 4 #[] #[])
  fields := #[]
  methods := #[]
  instanceTypes := #[]
  staticTypes := #[]
  resolved := Array.replicate 8 none
  statics := none }

def pool6 : Array CpInfo := pool [(1, u "java/io/Serializable"), (0, .class_ 1), (0, u "java/lang/Object"), (0, .class_ 3)] 3

/-- java/io/Serializable -/
def k6 : Class := { plain "java/io/Serializable" (some 0) with
  accessFlags := 1537
  interfaces := #[]
  cf := some (fileOf pool6 2 #[] #[] 1537 4 #[] #[])
  fields := #[]
  methods := #[]
  instanceTypes := #[]
  staticTypes := #[]
  resolved := Array.replicate 8 none
  statics := none }

/-- the primitive byte -/
def k7 : Class := { plain "byte" none with kind := .primitive 'B', accessFlags := 0x411 }
/-- [B -/
def k8 : Class := { plain "[B" (some 0) with kind := .array 7 .byte, interfaces := #[5, 6], accessFlags := 1041 }

/-- the primitive int -/
def k9 : Class := { plain "int" none with kind := .primitive 'I', accessFlags := 0x411 }
/-- [I -/
def k10 : Class := { plain "[I" (some 0) with kind := .array 9 .int, interfaces := #[5, 6], accessFlags := 1041 }

def heap : Heap := #[]
def classes : Array Class := #[k0, k1, k2, k3, k4, k5, k6, k7, k8, k9, k10]
def interned : List (Array UInt16 × Addr) := []
def slotsUsed : Nat := 0
def theMethod : MethodId := ⟨1, 1⟩
def args0 : Array Value := #[.long 5, .long 7, .long 9]
def aboutOver (below : List Frame) : State where
  vm := { classes := classes, interned := interned.toArray }
  heap := heap
  slotsUsed := slotsUsed
  threads := #[{ frames := .invoking theMethod args0 :: below }]
def below0 : List Frame := [.native { method := ⟨0, 0⟩, args := #[] }]
def about1 : State := aboutOver below0
def p0 : Program := .bare "" "" ""
def e0 : Env := launch0.env 0 0 0
theorem w_frames : about1.frames = Frame.invoking theMethod args0 :: below0 := rfl
set_option maxRecDepth 65536 in
theorem w_args : argsFit about1.vm theMethod args0 = true := by decide +kernel
set_option maxRecDepth 65536 in
theorem w_heap : heapFits about1 = true := by decide +kernel
set_option maxRecDepth 65536 in
theorem w_runnable : about1.curStatus? = some .runnable := by decide +kernel
set_option maxRecDepth 65536 in
theorem w_alone : about1.alone = true := by decide +kernel
set_option maxRecDepth 65536 in
theorem w_named : about1.methodNamed? x = some theMethod := by decide +kernel
set_option maxRecDepth 65536 in
theorem w_hears : about1.hears theMethod below0 = true := by decide +kernel
set_option maxRecDepth 65536 in
theorem w_ripe : about1.ripe theMethod args0 below0 = true := by decide +kernel
theorem w_running : about1.status = .running := rfl
set_option maxRecDepth 65536 in
theorem w_room : about1.hasRoom e0.platform room_1 = true :=
  launch0.hasRoom_least _ room_1 (by decide +kernel) (by decide +kernel) (by decide +kernel) (by decide +kernel) (by decide +kernel) (by decide +kernel)
theorem allAtoms_all (ts : List Jvm.Cond) (a : Array Jvm.Value) (st : Jvm.State) : (allAtoms ts).before a st = ts.all (fun c => c.before a st) := by
  induction ts with
  | nil => rfl
  | cons c t ih =>
    show (Jvm.Cond.and c (allAtoms t)).before a st = _
    rw [Jvm.Cond.before_and, ih, List.all_cons]
def words1 : List Jvm.Cond := Jvm.Cond.code x code maxLocals ret :: tables_1
/-- a 'code' word, met by the world's own term for the bytes: nothing is compared byte by byte -/
theorem code_word {y : MethodName} {bytes : ByteArray} {mx : Nat} {rt : Option FieldType} {a : Array Value} {s : State} {m : MethodId} {meth : Method} {c : Code} (h1 : s.methodNamed? y = some m) (h2 : s.vm.method? m = some meth) (h3 : meth.code = some c) (h4 : c.code = bytes)
    (h5 : (c.maxLocals == mx && c.exceptionTable.isEmpty && decide (c.maxStack ≤ mostOperands) && decide (meth.sig.returnType = rt) && !meth.locks && decide (parseMethodDescriptor y.desc = some meth.sig)) = true) : (Jvm.Cond.code y bytes mx rt).before a s = true := by
  simp only [Bool.and_eq_true, beq_iff_eq, Bool.not_eq_true', decide_eq_true_eq] at h5
  obtain ⟨⟨⟨⟨⟨g1, g2⟩, g3⟩, g4⟩, g5⟩, g6⟩ := h5
  simp [Cond.before, Cond.holds, Cond.value, h1, h2, h3, h4, g1, g2, g3, g4, g5, g6]
def isCode : Jvm.Cond → Bool
  | .code _ _ _ _ => true
  | _ => false
theorem all_split {L : List Jvm.Cond} {P : Jvm.Cond → Bool} (h1 : L.all (fun c => isCode c || P c) = true) (h2 : ∀ c ∈ L.filter isCode, P c = true) : L.all P = true := by
  refine List.all_eq_true.mpr fun c hc => ?_
  have h := List.all_eq_true.mp h1 c hc
  rcases Bool.eq_false_or_eq_true (isCode c) with hi | hi
  · exact h2 c (List.mem_filter.mpr ⟨hc, hi⟩)
  · simpa [hi] using h
set_option maxRecDepth 65536 in
theorem w_c0 : (Jvm.Cond.code x code maxLocals ret).before args0 about1 = true := code_word (m := ⟨1, 1⟩) (meth := k1m1) (c := k1c1) (by decide +kernel) rfl rfl rfl (by decide +kernel)
set_option maxRecDepth 65536 in
theorem w_c1 : (Jvm.Cond.code ({ cls := "java/lang/Math", name := "max", desc := "(JJ)J" } : Jvm.MethodName) jdk_29_method_66_code (4 : Nat) (Option.some Jvm.ClassFile.FieldType.long)).before args0 about1 = true := code_word (m := ⟨2, 1⟩) (meth := k2m1) (c := k2c1) (by decide +kernel) rfl rfl rfl (by decide +kernel)
set_option maxRecDepth 65536 in
theorem w_c2 : (Jvm.Cond.code ({ cls := "com/example/hiscore/hiscore/Load", name := "<init>", desc := "(JJ)V" } : Jvm.MethodName) prog_8_method_1_code (5 : Nat) (Option.none : Option Jvm.ClassFile.FieldType)).before args0 about1 = true := code_word (m := ⟨4, 0⟩) (meth := k4m0) (c := k4c0) (by decide +kernel) rfl rfl rfl (by decide +kernel)
set_option maxRecDepth 65536 in
theorem w_c3 : (Jvm.Cond.code ({ cls := "java/lang/Record", name := "<init>", desc := "()V" } : Jvm.MethodName) jdk_30_method_1_code (1 : Nat) (Option.none : Option Jvm.ClassFile.FieldType)).before args0 about1 = true := code_word (m := ⟨3, 0⟩) (meth := k3m0) (c := k3c0) (by decide +kernel) rfl rfl rfl (by decide +kernel)
set_option maxRecDepth 65536 in
theorem w_c4 : (Jvm.Cond.code ({ cls := "java/lang/Object", name := "<init>", desc := "()V" } : Jvm.MethodName) object_method_1_code (1 : Nat) (Option.none : Option Jvm.ClassFile.FieldType)).before args0 about1 = true := code_word (m := ⟨0, 0⟩) (meth := k0m0) (c := k0c0) (by decide +kernel) rfl rfl rfl (by decide +kernel)
set_option maxRecDepth 65536 in
theorem w_c5 : (Jvm.Cond.code ({ cls := "com/example/hiscore/hiscore/Load", name := "score", desc := "(J)J" } : Jvm.MethodName) prog_8_method_3_code (3 : Nat) (Option.some Jvm.ClassFile.FieldType.long)).before args0 about1 = true := code_word (m := ⟨4, 1⟩) (meth := k4m1) (c := k4c1) (by decide +kernel) rfl rfl rfl (by decide +kernel)
def codes1 : List Jvm.Cond := [Jvm.Cond.code x code maxLocals ret, Jvm.Cond.code ({ cls := "java/lang/Math", name := "max", desc := "(JJ)J" } : Jvm.MethodName) jdk_29_method_66_code (4 : Nat) (Option.some Jvm.ClassFile.FieldType.long), Jvm.Cond.code ({ cls := "com/example/hiscore/hiscore/Load", name := "<init>", desc := "(JJ)V" } : Jvm.MethodName) prog_8_method_1_code (5 : Nat) (Option.none : Option Jvm.ClassFile.FieldType), Jvm.Cond.code ({ cls := "java/lang/Record", name := "<init>", desc := "()V" } : Jvm.MethodName) jdk_30_method_1_code (1 : Nat) (Option.none : Option Jvm.ClassFile.FieldType), Jvm.Cond.code ({ cls := "java/lang/Object", name := "<init>", desc := "()V" } : Jvm.MethodName) object_method_1_code (1 : Nat) (Option.none : Option Jvm.ClassFile.FieldType), Jvm.Cond.code ({ cls := "com/example/hiscore/hiscore/Load", name := "score", desc := "(J)J" } : Jvm.MethodName) prog_8_method_3_code (3 : Nat) (Option.some Jvm.ClassFile.FieldType.long)]
set_option maxRecDepth 65536 in
theorem codes_eq : words1.filter isCode = codes1 := rfl
theorem w_codes : ∀ c ∈ words1.filter isCode, c.before args0 about1 = true := by
  rw [codes_eq]
  intro c hc
  simp only [codes1, List.mem_cons, List.not_mem_nil, or_false] at hc
  rcases hc with rfl | rfl | rfl | rfl | rfl | rfl
  · exact w_c0
  · exact w_c1
  · exact w_c2
  · exact w_c3
  · exact w_c4
  · exact w_c5
set_option maxRecDepth 65536 in
theorem w_t1 : (words1.take 24).all (fun c => isCode c || c.before args0 about1) = true := by decide +kernel
set_option maxRecDepth 65536 in
theorem w_t2 : (words1.drop 24).all (fun c => isCode c || c.before args0 about1) = true := by decide +kernel
theorem w_tables : (allAtoms (Jvm.Cond.code x code maxLocals ret :: tables_1)).before args0 about1 = true := by
  rw [allAtoms_all]
  show words1.all (fun c => c.before args0 about1) = true
  refine all_split ?_ w_codes
  rw [← List.take_append_drop 24 words1, List.all_append, w_t1, w_t2]
  rfl
set_option maxRecDepth 65536 in
theorem w_case : (Jvm.Cond.and given_1 narrow_1).before args0 about1 = true := by decide +kernel
theorem w_applies : (headSpec (Jvm.Cond.code x code maxLocals ret :: tables_1) room_1).applies x e0.platform about1 = true :=
  (Spec.applies_iff w_frames).mpr ⟨w_running, w_runnable, w_alone, w_named, w_hears, w_ripe, w_room, w_tables⟩
theorem atStart : AtStart classFile x code maxLocals ret World_1 tables_1 room_1 Calls_1 rest_1 Pre_1 launch0 p0 e0 about1 theMethod args0 below0 :=
  ⟨lists_1, trivial, launch0.admits_env _ _ _, launch0.least_env, fairChoices_fair.cas, fairChoices_fair.clock, w_frames, w_args, w_heap, w_applies, trivial, trivial, w_case⟩
end start1
theorem witness_1 : WitnessClaimed_1 := ⟨start1.p0, start1.e0, start1.about1, start1.theMethod, start1.args0, start1.below0, start1.atStart⟩
end Jvm.Pilot.@@N@@
