import JvmDerived
import JvmDerived.Pilot.@@N@@Statement
import JvmDerived.Pilot.@@N@@Code
set_option linter.unusedVariables false
set_option linter.unusedSimpArgs false
namespace Jvm.Pilot.@@N@@
open Jvm Jvm.ClassFile Sem Op Lib Jvm.Free Jvm.Stand Jvm.LawKit Jvm.RoadKit Bundle Jvm.Pilot.@@N@@.Jvm.D
section Own
variable {p : Program} {l : Launch} {e : Env} {R : Room} {s : State} {m : MethodId} {args : Array Value} {below : List Frame} {meth : Method} {c : Code} {T : State} {locs : List Loc} {cells slots : Nat}
def Ends (p : Program) (e : Env) (below : List Frame) (Q : Outcome → State → Prop) (S : State) : Prop := ∃ s₂ o, Steps p.tables e below S s₂ ∧ s₂.status = .running ∧ Ended s₂ below o ∧ Q o s₂
theorem Ends.opn {Q : Outcome → State → Prop} {S : State} (h : ∀ QQ : Outcome → State → Prop, (∀ o t, Q o t → QQ o t) → Ends p e below QQ S) : ∃ s₂ o, Steps p.tables e below S s₂ ∧ s₂.status = .running ∧ Ended s₂ below o ∧ Q o s₂ := h Q fun _ _ q => q
theorem Ends.step {Q : Outcome → State → Prop} {S S' : State} (k : ∀ t, Steps p.tables e below S' t → Steps p.tables e below S t) (h : Ends p e below Q S') : Ends p e below Q S := by
  obtain ⟨a, o, h1, h2⟩ := h
  exact ⟨a, o, k _ h1, h2⟩
theorem Ends.fin {QQ : Outcome → State → Prop} {Q : Option Value → Heap → List Loc → Prop} {cl sl : Nat} {g : JFrame} {h : Heap} (v : Option Value) (X : Stand p l e R s m args below meth c T locs cells slots)
    (hQQ : ∀ o t, (∃ v L, o = .returned v ∧ Q v t.heap L ∧ FrameEnd s o t L cl sl) → QQ o t) (hv : meth.sig.returnType = none → v = none) (hlocks : meth.locks = false)
    (hstep : ∀ fs, (∀ (f : JFrame) (acts : List Action), f.method = m → f.locked = none → f.entered = [] → (doReturn e (T.setTop f) acts v).1 = T.setFrames fs) → Steps p.tables e below (T.setTop g) (T.setFrames fs))
    (eT : T.heap = h) (hc : cells ≤ cl) (hs : slots ≤ sl) (q : Q v h locs) : Ends p e below QQ (T.setTop g) := by
  obtain ⟨fs, hr, hrun, hended, hW, hsame⟩ := X.leave hv hlocks
  subst eT
  exact ⟨_, _, hstep fs hr, hrun, hended, hQQ _ _ ⟨v, locs, rfl, q, ⟨_, rfl⟩, hW, hsame.mono hc hs⟩⟩
theorem own_narB {x : Int32} (h : x = 0 ∨ x = 1) : narrow .boolean (.int x) = .int x := by rcases h with rfl | rfl <;> rfl
theorem own_narref {v : Value} {t : FieldType} (h : v.isRef = true) (ht : t.isReference = true) : narrow t v = v := by
  cases t <;> first | (cases ht; done) | (cases v <;> first | rfl | cases h)
theorem own_fitref {v : Value} {t : FieldType} (h : v.isRef = true) (ht : t.isReference = true) : fits t v = true := by
  cases t <;> first | (cases ht; done) | (cases v <;> first | rfl | cases h)
theorem own_nar255 (b : Int32) : narrow .char (.int (b &&& (255 : Int32))) = .int (b &&& (255 : Int32)) := by
  have h := XT.narrow_c (b &&& 255)
  rw [i2c_mask] at h
  exact h
theorem own_narb (x : Int32) : nar .byte x.toInt8.toInt32 = x.toInt8.toInt32 := by simp [nar]
theorem own_ins_keep {Z : State} {h h' : Heap} {a : Addr} {C : String} {b : Bool} {ws : List Addr} (F : Ins Z h a C b) (K : Keep h h' ws) : Ins Z h' a C b := by
  obtain ⟨cell, cT, h1, h2, h3⟩ := F
  obtain ⟨c', q1, q2, q3, -⟩ := K.2.2 _ _ h1
  exact ⟨c', cT, q1, h2, by rw [q2, q3]; exact h3⟩
theorem own_sta_keep {Z : State} {h h' : Heap} {C n d : String} {v : Value} {ws : List Addr} (F : Sta Z h C n d v) (K : Keep h h' ws) (q : ∀ x ∈ ws, ∃ c : Cell, h[x]? = some c ∧ ∀ q, c.vm ≠ .statics q) : Sta Z h' C n d v := by
  obtain ⟨cf, i, k, f, st, cell, h1, h2, h3, h4, h5, h6, h7⟩ := F
  refine ⟨cf, i, k, f, st, cell, h1, h2, h3, h4, K.2.1 _ _ h5 fun hm => ?_, h6, h7⟩
  obtain ⟨c, q1, q2⟩ := q _ hm
  cases h5.symm.trans q1
  cases hq : cell.vm <;> first | exact q2 _ hq | (rw [hq] at h6; cases h6)
theorem lremM {g : JFrame} {target : State} (X : Stand p l e R s m args below meth c T locs cells slots) (hx : p.tables.exec = Jvm.exec) (hg : g.method = m) {x y : Int64} {rest : List Value} (hd : decode c.code g.pc = .ok (.lrem, 1)) (hs : g.stack = .long y :: .long x :: rest) (hy : y ≠ 0)
    (hr : Steps p.tables e below (T.setTop { g with pc := g.pc + 1, stack := .long (x % y) :: rest }) target) : Steps p.tables e below (T.setTop g) target := by
  have q : x - x / y * y = x % y := lrem_mod x y
  exact XT.lrem X.here hx hg hd hs hy (by rw [q]; exact hr)
end Own
theorem pn_0 : plainName "com/example/wunce/wunce/ClaimTurnedAwayPinLaw" = true := by first | (simp [plainName, overriddenIn]; done) | decide +kernel
theorem pn_1 : plainName "com/example/wunce/wunce/Result" = true := by first | (simp [plainName, overriddenIn]; done) | decide +kernel
theorem pn_2 : plainName "java/util/concurrent/atomic/AtomicBoolean" = true := by first | (simp [plainName, overriddenIn]; done) | decide +kernel
theorem pn_3 : plainName "com/example/wunce/wunce/Claim" = true := by first | (simp [plainName, overriddenIn]; done) | decide +kernel
theorem pd_0 : parseMethodDescriptor "(Z)V" = some ⟨[.boolean], none⟩ := by decide +kernel
theorem pd_1 : parseMethodDescriptor "(Lcom/example/wunce/wunce/Store;Ljava/lang/String;Ljava/lang/String;Ljava/time/Duration;Lcom/example/wunce/wunce/Result;Z)V" = some ⟨[(.object "com/example/wunce/wunce/Store"), (.object "java/lang/String"), (.object "java/lang/String"), (.object "java/time/Duration"), (.object "com/example/wunce/wunce/Result"), .boolean], none⟩ := by decide +kernel
theorem pd_2 : parseMethodDescriptor "()Z" = some ⟨[], some .boolean⟩ := by decide +kernel
theorem pd_3 : parseMethodDescriptor "(I)Lcom/example/wunce/wunce/Status;" = some ⟨[.int], some (.object "com/example/wunce/wunce/Status")⟩ := by decide +kernel
theorem pd_4 : parseMethodDescriptor "(Lcom/example/wunce/wunce/Status;[B)V" = some ⟨[(.object "com/example/wunce/wunce/Status"), (.array .byte)], none⟩ := by decide +kernel
theorem pd_5 : parseMethodDescriptor "(Lcom/example/wunce/wunce/Result;)Lcom/example/wunce/wunce/Claim;" = some ⟨[(.object "com/example/wunce/wunce/Result")], some (.object "com/example/wunce/wunce/Claim")⟩ := by decide +kernel
theorem pd_6 : parseMethodDescriptor "()Lcom/example/wunce/wunce/Result;" = some ⟨[], some (.object "com/example/wunce/wunce/Result")⟩ := by decide +kernel
theorem pd_7 : parseMethodDescriptor "()V" = some ⟨[], none⟩ := by decide +kernel
theorem pd_8 : parseMethodDescriptor "()Lcom/example/wunce/wunce/Status;" = some ⟨[], some (.object "com/example/wunce/wunce/Status")⟩ := by decide +kernel
theorem pd_9 : parseMethodDescriptor "()[B" = some ⟨[], some (.array .byte)⟩ := by decide +kernel

theorem d1_0 : decode method_2_code 0 = .ok (.iload_n 0, 1) := by decide +kernel
theorem d1_1 : decode method_2_code 1 = .ok (.ldc 7, 2) := by decide +kernel
theorem d1_3 : decode method_2_code 3 = .ok (.iand, 1) := by decide +kernel
theorem d1_4 : decode method_2_code 4 = .ok (.iconst 5, 1) := by decide +kernel
theorem d1_5 : decode method_2_code 5 = .ok (.irem, 1) := by decide +kernel
theorem d1_6 : decode method_2_code 6 = .ok (.istore_n 1, 1) := by decide +kernel
theorem d1_7 : decode method_2_code 7 = .ok (.iload_n 1, 1) := by decide +kernel
theorem d1_8 : decode method_2_code 8 = .ok (.ifCond .ne 7, 3) := by decide +kernel
theorem d1_11 : decode method_2_code 11 = .ok (.getstatic 8, 3) := by decide +kernel
theorem d1_14 : decode method_2_code 14 = .ok (.areturn, 1) := by decide +kernel
theorem d1_15 : decode method_2_code 15 = .ok (.iload_n 1, 1) := by decide +kernel
theorem d1_16 : decode method_2_code 16 = .ok (.iconst 1, 1) := by decide +kernel
theorem d1_17 : decode method_2_code 17 = .ok (.if_icmp .ne 7, 3) := by decide +kernel
theorem d1_20 : decode method_2_code 20 = .ok (.getstatic 14, 3) := by decide +kernel
theorem d1_23 : decode method_2_code 23 = .ok (.areturn, 1) := by decide +kernel
theorem d1_24 : decode method_2_code 24 = .ok (.iload_n 1, 1) := by decide +kernel
theorem d1_25 : decode method_2_code 25 = .ok (.iconst 2, 1) := by decide +kernel
theorem d1_26 : decode method_2_code 26 = .ok (.if_icmp .ne 7, 3) := by decide +kernel
theorem d1_29 : decode method_2_code 29 = .ok (.getstatic 17, 3) := by decide +kernel
theorem d1_32 : decode method_2_code 32 = .ok (.areturn, 1) := by decide +kernel
theorem d1_33 : decode method_2_code 33 = .ok (.iload_n 1, 1) := by decide +kernel
theorem d1_34 : decode method_2_code 34 = .ok (.iconst 3, 1) := by decide +kernel
theorem d1_35 : decode method_2_code 35 = .ok (.if_icmp .ne 7, 3) := by decide +kernel
theorem d1_38 : decode method_2_code 38 = .ok (.getstatic 20, 3) := by decide +kernel
theorem d1_41 : decode method_2_code 41 = .ok (.areturn, 1) := by decide +kernel
theorem d1_42 : decode method_2_code 42 = .ok (.getstatic 23, 3) := by decide +kernel
theorem d1_45 : decode method_2_code 45 = .ok (.areturn, 1) := by decide +kernel
theorem ef_1 (m : MethodId) (x0 : Int32) : entryFrame m #[(.int x0)] 2 = mkF m 0 #[.val (.int x0), .unset] [] := by first | (simp [entryFrame, mkF, argsToLocals, Value.category]; done) | rfl
def Q1 (Z : State) (p0 : Int32) (s0 : Value) (s1 : Value) (s2 : Value) (s3 : Value) (s4 : Value) (h0 : Heap) (n0 : Nat) (v : Option Value) (h : Heap) (L : List Loc) : Prop := ∃ (rv : Value), (v = some rv) ∧ (Fr n0 L) ∧ (h = h0) ∧ (rv.isRef = true)
set_option maxRecDepth 65536 in
set_option maxHeartbeats 40000000 in
theorem rm1 (l : Launch) (Z : State) (a0 : Array Value) (hw : ∀ d ∈ tables_1, d.before a0 Z = true) (ws : List Jvm.Cond) (p0 : Int32) (s0 : Value) (s1 : Value) (s2 : Value) (s3 : Value) (s4 : Value) (h0 : Heap) (n0 : Nat) (Z0 : n0 ≤ h0.size) (S_FIRST : Sta Z h0 "com/example/wunce/wunce/Status" "FIRST" "Lcom/example/wunce/wunce/Status;" s0) (S_REPLAYED : Sta Z h0 "com/example/wunce/wunce/Status" "REPLAYED" "Lcom/example/wunce/wunce/Status;" s1) (S_IN_PROGRESS : Sta Z h0 "com/example/wunce/wunce/Status" "IN_PROGRESS" "Lcom/example/wunce/wunce/Status;" s2) (S_MISMATCH : Sta Z h0 "com/example/wunce/wunce/Status" "MISMATCH" "Lcom/example/wunce/wunce/Status;" s3) (S_SUPERSEDED : Sta Z h0 "com/example/wunce/wunce/Status" "SUPERSEDED" "Lcom/example/wunce/wunce/Status;" s4) (hr_s0 : s0.isRef = true) (hr_s1 : s1.isRef = true) (hr_s2 : s2.isRef = true) (hr_s3 : s3.isRef = true) (hr_s4 : s4.isRef = true) :
    MetFree l (⟨"com/example/wunce/wunce/ClaimTurnedAwayPinLaw", "statusOf", "(I)Lcom/example/wunce/wunce/Status;"⟩ : MethodName) (head1 (Jvm.Cond.code (⟨"com/example/wunce/wunce/ClaimTurnedAwayPinLaw", "statusOf", "(I)Lcom/example/wunce/wunce/Status;"⟩ : MethodName) method_2_code 2 (some (.object "com/example/wunce/wunce/Status")) :: ws) ({ frames := 0, cells := 0, slots := 0, locals := 0 } : Room)) (fun a U => a = #[(.int p0)] ∧ Z.Warmed39 U.vm ∧ U.heap = h0) (fun _ _ _ _ _ => True) (fun _ U o U' => ∃ v L, o = .returned v ∧ Q1 Z p0 s0 s1 s2 s3 s4 h0 n0 v U'.heap L ∧ FrameEnd U o U' L ({ frames := 0, cells := 0, slots := 0, locals := 0 } : Room).cells ({ frames := 0, cells := 0, slots := 0, locals := 0 } : Room).slots) := by
  refine MetFree.of_bodySF (plainFor_of_name pn_0) hisR ?_
  intro p e s m args below meth c s₁ Bd hml0 hP hK
  obtain ⟨rfl, hZ, hh⟩ := hP
  have hx := Bd.exec
  have hby := Bd.bytes
  have hml : c.maxLocals = 2 := hml0
  have hown : s.vm.findClass "com/example/wunce/wunce/ClaimTurnedAwayPinLaw" = some m.cls := findClass_of_methodNamed Bd.named
  have hnm := (name_of_methodNamed Bd.named Bd.method).1
  have X0 : Stand p l e ({ frames := 0, cells := 0, slots := 0, locals := 0 } : Room) s m #[(.int p0)] below meth c s₁ [] 0 0 := Stand.of_body Bd
  have e0 : s₁.heap = h0 := by rw [← hh, Bd.state]; rfl
  have N0 := Fr.nil n0
  refine Ends.opn ?_
  intro QQ hQQ
  refine Ends.step (S' := s₁.setTop (mkF m 0 #[.val (.int p0), .unset] [])) (fun t k => castTop (ef_1 m p0) k) ?_
  show Ends p e below QQ (s₁.setTop (mkF m 0 #[.val (.int p0), .unset] []))
  refine Ends.step (fun _ k => XS.iloadN X0.here hx rfl (hb hby d1_0) rfl k) ?_
  show Ends p e below QQ (s₁.setTop (mkF m 1 #[.val (.int p0), .unset] [(.int p0)]))
  refine Ends.step (fun _ k => X0.ldcI hx hown (mvT hZ (hw _ (List.mem_of_getElem? (i := 4) rfl))) (g := (mkF m 1 #[.val (.int p0), .unset] [(.int p0)])) rfl (hb hby d1_1) k) ?_
  show Ends p e below QQ (s₁.setTop (mkF m 3 #[.val (.int p0), .unset] [(.int (2147483647 : Int32)), (.int p0)]))
  refine Ends.step (fun _ k => XS.iand X0.here hx rfl (hb hby d1_3) rfl k) ?_
  show Ends p e below QQ (s₁.setTop (mkF m 4 #[.val (.int p0), .unset] [(.int (p0 &&& (2147483647 : Int32)))]))
  refine Ends.step (fun _ k => XT.iconstV X0.here hx rfl (5 : Int32) (hb hby d1_4) rfl k) ?_
  show Ends p e below QQ (s₁.setTop (mkF m 5 #[.val (.int p0), .unset] [(.int (5 : Int32)), (.int (p0 &&& (2147483647 : Int32)))]))
  refine Ends.step (fun _ k => iremM (g := (mkF m 5 #[.val (.int p0), .unset] [(.int (5 : Int32)), (.int (p0 &&& (2147483647 : Int32)))])) X0 hx rfl (hb hby d1_5) rfl (by decide) k) ?_
  show Ends p e below QQ (s₁.setTop (mkF m 6 #[.val (.int p0), .unset] [(.int ((p0 &&& (2147483647 : Int32)) % (5 : Int32)))]))
  refine Ends.step (fun _ k => XS.istoreN X0.here hx rfl (hb hby d1_6) rfl (l' := #[.val (.int p0), .val (.int ((p0 &&& (2147483647 : Int32)) % (5 : Int32)))]) rfl k) ?_
  show Ends p e below QQ (s₁.setTop (mkF m 7 #[.val (.int p0), .val (.int ((p0 &&& (2147483647 : Int32)) % (5 : Int32)))] []))
  generalize hv1_1 : ((p0 &&& (2147483647 : Int32)) % (5 : Int32)) = x1_1
  show Ends p e below QQ (s₁.setTop (mkF m 7 #[.val (.int p0), .val (.int x1_1)] []))
  refine Ends.step (fun _ k => XS.iloadN X0.here hx rfl (hb hby d1_7) rfl k) ?_
  show Ends p e below QQ (s₁.setTop (mkF m 8 #[.val (.int p0), .val (.int x1_1)] [(.int x1_1)]))
  by_cases hc8_1 : x1_1 = (0 : Int32)
  · refine Ends.step (fun _ k => XS.ifNo X0.here hx rfl (hb hby d1_8) rfl (XT.i0_ne_f hc8_1) k) ?_
    show Ends p e below QQ (s₁.setTop (mkF m 11 #[.val (.int p0), .val (.int x1_1)] []))
    obtain ⟨T2, X2, e2, st2⟩ := getS2 X0 hx hZ hown (host := "") (Or.inl (hw _ (List.mem_of_getElem? (i := 5) rfl))) Via.refl e0 S_FIRST (g := (mkF m 11 #[.val (.int p0), .val (.int x1_1)] [])) rfl (hb hby d1_11)
    refine Ends.step st2 ?_
    show Ends p e below QQ (T2.setTop (mkF m 14 #[.val (.int p0), .val (.int x1_1)] [s0]))
    exact Ends.fin (some s0) X2 hQQ (fun h => by rw [Bd.returns] at h; cases h) Bd.notSynchronized (fun _ hr => retOut X2 hx (t := (.object "com/example/wunce/wunce/Status")) Bd.returns (own_narref hr_s0 rfl) (Or.inr (Or.inr (Or.inr (Or.inr ⟨rfl, rfl, hr_s0⟩)))) (hb hby d1_14) hr) e2 (by decide) (by decide) ⟨s0, rfl, N0, rfl, hr_s0⟩
  · refine Ends.step (fun _ k => XS.ifYes X0.here hx rfl (pc0 := 8) (pc' := 15) rfl (hb hby d1_8) rfl (XT.i0_ne_t hc8_1) (by decide) (by decide) k) ?_
    show Ends p e below QQ (s₁.setTop (mkF m 15 #[.val (.int p0), .val (.int x1_1)] []))
    refine Ends.step (fun _ k => XS.iloadN X0.here hx rfl (hb hby d1_15) rfl k) ?_
    show Ends p e below QQ (s₁.setTop (mkF m 16 #[.val (.int p0), .val (.int x1_1)] [(.int x1_1)]))
    refine Ends.step (fun _ k => XT.iconstV X0.here hx rfl (1 : Int32) (hb hby d1_16) rfl k) ?_
    show Ends p e below QQ (s₁.setTop (mkF m 17 #[.val (.int p0), .val (.int x1_1)] [(.int (1 : Int32)), (.int x1_1)]))
    by_cases hc17_3 : x1_1 = (1 : Int32)
    · refine Ends.step (fun _ k => XS.icmpNo X0.here hx rfl (hb hby d1_17) rfl (XT.ii_ne_f hc17_3) k) ?_
      show Ends p e below QQ (s₁.setTop (mkF m 20 #[.val (.int p0), .val (.int x1_1)] []))
      obtain ⟨T4, X4, e4, st4⟩ := getS2 X0 hx hZ hown (host := "") (Or.inl (hw _ (List.mem_of_getElem? (i := 83) rfl))) Via.refl e0 S_REPLAYED (g := (mkF m 20 #[.val (.int p0), .val (.int x1_1)] [])) rfl (hb hby d1_20)
      refine Ends.step st4 ?_
      show Ends p e below QQ (T4.setTop (mkF m 23 #[.val (.int p0), .val (.int x1_1)] [s1]))
      exact Ends.fin (some s1) X4 hQQ (fun h => by rw [Bd.returns] at h; cases h) Bd.notSynchronized (fun _ hr => retOut X4 hx (t := (.object "com/example/wunce/wunce/Status")) Bd.returns (own_narref hr_s1 rfl) (Or.inr (Or.inr (Or.inr (Or.inr ⟨rfl, rfl, hr_s1⟩)))) (hb hby d1_23) hr) e4 (by decide) (by decide) ⟨s1, rfl, N0, rfl, hr_s1⟩
    · refine Ends.step (fun _ k => XS.icmpYes X0.here hx rfl (pc0 := 17) (pc' := 24) rfl (hb hby d1_17) rfl (XT.ii_ne_t hc17_3) (by decide) (by decide) k) ?_
      show Ends p e below QQ (s₁.setTop (mkF m 24 #[.val (.int p0), .val (.int x1_1)] []))
      refine Ends.step (fun _ k => XS.iloadN X0.here hx rfl (hb hby d1_24) rfl k) ?_
      show Ends p e below QQ (s₁.setTop (mkF m 25 #[.val (.int p0), .val (.int x1_1)] [(.int x1_1)]))
      refine Ends.step (fun _ k => XT.iconstV X0.here hx rfl (2 : Int32) (hb hby d1_25) rfl k) ?_
      show Ends p e below QQ (s₁.setTop (mkF m 26 #[.val (.int p0), .val (.int x1_1)] [(.int (2 : Int32)), (.int x1_1)]))
      by_cases hc26_5 : x1_1 = (2 : Int32)
      · refine Ends.step (fun _ k => XS.icmpNo X0.here hx rfl (hb hby d1_26) rfl (XT.ii_ne_f hc26_5) k) ?_
        show Ends p e below QQ (s₁.setTop (mkF m 29 #[.val (.int p0), .val (.int x1_1)] []))
        obtain ⟨T6, X6, e6, st6⟩ := getS2 X0 hx hZ hown (host := "") (Or.inl (hw _ (List.mem_of_getElem? (i := 79) rfl))) Via.refl e0 S_IN_PROGRESS (g := (mkF m 29 #[.val (.int p0), .val (.int x1_1)] [])) rfl (hb hby d1_29)
        refine Ends.step st6 ?_
        show Ends p e below QQ (T6.setTop (mkF m 32 #[.val (.int p0), .val (.int x1_1)] [s2]))
        exact Ends.fin (some s2) X6 hQQ (fun h => by rw [Bd.returns] at h; cases h) Bd.notSynchronized (fun _ hr => retOut X6 hx (t := (.object "com/example/wunce/wunce/Status")) Bd.returns (own_narref hr_s2 rfl) (Or.inr (Or.inr (Or.inr (Or.inr ⟨rfl, rfl, hr_s2⟩)))) (hb hby d1_32) hr) e6 (by decide) (by decide) ⟨s2, rfl, N0, rfl, hr_s2⟩
      · refine Ends.step (fun _ k => XS.icmpYes X0.here hx rfl (pc0 := 26) (pc' := 33) rfl (hb hby d1_26) rfl (XT.ii_ne_t hc26_5) (by decide) (by decide) k) ?_
        show Ends p e below QQ (s₁.setTop (mkF m 33 #[.val (.int p0), .val (.int x1_1)] []))
        refine Ends.step (fun _ k => XS.iloadN X0.here hx rfl (hb hby d1_33) rfl k) ?_
        show Ends p e below QQ (s₁.setTop (mkF m 34 #[.val (.int p0), .val (.int x1_1)] [(.int x1_1)]))
        refine Ends.step (fun _ k => XT.iconstV X0.here hx rfl (3 : Int32) (hb hby d1_34) rfl k) ?_
        show Ends p e below QQ (s₁.setTop (mkF m 35 #[.val (.int p0), .val (.int x1_1)] [(.int (3 : Int32)), (.int x1_1)]))
        by_cases hc35_7 : x1_1 = (3 : Int32)
        · refine Ends.step (fun _ k => XS.icmpNo X0.here hx rfl (hb hby d1_35) rfl (XT.ii_ne_f hc35_7) k) ?_
          show Ends p e below QQ (s₁.setTop (mkF m 38 #[.val (.int p0), .val (.int x1_1)] []))
          obtain ⟨T8, X8, e8, st8⟩ := getS2 X0 hx hZ hown (host := "") (Or.inl (hw _ (List.mem_of_getElem? (i := 85) rfl))) Via.refl e0 S_MISMATCH (g := (mkF m 38 #[.val (.int p0), .val (.int x1_1)] [])) rfl (hb hby d1_38)
          refine Ends.step st8 ?_
          show Ends p e below QQ (T8.setTop (mkF m 41 #[.val (.int p0), .val (.int x1_1)] [s3]))
          exact Ends.fin (some s3) X8 hQQ (fun h => by rw [Bd.returns] at h; cases h) Bd.notSynchronized (fun _ hr => retOut X8 hx (t := (.object "com/example/wunce/wunce/Status")) Bd.returns (own_narref hr_s3 rfl) (Or.inr (Or.inr (Or.inr (Or.inr ⟨rfl, rfl, hr_s3⟩)))) (hb hby d1_41) hr) e8 (by decide) (by decide) ⟨s3, rfl, N0, rfl, hr_s3⟩
        · refine Ends.step (fun _ k => XS.icmpYes X0.here hx rfl (pc0 := 35) (pc' := 42) rfl (hb hby d1_35) rfl (XT.ii_ne_t hc35_7) (by decide) (by decide) k) ?_
          show Ends p e below QQ (s₁.setTop (mkF m 42 #[.val (.int p0), .val (.int x1_1)] []))
          obtain ⟨T9, X9, e9, st9⟩ := getS2 X0 hx hZ hown (host := "") (Or.inl (hw _ (List.mem_of_getElem? (i := 81) rfl))) Via.refl e0 S_SUPERSEDED (g := (mkF m 42 #[.val (.int p0), .val (.int x1_1)] [])) rfl (hb hby d1_42)
          refine Ends.step st9 ?_
          show Ends p e below QQ (T9.setTop (mkF m 45 #[.val (.int p0), .val (.int x1_1)] [s4]))
          exact Ends.fin (some s4) X9 hQQ (fun h => by rw [Bd.returns] at h; cases h) Bd.notSynchronized (fun _ hr => retOut X9 hx (t := (.object "com/example/wunce/wunce/Status")) Bd.returns (own_narref hr_s4 rfl) (Or.inr (Or.inr (Or.inr (Or.inr ⟨rfl, rfl, hr_s4⟩)))) (hb hby d1_45) hr) e9 (by decide) (by decide) ⟨s4, rfl, N0, rfl, hr_s4⟩
theorem d2_0 : decode prog_14_method_1_code 0 = .ok (.aload_n 0, 1) := by decide +kernel
theorem d2_1 : decode prog_14_method_1_code 1 = .ok (.invokespecial 1, 3) := by decide +kernel
theorem d2_4 : decode prog_14_method_1_code 4 = .ok (.aload_n 0, 1) := by decide +kernel
theorem d2_5 : decode prog_14_method_1_code 5 = .ok (.aload_n 1, 1) := by decide +kernel
theorem d2_6 : decode prog_14_method_1_code 6 = .ok (.putfield 7, 3) := by decide +kernel
theorem d2_9 : decode prog_14_method_1_code 9 = .ok (.aload_n 0, 1) := by decide +kernel
theorem d2_10 : decode prog_14_method_1_code 10 = .ok (.aload_n 2, 1) := by decide +kernel
theorem d2_11 : decode prog_14_method_1_code 11 = .ok (.putfield 13, 3) := by decide +kernel
theorem d2_14 : decode prog_14_method_1_code 14 = .ok (.return_, 1) := by decide +kernel
theorem ef_2 (m : MethodId) (x0 : Addr) (x1 : Value) (x2 : Value) (hx1 : x1.isRef = true) (hx2 : x2.isRef = true) : entryFrame m #[(.ref x0), x1, x2] 3 = mkF m 0 #[.val (.ref x0), .val x1, .val x2] [] := by
  rcases XT.refc hx1 with rfl | ⟨_, rfl⟩ <;> rcases XT.refc hx2 with rfl | ⟨_, rfl⟩ <;> rfl
def Q2 (Z : State) (o0 : Addr) (r1 : Value) (r2 : Value) (u : Value) (w : Value) (h0 : Heap) (n0 : Nat) (v : Option Value) (h : Heap) (L : List Loc) : Prop := (v = none) ∧ (Fr n0 L) ∧ (Keep h0 h [o0]) ∧ (Exa Z h o0 "com/example/wunce/wunce/Result") ∧ (Fld Z h o0 "com/example/wunce/wunce/Result" "_status" "Lcom/example/wunce/wunce/Status;" r1) ∧ (Fld Z h o0 "com/example/wunce/wunce/Result" "_answer" "[B" r2)
set_option maxRecDepth 65536 in
set_option maxHeartbeats 40000000 in
theorem rm2 (l : Launch) (Z : State) (a0 : Array Value) (hw : ∀ d ∈ tables_1, d.before a0 Z = true) (ws : List Jvm.Cond) (o0 : Addr) (r1 : Value) (r2 : Value) (u : Value) (w : Value) (h0 : Heap) (n0 : Nat) (Z0 : n0 ≤ h0.size) (hr_r1 : r1.isRef = true) (hr_r2 : r2.isRef = true) (E_o0 : Exa Z h0 o0 "com/example/wunce/wunce/Result") (F__status_o0 : Fld Z h0 o0 "com/example/wunce/wunce/Result" "_status" "Lcom/example/wunce/wunce/Status;" u) (F__answer_o0 : Fld Z h0 o0 "com/example/wunce/wunce/Result" "_answer" "[B" w) (g_o0 : n0 ≤ o0) :
    MetFree l (⟨"com/example/wunce/wunce/Result", "<init>", "(Lcom/example/wunce/wunce/Status;[B)V"⟩ : MethodName) (head1 (Jvm.Cond.code (⟨"com/example/wunce/wunce/Result", "<init>", "(Lcom/example/wunce/wunce/Status;[B)V"⟩ : MethodName) prog_14_method_1_code 3 none :: ws) ({ frames := 1, cells := 0, slots := 0, locals := 12 } : Room)) (fun a U => a = #[(.ref o0), r1, r2] ∧ Z.Warmed39 U.vm ∧ U.heap = h0) (fun _ _ _ _ _ => True) (fun _ U o U' => ∃ v L, o = .returned v ∧ Q2 Z o0 r1 r2 u w h0 n0 v U'.heap L ∧ FrameEnd U o U' L ({ frames := 1, cells := 0, slots := 0, locals := 12 } : Room).cells ({ frames := 1, cells := 0, slots := 0, locals := 12 } : Room).slots) := by
  refine MetFree.of_bodySF (plainFor_of_name pn_1) hisR ?_
  intro p e s m args below meth c s₁ Bd hml0 hP hK
  obtain ⟨rfl, hZ, hh⟩ := hP
  have hx := Bd.exec
  have hby := Bd.bytes
  have hml : c.maxLocals = 3 := hml0
  have hown : s.vm.findClass "com/example/wunce/wunce/Result" = some m.cls := findClass_of_methodNamed Bd.named
  have hnm := (name_of_methodNamed Bd.named Bd.method).1
  have X0 : Stand p l e ({ frames := 1, cells := 0, slots := 0, locals := 12 } : Room) s m #[(.ref o0), r1, r2] below meth c s₁ [] 0 0 := Stand.of_body Bd
  have e0 : s₁.heap = h0 := by rw [← hh, Bd.state]; rfl
  have N0 := Fr.nil n0
  refine Ends.opn ?_
  intro QQ hQQ
  refine Ends.step (S' := s₁.setTop (mkF m 0 #[.val (.ref o0), .val r1, .val r2] [])) (fun t k => castTop (ef_2 m o0 r1 r2 hr_r1 hr_r2) k) ?_
  show Ends p e below QQ (s₁.setTop (mkF m 0 #[.val (.ref o0), .val r1, .val r2] []))
  refine Ends.step (fun _ k => XS.aloadN X0.here hx rfl (hb hby d2_0) rfl rfl k) ?_
  show Ends p e below QQ (s₁.setTop (mkF m 1 #[.val (.ref o0), .val r1, .val r2] [(.ref o0)]))
  obtain ⟨T10, X10, e10, st10⟩ := initO X0 hx hZ hown (hw _ (List.mem_of_getElem? (i := 15) rfl)) (hw _ (List.mem_of_getElem? (i := 16) rfl)) (hw _ (List.mem_of_getElem? (i := 17) rfl)) e0 (g := (mkF m 1 #[.val (.ref o0), .val r1, .val r2] [(.ref o0)])) rfl (by rw [hml]; rfl) rfl (hb hby d2_1) (by decide) (W := 0) (by show 2 * 0 + _ ≤ _; exact Nat.le_of_eq rfl) (by decide)
  refine Ends.step st10 ?_
  show Ends p e below QQ (T10.setTop (mkF m 4 #[.val (.ref o0), .val r1, .val r2] []))
  refine Ends.step (fun _ k => XS.aloadN X10.here hx rfl (hb hby d2_4) rfl rfl k) ?_
  show Ends p e below QQ (T10.setTop (mkF m 5 #[.val (.ref o0), .val r1, .val r2] [(.ref o0)]))
  refine Ends.step (fun _ k => XS.aloadN X10.here hx rfl (hb hby d2_5) rfl hr_r1 k) ?_
  show Ends p e below QQ (T10.setTop (mkF m 6 #[.val (.ref o0), .val r1, .val r2] [r1, (.ref o0)]))
  obtain ⟨T11, h11, X11, e11, W11, st11⟩ := putF X10 hx hZ hown (host := "") (Or.inl (hw _ (List.mem_of_getElem? (i := 18) rfl))) Via.refl e10 F__status_o0 E_o0 (Or.inr ⟨(hw _ (List.mem_of_getElem? (i := 19) rfl)), rfl, hnm⟩) (hw _ (List.mem_of_getElem? (i := 10) rfl)) (ty := (.object "com/example/wunce/wunce/Status")) (by decide) (own_narref hr_r1 rfl) (own_fitref hr_r1 rfl) (g := (mkF m 6 #[.val (.ref o0), .val r1, .val r2] [r1, (.ref o0)])) rfl rfl (hb hby d2_6)
  have E_o0 := E_o0.wr W11
  have F__answer_o0 := F__answer_o0.other W11 (Or.inr (slot_ne (Or.inr (hw _ (List.mem_of_getElem? (i := 21) rfl))) (Or.inr (hw _ (List.mem_of_getElem? (i := 19) rfl))) (by decide) (t := (.array .byte)) (t' := (.object "com/example/wunce/wunce/Status")) (by decide) (by decide)))
  have F__status_o0 : Fld Z h11 o0 "com/example/wunce/wunce/Result" "_status" "Lcom/example/wunce/wunce/Status;" r1 := F__status_o0.same W11
  have K11 := (Keep.refl h0 [o0]).wr W11 (Or.inl (List.mem_of_getElem? (i := 0) rfl))
  have N11 := Fr.snoc X11 N0 g_o0
  refine Ends.step st11 ?_
  show Ends p e below QQ (T11.setTop (mkF m 9 #[.val (.ref o0), .val r1, .val r2] []))
  refine Ends.step (fun _ k => XS.aloadN X11.here hx rfl (hb hby d2_9) rfl rfl k) ?_
  show Ends p e below QQ (T11.setTop (mkF m 10 #[.val (.ref o0), .val r1, .val r2] [(.ref o0)]))
  refine Ends.step (fun _ k => XS.aloadN X11.here hx rfl (hb hby d2_10) rfl hr_r2 k) ?_
  show Ends p e below QQ (T11.setTop (mkF m 11 #[.val (.ref o0), .val r1, .val r2] [r2, (.ref o0)]))
  obtain ⟨T12, h12, X12, e12, W12, st12⟩ := putF X11 hx hZ hown (host := "") (Or.inl (hw _ (List.mem_of_getElem? (i := 20) rfl))) Via.refl e11 F__answer_o0 E_o0 (Or.inr ⟨(hw _ (List.mem_of_getElem? (i := 21) rfl)), rfl, hnm⟩) (hw _ (List.mem_of_getElem? (i := 10) rfl)) (ty := (.array .byte)) (by decide) (own_narref hr_r2 rfl) (own_fitref hr_r2 rfl) (g := (mkF m 11 #[.val (.ref o0), .val r1, .val r2] [r2, (.ref o0)])) rfl rfl (hb hby d2_11)
  have E_o0 := E_o0.wr W12
  have F__status_o0 := F__status_o0.other W12 (Or.inr (slot_ne (Or.inr (hw _ (List.mem_of_getElem? (i := 19) rfl))) (Or.inr (hw _ (List.mem_of_getElem? (i := 21) rfl))) (by decide) (t := (.object "com/example/wunce/wunce/Status")) (t' := (.array .byte)) (by decide) (by decide)))
  have F__answer_o0 : Fld Z h12 o0 "com/example/wunce/wunce/Result" "_answer" "[B" r2 := F__answer_o0.same W12
  have K12 := K11.wr W12 (Or.inl (List.mem_of_getElem? (i := 0) rfl))
  have N12 := Fr.snoc X12 N11 g_o0
  refine Ends.step st12 ?_
  show Ends p e below QQ (T12.setTop (mkF m 14 #[.val (.ref o0), .val r1, .val r2] []))
  exact Ends.fin (none) X12 hQQ (fun _ => rfl) Bd.notSynchronized (fun _ hr => X12.returnOut hx Bd.returns (hb hby d2_14) hr) e12 (by decide) (by decide) ⟨rfl, N12, K12, E_o0, F__status_o0, F__answer_o0⟩
theorem d6_0 : decode jdk_2802_method_1_code 0 = .ok (.aload_n 0, 1) := by decide +kernel
theorem d6_1 : decode jdk_2802_method_1_code 1 = .ok (.invokespecial 1, 3) := by decide +kernel
theorem d6_4 : decode jdk_2802_method_1_code 4 = .ok (.iload_n 1, 1) := by decide +kernel
theorem d6_5 : decode jdk_2802_method_1_code 5 = .ok (.ifCond .eq 8, 3) := by decide +kernel
theorem d6_8 : decode jdk_2802_method_1_code 8 = .ok (.aload_n 0, 1) := by decide +kernel
theorem d6_9 : decode jdk_2802_method_1_code 9 = .ok (.iconst 1, 1) := by decide +kernel
theorem d6_10 : decode jdk_2802_method_1_code 10 = .ok (.putfield 7, 3) := by decide +kernel
theorem d6_13 : decode jdk_2802_method_1_code 13 = .ok (.return_, 1) := by decide +kernel
theorem ef_6 (m : MethodId) (x0 : Addr) (x1 : Int32) : entryFrame m #[(.ref x0), (.int x1)] 2 = mkF m 0 #[.val (.ref x0), .val (.int x1)] [] := by first | (simp [entryFrame, mkF, argsToLocals, Value.category]; done) | rfl
def Q6 (Z : State) (o0 : Addr) (p1 : Int32) (u : Int32) (h0 : Heap) (n0 : Nat) (v : Option Value) (h : Heap) (L : List Loc) : Prop := (v = none) ∧ (Fr n0 L) ∧ (Keep h0 h [o0]) ∧ (Exa Z h o0 "java/util/concurrent/atomic/AtomicBoolean") ∧ (Fld Z h o0 "java/util/concurrent/atomic/AtomicBoolean" "value" "I" (.int (1 : Int32)))
set_option maxRecDepth 65536 in
set_option maxHeartbeats 40000000 in
theorem rm6 (l : Launch) (Z : State) (a0 : Array Value) (hw : ∀ d ∈ tables_1, d.before a0 Z = true) (ws : List Jvm.Cond) (o0 : Addr) (p1 : Int32) (u : Int32) (h0 : Heap) (n0 : Nat) (Z0 : n0 ≤ h0.size) (E_o0 : Exa Z h0 o0 "java/util/concurrent/atomic/AtomicBoolean") (F_value_o0 : Fld Z h0 o0 "java/util/concurrent/atomic/AtomicBoolean" "value" "I" (.int u)) (g_o0 : n0 ≤ o0) (hp : ¬ p1 = (0 : Int32)) :
    MetFree l (⟨"java/util/concurrent/atomic/AtomicBoolean", "<init>", "(Z)V"⟩ : MethodName) (head1 (Jvm.Cond.code (⟨"java/util/concurrent/atomic/AtomicBoolean", "<init>", "(Z)V"⟩ : MethodName) jdk_2802_method_1_code 2 none :: ws) ({ frames := 1, cells := 0, slots := 0, locals := 12 } : Room)) (fun a U => a = #[(.ref o0), (.int p1)] ∧ Z.Warmed39 U.vm ∧ U.heap = h0) (fun _ _ _ _ _ => True) (fun _ U o U' => ∃ v L, o = .returned v ∧ Q6 Z o0 p1 u h0 n0 v U'.heap L ∧ FrameEnd U o U' L ({ frames := 1, cells := 0, slots := 0, locals := 12 } : Room).cells ({ frames := 1, cells := 0, slots := 0, locals := 12 } : Room).slots) := by
  refine MetFree.of_bodySF (plainFor_of_name pn_2) hisR ?_
  intro p e s m args below meth c s₁ Bd hml0 hP hK
  obtain ⟨rfl, hZ, hh⟩ := hP
  have hx := Bd.exec
  have hby := Bd.bytes
  have hml : c.maxLocals = 2 := hml0
  have hown : s.vm.findClass "java/util/concurrent/atomic/AtomicBoolean" = some m.cls := findClass_of_methodNamed Bd.named
  have hnm := (name_of_methodNamed Bd.named Bd.method).1
  have X0 : Stand p l e ({ frames := 1, cells := 0, slots := 0, locals := 12 } : Room) s m #[(.ref o0), (.int p1)] below meth c s₁ [] 0 0 := Stand.of_body Bd
  have e0 : s₁.heap = h0 := by rw [← hh, Bd.state]; rfl
  have N0 := Fr.nil n0
  refine Ends.opn ?_
  intro QQ hQQ
  refine Ends.step (S' := s₁.setTop (mkF m 0 #[.val (.ref o0), .val (.int p1)] [])) (fun t k => castTop (ef_6 m o0 p1) k) ?_
  show Ends p e below QQ (s₁.setTop (mkF m 0 #[.val (.ref o0), .val (.int p1)] []))
  refine Ends.step (fun _ k => XS.aloadN X0.here hx rfl (hb hby d6_0) rfl rfl k) ?_
  show Ends p e below QQ (s₁.setTop (mkF m 1 #[.val (.ref o0), .val (.int p1)] [(.ref o0)]))
  obtain ⟨T13, X13, e13, st13⟩ := initO X0 hx hZ hown (hw _ (List.mem_of_getElem? (i := 48) rfl)) (hw _ (List.mem_of_getElem? (i := 16) rfl)) (hw _ (List.mem_of_getElem? (i := 17) rfl)) e0 (g := (mkF m 1 #[.val (.ref o0), .val (.int p1)] [(.ref o0)])) rfl (by rw [hml]; rfl) rfl (hb hby d6_1) (by decide) (W := 0) (by show 2 * 0 + _ ≤ _; exact Nat.le_of_eq rfl) (by decide)
  refine Ends.step st13 ?_
  show Ends p e below QQ (T13.setTop (mkF m 4 #[.val (.ref o0), .val (.int p1)] []))
  refine Ends.step (fun _ k => XS.iloadN X13.here hx rfl (hb hby d6_4) rfl k) ?_
  show Ends p e below QQ (T13.setTop (mkF m 5 #[.val (.ref o0), .val (.int p1)] [(.int p1)]))
  have hc5 : ¬ (p1 = (0 : Int32)) := hp
  refine Ends.step (fun _ k => XS.ifNo X13.here hx rfl (hb hby d6_5) rfl (XT.i0_eq_f hc5) k) ?_
  show Ends p e below QQ (T13.setTop (mkF m 8 #[.val (.ref o0), .val (.int p1)] []))
  refine Ends.step (fun _ k => XS.aloadN X13.here hx rfl (hb hby d6_8) rfl rfl k) ?_
  show Ends p e below QQ (T13.setTop (mkF m 9 #[.val (.ref o0), .val (.int p1)] [(.ref o0)]))
  refine Ends.step (fun _ k => XT.iconstV X13.here hx rfl (1 : Int32) (hb hby d6_9) rfl k) ?_
  show Ends p e below QQ (T13.setTop (mkF m 10 #[.val (.ref o0), .val (.int p1)] [(.int (1 : Int32)), (.ref o0)]))
  obtain ⟨T14, h14, X14, e14, W14, st14⟩ := putF X13 hx hZ hown (host := "") (Or.inl (hw _ (List.mem_of_getElem? (i := 49) rfl))) Via.refl e13 F_value_o0 E_o0 (Or.inl (hw _ (List.mem_of_getElem? (i := 50) rfl))) (hw _ (List.mem_of_getElem? (i := 43) rfl)) (ty := .int) (by decide) rfl rfl (g := (mkF m 10 #[.val (.ref o0), .val (.int p1)] [(.int (1 : Int32)), (.ref o0)])) rfl rfl (hb hby d6_10)
  have E_o0 := E_o0.wr W14
  have F_value_o0 : Fld Z h14 o0 "java/util/concurrent/atomic/AtomicBoolean" "value" "I" (.int (1 : Int32)) := F_value_o0.same W14
  have K14 := (Keep.refl h0 [o0]).wr W14 (Or.inl (List.mem_of_getElem? (i := 0) rfl))
  have N14 := Fr.snoc X14 N0 g_o0
  refine Ends.step st14 ?_
  show Ends p e below QQ (T14.setTop (mkF m 13 #[.val (.ref o0), .val (.int p1)] []))
  exact Ends.fin (none) X14 hQQ (fun _ => rfl) Bd.notSynchronized (fun _ hr => X14.returnOut hx Bd.returns (hb hby d6_13) hr) e14 (by decide) (by decide) ⟨rfl, N14, K14, E_o0, F_value_o0⟩
theorem d5_0 : decode prog_3_method_1_code 0 = .ok (.aload_n 0, 1) := by decide +kernel
theorem d5_1 : decode prog_3_method_1_code 1 = .ok (.invokespecial 1, 3) := by decide +kernel
theorem d5_4 : decode prog_3_method_1_code 4 = .ok (.aload_n 0, 1) := by decide +kernel
theorem d5_5 : decode prog_3_method_1_code 5 = .ok (.aload_n 1, 1) := by decide +kernel
theorem d5_6 : decode prog_3_method_1_code 6 = .ok (.putfield 7, 3) := by decide +kernel
theorem d5_9 : decode prog_3_method_1_code 9 = .ok (.aload_n 0, 1) := by decide +kernel
theorem d5_10 : decode prog_3_method_1_code 10 = .ok (.aload_n 2, 1) := by decide +kernel
theorem d5_11 : decode prog_3_method_1_code 11 = .ok (.putfield 13, 3) := by decide +kernel
theorem d5_14 : decode prog_3_method_1_code 14 = .ok (.aload_n 0, 1) := by decide +kernel
theorem d5_15 : decode prog_3_method_1_code 15 = .ok (.aload_n 3, 1) := by decide +kernel
theorem d5_16 : decode prog_3_method_1_code 16 = .ok (.putfield 17, 3) := by decide +kernel
theorem d5_19 : decode prog_3_method_1_code 19 = .ok (.aload_n 0, 1) := by decide +kernel
theorem d5_20 : decode prog_3_method_1_code 20 = .ok (.aload 4, 2) := by decide +kernel
theorem d5_22 : decode prog_3_method_1_code 22 = .ok (.putfield 20, 3) := by decide +kernel
theorem d5_25 : decode prog_3_method_1_code 25 = .ok (.aload_n 0, 1) := by decide +kernel
theorem d5_26 : decode prog_3_method_1_code 26 = .ok (.aload 5, 2) := by decide +kernel
theorem d5_28 : decode prog_3_method_1_code 28 = .ok (.putfield 24, 3) := by decide +kernel
theorem d5_31 : decode prog_3_method_1_code 31 = .ok (.aload_n 0, 1) := by decide +kernel
theorem d5_32 : decode prog_3_method_1_code 32 = .ok (.new 28, 3) := by decide +kernel
theorem d5_35 : decode prog_3_method_1_code 35 = .ok (.dup, 1) := by decide +kernel
theorem d5_36 : decode prog_3_method_1_code 36 = .ok (.iload 6, 2) := by decide +kernel
theorem d5_38 : decode prog_3_method_1_code 38 = .ok (.invokespecial 30, 3) := by decide +kernel
theorem d5_41 : decode prog_3_method_1_code 41 = .ok (.putfield 33, 3) := by decide +kernel
theorem d5_44 : decode prog_3_method_1_code 44 = .ok (.return_, 1) := by decide +kernel
theorem ef_5 (m : MethodId) (x0 : Addr) (x5 : Addr) (x6 : Int32) : entryFrame m #[(.ref x0), .null, .null, .null, .null, (.ref x5), (.int x6)] 7 = mkF m 0 #[.val (.ref x0), .val .null, .val .null, .val .null, .val .null, .val (.ref x5), .val (.int x6)] [] := by first | (simp [entryFrame, mkF, argsToLocals, Value.category]; done) | rfl
def Q5 (Z : State) (o0 : Addr) (o5 : Addr) (p6 : Int32) (u0 : Value) (u1 : Value) (u2 : Value) (u3 : Value) (u4 : Value) (u5 : Value) (h0 : Heap) (n0 : Nat) (v : Option Value) (h : Heap) (L : List Loc) : Prop := (v = none) ∧ (Fr n0 L) ∧ (Keep h0 h [o0]) ∧ (Exa Z h o0 "com/example/wunce/wunce/Claim") ∧ (Fld Z h o0 "com/example/wunce/wunce/Claim" "_owner" "Ljava/lang/String;" .null) ∧ (Fld Z h o0 "com/example/wunce/wunce/Claim" "_result" "Lcom/example/wunce/wunce/Result;" (.ref o5))
set_option maxRecDepth 65536 in
set_option maxHeartbeats 40000000 in
theorem rm5 (l : Launch) (Z : State) (a0 : Array Value) (hw : ∀ d ∈ tables_1, d.before a0 Z = true) (ws : List Jvm.Cond) (o0 : Addr) (o5 : Addr) (p6 : Int32) (u0 : Value) (u1 : Value) (u2 : Value) (u3 : Value) (u4 : Value) (u5 : Value) (h0 : Heap) (n0 : Nat) (Z0 : n0 ≤ h0.size) (E_o0 : Exa Z h0 o0 "com/example/wunce/wunce/Claim") (F__store_o0 : Fld Z h0 o0 "com/example/wunce/wunce/Claim" "_store" "Lcom/example/wunce/wunce/Store;" u0) (F__key_o0 : Fld Z h0 o0 "com/example/wunce/wunce/Claim" "_key" "Ljava/lang/String;" u1) (F__owner_o0 : Fld Z h0 o0 "com/example/wunce/wunce/Claim" "_owner" "Ljava/lang/String;" u2) (F__keep_o0 : Fld Z h0 o0 "com/example/wunce/wunce/Claim" "_keep" "Ljava/time/Duration;" u3) (F__result_o0 : Fld Z h0 o0 "com/example/wunce/wunce/Claim" "_result" "Lcom/example/wunce/wunce/Result;" u4) (F__isEnded_o0 : Fld Z h0 o0 "com/example/wunce/wunce/Claim" "_isEnded" "Ljava/util/concurrent/atomic/AtomicBoolean;" u5) (g_o0 : n0 ≤ o0) (hp : ¬ p6 = (0 : Int32)) :
    MetFree l (⟨"com/example/wunce/wunce/Claim", "<init>", "(Lcom/example/wunce/wunce/Store;Ljava/lang/String;Ljava/lang/String;Ljava/time/Duration;Lcom/example/wunce/wunce/Result;Z)V"⟩ : MethodName) (head1 (Jvm.Cond.code (⟨"com/example/wunce/wunce/Claim", "<init>", "(Lcom/example/wunce/wunce/Store;Ljava/lang/String;Ljava/lang/String;Ljava/time/Duration;Lcom/example/wunce/wunce/Result;Z)V"⟩ : MethodName) prog_3_method_1_code 7 none :: ws) ({ frames := 2, cells := 1, slots := 1, locals := 27 } : Room)) (fun a U => a = #[(.ref o0), .null, .null, .null, .null, (.ref o5), (.int p6)] ∧ Z.Warmed39 U.vm ∧ U.heap = h0) (fun _ _ _ _ _ => True) (fun _ U o U' => ∃ v L, o = .returned v ∧ Q5 Z o0 o5 p6 u0 u1 u2 u3 u4 u5 h0 n0 v U'.heap L ∧ FrameEnd U o U' L ({ frames := 2, cells := 1, slots := 1, locals := 27 } : Room).cells ({ frames := 2, cells := 1, slots := 1, locals := 27 } : Room).slots) := by
  refine MetFree.of_bodySF (plainFor_of_name pn_3) hisR ?_
  intro p e s m args below meth c s₁ Bd hml0 hP hK
  obtain ⟨rfl, hZ, hh⟩ := hP
  have hx := Bd.exec
  have hby := Bd.bytes
  have hml : c.maxLocals = 7 := hml0
  have hown : s.vm.findClass "com/example/wunce/wunce/Claim" = some m.cls := findClass_of_methodNamed Bd.named
  have hnm := (name_of_methodNamed Bd.named Bd.method).1
  have X0 : Stand p l e ({ frames := 2, cells := 1, slots := 1, locals := 27 } : Room) s m #[(.ref o0), .null, .null, .null, .null, (.ref o5), (.int p6)] below meth c s₁ [] 0 0 := Stand.of_body Bd
  have e0 : s₁.heap = h0 := by rw [← hh, Bd.state]; rfl
  have N0 := Fr.nil n0
  refine Ends.opn ?_
  intro QQ hQQ
  refine Ends.step (S' := s₁.setTop (mkF m 0 #[.val (.ref o0), .val .null, .val .null, .val .null, .val .null, .val (.ref o5), .val (.int p6)] [])) (fun t k => castTop (ef_5 m o0 o5 p6) k) ?_
  show Ends p e below QQ (s₁.setTop (mkF m 0 #[.val (.ref o0), .val .null, .val .null, .val .null, .val .null, .val (.ref o5), .val (.int p6)] []))
  refine Ends.step (fun _ k => XS.aloadN X0.here hx rfl (hb hby d5_0) rfl rfl k) ?_
  show Ends p e below QQ (s₁.setTop (mkF m 1 #[.val (.ref o0), .val .null, .val .null, .val .null, .val .null, .val (.ref o5), .val (.int p6)] [(.ref o0)]))
  obtain ⟨T15, X15, e15, st15⟩ := initO X0 hx hZ hown (hw _ (List.mem_of_getElem? (i := 31) rfl)) (hw _ (List.mem_of_getElem? (i := 16) rfl)) (hw _ (List.mem_of_getElem? (i := 17) rfl)) e0 (g := (mkF m 1 #[.val (.ref o0), .val .null, .val .null, .val .null, .val .null, .val (.ref o5), .val (.int p6)] [(.ref o0)])) rfl (by rw [hml]; rfl) rfl (hb hby d5_1) (by decide) (W := 0) (by show 2 * 0 + _ ≤ _; exact Nat.le_of_eq rfl) (by decide)
  refine Ends.step st15 ?_
  show Ends p e below QQ (T15.setTop (mkF m 4 #[.val (.ref o0), .val .null, .val .null, .val .null, .val .null, .val (.ref o5), .val (.int p6)] []))
  refine Ends.step (fun _ k => XS.aloadN X15.here hx rfl (hb hby d5_4) rfl rfl k) ?_
  show Ends p e below QQ (T15.setTop (mkF m 5 #[.val (.ref o0), .val .null, .val .null, .val .null, .val .null, .val (.ref o5), .val (.int p6)] [(.ref o0)]))
  refine Ends.step (fun _ k => XS.aloadN X15.here hx rfl (hb hby d5_5) rfl rfl k) ?_
  show Ends p e below QQ (T15.setTop (mkF m 6 #[.val (.ref o0), .val .null, .val .null, .val .null, .val .null, .val (.ref o5), .val (.int p6)] [.null, (.ref o0)]))
  obtain ⟨T16, h16, X16, e16, W16, st16⟩ := putF X15 hx hZ hown (host := "") (Or.inl (hw _ (List.mem_of_getElem? (i := 32) rfl))) Via.refl e15 F__store_o0 E_o0 (Or.inr ⟨(hw _ (List.mem_of_getElem? (i := 33) rfl)), rfl, hnm⟩) (hw _ (List.mem_of_getElem? (i := 27) rfl)) (ty := (.object "com/example/wunce/wunce/Store")) (by decide) rfl rfl (g := (mkF m 6 #[.val (.ref o0), .val .null, .val .null, .val .null, .val .null, .val (.ref o5), .val (.int p6)] [.null, (.ref o0)])) rfl rfl (hb hby d5_6)
  have E_o0 := E_o0.wr W16
  have F__key_o0 := F__key_o0.other W16 (Or.inr (slot_ne (Or.inr (hw _ (List.mem_of_getElem? (i := 35) rfl))) (Or.inr (hw _ (List.mem_of_getElem? (i := 33) rfl))) (by decide) (t := (.object "java/lang/String")) (t' := (.object "com/example/wunce/wunce/Store")) (by decide) (by decide)))
  have F__owner_o0 := F__owner_o0.other W16 (Or.inr (slot_ne (Or.inr (hw _ (List.mem_of_getElem? (i := 37) rfl))) (Or.inr (hw _ (List.mem_of_getElem? (i := 33) rfl))) (by decide) (t := (.object "java/lang/String")) (t' := (.object "com/example/wunce/wunce/Store")) (by decide) (by decide)))
  have F__keep_o0 := F__keep_o0.other W16 (Or.inr (slot_ne (Or.inr (hw _ (List.mem_of_getElem? (i := 39) rfl))) (Or.inr (hw _ (List.mem_of_getElem? (i := 33) rfl))) (by decide) (t := (.object "java/time/Duration")) (t' := (.object "com/example/wunce/wunce/Store")) (by decide) (by decide)))
  have F__result_o0 := F__result_o0.other W16 (Or.inr (slot_ne (Or.inr (hw _ (List.mem_of_getElem? (i := 41) rfl))) (Or.inr (hw _ (List.mem_of_getElem? (i := 33) rfl))) (by decide) (t := (.object "com/example/wunce/wunce/Result")) (t' := (.object "com/example/wunce/wunce/Store")) (by decide) (by decide)))
  have F__isEnded_o0 := F__isEnded_o0.other W16 (Or.inr (slot_ne (Or.inr (hw _ (List.mem_of_getElem? (i := 52) rfl))) (Or.inr (hw _ (List.mem_of_getElem? (i := 33) rfl))) (by decide) (t := (.object "java/util/concurrent/atomic/AtomicBoolean")) (t' := (.object "com/example/wunce/wunce/Store")) (by decide) (by decide)))
  have F__store_o0 : Fld Z h16 o0 "com/example/wunce/wunce/Claim" "_store" "Lcom/example/wunce/wunce/Store;" .null := F__store_o0.same W16
  have K16 := (Keep.refl h0 [o0]).wr W16 (Or.inl (List.mem_of_getElem? (i := 0) rfl))
  have N16 := Fr.snoc X16 N0 g_o0
  refine Ends.step st16 ?_
  show Ends p e below QQ (T16.setTop (mkF m 9 #[.val (.ref o0), .val .null, .val .null, .val .null, .val .null, .val (.ref o5), .val (.int p6)] []))
  refine Ends.step (fun _ k => XS.aloadN X16.here hx rfl (hb hby d5_9) rfl rfl k) ?_
  show Ends p e below QQ (T16.setTop (mkF m 10 #[.val (.ref o0), .val .null, .val .null, .val .null, .val .null, .val (.ref o5), .val (.int p6)] [(.ref o0)]))
  refine Ends.step (fun _ k => XS.aloadN X16.here hx rfl (hb hby d5_10) rfl rfl k) ?_
  show Ends p e below QQ (T16.setTop (mkF m 11 #[.val (.ref o0), .val .null, .val .null, .val .null, .val .null, .val (.ref o5), .val (.int p6)] [.null, (.ref o0)]))
  obtain ⟨T17, h17, X17, e17, W17, st17⟩ := putF X16 hx hZ hown (host := "") (Or.inl (hw _ (List.mem_of_getElem? (i := 34) rfl))) Via.refl e16 F__key_o0 E_o0 (Or.inr ⟨(hw _ (List.mem_of_getElem? (i := 35) rfl)), rfl, hnm⟩) (hw _ (List.mem_of_getElem? (i := 27) rfl)) (ty := (.object "java/lang/String")) (by decide) rfl rfl (g := (mkF m 11 #[.val (.ref o0), .val .null, .val .null, .val .null, .val .null, .val (.ref o5), .val (.int p6)] [.null, (.ref o0)])) rfl rfl (hb hby d5_11)
  have E_o0 := E_o0.wr W17
  have F__store_o0 := F__store_o0.other W17 (Or.inr (slot_ne (Or.inr (hw _ (List.mem_of_getElem? (i := 33) rfl))) (Or.inr (hw _ (List.mem_of_getElem? (i := 35) rfl))) (by decide) (t := (.object "com/example/wunce/wunce/Store")) (t' := (.object "java/lang/String")) (by decide) (by decide)))
  have F__owner_o0 := F__owner_o0.other W17 (Or.inr (slot_ne (Or.inr (hw _ (List.mem_of_getElem? (i := 37) rfl))) (Or.inr (hw _ (List.mem_of_getElem? (i := 35) rfl))) (by decide) (t := (.object "java/lang/String")) (t' := (.object "java/lang/String")) (by decide) (by decide)))
  have F__keep_o0 := F__keep_o0.other W17 (Or.inr (slot_ne (Or.inr (hw _ (List.mem_of_getElem? (i := 39) rfl))) (Or.inr (hw _ (List.mem_of_getElem? (i := 35) rfl))) (by decide) (t := (.object "java/time/Duration")) (t' := (.object "java/lang/String")) (by decide) (by decide)))
  have F__result_o0 := F__result_o0.other W17 (Or.inr (slot_ne (Or.inr (hw _ (List.mem_of_getElem? (i := 41) rfl))) (Or.inr (hw _ (List.mem_of_getElem? (i := 35) rfl))) (by decide) (t := (.object "com/example/wunce/wunce/Result")) (t' := (.object "java/lang/String")) (by decide) (by decide)))
  have F__isEnded_o0 := F__isEnded_o0.other W17 (Or.inr (slot_ne (Or.inr (hw _ (List.mem_of_getElem? (i := 52) rfl))) (Or.inr (hw _ (List.mem_of_getElem? (i := 35) rfl))) (by decide) (t := (.object "java/util/concurrent/atomic/AtomicBoolean")) (t' := (.object "java/lang/String")) (by decide) (by decide)))
  have F__key_o0 : Fld Z h17 o0 "com/example/wunce/wunce/Claim" "_key" "Ljava/lang/String;" .null := F__key_o0.same W17
  have K17 := K16.wr W17 (Or.inl (List.mem_of_getElem? (i := 0) rfl))
  have N17 := Fr.snoc X17 N16 g_o0
  refine Ends.step st17 ?_
  show Ends p e below QQ (T17.setTop (mkF m 14 #[.val (.ref o0), .val .null, .val .null, .val .null, .val .null, .val (.ref o5), .val (.int p6)] []))
  refine Ends.step (fun _ k => XS.aloadN X17.here hx rfl (hb hby d5_14) rfl rfl k) ?_
  show Ends p e below QQ (T17.setTop (mkF m 15 #[.val (.ref o0), .val .null, .val .null, .val .null, .val .null, .val (.ref o5), .val (.int p6)] [(.ref o0)]))
  refine Ends.step (fun _ k => XS.aloadN X17.here hx rfl (hb hby d5_15) rfl rfl k) ?_
  show Ends p e below QQ (T17.setTop (mkF m 16 #[.val (.ref o0), .val .null, .val .null, .val .null, .val .null, .val (.ref o5), .val (.int p6)] [.null, (.ref o0)]))
  obtain ⟨T18, h18, X18, e18, W18, st18⟩ := putF X17 hx hZ hown (host := "") (Or.inl (hw _ (List.mem_of_getElem? (i := 36) rfl))) Via.refl e17 F__owner_o0 E_o0 (Or.inr ⟨(hw _ (List.mem_of_getElem? (i := 37) rfl)), rfl, hnm⟩) (hw _ (List.mem_of_getElem? (i := 27) rfl)) (ty := (.object "java/lang/String")) (by decide) rfl rfl (g := (mkF m 16 #[.val (.ref o0), .val .null, .val .null, .val .null, .val .null, .val (.ref o5), .val (.int p6)] [.null, (.ref o0)])) rfl rfl (hb hby d5_16)
  have E_o0 := E_o0.wr W18
  have F__store_o0 := F__store_o0.other W18 (Or.inr (slot_ne (Or.inr (hw _ (List.mem_of_getElem? (i := 33) rfl))) (Or.inr (hw _ (List.mem_of_getElem? (i := 37) rfl))) (by decide) (t := (.object "com/example/wunce/wunce/Store")) (t' := (.object "java/lang/String")) (by decide) (by decide)))
  have F__key_o0 := F__key_o0.other W18 (Or.inr (slot_ne (Or.inr (hw _ (List.mem_of_getElem? (i := 35) rfl))) (Or.inr (hw _ (List.mem_of_getElem? (i := 37) rfl))) (by decide) (t := (.object "java/lang/String")) (t' := (.object "java/lang/String")) (by decide) (by decide)))
  have F__keep_o0 := F__keep_o0.other W18 (Or.inr (slot_ne (Or.inr (hw _ (List.mem_of_getElem? (i := 39) rfl))) (Or.inr (hw _ (List.mem_of_getElem? (i := 37) rfl))) (by decide) (t := (.object "java/time/Duration")) (t' := (.object "java/lang/String")) (by decide) (by decide)))
  have F__result_o0 := F__result_o0.other W18 (Or.inr (slot_ne (Or.inr (hw _ (List.mem_of_getElem? (i := 41) rfl))) (Or.inr (hw _ (List.mem_of_getElem? (i := 37) rfl))) (by decide) (t := (.object "com/example/wunce/wunce/Result")) (t' := (.object "java/lang/String")) (by decide) (by decide)))
  have F__isEnded_o0 := F__isEnded_o0.other W18 (Or.inr (slot_ne (Or.inr (hw _ (List.mem_of_getElem? (i := 52) rfl))) (Or.inr (hw _ (List.mem_of_getElem? (i := 37) rfl))) (by decide) (t := (.object "java/util/concurrent/atomic/AtomicBoolean")) (t' := (.object "java/lang/String")) (by decide) (by decide)))
  have F__owner_o0 : Fld Z h18 o0 "com/example/wunce/wunce/Claim" "_owner" "Ljava/lang/String;" .null := F__owner_o0.same W18
  have K18 := K17.wr W18 (Or.inl (List.mem_of_getElem? (i := 0) rfl))
  have N18 := Fr.snoc X18 N17 g_o0
  refine Ends.step st18 ?_
  show Ends p e below QQ (T18.setTop (mkF m 19 #[.val (.ref o0), .val .null, .val .null, .val .null, .val .null, .val (.ref o5), .val (.int p6)] []))
  refine Ends.step (fun _ k => XS.aloadN X18.here hx rfl (hb hby d5_19) rfl rfl k) ?_
  show Ends p e below QQ (T18.setTop (mkF m 20 #[.val (.ref o0), .val .null, .val .null, .val .null, .val .null, .val (.ref o5), .val (.int p6)] [(.ref o0)]))
  refine Ends.step (fun _ k => XS.aload X18.here hx rfl (hb hby d5_20) rfl rfl k) ?_
  show Ends p e below QQ (T18.setTop (mkF m 22 #[.val (.ref o0), .val .null, .val .null, .val .null, .val .null, .val (.ref o5), .val (.int p6)] [.null, (.ref o0)]))
  obtain ⟨T19, h19, X19, e19, W19, st19⟩ := putF X18 hx hZ hown (host := "") (Or.inl (hw _ (List.mem_of_getElem? (i := 38) rfl))) Via.refl e18 F__keep_o0 E_o0 (Or.inr ⟨(hw _ (List.mem_of_getElem? (i := 39) rfl)), rfl, hnm⟩) (hw _ (List.mem_of_getElem? (i := 27) rfl)) (ty := (.object "java/time/Duration")) (by decide) rfl rfl (g := (mkF m 22 #[.val (.ref o0), .val .null, .val .null, .val .null, .val .null, .val (.ref o5), .val (.int p6)] [.null, (.ref o0)])) rfl rfl (hb hby d5_22)
  have E_o0 := E_o0.wr W19
  have F__store_o0 := F__store_o0.other W19 (Or.inr (slot_ne (Or.inr (hw _ (List.mem_of_getElem? (i := 33) rfl))) (Or.inr (hw _ (List.mem_of_getElem? (i := 39) rfl))) (by decide) (t := (.object "com/example/wunce/wunce/Store")) (t' := (.object "java/time/Duration")) (by decide) (by decide)))
  have F__key_o0 := F__key_o0.other W19 (Or.inr (slot_ne (Or.inr (hw _ (List.mem_of_getElem? (i := 35) rfl))) (Or.inr (hw _ (List.mem_of_getElem? (i := 39) rfl))) (by decide) (t := (.object "java/lang/String")) (t' := (.object "java/time/Duration")) (by decide) (by decide)))
  have F__owner_o0 := F__owner_o0.other W19 (Or.inr (slot_ne (Or.inr (hw _ (List.mem_of_getElem? (i := 37) rfl))) (Or.inr (hw _ (List.mem_of_getElem? (i := 39) rfl))) (by decide) (t := (.object "java/lang/String")) (t' := (.object "java/time/Duration")) (by decide) (by decide)))
  have F__result_o0 := F__result_o0.other W19 (Or.inr (slot_ne (Or.inr (hw _ (List.mem_of_getElem? (i := 41) rfl))) (Or.inr (hw _ (List.mem_of_getElem? (i := 39) rfl))) (by decide) (t := (.object "com/example/wunce/wunce/Result")) (t' := (.object "java/time/Duration")) (by decide) (by decide)))
  have F__isEnded_o0 := F__isEnded_o0.other W19 (Or.inr (slot_ne (Or.inr (hw _ (List.mem_of_getElem? (i := 52) rfl))) (Or.inr (hw _ (List.mem_of_getElem? (i := 39) rfl))) (by decide) (t := (.object "java/util/concurrent/atomic/AtomicBoolean")) (t' := (.object "java/time/Duration")) (by decide) (by decide)))
  have F__keep_o0 : Fld Z h19 o0 "com/example/wunce/wunce/Claim" "_keep" "Ljava/time/Duration;" .null := F__keep_o0.same W19
  have K19 := K18.wr W19 (Or.inl (List.mem_of_getElem? (i := 0) rfl))
  have N19 := Fr.snoc X19 N18 g_o0
  refine Ends.step st19 ?_
  show Ends p e below QQ (T19.setTop (mkF m 25 #[.val (.ref o0), .val .null, .val .null, .val .null, .val .null, .val (.ref o5), .val (.int p6)] []))
  refine Ends.step (fun _ k => XS.aloadN X19.here hx rfl (hb hby d5_25) rfl rfl k) ?_
  show Ends p e below QQ (T19.setTop (mkF m 26 #[.val (.ref o0), .val .null, .val .null, .val .null, .val .null, .val (.ref o5), .val (.int p6)] [(.ref o0)]))
  refine Ends.step (fun _ k => XS.aload X19.here hx rfl (hb hby d5_26) rfl rfl k) ?_
  show Ends p e below QQ (T19.setTop (mkF m 28 #[.val (.ref o0), .val .null, .val .null, .val .null, .val .null, .val (.ref o5), .val (.int p6)] [(.ref o5), (.ref o0)]))
  obtain ⟨T20, h20, X20, e20, W20, st20⟩ := putF X19 hx hZ hown (host := "") (Or.inl (hw _ (List.mem_of_getElem? (i := 40) rfl))) Via.refl e19 F__result_o0 E_o0 (Or.inr ⟨(hw _ (List.mem_of_getElem? (i := 41) rfl)), rfl, hnm⟩) (hw _ (List.mem_of_getElem? (i := 27) rfl)) (ty := (.object "com/example/wunce/wunce/Result")) (by decide) rfl rfl (g := (mkF m 28 #[.val (.ref o0), .val .null, .val .null, .val .null, .val .null, .val (.ref o5), .val (.int p6)] [(.ref o5), (.ref o0)])) rfl rfl (hb hby d5_28)
  have E_o0 := E_o0.wr W20
  have F__store_o0 := F__store_o0.other W20 (Or.inr (slot_ne (Or.inr (hw _ (List.mem_of_getElem? (i := 33) rfl))) (Or.inr (hw _ (List.mem_of_getElem? (i := 41) rfl))) (by decide) (t := (.object "com/example/wunce/wunce/Store")) (t' := (.object "com/example/wunce/wunce/Result")) (by decide) (by decide)))
  have F__key_o0 := F__key_o0.other W20 (Or.inr (slot_ne (Or.inr (hw _ (List.mem_of_getElem? (i := 35) rfl))) (Or.inr (hw _ (List.mem_of_getElem? (i := 41) rfl))) (by decide) (t := (.object "java/lang/String")) (t' := (.object "com/example/wunce/wunce/Result")) (by decide) (by decide)))
  have F__owner_o0 := F__owner_o0.other W20 (Or.inr (slot_ne (Or.inr (hw _ (List.mem_of_getElem? (i := 37) rfl))) (Or.inr (hw _ (List.mem_of_getElem? (i := 41) rfl))) (by decide) (t := (.object "java/lang/String")) (t' := (.object "com/example/wunce/wunce/Result")) (by decide) (by decide)))
  have F__keep_o0 := F__keep_o0.other W20 (Or.inr (slot_ne (Or.inr (hw _ (List.mem_of_getElem? (i := 39) rfl))) (Or.inr (hw _ (List.mem_of_getElem? (i := 41) rfl))) (by decide) (t := (.object "java/time/Duration")) (t' := (.object "com/example/wunce/wunce/Result")) (by decide) (by decide)))
  have F__isEnded_o0 := F__isEnded_o0.other W20 (Or.inr (slot_ne (Or.inr (hw _ (List.mem_of_getElem? (i := 52) rfl))) (Or.inr (hw _ (List.mem_of_getElem? (i := 41) rfl))) (by decide) (t := (.object "java/util/concurrent/atomic/AtomicBoolean")) (t' := (.object "com/example/wunce/wunce/Result")) (by decide) (by decide)))
  have F__result_o0 : Fld Z h20 o0 "com/example/wunce/wunce/Claim" "_result" "Lcom/example/wunce/wunce/Result;" (.ref o5) := F__result_o0.same W20
  have K20 := K19.wr W20 (Or.inl (List.mem_of_getElem? (i := 0) rfl))
  have N20 := Fr.snoc X20 N19 g_o0
  refine Ends.step st20 ?_
  show Ends p e below QQ (T20.setTop (mkF m 31 #[.val (.ref o0), .val .null, .val .null, .val .null, .val .null, .val (.ref o5), .val (.int p6)] []))
  refine Ends.step (fun _ k => XS.aloadN X20.here hx rfl (hb hby d5_31) rfl rfl k) ?_
  show Ends p e below QQ (T20.setTop (mkF m 32 #[.val (.ref o0), .val .null, .val .null, .val .null, .val .null, .val (.ref o5), .val (.int p6)] [(.ref o0)]))
  obtain ⟨T21, h21, X21, e21, E21, A21, D21, U21, st21⟩ := newO X20 hx hZ hown (hw _ (List.mem_of_getElem? (i := 42) rfl)) (hw _ (List.mem_of_getElem? (i := 43) rfl)) (hw _ (List.mem_of_getElem? (i := 44) rfl)) e20 (g := (mkF m 32 #[.val (.ref o0), .val .null, .val .null, .val .null, .val .null, .val (.ref o5), .val (.int p6)] [(.ref o0)])) rfl (hb hby d5_32) (by decide) (by decide)
  obtain ⟨b21, g21⟩ : ∃ z, z = h20.size := ⟨_, rfl⟩
  rw [← g21] at A21 D21 U21 st21
  have ne_o0_b21 : o0 ≠ b21 := Nat.ne_of_lt (Nat.lt_of_lt_of_le E_o0.lt (Nat.le_of_eq g21.symm))
  have g_b21 : n0 ≤ b21 := Nat.le_trans Z0 (Nat.le_trans K20.1 (Nat.le_of_eq g21.symm))
  have sz_b21 : h0.size ≤ b21 := Nat.le_trans K20.1 (Nat.le_of_eq g21.symm)
  have E_o0 := E_o0.ext E21
  have F__store_o0 := F__store_o0.ext E21
  have F__key_o0 := F__key_o0.ext E21
  have F__owner_o0 := F__owner_o0.ext E21
  have F__keep_o0 := F__keep_o0.ext E21
  have F__result_o0 := F__result_o0.ext E21
  have F__isEnded_o0 := F__isEnded_o0.ext E21
  have K21 := K20.ext E21
  have E_b21 := A21
  have F_value_b21 : Fld Z h21 b21 "java/util/concurrent/atomic/AtomicBoolean" "value" "I" (.int (0 : Int32)) := D21 (Or.inl (hw _ (List.mem_of_getElem? (i := 50) rfl))) (ty := .int) (by decide)
  refine Ends.step st21 ?_
  show Ends p e below QQ (T21.setTop (mkF m 35 #[.val (.ref o0), .val .null, .val .null, .val .null, .val .null, .val (.ref o5), .val (.int p6)] [(.ref b21), (.ref o0)]))
  refine Ends.step (fun _ k => XS.dup X21.here hx rfl (hb hby d5_35) rfl rfl k) ?_
  show Ends p e below QQ (T21.setTop (mkF m 36 #[.val (.ref o0), .val .null, .val .null, .val .null, .val .null, .val (.ref o5), .val (.int p6)] [(.ref b21), (.ref b21), (.ref o0)]))
  refine Ends.step (fun _ k => XS.iload X21.here hx rfl (hb hby d5_36) rfl k) ?_
  show Ends p e below QQ (T21.setTop (mkF m 38 #[.val (.ref o0), .val .null, .val .null, .val .null, .val .null, .val (.ref o5), .val (.int p6)] [(.int p6), (.ref b21), (.ref b21), (.ref o0)]))
  obtain ⟨_, _, ⟨T22, L22, k22, n22⟩, -, X22, ⟨Lc22, hQ22, l22, y22, z22⟩, st22⟩ := X21.specialBack hx (y := (⟨"java/util/concurrent/atomic/AtomicBoolean", "<init>", "(Z)V"⟩ : MethodName)) rfl hown (mvT hZ (hw _ (List.mem_of_getElem? (i := 45) rfl))) (mvT hZ (hw _ (List.mem_of_getElem? (i := 46) rfl))) (mvT hZ (hw _ (List.mem_of_getElem? (i := 47) rfl))) (by decide) (backOf (W := 2) (rm6 l Z a0 hw [] b21 p6 (0 : Int32) h21 n0 (Nat.le_trans Z0 K21.1) E_b21 F_value_b21 g_b21 hp) hZ (hw _ (List.mem_of_getElem? (i := 47) rfl)) (hw _ (List.mem_of_getElem? (i := 44) rfl)) (by decide) (by decide)) (g := (mkF m 38 #[.val (.ref o0), .val .null, .val .null, .val .null, .val .null, .val (.ref o5), .val (.int p6)] [(.int p6), (.ref b21), (.ref b21), (.ref o0)])) rfl (by rw [hml]; rfl) (Steps.refl _) (a := b21) (argsL := [(.int p6)]) (rest := [(.ref b21), (.ref o0)]) (lenOf pd_0 rfl) rfl (by show 2 * 0 + _ ≤ _; exact Nat.le_of_eq rfl) (hb hby d5_38) (fun _ _ => ⟨rfl, e21, (by decide : 1 + 0 ≤ _), (by decide : 1 + 0 ≤ _)⟩)
  dsimp only [Pt.U, Pt.locs, Pt.cells, Pt.slots] at X22 l22 y22 z22 st22 hQ22
  subst l22 y22 z22
  obtain ⟨rfl, Nq22, Kq22, fq22_0, fq22_1⟩ := hQ22
  have N22 := Fr.app N20 Nq22
  have E_o0 := E_o0.keep Kq22
  have F__store_o0 := F__store_o0.keep Kq22 (ninS ne_o0_b21 nin0)
  have F__key_o0 := F__key_o0.keep Kq22 (ninS ne_o0_b21 nin0)
  have F__owner_o0 := F__owner_o0.keep Kq22 (ninS ne_o0_b21 nin0)
  have F__keep_o0 := F__keep_o0.keep Kq22 (ninS ne_o0_b21 nin0)
  have F__result_o0 := F__result_o0.keep Kq22 (ninS ne_o0_b21 nin0)
  have F__isEnded_o0 := F__isEnded_o0.keep Kq22 (ninS ne_o0_b21 nin0)
  have E_b21 := fq22_0
  have F_value_b21 := fq22_1
  have K22 := K21.trans Kq22 (allS (Or.inr sz_b21) all0)
  refine Ends.step (fun _ k => st22.trans k) ?_
  show Ends p e below QQ (T22.setTop (mkF m 41 #[.val (.ref o0), .val .null, .val .null, .val .null, .val .null, .val (.ref o5), .val (.int p6)] [(.ref b21), (.ref o0)]))
  obtain ⟨T23, h23, X23, e23, W23, st23⟩ := putF X22 hx hZ hown (host := "") (Or.inl (hw _ (List.mem_of_getElem? (i := 51) rfl))) Via.refl rfl F__isEnded_o0 E_o0 (Or.inr ⟨(hw _ (List.mem_of_getElem? (i := 52) rfl)), rfl, hnm⟩) (hw _ (List.mem_of_getElem? (i := 27) rfl)) (ty := (.object "java/util/concurrent/atomic/AtomicBoolean")) (by decide) rfl rfl (g := (mkF m 41 #[.val (.ref o0), .val .null, .val .null, .val .null, .val .null, .val (.ref o5), .val (.int p6)] [(.ref b21), (.ref o0)])) rfl rfl (hb hby d5_41)
  have E_o0 := E_o0.wr W23
  have F__store_o0 := F__store_o0.other W23 (Or.inr (slot_ne (Or.inr (hw _ (List.mem_of_getElem? (i := 33) rfl))) (Or.inr (hw _ (List.mem_of_getElem? (i := 52) rfl))) (by decide) (t := (.object "com/example/wunce/wunce/Store")) (t' := (.object "java/util/concurrent/atomic/AtomicBoolean")) (by decide) (by decide)))
  have F__key_o0 := F__key_o0.other W23 (Or.inr (slot_ne (Or.inr (hw _ (List.mem_of_getElem? (i := 35) rfl))) (Or.inr (hw _ (List.mem_of_getElem? (i := 52) rfl))) (by decide) (t := (.object "java/lang/String")) (t' := (.object "java/util/concurrent/atomic/AtomicBoolean")) (by decide) (by decide)))
  have F__owner_o0 := F__owner_o0.other W23 (Or.inr (slot_ne (Or.inr (hw _ (List.mem_of_getElem? (i := 37) rfl))) (Or.inr (hw _ (List.mem_of_getElem? (i := 52) rfl))) (by decide) (t := (.object "java/lang/String")) (t' := (.object "java/util/concurrent/atomic/AtomicBoolean")) (by decide) (by decide)))
  have F__keep_o0 := F__keep_o0.other W23 (Or.inr (slot_ne (Or.inr (hw _ (List.mem_of_getElem? (i := 39) rfl))) (Or.inr (hw _ (List.mem_of_getElem? (i := 52) rfl))) (by decide) (t := (.object "java/time/Duration")) (t' := (.object "java/util/concurrent/atomic/AtomicBoolean")) (by decide) (by decide)))
  have F__result_o0 := F__result_o0.other W23 (Or.inr (slot_ne (Or.inr (hw _ (List.mem_of_getElem? (i := 41) rfl))) (Or.inr (hw _ (List.mem_of_getElem? (i := 52) rfl))) (by decide) (t := (.object "com/example/wunce/wunce/Result")) (t' := (.object "java/util/concurrent/atomic/AtomicBoolean")) (by decide) (by decide)))
  have E_b21 := E_b21.wr W23
  have F_value_b21 := F_value_b21.other W23 (Or.inl (Ne.symm ne_o0_b21))
  have F__isEnded_o0 : Fld Z h23 o0 "com/example/wunce/wunce/Claim" "_isEnded" "Ljava/util/concurrent/atomic/AtomicBoolean;" (.ref b21) := F__isEnded_o0.same W23
  have K23 := K22.wr W23 (Or.inl (List.mem_of_getElem? (i := 0) rfl))
  have N23 := Fr.snoc X23 N22 g_o0
  refine Ends.step st23 ?_
  show Ends p e below QQ (T23.setTop (mkF m 44 #[.val (.ref o0), .val .null, .val .null, .val .null, .val .null, .val (.ref o5), .val (.int p6)] []))
  exact Ends.fin (none) X23 hQQ (fun _ => rfl) Bd.notSynchronized (fun _ hr => X23.returnOut hx Bd.returns (hb hby d5_44) hr) e23 (by decide) (by decide) ⟨rfl, N23, K23, E_o0, F__owner_o0, F__result_o0⟩
theorem d4_0 : decode prog_3_method_3_code 0 = .ok (.new 8, 3) := by decide +kernel
theorem d4_3 : decode prog_3_method_3_code 3 = .ok (.dup, 1) := by decide +kernel
theorem d4_4 : decode prog_3_method_3_code 4 = .ok (.aconst_null, 1) := by decide +kernel
theorem d4_5 : decode prog_3_method_3_code 5 = .ok (.aconst_null, 1) := by decide +kernel
theorem d4_6 : decode prog_3_method_3_code 6 = .ok (.aconst_null, 1) := by decide +kernel
theorem d4_7 : decode prog_3_method_3_code 7 = .ok (.aconst_null, 1) := by decide +kernel
theorem d4_8 : decode prog_3_method_3_code 8 = .ok (.aload_n 0, 1) := by decide +kernel
theorem d4_9 : decode prog_3_method_3_code 9 = .ok (.iconst 1, 1) := by decide +kernel
theorem d4_10 : decode prog_3_method_3_code 10 = .ok (.invokespecial 37, 3) := by decide +kernel
theorem d4_13 : decode prog_3_method_3_code 13 = .ok (.areturn, 1) := by decide +kernel
theorem ef_4 (m : MethodId) (x0 : Addr) : entryFrame m #[(.ref x0)] 1 = mkF m 0 #[.val (.ref x0)] [] := by first | (simp [entryFrame, mkF, argsToLocals, Value.category]; done) | rfl
def Q4 (Z : State) (o0 : Addr) (h0 : Heap) (n0 : Nat) (v : Option Value) (h : Heap) (L : List Loc) : Prop := ∃ (b : Addr), (v = some (.ref b)) ∧ (Fr n0 L) ∧ (Keep h0 h []) ∧ (h0.size ≤ b) ∧ (n0 ≤ b) ∧ (Exa Z h b "com/example/wunce/wunce/Claim") ∧ (Fld Z h b "com/example/wunce/wunce/Claim" "_owner" "Ljava/lang/String;" .null) ∧ (Fld Z h b "com/example/wunce/wunce/Claim" "_result" "Lcom/example/wunce/wunce/Result;" (.ref o0))
set_option maxRecDepth 65536 in
set_option maxHeartbeats 40000000 in
theorem rm4 (l : Launch) (Z : State) (a0 : Array Value) (hw : ∀ d ∈ tables_1, d.before a0 Z = true) (ws : List Jvm.Cond) (o0 : Addr) (h0 : Heap) (n0 : Nat) (Z0 : n0 ≤ h0.size) :
    MetFree l (⟨"com/example/wunce/wunce/Claim", "turnedAway", "(Lcom/example/wunce/wunce/Result;)Lcom/example/wunce/wunce/Claim;"⟩ : MethodName) (head1 (Jvm.Cond.code (⟨"com/example/wunce/wunce/Claim", "turnedAway", "(Lcom/example/wunce/wunce/Result;)Lcom/example/wunce/wunce/Claim;"⟩ : MethodName) prog_3_method_3_code 1 (some (.object "com/example/wunce/wunce/Claim")) :: ws) ({ frames := 3, cells := 2, slots := 7, locals := 46 } : Room)) (fun a U => a = #[(.ref o0)] ∧ Z.Warmed39 U.vm ∧ U.heap = h0) (fun _ _ _ _ _ => True) (fun _ U o U' => ∃ v L, o = .returned v ∧ Q4 Z o0 h0 n0 v U'.heap L ∧ FrameEnd U o U' L ({ frames := 3, cells := 2, slots := 7, locals := 46 } : Room).cells ({ frames := 3, cells := 2, slots := 7, locals := 46 } : Room).slots) := by
  refine MetFree.of_bodySF (plainFor_of_name pn_3) hisR ?_
  intro p e s m args below meth c s₁ Bd hml0 hP hK
  obtain ⟨rfl, hZ, hh⟩ := hP
  have hx := Bd.exec
  have hby := Bd.bytes
  have hml : c.maxLocals = 1 := hml0
  have hown : s.vm.findClass "com/example/wunce/wunce/Claim" = some m.cls := findClass_of_methodNamed Bd.named
  have hnm := (name_of_methodNamed Bd.named Bd.method).1
  have X0 : Stand p l e ({ frames := 3, cells := 2, slots := 7, locals := 46 } : Room) s m #[(.ref o0)] below meth c s₁ [] 0 0 := Stand.of_body Bd
  have e0 : s₁.heap = h0 := by rw [← hh, Bd.state]; rfl
  have N0 := Fr.nil n0
  refine Ends.opn ?_
  intro QQ hQQ
  refine Ends.step (S' := s₁.setTop (mkF m 0 #[.val (.ref o0)] [])) (fun t k => castTop (ef_4 m o0) k) ?_
  show Ends p e below QQ (s₁.setTop (mkF m 0 #[.val (.ref o0)] []))
  obtain ⟨T24, h24, X24, e24, E24, A24, D24, U24, st24⟩ := newO X0 hx hZ hown (hw _ (List.mem_of_getElem? (i := 26) rfl)) (hw _ (List.mem_of_getElem? (i := 27) rfl)) (hw _ (List.mem_of_getElem? (i := 24) rfl)) e0 (g := (mkF m 0 #[.val (.ref o0)] [])) rfl (hb hby d4_0) (by decide) (by decide)
  obtain ⟨b24, g24⟩ : ∃ z, z = h0.size := ⟨_, rfl⟩
  rw [← g24] at A24 D24 U24 st24
  have g_b24 : n0 ≤ b24 := Nat.le_trans Z0 (Nat.le_trans (Keep.refl h0 []).1 (Nat.le_of_eq g24.symm))
  have sz_b24 : h0.size ≤ b24 := Nat.le_trans (Keep.refl h0 []).1 (Nat.le_of_eq g24.symm)
  have K24 := (Keep.refl h0 []).ext E24
  have E_b24 := A24
  have F__store_b24 : Fld Z h24 b24 "com/example/wunce/wunce/Claim" "_store" "Lcom/example/wunce/wunce/Store;" .null := D24 (Or.inr (hw _ (List.mem_of_getElem? (i := 33) rfl))) (ty := (.object "com/example/wunce/wunce/Store")) (by decide)
  have F__key_b24 : Fld Z h24 b24 "com/example/wunce/wunce/Claim" "_key" "Ljava/lang/String;" .null := D24 (Or.inr (hw _ (List.mem_of_getElem? (i := 35) rfl))) (ty := (.object "java/lang/String")) (by decide)
  have F__owner_b24 : Fld Z h24 b24 "com/example/wunce/wunce/Claim" "_owner" "Ljava/lang/String;" .null := D24 (Or.inr (hw _ (List.mem_of_getElem? (i := 37) rfl))) (ty := (.object "java/lang/String")) (by decide)
  have F__keep_b24 : Fld Z h24 b24 "com/example/wunce/wunce/Claim" "_keep" "Ljava/time/Duration;" .null := D24 (Or.inr (hw _ (List.mem_of_getElem? (i := 39) rfl))) (ty := (.object "java/time/Duration")) (by decide)
  have F__result_b24 : Fld Z h24 b24 "com/example/wunce/wunce/Claim" "_result" "Lcom/example/wunce/wunce/Result;" .null := D24 (Or.inr (hw _ (List.mem_of_getElem? (i := 41) rfl))) (ty := (.object "com/example/wunce/wunce/Result")) (by decide)
  have F__isEnded_b24 : Fld Z h24 b24 "com/example/wunce/wunce/Claim" "_isEnded" "Ljava/util/concurrent/atomic/AtomicBoolean;" .null := D24 (Or.inr (hw _ (List.mem_of_getElem? (i := 52) rfl))) (ty := (.object "java/util/concurrent/atomic/AtomicBoolean")) (by decide)
  refine Ends.step st24 ?_
  show Ends p e below QQ (T24.setTop (mkF m 3 #[.val (.ref o0)] [(.ref b24)]))
  refine Ends.step (fun _ k => XS.dup X24.here hx rfl (hb hby d4_3) rfl rfl k) ?_
  show Ends p e below QQ (T24.setTop (mkF m 4 #[.val (.ref o0)] [(.ref b24), (.ref b24)]))
  refine Ends.step (fun _ k => XS.aconstNull X24.here hx rfl (hb hby d4_4) k) ?_
  show Ends p e below QQ (T24.setTop (mkF m 5 #[.val (.ref o0)] [.null, (.ref b24), (.ref b24)]))
  refine Ends.step (fun _ k => XS.aconstNull X24.here hx rfl (hb hby d4_5) k) ?_
  show Ends p e below QQ (T24.setTop (mkF m 6 #[.val (.ref o0)] [.null, .null, (.ref b24), (.ref b24)]))
  refine Ends.step (fun _ k => XS.aconstNull X24.here hx rfl (hb hby d4_6) k) ?_
  show Ends p e below QQ (T24.setTop (mkF m 7 #[.val (.ref o0)] [.null, .null, .null, (.ref b24), (.ref b24)]))
  refine Ends.step (fun _ k => XS.aconstNull X24.here hx rfl (hb hby d4_7) k) ?_
  show Ends p e below QQ (T24.setTop (mkF m 8 #[.val (.ref o0)] [.null, .null, .null, .null, (.ref b24), (.ref b24)]))
  refine Ends.step (fun _ k => XS.aloadN X24.here hx rfl (hb hby d4_8) rfl rfl k) ?_
  show Ends p e below QQ (T24.setTop (mkF m 9 #[.val (.ref o0)] [(.ref o0), .null, .null, .null, .null, (.ref b24), (.ref b24)]))
  refine Ends.step (fun _ k => XT.iconstV X24.here hx rfl (1 : Int32) (hb hby d4_9) rfl k) ?_
  show Ends p e below QQ (T24.setTop (mkF m 10 #[.val (.ref o0)] [(.int (1 : Int32)), (.ref o0), .null, .null, .null, .null, (.ref b24), (.ref b24)]))
  obtain ⟨_, _, ⟨T25, L25, k25, n25⟩, -, X25, ⟨Lc25, hQ25, l25, y25, z25⟩, st25⟩ := X24.specialBack hx (y := (⟨"com/example/wunce/wunce/Claim", "<init>", "(Lcom/example/wunce/wunce/Store;Ljava/lang/String;Ljava/lang/String;Ljava/time/Duration;Lcom/example/wunce/wunce/Result;Z)V"⟩ : MethodName)) rfl hown (mvT hZ (hw _ (List.mem_of_getElem? (i := 28) rfl))) (mvT hZ (hw _ (List.mem_of_getElem? (i := 29) rfl))) (mvT hZ (hw _ (List.mem_of_getElem? (i := 30) rfl))) (by decide) (backOf (W := 1) (rm5 l Z a0 hw [] b24 o0 (1 : Int32) (.null : Value) (.null : Value) (.null : Value) (.null : Value) (.null : Value) (.null : Value) h24 n0 (Nat.le_trans Z0 K24.1) E_b24 F__store_b24 F__key_b24 F__owner_b24 F__keep_b24 F__result_b24 F__isEnded_b24 g_b24 (by decide)) hZ (hw _ (List.mem_of_getElem? (i := 30) rfl)) (hw _ (List.mem_of_getElem? (i := 24) rfl)) (by decide) (by decide)) (g := (mkF m 10 #[.val (.ref o0)] [(.int (1 : Int32)), (.ref o0), .null, .null, .null, .null, (.ref b24), (.ref b24)])) rfl (by rw [hml]; rfl) (Steps.refl _) (a := b24) (argsL := [.null, .null, .null, .null, (.ref o0), (.int (1 : Int32))]) (rest := [(.ref b24)]) (lenOf pd_1 rfl) rfl (by show 2 * 0 + _ ≤ _; exact Nat.le_of_eq rfl) (hb hby d4_10) (fun _ _ => ⟨rfl, e24, (by decide : 1 + 1 ≤ _), (by decide : 6 + 1 ≤ _)⟩)
  dsimp only [Pt.U, Pt.locs, Pt.cells, Pt.slots] at X25 l25 y25 z25 st25 hQ25
  subst l25 y25 z25
  obtain ⟨rfl, Nq25, Kq25, fq25_0, fq25_1, fq25_2⟩ := hQ25
  have N25 := Fr.app N0 Nq25
  have E_b24 := fq25_0
  have F__owner_b24 := fq25_1
  have F__result_b24 := fq25_2
  have K25 := K24.trans Kq25 (allS (Or.inr sz_b24) all0)
  refine Ends.step (fun _ k => st25.trans k) ?_
  show Ends p e below QQ (T25.setTop (mkF m 13 #[.val (.ref o0)] [(.ref b24)]))
  exact Ends.fin (some (.ref b24)) X25 hQQ (fun h => by rw [Bd.returns] at h; cases h) Bd.notSynchronized (fun _ hr => retOut X25 hx (t := (.object "com/example/wunce/wunce/Claim")) Bd.returns rfl (Or.inr (Or.inr (Or.inr (Or.inr ⟨rfl, rfl, rfl⟩)))) (hb hby d4_13) hr) rfl (by decide) (by decide) ⟨b24, rfl, N25, K25, sz_b24, g_b24, E_b24, F__owner_b24, F__result_b24⟩
theorem d7_0 : decode prog_3_method_4_code 0 = .ok (.aload_n 0, 1) := by decide +kernel
theorem d7_1 : decode prog_3_method_4_code 1 = .ok (.getfield 17, 3) := by decide +kernel
theorem d7_4 : decode prog_3_method_4_code 4 = .ok (.ifnull 7, 3) := by decide +kernel
theorem d7_11 : decode prog_3_method_4_code 11 = .ok (.iconst 0, 1) := by decide +kernel
theorem d7_12 : decode prog_3_method_4_code 12 = .ok (.ireturn, 1) := by decide +kernel
theorem ef_7 (m : MethodId) (x0 : Addr) : entryFrame m #[(.ref x0)] 1 = mkF m 0 #[.val (.ref x0)] [] := by first | (simp [entryFrame, mkF, argsToLocals, Value.category]; done) | rfl
def Q7 (Z : State) (o0 : Addr) (h0 : Heap) (n0 : Nat) (v : Option Value) (h : Heap) (L : List Loc) : Prop := (v = some (.int (0 : Int32))) ∧ (Fr n0 L) ∧ (h = h0)
set_option maxRecDepth 65536 in
set_option maxHeartbeats 40000000 in
theorem rm7 (l : Launch) (Z : State) (a0 : Array Value) (hw : ∀ d ∈ tables_1, d.before a0 Z = true) (ws : List Jvm.Cond) (o0 : Addr) (h0 : Heap) (n0 : Nat) (Z0 : n0 ≤ h0.size) (F__owner_o0 : Fld Z h0 o0 "com/example/wunce/wunce/Claim" "_owner" "Ljava/lang/String;" .null) :
    MetFree l (⟨"com/example/wunce/wunce/Claim", "isHeld", "()Z"⟩ : MethodName) (head1 (Jvm.Cond.code (⟨"com/example/wunce/wunce/Claim", "isHeld", "()Z"⟩ : MethodName) prog_3_method_4_code 1 (some .boolean) :: ws) ({ frames := 0, cells := 0, slots := 0, locals := 0 } : Room)) (fun a U => a = #[(.ref o0)] ∧ Z.Warmed39 U.vm ∧ U.heap = h0) (fun _ _ _ _ _ => True) (fun _ U o U' => ∃ v L, o = .returned v ∧ Q7 Z o0 h0 n0 v U'.heap L ∧ FrameEnd U o U' L ({ frames := 0, cells := 0, slots := 0, locals := 0 } : Room).cells ({ frames := 0, cells := 0, slots := 0, locals := 0 } : Room).slots) := by
  refine MetFree.of_bodySF (plainFor_of_name pn_3) hisR ?_
  intro p e s m args below meth c s₁ Bd hml0 hP hK
  obtain ⟨rfl, hZ, hh⟩ := hP
  have hx := Bd.exec
  have hby := Bd.bytes
  have hml : c.maxLocals = 1 := hml0
  have hown : s.vm.findClass "com/example/wunce/wunce/Claim" = some m.cls := findClass_of_methodNamed Bd.named
  have hnm := (name_of_methodNamed Bd.named Bd.method).1
  have X0 : Stand p l e ({ frames := 0, cells := 0, slots := 0, locals := 0 } : Room) s m #[(.ref o0)] below meth c s₁ [] 0 0 := Stand.of_body Bd
  have e0 : s₁.heap = h0 := by rw [← hh, Bd.state]; rfl
  have N0 := Fr.nil n0
  refine Ends.opn ?_
  intro QQ hQQ
  refine Ends.step (S' := s₁.setTop (mkF m 0 #[.val (.ref o0)] [])) (fun t k => castTop (ef_7 m o0) k) ?_
  show Ends p e below QQ (s₁.setTop (mkF m 0 #[.val (.ref o0)] []))
  refine Ends.step (fun _ k => XS.aloadN X0.here hx rfl (hb hby d7_0) rfl rfl k) ?_
  show Ends p e below QQ (s₁.setTop (mkF m 1 #[.val (.ref o0)] [(.ref o0)]))
  obtain ⟨T26, X26, e26, st26⟩ := getF X0 hx hZ hown (host := "") (Or.inl (hw _ (List.mem_of_getElem? (i := 36) rfl))) Via.refl e0 F__owner_o0 (g := (mkF m 1 #[.val (.ref o0)] [(.ref o0)])) rfl rfl (hb hby d7_1)
  refine Ends.step st26 ?_
  show Ends p e below QQ (T26.setTop (mkF m 4 #[.val (.ref o0)] [.null]))
  refine Ends.step (fun _ k => XS.ifnullYes X26.here hx rfl (pc0 := 4) (pc' := 11) rfl (hb hby d7_4) rfl (by decide) (by decide) k) ?_
  show Ends p e below QQ (T26.setTop (mkF m 11 #[.val (.ref o0)] []))
  refine Ends.step (fun _ k => XT.iconstV X26.here hx rfl (0 : Int32) (hb hby d7_11) rfl k) ?_
  show Ends p e below QQ (T26.setTop (mkF m 12 #[.val (.ref o0)] [(.int (0 : Int32))]))
  exact Ends.fin (some (.int (0 : Int32))) X26 hQQ (fun h => by rw [Bd.returns] at h; cases h) Bd.notSynchronized (fun _ hr => retOut X26 hx (t := .boolean) Bd.returns rfl (Or.inl ⟨rfl, (by simp), _, rfl⟩) (hb hby d7_12) hr) e26 (by decide) (by decide) ⟨rfl, N0, rfl⟩
theorem d8_0 : decode prog_3_method_5_code 0 = .ok (.aload_n 0, 1) := by decide +kernel
theorem d8_1 : decode prog_3_method_5_code 1 = .ok (.invokevirtual 40, 3) := by decide +kernel
theorem d8_4 : decode prog_3_method_5_code 4 = .ok (.ifCond .eq 13, 3) := by decide +kernel
theorem d8_17 : decode prog_3_method_5_code 17 = .ok (.aload_n 0, 1) := by decide +kernel
theorem d8_18 : decode prog_3_method_5_code 18 = .ok (.getfield 24, 3) := by decide +kernel
theorem d8_21 : decode prog_3_method_5_code 21 = .ok (.areturn, 1) := by decide +kernel
theorem ef_8 (m : MethodId) (x0 : Addr) : entryFrame m #[(.ref x0)] 1 = mkF m 0 #[.val (.ref x0)] [] := by first | (simp [entryFrame, mkF, argsToLocals, Value.category]; done) | rfl
def Q8 (Z : State) (o0 : Addr) (w : Addr) (h0 : Heap) (n0 : Nat) (v : Option Value) (h : Heap) (L : List Loc) : Prop := (v = some (.ref w)) ∧ (Fr n0 L) ∧ (h = h0)
set_option maxRecDepth 65536 in
set_option maxHeartbeats 40000000 in
theorem rm8 (l : Launch) (Z : State) (a0 : Array Value) (hw : ∀ d ∈ tables_1, d.before a0 Z = true) (ws : List Jvm.Cond) (o0 : Addr) (w : Addr) (h0 : Heap) (n0 : Nat) (Z0 : n0 ≤ h0.size) (E_o0 : Exa Z h0 o0 "com/example/wunce/wunce/Claim") (F__owner_o0 : Fld Z h0 o0 "com/example/wunce/wunce/Claim" "_owner" "Ljava/lang/String;" .null) (F__result_o0 : Fld Z h0 o0 "com/example/wunce/wunce/Claim" "_result" "Lcom/example/wunce/wunce/Result;" (.ref w)) :
    MetFree l (⟨"com/example/wunce/wunce/Claim", "result", "()Lcom/example/wunce/wunce/Result;"⟩ : MethodName) (head1 (Jvm.Cond.code (⟨"com/example/wunce/wunce/Claim", "result", "()Lcom/example/wunce/wunce/Result;"⟩ : MethodName) prog_3_method_5_code 1 (some (.object "com/example/wunce/wunce/Result")) :: ws) ({ frames := 1, cells := 0, slots := 0, locals := 12 } : Room)) (fun a U => a = #[(.ref o0)] ∧ Z.Warmed39 U.vm ∧ U.heap = h0) (fun _ _ _ _ _ => True) (fun _ U o U' => ∃ v L, o = .returned v ∧ Q8 Z o0 w h0 n0 v U'.heap L ∧ FrameEnd U o U' L ({ frames := 1, cells := 0, slots := 0, locals := 12 } : Room).cells ({ frames := 1, cells := 0, slots := 0, locals := 12 } : Room).slots) := by
  refine MetFree.of_bodySF (plainFor_of_name pn_3) hisR ?_
  intro p e s m args below meth c s₁ Bd hml0 hP hK
  obtain ⟨rfl, hZ, hh⟩ := hP
  have hx := Bd.exec
  have hby := Bd.bytes
  have hml : c.maxLocals = 1 := hml0
  have hown : s.vm.findClass "com/example/wunce/wunce/Claim" = some m.cls := findClass_of_methodNamed Bd.named
  have hnm := (name_of_methodNamed Bd.named Bd.method).1
  have X0 : Stand p l e ({ frames := 1, cells := 0, slots := 0, locals := 12 } : Room) s m #[(.ref o0)] below meth c s₁ [] 0 0 := Stand.of_body Bd
  have e0 : s₁.heap = h0 := by rw [← hh, Bd.state]; rfl
  have N0 := Fr.nil n0
  refine Ends.opn ?_
  intro QQ hQQ
  refine Ends.step (S' := s₁.setTop (mkF m 0 #[.val (.ref o0)] [])) (fun t k => castTop (ef_8 m o0) k) ?_
  show Ends p e below QQ (s₁.setTop (mkF m 0 #[.val (.ref o0)] []))
  refine Ends.step (fun _ k => XS.aloadN X0.here hx rfl (hb hby d8_0) rfl rfl k) ?_
  show Ends p e below QQ (s₁.setTop (mkF m 1 #[.val (.ref o0)] [(.ref o0)]))
  obtain ⟨cq27, kq27, q27a, q27b, q27c⟩ := isOf hZ e0 E_o0
  obtain ⟨_, _, ⟨T27, L27, k27, n27⟩, -, X27, ⟨Lc27, hQ27, l27, y27, z27⟩, st27⟩ := X0.virtualBack hx (y := (⟨"com/example/wunce/wunce/Claim", "isHeld", "()Z"⟩ : MethodName)) (z := (⟨"com/example/wunce/wunce/Claim", "isHeld", "()Z"⟩ : MethodName)) hown (mvT hZ (hw _ (List.mem_of_getElem? (i := 63) rfl))) (mvT hZ (hw _ (List.mem_of_getElem? (i := 54) rfl))) (notFace_of_selects (args := #[]) (mvT hZ (hw _ (List.mem_of_getElem? (i := 56) rfl)))) (mvT hZ (hw _ (List.mem_of_getElem? (i := 56) rfl))) (mvT hZ (hw _ (List.mem_of_getElem? (i := 55) rfl))) (by decide) (backOf (W := 0) (rm7 l Z a0 hw [] o0 h0 n0 (Nat.le_trans Z0 (Keep.refl h0 []).1) F__owner_o0) hZ (hw _ (List.mem_of_getElem? (i := 57) rfl)) (hw _ (List.mem_of_getElem? (i := 24) rfl)) (by decide) (by decide)) q27a q27c (g := (mkF m 1 #[.val (.ref o0)] [(.ref o0)])) rfl (by rw [hml]; rfl) (Steps.refl _) (argsL := []) (rest := []) (lenOf pd_2 rfl) rfl (by show 2 * 0 + _ ≤ _; exact Nat.le_of_eq rfl) (hb hby d8_1) (fun _ _ => ⟨rfl, e0, (by decide : 0 + 0 ≤ _), (by decide : 0 + 0 ≤ _)⟩)
  dsimp only [Pt.U, Pt.locs, Pt.cells, Pt.slots] at X27 l27 y27 z27 st27 hQ27
  subst l27 y27 z27
  obtain ⟨rfl, Nq27, hh27⟩ := hQ27
  have N27 := Fr.app N0 Nq27
  refine Ends.step (fun _ k => st27.trans k) ?_
  show Ends p e below QQ (T27.setTop (mkF m 4 #[.val (.ref o0)] [(.int (0 : Int32))]))
  refine Ends.step (fun _ k => XS.ifYes X27.here hx rfl (pc0 := 4) (pc' := 17) rfl (hb hby d8_4) rfl (XT.i0_eq_t (by decide)) (by decide) (by decide) k) ?_
  show Ends p e below QQ (T27.setTop (mkF m 17 #[.val (.ref o0)] []))
  refine Ends.step (fun _ k => XS.aloadN X27.here hx rfl (hb hby d8_17) rfl rfl k) ?_
  show Ends p e below QQ (T27.setTop (mkF m 18 #[.val (.ref o0)] [(.ref o0)]))
  obtain ⟨T28, X28, e28, st28⟩ := getF X27 hx hZ hown (host := "") (Or.inl (hw _ (List.mem_of_getElem? (i := 40) rfl))) Via.refl hh27 F__result_o0 (g := (mkF m 18 #[.val (.ref o0)] [(.ref o0)])) rfl rfl (hb hby d8_18)
  refine Ends.step st28 ?_
  show Ends p e below QQ (T28.setTop (mkF m 21 #[.val (.ref o0)] [(.ref w)]))
  exact Ends.fin (some (.ref w)) X28 hQQ (fun h => by rw [Bd.returns] at h; cases h) Bd.notSynchronized (fun _ hr => retOut X28 hx (t := (.object "com/example/wunce/wunce/Result")) Bd.returns rfl (Or.inr (Or.inr (Or.inr (Or.inr ⟨rfl, rfl, rfl⟩)))) (hb hby d8_21) hr) e28 (by decide) (by decide) ⟨rfl, N27, rfl⟩
theorem d9_0 : decode prog_3_method_7_code 0 = .ok (.aload_n 0, 1) := by decide +kernel
theorem d9_1 : decode prog_3_method_7_code 1 = .ok (.invokevirtual 40, 3) := by decide +kernel
theorem d9_4 : decode prog_3_method_7_code 4 = .ok (.ifCond .eq 32, 3) := by decide +kernel
theorem d9_36 : decode prog_3_method_7_code 36 = .ok (.return_, 1) := by decide +kernel
theorem ef_9 (m : MethodId) (x0 : Addr) : entryFrame m #[(.ref x0)] 1 = mkF m 0 #[.val (.ref x0)] [] := by first | (simp [entryFrame, mkF, argsToLocals, Value.category]; done) | rfl
def Q9 (Z : State) (o0 : Addr) (h0 : Heap) (n0 : Nat) (v : Option Value) (h : Heap) (L : List Loc) : Prop := (v = none) ∧ (Fr n0 L) ∧ (h = h0)
set_option maxRecDepth 65536 in
set_option maxHeartbeats 40000000 in
theorem rm9 (l : Launch) (Z : State) (a0 : Array Value) (hw : ∀ d ∈ tables_1, d.before a0 Z = true) (ws : List Jvm.Cond) (o0 : Addr) (h0 : Heap) (n0 : Nat) (Z0 : n0 ≤ h0.size) (E_o0 : Exa Z h0 o0 "com/example/wunce/wunce/Claim") (F__owner_o0 : Fld Z h0 o0 "com/example/wunce/wunce/Claim" "_owner" "Ljava/lang/String;" .null) :
    MetFree l (⟨"com/example/wunce/wunce/Claim", "release", "()V"⟩ : MethodName) (head1 (Jvm.Cond.code (⟨"com/example/wunce/wunce/Claim", "release", "()V"⟩ : MethodName) prog_3_method_7_code 1 none :: ws) ({ frames := 1, cells := 0, slots := 0, locals := 12 } : Room)) (fun a U => a = #[(.ref o0)] ∧ Z.Warmed39 U.vm ∧ U.heap = h0) (fun _ _ _ _ _ => True) (fun _ U o U' => ∃ v L, o = .returned v ∧ Q9 Z o0 h0 n0 v U'.heap L ∧ FrameEnd U o U' L ({ frames := 1, cells := 0, slots := 0, locals := 12 } : Room).cells ({ frames := 1, cells := 0, slots := 0, locals := 12 } : Room).slots) := by
  refine MetFree.of_bodySF (plainFor_of_name pn_3) hisR ?_
  intro p e s m args below meth c s₁ Bd hml0 hP hK
  obtain ⟨rfl, hZ, hh⟩ := hP
  have hx := Bd.exec
  have hby := Bd.bytes
  have hml : c.maxLocals = 1 := hml0
  have hown : s.vm.findClass "com/example/wunce/wunce/Claim" = some m.cls := findClass_of_methodNamed Bd.named
  have hnm := (name_of_methodNamed Bd.named Bd.method).1
  have X0 : Stand p l e ({ frames := 1, cells := 0, slots := 0, locals := 12 } : Room) s m #[(.ref o0)] below meth c s₁ [] 0 0 := Stand.of_body Bd
  have e0 : s₁.heap = h0 := by rw [← hh, Bd.state]; rfl
  have N0 := Fr.nil n0
  refine Ends.opn ?_
  intro QQ hQQ
  refine Ends.step (S' := s₁.setTop (mkF m 0 #[.val (.ref o0)] [])) (fun t k => castTop (ef_9 m o0) k) ?_
  show Ends p e below QQ (s₁.setTop (mkF m 0 #[.val (.ref o0)] []))
  refine Ends.step (fun _ k => XS.aloadN X0.here hx rfl (hb hby d9_0) rfl rfl k) ?_
  show Ends p e below QQ (s₁.setTop (mkF m 1 #[.val (.ref o0)] [(.ref o0)]))
  obtain ⟨cq29, kq29, q29a, q29b, q29c⟩ := isOf hZ e0 E_o0
  obtain ⟨_, _, ⟨T29, L29, k29, n29⟩, -, X29, ⟨Lc29, hQ29, l29, y29, z29⟩, st29⟩ := X0.virtualBack hx (y := (⟨"com/example/wunce/wunce/Claim", "isHeld", "()Z"⟩ : MethodName)) (z := (⟨"com/example/wunce/wunce/Claim", "isHeld", "()Z"⟩ : MethodName)) hown (mvT hZ (hw _ (List.mem_of_getElem? (i := 63) rfl))) (mvT hZ (hw _ (List.mem_of_getElem? (i := 54) rfl))) (notFace_of_selects (args := #[]) (mvT hZ (hw _ (List.mem_of_getElem? (i := 56) rfl)))) (mvT hZ (hw _ (List.mem_of_getElem? (i := 56) rfl))) (mvT hZ (hw _ (List.mem_of_getElem? (i := 55) rfl))) (by decide) (backOf (W := 0) (rm7 l Z a0 hw [] o0 h0 n0 (Nat.le_trans Z0 (Keep.refl h0 []).1) F__owner_o0) hZ (hw _ (List.mem_of_getElem? (i := 57) rfl)) (hw _ (List.mem_of_getElem? (i := 24) rfl)) (by decide) (by decide)) q29a q29c (g := (mkF m 1 #[.val (.ref o0)] [(.ref o0)])) rfl (by rw [hml]; rfl) (Steps.refl _) (argsL := []) (rest := []) (lenOf pd_2 rfl) rfl (by show 2 * 0 + _ ≤ _; exact Nat.le_of_eq rfl) (hb hby d9_1) (fun _ _ => ⟨rfl, e0, (by decide : 0 + 0 ≤ _), (by decide : 0 + 0 ≤ _)⟩)
  dsimp only [Pt.U, Pt.locs, Pt.cells, Pt.slots] at X29 l29 y29 z29 st29 hQ29
  subst l29 y29 z29
  obtain ⟨rfl, Nq29, hh29⟩ := hQ29
  have N29 := Fr.app N0 Nq29
  refine Ends.step (fun _ k => st29.trans k) ?_
  show Ends p e below QQ (T29.setTop (mkF m 4 #[.val (.ref o0)] [(.int (0 : Int32))]))
  refine Ends.step (fun _ k => XS.ifYes X29.here hx rfl (pc0 := 4) (pc' := 36) rfl (hb hby d9_4) rfl (XT.i0_eq_t (by decide)) (by decide) (by decide) k) ?_
  show Ends p e below QQ (T29.setTop (mkF m 36 #[.val (.ref o0)] []))
  exact Ends.fin (none) X29 hQQ (fun _ => rfl) Bd.notSynchronized (fun _ hr => X29.returnOut hx Bd.returns (hb hby d9_36) hr) hh29 (by decide) (by decide) ⟨rfl, N29, rfl⟩
theorem d10_0 : decode prog_14_method_2_code 0 = .ok (.aload_n 0, 1) := by decide +kernel
theorem d10_1 : decode prog_14_method_2_code 1 = .ok (.getfield 7, 3) := by decide +kernel
theorem d10_4 : decode prog_14_method_2_code 4 = .ok (.areturn, 1) := by decide +kernel
theorem ef_10 (m : MethodId) (x0 : Addr) : entryFrame m #[(.ref x0)] 1 = mkF m 0 #[.val (.ref x0)] [] := by first | (simp [entryFrame, mkF, argsToLocals, Value.category]; done) | rfl
def Q10 (Z : State) (o0 : Addr) (u : Value) (h0 : Heap) (n0 : Nat) (v : Option Value) (h : Heap) (L : List Loc) : Prop := (v = some u) ∧ (Fr n0 L) ∧ (h = h0)
set_option maxRecDepth 65536 in
set_option maxHeartbeats 40000000 in
theorem rm10 (l : Launch) (Z : State) (a0 : Array Value) (hw : ∀ d ∈ tables_1, d.before a0 Z = true) (ws : List Jvm.Cond) (o0 : Addr) (u : Value) (h0 : Heap) (n0 : Nat) (Z0 : n0 ≤ h0.size) (F__status_o0 : Fld Z h0 o0 "com/example/wunce/wunce/Result" "_status" "Lcom/example/wunce/wunce/Status;" u) (hr_u : u.isRef = true) :
    MetFree l (⟨"com/example/wunce/wunce/Result", "status", "()Lcom/example/wunce/wunce/Status;"⟩ : MethodName) (head1 (Jvm.Cond.code (⟨"com/example/wunce/wunce/Result", "status", "()Lcom/example/wunce/wunce/Status;"⟩ : MethodName) prog_14_method_2_code 1 (some (.object "com/example/wunce/wunce/Status")) :: ws) ({ frames := 0, cells := 0, slots := 0, locals := 0 } : Room)) (fun a U => a = #[(.ref o0)] ∧ Z.Warmed39 U.vm ∧ U.heap = h0) (fun _ _ _ _ _ => True) (fun _ U o U' => ∃ v L, o = .returned v ∧ Q10 Z o0 u h0 n0 v U'.heap L ∧ FrameEnd U o U' L ({ frames := 0, cells := 0, slots := 0, locals := 0 } : Room).cells ({ frames := 0, cells := 0, slots := 0, locals := 0 } : Room).slots) := by
  refine MetFree.of_bodySF (plainFor_of_name pn_1) hisR ?_
  intro p e s m args below meth c s₁ Bd hml0 hP hK
  obtain ⟨rfl, hZ, hh⟩ := hP
  have hx := Bd.exec
  have hby := Bd.bytes
  have hml : c.maxLocals = 1 := hml0
  have hown : s.vm.findClass "com/example/wunce/wunce/Result" = some m.cls := findClass_of_methodNamed Bd.named
  have hnm := (name_of_methodNamed Bd.named Bd.method).1
  have X0 : Stand p l e ({ frames := 0, cells := 0, slots := 0, locals := 0 } : Room) s m #[(.ref o0)] below meth c s₁ [] 0 0 := Stand.of_body Bd
  have e0 : s₁.heap = h0 := by rw [← hh, Bd.state]; rfl
  have N0 := Fr.nil n0
  refine Ends.opn ?_
  intro QQ hQQ
  refine Ends.step (S' := s₁.setTop (mkF m 0 #[.val (.ref o0)] [])) (fun t k => castTop (ef_10 m o0) k) ?_
  show Ends p e below QQ (s₁.setTop (mkF m 0 #[.val (.ref o0)] []))
  refine Ends.step (fun _ k => XS.aloadN X0.here hx rfl (hb hby d10_0) rfl rfl k) ?_
  show Ends p e below QQ (s₁.setTop (mkF m 1 #[.val (.ref o0)] [(.ref o0)]))
  obtain ⟨T30, X30, e30, st30⟩ := getF X0 hx hZ hown (host := "") (Or.inl (hw _ (List.mem_of_getElem? (i := 18) rfl))) Via.refl e0 F__status_o0 (g := (mkF m 1 #[.val (.ref o0)] [(.ref o0)])) rfl rfl (hb hby d10_1)
  refine Ends.step st30 ?_
  show Ends p e below QQ (T30.setTop (mkF m 4 #[.val (.ref o0)] [u]))
  exact Ends.fin (some u) X30 hQQ (fun h => by rw [Bd.returns] at h; cases h) Bd.notSynchronized (fun _ hr => retOut X30 hx (t := (.object "com/example/wunce/wunce/Status")) Bd.returns (own_narref hr_u rfl) (Or.inr (Or.inr (Or.inr (Or.inr ⟨rfl, rfl, hr_u⟩)))) (hb hby d10_4) hr) e30 (by decide) (by decide) ⟨rfl, N0, rfl⟩
theorem d11_0 : decode prog_14_method_3_code 0 = .ok (.aload_n 0, 1) := by decide +kernel
theorem d11_1 : decode prog_14_method_3_code 1 = .ok (.getfield 13, 3) := by decide +kernel
theorem d11_4 : decode prog_14_method_3_code 4 = .ok (.areturn, 1) := by decide +kernel
theorem ef_11 (m : MethodId) (x0 : Addr) : entryFrame m #[(.ref x0)] 1 = mkF m 0 #[.val (.ref x0)] [] := by first | (simp [entryFrame, mkF, argsToLocals, Value.category]; done) | rfl
def Q11 (Z : State) (o0 : Addr) (u : Value) (h0 : Heap) (n0 : Nat) (v : Option Value) (h : Heap) (L : List Loc) : Prop := (v = some u) ∧ (Fr n0 L) ∧ (h = h0)
set_option maxRecDepth 65536 in
set_option maxHeartbeats 40000000 in
theorem rm11 (l : Launch) (Z : State) (a0 : Array Value) (hw : ∀ d ∈ tables_1, d.before a0 Z = true) (ws : List Jvm.Cond) (o0 : Addr) (u : Value) (h0 : Heap) (n0 : Nat) (Z0 : n0 ≤ h0.size) (F__answer_o0 : Fld Z h0 o0 "com/example/wunce/wunce/Result" "_answer" "[B" u) (hr_u : u.isRef = true) :
    MetFree l (⟨"com/example/wunce/wunce/Result", "answer", "()[B"⟩ : MethodName) (head1 (Jvm.Cond.code (⟨"com/example/wunce/wunce/Result", "answer", "()[B"⟩ : MethodName) prog_14_method_3_code 1 (some (.array .byte)) :: ws) ({ frames := 0, cells := 0, slots := 0, locals := 0 } : Room)) (fun a U => a = #[(.ref o0)] ∧ Z.Warmed39 U.vm ∧ U.heap = h0) (fun _ _ _ _ _ => True) (fun _ U o U' => ∃ v L, o = .returned v ∧ Q11 Z o0 u h0 n0 v U'.heap L ∧ FrameEnd U o U' L ({ frames := 0, cells := 0, slots := 0, locals := 0 } : Room).cells ({ frames := 0, cells := 0, slots := 0, locals := 0 } : Room).slots) := by
  refine MetFree.of_bodySF (plainFor_of_name pn_1) hisR ?_
  intro p e s m args below meth c s₁ Bd hml0 hP hK
  obtain ⟨rfl, hZ, hh⟩ := hP
  have hx := Bd.exec
  have hby := Bd.bytes
  have hml : c.maxLocals = 1 := hml0
  have hown : s.vm.findClass "com/example/wunce/wunce/Result" = some m.cls := findClass_of_methodNamed Bd.named
  have hnm := (name_of_methodNamed Bd.named Bd.method).1
  have X0 : Stand p l e ({ frames := 0, cells := 0, slots := 0, locals := 0 } : Room) s m #[(.ref o0)] below meth c s₁ [] 0 0 := Stand.of_body Bd
  have e0 : s₁.heap = h0 := by rw [← hh, Bd.state]; rfl
  have N0 := Fr.nil n0
  refine Ends.opn ?_
  intro QQ hQQ
  refine Ends.step (S' := s₁.setTop (mkF m 0 #[.val (.ref o0)] [])) (fun t k => castTop (ef_11 m o0) k) ?_
  show Ends p e below QQ (s₁.setTop (mkF m 0 #[.val (.ref o0)] []))
  refine Ends.step (fun _ k => XS.aloadN X0.here hx rfl (hb hby d11_0) rfl rfl k) ?_
  show Ends p e below QQ (s₁.setTop (mkF m 1 #[.val (.ref o0)] [(.ref o0)]))
  obtain ⟨T31, X31, e31, st31⟩ := getF X0 hx hZ hown (host := "") (Or.inl (hw _ (List.mem_of_getElem? (i := 20) rfl))) Via.refl e0 F__answer_o0 (g := (mkF m 1 #[.val (.ref o0)] [(.ref o0)])) rfl rfl (hb hby d11_1)
  refine Ends.step st31 ?_
  show Ends p e below QQ (T31.setTop (mkF m 4 #[.val (.ref o0)] [u]))
  exact Ends.fin (some u) X31 hQQ (fun h => by rw [Bd.returns] at h; cases h) Bd.notSynchronized (fun _ hr => retOut X31 hx (t := (.array .byte)) Bd.returns (own_narref hr_u rfl) (Or.inr (Or.inr (Or.inr (Or.inr ⟨rfl, rfl, hr_u⟩)))) (hb hby d11_4) hr) e31 (by decide) (by decide) ⟨rfl, N0, rfl⟩
theorem ef_0 (m : MethodId) (x0 : Int32) (x1 : Int32) (x2 : Int32) (x3 : Int32) : entryFrame m #[(.int x0), (.int x1), (.int x2), (.int x3)] maxLocals = mkF m 0 #[.val (.int x0), .val (.int x1), .val (.int x2), .val (.int x3), .unset, .unset, .unset, .unset, .unset, .unset, .unset] [] := by first | (simp [entryFrame, mkF, argsToLocals, Value.category, maxLocals]; done) | rfl
def f0 (p0 : Int32) (p1 : Int32) (p2 : Int32) (p3 : Int32) : Int32 := (1 : Int32)
def Q0 (Z : State) (p0 : Int32) (p1 : Int32) (p2 : Int32) (p3 : Int32) (s0 : Value) (s1 : Value) (s2 : Value) (s3 : Value) (s4 : Value) (h0 : Heap) (n0 : Nat) (v : Option Value) (h : Heap) (L : List Loc) : Prop := (v = some (.int (f0 p0 p1 p2 p3))) ∧ (Fr n0 L) ∧ (Keep h0 h [])
set_option maxRecDepth 65536 in
set_option maxHeartbeats 40000000 in
theorem rm0 (l : Launch) (Z : State) (a0 : Array Value) (hw : ∀ d ∈ tables_1, d.before a0 Z = true) (ws : List Jvm.Cond) (p0 : Int32) (p1 : Int32) (p2 : Int32) (p3 : Int32) (s0 : Value) (s1 : Value) (s2 : Value) (s3 : Value) (s4 : Value) (h0 : Heap) (n0 : Nat) (Z0 : n0 ≤ h0.size) (S_FIRST : Sta Z h0 "com/example/wunce/wunce/Status" "FIRST" "Lcom/example/wunce/wunce/Status;" s0) (S_REPLAYED : Sta Z h0 "com/example/wunce/wunce/Status" "REPLAYED" "Lcom/example/wunce/wunce/Status;" s1) (S_IN_PROGRESS : Sta Z h0 "com/example/wunce/wunce/Status" "IN_PROGRESS" "Lcom/example/wunce/wunce/Status;" s2) (S_MISMATCH : Sta Z h0 "com/example/wunce/wunce/Status" "MISMATCH" "Lcom/example/wunce/wunce/Status;" s3) (S_SUPERSEDED : Sta Z h0 "com/example/wunce/wunce/Status" "SUPERSEDED" "Lcom/example/wunce/wunce/Status;" s4) (hr_s0 : s0.isRef = true) (hr_s1 : s1.isRef = true) (hr_s2 : s2.isRef = true) (hr_s3 : s3.isRef = true) (hr_s4 : s4.isRef = true) :
    MetFree l x (head1 (Jvm.Cond.code x code maxLocals ret :: ws) room_1) (fun a U => a = #[(.int p0), (.int p1), (.int p2), (.int p3)] ∧ Z.Warmed39 U.vm ∧ U.heap = h0) (fun _ _ _ _ _ => True) (fun _ U o U' => ∃ v L, o = .returned v ∧ Q0 Z p0 p1 p2 p3 s0 s1 s2 s3 s4 h0 n0 v U'.heap L ∧ FrameEnd U o U' L room_1.cells room_1.slots) := by
  refine MetFree.of_bodySF (plainFor_of_name pn_0) hisR ?_
  intro p e s m args below meth c s₁ Bd hml0 hP hK
  obtain ⟨rfl, hZ, hh⟩ := hP
  have hx := Bd.exec
  have hby := Bd.bytes
  have hml : c.maxLocals = 11 := hml0
  have hown : s.vm.findClass "com/example/wunce/wunce/ClaimTurnedAwayPinLaw" = some m.cls := findClass_of_methodNamed Bd.named
  have hnm := (name_of_methodNamed Bd.named Bd.method).1
  have X0 : Stand p l e room_1 s m #[(.int p0), (.int p1), (.int p2), (.int p3)] below meth c s₁ [] 0 0 := Stand.of_body Bd
  have e0 : s₁.heap = h0 := by rw [← hh, Bd.state]; rfl
  have N0 := Fr.nil n0
  refine Ends.opn ?_
  intro QQ hQQ
  refine Ends.step (S' := s₁.setTop (mkF m 0 #[.val (.int p0), .val (.int p1), .val (.int p2), .val (.int p3), .unset, .unset, .unset, .unset, .unset, .unset, .unset] [])) (fun t k => castTop (ef_0 m p0 p1 p2 p3) k) ?_
  show Ends p e below QQ (s₁.setTop (mkF m 0 #[.val (.int p0), .val (.int p1), .val (.int p2), .val (.int p3), .unset, .unset, .unset, .unset, .unset, .unset, .unset] []))
  refine Ends.step (fun _ k => XS.iloadN X0.here hx rfl (hb hby at_0) rfl k) ?_
  show Ends p e below QQ (s₁.setTop (mkF m 1 #[.val (.int p0), .val (.int p1), .val (.int p2), .val (.int p3), .unset, .unset, .unset, .unset, .unset, .unset, .unset] [(.int p0)]))
  obtain ⟨_, _, ⟨T32, L32, k32, n32⟩, -, X32, ⟨Lc32, hQ32, l32, y32, z32⟩, st32⟩ := Jvm.LawKit.callS X0 hx (y := (⟨"com/example/wunce/wunce/ClaimTurnedAwayPinLaw", "statusOf", "(I)Lcom/example/wunce/wunce/Status;"⟩ : MethodName)) hown (mvT hZ (hw _ (List.mem_of_getElem? (i := 0) rfl))) (mvT hZ (hw _ (List.mem_of_getElem? (i := 1) rfl))) (mvT hZ (hw _ (List.mem_of_getElem? (i := 2) rfl))) (mvT hZ (hw _ (List.mem_of_getElem? (i := 3) rfl))) (by decide) (backOf (W := 0) (rm1 l Z a0 hw [] p0 s0 s1 s2 s3 s4 h0 n0 (Nat.le_trans Z0 (Keep.refl h0 []).1) S_FIRST S_REPLAYED S_IN_PROGRESS S_MISMATCH S_SUPERSEDED hr_s0 hr_s1 hr_s2 hr_s3 hr_s4) hZ (hw _ (List.mem_of_getElem? (i := 3) rfl)) (hw _ (List.mem_of_getElem? (i := 2) rfl)) (by decide) (by decide)) (g := (mkF m 1 #[.val (.int p0), .val (.int p1), .val (.int p2), .val (.int p3), .unset, .unset, .unset, .unset, .unset, .unset, .unset] [(.int p0)])) rfl (by rw [hml]; rfl) (argsL := [(.int p0)]) (rest := []) (lenOf pd_3 rfl) rfl (by show 2 * 0 + _ ≤ _; exact Nat.le_of_eq rfl) (hb hby at_1) (fun _ _ => ⟨rfl, e0, (by decide : 0 + 0 ≤ _), (by decide : 0 + 0 ≤ _)⟩)
  dsimp only [Pt.U, Pt.locs, Pt.cells, Pt.slots] at X32 l32 y32 z32 st32 hQ32
  subst l32 y32 z32
  obtain ⟨rv_32, rfl, Nq32, hh32, fq32_0⟩ := hQ32
  have N32 := Fr.app N0 Nq32
  have hr_rv_32 := fq32_0
  refine Ends.step st32 ?_
  show Ends p e below QQ (T32.setTop (mkF m 4 #[.val (.int p0), .val (.int p1), .val (.int p2), .val (.int p3), .unset, .unset, .unset, .unset, .unset, .unset, .unset] [rv_32]))
  refine Ends.step (S' := T32.setTop (mkF m 6 #[.val (.int p0), .val (.int p1), .val (.int p2), .val (.int p3), .val rv_32, .unset, .unset, .unset, .unset, .unset, .unset] [])) (fun _ k => XS.astore X32.here hx rfl (hb hby at_4) rfl hr_rv_32 (l' := #[.val (.int p0), .val (.int p1), .val (.int p2), .val (.int p3), .val rv_32, .unset, .unset, .unset, .unset, .unset, .unset]) (XS.store1 rfl (Or.inl rfl) (XT.cat1 hr_rv_32)) k) ?_
  show Ends p e below QQ (T32.setTop (mkF m 6 #[.val (.int p0), .val (.int p1), .val (.int p2), .val (.int p3), .val rv_32, .unset, .unset, .unset, .unset, .unset, .unset] []))
  refine Ends.step (fun _ k => XT.iconstV X32.here hx rfl (2 : Int32) (hb hby at_6) rfl k) ?_
  show Ends p e below QQ (T32.setTop (mkF m 7 #[.val (.int p0), .val (.int p1), .val (.int p2), .val (.int p3), .val rv_32, .unset, .unset, .unset, .unset, .unset, .unset] [(.int (2 : Int32))]))
  obtain ⟨T33, h33, k33, X33, e33, E33, A33, st33⟩ := newP X32 hx hZ (hw _ (List.mem_of_getElem? (i := 8) rfl)) hh32 (g := (mkF m 7 #[.val (.int p0), .val (.int p1), .val (.int p2), .val (.int p3), .val rv_32, .unset, .unset, .unset, .unset, .unset, .unset] [(.int (2 : Int32))])) rfl (hb hby at_7) rfl (by decide) (cap := 2) (by decide) (by decide) (by decide) (by decide)
  obtain ⟨b33, g33⟩ : ∃ z, z = h0.size := ⟨_, rfl⟩
  rw [← g33] at A33 st33
  have g_b33 : n0 ≤ b33 := Nat.le_trans Z0 (Nat.le_trans (Keep.refl h0 []).1 (Nat.le_of_eq g33.symm))
  have sz_b33 : h0.size ≤ b33 := Nat.le_trans (Keep.refl h0 []).1 (Nat.le_of_eq g33.symm)
  have S_FIRST := S_FIRST.ext E33
  have S_REPLAYED := S_REPLAYED.ext E33
  have S_IN_PROGRESS := S_IN_PROGRESS.ext E33
  have S_MISMATCH := S_MISMATCH.ext E33
  have S_SUPERSEDED := S_SUPERSEDED.ext E33
  have K33 := (Keep.refl h0 []).ext E33
  have A_b33 : Arv Z h33 b33 k33 .byte (2 : Int32) [(.int (0 : Int32)), (.int (0 : Int32))] (.int (0 : Int32)) := (Arv.new A33 (by decide)).pad (pad_rep [] (.int (0 : Int32)) 2)
  refine Ends.step st33 ?_
  show Ends p e below QQ (T33.setTop (mkF m 9 #[.val (.int p0), .val (.int p1), .val (.int p2), .val (.int p3), .val rv_32, .unset, .unset, .unset, .unset, .unset, .unset] [(.ref b33)]))
  refine Ends.step (fun _ k => XS.astore X33.here hx rfl (hb hby at_9) rfl rfl (l' := #[.val (.int p0), .val (.int p1), .val (.int p2), .val (.int p3), .val rv_32, .val (.ref b33), .unset, .unset, .unset, .unset, .unset]) rfl k) ?_
  show Ends p e below QQ (T33.setTop (mkF m 11 #[.val (.int p0), .val (.int p1), .val (.int p2), .val (.int p3), .val rv_32, .val (.ref b33), .unset, .unset, .unset, .unset, .unset] []))
  refine Ends.step (fun _ k => XS.aload X33.here hx rfl (hb hby at_11) rfl rfl k) ?_
  show Ends p e below QQ (T33.setTop (mkF m 13 #[.val (.int p0), .val (.int p1), .val (.int p2), .val (.int p3), .val rv_32, .val (.ref b33), .unset, .unset, .unset, .unset, .unset] [(.ref b33)]))
  refine Ends.step (fun _ k => XT.iconstV X33.here hx rfl (0 : Int32) (hb hby at_13) rfl k) ?_
  show Ends p e below QQ (T33.setTop (mkF m 14 #[.val (.int p0), .val (.int p1), .val (.int p2), .val (.int p3), .val rv_32, .val (.ref b33), .unset, .unset, .unset, .unset, .unset] [(.int (0 : Int32)), (.ref b33)]))
  refine Ends.step (fun _ k => XS.iloadN X33.here hx rfl (hb hby at_14) rfl k) ?_
  show Ends p e below QQ (T33.setTop (mkF m 15 #[.val (.int p0), .val (.int p1), .val (.int p2), .val (.int p3), .val rv_32, .val (.ref b33), .unset, .unset, .unset, .unset, .unset] [(.int p2), (.int (0 : Int32)), (.ref b33)]))
  refine Ends.step (fun _ k => XT.i2b X33.here hx rfl (hb hby at_15) rfl k) ?_
  show Ends p e below QQ (T33.setTop (mkF m 16 #[.val (.int p0), .val (.int p1), .val (.int p2), .val (.int p3), .val rv_32, .val (.ref b33), .unset, .unset, .unset, .unset, .unset] [(.int p2.toInt8.toInt32), (.int (0 : Int32)), (.ref b33)]))
  obtain ⟨cl34, Ar34, q34, S34, P34, H34, G34⟩ := id A_b33
  have hin34 : ¬ ((0 : Int32) < 0 ∨ cl34.slots.size ≤ ((0 : Int32)).toNatClampNeg) := inb_of S34 ⟨by decide, by decide⟩
  obtain ⟨T35, h35, X35, e35, W35, st35⟩ := stB X33 hx hZ e33 Ar34 (j := (0 : Int32)) hin34 (g := (mkF m 16 #[.val (.int p0), .val (.int p1), .val (.int p2), .val (.int p3), .val rv_32, .val (.ref b33), .unset, .unset, .unset, .unset, .unset] [(.int p2.toInt8.toInt32), (.int (0 : Int32)), (.ref b33)])) rfl rfl (hb hby at_16)
  rw [own_narb] at W35
  have S_FIRST := S_FIRST.wr W35
  have S_REPLAYED := S_REPLAYED.wr W35
  have S_IN_PROGRESS := S_IN_PROGRESS.wr W35
  have S_MISMATCH := S_MISMATCH.wr W35
  have S_SUPERSEDED := S_SUPERSEDED.wr W35
  have A_b33 : Arv Z h35 b33 k33 .byte (2 : Int32) [(.int p2.toInt8.toInt32), (.int (0 : Int32))] (.int (0 : Int32)) := Arv.set Ar34 q34 S34 P34 H34 G34 (fits_nar_byte _) W35 0 rfl (Nat.le_of_ble_eq_true rfl)
  have K35 := K33.wr W35 (Or.inr sz_b33)
  have N35 := Fr.snoc X35 N32 g_b33
  refine Ends.step st35 ?_
  show Ends p e below QQ (T35.setTop (mkF m 17 #[.val (.int p0), .val (.int p1), .val (.int p2), .val (.int p3), .val rv_32, .val (.ref b33), .unset, .unset, .unset, .unset, .unset] []))
  refine Ends.step (fun _ k => XS.aload X35.here hx rfl (hb hby at_17) rfl rfl k) ?_
  show Ends p e below QQ (T35.setTop (mkF m 19 #[.val (.int p0), .val (.int p1), .val (.int p2), .val (.int p3), .val rv_32, .val (.ref b33), .unset, .unset, .unset, .unset, .unset] [(.ref b33)]))
  refine Ends.step (fun _ k => XT.iconstV X35.here hx rfl (1 : Int32) (hb hby at_19) rfl k) ?_
  show Ends p e below QQ (T35.setTop (mkF m 20 #[.val (.int p0), .val (.int p1), .val (.int p2), .val (.int p3), .val rv_32, .val (.ref b33), .unset, .unset, .unset, .unset, .unset] [(.int (1 : Int32)), (.ref b33)]))
  refine Ends.step (fun _ k => XS.iloadN X35.here hx rfl (hb hby at_20) rfl k) ?_
  show Ends p e below QQ (T35.setTop (mkF m 21 #[.val (.int p0), .val (.int p1), .val (.int p2), .val (.int p3), .val rv_32, .val (.ref b33), .unset, .unset, .unset, .unset, .unset] [(.int p3), (.int (1 : Int32)), (.ref b33)]))
  refine Ends.step (fun _ k => XT.i2b X35.here hx rfl (hb hby at_21) rfl k) ?_
  show Ends p e below QQ (T35.setTop (mkF m 22 #[.val (.int p0), .val (.int p1), .val (.int p2), .val (.int p3), .val rv_32, .val (.ref b33), .unset, .unset, .unset, .unset, .unset] [(.int p3.toInt8.toInt32), (.int (1 : Int32)), (.ref b33)]))
  obtain ⟨cl36, Ar36, q36, S36, P36, H36, G36⟩ := id A_b33
  have hin36 : ¬ ((1 : Int32) < 0 ∨ cl36.slots.size ≤ ((1 : Int32)).toNatClampNeg) := inb_of S36 ⟨by decide, by decide⟩
  obtain ⟨T37, h37, X37, e37, W37, st37⟩ := stB X35 hx hZ e35 Ar36 (j := (1 : Int32)) hin36 (g := (mkF m 22 #[.val (.int p0), .val (.int p1), .val (.int p2), .val (.int p3), .val rv_32, .val (.ref b33), .unset, .unset, .unset, .unset, .unset] [(.int p3.toInt8.toInt32), (.int (1 : Int32)), (.ref b33)])) rfl rfl (hb hby at_22)
  rw [own_narb] at W37
  have S_FIRST := S_FIRST.wr W37
  have S_REPLAYED := S_REPLAYED.wr W37
  have S_IN_PROGRESS := S_IN_PROGRESS.wr W37
  have S_MISMATCH := S_MISMATCH.wr W37
  have S_SUPERSEDED := S_SUPERSEDED.wr W37
  have A_b33 : Arv Z h37 b33 k33 .byte (2 : Int32) [(.int p2.toInt8.toInt32), (.int p3.toInt8.toInt32)] (.int (0 : Int32)) := Arv.set Ar36 q36 S36 P36 H36 G36 (fits_nar_byte _) W37 1 rfl (Nat.le_of_ble_eq_true rfl)
  have K37 := K35.wr W37 (Or.inr sz_b33)
  have N37 := Fr.snoc X37 N35 g_b33
  refine Ends.step st37 ?_
  show Ends p e below QQ (T37.setTop (mkF m 23 #[.val (.int p0), .val (.int p1), .val (.int p2), .val (.int p3), .val rv_32, .val (.ref b33), .unset, .unset, .unset, .unset, .unset] []))
  refine Ends.step (fun _ k => XS.iloadN X37.here hx rfl (hb hby at_23) rfl k) ?_
  show Ends p e below QQ (T37.setTop (mkF m 24 #[.val (.int p0), .val (.int p1), .val (.int p2), .val (.int p3), .val rv_32, .val (.ref b33), .unset, .unset, .unset, .unset, .unset] [(.int p1)]))
  refine Ends.step (fun _ k => XT.iconstV X37.here hx rfl (1 : Int32) (hb hby at_24) rfl k) ?_
  show Ends p e below QQ (T37.setTop (mkF m 25 #[.val (.int p0), .val (.int p1), .val (.int p2), .val (.int p3), .val rv_32, .val (.ref b33), .unset, .unset, .unset, .unset, .unset] [(.int (1 : Int32)), (.int p1)]))
  refine Ends.step (fun _ k => XS.iand X37.here hx rfl (hb hby at_25) rfl k) ?_
  show Ends p e below QQ (T37.setTop (mkF m 26 #[.val (.int p0), .val (.int p1), .val (.int p2), .val (.int p3), .val rv_32, .val (.ref b33), .unset, .unset, .unset, .unset, .unset] [(.int (p1 &&& (1 : Int32)))]))
  have J35_38 : (∀ (v35_1 : Value) (hv35_1 : v35_1 = (if (p1 &&& (1 : Int32)) = (0 : Int32) then ((.ref b33) : Value) else (.null : Value))) (hr_v35_1 : v35_1.isRef = true), Ends p e below QQ (T37.setTop (mkF m 35 #[.val (.int p0), .val (.int p1), .val (.int p2), .val (.int p3), .val rv_32, .val (.ref b33), .unset, .unset, .unset, .unset, .unset] [v35_1]))) → Ends p e below QQ (T37.setTop (mkF m 26 #[.val (.int p0), .val (.int p1), .val (.int p2), .val (.int p3), .val rv_32, .val (.ref b33), .unset, .unset, .unset, .unset, .unset] [(.int (p1 &&& (1 : Int32)))])) := by
    intro hJ
    by_cases hc26_39 : (p1 &&& (1 : Int32)) = (0 : Int32)
    · refine Ends.step (fun _ k => XS.ifYes X37.here hx rfl (pc0 := 26) (pc' := 33) rfl (hb hby at_26) rfl (XT.i0_eq_t hc26_39) (by decide) (by decide) k) ?_
      show Ends p e below QQ (T37.setTop (mkF m 33 #[.val (.int p0), .val (.int p1), .val (.int p2), .val (.int p3), .val rv_32, .val (.ref b33), .unset, .unset, .unset, .unset, .unset] []))
      refine Ends.step (fun _ k => XS.aload X37.here hx rfl (hb hby at_33) rfl rfl k) ?_
      exact hJ _ (by simp only [if_pos hc26_39]) (by rfl)
    · refine Ends.step (fun _ k => XS.ifNo X37.here hx rfl (hb hby at_26) rfl (XT.i0_eq_f hc26_39) k) ?_
      show Ends p e below QQ (T37.setTop (mkF m 29 #[.val (.int p0), .val (.int p1), .val (.int p2), .val (.int p3), .val rv_32, .val (.ref b33), .unset, .unset, .unset, .unset, .unset] []))
      refine Ends.step (fun _ k => XS.aconstNull X37.here hx rfl (hb hby at_29) k) ?_
      show Ends p e below QQ (T37.setTop (mkF m 30 #[.val (.int p0), .val (.int p1), .val (.int p2), .val (.int p3), .val rv_32, .val (.ref b33), .unset, .unset, .unset, .unset, .unset] [.null]))
      refine Ends.step (fun _ k => XS.goto X37.here hx rfl (pc0 := 30) (pc' := 35) rfl (hb hby at_30) (by decide) (by decide) k) ?_
      exact hJ _ (by simp only [if_neg hc26_39]) (by rfl)
  refine J35_38 fun v35_1 hv35_1 hr_v35_1 => ?_
  show Ends p e below QQ (T37.setTop (mkF m 35 #[.val (.int p0), .val (.int p1), .val (.int p2), .val (.int p3), .val rv_32, .val (.ref b33), .unset, .unset, .unset, .unset, .unset] [v35_1]))
  refine Ends.step (S' := T37.setTop (mkF m 37 #[.val (.int p0), .val (.int p1), .val (.int p2), .val (.int p3), .val rv_32, .val (.ref b33), .val v35_1, .unset, .unset, .unset, .unset] [])) (fun _ k => XS.astore X37.here hx rfl (hb hby at_35) rfl hr_v35_1 (l' := #[.val (.int p0), .val (.int p1), .val (.int p2), .val (.int p3), .val rv_32, .val (.ref b33), .val v35_1, .unset, .unset, .unset, .unset]) (XS.store1 rfl (Or.inl rfl) (XT.cat1 hr_v35_1)) k) ?_
  show Ends p e below QQ (T37.setTop (mkF m 37 #[.val (.int p0), .val (.int p1), .val (.int p2), .val (.int p3), .val rv_32, .val (.ref b33), .val v35_1, .unset, .unset, .unset, .unset] []))
  obtain ⟨T40, h40, X40, e40, E40, A40, D40, U40, st40⟩ := newO X37 hx hZ hown (hw _ (List.mem_of_getElem? (i := 9) rfl)) (hw _ (List.mem_of_getElem? (i := 10) rfl)) (hw _ (List.mem_of_getElem? (i := 11) rfl)) e37 (g := (mkF m 37 #[.val (.int p0), .val (.int p1), .val (.int p2), .val (.int p3), .val rv_32, .val (.ref b33), .val v35_1, .unset, .unset, .unset, .unset] [])) rfl (hb hby at_37) (by decide) (by decide)
  obtain ⟨b40, g40⟩ : ∃ z, z = h37.size := ⟨_, rfl⟩
  rw [← g40] at A40 D40 U40 st40
  have ne_b33_b40 : b33 ≠ b40 := Nat.ne_of_lt (Nat.lt_of_lt_of_le A_b33.lt (Nat.le_of_eq g40.symm))
  have g_b40 : n0 ≤ b40 := Nat.le_trans Z0 (Nat.le_trans K37.1 (Nat.le_of_eq g40.symm))
  have sz_b40 : h0.size ≤ b40 := Nat.le_trans K37.1 (Nat.le_of_eq g40.symm)
  have S_FIRST := S_FIRST.ext E40
  have S_REPLAYED := S_REPLAYED.ext E40
  have S_IN_PROGRESS := S_IN_PROGRESS.ext E40
  have S_MISMATCH := S_MISMATCH.ext E40
  have S_SUPERSEDED := S_SUPERSEDED.ext E40
  have A_b33 := A_b33.ext E40
  have K40 := K37.ext E40
  have E_b40 := A40
  have F__status_b40 : Fld Z h40 b40 "com/example/wunce/wunce/Result" "_status" "Lcom/example/wunce/wunce/Status;" .null := D40 (Or.inr (hw _ (List.mem_of_getElem? (i := 19) rfl))) (ty := (.object "com/example/wunce/wunce/Status")) (by decide)
  have F__answer_b40 : Fld Z h40 b40 "com/example/wunce/wunce/Result" "_answer" "[B" .null := D40 (Or.inr (hw _ (List.mem_of_getElem? (i := 21) rfl))) (ty := (.array .byte)) (by decide)
  refine Ends.step st40 ?_
  show Ends p e below QQ (T40.setTop (mkF m 40 #[.val (.int p0), .val (.int p1), .val (.int p2), .val (.int p3), .val rv_32, .val (.ref b33), .val v35_1, .unset, .unset, .unset, .unset] [(.ref b40)]))
  refine Ends.step (fun _ k => XS.dup X40.here hx rfl (hb hby at_40) rfl rfl k) ?_
  show Ends p e below QQ (T40.setTop (mkF m 41 #[.val (.int p0), .val (.int p1), .val (.int p2), .val (.int p3), .val rv_32, .val (.ref b33), .val v35_1, .unset, .unset, .unset, .unset] [(.ref b40), (.ref b40)]))
  refine Ends.step (fun _ k => XS.aload X40.here hx rfl (hb hby at_41) rfl hr_rv_32 k) ?_
  show Ends p e below QQ (T40.setTop (mkF m 43 #[.val (.int p0), .val (.int p1), .val (.int p2), .val (.int p3), .val rv_32, .val (.ref b33), .val v35_1, .unset, .unset, .unset, .unset] [rv_32, (.ref b40), (.ref b40)]))
  refine Ends.step (fun _ k => XS.aload X40.here hx rfl (hb hby at_43) rfl hr_v35_1 k) ?_
  show Ends p e below QQ (T40.setTop (mkF m 45 #[.val (.int p0), .val (.int p1), .val (.int p2), .val (.int p3), .val rv_32, .val (.ref b33), .val v35_1, .unset, .unset, .unset, .unset] [v35_1, rv_32, (.ref b40), (.ref b40)]))
  obtain ⟨_, _, ⟨T41, L41, k41, n41⟩, -, X41, ⟨Lc41, hQ41, l41, y41, z41⟩, st41⟩ := X40.specialBack hx (y := (⟨"com/example/wunce/wunce/Result", "<init>", "(Lcom/example/wunce/wunce/Status;[B)V"⟩ : MethodName)) rfl hown (mvT hZ (hw _ (List.mem_of_getElem? (i := 12) rfl))) (mvT hZ (hw _ (List.mem_of_getElem? (i := 13) rfl))) (mvT hZ (hw _ (List.mem_of_getElem? (i := 14) rfl))) (by decide) (backOf (W := 1) (rm2 l Z a0 hw [] b40 rv_32 v35_1 (.null : Value) (.null : Value) h40 n0 (Nat.le_trans Z0 K40.1) hr_rv_32 hr_v35_1 E_b40 F__status_b40 F__answer_b40 g_b40) hZ (hw _ (List.mem_of_getElem? (i := 14) rfl)) (hw _ (List.mem_of_getElem? (i := 11) rfl)) (by decide) (by decide)) (g := (mkF m 45 #[.val (.int p0), .val (.int p1), .val (.int p2), .val (.int p3), .val rv_32, .val (.ref b33), .val v35_1, .unset, .unset, .unset, .unset] [v35_1, rv_32, (.ref b40), (.ref b40)])) rfl (by rw [hml]; rfl) (Steps.refl _) (a := b40) (argsL := [rv_32, v35_1]) (rest := [(.ref b40)]) (lenOf pd_4 rfl) rfl (by show 2 * 0 + _ ≤ _; exact Nat.le_of_eq rfl) (hb hby at_45) (fun _ _ => ⟨rfl, e40, (by decide : 2 + 0 ≤ _), (by decide : 4 + 0 ≤ _)⟩)
  dsimp only [Pt.U, Pt.locs, Pt.cells, Pt.slots] at X41 l41 y41 z41 st41 hQ41
  subst l41 y41 z41
  obtain ⟨rfl, Nq41, Kq41, fq41_0, fq41_1, fq41_2⟩ := hQ41
  have N41 := Fr.app N37 Nq41
  have S_FIRST := own_sta_keep S_FIRST Kq41 (allS E_b40.cell all0)
  have S_REPLAYED := own_sta_keep S_REPLAYED Kq41 (allS E_b40.cell all0)
  have S_IN_PROGRESS := own_sta_keep S_IN_PROGRESS Kq41 (allS E_b40.cell all0)
  have S_MISMATCH := own_sta_keep S_MISMATCH Kq41 (allS E_b40.cell all0)
  have S_SUPERSEDED := own_sta_keep S_SUPERSEDED Kq41 (allS E_b40.cell all0)
  have A_b33 := A_b33.keep Kq41 (ninS ne_b33_b40 nin0)
  have E_b40 := fq41_0
  have F__status_b40 := fq41_1
  have F__answer_b40 := fq41_2
  have K41 := K40.trans Kq41 (allS (Or.inr sz_b40) all0)
  refine Ends.step (fun _ k => st41.trans k) ?_
  show Ends p e below QQ (T41.setTop (mkF m 48 #[.val (.int p0), .val (.int p1), .val (.int p2), .val (.int p3), .val rv_32, .val (.ref b33), .val v35_1, .unset, .unset, .unset, .unset] [(.ref b40)]))
  refine Ends.step (fun _ k => XS.astore X41.here hx rfl (hb hby at_48) rfl rfl (l' := #[.val (.int p0), .val (.int p1), .val (.int p2), .val (.int p3), .val rv_32, .val (.ref b33), .val v35_1, .val (.ref b40), .unset, .unset, .unset]) rfl k) ?_
  show Ends p e below QQ (T41.setTop (mkF m 50 #[.val (.int p0), .val (.int p1), .val (.int p2), .val (.int p3), .val rv_32, .val (.ref b33), .val v35_1, .val (.ref b40), .unset, .unset, .unset] []))
  refine Ends.step (fun _ k => XS.aload X41.here hx rfl (hb hby at_50) rfl rfl k) ?_
  show Ends p e below QQ (T41.setTop (mkF m 52 #[.val (.int p0), .val (.int p1), .val (.int p2), .val (.int p3), .val rv_32, .val (.ref b33), .val v35_1, .val (.ref b40), .unset, .unset, .unset] [(.ref b40)]))
  obtain ⟨_, _, ⟨T42, L42, k42, n42⟩, -, X42, ⟨Lc42, hQ42, l42, y42, z42⟩, st42⟩ := Jvm.LawKit.callS X41 hx (y := (⟨"com/example/wunce/wunce/Claim", "turnedAway", "(Lcom/example/wunce/wunce/Result;)Lcom/example/wunce/wunce/Claim;"⟩ : MethodName)) hown (mvT hZ (hw _ (List.mem_of_getElem? (i := 22) rfl))) (mvT hZ (hw _ (List.mem_of_getElem? (i := 23) rfl))) (mvT hZ (hw _ (List.mem_of_getElem? (i := 24) rfl))) (mvT hZ (hw _ (List.mem_of_getElem? (i := 25) rfl))) (by decide) (backOf (W := 0) (rm4 l Z a0 hw [] b40 T41.heap n0 (Nat.le_trans Z0 K41.1)) hZ (hw _ (List.mem_of_getElem? (i := 25) rfl)) (hw _ (List.mem_of_getElem? (i := 24) rfl)) (by decide) (by decide)) (g := (mkF m 52 #[.val (.int p0), .val (.int p1), .val (.int p2), .val (.int p3), .val rv_32, .val (.ref b33), .val v35_1, .val (.ref b40), .unset, .unset, .unset] [(.ref b40)])) rfl (by rw [hml]; rfl) (argsL := [(.ref b40)]) (rest := []) (lenOf pd_5 rfl) rfl (by show 2 * 0 + _ ≤ _; exact Nat.le_of_eq rfl) (hb hby at_52) (fun _ _ => ⟨rfl, rfl, (by decide : 2 + 2 ≤ _), (by decide : 4 + 7 ≤ _)⟩)
  dsimp only [Pt.U, Pt.locs, Pt.cells, Pt.slots] at X42 l42 y42 z42 st42 hQ42
  subst l42 y42 z42
  obtain ⟨b_42, rfl, Nq42, Kq42, fq42_0, fq42_1, fq42_2, fq42_3, fq42_4⟩ := hQ42
  have N42 := Fr.app N41 Nq42
  have ne_b33_b_42 : b33 ≠ b_42 := Nat.ne_of_lt (Nat.lt_of_lt_of_le A_b33.lt fq42_0)
  have ne_b40_b_42 : b40 ≠ b_42 := Nat.ne_of_lt (Nat.lt_of_lt_of_le E_b40.lt fq42_0)
  have sz_b_42 := Nat.le_trans K41.1 fq42_0
  have S_FIRST := own_sta_keep S_FIRST Kq42 all0
  have S_REPLAYED := own_sta_keep S_REPLAYED Kq42 all0
  have S_IN_PROGRESS := own_sta_keep S_IN_PROGRESS Kq42 all0
  have S_MISMATCH := own_sta_keep S_MISMATCH Kq42 all0
  have S_SUPERSEDED := own_sta_keep S_SUPERSEDED Kq42 all0
  have A_b33 := A_b33.keep Kq42 nin0
  have E_b40 := E_b40.keep Kq42
  have F__status_b40 := F__status_b40.keep Kq42 nin0
  have F__answer_b40 := F__answer_b40.keep Kq42 nin0
  have g_b_42 := fq42_1
  have E_b_42 := fq42_2
  have F__owner_b_42 := fq42_3
  have F__result_b_42 := fq42_4
  have K42 := K41.trans Kq42 all0
  refine Ends.step st42 ?_
  show Ends p e below QQ (T42.setTop (mkF m 55 #[.val (.int p0), .val (.int p1), .val (.int p2), .val (.int p3), .val rv_32, .val (.ref b33), .val v35_1, .val (.ref b40), .unset, .unset, .unset] [(.ref b_42)]))
  refine Ends.step (fun _ k => XS.astore X42.here hx rfl (hb hby at_55) rfl rfl (l' := #[.val (.int p0), .val (.int p1), .val (.int p2), .val (.int p3), .val rv_32, .val (.ref b33), .val v35_1, .val (.ref b40), .val (.ref b_42), .unset, .unset]) rfl k) ?_
  show Ends p e below QQ (T42.setTop (mkF m 57 #[.val (.int p0), .val (.int p1), .val (.int p2), .val (.int p3), .val rv_32, .val (.ref b33), .val v35_1, .val (.ref b40), .val (.ref b_42), .unset, .unset] []))
  refine Ends.step (fun _ k => XS.aload X42.here hx rfl (hb hby at_57) rfl rfl k) ?_
  show Ends p e below QQ (T42.setTop (mkF m 59 #[.val (.int p0), .val (.int p1), .val (.int p2), .val (.int p3), .val rv_32, .val (.ref b33), .val v35_1, .val (.ref b40), .val (.ref b_42), .unset, .unset] [(.ref b_42)]))
  obtain ⟨cq43, kq43, q43a, q43b, q43c⟩ := isOf hZ rfl E_b_42
  obtain ⟨_, _, ⟨T43, L43, k43, n43⟩, -, X43, ⟨Lc43, hQ43, l43, y43, z43⟩, st43⟩ := X42.virtualBack hx (y := (⟨"com/example/wunce/wunce/Claim", "isHeld", "()Z"⟩ : MethodName)) (z := (⟨"com/example/wunce/wunce/Claim", "isHeld", "()Z"⟩ : MethodName)) hown (mvT hZ (hw _ (List.mem_of_getElem? (i := 53) rfl))) (mvT hZ (hw _ (List.mem_of_getElem? (i := 54) rfl))) (notFace_of_selects (args := #[]) (mvT hZ (hw _ (List.mem_of_getElem? (i := 56) rfl)))) (mvT hZ (hw _ (List.mem_of_getElem? (i := 56) rfl))) (mvT hZ (hw _ (List.mem_of_getElem? (i := 55) rfl))) (by decide) (backOf (W := 0) (rm7 l Z a0 hw [] b_42 T42.heap n0 (Nat.le_trans Z0 K42.1) F__owner_b_42) hZ (hw _ (List.mem_of_getElem? (i := 57) rfl)) (hw _ (List.mem_of_getElem? (i := 24) rfl)) (by decide) (by decide)) q43a q43c (g := (mkF m 59 #[.val (.int p0), .val (.int p1), .val (.int p2), .val (.int p3), .val rv_32, .val (.ref b33), .val v35_1, .val (.ref b40), .val (.ref b_42), .unset, .unset] [(.ref b_42)])) rfl (by rw [hml]; rfl) (Steps.refl _) (argsL := []) (rest := []) (lenOf pd_2 rfl) rfl (by show 2 * 0 + _ ≤ _; exact Nat.le_of_eq rfl) (hb hby at_59) (fun _ _ => ⟨rfl, rfl, (by decide : 4 + 0 ≤ _), (by decide : 11 + 0 ≤ _)⟩)
  dsimp only [Pt.U, Pt.locs, Pt.cells, Pt.slots] at X43 l43 y43 z43 st43 hQ43
  subst l43 y43 z43
  obtain ⟨rfl, Nq43, hh43⟩ := hQ43
  have N43 := Fr.app N42 Nq43
  refine Ends.step (fun _ k => st43.trans k) ?_
  show Ends p e below QQ (T43.setTop (mkF m 62 #[.val (.int p0), .val (.int p1), .val (.int p2), .val (.int p3), .val rv_32, .val (.ref b33), .val v35_1, .val (.ref b40), .val (.ref b_42), .unset, .unset] [(.int (0 : Int32))]))
  refine Ends.step (fun _ k => XS.ifYes X43.here hx rfl (pc0 := 62) (pc' := 67) rfl (hb hby at_62) rfl (XT.i0_eq_t (by decide)) (by decide) (by decide) k) ?_
  show Ends p e below QQ (T43.setTop (mkF m 67 #[.val (.int p0), .val (.int p1), .val (.int p2), .val (.int p3), .val rv_32, .val (.ref b33), .val v35_1, .val (.ref b40), .val (.ref b_42), .unset, .unset] []))
  refine Ends.step (fun _ k => XS.aload X43.here hx rfl (hb hby at_67) rfl rfl k) ?_
  show Ends p e below QQ (T43.setTop (mkF m 69 #[.val (.int p0), .val (.int p1), .val (.int p2), .val (.int p3), .val rv_32, .val (.ref b33), .val v35_1, .val (.ref b40), .val (.ref b_42), .unset, .unset] [(.ref b_42)]))
  obtain ⟨cq44, kq44, q44a, q44b, q44c⟩ := isOf hZ hh43 E_b_42
  obtain ⟨_, _, ⟨T44, L44, k44, n44⟩, -, X44, ⟨Lc44, hQ44, l44, y44, z44⟩, st44⟩ := X43.virtualBack hx (y := (⟨"com/example/wunce/wunce/Claim", "result", "()Lcom/example/wunce/wunce/Result;"⟩ : MethodName)) (z := (⟨"com/example/wunce/wunce/Claim", "result", "()Lcom/example/wunce/wunce/Result;"⟩ : MethodName)) hown (mvT hZ (hw _ (List.mem_of_getElem? (i := 58) rfl))) (mvT hZ (hw _ (List.mem_of_getElem? (i := 59) rfl))) (notFace_of_selects (args := #[]) (mvT hZ (hw _ (List.mem_of_getElem? (i := 61) rfl)))) (mvT hZ (hw _ (List.mem_of_getElem? (i := 61) rfl))) (mvT hZ (hw _ (List.mem_of_getElem? (i := 60) rfl))) (by decide) (backOf (W := 0) (rm8 l Z a0 hw [] b_42 b40 T42.heap n0 (Nat.le_trans Z0 K42.1) E_b_42 F__owner_b_42 F__result_b_42) hZ (hw _ (List.mem_of_getElem? (i := 62) rfl)) (hw _ (List.mem_of_getElem? (i := 24) rfl)) (by decide) (by decide)) q44a q44c (g := (mkF m 69 #[.val (.int p0), .val (.int p1), .val (.int p2), .val (.int p3), .val rv_32, .val (.ref b33), .val v35_1, .val (.ref b40), .val (.ref b_42), .unset, .unset] [(.ref b_42)])) rfl (by rw [hml]; rfl) (Steps.refl _) (argsL := []) (rest := []) (lenOf pd_6 rfl) rfl (by show 2 * 0 + _ ≤ _; exact Nat.le_of_eq rfl) (hb hby at_69) (fun _ _ => ⟨rfl, hh43, (by decide : 4 + 0 ≤ _), (by decide : 11 + 0 ≤ _)⟩)
  dsimp only [Pt.U, Pt.locs, Pt.cells, Pt.slots] at X44 l44 y44 z44 st44 hQ44
  subst l44 y44 z44
  obtain ⟨rfl, Nq44, hh44⟩ := hQ44
  have N44 := Fr.app N43 Nq44
  refine Ends.step (fun _ k => st44.trans k) ?_
  show Ends p e below QQ (T44.setTop (mkF m 72 #[.val (.int p0), .val (.int p1), .val (.int p2), .val (.int p3), .val rv_32, .val (.ref b33), .val v35_1, .val (.ref b40), .val (.ref b_42), .unset, .unset] [(.ref b40)]))
  refine Ends.step (fun _ k => XS.astore X44.here hx rfl (hb hby at_72) rfl rfl (l' := #[.val (.int p0), .val (.int p1), .val (.int p2), .val (.int p3), .val rv_32, .val (.ref b33), .val v35_1, .val (.ref b40), .val (.ref b_42), .val (.ref b40), .unset]) rfl k) ?_
  show Ends p e below QQ (T44.setTop (mkF m 74 #[.val (.int p0), .val (.int p1), .val (.int p2), .val (.int p3), .val rv_32, .val (.ref b33), .val v35_1, .val (.ref b40), .val (.ref b_42), .val (.ref b40), .unset] []))
  refine Ends.step (fun _ k => XS.aload X44.here hx rfl (hb hby at_74) rfl rfl k) ?_
  show Ends p e below QQ (T44.setTop (mkF m 76 #[.val (.int p0), .val (.int p1), .val (.int p2), .val (.int p3), .val rv_32, .val (.ref b33), .val v35_1, .val (.ref b40), .val (.ref b_42), .val (.ref b40), .unset] [(.ref b_42)]))
  obtain ⟨cq45, kq45, q45a, q45b, q45c⟩ := isOf hZ hh44 E_b_42
  obtain ⟨_, _, ⟨T45, L45, k45, n45⟩, -, X45, ⟨Lc45, hQ45, l45, y45, z45⟩, st45⟩ := X44.virtualBack hx (y := (⟨"com/example/wunce/wunce/Claim", "release", "()V"⟩ : MethodName)) (z := (⟨"com/example/wunce/wunce/Claim", "release", "()V"⟩ : MethodName)) hown (mvT hZ (hw _ (List.mem_of_getElem? (i := 64) rfl))) (mvT hZ (hw _ (List.mem_of_getElem? (i := 65) rfl))) (notFace_of_selects (args := #[]) (mvT hZ (hw _ (List.mem_of_getElem? (i := 67) rfl)))) (mvT hZ (hw _ (List.mem_of_getElem? (i := 67) rfl))) (mvT hZ (hw _ (List.mem_of_getElem? (i := 66) rfl))) (by decide) (backOf (W := 0) (rm9 l Z a0 hw [] b_42 T42.heap n0 (Nat.le_trans Z0 K42.1) E_b_42 F__owner_b_42) hZ (hw _ (List.mem_of_getElem? (i := 68) rfl)) (hw _ (List.mem_of_getElem? (i := 24) rfl)) (by decide) (by decide)) q45a q45c (g := (mkF m 76 #[.val (.int p0), .val (.int p1), .val (.int p2), .val (.int p3), .val rv_32, .val (.ref b33), .val v35_1, .val (.ref b40), .val (.ref b_42), .val (.ref b40), .unset] [(.ref b_42)])) rfl (by rw [hml]; rfl) (Steps.refl _) (argsL := []) (rest := []) (lenOf pd_7 rfl) rfl (by show 2 * 0 + _ ≤ _; exact Nat.le_of_eq rfl) (hb hby at_76) (fun _ _ => ⟨rfl, hh44, (by decide : 4 + 0 ≤ _), (by decide : 11 + 0 ≤ _)⟩)
  dsimp only [Pt.U, Pt.locs, Pt.cells, Pt.slots] at X45 l45 y45 z45 st45 hQ45
  subst l45 y45 z45
  obtain ⟨rfl, Nq45, hh45⟩ := hQ45
  have N45 := Fr.app N44 Nq45
  refine Ends.step (fun _ k => st45.trans k) ?_
  show Ends p e below QQ (T45.setTop (mkF m 79 #[.val (.int p0), .val (.int p1), .val (.int p2), .val (.int p3), .val rv_32, .val (.ref b33), .val v35_1, .val (.ref b40), .val (.ref b_42), .val (.ref b40), .unset] []))
  refine Ends.step (fun _ k => XS.aload X45.here hx rfl (hb hby at_79) rfl rfl k) ?_
  show Ends p e below QQ (T45.setTop (mkF m 81 #[.val (.int p0), .val (.int p1), .val (.int p2), .val (.int p3), .val rv_32, .val (.ref b33), .val v35_1, .val (.ref b40), .val (.ref b_42), .val (.ref b40), .unset] [(.ref b_42)]))
  obtain ⟨cq46, kq46, q46a, q46b, q46c⟩ := isOf hZ hh45 E_b_42
  obtain ⟨_, _, ⟨T46, L46, k46, n46⟩, -, X46, ⟨Lc46, hQ46, l46, y46, z46⟩, st46⟩ := X45.virtualBack hx (y := (⟨"com/example/wunce/wunce/Claim", "isHeld", "()Z"⟩ : MethodName)) (z := (⟨"com/example/wunce/wunce/Claim", "isHeld", "()Z"⟩ : MethodName)) hown (mvT hZ (hw _ (List.mem_of_getElem? (i := 53) rfl))) (mvT hZ (hw _ (List.mem_of_getElem? (i := 54) rfl))) (notFace_of_selects (args := #[]) (mvT hZ (hw _ (List.mem_of_getElem? (i := 56) rfl)))) (mvT hZ (hw _ (List.mem_of_getElem? (i := 56) rfl))) (mvT hZ (hw _ (List.mem_of_getElem? (i := 55) rfl))) (by decide) (backOf (W := 0) (rm7 l Z a0 hw [] b_42 T42.heap n0 (Nat.le_trans Z0 K42.1) F__owner_b_42) hZ (hw _ (List.mem_of_getElem? (i := 57) rfl)) (hw _ (List.mem_of_getElem? (i := 24) rfl)) (by decide) (by decide)) q46a q46c (g := (mkF m 81 #[.val (.int p0), .val (.int p1), .val (.int p2), .val (.int p3), .val rv_32, .val (.ref b33), .val v35_1, .val (.ref b40), .val (.ref b_42), .val (.ref b40), .unset] [(.ref b_42)])) rfl (by rw [hml]; rfl) (Steps.refl _) (argsL := []) (rest := []) (lenOf pd_2 rfl) rfl (by show 2 * 0 + _ ≤ _; exact Nat.le_of_eq rfl) (hb hby at_81) (fun _ _ => ⟨rfl, hh45, (by decide : 4 + 0 ≤ _), (by decide : 11 + 0 ≤ _)⟩)
  dsimp only [Pt.U, Pt.locs, Pt.cells, Pt.slots] at X46 l46 y46 z46 st46 hQ46
  subst l46 y46 z46
  obtain ⟨rfl, Nq46, hh46⟩ := hQ46
  have N46 := Fr.app N45 Nq46
  refine Ends.step (fun _ k => st46.trans k) ?_
  show Ends p e below QQ (T46.setTop (mkF m 84 #[.val (.int p0), .val (.int p1), .val (.int p2), .val (.int p3), .val rv_32, .val (.ref b33), .val v35_1, .val (.ref b40), .val (.ref b_42), .val (.ref b40), .unset] [(.int (0 : Int32))]))
  refine Ends.step (fun _ k => XS.ifYes X46.here hx rfl (pc0 := 84) (pc' := 89) rfl (hb hby at_84) rfl (XT.i0_eq_t (by decide)) (by decide) (by decide) k) ?_
  show Ends p e below QQ (T46.setTop (mkF m 89 #[.val (.int p0), .val (.int p1), .val (.int p2), .val (.int p3), .val rv_32, .val (.ref b33), .val v35_1, .val (.ref b40), .val (.ref b_42), .val (.ref b40), .unset] []))
  refine Ends.step (fun _ k => XS.aload X46.here hx rfl (hb hby at_89) rfl rfl k) ?_
  show Ends p e below QQ (T46.setTop (mkF m 91 #[.val (.int p0), .val (.int p1), .val (.int p2), .val (.int p3), .val rv_32, .val (.ref b33), .val v35_1, .val (.ref b40), .val (.ref b_42), .val (.ref b40), .unset] [(.ref b_42)]))
  obtain ⟨cq47, kq47, q47a, q47b, q47c⟩ := isOf hZ hh46 E_b_42
  obtain ⟨_, _, ⟨T47, L47, k47, n47⟩, -, X47, ⟨Lc47, hQ47, l47, y47, z47⟩, st47⟩ := X46.virtualBack hx (y := (⟨"com/example/wunce/wunce/Claim", "result", "()Lcom/example/wunce/wunce/Result;"⟩ : MethodName)) (z := (⟨"com/example/wunce/wunce/Claim", "result", "()Lcom/example/wunce/wunce/Result;"⟩ : MethodName)) hown (mvT hZ (hw _ (List.mem_of_getElem? (i := 58) rfl))) (mvT hZ (hw _ (List.mem_of_getElem? (i := 59) rfl))) (notFace_of_selects (args := #[]) (mvT hZ (hw _ (List.mem_of_getElem? (i := 61) rfl)))) (mvT hZ (hw _ (List.mem_of_getElem? (i := 61) rfl))) (mvT hZ (hw _ (List.mem_of_getElem? (i := 60) rfl))) (by decide) (backOf (W := 0) (rm8 l Z a0 hw [] b_42 b40 T42.heap n0 (Nat.le_trans Z0 K42.1) E_b_42 F__owner_b_42 F__result_b_42) hZ (hw _ (List.mem_of_getElem? (i := 62) rfl)) (hw _ (List.mem_of_getElem? (i := 24) rfl)) (by decide) (by decide)) q47a q47c (g := (mkF m 91 #[.val (.int p0), .val (.int p1), .val (.int p2), .val (.int p3), .val rv_32, .val (.ref b33), .val v35_1, .val (.ref b40), .val (.ref b_42), .val (.ref b40), .unset] [(.ref b_42)])) rfl (by rw [hml]; rfl) (Steps.refl _) (argsL := []) (rest := []) (lenOf pd_6 rfl) rfl (by show 2 * 0 + _ ≤ _; exact Nat.le_of_eq rfl) (hb hby at_91) (fun _ _ => ⟨rfl, hh46, (by decide : 4 + 0 ≤ _), (by decide : 11 + 0 ≤ _)⟩)
  dsimp only [Pt.U, Pt.locs, Pt.cells, Pt.slots] at X47 l47 y47 z47 st47 hQ47
  subst l47 y47 z47
  obtain ⟨rfl, Nq47, hh47⟩ := hQ47
  have N47 := Fr.app N46 Nq47
  refine Ends.step (fun _ k => st47.trans k) ?_
  show Ends p e below QQ (T47.setTop (mkF m 94 #[.val (.int p0), .val (.int p1), .val (.int p2), .val (.int p3), .val rv_32, .val (.ref b33), .val v35_1, .val (.ref b40), .val (.ref b_42), .val (.ref b40), .unset] [(.ref b40)]))
  refine Ends.step (fun _ k => XS.astore X47.here hx rfl (hb hby at_94) rfl rfl (l' := #[.val (.int p0), .val (.int p1), .val (.int p2), .val (.int p3), .val rv_32, .val (.ref b33), .val v35_1, .val (.ref b40), .val (.ref b_42), .val (.ref b40), .val (.ref b40)]) rfl k) ?_
  show Ends p e below QQ (T47.setTop (mkF m 96 #[.val (.int p0), .val (.int p1), .val (.int p2), .val (.int p3), .val rv_32, .val (.ref b33), .val v35_1, .val (.ref b40), .val (.ref b_42), .val (.ref b40), .val (.ref b40)] []))
  refine Ends.step (fun _ k => XS.aload X47.here hx rfl (hb hby at_96) rfl rfl k) ?_
  show Ends p e below QQ (T47.setTop (mkF m 98 #[.val (.int p0), .val (.int p1), .val (.int p2), .val (.int p3), .val rv_32, .val (.ref b33), .val v35_1, .val (.ref b40), .val (.ref b_42), .val (.ref b40), .val (.ref b40)] [(.ref b40)]))
  refine Ends.step (fun _ k => XS.aload X47.here hx rfl (hb hby at_98) rfl rfl k) ?_
  show Ends p e below QQ (T47.setTop (mkF m 100 #[.val (.int p0), .val (.int p1), .val (.int p2), .val (.int p3), .val rv_32, .val (.ref b33), .val v35_1, .val (.ref b40), .val (.ref b_42), .val (.ref b40), .val (.ref b40)] [(.ref b40), (.ref b40)]))
  refine Ends.step (fun _ k => Jvm.RoadKit.acmp (g := (mkF m 100 #[.val (.int p0), .val (.int p1), .val (.int p2), .val (.int p3), .val rv_32, .val (.ref b33), .val v35_1, .val (.ref b40), .val (.ref b_42), .val (.ref b40), .val (.ref b40)] [(.ref b40), (.ref b40)])) X47 hx rfl rfl rfl (pc0 := 100) (pc' := 103) (same := true) rfl (hb hby at_100) rfl (decide_eq_true rfl) (by decide) (by decide) k) ?_
  show Ends p e below QQ (T47.setTop (mkF m 103 #[.val (.int p0), .val (.int p1), .val (.int p2), .val (.int p3), .val rv_32, .val (.ref b33), .val v35_1, .val (.ref b40), .val (.ref b_42), .val (.ref b40), .val (.ref b40)] []))
  refine Ends.step (fun _ k => XS.aload X47.here hx rfl (hb hby at_103) rfl rfl k) ?_
  show Ends p e below QQ (T47.setTop (mkF m 105 #[.val (.int p0), .val (.int p1), .val (.int p2), .val (.int p3), .val rv_32, .val (.ref b33), .val v35_1, .val (.ref b40), .val (.ref b_42), .val (.ref b40), .val (.ref b40)] [(.ref b40)]))
  refine Ends.step (fun _ k => XS.aload X47.here hx rfl (hb hby at_105) rfl rfl k) ?_
  show Ends p e below QQ (T47.setTop (mkF m 107 #[.val (.int p0), .val (.int p1), .val (.int p2), .val (.int p3), .val rv_32, .val (.ref b33), .val v35_1, .val (.ref b40), .val (.ref b_42), .val (.ref b40), .val (.ref b40)] [(.ref b40), (.ref b40)]))
  refine Ends.step (fun _ k => Jvm.RoadKit.acmp (g := (mkF m 107 #[.val (.int p0), .val (.int p1), .val (.int p2), .val (.int p3), .val rv_32, .val (.ref b33), .val v35_1, .val (.ref b40), .val (.ref b_42), .val (.ref b40), .val (.ref b40)] [(.ref b40), (.ref b40)])) X47 hx rfl rfl rfl (pc0 := 107) (pc' := 110) (same := true) rfl (hb hby at_107) rfl (decide_eq_true rfl) (by decide) (by decide) k) ?_
  show Ends p e below QQ (T47.setTop (mkF m 110 #[.val (.int p0), .val (.int p1), .val (.int p2), .val (.int p3), .val rv_32, .val (.ref b33), .val v35_1, .val (.ref b40), .val (.ref b_42), .val (.ref b40), .val (.ref b40)] []))
  refine Ends.step (fun _ k => XS.aload X47.here hx rfl (hb hby at_110) rfl rfl k) ?_
  show Ends p e below QQ (T47.setTop (mkF m 112 #[.val (.int p0), .val (.int p1), .val (.int p2), .val (.int p3), .val rv_32, .val (.ref b33), .val v35_1, .val (.ref b40), .val (.ref b_42), .val (.ref b40), .val (.ref b40)] [(.ref b40)]))
  obtain ⟨cq48, kq48, q48a, q48b, q48c⟩ := isOf hZ hh47 E_b40
  obtain ⟨_, _, ⟨T48, L48, k48, n48⟩, -, X48, ⟨Lc48, hQ48, l48, y48, z48⟩, st48⟩ := X47.virtualBack hx (y := (⟨"com/example/wunce/wunce/Result", "status", "()Lcom/example/wunce/wunce/Status;"⟩ : MethodName)) (z := (⟨"com/example/wunce/wunce/Result", "status", "()Lcom/example/wunce/wunce/Status;"⟩ : MethodName)) hown (mvT hZ (hw _ (List.mem_of_getElem? (i := 69) rfl))) (mvT hZ (hw _ (List.mem_of_getElem? (i := 70) rfl))) (notFace_of_selects (args := #[]) (mvT hZ (hw _ (List.mem_of_getElem? (i := 72) rfl)))) (mvT hZ (hw _ (List.mem_of_getElem? (i := 72) rfl))) (mvT hZ (hw _ (List.mem_of_getElem? (i := 71) rfl))) (by decide) (backOf (W := 0) (rm10 l Z a0 hw [] b40 rv_32 T42.heap n0 (Nat.le_trans Z0 K42.1) F__status_b40 hr_rv_32) hZ (hw _ (List.mem_of_getElem? (i := 73) rfl)) (hw _ (List.mem_of_getElem? (i := 11) rfl)) (by decide) (by decide)) q48a q48c (g := (mkF m 112 #[.val (.int p0), .val (.int p1), .val (.int p2), .val (.int p3), .val rv_32, .val (.ref b33), .val v35_1, .val (.ref b40), .val (.ref b_42), .val (.ref b40), .val (.ref b40)] [(.ref b40)])) rfl (by rw [hml]; rfl) (Steps.refl _) (argsL := []) (rest := []) (lenOf pd_8 rfl) rfl (by show 2 * 0 + _ ≤ _; exact Nat.le_of_eq rfl) (hb hby at_112) (fun _ _ => ⟨rfl, hh47, (by decide : 4 + 0 ≤ _), (by decide : 11 + 0 ≤ _)⟩)
  dsimp only [Pt.U, Pt.locs, Pt.cells, Pt.slots] at X48 l48 y48 z48 st48 hQ48
  subst l48 y48 z48
  obtain ⟨rfl, Nq48, hh48⟩ := hQ48
  have N48 := Fr.app N47 Nq48
  refine Ends.step (fun _ k => st48.trans k) ?_
  show Ends p e below QQ (T48.setTop (mkF m 115 #[.val (.int p0), .val (.int p1), .val (.int p2), .val (.int p3), .val rv_32, .val (.ref b33), .val v35_1, .val (.ref b40), .val (.ref b_42), .val (.ref b40), .val (.ref b40)] [rv_32]))
  refine Ends.step (fun _ k => XS.aload X48.here hx rfl (hb hby at_115) rfl hr_rv_32 k) ?_
  show Ends p e below QQ (T48.setTop (mkF m 117 #[.val (.int p0), .val (.int p1), .val (.int p2), .val (.int p3), .val rv_32, .val (.ref b33), .val v35_1, .val (.ref b40), .val (.ref b_42), .val (.ref b40), .val (.ref b40)] [rv_32, rv_32]))
  refine Ends.step (fun _ k => Jvm.RoadKit.acmp (g := (mkF m 117 #[.val (.int p0), .val (.int p1), .val (.int p2), .val (.int p3), .val rv_32, .val (.ref b33), .val v35_1, .val (.ref b40), .val (.ref b_42), .val (.ref b40), .val (.ref b40)] [rv_32, rv_32])) X48 hx rfl hr_rv_32 hr_rv_32 (pc0 := 117) (pc' := 120) (same := true) rfl (hb hby at_117) rfl (decide_eq_true rfl) (by decide) (by decide) k) ?_
  show Ends p e below QQ (T48.setTop (mkF m 120 #[.val (.int p0), .val (.int p1), .val (.int p2), .val (.int p3), .val rv_32, .val (.ref b33), .val v35_1, .val (.ref b40), .val (.ref b_42), .val (.ref b40), .val (.ref b40)] []))
  refine Ends.step (fun _ k => XS.aload X48.here hx rfl (hb hby at_120) rfl rfl k) ?_
  show Ends p e below QQ (T48.setTop (mkF m 122 #[.val (.int p0), .val (.int p1), .val (.int p2), .val (.int p3), .val rv_32, .val (.ref b33), .val v35_1, .val (.ref b40), .val (.ref b_42), .val (.ref b40), .val (.ref b40)] [(.ref b40)]))
  obtain ⟨cq49, kq49, q49a, q49b, q49c⟩ := isOf hZ hh48 E_b40
  obtain ⟨_, _, ⟨T49, L49, k49, n49⟩, -, X49, ⟨Lc49, hQ49, l49, y49, z49⟩, st49⟩ := X48.virtualBack hx (y := (⟨"com/example/wunce/wunce/Result", "answer", "()[B"⟩ : MethodName)) (z := (⟨"com/example/wunce/wunce/Result", "answer", "()[B"⟩ : MethodName)) hown (mvT hZ (hw _ (List.mem_of_getElem? (i := 74) rfl))) (mvT hZ (hw _ (List.mem_of_getElem? (i := 75) rfl))) (notFace_of_selects (args := #[]) (mvT hZ (hw _ (List.mem_of_getElem? (i := 77) rfl)))) (mvT hZ (hw _ (List.mem_of_getElem? (i := 77) rfl))) (mvT hZ (hw _ (List.mem_of_getElem? (i := 76) rfl))) (by decide) (backOf (W := 0) (rm11 l Z a0 hw [] b40 v35_1 T42.heap n0 (Nat.le_trans Z0 K42.1) F__answer_b40 hr_v35_1) hZ (hw _ (List.mem_of_getElem? (i := 78) rfl)) (hw _ (List.mem_of_getElem? (i := 11) rfl)) (by decide) (by decide)) q49a q49c (g := (mkF m 122 #[.val (.int p0), .val (.int p1), .val (.int p2), .val (.int p3), .val rv_32, .val (.ref b33), .val v35_1, .val (.ref b40), .val (.ref b_42), .val (.ref b40), .val (.ref b40)] [(.ref b40)])) rfl (by rw [hml]; rfl) (Steps.refl _) (argsL := []) (rest := []) (lenOf pd_9 rfl) rfl (by show 2 * 0 + _ ≤ _; exact Nat.le_of_eq rfl) (hb hby at_122) (fun _ _ => ⟨rfl, hh48, (by decide : 4 + 0 ≤ _), (by decide : 11 + 0 ≤ _)⟩)
  dsimp only [Pt.U, Pt.locs, Pt.cells, Pt.slots] at X49 l49 y49 z49 st49 hQ49
  subst l49 y49 z49
  obtain ⟨rfl, Nq49, hh49⟩ := hQ49
  have N49 := Fr.app N48 Nq49
  refine Ends.step (fun _ k => st49.trans k) ?_
  show Ends p e below QQ (T49.setTop (mkF m 125 #[.val (.int p0), .val (.int p1), .val (.int p2), .val (.int p3), .val rv_32, .val (.ref b33), .val v35_1, .val (.ref b40), .val (.ref b_42), .val (.ref b40), .val (.ref b40)] [v35_1]))
  refine Ends.step (fun _ k => XS.aload X49.here hx rfl (hb hby at_125) rfl hr_v35_1 k) ?_
  show Ends p e below QQ (T49.setTop (mkF m 127 #[.val (.int p0), .val (.int p1), .val (.int p2), .val (.int p3), .val rv_32, .val (.ref b33), .val v35_1, .val (.ref b40), .val (.ref b_42), .val (.ref b40), .val (.ref b40)] [v35_1, v35_1]))
  refine Ends.step (fun _ k => Jvm.RoadKit.acmp (g := (mkF m 127 #[.val (.int p0), .val (.int p1), .val (.int p2), .val (.int p3), .val rv_32, .val (.ref b33), .val v35_1, .val (.ref b40), .val (.ref b_42), .val (.ref b40), .val (.ref b40)] [v35_1, v35_1])) X49 hx rfl hr_v35_1 hr_v35_1 (pc0 := 127) (pc' := 130) (same := true) rfl (hb hby at_127) rfl (decide_eq_true rfl) (by decide) (by decide) k) ?_
  show Ends p e below QQ (T49.setTop (mkF m 130 #[.val (.int p0), .val (.int p1), .val (.int p2), .val (.int p3), .val rv_32, .val (.ref b33), .val v35_1, .val (.ref b40), .val (.ref b_42), .val (.ref b40), .val (.ref b40)] []))
  refine Ends.step (fun _ k => XT.iconstV X49.here hx rfl (1 : Int32) (hb hby at_130) rfl k) ?_
  show Ends p e below QQ (T49.setTop (mkF m 131 #[.val (.int p0), .val (.int p1), .val (.int p2), .val (.int p3), .val rv_32, .val (.ref b33), .val v35_1, .val (.ref b40), .val (.ref b_42), .val (.ref b40), .val (.ref b40)] [(.int (1 : Int32))]))
  refine Ends.step (fun _ k => XS.goto X49.here hx rfl (pc0 := 131) (pc' := 135) rfl (hb hby at_131) (by decide) (by decide) k) ?_
  show Ends p e below QQ (T49.setTop (mkF m 135 #[.val (.int p0), .val (.int p1), .val (.int p2), .val (.int p3), .val rv_32, .val (.ref b33), .val v35_1, .val (.ref b40), .val (.ref b_42), .val (.ref b40), .val (.ref b40)] [(.int (1 : Int32))]))
  exact Ends.fin (some (.int (1 : Int32))) X49 hQQ (fun h => by rw [Bd.returns] at h; cases h) Bd.notSynchronized (fun _ hr => retOut X49 hx (t := .boolean) Bd.returns rfl (Or.inl ⟨rfl, (by simp), _, rfl⟩) (hb hby at_135) hr) hh49 (by decide) (by decide) ⟨(by simp only [f0]), N49, K42⟩
theorem own_law (a b c d : Int32) : f0 a b c d = 1 := rfl
set_option maxRecDepth 65536 in
set_option maxHeartbeats 40000000 in
theorem comes_1 {Post : Tables → Env → Array Value → State → Outcome → State → Prop} (hpost : ∀ tb e args s v u, (limb_1_1.after args s (.returned v) u = true ∧ limb_1_2.after args s (.returned v) u = true ∧ True) → FrameEnd s (.returned v) u (Jvm.fieldLocs frame_1_writes args s ++ Jvm.arrayLocs frame_1_arrays args s ++ Jvm.staticLocs frame_1_statics s) 16 128 → Post tb e args s (.returned v) u) :
    ArmFor flags0 classFile x code maxLocals ret World_1 tables_1 room_1 Calls_1 rest_1 Pre_1 Post := by
  intro l hfl _ _ p e ha hc hk s m args below hf hA hF happ hP
  obtain ⟨hcalls, hrest, hpre⟩ := hP
  obtain ⟨-, -, -, hnamed, -, -, -, hat⟩ := (Spec.applies_iff hf).mp happ
  obtain ⟨hg, hn⟩ := and_e (Cond.before_iff.mp (show (Jvm.Cond.and given_1 narrow_1).before args s = true from hpre))
  obtain ⟨gl1, gr1⟩ := and_e hg
  obtain ⟨gl2, gr2⟩ := and_e gr1
  obtain ⟨gl3, gr3⟩ := and_e gr2
  obtain ⟨gl4, gr4⟩ := and_e gr3
  obtain ⟨w0, w1, w2, w3, rfl⟩ : ∃ w0 w1 w2 w3 : Value, args = #[w0, w1, w2, w3] := by
    have hs : args.size = 4 := by simpa [Cond.value, given_1] using gl1
    obtain ⟨L⟩ := args
    match L, hs with
    | [w0, w1, w2, w3], _ => exact ⟨w0, w1, w2, w3, rfl⟩
  have hw := fun d (hd : d ∈ tables_1) => atoms_spec (ws := Jvm.Cond.code x code maxLocals ret :: tables_1) hat d (List.mem_cons_of_mem _ hd)
  have hfit : Fit s := fun {y c} hc i hi => by
    obtain ⟨ha, rfl⟩ := Array.getElem?_eq_some_iff.mp hc
    have q := List.all_eq_true.mp ((Array.all_eq_true_iff_forall_mem.mp hF) _ (Array.getElem_mem ha)) i (List.mem_range.mpr hi)
    simpa [Array.getElem?_eq_getElem hi] using q
  obtain ⟨i0, ei0⟩ := is_v gl2
  obtain rfl : w0 = (.int i0) := Option.some.inj ei0
  obtain ⟨i1, ei1⟩ := is_v gl3
  obtain rfl : w1 = (.int i1) := Option.some.inj ei1
  obtain ⟨i2, ei2⟩ := is_v gl4
  obtain rfl : w2 = (.int i2) := Option.some.inj ei2
  obtain ⟨i3, ei3⟩ := is_v gr4
  obtain rfl : w3 = (.int i3) := Option.some.inj ei3
  obtain ⟨s0, ev0, fit0⟩ := static_fit hfit (hw _ (List.mem_of_getElem? (i := 7) rfl)) (ty := (.object "com/example/wunce/wunce/Status")) (by decide)
  have S0 := Sta.start ev0 (Or.inr ⟨(hw _ (List.mem_of_getElem? (i := 6) rfl)), (hw _ (List.mem_of_getElem? (i := 7) rfl))⟩)
  have hr0 := fit_R fit0 rfl
  obtain ⟨s1, ev1, fit1⟩ := static_fit hfit (hw _ (List.mem_of_getElem? (i := 84) rfl)) (ty := (.object "com/example/wunce/wunce/Status")) (by decide)
  have S1 := Sta.start ev1 (Or.inr ⟨(hw _ (List.mem_of_getElem? (i := 6) rfl)), (hw _ (List.mem_of_getElem? (i := 84) rfl))⟩)
  have hr1 := fit_R fit1 rfl
  obtain ⟨s2, ev2, fit2⟩ := static_fit hfit (hw _ (List.mem_of_getElem? (i := 80) rfl)) (ty := (.object "com/example/wunce/wunce/Status")) (by decide)
  have S2 := Sta.start ev2 (Or.inr ⟨(hw _ (List.mem_of_getElem? (i := 6) rfl)), (hw _ (List.mem_of_getElem? (i := 80) rfl))⟩)
  have hr2 := fit_R fit2 rfl
  obtain ⟨s3, ev3, fit3⟩ := static_fit hfit (hw _ (List.mem_of_getElem? (i := 86) rfl)) (ty := (.object "com/example/wunce/wunce/Status")) (by decide)
  have S3 := Sta.start ev3 (Or.inr ⟨(hw _ (List.mem_of_getElem? (i := 6) rfl)), (hw _ (List.mem_of_getElem? (i := 86) rfl))⟩)
  have hr3 := fit_R fit3 rfl
  obtain ⟨s4, ev4, fit4⟩ := static_fit hfit (hw _ (List.mem_of_getElem? (i := 82) rfl)) (ty := (.object "com/example/wunce/wunce/Status")) (by decide)
  have S4 := Sta.start ev4 (Or.inr ⟨(hw _ (List.mem_of_getElem? (i := 6) rfl)), (hw _ (List.mem_of_getElem? (i := 82) rfl))⟩)
  have hr4 := fit_R fit4 rfl
  obtain ⟨n, o, h1, h2, h3, _, L, rfl, hQ, hq⟩ := rm0 l s _ hw tables_1 i0 i1 i2 i3 s0 s1 s2 s3 s4 s.heap s.heap.size (Nat.le_refl _) S0 S1 S2 S3 S4 hr0 hr1 hr2 hr3 hr4 p e ha hc hk s m _ below hf ((Spec.applies_iff_loose hf).mp happ).1 ⟨rfl, State.Warmed39.refl s, rfl⟩ trivial
  obtain ⟨hv, N, -⟩ := hQ
  have hlaw : (f0 i0 i1 i2 i3) = 1 := own_law i0 i1 i2 i3
  rw [hlaw] at hv
  subst hv
  refine ⟨n, _, h1, h2, h3, hpost _ _ _ _ _ _ ⟨Cond.after_iff.mpr rfl, Cond.after_iff.mpr (eq_i res_at (Term.int_eval (1)) rfl), trivial⟩ ⟨hq.1, hq.2.1, (hq.2.2.sift fun y hy => Or.inr (N y hy)).mono (by decide) (by decide)⟩⟩
theorem main_1_1 : Claimed_1_1 := comes_1 fun _ _ _ _ _ _ h hF => ⟨h.1, hF⟩
theorem main_1_2 : Claimed_1_2 := comes_1 fun _ _ _ _ _ _ h hF => ⟨h.2.1, hF⟩
end Jvm.Pilot.@@N@@
namespace Jvm.Pilot.@@N@@
open Jvm Jvm.ClassFile Sem Op Lib Jvm.Free Jvm.Stand Jvm.Pilot.@@N@@.Jvm.D
/-! MADE BY PROGRAM (witnessworld.py) out of the Statement's table words and the real class files: 15 classes; the members and pool entries that the words name. The judged class is class 1, her method 2. -/
namespace start1
open Jvm.ClassFile
def u (s : String) : CpInfo := .utf8 (stringToUtf16 s)
/-- a pool by its gaps: so many unusable entries, then the entry; so many at the end -/
def gap : Nat → List CpInfo → List CpInfo
  | 0, r => r
  | n + 1, r => .unusable :: gap n r
def poolList (es : List (Nat × CpInfo)) (last : Nat) : List CpInfo := es.foldr (fun e r => gap e.1 (e.2 :: r)) (gap last [])
def pool (es : List (Nat × CpInfo)) (last : Nat) : Array CpInfo := ⟨poolList es last⟩
def fileOf (pool : Array CpInfo) (this : Nat) (attrs : Array Attribute := #[]) (ms : Array MethodInfo := #[]) (fl : Nat := 33) (sup : Nat := 0) (ifs : Array Nat := #[]) (fds : Array FieldInfo := #[]) : ClassFile where
  minorVersion := 0
  majorVersion := 65
  constantPool := pool
  accessFlags := fl
  thisClass := this
  superClass := sup
  interfaces := ifs
  fields := fds
  methods := ms
  attributes := attrs
def plain (name : String) (sup : Option ClassId) : Class where
  name := name
  kind := .ordinary
  loader := none
  accessFlags := 33
  super := sup
  interfaces := #[]
  cf := none
  fields := #[]
  methods := #[]
  instanceTypes := #[]
  staticTypes := #[]
  resolved := #[]
  callSites := []
  init := .initialized
  statics := none
  mirror := none

def pool0 : Array CpInfo := pool [(5, u "<init>"), (0, u "()V"), (1, .class_ 10), (1, u "java/lang/Object")] 113

def k0c0 : Code := { maxStack := 0, maxLocals := 1, code := object_method_1_code, exceptionTable := #[], attributes := #[] }
def k0m0 : Method := { name := "<init>", desc := "()V", sig := { parameters := [], returnType := none }, accessFlags := 1, code := some k0c0 }
/-- java/lang/Object -/
def k0 : Class := { plain "java/lang/Object" none with
  accessFlags := 33
  interfaces := #[]
  cf := some (fileOf pool0 8 #[] #[{ accessFlags := 1, nameIndex := 5, descriptorIndex := 6, attributes := #[] }] 33 0 #[] #[])
  fields := #[]
  methods := #[k0m0]
  instanceTypes := #[]
  staticTypes := #[]
  resolved := Array.replicate 124 none
  statics := none }

def pool1 : Array CpInfo := pool [(2, .class_ 4), (1, u "java/lang/Object"), (0, u "<init>"), (0, u "()V"), (0, .integer 2147483647), (0, .fieldref 9 10), (0, .class_ 11), (0, .nameAndType 12 13), (0, u "com/example/wunce/wunce/Status"), (0, u "FIRST"), (0, u "Lcom/example/wunce/wunce/Status;"), (0, .fieldref 9 15), (0, .nameAndType 16 13), (0, u "REPLAYED"), (0, .fieldref 9 18), (0, .nameAndType 19 13), (0, u "IN_PROGRESS"), (0, .fieldref 9 21), (0, .nameAndType 22 13), (0, u "MISMATCH"), (0, .fieldref 9 24), (0, .nameAndType 25 13), (0, u "SUPERSEDED"), (0, .methodref 27 28), (0, .class_ 29), (0, .nameAndType 30 31), (0, u "com/example/wunce/wunce/ClaimTurnedAwayPinLaw"), (0, u "statusOf"), (0, u "(I)Lcom/example/wunce/wunce/Status;"), (0, .class_ 33), (0, u "com/example/wunce/wunce/Result"), (0, .methodref 32 35), (0, .nameAndType 5 36), (0, u "(Lcom/example/wunce/wunce/Status;[B)V"), (0, .methodref 38 39), (0, .class_ 40), (0, .nameAndType 41 42), (0, u "com/example/wunce/wunce/Claim"), (0, u "turnedAway"), (0, u "(Lcom/example/wunce/wunce/Result;)Lcom/example/wunce/wunce/Claim;"), (0, .methodref 38 44), (0, .nameAndType 45 46), (0, u "isHeld"), (0, u "()Z"), (0, .methodref 38 48), (0, .nameAndType 49 50), (0, u "result"), (0, u "()Lcom/example/wunce/wunce/Result;"), (0, .methodref 38 52), (0, .nameAndType 53 6), (0, u "release"), (0, .methodref 32 55), (0, .nameAndType 56 57), (0, u "status"), (0, u "()Lcom/example/wunce/wunce/Status;"), (0, .methodref 32 59), (0, .nameAndType 60 61), (0, u "answer"), (0, u "()[B"), (3, u "law"), (0, u "(IIII)Z")] 4

def k1m0 : Method := { name := "<init>", desc := "()V", sig := { parameters := [], returnType := none }, accessFlags := 1, code := none }
def k1c1 : Code := { maxStack := 2, maxLocals := 2, code := method_2_code, exceptionTable := #[], attributes := #[] }
def k1m1 : Method := { name := "statusOf", desc := "(I)Lcom/example/wunce/wunce/Status;", sig := { parameters := [.int], returnType := some (.object "com/example/wunce/wunce/Status") }, accessFlags := 10, code := some k1c1 }
def k1c2 : Code := { maxStack := 4, maxLocals := 11, code := code, exceptionTable := #[], attributes := #[] }
def k1m2 : Method := { name := "law", desc := "(IIII)Z", sig := { parameters := [.int, .int, .int, .int], returnType := some .boolean }, accessFlags := 9, code := some k1c2 }
/-- com/example/wunce/wunce/ClaimTurnedAwayPinLaw -/
def k1 : Class := { plain "com/example/wunce/wunce/ClaimTurnedAwayPinLaw" (some 0) with
  accessFlags := 49
  interfaces := #[]
  cf := some (fileOf pool1 27 #[] #[{ accessFlags := 1, nameIndex := 5, descriptorIndex := 6, attributes := #[] }, { accessFlags := 10, nameIndex := 30, descriptorIndex := 31, attributes := #[] }, { accessFlags := 9, nameIndex := 65, descriptorIndex := 66, attributes := #[] }] 49 2 #[] #[])
  fields := #[]
  methods := #[k1m0, k1m1, k1m2]
  instanceTypes := #[]
  staticTypes := #[]
  resolved := Array.replicate 71 none
  statics := none }

def pool2 : Array CpInfo := pool [(1, .class_ 2), (0, u "java/lang/constant/Constable"), (0, .class_ 4), (0, u "java/lang/Object")] 6

/-- java/lang/constant/Constable -/
def k2 : Class := { plain "java/lang/constant/Constable" (some 0) with
  accessFlags := 1537
  interfaces := #[]
  cf := some (fileOf pool2 1 #[] #[] 1537 3 #[] #[])
  fields := #[]
  methods := #[]
  instanceTypes := #[]
  staticTypes := #[]
  resolved := Array.replicate 11 none
  statics := none }

def pool3 : Array CpInfo := pool [(1, .class_ 2), (0, u "java/lang/Comparable"), (0, .class_ 4), (0, u "java/lang/Object")] 7

/-- java/lang/Comparable -/
def k3 : Class := { plain "java/lang/Comparable" (some 0) with
  accessFlags := 1537
  interfaces := #[]
  cf := some (fileOf pool3 1 #[] #[] 1537 3 #[] #[])
  fields := #[]
  methods := #[]
  instanceTypes := #[]
  staticTypes := #[]
  resolved := Array.replicate 12 none
  statics := none }

def pool4 : Array CpInfo := pool [(1, .class_ 2), (0, u "java/io/Serializable"), (0, .class_ 4), (0, u "java/lang/Object")] 2

/-- java/io/Serializable -/
def k4 : Class := { plain "java/io/Serializable" (some 0) with
  accessFlags := 1537
  interfaces := #[]
  cf := some (fileOf pool4 1 #[] #[] 1537 3 #[] #[])
  fields := #[]
  methods := #[]
  instanceTypes := #[]
  staticTypes := #[]
  resolved := Array.replicate 7 none
  statics := none }

def pool5 : Array CpInfo := pool [(2, .class_ 4), (1, u "java/lang/Enum"), (0, u "name"), (0, u "Ljava/lang/String;"), (2, u "ordinal"), (0, u "I"), (1, .class_ 14), (1, u "java/lang/Object"), (4, u "hash"), (86, .class_ 108), (1, u "java/lang/Enum$EnumDesc"), (2, .class_ 112), (0, u "java/lang/constant/Constable"), (0, .class_ 114), (0, u "java/lang/Comparable"), (0, .class_ 116), (0, u "java/io/Serializable")] 87

/-- java/lang/Enum -/
def k5 : Class := { plain "java/lang/Enum" (some 0) with
  accessFlags := 1057
  interfaces := #[2, 3, 4]
  cf := some (fileOf pool5 2 #[.nestMembers #[106]] #[] 1057 12 #[111, 113, 115] #[{ accessFlags := 18, nameIndex := 5, descriptorIndex := 6, attributes := #[] }, { accessFlags := 18, nameIndex := 9, descriptorIndex := 10, attributes := #[] }, { accessFlags := 2, nameIndex := 19, descriptorIndex := 10, attributes := #[] }])
  fields := #[{ name := "name", type := (.object "java/lang/String"), accessFlags := 18, slot := 0, constantValue := 0 }, { name := "ordinal", type := .int, accessFlags := 18, slot := 1, constantValue := 0 }, { name := "hash", type := .int, accessFlags := 2, slot := 2, constantValue := 0 }]
  methods := #[]
  instanceTypes := #[(.object "java/lang/String"), .int, .int]
  staticTypes := #[]
  resolved := Array.replicate 204 none
  statics := none }

def pool6 : Array CpInfo := pool [(1, .class_ 2), (0, u "com/example/wunce/wunce/Status"), (2, u "FIRST"), (0, u "Lcom/example/wunce/wunce/Status;"), (2, u "REPLAYED"), (2, u "IN_PROGRESS"), (2, u "MISMATCH"), (2, u "SUPERSEDED"), (2, u "$VALUES"), (0, u "[Lcom/example/wunce/wunce/Status;"), (6, .class_ 31), (1, u "java/lang/Enum")] 27

/-- com/example/wunce/wunce/Status -/
def k6 : Class := { plain "com/example/wunce/wunce/Status" (some 5) with
  accessFlags := 16433
  interfaces := #[]
  cf := some (fileOf pool6 1 #[] #[] 16433 29 #[] #[{ accessFlags := 16409, nameIndex := 5, descriptorIndex := 6, attributes := #[] }, { accessFlags := 16409, nameIndex := 9, descriptorIndex := 6, attributes := #[] }, { accessFlags := 16409, nameIndex := 12, descriptorIndex := 6, attributes := #[] }, { accessFlags := 16409, nameIndex := 15, descriptorIndex := 6, attributes := #[] }, { accessFlags := 16409, nameIndex := 18, descriptorIndex := 6, attributes := #[] }, { accessFlags := 4122, nameIndex := 21, descriptorIndex := 22, attributes := #[] }])
  fields := #[{ name := "FIRST", type := (.object "com/example/wunce/wunce/Status"), accessFlags := 16409, slot := 0, constantValue := 0 }, { name := "REPLAYED", type := (.object "com/example/wunce/wunce/Status"), accessFlags := 16409, slot := 1, constantValue := 0 }, { name := "IN_PROGRESS", type := (.object "com/example/wunce/wunce/Status"), accessFlags := 16409, slot := 2, constantValue := 0 }, { name := "MISMATCH", type := (.object "com/example/wunce/wunce/Status"), accessFlags := 16409, slot := 3, constantValue := 0 }, { name := "SUPERSEDED", type := (.object "com/example/wunce/wunce/Status"), accessFlags := 16409, slot := 4, constantValue := 0 }, { name := "$VALUES", type := (.array (.object "com/example/wunce/wunce/Status")), accessFlags := 4122, slot := 5, constantValue := 0 }]
  methods := #[]
  instanceTypes := #[(.object "java/lang/String"), .int, .int]
  staticTypes := #[(.object "com/example/wunce/wunce/Status"), (.object "com/example/wunce/wunce/Status"), (.object "com/example/wunce/wunce/Status"), (.object "com/example/wunce/wunce/Status"), (.object "com/example/wunce/wunce/Status"), (.array (.object "com/example/wunce/wunce/Status"))]
  resolved := Array.replicate 59 none
  statics := some 0 }

def pool7 : Array CpInfo := pool [(1, .methodref 2 3), (0, .class_ 4), (0, .nameAndType 5 6), (0, u "java/lang/Object"), (0, u "<init>"), (0, u "()V"), (0, .fieldref 8 9), (0, .class_ 10), (0, .nameAndType 11 12), (0, u "com/example/wunce/wunce/Result"), (0, u "_status"), (0, u "Lcom/example/wunce/wunce/Status;"), (0, .fieldref 8 14), (0, .nameAndType 15 16), (0, u "_answer"), (0, u "[B"), (16, u "(Lcom/example/wunce/wunce/Status;[B)V"), (2, u "status"), (0, u "()Lcom/example/wunce/wunce/Status;"), (0, u "answer"), (0, u "()[B")] 18

def k7c0 : Code := { maxStack := 2, maxLocals := 3, code := prog_14_method_1_code, exceptionTable := #[], attributes := #[] }
def k7m0 : Method := { name := "<init>", desc := "(Lcom/example/wunce/wunce/Status;[B)V", sig := { parameters := [(.object "com/example/wunce/wunce/Status"), (.array .byte)], returnType := none }, accessFlags := 0, code := some k7c0 }
def k7c1 : Code := { maxStack := 1, maxLocals := 1, code := prog_14_method_2_code, exceptionTable := #[], attributes := #[] }
def k7m1 : Method := { name := "status", desc := "()Lcom/example/wunce/wunce/Status;", sig := { parameters := [], returnType := some (.object "com/example/wunce/wunce/Status") }, accessFlags := 1, code := some k7c1 }
def k7c2 : Code := { maxStack := 1, maxLocals := 1, code := prog_14_method_3_code, exceptionTable := #[], attributes := #[] }
def k7m2 : Method := { name := "answer", desc := "()[B", sig := { parameters := [], returnType := some (.array .byte) }, accessFlags := 1, code := some k7c2 }
/-- com/example/wunce/wunce/Result -/
def k7 : Class := { plain "com/example/wunce/wunce/Result" (some 0) with
  accessFlags := 49
  interfaces := #[]
  cf := some (fileOf pool7 8 #[] #[{ accessFlags := 0, nameIndex := 5, descriptorIndex := 33, attributes := #[] }, { accessFlags := 1, nameIndex := 36, descriptorIndex := 37, attributes := #[] }, { accessFlags := 1, nameIndex := 38, descriptorIndex := 39, attributes := #[] }] 49 2 #[] #[{ accessFlags := 18, nameIndex := 11, descriptorIndex := 12, attributes := #[] }, { accessFlags := 18, nameIndex := 15, descriptorIndex := 16, attributes := #[] }])
  fields := #[{ name := "_status", type := (.object "com/example/wunce/wunce/Status"), accessFlags := 18, slot := 0, constantValue := 0 }, { name := "_answer", type := (.array .byte), accessFlags := 18, slot := 1, constantValue := 0 }]
  methods := #[k7m0, k7m1, k7m2]
  instanceTypes := #[(.object "com/example/wunce/wunce/Status"), (.array .byte)]
  staticTypes := #[]
  resolved := Array.replicate 58 none
  statics := none }

def pool8 : Array CpInfo := pool [(1, .methodref 2 3), (0, .class_ 4), (0, .nameAndType 5 6), (0, u "java/lang/Object"), (0, u "<init>"), (0, u "()V"), (0, .fieldref 8 9), (0, .class_ 10), (0, .nameAndType 11 12), (0, u "com/example/wunce/wunce/Claim"), (0, u "_store"), (0, u "Lcom/example/wunce/wunce/Store;"), (0, .fieldref 8 14), (0, .nameAndType 15 16), (0, u "_key"), (0, u "Ljava/lang/String;"), (0, .fieldref 8 18), (0, .nameAndType 19 16), (0, u "_owner"), (0, .fieldref 8 21), (0, .nameAndType 22 23), (0, u "_keep"), (0, u "Ljava/time/Duration;"), (0, .fieldref 8 25), (0, .nameAndType 26 27), (0, u "_result"), (0, u "Lcom/example/wunce/wunce/Result;"), (0, .class_ 29), (0, u "java/util/concurrent/atomic/AtomicBoolean"), (0, .methodref 28 31), (0, .nameAndType 5 32), (0, u "(Z)V"), (0, .fieldref 8 34), (0, .nameAndType 35 36), (0, u "_isEnded"), (0, u "Ljava/util/concurrent/atomic/AtomicBoolean;"), (0, .methodref 8 38), (0, .nameAndType 5 39), (0, u "(Lcom/example/wunce/wunce/Store;Ljava/lang/String;Ljava/lang/String;Ljava/time/Duration;Lcom/example/wunce/wunce/Result;Z)V"), (0, .methodref 8 41), (0, .nameAndType 42 43), (0, u "isHeld"), (0, u "()Z"), (45, u "release"), (15, u "turnedAway"), (0, u "(Lcom/example/wunce/wunce/Result;)Lcom/example/wunce/wunce/Claim;"), (1, u "result"), (0, u "()Lcom/example/wunce/wunce/Result;")] 6

def k8c0 : Code := { maxStack := 4, maxLocals := 7, code := prog_3_method_1_code, exceptionTable := #[], attributes := #[] }
def k8m0 : Method := { name := "<init>", desc := "(Lcom/example/wunce/wunce/Store;Ljava/lang/String;Ljava/lang/String;Ljava/time/Duration;Lcom/example/wunce/wunce/Result;Z)V", sig := { parameters := [(.object "com/example/wunce/wunce/Store"), (.object "java/lang/String"), (.object "java/lang/String"), (.object "java/time/Duration"), (.object "com/example/wunce/wunce/Result"), .boolean], returnType := none }, accessFlags := 2, code := some k8c0 }
def k8c1 : Code := { maxStack := 8, maxLocals := 1, code := prog_3_method_3_code, exceptionTable := #[], attributes := #[] }
def k8m1 : Method := { name := "turnedAway", desc := "(Lcom/example/wunce/wunce/Result;)Lcom/example/wunce/wunce/Claim;", sig := { parameters := [(.object "com/example/wunce/wunce/Result")], returnType := some (.object "com/example/wunce/wunce/Claim") }, accessFlags := 8, code := some k8c1 }
def k8c2 : Code := { maxStack := 1, maxLocals := 1, code := prog_3_method_4_code, exceptionTable := #[], attributes := #[] }
def k8m2 : Method := { name := "isHeld", desc := "()Z", sig := { parameters := [], returnType := some .boolean }, accessFlags := 1, code := some k8c2 }
def k8c3 : Code := { maxStack := 3, maxLocals := 1, code := prog_3_method_5_code, exceptionTable := #[], attributes := #[] }
def k8m3 : Method := { name := "result", desc := "()Lcom/example/wunce/wunce/Result;", sig := { parameters := [], returnType := some (.object "com/example/wunce/wunce/Result") }, accessFlags := 1, code := some k8c3 }
def k8c4 : Code := { maxStack := 3, maxLocals := 1, code := prog_3_method_7_code, exceptionTable := #[], attributes := #[] }
def k8m4 : Method := { name := "release", desc := "()V", sig := { parameters := [], returnType := none }, accessFlags := 1, code := some k8c4 }
/-- com/example/wunce/wunce/Claim -/
def k8 : Class := { plain "com/example/wunce/wunce/Claim" (some 0) with
  accessFlags := 49
  interfaces := #[]
  cf := some (fileOf pool8 8 #[] #[{ accessFlags := 2, nameIndex := 5, descriptorIndex := 39, attributes := #[] }, { accessFlags := 8, nameIndex := 105, descriptorIndex := 106, attributes := #[] }, { accessFlags := 1, nameIndex := 42, descriptorIndex := 43, attributes := #[] }, { accessFlags := 1, nameIndex := 108, descriptorIndex := 109, attributes := #[] }, { accessFlags := 1, nameIndex := 89, descriptorIndex := 6, attributes := #[] }] 49 2 #[] #[{ accessFlags := 18, nameIndex := 11, descriptorIndex := 12, attributes := #[] }, { accessFlags := 18, nameIndex := 15, descriptorIndex := 16, attributes := #[] }, { accessFlags := 18, nameIndex := 19, descriptorIndex := 16, attributes := #[] }, { accessFlags := 18, nameIndex := 22, descriptorIndex := 23, attributes := #[] }, { accessFlags := 18, nameIndex := 26, descriptorIndex := 27, attributes := #[] }, { accessFlags := 18, nameIndex := 35, descriptorIndex := 36, attributes := #[] }])
  fields := #[{ name := "_store", type := (.object "com/example/wunce/wunce/Store"), accessFlags := 18, slot := 0, constantValue := 0 }, { name := "_key", type := (.object "java/lang/String"), accessFlags := 18, slot := 1, constantValue := 0 }, { name := "_owner", type := (.object "java/lang/String"), accessFlags := 18, slot := 2, constantValue := 0 }, { name := "_keep", type := (.object "java/time/Duration"), accessFlags := 18, slot := 3, constantValue := 0 }, { name := "_result", type := (.object "com/example/wunce/wunce/Result"), accessFlags := 18, slot := 4, constantValue := 0 }, { name := "_isEnded", type := (.object "java/util/concurrent/atomic/AtomicBoolean"), accessFlags := 18, slot := 5, constantValue := 0 }]
  methods := #[k8m0, k8m1, k8m2, k8m3, k8m4]
  instanceTypes := #[(.object "com/example/wunce/wunce/Store"), (.object "java/lang/String"), (.object "java/lang/String"), (.object "java/time/Duration"), (.object "com/example/wunce/wunce/Result"), (.object "java/util/concurrent/atomic/AtomicBoolean")]
  staticTypes := #[]
  resolved := Array.replicate 116 none
  statics := none }

def pool9 : Array CpInfo := pool [(1, .methodref 2 3), (0, .class_ 4), (0, .nameAndType 5 6), (0, u "java/lang/Object"), (0, u "<init>"), (0, u "()V"), (0, .fieldref 8 9), (0, .class_ 10), (0, .nameAndType 11 12), (0, u "java/util/concurrent/atomic/AtomicBoolean"), (0, u "value"), (0, u "I"), (2, u "VALUE"), (0, u "Ljava/lang/invoke/VarHandle;"), (87, .class_ 105), (0, u "java/io/Serializable"), (0, u "serialVersionUID"), (0, u "J"), (3, u "(Z)V")] 31

def k9c0 : Code := { maxStack := 2, maxLocals := 2, code := jdk_2802_method_1_code, exceptionTable := #[], attributes := #[] }
def k9m0 : Method := { name := "<init>", desc := "(Z)V", sig := { parameters := [.boolean], returnType := none }, accessFlags := 1, code := some k9c0 }
def k9m1 : Method := { name := "<init>", desc := "()V", sig := { parameters := [], returnType := none }, accessFlags := 1, code := none }
/-- java/util/concurrent/atomic/AtomicBoolean -/
def k9 : Class := { plain "java/util/concurrent/atomic/AtomicBoolean" (some 0) with
  accessFlags := 33
  interfaces := #[4]
  cf := some (fileOf pool9 8 #[] #[{ accessFlags := 1, nameIndex := 5, descriptorIndex := 111, attributes := #[] }, { accessFlags := 1, nameIndex := 5, descriptorIndex := 6, attributes := #[] }] 33 2 #[104] #[{ accessFlags := 26, nameIndex := 106, descriptorIndex := 107, attributes := #[] }, { accessFlags := 26, nameIndex := 15, descriptorIndex := 16, attributes := #[] }, { accessFlags := 66, nameIndex := 11, descriptorIndex := 12, attributes := #[] }])
  fields := #[{ name := "serialVersionUID", type := .long, accessFlags := 26, slot := 0, constantValue := 0 }, { name := "VALUE", type := (.object "java/lang/invoke/VarHandle"), accessFlags := 26, slot := 1, constantValue := 0 }, { name := "value", type := .int, accessFlags := 66, slot := 0, constantValue := 0 }]
  methods := #[k9m0, k9m1]
  instanceTypes := #[.int]
  staticTypes := #[.long, (.object "java/lang/invoke/VarHandle")]
  resolved := Array.replicate 143 none
  statics := none }

def pool10 : Array CpInfo := pool [(1, u "java/lang/Cloneable"), (0, .class_ 1), (0, u "java/lang/Object"), (0, .class_ 3)] 3

/-- java/lang/Cloneable -/
def k10 : Class := { plain "java/lang/Cloneable" (some 0) with
  accessFlags := 1537
  interfaces := #[]
  cf := some (fileOf pool10 2 #[] #[] 1537 4 #[] #[])
  fields := #[]
  methods := #[]
  instanceTypes := #[]
  staticTypes := #[]
  resolved := Array.replicate 8 none
  statics := none }

/-- the primitive byte -/
def k11 : Class := { plain "byte" none with kind := .primitive 'B', accessFlags := 0x411 }
/-- [B -/
def k12 : Class := { plain "[B" (some 0) with kind := .array 11 .byte, interfaces := #[10, 4], accessFlags := 1041 }

/-- the primitive int -/
def k13 : Class := { plain "int" none with kind := .primitive 'I', accessFlags := 0x411 }
/-- [I -/
def k14 : Class := { plain "[I" (some 0) with kind := .array 13 .int, interfaces := #[10, 4], accessFlags := 1041 }

def heap : Heap := #[{ cls := 6, slots := #[.ref 1, .ref 4, .ref 2, .ref 5, .ref 3, .null], vm := .statics 6 },
  { cls := 6, slots := #[.null, .int 0, .int 0], vm := .none },
  { cls := 6, slots := #[.null, .int 0, .int 0], vm := .none },
  { cls := 6, slots := #[.null, .int 0, .int 0], vm := .none },
  { cls := 6, slots := #[.null, .int 0, .int 0], vm := .none },
  { cls := 6, slots := #[.null, .int 0, .int 0], vm := .none }]
def classes : Array Class := #[k0, k1, k2, k3, k4, k5, k6, k7, k8, k9, k10, k11, k12, k13, k14]
def interned : List (Array UInt16 × Addr) := []
def slotsUsed : Nat := 21
def theMethod : MethodId := ⟨1, 2⟩
def args0 : Array Value := #[.int 5, .int 7, .int 9, .int 11]
def aboutOver (below : List Frame) : State where
  vm := { classes := classes, interned := interned.toArray }
  heap := heap
  slotsUsed := slotsUsed
  threads := #[{ frames := .invoking theMethod args0 :: below }]
def below0 : List Frame := [.native { method := ⟨0, 0⟩, args := #[] }]
def about1 : State := aboutOver below0
def p0 : Program := .bare "" "" ""
def e0 : Env := launch0.env 0 0 0
theorem w_frames : about1.frames = Frame.invoking theMethod args0 :: below0 := rfl
set_option maxRecDepth 65536 in
theorem w_args : argsFit about1.vm theMethod args0 = true := by decide +kernel
set_option maxRecDepth 65536 in
theorem w_heap : heapFits about1 = true := by decide +kernel
set_option maxRecDepth 65536 in
theorem w_runnable : about1.curStatus? = some .runnable := by decide +kernel
set_option maxRecDepth 65536 in
theorem w_alone : about1.alone = true := by decide +kernel
set_option maxRecDepth 65536 in
theorem w_named : about1.methodNamed? x = some theMethod := by decide +kernel
set_option maxRecDepth 65536 in
theorem w_hears : about1.hears theMethod below0 = true := by decide +kernel
set_option maxRecDepth 65536 in
theorem w_ripe : about1.ripe theMethod args0 below0 = true := by decide +kernel
theorem w_running : about1.status = .running := rfl
set_option maxRecDepth 65536 in
theorem w_room : about1.hasRoom e0.platform room_1 = true :=
  launch0.hasRoom_least _ room_1 (by decide +kernel) (by decide +kernel) (by decide +kernel) (by decide +kernel) (by decide +kernel) (by decide +kernel)
theorem allAtoms_all (ts : List Jvm.Cond) (a : Array Jvm.Value) (st : Jvm.State) : (allAtoms ts).before a st = ts.all (fun c => c.before a st) := by
  induction ts with
  | nil => rfl
  | cons c t ih =>
    show (Jvm.Cond.and c (allAtoms t)).before a st = _
    rw [Jvm.Cond.before_and, ih, List.all_cons]
def words1 : List Jvm.Cond := Jvm.Cond.code x code maxLocals ret :: tables_1
/-- a 'code' word, met by the world's own term for the bytes: nothing is compared byte by byte -/
theorem code_word {y : MethodName} {bytes : ByteArray} {mx : Nat} {rt : Option FieldType} {a : Array Value} {s : State} {m : MethodId} {meth : Method} {c : Code} (h1 : s.methodNamed? y = some m) (h2 : s.vm.method? m = some meth) (h3 : meth.code = some c) (h4 : c.code = bytes)
    (h5 : (c.maxLocals == mx && c.exceptionTable.isEmpty && decide (c.maxStack ≤ mostOperands) && decide (meth.sig.returnType = rt) && !meth.locks && decide (parseMethodDescriptor y.desc = some meth.sig)) = true) : (Jvm.Cond.code y bytes mx rt).before a s = true := by
  simp only [Bool.and_eq_true, beq_iff_eq, Bool.not_eq_true', decide_eq_true_eq] at h5
  obtain ⟨⟨⟨⟨⟨g1, g2⟩, g3⟩, g4⟩, g5⟩, g6⟩ := h5
  simp [Cond.before, Cond.holds, Cond.value, h1, h2, h3, h4, g1, g2, g3, g4, g5, g6]
def isCode : Jvm.Cond → Bool
  | .code _ _ _ _ => true
  | _ => false
theorem all_split {L : List Jvm.Cond} {P : Jvm.Cond → Bool} (h1 : L.all (fun c => isCode c || P c) = true) (h2 : ∀ c ∈ L.filter isCode, P c = true) : L.all P = true := by
  refine List.all_eq_true.mpr fun c hc => ?_
  have h := List.all_eq_true.mp h1 c hc
  rcases Bool.eq_false_or_eq_true (isCode c) with hi | hi
  · exact h2 c (List.mem_filter.mpr ⟨hc, hi⟩)
  · simpa [hi] using h
set_option maxRecDepth 65536 in
theorem w_c0 : (Jvm.Cond.code x code maxLocals ret).before args0 about1 = true := code_word (m := ⟨1, 2⟩) (meth := k1m2) (c := k1c2) (by decide +kernel) rfl rfl rfl (by decide +kernel)
set_option maxRecDepth 65536 in
theorem w_c1 : (Jvm.Cond.code ({ cls := "com/example/wunce/wunce/ClaimTurnedAwayPinLaw", name := "statusOf", desc := "(I)Lcom/example/wunce/wunce/Status;" } : Jvm.MethodName) method_2_code (2 : Nat) (Option.some (Jvm.ClassFile.FieldType.object "com/example/wunce/wunce/Status"))).before args0 about1 = true := code_word (m := ⟨1, 1⟩) (meth := k1m1) (c := k1c1) (by decide +kernel) rfl rfl rfl (by decide +kernel)
set_option maxRecDepth 65536 in
theorem w_c2 : (Jvm.Cond.code ({ cls := "com/example/wunce/wunce/Result", name := "<init>", desc := "(Lcom/example/wunce/wunce/Status;[B)V" } : Jvm.MethodName) prog_14_method_1_code (3 : Nat) (Option.none : Option Jvm.ClassFile.FieldType)).before args0 about1 = true := code_word (m := ⟨7, 0⟩) (meth := k7m0) (c := k7c0) (by decide +kernel) rfl rfl rfl (by decide +kernel)
set_option maxRecDepth 65536 in
theorem w_c3 : (Jvm.Cond.code ({ cls := "java/lang/Object", name := "<init>", desc := "()V" } : Jvm.MethodName) object_method_1_code (1 : Nat) (Option.none : Option Jvm.ClassFile.FieldType)).before args0 about1 = true := code_word (m := ⟨0, 0⟩) (meth := k0m0) (c := k0c0) (by decide +kernel) rfl rfl rfl (by decide +kernel)
set_option maxRecDepth 65536 in
theorem w_c4 : (Jvm.Cond.code ({ cls := "com/example/wunce/wunce/Claim", name := "turnedAway", desc := "(Lcom/example/wunce/wunce/Result;)Lcom/example/wunce/wunce/Claim;" } : Jvm.MethodName) prog_3_method_3_code (1 : Nat) (Option.some (Jvm.ClassFile.FieldType.object "com/example/wunce/wunce/Claim"))).before args0 about1 = true := code_word (m := ⟨8, 1⟩) (meth := k8m1) (c := k8c1) (by decide +kernel) rfl rfl rfl (by decide +kernel)
set_option maxRecDepth 65536 in
theorem w_c5 : (Jvm.Cond.code ({ cls := "com/example/wunce/wunce/Claim", name := "<init>", desc := "(Lcom/example/wunce/wunce/Store;Ljava/lang/String;Ljava/lang/String;Ljava/time/Duration;Lcom/example/wunce/wunce/Result;Z)V" } : Jvm.MethodName) prog_3_method_1_code (7 : Nat) (Option.none : Option Jvm.ClassFile.FieldType)).before args0 about1 = true := code_word (m := ⟨8, 0⟩) (meth := k8m0) (c := k8c0) (by decide +kernel) rfl rfl rfl (by decide +kernel)
set_option maxRecDepth 65536 in
theorem w_c6 : (Jvm.Cond.code ({ cls := "java/util/concurrent/atomic/AtomicBoolean", name := "<init>", desc := "(Z)V" } : Jvm.MethodName) jdk_2802_method_1_code (2 : Nat) (Option.none : Option Jvm.ClassFile.FieldType)).before args0 about1 = true := code_word (m := ⟨9, 0⟩) (meth := k9m0) (c := k9c0) (by decide +kernel) rfl rfl rfl (by decide +kernel)
set_option maxRecDepth 65536 in
theorem w_c7 : (Jvm.Cond.code ({ cls := "com/example/wunce/wunce/Claim", name := "isHeld", desc := "()Z" } : Jvm.MethodName) prog_3_method_4_code (1 : Nat) (Option.some Jvm.ClassFile.FieldType.boolean)).before args0 about1 = true := code_word (m := ⟨8, 2⟩) (meth := k8m2) (c := k8c2) (by decide +kernel) rfl rfl rfl (by decide +kernel)
set_option maxRecDepth 65536 in
theorem w_c8 : (Jvm.Cond.code ({ cls := "com/example/wunce/wunce/Claim", name := "result", desc := "()Lcom/example/wunce/wunce/Result;" } : Jvm.MethodName) prog_3_method_5_code (1 : Nat) (Option.some (Jvm.ClassFile.FieldType.object "com/example/wunce/wunce/Result"))).before args0 about1 = true := code_word (m := ⟨8, 3⟩) (meth := k8m3) (c := k8c3) (by decide +kernel) rfl rfl rfl (by decide +kernel)
set_option maxRecDepth 65536 in
theorem w_c9 : (Jvm.Cond.code ({ cls := "com/example/wunce/wunce/Claim", name := "release", desc := "()V" } : Jvm.MethodName) prog_3_method_7_code (1 : Nat) (Option.none : Option Jvm.ClassFile.FieldType)).before args0 about1 = true := code_word (m := ⟨8, 4⟩) (meth := k8m4) (c := k8c4) (by decide +kernel) rfl rfl rfl (by decide +kernel)
set_option maxRecDepth 65536 in
theorem w_c10 : (Jvm.Cond.code ({ cls := "com/example/wunce/wunce/Result", name := "status", desc := "()Lcom/example/wunce/wunce/Status;" } : Jvm.MethodName) prog_14_method_2_code (1 : Nat) (Option.some (Jvm.ClassFile.FieldType.object "com/example/wunce/wunce/Status"))).before args0 about1 = true := code_word (m := ⟨7, 1⟩) (meth := k7m1) (c := k7c1) (by decide +kernel) rfl rfl rfl (by decide +kernel)
set_option maxRecDepth 65536 in
theorem w_c11 : (Jvm.Cond.code ({ cls := "com/example/wunce/wunce/Result", name := "answer", desc := "()[B" } : Jvm.MethodName) prog_14_method_3_code (1 : Nat) (Option.some (Jvm.ClassFile.FieldType.array Jvm.ClassFile.FieldType.byte))).before args0 about1 = true := code_word (m := ⟨7, 2⟩) (meth := k7m2) (c := k7c2) (by decide +kernel) rfl rfl rfl (by decide +kernel)
def codes1 : List Jvm.Cond := [Jvm.Cond.code x code maxLocals ret, Jvm.Cond.code ({ cls := "com/example/wunce/wunce/ClaimTurnedAwayPinLaw", name := "statusOf", desc := "(I)Lcom/example/wunce/wunce/Status;" } : Jvm.MethodName) method_2_code (2 : Nat) (Option.some (Jvm.ClassFile.FieldType.object "com/example/wunce/wunce/Status")), Jvm.Cond.code ({ cls := "com/example/wunce/wunce/Result", name := "<init>", desc := "(Lcom/example/wunce/wunce/Status;[B)V" } : Jvm.MethodName) prog_14_method_1_code (3 : Nat) (Option.none : Option Jvm.ClassFile.FieldType), Jvm.Cond.code ({ cls := "java/lang/Object", name := "<init>", desc := "()V" } : Jvm.MethodName) object_method_1_code (1 : Nat) (Option.none : Option Jvm.ClassFile.FieldType), Jvm.Cond.code ({ cls := "com/example/wunce/wunce/Claim", name := "turnedAway", desc := "(Lcom/example/wunce/wunce/Result;)Lcom/example/wunce/wunce/Claim;" } : Jvm.MethodName) prog_3_method_3_code (1 : Nat) (Option.some (Jvm.ClassFile.FieldType.object "com/example/wunce/wunce/Claim")), Jvm.Cond.code ({ cls := "com/example/wunce/wunce/Claim", name := "<init>", desc := "(Lcom/example/wunce/wunce/Store;Ljava/lang/String;Ljava/lang/String;Ljava/time/Duration;Lcom/example/wunce/wunce/Result;Z)V" } : Jvm.MethodName) prog_3_method_1_code (7 : Nat) (Option.none : Option Jvm.ClassFile.FieldType), Jvm.Cond.code ({ cls := "java/util/concurrent/atomic/AtomicBoolean", name := "<init>", desc := "(Z)V" } : Jvm.MethodName) jdk_2802_method_1_code (2 : Nat) (Option.none : Option Jvm.ClassFile.FieldType), Jvm.Cond.code ({ cls := "com/example/wunce/wunce/Claim", name := "isHeld", desc := "()Z" } : Jvm.MethodName) prog_3_method_4_code (1 : Nat) (Option.some Jvm.ClassFile.FieldType.boolean), Jvm.Cond.code ({ cls := "com/example/wunce/wunce/Claim", name := "result", desc := "()Lcom/example/wunce/wunce/Result;" } : Jvm.MethodName) prog_3_method_5_code (1 : Nat) (Option.some (Jvm.ClassFile.FieldType.object "com/example/wunce/wunce/Result")), Jvm.Cond.code ({ cls := "com/example/wunce/wunce/Claim", name := "release", desc := "()V" } : Jvm.MethodName) prog_3_method_7_code (1 : Nat) (Option.none : Option Jvm.ClassFile.FieldType), Jvm.Cond.code ({ cls := "com/example/wunce/wunce/Result", name := "status", desc := "()Lcom/example/wunce/wunce/Status;" } : Jvm.MethodName) prog_14_method_2_code (1 : Nat) (Option.some (Jvm.ClassFile.FieldType.object "com/example/wunce/wunce/Status")), Jvm.Cond.code ({ cls := "com/example/wunce/wunce/Result", name := "answer", desc := "()[B" } : Jvm.MethodName) prog_14_method_3_code (1 : Nat) (Option.some (Jvm.ClassFile.FieldType.array Jvm.ClassFile.FieldType.byte))]
set_option maxRecDepth 65536 in
theorem codes_eq : words1.filter isCode = codes1 := rfl
theorem w_codes : ∀ c ∈ words1.filter isCode, c.before args0 about1 = true := by
  rw [codes_eq]
  intro c hc
  simp only [codes1, List.mem_cons, List.not_mem_nil, or_false] at hc
  rcases hc with rfl | rfl | rfl | rfl | rfl | rfl | rfl | rfl | rfl | rfl | rfl | rfl
  · exact w_c0
  · exact w_c1
  · exact w_c2
  · exact w_c3
  · exact w_c4
  · exact w_c5
  · exact w_c6
  · exact w_c7
  · exact w_c8
  · exact w_c9
  · exact w_c10
  · exact w_c11
set_option maxRecDepth 65536 in
theorem w_t1 : (words1.take 24).all (fun c => isCode c || c.before args0 about1) = true := by decide +kernel
set_option maxRecDepth 65536 in
theorem w_t2 : ((words1.drop 24).take 24).all (fun c => isCode c || c.before args0 about1) = true := by decide +kernel
set_option maxRecDepth 65536 in
theorem w_t3 : (((words1.drop 24).drop 24).take 24).all (fun c => isCode c || c.before args0 about1) = true := by decide +kernel
set_option maxRecDepth 65536 in
theorem w_t4 : (((words1.drop 24).drop 24).drop 24).all (fun c => isCode c || c.before args0 about1) = true := by decide +kernel
theorem w_tables : (allAtoms (Jvm.Cond.code x code maxLocals ret :: tables_1)).before args0 about1 = true := by
  rw [allAtoms_all]
  show words1.all (fun c => c.before args0 about1) = true
  refine all_split ?_ w_codes
  rw [← List.take_append_drop 24 words1, List.all_append, w_t1, ← List.take_append_drop 24 (words1.drop 24), List.all_append, w_t2, ← List.take_append_drop 24 ((words1.drop 24).drop 24), List.all_append, w_t3, w_t4]
  rfl
set_option maxRecDepth 65536 in
theorem w_case : (Jvm.Cond.and given_1 narrow_1).before args0 about1 = true := by decide +kernel
theorem w_applies : (headSpec (Jvm.Cond.code x code maxLocals ret :: tables_1) room_1).applies x e0.platform about1 = true :=
  (Spec.applies_iff w_frames).mpr ⟨w_running, w_runnable, w_alone, w_named, w_hears, w_ripe, w_room, w_tables⟩
theorem atStart : AtStart classFile x code maxLocals ret World_1 tables_1 room_1 Calls_1 rest_1 Pre_1 launch0 p0 e0 about1 theMethod args0 below0 :=
  ⟨lists_1, trivial, launch0.admits_env _ _ _, launch0.least_env, fairChoices_fair.cas, fairChoices_fair.clock, w_frames, w_args, w_heap, w_applies, trivial, trivial, w_case⟩
end start1
theorem witness_1 : WitnessClaimed_1 := ⟨start1.p0, start1.e0, start1.about1, start1.theMethod, start1.args0, start1.below0, start1.atStart⟩
end Jvm.Pilot.@@N@@
