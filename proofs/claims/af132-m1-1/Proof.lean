import JvmDerived
import JvmDerived.Pilot.@@N@@Statement
import JvmDerived.Pilot.@@N@@Code
set_option linter.unusedVariables false
set_option linter.unusedSimpArgs false
namespace Jvm.Pilot.@@N@@
open Jvm Jvm.ClassFile Sem Op Lib Jvm.Free Jvm.Stand Jvm.LawKit Jvm.RoadKit Bundle Jvm.Pilot.@@N@@.Jvm.D
section Own
variable {p : Program} {l : Launch} {e : Env} {R : Room} {s : State} {m : MethodId} {args : Array Value} {below : List Frame} {meth : Method} {c : Code} {T : State} {locs : List Loc} {cells slots : Nat}
def Ends (p : Program) (e : Env) (below : List Frame) (Q : Outcome → State → Prop) (S : State) : Prop := ∃ s₂ o, Steps p.tables e below S s₂ ∧ s₂.status = .running ∧ Ended s₂ below o ∧ Q o s₂
theorem Ends.opn {Q : Outcome → State → Prop} {S : State} (h : ∀ QQ : Outcome → State → Prop, (∀ o t, Q o t → QQ o t) → Ends p e below QQ S) : ∃ s₂ o, Steps p.tables e below S s₂ ∧ s₂.status = .running ∧ Ended s₂ below o ∧ Q o s₂ := h Q fun _ _ q => q
theorem Ends.step {Q : Outcome → State → Prop} {S S' : State} (k : ∀ t, Steps p.tables e below S' t → Steps p.tables e below S t) (h : Ends p e below Q S') : Ends p e below Q S := by
  obtain ⟨a, o, h1, h2⟩ := h
  exact ⟨a, o, k _ h1, h2⟩
theorem Ends.fin {QQ : Outcome → State → Prop} {Q : Option Value → Heap → List Loc → Prop} {cl sl : Nat} {g : JFrame} {h : Heap} (v : Option Value) (X : Stand p l e R s m args below meth c T locs cells slots)
    (hQQ : ∀ o t, (∃ v L, o = .returned v ∧ Q v t.heap L ∧ FrameEnd s o t L cl sl) → QQ o t) (hv : meth.sig.returnType = none → v = none) (hlocks : meth.locks = false)
    (hstep : ∀ fs, (∀ (f : JFrame) (acts : List Action), f.method = m → f.locked = none → f.entered = [] → (doReturn e (T.setTop f) acts v).1 = T.setFrames fs) → Steps p.tables e below (T.setTop g) (T.setFrames fs))
    (eT : T.heap = h) (hc : cells ≤ cl) (hs : slots ≤ sl) (q : Q v h locs) : Ends p e below QQ (T.setTop g) := by
  obtain ⟨fs, hr, hrun, hended, hW, hsame⟩ := X.leave hv hlocks
  subst eT
  exact ⟨_, _, hstep fs hr, hrun, hended, hQQ _ _ ⟨v, locs, rfl, q, ⟨_, rfl⟩, hW, hsame.mono hc hs⟩⟩
theorem own_01 {c : Prop} [Decidable c] {a b : Int32} (ha : a = 0 ∨ a = 1) (hb : b = 0 ∨ b = 1) : (if c then a else b) = 0 ∨ (if c then a else b) = 1 := by
  split <;> assumption
theorem own_narB {x : Int32} (h : x = 0 ∨ x = 1) : narrow .boolean (.int x) = .int x := by rcases h with rfl | rfl <;> rfl
theorem own_narref {v : Value} {t : FieldType} (h : v.isRef = true) (ht : t.isReference = true) : narrow t v = v := by
  cases t <;> first | (cases ht; done) | (cases v <;> first | rfl | cases h)
theorem own_fitref {v : Value} {t : FieldType} (h : v.isRef = true) (ht : t.isReference = true) : fits t v = true := by
  cases t <;> first | (cases ht; done) | (cases v <;> first | rfl | cases h)
theorem own_nar255 (b : Int32) : narrow .char (.int (b &&& (255 : Int32))) = .int (b &&& (255 : Int32)) := by
  have h := XT.narrow_c (b &&& 255)
  rw [i2c_mask] at h
  exact h
theorem own_narb (x : Int32) : nar .byte x.toInt8.toInt32 = x.toInt8.toInt32 := by simp [nar]
theorem own_ins_keep {Z : State} {h h' : Heap} {a : Addr} {C : String} {b : Bool} {ws : List Addr} (F : Ins Z h a C b) (K : Keep h h' ws) : Ins Z h' a C b := by
  obtain ⟨cell, cT, h1, h2, h3⟩ := F
  obtain ⟨c', q1, q2, q3, -⟩ := K.2.2 _ _ h1
  exact ⟨c', cT, q1, h2, by rw [q2, q3]; exact h3⟩
theorem own_sta_keep {Z : State} {h h' : Heap} {C n d : String} {v : Value} {ws : List Addr} (F : Sta Z h C n d v) (K : Keep h h' ws) (q : ∀ x ∈ ws, ∃ c : Cell, h[x]? = some c ∧ ∀ q, c.vm ≠ .statics q) : Sta Z h' C n d v := by
  obtain ⟨cf, i, k, f, st, cell, h1, h2, h3, h4, h5, h6, h7⟩ := F
  refine ⟨cf, i, k, f, st, cell, h1, h2, h3, h4, K.2.1 _ _ h5 fun hm => ?_, h6, h7⟩
  obtain ⟨c, q1, q2⟩ := q _ hm
  cases h5.symm.trans q1
  cases hq : cell.vm <;> first | exact q2 _ hq | (rw [hq] at h6; cases h6)
theorem lremM {g : JFrame} {target : State} (X : Stand p l e R s m args below meth c T locs cells slots) (hx : p.tables.exec = Jvm.exec) (hg : g.method = m) {x y : Int64} {rest : List Value} (hd : decode c.code g.pc = .ok (.lrem, 1)) (hs : g.stack = .long y :: .long x :: rest) (hy : y ≠ 0)
    (hr : Steps p.tables e below (T.setTop { g with pc := g.pc + 1, stack := .long (x % y) :: rest }) target) : Steps p.tables e below (T.setTop g) target := by
  have q : x - x / y * y = x % y := lrem_mod x y
  exact XT.lrem X.here hx hg hd hs hy (by rw [q]; exact hr)
end Own
theorem pn_0 : plainName "com/example/glyphdelve/glyphdelve/Stomach" = true := by first | (simp [plainName, overriddenIn]; done) | decide +kernel
theorem pn_1 : plainName "com/example/glyphdelve/glyphdelve/StomachFillPinLaw" = true := by first | (simp [plainName, overriddenIn]; done) | decide +kernel
theorem pd_0 : parseMethodDescriptor "()V" = some ⟨[], none⟩ := by decide +kernel
theorem pd_1 : parseMethodDescriptor "(I)Z" = some ⟨[.int], some .boolean⟩ := by decide +kernel
theorem pd_2 : parseMethodDescriptor "(I)V" = some ⟨[.int], none⟩ := by decide +kernel
theorem pd_3 : parseMethodDescriptor "()I" = some ⟨[], some .int⟩ := by decide +kernel
def fd3 (p1 u w : Int32) : Int32 := if w < (u + p1) then ((w + (u + p1)) / (2 : Int32)) else (u + p1)
def ms3 (p1 u w : Int32) : Int32 := if w < (u + p1) then ((w + (u + p1)) / (2 : Int32)) else w

theorem d1_0 : decode prog_22_method_1_code 0 = .ok (.aload_n 0, 1) := by decide +kernel
theorem d1_1 : decode prog_22_method_1_code 1 = .ok (.invokespecial 1, 3) := by decide +kernel
theorem d1_4 : decode prog_22_method_1_code 4 = .ok (.aload_n 0, 1) := by decide +kernel
theorem d1_5 : decode prog_22_method_1_code 5 = .ok (.sipush 700, 3) := by decide +kernel
theorem d1_8 : decode prog_22_method_1_code 8 = .ok (.putfield 9, 3) := by decide +kernel
theorem d1_11 : decode prog_22_method_1_code 11 = .ok (.aload_n 0, 1) := by decide +kernel
theorem d1_12 : decode prog_22_method_1_code 12 = .ok (.sipush 1000, 3) := by decide +kernel
theorem d1_15 : decode prog_22_method_1_code 15 = .ok (.putfield 13, 3) := by decide +kernel
theorem d1_18 : decode prog_22_method_1_code 18 = .ok (.return_, 1) := by decide +kernel
theorem ef_1 (m : MethodId) (x0 : Addr) : entryFrame m #[(.ref x0)] 1 = mkF m 0 #[.val (.ref x0)] [] := by first | (simp [entryFrame, mkF, argsToLocals, Value.category]; done) | rfl
def Q1 (Z : State) (o0 : Addr) (u : Int32) (w : Int32) (h0 : Heap) (n0 : Nat) (v : Option Value) (h : Heap) (L : List Loc) : Prop := (v = none) ∧ (Fr n0 L) ∧ (Keep h0 h [o0]) ∧ (Exa Z h o0 "com/example/glyphdelve/glyphdelve/Stomach") ∧ (Fld Z h o0 "com/example/glyphdelve/glyphdelve/Stomach" "food" "I" (.int (700 : Int32))) ∧ (Fld Z h o0 "com/example/glyphdelve/glyphdelve/Stomach" "most" "I" (.int (1000 : Int32)))
set_option maxRecDepth 65536 in
set_option maxHeartbeats 40000000 in
theorem rm1 (l : Launch) (Z : State) (a0 : Array Value) (hw : ∀ d ∈ tables_1, d.before a0 Z = true) (ws : List Jvm.Cond) (o0 : Addr) (u : Int32) (w : Int32) (h0 : Heap) (n0 : Nat) (Z0 : n0 ≤ h0.size) (E_o0 : Exa Z h0 o0 "com/example/glyphdelve/glyphdelve/Stomach") (F_food_o0 : Fld Z h0 o0 "com/example/glyphdelve/glyphdelve/Stomach" "food" "I" (.int u)) (F_most_o0 : Fld Z h0 o0 "com/example/glyphdelve/glyphdelve/Stomach" "most" "I" (.int w)) (g_o0 : n0 ≤ o0) :
    MetFree l (⟨"com/example/glyphdelve/glyphdelve/Stomach", "<init>", "()V"⟩ : MethodName) (head1 (Jvm.Cond.code (⟨"com/example/glyphdelve/glyphdelve/Stomach", "<init>", "()V"⟩ : MethodName) prog_22_method_1_code 1 none :: ws) ({ frames := 1, cells := 0, slots := 0, locals := 12 } : Room)) (fun a U => a = #[(.ref o0)] ∧ Z.Warmed39 U.vm ∧ U.heap = h0) (fun _ _ _ _ _ => True) (fun _ U o U' => ∃ v L, o = .returned v ∧ Q1 Z o0 u w h0 n0 v U'.heap L ∧ FrameEnd U o U' L ({ frames := 1, cells := 0, slots := 0, locals := 12 } : Room).cells ({ frames := 1, cells := 0, slots := 0, locals := 12 } : Room).slots) := by
  refine MetFree.of_bodySF (plainFor_of_name pn_0) hisR ?_
  intro p e s m args below meth c s₁ Bd hml0 hP hK
  obtain ⟨rfl, hZ, hh⟩ := hP
  have hx := Bd.exec
  have hby := Bd.bytes
  have hml : c.maxLocals = 1 := hml0
  have hown : s.vm.findClass "com/example/glyphdelve/glyphdelve/Stomach" = some m.cls := findClass_of_methodNamed Bd.named
  have hnm := (name_of_methodNamed Bd.named Bd.method).1
  have X0 : Stand p l e ({ frames := 1, cells := 0, slots := 0, locals := 12 } : Room) s m #[(.ref o0)] below meth c s₁ [] 0 0 := Stand.of_body Bd
  have e0 : s₁.heap = h0 := by rw [← hh, Bd.state]; rfl
  have N0 := Fr.nil n0
  refine Ends.opn ?_
  intro QQ hQQ
  refine Ends.step (S' := s₁.setTop (mkF m 0 #[.val (.ref o0)] [])) (fun t k => castTop (ef_1 m o0) k) ?_
  show Ends p e below QQ (s₁.setTop (mkF m 0 #[.val (.ref o0)] []))
  refine Ends.step (fun _ k => XS.aloadN X0.here hx rfl (hb hby d1_0) rfl rfl k) ?_
  show Ends p e below QQ (s₁.setTop (mkF m 1 #[.val (.ref o0)] [(.ref o0)]))
  obtain ⟨T1, X1, e1, st1⟩ := initO X0 hx hZ hown (hw _ (List.mem_of_getElem? (i := 6) rfl)) (hw _ (List.mem_of_getElem? (i := 7) rfl)) (hw _ (List.mem_of_getElem? (i := 8) rfl)) e0 (g := (mkF m 1 #[.val (.ref o0)] [(.ref o0)])) rfl (by rw [hml]; rfl) rfl (hb hby d1_1) (by decide) (W := 0) (by show 2 * 0 + _ ≤ _; exact Nat.le_of_eq rfl) (by decide)
  refine Ends.step st1 ?_
  show Ends p e below QQ (T1.setTop (mkF m 4 #[.val (.ref o0)] []))
  refine Ends.step (fun _ k => XS.aloadN X1.here hx rfl (hb hby d1_4) rfl rfl k) ?_
  show Ends p e below QQ (T1.setTop (mkF m 5 #[.val (.ref o0)] [(.ref o0)]))
  refine Ends.step (fun _ k => XT.sipushV X1.here hx rfl (700 : Int32) (hb hby d1_5) rfl k) ?_
  show Ends p e below QQ (T1.setTop (mkF m 8 #[.val (.ref o0)] [(.int (700 : Int32)), (.ref o0)]))
  obtain ⟨T2, h2, X2, e2, W2, st2⟩ := putF X1 hx hZ hown (host := "") (Or.inl (hw _ (List.mem_of_getElem? (i := 9) rfl))) Via.refl e1 F_food_o0 E_o0 (Or.inl (hw _ (List.mem_of_getElem? (i := 10) rfl))) (hw _ (List.mem_of_getElem? (i := 1) rfl)) (ty := .int) (by decide) rfl rfl (g := (mkF m 8 #[.val (.ref o0)] [(.int (700 : Int32)), (.ref o0)])) rfl rfl (hb hby d1_8)
  have E_o0 := E_o0.wr W2
  have F_most_o0 := F_most_o0.other W2 (Or.inr (slot_ne (Or.inl (hw _ (List.mem_of_getElem? (i := 12) rfl))) (Or.inl (hw _ (List.mem_of_getElem? (i := 10) rfl))) (by decide) (t := .int) (t' := .int) (by decide) (by decide)))
  have F_food_o0 : Fld Z h2 o0 "com/example/glyphdelve/glyphdelve/Stomach" "food" "I" (.int (700 : Int32)) := F_food_o0.same W2
  have K2 := (Keep.refl h0 [o0]).wr W2 (Or.inl (List.mem_of_getElem? (i := 0) rfl))
  have N2 := Fr.snoc X2 N0 g_o0
  refine Ends.step st2 ?_
  show Ends p e below QQ (T2.setTop (mkF m 11 #[.val (.ref o0)] []))
  refine Ends.step (fun _ k => XS.aloadN X2.here hx rfl (hb hby d1_11) rfl rfl k) ?_
  show Ends p e below QQ (T2.setTop (mkF m 12 #[.val (.ref o0)] [(.ref o0)]))
  refine Ends.step (fun _ k => XT.sipushV X2.here hx rfl (1000 : Int32) (hb hby d1_12) rfl k) ?_
  show Ends p e below QQ (T2.setTop (mkF m 15 #[.val (.ref o0)] [(.int (1000 : Int32)), (.ref o0)]))
  obtain ⟨T3, h3, X3, e3, W3, st3⟩ := putF X2 hx hZ hown (host := "") (Or.inl (hw _ (List.mem_of_getElem? (i := 11) rfl))) Via.refl e2 F_most_o0 E_o0 (Or.inl (hw _ (List.mem_of_getElem? (i := 12) rfl))) (hw _ (List.mem_of_getElem? (i := 1) rfl)) (ty := .int) (by decide) rfl rfl (g := (mkF m 15 #[.val (.ref o0)] [(.int (1000 : Int32)), (.ref o0)])) rfl rfl (hb hby d1_15)
  have E_o0 := E_o0.wr W3
  have F_food_o0 := F_food_o0.other W3 (Or.inr (slot_ne (Or.inl (hw _ (List.mem_of_getElem? (i := 10) rfl))) (Or.inl (hw _ (List.mem_of_getElem? (i := 12) rfl))) (by decide) (t := .int) (t' := .int) (by decide) (by decide)))
  have F_most_o0 : Fld Z h3 o0 "com/example/glyphdelve/glyphdelve/Stomach" "most" "I" (.int (1000 : Int32)) := F_most_o0.same W3
  have K3 := K2.wr W3 (Or.inl (List.mem_of_getElem? (i := 0) rfl))
  have N3 := Fr.snoc X3 N2 g_o0
  refine Ends.step st3 ?_
  show Ends p e below QQ (T3.setTop (mkF m 18 #[.val (.ref o0)] []))
  exact Ends.fin (none) X3 hQQ (fun _ => rfl) Bd.notSynchronized (fun _ hr => X3.returnOut hx Bd.returns (hb hby d1_18) hr) e3 (by decide) (by decide) ⟨rfl, N3, K3, E_o0, F_food_o0, F_most_o0⟩
theorem d3_0 : decode prog_22_method_6_code 0 = .ok (.aload_n 0, 1) := by decide +kernel
theorem d3_1 : decode prog_22_method_6_code 1 = .ok (.getfield 9, 3) := by decide +kernel
theorem d3_4 : decode prog_22_method_6_code 4 = .ok (.iload_n 1, 1) := by decide +kernel
theorem d3_5 : decode prog_22_method_6_code 5 = .ok (.iadd, 1) := by decide +kernel
theorem d3_6 : decode prog_22_method_6_code 6 = .ok (.istore_n 2, 1) := by decide +kernel
theorem d3_7 : decode prog_22_method_6_code 7 = .ok (.iload_n 2, 1) := by decide +kernel
theorem d3_8 : decode prog_22_method_6_code 8 = .ok (.aload_n 0, 1) := by decide +kernel
theorem d3_9 : decode prog_22_method_6_code 9 = .ok (.getfield 13, 3) := by decide +kernel
theorem d3_12 : decode prog_22_method_6_code 12 = .ok (.if_icmp .gt 10, 3) := by decide +kernel
theorem d3_15 : decode prog_22_method_6_code 15 = .ok (.aload_n 0, 1) := by decide +kernel
theorem d3_16 : decode prog_22_method_6_code 16 = .ok (.iload_n 2, 1) := by decide +kernel
theorem d3_17 : decode prog_22_method_6_code 17 = .ok (.putfield 9, 3) := by decide +kernel
theorem d3_20 : decode prog_22_method_6_code 20 = .ok (.iconst 0, 1) := by decide +kernel
theorem d3_21 : decode prog_22_method_6_code 21 = .ok (.ireturn, 1) := by decide +kernel
theorem d3_22 : decode prog_22_method_6_code 22 = .ok (.aload_n 0, 1) := by decide +kernel
theorem d3_23 : decode prog_22_method_6_code 23 = .ok (.aload_n 0, 1) := by decide +kernel
theorem d3_24 : decode prog_22_method_6_code 24 = .ok (.getfield 13, 3) := by decide +kernel
theorem d3_27 : decode prog_22_method_6_code 27 = .ok (.iload_n 2, 1) := by decide +kernel
theorem d3_28 : decode prog_22_method_6_code 28 = .ok (.iadd, 1) := by decide +kernel
theorem d3_29 : decode prog_22_method_6_code 29 = .ok (.iconst 2, 1) := by decide +kernel
theorem d3_30 : decode prog_22_method_6_code 30 = .ok (.idiv, 1) := by decide +kernel
theorem d3_31 : decode prog_22_method_6_code 31 = .ok (.putfield 13, 3) := by decide +kernel
theorem d3_34 : decode prog_22_method_6_code 34 = .ok (.aload_n 0, 1) := by decide +kernel
theorem d3_35 : decode prog_22_method_6_code 35 = .ok (.aload_n 0, 1) := by decide +kernel
theorem d3_36 : decode prog_22_method_6_code 36 = .ok (.getfield 13, 3) := by decide +kernel
theorem d3_39 : decode prog_22_method_6_code 39 = .ok (.putfield 9, 3) := by decide +kernel
theorem d3_42 : decode prog_22_method_6_code 42 = .ok (.iconst 1, 1) := by decide +kernel
theorem d3_43 : decode prog_22_method_6_code 43 = .ok (.ireturn, 1) := by decide +kernel
theorem ef_3 (m : MethodId) (x0 : Addr) (x1 : Int32) : entryFrame m #[(.ref x0), (.int x1)] 3 = mkF m 0 #[.val (.ref x0), .val (.int x1), .unset] [] := by first | (simp [entryFrame, mkF, argsToLocals, Value.category]; done) | rfl
def f3 (p1 : Int32) (u : Int32) (w : Int32) : Int32 := (if w < (u + p1) then (1 : Int32) else (0 : Int32))
theorem f3_01 (p1 : Int32) (u : Int32) (w : Int32) : f3 p1 u w = 0 ∨ f3 p1 u w = 1 := by
  simp only [f3]
  repeat' (first | exact Or.inl rfl | exact Or.inr rfl | apply own_01)
def Q3 (Z : State) (o0 : Addr) (p1 : Int32) (u : Int32) (w : Int32) (h0 : Heap) (n0 : Nat) (v : Option Value) (h : Heap) (L : List Loc) : Prop := (v = some (.int (f3 p1 u w))) ∧ (Fr n0 L) ∧ (Keep h0 h [o0]) ∧ (Exa Z h o0 "com/example/glyphdelve/glyphdelve/Stomach") ∧ (Fld Z h o0 "com/example/glyphdelve/glyphdelve/Stomach" "food" "I" (.int (fd3 p1 u w))) ∧ (Fld Z h o0 "com/example/glyphdelve/glyphdelve/Stomach" "most" "I" (.int (ms3 p1 u w)))
set_option maxRecDepth 65536 in
set_option maxHeartbeats 40000000 in
theorem rm3 (l : Launch) (Z : State) (a0 : Array Value) (hw : ∀ d ∈ tables_1, d.before a0 Z = true) (ws : List Jvm.Cond) (o0 : Addr) (p1 : Int32) (u : Int32) (w : Int32) (h0 : Heap) (n0 : Nat) (Z0 : n0 ≤ h0.size) (E_o0 : Exa Z h0 o0 "com/example/glyphdelve/glyphdelve/Stomach") (F_food_o0 : Fld Z h0 o0 "com/example/glyphdelve/glyphdelve/Stomach" "food" "I" (.int u)) (F_most_o0 : Fld Z h0 o0 "com/example/glyphdelve/glyphdelve/Stomach" "most" "I" (.int w)) (g_o0 : n0 ≤ o0) :
    MetFree l (⟨"com/example/glyphdelve/glyphdelve/Stomach", "fill", "(I)Z"⟩ : MethodName) (head1 (Jvm.Cond.code (⟨"com/example/glyphdelve/glyphdelve/Stomach", "fill", "(I)Z"⟩ : MethodName) prog_22_method_6_code 3 (some .boolean) :: ws) ({ frames := 0, cells := 0, slots := 0, locals := 0 } : Room)) (fun a U => a = #[(.ref o0), (.int p1)] ∧ Z.Warmed39 U.vm ∧ U.heap = h0) (fun _ _ _ _ _ => True) (fun _ U o U' => ∃ v L, o = .returned v ∧ Q3 Z o0 p1 u w h0 n0 v U'.heap L ∧ FrameEnd U o U' L ({ frames := 0, cells := 0, slots := 0, locals := 0 } : Room).cells ({ frames := 0, cells := 0, slots := 0, locals := 0 } : Room).slots) := by
  refine MetFree.of_bodySF (plainFor_of_name pn_0) hisR ?_
  intro p e s m args below meth c s₁ Bd hml0 hP hK
  obtain ⟨rfl, hZ, hh⟩ := hP
  have hx := Bd.exec
  have hby := Bd.bytes
  have hml : c.maxLocals = 3 := hml0
  have hown : s.vm.findClass "com/example/glyphdelve/glyphdelve/Stomach" = some m.cls := findClass_of_methodNamed Bd.named
  have hnm := (name_of_methodNamed Bd.named Bd.method).1
  have X0 : Stand p l e ({ frames := 0, cells := 0, slots := 0, locals := 0 } : Room) s m #[(.ref o0), (.int p1)] below meth c s₁ [] 0 0 := Stand.of_body Bd
  have e0 : s₁.heap = h0 := by rw [← hh, Bd.state]; rfl
  have N0 := Fr.nil n0
  refine Ends.opn ?_
  intro QQ hQQ
  refine Ends.step (S' := s₁.setTop (mkF m 0 #[.val (.ref o0), .val (.int p1), .unset] [])) (fun t k => castTop (ef_3 m o0 p1) k) ?_
  show Ends p e below QQ (s₁.setTop (mkF m 0 #[.val (.ref o0), .val (.int p1), .unset] []))
  refine Ends.step (fun _ k => XS.aloadN X0.here hx rfl (hb hby d3_0) rfl rfl k) ?_
  show Ends p e below QQ (s₁.setTop (mkF m 1 #[.val (.ref o0), .val (.int p1), .unset] [(.ref o0)]))
  obtain ⟨T4, X4, e4, st4⟩ := getF X0 hx hZ hown (host := "") (Or.inl (hw _ (List.mem_of_getElem? (i := 9) rfl))) Via.refl e0 F_food_o0 (g := (mkF m 1 #[.val (.ref o0), .val (.int p1), .unset] [(.ref o0)])) rfl rfl (hb hby d3_1)
  refine Ends.step st4 ?_
  show Ends p e below QQ (T4.setTop (mkF m 4 #[.val (.ref o0), .val (.int p1), .unset] [(.int u)]))
  refine Ends.step (fun _ k => XS.iloadN X4.here hx rfl (hb hby d3_4) rfl k) ?_
  show Ends p e below QQ (T4.setTop (mkF m 5 #[.val (.ref o0), .val (.int p1), .unset] [(.int p1), (.int u)]))
  refine Ends.step (fun _ k => XS.iadd X4.here hx rfl (hb hby d3_5) rfl k) ?_
  show Ends p e below QQ (T4.setTop (mkF m 6 #[.val (.ref o0), .val (.int p1), .unset] [(.int (u + p1))]))
  refine Ends.step (fun _ k => XS.istoreN X4.here hx rfl (hb hby d3_6) rfl (l' := #[.val (.ref o0), .val (.int p1), .val (.int (u + p1))]) rfl k) ?_
  show Ends p e below QQ (T4.setTop (mkF m 7 #[.val (.ref o0), .val (.int p1), .val (.int (u + p1))] []))
  refine Ends.step (fun _ k => XS.iloadN X4.here hx rfl (hb hby d3_7) rfl k) ?_
  show Ends p e below QQ (T4.setTop (mkF m 8 #[.val (.ref o0), .val (.int p1), .val (.int (u + p1))] [(.int (u + p1))]))
  refine Ends.step (fun _ k => XS.aloadN X4.here hx rfl (hb hby d3_8) rfl rfl k) ?_
  show Ends p e below QQ (T4.setTop (mkF m 9 #[.val (.ref o0), .val (.int p1), .val (.int (u + p1))] [(.ref o0), (.int (u + p1))]))
  obtain ⟨T5, X5, e5, st5⟩ := getF X4 hx hZ hown (host := "") (Or.inl (hw _ (List.mem_of_getElem? (i := 11) rfl))) Via.refl e4 F_most_o0 (g := (mkF m 9 #[.val (.ref o0), .val (.int p1), .val (.int (u + p1))] [(.ref o0), (.int (u + p1))])) rfl rfl (hb hby d3_9)
  refine Ends.step st5 ?_
  show Ends p e below QQ (T5.setTop (mkF m 12 #[.val (.ref o0), .val (.int p1), .val (.int (u + p1))] [(.int w), (.int (u + p1))]))
  by_cases hc12_6 : w < (u + p1)
  · refine Ends.step (fun _ k => XS.icmpYes X5.here hx rfl (pc0 := 12) (pc' := 22) rfl (hb hby d3_12) rfl (XT.ii_gt_t hc12_6) (by decide) (by decide) k) ?_
    show Ends p e below QQ (T5.setTop (mkF m 22 #[.val (.ref o0), .val (.int p1), .val (.int (u + p1))] []))
    refine Ends.step (fun _ k => XS.aloadN X5.here hx rfl (hb hby d3_22) rfl rfl k) ?_
    show Ends p e below QQ (T5.setTop (mkF m 23 #[.val (.ref o0), .val (.int p1), .val (.int (u + p1))] [(.ref o0)]))
    refine Ends.step (fun _ k => XS.aloadN X5.here hx rfl (hb hby d3_23) rfl rfl k) ?_
    show Ends p e below QQ (T5.setTop (mkF m 24 #[.val (.ref o0), .val (.int p1), .val (.int (u + p1))] [(.ref o0), (.ref o0)]))
    obtain ⟨T7, X7, e7, st7⟩ := getF X5 hx hZ hown (host := "") (Or.inl (hw _ (List.mem_of_getElem? (i := 11) rfl))) Via.refl e5 F_most_o0 (g := (mkF m 24 #[.val (.ref o0), .val (.int p1), .val (.int (u + p1))] [(.ref o0), (.ref o0)])) rfl rfl (hb hby d3_24)
    refine Ends.step st7 ?_
    show Ends p e below QQ (T7.setTop (mkF m 27 #[.val (.ref o0), .val (.int p1), .val (.int (u + p1))] [(.int w), (.ref o0)]))
    refine Ends.step (fun _ k => XS.iloadN X7.here hx rfl (hb hby d3_27) rfl k) ?_
    show Ends p e below QQ (T7.setTop (mkF m 28 #[.val (.ref o0), .val (.int p1), .val (.int (u + p1))] [(.int (u + p1)), (.int w), (.ref o0)]))
    refine Ends.step (fun _ k => XS.iadd X7.here hx rfl (hb hby d3_28) rfl k) ?_
    show Ends p e below QQ (T7.setTop (mkF m 29 #[.val (.ref o0), .val (.int p1), .val (.int (u + p1))] [(.int (w + (u + p1))), (.ref o0)]))
    refine Ends.step (fun _ k => XT.iconstV X7.here hx rfl (2 : Int32) (hb hby d3_29) rfl k) ?_
    show Ends p e below QQ (T7.setTop (mkF m 30 #[.val (.ref o0), .val (.int p1), .val (.int (u + p1))] [(.int (2 : Int32)), (.int (w + (u + p1))), (.ref o0)]))
    refine Ends.step (fun _ k => XS.idiv X7.here hx rfl (hb hby d3_30) rfl (by decide) k) ?_
    show Ends p e below QQ (T7.setTop (mkF m 31 #[.val (.ref o0), .val (.int p1), .val (.int (u + p1))] [(.int ((w + (u + p1)) / (2 : Int32))), (.ref o0)]))
    obtain ⟨T8, h8, X8, e8, W8, st8⟩ := putF X7 hx hZ hown (host := "") (Or.inl (hw _ (List.mem_of_getElem? (i := 11) rfl))) Via.refl e7 F_most_o0 E_o0 (Or.inl (hw _ (List.mem_of_getElem? (i := 12) rfl))) (hw _ (List.mem_of_getElem? (i := 1) rfl)) (ty := .int) (by decide) rfl rfl (g := (mkF m 31 #[.val (.ref o0), .val (.int p1), .val (.int (u + p1))] [(.int ((w + (u + p1)) / (2 : Int32))), (.ref o0)])) rfl rfl (hb hby d3_31)
    have E_o0 := E_o0.wr W8
    have F_food_o0 := F_food_o0.other W8 (Or.inr (slot_ne (Or.inl (hw _ (List.mem_of_getElem? (i := 10) rfl))) (Or.inl (hw _ (List.mem_of_getElem? (i := 12) rfl))) (by decide) (t := .int) (t' := .int) (by decide) (by decide)))
    have F_most_o0 : Fld Z h8 o0 "com/example/glyphdelve/glyphdelve/Stomach" "most" "I" (.int ((w + (u + p1)) / (2 : Int32))) := F_most_o0.same W8
    have K8 := (Keep.refl h0 [o0]).wr W8 (Or.inl (List.mem_of_getElem? (i := 0) rfl))
    have N8 := Fr.snoc X8 N0 g_o0
    refine Ends.step st8 ?_
    show Ends p e below QQ (T8.setTop (mkF m 34 #[.val (.ref o0), .val (.int p1), .val (.int (u + p1))] []))
    refine Ends.step (fun _ k => XS.aloadN X8.here hx rfl (hb hby d3_34) rfl rfl k) ?_
    show Ends p e below QQ (T8.setTop (mkF m 35 #[.val (.ref o0), .val (.int p1), .val (.int (u + p1))] [(.ref o0)]))
    refine Ends.step (fun _ k => XS.aloadN X8.here hx rfl (hb hby d3_35) rfl rfl k) ?_
    show Ends p e below QQ (T8.setTop (mkF m 36 #[.val (.ref o0), .val (.int p1), .val (.int (u + p1))] [(.ref o0), (.ref o0)]))
    obtain ⟨T9, X9, e9, st9⟩ := getF X8 hx hZ hown (host := "") (Or.inl (hw _ (List.mem_of_getElem? (i := 11) rfl))) Via.refl e8 F_most_o0 (g := (mkF m 36 #[.val (.ref o0), .val (.int p1), .val (.int (u + p1))] [(.ref o0), (.ref o0)])) rfl rfl (hb hby d3_36)
    refine Ends.step st9 ?_
    show Ends p e below QQ (T9.setTop (mkF m 39 #[.val (.ref o0), .val (.int p1), .val (.int (u + p1))] [(.int ((w + (u + p1)) / (2 : Int32))), (.ref o0)]))
    obtain ⟨T10, h10, X10, e10, W10, st10⟩ := putF X9 hx hZ hown (host := "") (Or.inl (hw _ (List.mem_of_getElem? (i := 9) rfl))) Via.refl e9 F_food_o0 E_o0 (Or.inl (hw _ (List.mem_of_getElem? (i := 10) rfl))) (hw _ (List.mem_of_getElem? (i := 1) rfl)) (ty := .int) (by decide) rfl rfl (g := (mkF m 39 #[.val (.ref o0), .val (.int p1), .val (.int (u + p1))] [(.int ((w + (u + p1)) / (2 : Int32))), (.ref o0)])) rfl rfl (hb hby d3_39)
    have E_o0 := E_o0.wr W10
    have F_most_o0 := F_most_o0.other W10 (Or.inr (slot_ne (Or.inl (hw _ (List.mem_of_getElem? (i := 12) rfl))) (Or.inl (hw _ (List.mem_of_getElem? (i := 10) rfl))) (by decide) (t := .int) (t' := .int) (by decide) (by decide)))
    have F_food_o0 : Fld Z h10 o0 "com/example/glyphdelve/glyphdelve/Stomach" "food" "I" (.int ((w + (u + p1)) / (2 : Int32))) := F_food_o0.same W10
    have K10 := K8.wr W10 (Or.inl (List.mem_of_getElem? (i := 0) rfl))
    have N10 := Fr.snoc X10 N8 g_o0
    refine Ends.step st10 ?_
    show Ends p e below QQ (T10.setTop (mkF m 42 #[.val (.ref o0), .val (.int p1), .val (.int (u + p1))] []))
    refine Ends.step (fun _ k => XT.iconstV X10.here hx rfl (1 : Int32) (hb hby d3_42) rfl k) ?_
    show Ends p e below QQ (T10.setTop (mkF m 43 #[.val (.ref o0), .val (.int p1), .val (.int (u + p1))] [(.int (1 : Int32))]))
    exact Ends.fin (some (.int (1 : Int32))) X10 hQQ (fun h => by rw [Bd.returns] at h; cases h) Bd.notSynchronized (fun _ hr => retOut X10 hx (t := .boolean) Bd.returns rfl (Or.inl ⟨rfl, (by simp), _, rfl⟩) (hb hby d3_43) hr) e10 (by decide) (by decide) ⟨(by simp only [f3, if_pos hc12_6]), N10, K10, E_o0, (by simpa only [if_pos hc12_6, fd3] using F_food_o0), (by simpa only [if_pos hc12_6, ms3] using F_most_o0)⟩
  · refine Ends.step (fun _ k => XS.icmpNo X5.here hx rfl (hb hby d3_12) rfl (XT.ii_gt_f hc12_6) k) ?_
    show Ends p e below QQ (T5.setTop (mkF m 15 #[.val (.ref o0), .val (.int p1), .val (.int (u + p1))] []))
    refine Ends.step (fun _ k => XS.aloadN X5.here hx rfl (hb hby d3_15) rfl rfl k) ?_
    show Ends p e below QQ (T5.setTop (mkF m 16 #[.val (.ref o0), .val (.int p1), .val (.int (u + p1))] [(.ref o0)]))
    refine Ends.step (fun _ k => XS.iloadN X5.here hx rfl (hb hby d3_16) rfl k) ?_
    show Ends p e below QQ (T5.setTop (mkF m 17 #[.val (.ref o0), .val (.int p1), .val (.int (u + p1))] [(.int (u + p1)), (.ref o0)]))
    obtain ⟨T11, h11, X11, e11, W11, st11⟩ := putF X5 hx hZ hown (host := "") (Or.inl (hw _ (List.mem_of_getElem? (i := 9) rfl))) Via.refl e5 F_food_o0 E_o0 (Or.inl (hw _ (List.mem_of_getElem? (i := 10) rfl))) (hw _ (List.mem_of_getElem? (i := 1) rfl)) (ty := .int) (by decide) rfl rfl (g := (mkF m 17 #[.val (.ref o0), .val (.int p1), .val (.int (u + p1))] [(.int (u + p1)), (.ref o0)])) rfl rfl (hb hby d3_17)
    have E_o0 := E_o0.wr W11
    have F_most_o0 := F_most_o0.other W11 (Or.inr (slot_ne (Or.inl (hw _ (List.mem_of_getElem? (i := 12) rfl))) (Or.inl (hw _ (List.mem_of_getElem? (i := 10) rfl))) (by decide) (t := .int) (t' := .int) (by decide) (by decide)))
    have F_food_o0 : Fld Z h11 o0 "com/example/glyphdelve/glyphdelve/Stomach" "food" "I" (.int (u + p1)) := F_food_o0.same W11
    have K11 := (Keep.refl h0 [o0]).wr W11 (Or.inl (List.mem_of_getElem? (i := 0) rfl))
    have N11 := Fr.snoc X11 N0 g_o0
    refine Ends.step st11 ?_
    show Ends p e below QQ (T11.setTop (mkF m 20 #[.val (.ref o0), .val (.int p1), .val (.int (u + p1))] []))
    refine Ends.step (fun _ k => XT.iconstV X11.here hx rfl (0 : Int32) (hb hby d3_20) rfl k) ?_
    show Ends p e below QQ (T11.setTop (mkF m 21 #[.val (.ref o0), .val (.int p1), .val (.int (u + p1))] [(.int (0 : Int32))]))
    exact Ends.fin (some (.int (0 : Int32))) X11 hQQ (fun h => by rw [Bd.returns] at h; cases h) Bd.notSynchronized (fun _ hr => retOut X11 hx (t := .boolean) Bd.returns rfl (Or.inl ⟨rfl, (by simp), _, rfl⟩) (hb hby d3_21) hr) e11 (by decide) (by decide) ⟨(by simp only [f3, if_neg hc12_6]), N11, K11, E_o0, (by simpa only [if_neg hc12_6, fd3] using F_food_o0), (by simpa only [if_neg hc12_6, ms3] using F_most_o0)⟩
theorem d4_0 : decode prog_22_method_5_code 0 = .ok (.aload_n 0, 1) := by decide +kernel
theorem d4_1 : decode prog_22_method_5_code 1 = .ok (.dup, 1) := by decide +kernel
theorem d4_2 : decode prog_22_method_5_code 2 = .ok (.getfield 9, 3) := by decide +kernel
theorem d4_5 : decode prog_22_method_5_code 5 = .ok (.iload_n 1, 1) := by decide +kernel
theorem d4_6 : decode prog_22_method_5_code 6 = .ok (.isub, 1) := by decide +kernel
theorem d4_7 : decode prog_22_method_5_code 7 = .ok (.putfield 9, 3) := by decide +kernel
theorem d4_10 : decode prog_22_method_5_code 10 = .ok (.return_, 1) := by decide +kernel
theorem ef_4 (m : MethodId) (x0 : Addr) (x1 : Int32) : entryFrame m #[(.ref x0), (.int x1)] 2 = mkF m 0 #[.val (.ref x0), .val (.int x1)] [] := by first | (simp [entryFrame, mkF, argsToLocals, Value.category]; done) | rfl
def Q4 (Z : State) (o0 : Addr) (p1 : Int32) (u : Int32) (w : Int32) (h0 : Heap) (n0 : Nat) (v : Option Value) (h : Heap) (L : List Loc) : Prop := (v = none) ∧ (Fr n0 L) ∧ (Keep h0 h [o0]) ∧ (Exa Z h o0 "com/example/glyphdelve/glyphdelve/Stomach") ∧ (Fld Z h o0 "com/example/glyphdelve/glyphdelve/Stomach" "food" "I" (.int (u - p1))) ∧ (Fld Z h o0 "com/example/glyphdelve/glyphdelve/Stomach" "most" "I" (.int w))
set_option maxRecDepth 65536 in
set_option maxHeartbeats 40000000 in
theorem rm4 (l : Launch) (Z : State) (a0 : Array Value) (hw : ∀ d ∈ tables_1, d.before a0 Z = true) (ws : List Jvm.Cond) (o0 : Addr) (p1 : Int32) (u : Int32) (w : Int32) (h0 : Heap) (n0 : Nat) (Z0 : n0 ≤ h0.size) (E_o0 : Exa Z h0 o0 "com/example/glyphdelve/glyphdelve/Stomach") (F_food_o0 : Fld Z h0 o0 "com/example/glyphdelve/glyphdelve/Stomach" "food" "I" (.int u)) (F_most_o0 : Fld Z h0 o0 "com/example/glyphdelve/glyphdelve/Stomach" "most" "I" (.int w)) (g_o0 : n0 ≤ o0) :
    MetFree l (⟨"com/example/glyphdelve/glyphdelve/Stomach", "use", "(I)V"⟩ : MethodName) (head1 (Jvm.Cond.code (⟨"com/example/glyphdelve/glyphdelve/Stomach", "use", "(I)V"⟩ : MethodName) prog_22_method_5_code 2 none :: ws) ({ frames := 0, cells := 0, slots := 0, locals := 0 } : Room)) (fun a U => a = #[(.ref o0), (.int p1)] ∧ Z.Warmed39 U.vm ∧ U.heap = h0) (fun _ _ _ _ _ => True) (fun _ U o U' => ∃ v L, o = .returned v ∧ Q4 Z o0 p1 u w h0 n0 v U'.heap L ∧ FrameEnd U o U' L ({ frames := 0, cells := 0, slots := 0, locals := 0 } : Room).cells ({ frames := 0, cells := 0, slots := 0, locals := 0 } : Room).slots) := by
  refine MetFree.of_bodySF (plainFor_of_name pn_0) hisR ?_
  intro p e s m args below meth c s₁ Bd hml0 hP hK
  obtain ⟨rfl, hZ, hh⟩ := hP
  have hx := Bd.exec
  have hby := Bd.bytes
  have hml : c.maxLocals = 2 := hml0
  have hown : s.vm.findClass "com/example/glyphdelve/glyphdelve/Stomach" = some m.cls := findClass_of_methodNamed Bd.named
  have hnm := (name_of_methodNamed Bd.named Bd.method).1
  have X0 : Stand p l e ({ frames := 0, cells := 0, slots := 0, locals := 0 } : Room) s m #[(.ref o0), (.int p1)] below meth c s₁ [] 0 0 := Stand.of_body Bd
  have e0 : s₁.heap = h0 := by rw [← hh, Bd.state]; rfl
  have N0 := Fr.nil n0
  refine Ends.opn ?_
  intro QQ hQQ
  refine Ends.step (S' := s₁.setTop (mkF m 0 #[.val (.ref o0), .val (.int p1)] [])) (fun t k => castTop (ef_4 m o0 p1) k) ?_
  show Ends p e below QQ (s₁.setTop (mkF m 0 #[.val (.ref o0), .val (.int p1)] []))
  refine Ends.step (fun _ k => XS.aloadN X0.here hx rfl (hb hby d4_0) rfl rfl k) ?_
  show Ends p e below QQ (s₁.setTop (mkF m 1 #[.val (.ref o0), .val (.int p1)] [(.ref o0)]))
  refine Ends.step (fun _ k => XS.dup X0.here hx rfl (hb hby d4_1) rfl rfl k) ?_
  show Ends p e below QQ (s₁.setTop (mkF m 2 #[.val (.ref o0), .val (.int p1)] [(.ref o0), (.ref o0)]))
  obtain ⟨T12, X12, e12, st12⟩ := getF X0 hx hZ hown (host := "") (Or.inl (hw _ (List.mem_of_getElem? (i := 9) rfl))) Via.refl e0 F_food_o0 (g := (mkF m 2 #[.val (.ref o0), .val (.int p1)] [(.ref o0), (.ref o0)])) rfl rfl (hb hby d4_2)
  refine Ends.step st12 ?_
  show Ends p e below QQ (T12.setTop (mkF m 5 #[.val (.ref o0), .val (.int p1)] [(.int u), (.ref o0)]))
  refine Ends.step (fun _ k => XS.iloadN X12.here hx rfl (hb hby d4_5) rfl k) ?_
  show Ends p e below QQ (T12.setTop (mkF m 6 #[.val (.ref o0), .val (.int p1)] [(.int p1), (.int u), (.ref o0)]))
  refine Ends.step (fun _ k => XS.isub X12.here hx rfl (hb hby d4_6) rfl k) ?_
  show Ends p e below QQ (T12.setTop (mkF m 7 #[.val (.ref o0), .val (.int p1)] [(.int (u - p1)), (.ref o0)]))
  obtain ⟨T13, h13, X13, e13, W13, st13⟩ := putF X12 hx hZ hown (host := "") (Or.inl (hw _ (List.mem_of_getElem? (i := 9) rfl))) Via.refl e12 F_food_o0 E_o0 (Or.inl (hw _ (List.mem_of_getElem? (i := 10) rfl))) (hw _ (List.mem_of_getElem? (i := 1) rfl)) (ty := .int) (by decide) rfl rfl (g := (mkF m 7 #[.val (.ref o0), .val (.int p1)] [(.int (u - p1)), (.ref o0)])) rfl rfl (hb hby d4_7)
  have E_o0 := E_o0.wr W13
  have F_most_o0 := F_most_o0.other W13 (Or.inr (slot_ne (Or.inl (hw _ (List.mem_of_getElem? (i := 12) rfl))) (Or.inl (hw _ (List.mem_of_getElem? (i := 10) rfl))) (by decide) (t := .int) (t' := .int) (by decide) (by decide)))
  have F_food_o0 : Fld Z h13 o0 "com/example/glyphdelve/glyphdelve/Stomach" "food" "I" (.int (u - p1)) := F_food_o0.same W13
  have K13 := (Keep.refl h0 [o0]).wr W13 (Or.inl (List.mem_of_getElem? (i := 0) rfl))
  have N13 := Fr.snoc X13 N0 g_o0
  refine Ends.step st13 ?_
  show Ends p e below QQ (T13.setTop (mkF m 10 #[.val (.ref o0), .val (.int p1)] []))
  exact Ends.fin (none) X13 hQQ (fun _ => rfl) Bd.notSynchronized (fun _ hr => X13.returnOut hx Bd.returns (hb hby d4_10) hr) e13 (by decide) (by decide) ⟨rfl, N13, K13, E_o0, F_food_o0, F_most_o0⟩
theorem d5_0 : decode prog_22_method_2_code 0 = .ok (.aload_n 0, 1) := by decide +kernel
theorem d5_1 : decode prog_22_method_2_code 1 = .ok (.getfield 9, 3) := by decide +kernel
theorem d5_4 : decode prog_22_method_2_code 4 = .ok (.ireturn, 1) := by decide +kernel
theorem ef_5 (m : MethodId) (x0 : Addr) : entryFrame m #[(.ref x0)] 1 = mkF m 0 #[.val (.ref x0)] [] := by first | (simp [entryFrame, mkF, argsToLocals, Value.category]; done) | rfl
def Q5 (Z : State) (o0 : Addr) (u : Int32) (h0 : Heap) (n0 : Nat) (v : Option Value) (h : Heap) (L : List Loc) : Prop := (v = some (.int u)) ∧ (Fr n0 L) ∧ (h = h0)
set_option maxRecDepth 65536 in
set_option maxHeartbeats 40000000 in
theorem rm5 (l : Launch) (Z : State) (a0 : Array Value) (hw : ∀ d ∈ tables_1, d.before a0 Z = true) (ws : List Jvm.Cond) (o0 : Addr) (u : Int32) (h0 : Heap) (n0 : Nat) (Z0 : n0 ≤ h0.size) (F_food_o0 : Fld Z h0 o0 "com/example/glyphdelve/glyphdelve/Stomach" "food" "I" (.int u)) :
    MetFree l (⟨"com/example/glyphdelve/glyphdelve/Stomach", "food", "()I"⟩ : MethodName) (head1 (Jvm.Cond.code (⟨"com/example/glyphdelve/glyphdelve/Stomach", "food", "()I"⟩ : MethodName) prog_22_method_2_code 1 (some .int) :: ws) ({ frames := 0, cells := 0, slots := 0, locals := 0 } : Room)) (fun a U => a = #[(.ref o0)] ∧ Z.Warmed39 U.vm ∧ U.heap = h0) (fun _ _ _ _ _ => True) (fun _ U o U' => ∃ v L, o = .returned v ∧ Q5 Z o0 u h0 n0 v U'.heap L ∧ FrameEnd U o U' L ({ frames := 0, cells := 0, slots := 0, locals := 0 } : Room).cells ({ frames := 0, cells := 0, slots := 0, locals := 0 } : Room).slots) := by
  refine MetFree.of_bodySF (plainFor_of_name pn_0) hisR ?_
  intro p e s m args below meth c s₁ Bd hml0 hP hK
  obtain ⟨rfl, hZ, hh⟩ := hP
  have hx := Bd.exec
  have hby := Bd.bytes
  have hml : c.maxLocals = 1 := hml0
  have hown : s.vm.findClass "com/example/glyphdelve/glyphdelve/Stomach" = some m.cls := findClass_of_methodNamed Bd.named
  have hnm := (name_of_methodNamed Bd.named Bd.method).1
  have X0 : Stand p l e ({ frames := 0, cells := 0, slots := 0, locals := 0 } : Room) s m #[(.ref o0)] below meth c s₁ [] 0 0 := Stand.of_body Bd
  have e0 : s₁.heap = h0 := by rw [← hh, Bd.state]; rfl
  have N0 := Fr.nil n0
  refine Ends.opn ?_
  intro QQ hQQ
  refine Ends.step (S' := s₁.setTop (mkF m 0 #[.val (.ref o0)] [])) (fun t k => castTop (ef_5 m o0) k) ?_
  show Ends p e below QQ (s₁.setTop (mkF m 0 #[.val (.ref o0)] []))
  refine Ends.step (fun _ k => XS.aloadN X0.here hx rfl (hb hby d5_0) rfl rfl k) ?_
  show Ends p e below QQ (s₁.setTop (mkF m 1 #[.val (.ref o0)] [(.ref o0)]))
  obtain ⟨T14, X14, e14, st14⟩ := getF X0 hx hZ hown (host := "") (Or.inl (hw _ (List.mem_of_getElem? (i := 9) rfl))) Via.refl e0 F_food_o0 (g := (mkF m 1 #[.val (.ref o0)] [(.ref o0)])) rfl rfl (hb hby d5_1)
  refine Ends.step st14 ?_
  show Ends p e below QQ (T14.setTop (mkF m 4 #[.val (.ref o0)] [(.int u)]))
  exact Ends.fin (some (.int u)) X14 hQQ (fun h => by rw [Bd.returns] at h; cases h) Bd.notSynchronized (fun _ hr => retOut X14 hx (t := .int) Bd.returns rfl (Or.inl ⟨rfl, Or.inl rfl, _, rfl⟩) (hb hby d5_4) hr) e14 (by decide) (by decide) ⟨rfl, N0, rfl⟩
theorem d6_0 : decode prog_22_method_3_code 0 = .ok (.aload_n 0, 1) := by decide +kernel
theorem d6_1 : decode prog_22_method_3_code 1 = .ok (.getfield 13, 3) := by decide +kernel
theorem d6_4 : decode prog_22_method_3_code 4 = .ok (.ireturn, 1) := by decide +kernel
theorem ef_6 (m : MethodId) (x0 : Addr) : entryFrame m #[(.ref x0)] 1 = mkF m 0 #[.val (.ref x0)] [] := by first | (simp [entryFrame, mkF, argsToLocals, Value.category]; done) | rfl
def Q6 (Z : State) (o0 : Addr) (w : Int32) (h0 : Heap) (n0 : Nat) (v : Option Value) (h : Heap) (L : List Loc) : Prop := (v = some (.int w)) ∧ (Fr n0 L) ∧ (h = h0)
set_option maxRecDepth 65536 in
set_option maxHeartbeats 40000000 in
theorem rm6 (l : Launch) (Z : State) (a0 : Array Value) (hw : ∀ d ∈ tables_1, d.before a0 Z = true) (ws : List Jvm.Cond) (o0 : Addr) (w : Int32) (h0 : Heap) (n0 : Nat) (Z0 : n0 ≤ h0.size) (F_most_o0 : Fld Z h0 o0 "com/example/glyphdelve/glyphdelve/Stomach" "most" "I" (.int w)) :
    MetFree l (⟨"com/example/glyphdelve/glyphdelve/Stomach", "most", "()I"⟩ : MethodName) (head1 (Jvm.Cond.code (⟨"com/example/glyphdelve/glyphdelve/Stomach", "most", "()I"⟩ : MethodName) prog_22_method_3_code 1 (some .int) :: ws) ({ frames := 0, cells := 0, slots := 0, locals := 0 } : Room)) (fun a U => a = #[(.ref o0)] ∧ Z.Warmed39 U.vm ∧ U.heap = h0) (fun _ _ _ _ _ => True) (fun _ U o U' => ∃ v L, o = .returned v ∧ Q6 Z o0 w h0 n0 v U'.heap L ∧ FrameEnd U o U' L ({ frames := 0, cells := 0, slots := 0, locals := 0 } : Room).cells ({ frames := 0, cells := 0, slots := 0, locals := 0 } : Room).slots) := by
  refine MetFree.of_bodySF (plainFor_of_name pn_0) hisR ?_
  intro p e s m args below meth c s₁ Bd hml0 hP hK
  obtain ⟨rfl, hZ, hh⟩ := hP
  have hx := Bd.exec
  have hby := Bd.bytes
  have hml : c.maxLocals = 1 := hml0
  have hown : s.vm.findClass "com/example/glyphdelve/glyphdelve/Stomach" = some m.cls := findClass_of_methodNamed Bd.named
  have hnm := (name_of_methodNamed Bd.named Bd.method).1
  have X0 : Stand p l e ({ frames := 0, cells := 0, slots := 0, locals := 0 } : Room) s m #[(.ref o0)] below meth c s₁ [] 0 0 := Stand.of_body Bd
  have e0 : s₁.heap = h0 := by rw [← hh, Bd.state]; rfl
  have N0 := Fr.nil n0
  refine Ends.opn ?_
  intro QQ hQQ
  refine Ends.step (S' := s₁.setTop (mkF m 0 #[.val (.ref o0)] [])) (fun t k => castTop (ef_6 m o0) k) ?_
  show Ends p e below QQ (s₁.setTop (mkF m 0 #[.val (.ref o0)] []))
  refine Ends.step (fun _ k => XS.aloadN X0.here hx rfl (hb hby d6_0) rfl rfl k) ?_
  show Ends p e below QQ (s₁.setTop (mkF m 1 #[.val (.ref o0)] [(.ref o0)]))
  obtain ⟨T15, X15, e15, st15⟩ := getF X0 hx hZ hown (host := "") (Or.inl (hw _ (List.mem_of_getElem? (i := 11) rfl))) Via.refl e0 F_most_o0 (g := (mkF m 1 #[.val (.ref o0)] [(.ref o0)])) rfl rfl (hb hby d6_1)
  refine Ends.step st15 ?_
  show Ends p e below QQ (T15.setTop (mkF m 4 #[.val (.ref o0)] [(.int w)]))
  exact Ends.fin (some (.int w)) X15 hQQ (fun h => by rw [Bd.returns] at h; cases h) Bd.notSynchronized (fun _ hr => retOut X15 hx (t := .int) Bd.returns rfl (Or.inl ⟨rfl, Or.inl rfl, _, rfl⟩) (hb hby d6_4) hr) e15 (by decide) (by decide) ⟨rfl, N0, rfl⟩
theorem ef_0 (m : MethodId) (x0 : Int32) (x1 : Int32) (x2 : Int32) (x3 : Int32) : entryFrame m #[(.int x0), (.int x1), (.int x2), (.int x3)] maxLocals = mkF m 0 #[.val (.int x0), .val (.int x1), .val (.int x2), .val (.int x3), .unset, .unset, .unset, .unset, .unset, .unset, .unset, .unset, .unset, .unset, .unset, .unset, .unset, .unset] [] := by first | (simp [entryFrame, mkF, argsToLocals, Value.category, maxLocals]; done) | rfl
def f0_x5_1 (p0 : Int32) (p1 : Int32) (p2 : Int32) (p3 : Int32) : Int32 := ((fd3 (p0 &&& (1048575 : Int32)) (700 : Int32) (1000 : Int32)) - (p1 % (268435456 : Int32)))
def f0_x6_2 (p0 : Int32) (p1 : Int32) (p2 : Int32) (p3 : Int32) : Int32 := (ms3 (p0 &&& (1048575 : Int32)) (700 : Int32) (1000 : Int32))
def f0_x7_3 (p0 : Int32) (p1 : Int32) (p2 : Int32) (p3 : Int32) : Int32 := (p2 % (536870912 : Int32))
def f0_v69_4 (p0 : Int32) (p1 : Int32) (p2 : Int32) (p3 : Int32) : Int32 := (if (p3 &&& (1 : Int32)) = (0 : Int32) then (f0_x7_3 p0 p1 p2 p3) else ((((f0_x6_2 p0 p1 p2 p3) - (f0_x5_1 p0 p1 p2 p3)) + ((p3 >>> ((1 : Int32) &&& 31)) &&& (3 : Int32))) - (1 : Int32)))
def f0_x8_5 (p0 : Int32) (p1 : Int32) (p2 : Int32) (p3 : Int32) : Int32 := (f3 (f0_v69_4 p0 p1 p2 p3) ((fd3 (p0 &&& (1048575 : Int32)) (700 : Int32) (1000 : Int32)) - (p1 % (268435456 : Int32))) (ms3 (p0 &&& (1048575 : Int32)) (700 : Int32) (1000 : Int32)))
def f0_x9_6 (p0 : Int32) (p1 : Int32) (p2 : Int32) (p3 : Int32) : Int64 := ((f0_x5_1 p0 p1 p2 p3).toInt64 + (f0_v69_4 p0 p1 p2 p3).toInt64)
def f0_v128_7 (p0 : Int32) (p1 : Int32) (p2 : Int32) (p3 : Int32) : Int64 := (if (f0_x6_2 p0 p1 p2 p3).toInt64 < (f0_x9_6 p0 p1 p2 p3) then (((f0_x6_2 p0 p1 p2 p3).toInt64 + (f0_x9_6 p0 p1 p2 p3)) >>> ((1 : Int32) &&& 0x3f).toInt64) else (f0_x6_2 p0 p1 p2 p3).toInt64)
def f0_v128_8 (p0 : Int32) (p1 : Int32) (p2 : Int32) (p3 : Int32) : Int64 := (if (f0_x6_2 p0 p1 p2 p3).toInt64 < (f0_x9_6 p0 p1 p2 p3) then (((f0_x6_2 p0 p1 p2 p3).toInt64 + (f0_x9_6 p0 p1 p2 p3)) >>> ((1 : Int32) &&& 0x3f).toInt64) else (f0_x9_6 p0 p1 p2 p3))
def f0_v128_9 (p0 : Int32) (p1 : Int32) (p2 : Int32) (p3 : Int32) : Int32 := (if (f0_x6_2 p0 p1 p2 p3).toInt64 < (f0_x9_6 p0 p1 p2 p3) then (1 : Int32) else (0 : Int32))
def f0_x16_10 (p0 : Int32) (p1 : Int32) (p2 : Int32) (p3 : Int32) : Int32 := (fd3 (f0_v69_4 p0 p1 p2 p3) ((fd3 (p0 &&& (1048575 : Int32)) (700 : Int32) (1000 : Int32)) - (p1 % (268435456 : Int32))) (ms3 (p0 &&& (1048575 : Int32)) (700 : Int32) (1000 : Int32)))
def f0_x17_11 (p0 : Int32) (p1 : Int32) (p2 : Int32) (p3 : Int32) : Int32 := (ms3 (f0_v69_4 p0 p1 p2 p3) ((fd3 (p0 &&& (1048575 : Int32)) (700 : Int32) (1000 : Int32)) - (p1 % (268435456 : Int32))) (ms3 (p0 &&& (1048575 : Int32)) (700 : Int32) (1000 : Int32)))
def f0_v179_12 (p0 : Int32) (p1 : Int32) (p2 : Int32) (p3 : Int32) : Int32 := (if (f0_x8_5 p0 p1 p2 p3) = (f0_v128_9 p0 p1 p2 p3) then (if (f0_x16_10 p0 p1 p2 p3).toInt64 = (f0_v128_8 p0 p1 p2 p3) then (if (f0_x17_11 p0 p1 p2 p3).toInt64 = (f0_v128_7 p0 p1 p2 p3) then (if (f0_x17_11 p0 p1 p2 p3) < (f0_x16_10 p0 p1 p2 p3) then (0 : Int32) else (1 : Int32)) else (0 : Int32)) else (0 : Int32)) else (0 : Int32))
def f0 (p0 : Int32) (p1 : Int32) (p2 : Int32) (p3 : Int32) : Int32 := (f0_v179_12 p0 p1 p2 p3)
def Q0 (Z : State) (p0 : Int32) (p1 : Int32) (p2 : Int32) (p3 : Int32) (h0 : Heap) (n0 : Nat) (v : Option Value) (h : Heap) (L : List Loc) : Prop := (v = some (.int (f0 p0 p1 p2 p3))) ∧ (Fr n0 L) ∧ (Keep h0 h [])
set_option maxRecDepth 65536 in
set_option maxHeartbeats 40000000 in
theorem rm0 (l : Launch) (Z : State) (a0 : Array Value) (hw : ∀ d ∈ tables_1, d.before a0 Z = true) (ws : List Jvm.Cond) (p0 : Int32) (p1 : Int32) (p2 : Int32) (p3 : Int32) (h0 : Heap) (n0 : Nat) (Z0 : n0 ≤ h0.size) :
    MetFree l x (head1 (Jvm.Cond.code x code maxLocals ret :: ws) room_1) (fun a U => a = #[(.int p0), (.int p1), (.int p2), (.int p3)] ∧ Z.Warmed39 U.vm ∧ U.heap = h0) (fun _ _ _ _ _ => True) (fun _ U o U' => ∃ v L, o = .returned v ∧ Q0 Z p0 p1 p2 p3 h0 n0 v U'.heap L ∧ FrameEnd U o U' L room_1.cells room_1.slots) := by
  refine MetFree.of_bodySF (plainFor_of_name pn_1) hisR ?_
  intro p e s m args below meth c s₁ Bd hml0 hP hK
  obtain ⟨rfl, hZ, hh⟩ := hP
  have hx := Bd.exec
  have hby := Bd.bytes
  have hml : c.maxLocals = 18 := hml0
  have hown : s.vm.findClass "com/example/glyphdelve/glyphdelve/StomachFillPinLaw" = some m.cls := findClass_of_methodNamed Bd.named
  have hnm := (name_of_methodNamed Bd.named Bd.method).1
  have X0 : Stand p l e room_1 s m #[(.int p0), (.int p1), (.int p2), (.int p3)] below meth c s₁ [] 0 0 := Stand.of_body Bd
  have e0 : s₁.heap = h0 := by rw [← hh, Bd.state]; rfl
  have N0 := Fr.nil n0
  refine Ends.opn ?_
  intro QQ hQQ
  refine Ends.step (S' := s₁.setTop (mkF m 0 #[.val (.int p0), .val (.int p1), .val (.int p2), .val (.int p3), .unset, .unset, .unset, .unset, .unset, .unset, .unset, .unset, .unset, .unset, .unset, .unset, .unset, .unset] [])) (fun t k => castTop (ef_0 m p0 p1 p2 p3) k) ?_
  show Ends p e below QQ (s₁.setTop (mkF m 0 #[.val (.int p0), .val (.int p1), .val (.int p2), .val (.int p3), .unset, .unset, .unset, .unset, .unset, .unset, .unset, .unset, .unset, .unset, .unset, .unset, .unset, .unset] []))
  obtain ⟨T16, h16, X16, e16, E16, A16, D16, U16, st16⟩ := newO X0 hx hZ hown (hw _ (List.mem_of_getElem? (i := 0) rfl)) (hw _ (List.mem_of_getElem? (i := 1) rfl)) (hw _ (List.mem_of_getElem? (i := 2) rfl)) e0 (g := (mkF m 0 #[.val (.int p0), .val (.int p1), .val (.int p2), .val (.int p3), .unset, .unset, .unset, .unset, .unset, .unset, .unset, .unset, .unset, .unset, .unset, .unset, .unset, .unset] [])) rfl (hb hby at_0) (by decide) (by decide)
  obtain ⟨b16, g16⟩ : ∃ z, z = h0.size := ⟨_, rfl⟩
  rw [← g16] at A16 D16 U16 st16
  have g_b16 : n0 ≤ b16 := Nat.le_trans Z0 (Nat.le_trans (Keep.refl h0 []).1 (Nat.le_of_eq g16.symm))
  have sz_b16 : h0.size ≤ b16 := Nat.le_trans (Keep.refl h0 []).1 (Nat.le_of_eq g16.symm)
  have K16 := (Keep.refl h0 []).ext E16
  have E_b16 := A16
  have F_food_b16 : Fld Z h16 b16 "com/example/glyphdelve/glyphdelve/Stomach" "food" "I" (.int (0 : Int32)) := D16 (Or.inl (hw _ (List.mem_of_getElem? (i := 10) rfl))) (ty := .int) (by decide)
  have F_most_b16 : Fld Z h16 b16 "com/example/glyphdelve/glyphdelve/Stomach" "most" "I" (.int (0 : Int32)) := D16 (Or.inl (hw _ (List.mem_of_getElem? (i := 12) rfl))) (ty := .int) (by decide)
  refine Ends.step st16 ?_
  show Ends p e below QQ (T16.setTop (mkF m 3 #[.val (.int p0), .val (.int p1), .val (.int p2), .val (.int p3), .unset, .unset, .unset, .unset, .unset, .unset, .unset, .unset, .unset, .unset, .unset, .unset, .unset, .unset] [(.ref b16)]))
  refine Ends.step (fun _ k => XS.dup X16.here hx rfl (hb hby at_3) rfl rfl k) ?_
  show Ends p e below QQ (T16.setTop (mkF m 4 #[.val (.int p0), .val (.int p1), .val (.int p2), .val (.int p3), .unset, .unset, .unset, .unset, .unset, .unset, .unset, .unset, .unset, .unset, .unset, .unset, .unset, .unset] [(.ref b16), (.ref b16)]))
  obtain ⟨_, _, ⟨T17, L17, k17, n17⟩, -, X17, ⟨Lc17, hQ17, l17, y17, z17⟩, st17⟩ := X16.specialBack hx (y := (⟨"com/example/glyphdelve/glyphdelve/Stomach", "<init>", "()V"⟩ : MethodName)) rfl hown (mvT hZ (hw _ (List.mem_of_getElem? (i := 3) rfl))) (mvT hZ (hw _ (List.mem_of_getElem? (i := 4) rfl))) (mvT hZ (hw _ (List.mem_of_getElem? (i := 5) rfl))) (by decide) (backOf (W := 1) (rm1 l Z a0 hw [] b16 (0 : Int32) (0 : Int32) h16 n0 (Nat.le_trans Z0 K16.1) E_b16 F_food_b16 F_most_b16 g_b16) hZ (hw _ (List.mem_of_getElem? (i := 5) rfl)) (hw _ (List.mem_of_getElem? (i := 2) rfl)) (by decide) (by decide)) (g := (mkF m 4 #[.val (.int p0), .val (.int p1), .val (.int p2), .val (.int p3), .unset, .unset, .unset, .unset, .unset, .unset, .unset, .unset, .unset, .unset, .unset, .unset, .unset, .unset] [(.ref b16), (.ref b16)])) rfl (by rw [hml]; rfl) (Steps.refl _) (a := b16) (argsL := []) (rest := [(.ref b16)]) (lenOf pd_0 rfl) rfl (by show 2 * 0 + _ ≤ _; exact Nat.le_of_eq rfl) (hb hby at_4) (fun _ _ => ⟨rfl, e16, (by decide : 1 + 0 ≤ _), (by decide : 2 + 0 ≤ _)⟩)
  dsimp only [Pt.U, Pt.locs, Pt.cells, Pt.slots] at X17 l17 y17 z17 st17 hQ17
  subst l17 y17 z17
  obtain ⟨rfl, Nq17, Kq17, fq17_0, fq17_1, fq17_2⟩ := hQ17
  have N17 := Fr.app N0 Nq17
  have E_b16 := fq17_0
  have F_food_b16 := fq17_1
  have F_most_b16 := fq17_2
  have K17 := K16.trans Kq17 (allS (Or.inr sz_b16) all0)
  refine Ends.step (fun _ k => st17.trans k) ?_
  show Ends p e below QQ (T17.setTop (mkF m 7 #[.val (.int p0), .val (.int p1), .val (.int p2), .val (.int p3), .unset, .unset, .unset, .unset, .unset, .unset, .unset, .unset, .unset, .unset, .unset, .unset, .unset, .unset] [(.ref b16)]))
  refine Ends.step (fun _ k => XS.astore X17.here hx rfl (hb hby at_7) rfl rfl (l' := #[.val (.int p0), .val (.int p1), .val (.int p2), .val (.int p3), .val (.ref b16), .unset, .unset, .unset, .unset, .unset, .unset, .unset, .unset, .unset, .unset, .unset, .unset, .unset]) rfl k) ?_
  show Ends p e below QQ (T17.setTop (mkF m 9 #[.val (.int p0), .val (.int p1), .val (.int p2), .val (.int p3), .val (.ref b16), .unset, .unset, .unset, .unset, .unset, .unset, .unset, .unset, .unset, .unset, .unset, .unset, .unset] []))
  refine Ends.step (fun _ k => XS.aload X17.here hx rfl (hb hby at_9) rfl rfl k) ?_
  show Ends p e below QQ (T17.setTop (mkF m 11 #[.val (.int p0), .val (.int p1), .val (.int p2), .val (.int p3), .val (.ref b16), .unset, .unset, .unset, .unset, .unset, .unset, .unset, .unset, .unset, .unset, .unset, .unset, .unset] [(.ref b16)]))
  refine Ends.step (fun _ k => XS.iloadN X17.here hx rfl (hb hby at_11) rfl k) ?_
  show Ends p e below QQ (T17.setTop (mkF m 12 #[.val (.int p0), .val (.int p1), .val (.int p2), .val (.int p3), .val (.ref b16), .unset, .unset, .unset, .unset, .unset, .unset, .unset, .unset, .unset, .unset, .unset, .unset, .unset] [(.int p0), (.ref b16)]))
  refine Ends.step (fun _ k => X17.ldcI hx hown (mvT hZ (hw _ (List.mem_of_getElem? (i := 13) rfl))) (g := (mkF m 12 #[.val (.int p0), .val (.int p1), .val (.int p2), .val (.int p3), .val (.ref b16), .unset, .unset, .unset, .unset, .unset, .unset, .unset, .unset, .unset, .unset, .unset, .unset, .unset] [(.int p0), (.ref b16)])) rfl (hb hby at_12) k) ?_
  show Ends p e below QQ (T17.setTop (mkF m 14 #[.val (.int p0), .val (.int p1), .val (.int p2), .val (.int p3), .val (.ref b16), .unset, .unset, .unset, .unset, .unset, .unset, .unset, .unset, .unset, .unset, .unset, .unset, .unset] [(.int (1048575 : Int32)), (.int p0), (.ref b16)]))
  refine Ends.step (fun _ k => XS.iand X17.here hx rfl (hb hby at_14) rfl k) ?_
  show Ends p e below QQ (T17.setTop (mkF m 15 #[.val (.int p0), .val (.int p1), .val (.int p2), .val (.int p3), .val (.ref b16), .unset, .unset, .unset, .unset, .unset, .unset, .unset, .unset, .unset, .unset, .unset, .unset, .unset] [(.int (p0 &&& (1048575 : Int32))), (.ref b16)]))
  obtain ⟨cq18, kq18, q18a, q18b, q18c⟩ := isOf hZ rfl E_b16
  obtain ⟨_, _, ⟨T18, L18, k18, n18⟩, -, X18, ⟨Lc18, hQ18, l18, y18, z18⟩, st18⟩ := X17.virtualBack hx (y := (⟨"com/example/glyphdelve/glyphdelve/Stomach", "fill", "(I)Z"⟩ : MethodName)) (z := (⟨"com/example/glyphdelve/glyphdelve/Stomach", "fill", "(I)Z"⟩ : MethodName)) hown (mvT hZ (hw _ (List.mem_of_getElem? (i := 14) rfl))) (mvT hZ (hw _ (List.mem_of_getElem? (i := 15) rfl))) (notFace_of_selects (args := #[]) (mvT hZ (hw _ (List.mem_of_getElem? (i := 17) rfl)))) (mvT hZ (hw _ (List.mem_of_getElem? (i := 17) rfl))) (mvT hZ (hw _ (List.mem_of_getElem? (i := 16) rfl))) (by decide) (backOf (W := 0) (rm3 l Z a0 hw [] b16 (p0 &&& (1048575 : Int32)) (700 : Int32) (1000 : Int32) T17.heap n0 (Nat.le_trans Z0 K17.1) E_b16 F_food_b16 F_most_b16 g_b16) hZ (hw _ (List.mem_of_getElem? (i := 18) rfl)) (hw _ (List.mem_of_getElem? (i := 2) rfl)) (by decide) (by decide)) q18a q18c (g := (mkF m 15 #[.val (.int p0), .val (.int p1), .val (.int p2), .val (.int p3), .val (.ref b16), .unset, .unset, .unset, .unset, .unset, .unset, .unset, .unset, .unset, .unset, .unset, .unset, .unset] [(.int (p0 &&& (1048575 : Int32))), (.ref b16)])) rfl (by rw [hml]; rfl) (Steps.refl _) (argsL := [(.int (p0 &&& (1048575 : Int32)))]) (rest := []) (lenOf pd_1 rfl) rfl (by show 2 * 0 + _ ≤ _; exact Nat.le_of_eq rfl) (hb hby at_15) (fun _ _ => ⟨rfl, rfl, (by decide : 1 + 0 ≤ _), (by decide : 2 + 0 ≤ _)⟩)
  dsimp only [Pt.U, Pt.locs, Pt.cells, Pt.slots] at X18 l18 y18 z18 st18 hQ18
  subst l18 y18 z18
  obtain ⟨rfl, Nq18, Kq18, fq18_0, fq18_1, fq18_2⟩ := hQ18
  have N18 := Fr.app N17 Nq18
  have E_b16 := fq18_0
  have F_food_b16 := fq18_1
  have F_most_b16 := fq18_2
  have K18 := K17.trans Kq18 (allS (Or.inr sz_b16) all0)
  refine Ends.step (fun _ k => st18.trans k) ?_
  show Ends p e below QQ (T18.setTop (mkF m 18 #[.val (.int p0), .val (.int p1), .val (.int p2), .val (.int p3), .val (.ref b16), .unset, .unset, .unset, .unset, .unset, .unset, .unset, .unset, .unset, .unset, .unset, .unset, .unset] [(.int (f3 (p0 &&& (1048575 : Int32)) (700 : Int32) (1000 : Int32)))]))
  refine Ends.step (fun _ k => XT.pop X18.here hx rfl (hb hby at_18) rfl rfl k) ?_
  show Ends p e below QQ (T18.setTop (mkF m 19 #[.val (.int p0), .val (.int p1), .val (.int p2), .val (.int p3), .val (.ref b16), .unset, .unset, .unset, .unset, .unset, .unset, .unset, .unset, .unset, .unset, .unset, .unset, .unset] []))
  refine Ends.step (fun _ k => XS.aload X18.here hx rfl (hb hby at_19) rfl rfl k) ?_
  show Ends p e below QQ (T18.setTop (mkF m 21 #[.val (.int p0), .val (.int p1), .val (.int p2), .val (.int p3), .val (.ref b16), .unset, .unset, .unset, .unset, .unset, .unset, .unset, .unset, .unset, .unset, .unset, .unset, .unset] [(.ref b16)]))
  refine Ends.step (fun _ k => XS.iloadN X18.here hx rfl (hb hby at_21) rfl k) ?_
  show Ends p e below QQ (T18.setTop (mkF m 22 #[.val (.int p0), .val (.int p1), .val (.int p2), .val (.int p3), .val (.ref b16), .unset, .unset, .unset, .unset, .unset, .unset, .unset, .unset, .unset, .unset, .unset, .unset, .unset] [(.int p1), (.ref b16)]))
  refine Ends.step (fun _ k => X18.ldcI hx hown (mvT hZ (hw _ (List.mem_of_getElem? (i := 19) rfl))) (g := (mkF m 22 #[.val (.int p0), .val (.int p1), .val (.int p2), .val (.int p3), .val (.ref b16), .unset, .unset, .unset, .unset, .unset, .unset, .unset, .unset, .unset, .unset, .unset, .unset, .unset] [(.int p1), (.ref b16)])) rfl (hb hby at_22) k) ?_
  show Ends p e below QQ (T18.setTop (mkF m 24 #[.val (.int p0), .val (.int p1), .val (.int p2), .val (.int p3), .val (.ref b16), .unset, .unset, .unset, .unset, .unset, .unset, .unset, .unset, .unset, .unset, .unset, .unset, .unset] [(.int (268435456 : Int32)), (.int p1), (.ref b16)]))
  refine Ends.step (fun _ k => iremM (g := (mkF m 24 #[.val (.int p0), .val (.int p1), .val (.int p2), .val (.int p3), .val (.ref b16), .unset, .unset, .unset, .unset, .unset, .unset, .unset, .unset, .unset, .unset, .unset, .unset, .unset] [(.int (268435456 : Int32)), (.int p1), (.ref b16)])) X18 hx rfl (hb hby at_24) rfl (by decide) k) ?_
  show Ends p e below QQ (T18.setTop (mkF m 25 #[.val (.int p0), .val (.int p1), .val (.int p2), .val (.int p3), .val (.ref b16), .unset, .unset, .unset, .unset, .unset, .unset, .unset, .unset, .unset, .unset, .unset, .unset, .unset] [(.int (p1 % (268435456 : Int32))), (.ref b16)]))
  obtain ⟨cq19, kq19, q19a, q19b, q19c⟩ := isOf hZ rfl E_b16
  obtain ⟨_, _, ⟨T19, L19, k19, n19⟩, -, X19, ⟨Lc19, hQ19, l19, y19, z19⟩, st19⟩ := X18.virtualBack hx (y := (⟨"com/example/glyphdelve/glyphdelve/Stomach", "use", "(I)V"⟩ : MethodName)) (z := (⟨"com/example/glyphdelve/glyphdelve/Stomach", "use", "(I)V"⟩ : MethodName)) hown (mvT hZ (hw _ (List.mem_of_getElem? (i := 20) rfl))) (mvT hZ (hw _ (List.mem_of_getElem? (i := 21) rfl))) (notFace_of_selects (args := #[]) (mvT hZ (hw _ (List.mem_of_getElem? (i := 23) rfl)))) (mvT hZ (hw _ (List.mem_of_getElem? (i := 23) rfl))) (mvT hZ (hw _ (List.mem_of_getElem? (i := 22) rfl))) (by decide) (backOf (W := 0) (rm4 l Z a0 hw [] b16 (p1 % (268435456 : Int32)) (fd3 (p0 &&& (1048575 : Int32)) (700 : Int32) (1000 : Int32)) (ms3 (p0 &&& (1048575 : Int32)) (700 : Int32) (1000 : Int32)) T18.heap n0 (Nat.le_trans Z0 K18.1) E_b16 F_food_b16 F_most_b16 g_b16) hZ (hw _ (List.mem_of_getElem? (i := 24) rfl)) (hw _ (List.mem_of_getElem? (i := 2) rfl)) (by decide) (by decide)) q19a q19c (g := (mkF m 25 #[.val (.int p0), .val (.int p1), .val (.int p2), .val (.int p3), .val (.ref b16), .unset, .unset, .unset, .unset, .unset, .unset, .unset, .unset, .unset, .unset, .unset, .unset, .unset] [(.int (p1 % (268435456 : Int32))), (.ref b16)])) rfl (by rw [hml]; rfl) (Steps.refl _) (argsL := [(.int (p1 % (268435456 : Int32)))]) (rest := []) (lenOf pd_2 rfl) rfl (by show 2 * 0 + _ ≤ _; exact Nat.le_of_eq rfl) (hb hby at_25) (fun _ _ => ⟨rfl, rfl, (by decide : 1 + 0 ≤ _), (by decide : 2 + 0 ≤ _)⟩)
  dsimp only [Pt.U, Pt.locs, Pt.cells, Pt.slots] at X19 l19 y19 z19 st19 hQ19
  subst l19 y19 z19
  obtain ⟨rfl, Nq19, Kq19, fq19_0, fq19_1, fq19_2⟩ := hQ19
  have N19 := Fr.app N18 Nq19
  have E_b16 := fq19_0
  have F_food_b16 := fq19_1
  have F_most_b16 := fq19_2
  have K19 := K18.trans Kq19 (allS (Or.inr sz_b16) all0)
  refine Ends.step (fun _ k => st19.trans k) ?_
  show Ends p e below QQ (T19.setTop (mkF m 28 #[.val (.int p0), .val (.int p1), .val (.int p2), .val (.int p3), .val (.ref b16), .unset, .unset, .unset, .unset, .unset, .unset, .unset, .unset, .unset, .unset, .unset, .unset, .unset] []))
  refine Ends.step (fun _ k => XS.aload X19.here hx rfl (hb hby at_28) rfl rfl k) ?_
  show Ends p e below QQ (T19.setTop (mkF m 30 #[.val (.int p0), .val (.int p1), .val (.int p2), .val (.int p3), .val (.ref b16), .unset, .unset, .unset, .unset, .unset, .unset, .unset, .unset, .unset, .unset, .unset, .unset, .unset] [(.ref b16)]))
  obtain ⟨cq20, kq20, q20a, q20b, q20c⟩ := isOf hZ rfl E_b16
  obtain ⟨_, _, ⟨T20, L20, k20, n20⟩, -, X20, ⟨Lc20, hQ20, l20, y20, z20⟩, st20⟩ := X19.virtualBack hx (y := (⟨"com/example/glyphdelve/glyphdelve/Stomach", "food", "()I"⟩ : MethodName)) (z := (⟨"com/example/glyphdelve/glyphdelve/Stomach", "food", "()I"⟩ : MethodName)) hown (mvT hZ (hw _ (List.mem_of_getElem? (i := 25) rfl))) (mvT hZ (hw _ (List.mem_of_getElem? (i := 26) rfl))) (notFace_of_selects (args := #[]) (mvT hZ (hw _ (List.mem_of_getElem? (i := 28) rfl)))) (mvT hZ (hw _ (List.mem_of_getElem? (i := 28) rfl))) (mvT hZ (hw _ (List.mem_of_getElem? (i := 27) rfl))) (by decide) (backOf (W := 0) (rm5 l Z a0 hw [] b16 ((fd3 (p0 &&& (1048575 : Int32)) (700 : Int32) (1000 : Int32)) - (p1 % (268435456 : Int32))) T19.heap n0 (Nat.le_trans Z0 K19.1) F_food_b16) hZ (hw _ (List.mem_of_getElem? (i := 29) rfl)) (hw _ (List.mem_of_getElem? (i := 2) rfl)) (by decide) (by decide)) q20a q20c (g := (mkF m 30 #[.val (.int p0), .val (.int p1), .val (.int p2), .val (.int p3), .val (.ref b16), .unset, .unset, .unset, .unset, .unset, .unset, .unset, .unset, .unset, .unset, .unset, .unset, .unset] [(.ref b16)])) rfl (by rw [hml]; rfl) (Steps.refl _) (argsL := []) (rest := []) (lenOf pd_3 rfl) rfl (by show 2 * 0 + _ ≤ _; exact Nat.le_of_eq rfl) (hb hby at_30) (fun _ _ => ⟨rfl, rfl, (by decide : 1 + 0 ≤ _), (by decide : 2 + 0 ≤ _)⟩)
  dsimp only [Pt.U, Pt.locs, Pt.cells, Pt.slots] at X20 l20 y20 z20 st20 hQ20
  subst l20 y20 z20
  obtain ⟨rfl, Nq20, hh20⟩ := hQ20
  have N20 := Fr.app N19 Nq20
  refine Ends.step (fun _ k => st20.trans k) ?_
  show Ends p e below QQ (T20.setTop (mkF m 33 #[.val (.int p0), .val (.int p1), .val (.int p2), .val (.int p3), .val (.ref b16), .unset, .unset, .unset, .unset, .unset, .unset, .unset, .unset, .unset, .unset, .unset, .unset, .unset] [(.int ((fd3 (p0 &&& (1048575 : Int32)) (700 : Int32) (1000 : Int32)) - (p1 % (268435456 : Int32))))]))
  refine Ends.step (fun _ k => XS.istore X20.here hx rfl (hb hby at_33) rfl (l' := #[.val (.int p0), .val (.int p1), .val (.int p2), .val (.int p3), .val (.ref b16), .val (.int ((fd3 (p0 &&& (1048575 : Int32)) (700 : Int32) (1000 : Int32)) - (p1 % (268435456 : Int32)))), .unset, .unset, .unset, .unset, .unset, .unset, .unset, .unset, .unset, .unset, .unset, .unset]) rfl k) ?_
  show Ends p e below QQ (T20.setTop (mkF m 35 #[.val (.int p0), .val (.int p1), .val (.int p2), .val (.int p3), .val (.ref b16), .val (.int ((fd3 (p0 &&& (1048575 : Int32)) (700 : Int32) (1000 : Int32)) - (p1 % (268435456 : Int32)))), .unset, .unset, .unset, .unset, .unset, .unset, .unset, .unset, .unset, .unset, .unset, .unset] []))
  generalize hv5_1 : ((fd3 (p0 &&& (1048575 : Int32)) (700 : Int32) (1000 : Int32)) - (p1 % (268435456 : Int32))) = x5_1
  have dx5_1 : f0_x5_1 p0 p1 p2 p3 = x5_1 := by
    simp only [f0_x5_1]
    exact hv5_1
  show Ends p e below QQ (T20.setTop (mkF m 35 #[.val (.int p0), .val (.int p1), .val (.int p2), .val (.int p3), .val (.ref b16), .val (.int x5_1), .unset, .unset, .unset, .unset, .unset, .unset, .unset, .unset, .unset, .unset, .unset, .unset] []))
  refine Ends.step (fun _ k => XS.aload X20.here hx rfl (hb hby at_35) rfl rfl k) ?_
  show Ends p e below QQ (T20.setTop (mkF m 37 #[.val (.int p0), .val (.int p1), .val (.int p2), .val (.int p3), .val (.ref b16), .val (.int x5_1), .unset, .unset, .unset, .unset, .unset, .unset, .unset, .unset, .unset, .unset, .unset, .unset] [(.ref b16)]))
  obtain ⟨cq21, kq21, q21a, q21b, q21c⟩ := isOf hZ hh20 E_b16
  obtain ⟨_, _, ⟨T21, L21, k21, n21⟩, -, X21, ⟨Lc21, hQ21, l21, y21, z21⟩, st21⟩ := X20.virtualBack hx (y := (⟨"com/example/glyphdelve/glyphdelve/Stomach", "most", "()I"⟩ : MethodName)) (z := (⟨"com/example/glyphdelve/glyphdelve/Stomach", "most", "()I"⟩ : MethodName)) hown (mvT hZ (hw _ (List.mem_of_getElem? (i := 30) rfl))) (mvT hZ (hw _ (List.mem_of_getElem? (i := 31) rfl))) (notFace_of_selects (args := #[]) (mvT hZ (hw _ (List.mem_of_getElem? (i := 33) rfl)))) (mvT hZ (hw _ (List.mem_of_getElem? (i := 33) rfl))) (mvT hZ (hw _ (List.mem_of_getElem? (i := 32) rfl))) (by decide) (backOf (W := 0) (rm6 l Z a0 hw [] b16 (ms3 (p0 &&& (1048575 : Int32)) (700 : Int32) (1000 : Int32)) T19.heap n0 (Nat.le_trans Z0 K19.1) F_most_b16) hZ (hw _ (List.mem_of_getElem? (i := 34) rfl)) (hw _ (List.mem_of_getElem? (i := 2) rfl)) (by decide) (by decide)) q21a q21c (g := (mkF m 37 #[.val (.int p0), .val (.int p1), .val (.int p2), .val (.int p3), .val (.ref b16), .val (.int x5_1), .unset, .unset, .unset, .unset, .unset, .unset, .unset, .unset, .unset, .unset, .unset, .unset] [(.ref b16)])) rfl (by rw [hml]; rfl) (Steps.refl _) (argsL := []) (rest := []) (lenOf pd_3 rfl) rfl (by show 2 * 0 + _ ≤ _; exact Nat.le_of_eq rfl) (hb hby at_37) (fun _ _ => ⟨rfl, hh20, (by decide : 1 + 0 ≤ _), (by decide : 2 + 0 ≤ _)⟩)
  dsimp only [Pt.U, Pt.locs, Pt.cells, Pt.slots] at X21 l21 y21 z21 st21 hQ21
  subst l21 y21 z21
  obtain ⟨rfl, Nq21, hh21⟩ := hQ21
  have N21 := Fr.app N20 Nq21
  refine Ends.step (fun _ k => st21.trans k) ?_
  show Ends p e below QQ (T21.setTop (mkF m 40 #[.val (.int p0), .val (.int p1), .val (.int p2), .val (.int p3), .val (.ref b16), .val (.int x5_1), .unset, .unset, .unset, .unset, .unset, .unset, .unset, .unset, .unset, .unset, .unset, .unset] [(.int (ms3 (p0 &&& (1048575 : Int32)) (700 : Int32) (1000 : Int32)))]))
  refine Ends.step (fun _ k => XS.istore X21.here hx rfl (hb hby at_40) rfl (l' := #[.val (.int p0), .val (.int p1), .val (.int p2), .val (.int p3), .val (.ref b16), .val (.int x5_1), .val (.int (ms3 (p0 &&& (1048575 : Int32)) (700 : Int32) (1000 : Int32))), .unset, .unset, .unset, .unset, .unset, .unset, .unset, .unset, .unset, .unset, .unset]) rfl k) ?_
  show Ends p e below QQ (T21.setTop (mkF m 42 #[.val (.int p0), .val (.int p1), .val (.int p2), .val (.int p3), .val (.ref b16), .val (.int x5_1), .val (.int (ms3 (p0 &&& (1048575 : Int32)) (700 : Int32) (1000 : Int32))), .unset, .unset, .unset, .unset, .unset, .unset, .unset, .unset, .unset, .unset, .unset] []))
  generalize hv6_2 : (ms3 (p0 &&& (1048575 : Int32)) (700 : Int32) (1000 : Int32)) = x6_2
  have dx6_2 : f0_x6_2 p0 p1 p2 p3 = x6_2 := by
    simp only [f0_x6_2]
    exact hv6_2
  show Ends p e below QQ (T21.setTop (mkF m 42 #[.val (.int p0), .val (.int p1), .val (.int p2), .val (.int p3), .val (.ref b16), .val (.int x5_1), .val (.int x6_2), .unset, .unset, .unset, .unset, .unset, .unset, .unset, .unset, .unset, .unset, .unset] []))
  refine Ends.step (fun _ k => XS.iloadN X21.here hx rfl (hb hby at_42) rfl k) ?_
  show Ends p e below QQ (T21.setTop (mkF m 43 #[.val (.int p0), .val (.int p1), .val (.int p2), .val (.int p3), .val (.ref b16), .val (.int x5_1), .val (.int x6_2), .unset, .unset, .unset, .unset, .unset, .unset, .unset, .unset, .unset, .unset, .unset] [(.int p2)]))
  refine Ends.step (fun _ k => X21.ldcI hx hown (mvT hZ (hw _ (List.mem_of_getElem? (i := 35) rfl))) (g := (mkF m 43 #[.val (.int p0), .val (.int p1), .val (.int p2), .val (.int p3), .val (.ref b16), .val (.int x5_1), .val (.int x6_2), .unset, .unset, .unset, .unset, .unset, .unset, .unset, .unset, .unset, .unset, .unset] [(.int p2)])) rfl (hb hby at_43) k) ?_
  show Ends p e below QQ (T21.setTop (mkF m 45 #[.val (.int p0), .val (.int p1), .val (.int p2), .val (.int p3), .val (.ref b16), .val (.int x5_1), .val (.int x6_2), .unset, .unset, .unset, .unset, .unset, .unset, .unset, .unset, .unset, .unset, .unset] [(.int (536870912 : Int32)), (.int p2)]))
  refine Ends.step (fun _ k => iremM (g := (mkF m 45 #[.val (.int p0), .val (.int p1), .val (.int p2), .val (.int p3), .val (.ref b16), .val (.int x5_1), .val (.int x6_2), .unset, .unset, .unset, .unset, .unset, .unset, .unset, .unset, .unset, .unset, .unset] [(.int (536870912 : Int32)), (.int p2)])) X21 hx rfl (hb hby at_45) rfl (by decide) k) ?_
  show Ends p e below QQ (T21.setTop (mkF m 46 #[.val (.int p0), .val (.int p1), .val (.int p2), .val (.int p3), .val (.ref b16), .val (.int x5_1), .val (.int x6_2), .unset, .unset, .unset, .unset, .unset, .unset, .unset, .unset, .unset, .unset, .unset] [(.int (p2 % (536870912 : Int32)))]))
  refine Ends.step (fun _ k => XS.istore X21.here hx rfl (hb hby at_46) rfl (l' := #[.val (.int p0), .val (.int p1), .val (.int p2), .val (.int p3), .val (.ref b16), .val (.int x5_1), .val (.int x6_2), .val (.int (p2 % (536870912 : Int32))), .unset, .unset, .unset, .unset, .unset, .unset, .unset, .unset, .unset, .unset]) rfl k) ?_
  show Ends p e below QQ (T21.setTop (mkF m 48 #[.val (.int p0), .val (.int p1), .val (.int p2), .val (.int p3), .val (.ref b16), .val (.int x5_1), .val (.int x6_2), .val (.int (p2 % (536870912 : Int32))), .unset, .unset, .unset, .unset, .unset, .unset, .unset, .unset, .unset, .unset] []))
  generalize hv7_3 : (p2 % (536870912 : Int32)) = x7_3
  have dx7_3 : f0_x7_3 p0 p1 p2 p3 = x7_3 := by
    simp only [f0_x7_3]
    exact hv7_3
  show Ends p e below QQ (T21.setTop (mkF m 48 #[.val (.int p0), .val (.int p1), .val (.int p2), .val (.int p3), .val (.ref b16), .val (.int x5_1), .val (.int x6_2), .val (.int x7_3), .unset, .unset, .unset, .unset, .unset, .unset, .unset, .unset, .unset, .unset] []))
  refine Ends.step (fun _ k => XS.iloadN X21.here hx rfl (hb hby at_48) rfl k) ?_
  show Ends p e below QQ (T21.setTop (mkF m 49 #[.val (.int p0), .val (.int p1), .val (.int p2), .val (.int p3), .val (.ref b16), .val (.int x5_1), .val (.int x6_2), .val (.int x7_3), .unset, .unset, .unset, .unset, .unset, .unset, .unset, .unset, .unset, .unset] [(.int p3)]))
  refine Ends.step (fun _ k => XT.iconstV X21.here hx rfl (1 : Int32) (hb hby at_49) rfl k) ?_
  show Ends p e below QQ (T21.setTop (mkF m 50 #[.val (.int p0), .val (.int p1), .val (.int p2), .val (.int p3), .val (.ref b16), .val (.int x5_1), .val (.int x6_2), .val (.int x7_3), .unset, .unset, .unset, .unset, .unset, .unset, .unset, .unset, .unset, .unset] [(.int (1 : Int32)), (.int p3)]))
  refine Ends.step (fun _ k => XS.iand X21.here hx rfl (hb hby at_50) rfl k) ?_
  show Ends p e below QQ (T21.setTop (mkF m 51 #[.val (.int p0), .val (.int p1), .val (.int p2), .val (.int p3), .val (.ref b16), .val (.int x5_1), .val (.int x6_2), .val (.int x7_3), .unset, .unset, .unset, .unset, .unset, .unset, .unset, .unset, .unset, .unset] [(.int (p3 &&& (1 : Int32)))]))
  have J69_22 : (∀ (v69_4 : Int32) (hv69_4 : v69_4 = (if (p3 &&& (1 : Int32)) = (0 : Int32) then x7_3 else (((x6_2 - x5_1) + ((p3 >>> ((1 : Int32) &&& 31)) &&& (3 : Int32))) - (1 : Int32)))), Ends p e below QQ (T21.setTop (mkF m 69 #[.val (.int p0), .val (.int p1), .val (.int p2), .val (.int p3), .val (.ref b16), .val (.int x5_1), .val (.int x6_2), .val (.int v69_4), .unset, .unset, .unset, .unset, .unset, .unset, .unset, .unset, .unset, .unset] []))) → Ends p e below QQ (T21.setTop (mkF m 51 #[.val (.int p0), .val (.int p1), .val (.int p2), .val (.int p3), .val (.ref b16), .val (.int x5_1), .val (.int x6_2), .val (.int x7_3), .unset, .unset, .unset, .unset, .unset, .unset, .unset, .unset, .unset, .unset] [(.int (p3 &&& (1 : Int32)))])) := by
    intro hJ
    by_cases hc51_23 : (p3 &&& (1 : Int32)) = (0 : Int32)
    · refine Ends.step (fun _ k => XS.ifYes X21.here hx rfl (pc0 := 51) (pc' := 69) rfl (hb hby at_51) rfl (XT.i0_eq_t hc51_23) (by decide) (by decide) k) ?_
      exact hJ _ (by simp only [if_pos hc51_23])
    · refine Ends.step (fun _ k => XS.ifNo X21.here hx rfl (hb hby at_51) rfl (XT.i0_eq_f hc51_23) k) ?_
      show Ends p e below QQ (T21.setTop (mkF m 54 #[.val (.int p0), .val (.int p1), .val (.int p2), .val (.int p3), .val (.ref b16), .val (.int x5_1), .val (.int x6_2), .val (.int x7_3), .unset, .unset, .unset, .unset, .unset, .unset, .unset, .unset, .unset, .unset] []))
      refine Ends.step (fun _ k => XS.iload X21.here hx rfl (hb hby at_54) rfl k) ?_
      show Ends p e below QQ (T21.setTop (mkF m 56 #[.val (.int p0), .val (.int p1), .val (.int p2), .val (.int p3), .val (.ref b16), .val (.int x5_1), .val (.int x6_2), .val (.int x7_3), .unset, .unset, .unset, .unset, .unset, .unset, .unset, .unset, .unset, .unset] [(.int x6_2)]))
      refine Ends.step (fun _ k => XS.iload X21.here hx rfl (hb hby at_56) rfl k) ?_
      show Ends p e below QQ (T21.setTop (mkF m 58 #[.val (.int p0), .val (.int p1), .val (.int p2), .val (.int p3), .val (.ref b16), .val (.int x5_1), .val (.int x6_2), .val (.int x7_3), .unset, .unset, .unset, .unset, .unset, .unset, .unset, .unset, .unset, .unset] [(.int x5_1), (.int x6_2)]))
      refine Ends.step (fun _ k => XS.isub X21.here hx rfl (hb hby at_58) rfl k) ?_
      show Ends p e below QQ (T21.setTop (mkF m 59 #[.val (.int p0), .val (.int p1), .val (.int p2), .val (.int p3), .val (.ref b16), .val (.int x5_1), .val (.int x6_2), .val (.int x7_3), .unset, .unset, .unset, .unset, .unset, .unset, .unset, .unset, .unset, .unset] [(.int (x6_2 - x5_1))]))
      refine Ends.step (fun _ k => XS.iloadN X21.here hx rfl (hb hby at_59) rfl k) ?_
      show Ends p e below QQ (T21.setTop (mkF m 60 #[.val (.int p0), .val (.int p1), .val (.int p2), .val (.int p3), .val (.ref b16), .val (.int x5_1), .val (.int x6_2), .val (.int x7_3), .unset, .unset, .unset, .unset, .unset, .unset, .unset, .unset, .unset, .unset] [(.int p3), (.int (x6_2 - x5_1))]))
      refine Ends.step (fun _ k => XT.iconstV X21.here hx rfl (1 : Int32) (hb hby at_60) rfl k) ?_
      show Ends p e below QQ (T21.setTop (mkF m 61 #[.val (.int p0), .val (.int p1), .val (.int p2), .val (.int p3), .val (.ref b16), .val (.int x5_1), .val (.int x6_2), .val (.int x7_3), .unset, .unset, .unset, .unset, .unset, .unset, .unset, .unset, .unset, .unset] [(.int (1 : Int32)), (.int p3), (.int (x6_2 - x5_1))]))
      refine Ends.step (fun _ k => XS.ishr X21.here hx rfl (hb hby at_61) rfl k) ?_
      show Ends p e below QQ (T21.setTop (mkF m 62 #[.val (.int p0), .val (.int p1), .val (.int p2), .val (.int p3), .val (.ref b16), .val (.int x5_1), .val (.int x6_2), .val (.int x7_3), .unset, .unset, .unset, .unset, .unset, .unset, .unset, .unset, .unset, .unset] [(.int (p3 >>> ((1 : Int32) &&& 31))), (.int (x6_2 - x5_1))]))
      refine Ends.step (fun _ k => XT.iconstV X21.here hx rfl (3 : Int32) (hb hby at_62) rfl k) ?_
      show Ends p e below QQ (T21.setTop (mkF m 63 #[.val (.int p0), .val (.int p1), .val (.int p2), .val (.int p3), .val (.ref b16), .val (.int x5_1), .val (.int x6_2), .val (.int x7_3), .unset, .unset, .unset, .unset, .unset, .unset, .unset, .unset, .unset, .unset] [(.int (3 : Int32)), (.int (p3 >>> ((1 : Int32) &&& 31))), (.int (x6_2 - x5_1))]))
      refine Ends.step (fun _ k => XS.iand X21.here hx rfl (hb hby at_63) rfl k) ?_
      show Ends p e below QQ (T21.setTop (mkF m 64 #[.val (.int p0), .val (.int p1), .val (.int p2), .val (.int p3), .val (.ref b16), .val (.int x5_1), .val (.int x6_2), .val (.int x7_3), .unset, .unset, .unset, .unset, .unset, .unset, .unset, .unset, .unset, .unset] [(.int ((p3 >>> ((1 : Int32) &&& 31)) &&& (3 : Int32))), (.int (x6_2 - x5_1))]))
      refine Ends.step (fun _ k => XS.iadd X21.here hx rfl (hb hby at_64) rfl k) ?_
      show Ends p e below QQ (T21.setTop (mkF m 65 #[.val (.int p0), .val (.int p1), .val (.int p2), .val (.int p3), .val (.ref b16), .val (.int x5_1), .val (.int x6_2), .val (.int x7_3), .unset, .unset, .unset, .unset, .unset, .unset, .unset, .unset, .unset, .unset] [(.int ((x6_2 - x5_1) + ((p3 >>> ((1 : Int32) &&& 31)) &&& (3 : Int32))))]))
      refine Ends.step (fun _ k => XT.iconstV X21.here hx rfl (1 : Int32) (hb hby at_65) rfl k) ?_
      show Ends p e below QQ (T21.setTop (mkF m 66 #[.val (.int p0), .val (.int p1), .val (.int p2), .val (.int p3), .val (.ref b16), .val (.int x5_1), .val (.int x6_2), .val (.int x7_3), .unset, .unset, .unset, .unset, .unset, .unset, .unset, .unset, .unset, .unset] [(.int (1 : Int32)), (.int ((x6_2 - x5_1) + ((p3 >>> ((1 : Int32) &&& 31)) &&& (3 : Int32))))]))
      refine Ends.step (fun _ k => XS.isub X21.here hx rfl (hb hby at_66) rfl k) ?_
      show Ends p e below QQ (T21.setTop (mkF m 67 #[.val (.int p0), .val (.int p1), .val (.int p2), .val (.int p3), .val (.ref b16), .val (.int x5_1), .val (.int x6_2), .val (.int x7_3), .unset, .unset, .unset, .unset, .unset, .unset, .unset, .unset, .unset, .unset] [(.int (((x6_2 - x5_1) + ((p3 >>> ((1 : Int32) &&& 31)) &&& (3 : Int32))) - (1 : Int32)))]))
      refine Ends.step (fun _ k => XS.istore X21.here hx rfl (hb hby at_67) rfl (l' := #[.val (.int p0), .val (.int p1), .val (.int p2), .val (.int p3), .val (.ref b16), .val (.int x5_1), .val (.int x6_2), .val (.int (((x6_2 - x5_1) + ((p3 >>> ((1 : Int32) &&& 31)) &&& (3 : Int32))) - (1 : Int32))), .unset, .unset, .unset, .unset, .unset, .unset, .unset, .unset, .unset, .unset]) rfl k) ?_
      exact hJ _ (by simp only [if_neg hc51_23])
  refine J69_22 fun v69_4 hv69_4 => ?_
  have dv69_4 : f0_v69_4 p0 p1 p2 p3 = v69_4 := by
    simp only [f0_v69_4, dx5_1, dx6_2, dx7_3]
    exact hv69_4.symm
  show Ends p e below QQ (T21.setTop (mkF m 69 #[.val (.int p0), .val (.int p1), .val (.int p2), .val (.int p3), .val (.ref b16), .val (.int x5_1), .val (.int x6_2), .val (.int v69_4), .unset, .unset, .unset, .unset, .unset, .unset, .unset, .unset, .unset, .unset] []))
  refine Ends.step (fun _ k => XS.aload X21.here hx rfl (hb hby at_69) rfl rfl k) ?_
  show Ends p e below QQ (T21.setTop (mkF m 71 #[.val (.int p0), .val (.int p1), .val (.int p2), .val (.int p3), .val (.ref b16), .val (.int x5_1), .val (.int x6_2), .val (.int v69_4), .unset, .unset, .unset, .unset, .unset, .unset, .unset, .unset, .unset, .unset] [(.ref b16)]))
  refine Ends.step (fun _ k => XS.iload X21.here hx rfl (hb hby at_71) rfl k) ?_
  show Ends p e below QQ (T21.setTop (mkF m 73 #[.val (.int p0), .val (.int p1), .val (.int p2), .val (.int p3), .val (.ref b16), .val (.int x5_1), .val (.int x6_2), .val (.int v69_4), .unset, .unset, .unset, .unset, .unset, .unset, .unset, .unset, .unset, .unset] [(.int v69_4), (.ref b16)]))
  obtain ⟨cq24, kq24, q24a, q24b, q24c⟩ := isOf hZ hh21 E_b16
  obtain ⟨_, _, ⟨T24, L24, k24, n24⟩, -, X24, ⟨Lc24, hQ24, l24, y24, z24⟩, st24⟩ := X21.virtualBack hx (y := (⟨"com/example/glyphdelve/glyphdelve/Stomach", "fill", "(I)Z"⟩ : MethodName)) (z := (⟨"com/example/glyphdelve/glyphdelve/Stomach", "fill", "(I)Z"⟩ : MethodName)) hown (mvT hZ (hw _ (List.mem_of_getElem? (i := 14) rfl))) (mvT hZ (hw _ (List.mem_of_getElem? (i := 15) rfl))) (notFace_of_selects (args := #[]) (mvT hZ (hw _ (List.mem_of_getElem? (i := 17) rfl)))) (mvT hZ (hw _ (List.mem_of_getElem? (i := 17) rfl))) (mvT hZ (hw _ (List.mem_of_getElem? (i := 16) rfl))) (by decide) (backOf (W := 0) (rm3 l Z a0 hw [] b16 v69_4 ((fd3 (p0 &&& (1048575 : Int32)) (700 : Int32) (1000 : Int32)) - (p1 % (268435456 : Int32))) (ms3 (p0 &&& (1048575 : Int32)) (700 : Int32) (1000 : Int32)) T19.heap n0 (Nat.le_trans Z0 K19.1) E_b16 F_food_b16 F_most_b16 g_b16) hZ (hw _ (List.mem_of_getElem? (i := 18) rfl)) (hw _ (List.mem_of_getElem? (i := 2) rfl)) (by decide) (by decide)) q24a q24c (g := (mkF m 73 #[.val (.int p0), .val (.int p1), .val (.int p2), .val (.int p3), .val (.ref b16), .val (.int x5_1), .val (.int x6_2), .val (.int v69_4), .unset, .unset, .unset, .unset, .unset, .unset, .unset, .unset, .unset, .unset] [(.int v69_4), (.ref b16)])) rfl (by rw [hml]; rfl) (Steps.refl _) (argsL := [(.int v69_4)]) (rest := []) (lenOf pd_1 rfl) rfl (by show 2 * 0 + _ ≤ _; exact Nat.le_of_eq rfl) (hb hby at_73) (fun _ _ => ⟨rfl, hh21, (by decide : 1 + 0 ≤ _), (by decide : 2 + 0 ≤ _)⟩)
  dsimp only [Pt.U, Pt.locs, Pt.cells, Pt.slots] at X24 l24 y24 z24 st24 hQ24
  subst l24 y24 z24
  obtain ⟨rfl, Nq24, Kq24, fq24_0, fq24_1, fq24_2⟩ := hQ24
  have N24 := Fr.app N21 Nq24
  have E_b16 := fq24_0
  have F_food_b16 := fq24_1
  have F_most_b16 := fq24_2
  have K24 := K19.trans Kq24 (allS (Or.inr sz_b16) all0)
  refine Ends.step (fun _ k => st24.trans k) ?_
  show Ends p e below QQ (T24.setTop (mkF m 76 #[.val (.int p0), .val (.int p1), .val (.int p2), .val (.int p3), .val (.ref b16), .val (.int x5_1), .val (.int x6_2), .val (.int v69_4), .unset, .unset, .unset, .unset, .unset, .unset, .unset, .unset, .unset, .unset] [(.int (f3 v69_4 ((fd3 (p0 &&& (1048575 : Int32)) (700 : Int32) (1000 : Int32)) - (p1 % (268435456 : Int32))) (ms3 (p0 &&& (1048575 : Int32)) (700 : Int32) (1000 : Int32))))]))
  refine Ends.step (fun _ k => XS.istore X24.here hx rfl (hb hby at_76) rfl (l' := #[.val (.int p0), .val (.int p1), .val (.int p2), .val (.int p3), .val (.ref b16), .val (.int x5_1), .val (.int x6_2), .val (.int v69_4), .val (.int (f3 v69_4 ((fd3 (p0 &&& (1048575 : Int32)) (700 : Int32) (1000 : Int32)) - (p1 % (268435456 : Int32))) (ms3 (p0 &&& (1048575 : Int32)) (700 : Int32) (1000 : Int32)))), .unset, .unset, .unset, .unset, .unset, .unset, .unset, .unset, .unset]) rfl k) ?_
  show Ends p e below QQ (T24.setTop (mkF m 78 #[.val (.int p0), .val (.int p1), .val (.int p2), .val (.int p3), .val (.ref b16), .val (.int x5_1), .val (.int x6_2), .val (.int v69_4), .val (.int (f3 v69_4 ((fd3 (p0 &&& (1048575 : Int32)) (700 : Int32) (1000 : Int32)) - (p1 % (268435456 : Int32))) (ms3 (p0 &&& (1048575 : Int32)) (700 : Int32) (1000 : Int32)))), .unset, .unset, .unset, .unset, .unset, .unset, .unset, .unset, .unset] []))
  generalize hv8_5 : (f3 v69_4 ((fd3 (p0 &&& (1048575 : Int32)) (700 : Int32) (1000 : Int32)) - (p1 % (268435456 : Int32))) (ms3 (p0 &&& (1048575 : Int32)) (700 : Int32) (1000 : Int32))) = x8_5
  have dx8_5 : f0_x8_5 p0 p1 p2 p3 = x8_5 := by
    simp only [f0_x8_5, dv69_4]
    exact hv8_5
  show Ends p e below QQ (T24.setTop (mkF m 78 #[.val (.int p0), .val (.int p1), .val (.int p2), .val (.int p3), .val (.ref b16), .val (.int x5_1), .val (.int x6_2), .val (.int v69_4), .val (.int x8_5), .unset, .unset, .unset, .unset, .unset, .unset, .unset, .unset, .unset] []))
  refine Ends.step (fun _ k => XS.iload X24.here hx rfl (hb hby at_78) rfl k) ?_
  show Ends p e below QQ (T24.setTop (mkF m 80 #[.val (.int p0), .val (.int p1), .val (.int p2), .val (.int p3), .val (.ref b16), .val (.int x5_1), .val (.int x6_2), .val (.int v69_4), .val (.int x8_5), .unset, .unset, .unset, .unset, .unset, .unset, .unset, .unset, .unset] [(.int x5_1)]))
  refine Ends.step (fun _ k => XT.i2l X24.here hx rfl (hb hby at_80) rfl k) ?_
  show Ends p e below QQ (T24.setTop (mkF m 81 #[.val (.int p0), .val (.int p1), .val (.int p2), .val (.int p3), .val (.ref b16), .val (.int x5_1), .val (.int x6_2), .val (.int v69_4), .val (.int x8_5), .unset, .unset, .unset, .unset, .unset, .unset, .unset, .unset, .unset] [(.long x5_1.toInt64)]))
  refine Ends.step (fun _ k => XS.iload X24.here hx rfl (hb hby at_81) rfl k) ?_
  show Ends p e below QQ (T24.setTop (mkF m 83 #[.val (.int p0), .val (.int p1), .val (.int p2), .val (.int p3), .val (.ref b16), .val (.int x5_1), .val (.int x6_2), .val (.int v69_4), .val (.int x8_5), .unset, .unset, .unset, .unset, .unset, .unset, .unset, .unset, .unset] [(.int v69_4), (.long x5_1.toInt64)]))
  refine Ends.step (fun _ k => XT.i2l X24.here hx rfl (hb hby at_83) rfl k) ?_
  show Ends p e below QQ (T24.setTop (mkF m 84 #[.val (.int p0), .val (.int p1), .val (.int p2), .val (.int p3), .val (.ref b16), .val (.int x5_1), .val (.int x6_2), .val (.int v69_4), .val (.int x8_5), .unset, .unset, .unset, .unset, .unset, .unset, .unset, .unset, .unset] [(.long v69_4.toInt64), (.long x5_1.toInt64)]))
  refine Ends.step (fun _ k => XT.ladd X24.here hx rfl (hb hby at_84) rfl k) ?_
  show Ends p e below QQ (T24.setTop (mkF m 85 #[.val (.int p0), .val (.int p1), .val (.int p2), .val (.int p3), .val (.ref b16), .val (.int x5_1), .val (.int x6_2), .val (.int v69_4), .val (.int x8_5), .unset, .unset, .unset, .unset, .unset, .unset, .unset, .unset, .unset] [(.long (x5_1.toInt64 + v69_4.toInt64))]))
  refine Ends.step (fun _ k => XT.lstore X24.here hx rfl (hb hby at_85) rfl (l' := #[.val (.int p0), .val (.int p1), .val (.int p2), .val (.int p3), .val (.ref b16), .val (.int x5_1), .val (.int x6_2), .val (.int v69_4), .val (.int x8_5), .val (.long (x5_1.toInt64 + v69_4.toInt64)), .second, .unset, .unset, .unset, .unset, .unset, .unset, .unset]) rfl k) ?_
  show Ends p e below QQ (T24.setTop (mkF m 87 #[.val (.int p0), .val (.int p1), .val (.int p2), .val (.int p3), .val (.ref b16), .val (.int x5_1), .val (.int x6_2), .val (.int v69_4), .val (.int x8_5), .val (.long (x5_1.toInt64 + v69_4.toInt64)), .second, .unset, .unset, .unset, .unset, .unset, .unset, .unset] []))
  generalize hv9_6 : (x5_1.toInt64 + v69_4.toInt64) = x9_6
  have dx9_6 : f0_x9_6 p0 p1 p2 p3 = x9_6 := by
    simp only [f0_x9_6, dx5_1, dv69_4]
    exact hv9_6
  show Ends p e below QQ (T24.setTop (mkF m 87 #[.val (.int p0), .val (.int p1), .val (.int p2), .val (.int p3), .val (.ref b16), .val (.int x5_1), .val (.int x6_2), .val (.int v69_4), .val (.int x8_5), .val (.long x9_6), .second, .unset, .unset, .unset, .unset, .unset, .unset, .unset] []))
  refine Ends.step (fun _ k => XT.lload X24.here hx rfl (hb hby at_87) rfl k) ?_
  show Ends p e below QQ (T24.setTop (mkF m 89 #[.val (.int p0), .val (.int p1), .val (.int p2), .val (.int p3), .val (.ref b16), .val (.int x5_1), .val (.int x6_2), .val (.int v69_4), .val (.int x8_5), .val (.long x9_6), .second, .unset, .unset, .unset, .unset, .unset, .unset, .unset] [(.long x9_6)]))
  refine Ends.step (fun _ k => XS.iload X24.here hx rfl (hb hby at_89) rfl k) ?_
  show Ends p e below QQ (T24.setTop (mkF m 91 #[.val (.int p0), .val (.int p1), .val (.int p2), .val (.int p3), .val (.ref b16), .val (.int x5_1), .val (.int x6_2), .val (.int v69_4), .val (.int x8_5), .val (.long x9_6), .second, .unset, .unset, .unset, .unset, .unset, .unset, .unset] [(.int x6_2), (.long x9_6)]))
  refine Ends.step (fun _ k => XT.i2l X24.here hx rfl (hb hby at_91) rfl k) ?_
  show Ends p e below QQ (T24.setTop (mkF m 92 #[.val (.int p0), .val (.int p1), .val (.int p2), .val (.int p3), .val (.ref b16), .val (.int x5_1), .val (.int x6_2), .val (.int v69_4), .val (.int x8_5), .val (.long x9_6), .second, .unset, .unset, .unset, .unset, .unset, .unset, .unset] [(.long x6_2.toInt64), (.long x9_6)]))
  refine Ends.step (fun _ k => XT.lcmp X24.here hx rfl (hb hby at_92) rfl k) ?_
  show Ends p e below QQ (T24.setTop (mkF m 93 #[.val (.int p0), .val (.int p1), .val (.int p2), .val (.int p3), .val (.ref b16), .val (.int x5_1), .val (.int x6_2), .val (.int v69_4), .val (.int x8_5), .val (.long x9_6), .second, .unset, .unset, .unset, .unset, .unset, .unset, .unset] [(.int (XT.cmpL x9_6 x6_2.toInt64))]))
  have J128_25 : (∀ (v128_7 : Int64) (hv128_7 : v128_7 = (if x6_2.toInt64 < x9_6 then ((x6_2.toInt64 + x9_6) >>> ((1 : Int32) &&& 0x3f).toInt64) else x6_2.toInt64)) (v128_8 : Int64) (hv128_8 : v128_8 = (if x6_2.toInt64 < x9_6 then ((x6_2.toInt64 + x9_6) >>> ((1 : Int32) &&& 0x3f).toInt64) else x9_6)) (v128_9 : Int32) (hv128_9 : v128_9 = (if x6_2.toInt64 < x9_6 then (1 : Int32) else (0 : Int32))), Ends p e below QQ (T24.setTop (mkF m 128 #[.val (.int p0), .val (.int p1), .val (.int p2), .val (.int p3), .val (.ref b16), .val (.int x5_1), .val (.int x6_2), .val (.int v69_4), .val (.int x8_5), .val (.long x9_6), .second, .val (.long v128_7), .second, .val (.long v128_8), .second, .val (.int v128_9), .unset, .unset] []))) → Ends p e below QQ (T24.setTop (mkF m 93 #[.val (.int p0), .val (.int p1), .val (.int p2), .val (.int p3), .val (.ref b16), .val (.int x5_1), .val (.int x6_2), .val (.int v69_4), .val (.int x8_5), .val (.long x9_6), .second, .unset, .unset, .unset, .unset, .unset, .unset, .unset] [(.int (XT.cmpL x9_6 x6_2.toInt64))])) := by
    intro hJ
    by_cases hc93_26 : x6_2.toInt64 < x9_6
    · refine Ends.step (fun _ k => XS.ifYes X24.here hx rfl (pc0 := 93) (pc' := 111) rfl (hb hby at_93) rfl (XT.ll_gt_t hc93_26) (by decide) (by decide) k) ?_
      show Ends p e below QQ (T24.setTop (mkF m 111 #[.val (.int p0), .val (.int p1), .val (.int p2), .val (.int p3), .val (.ref b16), .val (.int x5_1), .val (.int x6_2), .val (.int v69_4), .val (.int x8_5), .val (.long x9_6), .second, .unset, .unset, .unset, .unset, .unset, .unset, .unset] []))
      refine Ends.step (fun _ k => XS.iload X24.here hx rfl (hb hby at_111) rfl k) ?_
      show Ends p e below QQ (T24.setTop (mkF m 113 #[.val (.int p0), .val (.int p1), .val (.int p2), .val (.int p3), .val (.ref b16), .val (.int x5_1), .val (.int x6_2), .val (.int v69_4), .val (.int x8_5), .val (.long x9_6), .second, .unset, .unset, .unset, .unset, .unset, .unset, .unset] [(.int x6_2)]))
      refine Ends.step (fun _ k => XT.i2l X24.here hx rfl (hb hby at_113) rfl k) ?_
      show Ends p e below QQ (T24.setTop (mkF m 114 #[.val (.int p0), .val (.int p1), .val (.int p2), .val (.int p3), .val (.ref b16), .val (.int x5_1), .val (.int x6_2), .val (.int v69_4), .val (.int x8_5), .val (.long x9_6), .second, .unset, .unset, .unset, .unset, .unset, .unset, .unset] [(.long x6_2.toInt64)]))
      refine Ends.step (fun _ k => XT.lload X24.here hx rfl (hb hby at_114) rfl k) ?_
      show Ends p e below QQ (T24.setTop (mkF m 116 #[.val (.int p0), .val (.int p1), .val (.int p2), .val (.int p3), .val (.ref b16), .val (.int x5_1), .val (.int x6_2), .val (.int v69_4), .val (.int x8_5), .val (.long x9_6), .second, .unset, .unset, .unset, .unset, .unset, .unset, .unset] [(.long x9_6), (.long x6_2.toInt64)]))
      refine Ends.step (fun _ k => XT.ladd X24.here hx rfl (hb hby at_116) rfl k) ?_
      show Ends p e below QQ (T24.setTop (mkF m 117 #[.val (.int p0), .val (.int p1), .val (.int p2), .val (.int p3), .val (.ref b16), .val (.int x5_1), .val (.int x6_2), .val (.int v69_4), .val (.int x8_5), .val (.long x9_6), .second, .unset, .unset, .unset, .unset, .unset, .unset, .unset] [(.long (x6_2.toInt64 + x9_6))]))
      refine Ends.step (fun _ k => XT.iconstV X24.here hx rfl (1 : Int32) (hb hby at_117) rfl k) ?_
      show Ends p e below QQ (T24.setTop (mkF m 118 #[.val (.int p0), .val (.int p1), .val (.int p2), .val (.int p3), .val (.ref b16), .val (.int x5_1), .val (.int x6_2), .val (.int v69_4), .val (.int x8_5), .val (.long x9_6), .second, .unset, .unset, .unset, .unset, .unset, .unset, .unset] [(.int (1 : Int32)), (.long (x6_2.toInt64 + x9_6))]))
      refine Ends.step (fun _ k => XS.lshr X24.here hx rfl (hb hby at_118) rfl k) ?_
      show Ends p e below QQ (T24.setTop (mkF m 119 #[.val (.int p0), .val (.int p1), .val (.int p2), .val (.int p3), .val (.ref b16), .val (.int x5_1), .val (.int x6_2), .val (.int v69_4), .val (.int x8_5), .val (.long x9_6), .second, .unset, .unset, .unset, .unset, .unset, .unset, .unset] [(.long ((x6_2.toInt64 + x9_6) >>> ((1 : Int32) &&& 0x3f).toInt64))]))
      refine Ends.step (fun _ k => XT.lstore X24.here hx rfl (hb hby at_119) rfl (l' := #[.val (.int p0), .val (.int p1), .val (.int p2), .val (.int p3), .val (.ref b16), .val (.int x5_1), .val (.int x6_2), .val (.int v69_4), .val (.int x8_5), .val (.long x9_6), .second, .val (.long ((x6_2.toInt64 + x9_6) >>> ((1 : Int32) &&& 0x3f).toInt64)), .second, .unset, .unset, .unset, .unset, .unset]) rfl k) ?_
      show Ends p e below QQ (T24.setTop (mkF m 121 #[.val (.int p0), .val (.int p1), .val (.int p2), .val (.int p3), .val (.ref b16), .val (.int x5_1), .val (.int x6_2), .val (.int v69_4), .val (.int x8_5), .val (.long x9_6), .second, .val (.long ((x6_2.toInt64 + x9_6) >>> ((1 : Int32) &&& 0x3f).toInt64)), .second, .unset, .unset, .unset, .unset, .unset] []))
      refine Ends.step (fun _ k => XT.lload X24.here hx rfl (hb hby at_121) rfl k) ?_
      show Ends p e below QQ (T24.setTop (mkF m 123 #[.val (.int p0), .val (.int p1), .val (.int p2), .val (.int p3), .val (.ref b16), .val (.int x5_1), .val (.int x6_2), .val (.int v69_4), .val (.int x8_5), .val (.long x9_6), .second, .val (.long ((x6_2.toInt64 + x9_6) >>> ((1 : Int32) &&& 0x3f).toInt64)), .second, .unset, .unset, .unset, .unset, .unset] [(.long ((x6_2.toInt64 + x9_6) >>> ((1 : Int32) &&& 0x3f).toInt64))]))
      refine Ends.step (fun _ k => XT.lstore X24.here hx rfl (hb hby at_123) rfl (l' := #[.val (.int p0), .val (.int p1), .val (.int p2), .val (.int p3), .val (.ref b16), .val (.int x5_1), .val (.int x6_2), .val (.int v69_4), .val (.int x8_5), .val (.long x9_6), .second, .val (.long ((x6_2.toInt64 + x9_6) >>> ((1 : Int32) &&& 0x3f).toInt64)), .second, .val (.long ((x6_2.toInt64 + x9_6) >>> ((1 : Int32) &&& 0x3f).toInt64)), .second, .unset, .unset, .unset]) rfl k) ?_
      show Ends p e below QQ (T24.setTop (mkF m 125 #[.val (.int p0), .val (.int p1), .val (.int p2), .val (.int p3), .val (.ref b16), .val (.int x5_1), .val (.int x6_2), .val (.int v69_4), .val (.int x8_5), .val (.long x9_6), .second, .val (.long ((x6_2.toInt64 + x9_6) >>> ((1 : Int32) &&& 0x3f).toInt64)), .second, .val (.long ((x6_2.toInt64 + x9_6) >>> ((1 : Int32) &&& 0x3f).toInt64)), .second, .unset, .unset, .unset] []))
      refine Ends.step (fun _ k => XT.iconstV X24.here hx rfl (1 : Int32) (hb hby at_125) rfl k) ?_
      show Ends p e below QQ (T24.setTop (mkF m 126 #[.val (.int p0), .val (.int p1), .val (.int p2), .val (.int p3), .val (.ref b16), .val (.int x5_1), .val (.int x6_2), .val (.int v69_4), .val (.int x8_5), .val (.long x9_6), .second, .val (.long ((x6_2.toInt64 + x9_6) >>> ((1 : Int32) &&& 0x3f).toInt64)), .second, .val (.long ((x6_2.toInt64 + x9_6) >>> ((1 : Int32) &&& 0x3f).toInt64)), .second, .unset, .unset, .unset] [(.int (1 : Int32))]))
      refine Ends.step (fun _ k => XS.istore X24.here hx rfl (hb hby at_126) rfl (l' := #[.val (.int p0), .val (.int p1), .val (.int p2), .val (.int p3), .val (.ref b16), .val (.int x5_1), .val (.int x6_2), .val (.int v69_4), .val (.int x8_5), .val (.long x9_6), .second, .val (.long ((x6_2.toInt64 + x9_6) >>> ((1 : Int32) &&& 0x3f).toInt64)), .second, .val (.long ((x6_2.toInt64 + x9_6) >>> ((1 : Int32) &&& 0x3f).toInt64)), .second, .val (.int (1 : Int32)), .unset, .unset]) rfl k) ?_
      exact hJ _ (by simp only [if_pos hc93_26]) _ (by simp only [if_pos hc93_26]) _ (by simp only [if_pos hc93_26])
    · refine Ends.step (fun _ k => XS.ifNo X24.here hx rfl (hb hby at_93) rfl (XT.ll_gt_f hc93_26) k) ?_
      show Ends p e below QQ (T24.setTop (mkF m 96 #[.val (.int p0), .val (.int p1), .val (.int p2), .val (.int p3), .val (.ref b16), .val (.int x5_1), .val (.int x6_2), .val (.int v69_4), .val (.int x8_5), .val (.long x9_6), .second, .unset, .unset, .unset, .unset, .unset, .unset, .unset] []))
      refine Ends.step (fun _ k => XS.iload X24.here hx rfl (hb hby at_96) rfl k) ?_
      show Ends p e below QQ (T24.setTop (mkF m 98 #[.val (.int p0), .val (.int p1), .val (.int p2), .val (.int p3), .val (.ref b16), .val (.int x5_1), .val (.int x6_2), .val (.int v69_4), .val (.int x8_5), .val (.long x9_6), .second, .unset, .unset, .unset, .unset, .unset, .unset, .unset] [(.int x6_2)]))
      refine Ends.step (fun _ k => XT.i2l X24.here hx rfl (hb hby at_98) rfl k) ?_
      show Ends p e below QQ (T24.setTop (mkF m 99 #[.val (.int p0), .val (.int p1), .val (.int p2), .val (.int p3), .val (.ref b16), .val (.int x5_1), .val (.int x6_2), .val (.int v69_4), .val (.int x8_5), .val (.long x9_6), .second, .unset, .unset, .unset, .unset, .unset, .unset, .unset] [(.long x6_2.toInt64)]))
      refine Ends.step (fun _ k => XT.lstore X24.here hx rfl (hb hby at_99) rfl (l' := #[.val (.int p0), .val (.int p1), .val (.int p2), .val (.int p3), .val (.ref b16), .val (.int x5_1), .val (.int x6_2), .val (.int v69_4), .val (.int x8_5), .val (.long x9_6), .second, .val (.long x6_2.toInt64), .second, .unset, .unset, .unset, .unset, .unset]) rfl k) ?_
      show Ends p e below QQ (T24.setTop (mkF m 101 #[.val (.int p0), .val (.int p1), .val (.int p2), .val (.int p3), .val (.ref b16), .val (.int x5_1), .val (.int x6_2), .val (.int v69_4), .val (.int x8_5), .val (.long x9_6), .second, .val (.long x6_2.toInt64), .second, .unset, .unset, .unset, .unset, .unset] []))
      refine Ends.step (fun _ k => XT.lload X24.here hx rfl (hb hby at_101) rfl k) ?_
      show Ends p e below QQ (T24.setTop (mkF m 103 #[.val (.int p0), .val (.int p1), .val (.int p2), .val (.int p3), .val (.ref b16), .val (.int x5_1), .val (.int x6_2), .val (.int v69_4), .val (.int x8_5), .val (.long x9_6), .second, .val (.long x6_2.toInt64), .second, .unset, .unset, .unset, .unset, .unset] [(.long x9_6)]))
      refine Ends.step (fun _ k => XT.lstore X24.here hx rfl (hb hby at_103) rfl (l' := #[.val (.int p0), .val (.int p1), .val (.int p2), .val (.int p3), .val (.ref b16), .val (.int x5_1), .val (.int x6_2), .val (.int v69_4), .val (.int x8_5), .val (.long x9_6), .second, .val (.long x6_2.toInt64), .second, .val (.long x9_6), .second, .unset, .unset, .unset]) rfl k) ?_
      show Ends p e below QQ (T24.setTop (mkF m 105 #[.val (.int p0), .val (.int p1), .val (.int p2), .val (.int p3), .val (.ref b16), .val (.int x5_1), .val (.int x6_2), .val (.int v69_4), .val (.int x8_5), .val (.long x9_6), .second, .val (.long x6_2.toInt64), .second, .val (.long x9_6), .second, .unset, .unset, .unset] []))
      refine Ends.step (fun _ k => XT.iconstV X24.here hx rfl (0 : Int32) (hb hby at_105) rfl k) ?_
      show Ends p e below QQ (T24.setTop (mkF m 106 #[.val (.int p0), .val (.int p1), .val (.int p2), .val (.int p3), .val (.ref b16), .val (.int x5_1), .val (.int x6_2), .val (.int v69_4), .val (.int x8_5), .val (.long x9_6), .second, .val (.long x6_2.toInt64), .second, .val (.long x9_6), .second, .unset, .unset, .unset] [(.int (0 : Int32))]))
      refine Ends.step (fun _ k => XS.istore X24.here hx rfl (hb hby at_106) rfl (l' := #[.val (.int p0), .val (.int p1), .val (.int p2), .val (.int p3), .val (.ref b16), .val (.int x5_1), .val (.int x6_2), .val (.int v69_4), .val (.int x8_5), .val (.long x9_6), .second, .val (.long x6_2.toInt64), .second, .val (.long x9_6), .second, .val (.int (0 : Int32)), .unset, .unset]) rfl k) ?_
      show Ends p e below QQ (T24.setTop (mkF m 108 #[.val (.int p0), .val (.int p1), .val (.int p2), .val (.int p3), .val (.ref b16), .val (.int x5_1), .val (.int x6_2), .val (.int v69_4), .val (.int x8_5), .val (.long x9_6), .second, .val (.long x6_2.toInt64), .second, .val (.long x9_6), .second, .val (.int (0 : Int32)), .unset, .unset] []))
      refine Ends.step (fun _ k => XS.goto X24.here hx rfl (pc0 := 108) (pc' := 128) rfl (hb hby at_108) (by decide) (by decide) k) ?_
      exact hJ _ (by simp only [if_neg hc93_26]) _ (by simp only [if_neg hc93_26]) _ (by simp only [if_neg hc93_26])
  refine J128_25 fun v128_7 hv128_7 v128_8 hv128_8 v128_9 hv128_9 => ?_
  have dv128_7 : f0_v128_7 p0 p1 p2 p3 = v128_7 := by
    simp only [f0_v128_7, dx6_2, dx9_6]
    exact hv128_7.symm
  have dv128_8 : f0_v128_8 p0 p1 p2 p3 = v128_8 := by
    simp only [f0_v128_8, dx6_2, dx9_6]
    exact hv128_8.symm
  have dv128_9 : f0_v128_9 p0 p1 p2 p3 = v128_9 := by
    simp only [f0_v128_9, dx6_2, dx9_6]
    exact hv128_9.symm
  show Ends p e below QQ (T24.setTop (mkF m 128 #[.val (.int p0), .val (.int p1), .val (.int p2), .val (.int p3), .val (.ref b16), .val (.int x5_1), .val (.int x6_2), .val (.int v69_4), .val (.int x8_5), .val (.long x9_6), .second, .val (.long v128_7), .second, .val (.long v128_8), .second, .val (.int v128_9), .unset, .unset] []))
  refine Ends.step (fun _ k => XS.aload X24.here hx rfl (hb hby at_128) rfl rfl k) ?_
  show Ends p e below QQ (T24.setTop (mkF m 130 #[.val (.int p0), .val (.int p1), .val (.int p2), .val (.int p3), .val (.ref b16), .val (.int x5_1), .val (.int x6_2), .val (.int v69_4), .val (.int x8_5), .val (.long x9_6), .second, .val (.long v128_7), .second, .val (.long v128_8), .second, .val (.int v128_9), .unset, .unset] [(.ref b16)]))
  obtain ⟨cq27, kq27, q27a, q27b, q27c⟩ := isOf hZ rfl E_b16
  obtain ⟨_, _, ⟨T27, L27, k27, n27⟩, -, X27, ⟨Lc27, hQ27, l27, y27, z27⟩, st27⟩ := X24.virtualBack hx (y := (⟨"com/example/glyphdelve/glyphdelve/Stomach", "food", "()I"⟩ : MethodName)) (z := (⟨"com/example/glyphdelve/glyphdelve/Stomach", "food", "()I"⟩ : MethodName)) hown (mvT hZ (hw _ (List.mem_of_getElem? (i := 25) rfl))) (mvT hZ (hw _ (List.mem_of_getElem? (i := 26) rfl))) (notFace_of_selects (args := #[]) (mvT hZ (hw _ (List.mem_of_getElem? (i := 28) rfl)))) (mvT hZ (hw _ (List.mem_of_getElem? (i := 28) rfl))) (mvT hZ (hw _ (List.mem_of_getElem? (i := 27) rfl))) (by decide) (backOf (W := 0) (rm5 l Z a0 hw [] b16 (fd3 v69_4 ((fd3 (p0 &&& (1048575 : Int32)) (700 : Int32) (1000 : Int32)) - (p1 % (268435456 : Int32))) (ms3 (p0 &&& (1048575 : Int32)) (700 : Int32) (1000 : Int32))) T24.heap n0 (Nat.le_trans Z0 K24.1) F_food_b16) hZ (hw _ (List.mem_of_getElem? (i := 29) rfl)) (hw _ (List.mem_of_getElem? (i := 2) rfl)) (by decide) (by decide)) q27a q27c (g := (mkF m 130 #[.val (.int p0), .val (.int p1), .val (.int p2), .val (.int p3), .val (.ref b16), .val (.int x5_1), .val (.int x6_2), .val (.int v69_4), .val (.int x8_5), .val (.long x9_6), .second, .val (.long v128_7), .second, .val (.long v128_8), .second, .val (.int v128_9), .unset, .unset] [(.ref b16)])) rfl (by rw [hml]; rfl) (Steps.refl _) (argsL := []) (rest := []) (lenOf pd_3 rfl) rfl (by show 2 * 0 + _ ≤ _; exact Nat.le_of_eq rfl) (hb hby at_130) (fun _ _ => ⟨rfl, rfl, (by decide : 1 + 0 ≤ _), (by decide : 2 + 0 ≤ _)⟩)
  dsimp only [Pt.U, Pt.locs, Pt.cells, Pt.slots] at X27 l27 y27 z27 st27 hQ27
  subst l27 y27 z27
  obtain ⟨rfl, Nq27, hh27⟩ := hQ27
  have N27 := Fr.app N24 Nq27
  refine Ends.step (fun _ k => st27.trans k) ?_
  show Ends p e below QQ (T27.setTop (mkF m 133 #[.val (.int p0), .val (.int p1), .val (.int p2), .val (.int p3), .val (.ref b16), .val (.int x5_1), .val (.int x6_2), .val (.int v69_4), .val (.int x8_5), .val (.long x9_6), .second, .val (.long v128_7), .second, .val (.long v128_8), .second, .val (.int v128_9), .unset, .unset] [(.int (fd3 v69_4 ((fd3 (p0 &&& (1048575 : Int32)) (700 : Int32) (1000 : Int32)) - (p1 % (268435456 : Int32))) (ms3 (p0 &&& (1048575 : Int32)) (700 : Int32) (1000 : Int32))))]))
  refine Ends.step (fun _ k => XS.istore X27.here hx rfl (hb hby at_133) rfl (l' := #[.val (.int p0), .val (.int p1), .val (.int p2), .val (.int p3), .val (.ref b16), .val (.int x5_1), .val (.int x6_2), .val (.int v69_4), .val (.int x8_5), .val (.long x9_6), .second, .val (.long v128_7), .second, .val (.long v128_8), .second, .val (.int v128_9), .val (.int (fd3 v69_4 ((fd3 (p0 &&& (1048575 : Int32)) (700 : Int32) (1000 : Int32)) - (p1 % (268435456 : Int32))) (ms3 (p0 &&& (1048575 : Int32)) (700 : Int32) (1000 : Int32)))), .unset]) rfl k) ?_
  show Ends p e below QQ (T27.setTop (mkF m 135 #[.val (.int p0), .val (.int p1), .val (.int p2), .val (.int p3), .val (.ref b16), .val (.int x5_1), .val (.int x6_2), .val (.int v69_4), .val (.int x8_5), .val (.long x9_6), .second, .val (.long v128_7), .second, .val (.long v128_8), .second, .val (.int v128_9), .val (.int (fd3 v69_4 ((fd3 (p0 &&& (1048575 : Int32)) (700 : Int32) (1000 : Int32)) - (p1 % (268435456 : Int32))) (ms3 (p0 &&& (1048575 : Int32)) (700 : Int32) (1000 : Int32)))), .unset] []))
  generalize hv16_10 : (fd3 v69_4 ((fd3 (p0 &&& (1048575 : Int32)) (700 : Int32) (1000 : Int32)) - (p1 % (268435456 : Int32))) (ms3 (p0 &&& (1048575 : Int32)) (700 : Int32) (1000 : Int32))) = x16_10
  have dx16_10 : f0_x16_10 p0 p1 p2 p3 = x16_10 := by
    simp only [f0_x16_10, dv69_4]
    exact hv16_10
  show Ends p e below QQ (T27.setTop (mkF m 135 #[.val (.int p0), .val (.int p1), .val (.int p2), .val (.int p3), .val (.ref b16), .val (.int x5_1), .val (.int x6_2), .val (.int v69_4), .val (.int x8_5), .val (.long x9_6), .second, .val (.long v128_7), .second, .val (.long v128_8), .second, .val (.int v128_9), .val (.int x16_10), .unset] []))
  refine Ends.step (fun _ k => XS.aload X27.here hx rfl (hb hby at_135) rfl rfl k) ?_
  show Ends p e below QQ (T27.setTop (mkF m 137 #[.val (.int p0), .val (.int p1), .val (.int p2), .val (.int p3), .val (.ref b16), .val (.int x5_1), .val (.int x6_2), .val (.int v69_4), .val (.int x8_5), .val (.long x9_6), .second, .val (.long v128_7), .second, .val (.long v128_8), .second, .val (.int v128_9), .val (.int x16_10), .unset] [(.ref b16)]))
  obtain ⟨cq28, kq28, q28a, q28b, q28c⟩ := isOf hZ hh27 E_b16
  obtain ⟨_, _, ⟨T28, L28, k28, n28⟩, -, X28, ⟨Lc28, hQ28, l28, y28, z28⟩, st28⟩ := X27.virtualBack hx (y := (⟨"com/example/glyphdelve/glyphdelve/Stomach", "most", "()I"⟩ : MethodName)) (z := (⟨"com/example/glyphdelve/glyphdelve/Stomach", "most", "()I"⟩ : MethodName)) hown (mvT hZ (hw _ (List.mem_of_getElem? (i := 30) rfl))) (mvT hZ (hw _ (List.mem_of_getElem? (i := 31) rfl))) (notFace_of_selects (args := #[]) (mvT hZ (hw _ (List.mem_of_getElem? (i := 33) rfl)))) (mvT hZ (hw _ (List.mem_of_getElem? (i := 33) rfl))) (mvT hZ (hw _ (List.mem_of_getElem? (i := 32) rfl))) (by decide) (backOf (W := 0) (rm6 l Z a0 hw [] b16 (ms3 v69_4 ((fd3 (p0 &&& (1048575 : Int32)) (700 : Int32) (1000 : Int32)) - (p1 % (268435456 : Int32))) (ms3 (p0 &&& (1048575 : Int32)) (700 : Int32) (1000 : Int32))) T24.heap n0 (Nat.le_trans Z0 K24.1) F_most_b16) hZ (hw _ (List.mem_of_getElem? (i := 34) rfl)) (hw _ (List.mem_of_getElem? (i := 2) rfl)) (by decide) (by decide)) q28a q28c (g := (mkF m 137 #[.val (.int p0), .val (.int p1), .val (.int p2), .val (.int p3), .val (.ref b16), .val (.int x5_1), .val (.int x6_2), .val (.int v69_4), .val (.int x8_5), .val (.long x9_6), .second, .val (.long v128_7), .second, .val (.long v128_8), .second, .val (.int v128_9), .val (.int x16_10), .unset] [(.ref b16)])) rfl (by rw [hml]; rfl) (Steps.refl _) (argsL := []) (rest := []) (lenOf pd_3 rfl) rfl (by show 2 * 0 + _ ≤ _; exact Nat.le_of_eq rfl) (hb hby at_137) (fun _ _ => ⟨rfl, hh27, (by decide : 1 + 0 ≤ _), (by decide : 2 + 0 ≤ _)⟩)
  dsimp only [Pt.U, Pt.locs, Pt.cells, Pt.slots] at X28 l28 y28 z28 st28 hQ28
  subst l28 y28 z28
  obtain ⟨rfl, Nq28, hh28⟩ := hQ28
  have N28 := Fr.app N27 Nq28
  refine Ends.step (fun _ k => st28.trans k) ?_
  show Ends p e below QQ (T28.setTop (mkF m 140 #[.val (.int p0), .val (.int p1), .val (.int p2), .val (.int p3), .val (.ref b16), .val (.int x5_1), .val (.int x6_2), .val (.int v69_4), .val (.int x8_5), .val (.long x9_6), .second, .val (.long v128_7), .second, .val (.long v128_8), .second, .val (.int v128_9), .val (.int x16_10), .unset] [(.int (ms3 v69_4 ((fd3 (p0 &&& (1048575 : Int32)) (700 : Int32) (1000 : Int32)) - (p1 % (268435456 : Int32))) (ms3 (p0 &&& (1048575 : Int32)) (700 : Int32) (1000 : Int32))))]))
  refine Ends.step (fun _ k => XS.istore X28.here hx rfl (hb hby at_140) rfl (l' := #[.val (.int p0), .val (.int p1), .val (.int p2), .val (.int p3), .val (.ref b16), .val (.int x5_1), .val (.int x6_2), .val (.int v69_4), .val (.int x8_5), .val (.long x9_6), .second, .val (.long v128_7), .second, .val (.long v128_8), .second, .val (.int v128_9), .val (.int x16_10), .val (.int (ms3 v69_4 ((fd3 (p0 &&& (1048575 : Int32)) (700 : Int32) (1000 : Int32)) - (p1 % (268435456 : Int32))) (ms3 (p0 &&& (1048575 : Int32)) (700 : Int32) (1000 : Int32))))]) rfl k) ?_
  show Ends p e below QQ (T28.setTop (mkF m 142 #[.val (.int p0), .val (.int p1), .val (.int p2), .val (.int p3), .val (.ref b16), .val (.int x5_1), .val (.int x6_2), .val (.int v69_4), .val (.int x8_5), .val (.long x9_6), .second, .val (.long v128_7), .second, .val (.long v128_8), .second, .val (.int v128_9), .val (.int x16_10), .val (.int (ms3 v69_4 ((fd3 (p0 &&& (1048575 : Int32)) (700 : Int32) (1000 : Int32)) - (p1 % (268435456 : Int32))) (ms3 (p0 &&& (1048575 : Int32)) (700 : Int32) (1000 : Int32))))] []))
  generalize hv17_11 : (ms3 v69_4 ((fd3 (p0 &&& (1048575 : Int32)) (700 : Int32) (1000 : Int32)) - (p1 % (268435456 : Int32))) (ms3 (p0 &&& (1048575 : Int32)) (700 : Int32) (1000 : Int32))) = x17_11
  have dx17_11 : f0_x17_11 p0 p1 p2 p3 = x17_11 := by
    simp only [f0_x17_11, dv69_4]
    exact hv17_11
  show Ends p e below QQ (T28.setTop (mkF m 142 #[.val (.int p0), .val (.int p1), .val (.int p2), .val (.int p3), .val (.ref b16), .val (.int x5_1), .val (.int x6_2), .val (.int v69_4), .val (.int x8_5), .val (.long x9_6), .second, .val (.long v128_7), .second, .val (.long v128_8), .second, .val (.int v128_9), .val (.int x16_10), .val (.int x17_11)] []))
  refine Ends.step (fun _ k => XS.iload X28.here hx rfl (hb hby at_142) rfl k) ?_
  show Ends p e below QQ (T28.setTop (mkF m 144 #[.val (.int p0), .val (.int p1), .val (.int p2), .val (.int p3), .val (.ref b16), .val (.int x5_1), .val (.int x6_2), .val (.int v69_4), .val (.int x8_5), .val (.long x9_6), .second, .val (.long v128_7), .second, .val (.long v128_8), .second, .val (.int v128_9), .val (.int x16_10), .val (.int x17_11)] [(.int x8_5)]))
  refine Ends.step (fun _ k => XS.iload X28.here hx rfl (hb hby at_144) rfl k) ?_
  show Ends p e below QQ (T28.setTop (mkF m 146 #[.val (.int p0), .val (.int p1), .val (.int p2), .val (.int p3), .val (.ref b16), .val (.int x5_1), .val (.int x6_2), .val (.int v69_4), .val (.int x8_5), .val (.long x9_6), .second, .val (.long v128_7), .second, .val (.long v128_8), .second, .val (.int v128_9), .val (.int x16_10), .val (.int x17_11)] [(.int v128_9), (.int x8_5)]))
  have J179_29 : (∀ (v179_12 : Int32) (hv179_12 : v179_12 = (if x8_5 = v128_9 then (if x16_10.toInt64 = v128_8 then (if x17_11.toInt64 = v128_7 then (if x17_11 < x16_10 then (0 : Int32) else (1 : Int32)) else (0 : Int32)) else (0 : Int32)) else (0 : Int32))), Ends p e below QQ (T28.setTop (mkF m 179 #[.val (.int p0), .val (.int p1), .val (.int p2), .val (.int p3), .val (.ref b16), .val (.int x5_1), .val (.int x6_2), .val (.int v69_4), .val (.int x8_5), .val (.long x9_6), .second, .val (.long v128_7), .second, .val (.long v128_8), .second, .val (.int v128_9), .val (.int x16_10), .val (.int x17_11)] [(.int v179_12)]))) → Ends p e below QQ (T28.setTop (mkF m 146 #[.val (.int p0), .val (.int p1), .val (.int p2), .val (.int p3), .val (.ref b16), .val (.int x5_1), .val (.int x6_2), .val (.int v69_4), .val (.int x8_5), .val (.long x9_6), .second, .val (.long v128_7), .second, .val (.long v128_8), .second, .val (.int v128_9), .val (.int x16_10), .val (.int x17_11)] [(.int v128_9), (.int x8_5)])) := by
    intro hJ
    by_cases hc146_30 : x8_5 = v128_9
    · refine Ends.step (fun _ k => XS.icmpNo X28.here hx rfl (hb hby at_146) rfl (XT.ii_ne_f hc146_30) k) ?_
      show Ends p e below QQ (T28.setTop (mkF m 149 #[.val (.int p0), .val (.int p1), .val (.int p2), .val (.int p3), .val (.ref b16), .val (.int x5_1), .val (.int x6_2), .val (.int v69_4), .val (.int x8_5), .val (.long x9_6), .second, .val (.long v128_7), .second, .val (.long v128_8), .second, .val (.int v128_9), .val (.int x16_10), .val (.int x17_11)] []))
      refine Ends.step (fun _ k => XS.iload X28.here hx rfl (hb hby at_149) rfl k) ?_
      show Ends p e below QQ (T28.setTop (mkF m 151 #[.val (.int p0), .val (.int p1), .val (.int p2), .val (.int p3), .val (.ref b16), .val (.int x5_1), .val (.int x6_2), .val (.int v69_4), .val (.int x8_5), .val (.long x9_6), .second, .val (.long v128_7), .second, .val (.long v128_8), .second, .val (.int v128_9), .val (.int x16_10), .val (.int x17_11)] [(.int x16_10)]))
      refine Ends.step (fun _ k => XT.i2l X28.here hx rfl (hb hby at_151) rfl k) ?_
      show Ends p e below QQ (T28.setTop (mkF m 152 #[.val (.int p0), .val (.int p1), .val (.int p2), .val (.int p3), .val (.ref b16), .val (.int x5_1), .val (.int x6_2), .val (.int v69_4), .val (.int x8_5), .val (.long x9_6), .second, .val (.long v128_7), .second, .val (.long v128_8), .second, .val (.int v128_9), .val (.int x16_10), .val (.int x17_11)] [(.long x16_10.toInt64)]))
      refine Ends.step (fun _ k => XT.lload X28.here hx rfl (hb hby at_152) rfl k) ?_
      show Ends p e below QQ (T28.setTop (mkF m 154 #[.val (.int p0), .val (.int p1), .val (.int p2), .val (.int p3), .val (.ref b16), .val (.int x5_1), .val (.int x6_2), .val (.int v69_4), .val (.int x8_5), .val (.long x9_6), .second, .val (.long v128_7), .second, .val (.long v128_8), .second, .val (.int v128_9), .val (.int x16_10), .val (.int x17_11)] [(.long v128_8), (.long x16_10.toInt64)]))
      refine Ends.step (fun _ k => XT.lcmp X28.here hx rfl (hb hby at_154) rfl k) ?_
      show Ends p e below QQ (T28.setTop (mkF m 155 #[.val (.int p0), .val (.int p1), .val (.int p2), .val (.int p3), .val (.ref b16), .val (.int x5_1), .val (.int x6_2), .val (.int v69_4), .val (.int x8_5), .val (.long x9_6), .second, .val (.long v128_7), .second, .val (.long v128_8), .second, .val (.int v128_9), .val (.int x16_10), .val (.int x17_11)] [(.int (XT.cmpL x16_10.toInt64 v128_8))]))
      by_cases hc155_31 : x16_10.toInt64 = v128_8
      · refine Ends.step (fun _ k => XS.ifNo X28.here hx rfl (hb hby at_155) rfl (XT.ll_ne_f hc155_31) k) ?_
        show Ends p e below QQ (T28.setTop (mkF m 158 #[.val (.int p0), .val (.int p1), .val (.int p2), .val (.int p3), .val (.ref b16), .val (.int x5_1), .val (.int x6_2), .val (.int v69_4), .val (.int x8_5), .val (.long x9_6), .second, .val (.long v128_7), .second, .val (.long v128_8), .second, .val (.int v128_9), .val (.int x16_10), .val (.int x17_11)] []))
        refine Ends.step (fun _ k => XS.iload X28.here hx rfl (hb hby at_158) rfl k) ?_
        show Ends p e below QQ (T28.setTop (mkF m 160 #[.val (.int p0), .val (.int p1), .val (.int p2), .val (.int p3), .val (.ref b16), .val (.int x5_1), .val (.int x6_2), .val (.int v69_4), .val (.int x8_5), .val (.long x9_6), .second, .val (.long v128_7), .second, .val (.long v128_8), .second, .val (.int v128_9), .val (.int x16_10), .val (.int x17_11)] [(.int x17_11)]))
        refine Ends.step (fun _ k => XT.i2l X28.here hx rfl (hb hby at_160) rfl k) ?_
        show Ends p e below QQ (T28.setTop (mkF m 161 #[.val (.int p0), .val (.int p1), .val (.int p2), .val (.int p3), .val (.ref b16), .val (.int x5_1), .val (.int x6_2), .val (.int v69_4), .val (.int x8_5), .val (.long x9_6), .second, .val (.long v128_7), .second, .val (.long v128_8), .second, .val (.int v128_9), .val (.int x16_10), .val (.int x17_11)] [(.long x17_11.toInt64)]))
        refine Ends.step (fun _ k => XT.lload X28.here hx rfl (hb hby at_161) rfl k) ?_
        show Ends p e below QQ (T28.setTop (mkF m 163 #[.val (.int p0), .val (.int p1), .val (.int p2), .val (.int p3), .val (.ref b16), .val (.int x5_1), .val (.int x6_2), .val (.int v69_4), .val (.int x8_5), .val (.long x9_6), .second, .val (.long v128_7), .second, .val (.long v128_8), .second, .val (.int v128_9), .val (.int x16_10), .val (.int x17_11)] [(.long v128_7), (.long x17_11.toInt64)]))
        refine Ends.step (fun _ k => XT.lcmp X28.here hx rfl (hb hby at_163) rfl k) ?_
        show Ends p e below QQ (T28.setTop (mkF m 164 #[.val (.int p0), .val (.int p1), .val (.int p2), .val (.int p3), .val (.ref b16), .val (.int x5_1), .val (.int x6_2), .val (.int v69_4), .val (.int x8_5), .val (.long x9_6), .second, .val (.long v128_7), .second, .val (.long v128_8), .second, .val (.int v128_9), .val (.int x16_10), .val (.int x17_11)] [(.int (XT.cmpL x17_11.toInt64 v128_7))]))
        by_cases hc164_32 : x17_11.toInt64 = v128_7
        · refine Ends.step (fun _ k => XS.ifNo X28.here hx rfl (hb hby at_164) rfl (XT.ll_ne_f hc164_32) k) ?_
          show Ends p e below QQ (T28.setTop (mkF m 167 #[.val (.int p0), .val (.int p1), .val (.int p2), .val (.int p3), .val (.ref b16), .val (.int x5_1), .val (.int x6_2), .val (.int v69_4), .val (.int x8_5), .val (.long x9_6), .second, .val (.long v128_7), .second, .val (.long v128_8), .second, .val (.int v128_9), .val (.int x16_10), .val (.int x17_11)] []))
          refine Ends.step (fun _ k => XS.iload X28.here hx rfl (hb hby at_167) rfl k) ?_
          show Ends p e below QQ (T28.setTop (mkF m 169 #[.val (.int p0), .val (.int p1), .val (.int p2), .val (.int p3), .val (.ref b16), .val (.int x5_1), .val (.int x6_2), .val (.int v69_4), .val (.int x8_5), .val (.long x9_6), .second, .val (.long v128_7), .second, .val (.long v128_8), .second, .val (.int v128_9), .val (.int x16_10), .val (.int x17_11)] [(.int x16_10)]))
          refine Ends.step (fun _ k => XS.iload X28.here hx rfl (hb hby at_169) rfl k) ?_
          show Ends p e below QQ (T28.setTop (mkF m 171 #[.val (.int p0), .val (.int p1), .val (.int p2), .val (.int p3), .val (.ref b16), .val (.int x5_1), .val (.int x6_2), .val (.int v69_4), .val (.int x8_5), .val (.long x9_6), .second, .val (.long v128_7), .second, .val (.long v128_8), .second, .val (.int v128_9), .val (.int x16_10), .val (.int x17_11)] [(.int x17_11), (.int x16_10)]))
          by_cases hc171_33 : x17_11 < x16_10
          · refine Ends.step (fun _ k => XS.icmpYes X28.here hx rfl (pc0 := 171) (pc' := 178) rfl (hb hby at_171) rfl (XT.ii_gt_t hc171_33) (by decide) (by decide) k) ?_
            show Ends p e below QQ (T28.setTop (mkF m 178 #[.val (.int p0), .val (.int p1), .val (.int p2), .val (.int p3), .val (.ref b16), .val (.int x5_1), .val (.int x6_2), .val (.int v69_4), .val (.int x8_5), .val (.long x9_6), .second, .val (.long v128_7), .second, .val (.long v128_8), .second, .val (.int v128_9), .val (.int x16_10), .val (.int x17_11)] []))
            refine Ends.step (fun _ k => XT.iconstV X28.here hx rfl (0 : Int32) (hb hby at_178) rfl k) ?_
            exact hJ _ (by simp only [if_pos hc146_30, if_pos hc155_31, if_pos hc164_32, if_pos hc171_33])
          · refine Ends.step (fun _ k => XS.icmpNo X28.here hx rfl (hb hby at_171) rfl (XT.ii_gt_f hc171_33) k) ?_
            show Ends p e below QQ (T28.setTop (mkF m 174 #[.val (.int p0), .val (.int p1), .val (.int p2), .val (.int p3), .val (.ref b16), .val (.int x5_1), .val (.int x6_2), .val (.int v69_4), .val (.int x8_5), .val (.long x9_6), .second, .val (.long v128_7), .second, .val (.long v128_8), .second, .val (.int v128_9), .val (.int x16_10), .val (.int x17_11)] []))
            refine Ends.step (fun _ k => XT.iconstV X28.here hx rfl (1 : Int32) (hb hby at_174) rfl k) ?_
            show Ends p e below QQ (T28.setTop (mkF m 175 #[.val (.int p0), .val (.int p1), .val (.int p2), .val (.int p3), .val (.ref b16), .val (.int x5_1), .val (.int x6_2), .val (.int v69_4), .val (.int x8_5), .val (.long x9_6), .second, .val (.long v128_7), .second, .val (.long v128_8), .second, .val (.int v128_9), .val (.int x16_10), .val (.int x17_11)] [(.int (1 : Int32))]))
            refine Ends.step (fun _ k => XS.goto X28.here hx rfl (pc0 := 175) (pc' := 179) rfl (hb hby at_175) (by decide) (by decide) k) ?_
            exact hJ _ (by simp only [if_pos hc146_30, if_pos hc155_31, if_pos hc164_32, if_neg hc171_33])
        · refine Ends.step (fun _ k => XS.ifYes X28.here hx rfl (pc0 := 164) (pc' := 178) rfl (hb hby at_164) rfl (XT.ll_ne_t hc164_32) (by decide) (by decide) k) ?_
          show Ends p e below QQ (T28.setTop (mkF m 178 #[.val (.int p0), .val (.int p1), .val (.int p2), .val (.int p3), .val (.ref b16), .val (.int x5_1), .val (.int x6_2), .val (.int v69_4), .val (.int x8_5), .val (.long x9_6), .second, .val (.long v128_7), .second, .val (.long v128_8), .second, .val (.int v128_9), .val (.int x16_10), .val (.int x17_11)] []))
          refine Ends.step (fun _ k => XT.iconstV X28.here hx rfl (0 : Int32) (hb hby at_178) rfl k) ?_
          exact hJ _ (by simp only [if_pos hc146_30, if_pos hc155_31, if_neg hc164_32])
      · refine Ends.step (fun _ k => XS.ifYes X28.here hx rfl (pc0 := 155) (pc' := 178) rfl (hb hby at_155) rfl (XT.ll_ne_t hc155_31) (by decide) (by decide) k) ?_
        show Ends p e below QQ (T28.setTop (mkF m 178 #[.val (.int p0), .val (.int p1), .val (.int p2), .val (.int p3), .val (.ref b16), .val (.int x5_1), .val (.int x6_2), .val (.int v69_4), .val (.int x8_5), .val (.long x9_6), .second, .val (.long v128_7), .second, .val (.long v128_8), .second, .val (.int v128_9), .val (.int x16_10), .val (.int x17_11)] []))
        refine Ends.step (fun _ k => XT.iconstV X28.here hx rfl (0 : Int32) (hb hby at_178) rfl k) ?_
        exact hJ _ (by simp only [if_pos hc146_30, if_neg hc155_31])
    · refine Ends.step (fun _ k => XS.icmpYes X28.here hx rfl (pc0 := 146) (pc' := 178) rfl (hb hby at_146) rfl (XT.ii_ne_t hc146_30) (by decide) (by decide) k) ?_
      show Ends p e below QQ (T28.setTop (mkF m 178 #[.val (.int p0), .val (.int p1), .val (.int p2), .val (.int p3), .val (.ref b16), .val (.int x5_1), .val (.int x6_2), .val (.int v69_4), .val (.int x8_5), .val (.long x9_6), .second, .val (.long v128_7), .second, .val (.long v128_8), .second, .val (.int v128_9), .val (.int x16_10), .val (.int x17_11)] []))
      refine Ends.step (fun _ k => XT.iconstV X28.here hx rfl (0 : Int32) (hb hby at_178) rfl k) ?_
      exact hJ _ (by simp only [if_neg hc146_30])
  refine J179_29 fun v179_12 hv179_12 => ?_
  have dv179_12 : f0_v179_12 p0 p1 p2 p3 = v179_12 := by
    simp only [f0_v179_12, dx8_5, dv128_7, dv128_8, dv128_9, dx16_10, dx17_11]
    exact hv179_12.symm
  show Ends p e below QQ (T28.setTop (mkF m 179 #[.val (.int p0), .val (.int p1), .val (.int p2), .val (.int p3), .val (.ref b16), .val (.int x5_1), .val (.int x6_2), .val (.int v69_4), .val (.int x8_5), .val (.long x9_6), .second, .val (.long v128_7), .second, .val (.long v128_8), .second, .val (.int v128_9), .val (.int x16_10), .val (.int x17_11)] [(.int v179_12)]))
  exact Ends.fin (some (.int v179_12)) X28 hQQ (fun h => by rw [Bd.returns] at h; cases h) Bd.notSynchronized (fun _ hr => retOut X28 hx (t := .boolean) Bd.returns (by rw [hv179_12]; exact own_narB (by repeat' (first | exact Or.inl rfl | exact Or.inr rfl | apply own_01))) (Or.inl ⟨rfl, (by simp), _, rfl⟩) (hb hby at_179) hr) hh28 (by decide) (by decide) ⟨(by simp only [f0, dx5_1, dx6_2, dx7_3, dv69_4, dx8_5, dx9_6, dv128_7, dv128_8, dv128_9, dx16_10, dx17_11, dv179_12]), N28, K24⟩
theorem own_first (m : Int32) (h0 : 0 ≤ m.toInt) (h1 : m.toInt ≤ 1048575) : 700 ≤ (fd3 m 700 1000).toInt ∧ (fd3 m 700 1000).toInt ≤ 525137 ∧ 1000 ≤ (ms3 m 700 1000).toInt ∧ (ms3 m 700 1000).toInt ≤ 525137 := by
  have e1 := c_iadd 700 m
  have l1 := (700 + m : Int32).toInt_lt; have l2 := (700 + m : Int32).le_toInt
  have e2 := c_iadd 1000 (700 + m)
  have l3 := (1000 + (700 + m) : Int32).toInt_lt; have l4 := (1000 + (700 + m) : Int32).le_toInt
  have e3 := (c_idiv (1000 + (700 + m)) 2 2 (by decide) (by decide)).1
  simp only [Int32.reduceToInt] at e1 e2
  simp only [fd3, ms3, Int32.lt_iff_toInt_lt, Int32.reduceToInt]
  split
  · rw [e3 (by omega)]; omega
  · simp only [Int32.reduceToInt]; omega
theorem own_core (a u w : Int32) (hw1 : 1000 ≤ w.toInt) (hw2 : w.toInt ≤ 525137) (hu1 : -536870912 ≤ u.toInt) (hu2 : u.toInt ≤ 536870912) (ha1 : -1073741824 ≤ u.toInt + a.toInt) (ha2 : u.toInt + a.toInt ≤ 1073741824) :
    f3 a u w = (if w.toInt64 < u.toInt64 + a.toInt64 then (1 : Int32) else (0 : Int32)) ∧ (fd3 a u w).toInt64 = (if w.toInt64 < u.toInt64 + a.toInt64 then ((w.toInt64 + (u.toInt64 + a.toInt64)) >>> ((1 : Int32) &&& 0x3f).toInt64) else (u.toInt64 + a.toInt64)) ∧
    (ms3 a u w).toInt64 = (if w.toInt64 < u.toInt64 + a.toInt64 then ((w.toInt64 + (u.toInt64 + a.toInt64)) >>> ((1 : Int32) &&& 0x3f).toInt64) else w.toInt64) ∧ ¬ (ms3 a u w) < (fd3 a u w) := by
  have e1 := c_iadd u a
  have l1 := (u + a).toInt_lt; have l2 := (u + a).le_toInt
  have f1 : (u + a).toInt = u.toInt + a.toInt := by omega
  have e2 := c_iadd w (u + a)
  have l3 := (w + (u + a)).toInt_lt; have l4 := (w + (u + a)).le_toInt
  have f2 : (w + (u + a)).toInt = w.toInt + (u.toInt + a.toInt) := by omega
  have g1 := c_ladd u.toInt64 a.toInt64
  rw [c_i2l, c_i2l] at g1
  have k1 := (u.toInt64 + a.toInt64).toInt_lt; have k2 := (u.toInt64 + a.toInt64).le_toInt
  have f3' : (u.toInt64 + a.toInt64).toInt = u.toInt + a.toInt := by omega
  have g2 := c_ladd w.toInt64 (u.toInt64 + a.toInt64)
  rw [c_i2l, f3'] at g2
  have k3 := (w.toInt64 + (u.toInt64 + a.toInt64)).toInt_lt; have k4 := (w.toInt64 + (u.toInt64 + a.toInt64)).le_toInt
  have f4' : (w.toInt64 + (u.toInt64 + a.toInt64)).toInt = w.toInt + (u.toInt + a.toInt) := by omega
  have sh := c_lshr (w.toInt64 + (u.toInt64 + a.toInt64)) 1 1 (by decide)
  have dv := (c_idiv (w + (u + a)) 2 2 (by decide) (by decide)).1
  have hc : (w < u + a) ↔ (w.toInt64 < u.toInt64 + a.toInt64) := by
    rw [Int32.lt_iff_toInt_lt, Int64.lt_iff_toInt_lt, c_i2l, f1, f3']
  simp only [f3, fd3, ms3]
  by_cases h : w < u + a
  · have h' := hc.mp h
    simp only [if_pos h, if_pos h']
    rw [Int32.lt_iff_toInt_lt] at h
    have q : ((w + (u + a)) / 2).toInt64 = ((w.toInt64 + (u.toInt64 + a.toInt64)) >>> ((1 : Int32) &&& 0x3f).toInt64) := by
      apply Int64.toInt_inj.mp
      rw [c_i2l, sh, dv (by omega), f2, f4']
      rfl
    exact ⟨trivial, q, q, fun z => by rw [Int32.lt_iff_toInt_lt] at z; omega⟩
  · have h' := fun x => h (hc.mpr x)
    simp only [if_neg h, if_neg h']
    refine ⟨trivial, ?_, trivial, h⟩
    apply Int64.toInt_inj.mp
    rw [c_i2l, f1, f3']
theorem own_law (p q r k : Int32) : f0 p q r k = 1 := by
  have m1 := c_mask p 1048575 20 (by decide) (by decide)
  obtain ⟨b1, b2, b3, b4⟩ := own_first (p &&& 1048575) (by omega) (by omega)
  have r1 := c_irem q 268435456 268435456 (by decide)
  have s1 := c_isub (fd3 (p &&& 1048575) 700 1000) (q % 268435456)
  have s2 := (fd3 (p &&& 1048575) 700 1000 - q % 268435456).toInt_lt
  have s3 := (fd3 (p &&& 1048575) 700 1000 - q % 268435456).le_toInt
  have u1 : -536870912 ≤ (fd3 (p &&& 1048575) 700 1000 - q % 268435456).toInt ∧ (fd3 (p &&& 1048575) 700 1000 - q % 268435456).toInt ≤ 268960593 := by
    rcases Int.lt_or_le q.toInt 0 with h | h
    · have := r1.2 h; omega
    · have := r1.1 h; omega
  have hx5 : f0_x5_1 p q r k = fd3 (p &&& 1048575) 700 1000 - q % 268435456 := rfl
  have hx6 : f0_x6_2 p q r k = ms3 (p &&& 1048575) 700 1000 := rfl
  have ha : -1073741824 ≤ (f0_x5_1 p q r k).toInt + (f0_v69_4 p q r k).toInt ∧ (f0_x5_1 p q r k).toInt + (f0_v69_4 p q r k).toInt ≤ 1073741824 := by
    simp only [f0_v69_4, f0_x7_3]
    split
    · have r2 := c_irem r 536870912 536870912 (by decide)
      rw [hx5]
      rcases Int.lt_or_le r.toInt 0 with h | h
      · have := r2.2 h; omega
      · have := r2.1 h; omega
    · rw [hx6, hx5]
      generalize fd3 (p &&& 1048575) 700 1000 - q % 268435456 = u at *
      generalize ms3 (p &&& 1048575) 700 1000 = w at *
      have n1 := c_mask (k >>> ((1 : Int32) &&& 31)) 3 2 (by decide) (by decide)
      generalize (k >>> ((1 : Int32) &&& 31)) &&& 3 = z at *
      have t1 := c_isub w u
      have t2 := c_iadd (w - u) z
      have t3 := c_isub (w - u + z) 1
      have t4 := (w - u + z - 1).toInt_lt; have t5 := (w - u + z - 1).le_toInt
      have t6 := (w - u + z).toInt_lt; have t7 := (w - u + z).le_toInt
      have t8 := (w - u).toInt_lt; have t9 := (w - u).le_toInt
      simp only [Int32.reduceToInt] at t3
      omega
  obtain ⟨c1, c2, c3, c4⟩ := own_core (f0_v69_4 p q r k) (f0_x5_1 p q r k) (f0_x6_2 p q r k) (by rw [hx6]; omega) (by rw [hx6]; omega) (by rw [hx5]; omega) (by rw [hx5]; omega) ha.1 ha.2
  have d8 : f0_x8_5 p q r k = f3 (f0_v69_4 p q r k) (f0_x5_1 p q r k) (f0_x6_2 p q r k) := rfl
  have d16 : f0_x16_10 p q r k = fd3 (f0_v69_4 p q r k) (f0_x5_1 p q r k) (f0_x6_2 p q r k) := rfl
  have d17 : f0_x17_11 p q r k = ms3 (f0_v69_4 p q r k) (f0_x5_1 p q r k) (f0_x6_2 p q r k) := rfl
  simp only [f0, f0_v179_12, d8, d16, d17]
  rw [if_pos (show _ = f0_v128_9 p q r k from c1), if_pos (show _ = f0_v128_8 p q r k from c2), if_pos (show _ = f0_v128_7 p q r k from c3), if_neg c4]
set_option maxRecDepth 65536 in
set_option maxHeartbeats 40000000 in
theorem comes_1 {Post : Tables → Env → Array Value → State → Outcome → State → Prop} (hpost : ∀ tb e args s v u, (limb_1_1.after args s (.returned v) u = true ∧ limb_1_2.after args s (.returned v) u = true ∧ True) → FrameEnd s (.returned v) u (Jvm.fieldLocs frame_1_writes args s ++ Jvm.arrayLocs frame_1_arrays args s ++ Jvm.staticLocs frame_1_statics s) 16 128 → Post tb e args s (.returned v) u) :
    ArmFor flags0 classFile x code maxLocals ret World_1 tables_1 room_1 Calls_1 rest_1 Pre_1 Post := by
  intro l hfl _ _ p e ha hc hk s m args below hf hA hF happ hP
  obtain ⟨hcalls, hrest, hpre⟩ := hP
  obtain ⟨-, -, -, hnamed, -, -, -, hat⟩ := (Spec.applies_iff hf).mp happ
  obtain ⟨hg, hn⟩ := and_e (Cond.before_iff.mp (show (Jvm.Cond.and given_1 narrow_1).before args s = true from hpre))
  obtain ⟨gl1, gr1⟩ := and_e hg
  obtain ⟨gl2, gr2⟩ := and_e gr1
  obtain ⟨gl3, gr3⟩ := and_e gr2
  obtain ⟨gl4, gr4⟩ := and_e gr3
  obtain ⟨w0, w1, w2, w3, rfl⟩ : ∃ w0 w1 w2 w3 : Value, args = #[w0, w1, w2, w3] := by
    have hs : args.size = 4 := by simpa [Cond.value, given_1] using gl1
    obtain ⟨L⟩ := args
    match L, hs with
    | [w0, w1, w2, w3], _ => exact ⟨w0, w1, w2, w3, rfl⟩
  have hw := fun d (hd : d ∈ tables_1) => atoms_spec (ws := Jvm.Cond.code x code maxLocals ret :: tables_1) hat d (List.mem_cons_of_mem _ hd)
  have hfit : Fit s := fun {y c} hc i hi => by
    obtain ⟨ha, rfl⟩ := Array.getElem?_eq_some_iff.mp hc
    have q := List.all_eq_true.mp ((Array.all_eq_true_iff_forall_mem.mp hF) _ (Array.getElem_mem ha)) i (List.mem_range.mpr hi)
    simpa [Array.getElem?_eq_getElem hi] using q
  obtain ⟨i0, ei0⟩ := is_v gl2
  obtain rfl : w0 = (.int i0) := Option.some.inj ei0
  obtain ⟨i1, ei1⟩ := is_v gl3
  obtain rfl : w1 = (.int i1) := Option.some.inj ei1
  obtain ⟨i2, ei2⟩ := is_v gl4
  obtain rfl : w2 = (.int i2) := Option.some.inj ei2
  obtain ⟨i3, ei3⟩ := is_v gr4
  obtain rfl : w3 = (.int i3) := Option.some.inj ei3
  obtain ⟨n, o, h1, h2, h3, _, L, rfl, hQ, hq⟩ := rm0 l s _ hw tables_1 i0 i1 i2 i3 s.heap s.heap.size (Nat.le_refl _)  p e ha hc hk s m _ below hf ((Spec.applies_iff_loose hf).mp happ).1 ⟨rfl, State.Warmed39.refl s, rfl⟩ trivial
  obtain ⟨hv, N, -⟩ := hQ
  have hlaw : (f0 i0 i1 i2 i3) = 1 := own_law i0 i1 i2 i3
  rw [hlaw] at hv
  subst hv
  refine ⟨n, _, h1, h2, h3, hpost _ _ _ _ _ _ ⟨Cond.after_iff.mpr rfl, Cond.after_iff.mpr (eq_i res_at (Term.int_eval (1)) rfl), trivial⟩ ⟨hq.1, hq.2.1, (hq.2.2.sift fun y hy => Or.inr (N y hy)).mono (by decide) (by decide)⟩⟩
theorem main_1_1 : Claimed_1_1 := comes_1 fun _ _ _ _ _ _ h hF => ⟨h.1, hF⟩
theorem main_1_2 : Claimed_1_2 := comes_1 fun _ _ _ _ _ _ h hF => ⟨h.2.1, hF⟩
end Jvm.Pilot.@@N@@
namespace Jvm.Pilot.@@N@@
open Jvm Jvm.ClassFile Sem Op Lib Jvm.Free Jvm.Stand Jvm.Pilot.@@N@@.Jvm.D
/-! MADE BY PROGRAM (witnessworld.py) out of the Statement's table words and the real class files: 9 classes; the members and pool entries that the words name. The judged class is class 1, her method 1. -/
namespace start1
open Jvm.ClassFile
def u (s : String) : CpInfo := .utf8 (stringToUtf16 s)
/-- a pool by its gaps: so many unusable entries, then the entry; so many at the end -/
def gap : Nat → List CpInfo → List CpInfo
  | 0, r => r
  | n + 1, r => .unusable :: gap n r
def poolList (es : List (Nat × CpInfo)) (last : Nat) : List CpInfo := es.foldr (fun e r => gap e.1 (e.2 :: r)) (gap last [])
def pool (es : List (Nat × CpInfo)) (last : Nat) : Array CpInfo := ⟨poolList es last⟩
def fileOf (pool : Array CpInfo) (this : Nat) (attrs : Array Attribute := #[]) (ms : Array MethodInfo := #[]) (fl : Nat := 33) (sup : Nat := 0) (ifs : Array Nat := #[]) (fds : Array FieldInfo := #[]) : ClassFile where
  minorVersion := 0
  majorVersion := 65
  constantPool := pool
  accessFlags := fl
  thisClass := this
  superClass := sup
  interfaces := ifs
  fields := fds
  methods := ms
  attributes := attrs
def plain (name : String) (sup : Option ClassId) : Class where
  name := name
  kind := .ordinary
  loader := none
  accessFlags := 33
  super := sup
  interfaces := #[]
  cf := none
  fields := #[]
  methods := #[]
  instanceTypes := #[]
  staticTypes := #[]
  resolved := #[]
  callSites := []
  init := .initialized
  statics := none
  mirror := none

def pool0 : Array CpInfo := pool [(5, u "<init>"), (0, u "()V"), (1, .class_ 10), (1, u "java/lang/Object")] 113

def k0c0 : Code := { maxStack := 0, maxLocals := 1, code := object_method_1_code, exceptionTable := #[], attributes := #[] }
def k0m0 : Method := { name := "<init>", desc := "()V", sig := { parameters := [], returnType := none }, accessFlags := 1, code := some k0c0 }
/-- java/lang/Object -/
def k0 : Class := { plain "java/lang/Object" none with
  accessFlags := 33
  interfaces := #[]
  cf := some (fileOf pool0 8 #[] #[{ accessFlags := 1, nameIndex := 5, descriptorIndex := 6, attributes := #[] }] 33 0 #[] #[])
  fields := #[]
  methods := #[k0m0]
  instanceTypes := #[]
  staticTypes := #[]
  resolved := Array.replicate 124 none
  statics := none }

def pool1 : Array CpInfo := pool [(2, .class_ 4), (0, .nameAndType 5 6), (0, u "java/lang/Object"), (0, u "<init>"), (0, u "()V"), (0, .class_ 8), (0, u "com/example/glyphdelve/glyphdelve/Stomach"), (0, .methodref 7 3), (0, .integer 1048575), (0, .methodref 7 12), (0, .nameAndType 13 14), (0, u "fill"), (0, u "(I)Z"), (0, .integer 268435456), (0, .methodref 7 17), (0, .nameAndType 18 19), (0, u "use"), (0, u "(I)V"), (0, .methodref 7 21), (0, .nameAndType 22 23), (0, u "food"), (0, u "()I"), (0, .methodref 7 25), (0, .nameAndType 26 23), (0, u "most"), (0, .integer 536870912), (0, .class_ 29), (0, u "com/example/glyphdelve/glyphdelve/StomachFillPinLaw"), (2, u "law"), (0, u "(IIII)Z")] 3

def k1m0 : Method := { name := "<init>", desc := "()V", sig := { parameters := [], returnType := none }, accessFlags := 1, code := none }
def k1c1 : Code := { maxStack := 4, maxLocals := 18, code := code, exceptionTable := #[], attributes := #[] }
def k1m1 : Method := { name := "law", desc := "(IIII)Z", sig := { parameters := [.int, .int, .int, .int], returnType := some .boolean }, accessFlags := 9, code := some k1c1 }
/-- com/example/glyphdelve/glyphdelve/StomachFillPinLaw -/
def k1 : Class := { plain "com/example/glyphdelve/glyphdelve/StomachFillPinLaw" (some 0) with
  accessFlags := 49
  interfaces := #[]
  cf := some (fileOf pool1 28 #[] #[{ accessFlags := 1, nameIndex := 5, descriptorIndex := 6, attributes := #[] }, { accessFlags := 9, nameIndex := 32, descriptorIndex := 33, attributes := #[] }] 49 2 #[] #[])
  fields := #[]
  methods := #[k1m0, k1m1]
  instanceTypes := #[]
  staticTypes := #[]
  resolved := Array.replicate 37 none
  statics := none }

def pool2 : Array CpInfo := pool [(1, .methodref 2 3), (0, .class_ 4), (0, .nameAndType 5 6), (0, u "java/lang/Object"), (0, u "<init>"), (0, u "()V"), (0, .class_ 8), (0, u "com/example/glyphdelve/glyphdelve/Stomach"), (0, .fieldref 7 10), (0, .nameAndType 11 12), (0, u "food"), (0, u "I"), (0, .fieldref 7 14), (0, .nameAndType 15 12), (0, u "most"), (0, u "START"), (2, u "MOST"), (3, u "()I"), (3, u "use"), (0, u "(I)V"), (0, u "fill"), (0, u "(I)Z")] 2

def k2c0 : Code := { maxStack := 2, maxLocals := 1, code := prog_22_method_1_code, exceptionTable := #[], attributes := #[] }
def k2m0 : Method := { name := "<init>", desc := "()V", sig := { parameters := [], returnType := none }, accessFlags := 0, code := some k2c0 }
def k2c1 : Code := { maxStack := 1, maxLocals := 1, code := prog_22_method_2_code, exceptionTable := #[], attributes := #[] }
def k2m1 : Method := { name := "food", desc := "()I", sig := { parameters := [], returnType := some .int }, accessFlags := 0, code := some k2c1 }
def k2c2 : Code := { maxStack := 1, maxLocals := 1, code := prog_22_method_3_code, exceptionTable := #[], attributes := #[] }
def k2m2 : Method := { name := "most", desc := "()I", sig := { parameters := [], returnType := some .int }, accessFlags := 0, code := some k2c2 }
def k2c3 : Code := { maxStack := 3, maxLocals := 2, code := prog_22_method_5_code, exceptionTable := #[], attributes := #[] }
def k2m3 : Method := { name := "use", desc := "(I)V", sig := { parameters := [.int], returnType := none }, accessFlags := 0, code := some k2c3 }
def k2c4 : Code := { maxStack := 3, maxLocals := 3, code := prog_22_method_6_code, exceptionTable := #[], attributes := #[] }
def k2m4 : Method := { name := "fill", desc := "(I)Z", sig := { parameters := [.int], returnType := some .boolean }, accessFlags := 0, code := some k2c4 }
/-- com/example/glyphdelve/glyphdelve/Stomach -/
def k2 : Class := { plain "com/example/glyphdelve/glyphdelve/Stomach" (some 0) with
  accessFlags := 48
  interfaces := #[]
  cf := some (fileOf pool2 7 #[] #[{ accessFlags := 0, nameIndex := 5, descriptorIndex := 6, attributes := #[] }, { accessFlags := 0, nameIndex := 11, descriptorIndex := 23, attributes := #[] }, { accessFlags := 0, nameIndex := 15, descriptorIndex := 23, attributes := #[] }, { accessFlags := 0, nameIndex := 27, descriptorIndex := 28, attributes := #[] }, { accessFlags := 0, nameIndex := 29, descriptorIndex := 30, attributes := #[] }] 48 2 #[] #[{ accessFlags := 24, nameIndex := 16, descriptorIndex := 12, attributes := #[] }, { accessFlags := 24, nameIndex := 19, descriptorIndex := 12, attributes := #[] }, { accessFlags := 2, nameIndex := 11, descriptorIndex := 12, attributes := #[] }, { accessFlags := 2, nameIndex := 15, descriptorIndex := 12, attributes := #[] }])
  fields := #[{ name := "START", type := .int, accessFlags := 24, slot := 0, constantValue := 0 }, { name := "MOST", type := .int, accessFlags := 24, slot := 1, constantValue := 0 }, { name := "food", type := .int, accessFlags := 2, slot := 0, constantValue := 0 }, { name := "most", type := .int, accessFlags := 2, slot := 1, constantValue := 0 }]
  methods := #[k2m0, k2m1, k2m2, k2m3, k2m4]
  instanceTypes := #[.int, .int]
  staticTypes := #[.int, .int]
  resolved := Array.replicate 33 none
  statics := none }

def pool3 : Array CpInfo := pool [(1, u "java/lang/Cloneable"), (0, .class_ 1), (0, u "java/lang/Object"), (0, .class_ 3)] 3

/-- java/lang/Cloneable -/
def k3 : Class := { plain "java/lang/Cloneable" (some 0) with
  accessFlags := 1537
  interfaces := #[]
  cf := some (fileOf pool3 2 #[] #[] 1537 4 #[] #[])
  fields := #[]
  methods := #[]
  instanceTypes := #[]
  staticTypes := #[]
  resolved := Array.replicate 8 none
  statics := none }

def pool4 : Array CpInfo := pool [(1, u "java/io/Serializable"), (0, .class_ 1), (0, u "java/lang/Object"), (0, .class_ 3)] 3

/-- java/io/Serializable -/
def k4 : Class := { plain "java/io/Serializable" (some 0) with
  accessFlags := 1537
  interfaces := #[]
  cf := some (fileOf pool4 2 #[] #[] 1537 4 #[] #[])
  fields := #[]
  methods := #[]
  instanceTypes := #[]
  staticTypes := #[]
  resolved := Array.replicate 8 none
  statics := none }

/-- the primitive byte -/
def k5 : Class := { plain "byte" none with kind := .primitive 'B', accessFlags := 0x411 }
/-- [B -/
def k6 : Class := { plain "[B" (some 0) with kind := .array 5 .byte, interfaces := #[3, 4], accessFlags := 1041 }

/-- the primitive int -/
def k7 : Class := { plain "int" none with kind := .primitive 'I', accessFlags := 0x411 }
/-- [I -/
def k8 : Class := { plain "[I" (some 0) with kind := .array 7 .int, interfaces := #[3, 4], accessFlags := 1041 }

def heap : Heap := #[]
def classes : Array Class := #[k0, k1, k2, k3, k4, k5, k6, k7, k8]
def interned : List (Array UInt16 × Addr) := []
def slotsUsed : Nat := 0
def theMethod : MethodId := ⟨1, 1⟩
def args0 : Array Value := #[.int 5, .int 7, .int 9, .int 11]
def aboutOver (below : List Frame) : State where
  vm := { classes := classes, interned := interned.toArray }
  heap := heap
  slotsUsed := slotsUsed
  threads := #[{ frames := .invoking theMethod args0 :: below }]
def below0 : List Frame := [.native { method := ⟨0, 0⟩, args := #[] }]
def about1 : State := aboutOver below0
def p0 : Program := .bare "" "" ""
def e0 : Env := launch0.env 0 0 0
theorem w_frames : about1.frames = Frame.invoking theMethod args0 :: below0 := rfl
set_option maxRecDepth 65536 in
theorem w_args : argsFit about1.vm theMethod args0 = true := by decide +kernel
set_option maxRecDepth 65536 in
theorem w_heap : heapFits about1 = true := by decide +kernel
set_option maxRecDepth 65536 in
theorem w_runnable : about1.curStatus? = some .runnable := by decide +kernel
set_option maxRecDepth 65536 in
theorem w_alone : about1.alone = true := by decide +kernel
set_option maxRecDepth 65536 in
theorem w_named : about1.methodNamed? x = some theMethod := by decide +kernel
set_option maxRecDepth 65536 in
theorem w_hears : about1.hears theMethod below0 = true := by decide +kernel
set_option maxRecDepth 65536 in
theorem w_ripe : about1.ripe theMethod args0 below0 = true := by decide +kernel
theorem w_running : about1.status = .running := rfl
set_option maxRecDepth 65536 in
theorem w_room : about1.hasRoom e0.platform room_1 = true :=
  launch0.hasRoom_least _ room_1 (by decide +kernel) (by decide +kernel) (by decide +kernel) (by decide +kernel) (by decide +kernel) (by decide +kernel)
theorem allAtoms_all (ts : List Jvm.Cond) (a : Array Jvm.Value) (st : Jvm.State) : (allAtoms ts).before a st = ts.all (fun c => c.before a st) := by
  induction ts with
  | nil => rfl
  | cons c t ih =>
    show (Jvm.Cond.and c (allAtoms t)).before a st = _
    rw [Jvm.Cond.before_and, ih, List.all_cons]
def words1 : List Jvm.Cond := Jvm.Cond.code x code maxLocals ret :: tables_1
/-- a 'code' word, met by the world's own term for the bytes: nothing is compared byte by byte -/
theorem code_word {y : MethodName} {bytes : ByteArray} {mx : Nat} {rt : Option FieldType} {a : Array Value} {s : State} {m : MethodId} {meth : Method} {c : Code} (h1 : s.methodNamed? y = some m) (h2 : s.vm.method? m = some meth) (h3 : meth.code = some c) (h4 : c.code = bytes)
    (h5 : (c.maxLocals == mx && c.exceptionTable.isEmpty && decide (c.maxStack ≤ mostOperands) && decide (meth.sig.returnType = rt) && !meth.locks && decide (parseMethodDescriptor y.desc = some meth.sig)) = true) : (Jvm.Cond.code y bytes mx rt).before a s = true := by
  simp only [Bool.and_eq_true, beq_iff_eq, Bool.not_eq_true', decide_eq_true_eq] at h5
  obtain ⟨⟨⟨⟨⟨g1, g2⟩, g3⟩, g4⟩, g5⟩, g6⟩ := h5
  simp [Cond.before, Cond.holds, Cond.value, h1, h2, h3, h4, g1, g2, g3, g4, g5, g6]
def isCode : Jvm.Cond → Bool
  | .code _ _ _ _ => true
  | _ => false
theorem all_split {L : List Jvm.Cond} {P : Jvm.Cond → Bool} (h1 : L.all (fun c => isCode c || P c) = true) (h2 : ∀ c ∈ L.filter isCode, P c = true) : L.all P = true := by
  refine List.all_eq_true.mpr fun c hc => ?_
  have h := List.all_eq_true.mp h1 c hc
  rcases Bool.eq_false_or_eq_true (isCode c) with hi | hi
  · exact h2 c (List.mem_filter.mpr ⟨hc, hi⟩)
  · simpa [hi] using h
set_option maxRecDepth 65536 in
theorem w_c0 : (Jvm.Cond.code x code maxLocals ret).before args0 about1 = true := code_word (m := ⟨1, 1⟩) (meth := k1m1) (c := k1c1) (by decide +kernel) rfl rfl rfl (by decide +kernel)
set_option maxRecDepth 65536 in
theorem w_c1 : (Jvm.Cond.code ({ cls := "com/example/glyphdelve/glyphdelve/Stomach", name := "<init>", desc := "()V" } : Jvm.MethodName) prog_22_method_1_code (1 : Nat) (Option.none : Option Jvm.ClassFile.FieldType)).before args0 about1 = true := code_word (m := ⟨2, 0⟩) (meth := k2m0) (c := k2c0) (by decide +kernel) rfl rfl rfl (by decide +kernel)
set_option maxRecDepth 65536 in
theorem w_c2 : (Jvm.Cond.code ({ cls := "java/lang/Object", name := "<init>", desc := "()V" } : Jvm.MethodName) object_method_1_code (1 : Nat) (Option.none : Option Jvm.ClassFile.FieldType)).before args0 about1 = true := code_word (m := ⟨0, 0⟩) (meth := k0m0) (c := k0c0) (by decide +kernel) rfl rfl rfl (by decide +kernel)
set_option maxRecDepth 65536 in
theorem w_c3 : (Jvm.Cond.code ({ cls := "com/example/glyphdelve/glyphdelve/Stomach", name := "fill", desc := "(I)Z" } : Jvm.MethodName) prog_22_method_6_code (3 : Nat) (Option.some Jvm.ClassFile.FieldType.boolean)).before args0 about1 = true := code_word (m := ⟨2, 4⟩) (meth := k2m4) (c := k2c4) (by decide +kernel) rfl rfl rfl (by decide +kernel)
set_option maxRecDepth 65536 in
theorem w_c4 : (Jvm.Cond.code ({ cls := "com/example/glyphdelve/glyphdelve/Stomach", name := "use", desc := "(I)V" } : Jvm.MethodName) prog_22_method_5_code (2 : Nat) (Option.none : Option Jvm.ClassFile.FieldType)).before args0 about1 = true := code_word (m := ⟨2, 3⟩) (meth := k2m3) (c := k2c3) (by decide +kernel) rfl rfl rfl (by decide +kernel)
set_option maxRecDepth 65536 in
theorem w_c5 : (Jvm.Cond.code ({ cls := "com/example/glyphdelve/glyphdelve/Stomach", name := "food", desc := "()I" } : Jvm.MethodName) prog_22_method_2_code (1 : Nat) (Option.some Jvm.ClassFile.FieldType.int)).before args0 about1 = true := code_word (m := ⟨2, 1⟩) (meth := k2m1) (c := k2c1) (by decide +kernel) rfl rfl rfl (by decide +kernel)
set_option maxRecDepth 65536 in
theorem w_c6 : (Jvm.Cond.code ({ cls := "com/example/glyphdelve/glyphdelve/Stomach", name := "most", desc := "()I" } : Jvm.MethodName) prog_22_method_3_code (1 : Nat) (Option.some Jvm.ClassFile.FieldType.int)).before args0 about1 = true := code_word (m := ⟨2, 2⟩) (meth := k2m2) (c := k2c2) (by decide +kernel) rfl rfl rfl (by decide +kernel)
def codes1 : List Jvm.Cond := [Jvm.Cond.code x code maxLocals ret, Jvm.Cond.code ({ cls := "com/example/glyphdelve/glyphdelve/Stomach", name := "<init>", desc := "()V" } : Jvm.MethodName) prog_22_method_1_code (1 : Nat) (Option.none : Option Jvm.ClassFile.FieldType), Jvm.Cond.code ({ cls := "java/lang/Object", name := "<init>", desc := "()V" } : Jvm.MethodName) object_method_1_code (1 : Nat) (Option.none : Option Jvm.ClassFile.FieldType), Jvm.Cond.code ({ cls := "com/example/glyphdelve/glyphdelve/Stomach", name := "fill", desc := "(I)Z" } : Jvm.MethodName) prog_22_method_6_code (3 : Nat) (Option.some Jvm.ClassFile.FieldType.boolean), Jvm.Cond.code ({ cls := "com/example/glyphdelve/glyphdelve/Stomach", name := "use", desc := "(I)V" } : Jvm.MethodName) prog_22_method_5_code (2 : Nat) (Option.none : Option Jvm.ClassFile.FieldType), Jvm.Cond.code ({ cls := "com/example/glyphdelve/glyphdelve/Stomach", name := "food", desc := "()I" } : Jvm.MethodName) prog_22_method_2_code (1 : Nat) (Option.some Jvm.ClassFile.FieldType.int), Jvm.Cond.code ({ cls := "com/example/glyphdelve/glyphdelve/Stomach", name := "most", desc := "()I" } : Jvm.MethodName) prog_22_method_3_code (1 : Nat) (Option.some Jvm.ClassFile.FieldType.int)]
set_option maxRecDepth 65536 in
theorem codes_eq : words1.filter isCode = codes1 := rfl
theorem w_codes : ∀ c ∈ words1.filter isCode, c.before args0 about1 = true := by
  rw [codes_eq]
  intro c hc
  simp only [codes1, List.mem_cons, List.not_mem_nil, or_false] at hc
  rcases hc with rfl | rfl | rfl | rfl | rfl | rfl | rfl
  · exact w_c0
  · exact w_c1
  · exact w_c2
  · exact w_c3
  · exact w_c4
  · exact w_c5
  · exact w_c6
set_option maxRecDepth 65536 in
theorem w_t1 : (words1.take 24).all (fun c => isCode c || c.before args0 about1) = true := by decide +kernel
set_option maxRecDepth 65536 in
theorem w_t2 : (words1.drop 24).all (fun c => isCode c || c.before args0 about1) = true := by decide +kernel
theorem w_tables : (allAtoms (Jvm.Cond.code x code maxLocals ret :: tables_1)).before args0 about1 = true := by
  rw [allAtoms_all]
  show words1.all (fun c => c.before args0 about1) = true
  refine all_split ?_ w_codes
  rw [← List.take_append_drop 24 words1, List.all_append, w_t1, w_t2]
  rfl
set_option maxRecDepth 65536 in
theorem w_case : (Jvm.Cond.and given_1 narrow_1).before args0 about1 = true := by decide +kernel
theorem w_applies : (headSpec (Jvm.Cond.code x code maxLocals ret :: tables_1) room_1).applies x e0.platform about1 = true :=
  (Spec.applies_iff w_frames).mpr ⟨w_running, w_runnable, w_alone, w_named, w_hears, w_ripe, w_room, w_tables⟩
theorem atStart : AtStart classFile x code maxLocals ret World_1 tables_1 room_1 Calls_1 rest_1 Pre_1 launch0 p0 e0 about1 theMethod args0 below0 :=
  ⟨lists_1, trivial, launch0.admits_env _ _ _, launch0.least_env, fairChoices_fair.cas, fairChoices_fair.clock, w_frames, w_args, w_heap, w_applies, trivial, trivial, w_case⟩
end start1
theorem witness_1 : WitnessClaimed_1 := ⟨start1.p0, start1.e0, start1.about1, start1.theMethod, start1.args0, start1.below0, start1.atStart⟩
end Jvm.Pilot.@@N@@
