import JvmDerived
import JvmDerived.Pilot.@@N@@Statement
import JvmDerived.Pilot.@@N@@Code
set_option linter.unusedVariables false
set_option linter.unusedSimpArgs false
namespace Jvm.Pilot.@@N@@
open Jvm Jvm.ClassFile Sem Op Lib Jvm.Free Jvm.Stand Jvm.LawKit Jvm.RoadKit Bundle Jvm.Pilot.@@N@@.Jvm.D
section Own
variable {p : Program} {l : Launch} {e : Env} {R : Room} {s : State} {m : MethodId} {args : Array Value} {below : List Frame} {meth : Method} {c : Code} {T : State} {locs : List Loc} {cells slots : Nat}
def Ends (p : Program) (e : Env) (below : List Frame) (Q : Outcome → State → Prop) (S : State) : Prop := ∃ s₂ o, Steps p.tables e below S s₂ ∧ s₂.status = .running ∧ Ended s₂ below o ∧ Q o s₂
theorem Ends.opn {Q : Outcome → State → Prop} {S : State} (h : ∀ QQ : Outcome → State → Prop, (∀ o t, Q o t → QQ o t) → Ends p e below QQ S) : ∃ s₂ o, Steps p.tables e below S s₂ ∧ s₂.status = .running ∧ Ended s₂ below o ∧ Q o s₂ := h Q fun _ _ q => q
theorem Ends.step {Q : Outcome → State → Prop} {S S' : State} (k : ∀ t, Steps p.tables e below S' t → Steps p.tables e below S t) (h : Ends p e below Q S') : Ends p e below Q S := by
  obtain ⟨a, o, h1, h2⟩ := h
  exact ⟨a, o, k _ h1, h2⟩
theorem Ends.fin {QQ : Outcome → State → Prop} {Q : Option Value → Heap → List Loc → Prop} {cl sl : Nat} {g : JFrame} {h : Heap} (v : Option Value) (X : Stand p l e R s m args below meth c T locs cells slots)
    (hQQ : ∀ o t, (∃ v L, o = .returned v ∧ Q v t.heap L ∧ FrameEnd s o t L cl sl) → QQ o t) (hv : meth.sig.returnType = none → v = none) (hlocks : meth.locks = false)
    (hstep : ∀ fs, (∀ (f : JFrame) (acts : List Action), f.method = m → f.locked = none → f.entered = [] → (doReturn e (T.setTop f) acts v).1 = T.setFrames fs) → Steps p.tables e below (T.setTop g) (T.setFrames fs))
    (eT : T.heap = h) (hc : cells ≤ cl) (hs : slots ≤ sl) (q : Q v h locs) : Ends p e below QQ (T.setTop g) := by
  obtain ⟨fs, hr, hrun, hended, hW, hsame⟩ := X.leave hv hlocks
  subst eT
  exact ⟨_, _, hstep fs hr, hrun, hended, hQQ _ _ ⟨v, locs, rfl, q, ⟨_, rfl⟩, hW, hsame.mono hc hs⟩⟩
theorem own_01 {c : Prop} [Decidable c] {a b : Int32} (ha : a = 0 ∨ a = 1) (hb : b = 0 ∨ b = 1) : (if c then a else b) = 0 ∨ (if c then a else b) = 1 := by
  split <;> assumption
theorem own_narB {x : Int32} (h : x = 0 ∨ x = 1) : narrow .boolean (.int x) = .int x := by rcases h with rfl | rfl <;> rfl
theorem own_narref {v : Value} {t : FieldType} (h : v.isRef = true) (ht : t.isReference = true) : narrow t v = v := by
  cases t <;> first | (cases ht; done) | (cases v <;> first | rfl | cases h)
theorem own_fitref {v : Value} {t : FieldType} (h : v.isRef = true) (ht : t.isReference = true) : fits t v = true := by
  cases t <;> first | (cases ht; done) | (cases v <;> first | rfl | cases h)
theorem own_nar255 (b : Int32) : narrow .char (.int (b &&& (255 : Int32))) = .int (b &&& (255 : Int32)) := by
  have h := XT.narrow_c (b &&& 255)
  rw [i2c_mask] at h
  exact h
theorem own_narb (x : Int32) : nar .byte x.toInt8.toInt32 = x.toInt8.toInt32 := by simp [nar]
theorem own_ins_keep {Z : State} {h h' : Heap} {a : Addr} {C : String} {b : Bool} {ws : List Addr} (F : Ins Z h a C b) (K : Keep h h' ws) : Ins Z h' a C b := by
  obtain ⟨cell, cT, h1, h2, h3⟩ := F
  obtain ⟨c', q1, q2, q3, -⟩ := K.2.2 _ _ h1
  exact ⟨c', cT, q1, h2, by rw [q2, q3]; exact h3⟩
theorem own_sta_keep {Z : State} {h h' : Heap} {C n d : String} {v : Value} {ws : List Addr} (F : Sta Z h C n d v) (K : Keep h h' ws) (q : ∀ x ∈ ws, ∃ c : Cell, h[x]? = some c ∧ ∀ q, c.vm ≠ .statics q) : Sta Z h' C n d v := by
  obtain ⟨cf, i, k, f, st, cell, h1, h2, h3, h4, h5, h6, h7⟩ := F
  refine ⟨cf, i, k, f, st, cell, h1, h2, h3, h4, K.2.1 _ _ h5 fun hm => ?_, h6, h7⟩
  obtain ⟨c, q1, q2⟩ := q _ hm
  cases h5.symm.trans q1
  cases hq : cell.vm <;> first | exact q2 _ hq | (rw [hq] at h6; cases h6)
theorem lremM {g : JFrame} {target : State} (X : Stand p l e R s m args below meth c T locs cells slots) (hx : p.tables.exec = Jvm.exec) (hg : g.method = m) {x y : Int64} {rest : List Value} (hd : decode c.code g.pc = .ok (.lrem, 1)) (hs : g.stack = .long y :: .long x :: rest) (hy : y ≠ 0)
    (hr : Steps p.tables e below (T.setTop { g with pc := g.pc + 1, stack := .long (x % y) :: rest }) target) : Steps p.tables e below (T.setTop g) target := by
  have q : x - x / y * y = x % y := lrem_mod x y
  exact XT.lrem X.here hx hg hd hs hy (by rw [q]; exact hr)
end Own
theorem pn_0 : plainName "java/lang/String" = true := by first | (simp [plainName, overriddenIn]; done) | decide +kernel
theorem pn_1 : plainName "jdk/internal/util/Preconditions" = true := by first | (simp [plainName, overriddenIn]; done) | decide +kernel
theorem pn_2 : plainName "java/lang/StringLatin1" = true := by first | (simp [plainName, overriddenIn]; done) | decide +kernel
theorem pn_3 : plainName "com/example/nuntius/nuntius/cql/Relation$Operator" = true := by first | (simp [plainName, overriddenIn]; done) | decide +kernel
theorem pn_4 : plainName "com/example/nuntius/nuntius/cql/OperatorIsLowerBoundPinLaw" = true := by first | (simp [plainName, overriddenIn]; done) | decide +kernel
theorem pd_0 : parseMethodDescriptor "()B" = some ⟨[], some .byte⟩ := by decide +kernel
theorem pd_1 : parseMethodDescriptor "(IILjava/util/function/BiFunction;)I" = some ⟨[.int, .int, (.object "java/util/function/BiFunction")], some .int⟩ := by decide +kernel
theorem pd_2 : parseMethodDescriptor "(II)V" = some ⟨[.int, .int], none⟩ := by decide +kernel
theorem pd_3 : parseMethodDescriptor "()Z" = some ⟨[], some .boolean⟩ := by decide +kernel
theorem pd_4 : parseMethodDescriptor "([BI)C" = some ⟨[(.array .byte), .int], some .char⟩ := by decide +kernel
theorem pd_5 : parseMethodDescriptor "()Ljava/lang/String;" = some ⟨[], some (.object "java/lang/String")⟩ := by decide +kernel
theorem pd_6 : parseMethodDescriptor "()I" = some ⟨[], some .int⟩ := by decide +kernel
theorem pd_7 : parseMethodDescriptor "(I)C" = some ⟨[.int], some .char⟩ := by decide +kernel
theorem own_len {args : Array Value} {s : State} {t : Term} {n : Int32} {x : Addr} {cl : Cell} {ty : FieldType} (h : (Jvm.Cond.eq (Term.length t) (Term.int n)).value args s none s [] = some true) (ev : t.eval args s none [] s = some (.ref x)) (A : Arr s s.heap x cl ty) : cl.slots.size < 2 ^ 31 ∧ cl.slots.size.toInt32 = n := by
  obtain ⟨v, w, h1, h2, -, -⟩ := cmp_v (Or.inl h)
  have ha := A.fin (Vm.Alike.refl _)
  by_cases hl : cl.slots.size < 2 ^ 31
  · refine ⟨hl, ?_⟩
    have e := len_f ev ha hl (args := args) (first := s) (o := none) (idx := [])
    simp only [Cond.value, e, Term.int_eval] at h
    simpa using h
  · simp [Term.eval, ev, ha, hl] at h1
theorem own_elem {args : Array Value} {s : State} {t u : Term} {j : Int32} {x : Addr} {cl : Cell} {ty : FieldType} {v : Value} (h : (Jvm.Cond.eq (Term.elem t (Term.int j)) u).value args s none s [] = some true) (ev : t.eval args s none [] s = some (.ref x)) (A : Arr s s.heap x cl ty) (eu : u.eval args s none [] s = some v) : cl.slots[j.toNatClampNeg]? = some v := by
  obtain ⟨a, b, h1, h2, k1, k2⟩ := cmp_v (Or.inl h)
  cases eu.symm.trans h2
  have q := elem_in h1 ev (Term.int_eval j) A.1
  rw [q.2]
  simp only [Cond.value, h1, h2] at h
  cases a <;> cases v <;> simp_all [Kin, Value.isRef]
theorem own_elemJ {args : Array Value} {s : State} {t : Term} {j : Nat} {x : Addr} {cl : Cell} {ty : FieldType} {v : Int32} (h : (Jvm.Cond.eq (Term.elem t (Term.index 0)) (Term.int v)).value args s none s [j] = some true) (ev : t.eval args s none [j] s = some (.ref x)) (A : Arr s s.heap x cl ty) (hl : cl.slots.size < 2 ^ 31) (hj : j < cl.slots.size) : cl.slots[j]? = some (.int v) := by
  obtain ⟨a, b, h1, h2, k1, k2⟩ := cmp_v (Or.inl h)
  have q := elem_in h1 ev (Term.index_eval j) A.1
  have ej : j.toInt32.toNatClampNeg = j := by have := len_toInt (show j < 2 ^ 31 by omega); simp only [Int32.toNatClampNeg]; omega
  rw [ej] at q
  rw [q.2]
  cases (Term.int_eval v).symm.trans h2
  simp only [Cond.value, h1, h2] at h
  cases a <;> simp_all [Kin, Value.isRef]
theorem own_fld {args : Array Value} {s : State} {t u : Term} {x : Addr} {C f d : String} {v : Value} (h : (Jvm.Cond.eq (Term.field t C f d) u).value args s none s [] = some true) (ev : t.eval args s none [] s = some (.ref x)) (eu : u.eval args s none [] s = some v) : Fld s s.heap x C f d v := by
  obtain ⟨a, b, h1, h2, k1, k2⟩ := cmp_v (Or.inl h)
  cases eu.symm.trans h2
  have e : a = v := by
    simp only [Cond.value, h1, h2] at h
    cases a <;> cases v <;> simp_all [Kin, Value.isRef]
  subst e
  exact Fld.start ((fld_at ev).symm.trans h1)
theorem own_idx {args : Array Value} {s : State} {C n d : String} {v : Value} (ev : (Term.static C n d).eval args s none [] s = some v) (idx : List Nat := []) : (Term.static C n d).eval args s none idx s = some v := ev
theorem own_lt {k : Nat} {n : Int32} {j : Nat} (h : k.toInt32 = n) (h2 : k < 2 ^ 31) (h3 : (j : Int) < n.toInt) : j < k := by
  have := len_toInt h2
  rw [h] at this
  omega
theorem own_all3 {args : Array Value} {s : State} {t : Term} {a b v : Int32} {x : Addr} {cl : Cell} {ty : FieldType} (h : (Jvm.Cond.all t (.or (.lt (.index 0) (.int a)) (.or (.le (.int b) (.index 0)) (.eq (.elem t (.index 0)) (.int v))))).value args s none s [] = some true)
    (ev : ∀ idx, t.eval args s none idx s = some (.ref x)) (A : Arr s s.heap x cl ty) (hl : cl.slots.size < 2 ^ 31) (j : Nat) (hj : j < cl.slots.size) (h1 : a.toInt ≤ j) (h2 : (j : Int) < b.toInt) : cl.slots[j]? = some (.int v) := by
  have e := Cond.all_elim (ev []) (A.fin (Vm.Alike.refl _)) h j hj
  have ej : j.toInt32.toInt = j := len_toInt (by omega)
  have g1 : (Jvm.Cond.lt (.index 0) (.int a)).value args s none s [j] = some false := by
    simp only [Cond.value, Term.index_eval, Term.int_eval, Int32.lt_iff_toInt_lt, ej]; simp; omega
  have g2 : (Jvm.Cond.le (.int b) (.index 0)).value args s none s [j] = some false := by
    simp only [Cond.value, Term.index_eval, Term.int_eval, Int32.le_iff_toInt_le, ej]; simp; omega
  rw [Cond.or_of_right g1, Cond.or_of_right g2] at e
  exact own_elemJ e (ev [j]) A hl hj
theorem own_allH {args : Array Value} {s : State} {t : Term} {b v : Int32} {x : Addr} {cl : Cell} {ty : FieldType} (h : (Jvm.Cond.all t (.or (.le (.int b) (.index 0)) (.eq (.elem t (.index 0)) (.int v)))).value args s none s [] = some true)
    (ev : ∀ idx, t.eval args s none idx s = some (.ref x)) (A : Arr s s.heap x cl ty) (hl : cl.slots.size < 2 ^ 31) (j : Nat) (hj : j < cl.slots.size) (h2 : (j : Int) < b.toInt) : cl.slots[j]? = some (.int v) := by
  have e := Cond.all_elim (ev []) (A.fin (Vm.Alike.refl _)) h j hj
  have ej : j.toInt32.toInt = j := len_toInt (by omega)
  have g2 : (Jvm.Cond.le (.int b) (.index 0)).value args s none s [j] = some false := by
    simp only [Cond.value, Term.index_eval, Term.int_eval, Int32.le_iff_toInt_le, ej]; simp; omega
  rw [Cond.or_of_right g2] at e
  exact own_elemJ e (ev [j]) A hl hj
theorem own_nz {args : Array Value} {s : State} {t : Term} {x : Int32} (h : (Jvm.Cond.not (Jvm.Cond.eq t (Term.int (0 : Int32)))).value args s none s [] = some true) (ev : t.eval args s none [] s = some (.int x)) : ¬ x = (0 : Int32) := by
  simpa [Cond.value, ev, Term.eval] using h
theorem own_shr0 (n : Int32) : n >>> ((0 : Int32) &&& 31) = n := by
  apply Int32.toInt_inj.mp
  rw [c_ishr n 0 0 (by decide)]
  simp
theorem own_five (p : Int32) {x : Int32} (hv : (p &&& (2147483647 : Int32)) % (5 : Int32) = x) (h0 : ¬ x = (0 : Int32)) (h1 : ¬ x = (1 : Int32)) (h2 : ¬ x = (2 : Int32)) (h3 : ¬ x = (3 : Int32)) (h4 : ¬ x = (4 : Int32)) : False := by
  have e1 := c_mask p 2147483647 31 (by decide) (by decide)
  have e2 := (c_irem (p &&& 2147483647) 5 5 (by decide)).1 (by omega)
  rw [hv] at e2
  simp only [← Int32.toInt_inj, Int32.reduceToInt] at h0 h1 h2 h3 h4
  omega

theorem d3_0 : decode jdk_42_method_152_code 0 = .ok (.getstatic 38, 3) := by decide +kernel
theorem d3_3 : decode jdk_42_method_152_code 3 = .ok (.ifCond .eq 10, 3) := by decide +kernel
theorem d3_6 : decode jdk_42_method_152_code 6 = .ok (.aload_n 0, 1) := by decide +kernel
theorem d3_7 : decode jdk_42_method_152_code 7 = .ok (.getfield 15, 3) := by decide +kernel
theorem d3_10 : decode jdk_42_method_152_code 10 = .ok (.goto 4, 3) := by decide +kernel
theorem d3_14 : decode jdk_42_method_152_code 14 = .ok (.ireturn, 1) := by decide +kernel
theorem ef_cod (m : MethodId) (x0 : Addr) : entryFrame m #[(.ref x0)] 1 = mkF m 0 #[.val (.ref x0)] [] := by first | (simp [entryFrame, mkF, argsToLocals, Value.category]; done) | rfl
def Qcod (Z : State) (o0 : Addr) (cs : Int32) (h0 : Heap) (n0 : Nat) (v : Option Value) (h : Heap) (L : List Loc) : Prop := (v = some (.int (0 : Int32))) ∧ (Fr n0 L) ∧ (h = h0)
set_option maxRecDepth 65536 in
set_option maxHeartbeats 40000000 in
theorem rmcod (l : Launch) (Z : State) (a0 : Array Value) (hw : ∀ d ∈ tables_1, d.before a0 Z = true) (ws : List Jvm.Cond) (o0 : Addr) (cs : Int32) (h0 : Heap) (n0 : Nat) (Z0 : n0 ≤ h0.size) (S_COMPACT_STRINGS : Sta Z h0 "java/lang/String" "COMPACT_STRINGS" "Z" (.int cs)) (hcs : ¬ cs = (0 : Int32)) (F_coder_o0 : Fld Z h0 o0 "java/lang/String" "coder" "B" (.int (0 : Int32))) :
    MetFree l (⟨"java/lang/String", "coder", "()B"⟩ : MethodName) (head1 (Jvm.Cond.code (⟨"java/lang/String", "coder", "()B"⟩ : MethodName) jdk_42_method_152_code 1 (some .byte) :: ws) ({ frames := 0, cells := 0, slots := 0, locals := 0 } : Room)) (fun a U => a = #[(.ref o0)] ∧ Z.Warmed39 U.vm ∧ U.heap = h0) (fun _ _ _ _ _ => True) (fun _ U o U' => ∃ v L, o = .returned v ∧ Qcod Z o0 cs h0 n0 v U'.heap L ∧ FrameEnd U o U' L ({ frames := 0, cells := 0, slots := 0, locals := 0 } : Room).cells ({ frames := 0, cells := 0, slots := 0, locals := 0 } : Room).slots) := by
  refine MetFree.of_bodySF (plainFor_of_name pn_0) hisR ?_
  intro p e s m args below meth c s₁ Bd hml0 hP hK
  obtain ⟨rfl, hZ, hh⟩ := hP
  have hx := Bd.exec
  have hby := Bd.bytes
  have hml : c.maxLocals = 1 := hml0
  have hown : s.vm.findClass "java/lang/String" = some m.cls := findClass_of_methodNamed Bd.named
  have hnm := (name_of_methodNamed Bd.named Bd.method).1
  have X0 : Stand p l e ({ frames := 0, cells := 0, slots := 0, locals := 0 } : Room) s m #[(.ref o0)] below meth c s₁ [] 0 0 := Stand.of_body Bd
  have e0 : s₁.heap = h0 := by rw [← hh, Bd.state]; rfl
  have N0 := Fr.nil n0
  refine Ends.opn ?_
  intro QQ hQQ
  refine Ends.step (S' := s₁.setTop (mkF m 0 #[.val (.ref o0)] [])) (fun t k => castTop (ef_cod m o0) k) ?_
  show Ends p e below QQ (s₁.setTop (mkF m 0 #[.val (.ref o0)] []))
  obtain ⟨T1, X1, e1, st1⟩ := getS2 X0 hx hZ hown (host := "") (Or.inl (hw _ (List.mem_of_getElem? (i := 35) rfl))) Via.refl e0 S_COMPACT_STRINGS (g := (mkF m 0 #[.val (.ref o0)] [])) rfl (hb hby d3_0)
  refine Ends.step st1 ?_
  show Ends p e below QQ (T1.setTop (mkF m 3 #[.val (.ref o0)] [(.int cs)]))
  have hc3 : ¬ (cs = (0 : Int32)) := hcs
  refine Ends.step (fun _ k => XS.ifNo X1.here hx rfl (hb hby d3_3) rfl (XT.i0_eq_f hc3) k) ?_
  show Ends p e below QQ (T1.setTop (mkF m 6 #[.val (.ref o0)] []))
  refine Ends.step (fun _ k => XS.aloadN X1.here hx rfl (hb hby d3_6) rfl rfl k) ?_
  show Ends p e below QQ (T1.setTop (mkF m 7 #[.val (.ref o0)] [(.ref o0)]))
  obtain ⟨T2, X2, e2, st2⟩ := getF X1 hx hZ hown (host := "") (Or.inl (hw _ (List.mem_of_getElem? (i := 36) rfl))) Via.refl e1 F_coder_o0 (g := (mkF m 7 #[.val (.ref o0)] [(.ref o0)])) rfl rfl (hb hby d3_7)
  refine Ends.step st2 ?_
  show Ends p e below QQ (T2.setTop (mkF m 10 #[.val (.ref o0)] [(.int (0 : Int32))]))
  refine Ends.step (fun _ k => XS.goto X2.here hx rfl (pc0 := 10) (pc' := 14) rfl (hb hby d3_10) (by decide) (by decide) k) ?_
  show Ends p e below QQ (T2.setTop (mkF m 14 #[.val (.ref o0)] [(.int (0 : Int32))]))
  exact Ends.fin (some (.int (0 : Int32))) X2 hQQ (fun h => by rw [Bd.returns] at h; cases h) Bd.notSynchronized (fun _ hr => retOut X2 hx (t := .byte) Bd.returns rfl (Or.inl ⟨rfl, (by simp), _, rfl⟩) (hb hby d3_14) hr) e2 (by decide) (by decide) ⟨rfl, N0, rfl⟩
theorem d2_0 : decode jdk_42_method_54_code 0 = .ok (.aload_n 0, 1) := by decide +kernel
theorem d2_1 : decode jdk_42_method_54_code 1 = .ok (.getfield 9, 3) := by decide +kernel
theorem d2_4 : decode jdk_42_method_54_code 4 = .ok (.arraylength, 1) := by decide +kernel
theorem d2_5 : decode jdk_42_method_54_code 5 = .ok (.aload_n 0, 1) := by decide +kernel
theorem d2_6 : decode jdk_42_method_54_code 6 = .ok (.invokevirtual 335, 3) := by decide +kernel
theorem d2_9 : decode jdk_42_method_54_code 9 = .ok (.ishr, 1) := by decide +kernel
theorem d2_10 : decode jdk_42_method_54_code 10 = .ok (.ireturn, 1) := by decide +kernel
theorem ef_len (m : MethodId) (x0 : Addr) : entryFrame m #[(.ref x0)] 1 = mkF m 0 #[.val (.ref x0)] [] := by first | (simp [entryFrame, mkF, argsToLocals, Value.category]; done) | rfl
def Qlen (Z : State) (o0 : Addr) (t : Addr) (k : ClassId) (n : Int32) (vs : List Value) (cs : Int32) (h0 : Heap) (n0 : Nat) (v : Option Value) (h : Heap) (L : List Loc) : Prop := (v = some (.int n)) ∧ (Fr n0 L) ∧ (h = h0)
set_option maxRecDepth 65536 in
set_option maxHeartbeats 40000000 in
theorem rmlen (l : Launch) (Z : State) (a0 : Array Value) (hw : ∀ d ∈ tables_1, d.before a0 Z = true) (ws : List Jvm.Cond) (o0 : Addr) (t : Addr) (k : ClassId) (n : Int32) (vs : List Value) (cs : Int32) (h0 : Heap) (n0 : Nat) (Z0 : n0 ≤ h0.size) (E_o0 : Exa Z h0 o0 "java/lang/String") (F_value_o0 : Fld Z h0 o0 "java/lang/String" "value" "[B" (.ref t)) (A_t : Arv Z h0 t k .byte n vs (.int (0 : Int32))) (S_COMPACT_STRINGS : Sta Z h0 "java/lang/String" "COMPACT_STRINGS" "Z" (.int cs)) (hcs : ¬ cs = (0 : Int32)) (F_coder_o0 : Fld Z h0 o0 "java/lang/String" "coder" "B" (.int (0 : Int32))) :
    MetFree l (⟨"java/lang/String", "length", "()I"⟩ : MethodName) (head1 (Jvm.Cond.code (⟨"java/lang/String", "length", "()I"⟩ : MethodName) jdk_42_method_54_code 1 (some .int) :: ws) ({ frames := 1, cells := 0, slots := 0, locals := 13 } : Room)) (fun a U => a = #[(.ref o0)] ∧ Z.Warmed39 U.vm ∧ U.heap = h0) (fun _ _ _ _ _ => True) (fun _ U o U' => ∃ v L, o = .returned v ∧ Qlen Z o0 t k n vs cs h0 n0 v U'.heap L ∧ FrameEnd U o U' L ({ frames := 1, cells := 0, slots := 0, locals := 13 } : Room).cells ({ frames := 1, cells := 0, slots := 0, locals := 13 } : Room).slots) := by
  refine MetFree.of_bodySF (plainFor_of_name pn_0) hisR ?_
  intro p e s m args below meth c s₁ Bd hml0 hP hK
  obtain ⟨rfl, hZ, hh⟩ := hP
  have hx := Bd.exec
  have hby := Bd.bytes
  have hml : c.maxLocals = 1 := hml0
  have hown : s.vm.findClass "java/lang/String" = some m.cls := findClass_of_methodNamed Bd.named
  have hnm := (name_of_methodNamed Bd.named Bd.method).1
  have X0 : Stand p l e ({ frames := 1, cells := 0, slots := 0, locals := 13 } : Room) s m #[(.ref o0)] below meth c s₁ [] 0 0 := Stand.of_body Bd
  have e0 : s₁.heap = h0 := by rw [← hh, Bd.state]; rfl
  have N0 := Fr.nil n0
  refine Ends.opn ?_
  intro QQ hQQ
  refine Ends.step (S' := s₁.setTop (mkF m 0 #[.val (.ref o0)] [])) (fun t k => castTop (ef_len m o0) k) ?_
  show Ends p e below QQ (s₁.setTop (mkF m 0 #[.val (.ref o0)] []))
  refine Ends.step (fun _ k => XS.aloadN X0.here hx rfl (hb hby d2_0) rfl rfl k) ?_
  show Ends p e below QQ (s₁.setTop (mkF m 1 #[.val (.ref o0)] [(.ref o0)]))
  obtain ⟨T3, X3, e3, st3⟩ := getF X0 hx hZ hown (host := "") (Or.inl (hw _ (List.mem_of_getElem? (i := 28) rfl))) Via.refl e0 F_value_o0 (g := (mkF m 1 #[.val (.ref o0)] [(.ref o0)])) rfl rfl (hb hby d2_1)
  refine Ends.step st3 ?_
  show Ends p e below QQ (T3.setTop (mkF m 4 #[.val (.ref o0)] [(.ref t)]))
  obtain ⟨cl4, Ar4, -, S4, P4, -, -⟩ := id A_t
  refine Ends.step (S' := T3.setTop (mkF m 5 #[.val (.ref o0)] [(.int n)])) (fun _ k => X3.arraylength hx (by rw [e3]; exact Ar4.1) (State.isArrayOf_alike hZ.alike Ar4.2.1) (g := (mkF m 4 #[.val (.ref o0)] [(.ref t)])) rfl rfl (hb hby d2_4) _ (by rw [len_of S4 P4]; exact k)) ?_
  show Ends p e below QQ (T3.setTop (mkF m 5 #[.val (.ref o0)] [(.int n)]))
  refine Ends.step (fun _ k => XS.aloadN X3.here hx rfl (hb hby d2_5) rfl rfl k) ?_
  show Ends p e below QQ (T3.setTop (mkF m 6 #[.val (.ref o0)] [(.ref o0), (.int n)]))
  obtain ⟨cq5, kq5, q5a, q5b, q5c⟩ := isOf hZ e3 E_o0
  obtain ⟨_, _, ⟨T5, L5, k5, n5⟩, -, X5, ⟨Lc5, hQ5, l5, y5, z5⟩, st5⟩ := X3.virtualBack hx (y := (⟨"java/lang/String", "coder", "()B"⟩ : MethodName)) (z := (⟨"java/lang/String", "coder", "()B"⟩ : MethodName)) hown (mvT hZ (hw _ (List.mem_of_getElem? (i := 30) rfl))) (mvT hZ (hw _ (List.mem_of_getElem? (i := 31) rfl))) (notFace_of_selects (args := #[]) (mvT hZ (hw _ (List.mem_of_getElem? (i := 33) rfl)))) (mvT hZ (hw _ (List.mem_of_getElem? (i := 33) rfl))) (mvT hZ (hw _ (List.mem_of_getElem? (i := 32) rfl))) (by decide) (backOf (W := 1) (rmcod l Z a0 hw [] o0 cs h0 n0 (Nat.le_trans Z0 (Keep.refl h0 []).1) S_COMPACT_STRINGS hcs F_coder_o0) hZ (hw _ (List.mem_of_getElem? (i := 34) rfl)) (hw _ (List.mem_of_getElem? (i := 26) rfl)) (by decide) (by decide)) q5a q5c (g := (mkF m 6 #[.val (.ref o0)] [(.ref o0), (.int n)])) rfl (by rw [hml]; rfl) (Steps.refl _) (argsL := []) (rest := [(.int n)]) (lenOf pd_0 rfl) rfl (by show 2 * 0 + _ ≤ _; exact Nat.le_of_eq rfl) (hb hby d2_6) (fun _ _ => ⟨rfl, e3, (by decide : 0 + 0 ≤ _), (by decide : 0 + 0 ≤ _)⟩)
  dsimp only [Pt.U, Pt.locs, Pt.cells, Pt.slots] at X5 l5 y5 z5 st5 hQ5
  subst l5 y5 z5
  obtain ⟨rfl, Nq5, hh5⟩ := hQ5
  have N5 := Fr.app N0 Nq5
  refine Ends.step (fun _ k => st5.trans k) ?_
  show Ends p e below QQ (T5.setTop (mkF m 9 #[.val (.ref o0)] [(.int (0 : Int32)), (.int n)]))
  refine Ends.step (fun _ k => XT.ishr X5.here hx rfl (hb hby d2_9) rfl k) ?_
  show Ends p e below QQ (T5.setTop (mkF m 10 #[.val (.ref o0)] [(.int (n >>> ((0 : Int32) &&& 31)))]))
  exact Ends.fin (some (.int (n >>> ((0 : Int32) &&& 31)))) X5 hQQ (fun h => by rw [Bd.returns] at h; cases h) Bd.notSynchronized (fun _ hr => retOut X5 hx (t := .int) Bd.returns rfl (Or.inl ⟨rfl, Or.inl rfl, _, rfl⟩) (hb hby d2_10) hr) hh5 (by decide) (by decide) ⟨(by rw [own_shr0]), N5, rfl⟩
theorem d5_0 : decode jdk_42_method_154_code 0 = .ok (.getstatic 38, 3) := by decide +kernel
theorem d5_3 : decode jdk_42_method_154_code 3 = .ok (.ifCond .eq 14, 3) := by decide +kernel
theorem d5_6 : decode jdk_42_method_154_code 6 = .ok (.aload_n 0, 1) := by decide +kernel
theorem d5_7 : decode jdk_42_method_154_code 7 = .ok (.getfield 15, 3) := by decide +kernel
theorem d5_10 : decode jdk_42_method_154_code 10 = .ok (.ifCond .ne 7, 3) := by decide +kernel
theorem d5_13 : decode jdk_42_method_154_code 13 = .ok (.iconst 1, 1) := by decide +kernel
theorem d5_14 : decode jdk_42_method_154_code 14 = .ok (.goto 4, 3) := by decide +kernel
theorem d5_18 : decode jdk_42_method_154_code 18 = .ok (.ireturn, 1) := by decide +kernel
theorem ef_lat (m : MethodId) (x0 : Addr) : entryFrame m #[(.ref x0)] 1 = mkF m 0 #[.val (.ref x0)] [] := by first | (simp [entryFrame, mkF, argsToLocals, Value.category]; done) | rfl
def Qlat (Z : State) (o0 : Addr) (cs : Int32) (h0 : Heap) (n0 : Nat) (v : Option Value) (h : Heap) (L : List Loc) : Prop := (v = some (.int (1 : Int32))) ∧ (Fr n0 L) ∧ (h = h0)
set_option maxRecDepth 65536 in
set_option maxHeartbeats 40000000 in
theorem rmlat (l : Launch) (Z : State) (a0 : Array Value) (hw : ∀ d ∈ tables_1, d.before a0 Z = true) (ws : List Jvm.Cond) (o0 : Addr) (cs : Int32) (h0 : Heap) (n0 : Nat) (Z0 : n0 ≤ h0.size) (S_COMPACT_STRINGS : Sta Z h0 "java/lang/String" "COMPACT_STRINGS" "Z" (.int cs)) (hcs : ¬ cs = (0 : Int32)) (F_coder_o0 : Fld Z h0 o0 "java/lang/String" "coder" "B" (.int (0 : Int32))) :
    MetFree l (⟨"java/lang/String", "isLatin1", "()Z"⟩ : MethodName) (head1 (Jvm.Cond.code (⟨"java/lang/String", "isLatin1", "()Z"⟩ : MethodName) jdk_42_method_154_code 1 (some .boolean) :: ws) ({ frames := 0, cells := 0, slots := 0, locals := 0 } : Room)) (fun a U => a = #[(.ref o0)] ∧ Z.Warmed39 U.vm ∧ U.heap = h0) (fun _ _ _ _ _ => True) (fun _ U o U' => ∃ v L, o = .returned v ∧ Qlat Z o0 cs h0 n0 v U'.heap L ∧ FrameEnd U o U' L ({ frames := 0, cells := 0, slots := 0, locals := 0 } : Room).cells ({ frames := 0, cells := 0, slots := 0, locals := 0 } : Room).slots) := by
  refine MetFree.of_bodySF (plainFor_of_name pn_0) hisR ?_
  intro p e s m args below meth c s₁ Bd hml0 hP hK
  obtain ⟨rfl, hZ, hh⟩ := hP
  have hx := Bd.exec
  have hby := Bd.bytes
  have hml : c.maxLocals = 1 := hml0
  have hown : s.vm.findClass "java/lang/String" = some m.cls := findClass_of_methodNamed Bd.named
  have hnm := (name_of_methodNamed Bd.named Bd.method).1
  have X0 : Stand p l e ({ frames := 0, cells := 0, slots := 0, locals := 0 } : Room) s m #[(.ref o0)] below meth c s₁ [] 0 0 := Stand.of_body Bd
  have e0 : s₁.heap = h0 := by rw [← hh, Bd.state]; rfl
  have N0 := Fr.nil n0
  refine Ends.opn ?_
  intro QQ hQQ
  refine Ends.step (S' := s₁.setTop (mkF m 0 #[.val (.ref o0)] [])) (fun t k => castTop (ef_lat m o0) k) ?_
  show Ends p e below QQ (s₁.setTop (mkF m 0 #[.val (.ref o0)] []))
  obtain ⟨T6, X6, e6, st6⟩ := getS2 X0 hx hZ hown (host := "") (Or.inl (hw _ (List.mem_of_getElem? (i := 35) rfl))) Via.refl e0 S_COMPACT_STRINGS (g := (mkF m 0 #[.val (.ref o0)] [])) rfl (hb hby d5_0)
  refine Ends.step st6 ?_
  show Ends p e below QQ (T6.setTop (mkF m 3 #[.val (.ref o0)] [(.int cs)]))
  have hc3 : ¬ (cs = (0 : Int32)) := hcs
  refine Ends.step (fun _ k => XS.ifNo X6.here hx rfl (hb hby d5_3) rfl (XT.i0_eq_f hc3) k) ?_
  show Ends p e below QQ (T6.setTop (mkF m 6 #[.val (.ref o0)] []))
  refine Ends.step (fun _ k => XS.aloadN X6.here hx rfl (hb hby d5_6) rfl rfl k) ?_
  show Ends p e below QQ (T6.setTop (mkF m 7 #[.val (.ref o0)] [(.ref o0)]))
  obtain ⟨T7, X7, e7, st7⟩ := getF X6 hx hZ hown (host := "") (Or.inl (hw _ (List.mem_of_getElem? (i := 36) rfl))) Via.refl e6 F_coder_o0 (g := (mkF m 7 #[.val (.ref o0)] [(.ref o0)])) rfl rfl (hb hby d5_7)
  refine Ends.step st7 ?_
  show Ends p e below QQ (T7.setTop (mkF m 10 #[.val (.ref o0)] [(.int (0 : Int32))]))
  refine Ends.step (fun _ k => XS.ifNo X7.here hx rfl (hb hby d5_10) rfl (XT.i0_ne_f (by decide)) k) ?_
  show Ends p e below QQ (T7.setTop (mkF m 13 #[.val (.ref o0)] []))
  refine Ends.step (fun _ k => XT.iconstV X7.here hx rfl (1 : Int32) (hb hby d5_13) rfl k) ?_
  show Ends p e below QQ (T7.setTop (mkF m 14 #[.val (.ref o0)] [(.int (1 : Int32))]))
  refine Ends.step (fun _ k => XS.goto X7.here hx rfl (pc0 := 14) (pc' := 18) rfl (hb hby d5_14) (by decide) (by decide) k) ?_
  show Ends p e below QQ (T7.setTop (mkF m 18 #[.val (.ref o0)] [(.int (1 : Int32))]))
  exact Ends.fin (some (.int (1 : Int32))) X7 hQQ (fun h => by rw [Bd.returns] at h; cases h) Bd.notSynchronized (fun _ hr => retOut X7 hx (t := .boolean) Bd.returns rfl (Or.inl ⟨rfl, (by simp), _, rfl⟩) (hb hby d5_18) hr) e7 (by decide) (by decide) ⟨rfl, N0, rfl⟩
theorem d8_0 : decode jdk_41_method_11_code 0 = .ok (.iload_n 0, 1) := by decide +kernel
theorem d8_1 : decode jdk_41_method_11_code 1 = .ok (.ifCond .lt 8, 3) := by decide +kernel
theorem d8_4 : decode jdk_41_method_11_code 4 = .ok (.iload_n 0, 1) := by decide +kernel
theorem d8_5 : decode jdk_41_method_11_code 5 = .ok (.iload_n 1, 1) := by decide +kernel
theorem d8_6 : decode jdk_41_method_11_code 6 = .ok (.if_icmp .lt 10, 3) := by decide +kernel
theorem d8_16 : decode jdk_41_method_11_code 16 = .ok (.iload_n 0, 1) := by decide +kernel
theorem d8_17 : decode jdk_41_method_11_code 17 = .ok (.ireturn, 1) := by decide +kernel
theorem ef_pci (m : MethodId) (x0 : Int32) (x1 : Int32) (x2 : Value) (hx2 : x2.isRef = true) : entryFrame m #[(.int x0), (.int x1), x2] 3 = mkF m 0 #[.val (.int x0), .val (.int x1), .val x2] [] := by
  rcases XT.refc hx2 with rfl | ⟨_, rfl⟩ <;> rfl
def Qpci (Z : State) (p0 : Int32) (p1 : Int32) (r2 : Value) (h0 : Heap) (n0 : Nat) (v : Option Value) (h : Heap) (L : List Loc) : Prop := (v = some (.int p0)) ∧ (Fr n0 L) ∧ (h = h0)
set_option maxRecDepth 65536 in
set_option maxHeartbeats 40000000 in
theorem rmpci (l : Launch) (Z : State) (a0 : Array Value) (hw : ∀ d ∈ tables_1, d.before a0 Z = true) (ws : List Jvm.Cond) (p0 : Int32) (p1 : Int32) (r2 : Value) (h0 : Heap) (n0 : Nat) (Z0 : n0 ≤ h0.size) (hr_r2 : r2.isRef = true) (h1 : ¬ p0 < (0 : Int32)) (h2 : p0 < p1) :
    MetFree l (⟨"jdk/internal/util/Preconditions", "checkIndex", "(IILjava/util/function/BiFunction;)I"⟩ : MethodName) (head1 (Jvm.Cond.code (⟨"jdk/internal/util/Preconditions", "checkIndex", "(IILjava/util/function/BiFunction;)I"⟩ : MethodName) jdk_41_method_11_code 3 (some .int) :: ws) ({ frames := 0, cells := 0, slots := 0, locals := 0 } : Room)) (fun a U => a = #[(.int p0), (.int p1), r2] ∧ Z.Warmed39 U.vm ∧ U.heap = h0) (fun _ _ _ _ _ => True) (fun _ U o U' => ∃ v L, o = .returned v ∧ Qpci Z p0 p1 r2 h0 n0 v U'.heap L ∧ FrameEnd U o U' L ({ frames := 0, cells := 0, slots := 0, locals := 0 } : Room).cells ({ frames := 0, cells := 0, slots := 0, locals := 0 } : Room).slots) := by
  refine MetFree.of_bodySF (plainFor_of_name pn_1) hisR ?_
  intro p e s m args below meth c s₁ Bd hml0 hP hK
  obtain ⟨rfl, hZ, hh⟩ := hP
  have hx := Bd.exec
  have hby := Bd.bytes
  have hml : c.maxLocals = 3 := hml0
  have hown : s.vm.findClass "jdk/internal/util/Preconditions" = some m.cls := findClass_of_methodNamed Bd.named
  have hnm := (name_of_methodNamed Bd.named Bd.method).1
  have X0 : Stand p l e ({ frames := 0, cells := 0, slots := 0, locals := 0 } : Room) s m #[(.int p0), (.int p1), r2] below meth c s₁ [] 0 0 := Stand.of_body Bd
  have e0 : s₁.heap = h0 := by rw [← hh, Bd.state]; rfl
  have N0 := Fr.nil n0
  refine Ends.opn ?_
  intro QQ hQQ
  refine Ends.step (S' := s₁.setTop (mkF m 0 #[.val (.int p0), .val (.int p1), .val r2] [])) (fun t k => castTop (ef_pci m p0 p1 r2 hr_r2) k) ?_
  show Ends p e below QQ (s₁.setTop (mkF m 0 #[.val (.int p0), .val (.int p1), .val r2] []))
  refine Ends.step (fun _ k => XS.iloadN X0.here hx rfl (hb hby d8_0) rfl k) ?_
  show Ends p e below QQ (s₁.setTop (mkF m 1 #[.val (.int p0), .val (.int p1), .val r2] [(.int p0)]))
  have hc1 : ¬ (p0 < (0 : Int32)) := h1
  refine Ends.step (fun _ k => XS.ifNo X0.here hx rfl (hb hby d8_1) rfl (XT.i0_lt_f hc1) k) ?_
  show Ends p e below QQ (s₁.setTop (mkF m 4 #[.val (.int p0), .val (.int p1), .val r2] []))
  refine Ends.step (fun _ k => XS.iloadN X0.here hx rfl (hb hby d8_4) rfl k) ?_
  show Ends p e below QQ (s₁.setTop (mkF m 5 #[.val (.int p0), .val (.int p1), .val r2] [(.int p0)]))
  refine Ends.step (fun _ k => XS.iloadN X0.here hx rfl (hb hby d8_5) rfl k) ?_
  show Ends p e below QQ (s₁.setTop (mkF m 6 #[.val (.int p0), .val (.int p1), .val r2] [(.int p1), (.int p0)]))
  have hc6 : p0 < p1 := h2
  refine Ends.step (fun _ k => XS.icmpYes X0.here hx rfl (pc0 := 6) (pc' := 16) rfl (hb hby d8_6) rfl (XT.ii_lt_t hc6) (by decide) (by decide) k) ?_
  show Ends p e below QQ (s₁.setTop (mkF m 16 #[.val (.int p0), .val (.int p1), .val r2] []))
  refine Ends.step (fun _ k => XS.iloadN X0.here hx rfl (hb hby d8_16) rfl k) ?_
  show Ends p e below QQ (s₁.setTop (mkF m 17 #[.val (.int p0), .val (.int p1), .val r2] [(.int p0)]))
  exact Ends.fin (some (.int p0)) X0 hQQ (fun h => by rw [Bd.returns] at h; cases h) Bd.notSynchronized (fun _ hr => retOut X0 hx (t := .int) Bd.returns rfl (Or.inl ⟨rfl, Or.inl rfl, _, rfl⟩) (hb hby d8_17) hr) e0 (by decide) (by decide) ⟨rfl, N0, rfl⟩
theorem d7_0 : decode jdk_42_method_155_code 0 = .ok (.iload_n 0, 1) := by decide +kernel
theorem d7_1 : decode jdk_42_method_155_code 1 = .ok (.iload_n 1, 1) := by decide +kernel
theorem d7_2 : decode jdk_42_method_155_code 2 = .ok (.getstatic 1053, 3) := by decide +kernel
theorem d7_5 : decode jdk_42_method_155_code 5 = .ok (.invokestatic 1059, 3) := by decide +kernel
theorem d7_8 : decode jdk_42_method_155_code 8 = .ok (.pop, 1) := by decide +kernel
theorem d7_9 : decode jdk_42_method_155_code 9 = .ok (.return_, 1) := by decide +kernel
theorem ef_sci (m : MethodId) (x0 : Int32) (x1 : Int32) : entryFrame m #[(.int x0), (.int x1)] 2 = mkF m 0 #[.val (.int x0), .val (.int x1)] [] := by first | (simp [entryFrame, mkF, argsToLocals, Value.category]; done) | rfl
def Qsci (Z : State) (p0 : Int32) (p1 : Int32) (sf : Value) (h0 : Heap) (n0 : Nat) (v : Option Value) (h : Heap) (L : List Loc) : Prop := (v = none) ∧ (Fr n0 L) ∧ (h = h0)
set_option maxRecDepth 65536 in
set_option maxHeartbeats 40000000 in
theorem rmsci (l : Launch) (Z : State) (a0 : Array Value) (hw : ∀ d ∈ tables_1, d.before a0 Z = true) (ws : List Jvm.Cond) (p0 : Int32) (p1 : Int32) (sf : Value) (h0 : Heap) (n0 : Nat) (Z0 : n0 ≤ h0.size) (S_SIOOBE_FORMATTER : Sta Z h0 "jdk/internal/util/Preconditions" "SIOOBE_FORMATTER" "Ljava/util/function/BiFunction;" sf) (hr_sf : sf.isRef = true) (h1 : ¬ p0 < (0 : Int32)) (h2 : p0 < p1) :
    MetFree l (⟨"java/lang/String", "checkIndex", "(II)V"⟩ : MethodName) (head1 (Jvm.Cond.code (⟨"java/lang/String", "checkIndex", "(II)V"⟩ : MethodName) jdk_42_method_155_code 2 none :: ws) ({ frames := 1, cells := 0, slots := 0, locals := 14 } : Room)) (fun a U => a = #[(.int p0), (.int p1)] ∧ Z.Warmed39 U.vm ∧ U.heap = h0) (fun _ _ _ _ _ => True) (fun _ U o U' => ∃ v L, o = .returned v ∧ Qsci Z p0 p1 sf h0 n0 v U'.heap L ∧ FrameEnd U o U' L ({ frames := 1, cells := 0, slots := 0, locals := 14 } : Room).cells ({ frames := 1, cells := 0, slots := 0, locals := 14 } : Room).slots) := by
  refine MetFree.of_bodySF (plainFor_of_name pn_0) hisR ?_
  intro p e s m args below meth c s₁ Bd hml0 hP hK
  obtain ⟨rfl, hZ, hh⟩ := hP
  have hx := Bd.exec
  have hby := Bd.bytes
  have hml : c.maxLocals = 2 := hml0
  have hown : s.vm.findClass "java/lang/String" = some m.cls := findClass_of_methodNamed Bd.named
  have hnm := (name_of_methodNamed Bd.named Bd.method).1
  have X0 : Stand p l e ({ frames := 1, cells := 0, slots := 0, locals := 14 } : Room) s m #[(.int p0), (.int p1)] below meth c s₁ [] 0 0 := Stand.of_body Bd
  have e0 : s₁.heap = h0 := by rw [← hh, Bd.state]; rfl
  have N0 := Fr.nil n0
  refine Ends.opn ?_
  intro QQ hQQ
  refine Ends.step (S' := s₁.setTop (mkF m 0 #[.val (.int p0), .val (.int p1)] [])) (fun t k => castTop (ef_sci m p0 p1) k) ?_
  show Ends p e below QQ (s₁.setTop (mkF m 0 #[.val (.int p0), .val (.int p1)] []))
  refine Ends.step (fun _ k => XS.iloadN X0.here hx rfl (hb hby d7_0) rfl k) ?_
  show Ends p e below QQ (s₁.setTop (mkF m 1 #[.val (.int p0), .val (.int p1)] [(.int p0)]))
  refine Ends.step (fun _ k => XS.iloadN X0.here hx rfl (hb hby d7_1) rfl k) ?_
  show Ends p e below QQ (s₁.setTop (mkF m 2 #[.val (.int p0), .val (.int p1)] [(.int p1), (.int p0)]))
  obtain ⟨T8, X8, e8, st8⟩ := getS2 X0 hx hZ hown (host := "") (Or.inl (hw _ (List.mem_of_getElem? (i := 55) rfl))) Via.refl e0 S_SIOOBE_FORMATTER (g := (mkF m 2 #[.val (.int p0), .val (.int p1)] [(.int p1), (.int p0)])) rfl (hb hby d7_2)
  refine Ends.step st8 ?_
  show Ends p e below QQ (T8.setTop (mkF m 5 #[.val (.int p0), .val (.int p1)] [sf, (.int p1), (.int p0)]))
  obtain ⟨_, _, ⟨T9, L9, k9, n9⟩, -, X9, ⟨Lc9, hQ9, l9, y9, z9⟩, st9⟩ := Jvm.LawKit.callS X8 hx (y := (⟨"jdk/internal/util/Preconditions", "checkIndex", "(IILjava/util/function/BiFunction;)I"⟩ : MethodName)) hown (mvT hZ (hw _ (List.mem_of_getElem? (i := 57) rfl))) (mvT hZ (hw _ (List.mem_of_getElem? (i := 58) rfl))) (mvT hZ (hw _ (List.mem_of_getElem? (i := 56) rfl))) (mvT hZ (hw _ (List.mem_of_getElem? (i := 59) rfl))) (by decide) (backOf (W := 0) (rmpci l Z a0 hw [] p0 p1 sf h0 n0 (Nat.le_trans Z0 (Keep.refl h0 []).1) hr_sf h1 h2) hZ (hw _ (List.mem_of_getElem? (i := 59) rfl)) (hw _ (List.mem_of_getElem? (i := 56) rfl)) (by decide) (by decide)) (g := (mkF m 5 #[.val (.int p0), .val (.int p1)] [sf, (.int p1), (.int p0)])) rfl (by rw [hml]; rfl) (argsL := [(.int p0), (.int p1), sf]) (rest := []) (lenOf pd_1 rfl) rfl (by show 2 * 0 + _ ≤ _; exact Nat.le_of_eq rfl) (hb hby d7_5) (fun _ _ => ⟨rfl, e8, (by decide : 0 + 0 ≤ _), (by decide : 0 + 0 ≤ _)⟩)
  dsimp only [Pt.U, Pt.locs, Pt.cells, Pt.slots] at X9 l9 y9 z9 st9 hQ9
  subst l9 y9 z9
  obtain ⟨rfl, Nq9, hh9⟩ := hQ9
  have N9 := Fr.app N0 Nq9
  refine Ends.step st9 ?_
  show Ends p e below QQ (T9.setTop (mkF m 8 #[.val (.int p0), .val (.int p1)] [(.int p0)]))
  refine Ends.step (fun _ k => XT.pop X9.here hx rfl (hb hby d7_8) rfl rfl k) ?_
  show Ends p e below QQ (T9.setTop (mkF m 9 #[.val (.int p0), .val (.int p1)] []))
  exact Ends.fin (none) X9 hQQ (fun _ => rfl) Bd.notSynchronized (fun _ hr => X9.returnOut hx Bd.returns (hb hby d7_9) hr) hh9 (by decide) (by decide) ⟨rfl, N9, rfl⟩
theorem d6_0 : decode jdk_43_method_2_code 0 = .ok (.iload_n 1, 1) := by decide +kernel
theorem d6_1 : decode jdk_43_method_2_code 1 = .ok (.aload_n 0, 1) := by decide +kernel
theorem d6_2 : decode jdk_43_method_2_code 2 = .ok (.arraylength, 1) := by decide +kernel
theorem d6_3 : decode jdk_43_method_2_code 3 = .ok (.invokestatic 9, 3) := by decide +kernel
theorem d6_6 : decode jdk_43_method_2_code 6 = .ok (.aload_n 0, 1) := by decide +kernel
theorem d6_7 : decode jdk_43_method_2_code 7 = .ok (.iload_n 1, 1) := by decide +kernel
theorem d6_8 : decode jdk_43_method_2_code 8 = .ok (.baload, 1) := by decide +kernel
theorem d6_9 : decode jdk_43_method_2_code 9 = .ok (.sipush 255, 3) := by decide +kernel
theorem d6_12 : decode jdk_43_method_2_code 12 = .ok (.iand, 1) := by decide +kernel
theorem d6_13 : decode jdk_43_method_2_code 13 = .ok (.i2c, 1) := by decide +kernel
theorem d6_14 : decode jdk_43_method_2_code 14 = .ok (.ireturn, 1) := by decide +kernel
theorem ef_lca (m : MethodId) (x0 : Addr) (x1 : Int32) : entryFrame m #[(.ref x0), (.int x1)] 2 = mkF m 0 #[.val (.ref x0), .val (.int x1)] [] := by first | (simp [entryFrame, mkF, argsToLocals, Value.category]; done) | rfl
def Qlca (Z : State) (o0 : Addr) (p1 : Int32) (k : ClassId) (n : Int32) (vs : List Value) (b : Int32) (sf : Value) (h0 : Heap) (n0 : Nat) (v : Option Value) (h : Heap) (L : List Loc) : Prop := (v = some (.int (b &&& (255 : Int32)))) ∧ (Fr n0 L) ∧ (h = h0)
set_option maxRecDepth 65536 in
set_option maxHeartbeats 40000000 in
theorem rmlca (l : Launch) (Z : State) (a0 : Array Value) (hw : ∀ d ∈ tables_1, d.before a0 Z = true) (ws : List Jvm.Cond) (o0 : Addr) (p1 : Int32) (k : ClassId) (n : Int32) (vs : List Value) (b : Int32) (sf : Value) (h0 : Heap) (n0 : Nat) (Z0 : n0 ≤ h0.size) (A_o0 : Arv Z h0 o0 k .byte n vs (.int (0 : Int32))) (S_SIOOBE_FORMATTER : Sta Z h0 "jdk/internal/util/Preconditions" "SIOOBE_FORMATTER" "Ljava/util/function/BiFunction;" sf) (hr_sf : sf.isRef = true) (h1 : ¬ p1 < (0 : Int32)) (h2 : p1 < n) (hbt : vs.getD p1.toNatClampNeg (.int (0 : Int32)) = .int b) :
    MetFree l (⟨"java/lang/StringLatin1", "charAt", "([BI)C"⟩ : MethodName) (head1 (Jvm.Cond.code (⟨"java/lang/StringLatin1", "charAt", "([BI)C"⟩ : MethodName) jdk_43_method_2_code 2 (some .char) :: ws) ({ frames := 2, cells := 0, slots := 0, locals := 27 } : Room)) (fun a U => a = #[(.ref o0), (.int p1)] ∧ Z.Warmed39 U.vm ∧ U.heap = h0) (fun _ _ _ _ _ => True) (fun _ U o U' => ∃ v L, o = .returned v ∧ Qlca Z o0 p1 k n vs b sf h0 n0 v U'.heap L ∧ FrameEnd U o U' L ({ frames := 2, cells := 0, slots := 0, locals := 27 } : Room).cells ({ frames := 2, cells := 0, slots := 0, locals := 27 } : Room).slots) := by
  refine MetFree.of_bodySF (plainFor_of_name pn_2) hisR ?_
  intro p e s m args below meth c s₁ Bd hml0 hP hK
  obtain ⟨rfl, hZ, hh⟩ := hP
  have hx := Bd.exec
  have hby := Bd.bytes
  have hml : c.maxLocals = 2 := hml0
  have hown : s.vm.findClass "java/lang/StringLatin1" = some m.cls := findClass_of_methodNamed Bd.named
  have hnm := (name_of_methodNamed Bd.named Bd.method).1
  have X0 : Stand p l e ({ frames := 2, cells := 0, slots := 0, locals := 27 } : Room) s m #[(.ref o0), (.int p1)] below meth c s₁ [] 0 0 := Stand.of_body Bd
  have e0 : s₁.heap = h0 := by rw [← hh, Bd.state]; rfl
  have N0 := Fr.nil n0
  refine Ends.opn ?_
  intro QQ hQQ
  refine Ends.step (S' := s₁.setTop (mkF m 0 #[.val (.ref o0), .val (.int p1)] [])) (fun t k => castTop (ef_lca m o0 p1) k) ?_
  show Ends p e below QQ (s₁.setTop (mkF m 0 #[.val (.ref o0), .val (.int p1)] []))
  refine Ends.step (fun _ k => XS.iloadN X0.here hx rfl (hb hby d6_0) rfl k) ?_
  show Ends p e below QQ (s₁.setTop (mkF m 1 #[.val (.ref o0), .val (.int p1)] [(.int p1)]))
  refine Ends.step (fun _ k => XS.aloadN X0.here hx rfl (hb hby d6_1) rfl rfl k) ?_
  show Ends p e below QQ (s₁.setTop (mkF m 2 #[.val (.ref o0), .val (.int p1)] [(.ref o0), (.int p1)]))
  obtain ⟨cl10, Ar10, -, S10, P10, -, -⟩ := id A_o0
  refine Ends.step (S' := s₁.setTop (mkF m 3 #[.val (.ref o0), .val (.int p1)] [(.int n), (.int p1)])) (fun _ k => X0.arraylength hx (by rw [e0]; exact Ar10.1) (State.isArrayOf_alike hZ.alike Ar10.2.1) (g := (mkF m 2 #[.val (.ref o0), .val (.int p1)] [(.ref o0), (.int p1)])) rfl rfl (hb hby d6_2) _ (by rw [len_of S10 P10]; exact k)) ?_
  show Ends p e below QQ (s₁.setTop (mkF m 3 #[.val (.ref o0), .val (.int p1)] [(.int n), (.int p1)]))
  obtain ⟨_, _, ⟨T11, L11, k11, n11⟩, -, X11, ⟨Lc11, hQ11, l11, y11, z11⟩, st11⟩ := Jvm.LawKit.callS X0 hx (y := (⟨"java/lang/String", "checkIndex", "(II)V"⟩ : MethodName)) hown (mvT hZ (hw _ (List.mem_of_getElem? (i := 52) rfl))) (mvT hZ (hw _ (List.mem_of_getElem? (i := 53) rfl))) (mvT hZ (hw _ (List.mem_of_getElem? (i := 26) rfl))) (mvT hZ (hw _ (List.mem_of_getElem? (i := 54) rfl))) (by decide) (backOf (W := 0) (rmsci l Z a0 hw [] p1 n sf h0 n0 (Nat.le_trans Z0 (Keep.refl h0 []).1) S_SIOOBE_FORMATTER hr_sf h1 h2) hZ (hw _ (List.mem_of_getElem? (i := 54) rfl)) (hw _ (List.mem_of_getElem? (i := 26) rfl)) (by decide) (by decide)) (g := (mkF m 3 #[.val (.ref o0), .val (.int p1)] [(.int n), (.int p1)])) rfl (by rw [hml]; rfl) (argsL := [(.int p1), (.int n)]) (rest := []) (lenOf pd_2 rfl) rfl (by show 2 * 0 + _ ≤ _; exact Nat.le_of_eq rfl) (hb hby d6_3) (fun _ _ => ⟨rfl, e0, (by decide : 0 + 0 ≤ _), (by decide : 0 + 0 ≤ _)⟩)
  dsimp only [Pt.U, Pt.locs, Pt.cells, Pt.slots] at X11 l11 y11 z11 st11 hQ11
  subst l11 y11 z11
  obtain ⟨rfl, Nq11, hh11⟩ := hQ11
  have N11 := Fr.app N0 Nq11
  refine Ends.step st11 ?_
  show Ends p e below QQ (T11.setTop (mkF m 6 #[.val (.ref o0), .val (.int p1)] []))
  refine Ends.step (fun _ k => XS.aloadN X11.here hx rfl (hb hby d6_6) rfl rfl k) ?_
  show Ends p e below QQ (T11.setTop (mkF m 7 #[.val (.ref o0), .val (.int p1)] [(.ref o0)]))
  refine Ends.step (fun _ k => XS.iloadN X11.here hx rfl (hb hby d6_7) rfl k) ?_
  show Ends p e below QQ (T11.setTop (mkF m 8 #[.val (.ref o0), .val (.int p1)] [(.int p1), (.ref o0)]))
  obtain ⟨cl12, Ar12, q12, S12, P12, H12, G12⟩ := id A_o0
  have hin12 : ¬ (p1 < 0 ∨ cl12.slots.size ≤ (p1).toNatClampNeg) := inb_of S12 ⟨h1, h2⟩
  have hat12 : cl12.slots[(p1).toNatClampNeg]? = some (.int b) := H12.at hin12 (hbt)
  refine Ends.step (fun _ k => X11.baloadBytes hx (j := p1) (v := (.int b)) (by rw [hh11]; exact Ar12.1) (State.isArrayOf_alike hZ.alike Ar12.2.1) Ar12.2.2 hin12 hat12 (g := (mkF m 8 #[.val (.ref o0), .val (.int p1)] [(.int p1), (.ref o0)])) rfl rfl (hb hby d6_8) _ k) ?_
  show Ends p e below QQ (T11.setTop (mkF m 9 #[.val (.ref o0), .val (.int p1)] [(.int b)]))
  refine Ends.step (fun _ k => XT.sipushV X11.here hx rfl (255 : Int32) (hb hby d6_9) rfl k) ?_
  show Ends p e below QQ (T11.setTop (mkF m 12 #[.val (.ref o0), .val (.int p1)] [(.int (255 : Int32)), (.int b)]))
  refine Ends.step (fun _ k => XS.iand X11.here hx rfl (hb hby d6_12) rfl k) ?_
  show Ends p e below QQ (T11.setTop (mkF m 13 #[.val (.ref o0), .val (.int p1)] [(.int (b &&& (255 : Int32)))]))
  refine Ends.step (fun _ k => XT.i2c X11.here hx rfl (hb hby d6_13) rfl k) ?_
  show Ends p e below QQ (T11.setTop (mkF m 14 #[.val (.ref o0), .val (.int p1)] [(.int (b &&& (255 : Int32)).toUInt32.toUInt16.toUInt32.toInt32)]))
  exact Ends.fin (some (.int (b &&& (255 : Int32)).toUInt32.toUInt16.toUInt32.toInt32)) X11 hQQ (fun h => by rw [Bd.returns] at h; cases h) Bd.notSynchronized (fun _ hr => retOut X11 hx (t := .char) Bd.returns (XT.narrow_c _) (Or.inl ⟨rfl, (by simp), _, rfl⟩) (hb hby d6_14) hr) hh11 (by decide) (by decide) ⟨(by rw [i2c_mask]), N11, rfl⟩
theorem d4_0 : decode jdk_42_method_56_code 0 = .ok (.aload_n 0, 1) := by decide +kernel
theorem d4_1 : decode jdk_42_method_56_code 1 = .ok (.invokevirtual 492, 3) := by decide +kernel
theorem d4_4 : decode jdk_42_method_56_code 4 = .ok (.ifCond .eq 12, 3) := by decide +kernel
theorem d4_7 : decode jdk_42_method_56_code 7 = .ok (.aload_n 0, 1) := by decide +kernel
theorem d4_8 : decode jdk_42_method_56_code 8 = .ok (.getfield 9, 3) := by decide +kernel
theorem d4_11 : decode jdk_42_method_56_code 11 = .ok (.iload_n 1, 1) := by decide +kernel
theorem d4_12 : decode jdk_42_method_56_code 12 = .ok (.invokestatic 495, 3) := by decide +kernel
theorem d4_15 : decode jdk_42_method_56_code 15 = .ok (.ireturn, 1) := by decide +kernel
theorem ef_cha (m : MethodId) (x0 : Addr) (x1 : Int32) : entryFrame m #[(.ref x0), (.int x1)] 2 = mkF m 0 #[.val (.ref x0), .val (.int x1)] [] := by first | (simp [entryFrame, mkF, argsToLocals, Value.category]; done) | rfl
def Qcha (Z : State) (o0 : Addr) (p1 : Int32) (t : Addr) (k : ClassId) (n : Int32) (vs : List Value) (b : Int32) (cs : Int32) (sf : Value) (h0 : Heap) (n0 : Nat) (v : Option Value) (h : Heap) (L : List Loc) : Prop := (v = some (.int (b &&& (255 : Int32)))) ∧ (Fr n0 L) ∧ (h = h0)
set_option maxRecDepth 65536 in
set_option maxHeartbeats 40000000 in
theorem rmcha (l : Launch) (Z : State) (a0 : Array Value) (hw : ∀ d ∈ tables_1, d.before a0 Z = true) (ws : List Jvm.Cond) (o0 : Addr) (p1 : Int32) (t : Addr) (k : ClassId) (n : Int32) (vs : List Value) (b : Int32) (cs : Int32) (sf : Value) (h0 : Heap) (n0 : Nat) (Z0 : n0 ≤ h0.size) (E_o0 : Exa Z h0 o0 "java/lang/String") (F_value_o0 : Fld Z h0 o0 "java/lang/String" "value" "[B" (.ref t)) (A_t : Arv Z h0 t k .byte n vs (.int (0 : Int32))) (S_COMPACT_STRINGS : Sta Z h0 "java/lang/String" "COMPACT_STRINGS" "Z" (.int cs)) (hcs : ¬ cs = (0 : Int32)) (F_coder_o0 : Fld Z h0 o0 "java/lang/String" "coder" "B" (.int (0 : Int32))) (S_SIOOBE_FORMATTER : Sta Z h0 "jdk/internal/util/Preconditions" "SIOOBE_FORMATTER" "Ljava/util/function/BiFunction;" sf) (hr_sf : sf.isRef = true) (h1 : ¬ p1 < (0 : Int32)) (h2 : p1 < n) (hbt : vs.getD p1.toNatClampNeg (.int (0 : Int32)) = .int b) :
    MetFree l (⟨"java/lang/String", "charAt", "(I)C"⟩ : MethodName) (head1 (Jvm.Cond.code (⟨"java/lang/String", "charAt", "(I)C"⟩ : MethodName) jdk_42_method_56_code 2 (some .char) :: ws) ({ frames := 3, cells := 0, slots := 0, locals := 40 } : Room)) (fun a U => a = #[(.ref o0), (.int p1)] ∧ Z.Warmed39 U.vm ∧ U.heap = h0) (fun _ _ _ _ _ => True) (fun _ U o U' => ∃ v L, o = .returned v ∧ Qcha Z o0 p1 t k n vs b cs sf h0 n0 v U'.heap L ∧ FrameEnd U o U' L ({ frames := 3, cells := 0, slots := 0, locals := 40 } : Room).cells ({ frames := 3, cells := 0, slots := 0, locals := 40 } : Room).slots) := by
  refine MetFree.of_bodySF (plainFor_of_name pn_0) hisR ?_
  intro p e s m args below meth c s₁ Bd hml0 hP hK
  obtain ⟨rfl, hZ, hh⟩ := hP
  have hx := Bd.exec
  have hby := Bd.bytes
  have hml : c.maxLocals = 2 := hml0
  have hown : s.vm.findClass "java/lang/String" = some m.cls := findClass_of_methodNamed Bd.named
  have hnm := (name_of_methodNamed Bd.named Bd.method).1
  have X0 : Stand p l e ({ frames := 3, cells := 0, slots := 0, locals := 40 } : Room) s m #[(.ref o0), (.int p1)] below meth c s₁ [] 0 0 := Stand.of_body Bd
  have e0 : s₁.heap = h0 := by rw [← hh, Bd.state]; rfl
  have N0 := Fr.nil n0
  refine Ends.opn ?_
  intro QQ hQQ
  refine Ends.step (S' := s₁.setTop (mkF m 0 #[.val (.ref o0), .val (.int p1)] [])) (fun t k => castTop (ef_cha m o0 p1) k) ?_
  show Ends p e below QQ (s₁.setTop (mkF m 0 #[.val (.ref o0), .val (.int p1)] []))
  refine Ends.step (fun _ k => XS.aloadN X0.here hx rfl (hb hby d4_0) rfl rfl k) ?_
  show Ends p e below QQ (s₁.setTop (mkF m 1 #[.val (.ref o0), .val (.int p1)] [(.ref o0)]))
  obtain ⟨cq13, kq13, q13a, q13b, q13c⟩ := isOf hZ e0 E_o0
  obtain ⟨_, _, ⟨T13, L13, k13, n13⟩, -, X13, ⟨Lc13, hQ13, l13, y13, z13⟩, st13⟩ := X0.virtualBack hx (y := (⟨"java/lang/String", "isLatin1", "()Z"⟩ : MethodName)) (z := (⟨"java/lang/String", "isLatin1", "()Z"⟩ : MethodName)) hown (mvT hZ (hw _ (List.mem_of_getElem? (i := 43) rfl))) (mvT hZ (hw _ (List.mem_of_getElem? (i := 44) rfl))) (notFace_of_selects (args := #[]) (mvT hZ (hw _ (List.mem_of_getElem? (i := 46) rfl)))) (mvT hZ (hw _ (List.mem_of_getElem? (i := 46) rfl))) (mvT hZ (hw _ (List.mem_of_getElem? (i := 45) rfl))) (by decide) (backOf (W := 0) (rmlat l Z a0 hw [] o0 cs h0 n0 (Nat.le_trans Z0 (Keep.refl h0 []).1) S_COMPACT_STRINGS hcs F_coder_o0) hZ (hw _ (List.mem_of_getElem? (i := 47) rfl)) (hw _ (List.mem_of_getElem? (i := 26) rfl)) (by decide) (by decide)) q13a q13c (g := (mkF m 1 #[.val (.ref o0), .val (.int p1)] [(.ref o0)])) rfl (by rw [hml]; rfl) (Steps.refl _) (argsL := []) (rest := []) (lenOf pd_3 rfl) rfl (by show 2 * 0 + _ ≤ _; exact Nat.le_of_eq rfl) (hb hby d4_1) (fun _ _ => ⟨rfl, e0, (by decide : 0 + 0 ≤ _), (by decide : 0 + 0 ≤ _)⟩)
  dsimp only [Pt.U, Pt.locs, Pt.cells, Pt.slots] at X13 l13 y13 z13 st13 hQ13
  subst l13 y13 z13
  obtain ⟨rfl, Nq13, hh13⟩ := hQ13
  have N13 := Fr.app N0 Nq13
  refine Ends.step (fun _ k => st13.trans k) ?_
  show Ends p e below QQ (T13.setTop (mkF m 4 #[.val (.ref o0), .val (.int p1)] [(.int (1 : Int32))]))
  refine Ends.step (fun _ k => XS.ifNo X13.here hx rfl (hb hby d4_4) rfl (XT.i0_eq_f (by decide)) k) ?_
  show Ends p e below QQ (T13.setTop (mkF m 7 #[.val (.ref o0), .val (.int p1)] []))
  refine Ends.step (fun _ k => XS.aloadN X13.here hx rfl (hb hby d4_7) rfl rfl k) ?_
  show Ends p e below QQ (T13.setTop (mkF m 8 #[.val (.ref o0), .val (.int p1)] [(.ref o0)]))
  obtain ⟨T14, X14, e14, st14⟩ := getF X13 hx hZ hown (host := "") (Or.inl (hw _ (List.mem_of_getElem? (i := 28) rfl))) Via.refl hh13 F_value_o0 (g := (mkF m 8 #[.val (.ref o0), .val (.int p1)] [(.ref o0)])) rfl rfl (hb hby d4_8)
  refine Ends.step st14 ?_
  show Ends p e below QQ (T14.setTop (mkF m 11 #[.val (.ref o0), .val (.int p1)] [(.ref t)]))
  refine Ends.step (fun _ k => XS.iloadN X14.here hx rfl (hb hby d4_11) rfl k) ?_
  show Ends p e below QQ (T14.setTop (mkF m 12 #[.val (.ref o0), .val (.int p1)] [(.int p1), (.ref t)]))
  obtain ⟨_, _, ⟨T15, L15, k15, n15⟩, -, X15, ⟨Lc15, hQ15, l15, y15, z15⟩, st15⟩ := Jvm.LawKit.callS X14 hx (y := (⟨"java/lang/StringLatin1", "charAt", "([BI)C"⟩ : MethodName)) hown (mvT hZ (hw _ (List.mem_of_getElem? (i := 48) rfl))) (mvT hZ (hw _ (List.mem_of_getElem? (i := 49) rfl))) (mvT hZ (hw _ (List.mem_of_getElem? (i := 50) rfl))) (mvT hZ (hw _ (List.mem_of_getElem? (i := 51) rfl))) (by decide) (backOf (W := 0) (rmlca l Z a0 hw [] t p1 k n vs b sf h0 n0 (Nat.le_trans Z0 (Keep.refl h0 []).1) A_t S_SIOOBE_FORMATTER hr_sf h1 h2 hbt) hZ (hw _ (List.mem_of_getElem? (i := 51) rfl)) (hw _ (List.mem_of_getElem? (i := 50) rfl)) (by decide) (by decide)) (g := (mkF m 12 #[.val (.ref o0), .val (.int p1)] [(.int p1), (.ref t)])) rfl (by rw [hml]; rfl) (argsL := [(.ref t), (.int p1)]) (rest := []) (lenOf pd_4 rfl) rfl (by show 2 * 0 + _ ≤ _; exact Nat.le_of_eq rfl) (hb hby d4_12) (fun _ _ => ⟨rfl, e14, (by decide : 0 + 0 ≤ _), (by decide : 0 + 0 ≤ _)⟩)
  dsimp only [Pt.U, Pt.locs, Pt.cells, Pt.slots] at X15 l15 y15 z15 st15 hQ15
  subst l15 y15 z15
  obtain ⟨rfl, Nq15, hh15⟩ := hQ15
  have N15 := Fr.app N13 Nq15
  refine Ends.step st15 ?_
  show Ends p e below QQ (T15.setTop (mkF m 15 #[.val (.ref o0), .val (.int p1)] [(.int (b &&& (255 : Int32)))]))
  exact Ends.fin (some (.int (b &&& (255 : Int32)))) X15 hQQ (fun h => by rw [Bd.returns] at h; cases h) Bd.notSynchronized (fun _ hr => retOut X15 hx (t := .char) Bd.returns (own_nar255 b) (Or.inl ⟨rfl, (by simp), _, rfl⟩) (hb hby d4_15) hr) hh15 (by decide) (by decide) ⟨rfl, N15, rfl⟩
theorem d1_0 : decode prog_16_method_4_code 0 = .ok (.aload_n 0, 1) := by decide +kernel
theorem d1_1 : decode prog_16_method_4_code 1 = .ok (.getfield 38, 3) := by decide +kernel
theorem d1_4 : decode prog_16_method_4_code 4 = .ok (.areturn, 1) := by decide +kernel
theorem ef_1 (m : MethodId) (x0 : Addr) : entryFrame m #[(.ref x0)] 1 = mkF m 0 #[.val (.ref x0)] [] := by first | (simp [entryFrame, mkF, argsToLocals, Value.category]; done) | rfl
def Q1 (Z : State) (o0 : Addr) (w : Addr) (h0 : Heap) (n0 : Nat) (v : Option Value) (h : Heap) (L : List Loc) : Prop := (v = some (.ref w)) ∧ (Fr n0 L) ∧ (h = h0)
set_option maxRecDepth 65536 in
set_option maxHeartbeats 40000000 in
theorem rm1 (l : Launch) (Z : State) (a0 : Array Value) (hw : ∀ d ∈ tables_1, d.before a0 Z = true) (ws : List Jvm.Cond) (o0 : Addr) (w : Addr) (h0 : Heap) (n0 : Nat) (Z0 : n0 ≤ h0.size) (F_symbol_o0 : Fld Z h0 o0 "com/example/nuntius/nuntius/cql/Relation$Operator" "symbol" "Ljava/lang/String;" (.ref w)) :
    MetFree l (⟨"com/example/nuntius/nuntius/cql/Relation$Operator", "symbol", "()Ljava/lang/String;"⟩ : MethodName) (head1 (Jvm.Cond.code (⟨"com/example/nuntius/nuntius/cql/Relation$Operator", "symbol", "()Ljava/lang/String;"⟩ : MethodName) prog_16_method_4_code 1 (some (.object "java/lang/String")) :: ws) ({ frames := 0, cells := 0, slots := 0, locals := 0 } : Room)) (fun a U => a = #[(.ref o0)] ∧ Z.Warmed39 U.vm ∧ U.heap = h0) (fun _ _ _ _ _ => True) (fun _ U o U' => ∃ v L, o = .returned v ∧ Q1 Z o0 w h0 n0 v U'.heap L ∧ FrameEnd U o U' L ({ frames := 0, cells := 0, slots := 0, locals := 0 } : Room).cells ({ frames := 0, cells := 0, slots := 0, locals := 0 } : Room).slots) := by
  refine MetFree.of_bodySF (plainFor_of_name pn_3) hisR ?_
  intro p e s m args below meth c s₁ Bd hml0 hP hK
  obtain ⟨rfl, hZ, hh⟩ := hP
  have hx := Bd.exec
  have hby := Bd.bytes
  have hml : c.maxLocals = 1 := hml0
  have hown : s.vm.findClass "com/example/nuntius/nuntius/cql/Relation$Operator" = some m.cls := findClass_of_methodNamed Bd.named
  have hnm := (name_of_methodNamed Bd.named Bd.method).1
  have X0 : Stand p l e ({ frames := 0, cells := 0, slots := 0, locals := 0 } : Room) s m #[(.ref o0)] below meth c s₁ [] 0 0 := Stand.of_body Bd
  have e0 : s₁.heap = h0 := by rw [← hh, Bd.state]; rfl
  have N0 := Fr.nil n0
  refine Ends.opn ?_
  intro QQ hQQ
  refine Ends.step (S' := s₁.setTop (mkF m 0 #[.val (.ref o0)] [])) (fun t k => castTop (ef_1 m o0) k) ?_
  show Ends p e below QQ (s₁.setTop (mkF m 0 #[.val (.ref o0)] []))
  refine Ends.step (fun _ k => XS.aloadN X0.here hx rfl (hb hby d1_0) rfl rfl k) ?_
  show Ends p e below QQ (s₁.setTop (mkF m 1 #[.val (.ref o0)] [(.ref o0)]))
  obtain ⟨T16, X16, e16, st16⟩ := getF X0 hx hZ hown (host := "") (Or.inl (hw _ (List.mem_of_getElem? (i := 20) rfl))) Via.refl e0 F_symbol_o0 (g := (mkF m 1 #[.val (.ref o0)] [(.ref o0)])) rfl rfl (hb hby d1_1)
  refine Ends.step st16 ?_
  show Ends p e below QQ (T16.setTop (mkF m 4 #[.val (.ref o0)] [(.ref w)]))
  exact Ends.fin (some (.ref w)) X16 hQQ (fun h => by rw [Bd.returns] at h; cases h) Bd.notSynchronized (fun _ hr => retOut X16 hx (t := (.object "java/lang/String")) Bd.returns rfl (Or.inr (Or.inr (Or.inr (Or.inr ⟨rfl, rfl, rfl⟩)))) (hb hby d1_4) hr) e16 (by decide) (by decide) ⟨rfl, N0, rfl⟩
theorem d9_0 : decode prog_16_method_5_code 0 = .ok (.aload_n 0, 1) := by decide +kernel
theorem d9_1 : decode prog_16_method_5_code 1 = .ok (.getstatic 13, 3) := by decide +kernel
theorem d9_4 : decode prog_16_method_5_code 4 = .ok (.if_acmp .eq 10, 3) := by decide +kernel
theorem d9_14 : decode prog_16_method_5_code 14 = .ok (.iconst 1, 1) := by decide +kernel
theorem d9_15 : decode prog_16_method_5_code 15 = .ok (.goto 4, 3) := by decide +kernel
theorem d9_19 : decode prog_16_method_5_code 19 = .ok (.ireturn, 1) := by decide +kernel
theorem ef_9g (m : MethodId) (x0 : Addr) : entryFrame m #[(.ref x0)] 1 = mkF m 0 #[.val (.ref x0)] [] := by first | (simp [entryFrame, mkF, argsToLocals, Value.category]; done) | rfl
def Q9g (Z : State) (a_GT : Addr) (h0 : Heap) (n0 : Nat) (v : Option Value) (h : Heap) (L : List Loc) : Prop := (v = some (.int (1 : Int32))) ∧ (Fr n0 L) ∧ (h = h0)
set_option maxRecDepth 65536 in
set_option maxHeartbeats 40000000 in
theorem rm9g (l : Launch) (Z : State) (a0 : Array Value) (hw : ∀ d ∈ tables_1, d.before a0 Z = true) (ws : List Jvm.Cond) (a_GT : Addr) (h0 : Heap) (n0 : Nat) (Z0 : n0 ≤ h0.size) (S_GT : Sta Z h0 "com/example/nuntius/nuntius/cql/Relation$Operator" "GT" "Lcom/example/nuntius/nuntius/cql/Relation$Operator;" (.ref a_GT)) :
    MetFree l (⟨"com/example/nuntius/nuntius/cql/Relation$Operator", "isLowerBound", "()Z"⟩ : MethodName) (head1 (Jvm.Cond.code (⟨"com/example/nuntius/nuntius/cql/Relation$Operator", "isLowerBound", "()Z"⟩ : MethodName) prog_16_method_5_code 1 (some .boolean) :: ws) ({ frames := 0, cells := 0, slots := 0, locals := 0 } : Room)) (fun a U => a = #[(.ref a_GT)] ∧ Z.Warmed39 U.vm ∧ U.heap = h0) (fun _ _ _ _ _ => True) (fun _ U o U' => ∃ v L, o = .returned v ∧ Q9g Z a_GT h0 n0 v U'.heap L ∧ FrameEnd U o U' L ({ frames := 0, cells := 0, slots := 0, locals := 0 } : Room).cells ({ frames := 0, cells := 0, slots := 0, locals := 0 } : Room).slots) := by
  refine MetFree.of_bodySF (plainFor_of_name pn_3) hisR ?_
  intro p e s m args below meth c s₁ Bd hml0 hP hK
  obtain ⟨rfl, hZ, hh⟩ := hP
  have hx := Bd.exec
  have hby := Bd.bytes
  have hml : c.maxLocals = 1 := hml0
  have hown : s.vm.findClass "com/example/nuntius/nuntius/cql/Relation$Operator" = some m.cls := findClass_of_methodNamed Bd.named
  have hnm := (name_of_methodNamed Bd.named Bd.method).1
  have X0 : Stand p l e ({ frames := 0, cells := 0, slots := 0, locals := 0 } : Room) s m #[(.ref a_GT)] below meth c s₁ [] 0 0 := Stand.of_body Bd
  have e0 : s₁.heap = h0 := by rw [← hh, Bd.state]; rfl
  have N0 := Fr.nil n0
  refine Ends.opn ?_
  intro QQ hQQ
  refine Ends.step (S' := s₁.setTop (mkF m 0 #[.val (.ref a_GT)] [])) (fun t k => castTop (ef_9g m a_GT) k) ?_
  show Ends p e below QQ (s₁.setTop (mkF m 0 #[.val (.ref a_GT)] []))
  refine Ends.step (fun _ k => XS.aloadN X0.here hx rfl (hb hby d9_0) rfl rfl k) ?_
  show Ends p e below QQ (s₁.setTop (mkF m 1 #[.val (.ref a_GT)] [(.ref a_GT)]))
  obtain ⟨T17, X17, e17, st17⟩ := getS2 X0 hx hZ hown (host := "") (Or.inl (hw _ (List.mem_of_getElem? (i := 65) rfl))) Via.refl e0 S_GT (g := (mkF m 1 #[.val (.ref a_GT)] [(.ref a_GT)])) rfl (hb hby d9_1)
  refine Ends.step st17 ?_
  show Ends p e below QQ (T17.setTop (mkF m 4 #[.val (.ref a_GT)] [(.ref a_GT), (.ref a_GT)]))
  refine Ends.step (fun _ k => Jvm.RoadKit.acmp (g := (mkF m 4 #[.val (.ref a_GT)] [(.ref a_GT), (.ref a_GT)])) X17 hx rfl rfl rfl (pc0 := 4) (pc' := 14) (same := true) rfl (hb hby d9_4) rfl (decide_eq_true rfl) (by decide) (by decide) k) ?_
  show Ends p e below QQ (T17.setTop (mkF m 14 #[.val (.ref a_GT)] []))
  refine Ends.step (fun _ k => XT.iconstV X17.here hx rfl (1 : Int32) (hb hby d9_14) rfl k) ?_
  show Ends p e below QQ (T17.setTop (mkF m 15 #[.val (.ref a_GT)] [(.int (1 : Int32))]))
  refine Ends.step (fun _ k => XS.goto X17.here hx rfl (pc0 := 15) (pc' := 19) rfl (hb hby d9_15) (by decide) (by decide) k) ?_
  show Ends p e below QQ (T17.setTop (mkF m 19 #[.val (.ref a_GT)] [(.int (1 : Int32))]))
  exact Ends.fin (some (.int (1 : Int32))) X17 hQQ (fun h => by rw [Bd.returns] at h; cases h) Bd.notSynchronized (fun _ hr => retOut X17 hx (t := .boolean) Bd.returns rfl (Or.inl ⟨rfl, (by simp), _, rfl⟩) (hb hby d9_19) hr) e17 (by decide) (by decide) ⟨rfl, N0, rfl⟩
theorem d9_7 : decode prog_16_method_5_code 7 = .ok (.aload_n 0, 1) := by decide +kernel
theorem d9_8 : decode prog_16_method_5_code 8 = .ok (.getstatic 16, 3) := by decide +kernel
theorem d9_11 : decode prog_16_method_5_code 11 = .ok (.if_acmp .ne 7, 3) := by decide +kernel
theorem ef_9h (m : MethodId) (x0 : Addr) : entryFrame m #[(.ref x0)] 1 = mkF m 0 #[.val (.ref x0)] [] := by first | (simp [entryFrame, mkF, argsToLocals, Value.category]; done) | rfl
def Q9h (Z : State) (a_GTE : Addr) (a_GT : Addr) (h0 : Heap) (n0 : Nat) (v : Option Value) (h : Heap) (L : List Loc) : Prop := (v = some (.int (1 : Int32))) ∧ (Fr n0 L) ∧ (h = h0)
set_option maxRecDepth 65536 in
set_option maxHeartbeats 40000000 in
theorem rm9h (l : Launch) (Z : State) (a0 : Array Value) (hw : ∀ d ∈ tables_1, d.before a0 Z = true) (ws : List Jvm.Cond) (a_GTE : Addr) (a_GT : Addr) (h0 : Heap) (n0 : Nat) (Z0 : n0 ≤ h0.size) (S_GT : Sta Z h0 "com/example/nuntius/nuntius/cql/Relation$Operator" "GT" "Lcom/example/nuntius/nuntius/cql/Relation$Operator;" (.ref a_GT)) (S_GTE : Sta Z h0 "com/example/nuntius/nuntius/cql/Relation$Operator" "GTE" "Lcom/example/nuntius/nuntius/cql/Relation$Operator;" (.ref a_GTE)) (ne_a_GTE_a_GT : a_GTE ≠ a_GT) :
    MetFree l (⟨"com/example/nuntius/nuntius/cql/Relation$Operator", "isLowerBound", "()Z"⟩ : MethodName) (head1 (Jvm.Cond.code (⟨"com/example/nuntius/nuntius/cql/Relation$Operator", "isLowerBound", "()Z"⟩ : MethodName) prog_16_method_5_code 1 (some .boolean) :: ws) ({ frames := 0, cells := 0, slots := 0, locals := 0 } : Room)) (fun a U => a = #[(.ref a_GTE)] ∧ Z.Warmed39 U.vm ∧ U.heap = h0) (fun _ _ _ _ _ => True) (fun _ U o U' => ∃ v L, o = .returned v ∧ Q9h Z a_GTE a_GT h0 n0 v U'.heap L ∧ FrameEnd U o U' L ({ frames := 0, cells := 0, slots := 0, locals := 0 } : Room).cells ({ frames := 0, cells := 0, slots := 0, locals := 0 } : Room).slots) := by
  refine MetFree.of_bodySF (plainFor_of_name pn_3) hisR ?_
  intro p e s m args below meth c s₁ Bd hml0 hP hK
  obtain ⟨rfl, hZ, hh⟩ := hP
  have hx := Bd.exec
  have hby := Bd.bytes
  have hml : c.maxLocals = 1 := hml0
  have hown : s.vm.findClass "com/example/nuntius/nuntius/cql/Relation$Operator" = some m.cls := findClass_of_methodNamed Bd.named
  have hnm := (name_of_methodNamed Bd.named Bd.method).1
  have X0 : Stand p l e ({ frames := 0, cells := 0, slots := 0, locals := 0 } : Room) s m #[(.ref a_GTE)] below meth c s₁ [] 0 0 := Stand.of_body Bd
  have e0 : s₁.heap = h0 := by rw [← hh, Bd.state]; rfl
  have N0 := Fr.nil n0
  refine Ends.opn ?_
  intro QQ hQQ
  refine Ends.step (S' := s₁.setTop (mkF m 0 #[.val (.ref a_GTE)] [])) (fun t k => castTop (ef_9h m a_GTE) k) ?_
  show Ends p e below QQ (s₁.setTop (mkF m 0 #[.val (.ref a_GTE)] []))
  refine Ends.step (fun _ k => XS.aloadN X0.here hx rfl (hb hby d9_0) rfl rfl k) ?_
  show Ends p e below QQ (s₁.setTop (mkF m 1 #[.val (.ref a_GTE)] [(.ref a_GTE)]))
  obtain ⟨T18, X18, e18, st18⟩ := getS2 X0 hx hZ hown (host := "") (Or.inl (hw _ (List.mem_of_getElem? (i := 65) rfl))) Via.refl e0 S_GT (g := (mkF m 1 #[.val (.ref a_GTE)] [(.ref a_GTE)])) rfl (hb hby d9_1)
  refine Ends.step st18 ?_
  show Ends p e below QQ (T18.setTop (mkF m 4 #[.val (.ref a_GTE)] [(.ref a_GT), (.ref a_GTE)]))
  refine Ends.step (fun _ k => Jvm.RoadKit.acmp (g := (mkF m 4 #[.val (.ref a_GTE)] [(.ref a_GT), (.ref a_GTE)])) X18 hx rfl rfl rfl (pc0 := 4) (pc' := 7) (same := false) rfl (hb hby d9_4) rfl (decide_eq_false fun q => ne_a_GTE_a_GT (Value.ref.inj q)) (by decide) (by decide) k) ?_
  show Ends p e below QQ (T18.setTop (mkF m 7 #[.val (.ref a_GTE)] []))
  refine Ends.step (fun _ k => XS.aloadN X18.here hx rfl (hb hby d9_7) rfl rfl k) ?_
  show Ends p e below QQ (T18.setTop (mkF m 8 #[.val (.ref a_GTE)] [(.ref a_GTE)]))
  obtain ⟨T19, X19, e19, st19⟩ := getS2 X18 hx hZ hown (host := "") (Or.inl (hw _ (List.mem_of_getElem? (i := 66) rfl))) Via.refl e18 S_GTE (g := (mkF m 8 #[.val (.ref a_GTE)] [(.ref a_GTE)])) rfl (hb hby d9_8)
  refine Ends.step st19 ?_
  show Ends p e below QQ (T19.setTop (mkF m 11 #[.val (.ref a_GTE)] [(.ref a_GTE), (.ref a_GTE)]))
  refine Ends.step (fun _ k => Jvm.RoadKit.acmp (g := (mkF m 11 #[.val (.ref a_GTE)] [(.ref a_GTE), (.ref a_GTE)])) X19 hx rfl rfl rfl (pc0 := 11) (pc' := 14) (same := true) rfl (hb hby d9_11) rfl (decide_eq_true rfl) (by decide) (by decide) k) ?_
  show Ends p e below QQ (T19.setTop (mkF m 14 #[.val (.ref a_GTE)] []))
  refine Ends.step (fun _ k => XT.iconstV X19.here hx rfl (1 : Int32) (hb hby d9_14) rfl k) ?_
  show Ends p e below QQ (T19.setTop (mkF m 15 #[.val (.ref a_GTE)] [(.int (1 : Int32))]))
  refine Ends.step (fun _ k => XS.goto X19.here hx rfl (pc0 := 15) (pc' := 19) rfl (hb hby d9_15) (by decide) (by decide) k) ?_
  show Ends p e below QQ (T19.setTop (mkF m 19 #[.val (.ref a_GTE)] [(.int (1 : Int32))]))
  exact Ends.fin (some (.int (1 : Int32))) X19 hQQ (fun h => by rw [Bd.returns] at h; cases h) Bd.notSynchronized (fun _ hr => retOut X19 hx (t := .boolean) Bd.returns rfl (Or.inl ⟨rfl, (by simp), _, rfl⟩) (hb hby d9_19) hr) e19 (by decide) (by decide) ⟨rfl, N0, rfl⟩
theorem d9_18 : decode prog_16_method_5_code 18 = .ok (.iconst 0, 1) := by decide +kernel
theorem ef_9n (m : MethodId) (x0 : Addr) : entryFrame m #[(.ref x0)] 1 = mkF m 0 #[.val (.ref x0)] [] := by first | (simp [entryFrame, mkF, argsToLocals, Value.category]; done) | rfl
def Q9n (Z : State) (o0 : Addr) (a_GT : Addr) (a_GTE : Addr) (h0 : Heap) (n0 : Nat) (v : Option Value) (h : Heap) (L : List Loc) : Prop := (v = some (.int (0 : Int32))) ∧ (Fr n0 L) ∧ (h = h0)
set_option maxRecDepth 65536 in
set_option maxHeartbeats 40000000 in
theorem rm9n (l : Launch) (Z : State) (a0 : Array Value) (hw : ∀ d ∈ tables_1, d.before a0 Z = true) (ws : List Jvm.Cond) (o0 : Addr) (a_GT : Addr) (a_GTE : Addr) (h0 : Heap) (n0 : Nat) (Z0 : n0 ≤ h0.size) (S_GT : Sta Z h0 "com/example/nuntius/nuntius/cql/Relation$Operator" "GT" "Lcom/example/nuntius/nuntius/cql/Relation$Operator;" (.ref a_GT)) (S_GTE : Sta Z h0 "com/example/nuntius/nuntius/cql/Relation$Operator" "GTE" "Lcom/example/nuntius/nuntius/cql/Relation$Operator;" (.ref a_GTE)) (ne_o0_a_GT : o0 ≠ a_GT) (ne_o0_a_GTE : o0 ≠ a_GTE) :
    MetFree l (⟨"com/example/nuntius/nuntius/cql/Relation$Operator", "isLowerBound", "()Z"⟩ : MethodName) (head1 (Jvm.Cond.code (⟨"com/example/nuntius/nuntius/cql/Relation$Operator", "isLowerBound", "()Z"⟩ : MethodName) prog_16_method_5_code 1 (some .boolean) :: ws) ({ frames := 0, cells := 0, slots := 0, locals := 0 } : Room)) (fun a U => a = #[(.ref o0)] ∧ Z.Warmed39 U.vm ∧ U.heap = h0) (fun _ _ _ _ _ => True) (fun _ U o U' => ∃ v L, o = .returned v ∧ Q9n Z o0 a_GT a_GTE h0 n0 v U'.heap L ∧ FrameEnd U o U' L ({ frames := 0, cells := 0, slots := 0, locals := 0 } : Room).cells ({ frames := 0, cells := 0, slots := 0, locals := 0 } : Room).slots) := by
  refine MetFree.of_bodySF (plainFor_of_name pn_3) hisR ?_
  intro p e s m args below meth c s₁ Bd hml0 hP hK
  obtain ⟨rfl, hZ, hh⟩ := hP
  have hx := Bd.exec
  have hby := Bd.bytes
  have hml : c.maxLocals = 1 := hml0
  have hown : s.vm.findClass "com/example/nuntius/nuntius/cql/Relation$Operator" = some m.cls := findClass_of_methodNamed Bd.named
  have hnm := (name_of_methodNamed Bd.named Bd.method).1
  have X0 : Stand p l e ({ frames := 0, cells := 0, slots := 0, locals := 0 } : Room) s m #[(.ref o0)] below meth c s₁ [] 0 0 := Stand.of_body Bd
  have e0 : s₁.heap = h0 := by rw [← hh, Bd.state]; rfl
  have N0 := Fr.nil n0
  refine Ends.opn ?_
  intro QQ hQQ
  refine Ends.step (S' := s₁.setTop (mkF m 0 #[.val (.ref o0)] [])) (fun t k => castTop (ef_9n m o0) k) ?_
  show Ends p e below QQ (s₁.setTop (mkF m 0 #[.val (.ref o0)] []))
  refine Ends.step (fun _ k => XS.aloadN X0.here hx rfl (hb hby d9_0) rfl rfl k) ?_
  show Ends p e below QQ (s₁.setTop (mkF m 1 #[.val (.ref o0)] [(.ref o0)]))
  obtain ⟨T20, X20, e20, st20⟩ := getS2 X0 hx hZ hown (host := "") (Or.inl (hw _ (List.mem_of_getElem? (i := 65) rfl))) Via.refl e0 S_GT (g := (mkF m 1 #[.val (.ref o0)] [(.ref o0)])) rfl (hb hby d9_1)
  refine Ends.step st20 ?_
  show Ends p e below QQ (T20.setTop (mkF m 4 #[.val (.ref o0)] [(.ref a_GT), (.ref o0)]))
  refine Ends.step (fun _ k => Jvm.RoadKit.acmp (g := (mkF m 4 #[.val (.ref o0)] [(.ref a_GT), (.ref o0)])) X20 hx rfl rfl rfl (pc0 := 4) (pc' := 7) (same := false) rfl (hb hby d9_4) rfl (decide_eq_false fun q => ne_o0_a_GT (Value.ref.inj q)) (by decide) (by decide) k) ?_
  show Ends p e below QQ (T20.setTop (mkF m 7 #[.val (.ref o0)] []))
  refine Ends.step (fun _ k => XS.aloadN X20.here hx rfl (hb hby d9_7) rfl rfl k) ?_
  show Ends p e below QQ (T20.setTop (mkF m 8 #[.val (.ref o0)] [(.ref o0)]))
  obtain ⟨T21, X21, e21, st21⟩ := getS2 X20 hx hZ hown (host := "") (Or.inl (hw _ (List.mem_of_getElem? (i := 66) rfl))) Via.refl e20 S_GTE (g := (mkF m 8 #[.val (.ref o0)] [(.ref o0)])) rfl (hb hby d9_8)
  refine Ends.step st21 ?_
  show Ends p e below QQ (T21.setTop (mkF m 11 #[.val (.ref o0)] [(.ref a_GTE), (.ref o0)]))
  refine Ends.step (fun _ k => Jvm.RoadKit.acmp (g := (mkF m 11 #[.val (.ref o0)] [(.ref a_GTE), (.ref o0)])) X21 hx rfl rfl rfl (pc0 := 11) (pc' := 18) (same := false) rfl (hb hby d9_11) rfl (decide_eq_false fun q => ne_o0_a_GTE (Value.ref.inj q)) (by decide) (by decide) k) ?_
  show Ends p e below QQ (T21.setTop (mkF m 18 #[.val (.ref o0)] []))
  refine Ends.step (fun _ k => XT.iconstV X21.here hx rfl (0 : Int32) (hb hby d9_18) rfl k) ?_
  show Ends p e below QQ (T21.setTop (mkF m 19 #[.val (.ref o0)] [(.int (0 : Int32))]))
  exact Ends.fin (some (.int (0 : Int32))) X21 hQQ (fun h => by rw [Bd.returns] at h; cases h) Bd.notSynchronized (fun _ hr => retOut X21 hx (t := .boolean) Bd.returns rfl (Or.inl ⟨rfl, (by simp), _, rfl⟩) (hb hby d9_19) hr) e21 (by decide) (by decide) ⟨rfl, N0, rfl⟩
theorem ef_0 (m : MethodId) (x0 : Int32) : entryFrame m #[(.int x0)] maxLocals = mkF m 0 #[.val (.int x0), .unset, .unset, .unset, .unset, .unset] [] := by first | (simp [entryFrame, mkF, argsToLocals, Value.category, maxLocals]; done) | rfl
def f0_x2_1 (p0 : Int32) : Int32 := ((p0 &&& (2147483647 : Int32)) % (5 : Int32))
def f0_v76_2 (p0 : Int32) : Int32 := (if ((61 : Int32) &&& (255 : Int32)) = (62 : Int32) then (1 : Int32) else (0 : Int32))
def f0_v92_3 (p0 : Int32) : Int32 := (if (0 : Int32) = (f0_v76_2 p0) then (1 : Int32) else (0 : Int32))
def f0_v76_4 (p0 : Int32) : Int32 := (if ((60 : Int32) &&& (255 : Int32)) = (62 : Int32) then (1 : Int32) else (0 : Int32))
def f0_v92_5 (p0 : Int32) : Int32 := (if (0 : Int32) = (f0_v76_4 p0) then (1 : Int32) else (0 : Int32))
def f0_v76_6 (p0 : Int32) : Int32 := (if ((60 : Int32) &&& (255 : Int32)) = (62 : Int32) then (1 : Int32) else (0 : Int32))
def f0_v92_7 (p0 : Int32) : Int32 := (if (0 : Int32) = (f0_v76_6 p0) then (1 : Int32) else (0 : Int32))
def f0_v76_8 (p0 : Int32) : Int32 := (if ((62 : Int32) &&& (255 : Int32)) = (62 : Int32) then (1 : Int32) else (0 : Int32))
def f0_v92_9 (p0 : Int32) : Int32 := (if (1 : Int32) = (f0_v76_8 p0) then (1 : Int32) else (0 : Int32))
def f0_v76_10 (p0 : Int32) : Int32 := (if ((62 : Int32) &&& (255 : Int32)) = (62 : Int32) then (1 : Int32) else (0 : Int32))
def f0_v92_11 (p0 : Int32) : Int32 := (if (1 : Int32) = (f0_v76_10 p0) then (1 : Int32) else (0 : Int32))
def f0 (p0 : Int32) : Int32 := (if (f0_x2_1 p0) = (0 : Int32) then (f0_v92_3 p0) else (if (f0_x2_1 p0) = (1 : Int32) then (f0_v92_5 p0) else (if (f0_x2_1 p0) = (2 : Int32) then (f0_v92_7 p0) else (if (f0_x2_1 p0) = (3 : Int32) then (f0_v92_9 p0) else (f0_v92_11 p0)))))
def Q0 (Z : State) (p0 : Int32) (a_EQ : Addr) (a_LT : Addr) (a_LTE : Addr) (a_GT : Addr) (a_GTE : Addr) (a_EQ_symbol : Addr) (a_EQ_symbol_value : Addr) (a_GT_symbol : Addr) (a_GT_symbol_value : Addr) (a_LT_symbol : Addr) (a_LT_symbol_value : Addr) (a_GTE_symbol : Addr) (a_GTE_symbol_value : Addr) (a_LTE_symbol : Addr) (a_LTE_symbol_value : Addr) (k_a_EQ_symbol_value : ClassId) (k_a_GT_symbol_value : ClassId) (k_a_LT_symbol_value : ClassId) (k_a_GTE_symbol_value : ClassId) (k_a_LTE_symbol_value : ClassId) (cs : Int32) (sf : Value) (h0 : Heap) (n0 : Nat) (v : Option Value) (h : Heap) (L : List Loc) : Prop := (v = some (.int (f0 p0))) ∧ (Fr n0 L) ∧ (Keep h0 h [])
set_option maxRecDepth 65536 in
set_option maxHeartbeats 40000000 in
theorem rm0 (l : Launch) (Z : State) (a0 : Array Value) (hw : ∀ d ∈ tables_1, d.before a0 Z = true) (ws : List Jvm.Cond) (p0 : Int32) (a_EQ : Addr) (a_LT : Addr) (a_LTE : Addr) (a_GT : Addr) (a_GTE : Addr) (a_EQ_symbol : Addr) (a_EQ_symbol_value : Addr) (a_GT_symbol : Addr) (a_GT_symbol_value : Addr) (a_LT_symbol : Addr) (a_LT_symbol_value : Addr) (a_GTE_symbol : Addr) (a_GTE_symbol_value : Addr) (a_LTE_symbol : Addr) (a_LTE_symbol_value : Addr) (k_a_EQ_symbol_value : ClassId) (k_a_GT_symbol_value : ClassId) (k_a_LT_symbol_value : ClassId) (k_a_GTE_symbol_value : ClassId) (k_a_LTE_symbol_value : ClassId) (cs : Int32) (sf : Value) (h0 : Heap) (n0 : Nat) (Z0 : n0 ≤ h0.size) (E_a_EQ : Exa Z h0 a_EQ "com/example/nuntius/nuntius/cql/Relation$Operator") (E_a_LT : Exa Z h0 a_LT "com/example/nuntius/nuntius/cql/Relation$Operator") (E_a_LTE : Exa Z h0 a_LTE "com/example/nuntius/nuntius/cql/Relation$Operator") (E_a_GT : Exa Z h0 a_GT "com/example/nuntius/nuntius/cql/Relation$Operator") (E_a_GTE : Exa Z h0 a_GTE "com/example/nuntius/nuntius/cql/Relation$Operator") (F_symbol_a_EQ : Fld Z h0 a_EQ "com/example/nuntius/nuntius/cql/Relation$Operator" "symbol" "Ljava/lang/String;" (.ref a_EQ_symbol)) (E_a_EQ_symbol : Exa Z h0 a_EQ_symbol "java/lang/String") (F_value_a_EQ_symbol : Fld Z h0 a_EQ_symbol "java/lang/String" "value" "[B" (.ref a_EQ_symbol_value)) (F_symbol_a_GT : Fld Z h0 a_GT "com/example/nuntius/nuntius/cql/Relation$Operator" "symbol" "Ljava/lang/String;" (.ref a_GT_symbol)) (E_a_GT_symbol : Exa Z h0 a_GT_symbol "java/lang/String") (F_value_a_GT_symbol : Fld Z h0 a_GT_symbol "java/lang/String" "value" "[B" (.ref a_GT_symbol_value)) (F_symbol_a_LT : Fld Z h0 a_LT "com/example/nuntius/nuntius/cql/Relation$Operator" "symbol" "Ljava/lang/String;" (.ref a_LT_symbol)) (E_a_LT_symbol : Exa Z h0 a_LT_symbol "java/lang/String") (F_value_a_LT_symbol : Fld Z h0 a_LT_symbol "java/lang/String" "value" "[B" (.ref a_LT_symbol_value)) (F_symbol_a_GTE : Fld Z h0 a_GTE "com/example/nuntius/nuntius/cql/Relation$Operator" "symbol" "Ljava/lang/String;" (.ref a_GTE_symbol)) (E_a_GTE_symbol : Exa Z h0 a_GTE_symbol "java/lang/String") (F_value_a_GTE_symbol : Fld Z h0 a_GTE_symbol "java/lang/String" "value" "[B" (.ref a_GTE_symbol_value)) (F_symbol_a_LTE : Fld Z h0 a_LTE "com/example/nuntius/nuntius/cql/Relation$Operator" "symbol" "Ljava/lang/String;" (.ref a_LTE_symbol)) (E_a_LTE_symbol : Exa Z h0 a_LTE_symbol "java/lang/String") (F_value_a_LTE_symbol : Fld Z h0 a_LTE_symbol "java/lang/String" "value" "[B" (.ref a_LTE_symbol_value)) (F_coder_a_EQ_symbol : Fld Z h0 a_EQ_symbol "java/lang/String" "coder" "B" (.int (0 : Int32))) (F_ordinal_a_EQ : Fld Z h0 a_EQ "java/lang/Enum" "ordinal" "I" (.int (0 : Int32))) (F_ordinal_a_GT : Fld Z h0 a_GT "java/lang/Enum" "ordinal" "I" (.int (3 : Int32))) (F_ordinal_a_GTE : Fld Z h0 a_GTE "java/lang/Enum" "ordinal" "I" (.int (4 : Int32))) (F_coder_a_GT_symbol : Fld Z h0 a_GT_symbol "java/lang/String" "coder" "B" (.int (0 : Int32))) (F_coder_a_LT_symbol : Fld Z h0 a_LT_symbol "java/lang/String" "coder" "B" (.int (0 : Int32))) (F_ordinal_a_LT : Fld Z h0 a_LT "java/lang/Enum" "ordinal" "I" (.int (1 : Int32))) (F_coder_a_GTE_symbol : Fld Z h0 a_GTE_symbol "java/lang/String" "coder" "B" (.int (0 : Int32))) (F_coder_a_LTE_symbol : Fld Z h0 a_LTE_symbol "java/lang/String" "coder" "B" (.int (0 : Int32))) (F_ordinal_a_LTE : Fld Z h0 a_LTE "java/lang/Enum" "ordinal" "I" (.int (2 : Int32))) (A_a_EQ_symbol_value : Arv Z h0 a_EQ_symbol_value k_a_EQ_symbol_value .byte (1 : Int32) [(.int (61 : Int32))] (.int (0 : Int32))) (A_a_GT_symbol_value : Arv Z h0 a_GT_symbol_value k_a_GT_symbol_value .byte (1 : Int32) [(.int (62 : Int32))] (.int (0 : Int32))) (A_a_LT_symbol_value : Arv Z h0 a_LT_symbol_value k_a_LT_symbol_value .byte (1 : Int32) [(.int (60 : Int32))] (.int (0 : Int32))) (A_a_GTE_symbol_value : Arv Z h0 a_GTE_symbol_value k_a_GTE_symbol_value .byte (2 : Int32) [(.int (62 : Int32)), (.int (61 : Int32))] (.int (0 : Int32))) (A_a_LTE_symbol_value : Arv Z h0 a_LTE_symbol_value k_a_LTE_symbol_value .byte (2 : Int32) [(.int (60 : Int32)), (.int (61 : Int32))] (.int (0 : Int32))) (S_EQ : Sta Z h0 "com/example/nuntius/nuntius/cql/Relation$Operator" "EQ" "Lcom/example/nuntius/nuntius/cql/Relation$Operator;" (.ref a_EQ)) (S_LT : Sta Z h0 "com/example/nuntius/nuntius/cql/Relation$Operator" "LT" "Lcom/example/nuntius/nuntius/cql/Relation$Operator;" (.ref a_LT)) (S_LTE : Sta Z h0 "com/example/nuntius/nuntius/cql/Relation$Operator" "LTE" "Lcom/example/nuntius/nuntius/cql/Relation$Operator;" (.ref a_LTE)) (S_GT : Sta Z h0 "com/example/nuntius/nuntius/cql/Relation$Operator" "GT" "Lcom/example/nuntius/nuntius/cql/Relation$Operator;" (.ref a_GT)) (S_GTE : Sta Z h0 "com/example/nuntius/nuntius/cql/Relation$Operator" "GTE" "Lcom/example/nuntius/nuntius/cql/Relation$Operator;" (.ref a_GTE)) (S_COMPACT_STRINGS : Sta Z h0 "java/lang/String" "COMPACT_STRINGS" "Z" (.int cs)) (hcs : ¬ cs = (0 : Int32)) (S_SIOOBE_FORMATTER : Sta Z h0 "jdk/internal/util/Preconditions" "SIOOBE_FORMATTER" "Ljava/util/function/BiFunction;" sf) (hr_sf : sf.isRef = true) (ne_a_EQ_a_GT : a_EQ ≠ a_GT) (ne_a_EQ_a_GTE : a_EQ ≠ a_GTE) (ne_a_LT_a_GT : a_LT ≠ a_GT) (ne_a_LT_a_GTE : a_LT ≠ a_GTE) (ne_a_LTE_a_GT : a_LTE ≠ a_GT) (ne_a_LTE_a_GTE : a_LTE ≠ a_GTE) (ne_a_GTE_a_GT : a_GTE ≠ a_GT) :
    MetFree l x (head1 (Jvm.Cond.code x code maxLocals ret :: ws) room_1) (fun a U => a = #[(.int p0)] ∧ Z.Warmed39 U.vm ∧ U.heap = h0) (fun _ _ _ _ _ => True) (fun _ U o U' => ∃ v L, o = .returned v ∧ Q0 Z p0 a_EQ a_LT a_LTE a_GT a_GTE a_EQ_symbol a_EQ_symbol_value a_GT_symbol a_GT_symbol_value a_LT_symbol a_LT_symbol_value a_GTE_symbol a_GTE_symbol_value a_LTE_symbol a_LTE_symbol_value k_a_EQ_symbol_value k_a_GT_symbol_value k_a_LT_symbol_value k_a_GTE_symbol_value k_a_LTE_symbol_value cs sf h0 n0 v U'.heap L ∧ FrameEnd U o U' L room_1.cells room_1.slots) := by
  refine MetFree.of_bodySF (plainFor_of_name pn_4) hisR ?_
  intro p e s m args below meth c s₁ Bd hml0 hP hK
  obtain ⟨rfl, hZ, hh⟩ := hP
  have hx := Bd.exec
  have hby := Bd.bytes
  have hml : c.maxLocals = 6 := hml0
  have hown : s.vm.findClass "com/example/nuntius/nuntius/cql/OperatorIsLowerBoundPinLaw" = some m.cls := findClass_of_methodNamed Bd.named
  have hnm := (name_of_methodNamed Bd.named Bd.method).1
  have X0 : Stand p l e room_1 s m #[(.int p0)] below meth c s₁ [] 0 0 := Stand.of_body Bd
  have e0 : s₁.heap = h0 := by rw [← hh, Bd.state]; rfl
  have N0 := Fr.nil n0
  refine Ends.opn ?_
  intro QQ hQQ
  refine Ends.step (S' := s₁.setTop (mkF m 0 #[.val (.int p0), .unset, .unset, .unset, .unset, .unset] [])) (fun t k => castTop (ef_0 m p0) k) ?_
  show Ends p e below QQ (s₁.setTop (mkF m 0 #[.val (.int p0), .unset, .unset, .unset, .unset, .unset] []))
  refine Ends.step (fun _ k => XT.iconstV X0.here hx rfl (5 : Int32) (hb hby at_0) rfl k) ?_
  show Ends p e below QQ (s₁.setTop (mkF m 1 #[.val (.int p0), .unset, .unset, .unset, .unset, .unset] [(.int (5 : Int32))]))
  obtain ⟨T22, h22, k22, X22, e22, E22, A22, O22, st22⟩ := newR X0 hx hZ hown (hw _ (List.mem_of_getElem? (i := 0) rfl)) (hw _ (List.mem_of_getElem? (i := 1) rfl)) e0 (g := (mkF m 1 #[.val (.int p0), .unset, .unset, .unset, .unset, .unset] [(.int (5 : Int32))])) rfl (hb hby at_1) rfl (by decide) (cap := 5) (by decide) (by decide) (by decide) (by decide)
  obtain ⟨b22, g22⟩ : ∃ z, z = h0.size := ⟨_, rfl⟩
  rw [← g22] at A22 st22
  have ne_a_EQ_b22 : a_EQ ≠ b22 := Nat.ne_of_lt (Nat.lt_of_lt_of_le E_a_EQ.lt (Nat.le_of_eq g22.symm))
  have ne_a_LT_b22 : a_LT ≠ b22 := Nat.ne_of_lt (Nat.lt_of_lt_of_le E_a_LT.lt (Nat.le_of_eq g22.symm))
  have ne_a_LTE_b22 : a_LTE ≠ b22 := Nat.ne_of_lt (Nat.lt_of_lt_of_le E_a_LTE.lt (Nat.le_of_eq g22.symm))
  have ne_a_GT_b22 : a_GT ≠ b22 := Nat.ne_of_lt (Nat.lt_of_lt_of_le E_a_GT.lt (Nat.le_of_eq g22.symm))
  have ne_a_GTE_b22 : a_GTE ≠ b22 := Nat.ne_of_lt (Nat.lt_of_lt_of_le E_a_GTE.lt (Nat.le_of_eq g22.symm))
  have ne_a_EQ_symbol_b22 : a_EQ_symbol ≠ b22 := Nat.ne_of_lt (Nat.lt_of_lt_of_le E_a_EQ_symbol.lt (Nat.le_of_eq g22.symm))
  have ne_a_GT_symbol_b22 : a_GT_symbol ≠ b22 := Nat.ne_of_lt (Nat.lt_of_lt_of_le E_a_GT_symbol.lt (Nat.le_of_eq g22.symm))
  have ne_a_LT_symbol_b22 : a_LT_symbol ≠ b22 := Nat.ne_of_lt (Nat.lt_of_lt_of_le E_a_LT_symbol.lt (Nat.le_of_eq g22.symm))
  have ne_a_GTE_symbol_b22 : a_GTE_symbol ≠ b22 := Nat.ne_of_lt (Nat.lt_of_lt_of_le E_a_GTE_symbol.lt (Nat.le_of_eq g22.symm))
  have ne_a_LTE_symbol_b22 : a_LTE_symbol ≠ b22 := Nat.ne_of_lt (Nat.lt_of_lt_of_le E_a_LTE_symbol.lt (Nat.le_of_eq g22.symm))
  have ne_a_EQ_symbol_value_b22 : a_EQ_symbol_value ≠ b22 := Nat.ne_of_lt (Nat.lt_of_lt_of_le A_a_EQ_symbol_value.lt (Nat.le_of_eq g22.symm))
  have ne_a_GT_symbol_value_b22 : a_GT_symbol_value ≠ b22 := Nat.ne_of_lt (Nat.lt_of_lt_of_le A_a_GT_symbol_value.lt (Nat.le_of_eq g22.symm))
  have ne_a_LT_symbol_value_b22 : a_LT_symbol_value ≠ b22 := Nat.ne_of_lt (Nat.lt_of_lt_of_le A_a_LT_symbol_value.lt (Nat.le_of_eq g22.symm))
  have ne_a_GTE_symbol_value_b22 : a_GTE_symbol_value ≠ b22 := Nat.ne_of_lt (Nat.lt_of_lt_of_le A_a_GTE_symbol_value.lt (Nat.le_of_eq g22.symm))
  have ne_a_LTE_symbol_value_b22 : a_LTE_symbol_value ≠ b22 := Nat.ne_of_lt (Nat.lt_of_lt_of_le A_a_LTE_symbol_value.lt (Nat.le_of_eq g22.symm))
  have g_b22 : n0 ≤ b22 := Nat.le_trans Z0 (Nat.le_trans (Keep.refl h0 []).1 (Nat.le_of_eq g22.symm))
  have sz_b22 : h0.size ≤ b22 := Nat.le_trans (Keep.refl h0 []).1 (Nat.le_of_eq g22.symm)
  have E_a_EQ := E_a_EQ.ext E22
  have E_a_LT := E_a_LT.ext E22
  have E_a_LTE := E_a_LTE.ext E22
  have E_a_GT := E_a_GT.ext E22
  have E_a_GTE := E_a_GTE.ext E22
  have F_symbol_a_EQ := F_symbol_a_EQ.ext E22
  have E_a_EQ_symbol := E_a_EQ_symbol.ext E22
  have F_value_a_EQ_symbol := F_value_a_EQ_symbol.ext E22
  have F_symbol_a_GT := F_symbol_a_GT.ext E22
  have E_a_GT_symbol := E_a_GT_symbol.ext E22
  have F_value_a_GT_symbol := F_value_a_GT_symbol.ext E22
  have F_symbol_a_LT := F_symbol_a_LT.ext E22
  have E_a_LT_symbol := E_a_LT_symbol.ext E22
  have F_value_a_LT_symbol := F_value_a_LT_symbol.ext E22
  have F_symbol_a_GTE := F_symbol_a_GTE.ext E22
  have E_a_GTE_symbol := E_a_GTE_symbol.ext E22
  have F_value_a_GTE_symbol := F_value_a_GTE_symbol.ext E22
  have F_symbol_a_LTE := F_symbol_a_LTE.ext E22
  have E_a_LTE_symbol := E_a_LTE_symbol.ext E22
  have F_value_a_LTE_symbol := F_value_a_LTE_symbol.ext E22
  have F_coder_a_EQ_symbol := F_coder_a_EQ_symbol.ext E22
  have F_ordinal_a_EQ := F_ordinal_a_EQ.ext E22
  have F_ordinal_a_GT := F_ordinal_a_GT.ext E22
  have F_ordinal_a_GTE := F_ordinal_a_GTE.ext E22
  have F_coder_a_GT_symbol := F_coder_a_GT_symbol.ext E22
  have F_coder_a_LT_symbol := F_coder_a_LT_symbol.ext E22
  have F_ordinal_a_LT := F_ordinal_a_LT.ext E22
  have F_coder_a_GTE_symbol := F_coder_a_GTE_symbol.ext E22
  have F_coder_a_LTE_symbol := F_coder_a_LTE_symbol.ext E22
  have F_ordinal_a_LTE := F_ordinal_a_LTE.ext E22
  have A_a_EQ_symbol_value := A_a_EQ_symbol_value.ext E22
  have A_a_GT_symbol_value := A_a_GT_symbol_value.ext E22
  have A_a_LT_symbol_value := A_a_LT_symbol_value.ext E22
  have A_a_GTE_symbol_value := A_a_GTE_symbol_value.ext E22
  have A_a_LTE_symbol_value := A_a_LTE_symbol_value.ext E22
  have S_EQ := S_EQ.ext E22
  have S_LT := S_LT.ext E22
  have S_LTE := S_LTE.ext E22
  have S_GT := S_GT.ext E22
  have S_GTE := S_GTE.ext E22
  have S_COMPACT_STRINGS := S_COMPACT_STRINGS.ext E22
  have S_SIOOBE_FORMATTER := S_SIOOBE_FORMATTER.ext E22
  have K22 := (Keep.refl h0 []).ext E22
  have A_b22 : Arv Z h22 b22 k22 (.object "com/example/nuntius/nuntius/cql/Relation$Operator") (5 : Int32) [.null, .null, .null, .null, .null] .null := (Arv.new A22 (by decide)).pad (pad_rep [] .null 5)
  have O_b22 := O22
  refine Ends.step st22 ?_
  show Ends p e below QQ (T22.setTop (mkF m 4 #[.val (.int p0), .unset, .unset, .unset, .unset, .unset] [(.ref b22)]))
  refine Ends.step (fun _ k => XS.dup X22.here hx rfl (hb hby at_4) rfl rfl k) ?_
  show Ends p e below QQ (T22.setTop (mkF m 5 #[.val (.int p0), .unset, .unset, .unset, .unset, .unset] [(.ref b22), (.ref b22)]))
  refine Ends.step (fun _ k => XT.iconstV X22.here hx rfl (0 : Int32) (hb hby at_5) rfl k) ?_
  show Ends p e below QQ (T22.setTop (mkF m 6 #[.val (.int p0), .unset, .unset, .unset, .unset, .unset] [(.int (0 : Int32)), (.ref b22), (.ref b22)]))
  obtain ⟨T23, X23, e23, st23⟩ := getS2 X22 hx hZ hown (host := "") (Or.inl (hw _ (List.mem_of_getElem? (i := 2) rfl))) Via.refl e22 S_EQ (g := (mkF m 6 #[.val (.int p0), .unset, .unset, .unset, .unset, .unset] [(.int (0 : Int32)), (.ref b22), (.ref b22)])) rfl (hb hby at_6)
  refine Ends.step st23 ?_
  show Ends p e below QQ (T23.setTop (mkF m 9 #[.val (.int p0), .unset, .unset, .unset, .unset, .unset] [(.ref a_EQ), (.int (0 : Int32)), (.ref b22), (.ref b22)]))
  obtain ⟨cl24, Ar24, q24, S24, P24, H24, G24⟩ := id A_b22
  have hin24 : ¬ ((0 : Int32) < 0 ∨ cl24.slots.size ≤ ((0 : Int32)).toNatClampNeg) := inb_of S24 ⟨by decide, by decide⟩
  obtain ⟨T25, h25, X25, e25, W25, st25⟩ := stR X23 hx hZ e23 Ar24 (j := (0 : Int32)) hin24 rfl (Sto.ofV Ar24 q24 O_b22 (Ins.self E_a_EQ)) (g := (mkF m 9 #[.val (.int p0), .unset, .unset, .unset, .unset, .unset] [(.ref a_EQ), (.int (0 : Int32)), (.ref b22), (.ref b22)])) rfl rfl (hb hby at_9)
  have E_a_EQ := E_a_EQ.wr W25
  have E_a_LT := E_a_LT.wr W25
  have E_a_LTE := E_a_LTE.wr W25
  have E_a_GT := E_a_GT.wr W25
  have E_a_GTE := E_a_GTE.wr W25
  have F_symbol_a_EQ := F_symbol_a_EQ.other W25 (Or.inl ne_a_EQ_b22)
  have E_a_EQ_symbol := E_a_EQ_symbol.wr W25
  have F_value_a_EQ_symbol := F_value_a_EQ_symbol.other W25 (Or.inl ne_a_EQ_symbol_b22)
  have F_symbol_a_GT := F_symbol_a_GT.other W25 (Or.inl ne_a_GT_b22)
  have E_a_GT_symbol := E_a_GT_symbol.wr W25
  have F_value_a_GT_symbol := F_value_a_GT_symbol.other W25 (Or.inl ne_a_GT_symbol_b22)
  have F_symbol_a_LT := F_symbol_a_LT.other W25 (Or.inl ne_a_LT_b22)
  have E_a_LT_symbol := E_a_LT_symbol.wr W25
  have F_value_a_LT_symbol := F_value_a_LT_symbol.other W25 (Or.inl ne_a_LT_symbol_b22)
  have F_symbol_a_GTE := F_symbol_a_GTE.other W25 (Or.inl ne_a_GTE_b22)
  have E_a_GTE_symbol := E_a_GTE_symbol.wr W25
  have F_value_a_GTE_symbol := F_value_a_GTE_symbol.other W25 (Or.inl ne_a_GTE_symbol_b22)
  have F_symbol_a_LTE := F_symbol_a_LTE.other W25 (Or.inl ne_a_LTE_b22)
  have E_a_LTE_symbol := E_a_LTE_symbol.wr W25
  have F_value_a_LTE_symbol := F_value_a_LTE_symbol.other W25 (Or.inl ne_a_LTE_symbol_b22)
  have F_coder_a_EQ_symbol := F_coder_a_EQ_symbol.other W25 (Or.inl ne_a_EQ_symbol_b22)
  have F_ordinal_a_EQ := F_ordinal_a_EQ.other W25 (Or.inl ne_a_EQ_b22)
  have F_ordinal_a_GT := F_ordinal_a_GT.other W25 (Or.inl ne_a_GT_b22)
  have F_ordinal_a_GTE := F_ordinal_a_GTE.other W25 (Or.inl ne_a_GTE_b22)
  have F_coder_a_GT_symbol := F_coder_a_GT_symbol.other W25 (Or.inl ne_a_GT_symbol_b22)
  have F_coder_a_LT_symbol := F_coder_a_LT_symbol.other W25 (Or.inl ne_a_LT_symbol_b22)
  have F_ordinal_a_LT := F_ordinal_a_LT.other W25 (Or.inl ne_a_LT_b22)
  have F_coder_a_GTE_symbol := F_coder_a_GTE_symbol.other W25 (Or.inl ne_a_GTE_symbol_b22)
  have F_coder_a_LTE_symbol := F_coder_a_LTE_symbol.other W25 (Or.inl ne_a_LTE_symbol_b22)
  have F_ordinal_a_LTE := F_ordinal_a_LTE.other W25 (Or.inl ne_a_LTE_b22)
  have A_a_EQ_symbol_value := A_a_EQ_symbol_value.other W25 ne_a_EQ_symbol_value_b22
  have A_a_GT_symbol_value := A_a_GT_symbol_value.other W25 ne_a_GT_symbol_value_b22
  have A_a_LT_symbol_value := A_a_LT_symbol_value.other W25 ne_a_LT_symbol_value_b22
  have A_a_GTE_symbol_value := A_a_GTE_symbol_value.other W25 ne_a_GTE_symbol_value_b22
  have A_a_LTE_symbol_value := A_a_LTE_symbol_value.other W25 ne_a_LTE_symbol_value_b22
  have S_EQ := S_EQ.wr W25
  have S_LT := S_LT.wr W25
  have S_LTE := S_LTE.wr W25
  have S_GT := S_GT.wr W25
  have S_GTE := S_GTE.wr W25
  have S_COMPACT_STRINGS := S_COMPACT_STRINGS.wr W25
  have S_SIOOBE_FORMATTER := S_SIOOBE_FORMATTER.wr W25
  have A_b22 : Arv Z h25 b22 k22 (.object "com/example/nuntius/nuntius/cql/Relation$Operator") (5 : Int32) [(.ref a_EQ), .null, .null, .null, .null] .null := Arv.set Ar24 q24 S24 P24 H24 G24 rfl W25 0 rfl (Nat.le_of_ble_eq_true rfl)
  have K25 := K22.wr W25 (Or.inr sz_b22)
  have N25 := Fr.snoc X25 N0 g_b22
  refine Ends.step st25 ?_
  show Ends p e below QQ (T25.setTop (mkF m 10 #[.val (.int p0), .unset, .unset, .unset, .unset, .unset] [(.ref b22)]))
  refine Ends.step (fun _ k => XS.dup X25.here hx rfl (hb hby at_10) rfl rfl k) ?_
  show Ends p e below QQ (T25.setTop (mkF m 11 #[.val (.int p0), .unset, .unset, .unset, .unset, .unset] [(.ref b22), (.ref b22)]))
  refine Ends.step (fun _ k => XT.iconstV X25.here hx rfl (1 : Int32) (hb hby at_11) rfl k) ?_
  show Ends p e below QQ (T25.setTop (mkF m 12 #[.val (.int p0), .unset, .unset, .unset, .unset, .unset] [(.int (1 : Int32)), (.ref b22), (.ref b22)]))
  obtain ⟨T26, X26, e26, st26⟩ := getS2 X25 hx hZ hown (host := "") (Or.inl (hw _ (List.mem_of_getElem? (i := 6) rfl))) Via.refl e25 S_LT (g := (mkF m 12 #[.val (.int p0), .unset, .unset, .unset, .unset, .unset] [(.int (1 : Int32)), (.ref b22), (.ref b22)])) rfl (hb hby at_12)
  refine Ends.step st26 ?_
  show Ends p e below QQ (T26.setTop (mkF m 15 #[.val (.int p0), .unset, .unset, .unset, .unset, .unset] [(.ref a_LT), (.int (1 : Int32)), (.ref b22), (.ref b22)]))
  obtain ⟨cl27, Ar27, q27, S27, P27, H27, G27⟩ := id A_b22
  have hin27 : ¬ ((1 : Int32) < 0 ∨ cl27.slots.size ≤ ((1 : Int32)).toNatClampNeg) := inb_of S27 ⟨by decide, by decide⟩
  obtain ⟨T28, h28, X28, e28, W28, st28⟩ := stR X26 hx hZ e26 Ar27 (j := (1 : Int32)) hin27 rfl (Sto.ofV Ar27 q27 O_b22 (Ins.self E_a_LT)) (g := (mkF m 15 #[.val (.int p0), .unset, .unset, .unset, .unset, .unset] [(.ref a_LT), (.int (1 : Int32)), (.ref b22), (.ref b22)])) rfl rfl (hb hby at_15)
  have E_a_EQ := E_a_EQ.wr W28
  have E_a_LT := E_a_LT.wr W28
  have E_a_LTE := E_a_LTE.wr W28
  have E_a_GT := E_a_GT.wr W28
  have E_a_GTE := E_a_GTE.wr W28
  have F_symbol_a_EQ := F_symbol_a_EQ.other W28 (Or.inl ne_a_EQ_b22)
  have E_a_EQ_symbol := E_a_EQ_symbol.wr W28
  have F_value_a_EQ_symbol := F_value_a_EQ_symbol.other W28 (Or.inl ne_a_EQ_symbol_b22)
  have F_symbol_a_GT := F_symbol_a_GT.other W28 (Or.inl ne_a_GT_b22)
  have E_a_GT_symbol := E_a_GT_symbol.wr W28
  have F_value_a_GT_symbol := F_value_a_GT_symbol.other W28 (Or.inl ne_a_GT_symbol_b22)
  have F_symbol_a_LT := F_symbol_a_LT.other W28 (Or.inl ne_a_LT_b22)
  have E_a_LT_symbol := E_a_LT_symbol.wr W28
  have F_value_a_LT_symbol := F_value_a_LT_symbol.other W28 (Or.inl ne_a_LT_symbol_b22)
  have F_symbol_a_GTE := F_symbol_a_GTE.other W28 (Or.inl ne_a_GTE_b22)
  have E_a_GTE_symbol := E_a_GTE_symbol.wr W28
  have F_value_a_GTE_symbol := F_value_a_GTE_symbol.other W28 (Or.inl ne_a_GTE_symbol_b22)
  have F_symbol_a_LTE := F_symbol_a_LTE.other W28 (Or.inl ne_a_LTE_b22)
  have E_a_LTE_symbol := E_a_LTE_symbol.wr W28
  have F_value_a_LTE_symbol := F_value_a_LTE_symbol.other W28 (Or.inl ne_a_LTE_symbol_b22)
  have F_coder_a_EQ_symbol := F_coder_a_EQ_symbol.other W28 (Or.inl ne_a_EQ_symbol_b22)
  have F_ordinal_a_EQ := F_ordinal_a_EQ.other W28 (Or.inl ne_a_EQ_b22)
  have F_ordinal_a_GT := F_ordinal_a_GT.other W28 (Or.inl ne_a_GT_b22)
  have F_ordinal_a_GTE := F_ordinal_a_GTE.other W28 (Or.inl ne_a_GTE_b22)
  have F_coder_a_GT_symbol := F_coder_a_GT_symbol.other W28 (Or.inl ne_a_GT_symbol_b22)
  have F_coder_a_LT_symbol := F_coder_a_LT_symbol.other W28 (Or.inl ne_a_LT_symbol_b22)
  have F_ordinal_a_LT := F_ordinal_a_LT.other W28 (Or.inl ne_a_LT_b22)
  have F_coder_a_GTE_symbol := F_coder_a_GTE_symbol.other W28 (Or.inl ne_a_GTE_symbol_b22)
  have F_coder_a_LTE_symbol := F_coder_a_LTE_symbol.other W28 (Or.inl ne_a_LTE_symbol_b22)
  have F_ordinal_a_LTE := F_ordinal_a_LTE.other W28 (Or.inl ne_a_LTE_b22)
  have A_a_EQ_symbol_value := A_a_EQ_symbol_value.other W28 ne_a_EQ_symbol_value_b22
  have A_a_GT_symbol_value := A_a_GT_symbol_value.other W28 ne_a_GT_symbol_value_b22
  have A_a_LT_symbol_value := A_a_LT_symbol_value.other W28 ne_a_LT_symbol_value_b22
  have A_a_GTE_symbol_value := A_a_GTE_symbol_value.other W28 ne_a_GTE_symbol_value_b22
  have A_a_LTE_symbol_value := A_a_LTE_symbol_value.other W28 ne_a_LTE_symbol_value_b22
  have S_EQ := S_EQ.wr W28
  have S_LT := S_LT.wr W28
  have S_LTE := S_LTE.wr W28
  have S_GT := S_GT.wr W28
  have S_GTE := S_GTE.wr W28
  have S_COMPACT_STRINGS := S_COMPACT_STRINGS.wr W28
  have S_SIOOBE_FORMATTER := S_SIOOBE_FORMATTER.wr W28
  have A_b22 : Arv Z h28 b22 k22 (.object "com/example/nuntius/nuntius/cql/Relation$Operator") (5 : Int32) [(.ref a_EQ), (.ref a_LT), .null, .null, .null] .null := Arv.set Ar27 q27 S27 P27 H27 G27 rfl W28 1 rfl (Nat.le_of_ble_eq_true rfl)
  have K28 := K25.wr W28 (Or.inr sz_b22)
  have N28 := Fr.snoc X28 N25 g_b22
  refine Ends.step st28 ?_
  show Ends p e below QQ (T28.setTop (mkF m 16 #[.val (.int p0), .unset, .unset, .unset, .unset, .unset] [(.ref b22)]))
  refine Ends.step (fun _ k => XS.dup X28.here hx rfl (hb hby at_16) rfl rfl k) ?_
  show Ends p e below QQ (T28.setTop (mkF m 17 #[.val (.int p0), .unset, .unset, .unset, .unset, .unset] [(.ref b22), (.ref b22)]))
  refine Ends.step (fun _ k => XT.iconstV X28.here hx rfl (2 : Int32) (hb hby at_17) rfl k) ?_
  show Ends p e below QQ (T28.setTop (mkF m 18 #[.val (.int p0), .unset, .unset, .unset, .unset, .unset] [(.int (2 : Int32)), (.ref b22), (.ref b22)]))
  obtain ⟨T29, X29, e29, st29⟩ := getS2 X28 hx hZ hown (host := "") (Or.inl (hw _ (List.mem_of_getElem? (i := 8) rfl))) Via.refl e28 S_LTE (g := (mkF m 18 #[.val (.int p0), .unset, .unset, .unset, .unset, .unset] [(.int (2 : Int32)), (.ref b22), (.ref b22)])) rfl (hb hby at_18)
  refine Ends.step st29 ?_
  show Ends p e below QQ (T29.setTop (mkF m 21 #[.val (.int p0), .unset, .unset, .unset, .unset, .unset] [(.ref a_LTE), (.int (2 : Int32)), (.ref b22), (.ref b22)]))
  obtain ⟨cl30, Ar30, q30, S30, P30, H30, G30⟩ := id A_b22
  have hin30 : ¬ ((2 : Int32) < 0 ∨ cl30.slots.size ≤ ((2 : Int32)).toNatClampNeg) := inb_of S30 ⟨by decide, by decide⟩
  obtain ⟨T31, h31, X31, e31, W31, st31⟩ := stR X29 hx hZ e29 Ar30 (j := (2 : Int32)) hin30 rfl (Sto.ofV Ar30 q30 O_b22 (Ins.self E_a_LTE)) (g := (mkF m 21 #[.val (.int p0), .unset, .unset, .unset, .unset, .unset] [(.ref a_LTE), (.int (2 : Int32)), (.ref b22), (.ref b22)])) rfl rfl (hb hby at_21)
  have E_a_EQ := E_a_EQ.wr W31
  have E_a_LT := E_a_LT.wr W31
  have E_a_LTE := E_a_LTE.wr W31
  have E_a_GT := E_a_GT.wr W31
  have E_a_GTE := E_a_GTE.wr W31
  have F_symbol_a_EQ := F_symbol_a_EQ.other W31 (Or.inl ne_a_EQ_b22)
  have E_a_EQ_symbol := E_a_EQ_symbol.wr W31
  have F_value_a_EQ_symbol := F_value_a_EQ_symbol.other W31 (Or.inl ne_a_EQ_symbol_b22)
  have F_symbol_a_GT := F_symbol_a_GT.other W31 (Or.inl ne_a_GT_b22)
  have E_a_GT_symbol := E_a_GT_symbol.wr W31
  have F_value_a_GT_symbol := F_value_a_GT_symbol.other W31 (Or.inl ne_a_GT_symbol_b22)
  have F_symbol_a_LT := F_symbol_a_LT.other W31 (Or.inl ne_a_LT_b22)
  have E_a_LT_symbol := E_a_LT_symbol.wr W31
  have F_value_a_LT_symbol := F_value_a_LT_symbol.other W31 (Or.inl ne_a_LT_symbol_b22)
  have F_symbol_a_GTE := F_symbol_a_GTE.other W31 (Or.inl ne_a_GTE_b22)
  have E_a_GTE_symbol := E_a_GTE_symbol.wr W31
  have F_value_a_GTE_symbol := F_value_a_GTE_symbol.other W31 (Or.inl ne_a_GTE_symbol_b22)
  have F_symbol_a_LTE := F_symbol_a_LTE.other W31 (Or.inl ne_a_LTE_b22)
  have E_a_LTE_symbol := E_a_LTE_symbol.wr W31
  have F_value_a_LTE_symbol := F_value_a_LTE_symbol.other W31 (Or.inl ne_a_LTE_symbol_b22)
  have F_coder_a_EQ_symbol := F_coder_a_EQ_symbol.other W31 (Or.inl ne_a_EQ_symbol_b22)
  have F_ordinal_a_EQ := F_ordinal_a_EQ.other W31 (Or.inl ne_a_EQ_b22)
  have F_ordinal_a_GT := F_ordinal_a_GT.other W31 (Or.inl ne_a_GT_b22)
  have F_ordinal_a_GTE := F_ordinal_a_GTE.other W31 (Or.inl ne_a_GTE_b22)
  have F_coder_a_GT_symbol := F_coder_a_GT_symbol.other W31 (Or.inl ne_a_GT_symbol_b22)
  have F_coder_a_LT_symbol := F_coder_a_LT_symbol.other W31 (Or.inl ne_a_LT_symbol_b22)
  have F_ordinal_a_LT := F_ordinal_a_LT.other W31 (Or.inl ne_a_LT_b22)
  have F_coder_a_GTE_symbol := F_coder_a_GTE_symbol.other W31 (Or.inl ne_a_GTE_symbol_b22)
  have F_coder_a_LTE_symbol := F_coder_a_LTE_symbol.other W31 (Or.inl ne_a_LTE_symbol_b22)
  have F_ordinal_a_LTE := F_ordinal_a_LTE.other W31 (Or.inl ne_a_LTE_b22)
  have A_a_EQ_symbol_value := A_a_EQ_symbol_value.other W31 ne_a_EQ_symbol_value_b22
  have A_a_GT_symbol_value := A_a_GT_symbol_value.other W31 ne_a_GT_symbol_value_b22
  have A_a_LT_symbol_value := A_a_LT_symbol_value.other W31 ne_a_LT_symbol_value_b22
  have A_a_GTE_symbol_value := A_a_GTE_symbol_value.other W31 ne_a_GTE_symbol_value_b22
  have A_a_LTE_symbol_value := A_a_LTE_symbol_value.other W31 ne_a_LTE_symbol_value_b22
  have S_EQ := S_EQ.wr W31
  have S_LT := S_LT.wr W31
  have S_LTE := S_LTE.wr W31
  have S_GT := S_GT.wr W31
  have S_GTE := S_GTE.wr W31
  have S_COMPACT_STRINGS := S_COMPACT_STRINGS.wr W31
  have S_SIOOBE_FORMATTER := S_SIOOBE_FORMATTER.wr W31
  have A_b22 : Arv Z h31 b22 k22 (.object "com/example/nuntius/nuntius/cql/Relation$Operator") (5 : Int32) [(.ref a_EQ), (.ref a_LT), (.ref a_LTE), .null, .null] .null := Arv.set Ar30 q30 S30 P30 H30 G30 rfl W31 2 rfl (Nat.le_of_ble_eq_true rfl)
  have K31 := K28.wr W31 (Or.inr sz_b22)
  have N31 := Fr.snoc X31 N28 g_b22
  refine Ends.step st31 ?_
  show Ends p e below QQ (T31.setTop (mkF m 22 #[.val (.int p0), .unset, .unset, .unset, .unset, .unset] [(.ref b22)]))
  refine Ends.step (fun _ k => XS.dup X31.here hx rfl (hb hby at_22) rfl rfl k) ?_
  show Ends p e below QQ (T31.setTop (mkF m 23 #[.val (.int p0), .unset, .unset, .unset, .unset, .unset] [(.ref b22), (.ref b22)]))
  refine Ends.step (fun _ k => XT.iconstV X31.here hx rfl (3 : Int32) (hb hby at_23) rfl k) ?_
  show Ends p e below QQ (T31.setTop (mkF m 24 #[.val (.int p0), .unset, .unset, .unset, .unset, .unset] [(.int (3 : Int32)), (.ref b22), (.ref b22)]))
  obtain ⟨T32, X32, e32, st32⟩ := getS2 X31 hx hZ hown (host := "") (Or.inl (hw _ (List.mem_of_getElem? (i := 10) rfl))) Via.refl e31 S_GT (g := (mkF m 24 #[.val (.int p0), .unset, .unset, .unset, .unset, .unset] [(.int (3 : Int32)), (.ref b22), (.ref b22)])) rfl (hb hby at_24)
  refine Ends.step st32 ?_
  show Ends p e below QQ (T32.setTop (mkF m 27 #[.val (.int p0), .unset, .unset, .unset, .unset, .unset] [(.ref a_GT), (.int (3 : Int32)), (.ref b22), (.ref b22)]))
  obtain ⟨cl33, Ar33, q33, S33, P33, H33, G33⟩ := id A_b22
  have hin33 : ¬ ((3 : Int32) < 0 ∨ cl33.slots.size ≤ ((3 : Int32)).toNatClampNeg) := inb_of S33 ⟨by decide, by decide⟩
  obtain ⟨T34, h34, X34, e34, W34, st34⟩ := stR X32 hx hZ e32 Ar33 (j := (3 : Int32)) hin33 rfl (Sto.ofV Ar33 q33 O_b22 (Ins.self E_a_GT)) (g := (mkF m 27 #[.val (.int p0), .unset, .unset, .unset, .unset, .unset] [(.ref a_GT), (.int (3 : Int32)), (.ref b22), (.ref b22)])) rfl rfl (hb hby at_27)
  have E_a_EQ := E_a_EQ.wr W34
  have E_a_LT := E_a_LT.wr W34
  have E_a_LTE := E_a_LTE.wr W34
  have E_a_GT := E_a_GT.wr W34
  have E_a_GTE := E_a_GTE.wr W34
  have F_symbol_a_EQ := F_symbol_a_EQ.other W34 (Or.inl ne_a_EQ_b22)
  have E_a_EQ_symbol := E_a_EQ_symbol.wr W34
  have F_value_a_EQ_symbol := F_value_a_EQ_symbol.other W34 (Or.inl ne_a_EQ_symbol_b22)
  have F_symbol_a_GT := F_symbol_a_GT.other W34 (Or.inl ne_a_GT_b22)
  have E_a_GT_symbol := E_a_GT_symbol.wr W34
  have F_value_a_GT_symbol := F_value_a_GT_symbol.other W34 (Or.inl ne_a_GT_symbol_b22)
  have F_symbol_a_LT := F_symbol_a_LT.other W34 (Or.inl ne_a_LT_b22)
  have E_a_LT_symbol := E_a_LT_symbol.wr W34
  have F_value_a_LT_symbol := F_value_a_LT_symbol.other W34 (Or.inl ne_a_LT_symbol_b22)
  have F_symbol_a_GTE := F_symbol_a_GTE.other W34 (Or.inl ne_a_GTE_b22)
  have E_a_GTE_symbol := E_a_GTE_symbol.wr W34
  have F_value_a_GTE_symbol := F_value_a_GTE_symbol.other W34 (Or.inl ne_a_GTE_symbol_b22)
  have F_symbol_a_LTE := F_symbol_a_LTE.other W34 (Or.inl ne_a_LTE_b22)
  have E_a_LTE_symbol := E_a_LTE_symbol.wr W34
  have F_value_a_LTE_symbol := F_value_a_LTE_symbol.other W34 (Or.inl ne_a_LTE_symbol_b22)
  have F_coder_a_EQ_symbol := F_coder_a_EQ_symbol.other W34 (Or.inl ne_a_EQ_symbol_b22)
  have F_ordinal_a_EQ := F_ordinal_a_EQ.other W34 (Or.inl ne_a_EQ_b22)
  have F_ordinal_a_GT := F_ordinal_a_GT.other W34 (Or.inl ne_a_GT_b22)
  have F_ordinal_a_GTE := F_ordinal_a_GTE.other W34 (Or.inl ne_a_GTE_b22)
  have F_coder_a_GT_symbol := F_coder_a_GT_symbol.other W34 (Or.inl ne_a_GT_symbol_b22)
  have F_coder_a_LT_symbol := F_coder_a_LT_symbol.other W34 (Or.inl ne_a_LT_symbol_b22)
  have F_ordinal_a_LT := F_ordinal_a_LT.other W34 (Or.inl ne_a_LT_b22)
  have F_coder_a_GTE_symbol := F_coder_a_GTE_symbol.other W34 (Or.inl ne_a_GTE_symbol_b22)
  have F_coder_a_LTE_symbol := F_coder_a_LTE_symbol.other W34 (Or.inl ne_a_LTE_symbol_b22)
  have F_ordinal_a_LTE := F_ordinal_a_LTE.other W34 (Or.inl ne_a_LTE_b22)
  have A_a_EQ_symbol_value := A_a_EQ_symbol_value.other W34 ne_a_EQ_symbol_value_b22
  have A_a_GT_symbol_value := A_a_GT_symbol_value.other W34 ne_a_GT_symbol_value_b22
  have A_a_LT_symbol_value := A_a_LT_symbol_value.other W34 ne_a_LT_symbol_value_b22
  have A_a_GTE_symbol_value := A_a_GTE_symbol_value.other W34 ne_a_GTE_symbol_value_b22
  have A_a_LTE_symbol_value := A_a_LTE_symbol_value.other W34 ne_a_LTE_symbol_value_b22
  have S_EQ := S_EQ.wr W34
  have S_LT := S_LT.wr W34
  have S_LTE := S_LTE.wr W34
  have S_GT := S_GT.wr W34
  have S_GTE := S_GTE.wr W34
  have S_COMPACT_STRINGS := S_COMPACT_STRINGS.wr W34
  have S_SIOOBE_FORMATTER := S_SIOOBE_FORMATTER.wr W34
  have A_b22 : Arv Z h34 b22 k22 (.object "com/example/nuntius/nuntius/cql/Relation$Operator") (5 : Int32) [(.ref a_EQ), (.ref a_LT), (.ref a_LTE), (.ref a_GT), .null] .null := Arv.set Ar33 q33 S33 P33 H33 G33 rfl W34 3 rfl (Nat.le_of_ble_eq_true rfl)
  have K34 := K31.wr W34 (Or.inr sz_b22)
  have N34 := Fr.snoc X34 N31 g_b22
  refine Ends.step st34 ?_
  show Ends p e below QQ (T34.setTop (mkF m 28 #[.val (.int p0), .unset, .unset, .unset, .unset, .unset] [(.ref b22)]))
  refine Ends.step (fun _ k => XS.dup X34.here hx rfl (hb hby at_28) rfl rfl k) ?_
  show Ends p e below QQ (T34.setTop (mkF m 29 #[.val (.int p0), .unset, .unset, .unset, .unset, .unset] [(.ref b22), (.ref b22)]))
  refine Ends.step (fun _ k => XT.iconstV X34.here hx rfl (4 : Int32) (hb hby at_29) rfl k) ?_
  show Ends p e below QQ (T34.setTop (mkF m 30 #[.val (.int p0), .unset, .unset, .unset, .unset, .unset] [(.int (4 : Int32)), (.ref b22), (.ref b22)]))
  obtain ⟨T35, X35, e35, st35⟩ := getS2 X34 hx hZ hown (host := "") (Or.inl (hw _ (List.mem_of_getElem? (i := 12) rfl))) Via.refl e34 S_GTE (g := (mkF m 30 #[.val (.int p0), .unset, .unset, .unset, .unset, .unset] [(.int (4 : Int32)), (.ref b22), (.ref b22)])) rfl (hb hby at_30)
  refine Ends.step st35 ?_
  show Ends p e below QQ (T35.setTop (mkF m 33 #[.val (.int p0), .unset, .unset, .unset, .unset, .unset] [(.ref a_GTE), (.int (4 : Int32)), (.ref b22), (.ref b22)]))
  obtain ⟨cl36, Ar36, q36, S36, P36, H36, G36⟩ := id A_b22
  have hin36 : ¬ ((4 : Int32) < 0 ∨ cl36.slots.size ≤ ((4 : Int32)).toNatClampNeg) := inb_of S36 ⟨by decide, by decide⟩
  obtain ⟨T37, h37, X37, e37, W37, st37⟩ := stR X35 hx hZ e35 Ar36 (j := (4 : Int32)) hin36 rfl (Sto.ofV Ar36 q36 O_b22 (Ins.self E_a_GTE)) (g := (mkF m 33 #[.val (.int p0), .unset, .unset, .unset, .unset, .unset] [(.ref a_GTE), (.int (4 : Int32)), (.ref b22), (.ref b22)])) rfl rfl (hb hby at_33)
  have E_a_EQ := E_a_EQ.wr W37
  have E_a_LT := E_a_LT.wr W37
  have E_a_LTE := E_a_LTE.wr W37
  have E_a_GT := E_a_GT.wr W37
  have E_a_GTE := E_a_GTE.wr W37
  have F_symbol_a_EQ := F_symbol_a_EQ.other W37 (Or.inl ne_a_EQ_b22)
  have E_a_EQ_symbol := E_a_EQ_symbol.wr W37
  have F_value_a_EQ_symbol := F_value_a_EQ_symbol.other W37 (Or.inl ne_a_EQ_symbol_b22)
  have F_symbol_a_GT := F_symbol_a_GT.other W37 (Or.inl ne_a_GT_b22)
  have E_a_GT_symbol := E_a_GT_symbol.wr W37
  have F_value_a_GT_symbol := F_value_a_GT_symbol.other W37 (Or.inl ne_a_GT_symbol_b22)
  have F_symbol_a_LT := F_symbol_a_LT.other W37 (Or.inl ne_a_LT_b22)
  have E_a_LT_symbol := E_a_LT_symbol.wr W37
  have F_value_a_LT_symbol := F_value_a_LT_symbol.other W37 (Or.inl ne_a_LT_symbol_b22)
  have F_symbol_a_GTE := F_symbol_a_GTE.other W37 (Or.inl ne_a_GTE_b22)
  have E_a_GTE_symbol := E_a_GTE_symbol.wr W37
  have F_value_a_GTE_symbol := F_value_a_GTE_symbol.other W37 (Or.inl ne_a_GTE_symbol_b22)
  have F_symbol_a_LTE := F_symbol_a_LTE.other W37 (Or.inl ne_a_LTE_b22)
  have E_a_LTE_symbol := E_a_LTE_symbol.wr W37
  have F_value_a_LTE_symbol := F_value_a_LTE_symbol.other W37 (Or.inl ne_a_LTE_symbol_b22)
  have F_coder_a_EQ_symbol := F_coder_a_EQ_symbol.other W37 (Or.inl ne_a_EQ_symbol_b22)
  have F_ordinal_a_EQ := F_ordinal_a_EQ.other W37 (Or.inl ne_a_EQ_b22)
  have F_ordinal_a_GT := F_ordinal_a_GT.other W37 (Or.inl ne_a_GT_b22)
  have F_ordinal_a_GTE := F_ordinal_a_GTE.other W37 (Or.inl ne_a_GTE_b22)
  have F_coder_a_GT_symbol := F_coder_a_GT_symbol.other W37 (Or.inl ne_a_GT_symbol_b22)
  have F_coder_a_LT_symbol := F_coder_a_LT_symbol.other W37 (Or.inl ne_a_LT_symbol_b22)
  have F_ordinal_a_LT := F_ordinal_a_LT.other W37 (Or.inl ne_a_LT_b22)
  have F_coder_a_GTE_symbol := F_coder_a_GTE_symbol.other W37 (Or.inl ne_a_GTE_symbol_b22)
  have F_coder_a_LTE_symbol := F_coder_a_LTE_symbol.other W37 (Or.inl ne_a_LTE_symbol_b22)
  have F_ordinal_a_LTE := F_ordinal_a_LTE.other W37 (Or.inl ne_a_LTE_b22)
  have A_a_EQ_symbol_value := A_a_EQ_symbol_value.other W37 ne_a_EQ_symbol_value_b22
  have A_a_GT_symbol_value := A_a_GT_symbol_value.other W37 ne_a_GT_symbol_value_b22
  have A_a_LT_symbol_value := A_a_LT_symbol_value.other W37 ne_a_LT_symbol_value_b22
  have A_a_GTE_symbol_value := A_a_GTE_symbol_value.other W37 ne_a_GTE_symbol_value_b22
  have A_a_LTE_symbol_value := A_a_LTE_symbol_value.other W37 ne_a_LTE_symbol_value_b22
  have S_EQ := S_EQ.wr W37
  have S_LT := S_LT.wr W37
  have S_LTE := S_LTE.wr W37
  have S_GT := S_GT.wr W37
  have S_GTE := S_GTE.wr W37
  have S_COMPACT_STRINGS := S_COMPACT_STRINGS.wr W37
  have S_SIOOBE_FORMATTER := S_SIOOBE_FORMATTER.wr W37
  have A_b22 : Arv Z h37 b22 k22 (.object "com/example/nuntius/nuntius/cql/Relation$Operator") (5 : Int32) [(.ref a_EQ), (.ref a_LT), (.ref a_LTE), (.ref a_GT), (.ref a_GTE)] .null := Arv.set Ar36 q36 S36 P36 H36 G36 rfl W37 4 rfl (Nat.le_of_ble_eq_true rfl)
  have K37 := K34.wr W37 (Or.inr sz_b22)
  have N37 := Fr.snoc X37 N34 g_b22
  refine Ends.step st37 ?_
  show Ends p e below QQ (T37.setTop (mkF m 34 #[.val (.int p0), .unset, .unset, .unset, .unset, .unset] [(.ref b22)]))
  refine Ends.step (fun _ k => XS.astoreN X37.here hx rfl (hb hby at_34) rfl rfl (l' := #[.val (.int p0), .val (.ref b22), .unset, .unset, .unset, .unset]) rfl k) ?_
  show Ends p e below QQ (T37.setTop (mkF m 35 #[.val (.int p0), .val (.ref b22), .unset, .unset, .unset, .unset] []))
  refine Ends.step (fun _ k => XS.iloadN X37.here hx rfl (hb hby at_35) rfl k) ?_
  show Ends p e below QQ (T37.setTop (mkF m 36 #[.val (.int p0), .val (.ref b22), .unset, .unset, .unset, .unset] [(.int p0)]))
  refine Ends.step (fun _ k => X37.ldcI hx hown (mvT hZ (hw _ (List.mem_of_getElem? (i := 14) rfl))) (g := (mkF m 36 #[.val (.int p0), .val (.ref b22), .unset, .unset, .unset, .unset] [(.int p0)])) rfl (hb hby at_36) k) ?_
  show Ends p e below QQ (T37.setTop (mkF m 38 #[.val (.int p0), .val (.ref b22), .unset, .unset, .unset, .unset] [(.int (2147483647 : Int32)), (.int p0)]))
  refine Ends.step (fun _ k => XS.iand X37.here hx rfl (hb hby at_38) rfl k) ?_
  show Ends p e below QQ (T37.setTop (mkF m 39 #[.val (.int p0), .val (.ref b22), .unset, .unset, .unset, .unset] [(.int (p0 &&& (2147483647 : Int32)))]))
  refine Ends.step (fun _ k => XT.iconstV X37.here hx rfl (5 : Int32) (hb hby at_39) rfl k) ?_
  show Ends p e below QQ (T37.setTop (mkF m 40 #[.val (.int p0), .val (.ref b22), .unset, .unset, .unset, .unset] [(.int (5 : Int32)), (.int (p0 &&& (2147483647 : Int32)))]))
  refine Ends.step (fun _ k => iremM (g := (mkF m 40 #[.val (.int p0), .val (.ref b22), .unset, .unset, .unset, .unset] [(.int (5 : Int32)), (.int (p0 &&& (2147483647 : Int32)))])) X37 hx rfl (hb hby at_40) rfl (by decide) k) ?_
  show Ends p e below QQ (T37.setTop (mkF m 41 #[.val (.int p0), .val (.ref b22), .unset, .unset, .unset, .unset] [(.int ((p0 &&& (2147483647 : Int32)) % (5 : Int32)))]))
  refine Ends.step (fun _ k => XS.istoreN X37.here hx rfl (hb hby at_41) rfl (l' := #[.val (.int p0), .val (.ref b22), .val (.int ((p0 &&& (2147483647 : Int32)) % (5 : Int32))), .unset, .unset, .unset]) rfl k) ?_
  show Ends p e below QQ (T37.setTop (mkF m 42 #[.val (.int p0), .val (.ref b22), .val (.int ((p0 &&& (2147483647 : Int32)) % (5 : Int32))), .unset, .unset, .unset] []))
  generalize hv2_1 : ((p0 &&& (2147483647 : Int32)) % (5 : Int32)) = x2_1
  have dx2_1 : f0_x2_1 p0 = x2_1 := by
    simp only [f0_x2_1]
    exact hv2_1
  by_cases hs42_38 : x2_1 = (0 : Int32)
  · show Ends p e below QQ (T37.setTop (mkF m 42 #[.val (.int p0), .val (.ref b22), .val (.int x2_1), .unset, .unset, .unset] []))
    rw [hs42_38]
    show Ends p e below QQ (T37.setTop (mkF m 42 #[.val (.int p0), .val (.ref b22), .val (.int (0 : Int32)), .unset, .unset, .unset] []))
    refine Ends.step (fun _ k => XS.aloadN X37.here hx rfl (hb hby at_42) rfl rfl k) ?_
    show Ends p e below QQ (T37.setTop (mkF m 43 #[.val (.int p0), .val (.ref b22), .val (.int (0 : Int32)), .unset, .unset, .unset] [(.ref b22)]))
    refine Ends.step (fun _ k => XS.iloadN X37.here hx rfl (hb hby at_43) rfl k) ?_
    show Ends p e below QQ (T37.setTop (mkF m 44 #[.val (.int p0), .val (.ref b22), .val (.int (0 : Int32)), .unset, .unset, .unset] [(.int (0 : Int32)), (.ref b22)]))
    obtain ⟨cl39, Ar39, q39, S39, P39, H39, G39⟩ := id A_b22
    have hin39 : ¬ ((0 : Int32) < 0 ∨ cl39.slots.size ≤ ((0 : Int32)).toNatClampNeg) := inb_of S39 ⟨by decide, by decide⟩
    have hat39 : cl39.slots[((0 : Int32)).toNatClampNeg]? = some (.ref a_EQ) := H39.at hin39 (rfl)
    refine Ends.step (fun _ k => X37.aaload hx (j := (0 : Int32)) (v := (.ref a_EQ)) (by rw [e37]; exact Ar39.1) (State.isArrayOf_alike hZ.alike Ar39.2.1) rfl Ar39.2.2 hin39 hat39 (g := (mkF m 44 #[.val (.int p0), .val (.ref b22), .val (.int (0 : Int32)), .unset, .unset, .unset] [(.int (0 : Int32)), (.ref b22)])) rfl rfl (hb hby at_44) _ k) ?_
    show Ends p e below QQ (T37.setTop (mkF m 45 #[.val (.int p0), .val (.ref b22), .val (.int (0 : Int32)), .unset, .unset, .unset] [(.ref a_EQ)]))
    refine Ends.step (fun _ k => XS.astoreN X37.here hx rfl (hb hby at_45) rfl rfl (l' := #[.val (.int p0), .val (.ref b22), .val (.int (0 : Int32)), .val (.ref a_EQ), .unset, .unset]) rfl k) ?_
    show Ends p e below QQ (T37.setTop (mkF m 46 #[.val (.int p0), .val (.ref b22), .val (.int (0 : Int32)), .val (.ref a_EQ), .unset, .unset] []))
    refine Ends.step (fun _ k => XS.aloadN X37.here hx rfl (hb hby at_46) rfl rfl k) ?_
    show Ends p e below QQ (T37.setTop (mkF m 47 #[.val (.int p0), .val (.ref b22), .val (.int (0 : Int32)), .val (.ref a_EQ), .unset, .unset] [(.ref a_EQ)]))
    obtain ⟨cq40, kq40, q40a, q40b, q40c⟩ := isOf hZ e37 E_a_EQ
    obtain ⟨_, _, ⟨T40, L40, k40, n40⟩, -, X40, ⟨Lc40, hQ40, l40, y40, z40⟩, st40⟩ := X37.virtualBack hx (y := (⟨"com/example/nuntius/nuntius/cql/Relation$Operator", "symbol", "()Ljava/lang/String;"⟩ : MethodName)) (z := (⟨"com/example/nuntius/nuntius/cql/Relation$Operator", "symbol", "()Ljava/lang/String;"⟩ : MethodName)) hown (mvT hZ (hw _ (List.mem_of_getElem? (i := 15) rfl))) (mvT hZ (hw _ (List.mem_of_getElem? (i := 16) rfl))) (notFace_of_selects (args := #[]) (mvT hZ (hw _ (List.mem_of_getElem? (i := 18) rfl)))) (mvT hZ (hw _ (List.mem_of_getElem? (i := 18) rfl))) (mvT hZ (hw _ (List.mem_of_getElem? (i := 17) rfl))) (by decide) (backOf (W := 0) (rm1 l Z a0 hw [] a_EQ a_EQ_symbol h37 n0 (Nat.le_trans Z0 K37.1) F_symbol_a_EQ) hZ (hw _ (List.mem_of_getElem? (i := 19) rfl)) (hw _ (List.mem_of_getElem? (i := 3) rfl)) (by decide) (by decide)) q40a q40c (g := (mkF m 47 #[.val (.int p0), .val (.ref b22), .val (.int (0 : Int32)), .val (.ref a_EQ), .unset, .unset] [(.ref a_EQ)])) rfl (by rw [hml]; rfl) (Steps.refl _) (argsL := []) (rest := []) (lenOf pd_5 rfl) rfl (by show 2 * 0 + _ ≤ _; exact Nat.le_of_eq rfl) (hb hby at_47) (fun _ _ => ⟨rfl, e37, (by decide : 1 + 0 ≤ _), (by decide : 5 + 0 ≤ _)⟩)
    dsimp only [Pt.U, Pt.locs, Pt.cells, Pt.slots] at X40 l40 y40 z40 st40 hQ40
    subst l40 y40 z40
    obtain ⟨rfl, Nq40, hh40⟩ := hQ40
    have N40 := Fr.app N37 Nq40
    refine Ends.step (fun _ k => st40.trans k) ?_
    show Ends p e below QQ (T40.setTop (mkF m 50 #[.val (.int p0), .val (.ref b22), .val (.int (0 : Int32)), .val (.ref a_EQ), .unset, .unset] [(.ref a_EQ_symbol)]))
    refine Ends.step (fun _ k => XS.astore X40.here hx rfl (hb hby at_50) rfl rfl (l' := #[.val (.int p0), .val (.ref b22), .val (.int (0 : Int32)), .val (.ref a_EQ), .val (.ref a_EQ_symbol), .unset]) rfl k) ?_
    show Ends p e below QQ (T40.setTop (mkF m 52 #[.val (.int p0), .val (.ref b22), .val (.int (0 : Int32)), .val (.ref a_EQ), .val (.ref a_EQ_symbol), .unset] []))
    refine Ends.step (fun _ k => XS.aload X40.here hx rfl (hb hby at_52) rfl rfl k) ?_
    show Ends p e below QQ (T40.setTop (mkF m 54 #[.val (.int p0), .val (.ref b22), .val (.int (0 : Int32)), .val (.ref a_EQ), .val (.ref a_EQ_symbol), .unset] [(.ref a_EQ_symbol)]))
    obtain ⟨cq41, kq41, q41a, q41b, q41c⟩ := isOf hZ hh40 E_a_EQ_symbol
    obtain ⟨_, _, ⟨T41, L41, k41, n41⟩, -, X41, ⟨Lc41, hQ41, l41, y41, z41⟩, st41⟩ := X40.virtualBack hx (y := (⟨"java/lang/String", "length", "()I"⟩ : MethodName)) (z := (⟨"java/lang/String", "length", "()I"⟩ : MethodName)) hown (mvT hZ (hw _ (List.mem_of_getElem? (i := 22) rfl))) (mvT hZ (hw _ (List.mem_of_getElem? (i := 23) rfl))) (notFace_of_selects (args := #[]) (mvT hZ (hw _ (List.mem_of_getElem? (i := 25) rfl)))) (mvT hZ (hw _ (List.mem_of_getElem? (i := 25) rfl))) (mvT hZ (hw _ (List.mem_of_getElem? (i := 24) rfl))) (by decide) (backOf (W := 0) (rmlen l Z a0 hw [] a_EQ_symbol a_EQ_symbol_value k_a_EQ_symbol_value (1 : Int32) [(.int (61 : Int32))] cs h37 n0 (Nat.le_trans Z0 K37.1) E_a_EQ_symbol F_value_a_EQ_symbol A_a_EQ_symbol_value S_COMPACT_STRINGS hcs F_coder_a_EQ_symbol) hZ (hw _ (List.mem_of_getElem? (i := 27) rfl)) (hw _ (List.mem_of_getElem? (i := 26) rfl)) (by decide) (by decide)) q41a q41c (g := (mkF m 54 #[.val (.int p0), .val (.ref b22), .val (.int (0 : Int32)), .val (.ref a_EQ), .val (.ref a_EQ_symbol), .unset] [(.ref a_EQ_symbol)])) rfl (by rw [hml]; rfl) (Steps.refl _) (argsL := []) (rest := []) (lenOf pd_6 rfl) rfl (by show 2 * 0 + _ ≤ _; exact Nat.le_of_eq rfl) (hb hby at_54) (fun _ _ => ⟨rfl, hh40, (by decide : 1 + 0 ≤ _), (by decide : 5 + 0 ≤ _)⟩)
    dsimp only [Pt.U, Pt.locs, Pt.cells, Pt.slots] at X41 l41 y41 z41 st41 hQ41
    subst l41 y41 z41
    obtain ⟨rfl, Nq41, hh41⟩ := hQ41
    have N41 := Fr.app N40 Nq41
    refine Ends.step (fun _ k => st41.trans k) ?_
    show Ends p e below QQ (T41.setTop (mkF m 57 #[.val (.int p0), .val (.ref b22), .val (.int (0 : Int32)), .val (.ref a_EQ), .val (.ref a_EQ_symbol), .unset] [(.int (1 : Int32))]))
    refine Ends.step (fun _ k => XS.ifNo X41.here hx rfl (hb hby at_57) rfl (XT.i0_le_f (by decide)) k) ?_
    show Ends p e below QQ (T41.setTop (mkF m 60 #[.val (.int p0), .val (.ref b22), .val (.int (0 : Int32)), .val (.ref a_EQ), .val (.ref a_EQ_symbol), .unset] []))
    refine Ends.step (fun _ k => XS.aload X41.here hx rfl (hb hby at_60) rfl rfl k) ?_
    show Ends p e below QQ (T41.setTop (mkF m 62 #[.val (.int p0), .val (.ref b22), .val (.int (0 : Int32)), .val (.ref a_EQ), .val (.ref a_EQ_symbol), .unset] [(.ref a_EQ_symbol)]))
    refine Ends.step (fun _ k => XT.iconstV X41.here hx rfl (0 : Int32) (hb hby at_62) rfl k) ?_
    show Ends p e below QQ (T41.setTop (mkF m 63 #[.val (.int p0), .val (.ref b22), .val (.int (0 : Int32)), .val (.ref a_EQ), .val (.ref a_EQ_symbol), .unset] [(.int (0 : Int32)), (.ref a_EQ_symbol)]))
    obtain ⟨cq42, kq42, q42a, q42b, q42c⟩ := isOf hZ hh41 E_a_EQ_symbol
    obtain ⟨_, _, ⟨T42, L42, k42, n42⟩, -, X42, ⟨Lc42, hQ42, l42, y42, z42⟩, st42⟩ := X41.virtualBack hx (y := (⟨"java/lang/String", "charAt", "(I)C"⟩ : MethodName)) (z := (⟨"java/lang/String", "charAt", "(I)C"⟩ : MethodName)) hown (mvT hZ (hw _ (List.mem_of_getElem? (i := 38) rfl))) (mvT hZ (hw _ (List.mem_of_getElem? (i := 39) rfl))) (notFace_of_selects (args := #[]) (mvT hZ (hw _ (List.mem_of_getElem? (i := 41) rfl)))) (mvT hZ (hw _ (List.mem_of_getElem? (i := 41) rfl))) (mvT hZ (hw _ (List.mem_of_getElem? (i := 40) rfl))) (by decide) (backOf (W := 0) (rmcha l Z a0 hw [] a_EQ_symbol (0 : Int32) a_EQ_symbol_value k_a_EQ_symbol_value (1 : Int32) [(.int (61 : Int32))] (61 : Int32) cs sf h37 n0 (Nat.le_trans Z0 K37.1) E_a_EQ_symbol F_value_a_EQ_symbol A_a_EQ_symbol_value S_COMPACT_STRINGS hcs F_coder_a_EQ_symbol S_SIOOBE_FORMATTER hr_sf (by decide) (by decide) rfl) hZ (hw _ (List.mem_of_getElem? (i := 42) rfl)) (hw _ (List.mem_of_getElem? (i := 26) rfl)) (by decide) (by decide)) q42a q42c (g := (mkF m 63 #[.val (.int p0), .val (.ref b22), .val (.int (0 : Int32)), .val (.ref a_EQ), .val (.ref a_EQ_symbol), .unset] [(.int (0 : Int32)), (.ref a_EQ_symbol)])) rfl (by rw [hml]; rfl) (Steps.refl _) (argsL := [(.int (0 : Int32))]) (rest := []) (lenOf pd_7 rfl) rfl (by show 2 * 0 + _ ≤ _; exact Nat.le_of_eq rfl) (hb hby at_63) (fun _ _ => ⟨rfl, hh41, (by decide : 1 + 0 ≤ _), (by decide : 5 + 0 ≤ _)⟩)
    dsimp only [Pt.U, Pt.locs, Pt.cells, Pt.slots] at X42 l42 y42 z42 st42 hQ42
    subst l42 y42 z42
    obtain ⟨rfl, Nq42, hh42⟩ := hQ42
    have N42 := Fr.app N41 Nq42
    refine Ends.step (fun _ k => st42.trans k) ?_
    show Ends p e below QQ (T42.setTop (mkF m 66 #[.val (.int p0), .val (.ref b22), .val (.int (0 : Int32)), .val (.ref a_EQ), .val (.ref a_EQ_symbol), .unset] [(.int ((61 : Int32) &&& (255 : Int32)))]))
    refine Ends.step (fun _ k => XT.bipushV X42.here hx rfl (62 : Int32) (hb hby at_66) rfl k) ?_
    show Ends p e below QQ (T42.setTop (mkF m 68 #[.val (.int p0), .val (.ref b22), .val (.int (0 : Int32)), .val (.ref a_EQ), .val (.ref a_EQ_symbol), .unset] [(.int (62 : Int32)), (.int ((61 : Int32) &&& (255 : Int32)))]))
    have J76_43 : (∀ (v76_2 : Int32) (hv76_2 : v76_2 = (if ((61 : Int32) &&& (255 : Int32)) = (62 : Int32) then (1 : Int32) else (0 : Int32))), Ends p e below QQ (T42.setTop (mkF m 76 #[.val (.int p0), .val (.ref b22), .val (.int (0 : Int32)), .val (.ref a_EQ), .val (.ref a_EQ_symbol), .unset] [(.int v76_2)]))) → Ends p e below QQ (T42.setTop (mkF m 68 #[.val (.int p0), .val (.ref b22), .val (.int (0 : Int32)), .val (.ref a_EQ), .val (.ref a_EQ_symbol), .unset] [(.int (62 : Int32)), (.int ((61 : Int32) &&& (255 : Int32)))])) := by
      intro hJ
      by_cases hc68_44 : ((61 : Int32) &&& (255 : Int32)) = (62 : Int32)
      · refine Ends.step (fun _ k => XS.icmpNo X42.here hx rfl (hb hby at_68) rfl (XT.ii_ne_f hc68_44) k) ?_
        show Ends p e below QQ (T42.setTop (mkF m 71 #[.val (.int p0), .val (.ref b22), .val (.int (0 : Int32)), .val (.ref a_EQ), .val (.ref a_EQ_symbol), .unset] []))
        refine Ends.step (fun _ k => XT.iconstV X42.here hx rfl (1 : Int32) (hb hby at_71) rfl k) ?_
        show Ends p e below QQ (T42.setTop (mkF m 72 #[.val (.int p0), .val (.ref b22), .val (.int (0 : Int32)), .val (.ref a_EQ), .val (.ref a_EQ_symbol), .unset] [(.int (1 : Int32))]))
        refine Ends.step (fun _ k => XS.goto X42.here hx rfl (pc0 := 72) (pc' := 76) rfl (hb hby at_72) (by decide) (by decide) k) ?_
        exact hJ _ (by simp only [if_pos hc68_44])
      · refine Ends.step (fun _ k => XS.icmpYes X42.here hx rfl (pc0 := 68) (pc' := 75) rfl (hb hby at_68) rfl (XT.ii_ne_t hc68_44) (by decide) (by decide) k) ?_
        show Ends p e below QQ (T42.setTop (mkF m 75 #[.val (.int p0), .val (.ref b22), .val (.int (0 : Int32)), .val (.ref a_EQ), .val (.ref a_EQ_symbol), .unset] []))
        refine Ends.step (fun _ k => XT.iconstV X42.here hx rfl (0 : Int32) (hb hby at_75) rfl k) ?_
        exact hJ _ (by simp only [if_neg hc68_44])
    refine J76_43 fun v76_2 hv76_2 => ?_
    have dv76_2 : f0_v76_2 p0 = v76_2 := by
      simp only [f0_v76_2]
      exact hv76_2.symm
    show Ends p e below QQ (T42.setTop (mkF m 76 #[.val (.int p0), .val (.ref b22), .val (.int (0 : Int32)), .val (.ref a_EQ), .val (.ref a_EQ_symbol), .unset] [(.int v76_2)]))
    refine Ends.step (fun _ k => XS.istore X42.here hx rfl (hb hby at_76) rfl (l' := #[.val (.int p0), .val (.ref b22), .val (.int (0 : Int32)), .val (.ref a_EQ), .val (.ref a_EQ_symbol), .val (.int v76_2)]) rfl k) ?_
    show Ends p e below QQ (T42.setTop (mkF m 78 #[.val (.int p0), .val (.ref b22), .val (.int (0 : Int32)), .val (.ref a_EQ), .val (.ref a_EQ_symbol), .val (.int v76_2)] []))
    refine Ends.step (fun _ k => XS.aloadN X42.here hx rfl (hb hby at_78) rfl rfl k) ?_
    show Ends p e below QQ (T42.setTop (mkF m 79 #[.val (.int p0), .val (.ref b22), .val (.int (0 : Int32)), .val (.ref a_EQ), .val (.ref a_EQ_symbol), .val (.int v76_2)] [(.ref a_EQ)]))
    obtain ⟨cq45, kq45, q45a, q45b, q45c⟩ := isOf hZ hh42 E_a_EQ
    obtain ⟨_, _, ⟨T45, L45, k45, n45⟩, -, X45, ⟨Lc45, hQ45, l45, y45, z45⟩, st45⟩ := X42.virtualBack hx (y := (⟨"com/example/nuntius/nuntius/cql/Relation$Operator", "isLowerBound", "()Z"⟩ : MethodName)) (z := (⟨"com/example/nuntius/nuntius/cql/Relation$Operator", "isLowerBound", "()Z"⟩ : MethodName)) hown (mvT hZ (hw _ (List.mem_of_getElem? (i := 60) rfl))) (mvT hZ (hw _ (List.mem_of_getElem? (i := 61) rfl))) (notFace_of_selects (args := #[]) (mvT hZ (hw _ (List.mem_of_getElem? (i := 63) rfl)))) (mvT hZ (hw _ (List.mem_of_getElem? (i := 63) rfl))) (mvT hZ (hw _ (List.mem_of_getElem? (i := 62) rfl))) (by decide) (backOf (W := 0) (rm9n l Z a0 hw [] a_EQ a_GT a_GTE h37 n0 (Nat.le_trans Z0 K37.1) S_GT S_GTE ne_a_EQ_a_GT ne_a_EQ_a_GTE) hZ (hw _ (List.mem_of_getElem? (i := 64) rfl)) (hw _ (List.mem_of_getElem? (i := 3) rfl)) (by decide) (by decide)) q45a q45c (g := (mkF m 79 #[.val (.int p0), .val (.ref b22), .val (.int (0 : Int32)), .val (.ref a_EQ), .val (.ref a_EQ_symbol), .val (.int v76_2)] [(.ref a_EQ)])) rfl (by rw [hml]; rfl) (Steps.refl _) (argsL := []) (rest := []) (lenOf pd_3 rfl) rfl (by show 2 * 0 + _ ≤ _; exact Nat.le_of_eq rfl) (hb hby at_79) (fun _ _ => ⟨rfl, hh42, (by decide : 1 + 0 ≤ _), (by decide : 5 + 0 ≤ _)⟩)
    dsimp only [Pt.U, Pt.locs, Pt.cells, Pt.slots] at X45 l45 y45 z45 st45 hQ45
    subst l45 y45 z45
    obtain ⟨rfl, Nq45, hh45⟩ := hQ45
    have N45 := Fr.app N42 Nq45
    refine Ends.step (fun _ k => st45.trans k) ?_
    show Ends p e below QQ (T45.setTop (mkF m 82 #[.val (.int p0), .val (.ref b22), .val (.int (0 : Int32)), .val (.ref a_EQ), .val (.ref a_EQ_symbol), .val (.int v76_2)] [(.int (0 : Int32))]))
    refine Ends.step (fun _ k => XS.iload X45.here hx rfl (hb hby at_82) rfl k) ?_
    show Ends p e below QQ (T45.setTop (mkF m 84 #[.val (.int p0), .val (.ref b22), .val (.int (0 : Int32)), .val (.ref a_EQ), .val (.ref a_EQ_symbol), .val (.int v76_2)] [(.int v76_2), (.int (0 : Int32))]))
    have J92_46 : (∀ (v92_3 : Int32) (hv92_3 : v92_3 = (if (0 : Int32) = v76_2 then (1 : Int32) else (0 : Int32))), Ends p e below QQ (T45.setTop (mkF m 92 #[.val (.int p0), .val (.ref b22), .val (.int (0 : Int32)), .val (.ref a_EQ), .val (.ref a_EQ_symbol), .val (.int v76_2)] [(.int v92_3)]))) → Ends p e below QQ (T45.setTop (mkF m 84 #[.val (.int p0), .val (.ref b22), .val (.int (0 : Int32)), .val (.ref a_EQ), .val (.ref a_EQ_symbol), .val (.int v76_2)] [(.int v76_2), (.int (0 : Int32))])) := by
      intro hJ
      by_cases hc84_47 : (0 : Int32) = v76_2
      · refine Ends.step (fun _ k => XS.icmpNo X45.here hx rfl (hb hby at_84) rfl (XT.ii_ne_f hc84_47) k) ?_
        show Ends p e below QQ (T45.setTop (mkF m 87 #[.val (.int p0), .val (.ref b22), .val (.int (0 : Int32)), .val (.ref a_EQ), .val (.ref a_EQ_symbol), .val (.int v76_2)] []))
        refine Ends.step (fun _ k => XT.iconstV X45.here hx rfl (1 : Int32) (hb hby at_87) rfl k) ?_
        show Ends p e below QQ (T45.setTop (mkF m 88 #[.val (.int p0), .val (.ref b22), .val (.int (0 : Int32)), .val (.ref a_EQ), .val (.ref a_EQ_symbol), .val (.int v76_2)] [(.int (1 : Int32))]))
        refine Ends.step (fun _ k => XS.goto X45.here hx rfl (pc0 := 88) (pc' := 92) rfl (hb hby at_88) (by decide) (by decide) k) ?_
        exact hJ _ (by simp only [if_pos hc84_47])
      · refine Ends.step (fun _ k => XS.icmpYes X45.here hx rfl (pc0 := 84) (pc' := 91) rfl (hb hby at_84) rfl (XT.ii_ne_t hc84_47) (by decide) (by decide) k) ?_
        show Ends p e below QQ (T45.setTop (mkF m 91 #[.val (.int p0), .val (.ref b22), .val (.int (0 : Int32)), .val (.ref a_EQ), .val (.ref a_EQ_symbol), .val (.int v76_2)] []))
        refine Ends.step (fun _ k => XT.iconstV X45.here hx rfl (0 : Int32) (hb hby at_91) rfl k) ?_
        exact hJ _ (by simp only [if_neg hc84_47])
    refine J92_46 fun v92_3 hv92_3 => ?_
    have dv92_3 : f0_v92_3 p0 = v92_3 := by
      simp only [f0_v92_3, dv76_2]
      exact hv92_3.symm
    show Ends p e below QQ (T45.setTop (mkF m 92 #[.val (.int p0), .val (.ref b22), .val (.int (0 : Int32)), .val (.ref a_EQ), .val (.ref a_EQ_symbol), .val (.int v76_2)] [(.int v92_3)]))
    exact Ends.fin (some (.int v92_3)) X45 hQQ (fun h => by rw [Bd.returns] at h; cases h) Bd.notSynchronized (fun _ hr => retOut X45 hx (t := .boolean) Bd.returns (by rw [hv92_3]; exact own_narB (by repeat' (first | exact Or.inl rfl | exact Or.inr rfl | apply own_01))) (Or.inl ⟨rfl, (by simp), _, rfl⟩) (hb hby at_92) hr) hh45 (by decide) (by decide) ⟨(by simp only [f0, dx2_1, dv76_2, dv92_3, if_pos hs42_38]), N45, K37⟩
  · show Ends p e below QQ (T37.setTop (mkF m 42 #[.val (.int p0), .val (.ref b22), .val (.int x2_1), .unset, .unset, .unset] []))
    by_cases hs42_48 : x2_1 = (1 : Int32)
    · show Ends p e below QQ (T37.setTop (mkF m 42 #[.val (.int p0), .val (.ref b22), .val (.int x2_1), .unset, .unset, .unset] []))
      rw [hs42_48]
      show Ends p e below QQ (T37.setTop (mkF m 42 #[.val (.int p0), .val (.ref b22), .val (.int (1 : Int32)), .unset, .unset, .unset] []))
      refine Ends.step (fun _ k => XS.aloadN X37.here hx rfl (hb hby at_42) rfl rfl k) ?_
      show Ends p e below QQ (T37.setTop (mkF m 43 #[.val (.int p0), .val (.ref b22), .val (.int (1 : Int32)), .unset, .unset, .unset] [(.ref b22)]))
      refine Ends.step (fun _ k => XS.iloadN X37.here hx rfl (hb hby at_43) rfl k) ?_
      show Ends p e below QQ (T37.setTop (mkF m 44 #[.val (.int p0), .val (.ref b22), .val (.int (1 : Int32)), .unset, .unset, .unset] [(.int (1 : Int32)), (.ref b22)]))
      obtain ⟨cl49, Ar49, q49, S49, P49, H49, G49⟩ := id A_b22
      have hin49 : ¬ ((1 : Int32) < 0 ∨ cl49.slots.size ≤ ((1 : Int32)).toNatClampNeg) := inb_of S49 ⟨by decide, by decide⟩
      have hat49 : cl49.slots[((1 : Int32)).toNatClampNeg]? = some (.ref a_LT) := H49.at hin49 (rfl)
      refine Ends.step (fun _ k => X37.aaload hx (j := (1 : Int32)) (v := (.ref a_LT)) (by rw [e37]; exact Ar49.1) (State.isArrayOf_alike hZ.alike Ar49.2.1) rfl Ar49.2.2 hin49 hat49 (g := (mkF m 44 #[.val (.int p0), .val (.ref b22), .val (.int (1 : Int32)), .unset, .unset, .unset] [(.int (1 : Int32)), (.ref b22)])) rfl rfl (hb hby at_44) _ k) ?_
      show Ends p e below QQ (T37.setTop (mkF m 45 #[.val (.int p0), .val (.ref b22), .val (.int (1 : Int32)), .unset, .unset, .unset] [(.ref a_LT)]))
      refine Ends.step (fun _ k => XS.astoreN X37.here hx rfl (hb hby at_45) rfl rfl (l' := #[.val (.int p0), .val (.ref b22), .val (.int (1 : Int32)), .val (.ref a_LT), .unset, .unset]) rfl k) ?_
      show Ends p e below QQ (T37.setTop (mkF m 46 #[.val (.int p0), .val (.ref b22), .val (.int (1 : Int32)), .val (.ref a_LT), .unset, .unset] []))
      refine Ends.step (fun _ k => XS.aloadN X37.here hx rfl (hb hby at_46) rfl rfl k) ?_
      show Ends p e below QQ (T37.setTop (mkF m 47 #[.val (.int p0), .val (.ref b22), .val (.int (1 : Int32)), .val (.ref a_LT), .unset, .unset] [(.ref a_LT)]))
      obtain ⟨cq50, kq50, q50a, q50b, q50c⟩ := isOf hZ e37 E_a_LT
      obtain ⟨_, _, ⟨T50, L50, k50, n50⟩, -, X50, ⟨Lc50, hQ50, l50, y50, z50⟩, st50⟩ := X37.virtualBack hx (y := (⟨"com/example/nuntius/nuntius/cql/Relation$Operator", "symbol", "()Ljava/lang/String;"⟩ : MethodName)) (z := (⟨"com/example/nuntius/nuntius/cql/Relation$Operator", "symbol", "()Ljava/lang/String;"⟩ : MethodName)) hown (mvT hZ (hw _ (List.mem_of_getElem? (i := 15) rfl))) (mvT hZ (hw _ (List.mem_of_getElem? (i := 16) rfl))) (notFace_of_selects (args := #[]) (mvT hZ (hw _ (List.mem_of_getElem? (i := 18) rfl)))) (mvT hZ (hw _ (List.mem_of_getElem? (i := 18) rfl))) (mvT hZ (hw _ (List.mem_of_getElem? (i := 17) rfl))) (by decide) (backOf (W := 0) (rm1 l Z a0 hw [] a_LT a_LT_symbol h37 n0 (Nat.le_trans Z0 K37.1) F_symbol_a_LT) hZ (hw _ (List.mem_of_getElem? (i := 19) rfl)) (hw _ (List.mem_of_getElem? (i := 3) rfl)) (by decide) (by decide)) q50a q50c (g := (mkF m 47 #[.val (.int p0), .val (.ref b22), .val (.int (1 : Int32)), .val (.ref a_LT), .unset, .unset] [(.ref a_LT)])) rfl (by rw [hml]; rfl) (Steps.refl _) (argsL := []) (rest := []) (lenOf pd_5 rfl) rfl (by show 2 * 0 + _ ≤ _; exact Nat.le_of_eq rfl) (hb hby at_47) (fun _ _ => ⟨rfl, e37, (by decide : 1 + 0 ≤ _), (by decide : 5 + 0 ≤ _)⟩)
      dsimp only [Pt.U, Pt.locs, Pt.cells, Pt.slots] at X50 l50 y50 z50 st50 hQ50
      subst l50 y50 z50
      obtain ⟨rfl, Nq50, hh50⟩ := hQ50
      have N50 := Fr.app N37 Nq50
      refine Ends.step (fun _ k => st50.trans k) ?_
      show Ends p e below QQ (T50.setTop (mkF m 50 #[.val (.int p0), .val (.ref b22), .val (.int (1 : Int32)), .val (.ref a_LT), .unset, .unset] [(.ref a_LT_symbol)]))
      refine Ends.step (fun _ k => XS.astore X50.here hx rfl (hb hby at_50) rfl rfl (l' := #[.val (.int p0), .val (.ref b22), .val (.int (1 : Int32)), .val (.ref a_LT), .val (.ref a_LT_symbol), .unset]) rfl k) ?_
      show Ends p e below QQ (T50.setTop (mkF m 52 #[.val (.int p0), .val (.ref b22), .val (.int (1 : Int32)), .val (.ref a_LT), .val (.ref a_LT_symbol), .unset] []))
      refine Ends.step (fun _ k => XS.aload X50.here hx rfl (hb hby at_52) rfl rfl k) ?_
      show Ends p e below QQ (T50.setTop (mkF m 54 #[.val (.int p0), .val (.ref b22), .val (.int (1 : Int32)), .val (.ref a_LT), .val (.ref a_LT_symbol), .unset] [(.ref a_LT_symbol)]))
      obtain ⟨cq51, kq51, q51a, q51b, q51c⟩ := isOf hZ hh50 E_a_LT_symbol
      obtain ⟨_, _, ⟨T51, L51, k51, n51⟩, -, X51, ⟨Lc51, hQ51, l51, y51, z51⟩, st51⟩ := X50.virtualBack hx (y := (⟨"java/lang/String", "length", "()I"⟩ : MethodName)) (z := (⟨"java/lang/String", "length", "()I"⟩ : MethodName)) hown (mvT hZ (hw _ (List.mem_of_getElem? (i := 22) rfl))) (mvT hZ (hw _ (List.mem_of_getElem? (i := 23) rfl))) (notFace_of_selects (args := #[]) (mvT hZ (hw _ (List.mem_of_getElem? (i := 25) rfl)))) (mvT hZ (hw _ (List.mem_of_getElem? (i := 25) rfl))) (mvT hZ (hw _ (List.mem_of_getElem? (i := 24) rfl))) (by decide) (backOf (W := 0) (rmlen l Z a0 hw [] a_LT_symbol a_LT_symbol_value k_a_LT_symbol_value (1 : Int32) [(.int (60 : Int32))] cs h37 n0 (Nat.le_trans Z0 K37.1) E_a_LT_symbol F_value_a_LT_symbol A_a_LT_symbol_value S_COMPACT_STRINGS hcs F_coder_a_LT_symbol) hZ (hw _ (List.mem_of_getElem? (i := 27) rfl)) (hw _ (List.mem_of_getElem? (i := 26) rfl)) (by decide) (by decide)) q51a q51c (g := (mkF m 54 #[.val (.int p0), .val (.ref b22), .val (.int (1 : Int32)), .val (.ref a_LT), .val (.ref a_LT_symbol), .unset] [(.ref a_LT_symbol)])) rfl (by rw [hml]; rfl) (Steps.refl _) (argsL := []) (rest := []) (lenOf pd_6 rfl) rfl (by show 2 * 0 + _ ≤ _; exact Nat.le_of_eq rfl) (hb hby at_54) (fun _ _ => ⟨rfl, hh50, (by decide : 1 + 0 ≤ _), (by decide : 5 + 0 ≤ _)⟩)
      dsimp only [Pt.U, Pt.locs, Pt.cells, Pt.slots] at X51 l51 y51 z51 st51 hQ51
      subst l51 y51 z51
      obtain ⟨rfl, Nq51, hh51⟩ := hQ51
      have N51 := Fr.app N50 Nq51
      refine Ends.step (fun _ k => st51.trans k) ?_
      show Ends p e below QQ (T51.setTop (mkF m 57 #[.val (.int p0), .val (.ref b22), .val (.int (1 : Int32)), .val (.ref a_LT), .val (.ref a_LT_symbol), .unset] [(.int (1 : Int32))]))
      refine Ends.step (fun _ k => XS.ifNo X51.here hx rfl (hb hby at_57) rfl (XT.i0_le_f (by decide)) k) ?_
      show Ends p e below QQ (T51.setTop (mkF m 60 #[.val (.int p0), .val (.ref b22), .val (.int (1 : Int32)), .val (.ref a_LT), .val (.ref a_LT_symbol), .unset] []))
      refine Ends.step (fun _ k => XS.aload X51.here hx rfl (hb hby at_60) rfl rfl k) ?_
      show Ends p e below QQ (T51.setTop (mkF m 62 #[.val (.int p0), .val (.ref b22), .val (.int (1 : Int32)), .val (.ref a_LT), .val (.ref a_LT_symbol), .unset] [(.ref a_LT_symbol)]))
      refine Ends.step (fun _ k => XT.iconstV X51.here hx rfl (0 : Int32) (hb hby at_62) rfl k) ?_
      show Ends p e below QQ (T51.setTop (mkF m 63 #[.val (.int p0), .val (.ref b22), .val (.int (1 : Int32)), .val (.ref a_LT), .val (.ref a_LT_symbol), .unset] [(.int (0 : Int32)), (.ref a_LT_symbol)]))
      obtain ⟨cq52, kq52, q52a, q52b, q52c⟩ := isOf hZ hh51 E_a_LT_symbol
      obtain ⟨_, _, ⟨T52, L52, k52, n52⟩, -, X52, ⟨Lc52, hQ52, l52, y52, z52⟩, st52⟩ := X51.virtualBack hx (y := (⟨"java/lang/String", "charAt", "(I)C"⟩ : MethodName)) (z := (⟨"java/lang/String", "charAt", "(I)C"⟩ : MethodName)) hown (mvT hZ (hw _ (List.mem_of_getElem? (i := 38) rfl))) (mvT hZ (hw _ (List.mem_of_getElem? (i := 39) rfl))) (notFace_of_selects (args := #[]) (mvT hZ (hw _ (List.mem_of_getElem? (i := 41) rfl)))) (mvT hZ (hw _ (List.mem_of_getElem? (i := 41) rfl))) (mvT hZ (hw _ (List.mem_of_getElem? (i := 40) rfl))) (by decide) (backOf (W := 0) (rmcha l Z a0 hw [] a_LT_symbol (0 : Int32) a_LT_symbol_value k_a_LT_symbol_value (1 : Int32) [(.int (60 : Int32))] (60 : Int32) cs sf h37 n0 (Nat.le_trans Z0 K37.1) E_a_LT_symbol F_value_a_LT_symbol A_a_LT_symbol_value S_COMPACT_STRINGS hcs F_coder_a_LT_symbol S_SIOOBE_FORMATTER hr_sf (by decide) (by decide) rfl) hZ (hw _ (List.mem_of_getElem? (i := 42) rfl)) (hw _ (List.mem_of_getElem? (i := 26) rfl)) (by decide) (by decide)) q52a q52c (g := (mkF m 63 #[.val (.int p0), .val (.ref b22), .val (.int (1 : Int32)), .val (.ref a_LT), .val (.ref a_LT_symbol), .unset] [(.int (0 : Int32)), (.ref a_LT_symbol)])) rfl (by rw [hml]; rfl) (Steps.refl _) (argsL := [(.int (0 : Int32))]) (rest := []) (lenOf pd_7 rfl) rfl (by show 2 * 0 + _ ≤ _; exact Nat.le_of_eq rfl) (hb hby at_63) (fun _ _ => ⟨rfl, hh51, (by decide : 1 + 0 ≤ _), (by decide : 5 + 0 ≤ _)⟩)
      dsimp only [Pt.U, Pt.locs, Pt.cells, Pt.slots] at X52 l52 y52 z52 st52 hQ52
      subst l52 y52 z52
      obtain ⟨rfl, Nq52, hh52⟩ := hQ52
      have N52 := Fr.app N51 Nq52
      refine Ends.step (fun _ k => st52.trans k) ?_
      show Ends p e below QQ (T52.setTop (mkF m 66 #[.val (.int p0), .val (.ref b22), .val (.int (1 : Int32)), .val (.ref a_LT), .val (.ref a_LT_symbol), .unset] [(.int ((60 : Int32) &&& (255 : Int32)))]))
      refine Ends.step (fun _ k => XT.bipushV X52.here hx rfl (62 : Int32) (hb hby at_66) rfl k) ?_
      show Ends p e below QQ (T52.setTop (mkF m 68 #[.val (.int p0), .val (.ref b22), .val (.int (1 : Int32)), .val (.ref a_LT), .val (.ref a_LT_symbol), .unset] [(.int (62 : Int32)), (.int ((60 : Int32) &&& (255 : Int32)))]))
      have J76_53 : (∀ (v76_4 : Int32) (hv76_4 : v76_4 = (if ((60 : Int32) &&& (255 : Int32)) = (62 : Int32) then (1 : Int32) else (0 : Int32))), Ends p e below QQ (T52.setTop (mkF m 76 #[.val (.int p0), .val (.ref b22), .val (.int (1 : Int32)), .val (.ref a_LT), .val (.ref a_LT_symbol), .unset] [(.int v76_4)]))) → Ends p e below QQ (T52.setTop (mkF m 68 #[.val (.int p0), .val (.ref b22), .val (.int (1 : Int32)), .val (.ref a_LT), .val (.ref a_LT_symbol), .unset] [(.int (62 : Int32)), (.int ((60 : Int32) &&& (255 : Int32)))])) := by
        intro hJ
        by_cases hc68_54 : ((60 : Int32) &&& (255 : Int32)) = (62 : Int32)
        · refine Ends.step (fun _ k => XS.icmpNo X52.here hx rfl (hb hby at_68) rfl (XT.ii_ne_f hc68_54) k) ?_
          show Ends p e below QQ (T52.setTop (mkF m 71 #[.val (.int p0), .val (.ref b22), .val (.int (1 : Int32)), .val (.ref a_LT), .val (.ref a_LT_symbol), .unset] []))
          refine Ends.step (fun _ k => XT.iconstV X52.here hx rfl (1 : Int32) (hb hby at_71) rfl k) ?_
          show Ends p e below QQ (T52.setTop (mkF m 72 #[.val (.int p0), .val (.ref b22), .val (.int (1 : Int32)), .val (.ref a_LT), .val (.ref a_LT_symbol), .unset] [(.int (1 : Int32))]))
          refine Ends.step (fun _ k => XS.goto X52.here hx rfl (pc0 := 72) (pc' := 76) rfl (hb hby at_72) (by decide) (by decide) k) ?_
          exact hJ _ (by simp only [if_pos hc68_54])
        · refine Ends.step (fun _ k => XS.icmpYes X52.here hx rfl (pc0 := 68) (pc' := 75) rfl (hb hby at_68) rfl (XT.ii_ne_t hc68_54) (by decide) (by decide) k) ?_
          show Ends p e below QQ (T52.setTop (mkF m 75 #[.val (.int p0), .val (.ref b22), .val (.int (1 : Int32)), .val (.ref a_LT), .val (.ref a_LT_symbol), .unset] []))
          refine Ends.step (fun _ k => XT.iconstV X52.here hx rfl (0 : Int32) (hb hby at_75) rfl k) ?_
          exact hJ _ (by simp only [if_neg hc68_54])
      refine J76_53 fun v76_4 hv76_4 => ?_
      have dv76_4 : f0_v76_4 p0 = v76_4 := by
        simp only [f0_v76_4]
        exact hv76_4.symm
      show Ends p e below QQ (T52.setTop (mkF m 76 #[.val (.int p0), .val (.ref b22), .val (.int (1 : Int32)), .val (.ref a_LT), .val (.ref a_LT_symbol), .unset] [(.int v76_4)]))
      refine Ends.step (fun _ k => XS.istore X52.here hx rfl (hb hby at_76) rfl (l' := #[.val (.int p0), .val (.ref b22), .val (.int (1 : Int32)), .val (.ref a_LT), .val (.ref a_LT_symbol), .val (.int v76_4)]) rfl k) ?_
      show Ends p e below QQ (T52.setTop (mkF m 78 #[.val (.int p0), .val (.ref b22), .val (.int (1 : Int32)), .val (.ref a_LT), .val (.ref a_LT_symbol), .val (.int v76_4)] []))
      refine Ends.step (fun _ k => XS.aloadN X52.here hx rfl (hb hby at_78) rfl rfl k) ?_
      show Ends p e below QQ (T52.setTop (mkF m 79 #[.val (.int p0), .val (.ref b22), .val (.int (1 : Int32)), .val (.ref a_LT), .val (.ref a_LT_symbol), .val (.int v76_4)] [(.ref a_LT)]))
      obtain ⟨cq55, kq55, q55a, q55b, q55c⟩ := isOf hZ hh52 E_a_LT
      obtain ⟨_, _, ⟨T55, L55, k55, n55⟩, -, X55, ⟨Lc55, hQ55, l55, y55, z55⟩, st55⟩ := X52.virtualBack hx (y := (⟨"com/example/nuntius/nuntius/cql/Relation$Operator", "isLowerBound", "()Z"⟩ : MethodName)) (z := (⟨"com/example/nuntius/nuntius/cql/Relation$Operator", "isLowerBound", "()Z"⟩ : MethodName)) hown (mvT hZ (hw _ (List.mem_of_getElem? (i := 60) rfl))) (mvT hZ (hw _ (List.mem_of_getElem? (i := 61) rfl))) (notFace_of_selects (args := #[]) (mvT hZ (hw _ (List.mem_of_getElem? (i := 63) rfl)))) (mvT hZ (hw _ (List.mem_of_getElem? (i := 63) rfl))) (mvT hZ (hw _ (List.mem_of_getElem? (i := 62) rfl))) (by decide) (backOf (W := 0) (rm9n l Z a0 hw [] a_LT a_GT a_GTE h37 n0 (Nat.le_trans Z0 K37.1) S_GT S_GTE ne_a_LT_a_GT ne_a_LT_a_GTE) hZ (hw _ (List.mem_of_getElem? (i := 64) rfl)) (hw _ (List.mem_of_getElem? (i := 3) rfl)) (by decide) (by decide)) q55a q55c (g := (mkF m 79 #[.val (.int p0), .val (.ref b22), .val (.int (1 : Int32)), .val (.ref a_LT), .val (.ref a_LT_symbol), .val (.int v76_4)] [(.ref a_LT)])) rfl (by rw [hml]; rfl) (Steps.refl _) (argsL := []) (rest := []) (lenOf pd_3 rfl) rfl (by show 2 * 0 + _ ≤ _; exact Nat.le_of_eq rfl) (hb hby at_79) (fun _ _ => ⟨rfl, hh52, (by decide : 1 + 0 ≤ _), (by decide : 5 + 0 ≤ _)⟩)
      dsimp only [Pt.U, Pt.locs, Pt.cells, Pt.slots] at X55 l55 y55 z55 st55 hQ55
      subst l55 y55 z55
      obtain ⟨rfl, Nq55, hh55⟩ := hQ55
      have N55 := Fr.app N52 Nq55
      refine Ends.step (fun _ k => st55.trans k) ?_
      show Ends p e below QQ (T55.setTop (mkF m 82 #[.val (.int p0), .val (.ref b22), .val (.int (1 : Int32)), .val (.ref a_LT), .val (.ref a_LT_symbol), .val (.int v76_4)] [(.int (0 : Int32))]))
      refine Ends.step (fun _ k => XS.iload X55.here hx rfl (hb hby at_82) rfl k) ?_
      show Ends p e below QQ (T55.setTop (mkF m 84 #[.val (.int p0), .val (.ref b22), .val (.int (1 : Int32)), .val (.ref a_LT), .val (.ref a_LT_symbol), .val (.int v76_4)] [(.int v76_4), (.int (0 : Int32))]))
      have J92_56 : (∀ (v92_5 : Int32) (hv92_5 : v92_5 = (if (0 : Int32) = v76_4 then (1 : Int32) else (0 : Int32))), Ends p e below QQ (T55.setTop (mkF m 92 #[.val (.int p0), .val (.ref b22), .val (.int (1 : Int32)), .val (.ref a_LT), .val (.ref a_LT_symbol), .val (.int v76_4)] [(.int v92_5)]))) → Ends p e below QQ (T55.setTop (mkF m 84 #[.val (.int p0), .val (.ref b22), .val (.int (1 : Int32)), .val (.ref a_LT), .val (.ref a_LT_symbol), .val (.int v76_4)] [(.int v76_4), (.int (0 : Int32))])) := by
        intro hJ
        by_cases hc84_57 : (0 : Int32) = v76_4
        · refine Ends.step (fun _ k => XS.icmpNo X55.here hx rfl (hb hby at_84) rfl (XT.ii_ne_f hc84_57) k) ?_
          show Ends p e below QQ (T55.setTop (mkF m 87 #[.val (.int p0), .val (.ref b22), .val (.int (1 : Int32)), .val (.ref a_LT), .val (.ref a_LT_symbol), .val (.int v76_4)] []))
          refine Ends.step (fun _ k => XT.iconstV X55.here hx rfl (1 : Int32) (hb hby at_87) rfl k) ?_
          show Ends p e below QQ (T55.setTop (mkF m 88 #[.val (.int p0), .val (.ref b22), .val (.int (1 : Int32)), .val (.ref a_LT), .val (.ref a_LT_symbol), .val (.int v76_4)] [(.int (1 : Int32))]))
          refine Ends.step (fun _ k => XS.goto X55.here hx rfl (pc0 := 88) (pc' := 92) rfl (hb hby at_88) (by decide) (by decide) k) ?_
          exact hJ _ (by simp only [if_pos hc84_57])
        · refine Ends.step (fun _ k => XS.icmpYes X55.here hx rfl (pc0 := 84) (pc' := 91) rfl (hb hby at_84) rfl (XT.ii_ne_t hc84_57) (by decide) (by decide) k) ?_
          show Ends p e below QQ (T55.setTop (mkF m 91 #[.val (.int p0), .val (.ref b22), .val (.int (1 : Int32)), .val (.ref a_LT), .val (.ref a_LT_symbol), .val (.int v76_4)] []))
          refine Ends.step (fun _ k => XT.iconstV X55.here hx rfl (0 : Int32) (hb hby at_91) rfl k) ?_
          exact hJ _ (by simp only [if_neg hc84_57])
      refine J92_56 fun v92_5 hv92_5 => ?_
      have dv92_5 : f0_v92_5 p0 = v92_5 := by
        simp only [f0_v92_5, dv76_4]
        exact hv92_5.symm
      show Ends p e below QQ (T55.setTop (mkF m 92 #[.val (.int p0), .val (.ref b22), .val (.int (1 : Int32)), .val (.ref a_LT), .val (.ref a_LT_symbol), .val (.int v76_4)] [(.int v92_5)]))
      exact Ends.fin (some (.int v92_5)) X55 hQQ (fun h => by rw [Bd.returns] at h; cases h) Bd.notSynchronized (fun _ hr => retOut X55 hx (t := .boolean) Bd.returns (by rw [hv92_5]; exact own_narB (by repeat' (first | exact Or.inl rfl | exact Or.inr rfl | apply own_01))) (Or.inl ⟨rfl, (by simp), _, rfl⟩) (hb hby at_92) hr) hh55 (by decide) (by decide) ⟨(by simp only [f0, dx2_1, dv76_4, dv92_5, if_neg hs42_38, if_pos hs42_48]), N55, K37⟩
    · show Ends p e below QQ (T37.setTop (mkF m 42 #[.val (.int p0), .val (.ref b22), .val (.int x2_1), .unset, .unset, .unset] []))
      by_cases hs42_58 : x2_1 = (2 : Int32)
      · show Ends p e below QQ (T37.setTop (mkF m 42 #[.val (.int p0), .val (.ref b22), .val (.int x2_1), .unset, .unset, .unset] []))
        rw [hs42_58]
        show Ends p e below QQ (T37.setTop (mkF m 42 #[.val (.int p0), .val (.ref b22), .val (.int (2 : Int32)), .unset, .unset, .unset] []))
        refine Ends.step (fun _ k => XS.aloadN X37.here hx rfl (hb hby at_42) rfl rfl k) ?_
        show Ends p e below QQ (T37.setTop (mkF m 43 #[.val (.int p0), .val (.ref b22), .val (.int (2 : Int32)), .unset, .unset, .unset] [(.ref b22)]))
        refine Ends.step (fun _ k => XS.iloadN X37.here hx rfl (hb hby at_43) rfl k) ?_
        show Ends p e below QQ (T37.setTop (mkF m 44 #[.val (.int p0), .val (.ref b22), .val (.int (2 : Int32)), .unset, .unset, .unset] [(.int (2 : Int32)), (.ref b22)]))
        obtain ⟨cl59, Ar59, q59, S59, P59, H59, G59⟩ := id A_b22
        have hin59 : ¬ ((2 : Int32) < 0 ∨ cl59.slots.size ≤ ((2 : Int32)).toNatClampNeg) := inb_of S59 ⟨by decide, by decide⟩
        have hat59 : cl59.slots[((2 : Int32)).toNatClampNeg]? = some (.ref a_LTE) := H59.at hin59 (rfl)
        refine Ends.step (fun _ k => X37.aaload hx (j := (2 : Int32)) (v := (.ref a_LTE)) (by rw [e37]; exact Ar59.1) (State.isArrayOf_alike hZ.alike Ar59.2.1) rfl Ar59.2.2 hin59 hat59 (g := (mkF m 44 #[.val (.int p0), .val (.ref b22), .val (.int (2 : Int32)), .unset, .unset, .unset] [(.int (2 : Int32)), (.ref b22)])) rfl rfl (hb hby at_44) _ k) ?_
        show Ends p e below QQ (T37.setTop (mkF m 45 #[.val (.int p0), .val (.ref b22), .val (.int (2 : Int32)), .unset, .unset, .unset] [(.ref a_LTE)]))
        refine Ends.step (fun _ k => XS.astoreN X37.here hx rfl (hb hby at_45) rfl rfl (l' := #[.val (.int p0), .val (.ref b22), .val (.int (2 : Int32)), .val (.ref a_LTE), .unset, .unset]) rfl k) ?_
        show Ends p e below QQ (T37.setTop (mkF m 46 #[.val (.int p0), .val (.ref b22), .val (.int (2 : Int32)), .val (.ref a_LTE), .unset, .unset] []))
        refine Ends.step (fun _ k => XS.aloadN X37.here hx rfl (hb hby at_46) rfl rfl k) ?_
        show Ends p e below QQ (T37.setTop (mkF m 47 #[.val (.int p0), .val (.ref b22), .val (.int (2 : Int32)), .val (.ref a_LTE), .unset, .unset] [(.ref a_LTE)]))
        obtain ⟨cq60, kq60, q60a, q60b, q60c⟩ := isOf hZ e37 E_a_LTE
        obtain ⟨_, _, ⟨T60, L60, k60, n60⟩, -, X60, ⟨Lc60, hQ60, l60, y60, z60⟩, st60⟩ := X37.virtualBack hx (y := (⟨"com/example/nuntius/nuntius/cql/Relation$Operator", "symbol", "()Ljava/lang/String;"⟩ : MethodName)) (z := (⟨"com/example/nuntius/nuntius/cql/Relation$Operator", "symbol", "()Ljava/lang/String;"⟩ : MethodName)) hown (mvT hZ (hw _ (List.mem_of_getElem? (i := 15) rfl))) (mvT hZ (hw _ (List.mem_of_getElem? (i := 16) rfl))) (notFace_of_selects (args := #[]) (mvT hZ (hw _ (List.mem_of_getElem? (i := 18) rfl)))) (mvT hZ (hw _ (List.mem_of_getElem? (i := 18) rfl))) (mvT hZ (hw _ (List.mem_of_getElem? (i := 17) rfl))) (by decide) (backOf (W := 0) (rm1 l Z a0 hw [] a_LTE a_LTE_symbol h37 n0 (Nat.le_trans Z0 K37.1) F_symbol_a_LTE) hZ (hw _ (List.mem_of_getElem? (i := 19) rfl)) (hw _ (List.mem_of_getElem? (i := 3) rfl)) (by decide) (by decide)) q60a q60c (g := (mkF m 47 #[.val (.int p0), .val (.ref b22), .val (.int (2 : Int32)), .val (.ref a_LTE), .unset, .unset] [(.ref a_LTE)])) rfl (by rw [hml]; rfl) (Steps.refl _) (argsL := []) (rest := []) (lenOf pd_5 rfl) rfl (by show 2 * 0 + _ ≤ _; exact Nat.le_of_eq rfl) (hb hby at_47) (fun _ _ => ⟨rfl, e37, (by decide : 1 + 0 ≤ _), (by decide : 5 + 0 ≤ _)⟩)
        dsimp only [Pt.U, Pt.locs, Pt.cells, Pt.slots] at X60 l60 y60 z60 st60 hQ60
        subst l60 y60 z60
        obtain ⟨rfl, Nq60, hh60⟩ := hQ60
        have N60 := Fr.app N37 Nq60
        refine Ends.step (fun _ k => st60.trans k) ?_
        show Ends p e below QQ (T60.setTop (mkF m 50 #[.val (.int p0), .val (.ref b22), .val (.int (2 : Int32)), .val (.ref a_LTE), .unset, .unset] [(.ref a_LTE_symbol)]))
        refine Ends.step (fun _ k => XS.astore X60.here hx rfl (hb hby at_50) rfl rfl (l' := #[.val (.int p0), .val (.ref b22), .val (.int (2 : Int32)), .val (.ref a_LTE), .val (.ref a_LTE_symbol), .unset]) rfl k) ?_
        show Ends p e below QQ (T60.setTop (mkF m 52 #[.val (.int p0), .val (.ref b22), .val (.int (2 : Int32)), .val (.ref a_LTE), .val (.ref a_LTE_symbol), .unset] []))
        refine Ends.step (fun _ k => XS.aload X60.here hx rfl (hb hby at_52) rfl rfl k) ?_
        show Ends p e below QQ (T60.setTop (mkF m 54 #[.val (.int p0), .val (.ref b22), .val (.int (2 : Int32)), .val (.ref a_LTE), .val (.ref a_LTE_symbol), .unset] [(.ref a_LTE_symbol)]))
        obtain ⟨cq61, kq61, q61a, q61b, q61c⟩ := isOf hZ hh60 E_a_LTE_symbol
        obtain ⟨_, _, ⟨T61, L61, k61, n61⟩, -, X61, ⟨Lc61, hQ61, l61, y61, z61⟩, st61⟩ := X60.virtualBack hx (y := (⟨"java/lang/String", "length", "()I"⟩ : MethodName)) (z := (⟨"java/lang/String", "length", "()I"⟩ : MethodName)) hown (mvT hZ (hw _ (List.mem_of_getElem? (i := 22) rfl))) (mvT hZ (hw _ (List.mem_of_getElem? (i := 23) rfl))) (notFace_of_selects (args := #[]) (mvT hZ (hw _ (List.mem_of_getElem? (i := 25) rfl)))) (mvT hZ (hw _ (List.mem_of_getElem? (i := 25) rfl))) (mvT hZ (hw _ (List.mem_of_getElem? (i := 24) rfl))) (by decide) (backOf (W := 0) (rmlen l Z a0 hw [] a_LTE_symbol a_LTE_symbol_value k_a_LTE_symbol_value (2 : Int32) [(.int (60 : Int32)), (.int (61 : Int32))] cs h37 n0 (Nat.le_trans Z0 K37.1) E_a_LTE_symbol F_value_a_LTE_symbol A_a_LTE_symbol_value S_COMPACT_STRINGS hcs F_coder_a_LTE_symbol) hZ (hw _ (List.mem_of_getElem? (i := 27) rfl)) (hw _ (List.mem_of_getElem? (i := 26) rfl)) (by decide) (by decide)) q61a q61c (g := (mkF m 54 #[.val (.int p0), .val (.ref b22), .val (.int (2 : Int32)), .val (.ref a_LTE), .val (.ref a_LTE_symbol), .unset] [(.ref a_LTE_symbol)])) rfl (by rw [hml]; rfl) (Steps.refl _) (argsL := []) (rest := []) (lenOf pd_6 rfl) rfl (by show 2 * 0 + _ ≤ _; exact Nat.le_of_eq rfl) (hb hby at_54) (fun _ _ => ⟨rfl, hh60, (by decide : 1 + 0 ≤ _), (by decide : 5 + 0 ≤ _)⟩)
        dsimp only [Pt.U, Pt.locs, Pt.cells, Pt.slots] at X61 l61 y61 z61 st61 hQ61
        subst l61 y61 z61
        obtain ⟨rfl, Nq61, hh61⟩ := hQ61
        have N61 := Fr.app N60 Nq61
        refine Ends.step (fun _ k => st61.trans k) ?_
        show Ends p e below QQ (T61.setTop (mkF m 57 #[.val (.int p0), .val (.ref b22), .val (.int (2 : Int32)), .val (.ref a_LTE), .val (.ref a_LTE_symbol), .unset] [(.int (2 : Int32))]))
        refine Ends.step (fun _ k => XS.ifNo X61.here hx rfl (hb hby at_57) rfl (XT.i0_le_f (by decide)) k) ?_
        show Ends p e below QQ (T61.setTop (mkF m 60 #[.val (.int p0), .val (.ref b22), .val (.int (2 : Int32)), .val (.ref a_LTE), .val (.ref a_LTE_symbol), .unset] []))
        refine Ends.step (fun _ k => XS.aload X61.here hx rfl (hb hby at_60) rfl rfl k) ?_
        show Ends p e below QQ (T61.setTop (mkF m 62 #[.val (.int p0), .val (.ref b22), .val (.int (2 : Int32)), .val (.ref a_LTE), .val (.ref a_LTE_symbol), .unset] [(.ref a_LTE_symbol)]))
        refine Ends.step (fun _ k => XT.iconstV X61.here hx rfl (0 : Int32) (hb hby at_62) rfl k) ?_
        show Ends p e below QQ (T61.setTop (mkF m 63 #[.val (.int p0), .val (.ref b22), .val (.int (2 : Int32)), .val (.ref a_LTE), .val (.ref a_LTE_symbol), .unset] [(.int (0 : Int32)), (.ref a_LTE_symbol)]))
        obtain ⟨cq62, kq62, q62a, q62b, q62c⟩ := isOf hZ hh61 E_a_LTE_symbol
        obtain ⟨_, _, ⟨T62, L62, k62, n62⟩, -, X62, ⟨Lc62, hQ62, l62, y62, z62⟩, st62⟩ := X61.virtualBack hx (y := (⟨"java/lang/String", "charAt", "(I)C"⟩ : MethodName)) (z := (⟨"java/lang/String", "charAt", "(I)C"⟩ : MethodName)) hown (mvT hZ (hw _ (List.mem_of_getElem? (i := 38) rfl))) (mvT hZ (hw _ (List.mem_of_getElem? (i := 39) rfl))) (notFace_of_selects (args := #[]) (mvT hZ (hw _ (List.mem_of_getElem? (i := 41) rfl)))) (mvT hZ (hw _ (List.mem_of_getElem? (i := 41) rfl))) (mvT hZ (hw _ (List.mem_of_getElem? (i := 40) rfl))) (by decide) (backOf (W := 0) (rmcha l Z a0 hw [] a_LTE_symbol (0 : Int32) a_LTE_symbol_value k_a_LTE_symbol_value (2 : Int32) [(.int (60 : Int32)), (.int (61 : Int32))] (60 : Int32) cs sf h37 n0 (Nat.le_trans Z0 K37.1) E_a_LTE_symbol F_value_a_LTE_symbol A_a_LTE_symbol_value S_COMPACT_STRINGS hcs F_coder_a_LTE_symbol S_SIOOBE_FORMATTER hr_sf (by decide) (by decide) rfl) hZ (hw _ (List.mem_of_getElem? (i := 42) rfl)) (hw _ (List.mem_of_getElem? (i := 26) rfl)) (by decide) (by decide)) q62a q62c (g := (mkF m 63 #[.val (.int p0), .val (.ref b22), .val (.int (2 : Int32)), .val (.ref a_LTE), .val (.ref a_LTE_symbol), .unset] [(.int (0 : Int32)), (.ref a_LTE_symbol)])) rfl (by rw [hml]; rfl) (Steps.refl _) (argsL := [(.int (0 : Int32))]) (rest := []) (lenOf pd_7 rfl) rfl (by show 2 * 0 + _ ≤ _; exact Nat.le_of_eq rfl) (hb hby at_63) (fun _ _ => ⟨rfl, hh61, (by decide : 1 + 0 ≤ _), (by decide : 5 + 0 ≤ _)⟩)
        dsimp only [Pt.U, Pt.locs, Pt.cells, Pt.slots] at X62 l62 y62 z62 st62 hQ62
        subst l62 y62 z62
        obtain ⟨rfl, Nq62, hh62⟩ := hQ62
        have N62 := Fr.app N61 Nq62
        refine Ends.step (fun _ k => st62.trans k) ?_
        show Ends p e below QQ (T62.setTop (mkF m 66 #[.val (.int p0), .val (.ref b22), .val (.int (2 : Int32)), .val (.ref a_LTE), .val (.ref a_LTE_symbol), .unset] [(.int ((60 : Int32) &&& (255 : Int32)))]))
        refine Ends.step (fun _ k => XT.bipushV X62.here hx rfl (62 : Int32) (hb hby at_66) rfl k) ?_
        show Ends p e below QQ (T62.setTop (mkF m 68 #[.val (.int p0), .val (.ref b22), .val (.int (2 : Int32)), .val (.ref a_LTE), .val (.ref a_LTE_symbol), .unset] [(.int (62 : Int32)), (.int ((60 : Int32) &&& (255 : Int32)))]))
        have J76_63 : (∀ (v76_6 : Int32) (hv76_6 : v76_6 = (if ((60 : Int32) &&& (255 : Int32)) = (62 : Int32) then (1 : Int32) else (0 : Int32))), Ends p e below QQ (T62.setTop (mkF m 76 #[.val (.int p0), .val (.ref b22), .val (.int (2 : Int32)), .val (.ref a_LTE), .val (.ref a_LTE_symbol), .unset] [(.int v76_6)]))) → Ends p e below QQ (T62.setTop (mkF m 68 #[.val (.int p0), .val (.ref b22), .val (.int (2 : Int32)), .val (.ref a_LTE), .val (.ref a_LTE_symbol), .unset] [(.int (62 : Int32)), (.int ((60 : Int32) &&& (255 : Int32)))])) := by
          intro hJ
          by_cases hc68_64 : ((60 : Int32) &&& (255 : Int32)) = (62 : Int32)
          · refine Ends.step (fun _ k => XS.icmpNo X62.here hx rfl (hb hby at_68) rfl (XT.ii_ne_f hc68_64) k) ?_
            show Ends p e below QQ (T62.setTop (mkF m 71 #[.val (.int p0), .val (.ref b22), .val (.int (2 : Int32)), .val (.ref a_LTE), .val (.ref a_LTE_symbol), .unset] []))
            refine Ends.step (fun _ k => XT.iconstV X62.here hx rfl (1 : Int32) (hb hby at_71) rfl k) ?_
            show Ends p e below QQ (T62.setTop (mkF m 72 #[.val (.int p0), .val (.ref b22), .val (.int (2 : Int32)), .val (.ref a_LTE), .val (.ref a_LTE_symbol), .unset] [(.int (1 : Int32))]))
            refine Ends.step (fun _ k => XS.goto X62.here hx rfl (pc0 := 72) (pc' := 76) rfl (hb hby at_72) (by decide) (by decide) k) ?_
            exact hJ _ (by simp only [if_pos hc68_64])
          · refine Ends.step (fun _ k => XS.icmpYes X62.here hx rfl (pc0 := 68) (pc' := 75) rfl (hb hby at_68) rfl (XT.ii_ne_t hc68_64) (by decide) (by decide) k) ?_
            show Ends p e below QQ (T62.setTop (mkF m 75 #[.val (.int p0), .val (.ref b22), .val (.int (2 : Int32)), .val (.ref a_LTE), .val (.ref a_LTE_symbol), .unset] []))
            refine Ends.step (fun _ k => XT.iconstV X62.here hx rfl (0 : Int32) (hb hby at_75) rfl k) ?_
            exact hJ _ (by simp only [if_neg hc68_64])
        refine J76_63 fun v76_6 hv76_6 => ?_
        have dv76_6 : f0_v76_6 p0 = v76_6 := by
          simp only [f0_v76_6]
          exact hv76_6.symm
        show Ends p e below QQ (T62.setTop (mkF m 76 #[.val (.int p0), .val (.ref b22), .val (.int (2 : Int32)), .val (.ref a_LTE), .val (.ref a_LTE_symbol), .unset] [(.int v76_6)]))
        refine Ends.step (fun _ k => XS.istore X62.here hx rfl (hb hby at_76) rfl (l' := #[.val (.int p0), .val (.ref b22), .val (.int (2 : Int32)), .val (.ref a_LTE), .val (.ref a_LTE_symbol), .val (.int v76_6)]) rfl k) ?_
        show Ends p e below QQ (T62.setTop (mkF m 78 #[.val (.int p0), .val (.ref b22), .val (.int (2 : Int32)), .val (.ref a_LTE), .val (.ref a_LTE_symbol), .val (.int v76_6)] []))
        refine Ends.step (fun _ k => XS.aloadN X62.here hx rfl (hb hby at_78) rfl rfl k) ?_
        show Ends p e below QQ (T62.setTop (mkF m 79 #[.val (.int p0), .val (.ref b22), .val (.int (2 : Int32)), .val (.ref a_LTE), .val (.ref a_LTE_symbol), .val (.int v76_6)] [(.ref a_LTE)]))
        obtain ⟨cq65, kq65, q65a, q65b, q65c⟩ := isOf hZ hh62 E_a_LTE
        obtain ⟨_, _, ⟨T65, L65, k65, n65⟩, -, X65, ⟨Lc65, hQ65, l65, y65, z65⟩, st65⟩ := X62.virtualBack hx (y := (⟨"com/example/nuntius/nuntius/cql/Relation$Operator", "isLowerBound", "()Z"⟩ : MethodName)) (z := (⟨"com/example/nuntius/nuntius/cql/Relation$Operator", "isLowerBound", "()Z"⟩ : MethodName)) hown (mvT hZ (hw _ (List.mem_of_getElem? (i := 60) rfl))) (mvT hZ (hw _ (List.mem_of_getElem? (i := 61) rfl))) (notFace_of_selects (args := #[]) (mvT hZ (hw _ (List.mem_of_getElem? (i := 63) rfl)))) (mvT hZ (hw _ (List.mem_of_getElem? (i := 63) rfl))) (mvT hZ (hw _ (List.mem_of_getElem? (i := 62) rfl))) (by decide) (backOf (W := 0) (rm9n l Z a0 hw [] a_LTE a_GT a_GTE h37 n0 (Nat.le_trans Z0 K37.1) S_GT S_GTE ne_a_LTE_a_GT ne_a_LTE_a_GTE) hZ (hw _ (List.mem_of_getElem? (i := 64) rfl)) (hw _ (List.mem_of_getElem? (i := 3) rfl)) (by decide) (by decide)) q65a q65c (g := (mkF m 79 #[.val (.int p0), .val (.ref b22), .val (.int (2 : Int32)), .val (.ref a_LTE), .val (.ref a_LTE_symbol), .val (.int v76_6)] [(.ref a_LTE)])) rfl (by rw [hml]; rfl) (Steps.refl _) (argsL := []) (rest := []) (lenOf pd_3 rfl) rfl (by show 2 * 0 + _ ≤ _; exact Nat.le_of_eq rfl) (hb hby at_79) (fun _ _ => ⟨rfl, hh62, (by decide : 1 + 0 ≤ _), (by decide : 5 + 0 ≤ _)⟩)
        dsimp only [Pt.U, Pt.locs, Pt.cells, Pt.slots] at X65 l65 y65 z65 st65 hQ65
        subst l65 y65 z65
        obtain ⟨rfl, Nq65, hh65⟩ := hQ65
        have N65 := Fr.app N62 Nq65
        refine Ends.step (fun _ k => st65.trans k) ?_
        show Ends p e below QQ (T65.setTop (mkF m 82 #[.val (.int p0), .val (.ref b22), .val (.int (2 : Int32)), .val (.ref a_LTE), .val (.ref a_LTE_symbol), .val (.int v76_6)] [(.int (0 : Int32))]))
        refine Ends.step (fun _ k => XS.iload X65.here hx rfl (hb hby at_82) rfl k) ?_
        show Ends p e below QQ (T65.setTop (mkF m 84 #[.val (.int p0), .val (.ref b22), .val (.int (2 : Int32)), .val (.ref a_LTE), .val (.ref a_LTE_symbol), .val (.int v76_6)] [(.int v76_6), (.int (0 : Int32))]))
        have J92_66 : (∀ (v92_7 : Int32) (hv92_7 : v92_7 = (if (0 : Int32) = v76_6 then (1 : Int32) else (0 : Int32))), Ends p e below QQ (T65.setTop (mkF m 92 #[.val (.int p0), .val (.ref b22), .val (.int (2 : Int32)), .val (.ref a_LTE), .val (.ref a_LTE_symbol), .val (.int v76_6)] [(.int v92_7)]))) → Ends p e below QQ (T65.setTop (mkF m 84 #[.val (.int p0), .val (.ref b22), .val (.int (2 : Int32)), .val (.ref a_LTE), .val (.ref a_LTE_symbol), .val (.int v76_6)] [(.int v76_6), (.int (0 : Int32))])) := by
          intro hJ
          by_cases hc84_67 : (0 : Int32) = v76_6
          · refine Ends.step (fun _ k => XS.icmpNo X65.here hx rfl (hb hby at_84) rfl (XT.ii_ne_f hc84_67) k) ?_
            show Ends p e below QQ (T65.setTop (mkF m 87 #[.val (.int p0), .val (.ref b22), .val (.int (2 : Int32)), .val (.ref a_LTE), .val (.ref a_LTE_symbol), .val (.int v76_6)] []))
            refine Ends.step (fun _ k => XT.iconstV X65.here hx rfl (1 : Int32) (hb hby at_87) rfl k) ?_
            show Ends p e below QQ (T65.setTop (mkF m 88 #[.val (.int p0), .val (.ref b22), .val (.int (2 : Int32)), .val (.ref a_LTE), .val (.ref a_LTE_symbol), .val (.int v76_6)] [(.int (1 : Int32))]))
            refine Ends.step (fun _ k => XS.goto X65.here hx rfl (pc0 := 88) (pc' := 92) rfl (hb hby at_88) (by decide) (by decide) k) ?_
            exact hJ _ (by simp only [if_pos hc84_67])
          · refine Ends.step (fun _ k => XS.icmpYes X65.here hx rfl (pc0 := 84) (pc' := 91) rfl (hb hby at_84) rfl (XT.ii_ne_t hc84_67) (by decide) (by decide) k) ?_
            show Ends p e below QQ (T65.setTop (mkF m 91 #[.val (.int p0), .val (.ref b22), .val (.int (2 : Int32)), .val (.ref a_LTE), .val (.ref a_LTE_symbol), .val (.int v76_6)] []))
            refine Ends.step (fun _ k => XT.iconstV X65.here hx rfl (0 : Int32) (hb hby at_91) rfl k) ?_
            exact hJ _ (by simp only [if_neg hc84_67])
        refine J92_66 fun v92_7 hv92_7 => ?_
        have dv92_7 : f0_v92_7 p0 = v92_7 := by
          simp only [f0_v92_7, dv76_6]
          exact hv92_7.symm
        show Ends p e below QQ (T65.setTop (mkF m 92 #[.val (.int p0), .val (.ref b22), .val (.int (2 : Int32)), .val (.ref a_LTE), .val (.ref a_LTE_symbol), .val (.int v76_6)] [(.int v92_7)]))
        exact Ends.fin (some (.int v92_7)) X65 hQQ (fun h => by rw [Bd.returns] at h; cases h) Bd.notSynchronized (fun _ hr => retOut X65 hx (t := .boolean) Bd.returns (by rw [hv92_7]; exact own_narB (by repeat' (first | exact Or.inl rfl | exact Or.inr rfl | apply own_01))) (Or.inl ⟨rfl, (by simp), _, rfl⟩) (hb hby at_92) hr) hh65 (by decide) (by decide) ⟨(by simp only [f0, dx2_1, dv76_6, dv92_7, if_neg hs42_38, if_neg hs42_48, if_pos hs42_58]), N65, K37⟩
      · show Ends p e below QQ (T37.setTop (mkF m 42 #[.val (.int p0), .val (.ref b22), .val (.int x2_1), .unset, .unset, .unset] []))
        by_cases hs42_68 : x2_1 = (3 : Int32)
        · show Ends p e below QQ (T37.setTop (mkF m 42 #[.val (.int p0), .val (.ref b22), .val (.int x2_1), .unset, .unset, .unset] []))
          rw [hs42_68]
          show Ends p e below QQ (T37.setTop (mkF m 42 #[.val (.int p0), .val (.ref b22), .val (.int (3 : Int32)), .unset, .unset, .unset] []))
          refine Ends.step (fun _ k => XS.aloadN X37.here hx rfl (hb hby at_42) rfl rfl k) ?_
          show Ends p e below QQ (T37.setTop (mkF m 43 #[.val (.int p0), .val (.ref b22), .val (.int (3 : Int32)), .unset, .unset, .unset] [(.ref b22)]))
          refine Ends.step (fun _ k => XS.iloadN X37.here hx rfl (hb hby at_43) rfl k) ?_
          show Ends p e below QQ (T37.setTop (mkF m 44 #[.val (.int p0), .val (.ref b22), .val (.int (3 : Int32)), .unset, .unset, .unset] [(.int (3 : Int32)), (.ref b22)]))
          obtain ⟨cl69, Ar69, q69, S69, P69, H69, G69⟩ := id A_b22
          have hin69 : ¬ ((3 : Int32) < 0 ∨ cl69.slots.size ≤ ((3 : Int32)).toNatClampNeg) := inb_of S69 ⟨by decide, by decide⟩
          have hat69 : cl69.slots[((3 : Int32)).toNatClampNeg]? = some (.ref a_GT) := H69.at hin69 (rfl)
          refine Ends.step (fun _ k => X37.aaload hx (j := (3 : Int32)) (v := (.ref a_GT)) (by rw [e37]; exact Ar69.1) (State.isArrayOf_alike hZ.alike Ar69.2.1) rfl Ar69.2.2 hin69 hat69 (g := (mkF m 44 #[.val (.int p0), .val (.ref b22), .val (.int (3 : Int32)), .unset, .unset, .unset] [(.int (3 : Int32)), (.ref b22)])) rfl rfl (hb hby at_44) _ k) ?_
          show Ends p e below QQ (T37.setTop (mkF m 45 #[.val (.int p0), .val (.ref b22), .val (.int (3 : Int32)), .unset, .unset, .unset] [(.ref a_GT)]))
          refine Ends.step (fun _ k => XS.astoreN X37.here hx rfl (hb hby at_45) rfl rfl (l' := #[.val (.int p0), .val (.ref b22), .val (.int (3 : Int32)), .val (.ref a_GT), .unset, .unset]) rfl k) ?_
          show Ends p e below QQ (T37.setTop (mkF m 46 #[.val (.int p0), .val (.ref b22), .val (.int (3 : Int32)), .val (.ref a_GT), .unset, .unset] []))
          refine Ends.step (fun _ k => XS.aloadN X37.here hx rfl (hb hby at_46) rfl rfl k) ?_
          show Ends p e below QQ (T37.setTop (mkF m 47 #[.val (.int p0), .val (.ref b22), .val (.int (3 : Int32)), .val (.ref a_GT), .unset, .unset] [(.ref a_GT)]))
          obtain ⟨cq70, kq70, q70a, q70b, q70c⟩ := isOf hZ e37 E_a_GT
          obtain ⟨_, _, ⟨T70, L70, k70, n70⟩, -, X70, ⟨Lc70, hQ70, l70, y70, z70⟩, st70⟩ := X37.virtualBack hx (y := (⟨"com/example/nuntius/nuntius/cql/Relation$Operator", "symbol", "()Ljava/lang/String;"⟩ : MethodName)) (z := (⟨"com/example/nuntius/nuntius/cql/Relation$Operator", "symbol", "()Ljava/lang/String;"⟩ : MethodName)) hown (mvT hZ (hw _ (List.mem_of_getElem? (i := 15) rfl))) (mvT hZ (hw _ (List.mem_of_getElem? (i := 16) rfl))) (notFace_of_selects (args := #[]) (mvT hZ (hw _ (List.mem_of_getElem? (i := 18) rfl)))) (mvT hZ (hw _ (List.mem_of_getElem? (i := 18) rfl))) (mvT hZ (hw _ (List.mem_of_getElem? (i := 17) rfl))) (by decide) (backOf (W := 0) (rm1 l Z a0 hw [] a_GT a_GT_symbol h37 n0 (Nat.le_trans Z0 K37.1) F_symbol_a_GT) hZ (hw _ (List.mem_of_getElem? (i := 19) rfl)) (hw _ (List.mem_of_getElem? (i := 3) rfl)) (by decide) (by decide)) q70a q70c (g := (mkF m 47 #[.val (.int p0), .val (.ref b22), .val (.int (3 : Int32)), .val (.ref a_GT), .unset, .unset] [(.ref a_GT)])) rfl (by rw [hml]; rfl) (Steps.refl _) (argsL := []) (rest := []) (lenOf pd_5 rfl) rfl (by show 2 * 0 + _ ≤ _; exact Nat.le_of_eq rfl) (hb hby at_47) (fun _ _ => ⟨rfl, e37, (by decide : 1 + 0 ≤ _), (by decide : 5 + 0 ≤ _)⟩)
          dsimp only [Pt.U, Pt.locs, Pt.cells, Pt.slots] at X70 l70 y70 z70 st70 hQ70
          subst l70 y70 z70
          obtain ⟨rfl, Nq70, hh70⟩ := hQ70
          have N70 := Fr.app N37 Nq70
          refine Ends.step (fun _ k => st70.trans k) ?_
          show Ends p e below QQ (T70.setTop (mkF m 50 #[.val (.int p0), .val (.ref b22), .val (.int (3 : Int32)), .val (.ref a_GT), .unset, .unset] [(.ref a_GT_symbol)]))
          refine Ends.step (fun _ k => XS.astore X70.here hx rfl (hb hby at_50) rfl rfl (l' := #[.val (.int p0), .val (.ref b22), .val (.int (3 : Int32)), .val (.ref a_GT), .val (.ref a_GT_symbol), .unset]) rfl k) ?_
          show Ends p e below QQ (T70.setTop (mkF m 52 #[.val (.int p0), .val (.ref b22), .val (.int (3 : Int32)), .val (.ref a_GT), .val (.ref a_GT_symbol), .unset] []))
          refine Ends.step (fun _ k => XS.aload X70.here hx rfl (hb hby at_52) rfl rfl k) ?_
          show Ends p e below QQ (T70.setTop (mkF m 54 #[.val (.int p0), .val (.ref b22), .val (.int (3 : Int32)), .val (.ref a_GT), .val (.ref a_GT_symbol), .unset] [(.ref a_GT_symbol)]))
          obtain ⟨cq71, kq71, q71a, q71b, q71c⟩ := isOf hZ hh70 E_a_GT_symbol
          obtain ⟨_, _, ⟨T71, L71, k71, n71⟩, -, X71, ⟨Lc71, hQ71, l71, y71, z71⟩, st71⟩ := X70.virtualBack hx (y := (⟨"java/lang/String", "length", "()I"⟩ : MethodName)) (z := (⟨"java/lang/String", "length", "()I"⟩ : MethodName)) hown (mvT hZ (hw _ (List.mem_of_getElem? (i := 22) rfl))) (mvT hZ (hw _ (List.mem_of_getElem? (i := 23) rfl))) (notFace_of_selects (args := #[]) (mvT hZ (hw _ (List.mem_of_getElem? (i := 25) rfl)))) (mvT hZ (hw _ (List.mem_of_getElem? (i := 25) rfl))) (mvT hZ (hw _ (List.mem_of_getElem? (i := 24) rfl))) (by decide) (backOf (W := 0) (rmlen l Z a0 hw [] a_GT_symbol a_GT_symbol_value k_a_GT_symbol_value (1 : Int32) [(.int (62 : Int32))] cs h37 n0 (Nat.le_trans Z0 K37.1) E_a_GT_symbol F_value_a_GT_symbol A_a_GT_symbol_value S_COMPACT_STRINGS hcs F_coder_a_GT_symbol) hZ (hw _ (List.mem_of_getElem? (i := 27) rfl)) (hw _ (List.mem_of_getElem? (i := 26) rfl)) (by decide) (by decide)) q71a q71c (g := (mkF m 54 #[.val (.int p0), .val (.ref b22), .val (.int (3 : Int32)), .val (.ref a_GT), .val (.ref a_GT_symbol), .unset] [(.ref a_GT_symbol)])) rfl (by rw [hml]; rfl) (Steps.refl _) (argsL := []) (rest := []) (lenOf pd_6 rfl) rfl (by show 2 * 0 + _ ≤ _; exact Nat.le_of_eq rfl) (hb hby at_54) (fun _ _ => ⟨rfl, hh70, (by decide : 1 + 0 ≤ _), (by decide : 5 + 0 ≤ _)⟩)
          dsimp only [Pt.U, Pt.locs, Pt.cells, Pt.slots] at X71 l71 y71 z71 st71 hQ71
          subst l71 y71 z71
          obtain ⟨rfl, Nq71, hh71⟩ := hQ71
          have N71 := Fr.app N70 Nq71
          refine Ends.step (fun _ k => st71.trans k) ?_
          show Ends p e below QQ (T71.setTop (mkF m 57 #[.val (.int p0), .val (.ref b22), .val (.int (3 : Int32)), .val (.ref a_GT), .val (.ref a_GT_symbol), .unset] [(.int (1 : Int32))]))
          refine Ends.step (fun _ k => XS.ifNo X71.here hx rfl (hb hby at_57) rfl (XT.i0_le_f (by decide)) k) ?_
          show Ends p e below QQ (T71.setTop (mkF m 60 #[.val (.int p0), .val (.ref b22), .val (.int (3 : Int32)), .val (.ref a_GT), .val (.ref a_GT_symbol), .unset] []))
          refine Ends.step (fun _ k => XS.aload X71.here hx rfl (hb hby at_60) rfl rfl k) ?_
          show Ends p e below QQ (T71.setTop (mkF m 62 #[.val (.int p0), .val (.ref b22), .val (.int (3 : Int32)), .val (.ref a_GT), .val (.ref a_GT_symbol), .unset] [(.ref a_GT_symbol)]))
          refine Ends.step (fun _ k => XT.iconstV X71.here hx rfl (0 : Int32) (hb hby at_62) rfl k) ?_
          show Ends p e below QQ (T71.setTop (mkF m 63 #[.val (.int p0), .val (.ref b22), .val (.int (3 : Int32)), .val (.ref a_GT), .val (.ref a_GT_symbol), .unset] [(.int (0 : Int32)), (.ref a_GT_symbol)]))
          obtain ⟨cq72, kq72, q72a, q72b, q72c⟩ := isOf hZ hh71 E_a_GT_symbol
          obtain ⟨_, _, ⟨T72, L72, k72, n72⟩, -, X72, ⟨Lc72, hQ72, l72, y72, z72⟩, st72⟩ := X71.virtualBack hx (y := (⟨"java/lang/String", "charAt", "(I)C"⟩ : MethodName)) (z := (⟨"java/lang/String", "charAt", "(I)C"⟩ : MethodName)) hown (mvT hZ (hw _ (List.mem_of_getElem? (i := 38) rfl))) (mvT hZ (hw _ (List.mem_of_getElem? (i := 39) rfl))) (notFace_of_selects (args := #[]) (mvT hZ (hw _ (List.mem_of_getElem? (i := 41) rfl)))) (mvT hZ (hw _ (List.mem_of_getElem? (i := 41) rfl))) (mvT hZ (hw _ (List.mem_of_getElem? (i := 40) rfl))) (by decide) (backOf (W := 0) (rmcha l Z a0 hw [] a_GT_symbol (0 : Int32) a_GT_symbol_value k_a_GT_symbol_value (1 : Int32) [(.int (62 : Int32))] (62 : Int32) cs sf h37 n0 (Nat.le_trans Z0 K37.1) E_a_GT_symbol F_value_a_GT_symbol A_a_GT_symbol_value S_COMPACT_STRINGS hcs F_coder_a_GT_symbol S_SIOOBE_FORMATTER hr_sf (by decide) (by decide) rfl) hZ (hw _ (List.mem_of_getElem? (i := 42) rfl)) (hw _ (List.mem_of_getElem? (i := 26) rfl)) (by decide) (by decide)) q72a q72c (g := (mkF m 63 #[.val (.int p0), .val (.ref b22), .val (.int (3 : Int32)), .val (.ref a_GT), .val (.ref a_GT_symbol), .unset] [(.int (0 : Int32)), (.ref a_GT_symbol)])) rfl (by rw [hml]; rfl) (Steps.refl _) (argsL := [(.int (0 : Int32))]) (rest := []) (lenOf pd_7 rfl) rfl (by show 2 * 0 + _ ≤ _; exact Nat.le_of_eq rfl) (hb hby at_63) (fun _ _ => ⟨rfl, hh71, (by decide : 1 + 0 ≤ _), (by decide : 5 + 0 ≤ _)⟩)
          dsimp only [Pt.U, Pt.locs, Pt.cells, Pt.slots] at X72 l72 y72 z72 st72 hQ72
          subst l72 y72 z72
          obtain ⟨rfl, Nq72, hh72⟩ := hQ72
          have N72 := Fr.app N71 Nq72
          refine Ends.step (fun _ k => st72.trans k) ?_
          show Ends p e below QQ (T72.setTop (mkF m 66 #[.val (.int p0), .val (.ref b22), .val (.int (3 : Int32)), .val (.ref a_GT), .val (.ref a_GT_symbol), .unset] [(.int ((62 : Int32) &&& (255 : Int32)))]))
          refine Ends.step (fun _ k => XT.bipushV X72.here hx rfl (62 : Int32) (hb hby at_66) rfl k) ?_
          show Ends p e below QQ (T72.setTop (mkF m 68 #[.val (.int p0), .val (.ref b22), .val (.int (3 : Int32)), .val (.ref a_GT), .val (.ref a_GT_symbol), .unset] [(.int (62 : Int32)), (.int ((62 : Int32) &&& (255 : Int32)))]))
          have J76_73 : (∀ (v76_8 : Int32) (hv76_8 : v76_8 = (if ((62 : Int32) &&& (255 : Int32)) = (62 : Int32) then (1 : Int32) else (0 : Int32))), Ends p e below QQ (T72.setTop (mkF m 76 #[.val (.int p0), .val (.ref b22), .val (.int (3 : Int32)), .val (.ref a_GT), .val (.ref a_GT_symbol), .unset] [(.int v76_8)]))) → Ends p e below QQ (T72.setTop (mkF m 68 #[.val (.int p0), .val (.ref b22), .val (.int (3 : Int32)), .val (.ref a_GT), .val (.ref a_GT_symbol), .unset] [(.int (62 : Int32)), (.int ((62 : Int32) &&& (255 : Int32)))])) := by
            intro hJ
            by_cases hc68_74 : ((62 : Int32) &&& (255 : Int32)) = (62 : Int32)
            · refine Ends.step (fun _ k => XS.icmpNo X72.here hx rfl (hb hby at_68) rfl (XT.ii_ne_f hc68_74) k) ?_
              show Ends p e below QQ (T72.setTop (mkF m 71 #[.val (.int p0), .val (.ref b22), .val (.int (3 : Int32)), .val (.ref a_GT), .val (.ref a_GT_symbol), .unset] []))
              refine Ends.step (fun _ k => XT.iconstV X72.here hx rfl (1 : Int32) (hb hby at_71) rfl k) ?_
              show Ends p e below QQ (T72.setTop (mkF m 72 #[.val (.int p0), .val (.ref b22), .val (.int (3 : Int32)), .val (.ref a_GT), .val (.ref a_GT_symbol), .unset] [(.int (1 : Int32))]))
              refine Ends.step (fun _ k => XS.goto X72.here hx rfl (pc0 := 72) (pc' := 76) rfl (hb hby at_72) (by decide) (by decide) k) ?_
              exact hJ _ (by simp only [if_pos hc68_74])
            · refine Ends.step (fun _ k => XS.icmpYes X72.here hx rfl (pc0 := 68) (pc' := 75) rfl (hb hby at_68) rfl (XT.ii_ne_t hc68_74) (by decide) (by decide) k) ?_
              show Ends p e below QQ (T72.setTop (mkF m 75 #[.val (.int p0), .val (.ref b22), .val (.int (3 : Int32)), .val (.ref a_GT), .val (.ref a_GT_symbol), .unset] []))
              refine Ends.step (fun _ k => XT.iconstV X72.here hx rfl (0 : Int32) (hb hby at_75) rfl k) ?_
              exact hJ _ (by simp only [if_neg hc68_74])
          refine J76_73 fun v76_8 hv76_8 => ?_
          have dv76_8 : f0_v76_8 p0 = v76_8 := by
            simp only [f0_v76_8]
            exact hv76_8.symm
          show Ends p e below QQ (T72.setTop (mkF m 76 #[.val (.int p0), .val (.ref b22), .val (.int (3 : Int32)), .val (.ref a_GT), .val (.ref a_GT_symbol), .unset] [(.int v76_8)]))
          refine Ends.step (fun _ k => XS.istore X72.here hx rfl (hb hby at_76) rfl (l' := #[.val (.int p0), .val (.ref b22), .val (.int (3 : Int32)), .val (.ref a_GT), .val (.ref a_GT_symbol), .val (.int v76_8)]) rfl k) ?_
          show Ends p e below QQ (T72.setTop (mkF m 78 #[.val (.int p0), .val (.ref b22), .val (.int (3 : Int32)), .val (.ref a_GT), .val (.ref a_GT_symbol), .val (.int v76_8)] []))
          refine Ends.step (fun _ k => XS.aloadN X72.here hx rfl (hb hby at_78) rfl rfl k) ?_
          show Ends p e below QQ (T72.setTop (mkF m 79 #[.val (.int p0), .val (.ref b22), .val (.int (3 : Int32)), .val (.ref a_GT), .val (.ref a_GT_symbol), .val (.int v76_8)] [(.ref a_GT)]))
          obtain ⟨cq75, kq75, q75a, q75b, q75c⟩ := isOf hZ hh72 E_a_GT
          obtain ⟨_, _, ⟨T75, L75, k75, n75⟩, -, X75, ⟨Lc75, hQ75, l75, y75, z75⟩, st75⟩ := X72.virtualBack hx (y := (⟨"com/example/nuntius/nuntius/cql/Relation$Operator", "isLowerBound", "()Z"⟩ : MethodName)) (z := (⟨"com/example/nuntius/nuntius/cql/Relation$Operator", "isLowerBound", "()Z"⟩ : MethodName)) hown (mvT hZ (hw _ (List.mem_of_getElem? (i := 60) rfl))) (mvT hZ (hw _ (List.mem_of_getElem? (i := 61) rfl))) (notFace_of_selects (args := #[]) (mvT hZ (hw _ (List.mem_of_getElem? (i := 63) rfl)))) (mvT hZ (hw _ (List.mem_of_getElem? (i := 63) rfl))) (mvT hZ (hw _ (List.mem_of_getElem? (i := 62) rfl))) (by decide) (backOf (W := 0) (rm9g l Z a0 hw [] a_GT h37 n0 (Nat.le_trans Z0 K37.1) S_GT) hZ (hw _ (List.mem_of_getElem? (i := 64) rfl)) (hw _ (List.mem_of_getElem? (i := 3) rfl)) (by decide) (by decide)) q75a q75c (g := (mkF m 79 #[.val (.int p0), .val (.ref b22), .val (.int (3 : Int32)), .val (.ref a_GT), .val (.ref a_GT_symbol), .val (.int v76_8)] [(.ref a_GT)])) rfl (by rw [hml]; rfl) (Steps.refl _) (argsL := []) (rest := []) (lenOf pd_3 rfl) rfl (by show 2 * 0 + _ ≤ _; exact Nat.le_of_eq rfl) (hb hby at_79) (fun _ _ => ⟨rfl, hh72, (by decide : 1 + 0 ≤ _), (by decide : 5 + 0 ≤ _)⟩)
          dsimp only [Pt.U, Pt.locs, Pt.cells, Pt.slots] at X75 l75 y75 z75 st75 hQ75
          subst l75 y75 z75
          obtain ⟨rfl, Nq75, hh75⟩ := hQ75
          have N75 := Fr.app N72 Nq75
          refine Ends.step (fun _ k => st75.trans k) ?_
          show Ends p e below QQ (T75.setTop (mkF m 82 #[.val (.int p0), .val (.ref b22), .val (.int (3 : Int32)), .val (.ref a_GT), .val (.ref a_GT_symbol), .val (.int v76_8)] [(.int (1 : Int32))]))
          refine Ends.step (fun _ k => XS.iload X75.here hx rfl (hb hby at_82) rfl k) ?_
          show Ends p e below QQ (T75.setTop (mkF m 84 #[.val (.int p0), .val (.ref b22), .val (.int (3 : Int32)), .val (.ref a_GT), .val (.ref a_GT_symbol), .val (.int v76_8)] [(.int v76_8), (.int (1 : Int32))]))
          have J92_76 : (∀ (v92_9 : Int32) (hv92_9 : v92_9 = (if (1 : Int32) = v76_8 then (1 : Int32) else (0 : Int32))), Ends p e below QQ (T75.setTop (mkF m 92 #[.val (.int p0), .val (.ref b22), .val (.int (3 : Int32)), .val (.ref a_GT), .val (.ref a_GT_symbol), .val (.int v76_8)] [(.int v92_9)]))) → Ends p e below QQ (T75.setTop (mkF m 84 #[.val (.int p0), .val (.ref b22), .val (.int (3 : Int32)), .val (.ref a_GT), .val (.ref a_GT_symbol), .val (.int v76_8)] [(.int v76_8), (.int (1 : Int32))])) := by
            intro hJ
            by_cases hc84_77 : (1 : Int32) = v76_8
            · refine Ends.step (fun _ k => XS.icmpNo X75.here hx rfl (hb hby at_84) rfl (XT.ii_ne_f hc84_77) k) ?_
              show Ends p e below QQ (T75.setTop (mkF m 87 #[.val (.int p0), .val (.ref b22), .val (.int (3 : Int32)), .val (.ref a_GT), .val (.ref a_GT_symbol), .val (.int v76_8)] []))
              refine Ends.step (fun _ k => XT.iconstV X75.here hx rfl (1 : Int32) (hb hby at_87) rfl k) ?_
              show Ends p e below QQ (T75.setTop (mkF m 88 #[.val (.int p0), .val (.ref b22), .val (.int (3 : Int32)), .val (.ref a_GT), .val (.ref a_GT_symbol), .val (.int v76_8)] [(.int (1 : Int32))]))
              refine Ends.step (fun _ k => XS.goto X75.here hx rfl (pc0 := 88) (pc' := 92) rfl (hb hby at_88) (by decide) (by decide) k) ?_
              exact hJ _ (by simp only [if_pos hc84_77])
            · refine Ends.step (fun _ k => XS.icmpYes X75.here hx rfl (pc0 := 84) (pc' := 91) rfl (hb hby at_84) rfl (XT.ii_ne_t hc84_77) (by decide) (by decide) k) ?_
              show Ends p e below QQ (T75.setTop (mkF m 91 #[.val (.int p0), .val (.ref b22), .val (.int (3 : Int32)), .val (.ref a_GT), .val (.ref a_GT_symbol), .val (.int v76_8)] []))
              refine Ends.step (fun _ k => XT.iconstV X75.here hx rfl (0 : Int32) (hb hby at_91) rfl k) ?_
              exact hJ _ (by simp only [if_neg hc84_77])
          refine J92_76 fun v92_9 hv92_9 => ?_
          have dv92_9 : f0_v92_9 p0 = v92_9 := by
            simp only [f0_v92_9, dv76_8]
            exact hv92_9.symm
          show Ends p e below QQ (T75.setTop (mkF m 92 #[.val (.int p0), .val (.ref b22), .val (.int (3 : Int32)), .val (.ref a_GT), .val (.ref a_GT_symbol), .val (.int v76_8)] [(.int v92_9)]))
          exact Ends.fin (some (.int v92_9)) X75 hQQ (fun h => by rw [Bd.returns] at h; cases h) Bd.notSynchronized (fun _ hr => retOut X75 hx (t := .boolean) Bd.returns (by rw [hv92_9]; exact own_narB (by repeat' (first | exact Or.inl rfl | exact Or.inr rfl | apply own_01))) (Or.inl ⟨rfl, (by simp), _, rfl⟩) (hb hby at_92) hr) hh75 (by decide) (by decide) ⟨(by simp only [f0, dx2_1, dv76_8, dv92_9, if_neg hs42_38, if_neg hs42_48, if_neg hs42_58, if_pos hs42_68]), N75, K37⟩
        · show Ends p e below QQ (T37.setTop (mkF m 42 #[.val (.int p0), .val (.ref b22), .val (.int x2_1), .unset, .unset, .unset] []))
          by_cases hs42_78 : x2_1 = (4 : Int32)
          · show Ends p e below QQ (T37.setTop (mkF m 42 #[.val (.int p0), .val (.ref b22), .val (.int x2_1), .unset, .unset, .unset] []))
            rw [hs42_78]
            show Ends p e below QQ (T37.setTop (mkF m 42 #[.val (.int p0), .val (.ref b22), .val (.int (4 : Int32)), .unset, .unset, .unset] []))
            refine Ends.step (fun _ k => XS.aloadN X37.here hx rfl (hb hby at_42) rfl rfl k) ?_
            show Ends p e below QQ (T37.setTop (mkF m 43 #[.val (.int p0), .val (.ref b22), .val (.int (4 : Int32)), .unset, .unset, .unset] [(.ref b22)]))
            refine Ends.step (fun _ k => XS.iloadN X37.here hx rfl (hb hby at_43) rfl k) ?_
            show Ends p e below QQ (T37.setTop (mkF m 44 #[.val (.int p0), .val (.ref b22), .val (.int (4 : Int32)), .unset, .unset, .unset] [(.int (4 : Int32)), (.ref b22)]))
            obtain ⟨cl79, Ar79, q79, S79, P79, H79, G79⟩ := id A_b22
            have hin79 : ¬ ((4 : Int32) < 0 ∨ cl79.slots.size ≤ ((4 : Int32)).toNatClampNeg) := inb_of S79 ⟨by decide, by decide⟩
            have hat79 : cl79.slots[((4 : Int32)).toNatClampNeg]? = some (.ref a_GTE) := H79.at hin79 (rfl)
            refine Ends.step (fun _ k => X37.aaload hx (j := (4 : Int32)) (v := (.ref a_GTE)) (by rw [e37]; exact Ar79.1) (State.isArrayOf_alike hZ.alike Ar79.2.1) rfl Ar79.2.2 hin79 hat79 (g := (mkF m 44 #[.val (.int p0), .val (.ref b22), .val (.int (4 : Int32)), .unset, .unset, .unset] [(.int (4 : Int32)), (.ref b22)])) rfl rfl (hb hby at_44) _ k) ?_
            show Ends p e below QQ (T37.setTop (mkF m 45 #[.val (.int p0), .val (.ref b22), .val (.int (4 : Int32)), .unset, .unset, .unset] [(.ref a_GTE)]))
            refine Ends.step (fun _ k => XS.astoreN X37.here hx rfl (hb hby at_45) rfl rfl (l' := #[.val (.int p0), .val (.ref b22), .val (.int (4 : Int32)), .val (.ref a_GTE), .unset, .unset]) rfl k) ?_
            show Ends p e below QQ (T37.setTop (mkF m 46 #[.val (.int p0), .val (.ref b22), .val (.int (4 : Int32)), .val (.ref a_GTE), .unset, .unset] []))
            refine Ends.step (fun _ k => XS.aloadN X37.here hx rfl (hb hby at_46) rfl rfl k) ?_
            show Ends p e below QQ (T37.setTop (mkF m 47 #[.val (.int p0), .val (.ref b22), .val (.int (4 : Int32)), .val (.ref a_GTE), .unset, .unset] [(.ref a_GTE)]))
            obtain ⟨cq80, kq80, q80a, q80b, q80c⟩ := isOf hZ e37 E_a_GTE
            obtain ⟨_, _, ⟨T80, L80, k80, n80⟩, -, X80, ⟨Lc80, hQ80, l80, y80, z80⟩, st80⟩ := X37.virtualBack hx (y := (⟨"com/example/nuntius/nuntius/cql/Relation$Operator", "symbol", "()Ljava/lang/String;"⟩ : MethodName)) (z := (⟨"com/example/nuntius/nuntius/cql/Relation$Operator", "symbol", "()Ljava/lang/String;"⟩ : MethodName)) hown (mvT hZ (hw _ (List.mem_of_getElem? (i := 15) rfl))) (mvT hZ (hw _ (List.mem_of_getElem? (i := 16) rfl))) (notFace_of_selects (args := #[]) (mvT hZ (hw _ (List.mem_of_getElem? (i := 18) rfl)))) (mvT hZ (hw _ (List.mem_of_getElem? (i := 18) rfl))) (mvT hZ (hw _ (List.mem_of_getElem? (i := 17) rfl))) (by decide) (backOf (W := 0) (rm1 l Z a0 hw [] a_GTE a_GTE_symbol h37 n0 (Nat.le_trans Z0 K37.1) F_symbol_a_GTE) hZ (hw _ (List.mem_of_getElem? (i := 19) rfl)) (hw _ (List.mem_of_getElem? (i := 3) rfl)) (by decide) (by decide)) q80a q80c (g := (mkF m 47 #[.val (.int p0), .val (.ref b22), .val (.int (4 : Int32)), .val (.ref a_GTE), .unset, .unset] [(.ref a_GTE)])) rfl (by rw [hml]; rfl) (Steps.refl _) (argsL := []) (rest := []) (lenOf pd_5 rfl) rfl (by show 2 * 0 + _ ≤ _; exact Nat.le_of_eq rfl) (hb hby at_47) (fun _ _ => ⟨rfl, e37, (by decide : 1 + 0 ≤ _), (by decide : 5 + 0 ≤ _)⟩)
            dsimp only [Pt.U, Pt.locs, Pt.cells, Pt.slots] at X80 l80 y80 z80 st80 hQ80
            subst l80 y80 z80
            obtain ⟨rfl, Nq80, hh80⟩ := hQ80
            have N80 := Fr.app N37 Nq80
            refine Ends.step (fun _ k => st80.trans k) ?_
            show Ends p e below QQ (T80.setTop (mkF m 50 #[.val (.int p0), .val (.ref b22), .val (.int (4 : Int32)), .val (.ref a_GTE), .unset, .unset] [(.ref a_GTE_symbol)]))
            refine Ends.step (fun _ k => XS.astore X80.here hx rfl (hb hby at_50) rfl rfl (l' := #[.val (.int p0), .val (.ref b22), .val (.int (4 : Int32)), .val (.ref a_GTE), .val (.ref a_GTE_symbol), .unset]) rfl k) ?_
            show Ends p e below QQ (T80.setTop (mkF m 52 #[.val (.int p0), .val (.ref b22), .val (.int (4 : Int32)), .val (.ref a_GTE), .val (.ref a_GTE_symbol), .unset] []))
            refine Ends.step (fun _ k => XS.aload X80.here hx rfl (hb hby at_52) rfl rfl k) ?_
            show Ends p e below QQ (T80.setTop (mkF m 54 #[.val (.int p0), .val (.ref b22), .val (.int (4 : Int32)), .val (.ref a_GTE), .val (.ref a_GTE_symbol), .unset] [(.ref a_GTE_symbol)]))
            obtain ⟨cq81, kq81, q81a, q81b, q81c⟩ := isOf hZ hh80 E_a_GTE_symbol
            obtain ⟨_, _, ⟨T81, L81, k81, n81⟩, -, X81, ⟨Lc81, hQ81, l81, y81, z81⟩, st81⟩ := X80.virtualBack hx (y := (⟨"java/lang/String", "length", "()I"⟩ : MethodName)) (z := (⟨"java/lang/String", "length", "()I"⟩ : MethodName)) hown (mvT hZ (hw _ (List.mem_of_getElem? (i := 22) rfl))) (mvT hZ (hw _ (List.mem_of_getElem? (i := 23) rfl))) (notFace_of_selects (args := #[]) (mvT hZ (hw _ (List.mem_of_getElem? (i := 25) rfl)))) (mvT hZ (hw _ (List.mem_of_getElem? (i := 25) rfl))) (mvT hZ (hw _ (List.mem_of_getElem? (i := 24) rfl))) (by decide) (backOf (W := 0) (rmlen l Z a0 hw [] a_GTE_symbol a_GTE_symbol_value k_a_GTE_symbol_value (2 : Int32) [(.int (62 : Int32)), (.int (61 : Int32))] cs h37 n0 (Nat.le_trans Z0 K37.1) E_a_GTE_symbol F_value_a_GTE_symbol A_a_GTE_symbol_value S_COMPACT_STRINGS hcs F_coder_a_GTE_symbol) hZ (hw _ (List.mem_of_getElem? (i := 27) rfl)) (hw _ (List.mem_of_getElem? (i := 26) rfl)) (by decide) (by decide)) q81a q81c (g := (mkF m 54 #[.val (.int p0), .val (.ref b22), .val (.int (4 : Int32)), .val (.ref a_GTE), .val (.ref a_GTE_symbol), .unset] [(.ref a_GTE_symbol)])) rfl (by rw [hml]; rfl) (Steps.refl _) (argsL := []) (rest := []) (lenOf pd_6 rfl) rfl (by show 2 * 0 + _ ≤ _; exact Nat.le_of_eq rfl) (hb hby at_54) (fun _ _ => ⟨rfl, hh80, (by decide : 1 + 0 ≤ _), (by decide : 5 + 0 ≤ _)⟩)
            dsimp only [Pt.U, Pt.locs, Pt.cells, Pt.slots] at X81 l81 y81 z81 st81 hQ81
            subst l81 y81 z81
            obtain ⟨rfl, Nq81, hh81⟩ := hQ81
            have N81 := Fr.app N80 Nq81
            refine Ends.step (fun _ k => st81.trans k) ?_
            show Ends p e below QQ (T81.setTop (mkF m 57 #[.val (.int p0), .val (.ref b22), .val (.int (4 : Int32)), .val (.ref a_GTE), .val (.ref a_GTE_symbol), .unset] [(.int (2 : Int32))]))
            refine Ends.step (fun _ k => XS.ifNo X81.here hx rfl (hb hby at_57) rfl (XT.i0_le_f (by decide)) k) ?_
            show Ends p e below QQ (T81.setTop (mkF m 60 #[.val (.int p0), .val (.ref b22), .val (.int (4 : Int32)), .val (.ref a_GTE), .val (.ref a_GTE_symbol), .unset] []))
            refine Ends.step (fun _ k => XS.aload X81.here hx rfl (hb hby at_60) rfl rfl k) ?_
            show Ends p e below QQ (T81.setTop (mkF m 62 #[.val (.int p0), .val (.ref b22), .val (.int (4 : Int32)), .val (.ref a_GTE), .val (.ref a_GTE_symbol), .unset] [(.ref a_GTE_symbol)]))
            refine Ends.step (fun _ k => XT.iconstV X81.here hx rfl (0 : Int32) (hb hby at_62) rfl k) ?_
            show Ends p e below QQ (T81.setTop (mkF m 63 #[.val (.int p0), .val (.ref b22), .val (.int (4 : Int32)), .val (.ref a_GTE), .val (.ref a_GTE_symbol), .unset] [(.int (0 : Int32)), (.ref a_GTE_symbol)]))
            obtain ⟨cq82, kq82, q82a, q82b, q82c⟩ := isOf hZ hh81 E_a_GTE_symbol
            obtain ⟨_, _, ⟨T82, L82, k82, n82⟩, -, X82, ⟨Lc82, hQ82, l82, y82, z82⟩, st82⟩ := X81.virtualBack hx (y := (⟨"java/lang/String", "charAt", "(I)C"⟩ : MethodName)) (z := (⟨"java/lang/String", "charAt", "(I)C"⟩ : MethodName)) hown (mvT hZ (hw _ (List.mem_of_getElem? (i := 38) rfl))) (mvT hZ (hw _ (List.mem_of_getElem? (i := 39) rfl))) (notFace_of_selects (args := #[]) (mvT hZ (hw _ (List.mem_of_getElem? (i := 41) rfl)))) (mvT hZ (hw _ (List.mem_of_getElem? (i := 41) rfl))) (mvT hZ (hw _ (List.mem_of_getElem? (i := 40) rfl))) (by decide) (backOf (W := 0) (rmcha l Z a0 hw [] a_GTE_symbol (0 : Int32) a_GTE_symbol_value k_a_GTE_symbol_value (2 : Int32) [(.int (62 : Int32)), (.int (61 : Int32))] (62 : Int32) cs sf h37 n0 (Nat.le_trans Z0 K37.1) E_a_GTE_symbol F_value_a_GTE_symbol A_a_GTE_symbol_value S_COMPACT_STRINGS hcs F_coder_a_GTE_symbol S_SIOOBE_FORMATTER hr_sf (by decide) (by decide) rfl) hZ (hw _ (List.mem_of_getElem? (i := 42) rfl)) (hw _ (List.mem_of_getElem? (i := 26) rfl)) (by decide) (by decide)) q82a q82c (g := (mkF m 63 #[.val (.int p0), .val (.ref b22), .val (.int (4 : Int32)), .val (.ref a_GTE), .val (.ref a_GTE_symbol), .unset] [(.int (0 : Int32)), (.ref a_GTE_symbol)])) rfl (by rw [hml]; rfl) (Steps.refl _) (argsL := [(.int (0 : Int32))]) (rest := []) (lenOf pd_7 rfl) rfl (by show 2 * 0 + _ ≤ _; exact Nat.le_of_eq rfl) (hb hby at_63) (fun _ _ => ⟨rfl, hh81, (by decide : 1 + 0 ≤ _), (by decide : 5 + 0 ≤ _)⟩)
            dsimp only [Pt.U, Pt.locs, Pt.cells, Pt.slots] at X82 l82 y82 z82 st82 hQ82
            subst l82 y82 z82
            obtain ⟨rfl, Nq82, hh82⟩ := hQ82
            have N82 := Fr.app N81 Nq82
            refine Ends.step (fun _ k => st82.trans k) ?_
            show Ends p e below QQ (T82.setTop (mkF m 66 #[.val (.int p0), .val (.ref b22), .val (.int (4 : Int32)), .val (.ref a_GTE), .val (.ref a_GTE_symbol), .unset] [(.int ((62 : Int32) &&& (255 : Int32)))]))
            refine Ends.step (fun _ k => XT.bipushV X82.here hx rfl (62 : Int32) (hb hby at_66) rfl k) ?_
            show Ends p e below QQ (T82.setTop (mkF m 68 #[.val (.int p0), .val (.ref b22), .val (.int (4 : Int32)), .val (.ref a_GTE), .val (.ref a_GTE_symbol), .unset] [(.int (62 : Int32)), (.int ((62 : Int32) &&& (255 : Int32)))]))
            have J76_83 : (∀ (v76_10 : Int32) (hv76_10 : v76_10 = (if ((62 : Int32) &&& (255 : Int32)) = (62 : Int32) then (1 : Int32) else (0 : Int32))), Ends p e below QQ (T82.setTop (mkF m 76 #[.val (.int p0), .val (.ref b22), .val (.int (4 : Int32)), .val (.ref a_GTE), .val (.ref a_GTE_symbol), .unset] [(.int v76_10)]))) → Ends p e below QQ (T82.setTop (mkF m 68 #[.val (.int p0), .val (.ref b22), .val (.int (4 : Int32)), .val (.ref a_GTE), .val (.ref a_GTE_symbol), .unset] [(.int (62 : Int32)), (.int ((62 : Int32) &&& (255 : Int32)))])) := by
              intro hJ
              by_cases hc68_84 : ((62 : Int32) &&& (255 : Int32)) = (62 : Int32)
              · refine Ends.step (fun _ k => XS.icmpNo X82.here hx rfl (hb hby at_68) rfl (XT.ii_ne_f hc68_84) k) ?_
                show Ends p e below QQ (T82.setTop (mkF m 71 #[.val (.int p0), .val (.ref b22), .val (.int (4 : Int32)), .val (.ref a_GTE), .val (.ref a_GTE_symbol), .unset] []))
                refine Ends.step (fun _ k => XT.iconstV X82.here hx rfl (1 : Int32) (hb hby at_71) rfl k) ?_
                show Ends p e below QQ (T82.setTop (mkF m 72 #[.val (.int p0), .val (.ref b22), .val (.int (4 : Int32)), .val (.ref a_GTE), .val (.ref a_GTE_symbol), .unset] [(.int (1 : Int32))]))
                refine Ends.step (fun _ k => XS.goto X82.here hx rfl (pc0 := 72) (pc' := 76) rfl (hb hby at_72) (by decide) (by decide) k) ?_
                exact hJ _ (by simp only [if_pos hc68_84])
              · refine Ends.step (fun _ k => XS.icmpYes X82.here hx rfl (pc0 := 68) (pc' := 75) rfl (hb hby at_68) rfl (XT.ii_ne_t hc68_84) (by decide) (by decide) k) ?_
                show Ends p e below QQ (T82.setTop (mkF m 75 #[.val (.int p0), .val (.ref b22), .val (.int (4 : Int32)), .val (.ref a_GTE), .val (.ref a_GTE_symbol), .unset] []))
                refine Ends.step (fun _ k => XT.iconstV X82.here hx rfl (0 : Int32) (hb hby at_75) rfl k) ?_
                exact hJ _ (by simp only [if_neg hc68_84])
            refine J76_83 fun v76_10 hv76_10 => ?_
            have dv76_10 : f0_v76_10 p0 = v76_10 := by
              simp only [f0_v76_10]
              exact hv76_10.symm
            show Ends p e below QQ (T82.setTop (mkF m 76 #[.val (.int p0), .val (.ref b22), .val (.int (4 : Int32)), .val (.ref a_GTE), .val (.ref a_GTE_symbol), .unset] [(.int v76_10)]))
            refine Ends.step (fun _ k => XS.istore X82.here hx rfl (hb hby at_76) rfl (l' := #[.val (.int p0), .val (.ref b22), .val (.int (4 : Int32)), .val (.ref a_GTE), .val (.ref a_GTE_symbol), .val (.int v76_10)]) rfl k) ?_
            show Ends p e below QQ (T82.setTop (mkF m 78 #[.val (.int p0), .val (.ref b22), .val (.int (4 : Int32)), .val (.ref a_GTE), .val (.ref a_GTE_symbol), .val (.int v76_10)] []))
            refine Ends.step (fun _ k => XS.aloadN X82.here hx rfl (hb hby at_78) rfl rfl k) ?_
            show Ends p e below QQ (T82.setTop (mkF m 79 #[.val (.int p0), .val (.ref b22), .val (.int (4 : Int32)), .val (.ref a_GTE), .val (.ref a_GTE_symbol), .val (.int v76_10)] [(.ref a_GTE)]))
            obtain ⟨cq85, kq85, q85a, q85b, q85c⟩ := isOf hZ hh82 E_a_GTE
            obtain ⟨_, _, ⟨T85, L85, k85, n85⟩, -, X85, ⟨Lc85, hQ85, l85, y85, z85⟩, st85⟩ := X82.virtualBack hx (y := (⟨"com/example/nuntius/nuntius/cql/Relation$Operator", "isLowerBound", "()Z"⟩ : MethodName)) (z := (⟨"com/example/nuntius/nuntius/cql/Relation$Operator", "isLowerBound", "()Z"⟩ : MethodName)) hown (mvT hZ (hw _ (List.mem_of_getElem? (i := 60) rfl))) (mvT hZ (hw _ (List.mem_of_getElem? (i := 61) rfl))) (notFace_of_selects (args := #[]) (mvT hZ (hw _ (List.mem_of_getElem? (i := 63) rfl)))) (mvT hZ (hw _ (List.mem_of_getElem? (i := 63) rfl))) (mvT hZ (hw _ (List.mem_of_getElem? (i := 62) rfl))) (by decide) (backOf (W := 0) (rm9h l Z a0 hw [] a_GTE a_GT h37 n0 (Nat.le_trans Z0 K37.1) S_GT S_GTE ne_a_GTE_a_GT) hZ (hw _ (List.mem_of_getElem? (i := 64) rfl)) (hw _ (List.mem_of_getElem? (i := 3) rfl)) (by decide) (by decide)) q85a q85c (g := (mkF m 79 #[.val (.int p0), .val (.ref b22), .val (.int (4 : Int32)), .val (.ref a_GTE), .val (.ref a_GTE_symbol), .val (.int v76_10)] [(.ref a_GTE)])) rfl (by rw [hml]; rfl) (Steps.refl _) (argsL := []) (rest := []) (lenOf pd_3 rfl) rfl (by show 2 * 0 + _ ≤ _; exact Nat.le_of_eq rfl) (hb hby at_79) (fun _ _ => ⟨rfl, hh82, (by decide : 1 + 0 ≤ _), (by decide : 5 + 0 ≤ _)⟩)
            dsimp only [Pt.U, Pt.locs, Pt.cells, Pt.slots] at X85 l85 y85 z85 st85 hQ85
            subst l85 y85 z85
            obtain ⟨rfl, Nq85, hh85⟩ := hQ85
            have N85 := Fr.app N82 Nq85
            refine Ends.step (fun _ k => st85.trans k) ?_
            show Ends p e below QQ (T85.setTop (mkF m 82 #[.val (.int p0), .val (.ref b22), .val (.int (4 : Int32)), .val (.ref a_GTE), .val (.ref a_GTE_symbol), .val (.int v76_10)] [(.int (1 : Int32))]))
            refine Ends.step (fun _ k => XS.iload X85.here hx rfl (hb hby at_82) rfl k) ?_
            show Ends p e below QQ (T85.setTop (mkF m 84 #[.val (.int p0), .val (.ref b22), .val (.int (4 : Int32)), .val (.ref a_GTE), .val (.ref a_GTE_symbol), .val (.int v76_10)] [(.int v76_10), (.int (1 : Int32))]))
            have J92_86 : (∀ (v92_11 : Int32) (hv92_11 : v92_11 = (if (1 : Int32) = v76_10 then (1 : Int32) else (0 : Int32))), Ends p e below QQ (T85.setTop (mkF m 92 #[.val (.int p0), .val (.ref b22), .val (.int (4 : Int32)), .val (.ref a_GTE), .val (.ref a_GTE_symbol), .val (.int v76_10)] [(.int v92_11)]))) → Ends p e below QQ (T85.setTop (mkF m 84 #[.val (.int p0), .val (.ref b22), .val (.int (4 : Int32)), .val (.ref a_GTE), .val (.ref a_GTE_symbol), .val (.int v76_10)] [(.int v76_10), (.int (1 : Int32))])) := by
              intro hJ
              by_cases hc84_87 : (1 : Int32) = v76_10
              · refine Ends.step (fun _ k => XS.icmpNo X85.here hx rfl (hb hby at_84) rfl (XT.ii_ne_f hc84_87) k) ?_
                show Ends p e below QQ (T85.setTop (mkF m 87 #[.val (.int p0), .val (.ref b22), .val (.int (4 : Int32)), .val (.ref a_GTE), .val (.ref a_GTE_symbol), .val (.int v76_10)] []))
                refine Ends.step (fun _ k => XT.iconstV X85.here hx rfl (1 : Int32) (hb hby at_87) rfl k) ?_
                show Ends p e below QQ (T85.setTop (mkF m 88 #[.val (.int p0), .val (.ref b22), .val (.int (4 : Int32)), .val (.ref a_GTE), .val (.ref a_GTE_symbol), .val (.int v76_10)] [(.int (1 : Int32))]))
                refine Ends.step (fun _ k => XS.goto X85.here hx rfl (pc0 := 88) (pc' := 92) rfl (hb hby at_88) (by decide) (by decide) k) ?_
                exact hJ _ (by simp only [if_pos hc84_87])
              · refine Ends.step (fun _ k => XS.icmpYes X85.here hx rfl (pc0 := 84) (pc' := 91) rfl (hb hby at_84) rfl (XT.ii_ne_t hc84_87) (by decide) (by decide) k) ?_
                show Ends p e below QQ (T85.setTop (mkF m 91 #[.val (.int p0), .val (.ref b22), .val (.int (4 : Int32)), .val (.ref a_GTE), .val (.ref a_GTE_symbol), .val (.int v76_10)] []))
                refine Ends.step (fun _ k => XT.iconstV X85.here hx rfl (0 : Int32) (hb hby at_91) rfl k) ?_
                exact hJ _ (by simp only [if_neg hc84_87])
            refine J92_86 fun v92_11 hv92_11 => ?_
            have dv92_11 : f0_v92_11 p0 = v92_11 := by
              simp only [f0_v92_11, dv76_10]
              exact hv92_11.symm
            show Ends p e below QQ (T85.setTop (mkF m 92 #[.val (.int p0), .val (.ref b22), .val (.int (4 : Int32)), .val (.ref a_GTE), .val (.ref a_GTE_symbol), .val (.int v76_10)] [(.int v92_11)]))
            exact Ends.fin (some (.int v92_11)) X85 hQQ (fun h => by rw [Bd.returns] at h; cases h) Bd.notSynchronized (fun _ hr => retOut X85 hx (t := .boolean) Bd.returns (by rw [hv92_11]; exact own_narB (by repeat' (first | exact Or.inl rfl | exact Or.inr rfl | apply own_01))) (Or.inl ⟨rfl, (by simp), _, rfl⟩) (hb hby at_92) hr) hh85 (by decide) (by decide) ⟨(by simp only [f0, dx2_1, dv76_10, dv92_11, if_neg hs42_38, if_neg hs42_48, if_neg hs42_58, if_neg hs42_68, if_pos hs42_78]), N85, K37⟩
          · show Ends p e below QQ (T37.setTop (mkF m 42 #[.val (.int p0), .val (.ref b22), .val (.int x2_1), .unset, .unset, .unset] []))
            exact (own_five p0 (by assumption) hs42_38 hs42_48 hs42_58 hs42_68 hs42_78).elim
theorem own_law (a : Int32) : f0 a = 1 := by
  simp only [f0]
  repeat' split
  all_goals rfl
set_option maxRecDepth 65536 in
set_option maxHeartbeats 40000000 in
theorem comes_1 {Post : Tables → Env → Array Value → State → Outcome → State → Prop} (hpost : ∀ tb e args s v u, (limb_1_1.after args s (.returned v) u = true ∧ limb_1_2.after args s (.returned v) u = true ∧ True) → FrameEnd s (.returned v) u (Jvm.fieldLocs frame_1_writes args s ++ Jvm.arrayLocs frame_1_arrays args s ++ Jvm.staticLocs frame_1_statics s) 16 128 → Post tb e args s (.returned v) u) :
    ArmFor flags0 classFile x code maxLocals ret World_1 tables_1 room_1 Calls_1 rest_1 Pre_1 Post := by
  intro l hfl _ _ p e ha hc hk s m args below hf hA hF happ hP
  obtain ⟨hcalls, hrest, hpre⟩ := hP
  obtain ⟨-, -, -, hnamed, -, -, -, hat⟩ := (Spec.applies_iff hf).mp happ
  obtain ⟨hg, hn⟩ := and_e (Cond.before_iff.mp (show (Jvm.Cond.and given_1 narrow_1).before args s = true from hpre))
  obtain ⟨gl1, gr1⟩ := and_e hg
  obtain ⟨w0, rfl⟩ : ∃ w0 : Value, args = #[w0] := by
    have hs : args.size = 1 := by simpa [Cond.value, given_1] using gl1
    obtain ⟨L⟩ := args
    match L, hs with
    | [w0], _ => exact ⟨w0, rfl⟩
  have hw := fun d (hd : d ∈ tables_1) => atoms_spec (ws := Jvm.Cond.code x code maxLocals ret :: tables_1) hat d (List.mem_cons_of_mem _ hd)
  have hfit : Fit s := fun {y c} hc i hi => by
    obtain ⟨ha, rfl⟩ := Array.getElem?_eq_some_iff.mp hc
    have q := List.all_eq_true.mp ((Array.all_eq_true_iff_forall_mem.mp hF) _ (Array.getElem_mem ha)) i (List.mem_range.mpr hi)
    simpa [Array.getElem?_eq_getElem hi] using q
  obtain ⟨hsets, hown0⟩ := atoms_of _ (rest_1_c_eq ▸ (show rest_1_c.before _ s = true from hrest))
  have hr0 := Cond.before_iff.mp hown0
  obtain ⟨i0, ei0⟩ := is_v gr1
  obtain rfl : w0 = (.int i0) := Option.some.inj ei0
  obtain ⟨nl1, nr1⟩ := and_e hn
  obtain ⟨nl2, nr2⟩ := and_e nr1
  obtain ⟨nl3, nr3⟩ := and_e nr2
  obtain ⟨nl4, nr4⟩ := and_e nr3
  obtain ⟨nl5, nr5⟩ := and_e nr4
  obtain ⟨nl6, nr6⟩ := and_e nr5
  obtain ⟨nl7, nr7⟩ := and_e nr6
  obtain ⟨nl8, nr8⟩ := and_e nr7
  obtain ⟨nl9, nr9⟩ := and_e nr8
  obtain ⟨nl10, nr10⟩ := and_e nr9
  obtain ⟨nl11, nr11⟩ := and_e nr10
  obtain ⟨nl12, nr12⟩ := and_e nr11
  obtain ⟨nl13, nr13⟩ := and_e nr12
  obtain ⟨nl14, nr14⟩ := and_e nr13
  obtain ⟨nl15, nr15⟩ := and_e nr14
  obtain ⟨nl16, nr16⟩ := and_e nr15
  obtain ⟨nl17, nr17⟩ := and_e nr16
  obtain ⟨nl18, nr18⟩ := and_e nr17
  obtain ⟨nl19, nr19⟩ := and_e nr18
  obtain ⟨nl20, nr20⟩ := and_e nr19
  obtain ⟨nl21, nr21⟩ := and_e nr20
  obtain ⟨nl22, nr22⟩ := and_e nr21
  obtain ⟨nl23, nr23⟩ := and_e nr22
  obtain ⟨nl24, nr24⟩ := and_e nr23
  obtain ⟨nl25, nr25⟩ := and_e nr24
  obtain ⟨nl26, nr26⟩ := and_e nr25
  obtain ⟨nl27, nr27⟩ := and_e nr26
  obtain ⟨nl28, nr28⟩ := and_e nr27
  obtain ⟨nl29, nr29⟩ := and_e nr28
  obtain ⟨nl30, nr30⟩ := and_e nr29
  obtain ⟨nl31, nr31⟩ := and_e nr30
  obtain ⟨nl32, nr32⟩ := and_e nr31
  obtain ⟨nl33, nr33⟩ := and_e nr32
  obtain ⟨nl34, nr34⟩ := and_e nr33
  obtain ⟨nl35, nr35⟩ := and_e nr34
  obtain ⟨nl36, nr36⟩ := and_e nr35
  obtain ⟨a_EQ, ev_a_EQ⟩ := exa_v nl1
  have E_a_EQ := Exa.start ev_a_EQ nl1
  obtain ⟨a_LT, ev_a_LT⟩ := exa_v nl2
  have E_a_LT := Exa.start ev_a_LT nl2
  obtain ⟨a_LTE, ev_a_LTE⟩ := exa_v nl3
  have E_a_LTE := Exa.start ev_a_LTE nl3
  obtain ⟨a_GT, ev_a_GT⟩ := exa_v nl4
  have E_a_GT := Exa.start ev_a_GT nl4
  obtain ⟨a_GTE, ev_a_GTE⟩ := exa_v nl5
  have E_a_GTE := Exa.start ev_a_GTE nl5
  obtain ⟨a_EQ_symbol, ev_a_EQ_symbol⟩ := exa_v nl6
  have F_symbol_a_EQ : Fld s s.heap a_EQ "com/example/nuntius/nuntius/cql/Relation$Operator" "symbol" "Ljava/lang/String;" (.ref a_EQ_symbol) := Fld.start ((fld_at ev_a_EQ).symm.trans ev_a_EQ_symbol)
  have E_a_EQ_symbol := Exa.start ev_a_EQ_symbol nl6
  obtain ⟨a_EQ_symbol_value, ev_a_EQ_symbol_value⟩ := arr_v nl7
  have F_value_a_EQ_symbol : Fld s s.heap a_EQ_symbol "java/lang/String" "value" "[B" (.ref a_EQ_symbol_value) := Fld.start ((fld_at ev_a_EQ_symbol).symm.trans ev_a_EQ_symbol_value)
  obtain ⟨cl_a_EQ_symbol_value, Ar_a_EQ_symbol_value⟩ := Arr.start ev_a_EQ_symbol_value nl7
  obtain ⟨a_GT_symbol, ev_a_GT_symbol⟩ := exa_v nl14
  have F_symbol_a_GT : Fld s s.heap a_GT "com/example/nuntius/nuntius/cql/Relation$Operator" "symbol" "Ljava/lang/String;" (.ref a_GT_symbol) := Fld.start ((fld_at ev_a_GT).symm.trans ev_a_GT_symbol)
  have E_a_GT_symbol := Exa.start ev_a_GT_symbol nl14
  obtain ⟨a_GT_symbol_value, ev_a_GT_symbol_value⟩ := arr_v nl15
  have F_value_a_GT_symbol : Fld s s.heap a_GT_symbol "java/lang/String" "value" "[B" (.ref a_GT_symbol_value) := Fld.start ((fld_at ev_a_GT_symbol).symm.trans ev_a_GT_symbol_value)
  obtain ⟨cl_a_GT_symbol_value, Ar_a_GT_symbol_value⟩ := Arr.start ev_a_GT_symbol_value nl15
  obtain ⟨a_LT_symbol, ev_a_LT_symbol⟩ := exa_v nl19
  have F_symbol_a_LT : Fld s s.heap a_LT "com/example/nuntius/nuntius/cql/Relation$Operator" "symbol" "Ljava/lang/String;" (.ref a_LT_symbol) := Fld.start ((fld_at ev_a_LT).symm.trans ev_a_LT_symbol)
  have E_a_LT_symbol := Exa.start ev_a_LT_symbol nl19
  obtain ⟨a_LT_symbol_value, ev_a_LT_symbol_value⟩ := arr_v nl20
  have F_value_a_LT_symbol : Fld s s.heap a_LT_symbol "java/lang/String" "value" "[B" (.ref a_LT_symbol_value) := Fld.start ((fld_at ev_a_LT_symbol).symm.trans ev_a_LT_symbol_value)
  obtain ⟨cl_a_LT_symbol_value, Ar_a_LT_symbol_value⟩ := Arr.start ev_a_LT_symbol_value nl20
  obtain ⟨a_GTE_symbol, ev_a_GTE_symbol⟩ := exa_v nl25
  have F_symbol_a_GTE : Fld s s.heap a_GTE "com/example/nuntius/nuntius/cql/Relation$Operator" "symbol" "Ljava/lang/String;" (.ref a_GTE_symbol) := Fld.start ((fld_at ev_a_GTE).symm.trans ev_a_GTE_symbol)
  have E_a_GTE_symbol := Exa.start ev_a_GTE_symbol nl25
  obtain ⟨a_GTE_symbol_value, ev_a_GTE_symbol_value⟩ := arr_v nl26
  have F_value_a_GTE_symbol : Fld s s.heap a_GTE_symbol "java/lang/String" "value" "[B" (.ref a_GTE_symbol_value) := Fld.start ((fld_at ev_a_GTE_symbol).symm.trans ev_a_GTE_symbol_value)
  obtain ⟨cl_a_GTE_symbol_value, Ar_a_GTE_symbol_value⟩ := Arr.start ev_a_GTE_symbol_value nl26
  obtain ⟨a_LTE_symbol, ev_a_LTE_symbol⟩ := exa_v nl30
  have F_symbol_a_LTE : Fld s s.heap a_LTE "com/example/nuntius/nuntius/cql/Relation$Operator" "symbol" "Ljava/lang/String;" (.ref a_LTE_symbol) := Fld.start ((fld_at ev_a_LTE).symm.trans ev_a_LTE_symbol)
  have E_a_LTE_symbol := Exa.start ev_a_LTE_symbol nl30
  obtain ⟨a_LTE_symbol_value, ev_a_LTE_symbol_value⟩ := arr_v nl31
  have F_value_a_LTE_symbol : Fld s s.heap a_LTE_symbol "java/lang/String" "value" "[B" (.ref a_LTE_symbol_value) := Fld.start ((fld_at ev_a_LTE_symbol).symm.trans ev_a_LTE_symbol_value)
  obtain ⟨cl_a_LTE_symbol_value, Ar_a_LTE_symbol_value⟩ := Arr.start ev_a_LTE_symbol_value nl31
  obtain ⟨lt_a_EQ_symbol_value, sz_a_EQ_symbol_value⟩ := own_len nl8 ev_a_EQ_symbol_value Ar_a_EQ_symbol_value
  have F_coder_a_EQ_symbol : Fld s s.heap a_EQ_symbol "java/lang/String" "coder" "B" (.int (0 : Int32)) := own_fld nl9 ev_a_EQ_symbol rfl
  have at_a_EQ_symbol_value_0 : cl_a_EQ_symbol_value.slots[(0 : Int32).toNatClampNeg]? = some (.int (61 : Int32)) := own_elem nl10 ev_a_EQ_symbol_value Ar_a_EQ_symbol_value (rfl)
  have F_ordinal_a_EQ : Fld s s.heap a_EQ "java/lang/Enum" "ordinal" "I" (.int (0 : Int32)) := own_fld nl11 ev_a_EQ rfl
  have F_ordinal_a_GT : Fld s s.heap a_GT "java/lang/Enum" "ordinal" "I" (.int (3 : Int32)) := own_fld nl12 ev_a_GT rfl
  have F_ordinal_a_GTE : Fld s s.heap a_GTE "java/lang/Enum" "ordinal" "I" (.int (4 : Int32)) := own_fld nl13 ev_a_GTE rfl
  obtain ⟨lt_a_GT_symbol_value, sz_a_GT_symbol_value⟩ := own_len nl16 ev_a_GT_symbol_value Ar_a_GT_symbol_value
  have F_coder_a_GT_symbol : Fld s s.heap a_GT_symbol "java/lang/String" "coder" "B" (.int (0 : Int32)) := own_fld nl17 ev_a_GT_symbol rfl
  have at_a_GT_symbol_value_0 : cl_a_GT_symbol_value.slots[(0 : Int32).toNatClampNeg]? = some (.int (62 : Int32)) := own_elem nl18 ev_a_GT_symbol_value Ar_a_GT_symbol_value (rfl)
  obtain ⟨lt_a_LT_symbol_value, sz_a_LT_symbol_value⟩ := own_len nl21 ev_a_LT_symbol_value Ar_a_LT_symbol_value
  have F_coder_a_LT_symbol : Fld s s.heap a_LT_symbol "java/lang/String" "coder" "B" (.int (0 : Int32)) := own_fld nl22 ev_a_LT_symbol rfl
  have at_a_LT_symbol_value_0 : cl_a_LT_symbol_value.slots[(0 : Int32).toNatClampNeg]? = some (.int (60 : Int32)) := own_elem nl23 ev_a_LT_symbol_value Ar_a_LT_symbol_value (rfl)
  have F_ordinal_a_LT : Fld s s.heap a_LT "java/lang/Enum" "ordinal" "I" (.int (1 : Int32)) := own_fld nl24 ev_a_LT rfl
  obtain ⟨lt_a_GTE_symbol_value, sz_a_GTE_symbol_value⟩ := own_len nl27 ev_a_GTE_symbol_value Ar_a_GTE_symbol_value
  have F_coder_a_GTE_symbol : Fld s s.heap a_GTE_symbol "java/lang/String" "coder" "B" (.int (0 : Int32)) := own_fld nl28 ev_a_GTE_symbol rfl
  have at_a_GTE_symbol_value_0 : cl_a_GTE_symbol_value.slots[(0 : Int32).toNatClampNeg]? = some (.int (62 : Int32)) := own_elem nl29 ev_a_GTE_symbol_value Ar_a_GTE_symbol_value (rfl)
  obtain ⟨lt_a_LTE_symbol_value, sz_a_LTE_symbol_value⟩ := own_len nl32 ev_a_LTE_symbol_value Ar_a_LTE_symbol_value
  have F_coder_a_LTE_symbol : Fld s s.heap a_LTE_symbol "java/lang/String" "coder" "B" (.int (0 : Int32)) := own_fld nl33 ev_a_LTE_symbol rfl
  have at_a_LTE_symbol_value_0 : cl_a_LTE_symbol_value.slots[(0 : Int32).toNatClampNeg]? = some (.int (60 : Int32)) := own_elem nl34 ev_a_LTE_symbol_value Ar_a_LTE_symbol_value (rfl)
  have F_ordinal_a_LTE : Fld s s.heap a_LTE "java/lang/Enum" "ordinal" "I" (.int (2 : Int32)) := own_fld nl35 ev_a_LTE rfl
  have at_a_GTE_symbol_value_1 : cl_a_GTE_symbol_value.slots[(1 : Int32).toNatClampNeg]? = some (.int (61 : Int32)) := own_elem nl36 ev_a_GTE_symbol_value Ar_a_GTE_symbol_value (rfl)
  have at_a_LTE_symbol_value_1 : cl_a_LTE_symbol_value.slots[(1 : Int32).toNatClampNeg]? = some (.int (61 : Int32)) := own_elem nr36 ev_a_LTE_symbol_value Ar_a_LTE_symbol_value (rfl)
  have A_a_EQ_symbol_value : Arv s s.heap a_EQ_symbol_value cl_a_EQ_symbol_value.cls .byte (1 : Int32) [(.int (61 : Int32))] (.int (0 : Int32)) := Arv.start hfit Ar_a_EQ_symbol_value lt_a_EQ_symbol_value sz_a_EQ_symbol_value (by decide) rfl ⟨at_a_EQ_symbol_value_0, trivial⟩
  have A_a_GT_symbol_value : Arv s s.heap a_GT_symbol_value cl_a_GT_symbol_value.cls .byte (1 : Int32) [(.int (62 : Int32))] (.int (0 : Int32)) := Arv.start hfit Ar_a_GT_symbol_value lt_a_GT_symbol_value sz_a_GT_symbol_value (by decide) rfl ⟨at_a_GT_symbol_value_0, trivial⟩
  have A_a_LT_symbol_value : Arv s s.heap a_LT_symbol_value cl_a_LT_symbol_value.cls .byte (1 : Int32) [(.int (60 : Int32))] (.int (0 : Int32)) := Arv.start hfit Ar_a_LT_symbol_value lt_a_LT_symbol_value sz_a_LT_symbol_value (by decide) rfl ⟨at_a_LT_symbol_value_0, trivial⟩
  have A_a_GTE_symbol_value : Arv s s.heap a_GTE_symbol_value cl_a_GTE_symbol_value.cls .byte (2 : Int32) [(.int (62 : Int32)), (.int (61 : Int32))] (.int (0 : Int32)) := Arv.start hfit Ar_a_GTE_symbol_value lt_a_GTE_symbol_value sz_a_GTE_symbol_value (by decide) rfl ⟨at_a_GTE_symbol_value_0, at_a_GTE_symbol_value_1, trivial⟩
  have A_a_LTE_symbol_value : Arv s s.heap a_LTE_symbol_value cl_a_LTE_symbol_value.cls .byte (2 : Int32) [(.int (60 : Int32)), (.int (61 : Int32))] (.int (0 : Int32)) := Arv.start hfit Ar_a_LTE_symbol_value lt_a_LTE_symbol_value sz_a_LTE_symbol_value (by decide) rfl ⟨at_a_LTE_symbol_value_0, at_a_LTE_symbol_value_1, trivial⟩
  have S_EQ := Sta.start ev_a_EQ (Or.inr ⟨(hw _ (List.mem_of_getElem? (i := 3) rfl)), (hw _ (List.mem_of_getElem? (i := 4) rfl))⟩)
  have S_LT := Sta.start ev_a_LT (Or.inr ⟨(hw _ (List.mem_of_getElem? (i := 3) rfl)), (hw _ (List.mem_of_getElem? (i := 7) rfl))⟩)
  have S_LTE := Sta.start ev_a_LTE (Or.inr ⟨(hw _ (List.mem_of_getElem? (i := 3) rfl)), (hw _ (List.mem_of_getElem? (i := 9) rfl))⟩)
  have S_GT := Sta.start ev_a_GT (Or.inr ⟨(hw _ (List.mem_of_getElem? (i := 3) rfl)), (hw _ (List.mem_of_getElem? (i := 11) rfl))⟩)
  have S_GTE := Sta.start ev_a_GTE (Or.inr ⟨(hw _ (List.mem_of_getElem? (i := 3) rfl)), (hw _ (List.mem_of_getElem? (i := 13) rfl))⟩)
  obtain ⟨cs, ev_cs⟩ := is_v (Cond.before_iff.mp (hsets _ (List.mem_of_getElem? (i := 1) rfl)))
  have hcs : ¬ cs = (0 : Int32) := own_nz (Cond.before_iff.mp (hsets _ (List.mem_of_getElem? (i := 2) rfl))) ev_cs
  have S_COMPACT_STRINGS := Sta.start ev_cs (Or.inl (hsets _ (List.mem_of_getElem? (i := 0) rfl)))
  obtain ⟨sf, ev_sf, hr_sf⟩ := isR_v (Cond.before_iff.mp (hsets _ (List.mem_of_getElem? (i := 8) rfl)))
  have S_SIOOBE_FORMATTER := Sta.start ev_sf (Or.inl (hsets _ (List.mem_of_getElem? (i := 7) rfl)))
  have ne_a_EQ_a_GT : a_EQ ≠ a_GT := Fld.ne F_ordinal_a_EQ F_ordinal_a_GT (by decide)
  have ne_a_EQ_a_GTE : a_EQ ≠ a_GTE := Fld.ne F_ordinal_a_EQ F_ordinal_a_GTE (by decide)
  have ne_a_LT_a_GT : a_LT ≠ a_GT := Fld.ne F_ordinal_a_LT F_ordinal_a_GT (by decide)
  have ne_a_LT_a_GTE : a_LT ≠ a_GTE := Fld.ne F_ordinal_a_LT F_ordinal_a_GTE (by decide)
  have ne_a_LTE_a_GT : a_LTE ≠ a_GT := Fld.ne F_ordinal_a_LTE F_ordinal_a_GT (by decide)
  have ne_a_LTE_a_GTE : a_LTE ≠ a_GTE := Fld.ne F_ordinal_a_LTE F_ordinal_a_GTE (by decide)
  have ne_a_GTE_a_GT : a_GTE ≠ a_GT := Fld.ne F_ordinal_a_GTE F_ordinal_a_GT (by decide)
  obtain ⟨n, o, h1, h2, h3, _, L, rfl, hQ, hq⟩ := rm0 l s _ hw tables_1 i0 a_EQ a_LT a_LTE a_GT a_GTE a_EQ_symbol a_EQ_symbol_value a_GT_symbol a_GT_symbol_value a_LT_symbol a_LT_symbol_value a_GTE_symbol a_GTE_symbol_value a_LTE_symbol a_LTE_symbol_value cl_a_EQ_symbol_value.cls cl_a_GT_symbol_value.cls cl_a_LT_symbol_value.cls cl_a_GTE_symbol_value.cls cl_a_LTE_symbol_value.cls cs sf s.heap s.heap.size (Nat.le_refl _) E_a_EQ E_a_LT E_a_LTE E_a_GT E_a_GTE F_symbol_a_EQ E_a_EQ_symbol F_value_a_EQ_symbol F_symbol_a_GT E_a_GT_symbol F_value_a_GT_symbol F_symbol_a_LT E_a_LT_symbol F_value_a_LT_symbol F_symbol_a_GTE E_a_GTE_symbol F_value_a_GTE_symbol F_symbol_a_LTE E_a_LTE_symbol F_value_a_LTE_symbol F_coder_a_EQ_symbol F_ordinal_a_EQ F_ordinal_a_GT F_ordinal_a_GTE F_coder_a_GT_symbol F_coder_a_LT_symbol F_ordinal_a_LT F_coder_a_GTE_symbol F_coder_a_LTE_symbol F_ordinal_a_LTE A_a_EQ_symbol_value A_a_GT_symbol_value A_a_LT_symbol_value A_a_GTE_symbol_value A_a_LTE_symbol_value S_EQ S_LT S_LTE S_GT S_GTE S_COMPACT_STRINGS hcs S_SIOOBE_FORMATTER hr_sf ne_a_EQ_a_GT ne_a_EQ_a_GTE ne_a_LT_a_GT ne_a_LT_a_GTE ne_a_LTE_a_GT ne_a_LTE_a_GTE ne_a_GTE_a_GT p e ha hc hk s m _ below hf ((Spec.applies_iff_loose hf).mp happ).1 ⟨rfl, State.Warmed39.refl s, rfl⟩ trivial
  obtain ⟨hv, N, -⟩ := hQ
  have hlaw : (f0 i0) = 1 := own_law i0
  rw [hlaw] at hv
  subst hv
  refine ⟨n, _, h1, h2, h3, hpost _ _ _ _ _ _ ⟨Cond.after_iff.mpr rfl, Cond.after_iff.mpr (eq_i res_at (Term.int_eval (1)) rfl), trivial⟩ ⟨hq.1, hq.2.1, (hq.2.2.sift fun y hy => Or.inr (N y hy)).mono (by decide) (by decide)⟩⟩
theorem main_1_1 : Claimed_1_1 := comes_1 fun _ _ _ _ _ _ h hF => ⟨h.1, hF⟩
theorem main_1_2 : Claimed_1_2 := comes_1 fun _ _ _ _ _ _ h hF => ⟨h.2.1, hF⟩
end Jvm.Pilot.@@N@@
namespace Jvm.Pilot.@@N@@
open Jvm Jvm.ClassFile Sem Op Lib Jvm.Free Jvm.Stand Jvm.Pilot.@@N@@.Jvm.D
/-! MADE BY PROGRAM (witnessworld.py) out of the Statement's table words and the real class files: 19 classes; the members and pool entries that the words name. The judged class is class 1, her method 1. -/
namespace start1
open Jvm.ClassFile
def u (s : String) : CpInfo := .utf8 (stringToUtf16 s)
/-- a pool by its gaps: so many unusable entries, then the entry; so many at the end -/
def gap : Nat → List CpInfo → List CpInfo
  | 0, r => r
  | n + 1, r => .unusable :: gap n r
def poolList (es : List (Nat × CpInfo)) (last : Nat) : List CpInfo := es.foldr (fun e r => gap e.1 (e.2 :: r)) (gap last [])
def pool (es : List (Nat × CpInfo)) (last : Nat) : Array CpInfo := ⟨poolList es last⟩
def fileOf (pool : Array CpInfo) (this : Nat) (attrs : Array Attribute := #[]) (ms : Array MethodInfo := #[]) (fl : Nat := 33) (sup : Nat := 0) (ifs : Array Nat := #[]) (fds : Array FieldInfo := #[]) : ClassFile where
  minorVersion := 0
  majorVersion := 65
  constantPool := pool
  accessFlags := fl
  thisClass := this
  superClass := sup
  interfaces := ifs
  fields := fds
  methods := ms
  attributes := attrs
def plain (name : String) (sup : Option ClassId) : Class where
  name := name
  kind := .ordinary
  loader := none
  accessFlags := 33
  super := sup
  interfaces := #[]
  cf := none
  fields := #[]
  methods := #[]
  instanceTypes := #[]
  staticTypes := #[]
  resolved := #[]
  callSites := []
  init := .initialized
  statics := none
  mirror := none

def pool0 : Array CpInfo := pool [(5, u "<init>"), (0, u "()V"), (1, .class_ 10), (1, u "java/lang/Object")] 113

def k0m0 : Method := { name := "<init>", desc := "()V", sig := { parameters := [], returnType := none }, accessFlags := 1, code := none }
/-- java/lang/Object -/
def k0 : Class := { plain "java/lang/Object" none with
  accessFlags := 33
  interfaces := #[]
  cf := some (fileOf pool0 8 #[] #[{ accessFlags := 1, nameIndex := 5, descriptorIndex := 6, attributes := #[] }] 33 0 #[] #[])
  fields := #[]
  methods := #[k0m0]
  instanceTypes := #[]
  staticTypes := #[]
  resolved := Array.replicate 124 none
  statics := none }

def pool1 : Array CpInfo := pool [(2, .class_ 4), (1, u "java/lang/Object"), (0, u "<init>"), (0, u "()V"), (0, .class_ 8), (0, u "com/example/nuntius/nuntius/cql/Relation$Operator"), (0, .fieldref 7 10), (0, .nameAndType 11 12), (0, u "EQ"), (0, u "Lcom/example/nuntius/nuntius/cql/Relation$Operator;"), (0, .fieldref 7 14), (0, .nameAndType 15 12), (0, u "LT"), (0, .fieldref 7 17), (0, .nameAndType 18 12), (0, u "LTE"), (0, .fieldref 7 20), (0, .nameAndType 21 12), (0, u "GT"), (0, .fieldref 7 23), (0, .nameAndType 24 12), (0, u "GTE"), (0, .integer 2147483647), (0, .methodref 7 27), (0, .nameAndType 28 29), (0, u "symbol"), (0, u "()Ljava/lang/String;"), (0, .methodref 31 32), (0, .class_ 33), (0, .nameAndType 34 35), (0, u "java/lang/String"), (0, u "length"), (0, u "()I"), (0, .methodref 31 37), (0, .nameAndType 38 39), (0, u "charAt"), (0, u "(I)C"), (0, .methodref 7 41), (0, .nameAndType 42 43), (0, u "isLowerBound"), (0, u "()Z"), (0, .class_ 45), (0, u "com/example/nuntius/nuntius/cql/OperatorIsLowerBoundPinLaw"), (2, u "law"), (0, u "(I)Z")] 9

def k1m0 : Method := { name := "<init>", desc := "()V", sig := { parameters := [], returnType := none }, accessFlags := 1, code := none }
def k1c1 : Code := { maxStack := 4, maxLocals := 6, code := code, exceptionTable := #[], attributes := #[] }
def k1m1 : Method := { name := "law", desc := "(I)Z", sig := { parameters := [.int], returnType := some .boolean }, accessFlags := 9, code := some k1c1 }
/-- com/example/nuntius/nuntius/cql/OperatorIsLowerBoundPinLaw -/
def k1 : Class := { plain "com/example/nuntius/nuntius/cql/OperatorIsLowerBoundPinLaw" (some 0) with
  accessFlags := 49
  interfaces := #[]
  cf := some (fileOf pool1 44 #[] #[{ accessFlags := 1, nameIndex := 5, descriptorIndex := 6, attributes := #[] }, { accessFlags := 9, nameIndex := 48, descriptorIndex := 49, attributes := #[] }] 49 2 #[] #[])
  fields := #[]
  methods := #[k1m0, k1m1]
  instanceTypes := #[]
  staticTypes := #[]
  resolved := Array.replicate 59 none
  statics := none }

def pool2 : Array CpInfo := pool [(1, .class_ 2), (0, u "java/lang/constant/Constable"), (0, .class_ 4), (0, u "java/lang/Object")] 6

/-- java/lang/constant/Constable -/
def k2 : Class := { plain "java/lang/constant/Constable" (some 0) with
  accessFlags := 1537
  interfaces := #[]
  cf := some (fileOf pool2 1 #[] #[] 1537 3 #[] #[])
  fields := #[]
  methods := #[]
  instanceTypes := #[]
  staticTypes := #[]
  resolved := Array.replicate 11 none
  statics := none }

def pool3 : Array CpInfo := pool [(1, .class_ 2), (0, u "java/lang/Comparable"), (0, .class_ 4), (0, u "java/lang/Object")] 7

/-- java/lang/Comparable -/
def k3 : Class := { plain "java/lang/Comparable" (some 0) with
  accessFlags := 1537
  interfaces := #[]
  cf := some (fileOf pool3 1 #[] #[] 1537 3 #[] #[])
  fields := #[]
  methods := #[]
  instanceTypes := #[]
  staticTypes := #[]
  resolved := Array.replicate 12 none
  statics := none }

def pool4 : Array CpInfo := pool [(1, .class_ 2), (0, u "java/io/Serializable"), (0, .class_ 4), (0, u "java/lang/Object")] 2

/-- java/io/Serializable -/
def k4 : Class := { plain "java/io/Serializable" (some 0) with
  accessFlags := 1537
  interfaces := #[]
  cf := some (fileOf pool4 1 #[] #[] 1537 3 #[] #[])
  fields := #[]
  methods := #[]
  instanceTypes := #[]
  staticTypes := #[]
  resolved := Array.replicate 7 none
  statics := none }

def pool5 : Array CpInfo := pool [(2, .class_ 4), (1, u "java/lang/Enum"), (0, u "name"), (0, u "Ljava/lang/String;"), (2, u "ordinal"), (0, u "I"), (1, .class_ 14), (1, u "java/lang/Object"), (4, u "hash"), (86, .class_ 108), (1, u "java/lang/Enum$EnumDesc"), (2, .class_ 112), (0, u "java/lang/constant/Constable"), (0, .class_ 114), (0, u "java/lang/Comparable"), (0, .class_ 116), (0, u "java/io/Serializable")] 87

/-- java/lang/Enum -/
def k5 : Class := { plain "java/lang/Enum" (some 0) with
  accessFlags := 1057
  interfaces := #[2, 3, 4]
  cf := some (fileOf pool5 2 #[.nestMembers #[106]] #[] 1057 12 #[111, 113, 115] #[{ accessFlags := 18, nameIndex := 5, descriptorIndex := 6, attributes := #[] }, { accessFlags := 18, nameIndex := 9, descriptorIndex := 10, attributes := #[] }, { accessFlags := 2, nameIndex := 19, descriptorIndex := 10, attributes := #[] }])
  fields := #[{ name := "name", type := (.object "java/lang/String"), accessFlags := 18, slot := 0, constantValue := 0 }, { name := "ordinal", type := .int, accessFlags := 18, slot := 1, constantValue := 0 }, { name := "hash", type := .int, accessFlags := 2, slot := 2, constantValue := 0 }]
  methods := #[]
  instanceTypes := #[(.object "java/lang/String"), .int, .int]
  staticTypes := #[]
  resolved := Array.replicate 204 none
  statics := none }

def pool6 : Array CpInfo := pool [(1, .class_ 2), (0, u "com/example/nuntius/nuntius/cql/Relation$Operator"), (2, u "EQ"), (0, u "Lcom/example/nuntius/nuntius/cql/Relation$Operator;"), (2, u "LT"), (2, u "LTE"), (0, .fieldref 1 14), (0, .nameAndType 15 6), (0, u "GT"), (0, .fieldref 1 17), (0, .nameAndType 18 6), (0, u "GTE"), (2, u "$VALUES"), (0, u "[Lcom/example/nuntius/nuntius/cql/Relation$Operator;"), (6, .class_ 31), (1, u "java/lang/Enum"), (6, .fieldref 1 39), (0, .nameAndType 40 41), (0, u "symbol"), (0, u "Ljava/lang/String;"), (29, u "()Ljava/lang/String;"), (0, u "isLowerBound"), (0, u "()Z"), (7, .class_ 82), (0, u "com/example/nuntius/nuntius/cql/Relation")] 2

def k6c0 : Code := { maxStack := 1, maxLocals := 1, code := prog_16_method_4_code, exceptionTable := #[], attributes := #[] }
def k6m0 : Method := { name := "symbol", desc := "()Ljava/lang/String;", sig := { parameters := [], returnType := some (.object "java/lang/String") }, accessFlags := 0, code := some k6c0 }
def k6c1 : Code := { maxStack := 2, maxLocals := 1, code := prog_16_method_5_code, exceptionTable := #[], attributes := #[] }
def k6m1 : Method := { name := "isLowerBound", desc := "()Z", sig := { parameters := [], returnType := some .boolean }, accessFlags := 0, code := some k6c1 }
/-- com/example/nuntius/nuntius/cql/Relation$Operator -/
def k6 : Class := { plain "com/example/nuntius/nuntius/cql/Relation$Operator" (some 5) with
  accessFlags := 16432
  interfaces := #[]
  cf := some (fileOf pool6 1 #[.nestHost 81] #[{ accessFlags := 0, nameIndex := 40, descriptorIndex := 71, attributes := #[] }, { accessFlags := 0, nameIndex := 72, descriptorIndex := 73, attributes := #[] }] 16432 29 #[] #[{ accessFlags := 16409, nameIndex := 5, descriptorIndex := 6, attributes := #[] }, { accessFlags := 16409, nameIndex := 9, descriptorIndex := 6, attributes := #[] }, { accessFlags := 16409, nameIndex := 12, descriptorIndex := 6, attributes := #[] }, { accessFlags := 16409, nameIndex := 15, descriptorIndex := 6, attributes := #[] }, { accessFlags := 16409, nameIndex := 18, descriptorIndex := 6, attributes := #[] }, { accessFlags := 18, nameIndex := 40, descriptorIndex := 41, attributes := #[] }, { accessFlags := 4122, nameIndex := 21, descriptorIndex := 22, attributes := #[] }])
  fields := #[{ name := "EQ", type := (.object "com/example/nuntius/nuntius/cql/Relation$Operator"), accessFlags := 16409, slot := 0, constantValue := 0 }, { name := "LT", type := (.object "com/example/nuntius/nuntius/cql/Relation$Operator"), accessFlags := 16409, slot := 1, constantValue := 0 }, { name := "LTE", type := (.object "com/example/nuntius/nuntius/cql/Relation$Operator"), accessFlags := 16409, slot := 2, constantValue := 0 }, { name := "GT", type := (.object "com/example/nuntius/nuntius/cql/Relation$Operator"), accessFlags := 16409, slot := 3, constantValue := 0 }, { name := "GTE", type := (.object "com/example/nuntius/nuntius/cql/Relation$Operator"), accessFlags := 16409, slot := 4, constantValue := 0 }, { name := "symbol", type := (.object "java/lang/String"), accessFlags := 18, slot := 3, constantValue := 0 }, { name := "$VALUES", type := (.array (.object "com/example/nuntius/nuntius/cql/Relation$Operator")), accessFlags := 4122, slot := 5, constantValue := 0 }]
  methods := #[k6m0, k6m1]
  instanceTypes := #[(.object "java/lang/String"), .int, .int, (.object "java/lang/String")]
  staticTypes := #[(.object "com/example/nuntius/nuntius/cql/Relation$Operator"), (.object "com/example/nuntius/nuntius/cql/Relation$Operator"), (.object "com/example/nuntius/nuntius/cql/Relation$Operator"), (.object "com/example/nuntius/nuntius/cql/Relation$Operator"), (.object "com/example/nuntius/nuntius/cql/Relation$Operator"), (.array (.object "com/example/nuntius/nuntius/cql/Relation$Operator"))]
  resolved := Array.replicate 85 none
  statics := some 0 }

def pool7 : Array CpInfo := pool [(2, .class_ 4), (1, u "java/lang/CharSequence"), (42, .class_ 48), (0, u "java/lang/CharSequence$1CodePointIterator"), (10, .class_ 60), (0, u "java/lang/CharSequence$1CharIterator"), (5, .class_ 67), (0, u "java/lang/Object")] 63

/-- java/lang/CharSequence -/
def k7 : Class := { plain "java/lang/CharSequence" (some 0) with
  accessFlags := 1537
  interfaces := #[]
  cf := some (fileOf pool7 2 #[.nestMembers #[47, 59]] #[] 1537 66 #[] #[])
  fields := #[]
  methods := #[]
  instanceTypes := #[]
  staticTypes := #[]
  resolved := Array.replicate 131 none
  statics := none }

def pool8 : Array CpInfo := pool [(1, .class_ 2), (0, u "java/lang/constant/ConstantDesc"), (0, .class_ 4), (0, u "java/lang/Object")] 32

/-- java/lang/constant/ConstantDesc -/
def k8 : Class := { plain "java/lang/constant/ConstantDesc" (some 0) with
  accessFlags := 1537
  interfaces := #[]
  cf := some (fileOf pool8 1 #[] #[] 1537 3 #[] #[])
  fields := #[]
  methods := #[]
  instanceTypes := #[]
  staticTypes := #[]
  resolved := Array.replicate 37 none
  statics := none }

def pool9 : Array CpInfo := pool [(2, .class_ 4), (1, u "java/lang/Object"), (0, u "<init>"), (0, u "()V"), (2, .fieldref 10 11), (0, .class_ 12), (0, .nameAndType 13 14), (0, u "java/lang/String"), (0, u "value"), (0, u "[B"), (0, .fieldref 10 16), (0, .nameAndType 17 18), (0, u "coder"), (0, u "B"), (2, u "hash"), (0, u "I"), (2, u "hashIsZero"), (0, u "Z"), (11, .fieldref 10 39), (0, .nameAndType 40 26), (0, u "COMPACT_STRINGS"), (66, .class_ 109), (1, u "java/lang/StringLatin1"), (32, u "()Z"), (191, u "()I"), (0, .methodref 10 336), (0, .nameAndType 17 337), (0, u "()B"), (25, u "([BI)C"), (27, u "(II)V"), (35, u "(I)C"), (64, .methodref 10 493), (0, .nameAndType 494 142), (0, u "isLatin1"), (0, .methodref 107 496), (0, .nameAndType 497 363), (0, u "charAt"), (3, u "checkIndex"), (5, u "length"), (67, .class_ 576), (0, u "java/lang/CharSequence"), (22, u "CASE_INSENSITIVE_ORDER"), (0, u "Ljava/util/Comparator;"), (452, .fieldref 1054 1055), (0, .class_ 1056), (0, .nameAndType 1057 1058), (0, u "jdk/internal/util/Preconditions"), (0, u "SIOOBE_FORMATTER"), (0, u "Ljava/util/function/BiFunction;"), (0, .methodref 1054 1060), (0, .nameAndType 501 1061), (0, u "(IILjava/util/function/BiFunction;)I"), (39, u "serialPersistentFields"), (0, u "[Ljava/io/ObjectStreamField;"), (0, .class_ 1104), (0, u "java/lang/String$CaseInsensitiveComparator"), (1, .class_ 1107), (0, u "java/io/Serializable"), (0, .class_ 1109), (0, u "java/lang/Comparable"), (0, .class_ 1111), (0, u "java/lang/constant/Constable"), (0, .class_ 1113), (0, u "java/lang/constant/ConstantDesc"), (2, u "serialVersionUID"), (0, u "J"), (3, u "REPL"), (0, u "C"), (2, u "LATIN1"), (1, u "UTF16")] 323

def k9m0 : Method := { name := "<init>", desc := "()V", sig := { parameters := [], returnType := none }, accessFlags := 1, code := none }
def k9c1 : Code := { maxStack := 2, maxLocals := 1, code := jdk_42_method_54_code, exceptionTable := #[], attributes := #[] }
def k9m1 : Method := { name := "length", desc := "()I", sig := { parameters := [], returnType := some .int }, accessFlags := 1, code := some k9c1 }
def k9c2 : Code := { maxStack := 2, maxLocals := 2, code := jdk_42_method_56_code, exceptionTable := #[], attributes := #[] }
def k9m2 : Method := { name := "charAt", desc := "(I)C", sig := { parameters := [.int], returnType := some .char }, accessFlags := 1, code := some k9c2 }
def k9c3 : Code := { maxStack := 1, maxLocals := 1, code := jdk_42_method_152_code, exceptionTable := #[], attributes := #[] }
def k9m3 : Method := { name := "coder", desc := "()B", sig := { parameters := [], returnType := some .byte }, accessFlags := 0, code := some k9c3 }
def k9c4 : Code := { maxStack := 1, maxLocals := 1, code := jdk_42_method_154_code, exceptionTable := #[], attributes := #[] }
def k9m4 : Method := { name := "isLatin1", desc := "()Z", sig := { parameters := [], returnType := some .boolean }, accessFlags := 0, code := some k9c4 }
def k9c5 : Code := { maxStack := 3, maxLocals := 2, code := jdk_42_method_155_code, exceptionTable := #[], attributes := #[] }
def k9m5 : Method := { name := "checkIndex", desc := "(II)V", sig := { parameters := [.int, .int], returnType := none }, accessFlags := 8, code := some k9c5 }
/-- java/lang/String -/
def k9 : Class := { plain "java/lang/String" (some 0) with
  accessFlags := 49
  interfaces := #[4, 3, 7, 2, 8]
  cf := some (fileOf pool9 10 #[.nestMembers #[1103]] #[{ accessFlags := 1, nameIndex := 5, descriptorIndex := 6, attributes := #[] }, { accessFlags := 1, nameIndex := 507, descriptorIndex := 334, attributes := #[] }, { accessFlags := 1, nameIndex := 497, descriptorIndex := 427, attributes := #[] }, { accessFlags := 0, nameIndex := 17, descriptorIndex := 337, attributes := #[] }, { accessFlags := 0, nameIndex := 494, descriptorIndex := 142, attributes := #[] }, { accessFlags := 8, nameIndex := 501, descriptorIndex := 391, attributes := #[] }] 49 2 #[1106, 1108, 575, 1110, 1112] #[{ accessFlags := 18, nameIndex := 13, descriptorIndex := 14, attributes := #[] }, { accessFlags := 18, nameIndex := 17, descriptorIndex := 18, attributes := #[] }, { accessFlags := 2, nameIndex := 21, descriptorIndex := 22, attributes := #[] }, { accessFlags := 2, nameIndex := 25, descriptorIndex := 26, attributes := #[] }, { accessFlags := 26, nameIndex := 1116, descriptorIndex := 1117, attributes := #[] }, { accessFlags := 24, nameIndex := 40, descriptorIndex := 26, attributes := #[] }, { accessFlags := 26, nameIndex := 1101, descriptorIndex := 1102, attributes := #[] }, { accessFlags := 26, nameIndex := 1121, descriptorIndex := 1122, attributes := #[] }, { accessFlags := 25, nameIndex := 599, descriptorIndex := 600, attributes := #[] }, { accessFlags := 24, nameIndex := 1125, descriptorIndex := 18, attributes := #[] }, { accessFlags := 24, nameIndex := 1127, descriptorIndex := 18, attributes := #[] }])
  fields := #[{ name := "value", type := (.array .byte), accessFlags := 18, slot := 0, constantValue := 0 }, { name := "coder", type := .byte, accessFlags := 18, slot := 1, constantValue := 0 }, { name := "hash", type := .int, accessFlags := 2, slot := 2, constantValue := 0 }, { name := "hashIsZero", type := .boolean, accessFlags := 2, slot := 3, constantValue := 0 }, { name := "serialVersionUID", type := .long, accessFlags := 26, slot := 0, constantValue := 0 }, { name := "COMPACT_STRINGS", type := .boolean, accessFlags := 24, slot := 1, constantValue := 0 }, { name := "serialPersistentFields", type := (.array (.object "java/io/ObjectStreamField")), accessFlags := 26, slot := 2, constantValue := 0 }, { name := "REPL", type := .char, accessFlags := 26, slot := 3, constantValue := 0 }, { name := "CASE_INSENSITIVE_ORDER", type := (.object "java/util/Comparator"), accessFlags := 25, slot := 4, constantValue := 0 }, { name := "LATIN1", type := .byte, accessFlags := 24, slot := 5, constantValue := 0 }, { name := "UTF16", type := .byte, accessFlags := 24, slot := 6, constantValue := 0 }]
  methods := #[k9m0, k9m1, k9m2, k9m3, k9m4, k9m5]
  instanceTypes := #[(.array .byte), .byte, .int, .boolean]
  staticTypes := #[.long, .boolean, (.array (.object "java/io/ObjectStreamField")), .char, (.object "java/util/Comparator"), .byte, .byte]
  resolved := Array.replicate 1451 none
  statics := some 1 }

def pool10 : Array CpInfo := pool [(1, .class_ 2), (0, u "java/lang/String"), (1, .class_ 6), (1, u "java/lang/Object"), (0, u "<init>"), (0, u "()V"), (0, .methodref 1 10), (0, .nameAndType 11 12), (0, u "checkIndex"), (0, u "(II)V"), (1, .class_ 16), (1, u "java/lang/StringLatin1"), (36, u "([BI)C"), (67, u "$assertionsDisabled"), (0, u "Z"), (98, .class_ 223), (1, u "java/lang/StringLatin1$LinesSpliterator"), (28, u "charAt"), (137, .class_ 391), (0, u "java/lang/StringLatin1$CharsSpliterator")] 3

def k10m0 : Method := { name := "<init>", desc := "()V", sig := { parameters := [], returnType := none }, accessFlags := 0, code := none }
def k10c1 : Code := { maxStack := 2, maxLocals := 2, code := jdk_43_method_2_code, exceptionTable := #[], attributes := #[] }
def k10m1 : Method := { name := "charAt", desc := "([BI)C", sig := { parameters := [(.array .byte), .int], returnType := some .char }, accessFlags := 9, code := some k10c1 }
/-- java/lang/StringLatin1 -/
def k10 : Class := { plain "java/lang/StringLatin1" (some 0) with
  accessFlags := 48
  interfaces := #[]
  cf := some (fileOf pool10 14 #[.nestMembers #[390, 221]] #[{ accessFlags := 0, nameIndex := 7, descriptorIndex := 8, attributes := #[] }, { accessFlags := 9, nameIndex := 252, descriptorIndex := 53, attributes := #[] }] 48 4 #[] #[{ accessFlags := 4120, nameIndex := 121, descriptorIndex := 122, attributes := #[] }])
  fields := #[{ name := "$assertionsDisabled", type := .boolean, accessFlags := 4120, slot := 0, constantValue := 0 }]
  methods := #[k10m0, k10m1]
  instanceTypes := #[]
  staticTypes := #[.boolean]
  resolved := Array.replicate 395 none
  statics := none }

def pool11 : Array CpInfo := pool [(2, .class_ 4), (1, u "java/lang/Object"), (0, u "<init>"), (0, u "()V"), (17, .class_ 26), (1, u "jdk/internal/util/Preconditions"), (6, u "checkIndex"), (21, .class_ 56), (0, u "jdk/internal/util/Preconditions$4"), (57, .class_ 115), (0, u "jdk/internal/util/Preconditions$1"), (7, u "SIOOBE_FORMATTER"), (0, u "Ljava/util/function/BiFunction;"), (0, .class_ 126), (0, u "jdk/internal/util/Preconditions$2"), (3, u "AIOOBE_FORMATTER"), (0, .class_ 132), (0, u "jdk/internal/util/Preconditions$3"), (3, u "IOOBE_FORMATTER"), (41, u "(IILjava/util/function/BiFunction;)I")] 15

def k11m0 : Method := { name := "<init>", desc := "()V", sig := { parameters := [], returnType := none }, accessFlags := 1, code := none }
def k11c1 : Code := { maxStack := 3, maxLocals := 3, code := jdk_41_method_11_code, exceptionTable := #[], attributes := #[] }
def k11m1 : Method := { name := "checkIndex", desc := "(IILjava/util/function/BiFunction;)I", sig := { parameters := [.int, .int, (.object "java/util/function/BiFunction")], returnType := some .int }, accessFlags := 9, code := some k11c1 }
/-- jdk/internal/util/Preconditions -/
def k11 : Class := { plain "jdk/internal/util/Preconditions" (some 0) with
  accessFlags := 33
  interfaces := #[]
  cf := some (fileOf pool11 24 #[.nestMembers #[55, 131, 125, 114]] #[{ accessFlags := 1, nameIndex := 5, descriptorIndex := 6, attributes := #[] }, { accessFlags := 9, nameIndex := 33, descriptorIndex := 178, attributes := #[] }] 33 2 #[] #[{ accessFlags := 25, nameIndex := 123, descriptorIndex := 124, attributes := #[] }, { accessFlags := 25, nameIndex := 130, descriptorIndex := 124, attributes := #[] }, { accessFlags := 25, nameIndex := 136, descriptorIndex := 124, attributes := #[] }])
  fields := #[{ name := "SIOOBE_FORMATTER", type := (.object "java/util/function/BiFunction"), accessFlags := 25, slot := 0, constantValue := 0 }, { name := "AIOOBE_FORMATTER", type := (.object "java/util/function/BiFunction"), accessFlags := 25, slot := 1, constantValue := 0 }, { name := "IOOBE_FORMATTER", type := (.object "java/util/function/BiFunction"), accessFlags := 25, slot := 2, constantValue := 0 }]
  methods := #[k11m0, k11m1]
  instanceTypes := #[]
  staticTypes := #[(.object "java/util/function/BiFunction"), (.object "java/util/function/BiFunction"), (.object "java/util/function/BiFunction")]
  resolved := Array.replicate 194 none
  statics := some 2 }

def pool12 : Array CpInfo := pool [(9, u "<init>"), (6, .class_ 18), (1, u "java/lang/Object"), (0, u "()V"), (1, .class_ 23), (1, u "jdk/internal/util/ArraysSupport"), (0, u "LOG2_ARRAY_LONG_INDEX_SCALE"), (0, u "I"), (2, u "U"), (0, u "Ljdk/internal/misc/Unsafe;"), (8, u "BIG_ENDIAN"), (0, u "Z"), (8, u "LOG2_BYTE_BIT_SIZE"), (4, u "LOG2_ARRAY_INT_INDEX_SCALE"), (54, u "JLA"), (0, u "Ljdk/internal/access/JavaLangAccess;"), (11, u "LOG2_ARRAY_BOOLEAN_INDEX_SCALE"), (9, u "LOG2_ARRAY_BYTE_INDEX_SCALE"), (5, u "LOG2_ARRAY_CHAR_INDEX_SCALE"), (5, u "LOG2_ARRAY_SHORT_INDEX_SCALE"), (18, u "LOG2_ARRAY_FLOAT_INDEX_SCALE"), (24, u "LOG2_ARRAY_DOUBLE_INDEX_SCALE"), (89, u "T_BOOLEAN"), (2, u "T_CHAR"), (1, u "T_FLOAT"), (1, u "T_DOUBLE"), (1, u "T_BYTE"), (1, u "T_SHORT"), (1, u "T_INT"), (1, u "T_LONG"), (1, u "SOFT_MAX_ARRAY_LENGTH")] 83

def k12m0 : Method := { name := "<init>", desc := "()V", sig := { parameters := [], returnType := none }, accessFlags := 2, code := none }
/-- jdk/internal/util/ArraysSupport -/
def k12 : Class := { plain "jdk/internal/util/ArraysSupport" (some 0) with
  accessFlags := 33
  interfaces := #[]
  cf := some (fileOf pool12 21 #[] #[{ accessFlags := 2, nameIndex := 9, descriptorIndex := 19, attributes := #[] }] 33 16 #[] #[{ accessFlags := 24, nameIndex := 28, descriptorIndex := 29, attributes := #[] }, { accessFlags := 26, nameIndex := 38, descriptorIndex := 39, attributes := #[] }, { accessFlags := 25, nameIndex := 121, descriptorIndex := 25, attributes := #[] }, { accessFlags := 25, nameIndex := 131, descriptorIndex := 25, attributes := #[] }, { accessFlags := 25, nameIndex := 137, descriptorIndex := 25, attributes := #[] }, { accessFlags := 25, nameIndex := 143, descriptorIndex := 25, attributes := #[] }, { accessFlags := 25, nameIndex := 53, descriptorIndex := 25, attributes := #[] }, { accessFlags := 25, nameIndex := 24, descriptorIndex := 25, attributes := #[] }, { accessFlags := 25, nameIndex := 162, descriptorIndex := 25, attributes := #[] }, { accessFlags := 25, nameIndex := 187, descriptorIndex := 25, attributes := #[] }, { accessFlags := 26, nameIndex := 48, descriptorIndex := 25, attributes := #[] }, { accessFlags := 25, nameIndex := 277, descriptorIndex := 25, attributes := #[] }, { accessFlags := 25, nameIndex := 280, descriptorIndex := 25, attributes := #[] }, { accessFlags := 25, nameIndex := 282, descriptorIndex := 25, attributes := #[] }, { accessFlags := 25, nameIndex := 284, descriptorIndex := 25, attributes := #[] }, { accessFlags := 25, nameIndex := 286, descriptorIndex := 25, attributes := #[] }, { accessFlags := 25, nameIndex := 288, descriptorIndex := 25, attributes := #[] }, { accessFlags := 25, nameIndex := 290, descriptorIndex := 25, attributes := #[] }, { accessFlags := 25, nameIndex := 292, descriptorIndex := 25, attributes := #[] }, { accessFlags := 26, nameIndex := 108, descriptorIndex := 109, attributes := #[] }, { accessFlags := 25, nameIndex := 294, descriptorIndex := 25, attributes := #[] }])
  fields := #[{ name := "U", type := (.object "jdk/internal/misc/Unsafe"), accessFlags := 24, slot := 0, constantValue := 0 }, { name := "BIG_ENDIAN", type := .boolean, accessFlags := 26, slot := 1, constantValue := 0 }, { name := "LOG2_ARRAY_BOOLEAN_INDEX_SCALE", type := .int, accessFlags := 25, slot := 2, constantValue := 0 }, { name := "LOG2_ARRAY_BYTE_INDEX_SCALE", type := .int, accessFlags := 25, slot := 3, constantValue := 0 }, { name := "LOG2_ARRAY_CHAR_INDEX_SCALE", type := .int, accessFlags := 25, slot := 4, constantValue := 0 }, { name := "LOG2_ARRAY_SHORT_INDEX_SCALE", type := .int, accessFlags := 25, slot := 5, constantValue := 0 }, { name := "LOG2_ARRAY_INT_INDEX_SCALE", type := .int, accessFlags := 25, slot := 6, constantValue := 0 }, { name := "LOG2_ARRAY_LONG_INDEX_SCALE", type := .int, accessFlags := 25, slot := 7, constantValue := 0 }, { name := "LOG2_ARRAY_FLOAT_INDEX_SCALE", type := .int, accessFlags := 25, slot := 8, constantValue := 0 }, { name := "LOG2_ARRAY_DOUBLE_INDEX_SCALE", type := .int, accessFlags := 25, slot := 9, constantValue := 0 }, { name := "LOG2_BYTE_BIT_SIZE", type := .int, accessFlags := 26, slot := 10, constantValue := 0 }, { name := "T_BOOLEAN", type := .int, accessFlags := 25, slot := 11, constantValue := 0 }, { name := "T_CHAR", type := .int, accessFlags := 25, slot := 12, constantValue := 0 }, { name := "T_FLOAT", type := .int, accessFlags := 25, slot := 13, constantValue := 0 }, { name := "T_DOUBLE", type := .int, accessFlags := 25, slot := 14, constantValue := 0 }, { name := "T_BYTE", type := .int, accessFlags := 25, slot := 15, constantValue := 0 }, { name := "T_SHORT", type := .int, accessFlags := 25, slot := 16, constantValue := 0 }, { name := "T_INT", type := .int, accessFlags := 25, slot := 17, constantValue := 0 }, { name := "T_LONG", type := .int, accessFlags := 25, slot := 18, constantValue := 0 }, { name := "JLA", type := (.object "jdk/internal/access/JavaLangAccess"), accessFlags := 26, slot := 19, constantValue := 0 }, { name := "SOFT_MAX_ARRAY_LENGTH", type := .int, accessFlags := 25, slot := 20, constantValue := 0 }]
  methods := #[k12m0]
  instanceTypes := #[]
  staticTypes := #[(.object "jdk/internal/misc/Unsafe"), .boolean, .int, .int, .int, .int, .int, .int, .int, .int, .int, .int, .int, .int, .int, .int, .int, .int, .int, (.object "jdk/internal/access/JavaLangAccess"), .int]
  resolved := Array.replicate 378 none
  statics := none }

def pool13 : Array CpInfo := pool [(1, u "java/lang/Cloneable"), (0, .class_ 1), (0, u "java/lang/Object"), (0, .class_ 3)] 3

/-- java/lang/Cloneable -/
def k13 : Class := { plain "java/lang/Cloneable" (some 0) with
  accessFlags := 1537
  interfaces := #[]
  cf := some (fileOf pool13 2 #[] #[] 1537 4 #[] #[])
  fields := #[]
  methods := #[]
  instanceTypes := #[]
  staticTypes := #[]
  resolved := Array.replicate 8 none
  statics := none }

/-- the primitive byte -/
def k14 : Class := { plain "byte" none with kind := .primitive 'B', accessFlags := 0x411 }
/-- [B -/
def k15 : Class := { plain "[B" (some 0) with kind := .array 14 .byte, interfaces := #[13, 4], accessFlags := 1041 }

/-- the primitive int -/
def k16 : Class := { plain "int" none with kind := .primitive 'I', accessFlags := 0x411 }
/-- [I -/
def k17 : Class := { plain "[I" (some 0) with kind := .array 16 .int, interfaces := #[13, 4], accessFlags := 1041 }

/-- [Lcom/example/nuntius/nuntius/cql/Relation$Operator; -/
def k18 : Class := { plain "[Lcom/example/nuntius/nuntius/cql/Relation$Operator;" (some 0) with kind := .array 6 (.object "com/example/nuntius/nuntius/cql/Relation$Operator"), interfaces := #[13, 4], accessFlags := 1041 }

def heap : Heap := #[{ cls := 6, slots := #[.ref 3, .ref 4, .ref 5, .ref 6, .ref 7, .null], vm := .statics 6 },
  { cls := 9, slots := #[.long 0, .int 1, .null, .int 0, .null, .int 0, .int 0], vm := .statics 9 },
  { cls := 11, slots := #[.null, .null, .null], vm := .statics 11 },
  { cls := 6, slots := #[.null, .int 0, .int 0, .ref 8], vm := .none },
  { cls := 6, slots := #[.null, .int 1, .int 0, .ref 12], vm := .none },
  { cls := 6, slots := #[.null, .int 2, .int 0, .ref 16], vm := .none },
  { cls := 6, slots := #[.null, .int 3, .int 0, .ref 10], vm := .none },
  { cls := 6, slots := #[.null, .int 4, .int 0, .ref 14], vm := .none },
  { cls := 9, slots := #[.ref 9, .int 0, .int 0, .int 0], vm := .none },
  { cls := 15, slots := #[.int 61], vm := .none },
  { cls := 9, slots := #[.ref 11, .int 0, .int 0, .int 0], vm := .none },
  { cls := 15, slots := #[.int 62], vm := .none },
  { cls := 9, slots := #[.ref 13, .int 0, .int 0, .int 0], vm := .none },
  { cls := 15, slots := #[.int 60], vm := .none },
  { cls := 9, slots := #[.ref 15, .int 0, .int 0, .int 0], vm := .none },
  { cls := 15, slots := #[.int 62, .int 61], vm := .none },
  { cls := 9, slots := #[.ref 17, .int 0, .int 0, .int 0], vm := .none },
  { cls := 15, slots := #[.int 60, .int 61], vm := .none }]
def classes : Array Class := #[k0, k1, k2, k3, k4, k5, k6, k7, k8, k9, k10, k11, k12, k13, k14, k15, k16, k17, k18]
def interned : List (Array UInt16 × Addr) := []
def slotsUsed : Nat := 63
def theMethod : MethodId := ⟨1, 1⟩
def args0 : Array Value := #[.int 5]
def aboutOver (below : List Frame) : State where
  vm := { classes := classes, interned := interned.toArray }
  heap := heap
  slotsUsed := slotsUsed
  threads := #[{ frames := .invoking theMethod args0 :: below }]
def below0 : List Frame := [.native { method := ⟨0, 0⟩, args := #[] }]
def about1 : State := aboutOver below0
def p0 : Program := .bare "" "" ""
def e0 : Env := launch0.env 0 0 0
theorem w_frames : about1.frames = Frame.invoking theMethod args0 :: below0 := rfl
set_option maxRecDepth 65536 in
theorem w_args : argsFit about1.vm theMethod args0 = true := by decide +kernel
set_option maxRecDepth 65536 in
theorem w_heap : heapFits about1 = true := by decide +kernel
set_option maxRecDepth 65536 in
theorem w_runnable : about1.curStatus? = some .runnable := by decide +kernel
set_option maxRecDepth 65536 in
theorem w_alone : about1.alone = true := by decide +kernel
set_option maxRecDepth 65536 in
theorem w_named : about1.methodNamed? x = some theMethod := by decide +kernel
set_option maxRecDepth 65536 in
theorem w_hears : about1.hears theMethod below0 = true := by decide +kernel
set_option maxRecDepth 65536 in
theorem w_ripe : about1.ripe theMethod args0 below0 = true := by decide +kernel
theorem w_running : about1.status = .running := rfl
set_option maxRecDepth 65536 in
theorem w_room : about1.hasRoom e0.platform room_1 = true :=
  launch0.hasRoom_least _ room_1 (by decide +kernel) (by decide +kernel) (by decide +kernel) (by decide +kernel) (by decide +kernel) (by decide +kernel)
theorem allAtoms_all (ts : List Jvm.Cond) (a : Array Jvm.Value) (st : Jvm.State) : (allAtoms ts).before a st = ts.all (fun c => c.before a st) := by
  induction ts with
  | nil => rfl
  | cons c t ih =>
    show (Jvm.Cond.and c (allAtoms t)).before a st = _
    rw [Jvm.Cond.before_and, ih, List.all_cons]
def words1 : List Jvm.Cond := Jvm.Cond.code x code maxLocals ret :: tables_1
/-- a 'code' word, met by the world's own term for the bytes: nothing is compared byte by byte -/
theorem code_word {y : MethodName} {bytes : ByteArray} {mx : Nat} {rt : Option FieldType} {a : Array Value} {s : State} {m : MethodId} {meth : Method} {c : Code} (h1 : s.methodNamed? y = some m) (h2 : s.vm.method? m = some meth) (h3 : meth.code = some c) (h4 : c.code = bytes)
    (h5 : (c.maxLocals == mx && c.exceptionTable.isEmpty && decide (c.maxStack ≤ mostOperands) && decide (meth.sig.returnType = rt) && !meth.locks && decide (parseMethodDescriptor y.desc = some meth.sig)) = true) : (Jvm.Cond.code y bytes mx rt).before a s = true := by
  simp only [Bool.and_eq_true, beq_iff_eq, Bool.not_eq_true', decide_eq_true_eq] at h5
  obtain ⟨⟨⟨⟨⟨g1, g2⟩, g3⟩, g4⟩, g5⟩, g6⟩ := h5
  simp [Cond.before, Cond.holds, Cond.value, h1, h2, h3, h4, g1, g2, g3, g4, g5, g6]
def isCode : Jvm.Cond → Bool
  | .code _ _ _ _ => true
  | _ => false
theorem all_split {L : List Jvm.Cond} {P : Jvm.Cond → Bool} (h1 : L.all (fun c => isCode c || P c) = true) (h2 : ∀ c ∈ L.filter isCode, P c = true) : L.all P = true := by
  refine List.all_eq_true.mpr fun c hc => ?_
  have h := List.all_eq_true.mp h1 c hc
  rcases Bool.eq_false_or_eq_true (isCode c) with hi | hi
  · exact h2 c (List.mem_filter.mpr ⟨hc, hi⟩)
  · simpa [hi] using h
set_option maxRecDepth 65536 in
theorem w_c0 : (Jvm.Cond.code x code maxLocals ret).before args0 about1 = true := code_word (m := ⟨1, 1⟩) (meth := k1m1) (c := k1c1) (by decide +kernel) rfl rfl rfl (by decide +kernel)
set_option maxRecDepth 65536 in
theorem w_c1 : (Jvm.Cond.code ({ cls := "com/example/nuntius/nuntius/cql/Relation$Operator", name := "symbol", desc := "()Ljava/lang/String;" } : Jvm.MethodName) prog_16_method_4_code (1 : Nat) (Option.some (Jvm.ClassFile.FieldType.object "java/lang/String"))).before args0 about1 = true := code_word (m := ⟨6, 0⟩) (meth := k6m0) (c := k6c0) (by decide +kernel) rfl rfl rfl (by decide +kernel)
set_option maxRecDepth 65536 in
theorem w_c2 : (Jvm.Cond.code ({ cls := "java/lang/String", name := "length", desc := "()I" } : Jvm.MethodName) jdk_42_method_54_code (1 : Nat) (Option.some Jvm.ClassFile.FieldType.int)).before args0 about1 = true := code_word (m := ⟨9, 1⟩) (meth := k9m1) (c := k9c1) (by decide +kernel) rfl rfl rfl (by decide +kernel)
set_option maxRecDepth 65536 in
theorem w_c3 : (Jvm.Cond.code ({ cls := "java/lang/String", name := "coder", desc := "()B" } : Jvm.MethodName) jdk_42_method_152_code (1 : Nat) (Option.some Jvm.ClassFile.FieldType.byte)).before args0 about1 = true := code_word (m := ⟨9, 3⟩) (meth := k9m3) (c := k9c3) (by decide +kernel) rfl rfl rfl (by decide +kernel)
set_option maxRecDepth 65536 in
theorem w_c4 : (Jvm.Cond.code ({ cls := "java/lang/String", name := "charAt", desc := "(I)C" } : Jvm.MethodName) jdk_42_method_56_code (2 : Nat) (Option.some Jvm.ClassFile.FieldType.char)).before args0 about1 = true := code_word (m := ⟨9, 2⟩) (meth := k9m2) (c := k9c2) (by decide +kernel) rfl rfl rfl (by decide +kernel)
set_option maxRecDepth 65536 in
theorem w_c5 : (Jvm.Cond.code ({ cls := "java/lang/String", name := "isLatin1", desc := "()Z" } : Jvm.MethodName) jdk_42_method_154_code (1 : Nat) (Option.some Jvm.ClassFile.FieldType.boolean)).before args0 about1 = true := code_word (m := ⟨9, 4⟩) (meth := k9m4) (c := k9c4) (by decide +kernel) rfl rfl rfl (by decide +kernel)
set_option maxRecDepth 65536 in
theorem w_c6 : (Jvm.Cond.code ({ cls := "java/lang/StringLatin1", name := "charAt", desc := "([BI)C" } : Jvm.MethodName) jdk_43_method_2_code (2 : Nat) (Option.some Jvm.ClassFile.FieldType.char)).before args0 about1 = true := code_word (m := ⟨10, 1⟩) (meth := k10m1) (c := k10c1) (by decide +kernel) rfl rfl rfl (by decide +kernel)
set_option maxRecDepth 65536 in
theorem w_c7 : (Jvm.Cond.code ({ cls := "java/lang/String", name := "checkIndex", desc := "(II)V" } : Jvm.MethodName) jdk_42_method_155_code (2 : Nat) (Option.none : Option Jvm.ClassFile.FieldType)).before args0 about1 = true := code_word (m := ⟨9, 5⟩) (meth := k9m5) (c := k9c5) (by decide +kernel) rfl rfl rfl (by decide +kernel)
set_option maxRecDepth 65536 in
theorem w_c8 : (Jvm.Cond.code ({ cls := "jdk/internal/util/Preconditions", name := "checkIndex", desc := "(IILjava/util/function/BiFunction;)I" } : Jvm.MethodName) jdk_41_method_11_code (3 : Nat) (Option.some Jvm.ClassFile.FieldType.int)).before args0 about1 = true := code_word (m := ⟨11, 1⟩) (meth := k11m1) (c := k11c1) (by decide +kernel) rfl rfl rfl (by decide +kernel)
set_option maxRecDepth 65536 in
theorem w_c9 : (Jvm.Cond.code ({ cls := "com/example/nuntius/nuntius/cql/Relation$Operator", name := "isLowerBound", desc := "()Z" } : Jvm.MethodName) prog_16_method_5_code (1 : Nat) (Option.some Jvm.ClassFile.FieldType.boolean)).before args0 about1 = true := code_word (m := ⟨6, 1⟩) (meth := k6m1) (c := k6c1) (by decide +kernel) rfl rfl rfl (by decide +kernel)
def codes1 : List Jvm.Cond := [Jvm.Cond.code x code maxLocals ret, Jvm.Cond.code ({ cls := "com/example/nuntius/nuntius/cql/Relation$Operator", name := "symbol", desc := "()Ljava/lang/String;" } : Jvm.MethodName) prog_16_method_4_code (1 : Nat) (Option.some (Jvm.ClassFile.FieldType.object "java/lang/String")), Jvm.Cond.code ({ cls := "java/lang/String", name := "length", desc := "()I" } : Jvm.MethodName) jdk_42_method_54_code (1 : Nat) (Option.some Jvm.ClassFile.FieldType.int), Jvm.Cond.code ({ cls := "java/lang/String", name := "coder", desc := "()B" } : Jvm.MethodName) jdk_42_method_152_code (1 : Nat) (Option.some Jvm.ClassFile.FieldType.byte), Jvm.Cond.code ({ cls := "java/lang/String", name := "charAt", desc := "(I)C" } : Jvm.MethodName) jdk_42_method_56_code (2 : Nat) (Option.some Jvm.ClassFile.FieldType.char), Jvm.Cond.code ({ cls := "java/lang/String", name := "isLatin1", desc := "()Z" } : Jvm.MethodName) jdk_42_method_154_code (1 : Nat) (Option.some Jvm.ClassFile.FieldType.boolean), Jvm.Cond.code ({ cls := "java/lang/StringLatin1", name := "charAt", desc := "([BI)C" } : Jvm.MethodName) jdk_43_method_2_code (2 : Nat) (Option.some Jvm.ClassFile.FieldType.char), Jvm.Cond.code ({ cls := "java/lang/String", name := "checkIndex", desc := "(II)V" } : Jvm.MethodName) jdk_42_method_155_code (2 : Nat) (Option.none : Option Jvm.ClassFile.FieldType), Jvm.Cond.code ({ cls := "jdk/internal/util/Preconditions", name := "checkIndex", desc := "(IILjava/util/function/BiFunction;)I" } : Jvm.MethodName) jdk_41_method_11_code (3 : Nat) (Option.some Jvm.ClassFile.FieldType.int), Jvm.Cond.code ({ cls := "com/example/nuntius/nuntius/cql/Relation$Operator", name := "isLowerBound", desc := "()Z" } : Jvm.MethodName) prog_16_method_5_code (1 : Nat) (Option.some Jvm.ClassFile.FieldType.boolean)]
set_option maxRecDepth 65536 in
theorem codes_eq : words1.filter isCode = codes1 := rfl
theorem w_codes : ∀ c ∈ words1.filter isCode, c.before args0 about1 = true := by
  rw [codes_eq]
  intro c hc
  simp only [codes1, List.mem_cons, List.not_mem_nil, or_false] at hc
  rcases hc with rfl | rfl | rfl | rfl | rfl | rfl | rfl | rfl | rfl | rfl
  · exact w_c0
  · exact w_c1
  · exact w_c2
  · exact w_c3
  · exact w_c4
  · exact w_c5
  · exact w_c6
  · exact w_c7
  · exact w_c8
  · exact w_c9
set_option maxRecDepth 65536 in
theorem w_t1 : (words1.take 24).all (fun c => isCode c || c.before args0 about1) = true := by decide +kernel
set_option maxRecDepth 65536 in
theorem w_t2 : ((words1.drop 24).take 24).all (fun c => isCode c || c.before args0 about1) = true := by decide +kernel
set_option maxRecDepth 65536 in
theorem w_t3 : ((words1.drop 24).drop 24).all (fun c => isCode c || c.before args0 about1) = true := by decide +kernel
theorem w_tables : (allAtoms (Jvm.Cond.code x code maxLocals ret :: tables_1)).before args0 about1 = true := by
  rw [allAtoms_all]
  show words1.all (fun c => c.before args0 about1) = true
  refine all_split ?_ w_codes
  rw [← List.take_append_drop 24 words1, List.all_append, w_t1, ← List.take_append_drop 24 (words1.drop 24), List.all_append, w_t2, w_t3]
  rfl
set_option maxRecDepth 65536 in
theorem w_rest : rest_1_c.before args0 about1 = true := by decide +kernel
set_option maxRecDepth 65536 in
theorem w_case : (Jvm.Cond.and given_1 narrow_1).before args0 about1 = true := by decide +kernel
theorem w_applies : (headSpec (Jvm.Cond.code x code maxLocals ret :: tables_1) room_1).applies x e0.platform about1 = true :=
  (Spec.applies_iff w_frames).mpr ⟨w_running, w_runnable, w_alone, w_named, w_hears, w_ripe, w_room, w_tables⟩
theorem atStart : AtStart classFile x code maxLocals ret World_1 tables_1 room_1 Calls_1 rest_1 Pre_1 launch0 p0 e0 about1 theMethod args0 below0 :=
  ⟨lists_1, trivial, launch0.admits_env _ _ _, launch0.least_env, fairChoices_fair.cas, fairChoices_fair.clock, w_frames, w_args, w_heap, w_applies, trivial, w_rest, w_case⟩
end start1
theorem witness_1 : WitnessClaimed_1 := ⟨start1.p0, start1.e0, start1.about1, start1.theMethod, start1.args0, start1.below0, start1.atStart⟩
end Jvm.Pilot.@@N@@
