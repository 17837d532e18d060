import JvmDerived
import JvmDerived.Pilot.@@N@@Statement
import JvmDerived.Pilot.@@N@@Code
set_option linter.unusedVariables false
set_option linter.unusedSimpArgs false
namespace Jvm.Pilot.@@N@@
open Jvm Jvm.ClassFile Sem Op Lib Jvm.Free Jvm.Stand Jvm.LawKit Jvm.RoadKit Bundle Jvm.Pilot.@@N@@.Jvm.D
section Own
variable {p : Program} {l : Launch} {e : Env} {R : Room} {s : State} {m : MethodId} {args : Array Value} {below : List Frame} {meth : Method} {c : Code} {T : State} {locs : List Loc} {cells slots : Nat}
def Ends (p : Program) (e : Env) (below : List Frame) (Q : Outcome → State → Prop) (S : State) : Prop := ∃ s₂ o, Steps p.tables e below S s₂ ∧ s₂.status = .running ∧ Ended s₂ below o ∧ Q o s₂
theorem Ends.opn {Q : Outcome → State → Prop} {S : State} (h : ∀ QQ : Outcome → State → Prop, (∀ o t, Q o t → QQ o t) → Ends p e below QQ S) : ∃ s₂ o, Steps p.tables e below S s₂ ∧ s₂.status = .running ∧ Ended s₂ below o ∧ Q o s₂ := h Q fun _ _ q => q
theorem Ends.step {Q : Outcome → State → Prop} {S S' : State} (k : ∀ t, Steps p.tables e below S' t → Steps p.tables e below S t) (h : Ends p e below Q S') : Ends p e below Q S := by
  obtain ⟨a, o, h1, h2⟩ := h
  exact ⟨a, o, k _ h1, h2⟩
theorem Ends.fin {QQ : Outcome → State → Prop} {Q : Option Value → Heap → List Loc → Prop} {cl sl : Nat} {g : JFrame} {h : Heap} (v : Option Value) (X : Stand p l e R s m args below meth c T locs cells slots)
    (hQQ : ∀ o t, (∃ v L, o = .returned v ∧ Q v t.heap L ∧ FrameEnd s o t L cl sl) → QQ o t) (hv : meth.sig.returnType = none → v = none) (hlocks : meth.locks = false)
    (hstep : ∀ fs, (∀ (f : JFrame) (acts : List Action), f.method = m → f.locked = none → f.entered = [] → (doReturn e (T.setTop f) acts v).1 = T.setFrames fs) → Steps p.tables e below (T.setTop g) (T.setFrames fs))
    (eT : T.heap = h) (hc : cells ≤ cl) (hs : slots ≤ sl) (q : Q v h locs) : Ends p e below QQ (T.setTop g) := by
  obtain ⟨fs, hr, hrun, hended, hW, hsame⟩ := X.leave hv hlocks
  subst eT
  exact ⟨_, _, hstep fs hr, hrun, hended, hQQ _ _ ⟨v, locs, rfl, q, ⟨_, rfl⟩, hW, hsame.mono hc hs⟩⟩
theorem own_01 {c : Prop} [Decidable c] {a b : Int32} (ha : a = 0 ∨ a = 1) (hb : b = 0 ∨ b = 1) : (if c then a else b) = 0 ∨ (if c then a else b) = 1 := by
  split <;> assumption
theorem own_narB {x : Int32} (h : x = 0 ∨ x = 1) : narrow .boolean (.int x) = .int x := by rcases h with rfl | rfl <;> rfl
theorem own_narref {v : Value} {t : FieldType} (h : v.isRef = true) (ht : t.isReference = true) : narrow t v = v := by
  cases t <;> first | (cases ht; done) | (cases v <;> first | rfl | cases h)
theorem own_fitref {v : Value} {t : FieldType} (h : v.isRef = true) (ht : t.isReference = true) : fits t v = true := by
  cases t <;> first | (cases ht; done) | (cases v <;> first | rfl | cases h)
theorem own_nar255 (b : Int32) : narrow .char (.int (b &&& (255 : Int32))) = .int (b &&& (255 : Int32)) := by
  have h := XT.narrow_c (b &&& 255)
  rw [i2c_mask] at h
  exact h
theorem own_narb (x : Int32) : nar .byte x.toInt8.toInt32 = x.toInt8.toInt32 := by simp [nar]
theorem own_ins_keep {Z : State} {h h' : Heap} {a : Addr} {C : String} {b : Bool} {ws : List Addr} (F : Ins Z h a C b) (K : Keep h h' ws) : Ins Z h' a C b := by
  obtain ⟨cell, cT, h1, h2, h3⟩ := F
  obtain ⟨c', q1, q2, q3, -⟩ := K.2.2 _ _ h1
  exact ⟨c', cT, q1, h2, by rw [q2, q3]; exact h3⟩
theorem own_sta_keep {Z : State} {h h' : Heap} {C n d : String} {v : Value} {ws : List Addr} (F : Sta Z h C n d v) (K : Keep h h' ws) (q : ∀ x ∈ ws, ∃ c : Cell, h[x]? = some c ∧ ∀ q, c.vm ≠ .statics q) : Sta Z h' C n d v := by
  obtain ⟨cf, i, k, f, st, cell, h1, h2, h3, h4, h5, h6, h7⟩ := F
  refine ⟨cf, i, k, f, st, cell, h1, h2, h3, h4, K.2.1 _ _ h5 fun hm => ?_, h6, h7⟩
  obtain ⟨c, q1, q2⟩ := q _ hm
  cases h5.symm.trans q1
  cases hq : cell.vm <;> first | exact q2 _ hq | (rw [hq] at h6; cases h6)
theorem lremM {g : JFrame} {target : State} (X : Stand p l e R s m args below meth c T locs cells slots) (hx : p.tables.exec = Jvm.exec) (hg : g.method = m) {x y : Int64} {rest : List Value} (hd : decode c.code g.pc = .ok (.lrem, 1)) (hs : g.stack = .long y :: .long x :: rest) (hy : y ≠ 0)
    (hr : Steps p.tables e below (T.setTop { g with pc := g.pc + 1, stack := .long (x % y) :: rest }) target) : Steps p.tables e below (T.setTop g) target := by
  have q : x - x / y * y = x % y := lrem_mod x y
  exact XT.lrem X.here hx hg hd hs hy (by rw [q]; exact hr)
end Own
theorem pn_0 : plainName "com/example/nuntius/nuntius/protocol/Opcode" = true := by first | (simp [plainName, overriddenIn]; done) | decide +kernel
theorem pn_1 : plainName "com/example/nuntius/nuntius/protocol/OpcodeOfCodePinLaw" = true := by first | (simp [plainName, overriddenIn]; done) | decide +kernel
theorem pd_0 : parseMethodDescriptor "(I)Lcom/example/nuntius/nuntius/protocol/Opcode;" = some ⟨[.int], some (.object "com/example/nuntius/nuntius/protocol/Opcode")⟩ := by decide +kernel
theorem pd_1 : parseMethodDescriptor "()I" = some ⟨[], some .int⟩ := by decide +kernel
theorem own_len {args : Array Value} {s : State} {t : Term} {n : Int32} {x : Addr} {cl : Cell} {ty : FieldType} (h : (Jvm.Cond.eq (Term.length t) (Term.int n)).value args s none s [] = some true) (ev : t.eval args s none [] s = some (.ref x)) (A : Arr s s.heap x cl ty) : cl.slots.size < 2 ^ 31 ∧ cl.slots.size.toInt32 = n := by
  obtain ⟨v, w, h1, h2, -, -⟩ := cmp_v (Or.inl h)
  have ha := A.fin (Vm.Alike.refl _)
  by_cases hl : cl.slots.size < 2 ^ 31
  · refine ⟨hl, ?_⟩
    have e := len_f ev ha hl (args := args) (first := s) (o := none) (idx := [])
    simp only [Cond.value, e, Term.int_eval] at h
    simpa using h
  · simp [Term.eval, ev, ha, hl] at h1
theorem own_elem {args : Array Value} {s : State} {t u : Term} {j : Int32} {x : Addr} {cl : Cell} {ty : FieldType} {v : Value} (h : (Jvm.Cond.eq (Term.elem t (Term.int j)) u).value args s none s [] = some true) (ev : t.eval args s none [] s = some (.ref x)) (A : Arr s s.heap x cl ty) (eu : u.eval args s none [] s = some v) : cl.slots[j.toNatClampNeg]? = some v := by
  obtain ⟨a, b, h1, h2, k1, k2⟩ := cmp_v (Or.inl h)
  cases eu.symm.trans h2
  have q := elem_in h1 ev (Term.int_eval j) A.1
  rw [q.2]
  simp only [Cond.value, h1, h2] at h
  cases a <;> cases v <;> simp_all [Kin, Value.isRef]
theorem own_elemJ {args : Array Value} {s : State} {t : Term} {j : Nat} {x : Addr} {cl : Cell} {ty : FieldType} {v : Int32} (h : (Jvm.Cond.eq (Term.elem t (Term.index 0)) (Term.int v)).value args s none s [j] = some true) (ev : t.eval args s none [j] s = some (.ref x)) (A : Arr s s.heap x cl ty) (hl : cl.slots.size < 2 ^ 31) (hj : j < cl.slots.size) : cl.slots[j]? = some (.int v) := by
  obtain ⟨a, b, h1, h2, k1, k2⟩ := cmp_v (Or.inl h)
  have q := elem_in h1 ev (Term.index_eval j) A.1
  have ej : j.toInt32.toNatClampNeg = j := by have := len_toInt (show j < 2 ^ 31 by omega); simp only [Int32.toNatClampNeg]; omega
  rw [ej] at q
  rw [q.2]
  cases (Term.int_eval v).symm.trans h2
  simp only [Cond.value, h1, h2] at h
  cases a <;> simp_all [Kin, Value.isRef]
theorem own_fld {args : Array Value} {s : State} {t u : Term} {x : Addr} {C f d : String} {v : Value} (h : (Jvm.Cond.eq (Term.field t C f d) u).value args s none s [] = some true) (ev : t.eval args s none [] s = some (.ref x)) (eu : u.eval args s none [] s = some v) : Fld s s.heap x C f d v := by
  obtain ⟨a, b, h1, h2, k1, k2⟩ := cmp_v (Or.inl h)
  cases eu.symm.trans h2
  have e : a = v := by
    simp only [Cond.value, h1, h2] at h
    cases a <;> cases v <;> simp_all [Kin, Value.isRef]
  subst e
  exact Fld.start ((fld_at ev).symm.trans h1)
theorem own_idx {args : Array Value} {s : State} {C n d : String} {v : Value} (ev : (Term.static C n d).eval args s none [] s = some v) (idx : List Nat := []) : (Term.static C n d).eval args s none idx s = some v := ev
theorem own_lt {k : Nat} {n : Int32} {j : Nat} (h : k.toInt32 = n) (h2 : k < 2 ^ 31) (h3 : (j : Int) < n.toInt) : j < k := by
  have := len_toInt h2
  rw [h] at this
  omega
theorem own_all3 {args : Array Value} {s : State} {t : Term} {a b v : Int32} {x : Addr} {cl : Cell} {ty : FieldType} (h : (Jvm.Cond.all t (.or (.lt (.index 0) (.int a)) (.or (.le (.int b) (.index 0)) (.eq (.elem t (.index 0)) (.int v))))).value args s none s [] = some true)
    (ev : ∀ idx, t.eval args s none idx s = some (.ref x)) (A : Arr s s.heap x cl ty) (hl : cl.slots.size < 2 ^ 31) (j : Nat) (hj : j < cl.slots.size) (h1 : a.toInt ≤ j) (h2 : (j : Int) < b.toInt) : cl.slots[j]? = some (.int v) := by
  have e := Cond.all_elim (ev []) (A.fin (Vm.Alike.refl _)) h j hj
  have ej : j.toInt32.toInt = j := len_toInt (by omega)
  have g1 : (Jvm.Cond.lt (.index 0) (.int a)).value args s none s [j] = some false := by
    simp only [Cond.value, Term.index_eval, Term.int_eval, Int32.lt_iff_toInt_lt, ej]; simp; omega
  have g2 : (Jvm.Cond.le (.int b) (.index 0)).value args s none s [j] = some false := by
    simp only [Cond.value, Term.index_eval, Term.int_eval, Int32.le_iff_toInt_le, ej]; simp; omega
  rw [Cond.or_of_right g1, Cond.or_of_right g2] at e
  exact own_elemJ e (ev [j]) A hl hj
theorem own_allH {args : Array Value} {s : State} {t : Term} {b v : Int32} {x : Addr} {cl : Cell} {ty : FieldType} (h : (Jvm.Cond.all t (.or (.le (.int b) (.index 0)) (.eq (.elem t (.index 0)) (.int v)))).value args s none s [] = some true)
    (ev : ∀ idx, t.eval args s none idx s = some (.ref x)) (A : Arr s s.heap x cl ty) (hl : cl.slots.size < 2 ^ 31) (j : Nat) (hj : j < cl.slots.size) (h2 : (j : Int) < b.toInt) : cl.slots[j]? = some (.int v) := by
  have e := Cond.all_elim (ev []) (A.fin (Vm.Alike.refl _)) h j hj
  have ej : j.toInt32.toInt = j := len_toInt (by omega)
  have g2 : (Jvm.Cond.le (.int b) (.index 0)).value args s none s [j] = some false := by
    simp only [Cond.value, Term.index_eval, Term.int_eval, Int32.le_iff_toInt_le, ej]; simp; omega
  rw [Cond.or_of_right g2] at e
  exact own_elemJ e (ev [j]) A hl hj
theorem own_nz {args : Array Value} {s : State} {t : Term} {x : Int32} (h : (Jvm.Cond.not (Jvm.Cond.eq t (Term.int (0 : Int32)))).value args s none s [] = some true) (ev : t.eval args s none [] s = some (.int x)) : ¬ x = (0 : Int32) := by
  simpa [Cond.value, ev, Term.eval] using h
theorem own_none {x : Int32} (h0 : ¬ x = (0 : Int32)) (h1 : ¬ x = (1 : Int32)) (h2 : ¬ x = (2 : Int32)) (h3 : ¬ x = (3 : Int32)) (h4 : ¬ x = (4 : Int32)) (h5 : ¬ x = (5 : Int32)) (h6 : ¬ x = (6 : Int32)) (h7 : ¬ x = (7 : Int32)) (h8 : ¬ x = (8 : Int32)) (h9 : ¬ x = (9 : Int32)) (h10 : ¬ x = (10 : Int32)) (h11 : ¬ x = (11 : Int32)) (h12 : ¬ x = (12 : Int32)) (h13 : ¬ x = (13 : Int32)) (h14 : ¬ x = (14 : Int32)) (h15 : ¬ x = (15 : Int32)) (h16 : ¬ x = (16 : Int32)) : x < (0 : Int32) ∨ ¬ x < (17 : Int32) := by
  simp only [← Int32.toInt_inj, Int32.lt_iff_toInt_lt, Int32.reduceToInt] at *
  omega

theorem d3_0 : decode prog_43_method_4_code 0 = .ok (.aload_n 0, 1) := by decide +kernel
theorem d3_1 : decode prog_43_method_4_code 1 = .ok (.getfield 71, 3) := by decide +kernel
theorem d3_4 : decode prog_43_method_4_code 4 = .ok (.ireturn, 1) := by decide +kernel
theorem ef_3 (m : MethodId) (x0 : Addr) : entryFrame m #[(.ref x0)] 1 = mkF m 0 #[.val (.ref x0)] [] := by first | (simp [entryFrame, mkF, argsToLocals, Value.category]; done) | rfl
def Q3 (Z : State) (o0 : Addr) (u : Int32) (h0 : Heap) (n0 : Nat) (v : Option Value) (h : Heap) (L : List Loc) : Prop := (v = some (.int u)) ∧ (Fr n0 L) ∧ (h = h0)
set_option maxRecDepth 65536 in
set_option maxHeartbeats 40000000 in
theorem rm3 (l : Launch) (Z : State) (a0 : Array Value) (hw : ∀ d ∈ tables_1, d.before a0 Z = true) (ws : List Jvm.Cond) (o0 : Addr) (u : Int32) (h0 : Heap) (n0 : Nat) (Z0 : n0 ≤ h0.size) (F_code_o0 : Fld Z h0 o0 "com/example/nuntius/nuntius/protocol/Opcode" "code" "I" (.int u)) :
    MetFree l (⟨"com/example/nuntius/nuntius/protocol/Opcode", "code", "()I"⟩ : MethodName) (head1 (Jvm.Cond.code (⟨"com/example/nuntius/nuntius/protocol/Opcode", "code", "()I"⟩ : MethodName) prog_43_method_4_code 1 (some .int) :: ws) ({ frames := 0, cells := 0, slots := 0, locals := 0 } : Room)) (fun a U => a = #[(.ref o0)] ∧ Z.Warmed39 U.vm ∧ U.heap = h0) (fun _ _ _ _ _ => True) (fun _ U o U' => ∃ v L, o = .returned v ∧ Q3 Z o0 u h0 n0 v U'.heap L ∧ FrameEnd U o U' L ({ frames := 0, cells := 0, slots := 0, locals := 0 } : Room).cells ({ frames := 0, cells := 0, slots := 0, locals := 0 } : Room).slots) := by
  refine MetFree.of_bodySF (plainFor_of_name pn_0) hisR ?_
  intro p e s m args below meth c s₁ Bd hml0 hP hK
  obtain ⟨rfl, hZ, hh⟩ := hP
  have hx := Bd.exec
  have hby := Bd.bytes
  have hml : c.maxLocals = 1 := hml0
  have hown : s.vm.findClass "com/example/nuntius/nuntius/protocol/Opcode" = some m.cls := findClass_of_methodNamed Bd.named
  have hnm := (name_of_methodNamed Bd.named Bd.method).1
  have X0 : Stand p l e ({ frames := 0, cells := 0, slots := 0, locals := 0 } : Room) s m #[(.ref o0)] below meth c s₁ [] 0 0 := Stand.of_body Bd
  have e0 : s₁.heap = h0 := by rw [← hh, Bd.state]; rfl
  have N0 := Fr.nil n0
  refine Ends.opn ?_
  intro QQ hQQ
  refine Ends.step (S' := s₁.setTop (mkF m 0 #[.val (.ref o0)] [])) (fun t k => castTop (ef_3 m o0) k) ?_
  show Ends p e below QQ (s₁.setTop (mkF m 0 #[.val (.ref o0)] []))
  refine Ends.step (fun _ k => XS.aloadN X0.here hx rfl (hb hby d3_0) rfl rfl k) ?_
  show Ends p e below QQ (s₁.setTop (mkF m 1 #[.val (.ref o0)] [(.ref o0)]))
  obtain ⟨T1, X1, e1, st1⟩ := getF X0 hx hZ hown (host := "") (Or.inl (hw _ (List.mem_of_getElem? (i := 17) rfl))) Via.refl e0 F_code_o0 (g := (mkF m 1 #[.val (.ref o0)] [(.ref o0)])) rfl rfl (hb hby d3_1)
  refine Ends.step st1 ?_
  show Ends p e below QQ (T1.setTop (mkF m 4 #[.val (.ref o0)] [(.int u)]))
  exact Ends.fin (some (.int u)) X1 hQQ (fun h => by rw [Bd.returns] at h; cases h) Bd.notSynchronized (fun _ hr => retOut X1 hx (t := .int) Bd.returns rfl (Or.inl ⟨rfl, Or.inl rfl, _, rfl⟩) (hb hby d3_4) hr) e1 (by decide) (by decide) ⟨rfl, N0, rfl⟩
theorem d1_0 : decode prog_43_method_5_code 0 = .ok (.aconst_null, 1) := by decide +kernel
theorem d1_1 : decode prog_43_method_5_code 1 = .ok (.astore_n 1, 1) := by decide +kernel
theorem d1_2 : decode prog_43_method_5_code 2 = .ok (.iload_n 0, 1) := by decide +kernel
theorem d1_3 : decode prog_43_method_5_code 3 = .ok (.ifCond .lt 17, 3) := by decide +kernel
theorem d1_6 : decode prog_43_method_5_code 6 = .ok (.iload_n 0, 1) := by decide +kernel
theorem d1_7 : decode prog_43_method_5_code 7 = .ok (.getstatic 75, 3) := by decide +kernel
theorem d1_10 : decode prog_43_method_5_code 10 = .ok (.arraylength, 1) := by decide +kernel
theorem d1_11 : decode prog_43_method_5_code 11 = .ok (.if_icmp .ge 9, 3) := by decide +kernel
theorem d1_14 : decode prog_43_method_5_code 14 = .ok (.getstatic 75, 3) := by decide +kernel
theorem d1_17 : decode prog_43_method_5_code 17 = .ok (.iload_n 0, 1) := by decide +kernel
theorem d1_18 : decode prog_43_method_5_code 18 = .ok (.aaload, 1) := by decide +kernel
theorem d1_19 : decode prog_43_method_5_code 19 = .ok (.astore_n 1, 1) := by decide +kernel
theorem d1_20 : decode prog_43_method_5_code 20 = .ok (.aload_n 1, 1) := by decide +kernel
theorem d1_21 : decode prog_43_method_5_code 21 = .ok (.areturn, 1) := by decide +kernel
theorem ef_1_0 (m : MethodId)  : entryFrame m #[(.int (0 : Int32))] 2 = mkF m 0 #[.val (.int (0 : Int32)), .unset] [] := by first | (simp [entryFrame, mkF, argsToLocals, Value.category]; done) | rfl
def Q1_0 (Z : State) (a_BY_CODE : Addr) (a_ERROR : Addr) (a_AUTH_CHALLENGE : Addr) (a_SUPPORTED : Addr) (a_RESULT : Addr) (a_EVENT : Addr) (a_AUTHENTICATE : Addr) (a_EXECUTE : Addr) (a_AUTH_SUCCESS : Addr) (a_OPTIONS : Addr) (a_STARTUP : Addr) (a_PREPARE : Addr) (a_REGISTER : Addr) (a_READY : Addr) (a_QUERY : Addr) (a_AUTH_RESPONSE : Addr) (a_BATCH : Addr) (k_a_BY_CODE : ClassId) (h0 : Heap) (n0 : Nat) (v : Option Value) (h : Heap) (L : List Loc) : Prop := (v = some (.ref a_ERROR)) ∧ (Fr n0 L) ∧ (h = h0)
set_option maxRecDepth 65536 in
set_option maxHeartbeats 40000000 in
theorem rm1_0 (l : Launch) (Z : State) (a0 : Array Value) (hw : ∀ d ∈ tables_1, d.before a0 Z = true) (ws : List Jvm.Cond) (a_BY_CODE : Addr) (a_ERROR : Addr) (a_AUTH_CHALLENGE : Addr) (a_SUPPORTED : Addr) (a_RESULT : Addr) (a_EVENT : Addr) (a_AUTHENTICATE : Addr) (a_EXECUTE : Addr) (a_AUTH_SUCCESS : Addr) (a_OPTIONS : Addr) (a_STARTUP : Addr) (a_PREPARE : Addr) (a_REGISTER : Addr) (a_READY : Addr) (a_QUERY : Addr) (a_AUTH_RESPONSE : Addr) (a_BATCH : Addr) (k_a_BY_CODE : ClassId) (h0 : Heap) (n0 : Nat) (Z0 : n0 ≤ h0.size) (A_a_BY_CODE : Arv Z h0 a_BY_CODE k_a_BY_CODE (.object "com/example/nuntius/nuntius/protocol/Opcode") (17 : Int32) [(.ref a_ERROR), (.ref a_STARTUP), (.ref a_READY), (.ref a_AUTHENTICATE), .null, (.ref a_OPTIONS), (.ref a_SUPPORTED), (.ref a_QUERY), (.ref a_RESULT), (.ref a_PREPARE), (.ref a_EXECUTE), (.ref a_REGISTER), (.ref a_EVENT), (.ref a_BATCH), (.ref a_AUTH_CHALLENGE), (.ref a_AUTH_RESPONSE), (.ref a_AUTH_SUCCESS)] .null) (S_BY_CODE : Sta Z h0 "com/example/nuntius/nuntius/protocol/Opcode" "BY_CODE" "[Lcom/example/nuntius/nuntius/protocol/Opcode;" (.ref a_BY_CODE)) :
    MetFree l (⟨"com/example/nuntius/nuntius/protocol/Opcode", "ofCode", "(I)Lcom/example/nuntius/nuntius/protocol/Opcode;"⟩ : MethodName) (head1 (Jvm.Cond.code (⟨"com/example/nuntius/nuntius/protocol/Opcode", "ofCode", "(I)Lcom/example/nuntius/nuntius/protocol/Opcode;"⟩ : MethodName) prog_43_method_5_code 2 (some (.object "com/example/nuntius/nuntius/protocol/Opcode")) :: ws) ({ frames := 0, cells := 0, slots := 0, locals := 0 } : Room)) (fun a U => a = #[(.int (0 : Int32))] ∧ Z.Warmed39 U.vm ∧ U.heap = h0) (fun _ _ _ _ _ => True) (fun _ U o U' => ∃ v L, o = .returned v ∧ Q1_0 Z a_BY_CODE a_ERROR a_AUTH_CHALLENGE a_SUPPORTED a_RESULT a_EVENT a_AUTHENTICATE a_EXECUTE a_AUTH_SUCCESS a_OPTIONS a_STARTUP a_PREPARE a_REGISTER a_READY a_QUERY a_AUTH_RESPONSE a_BATCH k_a_BY_CODE h0 n0 v U'.heap L ∧ FrameEnd U o U' L ({ frames := 0, cells := 0, slots := 0, locals := 0 } : Room).cells ({ frames := 0, cells := 0, slots := 0, locals := 0 } : Room).slots) := by
  refine MetFree.of_bodySF (plainFor_of_name pn_0) hisR ?_
  intro p e s m args below meth c s₁ Bd hml0 hP hK
  obtain ⟨rfl, hZ, hh⟩ := hP
  have hx := Bd.exec
  have hby := Bd.bytes
  have hml : c.maxLocals = 2 := hml0
  have hown : s.vm.findClass "com/example/nuntius/nuntius/protocol/Opcode" = some m.cls := findClass_of_methodNamed Bd.named
  have hnm := (name_of_methodNamed Bd.named Bd.method).1
  have X0 : Stand p l e ({ frames := 0, cells := 0, slots := 0, locals := 0 } : Room) s m #[(.int (0 : Int32))] below meth c s₁ [] 0 0 := Stand.of_body Bd
  have e0 : s₁.heap = h0 := by rw [← hh, Bd.state]; rfl
  have N0 := Fr.nil n0
  refine Ends.opn ?_
  intro QQ hQQ
  refine Ends.step (S' := s₁.setTop (mkF m 0 #[.val (.int (0 : Int32)), .unset] [])) (fun t k => castTop (ef_1_0 m ) k) ?_
  show Ends p e below QQ (s₁.setTop (mkF m 0 #[.val (.int (0 : Int32)), .unset] []))
  refine Ends.step (fun _ k => XS.aconstNull X0.here hx rfl (hb hby d1_0) k) ?_
  show Ends p e below QQ (s₁.setTop (mkF m 1 #[.val (.int (0 : Int32)), .unset] [.null]))
  refine Ends.step (fun _ k => XS.astoreN X0.here hx rfl (hb hby d1_1) rfl rfl (l' := #[.val (.int (0 : Int32)), .val .null]) rfl k) ?_
  show Ends p e below QQ (s₁.setTop (mkF m 2 #[.val (.int (0 : Int32)), .val .null] []))
  refine Ends.step (fun _ k => XS.iloadN X0.here hx rfl (hb hby d1_2) rfl k) ?_
  show Ends p e below QQ (s₁.setTop (mkF m 3 #[.val (.int (0 : Int32)), .val .null] [(.int (0 : Int32))]))
  refine Ends.step (fun _ k => XS.ifNo X0.here hx rfl (hb hby d1_3) rfl (XT.i0_lt_f (by decide)) k) ?_
  show Ends p e below QQ (s₁.setTop (mkF m 6 #[.val (.int (0 : Int32)), .val .null] []))
  refine Ends.step (fun _ k => XS.iloadN X0.here hx rfl (hb hby d1_6) rfl k) ?_
  show Ends p e below QQ (s₁.setTop (mkF m 7 #[.val (.int (0 : Int32)), .val .null] [(.int (0 : Int32))]))
  obtain ⟨T2, X2, e2, st2⟩ := getS2 X0 hx hZ hown (host := "") (Or.inl (hw _ (List.mem_of_getElem? (i := 4) rfl))) Via.refl e0 S_BY_CODE (g := (mkF m 7 #[.val (.int (0 : Int32)), .val .null] [(.int (0 : Int32))])) rfl (hb hby d1_7)
  refine Ends.step st2 ?_
  show Ends p e below QQ (T2.setTop (mkF m 10 #[.val (.int (0 : Int32)), .val .null] [(.ref a_BY_CODE), (.int (0 : Int32))]))
  obtain ⟨cl3, Ar3, -, S3, P3, -, -⟩ := id A_a_BY_CODE
  refine Ends.step (S' := T2.setTop (mkF m 11 #[.val (.int (0 : Int32)), .val .null] [(.int (17 : Int32)), (.int (0 : Int32))])) (fun _ k => X2.arraylength hx (by rw [e2]; exact Ar3.1) (State.isArrayOf_alike hZ.alike Ar3.2.1) (g := (mkF m 10 #[.val (.int (0 : Int32)), .val .null] [(.ref a_BY_CODE), (.int (0 : Int32))])) rfl rfl (hb hby d1_10) _ (by rw [len_of S3 P3]; exact k)) ?_
  show Ends p e below QQ (T2.setTop (mkF m 11 #[.val (.int (0 : Int32)), .val .null] [(.int (17 : Int32)), (.int (0 : Int32))]))
  refine Ends.step (fun _ k => XS.icmpNo X2.here hx rfl (hb hby d1_11) rfl (XT.ii_ge_f (by decide)) k) ?_
  show Ends p e below QQ (T2.setTop (mkF m 14 #[.val (.int (0 : Int32)), .val .null] []))
  obtain ⟨T4, X4, e4, st4⟩ := getS2 X2 hx hZ hown (host := "") (Or.inl (hw _ (List.mem_of_getElem? (i := 4) rfl))) Via.refl e2 S_BY_CODE (g := (mkF m 14 #[.val (.int (0 : Int32)), .val .null] [])) rfl (hb hby d1_14)
  refine Ends.step st4 ?_
  show Ends p e below QQ (T4.setTop (mkF m 17 #[.val (.int (0 : Int32)), .val .null] [(.ref a_BY_CODE)]))
  refine Ends.step (fun _ k => XS.iloadN X4.here hx rfl (hb hby d1_17) rfl k) ?_
  show Ends p e below QQ (T4.setTop (mkF m 18 #[.val (.int (0 : Int32)), .val .null] [(.int (0 : Int32)), (.ref a_BY_CODE)]))
  obtain ⟨cl5, Ar5, q5, S5, P5, H5, G5⟩ := id A_a_BY_CODE
  have hin5 : ¬ ((0 : Int32) < 0 ∨ cl5.slots.size ≤ ((0 : Int32)).toNatClampNeg) := inb_of S5 ⟨by decide, by decide⟩
  have hat5 : cl5.slots[((0 : Int32)).toNatClampNeg]? = some (.ref a_ERROR) := H5.at hin5 (rfl)
  refine Ends.step (fun _ k => X4.aaload hx (j := (0 : Int32)) (v := (.ref a_ERROR)) (by rw [e4]; exact Ar5.1) (State.isArrayOf_alike hZ.alike Ar5.2.1) rfl Ar5.2.2 hin5 hat5 (g := (mkF m 18 #[.val (.int (0 : Int32)), .val .null] [(.int (0 : Int32)), (.ref a_BY_CODE)])) rfl rfl (hb hby d1_18) _ k) ?_
  show Ends p e below QQ (T4.setTop (mkF m 19 #[.val (.int (0 : Int32)), .val .null] [(.ref a_ERROR)]))
  refine Ends.step (fun _ k => XS.astoreN X4.here hx rfl (hb hby d1_19) rfl rfl (l' := #[.val (.int (0 : Int32)), .val (.ref a_ERROR)]) rfl k) ?_
  show Ends p e below QQ (T4.setTop (mkF m 20 #[.val (.int (0 : Int32)), .val (.ref a_ERROR)] []))
  refine Ends.step (fun _ k => XS.aloadN X4.here hx rfl (hb hby d1_20) rfl rfl k) ?_
  show Ends p e below QQ (T4.setTop (mkF m 21 #[.val (.int (0 : Int32)), .val (.ref a_ERROR)] [(.ref a_ERROR)]))
  exact Ends.fin (some (.ref a_ERROR)) X4 hQQ (fun h => by rw [Bd.returns] at h; cases h) Bd.notSynchronized (fun _ hr => retOut X4 hx (t := (.object "com/example/nuntius/nuntius/protocol/Opcode")) Bd.returns rfl (Or.inr (Or.inr (Or.inr (Or.inr ⟨rfl, rfl, rfl⟩)))) (hb hby d1_21) hr) e4 (by decide) (by decide) ⟨rfl, N0, rfl⟩
theorem d2_0 : decode method_2_code 0 = .ok (.iload_n 0, 1) := by decide +kernel
theorem d2_1 : decode method_2_code 1 = .ok (.ifCond .ne 7, 3) := by decide +kernel
theorem d2_4 : decode method_2_code 4 = .ok (.getstatic 7, 3) := by decide +kernel
theorem d2_7 : decode method_2_code 7 = .ok (.areturn, 1) := by decide +kernel
theorem ef_2_0 (m : MethodId)  : entryFrame m #[(.int (0 : Int32))] 1 = mkF m 0 #[.val (.int (0 : Int32))] [] := by first | (simp [entryFrame, mkF, argsToLocals, Value.category]; done) | rfl
def Q2_0 (Z : State) (a_ERROR : Addr) (h0 : Heap) (n0 : Nat) (v : Option Value) (h : Heap) (L : List Loc) : Prop := (v = some (.ref a_ERROR)) ∧ (Fr n0 L) ∧ (h = h0)
set_option maxRecDepth 65536 in
set_option maxHeartbeats 40000000 in
theorem rm2_0 (l : Launch) (Z : State) (a0 : Array Value) (hw : ∀ d ∈ tables_1, d.before a0 Z = true) (ws : List Jvm.Cond) (a_ERROR : Addr) (h0 : Heap) (n0 : Nat) (Z0 : n0 ≤ h0.size) (S_ERROR : Sta Z h0 "com/example/nuntius/nuntius/protocol/Opcode" "ERROR" "Lcom/example/nuntius/nuntius/protocol/Opcode;" (.ref a_ERROR)) :
    MetFree l (⟨"com/example/nuntius/nuntius/protocol/OpcodeOfCodePinLaw", "expected", "(I)Lcom/example/nuntius/nuntius/protocol/Opcode;"⟩ : MethodName) (head1 (Jvm.Cond.code (⟨"com/example/nuntius/nuntius/protocol/OpcodeOfCodePinLaw", "expected", "(I)Lcom/example/nuntius/nuntius/protocol/Opcode;"⟩ : MethodName) method_2_code 1 (some (.object "com/example/nuntius/nuntius/protocol/Opcode")) :: ws) ({ frames := 0, cells := 0, slots := 0, locals := 0 } : Room)) (fun a U => a = #[(.int (0 : Int32))] ∧ Z.Warmed39 U.vm ∧ U.heap = h0) (fun _ _ _ _ _ => True) (fun _ U o U' => ∃ v L, o = .returned v ∧ Q2_0 Z a_ERROR h0 n0 v U'.heap L ∧ FrameEnd U o U' L ({ frames := 0, cells := 0, slots := 0, locals := 0 } : Room).cells ({ frames := 0, cells := 0, slots := 0, locals := 0 } : Room).slots) := by
  refine MetFree.of_bodySF (plainFor_of_name pn_1) hisR ?_
  intro p e s m args below meth c s₁ Bd hml0 hP hK
  obtain ⟨rfl, hZ, hh⟩ := hP
  have hx := Bd.exec
  have hby := Bd.bytes
  have hml : c.maxLocals = 1 := hml0
  have hown : s.vm.findClass "com/example/nuntius/nuntius/protocol/OpcodeOfCodePinLaw" = some m.cls := findClass_of_methodNamed Bd.named
  have hnm := (name_of_methodNamed Bd.named Bd.method).1
  have X0 : Stand p l e ({ frames := 0, cells := 0, slots := 0, locals := 0 } : Room) s m #[(.int (0 : Int32))] below meth c s₁ [] 0 0 := Stand.of_body Bd
  have e0 : s₁.heap = h0 := by rw [← hh, Bd.state]; rfl
  have N0 := Fr.nil n0
  refine Ends.opn ?_
  intro QQ hQQ
  refine Ends.step (S' := s₁.setTop (mkF m 0 #[.val (.int (0 : Int32))] [])) (fun t k => castTop (ef_2_0 m ) k) ?_
  show Ends p e below QQ (s₁.setTop (mkF m 0 #[.val (.int (0 : Int32))] []))
  refine Ends.step (fun _ k => XS.iloadN X0.here hx rfl (hb hby d2_0) rfl k) ?_
  show Ends p e below QQ (s₁.setTop (mkF m 1 #[.val (.int (0 : Int32))] [(.int (0 : Int32))]))
  refine Ends.step (fun _ k => XS.ifNo X0.here hx rfl (hb hby d2_1) rfl (XT.i0_ne_f (by decide)) k) ?_
  show Ends p e below QQ (s₁.setTop (mkF m 4 #[.val (.int (0 : Int32))] []))
  obtain ⟨T6, X6, e6, st6⟩ := getS2 X0 hx hZ hown (host := "") (Or.inl (hw _ (List.mem_of_getElem? (i := 11) rfl))) Via.refl e0 S_ERROR (g := (mkF m 4 #[.val (.int (0 : Int32))] [])) rfl (hb hby d2_4)
  refine Ends.step st6 ?_
  show Ends p e below QQ (T6.setTop (mkF m 7 #[.val (.int (0 : Int32))] [(.ref a_ERROR)]))
  exact Ends.fin (some (.ref a_ERROR)) X6 hQQ (fun h => by rw [Bd.returns] at h; cases h) Bd.notSynchronized (fun _ hr => retOut X6 hx (t := (.object "com/example/nuntius/nuntius/protocol/Opcode")) Bd.returns rfl (Or.inr (Or.inr (Or.inr (Or.inr ⟨rfl, rfl, rfl⟩)))) (hb hby d2_7) hr) e6 (by decide) (by decide) ⟨rfl, N0, rfl⟩
theorem ef_1_1 (m : MethodId)  : entryFrame m #[(.int (1 : Int32))] 2 = mkF m 0 #[.val (.int (1 : Int32)), .unset] [] := by first | (simp [entryFrame, mkF, argsToLocals, Value.category]; done) | rfl
def Q1_1 (Z : State) (a_BY_CODE : Addr) (a_ERROR : Addr) (a_AUTH_CHALLENGE : Addr) (a_SUPPORTED : Addr) (a_RESULT : Addr) (a_EVENT : Addr) (a_AUTHENTICATE : Addr) (a_EXECUTE : Addr) (a_AUTH_SUCCESS : Addr) (a_OPTIONS : Addr) (a_STARTUP : Addr) (a_PREPARE : Addr) (a_REGISTER : Addr) (a_READY : Addr) (a_QUERY : Addr) (a_AUTH_RESPONSE : Addr) (a_BATCH : Addr) (k_a_BY_CODE : ClassId) (h0 : Heap) (n0 : Nat) (v : Option Value) (h : Heap) (L : List Loc) : Prop := (v = some (.ref a_STARTUP)) ∧ (Fr n0 L) ∧ (h = h0)
set_option maxRecDepth 65536 in
set_option maxHeartbeats 40000000 in
theorem rm1_1 (l : Launch) (Z : State) (a0 : Array Value) (hw : ∀ d ∈ tables_1, d.before a0 Z = true) (ws : List Jvm.Cond) (a_BY_CODE : Addr) (a_ERROR : Addr) (a_AUTH_CHALLENGE : Addr) (a_SUPPORTED : Addr) (a_RESULT : Addr) (a_EVENT : Addr) (a_AUTHENTICATE : Addr) (a_EXECUTE : Addr) (a_AUTH_SUCCESS : Addr) (a_OPTIONS : Addr) (a_STARTUP : Addr) (a_PREPARE : Addr) (a_REGISTER : Addr) (a_READY : Addr) (a_QUERY : Addr) (a_AUTH_RESPONSE : Addr) (a_BATCH : Addr) (k_a_BY_CODE : ClassId) (h0 : Heap) (n0 : Nat) (Z0 : n0 ≤ h0.size) (A_a_BY_CODE : Arv Z h0 a_BY_CODE k_a_BY_CODE (.object "com/example/nuntius/nuntius/protocol/Opcode") (17 : Int32) [(.ref a_ERROR), (.ref a_STARTUP), (.ref a_READY), (.ref a_AUTHENTICATE), .null, (.ref a_OPTIONS), (.ref a_SUPPORTED), (.ref a_QUERY), (.ref a_RESULT), (.ref a_PREPARE), (.ref a_EXECUTE), (.ref a_REGISTER), (.ref a_EVENT), (.ref a_BATCH), (.ref a_AUTH_CHALLENGE), (.ref a_AUTH_RESPONSE), (.ref a_AUTH_SUCCESS)] .null) (S_BY_CODE : Sta Z h0 "com/example/nuntius/nuntius/protocol/Opcode" "BY_CODE" "[Lcom/example/nuntius/nuntius/protocol/Opcode;" (.ref a_BY_CODE)) :
    MetFree l (⟨"com/example/nuntius/nuntius/protocol/Opcode", "ofCode", "(I)Lcom/example/nuntius/nuntius/protocol/Opcode;"⟩ : MethodName) (head1 (Jvm.Cond.code (⟨"com/example/nuntius/nuntius/protocol/Opcode", "ofCode", "(I)Lcom/example/nuntius/nuntius/protocol/Opcode;"⟩ : MethodName) prog_43_method_5_code 2 (some (.object "com/example/nuntius/nuntius/protocol/Opcode")) :: ws) ({ frames := 0, cells := 0, slots := 0, locals := 0 } : Room)) (fun a U => a = #[(.int (1 : Int32))] ∧ Z.Warmed39 U.vm ∧ U.heap = h0) (fun _ _ _ _ _ => True) (fun _ U o U' => ∃ v L, o = .returned v ∧ Q1_1 Z a_BY_CODE a_ERROR a_AUTH_CHALLENGE a_SUPPORTED a_RESULT a_EVENT a_AUTHENTICATE a_EXECUTE a_AUTH_SUCCESS a_OPTIONS a_STARTUP a_PREPARE a_REGISTER a_READY a_QUERY a_AUTH_RESPONSE a_BATCH k_a_BY_CODE h0 n0 v U'.heap L ∧ FrameEnd U o U' L ({ frames := 0, cells := 0, slots := 0, locals := 0 } : Room).cells ({ frames := 0, cells := 0, slots := 0, locals := 0 } : Room).slots) := by
  refine MetFree.of_bodySF (plainFor_of_name pn_0) hisR ?_
  intro p e s m args below meth c s₁ Bd hml0 hP hK
  obtain ⟨rfl, hZ, hh⟩ := hP
  have hx := Bd.exec
  have hby := Bd.bytes
  have hml : c.maxLocals = 2 := hml0
  have hown : s.vm.findClass "com/example/nuntius/nuntius/protocol/Opcode" = some m.cls := findClass_of_methodNamed Bd.named
  have hnm := (name_of_methodNamed Bd.named Bd.method).1
  have X0 : Stand p l e ({ frames := 0, cells := 0, slots := 0, locals := 0 } : Room) s m #[(.int (1 : Int32))] below meth c s₁ [] 0 0 := Stand.of_body Bd
  have e0 : s₁.heap = h0 := by rw [← hh, Bd.state]; rfl
  have N0 := Fr.nil n0
  refine Ends.opn ?_
  intro QQ hQQ
  refine Ends.step (S' := s₁.setTop (mkF m 0 #[.val (.int (1 : Int32)), .unset] [])) (fun t k => castTop (ef_1_1 m ) k) ?_
  show Ends p e below QQ (s₁.setTop (mkF m 0 #[.val (.int (1 : Int32)), .unset] []))
  refine Ends.step (fun _ k => XS.aconstNull X0.here hx rfl (hb hby d1_0) k) ?_
  show Ends p e below QQ (s₁.setTop (mkF m 1 #[.val (.int (1 : Int32)), .unset] [.null]))
  refine Ends.step (fun _ k => XS.astoreN X0.here hx rfl (hb hby d1_1) rfl rfl (l' := #[.val (.int (1 : Int32)), .val .null]) rfl k) ?_
  show Ends p e below QQ (s₁.setTop (mkF m 2 #[.val (.int (1 : Int32)), .val .null] []))
  refine Ends.step (fun _ k => XS.iloadN X0.here hx rfl (hb hby d1_2) rfl k) ?_
  show Ends p e below QQ (s₁.setTop (mkF m 3 #[.val (.int (1 : Int32)), .val .null] [(.int (1 : Int32))]))
  refine Ends.step (fun _ k => XS.ifNo X0.here hx rfl (hb hby d1_3) rfl (XT.i0_lt_f (by decide)) k) ?_
  show Ends p e below QQ (s₁.setTop (mkF m 6 #[.val (.int (1 : Int32)), .val .null] []))
  refine Ends.step (fun _ k => XS.iloadN X0.here hx rfl (hb hby d1_6) rfl k) ?_
  show Ends p e below QQ (s₁.setTop (mkF m 7 #[.val (.int (1 : Int32)), .val .null] [(.int (1 : Int32))]))
  obtain ⟨T7, X7, e7, st7⟩ := getS2 X0 hx hZ hown (host := "") (Or.inl (hw _ (List.mem_of_getElem? (i := 4) rfl))) Via.refl e0 S_BY_CODE (g := (mkF m 7 #[.val (.int (1 : Int32)), .val .null] [(.int (1 : Int32))])) rfl (hb hby d1_7)
  refine Ends.step st7 ?_
  show Ends p e below QQ (T7.setTop (mkF m 10 #[.val (.int (1 : Int32)), .val .null] [(.ref a_BY_CODE), (.int (1 : Int32))]))
  obtain ⟨cl8, Ar8, -, S8, P8, -, -⟩ := id A_a_BY_CODE
  refine Ends.step (S' := T7.setTop (mkF m 11 #[.val (.int (1 : Int32)), .val .null] [(.int (17 : Int32)), (.int (1 : Int32))])) (fun _ k => X7.arraylength hx (by rw [e7]; exact Ar8.1) (State.isArrayOf_alike hZ.alike Ar8.2.1) (g := (mkF m 10 #[.val (.int (1 : Int32)), .val .null] [(.ref a_BY_CODE), (.int (1 : Int32))])) rfl rfl (hb hby d1_10) _ (by rw [len_of S8 P8]; exact k)) ?_
  show Ends p e below QQ (T7.setTop (mkF m 11 #[.val (.int (1 : Int32)), .val .null] [(.int (17 : Int32)), (.int (1 : Int32))]))
  refine Ends.step (fun _ k => XS.icmpNo X7.here hx rfl (hb hby d1_11) rfl (XT.ii_ge_f (by decide)) k) ?_
  show Ends p e below QQ (T7.setTop (mkF m 14 #[.val (.int (1 : Int32)), .val .null] []))
  obtain ⟨T9, X9, e9, st9⟩ := getS2 X7 hx hZ hown (host := "") (Or.inl (hw _ (List.mem_of_getElem? (i := 4) rfl))) Via.refl e7 S_BY_CODE (g := (mkF m 14 #[.val (.int (1 : Int32)), .val .null] [])) rfl (hb hby d1_14)
  refine Ends.step st9 ?_
  show Ends p e below QQ (T9.setTop (mkF m 17 #[.val (.int (1 : Int32)), .val .null] [(.ref a_BY_CODE)]))
  refine Ends.step (fun _ k => XS.iloadN X9.here hx rfl (hb hby d1_17) rfl k) ?_
  show Ends p e below QQ (T9.setTop (mkF m 18 #[.val (.int (1 : Int32)), .val .null] [(.int (1 : Int32)), (.ref a_BY_CODE)]))
  obtain ⟨cl10, Ar10, q10, S10, P10, H10, G10⟩ := id A_a_BY_CODE
  have hin10 : ¬ ((1 : Int32) < 0 ∨ cl10.slots.size ≤ ((1 : Int32)).toNatClampNeg) := inb_of S10 ⟨by decide, by decide⟩
  have hat10 : cl10.slots[((1 : Int32)).toNatClampNeg]? = some (.ref a_STARTUP) := H10.at hin10 (rfl)
  refine Ends.step (fun _ k => X9.aaload hx (j := (1 : Int32)) (v := (.ref a_STARTUP)) (by rw [e9]; exact Ar10.1) (State.isArrayOf_alike hZ.alike Ar10.2.1) rfl Ar10.2.2 hin10 hat10 (g := (mkF m 18 #[.val (.int (1 : Int32)), .val .null] [(.int (1 : Int32)), (.ref a_BY_CODE)])) rfl rfl (hb hby d1_18) _ k) ?_
  show Ends p e below QQ (T9.setTop (mkF m 19 #[.val (.int (1 : Int32)), .val .null] [(.ref a_STARTUP)]))
  refine Ends.step (fun _ k => XS.astoreN X9.here hx rfl (hb hby d1_19) rfl rfl (l' := #[.val (.int (1 : Int32)), .val (.ref a_STARTUP)]) rfl k) ?_
  show Ends p e below QQ (T9.setTop (mkF m 20 #[.val (.int (1 : Int32)), .val (.ref a_STARTUP)] []))
  refine Ends.step (fun _ k => XS.aloadN X9.here hx rfl (hb hby d1_20) rfl rfl k) ?_
  show Ends p e below QQ (T9.setTop (mkF m 21 #[.val (.int (1 : Int32)), .val (.ref a_STARTUP)] [(.ref a_STARTUP)]))
  exact Ends.fin (some (.ref a_STARTUP)) X9 hQQ (fun h => by rw [Bd.returns] at h; cases h) Bd.notSynchronized (fun _ hr => retOut X9 hx (t := (.object "com/example/nuntius/nuntius/protocol/Opcode")) Bd.returns rfl (Or.inr (Or.inr (Or.inr (Or.inr ⟨rfl, rfl, rfl⟩)))) (hb hby d1_21) hr) e9 (by decide) (by decide) ⟨rfl, N0, rfl⟩
theorem d2_8 : decode method_2_code 8 = .ok (.iload_n 0, 1) := by decide +kernel
theorem d2_9 : decode method_2_code 9 = .ok (.iconst 1, 1) := by decide +kernel
theorem d2_10 : decode method_2_code 10 = .ok (.if_icmp .ne 7, 3) := by decide +kernel
theorem d2_13 : decode method_2_code 13 = .ok (.getstatic 13, 3) := by decide +kernel
theorem d2_16 : decode method_2_code 16 = .ok (.areturn, 1) := by decide +kernel
theorem ef_2_1 (m : MethodId)  : entryFrame m #[(.int (1 : Int32))] 1 = mkF m 0 #[.val (.int (1 : Int32))] [] := by first | (simp [entryFrame, mkF, argsToLocals, Value.category]; done) | rfl
def Q2_1 (Z : State) (a_STARTUP : Addr) (h0 : Heap) (n0 : Nat) (v : Option Value) (h : Heap) (L : List Loc) : Prop := (v = some (.ref a_STARTUP)) ∧ (Fr n0 L) ∧ (h = h0)
set_option maxRecDepth 65536 in
set_option maxHeartbeats 40000000 in
theorem rm2_1 (l : Launch) (Z : State) (a0 : Array Value) (hw : ∀ d ∈ tables_1, d.before a0 Z = true) (ws : List Jvm.Cond) (a_STARTUP : Addr) (h0 : Heap) (n0 : Nat) (Z0 : n0 ≤ h0.size) (S_STARTUP : Sta Z h0 "com/example/nuntius/nuntius/protocol/Opcode" "STARTUP" "Lcom/example/nuntius/nuntius/protocol/Opcode;" (.ref a_STARTUP)) :
    MetFree l (⟨"com/example/nuntius/nuntius/protocol/OpcodeOfCodePinLaw", "expected", "(I)Lcom/example/nuntius/nuntius/protocol/Opcode;"⟩ : MethodName) (head1 (Jvm.Cond.code (⟨"com/example/nuntius/nuntius/protocol/OpcodeOfCodePinLaw", "expected", "(I)Lcom/example/nuntius/nuntius/protocol/Opcode;"⟩ : MethodName) method_2_code 1 (some (.object "com/example/nuntius/nuntius/protocol/Opcode")) :: ws) ({ frames := 0, cells := 0, slots := 0, locals := 0 } : Room)) (fun a U => a = #[(.int (1 : Int32))] ∧ Z.Warmed39 U.vm ∧ U.heap = h0) (fun _ _ _ _ _ => True) (fun _ U o U' => ∃ v L, o = .returned v ∧ Q2_1 Z a_STARTUP h0 n0 v U'.heap L ∧ FrameEnd U o U' L ({ frames := 0, cells := 0, slots := 0, locals := 0 } : Room).cells ({ frames := 0, cells := 0, slots := 0, locals := 0 } : Room).slots) := by
  refine MetFree.of_bodySF (plainFor_of_name pn_1) hisR ?_
  intro p e s m args below meth c s₁ Bd hml0 hP hK
  obtain ⟨rfl, hZ, hh⟩ := hP
  have hx := Bd.exec
  have hby := Bd.bytes
  have hml : c.maxLocals = 1 := hml0
  have hown : s.vm.findClass "com/example/nuntius/nuntius/protocol/OpcodeOfCodePinLaw" = some m.cls := findClass_of_methodNamed Bd.named
  have hnm := (name_of_methodNamed Bd.named Bd.method).1
  have X0 : Stand p l e ({ frames := 0, cells := 0, slots := 0, locals := 0 } : Room) s m #[(.int (1 : Int32))] below meth c s₁ [] 0 0 := Stand.of_body Bd
  have e0 : s₁.heap = h0 := by rw [← hh, Bd.state]; rfl
  have N0 := Fr.nil n0
  refine Ends.opn ?_
  intro QQ hQQ
  refine Ends.step (S' := s₁.setTop (mkF m 0 #[.val (.int (1 : Int32))] [])) (fun t k => castTop (ef_2_1 m ) k) ?_
  show Ends p e below QQ (s₁.setTop (mkF m 0 #[.val (.int (1 : Int32))] []))
  refine Ends.step (fun _ k => XS.iloadN X0.here hx rfl (hb hby d2_0) rfl k) ?_
  show Ends p e below QQ (s₁.setTop (mkF m 1 #[.val (.int (1 : Int32))] [(.int (1 : Int32))]))
  refine Ends.step (fun _ k => XS.ifYes X0.here hx rfl (pc0 := 1) (pc' := 8) rfl (hb hby d2_1) rfl (XT.i0_ne_t (by decide)) (by decide) (by decide) k) ?_
  show Ends p e below QQ (s₁.setTop (mkF m 8 #[.val (.int (1 : Int32))] []))
  refine Ends.step (fun _ k => XS.iloadN X0.here hx rfl (hb hby d2_8) rfl k) ?_
  show Ends p e below QQ (s₁.setTop (mkF m 9 #[.val (.int (1 : Int32))] [(.int (1 : Int32))]))
  refine Ends.step (fun _ k => XT.iconstV X0.here hx rfl (1 : Int32) (hb hby d2_9) rfl k) ?_
  show Ends p e below QQ (s₁.setTop (mkF m 10 #[.val (.int (1 : Int32))] [(.int (1 : Int32)), (.int (1 : Int32))]))
  refine Ends.step (fun _ k => XS.icmpNo X0.here hx rfl (hb hby d2_10) rfl (XT.ii_ne_f (by decide)) k) ?_
  show Ends p e below QQ (s₁.setTop (mkF m 13 #[.val (.int (1 : Int32))] []))
  obtain ⟨T11, X11, e11, st11⟩ := getS2 X0 hx hZ hown (host := "") (Or.inl (hw _ (List.mem_of_getElem? (i := 36) rfl))) Via.refl e0 S_STARTUP (g := (mkF m 13 #[.val (.int (1 : Int32))] [])) rfl (hb hby d2_13)
  refine Ends.step st11 ?_
  show Ends p e below QQ (T11.setTop (mkF m 16 #[.val (.int (1 : Int32))] [(.ref a_STARTUP)]))
  exact Ends.fin (some (.ref a_STARTUP)) X11 hQQ (fun h => by rw [Bd.returns] at h; cases h) Bd.notSynchronized (fun _ hr => retOut X11 hx (t := (.object "com/example/nuntius/nuntius/protocol/Opcode")) Bd.returns rfl (Or.inr (Or.inr (Or.inr (Or.inr ⟨rfl, rfl, rfl⟩)))) (hb hby d2_16) hr) e11 (by decide) (by decide) ⟨rfl, N0, rfl⟩
theorem ef_1_2 (m : MethodId)  : entryFrame m #[(.int (2 : Int32))] 2 = mkF m 0 #[.val (.int (2 : Int32)), .unset] [] := by first | (simp [entryFrame, mkF, argsToLocals, Value.category]; done) | rfl
def Q1_2 (Z : State) (a_BY_CODE : Addr) (a_ERROR : Addr) (a_AUTH_CHALLENGE : Addr) (a_SUPPORTED : Addr) (a_RESULT : Addr) (a_EVENT : Addr) (a_AUTHENTICATE : Addr) (a_EXECUTE : Addr) (a_AUTH_SUCCESS : Addr) (a_OPTIONS : Addr) (a_STARTUP : Addr) (a_PREPARE : Addr) (a_REGISTER : Addr) (a_READY : Addr) (a_QUERY : Addr) (a_AUTH_RESPONSE : Addr) (a_BATCH : Addr) (k_a_BY_CODE : ClassId) (h0 : Heap) (n0 : Nat) (v : Option Value) (h : Heap) (L : List Loc) : Prop := (v = some (.ref a_READY)) ∧ (Fr n0 L) ∧ (h = h0)
set_option maxRecDepth 65536 in
set_option maxHeartbeats 40000000 in
theorem rm1_2 (l : Launch) (Z : State) (a0 : Array Value) (hw : ∀ d ∈ tables_1, d.before a0 Z = true) (ws : List Jvm.Cond) (a_BY_CODE : Addr) (a_ERROR : Addr) (a_AUTH_CHALLENGE : Addr) (a_SUPPORTED : Addr) (a_RESULT : Addr) (a_EVENT : Addr) (a_AUTHENTICATE : Addr) (a_EXECUTE : Addr) (a_AUTH_SUCCESS : Addr) (a_OPTIONS : Addr) (a_STARTUP : Addr) (a_PREPARE : Addr) (a_REGISTER : Addr) (a_READY : Addr) (a_QUERY : Addr) (a_AUTH_RESPONSE : Addr) (a_BATCH : Addr) (k_a_BY_CODE : ClassId) (h0 : Heap) (n0 : Nat) (Z0 : n0 ≤ h0.size) (A_a_BY_CODE : Arv Z h0 a_BY_CODE k_a_BY_CODE (.object "com/example/nuntius/nuntius/protocol/Opcode") (17 : Int32) [(.ref a_ERROR), (.ref a_STARTUP), (.ref a_READY), (.ref a_AUTHENTICATE), .null, (.ref a_OPTIONS), (.ref a_SUPPORTED), (.ref a_QUERY), (.ref a_RESULT), (.ref a_PREPARE), (.ref a_EXECUTE), (.ref a_REGISTER), (.ref a_EVENT), (.ref a_BATCH), (.ref a_AUTH_CHALLENGE), (.ref a_AUTH_RESPONSE), (.ref a_AUTH_SUCCESS)] .null) (S_BY_CODE : Sta Z h0 "com/example/nuntius/nuntius/protocol/Opcode" "BY_CODE" "[Lcom/example/nuntius/nuntius/protocol/Opcode;" (.ref a_BY_CODE)) :
    MetFree l (⟨"com/example/nuntius/nuntius/protocol/Opcode", "ofCode", "(I)Lcom/example/nuntius/nuntius/protocol/Opcode;"⟩ : MethodName) (head1 (Jvm.Cond.code (⟨"com/example/nuntius/nuntius/protocol/Opcode", "ofCode", "(I)Lcom/example/nuntius/nuntius/protocol/Opcode;"⟩ : MethodName) prog_43_method_5_code 2 (some (.object "com/example/nuntius/nuntius/protocol/Opcode")) :: ws) ({ frames := 0, cells := 0, slots := 0, locals := 0 } : Room)) (fun a U => a = #[(.int (2 : Int32))] ∧ Z.Warmed39 U.vm ∧ U.heap = h0) (fun _ _ _ _ _ => True) (fun _ U o U' => ∃ v L, o = .returned v ∧ Q1_2 Z a_BY_CODE a_ERROR a_AUTH_CHALLENGE a_SUPPORTED a_RESULT a_EVENT a_AUTHENTICATE a_EXECUTE a_AUTH_SUCCESS a_OPTIONS a_STARTUP a_PREPARE a_REGISTER a_READY a_QUERY a_AUTH_RESPONSE a_BATCH k_a_BY_CODE h0 n0 v U'.heap L ∧ FrameEnd U o U' L ({ frames := 0, cells := 0, slots := 0, locals := 0 } : Room).cells ({ frames := 0, cells := 0, slots := 0, locals := 0 } : Room).slots) := by
  refine MetFree.of_bodySF (plainFor_of_name pn_0) hisR ?_
  intro p e s m args below meth c s₁ Bd hml0 hP hK
  obtain ⟨rfl, hZ, hh⟩ := hP
  have hx := Bd.exec
  have hby := Bd.bytes
  have hml : c.maxLocals = 2 := hml0
  have hown : s.vm.findClass "com/example/nuntius/nuntius/protocol/Opcode" = some m.cls := findClass_of_methodNamed Bd.named
  have hnm := (name_of_methodNamed Bd.named Bd.method).1
  have X0 : Stand p l e ({ frames := 0, cells := 0, slots := 0, locals := 0 } : Room) s m #[(.int (2 : Int32))] below meth c s₁ [] 0 0 := Stand.of_body Bd
  have e0 : s₁.heap = h0 := by rw [← hh, Bd.state]; rfl
  have N0 := Fr.nil n0
  refine Ends.opn ?_
  intro QQ hQQ
  refine Ends.step (S' := s₁.setTop (mkF m 0 #[.val (.int (2 : Int32)), .unset] [])) (fun t k => castTop (ef_1_2 m ) k) ?_
  show Ends p e below QQ (s₁.setTop (mkF m 0 #[.val (.int (2 : Int32)), .unset] []))
  refine Ends.step (fun _ k => XS.aconstNull X0.here hx rfl (hb hby d1_0) k) ?_
  show Ends p e below QQ (s₁.setTop (mkF m 1 #[.val (.int (2 : Int32)), .unset] [.null]))
  refine Ends.step (fun _ k => XS.astoreN X0.here hx rfl (hb hby d1_1) rfl rfl (l' := #[.val (.int (2 : Int32)), .val .null]) rfl k) ?_
  show Ends p e below QQ (s₁.setTop (mkF m 2 #[.val (.int (2 : Int32)), .val .null] []))
  refine Ends.step (fun _ k => XS.iloadN X0.here hx rfl (hb hby d1_2) rfl k) ?_
  show Ends p e below QQ (s₁.setTop (mkF m 3 #[.val (.int (2 : Int32)), .val .null] [(.int (2 : Int32))]))
  refine Ends.step (fun _ k => XS.ifNo X0.here hx rfl (hb hby d1_3) rfl (XT.i0_lt_f (by decide)) k) ?_
  show Ends p e below QQ (s₁.setTop (mkF m 6 #[.val (.int (2 : Int32)), .val .null] []))
  refine Ends.step (fun _ k => XS.iloadN X0.here hx rfl (hb hby d1_6) rfl k) ?_
  show Ends p e below QQ (s₁.setTop (mkF m 7 #[.val (.int (2 : Int32)), .val .null] [(.int (2 : Int32))]))
  obtain ⟨T12, X12, e12, st12⟩ := getS2 X0 hx hZ hown (host := "") (Or.inl (hw _ (List.mem_of_getElem? (i := 4) rfl))) Via.refl e0 S_BY_CODE (g := (mkF m 7 #[.val (.int (2 : Int32)), .val .null] [(.int (2 : Int32))])) rfl (hb hby d1_7)
  refine Ends.step st12 ?_
  show Ends p e below QQ (T12.setTop (mkF m 10 #[.val (.int (2 : Int32)), .val .null] [(.ref a_BY_CODE), (.int (2 : Int32))]))
  obtain ⟨cl13, Ar13, -, S13, P13, -, -⟩ := id A_a_BY_CODE
  refine Ends.step (S' := T12.setTop (mkF m 11 #[.val (.int (2 : Int32)), .val .null] [(.int (17 : Int32)), (.int (2 : Int32))])) (fun _ k => X12.arraylength hx (by rw [e12]; exact Ar13.1) (State.isArrayOf_alike hZ.alike Ar13.2.1) (g := (mkF m 10 #[.val (.int (2 : Int32)), .val .null] [(.ref a_BY_CODE), (.int (2 : Int32))])) rfl rfl (hb hby d1_10) _ (by rw [len_of S13 P13]; exact k)) ?_
  show Ends p e below QQ (T12.setTop (mkF m 11 #[.val (.int (2 : Int32)), .val .null] [(.int (17 : Int32)), (.int (2 : Int32))]))
  refine Ends.step (fun _ k => XS.icmpNo X12.here hx rfl (hb hby d1_11) rfl (XT.ii_ge_f (by decide)) k) ?_
  show Ends p e below QQ (T12.setTop (mkF m 14 #[.val (.int (2 : Int32)), .val .null] []))
  obtain ⟨T14, X14, e14, st14⟩ := getS2 X12 hx hZ hown (host := "") (Or.inl (hw _ (List.mem_of_getElem? (i := 4) rfl))) Via.refl e12 S_BY_CODE (g := (mkF m 14 #[.val (.int (2 : Int32)), .val .null] [])) rfl (hb hby d1_14)
  refine Ends.step st14 ?_
  show Ends p e below QQ (T14.setTop (mkF m 17 #[.val (.int (2 : Int32)), .val .null] [(.ref a_BY_CODE)]))
  refine Ends.step (fun _ k => XS.iloadN X14.here hx rfl (hb hby d1_17) rfl k) ?_
  show Ends p e below QQ (T14.setTop (mkF m 18 #[.val (.int (2 : Int32)), .val .null] [(.int (2 : Int32)), (.ref a_BY_CODE)]))
  obtain ⟨cl15, Ar15, q15, S15, P15, H15, G15⟩ := id A_a_BY_CODE
  have hin15 : ¬ ((2 : Int32) < 0 ∨ cl15.slots.size ≤ ((2 : Int32)).toNatClampNeg) := inb_of S15 ⟨by decide, by decide⟩
  have hat15 : cl15.slots[((2 : Int32)).toNatClampNeg]? = some (.ref a_READY) := H15.at hin15 (rfl)
  refine Ends.step (fun _ k => X14.aaload hx (j := (2 : Int32)) (v := (.ref a_READY)) (by rw [e14]; exact Ar15.1) (State.isArrayOf_alike hZ.alike Ar15.2.1) rfl Ar15.2.2 hin15 hat15 (g := (mkF m 18 #[.val (.int (2 : Int32)), .val .null] [(.int (2 : Int32)), (.ref a_BY_CODE)])) rfl rfl (hb hby d1_18) _ k) ?_
  show Ends p e below QQ (T14.setTop (mkF m 19 #[.val (.int (2 : Int32)), .val .null] [(.ref a_READY)]))
  refine Ends.step (fun _ k => XS.astoreN X14.here hx rfl (hb hby d1_19) rfl rfl (l' := #[.val (.int (2 : Int32)), .val (.ref a_READY)]) rfl k) ?_
  show Ends p e below QQ (T14.setTop (mkF m 20 #[.val (.int (2 : Int32)), .val (.ref a_READY)] []))
  refine Ends.step (fun _ k => XS.aloadN X14.here hx rfl (hb hby d1_20) rfl rfl k) ?_
  show Ends p e below QQ (T14.setTop (mkF m 21 #[.val (.int (2 : Int32)), .val (.ref a_READY)] [(.ref a_READY)]))
  exact Ends.fin (some (.ref a_READY)) X14 hQQ (fun h => by rw [Bd.returns] at h; cases h) Bd.notSynchronized (fun _ hr => retOut X14 hx (t := (.object "com/example/nuntius/nuntius/protocol/Opcode")) Bd.returns rfl (Or.inr (Or.inr (Or.inr (Or.inr ⟨rfl, rfl, rfl⟩)))) (hb hby d1_21) hr) e14 (by decide) (by decide) ⟨rfl, N0, rfl⟩
theorem d2_17 : decode method_2_code 17 = .ok (.iload_n 0, 1) := by decide +kernel
theorem d2_18 : decode method_2_code 18 = .ok (.iconst 2, 1) := by decide +kernel
theorem d2_19 : decode method_2_code 19 = .ok (.if_icmp .ne 7, 3) := by decide +kernel
theorem d2_22 : decode method_2_code 22 = .ok (.getstatic 16, 3) := by decide +kernel
theorem d2_25 : decode method_2_code 25 = .ok (.areturn, 1) := by decide +kernel
theorem ef_2_2 (m : MethodId)  : entryFrame m #[(.int (2 : Int32))] 1 = mkF m 0 #[.val (.int (2 : Int32))] [] := by first | (simp [entryFrame, mkF, argsToLocals, Value.category]; done) | rfl
def Q2_2 (Z : State) (a_READY : Addr) (h0 : Heap) (n0 : Nat) (v : Option Value) (h : Heap) (L : List Loc) : Prop := (v = some (.ref a_READY)) ∧ (Fr n0 L) ∧ (h = h0)
set_option maxRecDepth 65536 in
set_option maxHeartbeats 40000000 in
theorem rm2_2 (l : Launch) (Z : State) (a0 : Array Value) (hw : ∀ d ∈ tables_1, d.before a0 Z = true) (ws : List Jvm.Cond) (a_READY : Addr) (h0 : Heap) (n0 : Nat) (Z0 : n0 ≤ h0.size) (S_READY : Sta Z h0 "com/example/nuntius/nuntius/protocol/Opcode" "READY" "Lcom/example/nuntius/nuntius/protocol/Opcode;" (.ref a_READY)) :
    MetFree l (⟨"com/example/nuntius/nuntius/protocol/OpcodeOfCodePinLaw", "expected", "(I)Lcom/example/nuntius/nuntius/protocol/Opcode;"⟩ : MethodName) (head1 (Jvm.Cond.code (⟨"com/example/nuntius/nuntius/protocol/OpcodeOfCodePinLaw", "expected", "(I)Lcom/example/nuntius/nuntius/protocol/Opcode;"⟩ : MethodName) method_2_code 1 (some (.object "com/example/nuntius/nuntius/protocol/Opcode")) :: ws) ({ frames := 0, cells := 0, slots := 0, locals := 0 } : Room)) (fun a U => a = #[(.int (2 : Int32))] ∧ Z.Warmed39 U.vm ∧ U.heap = h0) (fun _ _ _ _ _ => True) (fun _ U o U' => ∃ v L, o = .returned v ∧ Q2_2 Z a_READY h0 n0 v U'.heap L ∧ FrameEnd U o U' L ({ frames := 0, cells := 0, slots := 0, locals := 0 } : Room).cells ({ frames := 0, cells := 0, slots := 0, locals := 0 } : Room).slots) := by
  refine MetFree.of_bodySF (plainFor_of_name pn_1) hisR ?_
  intro p e s m args below meth c s₁ Bd hml0 hP hK
  obtain ⟨rfl, hZ, hh⟩ := hP
  have hx := Bd.exec
  have hby := Bd.bytes
  have hml : c.maxLocals = 1 := hml0
  have hown : s.vm.findClass "com/example/nuntius/nuntius/protocol/OpcodeOfCodePinLaw" = some m.cls := findClass_of_methodNamed Bd.named
  have hnm := (name_of_methodNamed Bd.named Bd.method).1
  have X0 : Stand p l e ({ frames := 0, cells := 0, slots := 0, locals := 0 } : Room) s m #[(.int (2 : Int32))] below meth c s₁ [] 0 0 := Stand.of_body Bd
  have e0 : s₁.heap = h0 := by rw [← hh, Bd.state]; rfl
  have N0 := Fr.nil n0
  refine Ends.opn ?_
  intro QQ hQQ
  refine Ends.step (S' := s₁.setTop (mkF m 0 #[.val (.int (2 : Int32))] [])) (fun t k => castTop (ef_2_2 m ) k) ?_
  show Ends p e below QQ (s₁.setTop (mkF m 0 #[.val (.int (2 : Int32))] []))
  refine Ends.step (fun _ k => XS.iloadN X0.here hx rfl (hb hby d2_0) rfl k) ?_
  show Ends p e below QQ (s₁.setTop (mkF m 1 #[.val (.int (2 : Int32))] [(.int (2 : Int32))]))
  refine Ends.step (fun _ k => XS.ifYes X0.here hx rfl (pc0 := 1) (pc' := 8) rfl (hb hby d2_1) rfl (XT.i0_ne_t (by decide)) (by decide) (by decide) k) ?_
  show Ends p e below QQ (s₁.setTop (mkF m 8 #[.val (.int (2 : Int32))] []))
  refine Ends.step (fun _ k => XS.iloadN X0.here hx rfl (hb hby d2_8) rfl k) ?_
  show Ends p e below QQ (s₁.setTop (mkF m 9 #[.val (.int (2 : Int32))] [(.int (2 : Int32))]))
  refine Ends.step (fun _ k => XT.iconstV X0.here hx rfl (1 : Int32) (hb hby d2_9) rfl k) ?_
  show Ends p e below QQ (s₁.setTop (mkF m 10 #[.val (.int (2 : Int32))] [(.int (1 : Int32)), (.int (2 : Int32))]))
  refine Ends.step (fun _ k => XS.icmpYes X0.here hx rfl (pc0 := 10) (pc' := 17) rfl (hb hby d2_10) rfl (XT.ii_ne_t (by decide)) (by decide) (by decide) k) ?_
  show Ends p e below QQ (s₁.setTop (mkF m 17 #[.val (.int (2 : Int32))] []))
  refine Ends.step (fun _ k => XS.iloadN X0.here hx rfl (hb hby d2_17) rfl k) ?_
  show Ends p e below QQ (s₁.setTop (mkF m 18 #[.val (.int (2 : Int32))] [(.int (2 : Int32))]))
  refine Ends.step (fun _ k => XT.iconstV X0.here hx rfl (2 : Int32) (hb hby d2_18) rfl k) ?_
  show Ends p e below QQ (s₁.setTop (mkF m 19 #[.val (.int (2 : Int32))] [(.int (2 : Int32)), (.int (2 : Int32))]))
  refine Ends.step (fun _ k => XS.icmpNo X0.here hx rfl (hb hby d2_19) rfl (XT.ii_ne_f (by decide)) k) ?_
  show Ends p e below QQ (s₁.setTop (mkF m 22 #[.val (.int (2 : Int32))] []))
  obtain ⟨T16, X16, e16, st16⟩ := getS2 X0 hx hZ hown (host := "") (Or.inl (hw _ (List.mem_of_getElem? (i := 42) rfl))) Via.refl e0 S_READY (g := (mkF m 22 #[.val (.int (2 : Int32))] [])) rfl (hb hby d2_22)
  refine Ends.step st16 ?_
  show Ends p e below QQ (T16.setTop (mkF m 25 #[.val (.int (2 : Int32))] [(.ref a_READY)]))
  exact Ends.fin (some (.ref a_READY)) X16 hQQ (fun h => by rw [Bd.returns] at h; cases h) Bd.notSynchronized (fun _ hr => retOut X16 hx (t := (.object "com/example/nuntius/nuntius/protocol/Opcode")) Bd.returns rfl (Or.inr (Or.inr (Or.inr (Or.inr ⟨rfl, rfl, rfl⟩)))) (hb hby d2_25) hr) e16 (by decide) (by decide) ⟨rfl, N0, rfl⟩
theorem ef_1_3 (m : MethodId)  : entryFrame m #[(.int (3 : Int32))] 2 = mkF m 0 #[.val (.int (3 : Int32)), .unset] [] := by first | (simp [entryFrame, mkF, argsToLocals, Value.category]; done) | rfl
def Q1_3 (Z : State) (a_BY_CODE : Addr) (a_ERROR : Addr) (a_AUTH_CHALLENGE : Addr) (a_SUPPORTED : Addr) (a_RESULT : Addr) (a_EVENT : Addr) (a_AUTHENTICATE : Addr) (a_EXECUTE : Addr) (a_AUTH_SUCCESS : Addr) (a_OPTIONS : Addr) (a_STARTUP : Addr) (a_PREPARE : Addr) (a_REGISTER : Addr) (a_READY : Addr) (a_QUERY : Addr) (a_AUTH_RESPONSE : Addr) (a_BATCH : Addr) (k_a_BY_CODE : ClassId) (h0 : Heap) (n0 : Nat) (v : Option Value) (h : Heap) (L : List Loc) : Prop := (v = some (.ref a_AUTHENTICATE)) ∧ (Fr n0 L) ∧ (h = h0)
set_option maxRecDepth 65536 in
set_option maxHeartbeats 40000000 in
theorem rm1_3 (l : Launch) (Z : State) (a0 : Array Value) (hw : ∀ d ∈ tables_1, d.before a0 Z = true) (ws : List Jvm.Cond) (a_BY_CODE : Addr) (a_ERROR : Addr) (a_AUTH_CHALLENGE : Addr) (a_SUPPORTED : Addr) (a_RESULT : Addr) (a_EVENT : Addr) (a_AUTHENTICATE : Addr) (a_EXECUTE : Addr) (a_AUTH_SUCCESS : Addr) (a_OPTIONS : Addr) (a_STARTUP : Addr) (a_PREPARE : Addr) (a_REGISTER : Addr) (a_READY : Addr) (a_QUERY : Addr) (a_AUTH_RESPONSE : Addr) (a_BATCH : Addr) (k_a_BY_CODE : ClassId) (h0 : Heap) (n0 : Nat) (Z0 : n0 ≤ h0.size) (A_a_BY_CODE : Arv Z h0 a_BY_CODE k_a_BY_CODE (.object "com/example/nuntius/nuntius/protocol/Opcode") (17 : Int32) [(.ref a_ERROR), (.ref a_STARTUP), (.ref a_READY), (.ref a_AUTHENTICATE), .null, (.ref a_OPTIONS), (.ref a_SUPPORTED), (.ref a_QUERY), (.ref a_RESULT), (.ref a_PREPARE), (.ref a_EXECUTE), (.ref a_REGISTER), (.ref a_EVENT), (.ref a_BATCH), (.ref a_AUTH_CHALLENGE), (.ref a_AUTH_RESPONSE), (.ref a_AUTH_SUCCESS)] .null) (S_BY_CODE : Sta Z h0 "com/example/nuntius/nuntius/protocol/Opcode" "BY_CODE" "[Lcom/example/nuntius/nuntius/protocol/Opcode;" (.ref a_BY_CODE)) :
    MetFree l (⟨"com/example/nuntius/nuntius/protocol/Opcode", "ofCode", "(I)Lcom/example/nuntius/nuntius/protocol/Opcode;"⟩ : MethodName) (head1 (Jvm.Cond.code (⟨"com/example/nuntius/nuntius/protocol/Opcode", "ofCode", "(I)Lcom/example/nuntius/nuntius/protocol/Opcode;"⟩ : MethodName) prog_43_method_5_code 2 (some (.object "com/example/nuntius/nuntius/protocol/Opcode")) :: ws) ({ frames := 0, cells := 0, slots := 0, locals := 0 } : Room)) (fun a U => a = #[(.int (3 : Int32))] ∧ Z.Warmed39 U.vm ∧ U.heap = h0) (fun _ _ _ _ _ => True) (fun _ U o U' => ∃ v L, o = .returned v ∧ Q1_3 Z a_BY_CODE a_ERROR a_AUTH_CHALLENGE a_SUPPORTED a_RESULT a_EVENT a_AUTHENTICATE a_EXECUTE a_AUTH_SUCCESS a_OPTIONS a_STARTUP a_PREPARE a_REGISTER a_READY a_QUERY a_AUTH_RESPONSE a_BATCH k_a_BY_CODE h0 n0 v U'.heap L ∧ FrameEnd U o U' L ({ frames := 0, cells := 0, slots := 0, locals := 0 } : Room).cells ({ frames := 0, cells := 0, slots := 0, locals := 0 } : Room).slots) := by
  refine MetFree.of_bodySF (plainFor_of_name pn_0) hisR ?_
  intro p e s m args below meth c s₁ Bd hml0 hP hK
  obtain ⟨rfl, hZ, hh⟩ := hP
  have hx := Bd.exec
  have hby := Bd.bytes
  have hml : c.maxLocals = 2 := hml0
  have hown : s.vm.findClass "com/example/nuntius/nuntius/protocol/Opcode" = some m.cls := findClass_of_methodNamed Bd.named
  have hnm := (name_of_methodNamed Bd.named Bd.method).1
  have X0 : Stand p l e ({ frames := 0, cells := 0, slots := 0, locals := 0 } : Room) s m #[(.int (3 : Int32))] below meth c s₁ [] 0 0 := Stand.of_body Bd
  have e0 : s₁.heap = h0 := by rw [← hh, Bd.state]; rfl
  have N0 := Fr.nil n0
  refine Ends.opn ?_
  intro QQ hQQ
  refine Ends.step (S' := s₁.setTop (mkF m 0 #[.val (.int (3 : Int32)), .unset] [])) (fun t k => castTop (ef_1_3 m ) k) ?_
  show Ends p e below QQ (s₁.setTop (mkF m 0 #[.val (.int (3 : Int32)), .unset] []))
  refine Ends.step (fun _ k => XS.aconstNull X0.here hx rfl (hb hby d1_0) k) ?_
  show Ends p e below QQ (s₁.setTop (mkF m 1 #[.val (.int (3 : Int32)), .unset] [.null]))
  refine Ends.step (fun _ k => XS.astoreN X0.here hx rfl (hb hby d1_1) rfl rfl (l' := #[.val (.int (3 : Int32)), .val .null]) rfl k) ?_
  show Ends p e below QQ (s₁.setTop (mkF m 2 #[.val (.int (3 : Int32)), .val .null] []))
  refine Ends.step (fun _ k => XS.iloadN X0.here hx rfl (hb hby d1_2) rfl k) ?_
  show Ends p e below QQ (s₁.setTop (mkF m 3 #[.val (.int (3 : Int32)), .val .null] [(.int (3 : Int32))]))
  refine Ends.step (fun _ k => XS.ifNo X0.here hx rfl (hb hby d1_3) rfl (XT.i0_lt_f (by decide)) k) ?_
  show Ends p e below QQ (s₁.setTop (mkF m 6 #[.val (.int (3 : Int32)), .val .null] []))
  refine Ends.step (fun _ k => XS.iloadN X0.here hx rfl (hb hby d1_6) rfl k) ?_
  show Ends p e below QQ (s₁.setTop (mkF m 7 #[.val (.int (3 : Int32)), .val .null] [(.int (3 : Int32))]))
  obtain ⟨T17, X17, e17, st17⟩ := getS2 X0 hx hZ hown (host := "") (Or.inl (hw _ (List.mem_of_getElem? (i := 4) rfl))) Via.refl e0 S_BY_CODE (g := (mkF m 7 #[.val (.int (3 : Int32)), .val .null] [(.int (3 : Int32))])) rfl (hb hby d1_7)
  refine Ends.step st17 ?_
  show Ends p e below QQ (T17.setTop (mkF m 10 #[.val (.int (3 : Int32)), .val .null] [(.ref a_BY_CODE), (.int (3 : Int32))]))
  obtain ⟨cl18, Ar18, -, S18, P18, -, -⟩ := id A_a_BY_CODE
  refine Ends.step (S' := T17.setTop (mkF m 11 #[.val (.int (3 : Int32)), .val .null] [(.int (17 : Int32)), (.int (3 : Int32))])) (fun _ k => X17.arraylength hx (by rw [e17]; exact Ar18.1) (State.isArrayOf_alike hZ.alike Ar18.2.1) (g := (mkF m 10 #[.val (.int (3 : Int32)), .val .null] [(.ref a_BY_CODE), (.int (3 : Int32))])) rfl rfl (hb hby d1_10) _ (by rw [len_of S18 P18]; exact k)) ?_
  show Ends p e below QQ (T17.setTop (mkF m 11 #[.val (.int (3 : Int32)), .val .null] [(.int (17 : Int32)), (.int (3 : Int32))]))
  refine Ends.step (fun _ k => XS.icmpNo X17.here hx rfl (hb hby d1_11) rfl (XT.ii_ge_f (by decide)) k) ?_
  show Ends p e below QQ (T17.setTop (mkF m 14 #[.val (.int (3 : Int32)), .val .null] []))
  obtain ⟨T19, X19, e19, st19⟩ := getS2 X17 hx hZ hown (host := "") (Or.inl (hw _ (List.mem_of_getElem? (i := 4) rfl))) Via.refl e17 S_BY_CODE (g := (mkF m 14 #[.val (.int (3 : Int32)), .val .null] [])) rfl (hb hby d1_14)
  refine Ends.step st19 ?_
  show Ends p e below QQ (T19.setTop (mkF m 17 #[.val (.int (3 : Int32)), .val .null] [(.ref a_BY_CODE)]))
  refine Ends.step (fun _ k => XS.iloadN X19.here hx rfl (hb hby d1_17) rfl k) ?_
  show Ends p e below QQ (T19.setTop (mkF m 18 #[.val (.int (3 : Int32)), .val .null] [(.int (3 : Int32)), (.ref a_BY_CODE)]))
  obtain ⟨cl20, Ar20, q20, S20, P20, H20, G20⟩ := id A_a_BY_CODE
  have hin20 : ¬ ((3 : Int32) < 0 ∨ cl20.slots.size ≤ ((3 : Int32)).toNatClampNeg) := inb_of S20 ⟨by decide, by decide⟩
  have hat20 : cl20.slots[((3 : Int32)).toNatClampNeg]? = some (.ref a_AUTHENTICATE) := H20.at hin20 (rfl)
  refine Ends.step (fun _ k => X19.aaload hx (j := (3 : Int32)) (v := (.ref a_AUTHENTICATE)) (by rw [e19]; exact Ar20.1) (State.isArrayOf_alike hZ.alike Ar20.2.1) rfl Ar20.2.2 hin20 hat20 (g := (mkF m 18 #[.val (.int (3 : Int32)), .val .null] [(.int (3 : Int32)), (.ref a_BY_CODE)])) rfl rfl (hb hby d1_18) _ k) ?_
  show Ends p e below QQ (T19.setTop (mkF m 19 #[.val (.int (3 : Int32)), .val .null] [(.ref a_AUTHENTICATE)]))
  refine Ends.step (fun _ k => XS.astoreN X19.here hx rfl (hb hby d1_19) rfl rfl (l' := #[.val (.int (3 : Int32)), .val (.ref a_AUTHENTICATE)]) rfl k) ?_
  show Ends p e below QQ (T19.setTop (mkF m 20 #[.val (.int (3 : Int32)), .val (.ref a_AUTHENTICATE)] []))
  refine Ends.step (fun _ k => XS.aloadN X19.here hx rfl (hb hby d1_20) rfl rfl k) ?_
  show Ends p e below QQ (T19.setTop (mkF m 21 #[.val (.int (3 : Int32)), .val (.ref a_AUTHENTICATE)] [(.ref a_AUTHENTICATE)]))
  exact Ends.fin (some (.ref a_AUTHENTICATE)) X19 hQQ (fun h => by rw [Bd.returns] at h; cases h) Bd.notSynchronized (fun _ hr => retOut X19 hx (t := (.object "com/example/nuntius/nuntius/protocol/Opcode")) Bd.returns rfl (Or.inr (Or.inr (Or.inr (Or.inr ⟨rfl, rfl, rfl⟩)))) (hb hby d1_21) hr) e19 (by decide) (by decide) ⟨rfl, N0, rfl⟩
theorem d2_26 : decode method_2_code 26 = .ok (.iload_n 0, 1) := by decide +kernel
theorem d2_27 : decode method_2_code 27 = .ok (.iconst 3, 1) := by decide +kernel
theorem d2_28 : decode method_2_code 28 = .ok (.if_icmp .ne 7, 3) := by decide +kernel
theorem d2_31 : decode method_2_code 31 = .ok (.getstatic 19, 3) := by decide +kernel
theorem d2_34 : decode method_2_code 34 = .ok (.areturn, 1) := by decide +kernel
theorem ef_2_3 (m : MethodId)  : entryFrame m #[(.int (3 : Int32))] 1 = mkF m 0 #[.val (.int (3 : Int32))] [] := by first | (simp [entryFrame, mkF, argsToLocals, Value.category]; done) | rfl
def Q2_3 (Z : State) (a_AUTHENTICATE : Addr) (h0 : Heap) (n0 : Nat) (v : Option Value) (h : Heap) (L : List Loc) : Prop := (v = some (.ref a_AUTHENTICATE)) ∧ (Fr n0 L) ∧ (h = h0)
set_option maxRecDepth 65536 in
set_option maxHeartbeats 40000000 in
theorem rm2_3 (l : Launch) (Z : State) (a0 : Array Value) (hw : ∀ d ∈ tables_1, d.before a0 Z = true) (ws : List Jvm.Cond) (a_AUTHENTICATE : Addr) (h0 : Heap) (n0 : Nat) (Z0 : n0 ≤ h0.size) (S_AUTHENTICATE : Sta Z h0 "com/example/nuntius/nuntius/protocol/Opcode" "AUTHENTICATE" "Lcom/example/nuntius/nuntius/protocol/Opcode;" (.ref a_AUTHENTICATE)) :
    MetFree l (⟨"com/example/nuntius/nuntius/protocol/OpcodeOfCodePinLaw", "expected", "(I)Lcom/example/nuntius/nuntius/protocol/Opcode;"⟩ : MethodName) (head1 (Jvm.Cond.code (⟨"com/example/nuntius/nuntius/protocol/OpcodeOfCodePinLaw", "expected", "(I)Lcom/example/nuntius/nuntius/protocol/Opcode;"⟩ : MethodName) method_2_code 1 (some (.object "com/example/nuntius/nuntius/protocol/Opcode")) :: ws) ({ frames := 0, cells := 0, slots := 0, locals := 0 } : Room)) (fun a U => a = #[(.int (3 : Int32))] ∧ Z.Warmed39 U.vm ∧ U.heap = h0) (fun _ _ _ _ _ => True) (fun _ U o U' => ∃ v L, o = .returned v ∧ Q2_3 Z a_AUTHENTICATE h0 n0 v U'.heap L ∧ FrameEnd U o U' L ({ frames := 0, cells := 0, slots := 0, locals := 0 } : Room).cells ({ frames := 0, cells := 0, slots := 0, locals := 0 } : Room).slots) := by
  refine MetFree.of_bodySF (plainFor_of_name pn_1) hisR ?_
  intro p e s m args below meth c s₁ Bd hml0 hP hK
  obtain ⟨rfl, hZ, hh⟩ := hP
  have hx := Bd.exec
  have hby := Bd.bytes
  have hml : c.maxLocals = 1 := hml0
  have hown : s.vm.findClass "com/example/nuntius/nuntius/protocol/OpcodeOfCodePinLaw" = some m.cls := findClass_of_methodNamed Bd.named
  have hnm := (name_of_methodNamed Bd.named Bd.method).1
  have X0 : Stand p l e ({ frames := 0, cells := 0, slots := 0, locals := 0 } : Room) s m #[(.int (3 : Int32))] below meth c s₁ [] 0 0 := Stand.of_body Bd
  have e0 : s₁.heap = h0 := by rw [← hh, Bd.state]; rfl
  have N0 := Fr.nil n0
  refine Ends.opn ?_
  intro QQ hQQ
  refine Ends.step (S' := s₁.setTop (mkF m 0 #[.val (.int (3 : Int32))] [])) (fun t k => castTop (ef_2_3 m ) k) ?_
  show Ends p e below QQ (s₁.setTop (mkF m 0 #[.val (.int (3 : Int32))] []))
  refine Ends.step (fun _ k => XS.iloadN X0.here hx rfl (hb hby d2_0) rfl k) ?_
  show Ends p e below QQ (s₁.setTop (mkF m 1 #[.val (.int (3 : Int32))] [(.int (3 : Int32))]))
  refine Ends.step (fun _ k => XS.ifYes X0.here hx rfl (pc0 := 1) (pc' := 8) rfl (hb hby d2_1) rfl (XT.i0_ne_t (by decide)) (by decide) (by decide) k) ?_
  show Ends p e below QQ (s₁.setTop (mkF m 8 #[.val (.int (3 : Int32))] []))
  refine Ends.step (fun _ k => XS.iloadN X0.here hx rfl (hb hby d2_8) rfl k) ?_
  show Ends p e below QQ (s₁.setTop (mkF m 9 #[.val (.int (3 : Int32))] [(.int (3 : Int32))]))
  refine Ends.step (fun _ k => XT.iconstV X0.here hx rfl (1 : Int32) (hb hby d2_9) rfl k) ?_
  show Ends p e below QQ (s₁.setTop (mkF m 10 #[.val (.int (3 : Int32))] [(.int (1 : Int32)), (.int (3 : Int32))]))
  refine Ends.step (fun _ k => XS.icmpYes X0.here hx rfl (pc0 := 10) (pc' := 17) rfl (hb hby d2_10) rfl (XT.ii_ne_t (by decide)) (by decide) (by decide) k) ?_
  show Ends p e below QQ (s₁.setTop (mkF m 17 #[.val (.int (3 : Int32))] []))
  refine Ends.step (fun _ k => XS.iloadN X0.here hx rfl (hb hby d2_17) rfl k) ?_
  show Ends p e below QQ (s₁.setTop (mkF m 18 #[.val (.int (3 : Int32))] [(.int (3 : Int32))]))
  refine Ends.step (fun _ k => XT.iconstV X0.here hx rfl (2 : Int32) (hb hby d2_18) rfl k) ?_
  show Ends p e below QQ (s₁.setTop (mkF m 19 #[.val (.int (3 : Int32))] [(.int (2 : Int32)), (.int (3 : Int32))]))
  refine Ends.step (fun _ k => XS.icmpYes X0.here hx rfl (pc0 := 19) (pc' := 26) rfl (hb hby d2_19) rfl (XT.ii_ne_t (by decide)) (by decide) (by decide) k) ?_
  show Ends p e below QQ (s₁.setTop (mkF m 26 #[.val (.int (3 : Int32))] []))
  refine Ends.step (fun _ k => XS.iloadN X0.here hx rfl (hb hby d2_26) rfl k) ?_
  show Ends p e below QQ (s₁.setTop (mkF m 27 #[.val (.int (3 : Int32))] [(.int (3 : Int32))]))
  refine Ends.step (fun _ k => XT.iconstV X0.here hx rfl (3 : Int32) (hb hby d2_27) rfl k) ?_
  show Ends p e below QQ (s₁.setTop (mkF m 28 #[.val (.int (3 : Int32))] [(.int (3 : Int32)), (.int (3 : Int32))]))
  refine Ends.step (fun _ k => XS.icmpNo X0.here hx rfl (hb hby d2_28) rfl (XT.ii_ne_f (by decide)) k) ?_
  show Ends p e below QQ (s₁.setTop (mkF m 31 #[.val (.int (3 : Int32))] []))
  obtain ⟨T21, X21, e21, st21⟩ := getS2 X0 hx hZ hown (host := "") (Or.inl (hw _ (List.mem_of_getElem? (i := 28) rfl))) Via.refl e0 S_AUTHENTICATE (g := (mkF m 31 #[.val (.int (3 : Int32))] [])) rfl (hb hby d2_31)
  refine Ends.step st21 ?_
  show Ends p e below QQ (T21.setTop (mkF m 34 #[.val (.int (3 : Int32))] [(.ref a_AUTHENTICATE)]))
  exact Ends.fin (some (.ref a_AUTHENTICATE)) X21 hQQ (fun h => by rw [Bd.returns] at h; cases h) Bd.notSynchronized (fun _ hr => retOut X21 hx (t := (.object "com/example/nuntius/nuntius/protocol/Opcode")) Bd.returns rfl (Or.inr (Or.inr (Or.inr (Or.inr ⟨rfl, rfl, rfl⟩)))) (hb hby d2_34) hr) e21 (by decide) (by decide) ⟨rfl, N0, rfl⟩
theorem ef_1_4 (m : MethodId)  : entryFrame m #[(.int (4 : Int32))] 2 = mkF m 0 #[.val (.int (4 : Int32)), .unset] [] := by first | (simp [entryFrame, mkF, argsToLocals, Value.category]; done) | rfl
def Q1_4 (Z : State) (a_BY_CODE : Addr) (a_ERROR : Addr) (a_AUTH_CHALLENGE : Addr) (a_SUPPORTED : Addr) (a_RESULT : Addr) (a_EVENT : Addr) (a_AUTHENTICATE : Addr) (a_EXECUTE : Addr) (a_AUTH_SUCCESS : Addr) (a_OPTIONS : Addr) (a_STARTUP : Addr) (a_PREPARE : Addr) (a_REGISTER : Addr) (a_READY : Addr) (a_QUERY : Addr) (a_AUTH_RESPONSE : Addr) (a_BATCH : Addr) (k_a_BY_CODE : ClassId) (h0 : Heap) (n0 : Nat) (v : Option Value) (h : Heap) (L : List Loc) : Prop := (v = some .null) ∧ (Fr n0 L) ∧ (h = h0)
set_option maxRecDepth 65536 in
set_option maxHeartbeats 40000000 in
theorem rm1_4 (l : Launch) (Z : State) (a0 : Array Value) (hw : ∀ d ∈ tables_1, d.before a0 Z = true) (ws : List Jvm.Cond) (a_BY_CODE : Addr) (a_ERROR : Addr) (a_AUTH_CHALLENGE : Addr) (a_SUPPORTED : Addr) (a_RESULT : Addr) (a_EVENT : Addr) (a_AUTHENTICATE : Addr) (a_EXECUTE : Addr) (a_AUTH_SUCCESS : Addr) (a_OPTIONS : Addr) (a_STARTUP : Addr) (a_PREPARE : Addr) (a_REGISTER : Addr) (a_READY : Addr) (a_QUERY : Addr) (a_AUTH_RESPONSE : Addr) (a_BATCH : Addr) (k_a_BY_CODE : ClassId) (h0 : Heap) (n0 : Nat) (Z0 : n0 ≤ h0.size) (A_a_BY_CODE : Arv Z h0 a_BY_CODE k_a_BY_CODE (.object "com/example/nuntius/nuntius/protocol/Opcode") (17 : Int32) [(.ref a_ERROR), (.ref a_STARTUP), (.ref a_READY), (.ref a_AUTHENTICATE), .null, (.ref a_OPTIONS), (.ref a_SUPPORTED), (.ref a_QUERY), (.ref a_RESULT), (.ref a_PREPARE), (.ref a_EXECUTE), (.ref a_REGISTER), (.ref a_EVENT), (.ref a_BATCH), (.ref a_AUTH_CHALLENGE), (.ref a_AUTH_RESPONSE), (.ref a_AUTH_SUCCESS)] .null) (S_BY_CODE : Sta Z h0 "com/example/nuntius/nuntius/protocol/Opcode" "BY_CODE" "[Lcom/example/nuntius/nuntius/protocol/Opcode;" (.ref a_BY_CODE)) :
    MetFree l (⟨"com/example/nuntius/nuntius/protocol/Opcode", "ofCode", "(I)Lcom/example/nuntius/nuntius/protocol/Opcode;"⟩ : MethodName) (head1 (Jvm.Cond.code (⟨"com/example/nuntius/nuntius/protocol/Opcode", "ofCode", "(I)Lcom/example/nuntius/nuntius/protocol/Opcode;"⟩ : MethodName) prog_43_method_5_code 2 (some (.object "com/example/nuntius/nuntius/protocol/Opcode")) :: ws) ({ frames := 0, cells := 0, slots := 0, locals := 0 } : Room)) (fun a U => a = #[(.int (4 : Int32))] ∧ Z.Warmed39 U.vm ∧ U.heap = h0) (fun _ _ _ _ _ => True) (fun _ U o U' => ∃ v L, o = .returned v ∧ Q1_4 Z a_BY_CODE a_ERROR a_AUTH_CHALLENGE a_SUPPORTED a_RESULT a_EVENT a_AUTHENTICATE a_EXECUTE a_AUTH_SUCCESS a_OPTIONS a_STARTUP a_PREPARE a_REGISTER a_READY a_QUERY a_AUTH_RESPONSE a_BATCH k_a_BY_CODE h0 n0 v U'.heap L ∧ FrameEnd U o U' L ({ frames := 0, cells := 0, slots := 0, locals := 0 } : Room).cells ({ frames := 0, cells := 0, slots := 0, locals := 0 } : Room).slots) := by
  refine MetFree.of_bodySF (plainFor_of_name pn_0) hisR ?_
  intro p e s m args below meth c s₁ Bd hml0 hP hK
  obtain ⟨rfl, hZ, hh⟩ := hP
  have hx := Bd.exec
  have hby := Bd.bytes
  have hml : c.maxLocals = 2 := hml0
  have hown : s.vm.findClass "com/example/nuntius/nuntius/protocol/Opcode" = some m.cls := findClass_of_methodNamed Bd.named
  have hnm := (name_of_methodNamed Bd.named Bd.method).1
  have X0 : Stand p l e ({ frames := 0, cells := 0, slots := 0, locals := 0 } : Room) s m #[(.int (4 : Int32))] below meth c s₁ [] 0 0 := Stand.of_body Bd
  have e0 : s₁.heap = h0 := by rw [← hh, Bd.state]; rfl
  have N0 := Fr.nil n0
  refine Ends.opn ?_
  intro QQ hQQ
  refine Ends.step (S' := s₁.setTop (mkF m 0 #[.val (.int (4 : Int32)), .unset] [])) (fun t k => castTop (ef_1_4 m ) k) ?_
  show Ends p e below QQ (s₁.setTop (mkF m 0 #[.val (.int (4 : Int32)), .unset] []))
  refine Ends.step (fun _ k => XS.aconstNull X0.here hx rfl (hb hby d1_0) k) ?_
  show Ends p e below QQ (s₁.setTop (mkF m 1 #[.val (.int (4 : Int32)), .unset] [.null]))
  refine Ends.step (fun _ k => XS.astoreN X0.here hx rfl (hb hby d1_1) rfl rfl (l' := #[.val (.int (4 : Int32)), .val .null]) rfl k) ?_
  show Ends p e below QQ (s₁.setTop (mkF m 2 #[.val (.int (4 : Int32)), .val .null] []))
  refine Ends.step (fun _ k => XS.iloadN X0.here hx rfl (hb hby d1_2) rfl k) ?_
  show Ends p e below QQ (s₁.setTop (mkF m 3 #[.val (.int (4 : Int32)), .val .null] [(.int (4 : Int32))]))
  refine Ends.step (fun _ k => XS.ifNo X0.here hx rfl (hb hby d1_3) rfl (XT.i0_lt_f (by decide)) k) ?_
  show Ends p e below QQ (s₁.setTop (mkF m 6 #[.val (.int (4 : Int32)), .val .null] []))
  refine Ends.step (fun _ k => XS.iloadN X0.here hx rfl (hb hby d1_6) rfl k) ?_
  show Ends p e below QQ (s₁.setTop (mkF m 7 #[.val (.int (4 : Int32)), .val .null] [(.int (4 : Int32))]))
  obtain ⟨T22, X22, e22, st22⟩ := getS2 X0 hx hZ hown (host := "") (Or.inl (hw _ (List.mem_of_getElem? (i := 4) rfl))) Via.refl e0 S_BY_CODE (g := (mkF m 7 #[.val (.int (4 : Int32)), .val .null] [(.int (4 : Int32))])) rfl (hb hby d1_7)
  refine Ends.step st22 ?_
  show Ends p e below QQ (T22.setTop (mkF m 10 #[.val (.int (4 : Int32)), .val .null] [(.ref a_BY_CODE), (.int (4 : Int32))]))
  obtain ⟨cl23, Ar23, -, S23, P23, -, -⟩ := id A_a_BY_CODE
  refine Ends.step (S' := T22.setTop (mkF m 11 #[.val (.int (4 : Int32)), .val .null] [(.int (17 : Int32)), (.int (4 : Int32))])) (fun _ k => X22.arraylength hx (by rw [e22]; exact Ar23.1) (State.isArrayOf_alike hZ.alike Ar23.2.1) (g := (mkF m 10 #[.val (.int (4 : Int32)), .val .null] [(.ref a_BY_CODE), (.int (4 : Int32))])) rfl rfl (hb hby d1_10) _ (by rw [len_of S23 P23]; exact k)) ?_
  show Ends p e below QQ (T22.setTop (mkF m 11 #[.val (.int (4 : Int32)), .val .null] [(.int (17 : Int32)), (.int (4 : Int32))]))
  refine Ends.step (fun _ k => XS.icmpNo X22.here hx rfl (hb hby d1_11) rfl (XT.ii_ge_f (by decide)) k) ?_
  show Ends p e below QQ (T22.setTop (mkF m 14 #[.val (.int (4 : Int32)), .val .null] []))
  obtain ⟨T24, X24, e24, st24⟩ := getS2 X22 hx hZ hown (host := "") (Or.inl (hw _ (List.mem_of_getElem? (i := 4) rfl))) Via.refl e22 S_BY_CODE (g := (mkF m 14 #[.val (.int (4 : Int32)), .val .null] [])) rfl (hb hby d1_14)
  refine Ends.step st24 ?_
  show Ends p e below QQ (T24.setTop (mkF m 17 #[.val (.int (4 : Int32)), .val .null] [(.ref a_BY_CODE)]))
  refine Ends.step (fun _ k => XS.iloadN X24.here hx rfl (hb hby d1_17) rfl k) ?_
  show Ends p e below QQ (T24.setTop (mkF m 18 #[.val (.int (4 : Int32)), .val .null] [(.int (4 : Int32)), (.ref a_BY_CODE)]))
  obtain ⟨cl25, Ar25, q25, S25, P25, H25, G25⟩ := id A_a_BY_CODE
  have hin25 : ¬ ((4 : Int32) < 0 ∨ cl25.slots.size ≤ ((4 : Int32)).toNatClampNeg) := inb_of S25 ⟨by decide, by decide⟩
  have hat25 : cl25.slots[((4 : Int32)).toNatClampNeg]? = some .null := H25.at hin25 (rfl)
  refine Ends.step (fun _ k => X24.aaload hx (j := (4 : Int32)) (v := .null) (by rw [e24]; exact Ar25.1) (State.isArrayOf_alike hZ.alike Ar25.2.1) rfl Ar25.2.2 hin25 hat25 (g := (mkF m 18 #[.val (.int (4 : Int32)), .val .null] [(.int (4 : Int32)), (.ref a_BY_CODE)])) rfl rfl (hb hby d1_18) _ k) ?_
  show Ends p e below QQ (T24.setTop (mkF m 19 #[.val (.int (4 : Int32)), .val .null] [.null]))
  refine Ends.step (fun _ k => XS.astoreN X24.here hx rfl (hb hby d1_19) rfl rfl (l' := #[.val (.int (4 : Int32)), .val .null]) rfl k) ?_
  show Ends p e below QQ (T24.setTop (mkF m 20 #[.val (.int (4 : Int32)), .val .null] []))
  refine Ends.step (fun _ k => XS.aloadN X24.here hx rfl (hb hby d1_20) rfl rfl k) ?_
  show Ends p e below QQ (T24.setTop (mkF m 21 #[.val (.int (4 : Int32)), .val .null] [.null]))
  exact Ends.fin (some .null) X24 hQQ (fun h => by rw [Bd.returns] at h; cases h) Bd.notSynchronized (fun _ hr => retOut X24 hx (t := (.object "com/example/nuntius/nuntius/protocol/Opcode")) Bd.returns rfl (Or.inr (Or.inr (Or.inr (Or.inr ⟨rfl, rfl, rfl⟩)))) (hb hby d1_21) hr) e24 (by decide) (by decide) ⟨rfl, N0, rfl⟩
theorem d2_35 : decode method_2_code 35 = .ok (.iload_n 0, 1) := by decide +kernel
theorem d2_36 : decode method_2_code 36 = .ok (.iconst 5, 1) := by decide +kernel
theorem d2_37 : decode method_2_code 37 = .ok (.if_icmp .ne 7, 3) := by decide +kernel
theorem d2_44 : decode method_2_code 44 = .ok (.iload_n 0, 1) := by decide +kernel
theorem d2_45 : decode method_2_code 45 = .ok (.bipush 6, 2) := by decide +kernel
theorem d2_47 : decode method_2_code 47 = .ok (.if_icmp .ne 7, 3) := by decide +kernel
theorem d2_54 : decode method_2_code 54 = .ok (.iload_n 0, 1) := by decide +kernel
theorem d2_55 : decode method_2_code 55 = .ok (.bipush 7, 2) := by decide +kernel
theorem d2_57 : decode method_2_code 57 = .ok (.if_icmp .ne 7, 3) := by decide +kernel
theorem d2_64 : decode method_2_code 64 = .ok (.iload_n 0, 1) := by decide +kernel
theorem d2_65 : decode method_2_code 65 = .ok (.bipush 8, 2) := by decide +kernel
theorem d2_67 : decode method_2_code 67 = .ok (.if_icmp .ne 7, 3) := by decide +kernel
theorem d2_74 : decode method_2_code 74 = .ok (.iload_n 0, 1) := by decide +kernel
theorem d2_75 : decode method_2_code 75 = .ok (.bipush 9, 2) := by decide +kernel
theorem d2_77 : decode method_2_code 77 = .ok (.if_icmp .ne 7, 3) := by decide +kernel
theorem d2_84 : decode method_2_code 84 = .ok (.iload_n 0, 1) := by decide +kernel
theorem d2_85 : decode method_2_code 85 = .ok (.bipush 10, 2) := by decide +kernel
theorem d2_87 : decode method_2_code 87 = .ok (.if_icmp .ne 7, 3) := by decide +kernel
theorem d2_94 : decode method_2_code 94 = .ok (.iload_n 0, 1) := by decide +kernel
theorem d2_95 : decode method_2_code 95 = .ok (.bipush 11, 2) := by decide +kernel
theorem d2_97 : decode method_2_code 97 = .ok (.if_icmp .ne 7, 3) := by decide +kernel
theorem d2_104 : decode method_2_code 104 = .ok (.iload_n 0, 1) := by decide +kernel
theorem d2_105 : decode method_2_code 105 = .ok (.bipush 12, 2) := by decide +kernel
theorem d2_107 : decode method_2_code 107 = .ok (.if_icmp .ne 7, 3) := by decide +kernel
theorem d2_114 : decode method_2_code 114 = .ok (.iload_n 0, 1) := by decide +kernel
theorem d2_115 : decode method_2_code 115 = .ok (.bipush 13, 2) := by decide +kernel
theorem d2_117 : decode method_2_code 117 = .ok (.if_icmp .ne 7, 3) := by decide +kernel
theorem d2_124 : decode method_2_code 124 = .ok (.iload_n 0, 1) := by decide +kernel
theorem d2_125 : decode method_2_code 125 = .ok (.bipush 14, 2) := by decide +kernel
theorem d2_127 : decode method_2_code 127 = .ok (.if_icmp .ne 7, 3) := by decide +kernel
theorem d2_134 : decode method_2_code 134 = .ok (.iload_n 0, 1) := by decide +kernel
theorem d2_135 : decode method_2_code 135 = .ok (.bipush 15, 2) := by decide +kernel
theorem d2_137 : decode method_2_code 137 = .ok (.if_icmp .ne 7, 3) := by decide +kernel
theorem d2_144 : decode method_2_code 144 = .ok (.iload_n 0, 1) := by decide +kernel
theorem d2_145 : decode method_2_code 145 = .ok (.bipush 16, 2) := by decide +kernel
theorem d2_147 : decode method_2_code 147 = .ok (.if_icmp .ne 7, 3) := by decide +kernel
theorem d2_154 : decode method_2_code 154 = .ok (.aconst_null, 1) := by decide +kernel
theorem d2_155 : decode method_2_code 155 = .ok (.areturn, 1) := by decide +kernel
theorem ef_2_4 (m : MethodId)  : entryFrame m #[(.int (4 : Int32))] 1 = mkF m 0 #[.val (.int (4 : Int32))] [] := by first | (simp [entryFrame, mkF, argsToLocals, Value.category]; done) | rfl
def Q2_4 (Z : State)  (h0 : Heap) (n0 : Nat) (v : Option Value) (h : Heap) (L : List Loc) : Prop := (v = some .null) ∧ (Fr n0 L) ∧ (h = h0)
set_option maxRecDepth 65536 in
set_option maxHeartbeats 40000000 in
theorem rm2_4 (l : Launch) (Z : State) (a0 : Array Value) (hw : ∀ d ∈ tables_1, d.before a0 Z = true) (ws : List Jvm.Cond)  (h0 : Heap) (n0 : Nat) (Z0 : n0 ≤ h0.size) :
    MetFree l (⟨"com/example/nuntius/nuntius/protocol/OpcodeOfCodePinLaw", "expected", "(I)Lcom/example/nuntius/nuntius/protocol/Opcode;"⟩ : MethodName) (head1 (Jvm.Cond.code (⟨"com/example/nuntius/nuntius/protocol/OpcodeOfCodePinLaw", "expected", "(I)Lcom/example/nuntius/nuntius/protocol/Opcode;"⟩ : MethodName) method_2_code 1 (some (.object "com/example/nuntius/nuntius/protocol/Opcode")) :: ws) ({ frames := 0, cells := 0, slots := 0, locals := 0 } : Room)) (fun a U => a = #[(.int (4 : Int32))] ∧ Z.Warmed39 U.vm ∧ U.heap = h0) (fun _ _ _ _ _ => True) (fun _ U o U' => ∃ v L, o = .returned v ∧ Q2_4 Z  h0 n0 v U'.heap L ∧ FrameEnd U o U' L ({ frames := 0, cells := 0, slots := 0, locals := 0 } : Room).cells ({ frames := 0, cells := 0, slots := 0, locals := 0 } : Room).slots) := by
  refine MetFree.of_bodySF (plainFor_of_name pn_1) hisR ?_
  intro p e s m args below meth c s₁ Bd hml0 hP hK
  obtain ⟨rfl, hZ, hh⟩ := hP
  have hx := Bd.exec
  have hby := Bd.bytes
  have hml : c.maxLocals = 1 := hml0
  have hown : s.vm.findClass "com/example/nuntius/nuntius/protocol/OpcodeOfCodePinLaw" = some m.cls := findClass_of_methodNamed Bd.named
  have hnm := (name_of_methodNamed Bd.named Bd.method).1
  have X0 : Stand p l e ({ frames := 0, cells := 0, slots := 0, locals := 0 } : Room) s m #[(.int (4 : Int32))] below meth c s₁ [] 0 0 := Stand.of_body Bd
  have e0 : s₁.heap = h0 := by rw [← hh, Bd.state]; rfl
  have N0 := Fr.nil n0
  refine Ends.opn ?_
  intro QQ hQQ
  refine Ends.step (S' := s₁.setTop (mkF m 0 #[.val (.int (4 : Int32))] [])) (fun t k => castTop (ef_2_4 m ) k) ?_
  show Ends p e below QQ (s₁.setTop (mkF m 0 #[.val (.int (4 : Int32))] []))
  refine Ends.step (fun _ k => XS.iloadN X0.here hx rfl (hb hby d2_0) rfl k) ?_
  show Ends p e below QQ (s₁.setTop (mkF m 1 #[.val (.int (4 : Int32))] [(.int (4 : Int32))]))
  refine Ends.step (fun _ k => XS.ifYes X0.here hx rfl (pc0 := 1) (pc' := 8) rfl (hb hby d2_1) rfl (XT.i0_ne_t (by decide)) (by decide) (by decide) k) ?_
  show Ends p e below QQ (s₁.setTop (mkF m 8 #[.val (.int (4 : Int32))] []))
  refine Ends.step (fun _ k => XS.iloadN X0.here hx rfl (hb hby d2_8) rfl k) ?_
  show Ends p e below QQ (s₁.setTop (mkF m 9 #[.val (.int (4 : Int32))] [(.int (4 : Int32))]))
  refine Ends.step (fun _ k => XT.iconstV X0.here hx rfl (1 : Int32) (hb hby d2_9) rfl k) ?_
  show Ends p e below QQ (s₁.setTop (mkF m 10 #[.val (.int (4 : Int32))] [(.int (1 : Int32)), (.int (4 : Int32))]))
  refine Ends.step (fun _ k => XS.icmpYes X0.here hx rfl (pc0 := 10) (pc' := 17) rfl (hb hby d2_10) rfl (XT.ii_ne_t (by decide)) (by decide) (by decide) k) ?_
  show Ends p e below QQ (s₁.setTop (mkF m 17 #[.val (.int (4 : Int32))] []))
  refine Ends.step (fun _ k => XS.iloadN X0.here hx rfl (hb hby d2_17) rfl k) ?_
  show Ends p e below QQ (s₁.setTop (mkF m 18 #[.val (.int (4 : Int32))] [(.int (4 : Int32))]))
  refine Ends.step (fun _ k => XT.iconstV X0.here hx rfl (2 : Int32) (hb hby d2_18) rfl k) ?_
  show Ends p e below QQ (s₁.setTop (mkF m 19 #[.val (.int (4 : Int32))] [(.int (2 : Int32)), (.int (4 : Int32))]))
  refine Ends.step (fun _ k => XS.icmpYes X0.here hx rfl (pc0 := 19) (pc' := 26) rfl (hb hby d2_19) rfl (XT.ii_ne_t (by decide)) (by decide) (by decide) k) ?_
  show Ends p e below QQ (s₁.setTop (mkF m 26 #[.val (.int (4 : Int32))] []))
  refine Ends.step (fun _ k => XS.iloadN X0.here hx rfl (hb hby d2_26) rfl k) ?_
  show Ends p e below QQ (s₁.setTop (mkF m 27 #[.val (.int (4 : Int32))] [(.int (4 : Int32))]))
  refine Ends.step (fun _ k => XT.iconstV X0.here hx rfl (3 : Int32) (hb hby d2_27) rfl k) ?_
  show Ends p e below QQ (s₁.setTop (mkF m 28 #[.val (.int (4 : Int32))] [(.int (3 : Int32)), (.int (4 : Int32))]))
  refine Ends.step (fun _ k => XS.icmpYes X0.here hx rfl (pc0 := 28) (pc' := 35) rfl (hb hby d2_28) rfl (XT.ii_ne_t (by decide)) (by decide) (by decide) k) ?_
  show Ends p e below QQ (s₁.setTop (mkF m 35 #[.val (.int (4 : Int32))] []))
  refine Ends.step (fun _ k => XS.iloadN X0.here hx rfl (hb hby d2_35) rfl k) ?_
  show Ends p e below QQ (s₁.setTop (mkF m 36 #[.val (.int (4 : Int32))] [(.int (4 : Int32))]))
  refine Ends.step (fun _ k => XT.iconstV X0.here hx rfl (5 : Int32) (hb hby d2_36) rfl k) ?_
  show Ends p e below QQ (s₁.setTop (mkF m 37 #[.val (.int (4 : Int32))] [(.int (5 : Int32)), (.int (4 : Int32))]))
  refine Ends.step (fun _ k => XS.icmpYes X0.here hx rfl (pc0 := 37) (pc' := 44) rfl (hb hby d2_37) rfl (XT.ii_ne_t (by decide)) (by decide) (by decide) k) ?_
  show Ends p e below QQ (s₁.setTop (mkF m 44 #[.val (.int (4 : Int32))] []))
  refine Ends.step (fun _ k => XS.iloadN X0.here hx rfl (hb hby d2_44) rfl k) ?_
  show Ends p e below QQ (s₁.setTop (mkF m 45 #[.val (.int (4 : Int32))] [(.int (4 : Int32))]))
  refine Ends.step (fun _ k => XT.bipushV X0.here hx rfl (6 : Int32) (hb hby d2_45) rfl k) ?_
  show Ends p e below QQ (s₁.setTop (mkF m 47 #[.val (.int (4 : Int32))] [(.int (6 : Int32)), (.int (4 : Int32))]))
  refine Ends.step (fun _ k => XS.icmpYes X0.here hx rfl (pc0 := 47) (pc' := 54) rfl (hb hby d2_47) rfl (XT.ii_ne_t (by decide)) (by decide) (by decide) k) ?_
  show Ends p e below QQ (s₁.setTop (mkF m 54 #[.val (.int (4 : Int32))] []))
  refine Ends.step (fun _ k => XS.iloadN X0.here hx rfl (hb hby d2_54) rfl k) ?_
  show Ends p e below QQ (s₁.setTop (mkF m 55 #[.val (.int (4 : Int32))] [(.int (4 : Int32))]))
  refine Ends.step (fun _ k => XT.bipushV X0.here hx rfl (7 : Int32) (hb hby d2_55) rfl k) ?_
  show Ends p e below QQ (s₁.setTop (mkF m 57 #[.val (.int (4 : Int32))] [(.int (7 : Int32)), (.int (4 : Int32))]))
  refine Ends.step (fun _ k => XS.icmpYes X0.here hx rfl (pc0 := 57) (pc' := 64) rfl (hb hby d2_57) rfl (XT.ii_ne_t (by decide)) (by decide) (by decide) k) ?_
  show Ends p e below QQ (s₁.setTop (mkF m 64 #[.val (.int (4 : Int32))] []))
  refine Ends.step (fun _ k => XS.iloadN X0.here hx rfl (hb hby d2_64) rfl k) ?_
  show Ends p e below QQ (s₁.setTop (mkF m 65 #[.val (.int (4 : Int32))] [(.int (4 : Int32))]))
  refine Ends.step (fun _ k => XT.bipushV X0.here hx rfl (8 : Int32) (hb hby d2_65) rfl k) ?_
  show Ends p e below QQ (s₁.setTop (mkF m 67 #[.val (.int (4 : Int32))] [(.int (8 : Int32)), (.int (4 : Int32))]))
  refine Ends.step (fun _ k => XS.icmpYes X0.here hx rfl (pc0 := 67) (pc' := 74) rfl (hb hby d2_67) rfl (XT.ii_ne_t (by decide)) (by decide) (by decide) k) ?_
  show Ends p e below QQ (s₁.setTop (mkF m 74 #[.val (.int (4 : Int32))] []))
  refine Ends.step (fun _ k => XS.iloadN X0.here hx rfl (hb hby d2_74) rfl k) ?_
  show Ends p e below QQ (s₁.setTop (mkF m 75 #[.val (.int (4 : Int32))] [(.int (4 : Int32))]))
  refine Ends.step (fun _ k => XT.bipushV X0.here hx rfl (9 : Int32) (hb hby d2_75) rfl k) ?_
  show Ends p e below QQ (s₁.setTop (mkF m 77 #[.val (.int (4 : Int32))] [(.int (9 : Int32)), (.int (4 : Int32))]))
  refine Ends.step (fun _ k => XS.icmpYes X0.here hx rfl (pc0 := 77) (pc' := 84) rfl (hb hby d2_77) rfl (XT.ii_ne_t (by decide)) (by decide) (by decide) k) ?_
  show Ends p e below QQ (s₁.setTop (mkF m 84 #[.val (.int (4 : Int32))] []))
  refine Ends.step (fun _ k => XS.iloadN X0.here hx rfl (hb hby d2_84) rfl k) ?_
  show Ends p e below QQ (s₁.setTop (mkF m 85 #[.val (.int (4 : Int32))] [(.int (4 : Int32))]))
  refine Ends.step (fun _ k => XT.bipushV X0.here hx rfl (10 : Int32) (hb hby d2_85) rfl k) ?_
  show Ends p e below QQ (s₁.setTop (mkF m 87 #[.val (.int (4 : Int32))] [(.int (10 : Int32)), (.int (4 : Int32))]))
  refine Ends.step (fun _ k => XS.icmpYes X0.here hx rfl (pc0 := 87) (pc' := 94) rfl (hb hby d2_87) rfl (XT.ii_ne_t (by decide)) (by decide) (by decide) k) ?_
  show Ends p e below QQ (s₁.setTop (mkF m 94 #[.val (.int (4 : Int32))] []))
  refine Ends.step (fun _ k => XS.iloadN X0.here hx rfl (hb hby d2_94) rfl k) ?_
  show Ends p e below QQ (s₁.setTop (mkF m 95 #[.val (.int (4 : Int32))] [(.int (4 : Int32))]))
  refine Ends.step (fun _ k => XT.bipushV X0.here hx rfl (11 : Int32) (hb hby d2_95) rfl k) ?_
  show Ends p e below QQ (s₁.setTop (mkF m 97 #[.val (.int (4 : Int32))] [(.int (11 : Int32)), (.int (4 : Int32))]))
  refine Ends.step (fun _ k => XS.icmpYes X0.here hx rfl (pc0 := 97) (pc' := 104) rfl (hb hby d2_97) rfl (XT.ii_ne_t (by decide)) (by decide) (by decide) k) ?_
  show Ends p e below QQ (s₁.setTop (mkF m 104 #[.val (.int (4 : Int32))] []))
  refine Ends.step (fun _ k => XS.iloadN X0.here hx rfl (hb hby d2_104) rfl k) ?_
  show Ends p e below QQ (s₁.setTop (mkF m 105 #[.val (.int (4 : Int32))] [(.int (4 : Int32))]))
  refine Ends.step (fun _ k => XT.bipushV X0.here hx rfl (12 : Int32) (hb hby d2_105) rfl k) ?_
  show Ends p e below QQ (s₁.setTop (mkF m 107 #[.val (.int (4 : Int32))] [(.int (12 : Int32)), (.int (4 : Int32))]))
  refine Ends.step (fun _ k => XS.icmpYes X0.here hx rfl (pc0 := 107) (pc' := 114) rfl (hb hby d2_107) rfl (XT.ii_ne_t (by decide)) (by decide) (by decide) k) ?_
  show Ends p e below QQ (s₁.setTop (mkF m 114 #[.val (.int (4 : Int32))] []))
  refine Ends.step (fun _ k => XS.iloadN X0.here hx rfl (hb hby d2_114) rfl k) ?_
  show Ends p e below QQ (s₁.setTop (mkF m 115 #[.val (.int (4 : Int32))] [(.int (4 : Int32))]))
  refine Ends.step (fun _ k => XT.bipushV X0.here hx rfl (13 : Int32) (hb hby d2_115) rfl k) ?_
  show Ends p e below QQ (s₁.setTop (mkF m 117 #[.val (.int (4 : Int32))] [(.int (13 : Int32)), (.int (4 : Int32))]))
  refine Ends.step (fun _ k => XS.icmpYes X0.here hx rfl (pc0 := 117) (pc' := 124) rfl (hb hby d2_117) rfl (XT.ii_ne_t (by decide)) (by decide) (by decide) k) ?_
  show Ends p e below QQ (s₁.setTop (mkF m 124 #[.val (.int (4 : Int32))] []))
  refine Ends.step (fun _ k => XS.iloadN X0.here hx rfl (hb hby d2_124) rfl k) ?_
  show Ends p e below QQ (s₁.setTop (mkF m 125 #[.val (.int (4 : Int32))] [(.int (4 : Int32))]))
  refine Ends.step (fun _ k => XT.bipushV X0.here hx rfl (14 : Int32) (hb hby d2_125) rfl k) ?_
  show Ends p e below QQ (s₁.setTop (mkF m 127 #[.val (.int (4 : Int32))] [(.int (14 : Int32)), (.int (4 : Int32))]))
  refine Ends.step (fun _ k => XS.icmpYes X0.here hx rfl (pc0 := 127) (pc' := 134) rfl (hb hby d2_127) rfl (XT.ii_ne_t (by decide)) (by decide) (by decide) k) ?_
  show Ends p e below QQ (s₁.setTop (mkF m 134 #[.val (.int (4 : Int32))] []))
  refine Ends.step (fun _ k => XS.iloadN X0.here hx rfl (hb hby d2_134) rfl k) ?_
  show Ends p e below QQ (s₁.setTop (mkF m 135 #[.val (.int (4 : Int32))] [(.int (4 : Int32))]))
  refine Ends.step (fun _ k => XT.bipushV X0.here hx rfl (15 : Int32) (hb hby d2_135) rfl k) ?_
  show Ends p e below QQ (s₁.setTop (mkF m 137 #[.val (.int (4 : Int32))] [(.int (15 : Int32)), (.int (4 : Int32))]))
  refine Ends.step (fun _ k => XS.icmpYes X0.here hx rfl (pc0 := 137) (pc' := 144) rfl (hb hby d2_137) rfl (XT.ii_ne_t (by decide)) (by decide) (by decide) k) ?_
  show Ends p e below QQ (s₁.setTop (mkF m 144 #[.val (.int (4 : Int32))] []))
  refine Ends.step (fun _ k => XS.iloadN X0.here hx rfl (hb hby d2_144) rfl k) ?_
  show Ends p e below QQ (s₁.setTop (mkF m 145 #[.val (.int (4 : Int32))] [(.int (4 : Int32))]))
  refine Ends.step (fun _ k => XT.bipushV X0.here hx rfl (16 : Int32) (hb hby d2_145) rfl k) ?_
  show Ends p e below QQ (s₁.setTop (mkF m 147 #[.val (.int (4 : Int32))] [(.int (16 : Int32)), (.int (4 : Int32))]))
  refine Ends.step (fun _ k => XS.icmpYes X0.here hx rfl (pc0 := 147) (pc' := 154) rfl (hb hby d2_147) rfl (XT.ii_ne_t (by decide)) (by decide) (by decide) k) ?_
  show Ends p e below QQ (s₁.setTop (mkF m 154 #[.val (.int (4 : Int32))] []))
  refine Ends.step (fun _ k => XS.aconstNull X0.here hx rfl (hb hby d2_154) k) ?_
  show Ends p e below QQ (s₁.setTop (mkF m 155 #[.val (.int (4 : Int32))] [.null]))
  exact Ends.fin (some .null) X0 hQQ (fun h => by rw [Bd.returns] at h; cases h) Bd.notSynchronized (fun _ hr => retOut X0 hx (t := (.object "com/example/nuntius/nuntius/protocol/Opcode")) Bd.returns rfl (Or.inr (Or.inr (Or.inr (Or.inr ⟨rfl, rfl, rfl⟩)))) (hb hby d2_155) hr) e0 (by decide) (by decide) ⟨rfl, N0, rfl⟩
theorem ef_1_5 (m : MethodId)  : entryFrame m #[(.int (5 : Int32))] 2 = mkF m 0 #[.val (.int (5 : Int32)), .unset] [] := by first | (simp [entryFrame, mkF, argsToLocals, Value.category]; done) | rfl
def Q1_5 (Z : State) (a_BY_CODE : Addr) (a_ERROR : Addr) (a_AUTH_CHALLENGE : Addr) (a_SUPPORTED : Addr) (a_RESULT : Addr) (a_EVENT : Addr) (a_AUTHENTICATE : Addr) (a_EXECUTE : Addr) (a_AUTH_SUCCESS : Addr) (a_OPTIONS : Addr) (a_STARTUP : Addr) (a_PREPARE : Addr) (a_REGISTER : Addr) (a_READY : Addr) (a_QUERY : Addr) (a_AUTH_RESPONSE : Addr) (a_BATCH : Addr) (k_a_BY_CODE : ClassId) (h0 : Heap) (n0 : Nat) (v : Option Value) (h : Heap) (L : List Loc) : Prop := (v = some (.ref a_OPTIONS)) ∧ (Fr n0 L) ∧ (h = h0)
set_option maxRecDepth 65536 in
set_option maxHeartbeats 40000000 in
theorem rm1_5 (l : Launch) (Z : State) (a0 : Array Value) (hw : ∀ d ∈ tables_1, d.before a0 Z = true) (ws : List Jvm.Cond) (a_BY_CODE : Addr) (a_ERROR : Addr) (a_AUTH_CHALLENGE : Addr) (a_SUPPORTED : Addr) (a_RESULT : Addr) (a_EVENT : Addr) (a_AUTHENTICATE : Addr) (a_EXECUTE : Addr) (a_AUTH_SUCCESS : Addr) (a_OPTIONS : Addr) (a_STARTUP : Addr) (a_PREPARE : Addr) (a_REGISTER : Addr) (a_READY : Addr) (a_QUERY : Addr) (a_AUTH_RESPONSE : Addr) (a_BATCH : Addr) (k_a_BY_CODE : ClassId) (h0 : Heap) (n0 : Nat) (Z0 : n0 ≤ h0.size) (A_a_BY_CODE : Arv Z h0 a_BY_CODE k_a_BY_CODE (.object "com/example/nuntius/nuntius/protocol/Opcode") (17 : Int32) [(.ref a_ERROR), (.ref a_STARTUP), (.ref a_READY), (.ref a_AUTHENTICATE), .null, (.ref a_OPTIONS), (.ref a_SUPPORTED), (.ref a_QUERY), (.ref a_RESULT), (.ref a_PREPARE), (.ref a_EXECUTE), (.ref a_REGISTER), (.ref a_EVENT), (.ref a_BATCH), (.ref a_AUTH_CHALLENGE), (.ref a_AUTH_RESPONSE), (.ref a_AUTH_SUCCESS)] .null) (S_BY_CODE : Sta Z h0 "com/example/nuntius/nuntius/protocol/Opcode" "BY_CODE" "[Lcom/example/nuntius/nuntius/protocol/Opcode;" (.ref a_BY_CODE)) :
    MetFree l (⟨"com/example/nuntius/nuntius/protocol/Opcode", "ofCode", "(I)Lcom/example/nuntius/nuntius/protocol/Opcode;"⟩ : MethodName) (head1 (Jvm.Cond.code (⟨"com/example/nuntius/nuntius/protocol/Opcode", "ofCode", "(I)Lcom/example/nuntius/nuntius/protocol/Opcode;"⟩ : MethodName) prog_43_method_5_code 2 (some (.object "com/example/nuntius/nuntius/protocol/Opcode")) :: ws) ({ frames := 0, cells := 0, slots := 0, locals := 0 } : Room)) (fun a U => a = #[(.int (5 : Int32))] ∧ Z.Warmed39 U.vm ∧ U.heap = h0) (fun _ _ _ _ _ => True) (fun _ U o U' => ∃ v L, o = .returned v ∧ Q1_5 Z a_BY_CODE a_ERROR a_AUTH_CHALLENGE a_SUPPORTED a_RESULT a_EVENT a_AUTHENTICATE a_EXECUTE a_AUTH_SUCCESS a_OPTIONS a_STARTUP a_PREPARE a_REGISTER a_READY a_QUERY a_AUTH_RESPONSE a_BATCH k_a_BY_CODE h0 n0 v U'.heap L ∧ FrameEnd U o U' L ({ frames := 0, cells := 0, slots := 0, locals := 0 } : Room).cells ({ frames := 0, cells := 0, slots := 0, locals := 0 } : Room).slots) := by
  refine MetFree.of_bodySF (plainFor_of_name pn_0) hisR ?_
  intro p e s m args below meth c s₁ Bd hml0 hP hK
  obtain ⟨rfl, hZ, hh⟩ := hP
  have hx := Bd.exec
  have hby := Bd.bytes
  have hml : c.maxLocals = 2 := hml0
  have hown : s.vm.findClass "com/example/nuntius/nuntius/protocol/Opcode" = some m.cls := findClass_of_methodNamed Bd.named
  have hnm := (name_of_methodNamed Bd.named Bd.method).1
  have X0 : Stand p l e ({ frames := 0, cells := 0, slots := 0, locals := 0 } : Room) s m #[(.int (5 : Int32))] below meth c s₁ [] 0 0 := Stand.of_body Bd
  have e0 : s₁.heap = h0 := by rw [← hh, Bd.state]; rfl
  have N0 := Fr.nil n0
  refine Ends.opn ?_
  intro QQ hQQ
  refine Ends.step (S' := s₁.setTop (mkF m 0 #[.val (.int (5 : Int32)), .unset] [])) (fun t k => castTop (ef_1_5 m ) k) ?_
  show Ends p e below QQ (s₁.setTop (mkF m 0 #[.val (.int (5 : Int32)), .unset] []))
  refine Ends.step (fun _ k => XS.aconstNull X0.here hx rfl (hb hby d1_0) k) ?_
  show Ends p e below QQ (s₁.setTop (mkF m 1 #[.val (.int (5 : Int32)), .unset] [.null]))
  refine Ends.step (fun _ k => XS.astoreN X0.here hx rfl (hb hby d1_1) rfl rfl (l' := #[.val (.int (5 : Int32)), .val .null]) rfl k) ?_
  show Ends p e below QQ (s₁.setTop (mkF m 2 #[.val (.int (5 : Int32)), .val .null] []))
  refine Ends.step (fun _ k => XS.iloadN X0.here hx rfl (hb hby d1_2) rfl k) ?_
  show Ends p e below QQ (s₁.setTop (mkF m 3 #[.val (.int (5 : Int32)), .val .null] [(.int (5 : Int32))]))
  refine Ends.step (fun _ k => XS.ifNo X0.here hx rfl (hb hby d1_3) rfl (XT.i0_lt_f (by decide)) k) ?_
  show Ends p e below QQ (s₁.setTop (mkF m 6 #[.val (.int (5 : Int32)), .val .null] []))
  refine Ends.step (fun _ k => XS.iloadN X0.here hx rfl (hb hby d1_6) rfl k) ?_
  show Ends p e below QQ (s₁.setTop (mkF m 7 #[.val (.int (5 : Int32)), .val .null] [(.int (5 : Int32))]))
  obtain ⟨T26, X26, e26, st26⟩ := getS2 X0 hx hZ hown (host := "") (Or.inl (hw _ (List.mem_of_getElem? (i := 4) rfl))) Via.refl e0 S_BY_CODE (g := (mkF m 7 #[.val (.int (5 : Int32)), .val .null] [(.int (5 : Int32))])) rfl (hb hby d1_7)
  refine Ends.step st26 ?_
  show Ends p e below QQ (T26.setTop (mkF m 10 #[.val (.int (5 : Int32)), .val .null] [(.ref a_BY_CODE), (.int (5 : Int32))]))
  obtain ⟨cl27, Ar27, -, S27, P27, -, -⟩ := id A_a_BY_CODE
  refine Ends.step (S' := T26.setTop (mkF m 11 #[.val (.int (5 : Int32)), .val .null] [(.int (17 : Int32)), (.int (5 : Int32))])) (fun _ k => X26.arraylength hx (by rw [e26]; exact Ar27.1) (State.isArrayOf_alike hZ.alike Ar27.2.1) (g := (mkF m 10 #[.val (.int (5 : Int32)), .val .null] [(.ref a_BY_CODE), (.int (5 : Int32))])) rfl rfl (hb hby d1_10) _ (by rw [len_of S27 P27]; exact k)) ?_
  show Ends p e below QQ (T26.setTop (mkF m 11 #[.val (.int (5 : Int32)), .val .null] [(.int (17 : Int32)), (.int (5 : Int32))]))
  refine Ends.step (fun _ k => XS.icmpNo X26.here hx rfl (hb hby d1_11) rfl (XT.ii_ge_f (by decide)) k) ?_
  show Ends p e below QQ (T26.setTop (mkF m 14 #[.val (.int (5 : Int32)), .val .null] []))
  obtain ⟨T28, X28, e28, st28⟩ := getS2 X26 hx hZ hown (host := "") (Or.inl (hw _ (List.mem_of_getElem? (i := 4) rfl))) Via.refl e26 S_BY_CODE (g := (mkF m 14 #[.val (.int (5 : Int32)), .val .null] [])) rfl (hb hby d1_14)
  refine Ends.step st28 ?_
  show Ends p e below QQ (T28.setTop (mkF m 17 #[.val (.int (5 : Int32)), .val .null] [(.ref a_BY_CODE)]))
  refine Ends.step (fun _ k => XS.iloadN X28.here hx rfl (hb hby d1_17) rfl k) ?_
  show Ends p e below QQ (T28.setTop (mkF m 18 #[.val (.int (5 : Int32)), .val .null] [(.int (5 : Int32)), (.ref a_BY_CODE)]))
  obtain ⟨cl29, Ar29, q29, S29, P29, H29, G29⟩ := id A_a_BY_CODE
  have hin29 : ¬ ((5 : Int32) < 0 ∨ cl29.slots.size ≤ ((5 : Int32)).toNatClampNeg) := inb_of S29 ⟨by decide, by decide⟩
  have hat29 : cl29.slots[((5 : Int32)).toNatClampNeg]? = some (.ref a_OPTIONS) := H29.at hin29 (rfl)
  refine Ends.step (fun _ k => X28.aaload hx (j := (5 : Int32)) (v := (.ref a_OPTIONS)) (by rw [e28]; exact Ar29.1) (State.isArrayOf_alike hZ.alike Ar29.2.1) rfl Ar29.2.2 hin29 hat29 (g := (mkF m 18 #[.val (.int (5 : Int32)), .val .null] [(.int (5 : Int32)), (.ref a_BY_CODE)])) rfl rfl (hb hby d1_18) _ k) ?_
  show Ends p e below QQ (T28.setTop (mkF m 19 #[.val (.int (5 : Int32)), .val .null] [(.ref a_OPTIONS)]))
  refine Ends.step (fun _ k => XS.astoreN X28.here hx rfl (hb hby d1_19) rfl rfl (l' := #[.val (.int (5 : Int32)), .val (.ref a_OPTIONS)]) rfl k) ?_
  show Ends p e below QQ (T28.setTop (mkF m 20 #[.val (.int (5 : Int32)), .val (.ref a_OPTIONS)] []))
  refine Ends.step (fun _ k => XS.aloadN X28.here hx rfl (hb hby d1_20) rfl rfl k) ?_
  show Ends p e below QQ (T28.setTop (mkF m 21 #[.val (.int (5 : Int32)), .val (.ref a_OPTIONS)] [(.ref a_OPTIONS)]))
  exact Ends.fin (some (.ref a_OPTIONS)) X28 hQQ (fun h => by rw [Bd.returns] at h; cases h) Bd.notSynchronized (fun _ hr => retOut X28 hx (t := (.object "com/example/nuntius/nuntius/protocol/Opcode")) Bd.returns rfl (Or.inr (Or.inr (Or.inr (Or.inr ⟨rfl, rfl, rfl⟩)))) (hb hby d1_21) hr) e28 (by decide) (by decide) ⟨rfl, N0, rfl⟩
theorem d2_40 : decode method_2_code 40 = .ok (.getstatic 22, 3) := by decide +kernel
theorem d2_43 : decode method_2_code 43 = .ok (.areturn, 1) := by decide +kernel
theorem ef_2_5 (m : MethodId)  : entryFrame m #[(.int (5 : Int32))] 1 = mkF m 0 #[.val (.int (5 : Int32))] [] := by first | (simp [entryFrame, mkF, argsToLocals, Value.category]; done) | rfl
def Q2_5 (Z : State) (a_OPTIONS : Addr) (h0 : Heap) (n0 : Nat) (v : Option Value) (h : Heap) (L : List Loc) : Prop := (v = some (.ref a_OPTIONS)) ∧ (Fr n0 L) ∧ (h = h0)
set_option maxRecDepth 65536 in
set_option maxHeartbeats 40000000 in
theorem rm2_5 (l : Launch) (Z : State) (a0 : Array Value) (hw : ∀ d ∈ tables_1, d.before a0 Z = true) (ws : List Jvm.Cond) (a_OPTIONS : Addr) (h0 : Heap) (n0 : Nat) (Z0 : n0 ≤ h0.size) (S_OPTIONS : Sta Z h0 "com/example/nuntius/nuntius/protocol/Opcode" "OPTIONS" "Lcom/example/nuntius/nuntius/protocol/Opcode;" (.ref a_OPTIONS)) :
    MetFree l (⟨"com/example/nuntius/nuntius/protocol/OpcodeOfCodePinLaw", "expected", "(I)Lcom/example/nuntius/nuntius/protocol/Opcode;"⟩ : MethodName) (head1 (Jvm.Cond.code (⟨"com/example/nuntius/nuntius/protocol/OpcodeOfCodePinLaw", "expected", "(I)Lcom/example/nuntius/nuntius/protocol/Opcode;"⟩ : MethodName) method_2_code 1 (some (.object "com/example/nuntius/nuntius/protocol/Opcode")) :: ws) ({ frames := 0, cells := 0, slots := 0, locals := 0 } : Room)) (fun a U => a = #[(.int (5 : Int32))] ∧ Z.Warmed39 U.vm ∧ U.heap = h0) (fun _ _ _ _ _ => True) (fun _ U o U' => ∃ v L, o = .returned v ∧ Q2_5 Z a_OPTIONS h0 n0 v U'.heap L ∧ FrameEnd U o U' L ({ frames := 0, cells := 0, slots := 0, locals := 0 } : Room).cells ({ frames := 0, cells := 0, slots := 0, locals := 0 } : Room).slots) := by
  refine MetFree.of_bodySF (plainFor_of_name pn_1) hisR ?_
  intro p e s m args below meth c s₁ Bd hml0 hP hK
  obtain ⟨rfl, hZ, hh⟩ := hP
  have hx := Bd.exec
  have hby := Bd.bytes
  have hml : c.maxLocals = 1 := hml0
  have hown : s.vm.findClass "com/example/nuntius/nuntius/protocol/OpcodeOfCodePinLaw" = some m.cls := findClass_of_methodNamed Bd.named
  have hnm := (name_of_methodNamed Bd.named Bd.method).1
  have X0 : Stand p l e ({ frames := 0, cells := 0, slots := 0, locals := 0 } : Room) s m #[(.int (5 : Int32))] below meth c s₁ [] 0 0 := Stand.of_body Bd
  have e0 : s₁.heap = h0 := by rw [← hh, Bd.state]; rfl
  have N0 := Fr.nil n0
  refine Ends.opn ?_
  intro QQ hQQ
  refine Ends.step (S' := s₁.setTop (mkF m 0 #[.val (.int (5 : Int32))] [])) (fun t k => castTop (ef_2_5 m ) k) ?_
  show Ends p e below QQ (s₁.setTop (mkF m 0 #[.val (.int (5 : Int32))] []))
  refine Ends.step (fun _ k => XS.iloadN X0.here hx rfl (hb hby d2_0) rfl k) ?_
  show Ends p e below QQ (s₁.setTop (mkF m 1 #[.val (.int (5 : Int32))] [(.int (5 : Int32))]))
  refine Ends.step (fun _ k => XS.ifYes X0.here hx rfl (pc0 := 1) (pc' := 8) rfl (hb hby d2_1) rfl (XT.i0_ne_t (by decide)) (by decide) (by decide) k) ?_
  show Ends p e below QQ (s₁.setTop (mkF m 8 #[.val (.int (5 : Int32))] []))
  refine Ends.step (fun _ k => XS.iloadN X0.here hx rfl (hb hby d2_8) rfl k) ?_
  show Ends p e below QQ (s₁.setTop (mkF m 9 #[.val (.int (5 : Int32))] [(.int (5 : Int32))]))
  refine Ends.step (fun _ k => XT.iconstV X0.here hx rfl (1 : Int32) (hb hby d2_9) rfl k) ?_
  show Ends p e below QQ (s₁.setTop (mkF m 10 #[.val (.int (5 : Int32))] [(.int (1 : Int32)), (.int (5 : Int32))]))
  refine Ends.step (fun _ k => XS.icmpYes X0.here hx rfl (pc0 := 10) (pc' := 17) rfl (hb hby d2_10) rfl (XT.ii_ne_t (by decide)) (by decide) (by decide) k) ?_
  show Ends p e below QQ (s₁.setTop (mkF m 17 #[.val (.int (5 : Int32))] []))
  refine Ends.step (fun _ k => XS.iloadN X0.here hx rfl (hb hby d2_17) rfl k) ?_
  show Ends p e below QQ (s₁.setTop (mkF m 18 #[.val (.int (5 : Int32))] [(.int (5 : Int32))]))
  refine Ends.step (fun _ k => XT.iconstV X0.here hx rfl (2 : Int32) (hb hby d2_18) rfl k) ?_
  show Ends p e below QQ (s₁.setTop (mkF m 19 #[.val (.int (5 : Int32))] [(.int (2 : Int32)), (.int (5 : Int32))]))
  refine Ends.step (fun _ k => XS.icmpYes X0.here hx rfl (pc0 := 19) (pc' := 26) rfl (hb hby d2_19) rfl (XT.ii_ne_t (by decide)) (by decide) (by decide) k) ?_
  show Ends p e below QQ (s₁.setTop (mkF m 26 #[.val (.int (5 : Int32))] []))
  refine Ends.step (fun _ k => XS.iloadN X0.here hx rfl (hb hby d2_26) rfl k) ?_
  show Ends p e below QQ (s₁.setTop (mkF m 27 #[.val (.int (5 : Int32))] [(.int (5 : Int32))]))
  refine Ends.step (fun _ k => XT.iconstV X0.here hx rfl (3 : Int32) (hb hby d2_27) rfl k) ?_
  show Ends p e below QQ (s₁.setTop (mkF m 28 #[.val (.int (5 : Int32))] [(.int (3 : Int32)), (.int (5 : Int32))]))
  refine Ends.step (fun _ k => XS.icmpYes X0.here hx rfl (pc0 := 28) (pc' := 35) rfl (hb hby d2_28) rfl (XT.ii_ne_t (by decide)) (by decide) (by decide) k) ?_
  show Ends p e below QQ (s₁.setTop (mkF m 35 #[.val (.int (5 : Int32))] []))
  refine Ends.step (fun _ k => XS.iloadN X0.here hx rfl (hb hby d2_35) rfl k) ?_
  show Ends p e below QQ (s₁.setTop (mkF m 36 #[.val (.int (5 : Int32))] [(.int (5 : Int32))]))
  refine Ends.step (fun _ k => XT.iconstV X0.here hx rfl (5 : Int32) (hb hby d2_36) rfl k) ?_
  show Ends p e below QQ (s₁.setTop (mkF m 37 #[.val (.int (5 : Int32))] [(.int (5 : Int32)), (.int (5 : Int32))]))
  refine Ends.step (fun _ k => XS.icmpNo X0.here hx rfl (hb hby d2_37) rfl (XT.ii_ne_f (by decide)) k) ?_
  show Ends p e below QQ (s₁.setTop (mkF m 40 #[.val (.int (5 : Int32))] []))
  obtain ⟨T30, X30, e30, st30⟩ := getS2 X0 hx hZ hown (host := "") (Or.inl (hw _ (List.mem_of_getElem? (i := 34) rfl))) Via.refl e0 S_OPTIONS (g := (mkF m 40 #[.val (.int (5 : Int32))] [])) rfl (hb hby d2_40)
  refine Ends.step st30 ?_
  show Ends p e below QQ (T30.setTop (mkF m 43 #[.val (.int (5 : Int32))] [(.ref a_OPTIONS)]))
  exact Ends.fin (some (.ref a_OPTIONS)) X30 hQQ (fun h => by rw [Bd.returns] at h; cases h) Bd.notSynchronized (fun _ hr => retOut X30 hx (t := (.object "com/example/nuntius/nuntius/protocol/Opcode")) Bd.returns rfl (Or.inr (Or.inr (Or.inr (Or.inr ⟨rfl, rfl, rfl⟩)))) (hb hby d2_43) hr) e30 (by decide) (by decide) ⟨rfl, N0, rfl⟩
theorem ef_1_6 (m : MethodId)  : entryFrame m #[(.int (6 : Int32))] 2 = mkF m 0 #[.val (.int (6 : Int32)), .unset] [] := by first | (simp [entryFrame, mkF, argsToLocals, Value.category]; done) | rfl
def Q1_6 (Z : State) (a_BY_CODE : Addr) (a_ERROR : Addr) (a_AUTH_CHALLENGE : Addr) (a_SUPPORTED : Addr) (a_RESULT : Addr) (a_EVENT : Addr) (a_AUTHENTICATE : Addr) (a_EXECUTE : Addr) (a_AUTH_SUCCESS : Addr) (a_OPTIONS : Addr) (a_STARTUP : Addr) (a_PREPARE : Addr) (a_REGISTER : Addr) (a_READY : Addr) (a_QUERY : Addr) (a_AUTH_RESPONSE : Addr) (a_BATCH : Addr) (k_a_BY_CODE : ClassId) (h0 : Heap) (n0 : Nat) (v : Option Value) (h : Heap) (L : List Loc) : Prop := (v = some (.ref a_SUPPORTED)) ∧ (Fr n0 L) ∧ (h = h0)
set_option maxRecDepth 65536 in
set_option maxHeartbeats 40000000 in
theorem rm1_6 (l : Launch) (Z : State) (a0 : Array Value) (hw : ∀ d ∈ tables_1, d.before a0 Z = true) (ws : List Jvm.Cond) (a_BY_CODE : Addr) (a_ERROR : Addr) (a_AUTH_CHALLENGE : Addr) (a_SUPPORTED : Addr) (a_RESULT : Addr) (a_EVENT : Addr) (a_AUTHENTICATE : Addr) (a_EXECUTE : Addr) (a_AUTH_SUCCESS : Addr) (a_OPTIONS : Addr) (a_STARTUP : Addr) (a_PREPARE : Addr) (a_REGISTER : Addr) (a_READY : Addr) (a_QUERY : Addr) (a_AUTH_RESPONSE : Addr) (a_BATCH : Addr) (k_a_BY_CODE : ClassId) (h0 : Heap) (n0 : Nat) (Z0 : n0 ≤ h0.size) (A_a_BY_CODE : Arv Z h0 a_BY_CODE k_a_BY_CODE (.object "com/example/nuntius/nuntius/protocol/Opcode") (17 : Int32) [(.ref a_ERROR), (.ref a_STARTUP), (.ref a_READY), (.ref a_AUTHENTICATE), .null, (.ref a_OPTIONS), (.ref a_SUPPORTED), (.ref a_QUERY), (.ref a_RESULT), (.ref a_PREPARE), (.ref a_EXECUTE), (.ref a_REGISTER), (.ref a_EVENT), (.ref a_BATCH), (.ref a_AUTH_CHALLENGE), (.ref a_AUTH_RESPONSE), (.ref a_AUTH_SUCCESS)] .null) (S_BY_CODE : Sta Z h0 "com/example/nuntius/nuntius/protocol/Opcode" "BY_CODE" "[Lcom/example/nuntius/nuntius/protocol/Opcode;" (.ref a_BY_CODE)) :
    MetFree l (⟨"com/example/nuntius/nuntius/protocol/Opcode", "ofCode", "(I)Lcom/example/nuntius/nuntius/protocol/Opcode;"⟩ : MethodName) (head1 (Jvm.Cond.code (⟨"com/example/nuntius/nuntius/protocol/Opcode", "ofCode", "(I)Lcom/example/nuntius/nuntius/protocol/Opcode;"⟩ : MethodName) prog_43_method_5_code 2 (some (.object "com/example/nuntius/nuntius/protocol/Opcode")) :: ws) ({ frames := 0, cells := 0, slots := 0, locals := 0 } : Room)) (fun a U => a = #[(.int (6 : Int32))] ∧ Z.Warmed39 U.vm ∧ U.heap = h0) (fun _ _ _ _ _ => True) (fun _ U o U' => ∃ v L, o = .returned v ∧ Q1_6 Z a_BY_CODE a_ERROR a_AUTH_CHALLENGE a_SUPPORTED a_RESULT a_EVENT a_AUTHENTICATE a_EXECUTE a_AUTH_SUCCESS a_OPTIONS a_STARTUP a_PREPARE a_REGISTER a_READY a_QUERY a_AUTH_RESPONSE a_BATCH k_a_BY_CODE h0 n0 v U'.heap L ∧ FrameEnd U o U' L ({ frames := 0, cells := 0, slots := 0, locals := 0 } : Room).cells ({ frames := 0, cells := 0, slots := 0, locals := 0 } : Room).slots) := by
  refine MetFree.of_bodySF (plainFor_of_name pn_0) hisR ?_
  intro p e s m args below meth c s₁ Bd hml0 hP hK
  obtain ⟨rfl, hZ, hh⟩ := hP
  have hx := Bd.exec
  have hby := Bd.bytes
  have hml : c.maxLocals = 2 := hml0
  have hown : s.vm.findClass "com/example/nuntius/nuntius/protocol/Opcode" = some m.cls := findClass_of_methodNamed Bd.named
  have hnm := (name_of_methodNamed Bd.named Bd.method).1
  have X0 : Stand p l e ({ frames := 0, cells := 0, slots := 0, locals := 0 } : Room) s m #[(.int (6 : Int32))] below meth c s₁ [] 0 0 := Stand.of_body Bd
  have e0 : s₁.heap = h0 := by rw [← hh, Bd.state]; rfl
  have N0 := Fr.nil n0
  refine Ends.opn ?_
  intro QQ hQQ
  refine Ends.step (S' := s₁.setTop (mkF m 0 #[.val (.int (6 : Int32)), .unset] [])) (fun t k => castTop (ef_1_6 m ) k) ?_
  show Ends p e below QQ (s₁.setTop (mkF m 0 #[.val (.int (6 : Int32)), .unset] []))
  refine Ends.step (fun _ k => XS.aconstNull X0.here hx rfl (hb hby d1_0) k) ?_
  show Ends p e below QQ (s₁.setTop (mkF m 1 #[.val (.int (6 : Int32)), .unset] [.null]))
  refine Ends.step (fun _ k => XS.astoreN X0.here hx rfl (hb hby d1_1) rfl rfl (l' := #[.val (.int (6 : Int32)), .val .null]) rfl k) ?_
  show Ends p e below QQ (s₁.setTop (mkF m 2 #[.val (.int (6 : Int32)), .val .null] []))
  refine Ends.step (fun _ k => XS.iloadN X0.here hx rfl (hb hby d1_2) rfl k) ?_
  show Ends p e below QQ (s₁.setTop (mkF m 3 #[.val (.int (6 : Int32)), .val .null] [(.int (6 : Int32))]))
  refine Ends.step (fun _ k => XS.ifNo X0.here hx rfl (hb hby d1_3) rfl (XT.i0_lt_f (by decide)) k) ?_
  show Ends p e below QQ (s₁.setTop (mkF m 6 #[.val (.int (6 : Int32)), .val .null] []))
  refine Ends.step (fun _ k => XS.iloadN X0.here hx rfl (hb hby d1_6) rfl k) ?_
  show Ends p e below QQ (s₁.setTop (mkF m 7 #[.val (.int (6 : Int32)), .val .null] [(.int (6 : Int32))]))
  obtain ⟨T31, X31, e31, st31⟩ := getS2 X0 hx hZ hown (host := "") (Or.inl (hw _ (List.mem_of_getElem? (i := 4) rfl))) Via.refl e0 S_BY_CODE (g := (mkF m 7 #[.val (.int (6 : Int32)), .val .null] [(.int (6 : Int32))])) rfl (hb hby d1_7)
  refine Ends.step st31 ?_
  show Ends p e below QQ (T31.setTop (mkF m 10 #[.val (.int (6 : Int32)), .val .null] [(.ref a_BY_CODE), (.int (6 : Int32))]))
  obtain ⟨cl32, Ar32, -, S32, P32, -, -⟩ := id A_a_BY_CODE
  refine Ends.step (S' := T31.setTop (mkF m 11 #[.val (.int (6 : Int32)), .val .null] [(.int (17 : Int32)), (.int (6 : Int32))])) (fun _ k => X31.arraylength hx (by rw [e31]; exact Ar32.1) (State.isArrayOf_alike hZ.alike Ar32.2.1) (g := (mkF m 10 #[.val (.int (6 : Int32)), .val .null] [(.ref a_BY_CODE), (.int (6 : Int32))])) rfl rfl (hb hby d1_10) _ (by rw [len_of S32 P32]; exact k)) ?_
  show Ends p e below QQ (T31.setTop (mkF m 11 #[.val (.int (6 : Int32)), .val .null] [(.int (17 : Int32)), (.int (6 : Int32))]))
  refine Ends.step (fun _ k => XS.icmpNo X31.here hx rfl (hb hby d1_11) rfl (XT.ii_ge_f (by decide)) k) ?_
  show Ends p e below QQ (T31.setTop (mkF m 14 #[.val (.int (6 : Int32)), .val .null] []))
  obtain ⟨T33, X33, e33, st33⟩ := getS2 X31 hx hZ hown (host := "") (Or.inl (hw _ (List.mem_of_getElem? (i := 4) rfl))) Via.refl e31 S_BY_CODE (g := (mkF m 14 #[.val (.int (6 : Int32)), .val .null] [])) rfl (hb hby d1_14)
  refine Ends.step st33 ?_
  show Ends p e below QQ (T33.setTop (mkF m 17 #[.val (.int (6 : Int32)), .val .null] [(.ref a_BY_CODE)]))
  refine Ends.step (fun _ k => XS.iloadN X33.here hx rfl (hb hby d1_17) rfl k) ?_
  show Ends p e below QQ (T33.setTop (mkF m 18 #[.val (.int (6 : Int32)), .val .null] [(.int (6 : Int32)), (.ref a_BY_CODE)]))
  obtain ⟨cl34, Ar34, q34, S34, P34, H34, G34⟩ := id A_a_BY_CODE
  have hin34 : ¬ ((6 : Int32) < 0 ∨ cl34.slots.size ≤ ((6 : Int32)).toNatClampNeg) := inb_of S34 ⟨by decide, by decide⟩
  have hat34 : cl34.slots[((6 : Int32)).toNatClampNeg]? = some (.ref a_SUPPORTED) := H34.at hin34 (rfl)
  refine Ends.step (fun _ k => X33.aaload hx (j := (6 : Int32)) (v := (.ref a_SUPPORTED)) (by rw [e33]; exact Ar34.1) (State.isArrayOf_alike hZ.alike Ar34.2.1) rfl Ar34.2.2 hin34 hat34 (g := (mkF m 18 #[.val (.int (6 : Int32)), .val .null] [(.int (6 : Int32)), (.ref a_BY_CODE)])) rfl rfl (hb hby d1_18) _ k) ?_
  show Ends p e below QQ (T33.setTop (mkF m 19 #[.val (.int (6 : Int32)), .val .null] [(.ref a_SUPPORTED)]))
  refine Ends.step (fun _ k => XS.astoreN X33.here hx rfl (hb hby d1_19) rfl rfl (l' := #[.val (.int (6 : Int32)), .val (.ref a_SUPPORTED)]) rfl k) ?_
  show Ends p e below QQ (T33.setTop (mkF m 20 #[.val (.int (6 : Int32)), .val (.ref a_SUPPORTED)] []))
  refine Ends.step (fun _ k => XS.aloadN X33.here hx rfl (hb hby d1_20) rfl rfl k) ?_
  show Ends p e below QQ (T33.setTop (mkF m 21 #[.val (.int (6 : Int32)), .val (.ref a_SUPPORTED)] [(.ref a_SUPPORTED)]))
  exact Ends.fin (some (.ref a_SUPPORTED)) X33 hQQ (fun h => by rw [Bd.returns] at h; cases h) Bd.notSynchronized (fun _ hr => retOut X33 hx (t := (.object "com/example/nuntius/nuntius/protocol/Opcode")) Bd.returns rfl (Or.inr (Or.inr (Or.inr (Or.inr ⟨rfl, rfl, rfl⟩)))) (hb hby d1_21) hr) e33 (by decide) (by decide) ⟨rfl, N0, rfl⟩
theorem d2_50 : decode method_2_code 50 = .ok (.getstatic 25, 3) := by decide +kernel
theorem d2_53 : decode method_2_code 53 = .ok (.areturn, 1) := by decide +kernel
theorem ef_2_6 (m : MethodId)  : entryFrame m #[(.int (6 : Int32))] 1 = mkF m 0 #[.val (.int (6 : Int32))] [] := by first | (simp [entryFrame, mkF, argsToLocals, Value.category]; done) | rfl
def Q2_6 (Z : State) (a_SUPPORTED : Addr) (h0 : Heap) (n0 : Nat) (v : Option Value) (h : Heap) (L : List Loc) : Prop := (v = some (.ref a_SUPPORTED)) ∧ (Fr n0 L) ∧ (h = h0)
set_option maxRecDepth 65536 in
set_option maxHeartbeats 40000000 in
theorem rm2_6 (l : Launch) (Z : State) (a0 : Array Value) (hw : ∀ d ∈ tables_1, d.before a0 Z = true) (ws : List Jvm.Cond) (a_SUPPORTED : Addr) (h0 : Heap) (n0 : Nat) (Z0 : n0 ≤ h0.size) (S_SUPPORTED : Sta Z h0 "com/example/nuntius/nuntius/protocol/Opcode" "SUPPORTED" "Lcom/example/nuntius/nuntius/protocol/Opcode;" (.ref a_SUPPORTED)) :
    MetFree l (⟨"com/example/nuntius/nuntius/protocol/OpcodeOfCodePinLaw", "expected", "(I)Lcom/example/nuntius/nuntius/protocol/Opcode;"⟩ : MethodName) (head1 (Jvm.Cond.code (⟨"com/example/nuntius/nuntius/protocol/OpcodeOfCodePinLaw", "expected", "(I)Lcom/example/nuntius/nuntius/protocol/Opcode;"⟩ : MethodName) method_2_code 1 (some (.object "com/example/nuntius/nuntius/protocol/Opcode")) :: ws) ({ frames := 0, cells := 0, slots := 0, locals := 0 } : Room)) (fun a U => a = #[(.int (6 : Int32))] ∧ Z.Warmed39 U.vm ∧ U.heap = h0) (fun _ _ _ _ _ => True) (fun _ U o U' => ∃ v L, o = .returned v ∧ Q2_6 Z a_SUPPORTED h0 n0 v U'.heap L ∧ FrameEnd U o U' L ({ frames := 0, cells := 0, slots := 0, locals := 0 } : Room).cells ({ frames := 0, cells := 0, slots := 0, locals := 0 } : Room).slots) := by
  refine MetFree.of_bodySF (plainFor_of_name pn_1) hisR ?_
  intro p e s m args below meth c s₁ Bd hml0 hP hK
  obtain ⟨rfl, hZ, hh⟩ := hP
  have hx := Bd.exec
  have hby := Bd.bytes
  have hml : c.maxLocals = 1 := hml0
  have hown : s.vm.findClass "com/example/nuntius/nuntius/protocol/OpcodeOfCodePinLaw" = some m.cls := findClass_of_methodNamed Bd.named
  have hnm := (name_of_methodNamed Bd.named Bd.method).1
  have X0 : Stand p l e ({ frames := 0, cells := 0, slots := 0, locals := 0 } : Room) s m #[(.int (6 : Int32))] below meth c s₁ [] 0 0 := Stand.of_body Bd
  have e0 : s₁.heap = h0 := by rw [← hh, Bd.state]; rfl
  have N0 := Fr.nil n0
  refine Ends.opn ?_
  intro QQ hQQ
  refine Ends.step (S' := s₁.setTop (mkF m 0 #[.val (.int (6 : Int32))] [])) (fun t k => castTop (ef_2_6 m ) k) ?_
  show Ends p e below QQ (s₁.setTop (mkF m 0 #[.val (.int (6 : Int32))] []))
  refine Ends.step (fun _ k => XS.iloadN X0.here hx rfl (hb hby d2_0) rfl k) ?_
  show Ends p e below QQ (s₁.setTop (mkF m 1 #[.val (.int (6 : Int32))] [(.int (6 : Int32))]))
  refine Ends.step (fun _ k => XS.ifYes X0.here hx rfl (pc0 := 1) (pc' := 8) rfl (hb hby d2_1) rfl (XT.i0_ne_t (by decide)) (by decide) (by decide) k) ?_
  show Ends p e below QQ (s₁.setTop (mkF m 8 #[.val (.int (6 : Int32))] []))
  refine Ends.step (fun _ k => XS.iloadN X0.here hx rfl (hb hby d2_8) rfl k) ?_
  show Ends p e below QQ (s₁.setTop (mkF m 9 #[.val (.int (6 : Int32))] [(.int (6 : Int32))]))
  refine Ends.step (fun _ k => XT.iconstV X0.here hx rfl (1 : Int32) (hb hby d2_9) rfl k) ?_
  show Ends p e below QQ (s₁.setTop (mkF m 10 #[.val (.int (6 : Int32))] [(.int (1 : Int32)), (.int (6 : Int32))]))
  refine Ends.step (fun _ k => XS.icmpYes X0.here hx rfl (pc0 := 10) (pc' := 17) rfl (hb hby d2_10) rfl (XT.ii_ne_t (by decide)) (by decide) (by decide) k) ?_
  show Ends p e below QQ (s₁.setTop (mkF m 17 #[.val (.int (6 : Int32))] []))
  refine Ends.step (fun _ k => XS.iloadN X0.here hx rfl (hb hby d2_17) rfl k) ?_
  show Ends p e below QQ (s₁.setTop (mkF m 18 #[.val (.int (6 : Int32))] [(.int (6 : Int32))]))
  refine Ends.step (fun _ k => XT.iconstV X0.here hx rfl (2 : Int32) (hb hby d2_18) rfl k) ?_
  show Ends p e below QQ (s₁.setTop (mkF m 19 #[.val (.int (6 : Int32))] [(.int (2 : Int32)), (.int (6 : Int32))]))
  refine Ends.step (fun _ k => XS.icmpYes X0.here hx rfl (pc0 := 19) (pc' := 26) rfl (hb hby d2_19) rfl (XT.ii_ne_t (by decide)) (by decide) (by decide) k) ?_
  show Ends p e below QQ (s₁.setTop (mkF m 26 #[.val (.int (6 : Int32))] []))
  refine Ends.step (fun _ k => XS.iloadN X0.here hx rfl (hb hby d2_26) rfl k) ?_
  show Ends p e below QQ (s₁.setTop (mkF m 27 #[.val (.int (6 : Int32))] [(.int (6 : Int32))]))
  refine Ends.step (fun _ k => XT.iconstV X0.here hx rfl (3 : Int32) (hb hby d2_27) rfl k) ?_
  show Ends p e below QQ (s₁.setTop (mkF m 28 #[.val (.int (6 : Int32))] [(.int (3 : Int32)), (.int (6 : Int32))]))
  refine Ends.step (fun _ k => XS.icmpYes X0.here hx rfl (pc0 := 28) (pc' := 35) rfl (hb hby d2_28) rfl (XT.ii_ne_t (by decide)) (by decide) (by decide) k) ?_
  show Ends p e below QQ (s₁.setTop (mkF m 35 #[.val (.int (6 : Int32))] []))
  refine Ends.step (fun _ k => XS.iloadN X0.here hx rfl (hb hby d2_35) rfl k) ?_
  show Ends p e below QQ (s₁.setTop (mkF m 36 #[.val (.int (6 : Int32))] [(.int (6 : Int32))]))
  refine Ends.step (fun _ k => XT.iconstV X0.here hx rfl (5 : Int32) (hb hby d2_36) rfl k) ?_
  show Ends p e below QQ (s₁.setTop (mkF m 37 #[.val (.int (6 : Int32))] [(.int (5 : Int32)), (.int (6 : Int32))]))
  refine Ends.step (fun _ k => XS.icmpYes X0.here hx rfl (pc0 := 37) (pc' := 44) rfl (hb hby d2_37) rfl (XT.ii_ne_t (by decide)) (by decide) (by decide) k) ?_
  show Ends p e below QQ (s₁.setTop (mkF m 44 #[.val (.int (6 : Int32))] []))
  refine Ends.step (fun _ k => XS.iloadN X0.here hx rfl (hb hby d2_44) rfl k) ?_
  show Ends p e below QQ (s₁.setTop (mkF m 45 #[.val (.int (6 : Int32))] [(.int (6 : Int32))]))
  refine Ends.step (fun _ k => XT.bipushV X0.here hx rfl (6 : Int32) (hb hby d2_45) rfl k) ?_
  show Ends p e below QQ (s₁.setTop (mkF m 47 #[.val (.int (6 : Int32))] [(.int (6 : Int32)), (.int (6 : Int32))]))
  refine Ends.step (fun _ k => XS.icmpNo X0.here hx rfl (hb hby d2_47) rfl (XT.ii_ne_f (by decide)) k) ?_
  show Ends p e below QQ (s₁.setTop (mkF m 50 #[.val (.int (6 : Int32))] []))
  obtain ⟨T35, X35, e35, st35⟩ := getS2 X0 hx hZ hown (host := "") (Or.inl (hw _ (List.mem_of_getElem? (i := 22) rfl))) Via.refl e0 S_SUPPORTED (g := (mkF m 50 #[.val (.int (6 : Int32))] [])) rfl (hb hby d2_50)
  refine Ends.step st35 ?_
  show Ends p e below QQ (T35.setTop (mkF m 53 #[.val (.int (6 : Int32))] [(.ref a_SUPPORTED)]))
  exact Ends.fin (some (.ref a_SUPPORTED)) X35 hQQ (fun h => by rw [Bd.returns] at h; cases h) Bd.notSynchronized (fun _ hr => retOut X35 hx (t := (.object "com/example/nuntius/nuntius/protocol/Opcode")) Bd.returns rfl (Or.inr (Or.inr (Or.inr (Or.inr ⟨rfl, rfl, rfl⟩)))) (hb hby d2_53) hr) e35 (by decide) (by decide) ⟨rfl, N0, rfl⟩
theorem ef_1_7 (m : MethodId)  : entryFrame m #[(.int (7 : Int32))] 2 = mkF m 0 #[.val (.int (7 : Int32)), .unset] [] := by first | (simp [entryFrame, mkF, argsToLocals, Value.category]; done) | rfl
def Q1_7 (Z : State) (a_BY_CODE : Addr) (a_ERROR : Addr) (a_AUTH_CHALLENGE : Addr) (a_SUPPORTED : Addr) (a_RESULT : Addr) (a_EVENT : Addr) (a_AUTHENTICATE : Addr) (a_EXECUTE : Addr) (a_AUTH_SUCCESS : Addr) (a_OPTIONS : Addr) (a_STARTUP : Addr) (a_PREPARE : Addr) (a_REGISTER : Addr) (a_READY : Addr) (a_QUERY : Addr) (a_AUTH_RESPONSE : Addr) (a_BATCH : Addr) (k_a_BY_CODE : ClassId) (h0 : Heap) (n0 : Nat) (v : Option Value) (h : Heap) (L : List Loc) : Prop := (v = some (.ref a_QUERY)) ∧ (Fr n0 L) ∧ (h = h0)
set_option maxRecDepth 65536 in
set_option maxHeartbeats 40000000 in
theorem rm1_7 (l : Launch) (Z : State) (a0 : Array Value) (hw : ∀ d ∈ tables_1, d.before a0 Z = true) (ws : List Jvm.Cond) (a_BY_CODE : Addr) (a_ERROR : Addr) (a_AUTH_CHALLENGE : Addr) (a_SUPPORTED : Addr) (a_RESULT : Addr) (a_EVENT : Addr) (a_AUTHENTICATE : Addr) (a_EXECUTE : Addr) (a_AUTH_SUCCESS : Addr) (a_OPTIONS : Addr) (a_STARTUP : Addr) (a_PREPARE : Addr) (a_REGISTER : Addr) (a_READY : Addr) (a_QUERY : Addr) (a_AUTH_RESPONSE : Addr) (a_BATCH : Addr) (k_a_BY_CODE : ClassId) (h0 : Heap) (n0 : Nat) (Z0 : n0 ≤ h0.size) (A_a_BY_CODE : Arv Z h0 a_BY_CODE k_a_BY_CODE (.object "com/example/nuntius/nuntius/protocol/Opcode") (17 : Int32) [(.ref a_ERROR), (.ref a_STARTUP), (.ref a_READY), (.ref a_AUTHENTICATE), .null, (.ref a_OPTIONS), (.ref a_SUPPORTED), (.ref a_QUERY), (.ref a_RESULT), (.ref a_PREPARE), (.ref a_EXECUTE), (.ref a_REGISTER), (.ref a_EVENT), (.ref a_BATCH), (.ref a_AUTH_CHALLENGE), (.ref a_AUTH_RESPONSE), (.ref a_AUTH_SUCCESS)] .null) (S_BY_CODE : Sta Z h0 "com/example/nuntius/nuntius/protocol/Opcode" "BY_CODE" "[Lcom/example/nuntius/nuntius/protocol/Opcode;" (.ref a_BY_CODE)) :
    MetFree l (⟨"com/example/nuntius/nuntius/protocol/Opcode", "ofCode", "(I)Lcom/example/nuntius/nuntius/protocol/Opcode;"⟩ : MethodName) (head1 (Jvm.Cond.code (⟨"com/example/nuntius/nuntius/protocol/Opcode", "ofCode", "(I)Lcom/example/nuntius/nuntius/protocol/Opcode;"⟩ : MethodName) prog_43_method_5_code 2 (some (.object "com/example/nuntius/nuntius/protocol/Opcode")) :: ws) ({ frames := 0, cells := 0, slots := 0, locals := 0 } : Room)) (fun a U => a = #[(.int (7 : Int32))] ∧ Z.Warmed39 U.vm ∧ U.heap = h0) (fun _ _ _ _ _ => True) (fun _ U o U' => ∃ v L, o = .returned v ∧ Q1_7 Z a_BY_CODE a_ERROR a_AUTH_CHALLENGE a_SUPPORTED a_RESULT a_EVENT a_AUTHENTICATE a_EXECUTE a_AUTH_SUCCESS a_OPTIONS a_STARTUP a_PREPARE a_REGISTER a_READY a_QUERY a_AUTH_RESPONSE a_BATCH k_a_BY_CODE h0 n0 v U'.heap L ∧ FrameEnd U o U' L ({ frames := 0, cells := 0, slots := 0, locals := 0 } : Room).cells ({ frames := 0, cells := 0, slots := 0, locals := 0 } : Room).slots) := by
  refine MetFree.of_bodySF (plainFor_of_name pn_0) hisR ?_
  intro p e s m args below meth c s₁ Bd hml0 hP hK
  obtain ⟨rfl, hZ, hh⟩ := hP
  have hx := Bd.exec
  have hby := Bd.bytes
  have hml : c.maxLocals = 2 := hml0
  have hown : s.vm.findClass "com/example/nuntius/nuntius/protocol/Opcode" = some m.cls := findClass_of_methodNamed Bd.named
  have hnm := (name_of_methodNamed Bd.named Bd.method).1
  have X0 : Stand p l e ({ frames := 0, cells := 0, slots := 0, locals := 0 } : Room) s m #[(.int (7 : Int32))] below meth c s₁ [] 0 0 := Stand.of_body Bd
  have e0 : s₁.heap = h0 := by rw [← hh, Bd.state]; rfl
  have N0 := Fr.nil n0
  refine Ends.opn ?_
  intro QQ hQQ
  refine Ends.step (S' := s₁.setTop (mkF m 0 #[.val (.int (7 : Int32)), .unset] [])) (fun t k => castTop (ef_1_7 m ) k) ?_
  show Ends p e below QQ (s₁.setTop (mkF m 0 #[.val (.int (7 : Int32)), .unset] []))
  refine Ends.step (fun _ k => XS.aconstNull X0.here hx rfl (hb hby d1_0) k) ?_
  show Ends p e below QQ (s₁.setTop (mkF m 1 #[.val (.int (7 : Int32)), .unset] [.null]))
  refine Ends.step (fun _ k => XS.astoreN X0.here hx rfl (hb hby d1_1) rfl rfl (l' := #[.val (.int (7 : Int32)), .val .null]) rfl k) ?_
  show Ends p e below QQ (s₁.setTop (mkF m 2 #[.val (.int (7 : Int32)), .val .null] []))
  refine Ends.step (fun _ k => XS.iloadN X0.here hx rfl (hb hby d1_2) rfl k) ?_
  show Ends p e below QQ (s₁.setTop (mkF m 3 #[.val (.int (7 : Int32)), .val .null] [(.int (7 : Int32))]))
  refine Ends.step (fun _ k => XS.ifNo X0.here hx rfl (hb hby d1_3) rfl (XT.i0_lt_f (by decide)) k) ?_
  show Ends p e below QQ (s₁.setTop (mkF m 6 #[.val (.int (7 : Int32)), .val .null] []))
  refine Ends.step (fun _ k => XS.iloadN X0.here hx rfl (hb hby d1_6) rfl k) ?_
  show Ends p e below QQ (s₁.setTop (mkF m 7 #[.val (.int (7 : Int32)), .val .null] [(.int (7 : Int32))]))
  obtain ⟨T36, X36, e36, st36⟩ := getS2 X0 hx hZ hown (host := "") (Or.inl (hw _ (List.mem_of_getElem? (i := 4) rfl))) Via.refl e0 S_BY_CODE (g := (mkF m 7 #[.val (.int (7 : Int32)), .val .null] [(.int (7 : Int32))])) rfl (hb hby d1_7)
  refine Ends.step st36 ?_
  show Ends p e below QQ (T36.setTop (mkF m 10 #[.val (.int (7 : Int32)), .val .null] [(.ref a_BY_CODE), (.int (7 : Int32))]))
  obtain ⟨cl37, Ar37, -, S37, P37, -, -⟩ := id A_a_BY_CODE
  refine Ends.step (S' := T36.setTop (mkF m 11 #[.val (.int (7 : Int32)), .val .null] [(.int (17 : Int32)), (.int (7 : Int32))])) (fun _ k => X36.arraylength hx (by rw [e36]; exact Ar37.1) (State.isArrayOf_alike hZ.alike Ar37.2.1) (g := (mkF m 10 #[.val (.int (7 : Int32)), .val .null] [(.ref a_BY_CODE), (.int (7 : Int32))])) rfl rfl (hb hby d1_10) _ (by rw [len_of S37 P37]; exact k)) ?_
  show Ends p e below QQ (T36.setTop (mkF m 11 #[.val (.int (7 : Int32)), .val .null] [(.int (17 : Int32)), (.int (7 : Int32))]))
  refine Ends.step (fun _ k => XS.icmpNo X36.here hx rfl (hb hby d1_11) rfl (XT.ii_ge_f (by decide)) k) ?_
  show Ends p e below QQ (T36.setTop (mkF m 14 #[.val (.int (7 : Int32)), .val .null] []))
  obtain ⟨T38, X38, e38, st38⟩ := getS2 X36 hx hZ hown (host := "") (Or.inl (hw _ (List.mem_of_getElem? (i := 4) rfl))) Via.refl e36 S_BY_CODE (g := (mkF m 14 #[.val (.int (7 : Int32)), .val .null] [])) rfl (hb hby d1_14)
  refine Ends.step st38 ?_
  show Ends p e below QQ (T38.setTop (mkF m 17 #[.val (.int (7 : Int32)), .val .null] [(.ref a_BY_CODE)]))
  refine Ends.step (fun _ k => XS.iloadN X38.here hx rfl (hb hby d1_17) rfl k) ?_
  show Ends p e below QQ (T38.setTop (mkF m 18 #[.val (.int (7 : Int32)), .val .null] [(.int (7 : Int32)), (.ref a_BY_CODE)]))
  obtain ⟨cl39, Ar39, q39, S39, P39, H39, G39⟩ := id A_a_BY_CODE
  have hin39 : ¬ ((7 : Int32) < 0 ∨ cl39.slots.size ≤ ((7 : Int32)).toNatClampNeg) := inb_of S39 ⟨by decide, by decide⟩
  have hat39 : cl39.slots[((7 : Int32)).toNatClampNeg]? = some (.ref a_QUERY) := H39.at hin39 (rfl)
  refine Ends.step (fun _ k => X38.aaload hx (j := (7 : Int32)) (v := (.ref a_QUERY)) (by rw [e38]; exact Ar39.1) (State.isArrayOf_alike hZ.alike Ar39.2.1) rfl Ar39.2.2 hin39 hat39 (g := (mkF m 18 #[.val (.int (7 : Int32)), .val .null] [(.int (7 : Int32)), (.ref a_BY_CODE)])) rfl rfl (hb hby d1_18) _ k) ?_
  show Ends p e below QQ (T38.setTop (mkF m 19 #[.val (.int (7 : Int32)), .val .null] [(.ref a_QUERY)]))
  refine Ends.step (fun _ k => XS.astoreN X38.here hx rfl (hb hby d1_19) rfl rfl (l' := #[.val (.int (7 : Int32)), .val (.ref a_QUERY)]) rfl k) ?_
  show Ends p e below QQ (T38.setTop (mkF m 20 #[.val (.int (7 : Int32)), .val (.ref a_QUERY)] []))
  refine Ends.step (fun _ k => XS.aloadN X38.here hx rfl (hb hby d1_20) rfl rfl k) ?_
  show Ends p e below QQ (T38.setTop (mkF m 21 #[.val (.int (7 : Int32)), .val (.ref a_QUERY)] [(.ref a_QUERY)]))
  exact Ends.fin (some (.ref a_QUERY)) X38 hQQ (fun h => by rw [Bd.returns] at h; cases h) Bd.notSynchronized (fun _ hr => retOut X38 hx (t := (.object "com/example/nuntius/nuntius/protocol/Opcode")) Bd.returns rfl (Or.inr (Or.inr (Or.inr (Or.inr ⟨rfl, rfl, rfl⟩)))) (hb hby d1_21) hr) e38 (by decide) (by decide) ⟨rfl, N0, rfl⟩
theorem d2_60 : decode method_2_code 60 = .ok (.getstatic 28, 3) := by decide +kernel
theorem d2_63 : decode method_2_code 63 = .ok (.areturn, 1) := by decide +kernel
theorem ef_2_7 (m : MethodId)  : entryFrame m #[(.int (7 : Int32))] 1 = mkF m 0 #[.val (.int (7 : Int32))] [] := by first | (simp [entryFrame, mkF, argsToLocals, Value.category]; done) | rfl
def Q2_7 (Z : State) (a_QUERY : Addr) (h0 : Heap) (n0 : Nat) (v : Option Value) (h : Heap) (L : List Loc) : Prop := (v = some (.ref a_QUERY)) ∧ (Fr n0 L) ∧ (h = h0)
set_option maxRecDepth 65536 in
set_option maxHeartbeats 40000000 in
theorem rm2_7 (l : Launch) (Z : State) (a0 : Array Value) (hw : ∀ d ∈ tables_1, d.before a0 Z = true) (ws : List Jvm.Cond) (a_QUERY : Addr) (h0 : Heap) (n0 : Nat) (Z0 : n0 ≤ h0.size) (S_QUERY : Sta Z h0 "com/example/nuntius/nuntius/protocol/Opcode" "QUERY" "Lcom/example/nuntius/nuntius/protocol/Opcode;" (.ref a_QUERY)) :
    MetFree l (⟨"com/example/nuntius/nuntius/protocol/OpcodeOfCodePinLaw", "expected", "(I)Lcom/example/nuntius/nuntius/protocol/Opcode;"⟩ : MethodName) (head1 (Jvm.Cond.code (⟨"com/example/nuntius/nuntius/protocol/OpcodeOfCodePinLaw", "expected", "(I)Lcom/example/nuntius/nuntius/protocol/Opcode;"⟩ : MethodName) method_2_code 1 (some (.object "com/example/nuntius/nuntius/protocol/Opcode")) :: ws) ({ frames := 0, cells := 0, slots := 0, locals := 0 } : Room)) (fun a U => a = #[(.int (7 : Int32))] ∧ Z.Warmed39 U.vm ∧ U.heap = h0) (fun _ _ _ _ _ => True) (fun _ U o U' => ∃ v L, o = .returned v ∧ Q2_7 Z a_QUERY h0 n0 v U'.heap L ∧ FrameEnd U o U' L ({ frames := 0, cells := 0, slots := 0, locals := 0 } : Room).cells ({ frames := 0, cells := 0, slots := 0, locals := 0 } : Room).slots) := by
  refine MetFree.of_bodySF (plainFor_of_name pn_1) hisR ?_
  intro p e s m args below meth c s₁ Bd hml0 hP hK
  obtain ⟨rfl, hZ, hh⟩ := hP
  have hx := Bd.exec
  have hby := Bd.bytes
  have hml : c.maxLocals = 1 := hml0
  have hown : s.vm.findClass "com/example/nuntius/nuntius/protocol/OpcodeOfCodePinLaw" = some m.cls := findClass_of_methodNamed Bd.named
  have hnm := (name_of_methodNamed Bd.named Bd.method).1
  have X0 : Stand p l e ({ frames := 0, cells := 0, slots := 0, locals := 0 } : Room) s m #[(.int (7 : Int32))] below meth c s₁ [] 0 0 := Stand.of_body Bd
  have e0 : s₁.heap = h0 := by rw [← hh, Bd.state]; rfl
  have N0 := Fr.nil n0
  refine Ends.opn ?_
  intro QQ hQQ
  refine Ends.step (S' := s₁.setTop (mkF m 0 #[.val (.int (7 : Int32))] [])) (fun t k => castTop (ef_2_7 m ) k) ?_
  show Ends p e below QQ (s₁.setTop (mkF m 0 #[.val (.int (7 : Int32))] []))
  refine Ends.step (fun _ k => XS.iloadN X0.here hx rfl (hb hby d2_0) rfl k) ?_
  show Ends p e below QQ (s₁.setTop (mkF m 1 #[.val (.int (7 : Int32))] [(.int (7 : Int32))]))
  refine Ends.step (fun _ k => XS.ifYes X0.here hx rfl (pc0 := 1) (pc' := 8) rfl (hb hby d2_1) rfl (XT.i0_ne_t (by decide)) (by decide) (by decide) k) ?_
  show Ends p e below QQ (s₁.setTop (mkF m 8 #[.val (.int (7 : Int32))] []))
  refine Ends.step (fun _ k => XS.iloadN X0.here hx rfl (hb hby d2_8) rfl k) ?_
  show Ends p e below QQ (s₁.setTop (mkF m 9 #[.val (.int (7 : Int32))] [(.int (7 : Int32))]))
  refine Ends.step (fun _ k => XT.iconstV X0.here hx rfl (1 : Int32) (hb hby d2_9) rfl k) ?_
  show Ends p e below QQ (s₁.setTop (mkF m 10 #[.val (.int (7 : Int32))] [(.int (1 : Int32)), (.int (7 : Int32))]))
  refine Ends.step (fun _ k => XS.icmpYes X0.here hx rfl (pc0 := 10) (pc' := 17) rfl (hb hby d2_10) rfl (XT.ii_ne_t (by decide)) (by decide) (by decide) k) ?_
  show Ends p e below QQ (s₁.setTop (mkF m 17 #[.val (.int (7 : Int32))] []))
  refine Ends.step (fun _ k => XS.iloadN X0.here hx rfl (hb hby d2_17) rfl k) ?_
  show Ends p e below QQ (s₁.setTop (mkF m 18 #[.val (.int (7 : Int32))] [(.int (7 : Int32))]))
  refine Ends.step (fun _ k => XT.iconstV X0.here hx rfl (2 : Int32) (hb hby d2_18) rfl k) ?_
  show Ends p e below QQ (s₁.setTop (mkF m 19 #[.val (.int (7 : Int32))] [(.int (2 : Int32)), (.int (7 : Int32))]))
  refine Ends.step (fun _ k => XS.icmpYes X0.here hx rfl (pc0 := 19) (pc' := 26) rfl (hb hby d2_19) rfl (XT.ii_ne_t (by decide)) (by decide) (by decide) k) ?_
  show Ends p e below QQ (s₁.setTop (mkF m 26 #[.val (.int (7 : Int32))] []))
  refine Ends.step (fun _ k => XS.iloadN X0.here hx rfl (hb hby d2_26) rfl k) ?_
  show Ends p e below QQ (s₁.setTop (mkF m 27 #[.val (.int (7 : Int32))] [(.int (7 : Int32))]))
  refine Ends.step (fun _ k => XT.iconstV X0.here hx rfl (3 : Int32) (hb hby d2_27) rfl k) ?_
  show Ends p e below QQ (s₁.setTop (mkF m 28 #[.val (.int (7 : Int32))] [(.int (3 : Int32)), (.int (7 : Int32))]))
  refine Ends.step (fun _ k => XS.icmpYes X0.here hx rfl (pc0 := 28) (pc' := 35) rfl (hb hby d2_28) rfl (XT.ii_ne_t (by decide)) (by decide) (by decide) k) ?_
  show Ends p e below QQ (s₁.setTop (mkF m 35 #[.val (.int (7 : Int32))] []))
  refine Ends.step (fun _ k => XS.iloadN X0.here hx rfl (hb hby d2_35) rfl k) ?_
  show Ends p e below QQ (s₁.setTop (mkF m 36 #[.val (.int (7 : Int32))] [(.int (7 : Int32))]))
  refine Ends.step (fun _ k => XT.iconstV X0.here hx rfl (5 : Int32) (hb hby d2_36) rfl k) ?_
  show Ends p e below QQ (s₁.setTop (mkF m 37 #[.val (.int (7 : Int32))] [(.int (5 : Int32)), (.int (7 : Int32))]))
  refine Ends.step (fun _ k => XS.icmpYes X0.here hx rfl (pc0 := 37) (pc' := 44) rfl (hb hby d2_37) rfl (XT.ii_ne_t (by decide)) (by decide) (by decide) k) ?_
  show Ends p e below QQ (s₁.setTop (mkF m 44 #[.val (.int (7 : Int32))] []))
  refine Ends.step (fun _ k => XS.iloadN X0.here hx rfl (hb hby d2_44) rfl k) ?_
  show Ends p e below QQ (s₁.setTop (mkF m 45 #[.val (.int (7 : Int32))] [(.int (7 : Int32))]))
  refine Ends.step (fun _ k => XT.bipushV X0.here hx rfl (6 : Int32) (hb hby d2_45) rfl k) ?_
  show Ends p e below QQ (s₁.setTop (mkF m 47 #[.val (.int (7 : Int32))] [(.int (6 : Int32)), (.int (7 : Int32))]))
  refine Ends.step (fun _ k => XS.icmpYes X0.here hx rfl (pc0 := 47) (pc' := 54) rfl (hb hby d2_47) rfl (XT.ii_ne_t (by decide)) (by decide) (by decide) k) ?_
  show Ends p e below QQ (s₁.setTop (mkF m 54 #[.val (.int (7 : Int32))] []))
  refine Ends.step (fun _ k => XS.iloadN X0.here hx rfl (hb hby d2_54) rfl k) ?_
  show Ends p e below QQ (s₁.setTop (mkF m 55 #[.val (.int (7 : Int32))] [(.int (7 : Int32))]))
  refine Ends.step (fun _ k => XT.bipushV X0.here hx rfl (7 : Int32) (hb hby d2_55) rfl k) ?_
  show Ends p e below QQ (s₁.setTop (mkF m 57 #[.val (.int (7 : Int32))] [(.int (7 : Int32)), (.int (7 : Int32))]))
  refine Ends.step (fun _ k => XS.icmpNo X0.here hx rfl (hb hby d2_57) rfl (XT.ii_ne_f (by decide)) k) ?_
  show Ends p e below QQ (s₁.setTop (mkF m 60 #[.val (.int (7 : Int32))] []))
  obtain ⟨T40, X40, e40, st40⟩ := getS2 X0 hx hZ hown (host := "") (Or.inl (hw _ (List.mem_of_getElem? (i := 44) rfl))) Via.refl e0 S_QUERY (g := (mkF m 60 #[.val (.int (7 : Int32))] [])) rfl (hb hby d2_60)
  refine Ends.step st40 ?_
  show Ends p e below QQ (T40.setTop (mkF m 63 #[.val (.int (7 : Int32))] [(.ref a_QUERY)]))
  exact Ends.fin (some (.ref a_QUERY)) X40 hQQ (fun h => by rw [Bd.returns] at h; cases h) Bd.notSynchronized (fun _ hr => retOut X40 hx (t := (.object "com/example/nuntius/nuntius/protocol/Opcode")) Bd.returns rfl (Or.inr (Or.inr (Or.inr (Or.inr ⟨rfl, rfl, rfl⟩)))) (hb hby d2_63) hr) e40 (by decide) (by decide) ⟨rfl, N0, rfl⟩
theorem ef_1_8 (m : MethodId)  : entryFrame m #[(.int (8 : Int32))] 2 = mkF m 0 #[.val (.int (8 : Int32)), .unset] [] := by first | (simp [entryFrame, mkF, argsToLocals, Value.category]; done) | rfl
def Q1_8 (Z : State) (a_BY_CODE : Addr) (a_ERROR : Addr) (a_AUTH_CHALLENGE : Addr) (a_SUPPORTED : Addr) (a_RESULT : Addr) (a_EVENT : Addr) (a_AUTHENTICATE : Addr) (a_EXECUTE : Addr) (a_AUTH_SUCCESS : Addr) (a_OPTIONS : Addr) (a_STARTUP : Addr) (a_PREPARE : Addr) (a_REGISTER : Addr) (a_READY : Addr) (a_QUERY : Addr) (a_AUTH_RESPONSE : Addr) (a_BATCH : Addr) (k_a_BY_CODE : ClassId) (h0 : Heap) (n0 : Nat) (v : Option Value) (h : Heap) (L : List Loc) : Prop := (v = some (.ref a_RESULT)) ∧ (Fr n0 L) ∧ (h = h0)
set_option maxRecDepth 65536 in
set_option maxHeartbeats 40000000 in
theorem rm1_8 (l : Launch) (Z : State) (a0 : Array Value) (hw : ∀ d ∈ tables_1, d.before a0 Z = true) (ws : List Jvm.Cond) (a_BY_CODE : Addr) (a_ERROR : Addr) (a_AUTH_CHALLENGE : Addr) (a_SUPPORTED : Addr) (a_RESULT : Addr) (a_EVENT : Addr) (a_AUTHENTICATE : Addr) (a_EXECUTE : Addr) (a_AUTH_SUCCESS : Addr) (a_OPTIONS : Addr) (a_STARTUP : Addr) (a_PREPARE : Addr) (a_REGISTER : Addr) (a_READY : Addr) (a_QUERY : Addr) (a_AUTH_RESPONSE : Addr) (a_BATCH : Addr) (k_a_BY_CODE : ClassId) (h0 : Heap) (n0 : Nat) (Z0 : n0 ≤ h0.size) (A_a_BY_CODE : Arv Z h0 a_BY_CODE k_a_BY_CODE (.object "com/example/nuntius/nuntius/protocol/Opcode") (17 : Int32) [(.ref a_ERROR), (.ref a_STARTUP), (.ref a_READY), (.ref a_AUTHENTICATE), .null, (.ref a_OPTIONS), (.ref a_SUPPORTED), (.ref a_QUERY), (.ref a_RESULT), (.ref a_PREPARE), (.ref a_EXECUTE), (.ref a_REGISTER), (.ref a_EVENT), (.ref a_BATCH), (.ref a_AUTH_CHALLENGE), (.ref a_AUTH_RESPONSE), (.ref a_AUTH_SUCCESS)] .null) (S_BY_CODE : Sta Z h0 "com/example/nuntius/nuntius/protocol/Opcode" "BY_CODE" "[Lcom/example/nuntius/nuntius/protocol/Opcode;" (.ref a_BY_CODE)) :
    MetFree l (⟨"com/example/nuntius/nuntius/protocol/Opcode", "ofCode", "(I)Lcom/example/nuntius/nuntius/protocol/Opcode;"⟩ : MethodName) (head1 (Jvm.Cond.code (⟨"com/example/nuntius/nuntius/protocol/Opcode", "ofCode", "(I)Lcom/example/nuntius/nuntius/protocol/Opcode;"⟩ : MethodName) prog_43_method_5_code 2 (some (.object "com/example/nuntius/nuntius/protocol/Opcode")) :: ws) ({ frames := 0, cells := 0, slots := 0, locals := 0 } : Room)) (fun a U => a = #[(.int (8 : Int32))] ∧ Z.Warmed39 U.vm ∧ U.heap = h0) (fun _ _ _ _ _ => True) (fun _ U o U' => ∃ v L, o = .returned v ∧ Q1_8 Z a_BY_CODE a_ERROR a_AUTH_CHALLENGE a_SUPPORTED a_RESULT a_EVENT a_AUTHENTICATE a_EXECUTE a_AUTH_SUCCESS a_OPTIONS a_STARTUP a_PREPARE a_REGISTER a_READY a_QUERY a_AUTH_RESPONSE a_BATCH k_a_BY_CODE h0 n0 v U'.heap L ∧ FrameEnd U o U' L ({ frames := 0, cells := 0, slots := 0, locals := 0 } : Room).cells ({ frames := 0, cells := 0, slots := 0, locals := 0 } : Room).slots) := by
  refine MetFree.of_bodySF (plainFor_of_name pn_0) hisR ?_
  intro p e s m args below meth c s₁ Bd hml0 hP hK
  obtain ⟨rfl, hZ, hh⟩ := hP
  have hx := Bd.exec
  have hby := Bd.bytes
  have hml : c.maxLocals = 2 := hml0
  have hown : s.vm.findClass "com/example/nuntius/nuntius/protocol/Opcode" = some m.cls := findClass_of_methodNamed Bd.named
  have hnm := (name_of_methodNamed Bd.named Bd.method).1
  have X0 : Stand p l e ({ frames := 0, cells := 0, slots := 0, locals := 0 } : Room) s m #[(.int (8 : Int32))] below meth c s₁ [] 0 0 := Stand.of_body Bd
  have e0 : s₁.heap = h0 := by rw [← hh, Bd.state]; rfl
  have N0 := Fr.nil n0
  refine Ends.opn ?_
  intro QQ hQQ
  refine Ends.step (S' := s₁.setTop (mkF m 0 #[.val (.int (8 : Int32)), .unset] [])) (fun t k => castTop (ef_1_8 m ) k) ?_
  show Ends p e below QQ (s₁.setTop (mkF m 0 #[.val (.int (8 : Int32)), .unset] []))
  refine Ends.step (fun _ k => XS.aconstNull X0.here hx rfl (hb hby d1_0) k) ?_
  show Ends p e below QQ (s₁.setTop (mkF m 1 #[.val (.int (8 : Int32)), .unset] [.null]))
  refine Ends.step (fun _ k => XS.astoreN X0.here hx rfl (hb hby d1_1) rfl rfl (l' := #[.val (.int (8 : Int32)), .val .null]) rfl k) ?_
  show Ends p e below QQ (s₁.setTop (mkF m 2 #[.val (.int (8 : Int32)), .val .null] []))
  refine Ends.step (fun _ k => XS.iloadN X0.here hx rfl (hb hby d1_2) rfl k) ?_
  show Ends p e below QQ (s₁.setTop (mkF m 3 #[.val (.int (8 : Int32)), .val .null] [(.int (8 : Int32))]))
  refine Ends.step (fun _ k => XS.ifNo X0.here hx rfl (hb hby d1_3) rfl (XT.i0_lt_f (by decide)) k) ?_
  show Ends p e below QQ (s₁.setTop (mkF m 6 #[.val (.int (8 : Int32)), .val .null] []))
  refine Ends.step (fun _ k => XS.iloadN X0.here hx rfl (hb hby d1_6) rfl k) ?_
  show Ends p e below QQ (s₁.setTop (mkF m 7 #[.val (.int (8 : Int32)), .val .null] [(.int (8 : Int32))]))
  obtain ⟨T41, X41, e41, st41⟩ := getS2 X0 hx hZ hown (host := "") (Or.inl (hw _ (List.mem_of_getElem? (i := 4) rfl))) Via.refl e0 S_BY_CODE (g := (mkF m 7 #[.val (.int (8 : Int32)), .val .null] [(.int (8 : Int32))])) rfl (hb hby d1_7)
  refine Ends.step st41 ?_
  show Ends p e below QQ (T41.setTop (mkF m 10 #[.val (.int (8 : Int32)), .val .null] [(.ref a_BY_CODE), (.int (8 : Int32))]))
  obtain ⟨cl42, Ar42, -, S42, P42, -, -⟩ := id A_a_BY_CODE
  refine Ends.step (S' := T41.setTop (mkF m 11 #[.val (.int (8 : Int32)), .val .null] [(.int (17 : Int32)), (.int (8 : Int32))])) (fun _ k => X41.arraylength hx (by rw [e41]; exact Ar42.1) (State.isArrayOf_alike hZ.alike Ar42.2.1) (g := (mkF m 10 #[.val (.int (8 : Int32)), .val .null] [(.ref a_BY_CODE), (.int (8 : Int32))])) rfl rfl (hb hby d1_10) _ (by rw [len_of S42 P42]; exact k)) ?_
  show Ends p e below QQ (T41.setTop (mkF m 11 #[.val (.int (8 : Int32)), .val .null] [(.int (17 : Int32)), (.int (8 : Int32))]))
  refine Ends.step (fun _ k => XS.icmpNo X41.here hx rfl (hb hby d1_11) rfl (XT.ii_ge_f (by decide)) k) ?_
  show Ends p e below QQ (T41.setTop (mkF m 14 #[.val (.int (8 : Int32)), .val .null] []))
  obtain ⟨T43, X43, e43, st43⟩ := getS2 X41 hx hZ hown (host := "") (Or.inl (hw _ (List.mem_of_getElem? (i := 4) rfl))) Via.refl e41 S_BY_CODE (g := (mkF m 14 #[.val (.int (8 : Int32)), .val .null] [])) rfl (hb hby d1_14)
  refine Ends.step st43 ?_
  show Ends p e below QQ (T43.setTop (mkF m 17 #[.val (.int (8 : Int32)), .val .null] [(.ref a_BY_CODE)]))
  refine Ends.step (fun _ k => XS.iloadN X43.here hx rfl (hb hby d1_17) rfl k) ?_
  show Ends p e below QQ (T43.setTop (mkF m 18 #[.val (.int (8 : Int32)), .val .null] [(.int (8 : Int32)), (.ref a_BY_CODE)]))
  obtain ⟨cl44, Ar44, q44, S44, P44, H44, G44⟩ := id A_a_BY_CODE
  have hin44 : ¬ ((8 : Int32) < 0 ∨ cl44.slots.size ≤ ((8 : Int32)).toNatClampNeg) := inb_of S44 ⟨by decide, by decide⟩
  have hat44 : cl44.slots[((8 : Int32)).toNatClampNeg]? = some (.ref a_RESULT) := H44.at hin44 (rfl)
  refine Ends.step (fun _ k => X43.aaload hx (j := (8 : Int32)) (v := (.ref a_RESULT)) (by rw [e43]; exact Ar44.1) (State.isArrayOf_alike hZ.alike Ar44.2.1) rfl Ar44.2.2 hin44 hat44 (g := (mkF m 18 #[.val (.int (8 : Int32)), .val .null] [(.int (8 : Int32)), (.ref a_BY_CODE)])) rfl rfl (hb hby d1_18) _ k) ?_
  show Ends p e below QQ (T43.setTop (mkF m 19 #[.val (.int (8 : Int32)), .val .null] [(.ref a_RESULT)]))
  refine Ends.step (fun _ k => XS.astoreN X43.here hx rfl (hb hby d1_19) rfl rfl (l' := #[.val (.int (8 : Int32)), .val (.ref a_RESULT)]) rfl k) ?_
  show Ends p e below QQ (T43.setTop (mkF m 20 #[.val (.int (8 : Int32)), .val (.ref a_RESULT)] []))
  refine Ends.step (fun _ k => XS.aloadN X43.here hx rfl (hb hby d1_20) rfl rfl k) ?_
  show Ends p e below QQ (T43.setTop (mkF m 21 #[.val (.int (8 : Int32)), .val (.ref a_RESULT)] [(.ref a_RESULT)]))
  exact Ends.fin (some (.ref a_RESULT)) X43 hQQ (fun h => by rw [Bd.returns] at h; cases h) Bd.notSynchronized (fun _ hr => retOut X43 hx (t := (.object "com/example/nuntius/nuntius/protocol/Opcode")) Bd.returns rfl (Or.inr (Or.inr (Or.inr (Or.inr ⟨rfl, rfl, rfl⟩)))) (hb hby d1_21) hr) e43 (by decide) (by decide) ⟨rfl, N0, rfl⟩
theorem d2_70 : decode method_2_code 70 = .ok (.getstatic 31, 3) := by decide +kernel
theorem d2_73 : decode method_2_code 73 = .ok (.areturn, 1) := by decide +kernel
theorem ef_2_8 (m : MethodId)  : entryFrame m #[(.int (8 : Int32))] 1 = mkF m 0 #[.val (.int (8 : Int32))] [] := by first | (simp [entryFrame, mkF, argsToLocals, Value.category]; done) | rfl
def Q2_8 (Z : State) (a_RESULT : Addr) (h0 : Heap) (n0 : Nat) (v : Option Value) (h : Heap) (L : List Loc) : Prop := (v = some (.ref a_RESULT)) ∧ (Fr n0 L) ∧ (h = h0)
set_option maxRecDepth 65536 in
set_option maxHeartbeats 40000000 in
theorem rm2_8 (l : Launch) (Z : State) (a0 : Array Value) (hw : ∀ d ∈ tables_1, d.before a0 Z = true) (ws : List Jvm.Cond) (a_RESULT : Addr) (h0 : Heap) (n0 : Nat) (Z0 : n0 ≤ h0.size) (S_RESULT : Sta Z h0 "com/example/nuntius/nuntius/protocol/Opcode" "RESULT" "Lcom/example/nuntius/nuntius/protocol/Opcode;" (.ref a_RESULT)) :
    MetFree l (⟨"com/example/nuntius/nuntius/protocol/OpcodeOfCodePinLaw", "expected", "(I)Lcom/example/nuntius/nuntius/protocol/Opcode;"⟩ : MethodName) (head1 (Jvm.Cond.code (⟨"com/example/nuntius/nuntius/protocol/OpcodeOfCodePinLaw", "expected", "(I)Lcom/example/nuntius/nuntius/protocol/Opcode;"⟩ : MethodName) method_2_code 1 (some (.object "com/example/nuntius/nuntius/protocol/Opcode")) :: ws) ({ frames := 0, cells := 0, slots := 0, locals := 0 } : Room)) (fun a U => a = #[(.int (8 : Int32))] ∧ Z.Warmed39 U.vm ∧ U.heap = h0) (fun _ _ _ _ _ => True) (fun _ U o U' => ∃ v L, o = .returned v ∧ Q2_8 Z a_RESULT h0 n0 v U'.heap L ∧ FrameEnd U o U' L ({ frames := 0, cells := 0, slots := 0, locals := 0 } : Room).cells ({ frames := 0, cells := 0, slots := 0, locals := 0 } : Room).slots) := by
  refine MetFree.of_bodySF (plainFor_of_name pn_1) hisR ?_
  intro p e s m args below meth c s₁ Bd hml0 hP hK
  obtain ⟨rfl, hZ, hh⟩ := hP
  have hx := Bd.exec
  have hby := Bd.bytes
  have hml : c.maxLocals = 1 := hml0
  have hown : s.vm.findClass "com/example/nuntius/nuntius/protocol/OpcodeOfCodePinLaw" = some m.cls := findClass_of_methodNamed Bd.named
  have hnm := (name_of_methodNamed Bd.named Bd.method).1
  have X0 : Stand p l e ({ frames := 0, cells := 0, slots := 0, locals := 0 } : Room) s m #[(.int (8 : Int32))] below meth c s₁ [] 0 0 := Stand.of_body Bd
  have e0 : s₁.heap = h0 := by rw [← hh, Bd.state]; rfl
  have N0 := Fr.nil n0
  refine Ends.opn ?_
  intro QQ hQQ
  refine Ends.step (S' := s₁.setTop (mkF m 0 #[.val (.int (8 : Int32))] [])) (fun t k => castTop (ef_2_8 m ) k) ?_
  show Ends p e below QQ (s₁.setTop (mkF m 0 #[.val (.int (8 : Int32))] []))
  refine Ends.step (fun _ k => XS.iloadN X0.here hx rfl (hb hby d2_0) rfl k) ?_
  show Ends p e below QQ (s₁.setTop (mkF m 1 #[.val (.int (8 : Int32))] [(.int (8 : Int32))]))
  refine Ends.step (fun _ k => XS.ifYes X0.here hx rfl (pc0 := 1) (pc' := 8) rfl (hb hby d2_1) rfl (XT.i0_ne_t (by decide)) (by decide) (by decide) k) ?_
  show Ends p e below QQ (s₁.setTop (mkF m 8 #[.val (.int (8 : Int32))] []))
  refine Ends.step (fun _ k => XS.iloadN X0.here hx rfl (hb hby d2_8) rfl k) ?_
  show Ends p e below QQ (s₁.setTop (mkF m 9 #[.val (.int (8 : Int32))] [(.int (8 : Int32))]))
  refine Ends.step (fun _ k => XT.iconstV X0.here hx rfl (1 : Int32) (hb hby d2_9) rfl k) ?_
  show Ends p e below QQ (s₁.setTop (mkF m 10 #[.val (.int (8 : Int32))] [(.int (1 : Int32)), (.int (8 : Int32))]))
  refine Ends.step (fun _ k => XS.icmpYes X0.here hx rfl (pc0 := 10) (pc' := 17) rfl (hb hby d2_10) rfl (XT.ii_ne_t (by decide)) (by decide) (by decide) k) ?_
  show Ends p e below QQ (s₁.setTop (mkF m 17 #[.val (.int (8 : Int32))] []))
  refine Ends.step (fun _ k => XS.iloadN X0.here hx rfl (hb hby d2_17) rfl k) ?_
  show Ends p e below QQ (s₁.setTop (mkF m 18 #[.val (.int (8 : Int32))] [(.int (8 : Int32))]))
  refine Ends.step (fun _ k => XT.iconstV X0.here hx rfl (2 : Int32) (hb hby d2_18) rfl k) ?_
  show Ends p e below QQ (s₁.setTop (mkF m 19 #[.val (.int (8 : Int32))] [(.int (2 : Int32)), (.int (8 : Int32))]))
  refine Ends.step (fun _ k => XS.icmpYes X0.here hx rfl (pc0 := 19) (pc' := 26) rfl (hb hby d2_19) rfl (XT.ii_ne_t (by decide)) (by decide) (by decide) k) ?_
  show Ends p e below QQ (s₁.setTop (mkF m 26 #[.val (.int (8 : Int32))] []))
  refine Ends.step (fun _ k => XS.iloadN X0.here hx rfl (hb hby d2_26) rfl k) ?_
  show Ends p e below QQ (s₁.setTop (mkF m 27 #[.val (.int (8 : Int32))] [(.int (8 : Int32))]))
  refine Ends.step (fun _ k => XT.iconstV X0.here hx rfl (3 : Int32) (hb hby d2_27) rfl k) ?_
  show Ends p e below QQ (s₁.setTop (mkF m 28 #[.val (.int (8 : Int32))] [(.int (3 : Int32)), (.int (8 : Int32))]))
  refine Ends.step (fun _ k => XS.icmpYes X0.here hx rfl (pc0 := 28) (pc' := 35) rfl (hb hby d2_28) rfl (XT.ii_ne_t (by decide)) (by decide) (by decide) k) ?_
  show Ends p e below QQ (s₁.setTop (mkF m 35 #[.val (.int (8 : Int32))] []))
  refine Ends.step (fun _ k => XS.iloadN X0.here hx rfl (hb hby d2_35) rfl k) ?_
  show Ends p e below QQ (s₁.setTop (mkF m 36 #[.val (.int (8 : Int32))] [(.int (8 : Int32))]))
  refine Ends.step (fun _ k => XT.iconstV X0.here hx rfl (5 : Int32) (hb hby d2_36) rfl k) ?_
  show Ends p e below QQ (s₁.setTop (mkF m 37 #[.val (.int (8 : Int32))] [(.int (5 : Int32)), (.int (8 : Int32))]))
  refine Ends.step (fun _ k => XS.icmpYes X0.here hx rfl (pc0 := 37) (pc' := 44) rfl (hb hby d2_37) rfl (XT.ii_ne_t (by decide)) (by decide) (by decide) k) ?_
  show Ends p e below QQ (s₁.setTop (mkF m 44 #[.val (.int (8 : Int32))] []))
  refine Ends.step (fun _ k => XS.iloadN X0.here hx rfl (hb hby d2_44) rfl k) ?_
  show Ends p e below QQ (s₁.setTop (mkF m 45 #[.val (.int (8 : Int32))] [(.int (8 : Int32))]))
  refine Ends.step (fun _ k => XT.bipushV X0.here hx rfl (6 : Int32) (hb hby d2_45) rfl k) ?_
  show Ends p e below QQ (s₁.setTop (mkF m 47 #[.val (.int (8 : Int32))] [(.int (6 : Int32)), (.int (8 : Int32))]))
  refine Ends.step (fun _ k => XS.icmpYes X0.here hx rfl (pc0 := 47) (pc' := 54) rfl (hb hby d2_47) rfl (XT.ii_ne_t (by decide)) (by decide) (by decide) k) ?_
  show Ends p e below QQ (s₁.setTop (mkF m 54 #[.val (.int (8 : Int32))] []))
  refine Ends.step (fun _ k => XS.iloadN X0.here hx rfl (hb hby d2_54) rfl k) ?_
  show Ends p e below QQ (s₁.setTop (mkF m 55 #[.val (.int (8 : Int32))] [(.int (8 : Int32))]))
  refine Ends.step (fun _ k => XT.bipushV X0.here hx rfl (7 : Int32) (hb hby d2_55) rfl k) ?_
  show Ends p e below QQ (s₁.setTop (mkF m 57 #[.val (.int (8 : Int32))] [(.int (7 : Int32)), (.int (8 : Int32))]))
  refine Ends.step (fun _ k => XS.icmpYes X0.here hx rfl (pc0 := 57) (pc' := 64) rfl (hb hby d2_57) rfl (XT.ii_ne_t (by decide)) (by decide) (by decide) k) ?_
  show Ends p e below QQ (s₁.setTop (mkF m 64 #[.val (.int (8 : Int32))] []))
  refine Ends.step (fun _ k => XS.iloadN X0.here hx rfl (hb hby d2_64) rfl k) ?_
  show Ends p e below QQ (s₁.setTop (mkF m 65 #[.val (.int (8 : Int32))] [(.int (8 : Int32))]))
  refine Ends.step (fun _ k => XT.bipushV X0.here hx rfl (8 : Int32) (hb hby d2_65) rfl k) ?_
  show Ends p e below QQ (s₁.setTop (mkF m 67 #[.val (.int (8 : Int32))] [(.int (8 : Int32)), (.int (8 : Int32))]))
  refine Ends.step (fun _ k => XS.icmpNo X0.here hx rfl (hb hby d2_67) rfl (XT.ii_ne_f (by decide)) k) ?_
  show Ends p e below QQ (s₁.setTop (mkF m 70 #[.val (.int (8 : Int32))] []))
  obtain ⟨T45, X45, e45, st45⟩ := getS2 X0 hx hZ hown (host := "") (Or.inl (hw _ (List.mem_of_getElem? (i := 24) rfl))) Via.refl e0 S_RESULT (g := (mkF m 70 #[.val (.int (8 : Int32))] [])) rfl (hb hby d2_70)
  refine Ends.step st45 ?_
  show Ends p e below QQ (T45.setTop (mkF m 73 #[.val (.int (8 : Int32))] [(.ref a_RESULT)]))
  exact Ends.fin (some (.ref a_RESULT)) X45 hQQ (fun h => by rw [Bd.returns] at h; cases h) Bd.notSynchronized (fun _ hr => retOut X45 hx (t := (.object "com/example/nuntius/nuntius/protocol/Opcode")) Bd.returns rfl (Or.inr (Or.inr (Or.inr (Or.inr ⟨rfl, rfl, rfl⟩)))) (hb hby d2_73) hr) e45 (by decide) (by decide) ⟨rfl, N0, rfl⟩
theorem ef_1_9 (m : MethodId)  : entryFrame m #[(.int (9 : Int32))] 2 = mkF m 0 #[.val (.int (9 : Int32)), .unset] [] := by first | (simp [entryFrame, mkF, argsToLocals, Value.category]; done) | rfl
def Q1_9 (Z : State) (a_BY_CODE : Addr) (a_ERROR : Addr) (a_AUTH_CHALLENGE : Addr) (a_SUPPORTED : Addr) (a_RESULT : Addr) (a_EVENT : Addr) (a_AUTHENTICATE : Addr) (a_EXECUTE : Addr) (a_AUTH_SUCCESS : Addr) (a_OPTIONS : Addr) (a_STARTUP : Addr) (a_PREPARE : Addr) (a_REGISTER : Addr) (a_READY : Addr) (a_QUERY : Addr) (a_AUTH_RESPONSE : Addr) (a_BATCH : Addr) (k_a_BY_CODE : ClassId) (h0 : Heap) (n0 : Nat) (v : Option Value) (h : Heap) (L : List Loc) : Prop := (v = some (.ref a_PREPARE)) ∧ (Fr n0 L) ∧ (h = h0)
set_option maxRecDepth 65536 in
set_option maxHeartbeats 40000000 in
theorem rm1_9 (l : Launch) (Z : State) (a0 : Array Value) (hw : ∀ d ∈ tables_1, d.before a0 Z = true) (ws : List Jvm.Cond) (a_BY_CODE : Addr) (a_ERROR : Addr) (a_AUTH_CHALLENGE : Addr) (a_SUPPORTED : Addr) (a_RESULT : Addr) (a_EVENT : Addr) (a_AUTHENTICATE : Addr) (a_EXECUTE : Addr) (a_AUTH_SUCCESS : Addr) (a_OPTIONS : Addr) (a_STARTUP : Addr) (a_PREPARE : Addr) (a_REGISTER : Addr) (a_READY : Addr) (a_QUERY : Addr) (a_AUTH_RESPONSE : Addr) (a_BATCH : Addr) (k_a_BY_CODE : ClassId) (h0 : Heap) (n0 : Nat) (Z0 : n0 ≤ h0.size) (A_a_BY_CODE : Arv Z h0 a_BY_CODE k_a_BY_CODE (.object "com/example/nuntius/nuntius/protocol/Opcode") (17 : Int32) [(.ref a_ERROR), (.ref a_STARTUP), (.ref a_READY), (.ref a_AUTHENTICATE), .null, (.ref a_OPTIONS), (.ref a_SUPPORTED), (.ref a_QUERY), (.ref a_RESULT), (.ref a_PREPARE), (.ref a_EXECUTE), (.ref a_REGISTER), (.ref a_EVENT), (.ref a_BATCH), (.ref a_AUTH_CHALLENGE), (.ref a_AUTH_RESPONSE), (.ref a_AUTH_SUCCESS)] .null) (S_BY_CODE : Sta Z h0 "com/example/nuntius/nuntius/protocol/Opcode" "BY_CODE" "[Lcom/example/nuntius/nuntius/protocol/Opcode;" (.ref a_BY_CODE)) :
    MetFree l (⟨"com/example/nuntius/nuntius/protocol/Opcode", "ofCode", "(I)Lcom/example/nuntius/nuntius/protocol/Opcode;"⟩ : MethodName) (head1 (Jvm.Cond.code (⟨"com/example/nuntius/nuntius/protocol/Opcode", "ofCode", "(I)Lcom/example/nuntius/nuntius/protocol/Opcode;"⟩ : MethodName) prog_43_method_5_code 2 (some (.object "com/example/nuntius/nuntius/protocol/Opcode")) :: ws) ({ frames := 0, cells := 0, slots := 0, locals := 0 } : Room)) (fun a U => a = #[(.int (9 : Int32))] ∧ Z.Warmed39 U.vm ∧ U.heap = h0) (fun _ _ _ _ _ => True) (fun _ U o U' => ∃ v L, o = .returned v ∧ Q1_9 Z a_BY_CODE a_ERROR a_AUTH_CHALLENGE a_SUPPORTED a_RESULT a_EVENT a_AUTHENTICATE a_EXECUTE a_AUTH_SUCCESS a_OPTIONS a_STARTUP a_PREPARE a_REGISTER a_READY a_QUERY a_AUTH_RESPONSE a_BATCH k_a_BY_CODE h0 n0 v U'.heap L ∧ FrameEnd U o U' L ({ frames := 0, cells := 0, slots := 0, locals := 0 } : Room).cells ({ frames := 0, cells := 0, slots := 0, locals := 0 } : Room).slots) := by
  refine MetFree.of_bodySF (plainFor_of_name pn_0) hisR ?_
  intro p e s m args below meth c s₁ Bd hml0 hP hK
  obtain ⟨rfl, hZ, hh⟩ := hP
  have hx := Bd.exec
  have hby := Bd.bytes
  have hml : c.maxLocals = 2 := hml0
  have hown : s.vm.findClass "com/example/nuntius/nuntius/protocol/Opcode" = some m.cls := findClass_of_methodNamed Bd.named
  have hnm := (name_of_methodNamed Bd.named Bd.method).1
  have X0 : Stand p l e ({ frames := 0, cells := 0, slots := 0, locals := 0 } : Room) s m #[(.int (9 : Int32))] below meth c s₁ [] 0 0 := Stand.of_body Bd
  have e0 : s₁.heap = h0 := by rw [← hh, Bd.state]; rfl
  have N0 := Fr.nil n0
  refine Ends.opn ?_
  intro QQ hQQ
  refine Ends.step (S' := s₁.setTop (mkF m 0 #[.val (.int (9 : Int32)), .unset] [])) (fun t k => castTop (ef_1_9 m ) k) ?_
  show Ends p e below QQ (s₁.setTop (mkF m 0 #[.val (.int (9 : Int32)), .unset] []))
  refine Ends.step (fun _ k => XS.aconstNull X0.here hx rfl (hb hby d1_0) k) ?_
  show Ends p e below QQ (s₁.setTop (mkF m 1 #[.val (.int (9 : Int32)), .unset] [.null]))
  refine Ends.step (fun _ k => XS.astoreN X0.here hx rfl (hb hby d1_1) rfl rfl (l' := #[.val (.int (9 : Int32)), .val .null]) rfl k) ?_
  show Ends p e below QQ (s₁.setTop (mkF m 2 #[.val (.int (9 : Int32)), .val .null] []))
  refine Ends.step (fun _ k => XS.iloadN X0.here hx rfl (hb hby d1_2) rfl k) ?_
  show Ends p e below QQ (s₁.setTop (mkF m 3 #[.val (.int (9 : Int32)), .val .null] [(.int (9 : Int32))]))
  refine Ends.step (fun _ k => XS.ifNo X0.here hx rfl (hb hby d1_3) rfl (XT.i0_lt_f (by decide)) k) ?_
  show Ends p e below QQ (s₁.setTop (mkF m 6 #[.val (.int (9 : Int32)), .val .null] []))
  refine Ends.step (fun _ k => XS.iloadN X0.here hx rfl (hb hby d1_6) rfl k) ?_
  show Ends p e below QQ (s₁.setTop (mkF m 7 #[.val (.int (9 : Int32)), .val .null] [(.int (9 : Int32))]))
  obtain ⟨T46, X46, e46, st46⟩ := getS2 X0 hx hZ hown (host := "") (Or.inl (hw _ (List.mem_of_getElem? (i := 4) rfl))) Via.refl e0 S_BY_CODE (g := (mkF m 7 #[.val (.int (9 : Int32)), .val .null] [(.int (9 : Int32))])) rfl (hb hby d1_7)
  refine Ends.step st46 ?_
  show Ends p e below QQ (T46.setTop (mkF m 10 #[.val (.int (9 : Int32)), .val .null] [(.ref a_BY_CODE), (.int (9 : Int32))]))
  obtain ⟨cl47, Ar47, -, S47, P47, -, -⟩ := id A_a_BY_CODE
  refine Ends.step (S' := T46.setTop (mkF m 11 #[.val (.int (9 : Int32)), .val .null] [(.int (17 : Int32)), (.int (9 : Int32))])) (fun _ k => X46.arraylength hx (by rw [e46]; exact Ar47.1) (State.isArrayOf_alike hZ.alike Ar47.2.1) (g := (mkF m 10 #[.val (.int (9 : Int32)), .val .null] [(.ref a_BY_CODE), (.int (9 : Int32))])) rfl rfl (hb hby d1_10) _ (by rw [len_of S47 P47]; exact k)) ?_
  show Ends p e below QQ (T46.setTop (mkF m 11 #[.val (.int (9 : Int32)), .val .null] [(.int (17 : Int32)), (.int (9 : Int32))]))
  refine Ends.step (fun _ k => XS.icmpNo X46.here hx rfl (hb hby d1_11) rfl (XT.ii_ge_f (by decide)) k) ?_
  show Ends p e below QQ (T46.setTop (mkF m 14 #[.val (.int (9 : Int32)), .val .null] []))
  obtain ⟨T48, X48, e48, st48⟩ := getS2 X46 hx hZ hown (host := "") (Or.inl (hw _ (List.mem_of_getElem? (i := 4) rfl))) Via.refl e46 S_BY_CODE (g := (mkF m 14 #[.val (.int (9 : Int32)), .val .null] [])) rfl (hb hby d1_14)
  refine Ends.step st48 ?_
  show Ends p e below QQ (T48.setTop (mkF m 17 #[.val (.int (9 : Int32)), .val .null] [(.ref a_BY_CODE)]))
  refine Ends.step (fun _ k => XS.iloadN X48.here hx rfl (hb hby d1_17) rfl k) ?_
  show Ends p e below QQ (T48.setTop (mkF m 18 #[.val (.int (9 : Int32)), .val .null] [(.int (9 : Int32)), (.ref a_BY_CODE)]))
  obtain ⟨cl49, Ar49, q49, S49, P49, H49, G49⟩ := id A_a_BY_CODE
  have hin49 : ¬ ((9 : Int32) < 0 ∨ cl49.slots.size ≤ ((9 : Int32)).toNatClampNeg) := inb_of S49 ⟨by decide, by decide⟩
  have hat49 : cl49.slots[((9 : Int32)).toNatClampNeg]? = some (.ref a_PREPARE) := H49.at hin49 (rfl)
  refine Ends.step (fun _ k => X48.aaload hx (j := (9 : Int32)) (v := (.ref a_PREPARE)) (by rw [e48]; exact Ar49.1) (State.isArrayOf_alike hZ.alike Ar49.2.1) rfl Ar49.2.2 hin49 hat49 (g := (mkF m 18 #[.val (.int (9 : Int32)), .val .null] [(.int (9 : Int32)), (.ref a_BY_CODE)])) rfl rfl (hb hby d1_18) _ k) ?_
  show Ends p e below QQ (T48.setTop (mkF m 19 #[.val (.int (9 : Int32)), .val .null] [(.ref a_PREPARE)]))
  refine Ends.step (fun _ k => XS.astoreN X48.here hx rfl (hb hby d1_19) rfl rfl (l' := #[.val (.int (9 : Int32)), .val (.ref a_PREPARE)]) rfl k) ?_
  show Ends p e below QQ (T48.setTop (mkF m 20 #[.val (.int (9 : Int32)), .val (.ref a_PREPARE)] []))
  refine Ends.step (fun _ k => XS.aloadN X48.here hx rfl (hb hby d1_20) rfl rfl k) ?_
  show Ends p e below QQ (T48.setTop (mkF m 21 #[.val (.int (9 : Int32)), .val (.ref a_PREPARE)] [(.ref a_PREPARE)]))
  exact Ends.fin (some (.ref a_PREPARE)) X48 hQQ (fun h => by rw [Bd.returns] at h; cases h) Bd.notSynchronized (fun _ hr => retOut X48 hx (t := (.object "com/example/nuntius/nuntius/protocol/Opcode")) Bd.returns rfl (Or.inr (Or.inr (Or.inr (Or.inr ⟨rfl, rfl, rfl⟩)))) (hb hby d1_21) hr) e48 (by decide) (by decide) ⟨rfl, N0, rfl⟩
theorem d2_80 : decode method_2_code 80 = .ok (.getstatic 34, 3) := by decide +kernel
theorem d2_83 : decode method_2_code 83 = .ok (.areturn, 1) := by decide +kernel
theorem ef_2_9 (m : MethodId)  : entryFrame m #[(.int (9 : Int32))] 1 = mkF m 0 #[.val (.int (9 : Int32))] [] := by first | (simp [entryFrame, mkF, argsToLocals, Value.category]; done) | rfl
def Q2_9 (Z : State) (a_PREPARE : Addr) (h0 : Heap) (n0 : Nat) (v : Option Value) (h : Heap) (L : List Loc) : Prop := (v = some (.ref a_PREPARE)) ∧ (Fr n0 L) ∧ (h = h0)
set_option maxRecDepth 65536 in
set_option maxHeartbeats 40000000 in
theorem rm2_9 (l : Launch) (Z : State) (a0 : Array Value) (hw : ∀ d ∈ tables_1, d.before a0 Z = true) (ws : List Jvm.Cond) (a_PREPARE : Addr) (h0 : Heap) (n0 : Nat) (Z0 : n0 ≤ h0.size) (S_PREPARE : Sta Z h0 "com/example/nuntius/nuntius/protocol/Opcode" "PREPARE" "Lcom/example/nuntius/nuntius/protocol/Opcode;" (.ref a_PREPARE)) :
    MetFree l (⟨"com/example/nuntius/nuntius/protocol/OpcodeOfCodePinLaw", "expected", "(I)Lcom/example/nuntius/nuntius/protocol/Opcode;"⟩ : MethodName) (head1 (Jvm.Cond.code (⟨"com/example/nuntius/nuntius/protocol/OpcodeOfCodePinLaw", "expected", "(I)Lcom/example/nuntius/nuntius/protocol/Opcode;"⟩ : MethodName) method_2_code 1 (some (.object "com/example/nuntius/nuntius/protocol/Opcode")) :: ws) ({ frames := 0, cells := 0, slots := 0, locals := 0 } : Room)) (fun a U => a = #[(.int (9 : Int32))] ∧ Z.Warmed39 U.vm ∧ U.heap = h0) (fun _ _ _ _ _ => True) (fun _ U o U' => ∃ v L, o = .returned v ∧ Q2_9 Z a_PREPARE h0 n0 v U'.heap L ∧ FrameEnd U o U' L ({ frames := 0, cells := 0, slots := 0, locals := 0 } : Room).cells ({ frames := 0, cells := 0, slots := 0, locals := 0 } : Room).slots) := by
  refine MetFree.of_bodySF (plainFor_of_name pn_1) hisR ?_
  intro p e s m args below meth c s₁ Bd hml0 hP hK
  obtain ⟨rfl, hZ, hh⟩ := hP
  have hx := Bd.exec
  have hby := Bd.bytes
  have hml : c.maxLocals = 1 := hml0
  have hown : s.vm.findClass "com/example/nuntius/nuntius/protocol/OpcodeOfCodePinLaw" = some m.cls := findClass_of_methodNamed Bd.named
  have hnm := (name_of_methodNamed Bd.named Bd.method).1
  have X0 : Stand p l e ({ frames := 0, cells := 0, slots := 0, locals := 0 } : Room) s m #[(.int (9 : Int32))] below meth c s₁ [] 0 0 := Stand.of_body Bd
  have e0 : s₁.heap = h0 := by rw [← hh, Bd.state]; rfl
  have N0 := Fr.nil n0
  refine Ends.opn ?_
  intro QQ hQQ
  refine Ends.step (S' := s₁.setTop (mkF m 0 #[.val (.int (9 : Int32))] [])) (fun t k => castTop (ef_2_9 m ) k) ?_
  show Ends p e below QQ (s₁.setTop (mkF m 0 #[.val (.int (9 : Int32))] []))
  refine Ends.step (fun _ k => XS.iloadN X0.here hx rfl (hb hby d2_0) rfl k) ?_
  show Ends p e below QQ (s₁.setTop (mkF m 1 #[.val (.int (9 : Int32))] [(.int (9 : Int32))]))
  refine Ends.step (fun _ k => XS.ifYes X0.here hx rfl (pc0 := 1) (pc' := 8) rfl (hb hby d2_1) rfl (XT.i0_ne_t (by decide)) (by decide) (by decide) k) ?_
  show Ends p e below QQ (s₁.setTop (mkF m 8 #[.val (.int (9 : Int32))] []))
  refine Ends.step (fun _ k => XS.iloadN X0.here hx rfl (hb hby d2_8) rfl k) ?_
  show Ends p e below QQ (s₁.setTop (mkF m 9 #[.val (.int (9 : Int32))] [(.int (9 : Int32))]))
  refine Ends.step (fun _ k => XT.iconstV X0.here hx rfl (1 : Int32) (hb hby d2_9) rfl k) ?_
  show Ends p e below QQ (s₁.setTop (mkF m 10 #[.val (.int (9 : Int32))] [(.int (1 : Int32)), (.int (9 : Int32))]))
  refine Ends.step (fun _ k => XS.icmpYes X0.here hx rfl (pc0 := 10) (pc' := 17) rfl (hb hby d2_10) rfl (XT.ii_ne_t (by decide)) (by decide) (by decide) k) ?_
  show Ends p e below QQ (s₁.setTop (mkF m 17 #[.val (.int (9 : Int32))] []))
  refine Ends.step (fun _ k => XS.iloadN X0.here hx rfl (hb hby d2_17) rfl k) ?_
  show Ends p e below QQ (s₁.setTop (mkF m 18 #[.val (.int (9 : Int32))] [(.int (9 : Int32))]))
  refine Ends.step (fun _ k => XT.iconstV X0.here hx rfl (2 : Int32) (hb hby d2_18) rfl k) ?_
  show Ends p e below QQ (s₁.setTop (mkF m 19 #[.val (.int (9 : Int32))] [(.int (2 : Int32)), (.int (9 : Int32))]))
  refine Ends.step (fun _ k => XS.icmpYes X0.here hx rfl (pc0 := 19) (pc' := 26) rfl (hb hby d2_19) rfl (XT.ii_ne_t (by decide)) (by decide) (by decide) k) ?_
  show Ends p e below QQ (s₁.setTop (mkF m 26 #[.val (.int (9 : Int32))] []))
  refine Ends.step (fun _ k => XS.iloadN X0.here hx rfl (hb hby d2_26) rfl k) ?_
  show Ends p e below QQ (s₁.setTop (mkF m 27 #[.val (.int (9 : Int32))] [(.int (9 : Int32))]))
  refine Ends.step (fun _ k => XT.iconstV X0.here hx rfl (3 : Int32) (hb hby d2_27) rfl k) ?_
  show Ends p e below QQ (s₁.setTop (mkF m 28 #[.val (.int (9 : Int32))] [(.int (3 : Int32)), (.int (9 : Int32))]))
  refine Ends.step (fun _ k => XS.icmpYes X0.here hx rfl (pc0 := 28) (pc' := 35) rfl (hb hby d2_28) rfl (XT.ii_ne_t (by decide)) (by decide) (by decide) k) ?_
  show Ends p e below QQ (s₁.setTop (mkF m 35 #[.val (.int (9 : Int32))] []))
  refine Ends.step (fun _ k => XS.iloadN X0.here hx rfl (hb hby d2_35) rfl k) ?_
  show Ends p e below QQ (s₁.setTop (mkF m 36 #[.val (.int (9 : Int32))] [(.int (9 : Int32))]))
  refine Ends.step (fun _ k => XT.iconstV X0.here hx rfl (5 : Int32) (hb hby d2_36) rfl k) ?_
  show Ends p e below QQ (s₁.setTop (mkF m 37 #[.val (.int (9 : Int32))] [(.int (5 : Int32)), (.int (9 : Int32))]))
  refine Ends.step (fun _ k => XS.icmpYes X0.here hx rfl (pc0 := 37) (pc' := 44) rfl (hb hby d2_37) rfl (XT.ii_ne_t (by decide)) (by decide) (by decide) k) ?_
  show Ends p e below QQ (s₁.setTop (mkF m 44 #[.val (.int (9 : Int32))] []))
  refine Ends.step (fun _ k => XS.iloadN X0.here hx rfl (hb hby d2_44) rfl k) ?_
  show Ends p e below QQ (s₁.setTop (mkF m 45 #[.val (.int (9 : Int32))] [(.int (9 : Int32))]))
  refine Ends.step (fun _ k => XT.bipushV X0.here hx rfl (6 : Int32) (hb hby d2_45) rfl k) ?_
  show Ends p e below QQ (s₁.setTop (mkF m 47 #[.val (.int (9 : Int32))] [(.int (6 : Int32)), (.int (9 : Int32))]))
  refine Ends.step (fun _ k => XS.icmpYes X0.here hx rfl (pc0 := 47) (pc' := 54) rfl (hb hby d2_47) rfl (XT.ii_ne_t (by decide)) (by decide) (by decide) k) ?_
  show Ends p e below QQ (s₁.setTop (mkF m 54 #[.val (.int (9 : Int32))] []))
  refine Ends.step (fun _ k => XS.iloadN X0.here hx rfl (hb hby d2_54) rfl k) ?_
  show Ends p e below QQ (s₁.setTop (mkF m 55 #[.val (.int (9 : Int32))] [(.int (9 : Int32))]))
  refine Ends.step (fun _ k => XT.bipushV X0.here hx rfl (7 : Int32) (hb hby d2_55) rfl k) ?_
  show Ends p e below QQ (s₁.setTop (mkF m 57 #[.val (.int (9 : Int32))] [(.int (7 : Int32)), (.int (9 : Int32))]))
  refine Ends.step (fun _ k => XS.icmpYes X0.here hx rfl (pc0 := 57) (pc' := 64) rfl (hb hby d2_57) rfl (XT.ii_ne_t (by decide)) (by decide) (by decide) k) ?_
  show Ends p e below QQ (s₁.setTop (mkF m 64 #[.val (.int (9 : Int32))] []))
  refine Ends.step (fun _ k => XS.iloadN X0.here hx rfl (hb hby d2_64) rfl k) ?_
  show Ends p e below QQ (s₁.setTop (mkF m 65 #[.val (.int (9 : Int32))] [(.int (9 : Int32))]))
  refine Ends.step (fun _ k => XT.bipushV X0.here hx rfl (8 : Int32) (hb hby d2_65) rfl k) ?_
  show Ends p e below QQ (s₁.setTop (mkF m 67 #[.val (.int (9 : Int32))] [(.int (8 : Int32)), (.int (9 : Int32))]))
  refine Ends.step (fun _ k => XS.icmpYes X0.here hx rfl (pc0 := 67) (pc' := 74) rfl (hb hby d2_67) rfl (XT.ii_ne_t (by decide)) (by decide) (by decide) k) ?_
  show Ends p e below QQ (s₁.setTop (mkF m 74 #[.val (.int (9 : Int32))] []))
  refine Ends.step (fun _ k => XS.iloadN X0.here hx rfl (hb hby d2_74) rfl k) ?_
  show Ends p e below QQ (s₁.setTop (mkF m 75 #[.val (.int (9 : Int32))] [(.int (9 : Int32))]))
  refine Ends.step (fun _ k => XT.bipushV X0.here hx rfl (9 : Int32) (hb hby d2_75) rfl k) ?_
  show Ends p e below QQ (s₁.setTop (mkF m 77 #[.val (.int (9 : Int32))] [(.int (9 : Int32)), (.int (9 : Int32))]))
  refine Ends.step (fun _ k => XS.icmpNo X0.here hx rfl (hb hby d2_77) rfl (XT.ii_ne_f (by decide)) k) ?_
  show Ends p e below QQ (s₁.setTop (mkF m 80 #[.val (.int (9 : Int32))] []))
  obtain ⟨T50, X50, e50, st50⟩ := getS2 X0 hx hZ hown (host := "") (Or.inl (hw _ (List.mem_of_getElem? (i := 38) rfl))) Via.refl e0 S_PREPARE (g := (mkF m 80 #[.val (.int (9 : Int32))] [])) rfl (hb hby d2_80)
  refine Ends.step st50 ?_
  show Ends p e below QQ (T50.setTop (mkF m 83 #[.val (.int (9 : Int32))] [(.ref a_PREPARE)]))
  exact Ends.fin (some (.ref a_PREPARE)) X50 hQQ (fun h => by rw [Bd.returns] at h; cases h) Bd.notSynchronized (fun _ hr => retOut X50 hx (t := (.object "com/example/nuntius/nuntius/protocol/Opcode")) Bd.returns rfl (Or.inr (Or.inr (Or.inr (Or.inr ⟨rfl, rfl, rfl⟩)))) (hb hby d2_83) hr) e50 (by decide) (by decide) ⟨rfl, N0, rfl⟩
theorem ef_1_10 (m : MethodId)  : entryFrame m #[(.int (10 : Int32))] 2 = mkF m 0 #[.val (.int (10 : Int32)), .unset] [] := by first | (simp [entryFrame, mkF, argsToLocals, Value.category]; done) | rfl
def Q1_10 (Z : State) (a_BY_CODE : Addr) (a_ERROR : Addr) (a_AUTH_CHALLENGE : Addr) (a_SUPPORTED : Addr) (a_RESULT : Addr) (a_EVENT : Addr) (a_AUTHENTICATE : Addr) (a_EXECUTE : Addr) (a_AUTH_SUCCESS : Addr) (a_OPTIONS : Addr) (a_STARTUP : Addr) (a_PREPARE : Addr) (a_REGISTER : Addr) (a_READY : Addr) (a_QUERY : Addr) (a_AUTH_RESPONSE : Addr) (a_BATCH : Addr) (k_a_BY_CODE : ClassId) (h0 : Heap) (n0 : Nat) (v : Option Value) (h : Heap) (L : List Loc) : Prop := (v = some (.ref a_EXECUTE)) ∧ (Fr n0 L) ∧ (h = h0)
set_option maxRecDepth 65536 in
set_option maxHeartbeats 40000000 in
theorem rm1_10 (l : Launch) (Z : State) (a0 : Array Value) (hw : ∀ d ∈ tables_1, d.before a0 Z = true) (ws : List Jvm.Cond) (a_BY_CODE : Addr) (a_ERROR : Addr) (a_AUTH_CHALLENGE : Addr) (a_SUPPORTED : Addr) (a_RESULT : Addr) (a_EVENT : Addr) (a_AUTHENTICATE : Addr) (a_EXECUTE : Addr) (a_AUTH_SUCCESS : Addr) (a_OPTIONS : Addr) (a_STARTUP : Addr) (a_PREPARE : Addr) (a_REGISTER : Addr) (a_READY : Addr) (a_QUERY : Addr) (a_AUTH_RESPONSE : Addr) (a_BATCH : Addr) (k_a_BY_CODE : ClassId) (h0 : Heap) (n0 : Nat) (Z0 : n0 ≤ h0.size) (A_a_BY_CODE : Arv Z h0 a_BY_CODE k_a_BY_CODE (.object "com/example/nuntius/nuntius/protocol/Opcode") (17 : Int32) [(.ref a_ERROR), (.ref a_STARTUP), (.ref a_READY), (.ref a_AUTHENTICATE), .null, (.ref a_OPTIONS), (.ref a_SUPPORTED), (.ref a_QUERY), (.ref a_RESULT), (.ref a_PREPARE), (.ref a_EXECUTE), (.ref a_REGISTER), (.ref a_EVENT), (.ref a_BATCH), (.ref a_AUTH_CHALLENGE), (.ref a_AUTH_RESPONSE), (.ref a_AUTH_SUCCESS)] .null) (S_BY_CODE : Sta Z h0 "com/example/nuntius/nuntius/protocol/Opcode" "BY_CODE" "[Lcom/example/nuntius/nuntius/protocol/Opcode;" (.ref a_BY_CODE)) :
    MetFree l (⟨"com/example/nuntius/nuntius/protocol/Opcode", "ofCode", "(I)Lcom/example/nuntius/nuntius/protocol/Opcode;"⟩ : MethodName) (head1 (Jvm.Cond.code (⟨"com/example/nuntius/nuntius/protocol/Opcode", "ofCode", "(I)Lcom/example/nuntius/nuntius/protocol/Opcode;"⟩ : MethodName) prog_43_method_5_code 2 (some (.object "com/example/nuntius/nuntius/protocol/Opcode")) :: ws) ({ frames := 0, cells := 0, slots := 0, locals := 0 } : Room)) (fun a U => a = #[(.int (10 : Int32))] ∧ Z.Warmed39 U.vm ∧ U.heap = h0) (fun _ _ _ _ _ => True) (fun _ U o U' => ∃ v L, o = .returned v ∧ Q1_10 Z a_BY_CODE a_ERROR a_AUTH_CHALLENGE a_SUPPORTED a_RESULT a_EVENT a_AUTHENTICATE a_EXECUTE a_AUTH_SUCCESS a_OPTIONS a_STARTUP a_PREPARE a_REGISTER a_READY a_QUERY a_AUTH_RESPONSE a_BATCH k_a_BY_CODE h0 n0 v U'.heap L ∧ FrameEnd U o U' L ({ frames := 0, cells := 0, slots := 0, locals := 0 } : Room).cells ({ frames := 0, cells := 0, slots := 0, locals := 0 } : Room).slots) := by
  refine MetFree.of_bodySF (plainFor_of_name pn_0) hisR ?_
  intro p e s m args below meth c s₁ Bd hml0 hP hK
  obtain ⟨rfl, hZ, hh⟩ := hP
  have hx := Bd.exec
  have hby := Bd.bytes
  have hml : c.maxLocals = 2 := hml0
  have hown : s.vm.findClass "com/example/nuntius/nuntius/protocol/Opcode" = some m.cls := findClass_of_methodNamed Bd.named
  have hnm := (name_of_methodNamed Bd.named Bd.method).1
  have X0 : Stand p l e ({ frames := 0, cells := 0, slots := 0, locals := 0 } : Room) s m #[(.int (10 : Int32))] below meth c s₁ [] 0 0 := Stand.of_body Bd
  have e0 : s₁.heap = h0 := by rw [← hh, Bd.state]; rfl
  have N0 := Fr.nil n0
  refine Ends.opn ?_
  intro QQ hQQ
  refine Ends.step (S' := s₁.setTop (mkF m 0 #[.val (.int (10 : Int32)), .unset] [])) (fun t k => castTop (ef_1_10 m ) k) ?_
  show Ends p e below QQ (s₁.setTop (mkF m 0 #[.val (.int (10 : Int32)), .unset] []))
  refine Ends.step (fun _ k => XS.aconstNull X0.here hx rfl (hb hby d1_0) k) ?_
  show Ends p e below QQ (s₁.setTop (mkF m 1 #[.val (.int (10 : Int32)), .unset] [.null]))
  refine Ends.step (fun _ k => XS.astoreN X0.here hx rfl (hb hby d1_1) rfl rfl (l' := #[.val (.int (10 : Int32)), .val .null]) rfl k) ?_
  show Ends p e below QQ (s₁.setTop (mkF m 2 #[.val (.int (10 : Int32)), .val .null] []))
  refine Ends.step (fun _ k => XS.iloadN X0.here hx rfl (hb hby d1_2) rfl k) ?_
  show Ends p e below QQ (s₁.setTop (mkF m 3 #[.val (.int (10 : Int32)), .val .null] [(.int (10 : Int32))]))
  refine Ends.step (fun _ k => XS.ifNo X0.here hx rfl (hb hby d1_3) rfl (XT.i0_lt_f (by decide)) k) ?_
  show Ends p e below QQ (s₁.setTop (mkF m 6 #[.val (.int (10 : Int32)), .val .null] []))
  refine Ends.step (fun _ k => XS.iloadN X0.here hx rfl (hb hby d1_6) rfl k) ?_
  show Ends p e below QQ (s₁.setTop (mkF m 7 #[.val (.int (10 : Int32)), .val .null] [(.int (10 : Int32))]))
  obtain ⟨T51, X51, e51, st51⟩ := getS2 X0 hx hZ hown (host := "") (Or.inl (hw _ (List.mem_of_getElem? (i := 4) rfl))) Via.refl e0 S_BY_CODE (g := (mkF m 7 #[.val (.int (10 : Int32)), .val .null] [(.int (10 : Int32))])) rfl (hb hby d1_7)
  refine Ends.step st51 ?_
  show Ends p e below QQ (T51.setTop (mkF m 10 #[.val (.int (10 : Int32)), .val .null] [(.ref a_BY_CODE), (.int (10 : Int32))]))
  obtain ⟨cl52, Ar52, -, S52, P52, -, -⟩ := id A_a_BY_CODE
  refine Ends.step (S' := T51.setTop (mkF m 11 #[.val (.int (10 : Int32)), .val .null] [(.int (17 : Int32)), (.int (10 : Int32))])) (fun _ k => X51.arraylength hx (by rw [e51]; exact Ar52.1) (State.isArrayOf_alike hZ.alike Ar52.2.1) (g := (mkF m 10 #[.val (.int (10 : Int32)), .val .null] [(.ref a_BY_CODE), (.int (10 : Int32))])) rfl rfl (hb hby d1_10) _ (by rw [len_of S52 P52]; exact k)) ?_
  show Ends p e below QQ (T51.setTop (mkF m 11 #[.val (.int (10 : Int32)), .val .null] [(.int (17 : Int32)), (.int (10 : Int32))]))
  refine Ends.step (fun _ k => XS.icmpNo X51.here hx rfl (hb hby d1_11) rfl (XT.ii_ge_f (by decide)) k) ?_
  show Ends p e below QQ (T51.setTop (mkF m 14 #[.val (.int (10 : Int32)), .val .null] []))
  obtain ⟨T53, X53, e53, st53⟩ := getS2 X51 hx hZ hown (host := "") (Or.inl (hw _ (List.mem_of_getElem? (i := 4) rfl))) Via.refl e51 S_BY_CODE (g := (mkF m 14 #[.val (.int (10 : Int32)), .val .null] [])) rfl (hb hby d1_14)
  refine Ends.step st53 ?_
  show Ends p e below QQ (T53.setTop (mkF m 17 #[.val (.int (10 : Int32)), .val .null] [(.ref a_BY_CODE)]))
  refine Ends.step (fun _ k => XS.iloadN X53.here hx rfl (hb hby d1_17) rfl k) ?_
  show Ends p e below QQ (T53.setTop (mkF m 18 #[.val (.int (10 : Int32)), .val .null] [(.int (10 : Int32)), (.ref a_BY_CODE)]))
  obtain ⟨cl54, Ar54, q54, S54, P54, H54, G54⟩ := id A_a_BY_CODE
  have hin54 : ¬ ((10 : Int32) < 0 ∨ cl54.slots.size ≤ ((10 : Int32)).toNatClampNeg) := inb_of S54 ⟨by decide, by decide⟩
  have hat54 : cl54.slots[((10 : Int32)).toNatClampNeg]? = some (.ref a_EXECUTE) := H54.at hin54 (rfl)
  refine Ends.step (fun _ k => X53.aaload hx (j := (10 : Int32)) (v := (.ref a_EXECUTE)) (by rw [e53]; exact Ar54.1) (State.isArrayOf_alike hZ.alike Ar54.2.1) rfl Ar54.2.2 hin54 hat54 (g := (mkF m 18 #[.val (.int (10 : Int32)), .val .null] [(.int (10 : Int32)), (.ref a_BY_CODE)])) rfl rfl (hb hby d1_18) _ k) ?_
  show Ends p e below QQ (T53.setTop (mkF m 19 #[.val (.int (10 : Int32)), .val .null] [(.ref a_EXECUTE)]))
  refine Ends.step (fun _ k => XS.astoreN X53.here hx rfl (hb hby d1_19) rfl rfl (l' := #[.val (.int (10 : Int32)), .val (.ref a_EXECUTE)]) rfl k) ?_
  show Ends p e below QQ (T53.setTop (mkF m 20 #[.val (.int (10 : Int32)), .val (.ref a_EXECUTE)] []))
  refine Ends.step (fun _ k => XS.aloadN X53.here hx rfl (hb hby d1_20) rfl rfl k) ?_
  show Ends p e below QQ (T53.setTop (mkF m 21 #[.val (.int (10 : Int32)), .val (.ref a_EXECUTE)] [(.ref a_EXECUTE)]))
  exact Ends.fin (some (.ref a_EXECUTE)) X53 hQQ (fun h => by rw [Bd.returns] at h; cases h) Bd.notSynchronized (fun _ hr => retOut X53 hx (t := (.object "com/example/nuntius/nuntius/protocol/Opcode")) Bd.returns rfl (Or.inr (Or.inr (Or.inr (Or.inr ⟨rfl, rfl, rfl⟩)))) (hb hby d1_21) hr) e53 (by decide) (by decide) ⟨rfl, N0, rfl⟩
theorem d2_90 : decode method_2_code 90 = .ok (.getstatic 37, 3) := by decide +kernel
theorem d2_93 : decode method_2_code 93 = .ok (.areturn, 1) := by decide +kernel
theorem ef_2_10 (m : MethodId)  : entryFrame m #[(.int (10 : Int32))] 1 = mkF m 0 #[.val (.int (10 : Int32))] [] := by first | (simp [entryFrame, mkF, argsToLocals, Value.category]; done) | rfl
def Q2_10 (Z : State) (a_EXECUTE : Addr) (h0 : Heap) (n0 : Nat) (v : Option Value) (h : Heap) (L : List Loc) : Prop := (v = some (.ref a_EXECUTE)) ∧ (Fr n0 L) ∧ (h = h0)
set_option maxRecDepth 65536 in
set_option maxHeartbeats 40000000 in
theorem rm2_10 (l : Launch) (Z : State) (a0 : Array Value) (hw : ∀ d ∈ tables_1, d.before a0 Z = true) (ws : List Jvm.Cond) (a_EXECUTE : Addr) (h0 : Heap) (n0 : Nat) (Z0 : n0 ≤ h0.size) (S_EXECUTE : Sta Z h0 "com/example/nuntius/nuntius/protocol/Opcode" "EXECUTE" "Lcom/example/nuntius/nuntius/protocol/Opcode;" (.ref a_EXECUTE)) :
    MetFree l (⟨"com/example/nuntius/nuntius/protocol/OpcodeOfCodePinLaw", "expected", "(I)Lcom/example/nuntius/nuntius/protocol/Opcode;"⟩ : MethodName) (head1 (Jvm.Cond.code (⟨"com/example/nuntius/nuntius/protocol/OpcodeOfCodePinLaw", "expected", "(I)Lcom/example/nuntius/nuntius/protocol/Opcode;"⟩ : MethodName) method_2_code 1 (some (.object "com/example/nuntius/nuntius/protocol/Opcode")) :: ws) ({ frames := 0, cells := 0, slots := 0, locals := 0 } : Room)) (fun a U => a = #[(.int (10 : Int32))] ∧ Z.Warmed39 U.vm ∧ U.heap = h0) (fun _ _ _ _ _ => True) (fun _ U o U' => ∃ v L, o = .returned v ∧ Q2_10 Z a_EXECUTE h0 n0 v U'.heap L ∧ FrameEnd U o U' L ({ frames := 0, cells := 0, slots := 0, locals := 0 } : Room).cells ({ frames := 0, cells := 0, slots := 0, locals := 0 } : Room).slots) := by
  refine MetFree.of_bodySF (plainFor_of_name pn_1) hisR ?_
  intro p e s m args below meth c s₁ Bd hml0 hP hK
  obtain ⟨rfl, hZ, hh⟩ := hP
  have hx := Bd.exec
  have hby := Bd.bytes
  have hml : c.maxLocals = 1 := hml0
  have hown : s.vm.findClass "com/example/nuntius/nuntius/protocol/OpcodeOfCodePinLaw" = some m.cls := findClass_of_methodNamed Bd.named
  have hnm := (name_of_methodNamed Bd.named Bd.method).1
  have X0 : Stand p l e ({ frames := 0, cells := 0, slots := 0, locals := 0 } : Room) s m #[(.int (10 : Int32))] below meth c s₁ [] 0 0 := Stand.of_body Bd
  have e0 : s₁.heap = h0 := by rw [← hh, Bd.state]; rfl
  have N0 := Fr.nil n0
  refine Ends.opn ?_
  intro QQ hQQ
  refine Ends.step (S' := s₁.setTop (mkF m 0 #[.val (.int (10 : Int32))] [])) (fun t k => castTop (ef_2_10 m ) k) ?_
  show Ends p e below QQ (s₁.setTop (mkF m 0 #[.val (.int (10 : Int32))] []))
  refine Ends.step (fun _ k => XS.iloadN X0.here hx rfl (hb hby d2_0) rfl k) ?_
  show Ends p e below QQ (s₁.setTop (mkF m 1 #[.val (.int (10 : Int32))] [(.int (10 : Int32))]))
  refine Ends.step (fun _ k => XS.ifYes X0.here hx rfl (pc0 := 1) (pc' := 8) rfl (hb hby d2_1) rfl (XT.i0_ne_t (by decide)) (by decide) (by decide) k) ?_
  show Ends p e below QQ (s₁.setTop (mkF m 8 #[.val (.int (10 : Int32))] []))
  refine Ends.step (fun _ k => XS.iloadN X0.here hx rfl (hb hby d2_8) rfl k) ?_
  show Ends p e below QQ (s₁.setTop (mkF m 9 #[.val (.int (10 : Int32))] [(.int (10 : Int32))]))
  refine Ends.step (fun _ k => XT.iconstV X0.here hx rfl (1 : Int32) (hb hby d2_9) rfl k) ?_
  show Ends p e below QQ (s₁.setTop (mkF m 10 #[.val (.int (10 : Int32))] [(.int (1 : Int32)), (.int (10 : Int32))]))
  refine Ends.step (fun _ k => XS.icmpYes X0.here hx rfl (pc0 := 10) (pc' := 17) rfl (hb hby d2_10) rfl (XT.ii_ne_t (by decide)) (by decide) (by decide) k) ?_
  show Ends p e below QQ (s₁.setTop (mkF m 17 #[.val (.int (10 : Int32))] []))
  refine Ends.step (fun _ k => XS.iloadN X0.here hx rfl (hb hby d2_17) rfl k) ?_
  show Ends p e below QQ (s₁.setTop (mkF m 18 #[.val (.int (10 : Int32))] [(.int (10 : Int32))]))
  refine Ends.step (fun _ k => XT.iconstV X0.here hx rfl (2 : Int32) (hb hby d2_18) rfl k) ?_
  show Ends p e below QQ (s₁.setTop (mkF m 19 #[.val (.int (10 : Int32))] [(.int (2 : Int32)), (.int (10 : Int32))]))
  refine Ends.step (fun _ k => XS.icmpYes X0.here hx rfl (pc0 := 19) (pc' := 26) rfl (hb hby d2_19) rfl (XT.ii_ne_t (by decide)) (by decide) (by decide) k) ?_
  show Ends p e below QQ (s₁.setTop (mkF m 26 #[.val (.int (10 : Int32))] []))
  refine Ends.step (fun _ k => XS.iloadN X0.here hx rfl (hb hby d2_26) rfl k) ?_
  show Ends p e below QQ (s₁.setTop (mkF m 27 #[.val (.int (10 : Int32))] [(.int (10 : Int32))]))
  refine Ends.step (fun _ k => XT.iconstV X0.here hx rfl (3 : Int32) (hb hby d2_27) rfl k) ?_
  show Ends p e below QQ (s₁.setTop (mkF m 28 #[.val (.int (10 : Int32))] [(.int (3 : Int32)), (.int (10 : Int32))]))
  refine Ends.step (fun _ k => XS.icmpYes X0.here hx rfl (pc0 := 28) (pc' := 35) rfl (hb hby d2_28) rfl (XT.ii_ne_t (by decide)) (by decide) (by decide) k) ?_
  show Ends p e below QQ (s₁.setTop (mkF m 35 #[.val (.int (10 : Int32))] []))
  refine Ends.step (fun _ k => XS.iloadN X0.here hx rfl (hb hby d2_35) rfl k) ?_
  show Ends p e below QQ (s₁.setTop (mkF m 36 #[.val (.int (10 : Int32))] [(.int (10 : Int32))]))
  refine Ends.step (fun _ k => XT.iconstV X0.here hx rfl (5 : Int32) (hb hby d2_36) rfl k) ?_
  show Ends p e below QQ (s₁.setTop (mkF m 37 #[.val (.int (10 : Int32))] [(.int (5 : Int32)), (.int (10 : Int32))]))
  refine Ends.step (fun _ k => XS.icmpYes X0.here hx rfl (pc0 := 37) (pc' := 44) rfl (hb hby d2_37) rfl (XT.ii_ne_t (by decide)) (by decide) (by decide) k) ?_
  show Ends p e below QQ (s₁.setTop (mkF m 44 #[.val (.int (10 : Int32))] []))
  refine Ends.step (fun _ k => XS.iloadN X0.here hx rfl (hb hby d2_44) rfl k) ?_
  show Ends p e below QQ (s₁.setTop (mkF m 45 #[.val (.int (10 : Int32))] [(.int (10 : Int32))]))
  refine Ends.step (fun _ k => XT.bipushV X0.here hx rfl (6 : Int32) (hb hby d2_45) rfl k) ?_
  show Ends p e below QQ (s₁.setTop (mkF m 47 #[.val (.int (10 : Int32))] [(.int (6 : Int32)), (.int (10 : Int32))]))
  refine Ends.step (fun _ k => XS.icmpYes X0.here hx rfl (pc0 := 47) (pc' := 54) rfl (hb hby d2_47) rfl (XT.ii_ne_t (by decide)) (by decide) (by decide) k) ?_
  show Ends p e below QQ (s₁.setTop (mkF m 54 #[.val (.int (10 : Int32))] []))
  refine Ends.step (fun _ k => XS.iloadN X0.here hx rfl (hb hby d2_54) rfl k) ?_
  show Ends p e below QQ (s₁.setTop (mkF m 55 #[.val (.int (10 : Int32))] [(.int (10 : Int32))]))
  refine Ends.step (fun _ k => XT.bipushV X0.here hx rfl (7 : Int32) (hb hby d2_55) rfl k) ?_
  show Ends p e below QQ (s₁.setTop (mkF m 57 #[.val (.int (10 : Int32))] [(.int (7 : Int32)), (.int (10 : Int32))]))
  refine Ends.step (fun _ k => XS.icmpYes X0.here hx rfl (pc0 := 57) (pc' := 64) rfl (hb hby d2_57) rfl (XT.ii_ne_t (by decide)) (by decide) (by decide) k) ?_
  show Ends p e below QQ (s₁.setTop (mkF m 64 #[.val (.int (10 : Int32))] []))
  refine Ends.step (fun _ k => XS.iloadN X0.here hx rfl (hb hby d2_64) rfl k) ?_
  show Ends p e below QQ (s₁.setTop (mkF m 65 #[.val (.int (10 : Int32))] [(.int (10 : Int32))]))
  refine Ends.step (fun _ k => XT.bipushV X0.here hx rfl (8 : Int32) (hb hby d2_65) rfl k) ?_
  show Ends p e below QQ (s₁.setTop (mkF m 67 #[.val (.int (10 : Int32))] [(.int (8 : Int32)), (.int (10 : Int32))]))
  refine Ends.step (fun _ k => XS.icmpYes X0.here hx rfl (pc0 := 67) (pc' := 74) rfl (hb hby d2_67) rfl (XT.ii_ne_t (by decide)) (by decide) (by decide) k) ?_
  show Ends p e below QQ (s₁.setTop (mkF m 74 #[.val (.int (10 : Int32))] []))
  refine Ends.step (fun _ k => XS.iloadN X0.here hx rfl (hb hby d2_74) rfl k) ?_
  show Ends p e below QQ (s₁.setTop (mkF m 75 #[.val (.int (10 : Int32))] [(.int (10 : Int32))]))
  refine Ends.step (fun _ k => XT.bipushV X0.here hx rfl (9 : Int32) (hb hby d2_75) rfl k) ?_
  show Ends p e below QQ (s₁.setTop (mkF m 77 #[.val (.int (10 : Int32))] [(.int (9 : Int32)), (.int (10 : Int32))]))
  refine Ends.step (fun _ k => XS.icmpYes X0.here hx rfl (pc0 := 77) (pc' := 84) rfl (hb hby d2_77) rfl (XT.ii_ne_t (by decide)) (by decide) (by decide) k) ?_
  show Ends p e below QQ (s₁.setTop (mkF m 84 #[.val (.int (10 : Int32))] []))
  refine Ends.step (fun _ k => XS.iloadN X0.here hx rfl (hb hby d2_84) rfl k) ?_
  show Ends p e below QQ (s₁.setTop (mkF m 85 #[.val (.int (10 : Int32))] [(.int (10 : Int32))]))
  refine Ends.step (fun _ k => XT.bipushV X0.here hx rfl (10 : Int32) (hb hby d2_85) rfl k) ?_
  show Ends p e below QQ (s₁.setTop (mkF m 87 #[.val (.int (10 : Int32))] [(.int (10 : Int32)), (.int (10 : Int32))]))
  refine Ends.step (fun _ k => XS.icmpNo X0.here hx rfl (hb hby d2_87) rfl (XT.ii_ne_f (by decide)) k) ?_
  show Ends p e below QQ (s₁.setTop (mkF m 90 #[.val (.int (10 : Int32))] []))
  obtain ⟨T55, X55, e55, st55⟩ := getS2 X0 hx hZ hown (host := "") (Or.inl (hw _ (List.mem_of_getElem? (i := 30) rfl))) Via.refl e0 S_EXECUTE (g := (mkF m 90 #[.val (.int (10 : Int32))] [])) rfl (hb hby d2_90)
  refine Ends.step st55 ?_
  show Ends p e below QQ (T55.setTop (mkF m 93 #[.val (.int (10 : Int32))] [(.ref a_EXECUTE)]))
  exact Ends.fin (some (.ref a_EXECUTE)) X55 hQQ (fun h => by rw [Bd.returns] at h; cases h) Bd.notSynchronized (fun _ hr => retOut X55 hx (t := (.object "com/example/nuntius/nuntius/protocol/Opcode")) Bd.returns rfl (Or.inr (Or.inr (Or.inr (Or.inr ⟨rfl, rfl, rfl⟩)))) (hb hby d2_93) hr) e55 (by decide) (by decide) ⟨rfl, N0, rfl⟩
theorem ef_1_11 (m : MethodId)  : entryFrame m #[(.int (11 : Int32))] 2 = mkF m 0 #[.val (.int (11 : Int32)), .unset] [] := by first | (simp [entryFrame, mkF, argsToLocals, Value.category]; done) | rfl
def Q1_11 (Z : State) (a_BY_CODE : Addr) (a_ERROR : Addr) (a_AUTH_CHALLENGE : Addr) (a_SUPPORTED : Addr) (a_RESULT : Addr) (a_EVENT : Addr) (a_AUTHENTICATE : Addr) (a_EXECUTE : Addr) (a_AUTH_SUCCESS : Addr) (a_OPTIONS : Addr) (a_STARTUP : Addr) (a_PREPARE : Addr) (a_REGISTER : Addr) (a_READY : Addr) (a_QUERY : Addr) (a_AUTH_RESPONSE : Addr) (a_BATCH : Addr) (k_a_BY_CODE : ClassId) (h0 : Heap) (n0 : Nat) (v : Option Value) (h : Heap) (L : List Loc) : Prop := (v = some (.ref a_REGISTER)) ∧ (Fr n0 L) ∧ (h = h0)
set_option maxRecDepth 65536 in
set_option maxHeartbeats 40000000 in
theorem rm1_11 (l : Launch) (Z : State) (a0 : Array Value) (hw : ∀ d ∈ tables_1, d.before a0 Z = true) (ws : List Jvm.Cond) (a_BY_CODE : Addr) (a_ERROR : Addr) (a_AUTH_CHALLENGE : Addr) (a_SUPPORTED : Addr) (a_RESULT : Addr) (a_EVENT : Addr) (a_AUTHENTICATE : Addr) (a_EXECUTE : Addr) (a_AUTH_SUCCESS : Addr) (a_OPTIONS : Addr) (a_STARTUP : Addr) (a_PREPARE : Addr) (a_REGISTER : Addr) (a_READY : Addr) (a_QUERY : Addr) (a_AUTH_RESPONSE : Addr) (a_BATCH : Addr) (k_a_BY_CODE : ClassId) (h0 : Heap) (n0 : Nat) (Z0 : n0 ≤ h0.size) (A_a_BY_CODE : Arv Z h0 a_BY_CODE k_a_BY_CODE (.object "com/example/nuntius/nuntius/protocol/Opcode") (17 : Int32) [(.ref a_ERROR), (.ref a_STARTUP), (.ref a_READY), (.ref a_AUTHENTICATE), .null, (.ref a_OPTIONS), (.ref a_SUPPORTED), (.ref a_QUERY), (.ref a_RESULT), (.ref a_PREPARE), (.ref a_EXECUTE), (.ref a_REGISTER), (.ref a_EVENT), (.ref a_BATCH), (.ref a_AUTH_CHALLENGE), (.ref a_AUTH_RESPONSE), (.ref a_AUTH_SUCCESS)] .null) (S_BY_CODE : Sta Z h0 "com/example/nuntius/nuntius/protocol/Opcode" "BY_CODE" "[Lcom/example/nuntius/nuntius/protocol/Opcode;" (.ref a_BY_CODE)) :
    MetFree l (⟨"com/example/nuntius/nuntius/protocol/Opcode", "ofCode", "(I)Lcom/example/nuntius/nuntius/protocol/Opcode;"⟩ : MethodName) (head1 (Jvm.Cond.code (⟨"com/example/nuntius/nuntius/protocol/Opcode", "ofCode", "(I)Lcom/example/nuntius/nuntius/protocol/Opcode;"⟩ : MethodName) prog_43_method_5_code 2 (some (.object "com/example/nuntius/nuntius/protocol/Opcode")) :: ws) ({ frames := 0, cells := 0, slots := 0, locals := 0 } : Room)) (fun a U => a = #[(.int (11 : Int32))] ∧ Z.Warmed39 U.vm ∧ U.heap = h0) (fun _ _ _ _ _ => True) (fun _ U o U' => ∃ v L, o = .returned v ∧ Q1_11 Z a_BY_CODE a_ERROR a_AUTH_CHALLENGE a_SUPPORTED a_RESULT a_EVENT a_AUTHENTICATE a_EXECUTE a_AUTH_SUCCESS a_OPTIONS a_STARTUP a_PREPARE a_REGISTER a_READY a_QUERY a_AUTH_RESPONSE a_BATCH k_a_BY_CODE h0 n0 v U'.heap L ∧ FrameEnd U o U' L ({ frames := 0, cells := 0, slots := 0, locals := 0 } : Room).cells ({ frames := 0, cells := 0, slots := 0, locals := 0 } : Room).slots) := by
  refine MetFree.of_bodySF (plainFor_of_name pn_0) hisR ?_
  intro p e s m args below meth c s₁ Bd hml0 hP hK
  obtain ⟨rfl, hZ, hh⟩ := hP
  have hx := Bd.exec
  have hby := Bd.bytes
  have hml : c.maxLocals = 2 := hml0
  have hown : s.vm.findClass "com/example/nuntius/nuntius/protocol/Opcode" = some m.cls := findClass_of_methodNamed Bd.named
  have hnm := (name_of_methodNamed Bd.named Bd.method).1
  have X0 : Stand p l e ({ frames := 0, cells := 0, slots := 0, locals := 0 } : Room) s m #[(.int (11 : Int32))] below meth c s₁ [] 0 0 := Stand.of_body Bd
  have e0 : s₁.heap = h0 := by rw [← hh, Bd.state]; rfl
  have N0 := Fr.nil n0
  refine Ends.opn ?_
  intro QQ hQQ
  refine Ends.step (S' := s₁.setTop (mkF m 0 #[.val (.int (11 : Int32)), .unset] [])) (fun t k => castTop (ef_1_11 m ) k) ?_
  show Ends p e below QQ (s₁.setTop (mkF m 0 #[.val (.int (11 : Int32)), .unset] []))
  refine Ends.step (fun _ k => XS.aconstNull X0.here hx rfl (hb hby d1_0) k) ?_
  show Ends p e below QQ (s₁.setTop (mkF m 1 #[.val (.int (11 : Int32)), .unset] [.null]))
  refine Ends.step (fun _ k => XS.astoreN X0.here hx rfl (hb hby d1_1) rfl rfl (l' := #[.val (.int (11 : Int32)), .val .null]) rfl k) ?_
  show Ends p e below QQ (s₁.setTop (mkF m 2 #[.val (.int (11 : Int32)), .val .null] []))
  refine Ends.step (fun _ k => XS.iloadN X0.here hx rfl (hb hby d1_2) rfl k) ?_
  show Ends p e below QQ (s₁.setTop (mkF m 3 #[.val (.int (11 : Int32)), .val .null] [(.int (11 : Int32))]))
  refine Ends.step (fun _ k => XS.ifNo X0.here hx rfl (hb hby d1_3) rfl (XT.i0_lt_f (by decide)) k) ?_
  show Ends p e below QQ (s₁.setTop (mkF m 6 #[.val (.int (11 : Int32)), .val .null] []))
  refine Ends.step (fun _ k => XS.iloadN X0.here hx rfl (hb hby d1_6) rfl k) ?_
  show Ends p e below QQ (s₁.setTop (mkF m 7 #[.val (.int (11 : Int32)), .val .null] [(.int (11 : Int32))]))
  obtain ⟨T56, X56, e56, st56⟩ := getS2 X0 hx hZ hown (host := "") (Or.inl (hw _ (List.mem_of_getElem? (i := 4) rfl))) Via.refl e0 S_BY_CODE (g := (mkF m 7 #[.val (.int (11 : Int32)), .val .null] [(.int (11 : Int32))])) rfl (hb hby d1_7)
  refine Ends.step st56 ?_
  show Ends p e below QQ (T56.setTop (mkF m 10 #[.val (.int (11 : Int32)), .val .null] [(.ref a_BY_CODE), (.int (11 : Int32))]))
  obtain ⟨cl57, Ar57, -, S57, P57, -, -⟩ := id A_a_BY_CODE
  refine Ends.step (S' := T56.setTop (mkF m 11 #[.val (.int (11 : Int32)), .val .null] [(.int (17 : Int32)), (.int (11 : Int32))])) (fun _ k => X56.arraylength hx (by rw [e56]; exact Ar57.1) (State.isArrayOf_alike hZ.alike Ar57.2.1) (g := (mkF m 10 #[.val (.int (11 : Int32)), .val .null] [(.ref a_BY_CODE), (.int (11 : Int32))])) rfl rfl (hb hby d1_10) _ (by rw [len_of S57 P57]; exact k)) ?_
  show Ends p e below QQ (T56.setTop (mkF m 11 #[.val (.int (11 : Int32)), .val .null] [(.int (17 : Int32)), (.int (11 : Int32))]))
  refine Ends.step (fun _ k => XS.icmpNo X56.here hx rfl (hb hby d1_11) rfl (XT.ii_ge_f (by decide)) k) ?_
  show Ends p e below QQ (T56.setTop (mkF m 14 #[.val (.int (11 : Int32)), .val .null] []))
  obtain ⟨T58, X58, e58, st58⟩ := getS2 X56 hx hZ hown (host := "") (Or.inl (hw _ (List.mem_of_getElem? (i := 4) rfl))) Via.refl e56 S_BY_CODE (g := (mkF m 14 #[.val (.int (11 : Int32)), .val .null] [])) rfl (hb hby d1_14)
  refine Ends.step st58 ?_
  show Ends p e below QQ (T58.setTop (mkF m 17 #[.val (.int (11 : Int32)), .val .null] [(.ref a_BY_CODE)]))
  refine Ends.step (fun _ k => XS.iloadN X58.here hx rfl (hb hby d1_17) rfl k) ?_
  show Ends p e below QQ (T58.setTop (mkF m 18 #[.val (.int (11 : Int32)), .val .null] [(.int (11 : Int32)), (.ref a_BY_CODE)]))
  obtain ⟨cl59, Ar59, q59, S59, P59, H59, G59⟩ := id A_a_BY_CODE
  have hin59 : ¬ ((11 : Int32) < 0 ∨ cl59.slots.size ≤ ((11 : Int32)).toNatClampNeg) := inb_of S59 ⟨by decide, by decide⟩
  have hat59 : cl59.slots[((11 : Int32)).toNatClampNeg]? = some (.ref a_REGISTER) := H59.at hin59 (rfl)
  refine Ends.step (fun _ k => X58.aaload hx (j := (11 : Int32)) (v := (.ref a_REGISTER)) (by rw [e58]; exact Ar59.1) (State.isArrayOf_alike hZ.alike Ar59.2.1) rfl Ar59.2.2 hin59 hat59 (g := (mkF m 18 #[.val (.int (11 : Int32)), .val .null] [(.int (11 : Int32)), (.ref a_BY_CODE)])) rfl rfl (hb hby d1_18) _ k) ?_
  show Ends p e below QQ (T58.setTop (mkF m 19 #[.val (.int (11 : Int32)), .val .null] [(.ref a_REGISTER)]))
  refine Ends.step (fun _ k => XS.astoreN X58.here hx rfl (hb hby d1_19) rfl rfl (l' := #[.val (.int (11 : Int32)), .val (.ref a_REGISTER)]) rfl k) ?_
  show Ends p e below QQ (T58.setTop (mkF m 20 #[.val (.int (11 : Int32)), .val (.ref a_REGISTER)] []))
  refine Ends.step (fun _ k => XS.aloadN X58.here hx rfl (hb hby d1_20) rfl rfl k) ?_
  show Ends p e below QQ (T58.setTop (mkF m 21 #[.val (.int (11 : Int32)), .val (.ref a_REGISTER)] [(.ref a_REGISTER)]))
  exact Ends.fin (some (.ref a_REGISTER)) X58 hQQ (fun h => by rw [Bd.returns] at h; cases h) Bd.notSynchronized (fun _ hr => retOut X58 hx (t := (.object "com/example/nuntius/nuntius/protocol/Opcode")) Bd.returns rfl (Or.inr (Or.inr (Or.inr (Or.inr ⟨rfl, rfl, rfl⟩)))) (hb hby d1_21) hr) e58 (by decide) (by decide) ⟨rfl, N0, rfl⟩
theorem d2_100 : decode method_2_code 100 = .ok (.getstatic 40, 3) := by decide +kernel
theorem d2_103 : decode method_2_code 103 = .ok (.areturn, 1) := by decide +kernel
theorem ef_2_11 (m : MethodId)  : entryFrame m #[(.int (11 : Int32))] 1 = mkF m 0 #[.val (.int (11 : Int32))] [] := by first | (simp [entryFrame, mkF, argsToLocals, Value.category]; done) | rfl
def Q2_11 (Z : State) (a_REGISTER : Addr) (h0 : Heap) (n0 : Nat) (v : Option Value) (h : Heap) (L : List Loc) : Prop := (v = some (.ref a_REGISTER)) ∧ (Fr n0 L) ∧ (h = h0)
set_option maxRecDepth 65536 in
set_option maxHeartbeats 40000000 in
theorem rm2_11 (l : Launch) (Z : State) (a0 : Array Value) (hw : ∀ d ∈ tables_1, d.before a0 Z = true) (ws : List Jvm.Cond) (a_REGISTER : Addr) (h0 : Heap) (n0 : Nat) (Z0 : n0 ≤ h0.size) (S_REGISTER : Sta Z h0 "com/example/nuntius/nuntius/protocol/Opcode" "REGISTER" "Lcom/example/nuntius/nuntius/protocol/Opcode;" (.ref a_REGISTER)) :
    MetFree l (⟨"com/example/nuntius/nuntius/protocol/OpcodeOfCodePinLaw", "expected", "(I)Lcom/example/nuntius/nuntius/protocol/Opcode;"⟩ : MethodName) (head1 (Jvm.Cond.code (⟨"com/example/nuntius/nuntius/protocol/OpcodeOfCodePinLaw", "expected", "(I)Lcom/example/nuntius/nuntius/protocol/Opcode;"⟩ : MethodName) method_2_code 1 (some (.object "com/example/nuntius/nuntius/protocol/Opcode")) :: ws) ({ frames := 0, cells := 0, slots := 0, locals := 0 } : Room)) (fun a U => a = #[(.int (11 : Int32))] ∧ Z.Warmed39 U.vm ∧ U.heap = h0) (fun _ _ _ _ _ => True) (fun _ U o U' => ∃ v L, o = .returned v ∧ Q2_11 Z a_REGISTER h0 n0 v U'.heap L ∧ FrameEnd U o U' L ({ frames := 0, cells := 0, slots := 0, locals := 0 } : Room).cells ({ frames := 0, cells := 0, slots := 0, locals := 0 } : Room).slots) := by
  refine MetFree.of_bodySF (plainFor_of_name pn_1) hisR ?_
  intro p e s m args below meth c s₁ Bd hml0 hP hK
  obtain ⟨rfl, hZ, hh⟩ := hP
  have hx := Bd.exec
  have hby := Bd.bytes
  have hml : c.maxLocals = 1 := hml0
  have hown : s.vm.findClass "com/example/nuntius/nuntius/protocol/OpcodeOfCodePinLaw" = some m.cls := findClass_of_methodNamed Bd.named
  have hnm := (name_of_methodNamed Bd.named Bd.method).1
  have X0 : Stand p l e ({ frames := 0, cells := 0, slots := 0, locals := 0 } : Room) s m #[(.int (11 : Int32))] below meth c s₁ [] 0 0 := Stand.of_body Bd
  have e0 : s₁.heap = h0 := by rw [← hh, Bd.state]; rfl
  have N0 := Fr.nil n0
  refine Ends.opn ?_
  intro QQ hQQ
  refine Ends.step (S' := s₁.setTop (mkF m 0 #[.val (.int (11 : Int32))] [])) (fun t k => castTop (ef_2_11 m ) k) ?_
  show Ends p e below QQ (s₁.setTop (mkF m 0 #[.val (.int (11 : Int32))] []))
  refine Ends.step (fun _ k => XS.iloadN X0.here hx rfl (hb hby d2_0) rfl k) ?_
  show Ends p e below QQ (s₁.setTop (mkF m 1 #[.val (.int (11 : Int32))] [(.int (11 : Int32))]))
  refine Ends.step (fun _ k => XS.ifYes X0.here hx rfl (pc0 := 1) (pc' := 8) rfl (hb hby d2_1) rfl (XT.i0_ne_t (by decide)) (by decide) (by decide) k) ?_
  show Ends p e below QQ (s₁.setTop (mkF m 8 #[.val (.int (11 : Int32))] []))
  refine Ends.step (fun _ k => XS.iloadN X0.here hx rfl (hb hby d2_8) rfl k) ?_
  show Ends p e below QQ (s₁.setTop (mkF m 9 #[.val (.int (11 : Int32))] [(.int (11 : Int32))]))
  refine Ends.step (fun _ k => XT.iconstV X0.here hx rfl (1 : Int32) (hb hby d2_9) rfl k) ?_
  show Ends p e below QQ (s₁.setTop (mkF m 10 #[.val (.int (11 : Int32))] [(.int (1 : Int32)), (.int (11 : Int32))]))
  refine Ends.step (fun _ k => XS.icmpYes X0.here hx rfl (pc0 := 10) (pc' := 17) rfl (hb hby d2_10) rfl (XT.ii_ne_t (by decide)) (by decide) (by decide) k) ?_
  show Ends p e below QQ (s₁.setTop (mkF m 17 #[.val (.int (11 : Int32))] []))
  refine Ends.step (fun _ k => XS.iloadN X0.here hx rfl (hb hby d2_17) rfl k) ?_
  show Ends p e below QQ (s₁.setTop (mkF m 18 #[.val (.int (11 : Int32))] [(.int (11 : Int32))]))
  refine Ends.step (fun _ k => XT.iconstV X0.here hx rfl (2 : Int32) (hb hby d2_18) rfl k) ?_
  show Ends p e below QQ (s₁.setTop (mkF m 19 #[.val (.int (11 : Int32))] [(.int (2 : Int32)), (.int (11 : Int32))]))
  refine Ends.step (fun _ k => XS.icmpYes X0.here hx rfl (pc0 := 19) (pc' := 26) rfl (hb hby d2_19) rfl (XT.ii_ne_t (by decide)) (by decide) (by decide) k) ?_
  show Ends p e below QQ (s₁.setTop (mkF m 26 #[.val (.int (11 : Int32))] []))
  refine Ends.step (fun _ k => XS.iloadN X0.here hx rfl (hb hby d2_26) rfl k) ?_
  show Ends p e below QQ (s₁.setTop (mkF m 27 #[.val (.int (11 : Int32))] [(.int (11 : Int32))]))
  refine Ends.step (fun _ k => XT.iconstV X0.here hx rfl (3 : Int32) (hb hby d2_27) rfl k) ?_
  show Ends p e below QQ (s₁.setTop (mkF m 28 #[.val (.int (11 : Int32))] [(.int (3 : Int32)), (.int (11 : Int32))]))
  refine Ends.step (fun _ k => XS.icmpYes X0.here hx rfl (pc0 := 28) (pc' := 35) rfl (hb hby d2_28) rfl (XT.ii_ne_t (by decide)) (by decide) (by decide) k) ?_
  show Ends p e below QQ (s₁.setTop (mkF m 35 #[.val (.int (11 : Int32))] []))
  refine Ends.step (fun _ k => XS.iloadN X0.here hx rfl (hb hby d2_35) rfl k) ?_
  show Ends p e below QQ (s₁.setTop (mkF m 36 #[.val (.int (11 : Int32))] [(.int (11 : Int32))]))
  refine Ends.step (fun _ k => XT.iconstV X0.here hx rfl (5 : Int32) (hb hby d2_36) rfl k) ?_
  show Ends p e below QQ (s₁.setTop (mkF m 37 #[.val (.int (11 : Int32))] [(.int (5 : Int32)), (.int (11 : Int32))]))
  refine Ends.step (fun _ k => XS.icmpYes X0.here hx rfl (pc0 := 37) (pc' := 44) rfl (hb hby d2_37) rfl (XT.ii_ne_t (by decide)) (by decide) (by decide) k) ?_
  show Ends p e below QQ (s₁.setTop (mkF m 44 #[.val (.int (11 : Int32))] []))
  refine Ends.step (fun _ k => XS.iloadN X0.here hx rfl (hb hby d2_44) rfl k) ?_
  show Ends p e below QQ (s₁.setTop (mkF m 45 #[.val (.int (11 : Int32))] [(.int (11 : Int32))]))
  refine Ends.step (fun _ k => XT.bipushV X0.here hx rfl (6 : Int32) (hb hby d2_45) rfl k) ?_
  show Ends p e below QQ (s₁.setTop (mkF m 47 #[.val (.int (11 : Int32))] [(.int (6 : Int32)), (.int (11 : Int32))]))
  refine Ends.step (fun _ k => XS.icmpYes X0.here hx rfl (pc0 := 47) (pc' := 54) rfl (hb hby d2_47) rfl (XT.ii_ne_t (by decide)) (by decide) (by decide) k) ?_
  show Ends p e below QQ (s₁.setTop (mkF m 54 #[.val (.int (11 : Int32))] []))
  refine Ends.step (fun _ k => XS.iloadN X0.here hx rfl (hb hby d2_54) rfl k) ?_
  show Ends p e below QQ (s₁.setTop (mkF m 55 #[.val (.int (11 : Int32))] [(.int (11 : Int32))]))
  refine Ends.step (fun _ k => XT.bipushV X0.here hx rfl (7 : Int32) (hb hby d2_55) rfl k) ?_
  show Ends p e below QQ (s₁.setTop (mkF m 57 #[.val (.int (11 : Int32))] [(.int (7 : Int32)), (.int (11 : Int32))]))
  refine Ends.step (fun _ k => XS.icmpYes X0.here hx rfl (pc0 := 57) (pc' := 64) rfl (hb hby d2_57) rfl (XT.ii_ne_t (by decide)) (by decide) (by decide) k) ?_
  show Ends p e below QQ (s₁.setTop (mkF m 64 #[.val (.int (11 : Int32))] []))
  refine Ends.step (fun _ k => XS.iloadN X0.here hx rfl (hb hby d2_64) rfl k) ?_
  show Ends p e below QQ (s₁.setTop (mkF m 65 #[.val (.int (11 : Int32))] [(.int (11 : Int32))]))
  refine Ends.step (fun _ k => XT.bipushV X0.here hx rfl (8 : Int32) (hb hby d2_65) rfl k) ?_
  show Ends p e below QQ (s₁.setTop (mkF m 67 #[.val (.int (11 : Int32))] [(.int (8 : Int32)), (.int (11 : Int32))]))
  refine Ends.step (fun _ k => XS.icmpYes X0.here hx rfl (pc0 := 67) (pc' := 74) rfl (hb hby d2_67) rfl (XT.ii_ne_t (by decide)) (by decide) (by decide) k) ?_
  show Ends p e below QQ (s₁.setTop (mkF m 74 #[.val (.int (11 : Int32))] []))
  refine Ends.step (fun _ k => XS.iloadN X0.here hx rfl (hb hby d2_74) rfl k) ?_
  show Ends p e below QQ (s₁.setTop (mkF m 75 #[.val (.int (11 : Int32))] [(.int (11 : Int32))]))
  refine Ends.step (fun _ k => XT.bipushV X0.here hx rfl (9 : Int32) (hb hby d2_75) rfl k) ?_
  show Ends p e below QQ (s₁.setTop (mkF m 77 #[.val (.int (11 : Int32))] [(.int (9 : Int32)), (.int (11 : Int32))]))
  refine Ends.step (fun _ k => XS.icmpYes X0.here hx rfl (pc0 := 77) (pc' := 84) rfl (hb hby d2_77) rfl (XT.ii_ne_t (by decide)) (by decide) (by decide) k) ?_
  show Ends p e below QQ (s₁.setTop (mkF m 84 #[.val (.int (11 : Int32))] []))
  refine Ends.step (fun _ k => XS.iloadN X0.here hx rfl (hb hby d2_84) rfl k) ?_
  show Ends p e below QQ (s₁.setTop (mkF m 85 #[.val (.int (11 : Int32))] [(.int (11 : Int32))]))
  refine Ends.step (fun _ k => XT.bipushV X0.here hx rfl (10 : Int32) (hb hby d2_85) rfl k) ?_
  show Ends p e below QQ (s₁.setTop (mkF m 87 #[.val (.int (11 : Int32))] [(.int (10 : Int32)), (.int (11 : Int32))]))
  refine Ends.step (fun _ k => XS.icmpYes X0.here hx rfl (pc0 := 87) (pc' := 94) rfl (hb hby d2_87) rfl (XT.ii_ne_t (by decide)) (by decide) (by decide) k) ?_
  show Ends p e below QQ (s₁.setTop (mkF m 94 #[.val (.int (11 : Int32))] []))
  refine Ends.step (fun _ k => XS.iloadN X0.here hx rfl (hb hby d2_94) rfl k) ?_
  show Ends p e below QQ (s₁.setTop (mkF m 95 #[.val (.int (11 : Int32))] [(.int (11 : Int32))]))
  refine Ends.step (fun _ k => XT.bipushV X0.here hx rfl (11 : Int32) (hb hby d2_95) rfl k) ?_
  show Ends p e below QQ (s₁.setTop (mkF m 97 #[.val (.int (11 : Int32))] [(.int (11 : Int32)), (.int (11 : Int32))]))
  refine Ends.step (fun _ k => XS.icmpNo X0.here hx rfl (hb hby d2_97) rfl (XT.ii_ne_f (by decide)) k) ?_
  show Ends p e below QQ (s₁.setTop (mkF m 100 #[.val (.int (11 : Int32))] []))
  obtain ⟨T60, X60, e60, st60⟩ := getS2 X0 hx hZ hown (host := "") (Or.inl (hw _ (List.mem_of_getElem? (i := 40) rfl))) Via.refl e0 S_REGISTER (g := (mkF m 100 #[.val (.int (11 : Int32))] [])) rfl (hb hby d2_100)
  refine Ends.step st60 ?_
  show Ends p e below QQ (T60.setTop (mkF m 103 #[.val (.int (11 : Int32))] [(.ref a_REGISTER)]))
  exact Ends.fin (some (.ref a_REGISTER)) X60 hQQ (fun h => by rw [Bd.returns] at h; cases h) Bd.notSynchronized (fun _ hr => retOut X60 hx (t := (.object "com/example/nuntius/nuntius/protocol/Opcode")) Bd.returns rfl (Or.inr (Or.inr (Or.inr (Or.inr ⟨rfl, rfl, rfl⟩)))) (hb hby d2_103) hr) e60 (by decide) (by decide) ⟨rfl, N0, rfl⟩
theorem ef_1_12 (m : MethodId)  : entryFrame m #[(.int (12 : Int32))] 2 = mkF m 0 #[.val (.int (12 : Int32)), .unset] [] := by first | (simp [entryFrame, mkF, argsToLocals, Value.category]; done) | rfl
def Q1_12 (Z : State) (a_BY_CODE : Addr) (a_ERROR : Addr) (a_AUTH_CHALLENGE : Addr) (a_SUPPORTED : Addr) (a_RESULT : Addr) (a_EVENT : Addr) (a_AUTHENTICATE : Addr) (a_EXECUTE : Addr) (a_AUTH_SUCCESS : Addr) (a_OPTIONS : Addr) (a_STARTUP : Addr) (a_PREPARE : Addr) (a_REGISTER : Addr) (a_READY : Addr) (a_QUERY : Addr) (a_AUTH_RESPONSE : Addr) (a_BATCH : Addr) (k_a_BY_CODE : ClassId) (h0 : Heap) (n0 : Nat) (v : Option Value) (h : Heap) (L : List Loc) : Prop := (v = some (.ref a_EVENT)) ∧ (Fr n0 L) ∧ (h = h0)
set_option maxRecDepth 65536 in
set_option maxHeartbeats 40000000 in
theorem rm1_12 (l : Launch) (Z : State) (a0 : Array Value) (hw : ∀ d ∈ tables_1, d.before a0 Z = true) (ws : List Jvm.Cond) (a_BY_CODE : Addr) (a_ERROR : Addr) (a_AUTH_CHALLENGE : Addr) (a_SUPPORTED : Addr) (a_RESULT : Addr) (a_EVENT : Addr) (a_AUTHENTICATE : Addr) (a_EXECUTE : Addr) (a_AUTH_SUCCESS : Addr) (a_OPTIONS : Addr) (a_STARTUP : Addr) (a_PREPARE : Addr) (a_REGISTER : Addr) (a_READY : Addr) (a_QUERY : Addr) (a_AUTH_RESPONSE : Addr) (a_BATCH : Addr) (k_a_BY_CODE : ClassId) (h0 : Heap) (n0 : Nat) (Z0 : n0 ≤ h0.size) (A_a_BY_CODE : Arv Z h0 a_BY_CODE k_a_BY_CODE (.object "com/example/nuntius/nuntius/protocol/Opcode") (17 : Int32) [(.ref a_ERROR), (.ref a_STARTUP), (.ref a_READY), (.ref a_AUTHENTICATE), .null, (.ref a_OPTIONS), (.ref a_SUPPORTED), (.ref a_QUERY), (.ref a_RESULT), (.ref a_PREPARE), (.ref a_EXECUTE), (.ref a_REGISTER), (.ref a_EVENT), (.ref a_BATCH), (.ref a_AUTH_CHALLENGE), (.ref a_AUTH_RESPONSE), (.ref a_AUTH_SUCCESS)] .null) (S_BY_CODE : Sta Z h0 "com/example/nuntius/nuntius/protocol/Opcode" "BY_CODE" "[Lcom/example/nuntius/nuntius/protocol/Opcode;" (.ref a_BY_CODE)) :
    MetFree l (⟨"com/example/nuntius/nuntius/protocol/Opcode", "ofCode", "(I)Lcom/example/nuntius/nuntius/protocol/Opcode;"⟩ : MethodName) (head1 (Jvm.Cond.code (⟨"com/example/nuntius/nuntius/protocol/Opcode", "ofCode", "(I)Lcom/example/nuntius/nuntius/protocol/Opcode;"⟩ : MethodName) prog_43_method_5_code 2 (some (.object "com/example/nuntius/nuntius/protocol/Opcode")) :: ws) ({ frames := 0, cells := 0, slots := 0, locals := 0 } : Room)) (fun a U => a = #[(.int (12 : Int32))] ∧ Z.Warmed39 U.vm ∧ U.heap = h0) (fun _ _ _ _ _ => True) (fun _ U o U' => ∃ v L, o = .returned v ∧ Q1_12 Z a_BY_CODE a_ERROR a_AUTH_CHALLENGE a_SUPPORTED a_RESULT a_EVENT a_AUTHENTICATE a_EXECUTE a_AUTH_SUCCESS a_OPTIONS a_STARTUP a_PREPARE a_REGISTER a_READY a_QUERY a_AUTH_RESPONSE a_BATCH k_a_BY_CODE h0 n0 v U'.heap L ∧ FrameEnd U o U' L ({ frames := 0, cells := 0, slots := 0, locals := 0 } : Room).cells ({ frames := 0, cells := 0, slots := 0, locals := 0 } : Room).slots) := by
  refine MetFree.of_bodySF (plainFor_of_name pn_0) hisR ?_
  intro p e s m args below meth c s₁ Bd hml0 hP hK
  obtain ⟨rfl, hZ, hh⟩ := hP
  have hx := Bd.exec
  have hby := Bd.bytes
  have hml : c.maxLocals = 2 := hml0
  have hown : s.vm.findClass "com/example/nuntius/nuntius/protocol/Opcode" = some m.cls := findClass_of_methodNamed Bd.named
  have hnm := (name_of_methodNamed Bd.named Bd.method).1
  have X0 : Stand p l e ({ frames := 0, cells := 0, slots := 0, locals := 0 } : Room) s m #[(.int (12 : Int32))] below meth c s₁ [] 0 0 := Stand.of_body Bd
  have e0 : s₁.heap = h0 := by rw [← hh, Bd.state]; rfl
  have N0 := Fr.nil n0
  refine Ends.opn ?_
  intro QQ hQQ
  refine Ends.step (S' := s₁.setTop (mkF m 0 #[.val (.int (12 : Int32)), .unset] [])) (fun t k => castTop (ef_1_12 m ) k) ?_
  show Ends p e below QQ (s₁.setTop (mkF m 0 #[.val (.int (12 : Int32)), .unset] []))
  refine Ends.step (fun _ k => XS.aconstNull X0.here hx rfl (hb hby d1_0) k) ?_
  show Ends p e below QQ (s₁.setTop (mkF m 1 #[.val (.int (12 : Int32)), .unset] [.null]))
  refine Ends.step (fun _ k => XS.astoreN X0.here hx rfl (hb hby d1_1) rfl rfl (l' := #[.val (.int (12 : Int32)), .val .null]) rfl k) ?_
  show Ends p e below QQ (s₁.setTop (mkF m 2 #[.val (.int (12 : Int32)), .val .null] []))
  refine Ends.step (fun _ k => XS.iloadN X0.here hx rfl (hb hby d1_2) rfl k) ?_
  show Ends p e below QQ (s₁.setTop (mkF m 3 #[.val (.int (12 : Int32)), .val .null] [(.int (12 : Int32))]))
  refine Ends.step (fun _ k => XS.ifNo X0.here hx rfl (hb hby d1_3) rfl (XT.i0_lt_f (by decide)) k) ?_
  show Ends p e below QQ (s₁.setTop (mkF m 6 #[.val (.int (12 : Int32)), .val .null] []))
  refine Ends.step (fun _ k => XS.iloadN X0.here hx rfl (hb hby d1_6) rfl k) ?_
  show Ends p e below QQ (s₁.setTop (mkF m 7 #[.val (.int (12 : Int32)), .val .null] [(.int (12 : Int32))]))
  obtain ⟨T61, X61, e61, st61⟩ := getS2 X0 hx hZ hown (host := "") (Or.inl (hw _ (List.mem_of_getElem? (i := 4) rfl))) Via.refl e0 S_BY_CODE (g := (mkF m 7 #[.val (.int (12 : Int32)), .val .null] [(.int (12 : Int32))])) rfl (hb hby d1_7)
  refine Ends.step st61 ?_
  show Ends p e below QQ (T61.setTop (mkF m 10 #[.val (.int (12 : Int32)), .val .null] [(.ref a_BY_CODE), (.int (12 : Int32))]))
  obtain ⟨cl62, Ar62, -, S62, P62, -, -⟩ := id A_a_BY_CODE
  refine Ends.step (S' := T61.setTop (mkF m 11 #[.val (.int (12 : Int32)), .val .null] [(.int (17 : Int32)), (.int (12 : Int32))])) (fun _ k => X61.arraylength hx (by rw [e61]; exact Ar62.1) (State.isArrayOf_alike hZ.alike Ar62.2.1) (g := (mkF m 10 #[.val (.int (12 : Int32)), .val .null] [(.ref a_BY_CODE), (.int (12 : Int32))])) rfl rfl (hb hby d1_10) _ (by rw [len_of S62 P62]; exact k)) ?_
  show Ends p e below QQ (T61.setTop (mkF m 11 #[.val (.int (12 : Int32)), .val .null] [(.int (17 : Int32)), (.int (12 : Int32))]))
  refine Ends.step (fun _ k => XS.icmpNo X61.here hx rfl (hb hby d1_11) rfl (XT.ii_ge_f (by decide)) k) ?_
  show Ends p e below QQ (T61.setTop (mkF m 14 #[.val (.int (12 : Int32)), .val .null] []))
  obtain ⟨T63, X63, e63, st63⟩ := getS2 X61 hx hZ hown (host := "") (Or.inl (hw _ (List.mem_of_getElem? (i := 4) rfl))) Via.refl e61 S_BY_CODE (g := (mkF m 14 #[.val (.int (12 : Int32)), .val .null] [])) rfl (hb hby d1_14)
  refine Ends.step st63 ?_
  show Ends p e below QQ (T63.setTop (mkF m 17 #[.val (.int (12 : Int32)), .val .null] [(.ref a_BY_CODE)]))
  refine Ends.step (fun _ k => XS.iloadN X63.here hx rfl (hb hby d1_17) rfl k) ?_
  show Ends p e below QQ (T63.setTop (mkF m 18 #[.val (.int (12 : Int32)), .val .null] [(.int (12 : Int32)), (.ref a_BY_CODE)]))
  obtain ⟨cl64, Ar64, q64, S64, P64, H64, G64⟩ := id A_a_BY_CODE
  have hin64 : ¬ ((12 : Int32) < 0 ∨ cl64.slots.size ≤ ((12 : Int32)).toNatClampNeg) := inb_of S64 ⟨by decide, by decide⟩
  have hat64 : cl64.slots[((12 : Int32)).toNatClampNeg]? = some (.ref a_EVENT) := H64.at hin64 (rfl)
  refine Ends.step (fun _ k => X63.aaload hx (j := (12 : Int32)) (v := (.ref a_EVENT)) (by rw [e63]; exact Ar64.1) (State.isArrayOf_alike hZ.alike Ar64.2.1) rfl Ar64.2.2 hin64 hat64 (g := (mkF m 18 #[.val (.int (12 : Int32)), .val .null] [(.int (12 : Int32)), (.ref a_BY_CODE)])) rfl rfl (hb hby d1_18) _ k) ?_
  show Ends p e below QQ (T63.setTop (mkF m 19 #[.val (.int (12 : Int32)), .val .null] [(.ref a_EVENT)]))
  refine Ends.step (fun _ k => XS.astoreN X63.here hx rfl (hb hby d1_19) rfl rfl (l' := #[.val (.int (12 : Int32)), .val (.ref a_EVENT)]) rfl k) ?_
  show Ends p e below QQ (T63.setTop (mkF m 20 #[.val (.int (12 : Int32)), .val (.ref a_EVENT)] []))
  refine Ends.step (fun _ k => XS.aloadN X63.here hx rfl (hb hby d1_20) rfl rfl k) ?_
  show Ends p e below QQ (T63.setTop (mkF m 21 #[.val (.int (12 : Int32)), .val (.ref a_EVENT)] [(.ref a_EVENT)]))
  exact Ends.fin (some (.ref a_EVENT)) X63 hQQ (fun h => by rw [Bd.returns] at h; cases h) Bd.notSynchronized (fun _ hr => retOut X63 hx (t := (.object "com/example/nuntius/nuntius/protocol/Opcode")) Bd.returns rfl (Or.inr (Or.inr (Or.inr (Or.inr ⟨rfl, rfl, rfl⟩)))) (hb hby d1_21) hr) e63 (by decide) (by decide) ⟨rfl, N0, rfl⟩
theorem d2_110 : decode method_2_code 110 = .ok (.getstatic 43, 3) := by decide +kernel
theorem d2_113 : decode method_2_code 113 = .ok (.areturn, 1) := by decide +kernel
theorem ef_2_12 (m : MethodId)  : entryFrame m #[(.int (12 : Int32))] 1 = mkF m 0 #[.val (.int (12 : Int32))] [] := by first | (simp [entryFrame, mkF, argsToLocals, Value.category]; done) | rfl
def Q2_12 (Z : State) (a_EVENT : Addr) (h0 : Heap) (n0 : Nat) (v : Option Value) (h : Heap) (L : List Loc) : Prop := (v = some (.ref a_EVENT)) ∧ (Fr n0 L) ∧ (h = h0)
set_option maxRecDepth 65536 in
set_option maxHeartbeats 40000000 in
theorem rm2_12 (l : Launch) (Z : State) (a0 : Array Value) (hw : ∀ d ∈ tables_1, d.before a0 Z = true) (ws : List Jvm.Cond) (a_EVENT : Addr) (h0 : Heap) (n0 : Nat) (Z0 : n0 ≤ h0.size) (S_EVENT : Sta Z h0 "com/example/nuntius/nuntius/protocol/Opcode" "EVENT" "Lcom/example/nuntius/nuntius/protocol/Opcode;" (.ref a_EVENT)) :
    MetFree l (⟨"com/example/nuntius/nuntius/protocol/OpcodeOfCodePinLaw", "expected", "(I)Lcom/example/nuntius/nuntius/protocol/Opcode;"⟩ : MethodName) (head1 (Jvm.Cond.code (⟨"com/example/nuntius/nuntius/protocol/OpcodeOfCodePinLaw", "expected", "(I)Lcom/example/nuntius/nuntius/protocol/Opcode;"⟩ : MethodName) method_2_code 1 (some (.object "com/example/nuntius/nuntius/protocol/Opcode")) :: ws) ({ frames := 0, cells := 0, slots := 0, locals := 0 } : Room)) (fun a U => a = #[(.int (12 : Int32))] ∧ Z.Warmed39 U.vm ∧ U.heap = h0) (fun _ _ _ _ _ => True) (fun _ U o U' => ∃ v L, o = .returned v ∧ Q2_12 Z a_EVENT h0 n0 v U'.heap L ∧ FrameEnd U o U' L ({ frames := 0, cells := 0, slots := 0, locals := 0 } : Room).cells ({ frames := 0, cells := 0, slots := 0, locals := 0 } : Room).slots) := by
  refine MetFree.of_bodySF (plainFor_of_name pn_1) hisR ?_
  intro p e s m args below meth c s₁ Bd hml0 hP hK
  obtain ⟨rfl, hZ, hh⟩ := hP
  have hx := Bd.exec
  have hby := Bd.bytes
  have hml : c.maxLocals = 1 := hml0
  have hown : s.vm.findClass "com/example/nuntius/nuntius/protocol/OpcodeOfCodePinLaw" = some m.cls := findClass_of_methodNamed Bd.named
  have hnm := (name_of_methodNamed Bd.named Bd.method).1
  have X0 : Stand p l e ({ frames := 0, cells := 0, slots := 0, locals := 0 } : Room) s m #[(.int (12 : Int32))] below meth c s₁ [] 0 0 := Stand.of_body Bd
  have e0 : s₁.heap = h0 := by rw [← hh, Bd.state]; rfl
  have N0 := Fr.nil n0
  refine Ends.opn ?_
  intro QQ hQQ
  refine Ends.step (S' := s₁.setTop (mkF m 0 #[.val (.int (12 : Int32))] [])) (fun t k => castTop (ef_2_12 m ) k) ?_
  show Ends p e below QQ (s₁.setTop (mkF m 0 #[.val (.int (12 : Int32))] []))
  refine Ends.step (fun _ k => XS.iloadN X0.here hx rfl (hb hby d2_0) rfl k) ?_
  show Ends p e below QQ (s₁.setTop (mkF m 1 #[.val (.int (12 : Int32))] [(.int (12 : Int32))]))
  refine Ends.step (fun _ k => XS.ifYes X0.here hx rfl (pc0 := 1) (pc' := 8) rfl (hb hby d2_1) rfl (XT.i0_ne_t (by decide)) (by decide) (by decide) k) ?_
  show Ends p e below QQ (s₁.setTop (mkF m 8 #[.val (.int (12 : Int32))] []))
  refine Ends.step (fun _ k => XS.iloadN X0.here hx rfl (hb hby d2_8) rfl k) ?_
  show Ends p e below QQ (s₁.setTop (mkF m 9 #[.val (.int (12 : Int32))] [(.int (12 : Int32))]))
  refine Ends.step (fun _ k => XT.iconstV X0.here hx rfl (1 : Int32) (hb hby d2_9) rfl k) ?_
  show Ends p e below QQ (s₁.setTop (mkF m 10 #[.val (.int (12 : Int32))] [(.int (1 : Int32)), (.int (12 : Int32))]))
  refine Ends.step (fun _ k => XS.icmpYes X0.here hx rfl (pc0 := 10) (pc' := 17) rfl (hb hby d2_10) rfl (XT.ii_ne_t (by decide)) (by decide) (by decide) k) ?_
  show Ends p e below QQ (s₁.setTop (mkF m 17 #[.val (.int (12 : Int32))] []))
  refine Ends.step (fun _ k => XS.iloadN X0.here hx rfl (hb hby d2_17) rfl k) ?_
  show Ends p e below QQ (s₁.setTop (mkF m 18 #[.val (.int (12 : Int32))] [(.int (12 : Int32))]))
  refine Ends.step (fun _ k => XT.iconstV X0.here hx rfl (2 : Int32) (hb hby d2_18) rfl k) ?_
  show Ends p e below QQ (s₁.setTop (mkF m 19 #[.val (.int (12 : Int32))] [(.int (2 : Int32)), (.int (12 : Int32))]))
  refine Ends.step (fun _ k => XS.icmpYes X0.here hx rfl (pc0 := 19) (pc' := 26) rfl (hb hby d2_19) rfl (XT.ii_ne_t (by decide)) (by decide) (by decide) k) ?_
  show Ends p e below QQ (s₁.setTop (mkF m 26 #[.val (.int (12 : Int32))] []))
  refine Ends.step (fun _ k => XS.iloadN X0.here hx rfl (hb hby d2_26) rfl k) ?_
  show Ends p e below QQ (s₁.setTop (mkF m 27 #[.val (.int (12 : Int32))] [(.int (12 : Int32))]))
  refine Ends.step (fun _ k => XT.iconstV X0.here hx rfl (3 : Int32) (hb hby d2_27) rfl k) ?_
  show Ends p e below QQ (s₁.setTop (mkF m 28 #[.val (.int (12 : Int32))] [(.int (3 : Int32)), (.int (12 : Int32))]))
  refine Ends.step (fun _ k => XS.icmpYes X0.here hx rfl (pc0 := 28) (pc' := 35) rfl (hb hby d2_28) rfl (XT.ii_ne_t (by decide)) (by decide) (by decide) k) ?_
  show Ends p e below QQ (s₁.setTop (mkF m 35 #[.val (.int (12 : Int32))] []))
  refine Ends.step (fun _ k => XS.iloadN X0.here hx rfl (hb hby d2_35) rfl k) ?_
  show Ends p e below QQ (s₁.setTop (mkF m 36 #[.val (.int (12 : Int32))] [(.int (12 : Int32))]))
  refine Ends.step (fun _ k => XT.iconstV X0.here hx rfl (5 : Int32) (hb hby d2_36) rfl k) ?_
  show Ends p e below QQ (s₁.setTop (mkF m 37 #[.val (.int (12 : Int32))] [(.int (5 : Int32)), (.int (12 : Int32))]))
  refine Ends.step (fun _ k => XS.icmpYes X0.here hx rfl (pc0 := 37) (pc' := 44) rfl (hb hby d2_37) rfl (XT.ii_ne_t (by decide)) (by decide) (by decide) k) ?_
  show Ends p e below QQ (s₁.setTop (mkF m 44 #[.val (.int (12 : Int32))] []))
  refine Ends.step (fun _ k => XS.iloadN X0.here hx rfl (hb hby d2_44) rfl k) ?_
  show Ends p e below QQ (s₁.setTop (mkF m 45 #[.val (.int (12 : Int32))] [(.int (12 : Int32))]))
  refine Ends.step (fun _ k => XT.bipushV X0.here hx rfl (6 : Int32) (hb hby d2_45) rfl k) ?_
  show Ends p e below QQ (s₁.setTop (mkF m 47 #[.val (.int (12 : Int32))] [(.int (6 : Int32)), (.int (12 : Int32))]))
  refine Ends.step (fun _ k => XS.icmpYes X0.here hx rfl (pc0 := 47) (pc' := 54) rfl (hb hby d2_47) rfl (XT.ii_ne_t (by decide)) (by decide) (by decide) k) ?_
  show Ends p e below QQ (s₁.setTop (mkF m 54 #[.val (.int (12 : Int32))] []))
  refine Ends.step (fun _ k => XS.iloadN X0.here hx rfl (hb hby d2_54) rfl k) ?_
  show Ends p e below QQ (s₁.setTop (mkF m 55 #[.val (.int (12 : Int32))] [(.int (12 : Int32))]))
  refine Ends.step (fun _ k => XT.bipushV X0.here hx rfl (7 : Int32) (hb hby d2_55) rfl k) ?_
  show Ends p e below QQ (s₁.setTop (mkF m 57 #[.val (.int (12 : Int32))] [(.int (7 : Int32)), (.int (12 : Int32))]))
  refine Ends.step (fun _ k => XS.icmpYes X0.here hx rfl (pc0 := 57) (pc' := 64) rfl (hb hby d2_57) rfl (XT.ii_ne_t (by decide)) (by decide) (by decide) k) ?_
  show Ends p e below QQ (s₁.setTop (mkF m 64 #[.val (.int (12 : Int32))] []))
  refine Ends.step (fun _ k => XS.iloadN X0.here hx rfl (hb hby d2_64) rfl k) ?_
  show Ends p e below QQ (s₁.setTop (mkF m 65 #[.val (.int (12 : Int32))] [(.int (12 : Int32))]))
  refine Ends.step (fun _ k => XT.bipushV X0.here hx rfl (8 : Int32) (hb hby d2_65) rfl k) ?_
  show Ends p e below QQ (s₁.setTop (mkF m 67 #[.val (.int (12 : Int32))] [(.int (8 : Int32)), (.int (12 : Int32))]))
  refine Ends.step (fun _ k => XS.icmpYes X0.here hx rfl (pc0 := 67) (pc' := 74) rfl (hb hby d2_67) rfl (XT.ii_ne_t (by decide)) (by decide) (by decide) k) ?_
  show Ends p e below QQ (s₁.setTop (mkF m 74 #[.val (.int (12 : Int32))] []))
  refine Ends.step (fun _ k => XS.iloadN X0.here hx rfl (hb hby d2_74) rfl k) ?_
  show Ends p e below QQ (s₁.setTop (mkF m 75 #[.val (.int (12 : Int32))] [(.int (12 : Int32))]))
  refine Ends.step (fun _ k => XT.bipushV X0.here hx rfl (9 : Int32) (hb hby d2_75) rfl k) ?_
  show Ends p e below QQ (s₁.setTop (mkF m 77 #[.val (.int (12 : Int32))] [(.int (9 : Int32)), (.int (12 : Int32))]))
  refine Ends.step (fun _ k => XS.icmpYes X0.here hx rfl (pc0 := 77) (pc' := 84) rfl (hb hby d2_77) rfl (XT.ii_ne_t (by decide)) (by decide) (by decide) k) ?_
  show Ends p e below QQ (s₁.setTop (mkF m 84 #[.val (.int (12 : Int32))] []))
  refine Ends.step (fun _ k => XS.iloadN X0.here hx rfl (hb hby d2_84) rfl k) ?_
  show Ends p e below QQ (s₁.setTop (mkF m 85 #[.val (.int (12 : Int32))] [(.int (12 : Int32))]))
  refine Ends.step (fun _ k => XT.bipushV X0.here hx rfl (10 : Int32) (hb hby d2_85) rfl k) ?_
  show Ends p e below QQ (s₁.setTop (mkF m 87 #[.val (.int (12 : Int32))] [(.int (10 : Int32)), (.int (12 : Int32))]))
  refine Ends.step (fun _ k => XS.icmpYes X0.here hx rfl (pc0 := 87) (pc' := 94) rfl (hb hby d2_87) rfl (XT.ii_ne_t (by decide)) (by decide) (by decide) k) ?_
  show Ends p e below QQ (s₁.setTop (mkF m 94 #[.val (.int (12 : Int32))] []))
  refine Ends.step (fun _ k => XS.iloadN X0.here hx rfl (hb hby d2_94) rfl k) ?_
  show Ends p e below QQ (s₁.setTop (mkF m 95 #[.val (.int (12 : Int32))] [(.int (12 : Int32))]))
  refine Ends.step (fun _ k => XT.bipushV X0.here hx rfl (11 : Int32) (hb hby d2_95) rfl k) ?_
  show Ends p e below QQ (s₁.setTop (mkF m 97 #[.val (.int (12 : Int32))] [(.int (11 : Int32)), (.int (12 : Int32))]))
  refine Ends.step (fun _ k => XS.icmpYes X0.here hx rfl (pc0 := 97) (pc' := 104) rfl (hb hby d2_97) rfl (XT.ii_ne_t (by decide)) (by decide) (by decide) k) ?_
  show Ends p e below QQ (s₁.setTop (mkF m 104 #[.val (.int (12 : Int32))] []))
  refine Ends.step (fun _ k => XS.iloadN X0.here hx rfl (hb hby d2_104) rfl k) ?_
  show Ends p e below QQ (s₁.setTop (mkF m 105 #[.val (.int (12 : Int32))] [(.int (12 : Int32))]))
  refine Ends.step (fun _ k => XT.bipushV X0.here hx rfl (12 : Int32) (hb hby d2_105) rfl k) ?_
  show Ends p e below QQ (s₁.setTop (mkF m 107 #[.val (.int (12 : Int32))] [(.int (12 : Int32)), (.int (12 : Int32))]))
  refine Ends.step (fun _ k => XS.icmpNo X0.here hx rfl (hb hby d2_107) rfl (XT.ii_ne_f (by decide)) k) ?_
  show Ends p e below QQ (s₁.setTop (mkF m 110 #[.val (.int (12 : Int32))] []))
  obtain ⟨T65, X65, e65, st65⟩ := getS2 X0 hx hZ hown (host := "") (Or.inl (hw _ (List.mem_of_getElem? (i := 26) rfl))) Via.refl e0 S_EVENT (g := (mkF m 110 #[.val (.int (12 : Int32))] [])) rfl (hb hby d2_110)
  refine Ends.step st65 ?_
  show Ends p e below QQ (T65.setTop (mkF m 113 #[.val (.int (12 : Int32))] [(.ref a_EVENT)]))
  exact Ends.fin (some (.ref a_EVENT)) X65 hQQ (fun h => by rw [Bd.returns] at h; cases h) Bd.notSynchronized (fun _ hr => retOut X65 hx (t := (.object "com/example/nuntius/nuntius/protocol/Opcode")) Bd.returns rfl (Or.inr (Or.inr (Or.inr (Or.inr ⟨rfl, rfl, rfl⟩)))) (hb hby d2_113) hr) e65 (by decide) (by decide) ⟨rfl, N0, rfl⟩
theorem ef_1_13 (m : MethodId)  : entryFrame m #[(.int (13 : Int32))] 2 = mkF m 0 #[.val (.int (13 : Int32)), .unset] [] := by first | (simp [entryFrame, mkF, argsToLocals, Value.category]; done) | rfl
def Q1_13 (Z : State) (a_BY_CODE : Addr) (a_ERROR : Addr) (a_AUTH_CHALLENGE : Addr) (a_SUPPORTED : Addr) (a_RESULT : Addr) (a_EVENT : Addr) (a_AUTHENTICATE : Addr) (a_EXECUTE : Addr) (a_AUTH_SUCCESS : Addr) (a_OPTIONS : Addr) (a_STARTUP : Addr) (a_PREPARE : Addr) (a_REGISTER : Addr) (a_READY : Addr) (a_QUERY : Addr) (a_AUTH_RESPONSE : Addr) (a_BATCH : Addr) (k_a_BY_CODE : ClassId) (h0 : Heap) (n0 : Nat) (v : Option Value) (h : Heap) (L : List Loc) : Prop := (v = some (.ref a_BATCH)) ∧ (Fr n0 L) ∧ (h = h0)
set_option maxRecDepth 65536 in
set_option maxHeartbeats 40000000 in
theorem rm1_13 (l : Launch) (Z : State) (a0 : Array Value) (hw : ∀ d ∈ tables_1, d.before a0 Z = true) (ws : List Jvm.Cond) (a_BY_CODE : Addr) (a_ERROR : Addr) (a_AUTH_CHALLENGE : Addr) (a_SUPPORTED : Addr) (a_RESULT : Addr) (a_EVENT : Addr) (a_AUTHENTICATE : Addr) (a_EXECUTE : Addr) (a_AUTH_SUCCESS : Addr) (a_OPTIONS : Addr) (a_STARTUP : Addr) (a_PREPARE : Addr) (a_REGISTER : Addr) (a_READY : Addr) (a_QUERY : Addr) (a_AUTH_RESPONSE : Addr) (a_BATCH : Addr) (k_a_BY_CODE : ClassId) (h0 : Heap) (n0 : Nat) (Z0 : n0 ≤ h0.size) (A_a_BY_CODE : Arv Z h0 a_BY_CODE k_a_BY_CODE (.object "com/example/nuntius/nuntius/protocol/Opcode") (17 : Int32) [(.ref a_ERROR), (.ref a_STARTUP), (.ref a_READY), (.ref a_AUTHENTICATE), .null, (.ref a_OPTIONS), (.ref a_SUPPORTED), (.ref a_QUERY), (.ref a_RESULT), (.ref a_PREPARE), (.ref a_EXECUTE), (.ref a_REGISTER), (.ref a_EVENT), (.ref a_BATCH), (.ref a_AUTH_CHALLENGE), (.ref a_AUTH_RESPONSE), (.ref a_AUTH_SUCCESS)] .null) (S_BY_CODE : Sta Z h0 "com/example/nuntius/nuntius/protocol/Opcode" "BY_CODE" "[Lcom/example/nuntius/nuntius/protocol/Opcode;" (.ref a_BY_CODE)) :
    MetFree l (⟨"com/example/nuntius/nuntius/protocol/Opcode", "ofCode", "(I)Lcom/example/nuntius/nuntius/protocol/Opcode;"⟩ : MethodName) (head1 (Jvm.Cond.code (⟨"com/example/nuntius/nuntius/protocol/Opcode", "ofCode", "(I)Lcom/example/nuntius/nuntius/protocol/Opcode;"⟩ : MethodName) prog_43_method_5_code 2 (some (.object "com/example/nuntius/nuntius/protocol/Opcode")) :: ws) ({ frames := 0, cells := 0, slots := 0, locals := 0 } : Room)) (fun a U => a = #[(.int (13 : Int32))] ∧ Z.Warmed39 U.vm ∧ U.heap = h0) (fun _ _ _ _ _ => True) (fun _ U o U' => ∃ v L, o = .returned v ∧ Q1_13 Z a_BY_CODE a_ERROR a_AUTH_CHALLENGE a_SUPPORTED a_RESULT a_EVENT a_AUTHENTICATE a_EXECUTE a_AUTH_SUCCESS a_OPTIONS a_STARTUP a_PREPARE a_REGISTER a_READY a_QUERY a_AUTH_RESPONSE a_BATCH k_a_BY_CODE h0 n0 v U'.heap L ∧ FrameEnd U o U' L ({ frames := 0, cells := 0, slots := 0, locals := 0 } : Room).cells ({ frames := 0, cells := 0, slots := 0, locals := 0 } : Room).slots) := by
  refine MetFree.of_bodySF (plainFor_of_name pn_0) hisR ?_
  intro p e s m args below meth c s₁ Bd hml0 hP hK
  obtain ⟨rfl, hZ, hh⟩ := hP
  have hx := Bd.exec
  have hby := Bd.bytes
  have hml : c.maxLocals = 2 := hml0
  have hown : s.vm.findClass "com/example/nuntius/nuntius/protocol/Opcode" = some m.cls := findClass_of_methodNamed Bd.named
  have hnm := (name_of_methodNamed Bd.named Bd.method).1
  have X0 : Stand p l e ({ frames := 0, cells := 0, slots := 0, locals := 0 } : Room) s m #[(.int (13 : Int32))] below meth c s₁ [] 0 0 := Stand.of_body Bd
  have e0 : s₁.heap = h0 := by rw [← hh, Bd.state]; rfl
  have N0 := Fr.nil n0
  refine Ends.opn ?_
  intro QQ hQQ
  refine Ends.step (S' := s₁.setTop (mkF m 0 #[.val (.int (13 : Int32)), .unset] [])) (fun t k => castTop (ef_1_13 m ) k) ?_
  show Ends p e below QQ (s₁.setTop (mkF m 0 #[.val (.int (13 : Int32)), .unset] []))
  refine Ends.step (fun _ k => XS.aconstNull X0.here hx rfl (hb hby d1_0) k) ?_
  show Ends p e below QQ (s₁.setTop (mkF m 1 #[.val (.int (13 : Int32)), .unset] [.null]))
  refine Ends.step (fun _ k => XS.astoreN X0.here hx rfl (hb hby d1_1) rfl rfl (l' := #[.val (.int (13 : Int32)), .val .null]) rfl k) ?_
  show Ends p e below QQ (s₁.setTop (mkF m 2 #[.val (.int (13 : Int32)), .val .null] []))
  refine Ends.step (fun _ k => XS.iloadN X0.here hx rfl (hb hby d1_2) rfl k) ?_
  show Ends p e below QQ (s₁.setTop (mkF m 3 #[.val (.int (13 : Int32)), .val .null] [(.int (13 : Int32))]))
  refine Ends.step (fun _ k => XS.ifNo X0.here hx rfl (hb hby d1_3) rfl (XT.i0_lt_f (by decide)) k) ?_
  show Ends p e below QQ (s₁.setTop (mkF m 6 #[.val (.int (13 : Int32)), .val .null] []))
  refine Ends.step (fun _ k => XS.iloadN X0.here hx rfl (hb hby d1_6) rfl k) ?_
  show Ends p e below QQ (s₁.setTop (mkF m 7 #[.val (.int (13 : Int32)), .val .null] [(.int (13 : Int32))]))
  obtain ⟨T66, X66, e66, st66⟩ := getS2 X0 hx hZ hown (host := "") (Or.inl (hw _ (List.mem_of_getElem? (i := 4) rfl))) Via.refl e0 S_BY_CODE (g := (mkF m 7 #[.val (.int (13 : Int32)), .val .null] [(.int (13 : Int32))])) rfl (hb hby d1_7)
  refine Ends.step st66 ?_
  show Ends p e below QQ (T66.setTop (mkF m 10 #[.val (.int (13 : Int32)), .val .null] [(.ref a_BY_CODE), (.int (13 : Int32))]))
  obtain ⟨cl67, Ar67, -, S67, P67, -, -⟩ := id A_a_BY_CODE
  refine Ends.step (S' := T66.setTop (mkF m 11 #[.val (.int (13 : Int32)), .val .null] [(.int (17 : Int32)), (.int (13 : Int32))])) (fun _ k => X66.arraylength hx (by rw [e66]; exact Ar67.1) (State.isArrayOf_alike hZ.alike Ar67.2.1) (g := (mkF m 10 #[.val (.int (13 : Int32)), .val .null] [(.ref a_BY_CODE), (.int (13 : Int32))])) rfl rfl (hb hby d1_10) _ (by rw [len_of S67 P67]; exact k)) ?_
  show Ends p e below QQ (T66.setTop (mkF m 11 #[.val (.int (13 : Int32)), .val .null] [(.int (17 : Int32)), (.int (13 : Int32))]))
  refine Ends.step (fun _ k => XS.icmpNo X66.here hx rfl (hb hby d1_11) rfl (XT.ii_ge_f (by decide)) k) ?_
  show Ends p e below QQ (T66.setTop (mkF m 14 #[.val (.int (13 : Int32)), .val .null] []))
  obtain ⟨T68, X68, e68, st68⟩ := getS2 X66 hx hZ hown (host := "") (Or.inl (hw _ (List.mem_of_getElem? (i := 4) rfl))) Via.refl e66 S_BY_CODE (g := (mkF m 14 #[.val (.int (13 : Int32)), .val .null] [])) rfl (hb hby d1_14)
  refine Ends.step st68 ?_
  show Ends p e below QQ (T68.setTop (mkF m 17 #[.val (.int (13 : Int32)), .val .null] [(.ref a_BY_CODE)]))
  refine Ends.step (fun _ k => XS.iloadN X68.here hx rfl (hb hby d1_17) rfl k) ?_
  show Ends p e below QQ (T68.setTop (mkF m 18 #[.val (.int (13 : Int32)), .val .null] [(.int (13 : Int32)), (.ref a_BY_CODE)]))
  obtain ⟨cl69, Ar69, q69, S69, P69, H69, G69⟩ := id A_a_BY_CODE
  have hin69 : ¬ ((13 : Int32) < 0 ∨ cl69.slots.size ≤ ((13 : Int32)).toNatClampNeg) := inb_of S69 ⟨by decide, by decide⟩
  have hat69 : cl69.slots[((13 : Int32)).toNatClampNeg]? = some (.ref a_BATCH) := H69.at hin69 (rfl)
  refine Ends.step (fun _ k => X68.aaload hx (j := (13 : Int32)) (v := (.ref a_BATCH)) (by rw [e68]; exact Ar69.1) (State.isArrayOf_alike hZ.alike Ar69.2.1) rfl Ar69.2.2 hin69 hat69 (g := (mkF m 18 #[.val (.int (13 : Int32)), .val .null] [(.int (13 : Int32)), (.ref a_BY_CODE)])) rfl rfl (hb hby d1_18) _ k) ?_
  show Ends p e below QQ (T68.setTop (mkF m 19 #[.val (.int (13 : Int32)), .val .null] [(.ref a_BATCH)]))
  refine Ends.step (fun _ k => XS.astoreN X68.here hx rfl (hb hby d1_19) rfl rfl (l' := #[.val (.int (13 : Int32)), .val (.ref a_BATCH)]) rfl k) ?_
  show Ends p e below QQ (T68.setTop (mkF m 20 #[.val (.int (13 : Int32)), .val (.ref a_BATCH)] []))
  refine Ends.step (fun _ k => XS.aloadN X68.here hx rfl (hb hby d1_20) rfl rfl k) ?_
  show Ends p e below QQ (T68.setTop (mkF m 21 #[.val (.int (13 : Int32)), .val (.ref a_BATCH)] [(.ref a_BATCH)]))
  exact Ends.fin (some (.ref a_BATCH)) X68 hQQ (fun h => by rw [Bd.returns] at h; cases h) Bd.notSynchronized (fun _ hr => retOut X68 hx (t := (.object "com/example/nuntius/nuntius/protocol/Opcode")) Bd.returns rfl (Or.inr (Or.inr (Or.inr (Or.inr ⟨rfl, rfl, rfl⟩)))) (hb hby d1_21) hr) e68 (by decide) (by decide) ⟨rfl, N0, rfl⟩
theorem d2_120 : decode method_2_code 120 = .ok (.getstatic 46, 3) := by decide +kernel
theorem d2_123 : decode method_2_code 123 = .ok (.areturn, 1) := by decide +kernel
theorem ef_2_13 (m : MethodId)  : entryFrame m #[(.int (13 : Int32))] 1 = mkF m 0 #[.val (.int (13 : Int32))] [] := by first | (simp [entryFrame, mkF, argsToLocals, Value.category]; done) | rfl
def Q2_13 (Z : State) (a_BATCH : Addr) (h0 : Heap) (n0 : Nat) (v : Option Value) (h : Heap) (L : List Loc) : Prop := (v = some (.ref a_BATCH)) ∧ (Fr n0 L) ∧ (h = h0)
set_option maxRecDepth 65536 in
set_option maxHeartbeats 40000000 in
theorem rm2_13 (l : Launch) (Z : State) (a0 : Array Value) (hw : ∀ d ∈ tables_1, d.before a0 Z = true) (ws : List Jvm.Cond) (a_BATCH : Addr) (h0 : Heap) (n0 : Nat) (Z0 : n0 ≤ h0.size) (S_BATCH : Sta Z h0 "com/example/nuntius/nuntius/protocol/Opcode" "BATCH" "Lcom/example/nuntius/nuntius/protocol/Opcode;" (.ref a_BATCH)) :
    MetFree l (⟨"com/example/nuntius/nuntius/protocol/OpcodeOfCodePinLaw", "expected", "(I)Lcom/example/nuntius/nuntius/protocol/Opcode;"⟩ : MethodName) (head1 (Jvm.Cond.code (⟨"com/example/nuntius/nuntius/protocol/OpcodeOfCodePinLaw", "expected", "(I)Lcom/example/nuntius/nuntius/protocol/Opcode;"⟩ : MethodName) method_2_code 1 (some (.object "com/example/nuntius/nuntius/protocol/Opcode")) :: ws) ({ frames := 0, cells := 0, slots := 0, locals := 0 } : Room)) (fun a U => a = #[(.int (13 : Int32))] ∧ Z.Warmed39 U.vm ∧ U.heap = h0) (fun _ _ _ _ _ => True) (fun _ U o U' => ∃ v L, o = .returned v ∧ Q2_13 Z a_BATCH h0 n0 v U'.heap L ∧ FrameEnd U o U' L ({ frames := 0, cells := 0, slots := 0, locals := 0 } : Room).cells ({ frames := 0, cells := 0, slots := 0, locals := 0 } : Room).slots) := by
  refine MetFree.of_bodySF (plainFor_of_name pn_1) hisR ?_
  intro p e s m args below meth c s₁ Bd hml0 hP hK
  obtain ⟨rfl, hZ, hh⟩ := hP
  have hx := Bd.exec
  have hby := Bd.bytes
  have hml : c.maxLocals = 1 := hml0
  have hown : s.vm.findClass "com/example/nuntius/nuntius/protocol/OpcodeOfCodePinLaw" = some m.cls := findClass_of_methodNamed Bd.named
  have hnm := (name_of_methodNamed Bd.named Bd.method).1
  have X0 : Stand p l e ({ frames := 0, cells := 0, slots := 0, locals := 0 } : Room) s m #[(.int (13 : Int32))] below meth c s₁ [] 0 0 := Stand.of_body Bd
  have e0 : s₁.heap = h0 := by rw [← hh, Bd.state]; rfl
  have N0 := Fr.nil n0
  refine Ends.opn ?_
  intro QQ hQQ
  refine Ends.step (S' := s₁.setTop (mkF m 0 #[.val (.int (13 : Int32))] [])) (fun t k => castTop (ef_2_13 m ) k) ?_
  show Ends p e below QQ (s₁.setTop (mkF m 0 #[.val (.int (13 : Int32))] []))
  refine Ends.step (fun _ k => XS.iloadN X0.here hx rfl (hb hby d2_0) rfl k) ?_
  show Ends p e below QQ (s₁.setTop (mkF m 1 #[.val (.int (13 : Int32))] [(.int (13 : Int32))]))
  refine Ends.step (fun _ k => XS.ifYes X0.here hx rfl (pc0 := 1) (pc' := 8) rfl (hb hby d2_1) rfl (XT.i0_ne_t (by decide)) (by decide) (by decide) k) ?_
  show Ends p e below QQ (s₁.setTop (mkF m 8 #[.val (.int (13 : Int32))] []))
  refine Ends.step (fun _ k => XS.iloadN X0.here hx rfl (hb hby d2_8) rfl k) ?_
  show Ends p e below QQ (s₁.setTop (mkF m 9 #[.val (.int (13 : Int32))] [(.int (13 : Int32))]))
  refine Ends.step (fun _ k => XT.iconstV X0.here hx rfl (1 : Int32) (hb hby d2_9) rfl k) ?_
  show Ends p e below QQ (s₁.setTop (mkF m 10 #[.val (.int (13 : Int32))] [(.int (1 : Int32)), (.int (13 : Int32))]))
  refine Ends.step (fun _ k => XS.icmpYes X0.here hx rfl (pc0 := 10) (pc' := 17) rfl (hb hby d2_10) rfl (XT.ii_ne_t (by decide)) (by decide) (by decide) k) ?_
  show Ends p e below QQ (s₁.setTop (mkF m 17 #[.val (.int (13 : Int32))] []))
  refine Ends.step (fun _ k => XS.iloadN X0.here hx rfl (hb hby d2_17) rfl k) ?_
  show Ends p e below QQ (s₁.setTop (mkF m 18 #[.val (.int (13 : Int32))] [(.int (13 : Int32))]))
  refine Ends.step (fun _ k => XT.iconstV X0.here hx rfl (2 : Int32) (hb hby d2_18) rfl k) ?_
  show Ends p e below QQ (s₁.setTop (mkF m 19 #[.val (.int (13 : Int32))] [(.int (2 : Int32)), (.int (13 : Int32))]))
  refine Ends.step (fun _ k => XS.icmpYes X0.here hx rfl (pc0 := 19) (pc' := 26) rfl (hb hby d2_19) rfl (XT.ii_ne_t (by decide)) (by decide) (by decide) k) ?_
  show Ends p e below QQ (s₁.setTop (mkF m 26 #[.val (.int (13 : Int32))] []))
  refine Ends.step (fun _ k => XS.iloadN X0.here hx rfl (hb hby d2_26) rfl k) ?_
  show Ends p e below QQ (s₁.setTop (mkF m 27 #[.val (.int (13 : Int32))] [(.int (13 : Int32))]))
  refine Ends.step (fun _ k => XT.iconstV X0.here hx rfl (3 : Int32) (hb hby d2_27) rfl k) ?_
  show Ends p e below QQ (s₁.setTop (mkF m 28 #[.val (.int (13 : Int32))] [(.int (3 : Int32)), (.int (13 : Int32))]))
  refine Ends.step (fun _ k => XS.icmpYes X0.here hx rfl (pc0 := 28) (pc' := 35) rfl (hb hby d2_28) rfl (XT.ii_ne_t (by decide)) (by decide) (by decide) k) ?_
  show Ends p e below QQ (s₁.setTop (mkF m 35 #[.val (.int (13 : Int32))] []))
  refine Ends.step (fun _ k => XS.iloadN X0.here hx rfl (hb hby d2_35) rfl k) ?_
  show Ends p e below QQ (s₁.setTop (mkF m 36 #[.val (.int (13 : Int32))] [(.int (13 : Int32))]))
  refine Ends.step (fun _ k => XT.iconstV X0.here hx rfl (5 : Int32) (hb hby d2_36) rfl k) ?_
  show Ends p e below QQ (s₁.setTop (mkF m 37 #[.val (.int (13 : Int32))] [(.int (5 : Int32)), (.int (13 : Int32))]))
  refine Ends.step (fun _ k => XS.icmpYes X0.here hx rfl (pc0 := 37) (pc' := 44) rfl (hb hby d2_37) rfl (XT.ii_ne_t (by decide)) (by decide) (by decide) k) ?_
  show Ends p e below QQ (s₁.setTop (mkF m 44 #[.val (.int (13 : Int32))] []))
  refine Ends.step (fun _ k => XS.iloadN X0.here hx rfl (hb hby d2_44) rfl k) ?_
  show Ends p e below QQ (s₁.setTop (mkF m 45 #[.val (.int (13 : Int32))] [(.int (13 : Int32))]))
  refine Ends.step (fun _ k => XT.bipushV X0.here hx rfl (6 : Int32) (hb hby d2_45) rfl k) ?_
  show Ends p e below QQ (s₁.setTop (mkF m 47 #[.val (.int (13 : Int32))] [(.int (6 : Int32)), (.int (13 : Int32))]))
  refine Ends.step (fun _ k => XS.icmpYes X0.here hx rfl (pc0 := 47) (pc' := 54) rfl (hb hby d2_47) rfl (XT.ii_ne_t (by decide)) (by decide) (by decide) k) ?_
  show Ends p e below QQ (s₁.setTop (mkF m 54 #[.val (.int (13 : Int32))] []))
  refine Ends.step (fun _ k => XS.iloadN X0.here hx rfl (hb hby d2_54) rfl k) ?_
  show Ends p e below QQ (s₁.setTop (mkF m 55 #[.val (.int (13 : Int32))] [(.int (13 : Int32))]))
  refine Ends.step (fun _ k => XT.bipushV X0.here hx rfl (7 : Int32) (hb hby d2_55) rfl k) ?_
  show Ends p e below QQ (s₁.setTop (mkF m 57 #[.val (.int (13 : Int32))] [(.int (7 : Int32)), (.int (13 : Int32))]))
  refine Ends.step (fun _ k => XS.icmpYes X0.here hx rfl (pc0 := 57) (pc' := 64) rfl (hb hby d2_57) rfl (XT.ii_ne_t (by decide)) (by decide) (by decide) k) ?_
  show Ends p e below QQ (s₁.setTop (mkF m 64 #[.val (.int (13 : Int32))] []))
  refine Ends.step (fun _ k => XS.iloadN X0.here hx rfl (hb hby d2_64) rfl k) ?_
  show Ends p e below QQ (s₁.setTop (mkF m 65 #[.val (.int (13 : Int32))] [(.int (13 : Int32))]))
  refine Ends.step (fun _ k => XT.bipushV X0.here hx rfl (8 : Int32) (hb hby d2_65) rfl k) ?_
  show Ends p e below QQ (s₁.setTop (mkF m 67 #[.val (.int (13 : Int32))] [(.int (8 : Int32)), (.int (13 : Int32))]))
  refine Ends.step (fun _ k => XS.icmpYes X0.here hx rfl (pc0 := 67) (pc' := 74) rfl (hb hby d2_67) rfl (XT.ii_ne_t (by decide)) (by decide) (by decide) k) ?_
  show Ends p e below QQ (s₁.setTop (mkF m 74 #[.val (.int (13 : Int32))] []))
  refine Ends.step (fun _ k => XS.iloadN X0.here hx rfl (hb hby d2_74) rfl k) ?_
  show Ends p e below QQ (s₁.setTop (mkF m 75 #[.val (.int (13 : Int32))] [(.int (13 : Int32))]))
  refine Ends.step (fun _ k => XT.bipushV X0.here hx rfl (9 : Int32) (hb hby d2_75) rfl k) ?_
  show Ends p e below QQ (s₁.setTop (mkF m 77 #[.val (.int (13 : Int32))] [(.int (9 : Int32)), (.int (13 : Int32))]))
  refine Ends.step (fun _ k => XS.icmpYes X0.here hx rfl (pc0 := 77) (pc' := 84) rfl (hb hby d2_77) rfl (XT.ii_ne_t (by decide)) (by decide) (by decide) k) ?_
  show Ends p e below QQ (s₁.setTop (mkF m 84 #[.val (.int (13 : Int32))] []))
  refine Ends.step (fun _ k => XS.iloadN X0.here hx rfl (hb hby d2_84) rfl k) ?_
  show Ends p e below QQ (s₁.setTop (mkF m 85 #[.val (.int (13 : Int32))] [(.int (13 : Int32))]))
  refine Ends.step (fun _ k => XT.bipushV X0.here hx rfl (10 : Int32) (hb hby d2_85) rfl k) ?_
  show Ends p e below QQ (s₁.setTop (mkF m 87 #[.val (.int (13 : Int32))] [(.int (10 : Int32)), (.int (13 : Int32))]))
  refine Ends.step (fun _ k => XS.icmpYes X0.here hx rfl (pc0 := 87) (pc' := 94) rfl (hb hby d2_87) rfl (XT.ii_ne_t (by decide)) (by decide) (by decide) k) ?_
  show Ends p e below QQ (s₁.setTop (mkF m 94 #[.val (.int (13 : Int32))] []))
  refine Ends.step (fun _ k => XS.iloadN X0.here hx rfl (hb hby d2_94) rfl k) ?_
  show Ends p e below QQ (s₁.setTop (mkF m 95 #[.val (.int (13 : Int32))] [(.int (13 : Int32))]))
  refine Ends.step (fun _ k => XT.bipushV X0.here hx rfl (11 : Int32) (hb hby d2_95) rfl k) ?_
  show Ends p e below QQ (s₁.setTop (mkF m 97 #[.val (.int (13 : Int32))] [(.int (11 : Int32)), (.int (13 : Int32))]))
  refine Ends.step (fun _ k => XS.icmpYes X0.here hx rfl (pc0 := 97) (pc' := 104) rfl (hb hby d2_97) rfl (XT.ii_ne_t (by decide)) (by decide) (by decide) k) ?_
  show Ends p e below QQ (s₁.setTop (mkF m 104 #[.val (.int (13 : Int32))] []))
  refine Ends.step (fun _ k => XS.iloadN X0.here hx rfl (hb hby d2_104) rfl k) ?_
  show Ends p e below QQ (s₁.setTop (mkF m 105 #[.val (.int (13 : Int32))] [(.int (13 : Int32))]))
  refine Ends.step (fun _ k => XT.bipushV X0.here hx rfl (12 : Int32) (hb hby d2_105) rfl k) ?_
  show Ends p e below QQ (s₁.setTop (mkF m 107 #[.val (.int (13 : Int32))] [(.int (12 : Int32)), (.int (13 : Int32))]))
  refine Ends.step (fun _ k => XS.icmpYes X0.here hx rfl (pc0 := 107) (pc' := 114) rfl (hb hby d2_107) rfl (XT.ii_ne_t (by decide)) (by decide) (by decide) k) ?_
  show Ends p e below QQ (s₁.setTop (mkF m 114 #[.val (.int (13 : Int32))] []))
  refine Ends.step (fun _ k => XS.iloadN X0.here hx rfl (hb hby d2_114) rfl k) ?_
  show Ends p e below QQ (s₁.setTop (mkF m 115 #[.val (.int (13 : Int32))] [(.int (13 : Int32))]))
  refine Ends.step (fun _ k => XT.bipushV X0.here hx rfl (13 : Int32) (hb hby d2_115) rfl k) ?_
  show Ends p e below QQ (s₁.setTop (mkF m 117 #[.val (.int (13 : Int32))] [(.int (13 : Int32)), (.int (13 : Int32))]))
  refine Ends.step (fun _ k => XS.icmpNo X0.here hx rfl (hb hby d2_117) rfl (XT.ii_ne_f (by decide)) k) ?_
  show Ends p e below QQ (s₁.setTop (mkF m 120 #[.val (.int (13 : Int32))] []))
  obtain ⟨T70, X70, e70, st70⟩ := getS2 X0 hx hZ hown (host := "") (Or.inl (hw _ (List.mem_of_getElem? (i := 48) rfl))) Via.refl e0 S_BATCH (g := (mkF m 120 #[.val (.int (13 : Int32))] [])) rfl (hb hby d2_120)
  refine Ends.step st70 ?_
  show Ends p e below QQ (T70.setTop (mkF m 123 #[.val (.int (13 : Int32))] [(.ref a_BATCH)]))
  exact Ends.fin (some (.ref a_BATCH)) X70 hQQ (fun h => by rw [Bd.returns] at h; cases h) Bd.notSynchronized (fun _ hr => retOut X70 hx (t := (.object "com/example/nuntius/nuntius/protocol/Opcode")) Bd.returns rfl (Or.inr (Or.inr (Or.inr (Or.inr ⟨rfl, rfl, rfl⟩)))) (hb hby d2_123) hr) e70 (by decide) (by decide) ⟨rfl, N0, rfl⟩
theorem ef_1_14 (m : MethodId)  : entryFrame m #[(.int (14 : Int32))] 2 = mkF m 0 #[.val (.int (14 : Int32)), .unset] [] := by first | (simp [entryFrame, mkF, argsToLocals, Value.category]; done) | rfl
def Q1_14 (Z : State) (a_BY_CODE : Addr) (a_ERROR : Addr) (a_AUTH_CHALLENGE : Addr) (a_SUPPORTED : Addr) (a_RESULT : Addr) (a_EVENT : Addr) (a_AUTHENTICATE : Addr) (a_EXECUTE : Addr) (a_AUTH_SUCCESS : Addr) (a_OPTIONS : Addr) (a_STARTUP : Addr) (a_PREPARE : Addr) (a_REGISTER : Addr) (a_READY : Addr) (a_QUERY : Addr) (a_AUTH_RESPONSE : Addr) (a_BATCH : Addr) (k_a_BY_CODE : ClassId) (h0 : Heap) (n0 : Nat) (v : Option Value) (h : Heap) (L : List Loc) : Prop := (v = some (.ref a_AUTH_CHALLENGE)) ∧ (Fr n0 L) ∧ (h = h0)
set_option maxRecDepth 65536 in
set_option maxHeartbeats 40000000 in
theorem rm1_14 (l : Launch) (Z : State) (a0 : Array Value) (hw : ∀ d ∈ tables_1, d.before a0 Z = true) (ws : List Jvm.Cond) (a_BY_CODE : Addr) (a_ERROR : Addr) (a_AUTH_CHALLENGE : Addr) (a_SUPPORTED : Addr) (a_RESULT : Addr) (a_EVENT : Addr) (a_AUTHENTICATE : Addr) (a_EXECUTE : Addr) (a_AUTH_SUCCESS : Addr) (a_OPTIONS : Addr) (a_STARTUP : Addr) (a_PREPARE : Addr) (a_REGISTER : Addr) (a_READY : Addr) (a_QUERY : Addr) (a_AUTH_RESPONSE : Addr) (a_BATCH : Addr) (k_a_BY_CODE : ClassId) (h0 : Heap) (n0 : Nat) (Z0 : n0 ≤ h0.size) (A_a_BY_CODE : Arv Z h0 a_BY_CODE k_a_BY_CODE (.object "com/example/nuntius/nuntius/protocol/Opcode") (17 : Int32) [(.ref a_ERROR), (.ref a_STARTUP), (.ref a_READY), (.ref a_AUTHENTICATE), .null, (.ref a_OPTIONS), (.ref a_SUPPORTED), (.ref a_QUERY), (.ref a_RESULT), (.ref a_PREPARE), (.ref a_EXECUTE), (.ref a_REGISTER), (.ref a_EVENT), (.ref a_BATCH), (.ref a_AUTH_CHALLENGE), (.ref a_AUTH_RESPONSE), (.ref a_AUTH_SUCCESS)] .null) (S_BY_CODE : Sta Z h0 "com/example/nuntius/nuntius/protocol/Opcode" "BY_CODE" "[Lcom/example/nuntius/nuntius/protocol/Opcode;" (.ref a_BY_CODE)) :
    MetFree l (⟨"com/example/nuntius/nuntius/protocol/Opcode", "ofCode", "(I)Lcom/example/nuntius/nuntius/protocol/Opcode;"⟩ : MethodName) (head1 (Jvm.Cond.code (⟨"com/example/nuntius/nuntius/protocol/Opcode", "ofCode", "(I)Lcom/example/nuntius/nuntius/protocol/Opcode;"⟩ : MethodName) prog_43_method_5_code 2 (some (.object "com/example/nuntius/nuntius/protocol/Opcode")) :: ws) ({ frames := 0, cells := 0, slots := 0, locals := 0 } : Room)) (fun a U => a = #[(.int (14 : Int32))] ∧ Z.Warmed39 U.vm ∧ U.heap = h0) (fun _ _ _ _ _ => True) (fun _ U o U' => ∃ v L, o = .returned v ∧ Q1_14 Z a_BY_CODE a_ERROR a_AUTH_CHALLENGE a_SUPPORTED a_RESULT a_EVENT a_AUTHENTICATE a_EXECUTE a_AUTH_SUCCESS a_OPTIONS a_STARTUP a_PREPARE a_REGISTER a_READY a_QUERY a_AUTH_RESPONSE a_BATCH k_a_BY_CODE h0 n0 v U'.heap L ∧ FrameEnd U o U' L ({ frames := 0, cells := 0, slots := 0, locals := 0 } : Room).cells ({ frames := 0, cells := 0, slots := 0, locals := 0 } : Room).slots) := by
  refine MetFree.of_bodySF (plainFor_of_name pn_0) hisR ?_
  intro p e s m args below meth c s₁ Bd hml0 hP hK
  obtain ⟨rfl, hZ, hh⟩ := hP
  have hx := Bd.exec
  have hby := Bd.bytes
  have hml : c.maxLocals = 2 := hml0
  have hown : s.vm.findClass "com/example/nuntius/nuntius/protocol/Opcode" = some m.cls := findClass_of_methodNamed Bd.named
  have hnm := (name_of_methodNamed Bd.named Bd.method).1
  have X0 : Stand p l e ({ frames := 0, cells := 0, slots := 0, locals := 0 } : Room) s m #[(.int (14 : Int32))] below meth c s₁ [] 0 0 := Stand.of_body Bd
  have e0 : s₁.heap = h0 := by rw [← hh, Bd.state]; rfl
  have N0 := Fr.nil n0
  refine Ends.opn ?_
  intro QQ hQQ
  refine Ends.step (S' := s₁.setTop (mkF m 0 #[.val (.int (14 : Int32)), .unset] [])) (fun t k => castTop (ef_1_14 m ) k) ?_
  show Ends p e below QQ (s₁.setTop (mkF m 0 #[.val (.int (14 : Int32)), .unset] []))
  refine Ends.step (fun _ k => XS.aconstNull X0.here hx rfl (hb hby d1_0) k) ?_
  show Ends p e below QQ (s₁.setTop (mkF m 1 #[.val (.int (14 : Int32)), .unset] [.null]))
  refine Ends.step (fun _ k => XS.astoreN X0.here hx rfl (hb hby d1_1) rfl rfl (l' := #[.val (.int (14 : Int32)), .val .null]) rfl k) ?_
  show Ends p e below QQ (s₁.setTop (mkF m 2 #[.val (.int (14 : Int32)), .val .null] []))
  refine Ends.step (fun _ k => XS.iloadN X0.here hx rfl (hb hby d1_2) rfl k) ?_
  show Ends p e below QQ (s₁.setTop (mkF m 3 #[.val (.int (14 : Int32)), .val .null] [(.int (14 : Int32))]))
  refine Ends.step (fun _ k => XS.ifNo X0.here hx rfl (hb hby d1_3) rfl (XT.i0_lt_f (by decide)) k) ?_
  show Ends p e below QQ (s₁.setTop (mkF m 6 #[.val (.int (14 : Int32)), .val .null] []))
  refine Ends.step (fun _ k => XS.iloadN X0.here hx rfl (hb hby d1_6) rfl k) ?_
  show Ends p e below QQ (s₁.setTop (mkF m 7 #[.val (.int (14 : Int32)), .val .null] [(.int (14 : Int32))]))
  obtain ⟨T71, X71, e71, st71⟩ := getS2 X0 hx hZ hown (host := "") (Or.inl (hw _ (List.mem_of_getElem? (i := 4) rfl))) Via.refl e0 S_BY_CODE (g := (mkF m 7 #[.val (.int (14 : Int32)), .val .null] [(.int (14 : Int32))])) rfl (hb hby d1_7)
  refine Ends.step st71 ?_
  show Ends p e below QQ (T71.setTop (mkF m 10 #[.val (.int (14 : Int32)), .val .null] [(.ref a_BY_CODE), (.int (14 : Int32))]))
  obtain ⟨cl72, Ar72, -, S72, P72, -, -⟩ := id A_a_BY_CODE
  refine Ends.step (S' := T71.setTop (mkF m 11 #[.val (.int (14 : Int32)), .val .null] [(.int (17 : Int32)), (.int (14 : Int32))])) (fun _ k => X71.arraylength hx (by rw [e71]; exact Ar72.1) (State.isArrayOf_alike hZ.alike Ar72.2.1) (g := (mkF m 10 #[.val (.int (14 : Int32)), .val .null] [(.ref a_BY_CODE), (.int (14 : Int32))])) rfl rfl (hb hby d1_10) _ (by rw [len_of S72 P72]; exact k)) ?_
  show Ends p e below QQ (T71.setTop (mkF m 11 #[.val (.int (14 : Int32)), .val .null] [(.int (17 : Int32)), (.int (14 : Int32))]))
  refine Ends.step (fun _ k => XS.icmpNo X71.here hx rfl (hb hby d1_11) rfl (XT.ii_ge_f (by decide)) k) ?_
  show Ends p e below QQ (T71.setTop (mkF m 14 #[.val (.int (14 : Int32)), .val .null] []))
  obtain ⟨T73, X73, e73, st73⟩ := getS2 X71 hx hZ hown (host := "") (Or.inl (hw _ (List.mem_of_getElem? (i := 4) rfl))) Via.refl e71 S_BY_CODE (g := (mkF m 14 #[.val (.int (14 : Int32)), .val .null] [])) rfl (hb hby d1_14)
  refine Ends.step st73 ?_
  show Ends p e below QQ (T73.setTop (mkF m 17 #[.val (.int (14 : Int32)), .val .null] [(.ref a_BY_CODE)]))
  refine Ends.step (fun _ k => XS.iloadN X73.here hx rfl (hb hby d1_17) rfl k) ?_
  show Ends p e below QQ (T73.setTop (mkF m 18 #[.val (.int (14 : Int32)), .val .null] [(.int (14 : Int32)), (.ref a_BY_CODE)]))
  obtain ⟨cl74, Ar74, q74, S74, P74, H74, G74⟩ := id A_a_BY_CODE
  have hin74 : ¬ ((14 : Int32) < 0 ∨ cl74.slots.size ≤ ((14 : Int32)).toNatClampNeg) := inb_of S74 ⟨by decide, by decide⟩
  have hat74 : cl74.slots[((14 : Int32)).toNatClampNeg]? = some (.ref a_AUTH_CHALLENGE) := H74.at hin74 (rfl)
  refine Ends.step (fun _ k => X73.aaload hx (j := (14 : Int32)) (v := (.ref a_AUTH_CHALLENGE)) (by rw [e73]; exact Ar74.1) (State.isArrayOf_alike hZ.alike Ar74.2.1) rfl Ar74.2.2 hin74 hat74 (g := (mkF m 18 #[.val (.int (14 : Int32)), .val .null] [(.int (14 : Int32)), (.ref a_BY_CODE)])) rfl rfl (hb hby d1_18) _ k) ?_
  show Ends p e below QQ (T73.setTop (mkF m 19 #[.val (.int (14 : Int32)), .val .null] [(.ref a_AUTH_CHALLENGE)]))
  refine Ends.step (fun _ k => XS.astoreN X73.here hx rfl (hb hby d1_19) rfl rfl (l' := #[.val (.int (14 : Int32)), .val (.ref a_AUTH_CHALLENGE)]) rfl k) ?_
  show Ends p e below QQ (T73.setTop (mkF m 20 #[.val (.int (14 : Int32)), .val (.ref a_AUTH_CHALLENGE)] []))
  refine Ends.step (fun _ k => XS.aloadN X73.here hx rfl (hb hby d1_20) rfl rfl k) ?_
  show Ends p e below QQ (T73.setTop (mkF m 21 #[.val (.int (14 : Int32)), .val (.ref a_AUTH_CHALLENGE)] [(.ref a_AUTH_CHALLENGE)]))
  exact Ends.fin (some (.ref a_AUTH_CHALLENGE)) X73 hQQ (fun h => by rw [Bd.returns] at h; cases h) Bd.notSynchronized (fun _ hr => retOut X73 hx (t := (.object "com/example/nuntius/nuntius/protocol/Opcode")) Bd.returns rfl (Or.inr (Or.inr (Or.inr (Or.inr ⟨rfl, rfl, rfl⟩)))) (hb hby d1_21) hr) e73 (by decide) (by decide) ⟨rfl, N0, rfl⟩
theorem d2_130 : decode method_2_code 130 = .ok (.getstatic 49, 3) := by decide +kernel
theorem d2_133 : decode method_2_code 133 = .ok (.areturn, 1) := by decide +kernel
theorem ef_2_14 (m : MethodId)  : entryFrame m #[(.int (14 : Int32))] 1 = mkF m 0 #[.val (.int (14 : Int32))] [] := by first | (simp [entryFrame, mkF, argsToLocals, Value.category]; done) | rfl
def Q2_14 (Z : State) (a_AUTH_CHALLENGE : Addr) (h0 : Heap) (n0 : Nat) (v : Option Value) (h : Heap) (L : List Loc) : Prop := (v = some (.ref a_AUTH_CHALLENGE)) ∧ (Fr n0 L) ∧ (h = h0)
set_option maxRecDepth 65536 in
set_option maxHeartbeats 40000000 in
theorem rm2_14 (l : Launch) (Z : State) (a0 : Array Value) (hw : ∀ d ∈ tables_1, d.before a0 Z = true) (ws : List Jvm.Cond) (a_AUTH_CHALLENGE : Addr) (h0 : Heap) (n0 : Nat) (Z0 : n0 ≤ h0.size) (S_AUTH_CHALLENGE : Sta Z h0 "com/example/nuntius/nuntius/protocol/Opcode" "AUTH_CHALLENGE" "Lcom/example/nuntius/nuntius/protocol/Opcode;" (.ref a_AUTH_CHALLENGE)) :
    MetFree l (⟨"com/example/nuntius/nuntius/protocol/OpcodeOfCodePinLaw", "expected", "(I)Lcom/example/nuntius/nuntius/protocol/Opcode;"⟩ : MethodName) (head1 (Jvm.Cond.code (⟨"com/example/nuntius/nuntius/protocol/OpcodeOfCodePinLaw", "expected", "(I)Lcom/example/nuntius/nuntius/protocol/Opcode;"⟩ : MethodName) method_2_code 1 (some (.object "com/example/nuntius/nuntius/protocol/Opcode")) :: ws) ({ frames := 0, cells := 0, slots := 0, locals := 0 } : Room)) (fun a U => a = #[(.int (14 : Int32))] ∧ Z.Warmed39 U.vm ∧ U.heap = h0) (fun _ _ _ _ _ => True) (fun _ U o U' => ∃ v L, o = .returned v ∧ Q2_14 Z a_AUTH_CHALLENGE h0 n0 v U'.heap L ∧ FrameEnd U o U' L ({ frames := 0, cells := 0, slots := 0, locals := 0 } : Room).cells ({ frames := 0, cells := 0, slots := 0, locals := 0 } : Room).slots) := by
  refine MetFree.of_bodySF (plainFor_of_name pn_1) hisR ?_
  intro p e s m args below meth c s₁ Bd hml0 hP hK
  obtain ⟨rfl, hZ, hh⟩ := hP
  have hx := Bd.exec
  have hby := Bd.bytes
  have hml : c.maxLocals = 1 := hml0
  have hown : s.vm.findClass "com/example/nuntius/nuntius/protocol/OpcodeOfCodePinLaw" = some m.cls := findClass_of_methodNamed Bd.named
  have hnm := (name_of_methodNamed Bd.named Bd.method).1
  have X0 : Stand p l e ({ frames := 0, cells := 0, slots := 0, locals := 0 } : Room) s m #[(.int (14 : Int32))] below meth c s₁ [] 0 0 := Stand.of_body Bd
  have e0 : s₁.heap = h0 := by rw [← hh, Bd.state]; rfl
  have N0 := Fr.nil n0
  refine Ends.opn ?_
  intro QQ hQQ
  refine Ends.step (S' := s₁.setTop (mkF m 0 #[.val (.int (14 : Int32))] [])) (fun t k => castTop (ef_2_14 m ) k) ?_
  show Ends p e below QQ (s₁.setTop (mkF m 0 #[.val (.int (14 : Int32))] []))
  refine Ends.step (fun _ k => XS.iloadN X0.here hx rfl (hb hby d2_0) rfl k) ?_
  show Ends p e below QQ (s₁.setTop (mkF m 1 #[.val (.int (14 : Int32))] [(.int (14 : Int32))]))
  refine Ends.step (fun _ k => XS.ifYes X0.here hx rfl (pc0 := 1) (pc' := 8) rfl (hb hby d2_1) rfl (XT.i0_ne_t (by decide)) (by decide) (by decide) k) ?_
  show Ends p e below QQ (s₁.setTop (mkF m 8 #[.val (.int (14 : Int32))] []))
  refine Ends.step (fun _ k => XS.iloadN X0.here hx rfl (hb hby d2_8) rfl k) ?_
  show Ends p e below QQ (s₁.setTop (mkF m 9 #[.val (.int (14 : Int32))] [(.int (14 : Int32))]))
  refine Ends.step (fun _ k => XT.iconstV X0.here hx rfl (1 : Int32) (hb hby d2_9) rfl k) ?_
  show Ends p e below QQ (s₁.setTop (mkF m 10 #[.val (.int (14 : Int32))] [(.int (1 : Int32)), (.int (14 : Int32))]))
  refine Ends.step (fun _ k => XS.icmpYes X0.here hx rfl (pc0 := 10) (pc' := 17) rfl (hb hby d2_10) rfl (XT.ii_ne_t (by decide)) (by decide) (by decide) k) ?_
  show Ends p e below QQ (s₁.setTop (mkF m 17 #[.val (.int (14 : Int32))] []))
  refine Ends.step (fun _ k => XS.iloadN X0.here hx rfl (hb hby d2_17) rfl k) ?_
  show Ends p e below QQ (s₁.setTop (mkF m 18 #[.val (.int (14 : Int32))] [(.int (14 : Int32))]))
  refine Ends.step (fun _ k => XT.iconstV X0.here hx rfl (2 : Int32) (hb hby d2_18) rfl k) ?_
  show Ends p e below QQ (s₁.setTop (mkF m 19 #[.val (.int (14 : Int32))] [(.int (2 : Int32)), (.int (14 : Int32))]))
  refine Ends.step (fun _ k => XS.icmpYes X0.here hx rfl (pc0 := 19) (pc' := 26) rfl (hb hby d2_19) rfl (XT.ii_ne_t (by decide)) (by decide) (by decide) k) ?_
  show Ends p e below QQ (s₁.setTop (mkF m 26 #[.val (.int (14 : Int32))] []))
  refine Ends.step (fun _ k => XS.iloadN X0.here hx rfl (hb hby d2_26) rfl k) ?_
  show Ends p e below QQ (s₁.setTop (mkF m 27 #[.val (.int (14 : Int32))] [(.int (14 : Int32))]))
  refine Ends.step (fun _ k => XT.iconstV X0.here hx rfl (3 : Int32) (hb hby d2_27) rfl k) ?_
  show Ends p e below QQ (s₁.setTop (mkF m 28 #[.val (.int (14 : Int32))] [(.int (3 : Int32)), (.int (14 : Int32))]))
  refine Ends.step (fun _ k => XS.icmpYes X0.here hx rfl (pc0 := 28) (pc' := 35) rfl (hb hby d2_28) rfl (XT.ii_ne_t (by decide)) (by decide) (by decide) k) ?_
  show Ends p e below QQ (s₁.setTop (mkF m 35 #[.val (.int (14 : Int32))] []))
  refine Ends.step (fun _ k => XS.iloadN X0.here hx rfl (hb hby d2_35) rfl k) ?_
  show Ends p e below QQ (s₁.setTop (mkF m 36 #[.val (.int (14 : Int32))] [(.int (14 : Int32))]))
  refine Ends.step (fun _ k => XT.iconstV X0.here hx rfl (5 : Int32) (hb hby d2_36) rfl k) ?_
  show Ends p e below QQ (s₁.setTop (mkF m 37 #[.val (.int (14 : Int32))] [(.int (5 : Int32)), (.int (14 : Int32))]))
  refine Ends.step (fun _ k => XS.icmpYes X0.here hx rfl (pc0 := 37) (pc' := 44) rfl (hb hby d2_37) rfl (XT.ii_ne_t (by decide)) (by decide) (by decide) k) ?_
  show Ends p e below QQ (s₁.setTop (mkF m 44 #[.val (.int (14 : Int32))] []))
  refine Ends.step (fun _ k => XS.iloadN X0.here hx rfl (hb hby d2_44) rfl k) ?_
  show Ends p e below QQ (s₁.setTop (mkF m 45 #[.val (.int (14 : Int32))] [(.int (14 : Int32))]))
  refine Ends.step (fun _ k => XT.bipushV X0.here hx rfl (6 : Int32) (hb hby d2_45) rfl k) ?_
  show Ends p e below QQ (s₁.setTop (mkF m 47 #[.val (.int (14 : Int32))] [(.int (6 : Int32)), (.int (14 : Int32))]))
  refine Ends.step (fun _ k => XS.icmpYes X0.here hx rfl (pc0 := 47) (pc' := 54) rfl (hb hby d2_47) rfl (XT.ii_ne_t (by decide)) (by decide) (by decide) k) ?_
  show Ends p e below QQ (s₁.setTop (mkF m 54 #[.val (.int (14 : Int32))] []))
  refine Ends.step (fun _ k => XS.iloadN X0.here hx rfl (hb hby d2_54) rfl k) ?_
  show Ends p e below QQ (s₁.setTop (mkF m 55 #[.val (.int (14 : Int32))] [(.int (14 : Int32))]))
  refine Ends.step (fun _ k => XT.bipushV X0.here hx rfl (7 : Int32) (hb hby d2_55) rfl k) ?_
  show Ends p e below QQ (s₁.setTop (mkF m 57 #[.val (.int (14 : Int32))] [(.int (7 : Int32)), (.int (14 : Int32))]))
  refine Ends.step (fun _ k => XS.icmpYes X0.here hx rfl (pc0 := 57) (pc' := 64) rfl (hb hby d2_57) rfl (XT.ii_ne_t (by decide)) (by decide) (by decide) k) ?_
  show Ends p e below QQ (s₁.setTop (mkF m 64 #[.val (.int (14 : Int32))] []))
  refine Ends.step (fun _ k => XS.iloadN X0.here hx rfl (hb hby d2_64) rfl k) ?_
  show Ends p e below QQ (s₁.setTop (mkF m 65 #[.val (.int (14 : Int32))] [(.int (14 : Int32))]))
  refine Ends.step (fun _ k => XT.bipushV X0.here hx rfl (8 : Int32) (hb hby d2_65) rfl k) ?_
  show Ends p e below QQ (s₁.setTop (mkF m 67 #[.val (.int (14 : Int32))] [(.int (8 : Int32)), (.int (14 : Int32))]))
  refine Ends.step (fun _ k => XS.icmpYes X0.here hx rfl (pc0 := 67) (pc' := 74) rfl (hb hby d2_67) rfl (XT.ii_ne_t (by decide)) (by decide) (by decide) k) ?_
  show Ends p e below QQ (s₁.setTop (mkF m 74 #[.val (.int (14 : Int32))] []))
  refine Ends.step (fun _ k => XS.iloadN X0.here hx rfl (hb hby d2_74) rfl k) ?_
  show Ends p e below QQ (s₁.setTop (mkF m 75 #[.val (.int (14 : Int32))] [(.int (14 : Int32))]))
  refine Ends.step (fun _ k => XT.bipushV X0.here hx rfl (9 : Int32) (hb hby d2_75) rfl k) ?_
  show Ends p e below QQ (s₁.setTop (mkF m 77 #[.val (.int (14 : Int32))] [(.int (9 : Int32)), (.int (14 : Int32))]))
  refine Ends.step (fun _ k => XS.icmpYes X0.here hx rfl (pc0 := 77) (pc' := 84) rfl (hb hby d2_77) rfl (XT.ii_ne_t (by decide)) (by decide) (by decide) k) ?_
  show Ends p e below QQ (s₁.setTop (mkF m 84 #[.val (.int (14 : Int32))] []))
  refine Ends.step (fun _ k => XS.iloadN X0.here hx rfl (hb hby d2_84) rfl k) ?_
  show Ends p e below QQ (s₁.setTop (mkF m 85 #[.val (.int (14 : Int32))] [(.int (14 : Int32))]))
  refine Ends.step (fun _ k => XT.bipushV X0.here hx rfl (10 : Int32) (hb hby d2_85) rfl k) ?_
  show Ends p e below QQ (s₁.setTop (mkF m 87 #[.val (.int (14 : Int32))] [(.int (10 : Int32)), (.int (14 : Int32))]))
  refine Ends.step (fun _ k => XS.icmpYes X0.here hx rfl (pc0 := 87) (pc' := 94) rfl (hb hby d2_87) rfl (XT.ii_ne_t (by decide)) (by decide) (by decide) k) ?_
  show Ends p e below QQ (s₁.setTop (mkF m 94 #[.val (.int (14 : Int32))] []))
  refine Ends.step (fun _ k => XS.iloadN X0.here hx rfl (hb hby d2_94) rfl k) ?_
  show Ends p e below QQ (s₁.setTop (mkF m 95 #[.val (.int (14 : Int32))] [(.int (14 : Int32))]))
  refine Ends.step (fun _ k => XT.bipushV X0.here hx rfl (11 : Int32) (hb hby d2_95) rfl k) ?_
  show Ends p e below QQ (s₁.setTop (mkF m 97 #[.val (.int (14 : Int32))] [(.int (11 : Int32)), (.int (14 : Int32))]))
  refine Ends.step (fun _ k => XS.icmpYes X0.here hx rfl (pc0 := 97) (pc' := 104) rfl (hb hby d2_97) rfl (XT.ii_ne_t (by decide)) (by decide) (by decide) k) ?_
  show Ends p e below QQ (s₁.setTop (mkF m 104 #[.val (.int (14 : Int32))] []))
  refine Ends.step (fun _ k => XS.iloadN X0.here hx rfl (hb hby d2_104) rfl k) ?_
  show Ends p e below QQ (s₁.setTop (mkF m 105 #[.val (.int (14 : Int32))] [(.int (14 : Int32))]))
  refine Ends.step (fun _ k => XT.bipushV X0.here hx rfl (12 : Int32) (hb hby d2_105) rfl k) ?_
  show Ends p e below QQ (s₁.setTop (mkF m 107 #[.val (.int (14 : Int32))] [(.int (12 : Int32)), (.int (14 : Int32))]))
  refine Ends.step (fun _ k => XS.icmpYes X0.here hx rfl (pc0 := 107) (pc' := 114) rfl (hb hby d2_107) rfl (XT.ii_ne_t (by decide)) (by decide) (by decide) k) ?_
  show Ends p e below QQ (s₁.setTop (mkF m 114 #[.val (.int (14 : Int32))] []))
  refine Ends.step (fun _ k => XS.iloadN X0.here hx rfl (hb hby d2_114) rfl k) ?_
  show Ends p e below QQ (s₁.setTop (mkF m 115 #[.val (.int (14 : Int32))] [(.int (14 : Int32))]))
  refine Ends.step (fun _ k => XT.bipushV X0.here hx rfl (13 : Int32) (hb hby d2_115) rfl k) ?_
  show Ends p e below QQ (s₁.setTop (mkF m 117 #[.val (.int (14 : Int32))] [(.int (13 : Int32)), (.int (14 : Int32))]))
  refine Ends.step (fun _ k => XS.icmpYes X0.here hx rfl (pc0 := 117) (pc' := 124) rfl (hb hby d2_117) rfl (XT.ii_ne_t (by decide)) (by decide) (by decide) k) ?_
  show Ends p e below QQ (s₁.setTop (mkF m 124 #[.val (.int (14 : Int32))] []))
  refine Ends.step (fun _ k => XS.iloadN X0.here hx rfl (hb hby d2_124) rfl k) ?_
  show Ends p e below QQ (s₁.setTop (mkF m 125 #[.val (.int (14 : Int32))] [(.int (14 : Int32))]))
  refine Ends.step (fun _ k => XT.bipushV X0.here hx rfl (14 : Int32) (hb hby d2_125) rfl k) ?_
  show Ends p e below QQ (s₁.setTop (mkF m 127 #[.val (.int (14 : Int32))] [(.int (14 : Int32)), (.int (14 : Int32))]))
  refine Ends.step (fun _ k => XS.icmpNo X0.here hx rfl (hb hby d2_127) rfl (XT.ii_ne_f (by decide)) k) ?_
  show Ends p e below QQ (s₁.setTop (mkF m 130 #[.val (.int (14 : Int32))] []))
  obtain ⟨T75, X75, e75, st75⟩ := getS2 X0 hx hZ hown (host := "") (Or.inl (hw _ (List.mem_of_getElem? (i := 20) rfl))) Via.refl e0 S_AUTH_CHALLENGE (g := (mkF m 130 #[.val (.int (14 : Int32))] [])) rfl (hb hby d2_130)
  refine Ends.step st75 ?_
  show Ends p e below QQ (T75.setTop (mkF m 133 #[.val (.int (14 : Int32))] [(.ref a_AUTH_CHALLENGE)]))
  exact Ends.fin (some (.ref a_AUTH_CHALLENGE)) X75 hQQ (fun h => by rw [Bd.returns] at h; cases h) Bd.notSynchronized (fun _ hr => retOut X75 hx (t := (.object "com/example/nuntius/nuntius/protocol/Opcode")) Bd.returns rfl (Or.inr (Or.inr (Or.inr (Or.inr ⟨rfl, rfl, rfl⟩)))) (hb hby d2_133) hr) e75 (by decide) (by decide) ⟨rfl, N0, rfl⟩
theorem ef_1_15 (m : MethodId)  : entryFrame m #[(.int (15 : Int32))] 2 = mkF m 0 #[.val (.int (15 : Int32)), .unset] [] := by first | (simp [entryFrame, mkF, argsToLocals, Value.category]; done) | rfl
def Q1_15 (Z : State) (a_BY_CODE : Addr) (a_ERROR : Addr) (a_AUTH_CHALLENGE : Addr) (a_SUPPORTED : Addr) (a_RESULT : Addr) (a_EVENT : Addr) (a_AUTHENTICATE : Addr) (a_EXECUTE : Addr) (a_AUTH_SUCCESS : Addr) (a_OPTIONS : Addr) (a_STARTUP : Addr) (a_PREPARE : Addr) (a_REGISTER : Addr) (a_READY : Addr) (a_QUERY : Addr) (a_AUTH_RESPONSE : Addr) (a_BATCH : Addr) (k_a_BY_CODE : ClassId) (h0 : Heap) (n0 : Nat) (v : Option Value) (h : Heap) (L : List Loc) : Prop := (v = some (.ref a_AUTH_RESPONSE)) ∧ (Fr n0 L) ∧ (h = h0)
set_option maxRecDepth 65536 in
set_option maxHeartbeats 40000000 in
theorem rm1_15 (l : Launch) (Z : State) (a0 : Array Value) (hw : ∀ d ∈ tables_1, d.before a0 Z = true) (ws : List Jvm.Cond) (a_BY_CODE : Addr) (a_ERROR : Addr) (a_AUTH_CHALLENGE : Addr) (a_SUPPORTED : Addr) (a_RESULT : Addr) (a_EVENT : Addr) (a_AUTHENTICATE : Addr) (a_EXECUTE : Addr) (a_AUTH_SUCCESS : Addr) (a_OPTIONS : Addr) (a_STARTUP : Addr) (a_PREPARE : Addr) (a_REGISTER : Addr) (a_READY : Addr) (a_QUERY : Addr) (a_AUTH_RESPONSE : Addr) (a_BATCH : Addr) (k_a_BY_CODE : ClassId) (h0 : Heap) (n0 : Nat) (Z0 : n0 ≤ h0.size) (A_a_BY_CODE : Arv Z h0 a_BY_CODE k_a_BY_CODE (.object "com/example/nuntius/nuntius/protocol/Opcode") (17 : Int32) [(.ref a_ERROR), (.ref a_STARTUP), (.ref a_READY), (.ref a_AUTHENTICATE), .null, (.ref a_OPTIONS), (.ref a_SUPPORTED), (.ref a_QUERY), (.ref a_RESULT), (.ref a_PREPARE), (.ref a_EXECUTE), (.ref a_REGISTER), (.ref a_EVENT), (.ref a_BATCH), (.ref a_AUTH_CHALLENGE), (.ref a_AUTH_RESPONSE), (.ref a_AUTH_SUCCESS)] .null) (S_BY_CODE : Sta Z h0 "com/example/nuntius/nuntius/protocol/Opcode" "BY_CODE" "[Lcom/example/nuntius/nuntius/protocol/Opcode;" (.ref a_BY_CODE)) :
    MetFree l (⟨"com/example/nuntius/nuntius/protocol/Opcode", "ofCode", "(I)Lcom/example/nuntius/nuntius/protocol/Opcode;"⟩ : MethodName) (head1 (Jvm.Cond.code (⟨"com/example/nuntius/nuntius/protocol/Opcode", "ofCode", "(I)Lcom/example/nuntius/nuntius/protocol/Opcode;"⟩ : MethodName) prog_43_method_5_code 2 (some (.object "com/example/nuntius/nuntius/protocol/Opcode")) :: ws) ({ frames := 0, cells := 0, slots := 0, locals := 0 } : Room)) (fun a U => a = #[(.int (15 : Int32))] ∧ Z.Warmed39 U.vm ∧ U.heap = h0) (fun _ _ _ _ _ => True) (fun _ U o U' => ∃ v L, o = .returned v ∧ Q1_15 Z a_BY_CODE a_ERROR a_AUTH_CHALLENGE a_SUPPORTED a_RESULT a_EVENT a_AUTHENTICATE a_EXECUTE a_AUTH_SUCCESS a_OPTIONS a_STARTUP a_PREPARE a_REGISTER a_READY a_QUERY a_AUTH_RESPONSE a_BATCH k_a_BY_CODE h0 n0 v U'.heap L ∧ FrameEnd U o U' L ({ frames := 0, cells := 0, slots := 0, locals := 0 } : Room).cells ({ frames := 0, cells := 0, slots := 0, locals := 0 } : Room).slots) := by
  refine MetFree.of_bodySF (plainFor_of_name pn_0) hisR ?_
  intro p e s m args below meth c s₁ Bd hml0 hP hK
  obtain ⟨rfl, hZ, hh⟩ := hP
  have hx := Bd.exec
  have hby := Bd.bytes
  have hml : c.maxLocals = 2 := hml0
  have hown : s.vm.findClass "com/example/nuntius/nuntius/protocol/Opcode" = some m.cls := findClass_of_methodNamed Bd.named
  have hnm := (name_of_methodNamed Bd.named Bd.method).1
  have X0 : Stand p l e ({ frames := 0, cells := 0, slots := 0, locals := 0 } : Room) s m #[(.int (15 : Int32))] below meth c s₁ [] 0 0 := Stand.of_body Bd
  have e0 : s₁.heap = h0 := by rw [← hh, Bd.state]; rfl
  have N0 := Fr.nil n0
  refine Ends.opn ?_
  intro QQ hQQ
  refine Ends.step (S' := s₁.setTop (mkF m 0 #[.val (.int (15 : Int32)), .unset] [])) (fun t k => castTop (ef_1_15 m ) k) ?_
  show Ends p e below QQ (s₁.setTop (mkF m 0 #[.val (.int (15 : Int32)), .unset] []))
  refine Ends.step (fun _ k => XS.aconstNull X0.here hx rfl (hb hby d1_0) k) ?_
  show Ends p e below QQ (s₁.setTop (mkF m 1 #[.val (.int (15 : Int32)), .unset] [.null]))
  refine Ends.step (fun _ k => XS.astoreN X0.here hx rfl (hb hby d1_1) rfl rfl (l' := #[.val (.int (15 : Int32)), .val .null]) rfl k) ?_
  show Ends p e below QQ (s₁.setTop (mkF m 2 #[.val (.int (15 : Int32)), .val .null] []))
  refine Ends.step (fun _ k => XS.iloadN X0.here hx rfl (hb hby d1_2) rfl k) ?_
  show Ends p e below QQ (s₁.setTop (mkF m 3 #[.val (.int (15 : Int32)), .val .null] [(.int (15 : Int32))]))
  refine Ends.step (fun _ k => XS.ifNo X0.here hx rfl (hb hby d1_3) rfl (XT.i0_lt_f (by decide)) k) ?_
  show Ends p e below QQ (s₁.setTop (mkF m 6 #[.val (.int (15 : Int32)), .val .null] []))
  refine Ends.step (fun _ k => XS.iloadN X0.here hx rfl (hb hby d1_6) rfl k) ?_
  show Ends p e below QQ (s₁.setTop (mkF m 7 #[.val (.int (15 : Int32)), .val .null] [(.int (15 : Int32))]))
  obtain ⟨T76, X76, e76, st76⟩ := getS2 X0 hx hZ hown (host := "") (Or.inl (hw _ (List.mem_of_getElem? (i := 4) rfl))) Via.refl e0 S_BY_CODE (g := (mkF m 7 #[.val (.int (15 : Int32)), .val .null] [(.int (15 : Int32))])) rfl (hb hby d1_7)
  refine Ends.step st76 ?_
  show Ends p e below QQ (T76.setTop (mkF m 10 #[.val (.int (15 : Int32)), .val .null] [(.ref a_BY_CODE), (.int (15 : Int32))]))
  obtain ⟨cl77, Ar77, -, S77, P77, -, -⟩ := id A_a_BY_CODE
  refine Ends.step (S' := T76.setTop (mkF m 11 #[.val (.int (15 : Int32)), .val .null] [(.int (17 : Int32)), (.int (15 : Int32))])) (fun _ k => X76.arraylength hx (by rw [e76]; exact Ar77.1) (State.isArrayOf_alike hZ.alike Ar77.2.1) (g := (mkF m 10 #[.val (.int (15 : Int32)), .val .null] [(.ref a_BY_CODE), (.int (15 : Int32))])) rfl rfl (hb hby d1_10) _ (by rw [len_of S77 P77]; exact k)) ?_
  show Ends p e below QQ (T76.setTop (mkF m 11 #[.val (.int (15 : Int32)), .val .null] [(.int (17 : Int32)), (.int (15 : Int32))]))
  refine Ends.step (fun _ k => XS.icmpNo X76.here hx rfl (hb hby d1_11) rfl (XT.ii_ge_f (by decide)) k) ?_
  show Ends p e below QQ (T76.setTop (mkF m 14 #[.val (.int (15 : Int32)), .val .null] []))
  obtain ⟨T78, X78, e78, st78⟩ := getS2 X76 hx hZ hown (host := "") (Or.inl (hw _ (List.mem_of_getElem? (i := 4) rfl))) Via.refl e76 S_BY_CODE (g := (mkF m 14 #[.val (.int (15 : Int32)), .val .null] [])) rfl (hb hby d1_14)
  refine Ends.step st78 ?_
  show Ends p e below QQ (T78.setTop (mkF m 17 #[.val (.int (15 : Int32)), .val .null] [(.ref a_BY_CODE)]))
  refine Ends.step (fun _ k => XS.iloadN X78.here hx rfl (hb hby d1_17) rfl k) ?_
  show Ends p e below QQ (T78.setTop (mkF m 18 #[.val (.int (15 : Int32)), .val .null] [(.int (15 : Int32)), (.ref a_BY_CODE)]))
  obtain ⟨cl79, Ar79, q79, S79, P79, H79, G79⟩ := id A_a_BY_CODE
  have hin79 : ¬ ((15 : Int32) < 0 ∨ cl79.slots.size ≤ ((15 : Int32)).toNatClampNeg) := inb_of S79 ⟨by decide, by decide⟩
  have hat79 : cl79.slots[((15 : Int32)).toNatClampNeg]? = some (.ref a_AUTH_RESPONSE) := H79.at hin79 (rfl)
  refine Ends.step (fun _ k => X78.aaload hx (j := (15 : Int32)) (v := (.ref a_AUTH_RESPONSE)) (by rw [e78]; exact Ar79.1) (State.isArrayOf_alike hZ.alike Ar79.2.1) rfl Ar79.2.2 hin79 hat79 (g := (mkF m 18 #[.val (.int (15 : Int32)), .val .null] [(.int (15 : Int32)), (.ref a_BY_CODE)])) rfl rfl (hb hby d1_18) _ k) ?_
  show Ends p e below QQ (T78.setTop (mkF m 19 #[.val (.int (15 : Int32)), .val .null] [(.ref a_AUTH_RESPONSE)]))
  refine Ends.step (fun _ k => XS.astoreN X78.here hx rfl (hb hby d1_19) rfl rfl (l' := #[.val (.int (15 : Int32)), .val (.ref a_AUTH_RESPONSE)]) rfl k) ?_
  show Ends p e below QQ (T78.setTop (mkF m 20 #[.val (.int (15 : Int32)), .val (.ref a_AUTH_RESPONSE)] []))
  refine Ends.step (fun _ k => XS.aloadN X78.here hx rfl (hb hby d1_20) rfl rfl k) ?_
  show Ends p e below QQ (T78.setTop (mkF m 21 #[.val (.int (15 : Int32)), .val (.ref a_AUTH_RESPONSE)] [(.ref a_AUTH_RESPONSE)]))
  exact Ends.fin (some (.ref a_AUTH_RESPONSE)) X78 hQQ (fun h => by rw [Bd.returns] at h; cases h) Bd.notSynchronized (fun _ hr => retOut X78 hx (t := (.object "com/example/nuntius/nuntius/protocol/Opcode")) Bd.returns rfl (Or.inr (Or.inr (Or.inr (Or.inr ⟨rfl, rfl, rfl⟩)))) (hb hby d1_21) hr) e78 (by decide) (by decide) ⟨rfl, N0, rfl⟩
theorem d2_140 : decode method_2_code 140 = .ok (.getstatic 52, 3) := by decide +kernel
theorem d2_143 : decode method_2_code 143 = .ok (.areturn, 1) := by decide +kernel
theorem ef_2_15 (m : MethodId)  : entryFrame m #[(.int (15 : Int32))] 1 = mkF m 0 #[.val (.int (15 : Int32))] [] := by first | (simp [entryFrame, mkF, argsToLocals, Value.category]; done) | rfl
def Q2_15 (Z : State) (a_AUTH_RESPONSE : Addr) (h0 : Heap) (n0 : Nat) (v : Option Value) (h : Heap) (L : List Loc) : Prop := (v = some (.ref a_AUTH_RESPONSE)) ∧ (Fr n0 L) ∧ (h = h0)
set_option maxRecDepth 65536 in
set_option maxHeartbeats 40000000 in
theorem rm2_15 (l : Launch) (Z : State) (a0 : Array Value) (hw : ∀ d ∈ tables_1, d.before a0 Z = true) (ws : List Jvm.Cond) (a_AUTH_RESPONSE : Addr) (h0 : Heap) (n0 : Nat) (Z0 : n0 ≤ h0.size) (S_AUTH_RESPONSE : Sta Z h0 "com/example/nuntius/nuntius/protocol/Opcode" "AUTH_RESPONSE" "Lcom/example/nuntius/nuntius/protocol/Opcode;" (.ref a_AUTH_RESPONSE)) :
    MetFree l (⟨"com/example/nuntius/nuntius/protocol/OpcodeOfCodePinLaw", "expected", "(I)Lcom/example/nuntius/nuntius/protocol/Opcode;"⟩ : MethodName) (head1 (Jvm.Cond.code (⟨"com/example/nuntius/nuntius/protocol/OpcodeOfCodePinLaw", "expected", "(I)Lcom/example/nuntius/nuntius/protocol/Opcode;"⟩ : MethodName) method_2_code 1 (some (.object "com/example/nuntius/nuntius/protocol/Opcode")) :: ws) ({ frames := 0, cells := 0, slots := 0, locals := 0 } : Room)) (fun a U => a = #[(.int (15 : Int32))] ∧ Z.Warmed39 U.vm ∧ U.heap = h0) (fun _ _ _ _ _ => True) (fun _ U o U' => ∃ v L, o = .returned v ∧ Q2_15 Z a_AUTH_RESPONSE h0 n0 v U'.heap L ∧ FrameEnd U o U' L ({ frames := 0, cells := 0, slots := 0, locals := 0 } : Room).cells ({ frames := 0, cells := 0, slots := 0, locals := 0 } : Room).slots) := by
  refine MetFree.of_bodySF (plainFor_of_name pn_1) hisR ?_
  intro p e s m args below meth c s₁ Bd hml0 hP hK
  obtain ⟨rfl, hZ, hh⟩ := hP
  have hx := Bd.exec
  have hby := Bd.bytes
  have hml : c.maxLocals = 1 := hml0
  have hown : s.vm.findClass "com/example/nuntius/nuntius/protocol/OpcodeOfCodePinLaw" = some m.cls := findClass_of_methodNamed Bd.named
  have hnm := (name_of_methodNamed Bd.named Bd.method).1
  have X0 : Stand p l e ({ frames := 0, cells := 0, slots := 0, locals := 0 } : Room) s m #[(.int (15 : Int32))] below meth c s₁ [] 0 0 := Stand.of_body Bd
  have e0 : s₁.heap = h0 := by rw [← hh, Bd.state]; rfl
  have N0 := Fr.nil n0
  refine Ends.opn ?_
  intro QQ hQQ
  refine Ends.step (S' := s₁.setTop (mkF m 0 #[.val (.int (15 : Int32))] [])) (fun t k => castTop (ef_2_15 m ) k) ?_
  show Ends p e below QQ (s₁.setTop (mkF m 0 #[.val (.int (15 : Int32))] []))
  refine Ends.step (fun _ k => XS.iloadN X0.here hx rfl (hb hby d2_0) rfl k) ?_
  show Ends p e below QQ (s₁.setTop (mkF m 1 #[.val (.int (15 : Int32))] [(.int (15 : Int32))]))
  refine Ends.step (fun _ k => XS.ifYes X0.here hx rfl (pc0 := 1) (pc' := 8) rfl (hb hby d2_1) rfl (XT.i0_ne_t (by decide)) (by decide) (by decide) k) ?_
  show Ends p e below QQ (s₁.setTop (mkF m 8 #[.val (.int (15 : Int32))] []))
  refine Ends.step (fun _ k => XS.iloadN X0.here hx rfl (hb hby d2_8) rfl k) ?_
  show Ends p e below QQ (s₁.setTop (mkF m 9 #[.val (.int (15 : Int32))] [(.int (15 : Int32))]))
  refine Ends.step (fun _ k => XT.iconstV X0.here hx rfl (1 : Int32) (hb hby d2_9) rfl k) ?_
  show Ends p e below QQ (s₁.setTop (mkF m 10 #[.val (.int (15 : Int32))] [(.int (1 : Int32)), (.int (15 : Int32))]))
  refine Ends.step (fun _ k => XS.icmpYes X0.here hx rfl (pc0 := 10) (pc' := 17) rfl (hb hby d2_10) rfl (XT.ii_ne_t (by decide)) (by decide) (by decide) k) ?_
  show Ends p e below QQ (s₁.setTop (mkF m 17 #[.val (.int (15 : Int32))] []))
  refine Ends.step (fun _ k => XS.iloadN X0.here hx rfl (hb hby d2_17) rfl k) ?_
  show Ends p e below QQ (s₁.setTop (mkF m 18 #[.val (.int (15 : Int32))] [(.int (15 : Int32))]))
  refine Ends.step (fun _ k => XT.iconstV X0.here hx rfl (2 : Int32) (hb hby d2_18) rfl k) ?_
  show Ends p e below QQ (s₁.setTop (mkF m 19 #[.val (.int (15 : Int32))] [(.int (2 : Int32)), (.int (15 : Int32))]))
  refine Ends.step (fun _ k => XS.icmpYes X0.here hx rfl (pc0 := 19) (pc' := 26) rfl (hb hby d2_19) rfl (XT.ii_ne_t (by decide)) (by decide) (by decide) k) ?_
  show Ends p e below QQ (s₁.setTop (mkF m 26 #[.val (.int (15 : Int32))] []))
  refine Ends.step (fun _ k => XS.iloadN X0.here hx rfl (hb hby d2_26) rfl k) ?_
  show Ends p e below QQ (s₁.setTop (mkF m 27 #[.val (.int (15 : Int32))] [(.int (15 : Int32))]))
  refine Ends.step (fun _ k => XT.iconstV X0.here hx rfl (3 : Int32) (hb hby d2_27) rfl k) ?_
  show Ends p e below QQ (s₁.setTop (mkF m 28 #[.val (.int (15 : Int32))] [(.int (3 : Int32)), (.int (15 : Int32))]))
  refine Ends.step (fun _ k => XS.icmpYes X0.here hx rfl (pc0 := 28) (pc' := 35) rfl (hb hby d2_28) rfl (XT.ii_ne_t (by decide)) (by decide) (by decide) k) ?_
  show Ends p e below QQ (s₁.setTop (mkF m 35 #[.val (.int (15 : Int32))] []))
  refine Ends.step (fun _ k => XS.iloadN X0.here hx rfl (hb hby d2_35) rfl k) ?_
  show Ends p e below QQ (s₁.setTop (mkF m 36 #[.val (.int (15 : Int32))] [(.int (15 : Int32))]))
  refine Ends.step (fun _ k => XT.iconstV X0.here hx rfl (5 : Int32) (hb hby d2_36) rfl k) ?_
  show Ends p e below QQ (s₁.setTop (mkF m 37 #[.val (.int (15 : Int32))] [(.int (5 : Int32)), (.int (15 : Int32))]))
  refine Ends.step (fun _ k => XS.icmpYes X0.here hx rfl (pc0 := 37) (pc' := 44) rfl (hb hby d2_37) rfl (XT.ii_ne_t (by decide)) (by decide) (by decide) k) ?_
  show Ends p e below QQ (s₁.setTop (mkF m 44 #[.val (.int (15 : Int32))] []))
  refine Ends.step (fun _ k => XS.iloadN X0.here hx rfl (hb hby d2_44) rfl k) ?_
  show Ends p e below QQ (s₁.setTop (mkF m 45 #[.val (.int (15 : Int32))] [(.int (15 : Int32))]))
  refine Ends.step (fun _ k => XT.bipushV X0.here hx rfl (6 : Int32) (hb hby d2_45) rfl k) ?_
  show Ends p e below QQ (s₁.setTop (mkF m 47 #[.val (.int (15 : Int32))] [(.int (6 : Int32)), (.int (15 : Int32))]))
  refine Ends.step (fun _ k => XS.icmpYes X0.here hx rfl (pc0 := 47) (pc' := 54) rfl (hb hby d2_47) rfl (XT.ii_ne_t (by decide)) (by decide) (by decide) k) ?_
  show Ends p e below QQ (s₁.setTop (mkF m 54 #[.val (.int (15 : Int32))] []))
  refine Ends.step (fun _ k => XS.iloadN X0.here hx rfl (hb hby d2_54) rfl k) ?_
  show Ends p e below QQ (s₁.setTop (mkF m 55 #[.val (.int (15 : Int32))] [(.int (15 : Int32))]))
  refine Ends.step (fun _ k => XT.bipushV X0.here hx rfl (7 : Int32) (hb hby d2_55) rfl k) ?_
  show Ends p e below QQ (s₁.setTop (mkF m 57 #[.val (.int (15 : Int32))] [(.int (7 : Int32)), (.int (15 : Int32))]))
  refine Ends.step (fun _ k => XS.icmpYes X0.here hx rfl (pc0 := 57) (pc' := 64) rfl (hb hby d2_57) rfl (XT.ii_ne_t (by decide)) (by decide) (by decide) k) ?_
  show Ends p e below QQ (s₁.setTop (mkF m 64 #[.val (.int (15 : Int32))] []))
  refine Ends.step (fun _ k => XS.iloadN X0.here hx rfl (hb hby d2_64) rfl k) ?_
  show Ends p e below QQ (s₁.setTop (mkF m 65 #[.val (.int (15 : Int32))] [(.int (15 : Int32))]))
  refine Ends.step (fun _ k => XT.bipushV X0.here hx rfl (8 : Int32) (hb hby d2_65) rfl k) ?_
  show Ends p e below QQ (s₁.setTop (mkF m 67 #[.val (.int (15 : Int32))] [(.int (8 : Int32)), (.int (15 : Int32))]))
  refine Ends.step (fun _ k => XS.icmpYes X0.here hx rfl (pc0 := 67) (pc' := 74) rfl (hb hby d2_67) rfl (XT.ii_ne_t (by decide)) (by decide) (by decide) k) ?_
  show Ends p e below QQ (s₁.setTop (mkF m 74 #[.val (.int (15 : Int32))] []))
  refine Ends.step (fun _ k => XS.iloadN X0.here hx rfl (hb hby d2_74) rfl k) ?_
  show Ends p e below QQ (s₁.setTop (mkF m 75 #[.val (.int (15 : Int32))] [(.int (15 : Int32))]))
  refine Ends.step (fun _ k => XT.bipushV X0.here hx rfl (9 : Int32) (hb hby d2_75) rfl k) ?_
  show Ends p e below QQ (s₁.setTop (mkF m 77 #[.val (.int (15 : Int32))] [(.int (9 : Int32)), (.int (15 : Int32))]))
  refine Ends.step (fun _ k => XS.icmpYes X0.here hx rfl (pc0 := 77) (pc' := 84) rfl (hb hby d2_77) rfl (XT.ii_ne_t (by decide)) (by decide) (by decide) k) ?_
  show Ends p e below QQ (s₁.setTop (mkF m 84 #[.val (.int (15 : Int32))] []))
  refine Ends.step (fun _ k => XS.iloadN X0.here hx rfl (hb hby d2_84) rfl k) ?_
  show Ends p e below QQ (s₁.setTop (mkF m 85 #[.val (.int (15 : Int32))] [(.int (15 : Int32))]))
  refine Ends.step (fun _ k => XT.bipushV X0.here hx rfl (10 : Int32) (hb hby d2_85) rfl k) ?_
  show Ends p e below QQ (s₁.setTop (mkF m 87 #[.val (.int (15 : Int32))] [(.int (10 : Int32)), (.int (15 : Int32))]))
  refine Ends.step (fun _ k => XS.icmpYes X0.here hx rfl (pc0 := 87) (pc' := 94) rfl (hb hby d2_87) rfl (XT.ii_ne_t (by decide)) (by decide) (by decide) k) ?_
  show Ends p e below QQ (s₁.setTop (mkF m 94 #[.val (.int (15 : Int32))] []))
  refine Ends.step (fun _ k => XS.iloadN X0.here hx rfl (hb hby d2_94) rfl k) ?_
  show Ends p e below QQ (s₁.setTop (mkF m 95 #[.val (.int (15 : Int32))] [(.int (15 : Int32))]))
  refine Ends.step (fun _ k => XT.bipushV X0.here hx rfl (11 : Int32) (hb hby d2_95) rfl k) ?_
  show Ends p e below QQ (s₁.setTop (mkF m 97 #[.val (.int (15 : Int32))] [(.int (11 : Int32)), (.int (15 : Int32))]))
  refine Ends.step (fun _ k => XS.icmpYes X0.here hx rfl (pc0 := 97) (pc' := 104) rfl (hb hby d2_97) rfl (XT.ii_ne_t (by decide)) (by decide) (by decide) k) ?_
  show Ends p e below QQ (s₁.setTop (mkF m 104 #[.val (.int (15 : Int32))] []))
  refine Ends.step (fun _ k => XS.iloadN X0.here hx rfl (hb hby d2_104) rfl k) ?_
  show Ends p e below QQ (s₁.setTop (mkF m 105 #[.val (.int (15 : Int32))] [(.int (15 : Int32))]))
  refine Ends.step (fun _ k => XT.bipushV X0.here hx rfl (12 : Int32) (hb hby d2_105) rfl k) ?_
  show Ends p e below QQ (s₁.setTop (mkF m 107 #[.val (.int (15 : Int32))] [(.int (12 : Int32)), (.int (15 : Int32))]))
  refine Ends.step (fun _ k => XS.icmpYes X0.here hx rfl (pc0 := 107) (pc' := 114) rfl (hb hby d2_107) rfl (XT.ii_ne_t (by decide)) (by decide) (by decide) k) ?_
  show Ends p e below QQ (s₁.setTop (mkF m 114 #[.val (.int (15 : Int32))] []))
  refine Ends.step (fun _ k => XS.iloadN X0.here hx rfl (hb hby d2_114) rfl k) ?_
  show Ends p e below QQ (s₁.setTop (mkF m 115 #[.val (.int (15 : Int32))] [(.int (15 : Int32))]))
  refine Ends.step (fun _ k => XT.bipushV X0.here hx rfl (13 : Int32) (hb hby d2_115) rfl k) ?_
  show Ends p e below QQ (s₁.setTop (mkF m 117 #[.val (.int (15 : Int32))] [(.int (13 : Int32)), (.int (15 : Int32))]))
  refine Ends.step (fun _ k => XS.icmpYes X0.here hx rfl (pc0 := 117) (pc' := 124) rfl (hb hby d2_117) rfl (XT.ii_ne_t (by decide)) (by decide) (by decide) k) ?_
  show Ends p e below QQ (s₁.setTop (mkF m 124 #[.val (.int (15 : Int32))] []))
  refine Ends.step (fun _ k => XS.iloadN X0.here hx rfl (hb hby d2_124) rfl k) ?_
  show Ends p e below QQ (s₁.setTop (mkF m 125 #[.val (.int (15 : Int32))] [(.int (15 : Int32))]))
  refine Ends.step (fun _ k => XT.bipushV X0.here hx rfl (14 : Int32) (hb hby d2_125) rfl k) ?_
  show Ends p e below QQ (s₁.setTop (mkF m 127 #[.val (.int (15 : Int32))] [(.int (14 : Int32)), (.int (15 : Int32))]))
  refine Ends.step (fun _ k => XS.icmpYes X0.here hx rfl (pc0 := 127) (pc' := 134) rfl (hb hby d2_127) rfl (XT.ii_ne_t (by decide)) (by decide) (by decide) k) ?_
  show Ends p e below QQ (s₁.setTop (mkF m 134 #[.val (.int (15 : Int32))] []))
  refine Ends.step (fun _ k => XS.iloadN X0.here hx rfl (hb hby d2_134) rfl k) ?_
  show Ends p e below QQ (s₁.setTop (mkF m 135 #[.val (.int (15 : Int32))] [(.int (15 : Int32))]))
  refine Ends.step (fun _ k => XT.bipushV X0.here hx rfl (15 : Int32) (hb hby d2_135) rfl k) ?_
  show Ends p e below QQ (s₁.setTop (mkF m 137 #[.val (.int (15 : Int32))] [(.int (15 : Int32)), (.int (15 : Int32))]))
  refine Ends.step (fun _ k => XS.icmpNo X0.here hx rfl (hb hby d2_137) rfl (XT.ii_ne_f (by decide)) k) ?_
  show Ends p e below QQ (s₁.setTop (mkF m 140 #[.val (.int (15 : Int32))] []))
  obtain ⟨T80, X80, e80, st80⟩ := getS2 X0 hx hZ hown (host := "") (Or.inl (hw _ (List.mem_of_getElem? (i := 46) rfl))) Via.refl e0 S_AUTH_RESPONSE (g := (mkF m 140 #[.val (.int (15 : Int32))] [])) rfl (hb hby d2_140)
  refine Ends.step st80 ?_
  show Ends p e below QQ (T80.setTop (mkF m 143 #[.val (.int (15 : Int32))] [(.ref a_AUTH_RESPONSE)]))
  exact Ends.fin (some (.ref a_AUTH_RESPONSE)) X80 hQQ (fun h => by rw [Bd.returns] at h; cases h) Bd.notSynchronized (fun _ hr => retOut X80 hx (t := (.object "com/example/nuntius/nuntius/protocol/Opcode")) Bd.returns rfl (Or.inr (Or.inr (Or.inr (Or.inr ⟨rfl, rfl, rfl⟩)))) (hb hby d2_143) hr) e80 (by decide) (by decide) ⟨rfl, N0, rfl⟩
theorem ef_1_16 (m : MethodId)  : entryFrame m #[(.int (16 : Int32))] 2 = mkF m 0 #[.val (.int (16 : Int32)), .unset] [] := by first | (simp [entryFrame, mkF, argsToLocals, Value.category]; done) | rfl
def Q1_16 (Z : State) (a_BY_CODE : Addr) (a_ERROR : Addr) (a_AUTH_CHALLENGE : Addr) (a_SUPPORTED : Addr) (a_RESULT : Addr) (a_EVENT : Addr) (a_AUTHENTICATE : Addr) (a_EXECUTE : Addr) (a_AUTH_SUCCESS : Addr) (a_OPTIONS : Addr) (a_STARTUP : Addr) (a_PREPARE : Addr) (a_REGISTER : Addr) (a_READY : Addr) (a_QUERY : Addr) (a_AUTH_RESPONSE : Addr) (a_BATCH : Addr) (k_a_BY_CODE : ClassId) (h0 : Heap) (n0 : Nat) (v : Option Value) (h : Heap) (L : List Loc) : Prop := (v = some (.ref a_AUTH_SUCCESS)) ∧ (Fr n0 L) ∧ (h = h0)
set_option maxRecDepth 65536 in
set_option maxHeartbeats 40000000 in
theorem rm1_16 (l : Launch) (Z : State) (a0 : Array Value) (hw : ∀ d ∈ tables_1, d.before a0 Z = true) (ws : List Jvm.Cond) (a_BY_CODE : Addr) (a_ERROR : Addr) (a_AUTH_CHALLENGE : Addr) (a_SUPPORTED : Addr) (a_RESULT : Addr) (a_EVENT : Addr) (a_AUTHENTICATE : Addr) (a_EXECUTE : Addr) (a_AUTH_SUCCESS : Addr) (a_OPTIONS : Addr) (a_STARTUP : Addr) (a_PREPARE : Addr) (a_REGISTER : Addr) (a_READY : Addr) (a_QUERY : Addr) (a_AUTH_RESPONSE : Addr) (a_BATCH : Addr) (k_a_BY_CODE : ClassId) (h0 : Heap) (n0 : Nat) (Z0 : n0 ≤ h0.size) (A_a_BY_CODE : Arv Z h0 a_BY_CODE k_a_BY_CODE (.object "com/example/nuntius/nuntius/protocol/Opcode") (17 : Int32) [(.ref a_ERROR), (.ref a_STARTUP), (.ref a_READY), (.ref a_AUTHENTICATE), .null, (.ref a_OPTIONS), (.ref a_SUPPORTED), (.ref a_QUERY), (.ref a_RESULT), (.ref a_PREPARE), (.ref a_EXECUTE), (.ref a_REGISTER), (.ref a_EVENT), (.ref a_BATCH), (.ref a_AUTH_CHALLENGE), (.ref a_AUTH_RESPONSE), (.ref a_AUTH_SUCCESS)] .null) (S_BY_CODE : Sta Z h0 "com/example/nuntius/nuntius/protocol/Opcode" "BY_CODE" "[Lcom/example/nuntius/nuntius/protocol/Opcode;" (.ref a_BY_CODE)) :
    MetFree l (⟨"com/example/nuntius/nuntius/protocol/Opcode", "ofCode", "(I)Lcom/example/nuntius/nuntius/protocol/Opcode;"⟩ : MethodName) (head1 (Jvm.Cond.code (⟨"com/example/nuntius/nuntius/protocol/Opcode", "ofCode", "(I)Lcom/example/nuntius/nuntius/protocol/Opcode;"⟩ : MethodName) prog_43_method_5_code 2 (some (.object "com/example/nuntius/nuntius/protocol/Opcode")) :: ws) ({ frames := 0, cells := 0, slots := 0, locals := 0 } : Room)) (fun a U => a = #[(.int (16 : Int32))] ∧ Z.Warmed39 U.vm ∧ U.heap = h0) (fun _ _ _ _ _ => True) (fun _ U o U' => ∃ v L, o = .returned v ∧ Q1_16 Z a_BY_CODE a_ERROR a_AUTH_CHALLENGE a_SUPPORTED a_RESULT a_EVENT a_AUTHENTICATE a_EXECUTE a_AUTH_SUCCESS a_OPTIONS a_STARTUP a_PREPARE a_REGISTER a_READY a_QUERY a_AUTH_RESPONSE a_BATCH k_a_BY_CODE h0 n0 v U'.heap L ∧ FrameEnd U o U' L ({ frames := 0, cells := 0, slots := 0, locals := 0 } : Room).cells ({ frames := 0, cells := 0, slots := 0, locals := 0 } : Room).slots) := by
  refine MetFree.of_bodySF (plainFor_of_name pn_0) hisR ?_
  intro p e s m args below meth c s₁ Bd hml0 hP hK
  obtain ⟨rfl, hZ, hh⟩ := hP
  have hx := Bd.exec
  have hby := Bd.bytes
  have hml : c.maxLocals = 2 := hml0
  have hown : s.vm.findClass "com/example/nuntius/nuntius/protocol/Opcode" = some m.cls := findClass_of_methodNamed Bd.named
  have hnm := (name_of_methodNamed Bd.named Bd.method).1
  have X0 : Stand p l e ({ frames := 0, cells := 0, slots := 0, locals := 0 } : Room) s m #[(.int (16 : Int32))] below meth c s₁ [] 0 0 := Stand.of_body Bd
  have e0 : s₁.heap = h0 := by rw [← hh, Bd.state]; rfl
  have N0 := Fr.nil n0
  refine Ends.opn ?_
  intro QQ hQQ
  refine Ends.step (S' := s₁.setTop (mkF m 0 #[.val (.int (16 : Int32)), .unset] [])) (fun t k => castTop (ef_1_16 m ) k) ?_
  show Ends p e below QQ (s₁.setTop (mkF m 0 #[.val (.int (16 : Int32)), .unset] []))
  refine Ends.step (fun _ k => XS.aconstNull X0.here hx rfl (hb hby d1_0) k) ?_
  show Ends p e below QQ (s₁.setTop (mkF m 1 #[.val (.int (16 : Int32)), .unset] [.null]))
  refine Ends.step (fun _ k => XS.astoreN X0.here hx rfl (hb hby d1_1) rfl rfl (l' := #[.val (.int (16 : Int32)), .val .null]) rfl k) ?_
  show Ends p e below QQ (s₁.setTop (mkF m 2 #[.val (.int (16 : Int32)), .val .null] []))
  refine Ends.step (fun _ k => XS.iloadN X0.here hx rfl (hb hby d1_2) rfl k) ?_
  show Ends p e below QQ (s₁.setTop (mkF m 3 #[.val (.int (16 : Int32)), .val .null] [(.int (16 : Int32))]))
  refine Ends.step (fun _ k => XS.ifNo X0.here hx rfl (hb hby d1_3) rfl (XT.i0_lt_f (by decide)) k) ?_
  show Ends p e below QQ (s₁.setTop (mkF m 6 #[.val (.int (16 : Int32)), .val .null] []))
  refine Ends.step (fun _ k => XS.iloadN X0.here hx rfl (hb hby d1_6) rfl k) ?_
  show Ends p e below QQ (s₁.setTop (mkF m 7 #[.val (.int (16 : Int32)), .val .null] [(.int (16 : Int32))]))
  obtain ⟨T81, X81, e81, st81⟩ := getS2 X0 hx hZ hown (host := "") (Or.inl (hw _ (List.mem_of_getElem? (i := 4) rfl))) Via.refl e0 S_BY_CODE (g := (mkF m 7 #[.val (.int (16 : Int32)), .val .null] [(.int (16 : Int32))])) rfl (hb hby d1_7)
  refine Ends.step st81 ?_
  show Ends p e below QQ (T81.setTop (mkF m 10 #[.val (.int (16 : Int32)), .val .null] [(.ref a_BY_CODE), (.int (16 : Int32))]))
  obtain ⟨cl82, Ar82, -, S82, P82, -, -⟩ := id A_a_BY_CODE
  refine Ends.step (S' := T81.setTop (mkF m 11 #[.val (.int (16 : Int32)), .val .null] [(.int (17 : Int32)), (.int (16 : Int32))])) (fun _ k => X81.arraylength hx (by rw [e81]; exact Ar82.1) (State.isArrayOf_alike hZ.alike Ar82.2.1) (g := (mkF m 10 #[.val (.int (16 : Int32)), .val .null] [(.ref a_BY_CODE), (.int (16 : Int32))])) rfl rfl (hb hby d1_10) _ (by rw [len_of S82 P82]; exact k)) ?_
  show Ends p e below QQ (T81.setTop (mkF m 11 #[.val (.int (16 : Int32)), .val .null] [(.int (17 : Int32)), (.int (16 : Int32))]))
  refine Ends.step (fun _ k => XS.icmpNo X81.here hx rfl (hb hby d1_11) rfl (XT.ii_ge_f (by decide)) k) ?_
  show Ends p e below QQ (T81.setTop (mkF m 14 #[.val (.int (16 : Int32)), .val .null] []))
  obtain ⟨T83, X83, e83, st83⟩ := getS2 X81 hx hZ hown (host := "") (Or.inl (hw _ (List.mem_of_getElem? (i := 4) rfl))) Via.refl e81 S_BY_CODE (g := (mkF m 14 #[.val (.int (16 : Int32)), .val .null] [])) rfl (hb hby d1_14)
  refine Ends.step st83 ?_
  show Ends p e below QQ (T83.setTop (mkF m 17 #[.val (.int (16 : Int32)), .val .null] [(.ref a_BY_CODE)]))
  refine Ends.step (fun _ k => XS.iloadN X83.here hx rfl (hb hby d1_17) rfl k) ?_
  show Ends p e below QQ (T83.setTop (mkF m 18 #[.val (.int (16 : Int32)), .val .null] [(.int (16 : Int32)), (.ref a_BY_CODE)]))
  obtain ⟨cl84, Ar84, q84, S84, P84, H84, G84⟩ := id A_a_BY_CODE
  have hin84 : ¬ ((16 : Int32) < 0 ∨ cl84.slots.size ≤ ((16 : Int32)).toNatClampNeg) := inb_of S84 ⟨by decide, by decide⟩
  have hat84 : cl84.slots[((16 : Int32)).toNatClampNeg]? = some (.ref a_AUTH_SUCCESS) := H84.at hin84 (rfl)
  refine Ends.step (fun _ k => X83.aaload hx (j := (16 : Int32)) (v := (.ref a_AUTH_SUCCESS)) (by rw [e83]; exact Ar84.1) (State.isArrayOf_alike hZ.alike Ar84.2.1) rfl Ar84.2.2 hin84 hat84 (g := (mkF m 18 #[.val (.int (16 : Int32)), .val .null] [(.int (16 : Int32)), (.ref a_BY_CODE)])) rfl rfl (hb hby d1_18) _ k) ?_
  show Ends p e below QQ (T83.setTop (mkF m 19 #[.val (.int (16 : Int32)), .val .null] [(.ref a_AUTH_SUCCESS)]))
  refine Ends.step (fun _ k => XS.astoreN X83.here hx rfl (hb hby d1_19) rfl rfl (l' := #[.val (.int (16 : Int32)), .val (.ref a_AUTH_SUCCESS)]) rfl k) ?_
  show Ends p e below QQ (T83.setTop (mkF m 20 #[.val (.int (16 : Int32)), .val (.ref a_AUTH_SUCCESS)] []))
  refine Ends.step (fun _ k => XS.aloadN X83.here hx rfl (hb hby d1_20) rfl rfl k) ?_
  show Ends p e below QQ (T83.setTop (mkF m 21 #[.val (.int (16 : Int32)), .val (.ref a_AUTH_SUCCESS)] [(.ref a_AUTH_SUCCESS)]))
  exact Ends.fin (some (.ref a_AUTH_SUCCESS)) X83 hQQ (fun h => by rw [Bd.returns] at h; cases h) Bd.notSynchronized (fun _ hr => retOut X83 hx (t := (.object "com/example/nuntius/nuntius/protocol/Opcode")) Bd.returns rfl (Or.inr (Or.inr (Or.inr (Or.inr ⟨rfl, rfl, rfl⟩)))) (hb hby d1_21) hr) e83 (by decide) (by decide) ⟨rfl, N0, rfl⟩
theorem d2_150 : decode method_2_code 150 = .ok (.getstatic 55, 3) := by decide +kernel
theorem d2_153 : decode method_2_code 153 = .ok (.areturn, 1) := by decide +kernel
theorem ef_2_16 (m : MethodId)  : entryFrame m #[(.int (16 : Int32))] 1 = mkF m 0 #[.val (.int (16 : Int32))] [] := by first | (simp [entryFrame, mkF, argsToLocals, Value.category]; done) | rfl
def Q2_16 (Z : State) (a_AUTH_SUCCESS : Addr) (h0 : Heap) (n0 : Nat) (v : Option Value) (h : Heap) (L : List Loc) : Prop := (v = some (.ref a_AUTH_SUCCESS)) ∧ (Fr n0 L) ∧ (h = h0)
set_option maxRecDepth 65536 in
set_option maxHeartbeats 40000000 in
theorem rm2_16 (l : Launch) (Z : State) (a0 : Array Value) (hw : ∀ d ∈ tables_1, d.before a0 Z = true) (ws : List Jvm.Cond) (a_AUTH_SUCCESS : Addr) (h0 : Heap) (n0 : Nat) (Z0 : n0 ≤ h0.size) (S_AUTH_SUCCESS : Sta Z h0 "com/example/nuntius/nuntius/protocol/Opcode" "AUTH_SUCCESS" "Lcom/example/nuntius/nuntius/protocol/Opcode;" (.ref a_AUTH_SUCCESS)) :
    MetFree l (⟨"com/example/nuntius/nuntius/protocol/OpcodeOfCodePinLaw", "expected", "(I)Lcom/example/nuntius/nuntius/protocol/Opcode;"⟩ : MethodName) (head1 (Jvm.Cond.code (⟨"com/example/nuntius/nuntius/protocol/OpcodeOfCodePinLaw", "expected", "(I)Lcom/example/nuntius/nuntius/protocol/Opcode;"⟩ : MethodName) method_2_code 1 (some (.object "com/example/nuntius/nuntius/protocol/Opcode")) :: ws) ({ frames := 0, cells := 0, slots := 0, locals := 0 } : Room)) (fun a U => a = #[(.int (16 : Int32))] ∧ Z.Warmed39 U.vm ∧ U.heap = h0) (fun _ _ _ _ _ => True) (fun _ U o U' => ∃ v L, o = .returned v ∧ Q2_16 Z a_AUTH_SUCCESS h0 n0 v U'.heap L ∧ FrameEnd U o U' L ({ frames := 0, cells := 0, slots := 0, locals := 0 } : Room).cells ({ frames := 0, cells := 0, slots := 0, locals := 0 } : Room).slots) := by
  refine MetFree.of_bodySF (plainFor_of_name pn_1) hisR ?_
  intro p e s m args below meth c s₁ Bd hml0 hP hK
  obtain ⟨rfl, hZ, hh⟩ := hP
  have hx := Bd.exec
  have hby := Bd.bytes
  have hml : c.maxLocals = 1 := hml0
  have hown : s.vm.findClass "com/example/nuntius/nuntius/protocol/OpcodeOfCodePinLaw" = some m.cls := findClass_of_methodNamed Bd.named
  have hnm := (name_of_methodNamed Bd.named Bd.method).1
  have X0 : Stand p l e ({ frames := 0, cells := 0, slots := 0, locals := 0 } : Room) s m #[(.int (16 : Int32))] below meth c s₁ [] 0 0 := Stand.of_body Bd
  have e0 : s₁.heap = h0 := by rw [← hh, Bd.state]; rfl
  have N0 := Fr.nil n0
  refine Ends.opn ?_
  intro QQ hQQ
  refine Ends.step (S' := s₁.setTop (mkF m 0 #[.val (.int (16 : Int32))] [])) (fun t k => castTop (ef_2_16 m ) k) ?_
  show Ends p e below QQ (s₁.setTop (mkF m 0 #[.val (.int (16 : Int32))] []))
  refine Ends.step (fun _ k => XS.iloadN X0.here hx rfl (hb hby d2_0) rfl k) ?_
  show Ends p e below QQ (s₁.setTop (mkF m 1 #[.val (.int (16 : Int32))] [(.int (16 : Int32))]))
  refine Ends.step (fun _ k => XS.ifYes X0.here hx rfl (pc0 := 1) (pc' := 8) rfl (hb hby d2_1) rfl (XT.i0_ne_t (by decide)) (by decide) (by decide) k) ?_
  show Ends p e below QQ (s₁.setTop (mkF m 8 #[.val (.int (16 : Int32))] []))
  refine Ends.step (fun _ k => XS.iloadN X0.here hx rfl (hb hby d2_8) rfl k) ?_
  show Ends p e below QQ (s₁.setTop (mkF m 9 #[.val (.int (16 : Int32))] [(.int (16 : Int32))]))
  refine Ends.step (fun _ k => XT.iconstV X0.here hx rfl (1 : Int32) (hb hby d2_9) rfl k) ?_
  show Ends p e below QQ (s₁.setTop (mkF m 10 #[.val (.int (16 : Int32))] [(.int (1 : Int32)), (.int (16 : Int32))]))
  refine Ends.step (fun _ k => XS.icmpYes X0.here hx rfl (pc0 := 10) (pc' := 17) rfl (hb hby d2_10) rfl (XT.ii_ne_t (by decide)) (by decide) (by decide) k) ?_
  show Ends p e below QQ (s₁.setTop (mkF m 17 #[.val (.int (16 : Int32))] []))
  refine Ends.step (fun _ k => XS.iloadN X0.here hx rfl (hb hby d2_17) rfl k) ?_
  show Ends p e below QQ (s₁.setTop (mkF m 18 #[.val (.int (16 : Int32))] [(.int (16 : Int32))]))
  refine Ends.step (fun _ k => XT.iconstV X0.here hx rfl (2 : Int32) (hb hby d2_18) rfl k) ?_
  show Ends p e below QQ (s₁.setTop (mkF m 19 #[.val (.int (16 : Int32))] [(.int (2 : Int32)), (.int (16 : Int32))]))
  refine Ends.step (fun _ k => XS.icmpYes X0.here hx rfl (pc0 := 19) (pc' := 26) rfl (hb hby d2_19) rfl (XT.ii_ne_t (by decide)) (by decide) (by decide) k) ?_
  show Ends p e below QQ (s₁.setTop (mkF m 26 #[.val (.int (16 : Int32))] []))
  refine Ends.step (fun _ k => XS.iloadN X0.here hx rfl (hb hby d2_26) rfl k) ?_
  show Ends p e below QQ (s₁.setTop (mkF m 27 #[.val (.int (16 : Int32))] [(.int (16 : Int32))]))
  refine Ends.step (fun _ k => XT.iconstV X0.here hx rfl (3 : Int32) (hb hby d2_27) rfl k) ?_
  show Ends p e below QQ (s₁.setTop (mkF m 28 #[.val (.int (16 : Int32))] [(.int (3 : Int32)), (.int (16 : Int32))]))
  refine Ends.step (fun _ k => XS.icmpYes X0.here hx rfl (pc0 := 28) (pc' := 35) rfl (hb hby d2_28) rfl (XT.ii_ne_t (by decide)) (by decide) (by decide) k) ?_
  show Ends p e below QQ (s₁.setTop (mkF m 35 #[.val (.int (16 : Int32))] []))
  refine Ends.step (fun _ k => XS.iloadN X0.here hx rfl (hb hby d2_35) rfl k) ?_
  show Ends p e below QQ (s₁.setTop (mkF m 36 #[.val (.int (16 : Int32))] [(.int (16 : Int32))]))
  refine Ends.step (fun _ k => XT.iconstV X0.here hx rfl (5 : Int32) (hb hby d2_36) rfl k) ?_
  show Ends p e below QQ (s₁.setTop (mkF m 37 #[.val (.int (16 : Int32))] [(.int (5 : Int32)), (.int (16 : Int32))]))
  refine Ends.step (fun _ k => XS.icmpYes X0.here hx rfl (pc0 := 37) (pc' := 44) rfl (hb hby d2_37) rfl (XT.ii_ne_t (by decide)) (by decide) (by decide) k) ?_
  show Ends p e below QQ (s₁.setTop (mkF m 44 #[.val (.int (16 : Int32))] []))
  refine Ends.step (fun _ k => XS.iloadN X0.here hx rfl (hb hby d2_44) rfl k) ?_
  show Ends p e below QQ (s₁.setTop (mkF m 45 #[.val (.int (16 : Int32))] [(.int (16 : Int32))]))
  refine Ends.step (fun _ k => XT.bipushV X0.here hx rfl (6 : Int32) (hb hby d2_45) rfl k) ?_
  show Ends p e below QQ (s₁.setTop (mkF m 47 #[.val (.int (16 : Int32))] [(.int (6 : Int32)), (.int (16 : Int32))]))
  refine Ends.step (fun _ k => XS.icmpYes X0.here hx rfl (pc0 := 47) (pc' := 54) rfl (hb hby d2_47) rfl (XT.ii_ne_t (by decide)) (by decide) (by decide) k) ?_
  show Ends p e below QQ (s₁.setTop (mkF m 54 #[.val (.int (16 : Int32))] []))
  refine Ends.step (fun _ k => XS.iloadN X0.here hx rfl (hb hby d2_54) rfl k) ?_
  show Ends p e below QQ (s₁.setTop (mkF m 55 #[.val (.int (16 : Int32))] [(.int (16 : Int32))]))
  refine Ends.step (fun _ k => XT.bipushV X0.here hx rfl (7 : Int32) (hb hby d2_55) rfl k) ?_
  show Ends p e below QQ (s₁.setTop (mkF m 57 #[.val (.int (16 : Int32))] [(.int (7 : Int32)), (.int (16 : Int32))]))
  refine Ends.step (fun _ k => XS.icmpYes X0.here hx rfl (pc0 := 57) (pc' := 64) rfl (hb hby d2_57) rfl (XT.ii_ne_t (by decide)) (by decide) (by decide) k) ?_
  show Ends p e below QQ (s₁.setTop (mkF m 64 #[.val (.int (16 : Int32))] []))
  refine Ends.step (fun _ k => XS.iloadN X0.here hx rfl (hb hby d2_64) rfl k) ?_
  show Ends p e below QQ (s₁.setTop (mkF m 65 #[.val (.int (16 : Int32))] [(.int (16 : Int32))]))
  refine Ends.step (fun _ k => XT.bipushV X0.here hx rfl (8 : Int32) (hb hby d2_65) rfl k) ?_
  show Ends p e below QQ (s₁.setTop (mkF m 67 #[.val (.int (16 : Int32))] [(.int (8 : Int32)), (.int (16 : Int32))]))
  refine Ends.step (fun _ k => XS.icmpYes X0.here hx rfl (pc0 := 67) (pc' := 74) rfl (hb hby d2_67) rfl (XT.ii_ne_t (by decide)) (by decide) (by decide) k) ?_
  show Ends p e below QQ (s₁.setTop (mkF m 74 #[.val (.int (16 : Int32))] []))
  refine Ends.step (fun _ k => XS.iloadN X0.here hx rfl (hb hby d2_74) rfl k) ?_
  show Ends p e below QQ (s₁.setTop (mkF m 75 #[.val (.int (16 : Int32))] [(.int (16 : Int32))]))
  refine Ends.step (fun _ k => XT.bipushV X0.here hx rfl (9 : Int32) (hb hby d2_75) rfl k) ?_
  show Ends p e below QQ (s₁.setTop (mkF m 77 #[.val (.int (16 : Int32))] [(.int (9 : Int32)), (.int (16 : Int32))]))
  refine Ends.step (fun _ k => XS.icmpYes X0.here hx rfl (pc0 := 77) (pc' := 84) rfl (hb hby d2_77) rfl (XT.ii_ne_t (by decide)) (by decide) (by decide) k) ?_
  show Ends p e below QQ (s₁.setTop (mkF m 84 #[.val (.int (16 : Int32))] []))
  refine Ends.step (fun _ k => XS.iloadN X0.here hx rfl (hb hby d2_84) rfl k) ?_
  show Ends p e below QQ (s₁.setTop (mkF m 85 #[.val (.int (16 : Int32))] [(.int (16 : Int32))]))
  refine Ends.step (fun _ k => XT.bipushV X0.here hx rfl (10 : Int32) (hb hby d2_85) rfl k) ?_
  show Ends p e below QQ (s₁.setTop (mkF m 87 #[.val (.int (16 : Int32))] [(.int (10 : Int32)), (.int (16 : Int32))]))
  refine Ends.step (fun _ k => XS.icmpYes X0.here hx rfl (pc0 := 87) (pc' := 94) rfl (hb hby d2_87) rfl (XT.ii_ne_t (by decide)) (by decide) (by decide) k) ?_
  show Ends p e below QQ (s₁.setTop (mkF m 94 #[.val (.int (16 : Int32))] []))
  refine Ends.step (fun _ k => XS.iloadN X0.here hx rfl (hb hby d2_94) rfl k) ?_
  show Ends p e below QQ (s₁.setTop (mkF m 95 #[.val (.int (16 : Int32))] [(.int (16 : Int32))]))
  refine Ends.step (fun _ k => XT.bipushV X0.here hx rfl (11 : Int32) (hb hby d2_95) rfl k) ?_
  show Ends p e below QQ (s₁.setTop (mkF m 97 #[.val (.int (16 : Int32))] [(.int (11 : Int32)), (.int (16 : Int32))]))
  refine Ends.step (fun _ k => XS.icmpYes X0.here hx rfl (pc0 := 97) (pc' := 104) rfl (hb hby d2_97) rfl (XT.ii_ne_t (by decide)) (by decide) (by decide) k) ?_
  show Ends p e below QQ (s₁.setTop (mkF m 104 #[.val (.int (16 : Int32))] []))
  refine Ends.step (fun _ k => XS.iloadN X0.here hx rfl (hb hby d2_104) rfl k) ?_
  show Ends p e below QQ (s₁.setTop (mkF m 105 #[.val (.int (16 : Int32))] [(.int (16 : Int32))]))
  refine Ends.step (fun _ k => XT.bipushV X0.here hx rfl (12 : Int32) (hb hby d2_105) rfl k) ?_
  show Ends p e below QQ (s₁.setTop (mkF m 107 #[.val (.int (16 : Int32))] [(.int (12 : Int32)), (.int (16 : Int32))]))
  refine Ends.step (fun _ k => XS.icmpYes X0.here hx rfl (pc0 := 107) (pc' := 114) rfl (hb hby d2_107) rfl (XT.ii_ne_t (by decide)) (by decide) (by decide) k) ?_
  show Ends p e below QQ (s₁.setTop (mkF m 114 #[.val (.int (16 : Int32))] []))
  refine Ends.step (fun _ k => XS.iloadN X0.here hx rfl (hb hby d2_114) rfl k) ?_
  show Ends p e below QQ (s₁.setTop (mkF m 115 #[.val (.int (16 : Int32))] [(.int (16 : Int32))]))
  refine Ends.step (fun _ k => XT.bipushV X0.here hx rfl (13 : Int32) (hb hby d2_115) rfl k) ?_
  show Ends p e below QQ (s₁.setTop (mkF m 117 #[.val (.int (16 : Int32))] [(.int (13 : Int32)), (.int (16 : Int32))]))
  refine Ends.step (fun _ k => XS.icmpYes X0.here hx rfl (pc0 := 117) (pc' := 124) rfl (hb hby d2_117) rfl (XT.ii_ne_t (by decide)) (by decide) (by decide) k) ?_
  show Ends p e below QQ (s₁.setTop (mkF m 124 #[.val (.int (16 : Int32))] []))
  refine Ends.step (fun _ k => XS.iloadN X0.here hx rfl (hb hby d2_124) rfl k) ?_
  show Ends p e below QQ (s₁.setTop (mkF m 125 #[.val (.int (16 : Int32))] [(.int (16 : Int32))]))
  refine Ends.step (fun _ k => XT.bipushV X0.here hx rfl (14 : Int32) (hb hby d2_125) rfl k) ?_
  show Ends p e below QQ (s₁.setTop (mkF m 127 #[.val (.int (16 : Int32))] [(.int (14 : Int32)), (.int (16 : Int32))]))
  refine Ends.step (fun _ k => XS.icmpYes X0.here hx rfl (pc0 := 127) (pc' := 134) rfl (hb hby d2_127) rfl (XT.ii_ne_t (by decide)) (by decide) (by decide) k) ?_
  show Ends p e below QQ (s₁.setTop (mkF m 134 #[.val (.int (16 : Int32))] []))
  refine Ends.step (fun _ k => XS.iloadN X0.here hx rfl (hb hby d2_134) rfl k) ?_
  show Ends p e below QQ (s₁.setTop (mkF m 135 #[.val (.int (16 : Int32))] [(.int (16 : Int32))]))
  refine Ends.step (fun _ k => XT.bipushV X0.here hx rfl (15 : Int32) (hb hby d2_135) rfl k) ?_
  show Ends p e below QQ (s₁.setTop (mkF m 137 #[.val (.int (16 : Int32))] [(.int (15 : Int32)), (.int (16 : Int32))]))
  refine Ends.step (fun _ k => XS.icmpYes X0.here hx rfl (pc0 := 137) (pc' := 144) rfl (hb hby d2_137) rfl (XT.ii_ne_t (by decide)) (by decide) (by decide) k) ?_
  show Ends p e below QQ (s₁.setTop (mkF m 144 #[.val (.int (16 : Int32))] []))
  refine Ends.step (fun _ k => XS.iloadN X0.here hx rfl (hb hby d2_144) rfl k) ?_
  show Ends p e below QQ (s₁.setTop (mkF m 145 #[.val (.int (16 : Int32))] [(.int (16 : Int32))]))
  refine Ends.step (fun _ k => XT.bipushV X0.here hx rfl (16 : Int32) (hb hby d2_145) rfl k) ?_
  show Ends p e below QQ (s₁.setTop (mkF m 147 #[.val (.int (16 : Int32))] [(.int (16 : Int32)), (.int (16 : Int32))]))
  refine Ends.step (fun _ k => XS.icmpNo X0.here hx rfl (hb hby d2_147) rfl (XT.ii_ne_f (by decide)) k) ?_
  show Ends p e below QQ (s₁.setTop (mkF m 150 #[.val (.int (16 : Int32))] []))
  obtain ⟨T85, X85, e85, st85⟩ := getS2 X0 hx hZ hown (host := "") (Or.inl (hw _ (List.mem_of_getElem? (i := 32) rfl))) Via.refl e0 S_AUTH_SUCCESS (g := (mkF m 150 #[.val (.int (16 : Int32))] [])) rfl (hb hby d2_150)
  refine Ends.step st85 ?_
  show Ends p e below QQ (T85.setTop (mkF m 153 #[.val (.int (16 : Int32))] [(.ref a_AUTH_SUCCESS)]))
  exact Ends.fin (some (.ref a_AUTH_SUCCESS)) X85 hQQ (fun h => by rw [Bd.returns] at h; cases h) Bd.notSynchronized (fun _ hr => retOut X85 hx (t := (.object "com/example/nuntius/nuntius/protocol/Opcode")) Bd.returns rfl (Or.inr (Or.inr (Or.inr (Or.inr ⟨rfl, rfl, rfl⟩)))) (hb hby d2_153) hr) e85 (by decide) (by decide) ⟨rfl, N0, rfl⟩
theorem ef_1_n (m : MethodId) (x0 : Int32) : entryFrame m #[(.int x0)] 2 = mkF m 0 #[.val (.int x0), .unset] [] := by first | (simp [entryFrame, mkF, argsToLocals, Value.category]; done) | rfl
def Q1_n (Z : State) (p0 : Int32) (a_BY_CODE : Addr) (a_ERROR : Addr) (a_AUTH_CHALLENGE : Addr) (a_SUPPORTED : Addr) (a_RESULT : Addr) (a_EVENT : Addr) (a_AUTHENTICATE : Addr) (a_EXECUTE : Addr) (a_AUTH_SUCCESS : Addr) (a_OPTIONS : Addr) (a_STARTUP : Addr) (a_PREPARE : Addr) (a_REGISTER : Addr) (a_READY : Addr) (a_QUERY : Addr) (a_AUTH_RESPONSE : Addr) (a_BATCH : Addr) (k_a_BY_CODE : ClassId) (h0 : Heap) (n0 : Nat) (v : Option Value) (h : Heap) (L : List Loc) : Prop := (v = some .null) ∧ (Fr n0 L) ∧ (h = h0)
set_option maxRecDepth 65536 in
set_option maxHeartbeats 40000000 in
theorem rm1_n (l : Launch) (Z : State) (a0 : Array Value) (hw : ∀ d ∈ tables_1, d.before a0 Z = true) (ws : List Jvm.Cond) (p0 : Int32) (a_BY_CODE : Addr) (a_ERROR : Addr) (a_AUTH_CHALLENGE : Addr) (a_SUPPORTED : Addr) (a_RESULT : Addr) (a_EVENT : Addr) (a_AUTHENTICATE : Addr) (a_EXECUTE : Addr) (a_AUTH_SUCCESS : Addr) (a_OPTIONS : Addr) (a_STARTUP : Addr) (a_PREPARE : Addr) (a_REGISTER : Addr) (a_READY : Addr) (a_QUERY : Addr) (a_AUTH_RESPONSE : Addr) (a_BATCH : Addr) (k_a_BY_CODE : ClassId) (h0 : Heap) (n0 : Nat) (Z0 : n0 ≤ h0.size) (A_a_BY_CODE : Arv Z h0 a_BY_CODE k_a_BY_CODE (.object "com/example/nuntius/nuntius/protocol/Opcode") (17 : Int32) [(.ref a_ERROR), (.ref a_STARTUP), (.ref a_READY), (.ref a_AUTHENTICATE), .null, (.ref a_OPTIONS), (.ref a_SUPPORTED), (.ref a_QUERY), (.ref a_RESULT), (.ref a_PREPARE), (.ref a_EXECUTE), (.ref a_REGISTER), (.ref a_EVENT), (.ref a_BATCH), (.ref a_AUTH_CHALLENGE), (.ref a_AUTH_RESPONSE), (.ref a_AUTH_SUCCESS)] .null) (S_BY_CODE : Sta Z h0 "com/example/nuntius/nuntius/protocol/Opcode" "BY_CODE" "[Lcom/example/nuntius/nuntius/protocol/Opcode;" (.ref a_BY_CODE)) (hk : p0 < (0 : Int32) ∨ ¬ p0 < (17 : Int32)) :
    MetFree l (⟨"com/example/nuntius/nuntius/protocol/Opcode", "ofCode", "(I)Lcom/example/nuntius/nuntius/protocol/Opcode;"⟩ : MethodName) (head1 (Jvm.Cond.code (⟨"com/example/nuntius/nuntius/protocol/Opcode", "ofCode", "(I)Lcom/example/nuntius/nuntius/protocol/Opcode;"⟩ : MethodName) prog_43_method_5_code 2 (some (.object "com/example/nuntius/nuntius/protocol/Opcode")) :: ws) ({ frames := 0, cells := 0, slots := 0, locals := 0 } : Room)) (fun a U => a = #[(.int p0)] ∧ Z.Warmed39 U.vm ∧ U.heap = h0) (fun _ _ _ _ _ => True) (fun _ U o U' => ∃ v L, o = .returned v ∧ Q1_n Z p0 a_BY_CODE a_ERROR a_AUTH_CHALLENGE a_SUPPORTED a_RESULT a_EVENT a_AUTHENTICATE a_EXECUTE a_AUTH_SUCCESS a_OPTIONS a_STARTUP a_PREPARE a_REGISTER a_READY a_QUERY a_AUTH_RESPONSE a_BATCH k_a_BY_CODE h0 n0 v U'.heap L ∧ FrameEnd U o U' L ({ frames := 0, cells := 0, slots := 0, locals := 0 } : Room).cells ({ frames := 0, cells := 0, slots := 0, locals := 0 } : Room).slots) := by
  refine MetFree.of_bodySF (plainFor_of_name pn_0) hisR ?_
  intro p e s m args below meth c s₁ Bd hml0 hP hK
  obtain ⟨rfl, hZ, hh⟩ := hP
  have hx := Bd.exec
  have hby := Bd.bytes
  have hml : c.maxLocals = 2 := hml0
  have hown : s.vm.findClass "com/example/nuntius/nuntius/protocol/Opcode" = some m.cls := findClass_of_methodNamed Bd.named
  have hnm := (name_of_methodNamed Bd.named Bd.method).1
  have X0 : Stand p l e ({ frames := 0, cells := 0, slots := 0, locals := 0 } : Room) s m #[(.int p0)] below meth c s₁ [] 0 0 := Stand.of_body Bd
  have e0 : s₁.heap = h0 := by rw [← hh, Bd.state]; rfl
  have N0 := Fr.nil n0
  refine Ends.opn ?_
  intro QQ hQQ
  refine Ends.step (S' := s₁.setTop (mkF m 0 #[.val (.int p0), .unset] [])) (fun t k => castTop (ef_1_n m p0) k) ?_
  show Ends p e below QQ (s₁.setTop (mkF m 0 #[.val (.int p0), .unset] []))
  refine Ends.step (fun _ k => XS.aconstNull X0.here hx rfl (hb hby d1_0) k) ?_
  show Ends p e below QQ (s₁.setTop (mkF m 1 #[.val (.int p0), .unset] [.null]))
  refine Ends.step (fun _ k => XS.astoreN X0.here hx rfl (hb hby d1_1) rfl rfl (l' := #[.val (.int p0), .val .null]) rfl k) ?_
  show Ends p e below QQ (s₁.setTop (mkF m 2 #[.val (.int p0), .val .null] []))
  refine Ends.step (fun _ k => XS.iloadN X0.here hx rfl (hb hby d1_2) rfl k) ?_
  show Ends p e below QQ (s₁.setTop (mkF m 3 #[.val (.int p0), .val .null] [(.int p0)]))
  by_cases hc3_86 : p0 < (0 : Int32)
  · refine Ends.step (fun _ k => XS.ifYes X0.here hx rfl (pc0 := 3) (pc' := 20) rfl (hb hby d1_3) rfl (XT.i0_lt_t hc3_86) (by decide) (by decide) k) ?_
    show Ends p e below QQ (s₁.setTop (mkF m 20 #[.val (.int p0), .val .null] []))
    refine Ends.step (fun _ k => XS.aloadN X0.here hx rfl (hb hby d1_20) rfl rfl k) ?_
    show Ends p e below QQ (s₁.setTop (mkF m 21 #[.val (.int p0), .val .null] [.null]))
    exact Ends.fin (some .null) X0 hQQ (fun h => by rw [Bd.returns] at h; cases h) Bd.notSynchronized (fun _ hr => retOut X0 hx (t := (.object "com/example/nuntius/nuntius/protocol/Opcode")) Bd.returns rfl (Or.inr (Or.inr (Or.inr (Or.inr ⟨rfl, rfl, rfl⟩)))) (hb hby d1_21) hr) e0 (by decide) (by decide) ⟨rfl, N0, rfl⟩
  · refine Ends.step (fun _ k => XS.ifNo X0.here hx rfl (hb hby d1_3) rfl (XT.i0_lt_f hc3_86) k) ?_
    show Ends p e below QQ (s₁.setTop (mkF m 6 #[.val (.int p0), .val .null] []))
    refine Ends.step (fun _ k => XS.iloadN X0.here hx rfl (hb hby d1_6) rfl k) ?_
    show Ends p e below QQ (s₁.setTop (mkF m 7 #[.val (.int p0), .val .null] [(.int p0)]))
    obtain ⟨T87, X87, e87, st87⟩ := getS2 X0 hx hZ hown (host := "") (Or.inl (hw _ (List.mem_of_getElem? (i := 4) rfl))) Via.refl e0 S_BY_CODE (g := (mkF m 7 #[.val (.int p0), .val .null] [(.int p0)])) rfl (hb hby d1_7)
    refine Ends.step st87 ?_
    show Ends p e below QQ (T87.setTop (mkF m 10 #[.val (.int p0), .val .null] [(.ref a_BY_CODE), (.int p0)]))
    obtain ⟨cl88, Ar88, -, S88, P88, -, -⟩ := id A_a_BY_CODE
    refine Ends.step (S' := T87.setTop (mkF m 11 #[.val (.int p0), .val .null] [(.int (17 : Int32)), (.int p0)])) (fun _ k => X87.arraylength hx (by rw [e87]; exact Ar88.1) (State.isArrayOf_alike hZ.alike Ar88.2.1) (g := (mkF m 10 #[.val (.int p0), .val .null] [(.ref a_BY_CODE), (.int p0)])) rfl rfl (hb hby d1_10) _ (by rw [len_of S88 P88]; exact k)) ?_
    show Ends p e below QQ (T87.setTop (mkF m 11 #[.val (.int p0), .val .null] [(.int (17 : Int32)), (.int p0)]))
    have hc11 : ¬ (p0 < (17 : Int32)) := (hk.resolve_left (by assumption))
    refine Ends.step (fun _ k => XS.icmpYes X87.here hx rfl (pc0 := 11) (pc' := 20) rfl (hb hby d1_11) rfl (XT.ii_ge_t hc11) (by decide) (by decide) k) ?_
    show Ends p e below QQ (T87.setTop (mkF m 20 #[.val (.int p0), .val .null] []))
    refine Ends.step (fun _ k => XS.aloadN X87.here hx rfl (hb hby d1_20) rfl rfl k) ?_
    show Ends p e below QQ (T87.setTop (mkF m 21 #[.val (.int p0), .val .null] [.null]))
    exact Ends.fin (some .null) X87 hQQ (fun h => by rw [Bd.returns] at h; cases h) Bd.notSynchronized (fun _ hr => retOut X87 hx (t := (.object "com/example/nuntius/nuntius/protocol/Opcode")) Bd.returns rfl (Or.inr (Or.inr (Or.inr (Or.inr ⟨rfl, rfl, rfl⟩)))) (hb hby d1_21) hr) e87 (by decide) (by decide) ⟨rfl, N0, rfl⟩
theorem ef_2_n (m : MethodId) (x0 : Int32) : entryFrame m #[(.int x0)] 1 = mkF m 0 #[.val (.int x0)] [] := by first | (simp [entryFrame, mkF, argsToLocals, Value.category]; done) | rfl
def Q2_n (Z : State) (p0 : Int32) (h0 : Heap) (n0 : Nat) (v : Option Value) (h : Heap) (L : List Loc) : Prop := (v = some .null) ∧ (Fr n0 L) ∧ (h = h0)
set_option maxRecDepth 65536 in
set_option maxHeartbeats 40000000 in
theorem rm2_n (l : Launch) (Z : State) (a0 : Array Value) (hw : ∀ d ∈ tables_1, d.before a0 Z = true) (ws : List Jvm.Cond) (p0 : Int32) (h0 : Heap) (n0 : Nat) (Z0 : n0 ≤ h0.size) (hz0 : ¬ p0 = (0 : Int32)) (hz1 : ¬ p0 = (1 : Int32)) (hz2 : ¬ p0 = (2 : Int32)) (hz3 : ¬ p0 = (3 : Int32)) (hz5 : ¬ p0 = (5 : Int32)) (hz6 : ¬ p0 = (6 : Int32)) (hz7 : ¬ p0 = (7 : Int32)) (hz8 : ¬ p0 = (8 : Int32)) (hz9 : ¬ p0 = (9 : Int32)) (hz10 : ¬ p0 = (10 : Int32)) (hz11 : ¬ p0 = (11 : Int32)) (hz12 : ¬ p0 = (12 : Int32)) (hz13 : ¬ p0 = (13 : Int32)) (hz14 : ¬ p0 = (14 : Int32)) (hz15 : ¬ p0 = (15 : Int32)) (hz16 : ¬ p0 = (16 : Int32)) :
    MetFree l (⟨"com/example/nuntius/nuntius/protocol/OpcodeOfCodePinLaw", "expected", "(I)Lcom/example/nuntius/nuntius/protocol/Opcode;"⟩ : MethodName) (head1 (Jvm.Cond.code (⟨"com/example/nuntius/nuntius/protocol/OpcodeOfCodePinLaw", "expected", "(I)Lcom/example/nuntius/nuntius/protocol/Opcode;"⟩ : MethodName) method_2_code 1 (some (.object "com/example/nuntius/nuntius/protocol/Opcode")) :: ws) ({ frames := 0, cells := 0, slots := 0, locals := 0 } : Room)) (fun a U => a = #[(.int p0)] ∧ Z.Warmed39 U.vm ∧ U.heap = h0) (fun _ _ _ _ _ => True) (fun _ U o U' => ∃ v L, o = .returned v ∧ Q2_n Z p0 h0 n0 v U'.heap L ∧ FrameEnd U o U' L ({ frames := 0, cells := 0, slots := 0, locals := 0 } : Room).cells ({ frames := 0, cells := 0, slots := 0, locals := 0 } : Room).slots) := by
  refine MetFree.of_bodySF (plainFor_of_name pn_1) hisR ?_
  intro p e s m args below meth c s₁ Bd hml0 hP hK
  obtain ⟨rfl, hZ, hh⟩ := hP
  have hx := Bd.exec
  have hby := Bd.bytes
  have hml : c.maxLocals = 1 := hml0
  have hown : s.vm.findClass "com/example/nuntius/nuntius/protocol/OpcodeOfCodePinLaw" = some m.cls := findClass_of_methodNamed Bd.named
  have hnm := (name_of_methodNamed Bd.named Bd.method).1
  have X0 : Stand p l e ({ frames := 0, cells := 0, slots := 0, locals := 0 } : Room) s m #[(.int p0)] below meth c s₁ [] 0 0 := Stand.of_body Bd
  have e0 : s₁.heap = h0 := by rw [← hh, Bd.state]; rfl
  have N0 := Fr.nil n0
  refine Ends.opn ?_
  intro QQ hQQ
  refine Ends.step (S' := s₁.setTop (mkF m 0 #[.val (.int p0)] [])) (fun t k => castTop (ef_2_n m p0) k) ?_
  show Ends p e below QQ (s₁.setTop (mkF m 0 #[.val (.int p0)] []))
  refine Ends.step (fun _ k => XS.iloadN X0.here hx rfl (hb hby d2_0) rfl k) ?_
  show Ends p e below QQ (s₁.setTop (mkF m 1 #[.val (.int p0)] [(.int p0)]))
  have hc1 : ¬ (p0 = (0 : Int32)) := hz0
  refine Ends.step (fun _ k => XS.ifYes X0.here hx rfl (pc0 := 1) (pc' := 8) rfl (hb hby d2_1) rfl (XT.i0_ne_t hc1) (by decide) (by decide) k) ?_
  show Ends p e below QQ (s₁.setTop (mkF m 8 #[.val (.int p0)] []))
  refine Ends.step (fun _ k => XS.iloadN X0.here hx rfl (hb hby d2_8) rfl k) ?_
  show Ends p e below QQ (s₁.setTop (mkF m 9 #[.val (.int p0)] [(.int p0)]))
  refine Ends.step (fun _ k => XT.iconstV X0.here hx rfl (1 : Int32) (hb hby d2_9) rfl k) ?_
  show Ends p e below QQ (s₁.setTop (mkF m 10 #[.val (.int p0)] [(.int (1 : Int32)), (.int p0)]))
  have hc10 : ¬ (p0 = (1 : Int32)) := hz1
  refine Ends.step (fun _ k => XS.icmpYes X0.here hx rfl (pc0 := 10) (pc' := 17) rfl (hb hby d2_10) rfl (XT.ii_ne_t hc10) (by decide) (by decide) k) ?_
  show Ends p e below QQ (s₁.setTop (mkF m 17 #[.val (.int p0)] []))
  refine Ends.step (fun _ k => XS.iloadN X0.here hx rfl (hb hby d2_17) rfl k) ?_
  show Ends p e below QQ (s₁.setTop (mkF m 18 #[.val (.int p0)] [(.int p0)]))
  refine Ends.step (fun _ k => XT.iconstV X0.here hx rfl (2 : Int32) (hb hby d2_18) rfl k) ?_
  show Ends p e below QQ (s₁.setTop (mkF m 19 #[.val (.int p0)] [(.int (2 : Int32)), (.int p0)]))
  have hc19 : ¬ (p0 = (2 : Int32)) := hz2
  refine Ends.step (fun _ k => XS.icmpYes X0.here hx rfl (pc0 := 19) (pc' := 26) rfl (hb hby d2_19) rfl (XT.ii_ne_t hc19) (by decide) (by decide) k) ?_
  show Ends p e below QQ (s₁.setTop (mkF m 26 #[.val (.int p0)] []))
  refine Ends.step (fun _ k => XS.iloadN X0.here hx rfl (hb hby d2_26) rfl k) ?_
  show Ends p e below QQ (s₁.setTop (mkF m 27 #[.val (.int p0)] [(.int p0)]))
  refine Ends.step (fun _ k => XT.iconstV X0.here hx rfl (3 : Int32) (hb hby d2_27) rfl k) ?_
  show Ends p e below QQ (s₁.setTop (mkF m 28 #[.val (.int p0)] [(.int (3 : Int32)), (.int p0)]))
  have hc28 : ¬ (p0 = (3 : Int32)) := hz3
  refine Ends.step (fun _ k => XS.icmpYes X0.here hx rfl (pc0 := 28) (pc' := 35) rfl (hb hby d2_28) rfl (XT.ii_ne_t hc28) (by decide) (by decide) k) ?_
  show Ends p e below QQ (s₁.setTop (mkF m 35 #[.val (.int p0)] []))
  refine Ends.step (fun _ k => XS.iloadN X0.here hx rfl (hb hby d2_35) rfl k) ?_
  show Ends p e below QQ (s₁.setTop (mkF m 36 #[.val (.int p0)] [(.int p0)]))
  refine Ends.step (fun _ k => XT.iconstV X0.here hx rfl (5 : Int32) (hb hby d2_36) rfl k) ?_
  show Ends p e below QQ (s₁.setTop (mkF m 37 #[.val (.int p0)] [(.int (5 : Int32)), (.int p0)]))
  have hc37 : ¬ (p0 = (5 : Int32)) := hz5
  refine Ends.step (fun _ k => XS.icmpYes X0.here hx rfl (pc0 := 37) (pc' := 44) rfl (hb hby d2_37) rfl (XT.ii_ne_t hc37) (by decide) (by decide) k) ?_
  show Ends p e below QQ (s₁.setTop (mkF m 44 #[.val (.int p0)] []))
  refine Ends.step (fun _ k => XS.iloadN X0.here hx rfl (hb hby d2_44) rfl k) ?_
  show Ends p e below QQ (s₁.setTop (mkF m 45 #[.val (.int p0)] [(.int p0)]))
  refine Ends.step (fun _ k => XT.bipushV X0.here hx rfl (6 : Int32) (hb hby d2_45) rfl k) ?_
  show Ends p e below QQ (s₁.setTop (mkF m 47 #[.val (.int p0)] [(.int (6 : Int32)), (.int p0)]))
  have hc47 : ¬ (p0 = (6 : Int32)) := hz6
  refine Ends.step (fun _ k => XS.icmpYes X0.here hx rfl (pc0 := 47) (pc' := 54) rfl (hb hby d2_47) rfl (XT.ii_ne_t hc47) (by decide) (by decide) k) ?_
  show Ends p e below QQ (s₁.setTop (mkF m 54 #[.val (.int p0)] []))
  refine Ends.step (fun _ k => XS.iloadN X0.here hx rfl (hb hby d2_54) rfl k) ?_
  show Ends p e below QQ (s₁.setTop (mkF m 55 #[.val (.int p0)] [(.int p0)]))
  refine Ends.step (fun _ k => XT.bipushV X0.here hx rfl (7 : Int32) (hb hby d2_55) rfl k) ?_
  show Ends p e below QQ (s₁.setTop (mkF m 57 #[.val (.int p0)] [(.int (7 : Int32)), (.int p0)]))
  have hc57 : ¬ (p0 = (7 : Int32)) := hz7
  refine Ends.step (fun _ k => XS.icmpYes X0.here hx rfl (pc0 := 57) (pc' := 64) rfl (hb hby d2_57) rfl (XT.ii_ne_t hc57) (by decide) (by decide) k) ?_
  show Ends p e below QQ (s₁.setTop (mkF m 64 #[.val (.int p0)] []))
  refine Ends.step (fun _ k => XS.iloadN X0.here hx rfl (hb hby d2_64) rfl k) ?_
  show Ends p e below QQ (s₁.setTop (mkF m 65 #[.val (.int p0)] [(.int p0)]))
  refine Ends.step (fun _ k => XT.bipushV X0.here hx rfl (8 : Int32) (hb hby d2_65) rfl k) ?_
  show Ends p e below QQ (s₁.setTop (mkF m 67 #[.val (.int p0)] [(.int (8 : Int32)), (.int p0)]))
  have hc67 : ¬ (p0 = (8 : Int32)) := hz8
  refine Ends.step (fun _ k => XS.icmpYes X0.here hx rfl (pc0 := 67) (pc' := 74) rfl (hb hby d2_67) rfl (XT.ii_ne_t hc67) (by decide) (by decide) k) ?_
  show Ends p e below QQ (s₁.setTop (mkF m 74 #[.val (.int p0)] []))
  refine Ends.step (fun _ k => XS.iloadN X0.here hx rfl (hb hby d2_74) rfl k) ?_
  show Ends p e below QQ (s₁.setTop (mkF m 75 #[.val (.int p0)] [(.int p0)]))
  refine Ends.step (fun _ k => XT.bipushV X0.here hx rfl (9 : Int32) (hb hby d2_75) rfl k) ?_
  show Ends p e below QQ (s₁.setTop (mkF m 77 #[.val (.int p0)] [(.int (9 : Int32)), (.int p0)]))
  have hc77 : ¬ (p0 = (9 : Int32)) := hz9
  refine Ends.step (fun _ k => XS.icmpYes X0.here hx rfl (pc0 := 77) (pc' := 84) rfl (hb hby d2_77) rfl (XT.ii_ne_t hc77) (by decide) (by decide) k) ?_
  show Ends p e below QQ (s₁.setTop (mkF m 84 #[.val (.int p0)] []))
  refine Ends.step (fun _ k => XS.iloadN X0.here hx rfl (hb hby d2_84) rfl k) ?_
  show Ends p e below QQ (s₁.setTop (mkF m 85 #[.val (.int p0)] [(.int p0)]))
  refine Ends.step (fun _ k => XT.bipushV X0.here hx rfl (10 : Int32) (hb hby d2_85) rfl k) ?_
  show Ends p e below QQ (s₁.setTop (mkF m 87 #[.val (.int p0)] [(.int (10 : Int32)), (.int p0)]))
  have hc87 : ¬ (p0 = (10 : Int32)) := hz10
  refine Ends.step (fun _ k => XS.icmpYes X0.here hx rfl (pc0 := 87) (pc' := 94) rfl (hb hby d2_87) rfl (XT.ii_ne_t hc87) (by decide) (by decide) k) ?_
  show Ends p e below QQ (s₁.setTop (mkF m 94 #[.val (.int p0)] []))
  refine Ends.step (fun _ k => XS.iloadN X0.here hx rfl (hb hby d2_94) rfl k) ?_
  show Ends p e below QQ (s₁.setTop (mkF m 95 #[.val (.int p0)] [(.int p0)]))
  refine Ends.step (fun _ k => XT.bipushV X0.here hx rfl (11 : Int32) (hb hby d2_95) rfl k) ?_
  show Ends p e below QQ (s₁.setTop (mkF m 97 #[.val (.int p0)] [(.int (11 : Int32)), (.int p0)]))
  have hc97 : ¬ (p0 = (11 : Int32)) := hz11
  refine Ends.step (fun _ k => XS.icmpYes X0.here hx rfl (pc0 := 97) (pc' := 104) rfl (hb hby d2_97) rfl (XT.ii_ne_t hc97) (by decide) (by decide) k) ?_
  show Ends p e below QQ (s₁.setTop (mkF m 104 #[.val (.int p0)] []))
  refine Ends.step (fun _ k => XS.iloadN X0.here hx rfl (hb hby d2_104) rfl k) ?_
  show Ends p e below QQ (s₁.setTop (mkF m 105 #[.val (.int p0)] [(.int p0)]))
  refine Ends.step (fun _ k => XT.bipushV X0.here hx rfl (12 : Int32) (hb hby d2_105) rfl k) ?_
  show Ends p e below QQ (s₁.setTop (mkF m 107 #[.val (.int p0)] [(.int (12 : Int32)), (.int p0)]))
  have hc107 : ¬ (p0 = (12 : Int32)) := hz12
  refine Ends.step (fun _ k => XS.icmpYes X0.here hx rfl (pc0 := 107) (pc' := 114) rfl (hb hby d2_107) rfl (XT.ii_ne_t hc107) (by decide) (by decide) k) ?_
  show Ends p e below QQ (s₁.setTop (mkF m 114 #[.val (.int p0)] []))
  refine Ends.step (fun _ k => XS.iloadN X0.here hx rfl (hb hby d2_114) rfl k) ?_
  show Ends p e below QQ (s₁.setTop (mkF m 115 #[.val (.int p0)] [(.int p0)]))
  refine Ends.step (fun _ k => XT.bipushV X0.here hx rfl (13 : Int32) (hb hby d2_115) rfl k) ?_
  show Ends p e below QQ (s₁.setTop (mkF m 117 #[.val (.int p0)] [(.int (13 : Int32)), (.int p0)]))
  have hc117 : ¬ (p0 = (13 : Int32)) := hz13
  refine Ends.step (fun _ k => XS.icmpYes X0.here hx rfl (pc0 := 117) (pc' := 124) rfl (hb hby d2_117) rfl (XT.ii_ne_t hc117) (by decide) (by decide) k) ?_
  show Ends p e below QQ (s₁.setTop (mkF m 124 #[.val (.int p0)] []))
  refine Ends.step (fun _ k => XS.iloadN X0.here hx rfl (hb hby d2_124) rfl k) ?_
  show Ends p e below QQ (s₁.setTop (mkF m 125 #[.val (.int p0)] [(.int p0)]))
  refine Ends.step (fun _ k => XT.bipushV X0.here hx rfl (14 : Int32) (hb hby d2_125) rfl k) ?_
  show Ends p e below QQ (s₁.setTop (mkF m 127 #[.val (.int p0)] [(.int (14 : Int32)), (.int p0)]))
  have hc127 : ¬ (p0 = (14 : Int32)) := hz14
  refine Ends.step (fun _ k => XS.icmpYes X0.here hx rfl (pc0 := 127) (pc' := 134) rfl (hb hby d2_127) rfl (XT.ii_ne_t hc127) (by decide) (by decide) k) ?_
  show Ends p e below QQ (s₁.setTop (mkF m 134 #[.val (.int p0)] []))
  refine Ends.step (fun _ k => XS.iloadN X0.here hx rfl (hb hby d2_134) rfl k) ?_
  show Ends p e below QQ (s₁.setTop (mkF m 135 #[.val (.int p0)] [(.int p0)]))
  refine Ends.step (fun _ k => XT.bipushV X0.here hx rfl (15 : Int32) (hb hby d2_135) rfl k) ?_
  show Ends p e below QQ (s₁.setTop (mkF m 137 #[.val (.int p0)] [(.int (15 : Int32)), (.int p0)]))
  have hc137 : ¬ (p0 = (15 : Int32)) := hz15
  refine Ends.step (fun _ k => XS.icmpYes X0.here hx rfl (pc0 := 137) (pc' := 144) rfl (hb hby d2_137) rfl (XT.ii_ne_t hc137) (by decide) (by decide) k) ?_
  show Ends p e below QQ (s₁.setTop (mkF m 144 #[.val (.int p0)] []))
  refine Ends.step (fun _ k => XS.iloadN X0.here hx rfl (hb hby d2_144) rfl k) ?_
  show Ends p e below QQ (s₁.setTop (mkF m 145 #[.val (.int p0)] [(.int p0)]))
  refine Ends.step (fun _ k => XT.bipushV X0.here hx rfl (16 : Int32) (hb hby d2_145) rfl k) ?_
  show Ends p e below QQ (s₁.setTop (mkF m 147 #[.val (.int p0)] [(.int (16 : Int32)), (.int p0)]))
  have hc147 : ¬ (p0 = (16 : Int32)) := hz16
  refine Ends.step (fun _ k => XS.icmpYes X0.here hx rfl (pc0 := 147) (pc' := 154) rfl (hb hby d2_147) rfl (XT.ii_ne_t hc147) (by decide) (by decide) k) ?_
  show Ends p e below QQ (s₁.setTop (mkF m 154 #[.val (.int p0)] []))
  refine Ends.step (fun _ k => XS.aconstNull X0.here hx rfl (hb hby d2_154) k) ?_
  show Ends p e below QQ (s₁.setTop (mkF m 155 #[.val (.int p0)] [.null]))
  exact Ends.fin (some .null) X0 hQQ (fun h => by rw [Bd.returns] at h; cases h) Bd.notSynchronized (fun _ hr => retOut X0 hx (t := (.object "com/example/nuntius/nuntius/protocol/Opcode")) Bd.returns rfl (Or.inr (Or.inr (Or.inr (Or.inr ⟨rfl, rfl, rfl⟩)))) (hb hby d2_155) hr) e0 (by decide) (by decide) ⟨rfl, N0, rfl⟩
theorem ef_0 (m : MethodId) (x0 : Int32) (x1 : Int32) : entryFrame m #[(.int x0), (.int x1)] maxLocals = mkF m 0 #[.val (.int x0), .val (.int x1), .unset, .unset, .unset] [] := by first | (simp [entryFrame, mkF, argsToLocals, Value.category, maxLocals]; done) | rfl
def f0_v16_1 (p0 : Int32) (p1 : Int32) : Int32 := (if (p1 &&& (1 : Int32)) = (0 : Int32) then ((p0 &&& (31 : Int32)) - (2 : Int32)) else p0)
def f0 (p0 : Int32) (p1 : Int32) : Int32 := (1 : Int32)
def Q0 (Z : State) (p0 : Int32) (p1 : Int32) (a_BY_CODE : Addr) (a_ERROR : Addr) (a_AUTH_CHALLENGE : Addr) (a_SUPPORTED : Addr) (a_RESULT : Addr) (a_EVENT : Addr) (a_AUTHENTICATE : Addr) (a_EXECUTE : Addr) (a_AUTH_SUCCESS : Addr) (a_OPTIONS : Addr) (a_STARTUP : Addr) (a_PREPARE : Addr) (a_REGISTER : Addr) (a_READY : Addr) (a_QUERY : Addr) (a_AUTH_RESPONSE : Addr) (a_BATCH : Addr) (k_a_BY_CODE : ClassId) (h0 : Heap) (n0 : Nat) (v : Option Value) (h : Heap) (L : List Loc) : Prop := (v = some (.int (f0 p0 p1))) ∧ (Fr n0 L) ∧ (Keep h0 h [])
set_option maxRecDepth 65536 in
set_option maxHeartbeats 40000000 in
theorem rm0 (l : Launch) (Z : State) (a0 : Array Value) (hw : ∀ d ∈ tables_1, d.before a0 Z = true) (ws : List Jvm.Cond) (p0 : Int32) (p1 : Int32) (a_BY_CODE : Addr) (a_ERROR : Addr) (a_AUTH_CHALLENGE : Addr) (a_SUPPORTED : Addr) (a_RESULT : Addr) (a_EVENT : Addr) (a_AUTHENTICATE : Addr) (a_EXECUTE : Addr) (a_AUTH_SUCCESS : Addr) (a_OPTIONS : Addr) (a_STARTUP : Addr) (a_PREPARE : Addr) (a_REGISTER : Addr) (a_READY : Addr) (a_QUERY : Addr) (a_AUTH_RESPONSE : Addr) (a_BATCH : Addr) (k_a_BY_CODE : ClassId) (h0 : Heap) (n0 : Nat) (Z0 : n0 ≤ h0.size) (E_a_ERROR : Exa Z h0 a_ERROR "com/example/nuntius/nuntius/protocol/Opcode") (E_a_AUTH_CHALLENGE : Exa Z h0 a_AUTH_CHALLENGE "com/example/nuntius/nuntius/protocol/Opcode") (E_a_SUPPORTED : Exa Z h0 a_SUPPORTED "com/example/nuntius/nuntius/protocol/Opcode") (E_a_RESULT : Exa Z h0 a_RESULT "com/example/nuntius/nuntius/protocol/Opcode") (E_a_EVENT : Exa Z h0 a_EVENT "com/example/nuntius/nuntius/protocol/Opcode") (E_a_AUTHENTICATE : Exa Z h0 a_AUTHENTICATE "com/example/nuntius/nuntius/protocol/Opcode") (E_a_EXECUTE : Exa Z h0 a_EXECUTE "com/example/nuntius/nuntius/protocol/Opcode") (E_a_AUTH_SUCCESS : Exa Z h0 a_AUTH_SUCCESS "com/example/nuntius/nuntius/protocol/Opcode") (E_a_OPTIONS : Exa Z h0 a_OPTIONS "com/example/nuntius/nuntius/protocol/Opcode") (E_a_STARTUP : Exa Z h0 a_STARTUP "com/example/nuntius/nuntius/protocol/Opcode") (E_a_PREPARE : Exa Z h0 a_PREPARE "com/example/nuntius/nuntius/protocol/Opcode") (E_a_REGISTER : Exa Z h0 a_REGISTER "com/example/nuntius/nuntius/protocol/Opcode") (E_a_READY : Exa Z h0 a_READY "com/example/nuntius/nuntius/protocol/Opcode") (E_a_QUERY : Exa Z h0 a_QUERY "com/example/nuntius/nuntius/protocol/Opcode") (E_a_AUTH_RESPONSE : Exa Z h0 a_AUTH_RESPONSE "com/example/nuntius/nuntius/protocol/Opcode") (E_a_BATCH : Exa Z h0 a_BATCH "com/example/nuntius/nuntius/protocol/Opcode") (F_code_a_ERROR : Fld Z h0 a_ERROR "com/example/nuntius/nuntius/protocol/Opcode" "code" "I" (.int (0 : Int32))) (F_code_a_AUTH_CHALLENGE : Fld Z h0 a_AUTH_CHALLENGE "com/example/nuntius/nuntius/protocol/Opcode" "code" "I" (.int (14 : Int32))) (F_code_a_SUPPORTED : Fld Z h0 a_SUPPORTED "com/example/nuntius/nuntius/protocol/Opcode" "code" "I" (.int (6 : Int32))) (F_code_a_RESULT : Fld Z h0 a_RESULT "com/example/nuntius/nuntius/protocol/Opcode" "code" "I" (.int (8 : Int32))) (F_code_a_EVENT : Fld Z h0 a_EVENT "com/example/nuntius/nuntius/protocol/Opcode" "code" "I" (.int (12 : Int32))) (F_code_a_AUTHENTICATE : Fld Z h0 a_AUTHENTICATE "com/example/nuntius/nuntius/protocol/Opcode" "code" "I" (.int (3 : Int32))) (F_code_a_EXECUTE : Fld Z h0 a_EXECUTE "com/example/nuntius/nuntius/protocol/Opcode" "code" "I" (.int (10 : Int32))) (F_code_a_AUTH_SUCCESS : Fld Z h0 a_AUTH_SUCCESS "com/example/nuntius/nuntius/protocol/Opcode" "code" "I" (.int (16 : Int32))) (F_code_a_OPTIONS : Fld Z h0 a_OPTIONS "com/example/nuntius/nuntius/protocol/Opcode" "code" "I" (.int (5 : Int32))) (F_code_a_STARTUP : Fld Z h0 a_STARTUP "com/example/nuntius/nuntius/protocol/Opcode" "code" "I" (.int (1 : Int32))) (F_code_a_PREPARE : Fld Z h0 a_PREPARE "com/example/nuntius/nuntius/protocol/Opcode" "code" "I" (.int (9 : Int32))) (F_code_a_REGISTER : Fld Z h0 a_REGISTER "com/example/nuntius/nuntius/protocol/Opcode" "code" "I" (.int (11 : Int32))) (F_code_a_READY : Fld Z h0 a_READY "com/example/nuntius/nuntius/protocol/Opcode" "code" "I" (.int (2 : Int32))) (F_code_a_QUERY : Fld Z h0 a_QUERY "com/example/nuntius/nuntius/protocol/Opcode" "code" "I" (.int (7 : Int32))) (F_code_a_AUTH_RESPONSE : Fld Z h0 a_AUTH_RESPONSE "com/example/nuntius/nuntius/protocol/Opcode" "code" "I" (.int (15 : Int32))) (F_code_a_BATCH : Fld Z h0 a_BATCH "com/example/nuntius/nuntius/protocol/Opcode" "code" "I" (.int (13 : Int32))) (A_a_BY_CODE : Arv Z h0 a_BY_CODE k_a_BY_CODE (.object "com/example/nuntius/nuntius/protocol/Opcode") (17 : Int32) [(.ref a_ERROR), (.ref a_STARTUP), (.ref a_READY), (.ref a_AUTHENTICATE), .null, (.ref a_OPTIONS), (.ref a_SUPPORTED), (.ref a_QUERY), (.ref a_RESULT), (.ref a_PREPARE), (.ref a_EXECUTE), (.ref a_REGISTER), (.ref a_EVENT), (.ref a_BATCH), (.ref a_AUTH_CHALLENGE), (.ref a_AUTH_RESPONSE), (.ref a_AUTH_SUCCESS)] .null) (S_BY_CODE : Sta Z h0 "com/example/nuntius/nuntius/protocol/Opcode" "BY_CODE" "[Lcom/example/nuntius/nuntius/protocol/Opcode;" (.ref a_BY_CODE)) (S_ERROR : Sta Z h0 "com/example/nuntius/nuntius/protocol/Opcode" "ERROR" "Lcom/example/nuntius/nuntius/protocol/Opcode;" (.ref a_ERROR)) (S_AUTH_CHALLENGE : Sta Z h0 "com/example/nuntius/nuntius/protocol/Opcode" "AUTH_CHALLENGE" "Lcom/example/nuntius/nuntius/protocol/Opcode;" (.ref a_AUTH_CHALLENGE)) (S_SUPPORTED : Sta Z h0 "com/example/nuntius/nuntius/protocol/Opcode" "SUPPORTED" "Lcom/example/nuntius/nuntius/protocol/Opcode;" (.ref a_SUPPORTED)) (S_RESULT : Sta Z h0 "com/example/nuntius/nuntius/protocol/Opcode" "RESULT" "Lcom/example/nuntius/nuntius/protocol/Opcode;" (.ref a_RESULT)) (S_EVENT : Sta Z h0 "com/example/nuntius/nuntius/protocol/Opcode" "EVENT" "Lcom/example/nuntius/nuntius/protocol/Opcode;" (.ref a_EVENT)) (S_AUTHENTICATE : Sta Z h0 "com/example/nuntius/nuntius/protocol/Opcode" "AUTHENTICATE" "Lcom/example/nuntius/nuntius/protocol/Opcode;" (.ref a_AUTHENTICATE)) (S_EXECUTE : Sta Z h0 "com/example/nuntius/nuntius/protocol/Opcode" "EXECUTE" "Lcom/example/nuntius/nuntius/protocol/Opcode;" (.ref a_EXECUTE)) (S_AUTH_SUCCESS : Sta Z h0 "com/example/nuntius/nuntius/protocol/Opcode" "AUTH_SUCCESS" "Lcom/example/nuntius/nuntius/protocol/Opcode;" (.ref a_AUTH_SUCCESS)) (S_OPTIONS : Sta Z h0 "com/example/nuntius/nuntius/protocol/Opcode" "OPTIONS" "Lcom/example/nuntius/nuntius/protocol/Opcode;" (.ref a_OPTIONS)) (S_STARTUP : Sta Z h0 "com/example/nuntius/nuntius/protocol/Opcode" "STARTUP" "Lcom/example/nuntius/nuntius/protocol/Opcode;" (.ref a_STARTUP)) (S_PREPARE : Sta Z h0 "com/example/nuntius/nuntius/protocol/Opcode" "PREPARE" "Lcom/example/nuntius/nuntius/protocol/Opcode;" (.ref a_PREPARE)) (S_REGISTER : Sta Z h0 "com/example/nuntius/nuntius/protocol/Opcode" "REGISTER" "Lcom/example/nuntius/nuntius/protocol/Opcode;" (.ref a_REGISTER)) (S_READY : Sta Z h0 "com/example/nuntius/nuntius/protocol/Opcode" "READY" "Lcom/example/nuntius/nuntius/protocol/Opcode;" (.ref a_READY)) (S_QUERY : Sta Z h0 "com/example/nuntius/nuntius/protocol/Opcode" "QUERY" "Lcom/example/nuntius/nuntius/protocol/Opcode;" (.ref a_QUERY)) (S_AUTH_RESPONSE : Sta Z h0 "com/example/nuntius/nuntius/protocol/Opcode" "AUTH_RESPONSE" "Lcom/example/nuntius/nuntius/protocol/Opcode;" (.ref a_AUTH_RESPONSE)) (S_BATCH : Sta Z h0 "com/example/nuntius/nuntius/protocol/Opcode" "BATCH" "Lcom/example/nuntius/nuntius/protocol/Opcode;" (.ref a_BATCH)) :
    MetFree l x (head1 (Jvm.Cond.code x code maxLocals ret :: ws) room_1) (fun a U => a = #[(.int p0), (.int p1)] ∧ Z.Warmed39 U.vm ∧ U.heap = h0) (fun _ _ _ _ _ => True) (fun _ U o U' => ∃ v L, o = .returned v ∧ Q0 Z p0 p1 a_BY_CODE a_ERROR a_AUTH_CHALLENGE a_SUPPORTED a_RESULT a_EVENT a_AUTHENTICATE a_EXECUTE a_AUTH_SUCCESS a_OPTIONS a_STARTUP a_PREPARE a_REGISTER a_READY a_QUERY a_AUTH_RESPONSE a_BATCH k_a_BY_CODE h0 n0 v U'.heap L ∧ FrameEnd U o U' L room_1.cells room_1.slots) := by
  refine MetFree.of_bodySF (plainFor_of_name pn_1) hisR ?_
  intro p e s m args below meth c s₁ Bd hml0 hP hK
  obtain ⟨rfl, hZ, hh⟩ := hP
  have hx := Bd.exec
  have hby := Bd.bytes
  have hml : c.maxLocals = 5 := hml0
  have hown : s.vm.findClass "com/example/nuntius/nuntius/protocol/OpcodeOfCodePinLaw" = some m.cls := findClass_of_methodNamed Bd.named
  have hnm := (name_of_methodNamed Bd.named Bd.method).1
  have X0 : Stand p l e room_1 s m #[(.int p0), (.int p1)] below meth c s₁ [] 0 0 := Stand.of_body Bd
  have e0 : s₁.heap = h0 := by rw [← hh, Bd.state]; rfl
  have N0 := Fr.nil n0
  refine Ends.opn ?_
  intro QQ hQQ
  refine Ends.step (S' := s₁.setTop (mkF m 0 #[.val (.int p0), .val (.int p1), .unset, .unset, .unset] [])) (fun t k => castTop (ef_0 m p0 p1) k) ?_
  show Ends p e below QQ (s₁.setTop (mkF m 0 #[.val (.int p0), .val (.int p1), .unset, .unset, .unset] []))
  refine Ends.step (fun _ k => XS.iloadN X0.here hx rfl (hb hby at_0) rfl k) ?_
  show Ends p e below QQ (s₁.setTop (mkF m 1 #[.val (.int p0), .val (.int p1), .unset, .unset, .unset] [(.int p1)]))
  refine Ends.step (fun _ k => XT.iconstV X0.here hx rfl (1 : Int32) (hb hby at_1) rfl k) ?_
  show Ends p e below QQ (s₁.setTop (mkF m 2 #[.val (.int p0), .val (.int p1), .unset, .unset, .unset] [(.int (1 : Int32)), (.int p1)]))
  refine Ends.step (fun _ k => XS.iand X0.here hx rfl (hb hby at_2) rfl k) ?_
  show Ends p e below QQ (s₁.setTop (mkF m 3 #[.val (.int p0), .val (.int p1), .unset, .unset, .unset] [(.int (p1 &&& (1 : Int32)))]))
  have J16_89 : (∀ (v16_1 : Int32) (hv16_1 : v16_1 = (if (p1 &&& (1 : Int32)) = (0 : Int32) then ((p0 &&& (31 : Int32)) - (2 : Int32)) else p0)), Ends p e below QQ (s₁.setTop (mkF m 16 #[.val (.int p0), .val (.int p1), .unset, .unset, .unset] [(.int v16_1)]))) → Ends p e below QQ (s₁.setTop (mkF m 3 #[.val (.int p0), .val (.int p1), .unset, .unset, .unset] [(.int (p1 &&& (1 : Int32)))])) := by
    intro hJ
    by_cases hc3_90 : (p1 &&& (1 : Int32)) = (0 : Int32)
    · refine Ends.step (fun _ k => XS.ifYes X0.here hx rfl (pc0 := 3) (pc' := 10) rfl (hb hby at_3) rfl (XT.i0_eq_t hc3_90) (by decide) (by decide) k) ?_
      show Ends p e below QQ (s₁.setTop (mkF m 10 #[.val (.int p0), .val (.int p1), .unset, .unset, .unset] []))
      refine Ends.step (fun _ k => XS.iloadN X0.here hx rfl (hb hby at_10) rfl k) ?_
      show Ends p e below QQ (s₁.setTop (mkF m 11 #[.val (.int p0), .val (.int p1), .unset, .unset, .unset] [(.int p0)]))
      refine Ends.step (fun _ k => XT.bipushV X0.here hx rfl (31 : Int32) (hb hby at_11) rfl k) ?_
      show Ends p e below QQ (s₁.setTop (mkF m 13 #[.val (.int p0), .val (.int p1), .unset, .unset, .unset] [(.int (31 : Int32)), (.int p0)]))
      refine Ends.step (fun _ k => XS.iand X0.here hx rfl (hb hby at_13) rfl k) ?_
      show Ends p e below QQ (s₁.setTop (mkF m 14 #[.val (.int p0), .val (.int p1), .unset, .unset, .unset] [(.int (p0 &&& (31 : Int32)))]))
      refine Ends.step (fun _ k => XT.iconstV X0.here hx rfl (2 : Int32) (hb hby at_14) rfl k) ?_
      show Ends p e below QQ (s₁.setTop (mkF m 15 #[.val (.int p0), .val (.int p1), .unset, .unset, .unset] [(.int (2 : Int32)), (.int (p0 &&& (31 : Int32)))]))
      refine Ends.step (fun _ k => XS.isub X0.here hx rfl (hb hby at_15) rfl k) ?_
      exact hJ _ (by simp only [if_pos hc3_90])
    · refine Ends.step (fun _ k => XS.ifNo X0.here hx rfl (hb hby at_3) rfl (XT.i0_eq_f hc3_90) k) ?_
      show Ends p e below QQ (s₁.setTop (mkF m 6 #[.val (.int p0), .val (.int p1), .unset, .unset, .unset] []))
      refine Ends.step (fun _ k => XS.iloadN X0.here hx rfl (hb hby at_6) rfl k) ?_
      show Ends p e below QQ (s₁.setTop (mkF m 7 #[.val (.int p0), .val (.int p1), .unset, .unset, .unset] [(.int p0)]))
      refine Ends.step (fun _ k => XS.goto X0.here hx rfl (pc0 := 7) (pc' := 16) rfl (hb hby at_7) (by decide) (by decide) k) ?_
      exact hJ _ (by simp only [if_neg hc3_90])
  refine J16_89 fun v16_1 hv16_1 => ?_
  have dv16_1 : f0_v16_1 p0 p1 = v16_1 := by
    simp only [f0_v16_1]
    exact hv16_1.symm
  show Ends p e below QQ (s₁.setTop (mkF m 16 #[.val (.int p0), .val (.int p1), .unset, .unset, .unset] [(.int v16_1)]))
  refine Ends.step (fun _ k => XS.istoreN X0.here hx rfl (hb hby at_16) rfl (l' := #[.val (.int p0), .val (.int p1), .val (.int v16_1), .unset, .unset]) rfl k) ?_
  by_cases hs17_91 : v16_1 = (0 : Int32)
  · show Ends p e below QQ (s₁.setTop (mkF m 17 #[.val (.int p0), .val (.int p1), .val (.int v16_1), .unset, .unset] []))
    rw [hs17_91]
    show Ends p e below QQ (s₁.setTop (mkF m 17 #[.val (.int p0), .val (.int p1), .val (.int (0 : Int32)), .unset, .unset] []))
    refine Ends.step (fun _ k => XS.iloadN X0.here hx rfl (hb hby at_17) rfl k) ?_
    show Ends p e below QQ (s₁.setTop (mkF m 18 #[.val (.int p0), .val (.int p1), .val (.int (0 : Int32)), .unset, .unset] [(.int (0 : Int32))]))
    obtain ⟨_, _, ⟨T92, L92, k92, n92⟩, -, X92, ⟨Lc92, hQ92, l92, y92, z92⟩, st92⟩ := Jvm.LawKit.callS X0 hx (y := (⟨"com/example/nuntius/nuntius/protocol/Opcode", "ofCode", "(I)Lcom/example/nuntius/nuntius/protocol/Opcode;"⟩ : MethodName)) hown (mvT hZ (hw _ (List.mem_of_getElem? (i := 0) rfl))) (mvT hZ (hw _ (List.mem_of_getElem? (i := 1) rfl))) (mvT hZ (hw _ (List.mem_of_getElem? (i := 2) rfl))) (mvT hZ (hw _ (List.mem_of_getElem? (i := 3) rfl))) (by decide) (backOf (W := 0) (rm1_0 l Z a0 hw [] a_BY_CODE a_ERROR a_AUTH_CHALLENGE a_SUPPORTED a_RESULT a_EVENT a_AUTHENTICATE a_EXECUTE a_AUTH_SUCCESS a_OPTIONS a_STARTUP a_PREPARE a_REGISTER a_READY a_QUERY a_AUTH_RESPONSE a_BATCH k_a_BY_CODE h0 n0 (Nat.le_trans Z0 (Keep.refl h0 []).1) A_a_BY_CODE S_BY_CODE) hZ (hw _ (List.mem_of_getElem? (i := 3) rfl)) (hw _ (List.mem_of_getElem? (i := 2) rfl)) (by decide) (by decide)) (g := (mkF m 18 #[.val (.int p0), .val (.int p1), .val (.int (0 : Int32)), .unset, .unset] [(.int (0 : Int32))])) rfl (by rw [hml]; rfl) (argsL := [(.int (0 : Int32))]) (rest := []) (lenOf pd_0 rfl) rfl (by show 2 * 0 + _ ≤ _; exact Nat.le_of_eq rfl) (hb hby at_18) (fun _ _ => ⟨rfl, e0, (by decide : 0 + 0 ≤ _), (by decide : 0 + 0 ≤ _)⟩)
    dsimp only [Pt.U, Pt.locs, Pt.cells, Pt.slots] at X92 l92 y92 z92 st92 hQ92
    subst l92 y92 z92
    obtain ⟨rfl, Nq92, hh92⟩ := hQ92
    have N92 := Fr.app N0 Nq92
    refine Ends.step st92 ?_
    show Ends p e below QQ (T92.setTop (mkF m 21 #[.val (.int p0), .val (.int p1), .val (.int (0 : Int32)), .unset, .unset] [(.ref a_ERROR)]))
    refine Ends.step (fun _ k => XS.astoreN X92.here hx rfl (hb hby at_21) rfl rfl (l' := #[.val (.int p0), .val (.int p1), .val (.int (0 : Int32)), .val (.ref a_ERROR), .unset]) rfl k) ?_
    show Ends p e below QQ (T92.setTop (mkF m 22 #[.val (.int p0), .val (.int p1), .val (.int (0 : Int32)), .val (.ref a_ERROR), .unset] []))
    refine Ends.step (fun _ k => XS.iloadN X92.here hx rfl (hb hby at_22) rfl k) ?_
    show Ends p e below QQ (T92.setTop (mkF m 23 #[.val (.int p0), .val (.int p1), .val (.int (0 : Int32)), .val (.ref a_ERROR), .unset] [(.int (0 : Int32))]))
    obtain ⟨_, _, ⟨T93, L93, k93, n93⟩, -, X93, ⟨Lc93, hQ93, l93, y93, z93⟩, st93⟩ := Jvm.LawKit.callS X92 hx (y := (⟨"com/example/nuntius/nuntius/protocol/OpcodeOfCodePinLaw", "expected", "(I)Lcom/example/nuntius/nuntius/protocol/Opcode;"⟩ : MethodName)) hown (mvT hZ (hw _ (List.mem_of_getElem? (i := 7) rfl))) (mvT hZ (hw _ (List.mem_of_getElem? (i := 8) rfl))) (mvT hZ (hw _ (List.mem_of_getElem? (i := 9) rfl))) (mvT hZ (hw _ (List.mem_of_getElem? (i := 10) rfl))) (by decide) (backOf (W := 0) (rm2_0 l Z a0 hw [] a_ERROR h0 n0 (Nat.le_trans Z0 (Keep.refl h0 []).1) S_ERROR) hZ (hw _ (List.mem_of_getElem? (i := 10) rfl)) (hw _ (List.mem_of_getElem? (i := 9) rfl)) (by decide) (by decide)) (g := (mkF m 23 #[.val (.int p0), .val (.int p1), .val (.int (0 : Int32)), .val (.ref a_ERROR), .unset] [(.int (0 : Int32))])) rfl (by rw [hml]; rfl) (argsL := [(.int (0 : Int32))]) (rest := []) (lenOf pd_0 rfl) rfl (by show 2 * 0 + _ ≤ _; exact Nat.le_of_eq rfl) (hb hby at_23) (fun _ _ => ⟨rfl, hh92, (by decide : 0 + 0 ≤ _), (by decide : 0 + 0 ≤ _)⟩)
    dsimp only [Pt.U, Pt.locs, Pt.cells, Pt.slots] at X93 l93 y93 z93 st93 hQ93
    subst l93 y93 z93
    obtain ⟨rfl, Nq93, hh93⟩ := hQ93
    have N93 := Fr.app N92 Nq93
    refine Ends.step st93 ?_
    show Ends p e below QQ (T93.setTop (mkF m 26 #[.val (.int p0), .val (.int p1), .val (.int (0 : Int32)), .val (.ref a_ERROR), .unset] [(.ref a_ERROR)]))
    refine Ends.step (fun _ k => XS.astore X93.here hx rfl (hb hby at_26) rfl rfl (l' := #[.val (.int p0), .val (.int p1), .val (.int (0 : Int32)), .val (.ref a_ERROR), .val (.ref a_ERROR)]) rfl k) ?_
    show Ends p e below QQ (T93.setTop (mkF m 28 #[.val (.int p0), .val (.int p1), .val (.int (0 : Int32)), .val (.ref a_ERROR), .val (.ref a_ERROR)] []))
    refine Ends.step (fun _ k => XS.aloadN X93.here hx rfl (hb hby at_28) rfl rfl k) ?_
    show Ends p e below QQ (T93.setTop (mkF m 29 #[.val (.int p0), .val (.int p1), .val (.int (0 : Int32)), .val (.ref a_ERROR), .val (.ref a_ERROR)] [(.ref a_ERROR)]))
    refine Ends.step (fun _ k => XS.aload X93.here hx rfl (hb hby at_29) rfl rfl k) ?_
    show Ends p e below QQ (T93.setTop (mkF m 31 #[.val (.int p0), .val (.int p1), .val (.int (0 : Int32)), .val (.ref a_ERROR), .val (.ref a_ERROR)] [(.ref a_ERROR), (.ref a_ERROR)]))
    refine Ends.step (fun _ k => Jvm.RoadKit.acmp (g := (mkF m 31 #[.val (.int p0), .val (.int p1), .val (.int (0 : Int32)), .val (.ref a_ERROR), .val (.ref a_ERROR)] [(.ref a_ERROR), (.ref a_ERROR)])) X93 hx rfl rfl rfl (pc0 := 31) (pc' := 36) (same := true) rfl (hb hby at_31) rfl (decide_eq_true rfl) (by decide) (by decide) k) ?_
    show Ends p e below QQ (T93.setTop (mkF m 36 #[.val (.int p0), .val (.int p1), .val (.int (0 : Int32)), .val (.ref a_ERROR), .val (.ref a_ERROR)] []))
    refine Ends.step (fun _ k => XS.aloadN X93.here hx rfl (hb hby at_36) rfl rfl k) ?_
    show Ends p e below QQ (T93.setTop (mkF m 37 #[.val (.int p0), .val (.int p1), .val (.int (0 : Int32)), .val (.ref a_ERROR), .val (.ref a_ERROR)] [(.ref a_ERROR)]))
    refine Ends.step (fun _ k => XS.ifnullNo X93.here hx rfl (hb hby at_37) rfl k) ?_
    show Ends p e below QQ (T93.setTop (mkF m 40 #[.val (.int p0), .val (.int p1), .val (.int (0 : Int32)), .val (.ref a_ERROR), .val (.ref a_ERROR)] []))
    refine Ends.step (fun _ k => XS.aloadN X93.here hx rfl (hb hby at_40) rfl rfl k) ?_
    show Ends p e below QQ (T93.setTop (mkF m 41 #[.val (.int p0), .val (.int p1), .val (.int (0 : Int32)), .val (.ref a_ERROR), .val (.ref a_ERROR)] [(.ref a_ERROR)]))
    obtain ⟨cq94, kq94, q94a, q94b, q94c⟩ := isOf hZ hh93 E_a_ERROR
    obtain ⟨_, _, ⟨T94, L94, k94, n94⟩, -, X94, ⟨Lc94, hQ94, l94, y94, z94⟩, st94⟩ := X93.virtualBack hx (y := (⟨"com/example/nuntius/nuntius/protocol/Opcode", "code", "()I"⟩ : MethodName)) (z := (⟨"com/example/nuntius/nuntius/protocol/Opcode", "code", "()I"⟩ : MethodName)) hown (mvT hZ (hw _ (List.mem_of_getElem? (i := 12) rfl))) (mvT hZ (hw _ (List.mem_of_getElem? (i := 13) rfl))) (notFace_of_selects (args := #[]) (mvT hZ (hw _ (List.mem_of_getElem? (i := 15) rfl)))) (mvT hZ (hw _ (List.mem_of_getElem? (i := 15) rfl))) (mvT hZ (hw _ (List.mem_of_getElem? (i := 14) rfl))) (by decide) (backOf (W := 0) (rm3 l Z a0 hw [] a_ERROR (0 : Int32) h0 n0 (Nat.le_trans Z0 (Keep.refl h0 []).1) F_code_a_ERROR) hZ (hw _ (List.mem_of_getElem? (i := 16) rfl)) (hw _ (List.mem_of_getElem? (i := 2) rfl)) (by decide) (by decide)) q94a q94c (g := (mkF m 41 #[.val (.int p0), .val (.int p1), .val (.int (0 : Int32)), .val (.ref a_ERROR), .val (.ref a_ERROR)] [(.ref a_ERROR)])) rfl (by rw [hml]; rfl) (Steps.refl _) (argsL := []) (rest := []) (lenOf pd_1 rfl) rfl (by show 2 * 0 + _ ≤ _; exact Nat.le_of_eq rfl) (hb hby at_41) (fun _ _ => ⟨rfl, hh93, (by decide : 0 + 0 ≤ _), (by decide : 0 + 0 ≤ _)⟩)
    dsimp only [Pt.U, Pt.locs, Pt.cells, Pt.slots] at X94 l94 y94 z94 st94 hQ94
    subst l94 y94 z94
    obtain ⟨rfl, Nq94, hh94⟩ := hQ94
    have N94 := Fr.app N93 Nq94
    refine Ends.step (fun _ k => st94.trans k) ?_
    show Ends p e below QQ (T94.setTop (mkF m 44 #[.val (.int p0), .val (.int p1), .val (.int (0 : Int32)), .val (.ref a_ERROR), .val (.ref a_ERROR)] [(.int (0 : Int32))]))
    refine Ends.step (fun _ k => XS.iloadN X94.here hx rfl (hb hby at_44) rfl k) ?_
    show Ends p e below QQ (T94.setTop (mkF m 45 #[.val (.int p0), .val (.int p1), .val (.int (0 : Int32)), .val (.ref a_ERROR), .val (.ref a_ERROR)] [(.int (0 : Int32)), (.int (0 : Int32))]))
    refine Ends.step (fun _ k => XS.icmpYes X94.here hx rfl (pc0 := 45) (pc' := 50) rfl (hb hby at_45) rfl (XT.ii_eq_t (by decide)) (by decide) (by decide) k) ?_
    show Ends p e below QQ (T94.setTop (mkF m 50 #[.val (.int p0), .val (.int p1), .val (.int (0 : Int32)), .val (.ref a_ERROR), .val (.ref a_ERROR)] []))
    refine Ends.step (fun _ k => XT.iconstV X94.here hx rfl (1 : Int32) (hb hby at_50) rfl k) ?_
    show Ends p e below QQ (T94.setTop (mkF m 51 #[.val (.int p0), .val (.int p1), .val (.int (0 : Int32)), .val (.ref a_ERROR), .val (.ref a_ERROR)] [(.int (1 : Int32))]))
    exact Ends.fin (some (.int (1 : Int32))) X94 hQQ (fun h => by rw [Bd.returns] at h; cases h) Bd.notSynchronized (fun _ hr => retOut X94 hx (t := .boolean) Bd.returns rfl (Or.inl ⟨rfl, (by simp), _, rfl⟩) (hb hby at_51) hr) hh94 (by decide) (by decide) ⟨(by simp only [f0, dv16_1, if_pos hs17_91]), N94, (Keep.refl h0 [])⟩
  · show Ends p e below QQ (s₁.setTop (mkF m 17 #[.val (.int p0), .val (.int p1), .val (.int v16_1), .unset, .unset] []))
    by_cases hs17_95 : v16_1 = (1 : Int32)
    · show Ends p e below QQ (s₁.setTop (mkF m 17 #[.val (.int p0), .val (.int p1), .val (.int v16_1), .unset, .unset] []))
      rw [hs17_95]
      show Ends p e below QQ (s₁.setTop (mkF m 17 #[.val (.int p0), .val (.int p1), .val (.int (1 : Int32)), .unset, .unset] []))
      refine Ends.step (fun _ k => XS.iloadN X0.here hx rfl (hb hby at_17) rfl k) ?_
      show Ends p e below QQ (s₁.setTop (mkF m 18 #[.val (.int p0), .val (.int p1), .val (.int (1 : Int32)), .unset, .unset] [(.int (1 : Int32))]))
      obtain ⟨_, _, ⟨T96, L96, k96, n96⟩, -, X96, ⟨Lc96, hQ96, l96, y96, z96⟩, st96⟩ := Jvm.LawKit.callS X0 hx (y := (⟨"com/example/nuntius/nuntius/protocol/Opcode", "ofCode", "(I)Lcom/example/nuntius/nuntius/protocol/Opcode;"⟩ : MethodName)) hown (mvT hZ (hw _ (List.mem_of_getElem? (i := 0) rfl))) (mvT hZ (hw _ (List.mem_of_getElem? (i := 1) rfl))) (mvT hZ (hw _ (List.mem_of_getElem? (i := 2) rfl))) (mvT hZ (hw _ (List.mem_of_getElem? (i := 3) rfl))) (by decide) (backOf (W := 0) (rm1_1 l Z a0 hw [] a_BY_CODE a_ERROR a_AUTH_CHALLENGE a_SUPPORTED a_RESULT a_EVENT a_AUTHENTICATE a_EXECUTE a_AUTH_SUCCESS a_OPTIONS a_STARTUP a_PREPARE a_REGISTER a_READY a_QUERY a_AUTH_RESPONSE a_BATCH k_a_BY_CODE h0 n0 (Nat.le_trans Z0 (Keep.refl h0 []).1) A_a_BY_CODE S_BY_CODE) hZ (hw _ (List.mem_of_getElem? (i := 3) rfl)) (hw _ (List.mem_of_getElem? (i := 2) rfl)) (by decide) (by decide)) (g := (mkF m 18 #[.val (.int p0), .val (.int p1), .val (.int (1 : Int32)), .unset, .unset] [(.int (1 : Int32))])) rfl (by rw [hml]; rfl) (argsL := [(.int (1 : Int32))]) (rest := []) (lenOf pd_0 rfl) rfl (by show 2 * 0 + _ ≤ _; exact Nat.le_of_eq rfl) (hb hby at_18) (fun _ _ => ⟨rfl, e0, (by decide : 0 + 0 ≤ _), (by decide : 0 + 0 ≤ _)⟩)
      dsimp only [Pt.U, Pt.locs, Pt.cells, Pt.slots] at X96 l96 y96 z96 st96 hQ96
      subst l96 y96 z96
      obtain ⟨rfl, Nq96, hh96⟩ := hQ96
      have N96 := Fr.app N0 Nq96
      refine Ends.step st96 ?_
      show Ends p e below QQ (T96.setTop (mkF m 21 #[.val (.int p0), .val (.int p1), .val (.int (1 : Int32)), .unset, .unset] [(.ref a_STARTUP)]))
      refine Ends.step (fun _ k => XS.astoreN X96.here hx rfl (hb hby at_21) rfl rfl (l' := #[.val (.int p0), .val (.int p1), .val (.int (1 : Int32)), .val (.ref a_STARTUP), .unset]) rfl k) ?_
      show Ends p e below QQ (T96.setTop (mkF m 22 #[.val (.int p0), .val (.int p1), .val (.int (1 : Int32)), .val (.ref a_STARTUP), .unset] []))
      refine Ends.step (fun _ k => XS.iloadN X96.here hx rfl (hb hby at_22) rfl k) ?_
      show Ends p e below QQ (T96.setTop (mkF m 23 #[.val (.int p0), .val (.int p1), .val (.int (1 : Int32)), .val (.ref a_STARTUP), .unset] [(.int (1 : Int32))]))
      obtain ⟨_, _, ⟨T97, L97, k97, n97⟩, -, X97, ⟨Lc97, hQ97, l97, y97, z97⟩, st97⟩ := Jvm.LawKit.callS X96 hx (y := (⟨"com/example/nuntius/nuntius/protocol/OpcodeOfCodePinLaw", "expected", "(I)Lcom/example/nuntius/nuntius/protocol/Opcode;"⟩ : MethodName)) hown (mvT hZ (hw _ (List.mem_of_getElem? (i := 7) rfl))) (mvT hZ (hw _ (List.mem_of_getElem? (i := 8) rfl))) (mvT hZ (hw _ (List.mem_of_getElem? (i := 9) rfl))) (mvT hZ (hw _ (List.mem_of_getElem? (i := 10) rfl))) (by decide) (backOf (W := 0) (rm2_1 l Z a0 hw [] a_STARTUP h0 n0 (Nat.le_trans Z0 (Keep.refl h0 []).1) S_STARTUP) hZ (hw _ (List.mem_of_getElem? (i := 10) rfl)) (hw _ (List.mem_of_getElem? (i := 9) rfl)) (by decide) (by decide)) (g := (mkF m 23 #[.val (.int p0), .val (.int p1), .val (.int (1 : Int32)), .val (.ref a_STARTUP), .unset] [(.int (1 : Int32))])) rfl (by rw [hml]; rfl) (argsL := [(.int (1 : Int32))]) (rest := []) (lenOf pd_0 rfl) rfl (by show 2 * 0 + _ ≤ _; exact Nat.le_of_eq rfl) (hb hby at_23) (fun _ _ => ⟨rfl, hh96, (by decide : 0 + 0 ≤ _), (by decide : 0 + 0 ≤ _)⟩)
      dsimp only [Pt.U, Pt.locs, Pt.cells, Pt.slots] at X97 l97 y97 z97 st97 hQ97
      subst l97 y97 z97
      obtain ⟨rfl, Nq97, hh97⟩ := hQ97
      have N97 := Fr.app N96 Nq97
      refine Ends.step st97 ?_
      show Ends p e below QQ (T97.setTop (mkF m 26 #[.val (.int p0), .val (.int p1), .val (.int (1 : Int32)), .val (.ref a_STARTUP), .unset] [(.ref a_STARTUP)]))
      refine Ends.step (fun _ k => XS.astore X97.here hx rfl (hb hby at_26) rfl rfl (l' := #[.val (.int p0), .val (.int p1), .val (.int (1 : Int32)), .val (.ref a_STARTUP), .val (.ref a_STARTUP)]) rfl k) ?_
      show Ends p e below QQ (T97.setTop (mkF m 28 #[.val (.int p0), .val (.int p1), .val (.int (1 : Int32)), .val (.ref a_STARTUP), .val (.ref a_STARTUP)] []))
      refine Ends.step (fun _ k => XS.aloadN X97.here hx rfl (hb hby at_28) rfl rfl k) ?_
      show Ends p e below QQ (T97.setTop (mkF m 29 #[.val (.int p0), .val (.int p1), .val (.int (1 : Int32)), .val (.ref a_STARTUP), .val (.ref a_STARTUP)] [(.ref a_STARTUP)]))
      refine Ends.step (fun _ k => XS.aload X97.here hx rfl (hb hby at_29) rfl rfl k) ?_
      show Ends p e below QQ (T97.setTop (mkF m 31 #[.val (.int p0), .val (.int p1), .val (.int (1 : Int32)), .val (.ref a_STARTUP), .val (.ref a_STARTUP)] [(.ref a_STARTUP), (.ref a_STARTUP)]))
      refine Ends.step (fun _ k => Jvm.RoadKit.acmp (g := (mkF m 31 #[.val (.int p0), .val (.int p1), .val (.int (1 : Int32)), .val (.ref a_STARTUP), .val (.ref a_STARTUP)] [(.ref a_STARTUP), (.ref a_STARTUP)])) X97 hx rfl rfl rfl (pc0 := 31) (pc' := 36) (same := true) rfl (hb hby at_31) rfl (decide_eq_true rfl) (by decide) (by decide) k) ?_
      show Ends p e below QQ (T97.setTop (mkF m 36 #[.val (.int p0), .val (.int p1), .val (.int (1 : Int32)), .val (.ref a_STARTUP), .val (.ref a_STARTUP)] []))
      refine Ends.step (fun _ k => XS.aloadN X97.here hx rfl (hb hby at_36) rfl rfl k) ?_
      show Ends p e below QQ (T97.setTop (mkF m 37 #[.val (.int p0), .val (.int p1), .val (.int (1 : Int32)), .val (.ref a_STARTUP), .val (.ref a_STARTUP)] [(.ref a_STARTUP)]))
      refine Ends.step (fun _ k => XS.ifnullNo X97.here hx rfl (hb hby at_37) rfl k) ?_
      show Ends p e below QQ (T97.setTop (mkF m 40 #[.val (.int p0), .val (.int p1), .val (.int (1 : Int32)), .val (.ref a_STARTUP), .val (.ref a_STARTUP)] []))
      refine Ends.step (fun _ k => XS.aloadN X97.here hx rfl (hb hby at_40) rfl rfl k) ?_
      show Ends p e below QQ (T97.setTop (mkF m 41 #[.val (.int p0), .val (.int p1), .val (.int (1 : Int32)), .val (.ref a_STARTUP), .val (.ref a_STARTUP)] [(.ref a_STARTUP)]))
      obtain ⟨cq98, kq98, q98a, q98b, q98c⟩ := isOf hZ hh97 E_a_STARTUP
      obtain ⟨_, _, ⟨T98, L98, k98, n98⟩, -, X98, ⟨Lc98, hQ98, l98, y98, z98⟩, st98⟩ := X97.virtualBack hx (y := (⟨"com/example/nuntius/nuntius/protocol/Opcode", "code", "()I"⟩ : MethodName)) (z := (⟨"com/example/nuntius/nuntius/protocol/Opcode", "code", "()I"⟩ : MethodName)) hown (mvT hZ (hw _ (List.mem_of_getElem? (i := 12) rfl))) (mvT hZ (hw _ (List.mem_of_getElem? (i := 13) rfl))) (notFace_of_selects (args := #[]) (mvT hZ (hw _ (List.mem_of_getElem? (i := 15) rfl)))) (mvT hZ (hw _ (List.mem_of_getElem? (i := 15) rfl))) (mvT hZ (hw _ (List.mem_of_getElem? (i := 14) rfl))) (by decide) (backOf (W := 0) (rm3 l Z a0 hw [] a_STARTUP (1 : Int32) h0 n0 (Nat.le_trans Z0 (Keep.refl h0 []).1) F_code_a_STARTUP) hZ (hw _ (List.mem_of_getElem? (i := 16) rfl)) (hw _ (List.mem_of_getElem? (i := 2) rfl)) (by decide) (by decide)) q98a q98c (g := (mkF m 41 #[.val (.int p0), .val (.int p1), .val (.int (1 : Int32)), .val (.ref a_STARTUP), .val (.ref a_STARTUP)] [(.ref a_STARTUP)])) rfl (by rw [hml]; rfl) (Steps.refl _) (argsL := []) (rest := []) (lenOf pd_1 rfl) rfl (by show 2 * 0 + _ ≤ _; exact Nat.le_of_eq rfl) (hb hby at_41) (fun _ _ => ⟨rfl, hh97, (by decide : 0 + 0 ≤ _), (by decide : 0 + 0 ≤ _)⟩)
      dsimp only [Pt.U, Pt.locs, Pt.cells, Pt.slots] at X98 l98 y98 z98 st98 hQ98
      subst l98 y98 z98
      obtain ⟨rfl, Nq98, hh98⟩ := hQ98
      have N98 := Fr.app N97 Nq98
      refine Ends.step (fun _ k => st98.trans k) ?_
      show Ends p e below QQ (T98.setTop (mkF m 44 #[.val (.int p0), .val (.int p1), .val (.int (1 : Int32)), .val (.ref a_STARTUP), .val (.ref a_STARTUP)] [(.int (1 : Int32))]))
      refine Ends.step (fun _ k => XS.iloadN X98.here hx rfl (hb hby at_44) rfl k) ?_
      show Ends p e below QQ (T98.setTop (mkF m 45 #[.val (.int p0), .val (.int p1), .val (.int (1 : Int32)), .val (.ref a_STARTUP), .val (.ref a_STARTUP)] [(.int (1 : Int32)), (.int (1 : Int32))]))
      refine Ends.step (fun _ k => XS.icmpYes X98.here hx rfl (pc0 := 45) (pc' := 50) rfl (hb hby at_45) rfl (XT.ii_eq_t (by decide)) (by decide) (by decide) k) ?_
      show Ends p e below QQ (T98.setTop (mkF m 50 #[.val (.int p0), .val (.int p1), .val (.int (1 : Int32)), .val (.ref a_STARTUP), .val (.ref a_STARTUP)] []))
      refine Ends.step (fun _ k => XT.iconstV X98.here hx rfl (1 : Int32) (hb hby at_50) rfl k) ?_
      show Ends p e below QQ (T98.setTop (mkF m 51 #[.val (.int p0), .val (.int p1), .val (.int (1 : Int32)), .val (.ref a_STARTUP), .val (.ref a_STARTUP)] [(.int (1 : Int32))]))
      exact Ends.fin (some (.int (1 : Int32))) X98 hQQ (fun h => by rw [Bd.returns] at h; cases h) Bd.notSynchronized (fun _ hr => retOut X98 hx (t := .boolean) Bd.returns rfl (Or.inl ⟨rfl, (by simp), _, rfl⟩) (hb hby at_51) hr) hh98 (by decide) (by decide) ⟨(by simp only [f0, dv16_1, if_neg hs17_91, if_pos hs17_95]), N98, (Keep.refl h0 [])⟩
    · show Ends p e below QQ (s₁.setTop (mkF m 17 #[.val (.int p0), .val (.int p1), .val (.int v16_1), .unset, .unset] []))
      by_cases hs17_99 : v16_1 = (2 : Int32)
      · show Ends p e below QQ (s₁.setTop (mkF m 17 #[.val (.int p0), .val (.int p1), .val (.int v16_1), .unset, .unset] []))
        rw [hs17_99]
        show Ends p e below QQ (s₁.setTop (mkF m 17 #[.val (.int p0), .val (.int p1), .val (.int (2 : Int32)), .unset, .unset] []))
        refine Ends.step (fun _ k => XS.iloadN X0.here hx rfl (hb hby at_17) rfl k) ?_
        show Ends p e below QQ (s₁.setTop (mkF m 18 #[.val (.int p0), .val (.int p1), .val (.int (2 : Int32)), .unset, .unset] [(.int (2 : Int32))]))
        obtain ⟨_, _, ⟨T100, L100, k100, n100⟩, -, X100, ⟨Lc100, hQ100, l100, y100, z100⟩, st100⟩ := Jvm.LawKit.callS X0 hx (y := (⟨"com/example/nuntius/nuntius/protocol/Opcode", "ofCode", "(I)Lcom/example/nuntius/nuntius/protocol/Opcode;"⟩ : MethodName)) hown (mvT hZ (hw _ (List.mem_of_getElem? (i := 0) rfl))) (mvT hZ (hw _ (List.mem_of_getElem? (i := 1) rfl))) (mvT hZ (hw _ (List.mem_of_getElem? (i := 2) rfl))) (mvT hZ (hw _ (List.mem_of_getElem? (i := 3) rfl))) (by decide) (backOf (W := 0) (rm1_2 l Z a0 hw [] a_BY_CODE a_ERROR a_AUTH_CHALLENGE a_SUPPORTED a_RESULT a_EVENT a_AUTHENTICATE a_EXECUTE a_AUTH_SUCCESS a_OPTIONS a_STARTUP a_PREPARE a_REGISTER a_READY a_QUERY a_AUTH_RESPONSE a_BATCH k_a_BY_CODE h0 n0 (Nat.le_trans Z0 (Keep.refl h0 []).1) A_a_BY_CODE S_BY_CODE) hZ (hw _ (List.mem_of_getElem? (i := 3) rfl)) (hw _ (List.mem_of_getElem? (i := 2) rfl)) (by decide) (by decide)) (g := (mkF m 18 #[.val (.int p0), .val (.int p1), .val (.int (2 : Int32)), .unset, .unset] [(.int (2 : Int32))])) rfl (by rw [hml]; rfl) (argsL := [(.int (2 : Int32))]) (rest := []) (lenOf pd_0 rfl) rfl (by show 2 * 0 + _ ≤ _; exact Nat.le_of_eq rfl) (hb hby at_18) (fun _ _ => ⟨rfl, e0, (by decide : 0 + 0 ≤ _), (by decide : 0 + 0 ≤ _)⟩)
        dsimp only [Pt.U, Pt.locs, Pt.cells, Pt.slots] at X100 l100 y100 z100 st100 hQ100
        subst l100 y100 z100
        obtain ⟨rfl, Nq100, hh100⟩ := hQ100
        have N100 := Fr.app N0 Nq100
        refine Ends.step st100 ?_
        show Ends p e below QQ (T100.setTop (mkF m 21 #[.val (.int p0), .val (.int p1), .val (.int (2 : Int32)), .unset, .unset] [(.ref a_READY)]))
        refine Ends.step (fun _ k => XS.astoreN X100.here hx rfl (hb hby at_21) rfl rfl (l' := #[.val (.int p0), .val (.int p1), .val (.int (2 : Int32)), .val (.ref a_READY), .unset]) rfl k) ?_
        show Ends p e below QQ (T100.setTop (mkF m 22 #[.val (.int p0), .val (.int p1), .val (.int (2 : Int32)), .val (.ref a_READY), .unset] []))
        refine Ends.step (fun _ k => XS.iloadN X100.here hx rfl (hb hby at_22) rfl k) ?_
        show Ends p e below QQ (T100.setTop (mkF m 23 #[.val (.int p0), .val (.int p1), .val (.int (2 : Int32)), .val (.ref a_READY), .unset] [(.int (2 : Int32))]))
        obtain ⟨_, _, ⟨T101, L101, k101, n101⟩, -, X101, ⟨Lc101, hQ101, l101, y101, z101⟩, st101⟩ := Jvm.LawKit.callS X100 hx (y := (⟨"com/example/nuntius/nuntius/protocol/OpcodeOfCodePinLaw", "expected", "(I)Lcom/example/nuntius/nuntius/protocol/Opcode;"⟩ : MethodName)) hown (mvT hZ (hw _ (List.mem_of_getElem? (i := 7) rfl))) (mvT hZ (hw _ (List.mem_of_getElem? (i := 8) rfl))) (mvT hZ (hw _ (List.mem_of_getElem? (i := 9) rfl))) (mvT hZ (hw _ (List.mem_of_getElem? (i := 10) rfl))) (by decide) (backOf (W := 0) (rm2_2 l Z a0 hw [] a_READY h0 n0 (Nat.le_trans Z0 (Keep.refl h0 []).1) S_READY) hZ (hw _ (List.mem_of_getElem? (i := 10) rfl)) (hw _ (List.mem_of_getElem? (i := 9) rfl)) (by decide) (by decide)) (g := (mkF m 23 #[.val (.int p0), .val (.int p1), .val (.int (2 : Int32)), .val (.ref a_READY), .unset] [(.int (2 : Int32))])) rfl (by rw [hml]; rfl) (argsL := [(.int (2 : Int32))]) (rest := []) (lenOf pd_0 rfl) rfl (by show 2 * 0 + _ ≤ _; exact Nat.le_of_eq rfl) (hb hby at_23) (fun _ _ => ⟨rfl, hh100, (by decide : 0 + 0 ≤ _), (by decide : 0 + 0 ≤ _)⟩)
        dsimp only [Pt.U, Pt.locs, Pt.cells, Pt.slots] at X101 l101 y101 z101 st101 hQ101
        subst l101 y101 z101
        obtain ⟨rfl, Nq101, hh101⟩ := hQ101
        have N101 := Fr.app N100 Nq101
        refine Ends.step st101 ?_
        show Ends p e below QQ (T101.setTop (mkF m 26 #[.val (.int p0), .val (.int p1), .val (.int (2 : Int32)), .val (.ref a_READY), .unset] [(.ref a_READY)]))
        refine Ends.step (fun _ k => XS.astore X101.here hx rfl (hb hby at_26) rfl rfl (l' := #[.val (.int p0), .val (.int p1), .val (.int (2 : Int32)), .val (.ref a_READY), .val (.ref a_READY)]) rfl k) ?_
        show Ends p e below QQ (T101.setTop (mkF m 28 #[.val (.int p0), .val (.int p1), .val (.int (2 : Int32)), .val (.ref a_READY), .val (.ref a_READY)] []))
        refine Ends.step (fun _ k => XS.aloadN X101.here hx rfl (hb hby at_28) rfl rfl k) ?_
        show Ends p e below QQ (T101.setTop (mkF m 29 #[.val (.int p0), .val (.int p1), .val (.int (2 : Int32)), .val (.ref a_READY), .val (.ref a_READY)] [(.ref a_READY)]))
        refine Ends.step (fun _ k => XS.aload X101.here hx rfl (hb hby at_29) rfl rfl k) ?_
        show Ends p e below QQ (T101.setTop (mkF m 31 #[.val (.int p0), .val (.int p1), .val (.int (2 : Int32)), .val (.ref a_READY), .val (.ref a_READY)] [(.ref a_READY), (.ref a_READY)]))
        refine Ends.step (fun _ k => Jvm.RoadKit.acmp (g := (mkF m 31 #[.val (.int p0), .val (.int p1), .val (.int (2 : Int32)), .val (.ref a_READY), .val (.ref a_READY)] [(.ref a_READY), (.ref a_READY)])) X101 hx rfl rfl rfl (pc0 := 31) (pc' := 36) (same := true) rfl (hb hby at_31) rfl (decide_eq_true rfl) (by decide) (by decide) k) ?_
        show Ends p e below QQ (T101.setTop (mkF m 36 #[.val (.int p0), .val (.int p1), .val (.int (2 : Int32)), .val (.ref a_READY), .val (.ref a_READY)] []))
        refine Ends.step (fun _ k => XS.aloadN X101.here hx rfl (hb hby at_36) rfl rfl k) ?_
        show Ends p e below QQ (T101.setTop (mkF m 37 #[.val (.int p0), .val (.int p1), .val (.int (2 : Int32)), .val (.ref a_READY), .val (.ref a_READY)] [(.ref a_READY)]))
        refine Ends.step (fun _ k => XS.ifnullNo X101.here hx rfl (hb hby at_37) rfl k) ?_
        show Ends p e below QQ (T101.setTop (mkF m 40 #[.val (.int p0), .val (.int p1), .val (.int (2 : Int32)), .val (.ref a_READY), .val (.ref a_READY)] []))
        refine Ends.step (fun _ k => XS.aloadN X101.here hx rfl (hb hby at_40) rfl rfl k) ?_
        show Ends p e below QQ (T101.setTop (mkF m 41 #[.val (.int p0), .val (.int p1), .val (.int (2 : Int32)), .val (.ref a_READY), .val (.ref a_READY)] [(.ref a_READY)]))
        obtain ⟨cq102, kq102, q102a, q102b, q102c⟩ := isOf hZ hh101 E_a_READY
        obtain ⟨_, _, ⟨T102, L102, k102, n102⟩, -, X102, ⟨Lc102, hQ102, l102, y102, z102⟩, st102⟩ := X101.virtualBack hx (y := (⟨"com/example/nuntius/nuntius/protocol/Opcode", "code", "()I"⟩ : MethodName)) (z := (⟨"com/example/nuntius/nuntius/protocol/Opcode", "code", "()I"⟩ : MethodName)) hown (mvT hZ (hw _ (List.mem_of_getElem? (i := 12) rfl))) (mvT hZ (hw _ (List.mem_of_getElem? (i := 13) rfl))) (notFace_of_selects (args := #[]) (mvT hZ (hw _ (List.mem_of_getElem? (i := 15) rfl)))) (mvT hZ (hw _ (List.mem_of_getElem? (i := 15) rfl))) (mvT hZ (hw _ (List.mem_of_getElem? (i := 14) rfl))) (by decide) (backOf (W := 0) (rm3 l Z a0 hw [] a_READY (2 : Int32) h0 n0 (Nat.le_trans Z0 (Keep.refl h0 []).1) F_code_a_READY) hZ (hw _ (List.mem_of_getElem? (i := 16) rfl)) (hw _ (List.mem_of_getElem? (i := 2) rfl)) (by decide) (by decide)) q102a q102c (g := (mkF m 41 #[.val (.int p0), .val (.int p1), .val (.int (2 : Int32)), .val (.ref a_READY), .val (.ref a_READY)] [(.ref a_READY)])) rfl (by rw [hml]; rfl) (Steps.refl _) (argsL := []) (rest := []) (lenOf pd_1 rfl) rfl (by show 2 * 0 + _ ≤ _; exact Nat.le_of_eq rfl) (hb hby at_41) (fun _ _ => ⟨rfl, hh101, (by decide : 0 + 0 ≤ _), (by decide : 0 + 0 ≤ _)⟩)
        dsimp only [Pt.U, Pt.locs, Pt.cells, Pt.slots] at X102 l102 y102 z102 st102 hQ102
        subst l102 y102 z102
        obtain ⟨rfl, Nq102, hh102⟩ := hQ102
        have N102 := Fr.app N101 Nq102
        refine Ends.step (fun _ k => st102.trans k) ?_
        show Ends p e below QQ (T102.setTop (mkF m 44 #[.val (.int p0), .val (.int p1), .val (.int (2 : Int32)), .val (.ref a_READY), .val (.ref a_READY)] [(.int (2 : Int32))]))
        refine Ends.step (fun _ k => XS.iloadN X102.here hx rfl (hb hby at_44) rfl k) ?_
        show Ends p e below QQ (T102.setTop (mkF m 45 #[.val (.int p0), .val (.int p1), .val (.int (2 : Int32)), .val (.ref a_READY), .val (.ref a_READY)] [(.int (2 : Int32)), (.int (2 : Int32))]))
        refine Ends.step (fun _ k => XS.icmpYes X102.here hx rfl (pc0 := 45) (pc' := 50) rfl (hb hby at_45) rfl (XT.ii_eq_t (by decide)) (by decide) (by decide) k) ?_
        show Ends p e below QQ (T102.setTop (mkF m 50 #[.val (.int p0), .val (.int p1), .val (.int (2 : Int32)), .val (.ref a_READY), .val (.ref a_READY)] []))
        refine Ends.step (fun _ k => XT.iconstV X102.here hx rfl (1 : Int32) (hb hby at_50) rfl k) ?_
        show Ends p e below QQ (T102.setTop (mkF m 51 #[.val (.int p0), .val (.int p1), .val (.int (2 : Int32)), .val (.ref a_READY), .val (.ref a_READY)] [(.int (1 : Int32))]))
        exact Ends.fin (some (.int (1 : Int32))) X102 hQQ (fun h => by rw [Bd.returns] at h; cases h) Bd.notSynchronized (fun _ hr => retOut X102 hx (t := .boolean) Bd.returns rfl (Or.inl ⟨rfl, (by simp), _, rfl⟩) (hb hby at_51) hr) hh102 (by decide) (by decide) ⟨(by simp only [f0, dv16_1, if_neg hs17_91, if_neg hs17_95, if_pos hs17_99]), N102, (Keep.refl h0 [])⟩
      · show Ends p e below QQ (s₁.setTop (mkF m 17 #[.val (.int p0), .val (.int p1), .val (.int v16_1), .unset, .unset] []))
        by_cases hs17_103 : v16_1 = (3 : Int32)
        · show Ends p e below QQ (s₁.setTop (mkF m 17 #[.val (.int p0), .val (.int p1), .val (.int v16_1), .unset, .unset] []))
          rw [hs17_103]
          show Ends p e below QQ (s₁.setTop (mkF m 17 #[.val (.int p0), .val (.int p1), .val (.int (3 : Int32)), .unset, .unset] []))
          refine Ends.step (fun _ k => XS.iloadN X0.here hx rfl (hb hby at_17) rfl k) ?_
          show Ends p e below QQ (s₁.setTop (mkF m 18 #[.val (.int p0), .val (.int p1), .val (.int (3 : Int32)), .unset, .unset] [(.int (3 : Int32))]))
          obtain ⟨_, _, ⟨T104, L104, k104, n104⟩, -, X104, ⟨Lc104, hQ104, l104, y104, z104⟩, st104⟩ := Jvm.LawKit.callS X0 hx (y := (⟨"com/example/nuntius/nuntius/protocol/Opcode", "ofCode", "(I)Lcom/example/nuntius/nuntius/protocol/Opcode;"⟩ : MethodName)) hown (mvT hZ (hw _ (List.mem_of_getElem? (i := 0) rfl))) (mvT hZ (hw _ (List.mem_of_getElem? (i := 1) rfl))) (mvT hZ (hw _ (List.mem_of_getElem? (i := 2) rfl))) (mvT hZ (hw _ (List.mem_of_getElem? (i := 3) rfl))) (by decide) (backOf (W := 0) (rm1_3 l Z a0 hw [] a_BY_CODE a_ERROR a_AUTH_CHALLENGE a_SUPPORTED a_RESULT a_EVENT a_AUTHENTICATE a_EXECUTE a_AUTH_SUCCESS a_OPTIONS a_STARTUP a_PREPARE a_REGISTER a_READY a_QUERY a_AUTH_RESPONSE a_BATCH k_a_BY_CODE h0 n0 (Nat.le_trans Z0 (Keep.refl h0 []).1) A_a_BY_CODE S_BY_CODE) hZ (hw _ (List.mem_of_getElem? (i := 3) rfl)) (hw _ (List.mem_of_getElem? (i := 2) rfl)) (by decide) (by decide)) (g := (mkF m 18 #[.val (.int p0), .val (.int p1), .val (.int (3 : Int32)), .unset, .unset] [(.int (3 : Int32))])) rfl (by rw [hml]; rfl) (argsL := [(.int (3 : Int32))]) (rest := []) (lenOf pd_0 rfl) rfl (by show 2 * 0 + _ ≤ _; exact Nat.le_of_eq rfl) (hb hby at_18) (fun _ _ => ⟨rfl, e0, (by decide : 0 + 0 ≤ _), (by decide : 0 + 0 ≤ _)⟩)
          dsimp only [Pt.U, Pt.locs, Pt.cells, Pt.slots] at X104 l104 y104 z104 st104 hQ104
          subst l104 y104 z104
          obtain ⟨rfl, Nq104, hh104⟩ := hQ104
          have N104 := Fr.app N0 Nq104
          refine Ends.step st104 ?_
          show Ends p e below QQ (T104.setTop (mkF m 21 #[.val (.int p0), .val (.int p1), .val (.int (3 : Int32)), .unset, .unset] [(.ref a_AUTHENTICATE)]))
          refine Ends.step (fun _ k => XS.astoreN X104.here hx rfl (hb hby at_21) rfl rfl (l' := #[.val (.int p0), .val (.int p1), .val (.int (3 : Int32)), .val (.ref a_AUTHENTICATE), .unset]) rfl k) ?_
          show Ends p e below QQ (T104.setTop (mkF m 22 #[.val (.int p0), .val (.int p1), .val (.int (3 : Int32)), .val (.ref a_AUTHENTICATE), .unset] []))
          refine Ends.step (fun _ k => XS.iloadN X104.here hx rfl (hb hby at_22) rfl k) ?_
          show Ends p e below QQ (T104.setTop (mkF m 23 #[.val (.int p0), .val (.int p1), .val (.int (3 : Int32)), .val (.ref a_AUTHENTICATE), .unset] [(.int (3 : Int32))]))
          obtain ⟨_, _, ⟨T105, L105, k105, n105⟩, -, X105, ⟨Lc105, hQ105, l105, y105, z105⟩, st105⟩ := Jvm.LawKit.callS X104 hx (y := (⟨"com/example/nuntius/nuntius/protocol/OpcodeOfCodePinLaw", "expected", "(I)Lcom/example/nuntius/nuntius/protocol/Opcode;"⟩ : MethodName)) hown (mvT hZ (hw _ (List.mem_of_getElem? (i := 7) rfl))) (mvT hZ (hw _ (List.mem_of_getElem? (i := 8) rfl))) (mvT hZ (hw _ (List.mem_of_getElem? (i := 9) rfl))) (mvT hZ (hw _ (List.mem_of_getElem? (i := 10) rfl))) (by decide) (backOf (W := 0) (rm2_3 l Z a0 hw [] a_AUTHENTICATE h0 n0 (Nat.le_trans Z0 (Keep.refl h0 []).1) S_AUTHENTICATE) hZ (hw _ (List.mem_of_getElem? (i := 10) rfl)) (hw _ (List.mem_of_getElem? (i := 9) rfl)) (by decide) (by decide)) (g := (mkF m 23 #[.val (.int p0), .val (.int p1), .val (.int (3 : Int32)), .val (.ref a_AUTHENTICATE), .unset] [(.int (3 : Int32))])) rfl (by rw [hml]; rfl) (argsL := [(.int (3 : Int32))]) (rest := []) (lenOf pd_0 rfl) rfl (by show 2 * 0 + _ ≤ _; exact Nat.le_of_eq rfl) (hb hby at_23) (fun _ _ => ⟨rfl, hh104, (by decide : 0 + 0 ≤ _), (by decide : 0 + 0 ≤ _)⟩)
          dsimp only [Pt.U, Pt.locs, Pt.cells, Pt.slots] at X105 l105 y105 z105 st105 hQ105
          subst l105 y105 z105
          obtain ⟨rfl, Nq105, hh105⟩ := hQ105
          have N105 := Fr.app N104 Nq105
          refine Ends.step st105 ?_
          show Ends p e below QQ (T105.setTop (mkF m 26 #[.val (.int p0), .val (.int p1), .val (.int (3 : Int32)), .val (.ref a_AUTHENTICATE), .unset] [(.ref a_AUTHENTICATE)]))
          refine Ends.step (fun _ k => XS.astore X105.here hx rfl (hb hby at_26) rfl rfl (l' := #[.val (.int p0), .val (.int p1), .val (.int (3 : Int32)), .val (.ref a_AUTHENTICATE), .val (.ref a_AUTHENTICATE)]) rfl k) ?_
          show Ends p e below QQ (T105.setTop (mkF m 28 #[.val (.int p0), .val (.int p1), .val (.int (3 : Int32)), .val (.ref a_AUTHENTICATE), .val (.ref a_AUTHENTICATE)] []))
          refine Ends.step (fun _ k => XS.aloadN X105.here hx rfl (hb hby at_28) rfl rfl k) ?_
          show Ends p e below QQ (T105.setTop (mkF m 29 #[.val (.int p0), .val (.int p1), .val (.int (3 : Int32)), .val (.ref a_AUTHENTICATE), .val (.ref a_AUTHENTICATE)] [(.ref a_AUTHENTICATE)]))
          refine Ends.step (fun _ k => XS.aload X105.here hx rfl (hb hby at_29) rfl rfl k) ?_
          show Ends p e below QQ (T105.setTop (mkF m 31 #[.val (.int p0), .val (.int p1), .val (.int (3 : Int32)), .val (.ref a_AUTHENTICATE), .val (.ref a_AUTHENTICATE)] [(.ref a_AUTHENTICATE), (.ref a_AUTHENTICATE)]))
          refine Ends.step (fun _ k => Jvm.RoadKit.acmp (g := (mkF m 31 #[.val (.int p0), .val (.int p1), .val (.int (3 : Int32)), .val (.ref a_AUTHENTICATE), .val (.ref a_AUTHENTICATE)] [(.ref a_AUTHENTICATE), (.ref a_AUTHENTICATE)])) X105 hx rfl rfl rfl (pc0 := 31) (pc' := 36) (same := true) rfl (hb hby at_31) rfl (decide_eq_true rfl) (by decide) (by decide) k) ?_
          show Ends p e below QQ (T105.setTop (mkF m 36 #[.val (.int p0), .val (.int p1), .val (.int (3 : Int32)), .val (.ref a_AUTHENTICATE), .val (.ref a_AUTHENTICATE)] []))
          refine Ends.step (fun _ k => XS.aloadN X105.here hx rfl (hb hby at_36) rfl rfl k) ?_
          show Ends p e below QQ (T105.setTop (mkF m 37 #[.val (.int p0), .val (.int p1), .val (.int (3 : Int32)), .val (.ref a_AUTHENTICATE), .val (.ref a_AUTHENTICATE)] [(.ref a_AUTHENTICATE)]))
          refine Ends.step (fun _ k => XS.ifnullNo X105.here hx rfl (hb hby at_37) rfl k) ?_
          show Ends p e below QQ (T105.setTop (mkF m 40 #[.val (.int p0), .val (.int p1), .val (.int (3 : Int32)), .val (.ref a_AUTHENTICATE), .val (.ref a_AUTHENTICATE)] []))
          refine Ends.step (fun _ k => XS.aloadN X105.here hx rfl (hb hby at_40) rfl rfl k) ?_
          show Ends p e below QQ (T105.setTop (mkF m 41 #[.val (.int p0), .val (.int p1), .val (.int (3 : Int32)), .val (.ref a_AUTHENTICATE), .val (.ref a_AUTHENTICATE)] [(.ref a_AUTHENTICATE)]))
          obtain ⟨cq106, kq106, q106a, q106b, q106c⟩ := isOf hZ hh105 E_a_AUTHENTICATE
          obtain ⟨_, _, ⟨T106, L106, k106, n106⟩, -, X106, ⟨Lc106, hQ106, l106, y106, z106⟩, st106⟩ := X105.virtualBack hx (y := (⟨"com/example/nuntius/nuntius/protocol/Opcode", "code", "()I"⟩ : MethodName)) (z := (⟨"com/example/nuntius/nuntius/protocol/Opcode", "code", "()I"⟩ : MethodName)) hown (mvT hZ (hw _ (List.mem_of_getElem? (i := 12) rfl))) (mvT hZ (hw _ (List.mem_of_getElem? (i := 13) rfl))) (notFace_of_selects (args := #[]) (mvT hZ (hw _ (List.mem_of_getElem? (i := 15) rfl)))) (mvT hZ (hw _ (List.mem_of_getElem? (i := 15) rfl))) (mvT hZ (hw _ (List.mem_of_getElem? (i := 14) rfl))) (by decide) (backOf (W := 0) (rm3 l Z a0 hw [] a_AUTHENTICATE (3 : Int32) h0 n0 (Nat.le_trans Z0 (Keep.refl h0 []).1) F_code_a_AUTHENTICATE) hZ (hw _ (List.mem_of_getElem? (i := 16) rfl)) (hw _ (List.mem_of_getElem? (i := 2) rfl)) (by decide) (by decide)) q106a q106c (g := (mkF m 41 #[.val (.int p0), .val (.int p1), .val (.int (3 : Int32)), .val (.ref a_AUTHENTICATE), .val (.ref a_AUTHENTICATE)] [(.ref a_AUTHENTICATE)])) rfl (by rw [hml]; rfl) (Steps.refl _) (argsL := []) (rest := []) (lenOf pd_1 rfl) rfl (by show 2 * 0 + _ ≤ _; exact Nat.le_of_eq rfl) (hb hby at_41) (fun _ _ => ⟨rfl, hh105, (by decide : 0 + 0 ≤ _), (by decide : 0 + 0 ≤ _)⟩)
          dsimp only [Pt.U, Pt.locs, Pt.cells, Pt.slots] at X106 l106 y106 z106 st106 hQ106
          subst l106 y106 z106
          obtain ⟨rfl, Nq106, hh106⟩ := hQ106
          have N106 := Fr.app N105 Nq106
          refine Ends.step (fun _ k => st106.trans k) ?_
          show Ends p e below QQ (T106.setTop (mkF m 44 #[.val (.int p0), .val (.int p1), .val (.int (3 : Int32)), .val (.ref a_AUTHENTICATE), .val (.ref a_AUTHENTICATE)] [(.int (3 : Int32))]))
          refine Ends.step (fun _ k => XS.iloadN X106.here hx rfl (hb hby at_44) rfl k) ?_
          show Ends p e below QQ (T106.setTop (mkF m 45 #[.val (.int p0), .val (.int p1), .val (.int (3 : Int32)), .val (.ref a_AUTHENTICATE), .val (.ref a_AUTHENTICATE)] [(.int (3 : Int32)), (.int (3 : Int32))]))
          refine Ends.step (fun _ k => XS.icmpYes X106.here hx rfl (pc0 := 45) (pc' := 50) rfl (hb hby at_45) rfl (XT.ii_eq_t (by decide)) (by decide) (by decide) k) ?_
          show Ends p e below QQ (T106.setTop (mkF m 50 #[.val (.int p0), .val (.int p1), .val (.int (3 : Int32)), .val (.ref a_AUTHENTICATE), .val (.ref a_AUTHENTICATE)] []))
          refine Ends.step (fun _ k => XT.iconstV X106.here hx rfl (1 : Int32) (hb hby at_50) rfl k) ?_
          show Ends p e below QQ (T106.setTop (mkF m 51 #[.val (.int p0), .val (.int p1), .val (.int (3 : Int32)), .val (.ref a_AUTHENTICATE), .val (.ref a_AUTHENTICATE)] [(.int (1 : Int32))]))
          exact Ends.fin (some (.int (1 : Int32))) X106 hQQ (fun h => by rw [Bd.returns] at h; cases h) Bd.notSynchronized (fun _ hr => retOut X106 hx (t := .boolean) Bd.returns rfl (Or.inl ⟨rfl, (by simp), _, rfl⟩) (hb hby at_51) hr) hh106 (by decide) (by decide) ⟨(by simp only [f0, dv16_1, if_neg hs17_91, if_neg hs17_95, if_neg hs17_99, if_pos hs17_103]), N106, (Keep.refl h0 [])⟩
        · show Ends p e below QQ (s₁.setTop (mkF m 17 #[.val (.int p0), .val (.int p1), .val (.int v16_1), .unset, .unset] []))
          by_cases hs17_107 : v16_1 = (4 : Int32)
          · show Ends p e below QQ (s₁.setTop (mkF m 17 #[.val (.int p0), .val (.int p1), .val (.int v16_1), .unset, .unset] []))
            rw [hs17_107]
            show Ends p e below QQ (s₁.setTop (mkF m 17 #[.val (.int p0), .val (.int p1), .val (.int (4 : Int32)), .unset, .unset] []))
            refine Ends.step (fun _ k => XS.iloadN X0.here hx rfl (hb hby at_17) rfl k) ?_
            show Ends p e below QQ (s₁.setTop (mkF m 18 #[.val (.int p0), .val (.int p1), .val (.int (4 : Int32)), .unset, .unset] [(.int (4 : Int32))]))
            obtain ⟨_, _, ⟨T108, L108, k108, n108⟩, -, X108, ⟨Lc108, hQ108, l108, y108, z108⟩, st108⟩ := Jvm.LawKit.callS X0 hx (y := (⟨"com/example/nuntius/nuntius/protocol/Opcode", "ofCode", "(I)Lcom/example/nuntius/nuntius/protocol/Opcode;"⟩ : MethodName)) hown (mvT hZ (hw _ (List.mem_of_getElem? (i := 0) rfl))) (mvT hZ (hw _ (List.mem_of_getElem? (i := 1) rfl))) (mvT hZ (hw _ (List.mem_of_getElem? (i := 2) rfl))) (mvT hZ (hw _ (List.mem_of_getElem? (i := 3) rfl))) (by decide) (backOf (W := 0) (rm1_4 l Z a0 hw [] a_BY_CODE a_ERROR a_AUTH_CHALLENGE a_SUPPORTED a_RESULT a_EVENT a_AUTHENTICATE a_EXECUTE a_AUTH_SUCCESS a_OPTIONS a_STARTUP a_PREPARE a_REGISTER a_READY a_QUERY a_AUTH_RESPONSE a_BATCH k_a_BY_CODE h0 n0 (Nat.le_trans Z0 (Keep.refl h0 []).1) A_a_BY_CODE S_BY_CODE) hZ (hw _ (List.mem_of_getElem? (i := 3) rfl)) (hw _ (List.mem_of_getElem? (i := 2) rfl)) (by decide) (by decide)) (g := (mkF m 18 #[.val (.int p0), .val (.int p1), .val (.int (4 : Int32)), .unset, .unset] [(.int (4 : Int32))])) rfl (by rw [hml]; rfl) (argsL := [(.int (4 : Int32))]) (rest := []) (lenOf pd_0 rfl) rfl (by show 2 * 0 + _ ≤ _; exact Nat.le_of_eq rfl) (hb hby at_18) (fun _ _ => ⟨rfl, e0, (by decide : 0 + 0 ≤ _), (by decide : 0 + 0 ≤ _)⟩)
            dsimp only [Pt.U, Pt.locs, Pt.cells, Pt.slots] at X108 l108 y108 z108 st108 hQ108
            subst l108 y108 z108
            obtain ⟨rfl, Nq108, hh108⟩ := hQ108
            have N108 := Fr.app N0 Nq108
            refine Ends.step st108 ?_
            show Ends p e below QQ (T108.setTop (mkF m 21 #[.val (.int p0), .val (.int p1), .val (.int (4 : Int32)), .unset, .unset] [.null]))
            refine Ends.step (fun _ k => XS.astoreN X108.here hx rfl (hb hby at_21) rfl rfl (l' := #[.val (.int p0), .val (.int p1), .val (.int (4 : Int32)), .val .null, .unset]) rfl k) ?_
            show Ends p e below QQ (T108.setTop (mkF m 22 #[.val (.int p0), .val (.int p1), .val (.int (4 : Int32)), .val .null, .unset] []))
            refine Ends.step (fun _ k => XS.iloadN X108.here hx rfl (hb hby at_22) rfl k) ?_
            show Ends p e below QQ (T108.setTop (mkF m 23 #[.val (.int p0), .val (.int p1), .val (.int (4 : Int32)), .val .null, .unset] [(.int (4 : Int32))]))
            obtain ⟨_, _, ⟨T109, L109, k109, n109⟩, -, X109, ⟨Lc109, hQ109, l109, y109, z109⟩, st109⟩ := Jvm.LawKit.callS X108 hx (y := (⟨"com/example/nuntius/nuntius/protocol/OpcodeOfCodePinLaw", "expected", "(I)Lcom/example/nuntius/nuntius/protocol/Opcode;"⟩ : MethodName)) hown (mvT hZ (hw _ (List.mem_of_getElem? (i := 7) rfl))) (mvT hZ (hw _ (List.mem_of_getElem? (i := 8) rfl))) (mvT hZ (hw _ (List.mem_of_getElem? (i := 9) rfl))) (mvT hZ (hw _ (List.mem_of_getElem? (i := 10) rfl))) (by decide) (backOf (W := 0) (rm2_4 l Z a0 hw []  h0 n0 (Nat.le_trans Z0 (Keep.refl h0 []).1)) hZ (hw _ (List.mem_of_getElem? (i := 10) rfl)) (hw _ (List.mem_of_getElem? (i := 9) rfl)) (by decide) (by decide)) (g := (mkF m 23 #[.val (.int p0), .val (.int p1), .val (.int (4 : Int32)), .val .null, .unset] [(.int (4 : Int32))])) rfl (by rw [hml]; rfl) (argsL := [(.int (4 : Int32))]) (rest := []) (lenOf pd_0 rfl) rfl (by show 2 * 0 + _ ≤ _; exact Nat.le_of_eq rfl) (hb hby at_23) (fun _ _ => ⟨rfl, hh108, (by decide : 0 + 0 ≤ _), (by decide : 0 + 0 ≤ _)⟩)
            dsimp only [Pt.U, Pt.locs, Pt.cells, Pt.slots] at X109 l109 y109 z109 st109 hQ109
            subst l109 y109 z109
            obtain ⟨rfl, Nq109, hh109⟩ := hQ109
            have N109 := Fr.app N108 Nq109
            refine Ends.step st109 ?_
            show Ends p e below QQ (T109.setTop (mkF m 26 #[.val (.int p0), .val (.int p1), .val (.int (4 : Int32)), .val .null, .unset] [.null]))
            refine Ends.step (fun _ k => XS.astore X109.here hx rfl (hb hby at_26) rfl rfl (l' := #[.val (.int p0), .val (.int p1), .val (.int (4 : Int32)), .val .null, .val .null]) rfl k) ?_
            show Ends p e below QQ (T109.setTop (mkF m 28 #[.val (.int p0), .val (.int p1), .val (.int (4 : Int32)), .val .null, .val .null] []))
            refine Ends.step (fun _ k => XS.aloadN X109.here hx rfl (hb hby at_28) rfl rfl k) ?_
            show Ends p e below QQ (T109.setTop (mkF m 29 #[.val (.int p0), .val (.int p1), .val (.int (4 : Int32)), .val .null, .val .null] [.null]))
            refine Ends.step (fun _ k => XS.aload X109.here hx rfl (hb hby at_29) rfl rfl k) ?_
            show Ends p e below QQ (T109.setTop (mkF m 31 #[.val (.int p0), .val (.int p1), .val (.int (4 : Int32)), .val .null, .val .null] [.null, .null]))
            refine Ends.step (fun _ k => Jvm.RoadKit.acmp (g := (mkF m 31 #[.val (.int p0), .val (.int p1), .val (.int (4 : Int32)), .val .null, .val .null] [.null, .null])) X109 hx rfl rfl rfl (pc0 := 31) (pc' := 36) (same := true) rfl (hb hby at_31) rfl (decide_eq_true rfl) (by decide) (by decide) k) ?_
            show Ends p e below QQ (T109.setTop (mkF m 36 #[.val (.int p0), .val (.int p1), .val (.int (4 : Int32)), .val .null, .val .null] []))
            refine Ends.step (fun _ k => XS.aloadN X109.here hx rfl (hb hby at_36) rfl rfl k) ?_
            show Ends p e below QQ (T109.setTop (mkF m 37 #[.val (.int p0), .val (.int p1), .val (.int (4 : Int32)), .val .null, .val .null] [.null]))
            refine Ends.step (fun _ k => XS.ifnullYes X109.here hx rfl (pc0 := 37) (pc' := 50) rfl (hb hby at_37) rfl (by decide) (by decide) k) ?_
            show Ends p e below QQ (T109.setTop (mkF m 50 #[.val (.int p0), .val (.int p1), .val (.int (4 : Int32)), .val .null, .val .null] []))
            refine Ends.step (fun _ k => XT.iconstV X109.here hx rfl (1 : Int32) (hb hby at_50) rfl k) ?_
            show Ends p e below QQ (T109.setTop (mkF m 51 #[.val (.int p0), .val (.int p1), .val (.int (4 : Int32)), .val .null, .val .null] [(.int (1 : Int32))]))
            exact Ends.fin (some (.int (1 : Int32))) X109 hQQ (fun h => by rw [Bd.returns] at h; cases h) Bd.notSynchronized (fun _ hr => retOut X109 hx (t := .boolean) Bd.returns rfl (Or.inl ⟨rfl, (by simp), _, rfl⟩) (hb hby at_51) hr) hh109 (by decide) (by decide) ⟨(by simp only [f0, dv16_1, if_neg hs17_91, if_neg hs17_95, if_neg hs17_99, if_neg hs17_103, if_pos hs17_107]), N109, (Keep.refl h0 [])⟩
          · show Ends p e below QQ (s₁.setTop (mkF m 17 #[.val (.int p0), .val (.int p1), .val (.int v16_1), .unset, .unset] []))
            by_cases hs17_110 : v16_1 = (5 : Int32)
            · show Ends p e below QQ (s₁.setTop (mkF m 17 #[.val (.int p0), .val (.int p1), .val (.int v16_1), .unset, .unset] []))
              rw [hs17_110]
              show Ends p e below QQ (s₁.setTop (mkF m 17 #[.val (.int p0), .val (.int p1), .val (.int (5 : Int32)), .unset, .unset] []))
              refine Ends.step (fun _ k => XS.iloadN X0.here hx rfl (hb hby at_17) rfl k) ?_
              show Ends p e below QQ (s₁.setTop (mkF m 18 #[.val (.int p0), .val (.int p1), .val (.int (5 : Int32)), .unset, .unset] [(.int (5 : Int32))]))
              obtain ⟨_, _, ⟨T111, L111, k111, n111⟩, -, X111, ⟨Lc111, hQ111, l111, y111, z111⟩, st111⟩ := Jvm.LawKit.callS X0 hx (y := (⟨"com/example/nuntius/nuntius/protocol/Opcode", "ofCode", "(I)Lcom/example/nuntius/nuntius/protocol/Opcode;"⟩ : MethodName)) hown (mvT hZ (hw _ (List.mem_of_getElem? (i := 0) rfl))) (mvT hZ (hw _ (List.mem_of_getElem? (i := 1) rfl))) (mvT hZ (hw _ (List.mem_of_getElem? (i := 2) rfl))) (mvT hZ (hw _ (List.mem_of_getElem? (i := 3) rfl))) (by decide) (backOf (W := 0) (rm1_5 l Z a0 hw [] a_BY_CODE a_ERROR a_AUTH_CHALLENGE a_SUPPORTED a_RESULT a_EVENT a_AUTHENTICATE a_EXECUTE a_AUTH_SUCCESS a_OPTIONS a_STARTUP a_PREPARE a_REGISTER a_READY a_QUERY a_AUTH_RESPONSE a_BATCH k_a_BY_CODE h0 n0 (Nat.le_trans Z0 (Keep.refl h0 []).1) A_a_BY_CODE S_BY_CODE) hZ (hw _ (List.mem_of_getElem? (i := 3) rfl)) (hw _ (List.mem_of_getElem? (i := 2) rfl)) (by decide) (by decide)) (g := (mkF m 18 #[.val (.int p0), .val (.int p1), .val (.int (5 : Int32)), .unset, .unset] [(.int (5 : Int32))])) rfl (by rw [hml]; rfl) (argsL := [(.int (5 : Int32))]) (rest := []) (lenOf pd_0 rfl) rfl (by show 2 * 0 + _ ≤ _; exact Nat.le_of_eq rfl) (hb hby at_18) (fun _ _ => ⟨rfl, e0, (by decide : 0 + 0 ≤ _), (by decide : 0 + 0 ≤ _)⟩)
              dsimp only [Pt.U, Pt.locs, Pt.cells, Pt.slots] at X111 l111 y111 z111 st111 hQ111
              subst l111 y111 z111
              obtain ⟨rfl, Nq111, hh111⟩ := hQ111
              have N111 := Fr.app N0 Nq111
              refine Ends.step st111 ?_
              show Ends p e below QQ (T111.setTop (mkF m 21 #[.val (.int p0), .val (.int p1), .val (.int (5 : Int32)), .unset, .unset] [(.ref a_OPTIONS)]))
              refine Ends.step (fun _ k => XS.astoreN X111.here hx rfl (hb hby at_21) rfl rfl (l' := #[.val (.int p0), .val (.int p1), .val (.int (5 : Int32)), .val (.ref a_OPTIONS), .unset]) rfl k) ?_
              show Ends p e below QQ (T111.setTop (mkF m 22 #[.val (.int p0), .val (.int p1), .val (.int (5 : Int32)), .val (.ref a_OPTIONS), .unset] []))
              refine Ends.step (fun _ k => XS.iloadN X111.here hx rfl (hb hby at_22) rfl k) ?_
              show Ends p e below QQ (T111.setTop (mkF m 23 #[.val (.int p0), .val (.int p1), .val (.int (5 : Int32)), .val (.ref a_OPTIONS), .unset] [(.int (5 : Int32))]))
              obtain ⟨_, _, ⟨T112, L112, k112, n112⟩, -, X112, ⟨Lc112, hQ112, l112, y112, z112⟩, st112⟩ := Jvm.LawKit.callS X111 hx (y := (⟨"com/example/nuntius/nuntius/protocol/OpcodeOfCodePinLaw", "expected", "(I)Lcom/example/nuntius/nuntius/protocol/Opcode;"⟩ : MethodName)) hown (mvT hZ (hw _ (List.mem_of_getElem? (i := 7) rfl))) (mvT hZ (hw _ (List.mem_of_getElem? (i := 8) rfl))) (mvT hZ (hw _ (List.mem_of_getElem? (i := 9) rfl))) (mvT hZ (hw _ (List.mem_of_getElem? (i := 10) rfl))) (by decide) (backOf (W := 0) (rm2_5 l Z a0 hw [] a_OPTIONS h0 n0 (Nat.le_trans Z0 (Keep.refl h0 []).1) S_OPTIONS) hZ (hw _ (List.mem_of_getElem? (i := 10) rfl)) (hw _ (List.mem_of_getElem? (i := 9) rfl)) (by decide) (by decide)) (g := (mkF m 23 #[.val (.int p0), .val (.int p1), .val (.int (5 : Int32)), .val (.ref a_OPTIONS), .unset] [(.int (5 : Int32))])) rfl (by rw [hml]; rfl) (argsL := [(.int (5 : Int32))]) (rest := []) (lenOf pd_0 rfl) rfl (by show 2 * 0 + _ ≤ _; exact Nat.le_of_eq rfl) (hb hby at_23) (fun _ _ => ⟨rfl, hh111, (by decide : 0 + 0 ≤ _), (by decide : 0 + 0 ≤ _)⟩)
              dsimp only [Pt.U, Pt.locs, Pt.cells, Pt.slots] at X112 l112 y112 z112 st112 hQ112
              subst l112 y112 z112
              obtain ⟨rfl, Nq112, hh112⟩ := hQ112
              have N112 := Fr.app N111 Nq112
              refine Ends.step st112 ?_
              show Ends p e below QQ (T112.setTop (mkF m 26 #[.val (.int p0), .val (.int p1), .val (.int (5 : Int32)), .val (.ref a_OPTIONS), .unset] [(.ref a_OPTIONS)]))
              refine Ends.step (fun _ k => XS.astore X112.here hx rfl (hb hby at_26) rfl rfl (l' := #[.val (.int p0), .val (.int p1), .val (.int (5 : Int32)), .val (.ref a_OPTIONS), .val (.ref a_OPTIONS)]) rfl k) ?_
              show Ends p e below QQ (T112.setTop (mkF m 28 #[.val (.int p0), .val (.int p1), .val (.int (5 : Int32)), .val (.ref a_OPTIONS), .val (.ref a_OPTIONS)] []))
              refine Ends.step (fun _ k => XS.aloadN X112.here hx rfl (hb hby at_28) rfl rfl k) ?_
              show Ends p e below QQ (T112.setTop (mkF m 29 #[.val (.int p0), .val (.int p1), .val (.int (5 : Int32)), .val (.ref a_OPTIONS), .val (.ref a_OPTIONS)] [(.ref a_OPTIONS)]))
              refine Ends.step (fun _ k => XS.aload X112.here hx rfl (hb hby at_29) rfl rfl k) ?_
              show Ends p e below QQ (T112.setTop (mkF m 31 #[.val (.int p0), .val (.int p1), .val (.int (5 : Int32)), .val (.ref a_OPTIONS), .val (.ref a_OPTIONS)] [(.ref a_OPTIONS), (.ref a_OPTIONS)]))
              refine Ends.step (fun _ k => Jvm.RoadKit.acmp (g := (mkF m 31 #[.val (.int p0), .val (.int p1), .val (.int (5 : Int32)), .val (.ref a_OPTIONS), .val (.ref a_OPTIONS)] [(.ref a_OPTIONS), (.ref a_OPTIONS)])) X112 hx rfl rfl rfl (pc0 := 31) (pc' := 36) (same := true) rfl (hb hby at_31) rfl (decide_eq_true rfl) (by decide) (by decide) k) ?_
              show Ends p e below QQ (T112.setTop (mkF m 36 #[.val (.int p0), .val (.int p1), .val (.int (5 : Int32)), .val (.ref a_OPTIONS), .val (.ref a_OPTIONS)] []))
              refine Ends.step (fun _ k => XS.aloadN X112.here hx rfl (hb hby at_36) rfl rfl k) ?_
              show Ends p e below QQ (T112.setTop (mkF m 37 #[.val (.int p0), .val (.int p1), .val (.int (5 : Int32)), .val (.ref a_OPTIONS), .val (.ref a_OPTIONS)] [(.ref a_OPTIONS)]))
              refine Ends.step (fun _ k => XS.ifnullNo X112.here hx rfl (hb hby at_37) rfl k) ?_
              show Ends p e below QQ (T112.setTop (mkF m 40 #[.val (.int p0), .val (.int p1), .val (.int (5 : Int32)), .val (.ref a_OPTIONS), .val (.ref a_OPTIONS)] []))
              refine Ends.step (fun _ k => XS.aloadN X112.here hx rfl (hb hby at_40) rfl rfl k) ?_
              show Ends p e below QQ (T112.setTop (mkF m 41 #[.val (.int p0), .val (.int p1), .val (.int (5 : Int32)), .val (.ref a_OPTIONS), .val (.ref a_OPTIONS)] [(.ref a_OPTIONS)]))
              obtain ⟨cq113, kq113, q113a, q113b, q113c⟩ := isOf hZ hh112 E_a_OPTIONS
              obtain ⟨_, _, ⟨T113, L113, k113, n113⟩, -, X113, ⟨Lc113, hQ113, l113, y113, z113⟩, st113⟩ := X112.virtualBack hx (y := (⟨"com/example/nuntius/nuntius/protocol/Opcode", "code", "()I"⟩ : MethodName)) (z := (⟨"com/example/nuntius/nuntius/protocol/Opcode", "code", "()I"⟩ : MethodName)) hown (mvT hZ (hw _ (List.mem_of_getElem? (i := 12) rfl))) (mvT hZ (hw _ (List.mem_of_getElem? (i := 13) rfl))) (notFace_of_selects (args := #[]) (mvT hZ (hw _ (List.mem_of_getElem? (i := 15) rfl)))) (mvT hZ (hw _ (List.mem_of_getElem? (i := 15) rfl))) (mvT hZ (hw _ (List.mem_of_getElem? (i := 14) rfl))) (by decide) (backOf (W := 0) (rm3 l Z a0 hw [] a_OPTIONS (5 : Int32) h0 n0 (Nat.le_trans Z0 (Keep.refl h0 []).1) F_code_a_OPTIONS) hZ (hw _ (List.mem_of_getElem? (i := 16) rfl)) (hw _ (List.mem_of_getElem? (i := 2) rfl)) (by decide) (by decide)) q113a q113c (g := (mkF m 41 #[.val (.int p0), .val (.int p1), .val (.int (5 : Int32)), .val (.ref a_OPTIONS), .val (.ref a_OPTIONS)] [(.ref a_OPTIONS)])) rfl (by rw [hml]; rfl) (Steps.refl _) (argsL := []) (rest := []) (lenOf pd_1 rfl) rfl (by show 2 * 0 + _ ≤ _; exact Nat.le_of_eq rfl) (hb hby at_41) (fun _ _ => ⟨rfl, hh112, (by decide : 0 + 0 ≤ _), (by decide : 0 + 0 ≤ _)⟩)
              dsimp only [Pt.U, Pt.locs, Pt.cells, Pt.slots] at X113 l113 y113 z113 st113 hQ113
              subst l113 y113 z113
              obtain ⟨rfl, Nq113, hh113⟩ := hQ113
              have N113 := Fr.app N112 Nq113
              refine Ends.step (fun _ k => st113.trans k) ?_
              show Ends p e below QQ (T113.setTop (mkF m 44 #[.val (.int p0), .val (.int p1), .val (.int (5 : Int32)), .val (.ref a_OPTIONS), .val (.ref a_OPTIONS)] [(.int (5 : Int32))]))
              refine Ends.step (fun _ k => XS.iloadN X113.here hx rfl (hb hby at_44) rfl k) ?_
              show Ends p e below QQ (T113.setTop (mkF m 45 #[.val (.int p0), .val (.int p1), .val (.int (5 : Int32)), .val (.ref a_OPTIONS), .val (.ref a_OPTIONS)] [(.int (5 : Int32)), (.int (5 : Int32))]))
              refine Ends.step (fun _ k => XS.icmpYes X113.here hx rfl (pc0 := 45) (pc' := 50) rfl (hb hby at_45) rfl (XT.ii_eq_t (by decide)) (by decide) (by decide) k) ?_
              show Ends p e below QQ (T113.setTop (mkF m 50 #[.val (.int p0), .val (.int p1), .val (.int (5 : Int32)), .val (.ref a_OPTIONS), .val (.ref a_OPTIONS)] []))
              refine Ends.step (fun _ k => XT.iconstV X113.here hx rfl (1 : Int32) (hb hby at_50) rfl k) ?_
              show Ends p e below QQ (T113.setTop (mkF m 51 #[.val (.int p0), .val (.int p1), .val (.int (5 : Int32)), .val (.ref a_OPTIONS), .val (.ref a_OPTIONS)] [(.int (1 : Int32))]))
              exact Ends.fin (some (.int (1 : Int32))) X113 hQQ (fun h => by rw [Bd.returns] at h; cases h) Bd.notSynchronized (fun _ hr => retOut X113 hx (t := .boolean) Bd.returns rfl (Or.inl ⟨rfl, (by simp), _, rfl⟩) (hb hby at_51) hr) hh113 (by decide) (by decide) ⟨(by simp only [f0, dv16_1, if_neg hs17_91, if_neg hs17_95, if_neg hs17_99, if_neg hs17_103, if_neg hs17_107, if_pos hs17_110]), N113, (Keep.refl h0 [])⟩
            · show Ends p e below QQ (s₁.setTop (mkF m 17 #[.val (.int p0), .val (.int p1), .val (.int v16_1), .unset, .unset] []))
              by_cases hs17_114 : v16_1 = (6 : Int32)
              · show Ends p e below QQ (s₁.setTop (mkF m 17 #[.val (.int p0), .val (.int p1), .val (.int v16_1), .unset, .unset] []))
                rw [hs17_114]
                show Ends p e below QQ (s₁.setTop (mkF m 17 #[.val (.int p0), .val (.int p1), .val (.int (6 : Int32)), .unset, .unset] []))
                refine Ends.step (fun _ k => XS.iloadN X0.here hx rfl (hb hby at_17) rfl k) ?_
                show Ends p e below QQ (s₁.setTop (mkF m 18 #[.val (.int p0), .val (.int p1), .val (.int (6 : Int32)), .unset, .unset] [(.int (6 : Int32))]))
                obtain ⟨_, _, ⟨T115, L115, k115, n115⟩, -, X115, ⟨Lc115, hQ115, l115, y115, z115⟩, st115⟩ := Jvm.LawKit.callS X0 hx (y := (⟨"com/example/nuntius/nuntius/protocol/Opcode", "ofCode", "(I)Lcom/example/nuntius/nuntius/protocol/Opcode;"⟩ : MethodName)) hown (mvT hZ (hw _ (List.mem_of_getElem? (i := 0) rfl))) (mvT hZ (hw _ (List.mem_of_getElem? (i := 1) rfl))) (mvT hZ (hw _ (List.mem_of_getElem? (i := 2) rfl))) (mvT hZ (hw _ (List.mem_of_getElem? (i := 3) rfl))) (by decide) (backOf (W := 0) (rm1_6 l Z a0 hw [] a_BY_CODE a_ERROR a_AUTH_CHALLENGE a_SUPPORTED a_RESULT a_EVENT a_AUTHENTICATE a_EXECUTE a_AUTH_SUCCESS a_OPTIONS a_STARTUP a_PREPARE a_REGISTER a_READY a_QUERY a_AUTH_RESPONSE a_BATCH k_a_BY_CODE h0 n0 (Nat.le_trans Z0 (Keep.refl h0 []).1) A_a_BY_CODE S_BY_CODE) hZ (hw _ (List.mem_of_getElem? (i := 3) rfl)) (hw _ (List.mem_of_getElem? (i := 2) rfl)) (by decide) (by decide)) (g := (mkF m 18 #[.val (.int p0), .val (.int p1), .val (.int (6 : Int32)), .unset, .unset] [(.int (6 : Int32))])) rfl (by rw [hml]; rfl) (argsL := [(.int (6 : Int32))]) (rest := []) (lenOf pd_0 rfl) rfl (by show 2 * 0 + _ ≤ _; exact Nat.le_of_eq rfl) (hb hby at_18) (fun _ _ => ⟨rfl, e0, (by decide : 0 + 0 ≤ _), (by decide : 0 + 0 ≤ _)⟩)
                dsimp only [Pt.U, Pt.locs, Pt.cells, Pt.slots] at X115 l115 y115 z115 st115 hQ115
                subst l115 y115 z115
                obtain ⟨rfl, Nq115, hh115⟩ := hQ115
                have N115 := Fr.app N0 Nq115
                refine Ends.step st115 ?_
                show Ends p e below QQ (T115.setTop (mkF m 21 #[.val (.int p0), .val (.int p1), .val (.int (6 : Int32)), .unset, .unset] [(.ref a_SUPPORTED)]))
                refine Ends.step (fun _ k => XS.astoreN X115.here hx rfl (hb hby at_21) rfl rfl (l' := #[.val (.int p0), .val (.int p1), .val (.int (6 : Int32)), .val (.ref a_SUPPORTED), .unset]) rfl k) ?_
                show Ends p e below QQ (T115.setTop (mkF m 22 #[.val (.int p0), .val (.int p1), .val (.int (6 : Int32)), .val (.ref a_SUPPORTED), .unset] []))
                refine Ends.step (fun _ k => XS.iloadN X115.here hx rfl (hb hby at_22) rfl k) ?_
                show Ends p e below QQ (T115.setTop (mkF m 23 #[.val (.int p0), .val (.int p1), .val (.int (6 : Int32)), .val (.ref a_SUPPORTED), .unset] [(.int (6 : Int32))]))
                obtain ⟨_, _, ⟨T116, L116, k116, n116⟩, -, X116, ⟨Lc116, hQ116, l116, y116, z116⟩, st116⟩ := Jvm.LawKit.callS X115 hx (y := (⟨"com/example/nuntius/nuntius/protocol/OpcodeOfCodePinLaw", "expected", "(I)Lcom/example/nuntius/nuntius/protocol/Opcode;"⟩ : MethodName)) hown (mvT hZ (hw _ (List.mem_of_getElem? (i := 7) rfl))) (mvT hZ (hw _ (List.mem_of_getElem? (i := 8) rfl))) (mvT hZ (hw _ (List.mem_of_getElem? (i := 9) rfl))) (mvT hZ (hw _ (List.mem_of_getElem? (i := 10) rfl))) (by decide) (backOf (W := 0) (rm2_6 l Z a0 hw [] a_SUPPORTED h0 n0 (Nat.le_trans Z0 (Keep.refl h0 []).1) S_SUPPORTED) hZ (hw _ (List.mem_of_getElem? (i := 10) rfl)) (hw _ (List.mem_of_getElem? (i := 9) rfl)) (by decide) (by decide)) (g := (mkF m 23 #[.val (.int p0), .val (.int p1), .val (.int (6 : Int32)), .val (.ref a_SUPPORTED), .unset] [(.int (6 : Int32))])) rfl (by rw [hml]; rfl) (argsL := [(.int (6 : Int32))]) (rest := []) (lenOf pd_0 rfl) rfl (by show 2 * 0 + _ ≤ _; exact Nat.le_of_eq rfl) (hb hby at_23) (fun _ _ => ⟨rfl, hh115, (by decide : 0 + 0 ≤ _), (by decide : 0 + 0 ≤ _)⟩)
                dsimp only [Pt.U, Pt.locs, Pt.cells, Pt.slots] at X116 l116 y116 z116 st116 hQ116
                subst l116 y116 z116
                obtain ⟨rfl, Nq116, hh116⟩ := hQ116
                have N116 := Fr.app N115 Nq116
                refine Ends.step st116 ?_
                show Ends p e below QQ (T116.setTop (mkF m 26 #[.val (.int p0), .val (.int p1), .val (.int (6 : Int32)), .val (.ref a_SUPPORTED), .unset] [(.ref a_SUPPORTED)]))
                refine Ends.step (fun _ k => XS.astore X116.here hx rfl (hb hby at_26) rfl rfl (l' := #[.val (.int p0), .val (.int p1), .val (.int (6 : Int32)), .val (.ref a_SUPPORTED), .val (.ref a_SUPPORTED)]) rfl k) ?_
                show Ends p e below QQ (T116.setTop (mkF m 28 #[.val (.int p0), .val (.int p1), .val (.int (6 : Int32)), .val (.ref a_SUPPORTED), .val (.ref a_SUPPORTED)] []))
                refine Ends.step (fun _ k => XS.aloadN X116.here hx rfl (hb hby at_28) rfl rfl k) ?_
                show Ends p e below QQ (T116.setTop (mkF m 29 #[.val (.int p0), .val (.int p1), .val (.int (6 : Int32)), .val (.ref a_SUPPORTED), .val (.ref a_SUPPORTED)] [(.ref a_SUPPORTED)]))
                refine Ends.step (fun _ k => XS.aload X116.here hx rfl (hb hby at_29) rfl rfl k) ?_
                show Ends p e below QQ (T116.setTop (mkF m 31 #[.val (.int p0), .val (.int p1), .val (.int (6 : Int32)), .val (.ref a_SUPPORTED), .val (.ref a_SUPPORTED)] [(.ref a_SUPPORTED), (.ref a_SUPPORTED)]))
                refine Ends.step (fun _ k => Jvm.RoadKit.acmp (g := (mkF m 31 #[.val (.int p0), .val (.int p1), .val (.int (6 : Int32)), .val (.ref a_SUPPORTED), .val (.ref a_SUPPORTED)] [(.ref a_SUPPORTED), (.ref a_SUPPORTED)])) X116 hx rfl rfl rfl (pc0 := 31) (pc' := 36) (same := true) rfl (hb hby at_31) rfl (decide_eq_true rfl) (by decide) (by decide) k) ?_
                show Ends p e below QQ (T116.setTop (mkF m 36 #[.val (.int p0), .val (.int p1), .val (.int (6 : Int32)), .val (.ref a_SUPPORTED), .val (.ref a_SUPPORTED)] []))
                refine Ends.step (fun _ k => XS.aloadN X116.here hx rfl (hb hby at_36) rfl rfl k) ?_
                show Ends p e below QQ (T116.setTop (mkF m 37 #[.val (.int p0), .val (.int p1), .val (.int (6 : Int32)), .val (.ref a_SUPPORTED), .val (.ref a_SUPPORTED)] [(.ref a_SUPPORTED)]))
                refine Ends.step (fun _ k => XS.ifnullNo X116.here hx rfl (hb hby at_37) rfl k) ?_
                show Ends p e below QQ (T116.setTop (mkF m 40 #[.val (.int p0), .val (.int p1), .val (.int (6 : Int32)), .val (.ref a_SUPPORTED), .val (.ref a_SUPPORTED)] []))
                refine Ends.step (fun _ k => XS.aloadN X116.here hx rfl (hb hby at_40) rfl rfl k) ?_
                show Ends p e below QQ (T116.setTop (mkF m 41 #[.val (.int p0), .val (.int p1), .val (.int (6 : Int32)), .val (.ref a_SUPPORTED), .val (.ref a_SUPPORTED)] [(.ref a_SUPPORTED)]))
                obtain ⟨cq117, kq117, q117a, q117b, q117c⟩ := isOf hZ hh116 E_a_SUPPORTED
                obtain ⟨_, _, ⟨T117, L117, k117, n117⟩, -, X117, ⟨Lc117, hQ117, l117, y117, z117⟩, st117⟩ := X116.virtualBack hx (y := (⟨"com/example/nuntius/nuntius/protocol/Opcode", "code", "()I"⟩ : MethodName)) (z := (⟨"com/example/nuntius/nuntius/protocol/Opcode", "code", "()I"⟩ : MethodName)) hown (mvT hZ (hw _ (List.mem_of_getElem? (i := 12) rfl))) (mvT hZ (hw _ (List.mem_of_getElem? (i := 13) rfl))) (notFace_of_selects (args := #[]) (mvT hZ (hw _ (List.mem_of_getElem? (i := 15) rfl)))) (mvT hZ (hw _ (List.mem_of_getElem? (i := 15) rfl))) (mvT hZ (hw _ (List.mem_of_getElem? (i := 14) rfl))) (by decide) (backOf (W := 0) (rm3 l Z a0 hw [] a_SUPPORTED (6 : Int32) h0 n0 (Nat.le_trans Z0 (Keep.refl h0 []).1) F_code_a_SUPPORTED) hZ (hw _ (List.mem_of_getElem? (i := 16) rfl)) (hw _ (List.mem_of_getElem? (i := 2) rfl)) (by decide) (by decide)) q117a q117c (g := (mkF m 41 #[.val (.int p0), .val (.int p1), .val (.int (6 : Int32)), .val (.ref a_SUPPORTED), .val (.ref a_SUPPORTED)] [(.ref a_SUPPORTED)])) rfl (by rw [hml]; rfl) (Steps.refl _) (argsL := []) (rest := []) (lenOf pd_1 rfl) rfl (by show 2 * 0 + _ ≤ _; exact Nat.le_of_eq rfl) (hb hby at_41) (fun _ _ => ⟨rfl, hh116, (by decide : 0 + 0 ≤ _), (by decide : 0 + 0 ≤ _)⟩)
                dsimp only [Pt.U, Pt.locs, Pt.cells, Pt.slots] at X117 l117 y117 z117 st117 hQ117
                subst l117 y117 z117
                obtain ⟨rfl, Nq117, hh117⟩ := hQ117
                have N117 := Fr.app N116 Nq117
                refine Ends.step (fun _ k => st117.trans k) ?_
                show Ends p e below QQ (T117.setTop (mkF m 44 #[.val (.int p0), .val (.int p1), .val (.int (6 : Int32)), .val (.ref a_SUPPORTED), .val (.ref a_SUPPORTED)] [(.int (6 : Int32))]))
                refine Ends.step (fun _ k => XS.iloadN X117.here hx rfl (hb hby at_44) rfl k) ?_
                show Ends p e below QQ (T117.setTop (mkF m 45 #[.val (.int p0), .val (.int p1), .val (.int (6 : Int32)), .val (.ref a_SUPPORTED), .val (.ref a_SUPPORTED)] [(.int (6 : Int32)), (.int (6 : Int32))]))
                refine Ends.step (fun _ k => XS.icmpYes X117.here hx rfl (pc0 := 45) (pc' := 50) rfl (hb hby at_45) rfl (XT.ii_eq_t (by decide)) (by decide) (by decide) k) ?_
                show Ends p e below QQ (T117.setTop (mkF m 50 #[.val (.int p0), .val (.int p1), .val (.int (6 : Int32)), .val (.ref a_SUPPORTED), .val (.ref a_SUPPORTED)] []))
                refine Ends.step (fun _ k => XT.iconstV X117.here hx rfl (1 : Int32) (hb hby at_50) rfl k) ?_
                show Ends p e below QQ (T117.setTop (mkF m 51 #[.val (.int p0), .val (.int p1), .val (.int (6 : Int32)), .val (.ref a_SUPPORTED), .val (.ref a_SUPPORTED)] [(.int (1 : Int32))]))
                exact Ends.fin (some (.int (1 : Int32))) X117 hQQ (fun h => by rw [Bd.returns] at h; cases h) Bd.notSynchronized (fun _ hr => retOut X117 hx (t := .boolean) Bd.returns rfl (Or.inl ⟨rfl, (by simp), _, rfl⟩) (hb hby at_51) hr) hh117 (by decide) (by decide) ⟨(by simp only [f0, dv16_1, if_neg hs17_91, if_neg hs17_95, if_neg hs17_99, if_neg hs17_103, if_neg hs17_107, if_neg hs17_110, if_pos hs17_114]), N117, (Keep.refl h0 [])⟩
              · show Ends p e below QQ (s₁.setTop (mkF m 17 #[.val (.int p0), .val (.int p1), .val (.int v16_1), .unset, .unset] []))
                by_cases hs17_118 : v16_1 = (7 : Int32)
                · show Ends p e below QQ (s₁.setTop (mkF m 17 #[.val (.int p0), .val (.int p1), .val (.int v16_1), .unset, .unset] []))
                  rw [hs17_118]
                  show Ends p e below QQ (s₁.setTop (mkF m 17 #[.val (.int p0), .val (.int p1), .val (.int (7 : Int32)), .unset, .unset] []))
                  refine Ends.step (fun _ k => XS.iloadN X0.here hx rfl (hb hby at_17) rfl k) ?_
                  show Ends p e below QQ (s₁.setTop (mkF m 18 #[.val (.int p0), .val (.int p1), .val (.int (7 : Int32)), .unset, .unset] [(.int (7 : Int32))]))
                  obtain ⟨_, _, ⟨T119, L119, k119, n119⟩, -, X119, ⟨Lc119, hQ119, l119, y119, z119⟩, st119⟩ := Jvm.LawKit.callS X0 hx (y := (⟨"com/example/nuntius/nuntius/protocol/Opcode", "ofCode", "(I)Lcom/example/nuntius/nuntius/protocol/Opcode;"⟩ : MethodName)) hown (mvT hZ (hw _ (List.mem_of_getElem? (i := 0) rfl))) (mvT hZ (hw _ (List.mem_of_getElem? (i := 1) rfl))) (mvT hZ (hw _ (List.mem_of_getElem? (i := 2) rfl))) (mvT hZ (hw _ (List.mem_of_getElem? (i := 3) rfl))) (by decide) (backOf (W := 0) (rm1_7 l Z a0 hw [] a_BY_CODE a_ERROR a_AUTH_CHALLENGE a_SUPPORTED a_RESULT a_EVENT a_AUTHENTICATE a_EXECUTE a_AUTH_SUCCESS a_OPTIONS a_STARTUP a_PREPARE a_REGISTER a_READY a_QUERY a_AUTH_RESPONSE a_BATCH k_a_BY_CODE h0 n0 (Nat.le_trans Z0 (Keep.refl h0 []).1) A_a_BY_CODE S_BY_CODE) hZ (hw _ (List.mem_of_getElem? (i := 3) rfl)) (hw _ (List.mem_of_getElem? (i := 2) rfl)) (by decide) (by decide)) (g := (mkF m 18 #[.val (.int p0), .val (.int p1), .val (.int (7 : Int32)), .unset, .unset] [(.int (7 : Int32))])) rfl (by rw [hml]; rfl) (argsL := [(.int (7 : Int32))]) (rest := []) (lenOf pd_0 rfl) rfl (by show 2 * 0 + _ ≤ _; exact Nat.le_of_eq rfl) (hb hby at_18) (fun _ _ => ⟨rfl, e0, (by decide : 0 + 0 ≤ _), (by decide : 0 + 0 ≤ _)⟩)
                  dsimp only [Pt.U, Pt.locs, Pt.cells, Pt.slots] at X119 l119 y119 z119 st119 hQ119
                  subst l119 y119 z119
                  obtain ⟨rfl, Nq119, hh119⟩ := hQ119
                  have N119 := Fr.app N0 Nq119
                  refine Ends.step st119 ?_
                  show Ends p e below QQ (T119.setTop (mkF m 21 #[.val (.int p0), .val (.int p1), .val (.int (7 : Int32)), .unset, .unset] [(.ref a_QUERY)]))
                  refine Ends.step (fun _ k => XS.astoreN X119.here hx rfl (hb hby at_21) rfl rfl (l' := #[.val (.int p0), .val (.int p1), .val (.int (7 : Int32)), .val (.ref a_QUERY), .unset]) rfl k) ?_
                  show Ends p e below QQ (T119.setTop (mkF m 22 #[.val (.int p0), .val (.int p1), .val (.int (7 : Int32)), .val (.ref a_QUERY), .unset] []))
                  refine Ends.step (fun _ k => XS.iloadN X119.here hx rfl (hb hby at_22) rfl k) ?_
                  show Ends p e below QQ (T119.setTop (mkF m 23 #[.val (.int p0), .val (.int p1), .val (.int (7 : Int32)), .val (.ref a_QUERY), .unset] [(.int (7 : Int32))]))
                  obtain ⟨_, _, ⟨T120, L120, k120, n120⟩, -, X120, ⟨Lc120, hQ120, l120, y120, z120⟩, st120⟩ := Jvm.LawKit.callS X119 hx (y := (⟨"com/example/nuntius/nuntius/protocol/OpcodeOfCodePinLaw", "expected", "(I)Lcom/example/nuntius/nuntius/protocol/Opcode;"⟩ : MethodName)) hown (mvT hZ (hw _ (List.mem_of_getElem? (i := 7) rfl))) (mvT hZ (hw _ (List.mem_of_getElem? (i := 8) rfl))) (mvT hZ (hw _ (List.mem_of_getElem? (i := 9) rfl))) (mvT hZ (hw _ (List.mem_of_getElem? (i := 10) rfl))) (by decide) (backOf (W := 0) (rm2_7 l Z a0 hw [] a_QUERY h0 n0 (Nat.le_trans Z0 (Keep.refl h0 []).1) S_QUERY) hZ (hw _ (List.mem_of_getElem? (i := 10) rfl)) (hw _ (List.mem_of_getElem? (i := 9) rfl)) (by decide) (by decide)) (g := (mkF m 23 #[.val (.int p0), .val (.int p1), .val (.int (7 : Int32)), .val (.ref a_QUERY), .unset] [(.int (7 : Int32))])) rfl (by rw [hml]; rfl) (argsL := [(.int (7 : Int32))]) (rest := []) (lenOf pd_0 rfl) rfl (by show 2 * 0 + _ ≤ _; exact Nat.le_of_eq rfl) (hb hby at_23) (fun _ _ => ⟨rfl, hh119, (by decide : 0 + 0 ≤ _), (by decide : 0 + 0 ≤ _)⟩)
                  dsimp only [Pt.U, Pt.locs, Pt.cells, Pt.slots] at X120 l120 y120 z120 st120 hQ120
                  subst l120 y120 z120
                  obtain ⟨rfl, Nq120, hh120⟩ := hQ120
                  have N120 := Fr.app N119 Nq120
                  refine Ends.step st120 ?_
                  show Ends p e below QQ (T120.setTop (mkF m 26 #[.val (.int p0), .val (.int p1), .val (.int (7 : Int32)), .val (.ref a_QUERY), .unset] [(.ref a_QUERY)]))
                  refine Ends.step (fun _ k => XS.astore X120.here hx rfl (hb hby at_26) rfl rfl (l' := #[.val (.int p0), .val (.int p1), .val (.int (7 : Int32)), .val (.ref a_QUERY), .val (.ref a_QUERY)]) rfl k) ?_
                  show Ends p e below QQ (T120.setTop (mkF m 28 #[.val (.int p0), .val (.int p1), .val (.int (7 : Int32)), .val (.ref a_QUERY), .val (.ref a_QUERY)] []))
                  refine Ends.step (fun _ k => XS.aloadN X120.here hx rfl (hb hby at_28) rfl rfl k) ?_
                  show Ends p e below QQ (T120.setTop (mkF m 29 #[.val (.int p0), .val (.int p1), .val (.int (7 : Int32)), .val (.ref a_QUERY), .val (.ref a_QUERY)] [(.ref a_QUERY)]))
                  refine Ends.step (fun _ k => XS.aload X120.here hx rfl (hb hby at_29) rfl rfl k) ?_
                  show Ends p e below QQ (T120.setTop (mkF m 31 #[.val (.int p0), .val (.int p1), .val (.int (7 : Int32)), .val (.ref a_QUERY), .val (.ref a_QUERY)] [(.ref a_QUERY), (.ref a_QUERY)]))
                  refine Ends.step (fun _ k => Jvm.RoadKit.acmp (g := (mkF m 31 #[.val (.int p0), .val (.int p1), .val (.int (7 : Int32)), .val (.ref a_QUERY), .val (.ref a_QUERY)] [(.ref a_QUERY), (.ref a_QUERY)])) X120 hx rfl rfl rfl (pc0 := 31) (pc' := 36) (same := true) rfl (hb hby at_31) rfl (decide_eq_true rfl) (by decide) (by decide) k) ?_
                  show Ends p e below QQ (T120.setTop (mkF m 36 #[.val (.int p0), .val (.int p1), .val (.int (7 : Int32)), .val (.ref a_QUERY), .val (.ref a_QUERY)] []))
                  refine Ends.step (fun _ k => XS.aloadN X120.here hx rfl (hb hby at_36) rfl rfl k) ?_
                  show Ends p e below QQ (T120.setTop (mkF m 37 #[.val (.int p0), .val (.int p1), .val (.int (7 : Int32)), .val (.ref a_QUERY), .val (.ref a_QUERY)] [(.ref a_QUERY)]))
                  refine Ends.step (fun _ k => XS.ifnullNo X120.here hx rfl (hb hby at_37) rfl k) ?_
                  show Ends p e below QQ (T120.setTop (mkF m 40 #[.val (.int p0), .val (.int p1), .val (.int (7 : Int32)), .val (.ref a_QUERY), .val (.ref a_QUERY)] []))
                  refine Ends.step (fun _ k => XS.aloadN X120.here hx rfl (hb hby at_40) rfl rfl k) ?_
                  show Ends p e below QQ (T120.setTop (mkF m 41 #[.val (.int p0), .val (.int p1), .val (.int (7 : Int32)), .val (.ref a_QUERY), .val (.ref a_QUERY)] [(.ref a_QUERY)]))
                  obtain ⟨cq121, kq121, q121a, q121b, q121c⟩ := isOf hZ hh120 E_a_QUERY
                  obtain ⟨_, _, ⟨T121, L121, k121, n121⟩, -, X121, ⟨Lc121, hQ121, l121, y121, z121⟩, st121⟩ := X120.virtualBack hx (y := (⟨"com/example/nuntius/nuntius/protocol/Opcode", "code", "()I"⟩ : MethodName)) (z := (⟨"com/example/nuntius/nuntius/protocol/Opcode", "code", "()I"⟩ : MethodName)) hown (mvT hZ (hw _ (List.mem_of_getElem? (i := 12) rfl))) (mvT hZ (hw _ (List.mem_of_getElem? (i := 13) rfl))) (notFace_of_selects (args := #[]) (mvT hZ (hw _ (List.mem_of_getElem? (i := 15) rfl)))) (mvT hZ (hw _ (List.mem_of_getElem? (i := 15) rfl))) (mvT hZ (hw _ (List.mem_of_getElem? (i := 14) rfl))) (by decide) (backOf (W := 0) (rm3 l Z a0 hw [] a_QUERY (7 : Int32) h0 n0 (Nat.le_trans Z0 (Keep.refl h0 []).1) F_code_a_QUERY) hZ (hw _ (List.mem_of_getElem? (i := 16) rfl)) (hw _ (List.mem_of_getElem? (i := 2) rfl)) (by decide) (by decide)) q121a q121c (g := (mkF m 41 #[.val (.int p0), .val (.int p1), .val (.int (7 : Int32)), .val (.ref a_QUERY), .val (.ref a_QUERY)] [(.ref a_QUERY)])) rfl (by rw [hml]; rfl) (Steps.refl _) (argsL := []) (rest := []) (lenOf pd_1 rfl) rfl (by show 2 * 0 + _ ≤ _; exact Nat.le_of_eq rfl) (hb hby at_41) (fun _ _ => ⟨rfl, hh120, (by decide : 0 + 0 ≤ _), (by decide : 0 + 0 ≤ _)⟩)
                  dsimp only [Pt.U, Pt.locs, Pt.cells, Pt.slots] at X121 l121 y121 z121 st121 hQ121
                  subst l121 y121 z121
                  obtain ⟨rfl, Nq121, hh121⟩ := hQ121
                  have N121 := Fr.app N120 Nq121
                  refine Ends.step (fun _ k => st121.trans k) ?_
                  show Ends p e below QQ (T121.setTop (mkF m 44 #[.val (.int p0), .val (.int p1), .val (.int (7 : Int32)), .val (.ref a_QUERY), .val (.ref a_QUERY)] [(.int (7 : Int32))]))
                  refine Ends.step (fun _ k => XS.iloadN X121.here hx rfl (hb hby at_44) rfl k) ?_
                  show Ends p e below QQ (T121.setTop (mkF m 45 #[.val (.int p0), .val (.int p1), .val (.int (7 : Int32)), .val (.ref a_QUERY), .val (.ref a_QUERY)] [(.int (7 : Int32)), (.int (7 : Int32))]))
                  refine Ends.step (fun _ k => XS.icmpYes X121.here hx rfl (pc0 := 45) (pc' := 50) rfl (hb hby at_45) rfl (XT.ii_eq_t (by decide)) (by decide) (by decide) k) ?_
                  show Ends p e below QQ (T121.setTop (mkF m 50 #[.val (.int p0), .val (.int p1), .val (.int (7 : Int32)), .val (.ref a_QUERY), .val (.ref a_QUERY)] []))
                  refine Ends.step (fun _ k => XT.iconstV X121.here hx rfl (1 : Int32) (hb hby at_50) rfl k) ?_
                  show Ends p e below QQ (T121.setTop (mkF m 51 #[.val (.int p0), .val (.int p1), .val (.int (7 : Int32)), .val (.ref a_QUERY), .val (.ref a_QUERY)] [(.int (1 : Int32))]))
                  exact Ends.fin (some (.int (1 : Int32))) X121 hQQ (fun h => by rw [Bd.returns] at h; cases h) Bd.notSynchronized (fun _ hr => retOut X121 hx (t := .boolean) Bd.returns rfl (Or.inl ⟨rfl, (by simp), _, rfl⟩) (hb hby at_51) hr) hh121 (by decide) (by decide) ⟨(by simp only [f0, dv16_1, if_neg hs17_91, if_neg hs17_95, if_neg hs17_99, if_neg hs17_103, if_neg hs17_107, if_neg hs17_110, if_neg hs17_114, if_pos hs17_118]), N121, (Keep.refl h0 [])⟩
                · show Ends p e below QQ (s₁.setTop (mkF m 17 #[.val (.int p0), .val (.int p1), .val (.int v16_1), .unset, .unset] []))
                  by_cases hs17_122 : v16_1 = (8 : Int32)
                  · show Ends p e below QQ (s₁.setTop (mkF m 17 #[.val (.int p0), .val (.int p1), .val (.int v16_1), .unset, .unset] []))
                    rw [hs17_122]
                    show Ends p e below QQ (s₁.setTop (mkF m 17 #[.val (.int p0), .val (.int p1), .val (.int (8 : Int32)), .unset, .unset] []))
                    refine Ends.step (fun _ k => XS.iloadN X0.here hx rfl (hb hby at_17) rfl k) ?_
                    show Ends p e below QQ (s₁.setTop (mkF m 18 #[.val (.int p0), .val (.int p1), .val (.int (8 : Int32)), .unset, .unset] [(.int (8 : Int32))]))
                    obtain ⟨_, _, ⟨T123, L123, k123, n123⟩, -, X123, ⟨Lc123, hQ123, l123, y123, z123⟩, st123⟩ := Jvm.LawKit.callS X0 hx (y := (⟨"com/example/nuntius/nuntius/protocol/Opcode", "ofCode", "(I)Lcom/example/nuntius/nuntius/protocol/Opcode;"⟩ : MethodName)) hown (mvT hZ (hw _ (List.mem_of_getElem? (i := 0) rfl))) (mvT hZ (hw _ (List.mem_of_getElem? (i := 1) rfl))) (mvT hZ (hw _ (List.mem_of_getElem? (i := 2) rfl))) (mvT hZ (hw _ (List.mem_of_getElem? (i := 3) rfl))) (by decide) (backOf (W := 0) (rm1_8 l Z a0 hw [] a_BY_CODE a_ERROR a_AUTH_CHALLENGE a_SUPPORTED a_RESULT a_EVENT a_AUTHENTICATE a_EXECUTE a_AUTH_SUCCESS a_OPTIONS a_STARTUP a_PREPARE a_REGISTER a_READY a_QUERY a_AUTH_RESPONSE a_BATCH k_a_BY_CODE h0 n0 (Nat.le_trans Z0 (Keep.refl h0 []).1) A_a_BY_CODE S_BY_CODE) hZ (hw _ (List.mem_of_getElem? (i := 3) rfl)) (hw _ (List.mem_of_getElem? (i := 2) rfl)) (by decide) (by decide)) (g := (mkF m 18 #[.val (.int p0), .val (.int p1), .val (.int (8 : Int32)), .unset, .unset] [(.int (8 : Int32))])) rfl (by rw [hml]; rfl) (argsL := [(.int (8 : Int32))]) (rest := []) (lenOf pd_0 rfl) rfl (by show 2 * 0 + _ ≤ _; exact Nat.le_of_eq rfl) (hb hby at_18) (fun _ _ => ⟨rfl, e0, (by decide : 0 + 0 ≤ _), (by decide : 0 + 0 ≤ _)⟩)
                    dsimp only [Pt.U, Pt.locs, Pt.cells, Pt.slots] at X123 l123 y123 z123 st123 hQ123
                    subst l123 y123 z123
                    obtain ⟨rfl, Nq123, hh123⟩ := hQ123
                    have N123 := Fr.app N0 Nq123
                    refine Ends.step st123 ?_
                    show Ends p e below QQ (T123.setTop (mkF m 21 #[.val (.int p0), .val (.int p1), .val (.int (8 : Int32)), .unset, .unset] [(.ref a_RESULT)]))
                    refine Ends.step (fun _ k => XS.astoreN X123.here hx rfl (hb hby at_21) rfl rfl (l' := #[.val (.int p0), .val (.int p1), .val (.int (8 : Int32)), .val (.ref a_RESULT), .unset]) rfl k) ?_
                    show Ends p e below QQ (T123.setTop (mkF m 22 #[.val (.int p0), .val (.int p1), .val (.int (8 : Int32)), .val (.ref a_RESULT), .unset] []))
                    refine Ends.step (fun _ k => XS.iloadN X123.here hx rfl (hb hby at_22) rfl k) ?_
                    show Ends p e below QQ (T123.setTop (mkF m 23 #[.val (.int p0), .val (.int p1), .val (.int (8 : Int32)), .val (.ref a_RESULT), .unset] [(.int (8 : Int32))]))
                    obtain ⟨_, _, ⟨T124, L124, k124, n124⟩, -, X124, ⟨Lc124, hQ124, l124, y124, z124⟩, st124⟩ := Jvm.LawKit.callS X123 hx (y := (⟨"com/example/nuntius/nuntius/protocol/OpcodeOfCodePinLaw", "expected", "(I)Lcom/example/nuntius/nuntius/protocol/Opcode;"⟩ : MethodName)) hown (mvT hZ (hw _ (List.mem_of_getElem? (i := 7) rfl))) (mvT hZ (hw _ (List.mem_of_getElem? (i := 8) rfl))) (mvT hZ (hw _ (List.mem_of_getElem? (i := 9) rfl))) (mvT hZ (hw _ (List.mem_of_getElem? (i := 10) rfl))) (by decide) (backOf (W := 0) (rm2_8 l Z a0 hw [] a_RESULT h0 n0 (Nat.le_trans Z0 (Keep.refl h0 []).1) S_RESULT) hZ (hw _ (List.mem_of_getElem? (i := 10) rfl)) (hw _ (List.mem_of_getElem? (i := 9) rfl)) (by decide) (by decide)) (g := (mkF m 23 #[.val (.int p0), .val (.int p1), .val (.int (8 : Int32)), .val (.ref a_RESULT), .unset] [(.int (8 : Int32))])) rfl (by rw [hml]; rfl) (argsL := [(.int (8 : Int32))]) (rest := []) (lenOf pd_0 rfl) rfl (by show 2 * 0 + _ ≤ _; exact Nat.le_of_eq rfl) (hb hby at_23) (fun _ _ => ⟨rfl, hh123, (by decide : 0 + 0 ≤ _), (by decide : 0 + 0 ≤ _)⟩)
                    dsimp only [Pt.U, Pt.locs, Pt.cells, Pt.slots] at X124 l124 y124 z124 st124 hQ124
                    subst l124 y124 z124
                    obtain ⟨rfl, Nq124, hh124⟩ := hQ124
                    have N124 := Fr.app N123 Nq124
                    refine Ends.step st124 ?_
                    show Ends p e below QQ (T124.setTop (mkF m 26 #[.val (.int p0), .val (.int p1), .val (.int (8 : Int32)), .val (.ref a_RESULT), .unset] [(.ref a_RESULT)]))
                    refine Ends.step (fun _ k => XS.astore X124.here hx rfl (hb hby at_26) rfl rfl (l' := #[.val (.int p0), .val (.int p1), .val (.int (8 : Int32)), .val (.ref a_RESULT), .val (.ref a_RESULT)]) rfl k) ?_
                    show Ends p e below QQ (T124.setTop (mkF m 28 #[.val (.int p0), .val (.int p1), .val (.int (8 : Int32)), .val (.ref a_RESULT), .val (.ref a_RESULT)] []))
                    refine Ends.step (fun _ k => XS.aloadN X124.here hx rfl (hb hby at_28) rfl rfl k) ?_
                    show Ends p e below QQ (T124.setTop (mkF m 29 #[.val (.int p0), .val (.int p1), .val (.int (8 : Int32)), .val (.ref a_RESULT), .val (.ref a_RESULT)] [(.ref a_RESULT)]))
                    refine Ends.step (fun _ k => XS.aload X124.here hx rfl (hb hby at_29) rfl rfl k) ?_
                    show Ends p e below QQ (T124.setTop (mkF m 31 #[.val (.int p0), .val (.int p1), .val (.int (8 : Int32)), .val (.ref a_RESULT), .val (.ref a_RESULT)] [(.ref a_RESULT), (.ref a_RESULT)]))
                    refine Ends.step (fun _ k => Jvm.RoadKit.acmp (g := (mkF m 31 #[.val (.int p0), .val (.int p1), .val (.int (8 : Int32)), .val (.ref a_RESULT), .val (.ref a_RESULT)] [(.ref a_RESULT), (.ref a_RESULT)])) X124 hx rfl rfl rfl (pc0 := 31) (pc' := 36) (same := true) rfl (hb hby at_31) rfl (decide_eq_true rfl) (by decide) (by decide) k) ?_
                    show Ends p e below QQ (T124.setTop (mkF m 36 #[.val (.int p0), .val (.int p1), .val (.int (8 : Int32)), .val (.ref a_RESULT), .val (.ref a_RESULT)] []))
                    refine Ends.step (fun _ k => XS.aloadN X124.here hx rfl (hb hby at_36) rfl rfl k) ?_
                    show Ends p e below QQ (T124.setTop (mkF m 37 #[.val (.int p0), .val (.int p1), .val (.int (8 : Int32)), .val (.ref a_RESULT), .val (.ref a_RESULT)] [(.ref a_RESULT)]))
                    refine Ends.step (fun _ k => XS.ifnullNo X124.here hx rfl (hb hby at_37) rfl k) ?_
                    show Ends p e below QQ (T124.setTop (mkF m 40 #[.val (.int p0), .val (.int p1), .val (.int (8 : Int32)), .val (.ref a_RESULT), .val (.ref a_RESULT)] []))
                    refine Ends.step (fun _ k => XS.aloadN X124.here hx rfl (hb hby at_40) rfl rfl k) ?_
                    show Ends p e below QQ (T124.setTop (mkF m 41 #[.val (.int p0), .val (.int p1), .val (.int (8 : Int32)), .val (.ref a_RESULT), .val (.ref a_RESULT)] [(.ref a_RESULT)]))
                    obtain ⟨cq125, kq125, q125a, q125b, q125c⟩ := isOf hZ hh124 E_a_RESULT
                    obtain ⟨_, _, ⟨T125, L125, k125, n125⟩, -, X125, ⟨Lc125, hQ125, l125, y125, z125⟩, st125⟩ := X124.virtualBack hx (y := (⟨"com/example/nuntius/nuntius/protocol/Opcode", "code", "()I"⟩ : MethodName)) (z := (⟨"com/example/nuntius/nuntius/protocol/Opcode", "code", "()I"⟩ : MethodName)) hown (mvT hZ (hw _ (List.mem_of_getElem? (i := 12) rfl))) (mvT hZ (hw _ (List.mem_of_getElem? (i := 13) rfl))) (notFace_of_selects (args := #[]) (mvT hZ (hw _ (List.mem_of_getElem? (i := 15) rfl)))) (mvT hZ (hw _ (List.mem_of_getElem? (i := 15) rfl))) (mvT hZ (hw _ (List.mem_of_getElem? (i := 14) rfl))) (by decide) (backOf (W := 0) (rm3 l Z a0 hw [] a_RESULT (8 : Int32) h0 n0 (Nat.le_trans Z0 (Keep.refl h0 []).1) F_code_a_RESULT) hZ (hw _ (List.mem_of_getElem? (i := 16) rfl)) (hw _ (List.mem_of_getElem? (i := 2) rfl)) (by decide) (by decide)) q125a q125c (g := (mkF m 41 #[.val (.int p0), .val (.int p1), .val (.int (8 : Int32)), .val (.ref a_RESULT), .val (.ref a_RESULT)] [(.ref a_RESULT)])) rfl (by rw [hml]; rfl) (Steps.refl _) (argsL := []) (rest := []) (lenOf pd_1 rfl) rfl (by show 2 * 0 + _ ≤ _; exact Nat.le_of_eq rfl) (hb hby at_41) (fun _ _ => ⟨rfl, hh124, (by decide : 0 + 0 ≤ _), (by decide : 0 + 0 ≤ _)⟩)
                    dsimp only [Pt.U, Pt.locs, Pt.cells, Pt.slots] at X125 l125 y125 z125 st125 hQ125
                    subst l125 y125 z125
                    obtain ⟨rfl, Nq125, hh125⟩ := hQ125
                    have N125 := Fr.app N124 Nq125
                    refine Ends.step (fun _ k => st125.trans k) ?_
                    show Ends p e below QQ (T125.setTop (mkF m 44 #[.val (.int p0), .val (.int p1), .val (.int (8 : Int32)), .val (.ref a_RESULT), .val (.ref a_RESULT)] [(.int (8 : Int32))]))
                    refine Ends.step (fun _ k => XS.iloadN X125.here hx rfl (hb hby at_44) rfl k) ?_
                    show Ends p e below QQ (T125.setTop (mkF m 45 #[.val (.int p0), .val (.int p1), .val (.int (8 : Int32)), .val (.ref a_RESULT), .val (.ref a_RESULT)] [(.int (8 : Int32)), (.int (8 : Int32))]))
                    refine Ends.step (fun _ k => XS.icmpYes X125.here hx rfl (pc0 := 45) (pc' := 50) rfl (hb hby at_45) rfl (XT.ii_eq_t (by decide)) (by decide) (by decide) k) ?_
                    show Ends p e below QQ (T125.setTop (mkF m 50 #[.val (.int p0), .val (.int p1), .val (.int (8 : Int32)), .val (.ref a_RESULT), .val (.ref a_RESULT)] []))
                    refine Ends.step (fun _ k => XT.iconstV X125.here hx rfl (1 : Int32) (hb hby at_50) rfl k) ?_
                    show Ends p e below QQ (T125.setTop (mkF m 51 #[.val (.int p0), .val (.int p1), .val (.int (8 : Int32)), .val (.ref a_RESULT), .val (.ref a_RESULT)] [(.int (1 : Int32))]))
                    exact Ends.fin (some (.int (1 : Int32))) X125 hQQ (fun h => by rw [Bd.returns] at h; cases h) Bd.notSynchronized (fun _ hr => retOut X125 hx (t := .boolean) Bd.returns rfl (Or.inl ⟨rfl, (by simp), _, rfl⟩) (hb hby at_51) hr) hh125 (by decide) (by decide) ⟨(by simp only [f0, dv16_1, if_neg hs17_91, if_neg hs17_95, if_neg hs17_99, if_neg hs17_103, if_neg hs17_107, if_neg hs17_110, if_neg hs17_114, if_neg hs17_118, if_pos hs17_122]), N125, (Keep.refl h0 [])⟩
                  · show Ends p e below QQ (s₁.setTop (mkF m 17 #[.val (.int p0), .val (.int p1), .val (.int v16_1), .unset, .unset] []))
                    by_cases hs17_126 : v16_1 = (9 : Int32)
                    · show Ends p e below QQ (s₁.setTop (mkF m 17 #[.val (.int p0), .val (.int p1), .val (.int v16_1), .unset, .unset] []))
                      rw [hs17_126]
                      show Ends p e below QQ (s₁.setTop (mkF m 17 #[.val (.int p0), .val (.int p1), .val (.int (9 : Int32)), .unset, .unset] []))
                      refine Ends.step (fun _ k => XS.iloadN X0.here hx rfl (hb hby at_17) rfl k) ?_
                      show Ends p e below QQ (s₁.setTop (mkF m 18 #[.val (.int p0), .val (.int p1), .val (.int (9 : Int32)), .unset, .unset] [(.int (9 : Int32))]))
                      obtain ⟨_, _, ⟨T127, L127, k127, n127⟩, -, X127, ⟨Lc127, hQ127, l127, y127, z127⟩, st127⟩ := Jvm.LawKit.callS X0 hx (y := (⟨"com/example/nuntius/nuntius/protocol/Opcode", "ofCode", "(I)Lcom/example/nuntius/nuntius/protocol/Opcode;"⟩ : MethodName)) hown (mvT hZ (hw _ (List.mem_of_getElem? (i := 0) rfl))) (mvT hZ (hw _ (List.mem_of_getElem? (i := 1) rfl))) (mvT hZ (hw _ (List.mem_of_getElem? (i := 2) rfl))) (mvT hZ (hw _ (List.mem_of_getElem? (i := 3) rfl))) (by decide) (backOf (W := 0) (rm1_9 l Z a0 hw [] a_BY_CODE a_ERROR a_AUTH_CHALLENGE a_SUPPORTED a_RESULT a_EVENT a_AUTHENTICATE a_EXECUTE a_AUTH_SUCCESS a_OPTIONS a_STARTUP a_PREPARE a_REGISTER a_READY a_QUERY a_AUTH_RESPONSE a_BATCH k_a_BY_CODE h0 n0 (Nat.le_trans Z0 (Keep.refl h0 []).1) A_a_BY_CODE S_BY_CODE) hZ (hw _ (List.mem_of_getElem? (i := 3) rfl)) (hw _ (List.mem_of_getElem? (i := 2) rfl)) (by decide) (by decide)) (g := (mkF m 18 #[.val (.int p0), .val (.int p1), .val (.int (9 : Int32)), .unset, .unset] [(.int (9 : Int32))])) rfl (by rw [hml]; rfl) (argsL := [(.int (9 : Int32))]) (rest := []) (lenOf pd_0 rfl) rfl (by show 2 * 0 + _ ≤ _; exact Nat.le_of_eq rfl) (hb hby at_18) (fun _ _ => ⟨rfl, e0, (by decide : 0 + 0 ≤ _), (by decide : 0 + 0 ≤ _)⟩)
                      dsimp only [Pt.U, Pt.locs, Pt.cells, Pt.slots] at X127 l127 y127 z127 st127 hQ127
                      subst l127 y127 z127
                      obtain ⟨rfl, Nq127, hh127⟩ := hQ127
                      have N127 := Fr.app N0 Nq127
                      refine Ends.step st127 ?_
                      show Ends p e below QQ (T127.setTop (mkF m 21 #[.val (.int p0), .val (.int p1), .val (.int (9 : Int32)), .unset, .unset] [(.ref a_PREPARE)]))
                      refine Ends.step (fun _ k => XS.astoreN X127.here hx rfl (hb hby at_21) rfl rfl (l' := #[.val (.int p0), .val (.int p1), .val (.int (9 : Int32)), .val (.ref a_PREPARE), .unset]) rfl k) ?_
                      show Ends p e below QQ (T127.setTop (mkF m 22 #[.val (.int p0), .val (.int p1), .val (.int (9 : Int32)), .val (.ref a_PREPARE), .unset] []))
                      refine Ends.step (fun _ k => XS.iloadN X127.here hx rfl (hb hby at_22) rfl k) ?_
                      show Ends p e below QQ (T127.setTop (mkF m 23 #[.val (.int p0), .val (.int p1), .val (.int (9 : Int32)), .val (.ref a_PREPARE), .unset] [(.int (9 : Int32))]))
                      obtain ⟨_, _, ⟨T128, L128, k128, n128⟩, -, X128, ⟨Lc128, hQ128, l128, y128, z128⟩, st128⟩ := Jvm.LawKit.callS X127 hx (y := (⟨"com/example/nuntius/nuntius/protocol/OpcodeOfCodePinLaw", "expected", "(I)Lcom/example/nuntius/nuntius/protocol/Opcode;"⟩ : MethodName)) hown (mvT hZ (hw _ (List.mem_of_getElem? (i := 7) rfl))) (mvT hZ (hw _ (List.mem_of_getElem? (i := 8) rfl))) (mvT hZ (hw _ (List.mem_of_getElem? (i := 9) rfl))) (mvT hZ (hw _ (List.mem_of_getElem? (i := 10) rfl))) (by decide) (backOf (W := 0) (rm2_9 l Z a0 hw [] a_PREPARE h0 n0 (Nat.le_trans Z0 (Keep.refl h0 []).1) S_PREPARE) hZ (hw _ (List.mem_of_getElem? (i := 10) rfl)) (hw _ (List.mem_of_getElem? (i := 9) rfl)) (by decide) (by decide)) (g := (mkF m 23 #[.val (.int p0), .val (.int p1), .val (.int (9 : Int32)), .val (.ref a_PREPARE), .unset] [(.int (9 : Int32))])) rfl (by rw [hml]; rfl) (argsL := [(.int (9 : Int32))]) (rest := []) (lenOf pd_0 rfl) rfl (by show 2 * 0 + _ ≤ _; exact Nat.le_of_eq rfl) (hb hby at_23) (fun _ _ => ⟨rfl, hh127, (by decide : 0 + 0 ≤ _), (by decide : 0 + 0 ≤ _)⟩)
                      dsimp only [Pt.U, Pt.locs, Pt.cells, Pt.slots] at X128 l128 y128 z128 st128 hQ128
                      subst l128 y128 z128
                      obtain ⟨rfl, Nq128, hh128⟩ := hQ128
                      have N128 := Fr.app N127 Nq128
                      refine Ends.step st128 ?_
                      show Ends p e below QQ (T128.setTop (mkF m 26 #[.val (.int p0), .val (.int p1), .val (.int (9 : Int32)), .val (.ref a_PREPARE), .unset] [(.ref a_PREPARE)]))
                      refine Ends.step (fun _ k => XS.astore X128.here hx rfl (hb hby at_26) rfl rfl (l' := #[.val (.int p0), .val (.int p1), .val (.int (9 : Int32)), .val (.ref a_PREPARE), .val (.ref a_PREPARE)]) rfl k) ?_
                      show Ends p e below QQ (T128.setTop (mkF m 28 #[.val (.int p0), .val (.int p1), .val (.int (9 : Int32)), .val (.ref a_PREPARE), .val (.ref a_PREPARE)] []))
                      refine Ends.step (fun _ k => XS.aloadN X128.here hx rfl (hb hby at_28) rfl rfl k) ?_
                      show Ends p e below QQ (T128.setTop (mkF m 29 #[.val (.int p0), .val (.int p1), .val (.int (9 : Int32)), .val (.ref a_PREPARE), .val (.ref a_PREPARE)] [(.ref a_PREPARE)]))
                      refine Ends.step (fun _ k => XS.aload X128.here hx rfl (hb hby at_29) rfl rfl k) ?_
                      show Ends p e below QQ (T128.setTop (mkF m 31 #[.val (.int p0), .val (.int p1), .val (.int (9 : Int32)), .val (.ref a_PREPARE), .val (.ref a_PREPARE)] [(.ref a_PREPARE), (.ref a_PREPARE)]))
                      refine Ends.step (fun _ k => Jvm.RoadKit.acmp (g := (mkF m 31 #[.val (.int p0), .val (.int p1), .val (.int (9 : Int32)), .val (.ref a_PREPARE), .val (.ref a_PREPARE)] [(.ref a_PREPARE), (.ref a_PREPARE)])) X128 hx rfl rfl rfl (pc0 := 31) (pc' := 36) (same := true) rfl (hb hby at_31) rfl (decide_eq_true rfl) (by decide) (by decide) k) ?_
                      show Ends p e below QQ (T128.setTop (mkF m 36 #[.val (.int p0), .val (.int p1), .val (.int (9 : Int32)), .val (.ref a_PREPARE), .val (.ref a_PREPARE)] []))
                      refine Ends.step (fun _ k => XS.aloadN X128.here hx rfl (hb hby at_36) rfl rfl k) ?_
                      show Ends p e below QQ (T128.setTop (mkF m 37 #[.val (.int p0), .val (.int p1), .val (.int (9 : Int32)), .val (.ref a_PREPARE), .val (.ref a_PREPARE)] [(.ref a_PREPARE)]))
                      refine Ends.step (fun _ k => XS.ifnullNo X128.here hx rfl (hb hby at_37) rfl k) ?_
                      show Ends p e below QQ (T128.setTop (mkF m 40 #[.val (.int p0), .val (.int p1), .val (.int (9 : Int32)), .val (.ref a_PREPARE), .val (.ref a_PREPARE)] []))
                      refine Ends.step (fun _ k => XS.aloadN X128.here hx rfl (hb hby at_40) rfl rfl k) ?_
                      show Ends p e below QQ (T128.setTop (mkF m 41 #[.val (.int p0), .val (.int p1), .val (.int (9 : Int32)), .val (.ref a_PREPARE), .val (.ref a_PREPARE)] [(.ref a_PREPARE)]))
                      obtain ⟨cq129, kq129, q129a, q129b, q129c⟩ := isOf hZ hh128 E_a_PREPARE
                      obtain ⟨_, _, ⟨T129, L129, k129, n129⟩, -, X129, ⟨Lc129, hQ129, l129, y129, z129⟩, st129⟩ := X128.virtualBack hx (y := (⟨"com/example/nuntius/nuntius/protocol/Opcode", "code", "()I"⟩ : MethodName)) (z := (⟨"com/example/nuntius/nuntius/protocol/Opcode", "code", "()I"⟩ : MethodName)) hown (mvT hZ (hw _ (List.mem_of_getElem? (i := 12) rfl))) (mvT hZ (hw _ (List.mem_of_getElem? (i := 13) rfl))) (notFace_of_selects (args := #[]) (mvT hZ (hw _ (List.mem_of_getElem? (i := 15) rfl)))) (mvT hZ (hw _ (List.mem_of_getElem? (i := 15) rfl))) (mvT hZ (hw _ (List.mem_of_getElem? (i := 14) rfl))) (by decide) (backOf (W := 0) (rm3 l Z a0 hw [] a_PREPARE (9 : Int32) h0 n0 (Nat.le_trans Z0 (Keep.refl h0 []).1) F_code_a_PREPARE) hZ (hw _ (List.mem_of_getElem? (i := 16) rfl)) (hw _ (List.mem_of_getElem? (i := 2) rfl)) (by decide) (by decide)) q129a q129c (g := (mkF m 41 #[.val (.int p0), .val (.int p1), .val (.int (9 : Int32)), .val (.ref a_PREPARE), .val (.ref a_PREPARE)] [(.ref a_PREPARE)])) rfl (by rw [hml]; rfl) (Steps.refl _) (argsL := []) (rest := []) (lenOf pd_1 rfl) rfl (by show 2 * 0 + _ ≤ _; exact Nat.le_of_eq rfl) (hb hby at_41) (fun _ _ => ⟨rfl, hh128, (by decide : 0 + 0 ≤ _), (by decide : 0 + 0 ≤ _)⟩)
                      dsimp only [Pt.U, Pt.locs, Pt.cells, Pt.slots] at X129 l129 y129 z129 st129 hQ129
                      subst l129 y129 z129
                      obtain ⟨rfl, Nq129, hh129⟩ := hQ129
                      have N129 := Fr.app N128 Nq129
                      refine Ends.step (fun _ k => st129.trans k) ?_
                      show Ends p e below QQ (T129.setTop (mkF m 44 #[.val (.int p0), .val (.int p1), .val (.int (9 : Int32)), .val (.ref a_PREPARE), .val (.ref a_PREPARE)] [(.int (9 : Int32))]))
                      refine Ends.step (fun _ k => XS.iloadN X129.here hx rfl (hb hby at_44) rfl k) ?_
                      show Ends p e below QQ (T129.setTop (mkF m 45 #[.val (.int p0), .val (.int p1), .val (.int (9 : Int32)), .val (.ref a_PREPARE), .val (.ref a_PREPARE)] [(.int (9 : Int32)), (.int (9 : Int32))]))
                      refine Ends.step (fun _ k => XS.icmpYes X129.here hx rfl (pc0 := 45) (pc' := 50) rfl (hb hby at_45) rfl (XT.ii_eq_t (by decide)) (by decide) (by decide) k) ?_
                      show Ends p e below QQ (T129.setTop (mkF m 50 #[.val (.int p0), .val (.int p1), .val (.int (9 : Int32)), .val (.ref a_PREPARE), .val (.ref a_PREPARE)] []))
                      refine Ends.step (fun _ k => XT.iconstV X129.here hx rfl (1 : Int32) (hb hby at_50) rfl k) ?_
                      show Ends p e below QQ (T129.setTop (mkF m 51 #[.val (.int p0), .val (.int p1), .val (.int (9 : Int32)), .val (.ref a_PREPARE), .val (.ref a_PREPARE)] [(.int (1 : Int32))]))
                      exact Ends.fin (some (.int (1 : Int32))) X129 hQQ (fun h => by rw [Bd.returns] at h; cases h) Bd.notSynchronized (fun _ hr => retOut X129 hx (t := .boolean) Bd.returns rfl (Or.inl ⟨rfl, (by simp), _, rfl⟩) (hb hby at_51) hr) hh129 (by decide) (by decide) ⟨(by simp only [f0, dv16_1, if_neg hs17_91, if_neg hs17_95, if_neg hs17_99, if_neg hs17_103, if_neg hs17_107, if_neg hs17_110, if_neg hs17_114, if_neg hs17_118, if_neg hs17_122, if_pos hs17_126]), N129, (Keep.refl h0 [])⟩
                    · show Ends p e below QQ (s₁.setTop (mkF m 17 #[.val (.int p0), .val (.int p1), .val (.int v16_1), .unset, .unset] []))
                      by_cases hs17_130 : v16_1 = (10 : Int32)
                      · show Ends p e below QQ (s₁.setTop (mkF m 17 #[.val (.int p0), .val (.int p1), .val (.int v16_1), .unset, .unset] []))
                        rw [hs17_130]
                        show Ends p e below QQ (s₁.setTop (mkF m 17 #[.val (.int p0), .val (.int p1), .val (.int (10 : Int32)), .unset, .unset] []))
                        refine Ends.step (fun _ k => XS.iloadN X0.here hx rfl (hb hby at_17) rfl k) ?_
                        show Ends p e below QQ (s₁.setTop (mkF m 18 #[.val (.int p0), .val (.int p1), .val (.int (10 : Int32)), .unset, .unset] [(.int (10 : Int32))]))
                        obtain ⟨_, _, ⟨T131, L131, k131, n131⟩, -, X131, ⟨Lc131, hQ131, l131, y131, z131⟩, st131⟩ := Jvm.LawKit.callS X0 hx (y := (⟨"com/example/nuntius/nuntius/protocol/Opcode", "ofCode", "(I)Lcom/example/nuntius/nuntius/protocol/Opcode;"⟩ : MethodName)) hown (mvT hZ (hw _ (List.mem_of_getElem? (i := 0) rfl))) (mvT hZ (hw _ (List.mem_of_getElem? (i := 1) rfl))) (mvT hZ (hw _ (List.mem_of_getElem? (i := 2) rfl))) (mvT hZ (hw _ (List.mem_of_getElem? (i := 3) rfl))) (by decide) (backOf (W := 0) (rm1_10 l Z a0 hw [] a_BY_CODE a_ERROR a_AUTH_CHALLENGE a_SUPPORTED a_RESULT a_EVENT a_AUTHENTICATE a_EXECUTE a_AUTH_SUCCESS a_OPTIONS a_STARTUP a_PREPARE a_REGISTER a_READY a_QUERY a_AUTH_RESPONSE a_BATCH k_a_BY_CODE h0 n0 (Nat.le_trans Z0 (Keep.refl h0 []).1) A_a_BY_CODE S_BY_CODE) hZ (hw _ (List.mem_of_getElem? (i := 3) rfl)) (hw _ (List.mem_of_getElem? (i := 2) rfl)) (by decide) (by decide)) (g := (mkF m 18 #[.val (.int p0), .val (.int p1), .val (.int (10 : Int32)), .unset, .unset] [(.int (10 : Int32))])) rfl (by rw [hml]; rfl) (argsL := [(.int (10 : Int32))]) (rest := []) (lenOf pd_0 rfl) rfl (by show 2 * 0 + _ ≤ _; exact Nat.le_of_eq rfl) (hb hby at_18) (fun _ _ => ⟨rfl, e0, (by decide : 0 + 0 ≤ _), (by decide : 0 + 0 ≤ _)⟩)
                        dsimp only [Pt.U, Pt.locs, Pt.cells, Pt.slots] at X131 l131 y131 z131 st131 hQ131
                        subst l131 y131 z131
                        obtain ⟨rfl, Nq131, hh131⟩ := hQ131
                        have N131 := Fr.app N0 Nq131
                        refine Ends.step st131 ?_
                        show Ends p e below QQ (T131.setTop (mkF m 21 #[.val (.int p0), .val (.int p1), .val (.int (10 : Int32)), .unset, .unset] [(.ref a_EXECUTE)]))
                        refine Ends.step (fun _ k => XS.astoreN X131.here hx rfl (hb hby at_21) rfl rfl (l' := #[.val (.int p0), .val (.int p1), .val (.int (10 : Int32)), .val (.ref a_EXECUTE), .unset]) rfl k) ?_
                        show Ends p e below QQ (T131.setTop (mkF m 22 #[.val (.int p0), .val (.int p1), .val (.int (10 : Int32)), .val (.ref a_EXECUTE), .unset] []))
                        refine Ends.step (fun _ k => XS.iloadN X131.here hx rfl (hb hby at_22) rfl k) ?_
                        show Ends p e below QQ (T131.setTop (mkF m 23 #[.val (.int p0), .val (.int p1), .val (.int (10 : Int32)), .val (.ref a_EXECUTE), .unset] [(.int (10 : Int32))]))
                        obtain ⟨_, _, ⟨T132, L132, k132, n132⟩, -, X132, ⟨Lc132, hQ132, l132, y132, z132⟩, st132⟩ := Jvm.LawKit.callS X131 hx (y := (⟨"com/example/nuntius/nuntius/protocol/OpcodeOfCodePinLaw", "expected", "(I)Lcom/example/nuntius/nuntius/protocol/Opcode;"⟩ : MethodName)) hown (mvT hZ (hw _ (List.mem_of_getElem? (i := 7) rfl))) (mvT hZ (hw _ (List.mem_of_getElem? (i := 8) rfl))) (mvT hZ (hw _ (List.mem_of_getElem? (i := 9) rfl))) (mvT hZ (hw _ (List.mem_of_getElem? (i := 10) rfl))) (by decide) (backOf (W := 0) (rm2_10 l Z a0 hw [] a_EXECUTE h0 n0 (Nat.le_trans Z0 (Keep.refl h0 []).1) S_EXECUTE) hZ (hw _ (List.mem_of_getElem? (i := 10) rfl)) (hw _ (List.mem_of_getElem? (i := 9) rfl)) (by decide) (by decide)) (g := (mkF m 23 #[.val (.int p0), .val (.int p1), .val (.int (10 : Int32)), .val (.ref a_EXECUTE), .unset] [(.int (10 : Int32))])) rfl (by rw [hml]; rfl) (argsL := [(.int (10 : Int32))]) (rest := []) (lenOf pd_0 rfl) rfl (by show 2 * 0 + _ ≤ _; exact Nat.le_of_eq rfl) (hb hby at_23) (fun _ _ => ⟨rfl, hh131, (by decide : 0 + 0 ≤ _), (by decide : 0 + 0 ≤ _)⟩)
                        dsimp only [Pt.U, Pt.locs, Pt.cells, Pt.slots] at X132 l132 y132 z132 st132 hQ132
                        subst l132 y132 z132
                        obtain ⟨rfl, Nq132, hh132⟩ := hQ132
                        have N132 := Fr.app N131 Nq132
                        refine Ends.step st132 ?_
                        show Ends p e below QQ (T132.setTop (mkF m 26 #[.val (.int p0), .val (.int p1), .val (.int (10 : Int32)), .val (.ref a_EXECUTE), .unset] [(.ref a_EXECUTE)]))
                        refine Ends.step (fun _ k => XS.astore X132.here hx rfl (hb hby at_26) rfl rfl (l' := #[.val (.int p0), .val (.int p1), .val (.int (10 : Int32)), .val (.ref a_EXECUTE), .val (.ref a_EXECUTE)]) rfl k) ?_
                        show Ends p e below QQ (T132.setTop (mkF m 28 #[.val (.int p0), .val (.int p1), .val (.int (10 : Int32)), .val (.ref a_EXECUTE), .val (.ref a_EXECUTE)] []))
                        refine Ends.step (fun _ k => XS.aloadN X132.here hx rfl (hb hby at_28) rfl rfl k) ?_
                        show Ends p e below QQ (T132.setTop (mkF m 29 #[.val (.int p0), .val (.int p1), .val (.int (10 : Int32)), .val (.ref a_EXECUTE), .val (.ref a_EXECUTE)] [(.ref a_EXECUTE)]))
                        refine Ends.step (fun _ k => XS.aload X132.here hx rfl (hb hby at_29) rfl rfl k) ?_
                        show Ends p e below QQ (T132.setTop (mkF m 31 #[.val (.int p0), .val (.int p1), .val (.int (10 : Int32)), .val (.ref a_EXECUTE), .val (.ref a_EXECUTE)] [(.ref a_EXECUTE), (.ref a_EXECUTE)]))
                        refine Ends.step (fun _ k => Jvm.RoadKit.acmp (g := (mkF m 31 #[.val (.int p0), .val (.int p1), .val (.int (10 : Int32)), .val (.ref a_EXECUTE), .val (.ref a_EXECUTE)] [(.ref a_EXECUTE), (.ref a_EXECUTE)])) X132 hx rfl rfl rfl (pc0 := 31) (pc' := 36) (same := true) rfl (hb hby at_31) rfl (decide_eq_true rfl) (by decide) (by decide) k) ?_
                        show Ends p e below QQ (T132.setTop (mkF m 36 #[.val (.int p0), .val (.int p1), .val (.int (10 : Int32)), .val (.ref a_EXECUTE), .val (.ref a_EXECUTE)] []))
                        refine Ends.step (fun _ k => XS.aloadN X132.here hx rfl (hb hby at_36) rfl rfl k) ?_
                        show Ends p e below QQ (T132.setTop (mkF m 37 #[.val (.int p0), .val (.int p1), .val (.int (10 : Int32)), .val (.ref a_EXECUTE), .val (.ref a_EXECUTE)] [(.ref a_EXECUTE)]))
                        refine Ends.step (fun _ k => XS.ifnullNo X132.here hx rfl (hb hby at_37) rfl k) ?_
                        show Ends p e below QQ (T132.setTop (mkF m 40 #[.val (.int p0), .val (.int p1), .val (.int (10 : Int32)), .val (.ref a_EXECUTE), .val (.ref a_EXECUTE)] []))
                        refine Ends.step (fun _ k => XS.aloadN X132.here hx rfl (hb hby at_40) rfl rfl k) ?_
                        show Ends p e below QQ (T132.setTop (mkF m 41 #[.val (.int p0), .val (.int p1), .val (.int (10 : Int32)), .val (.ref a_EXECUTE), .val (.ref a_EXECUTE)] [(.ref a_EXECUTE)]))
                        obtain ⟨cq133, kq133, q133a, q133b, q133c⟩ := isOf hZ hh132 E_a_EXECUTE
                        obtain ⟨_, _, ⟨T133, L133, k133, n133⟩, -, X133, ⟨Lc133, hQ133, l133, y133, z133⟩, st133⟩ := X132.virtualBack hx (y := (⟨"com/example/nuntius/nuntius/protocol/Opcode", "code", "()I"⟩ : MethodName)) (z := (⟨"com/example/nuntius/nuntius/protocol/Opcode", "code", "()I"⟩ : MethodName)) hown (mvT hZ (hw _ (List.mem_of_getElem? (i := 12) rfl))) (mvT hZ (hw _ (List.mem_of_getElem? (i := 13) rfl))) (notFace_of_selects (args := #[]) (mvT hZ (hw _ (List.mem_of_getElem? (i := 15) rfl)))) (mvT hZ (hw _ (List.mem_of_getElem? (i := 15) rfl))) (mvT hZ (hw _ (List.mem_of_getElem? (i := 14) rfl))) (by decide) (backOf (W := 0) (rm3 l Z a0 hw [] a_EXECUTE (10 : Int32) h0 n0 (Nat.le_trans Z0 (Keep.refl h0 []).1) F_code_a_EXECUTE) hZ (hw _ (List.mem_of_getElem? (i := 16) rfl)) (hw _ (List.mem_of_getElem? (i := 2) rfl)) (by decide) (by decide)) q133a q133c (g := (mkF m 41 #[.val (.int p0), .val (.int p1), .val (.int (10 : Int32)), .val (.ref a_EXECUTE), .val (.ref a_EXECUTE)] [(.ref a_EXECUTE)])) rfl (by rw [hml]; rfl) (Steps.refl _) (argsL := []) (rest := []) (lenOf pd_1 rfl) rfl (by show 2 * 0 + _ ≤ _; exact Nat.le_of_eq rfl) (hb hby at_41) (fun _ _ => ⟨rfl, hh132, (by decide : 0 + 0 ≤ _), (by decide : 0 + 0 ≤ _)⟩)
                        dsimp only [Pt.U, Pt.locs, Pt.cells, Pt.slots] at X133 l133 y133 z133 st133 hQ133
                        subst l133 y133 z133
                        obtain ⟨rfl, Nq133, hh133⟩ := hQ133
                        have N133 := Fr.app N132 Nq133
                        refine Ends.step (fun _ k => st133.trans k) ?_
                        show Ends p e below QQ (T133.setTop (mkF m 44 #[.val (.int p0), .val (.int p1), .val (.int (10 : Int32)), .val (.ref a_EXECUTE), .val (.ref a_EXECUTE)] [(.int (10 : Int32))]))
                        refine Ends.step (fun _ k => XS.iloadN X133.here hx rfl (hb hby at_44) rfl k) ?_
                        show Ends p e below QQ (T133.setTop (mkF m 45 #[.val (.int p0), .val (.int p1), .val (.int (10 : Int32)), .val (.ref a_EXECUTE), .val (.ref a_EXECUTE)] [(.int (10 : Int32)), (.int (10 : Int32))]))
                        refine Ends.step (fun _ k => XS.icmpYes X133.here hx rfl (pc0 := 45) (pc' := 50) rfl (hb hby at_45) rfl (XT.ii_eq_t (by decide)) (by decide) (by decide) k) ?_
                        show Ends p e below QQ (T133.setTop (mkF m 50 #[.val (.int p0), .val (.int p1), .val (.int (10 : Int32)), .val (.ref a_EXECUTE), .val (.ref a_EXECUTE)] []))
                        refine Ends.step (fun _ k => XT.iconstV X133.here hx rfl (1 : Int32) (hb hby at_50) rfl k) ?_
                        show Ends p e below QQ (T133.setTop (mkF m 51 #[.val (.int p0), .val (.int p1), .val (.int (10 : Int32)), .val (.ref a_EXECUTE), .val (.ref a_EXECUTE)] [(.int (1 : Int32))]))
                        exact Ends.fin (some (.int (1 : Int32))) X133 hQQ (fun h => by rw [Bd.returns] at h; cases h) Bd.notSynchronized (fun _ hr => retOut X133 hx (t := .boolean) Bd.returns rfl (Or.inl ⟨rfl, (by simp), _, rfl⟩) (hb hby at_51) hr) hh133 (by decide) (by decide) ⟨(by simp only [f0, dv16_1, if_neg hs17_91, if_neg hs17_95, if_neg hs17_99, if_neg hs17_103, if_neg hs17_107, if_neg hs17_110, if_neg hs17_114, if_neg hs17_118, if_neg hs17_122, if_neg hs17_126, if_pos hs17_130]), N133, (Keep.refl h0 [])⟩
                      · show Ends p e below QQ (s₁.setTop (mkF m 17 #[.val (.int p0), .val (.int p1), .val (.int v16_1), .unset, .unset] []))
                        by_cases hs17_134 : v16_1 = (11 : Int32)
                        · show Ends p e below QQ (s₁.setTop (mkF m 17 #[.val (.int p0), .val (.int p1), .val (.int v16_1), .unset, .unset] []))
                          rw [hs17_134]
                          show Ends p e below QQ (s₁.setTop (mkF m 17 #[.val (.int p0), .val (.int p1), .val (.int (11 : Int32)), .unset, .unset] []))
                          refine Ends.step (fun _ k => XS.iloadN X0.here hx rfl (hb hby at_17) rfl k) ?_
                          show Ends p e below QQ (s₁.setTop (mkF m 18 #[.val (.int p0), .val (.int p1), .val (.int (11 : Int32)), .unset, .unset] [(.int (11 : Int32))]))
                          obtain ⟨_, _, ⟨T135, L135, k135, n135⟩, -, X135, ⟨Lc135, hQ135, l135, y135, z135⟩, st135⟩ := Jvm.LawKit.callS X0 hx (y := (⟨"com/example/nuntius/nuntius/protocol/Opcode", "ofCode", "(I)Lcom/example/nuntius/nuntius/protocol/Opcode;"⟩ : MethodName)) hown (mvT hZ (hw _ (List.mem_of_getElem? (i := 0) rfl))) (mvT hZ (hw _ (List.mem_of_getElem? (i := 1) rfl))) (mvT hZ (hw _ (List.mem_of_getElem? (i := 2) rfl))) (mvT hZ (hw _ (List.mem_of_getElem? (i := 3) rfl))) (by decide) (backOf (W := 0) (rm1_11 l Z a0 hw [] a_BY_CODE a_ERROR a_AUTH_CHALLENGE a_SUPPORTED a_RESULT a_EVENT a_AUTHENTICATE a_EXECUTE a_AUTH_SUCCESS a_OPTIONS a_STARTUP a_PREPARE a_REGISTER a_READY a_QUERY a_AUTH_RESPONSE a_BATCH k_a_BY_CODE h0 n0 (Nat.le_trans Z0 (Keep.refl h0 []).1) A_a_BY_CODE S_BY_CODE) hZ (hw _ (List.mem_of_getElem? (i := 3) rfl)) (hw _ (List.mem_of_getElem? (i := 2) rfl)) (by decide) (by decide)) (g := (mkF m 18 #[.val (.int p0), .val (.int p1), .val (.int (11 : Int32)), .unset, .unset] [(.int (11 : Int32))])) rfl (by rw [hml]; rfl) (argsL := [(.int (11 : Int32))]) (rest := []) (lenOf pd_0 rfl) rfl (by show 2 * 0 + _ ≤ _; exact Nat.le_of_eq rfl) (hb hby at_18) (fun _ _ => ⟨rfl, e0, (by decide : 0 + 0 ≤ _), (by decide : 0 + 0 ≤ _)⟩)
                          dsimp only [Pt.U, Pt.locs, Pt.cells, Pt.slots] at X135 l135 y135 z135 st135 hQ135
                          subst l135 y135 z135
                          obtain ⟨rfl, Nq135, hh135⟩ := hQ135
                          have N135 := Fr.app N0 Nq135
                          refine Ends.step st135 ?_
                          show Ends p e below QQ (T135.setTop (mkF m 21 #[.val (.int p0), .val (.int p1), .val (.int (11 : Int32)), .unset, .unset] [(.ref a_REGISTER)]))
                          refine Ends.step (fun _ k => XS.astoreN X135.here hx rfl (hb hby at_21) rfl rfl (l' := #[.val (.int p0), .val (.int p1), .val (.int (11 : Int32)), .val (.ref a_REGISTER), .unset]) rfl k) ?_
                          show Ends p e below QQ (T135.setTop (mkF m 22 #[.val (.int p0), .val (.int p1), .val (.int (11 : Int32)), .val (.ref a_REGISTER), .unset] []))
                          refine Ends.step (fun _ k => XS.iloadN X135.here hx rfl (hb hby at_22) rfl k) ?_
                          show Ends p e below QQ (T135.setTop (mkF m 23 #[.val (.int p0), .val (.int p1), .val (.int (11 : Int32)), .val (.ref a_REGISTER), .unset] [(.int (11 : Int32))]))
                          obtain ⟨_, _, ⟨T136, L136, k136, n136⟩, -, X136, ⟨Lc136, hQ136, l136, y136, z136⟩, st136⟩ := Jvm.LawKit.callS X135 hx (y := (⟨"com/example/nuntius/nuntius/protocol/OpcodeOfCodePinLaw", "expected", "(I)Lcom/example/nuntius/nuntius/protocol/Opcode;"⟩ : MethodName)) hown (mvT hZ (hw _ (List.mem_of_getElem? (i := 7) rfl))) (mvT hZ (hw _ (List.mem_of_getElem? (i := 8) rfl))) (mvT hZ (hw _ (List.mem_of_getElem? (i := 9) rfl))) (mvT hZ (hw _ (List.mem_of_getElem? (i := 10) rfl))) (by decide) (backOf (W := 0) (rm2_11 l Z a0 hw [] a_REGISTER h0 n0 (Nat.le_trans Z0 (Keep.refl h0 []).1) S_REGISTER) hZ (hw _ (List.mem_of_getElem? (i := 10) rfl)) (hw _ (List.mem_of_getElem? (i := 9) rfl)) (by decide) (by decide)) (g := (mkF m 23 #[.val (.int p0), .val (.int p1), .val (.int (11 : Int32)), .val (.ref a_REGISTER), .unset] [(.int (11 : Int32))])) rfl (by rw [hml]; rfl) (argsL := [(.int (11 : Int32))]) (rest := []) (lenOf pd_0 rfl) rfl (by show 2 * 0 + _ ≤ _; exact Nat.le_of_eq rfl) (hb hby at_23) (fun _ _ => ⟨rfl, hh135, (by decide : 0 + 0 ≤ _), (by decide : 0 + 0 ≤ _)⟩)
                          dsimp only [Pt.U, Pt.locs, Pt.cells, Pt.slots] at X136 l136 y136 z136 st136 hQ136
                          subst l136 y136 z136
                          obtain ⟨rfl, Nq136, hh136⟩ := hQ136
                          have N136 := Fr.app N135 Nq136
                          refine Ends.step st136 ?_
                          show Ends p e below QQ (T136.setTop (mkF m 26 #[.val (.int p0), .val (.int p1), .val (.int (11 : Int32)), .val (.ref a_REGISTER), .unset] [(.ref a_REGISTER)]))
                          refine Ends.step (fun _ k => XS.astore X136.here hx rfl (hb hby at_26) rfl rfl (l' := #[.val (.int p0), .val (.int p1), .val (.int (11 : Int32)), .val (.ref a_REGISTER), .val (.ref a_REGISTER)]) rfl k) ?_
                          show Ends p e below QQ (T136.setTop (mkF m 28 #[.val (.int p0), .val (.int p1), .val (.int (11 : Int32)), .val (.ref a_REGISTER), .val (.ref a_REGISTER)] []))
                          refine Ends.step (fun _ k => XS.aloadN X136.here hx rfl (hb hby at_28) rfl rfl k) ?_
                          show Ends p e below QQ (T136.setTop (mkF m 29 #[.val (.int p0), .val (.int p1), .val (.int (11 : Int32)), .val (.ref a_REGISTER), .val (.ref a_REGISTER)] [(.ref a_REGISTER)]))
                          refine Ends.step (fun _ k => XS.aload X136.here hx rfl (hb hby at_29) rfl rfl k) ?_
                          show Ends p e below QQ (T136.setTop (mkF m 31 #[.val (.int p0), .val (.int p1), .val (.int (11 : Int32)), .val (.ref a_REGISTER), .val (.ref a_REGISTER)] [(.ref a_REGISTER), (.ref a_REGISTER)]))
                          refine Ends.step (fun _ k => Jvm.RoadKit.acmp (g := (mkF m 31 #[.val (.int p0), .val (.int p1), .val (.int (11 : Int32)), .val (.ref a_REGISTER), .val (.ref a_REGISTER)] [(.ref a_REGISTER), (.ref a_REGISTER)])) X136 hx rfl rfl rfl (pc0 := 31) (pc' := 36) (same := true) rfl (hb hby at_31) rfl (decide_eq_true rfl) (by decide) (by decide) k) ?_
                          show Ends p e below QQ (T136.setTop (mkF m 36 #[.val (.int p0), .val (.int p1), .val (.int (11 : Int32)), .val (.ref a_REGISTER), .val (.ref a_REGISTER)] []))
                          refine Ends.step (fun _ k => XS.aloadN X136.here hx rfl (hb hby at_36) rfl rfl k) ?_
                          show Ends p e below QQ (T136.setTop (mkF m 37 #[.val (.int p0), .val (.int p1), .val (.int (11 : Int32)), .val (.ref a_REGISTER), .val (.ref a_REGISTER)] [(.ref a_REGISTER)]))
                          refine Ends.step (fun _ k => XS.ifnullNo X136.here hx rfl (hb hby at_37) rfl k) ?_
                          show Ends p e below QQ (T136.setTop (mkF m 40 #[.val (.int p0), .val (.int p1), .val (.int (11 : Int32)), .val (.ref a_REGISTER), .val (.ref a_REGISTER)] []))
                          refine Ends.step (fun _ k => XS.aloadN X136.here hx rfl (hb hby at_40) rfl rfl k) ?_
                          show Ends p e below QQ (T136.setTop (mkF m 41 #[.val (.int p0), .val (.int p1), .val (.int (11 : Int32)), .val (.ref a_REGISTER), .val (.ref a_REGISTER)] [(.ref a_REGISTER)]))
                          obtain ⟨cq137, kq137, q137a, q137b, q137c⟩ := isOf hZ hh136 E_a_REGISTER
                          obtain ⟨_, _, ⟨T137, L137, k137, n137⟩, -, X137, ⟨Lc137, hQ137, l137, y137, z137⟩, st137⟩ := X136.virtualBack hx (y := (⟨"com/example/nuntius/nuntius/protocol/Opcode", "code", "()I"⟩ : MethodName)) (z := (⟨"com/example/nuntius/nuntius/protocol/Opcode", "code", "()I"⟩ : MethodName)) hown (mvT hZ (hw _ (List.mem_of_getElem? (i := 12) rfl))) (mvT hZ (hw _ (List.mem_of_getElem? (i := 13) rfl))) (notFace_of_selects (args := #[]) (mvT hZ (hw _ (List.mem_of_getElem? (i := 15) rfl)))) (mvT hZ (hw _ (List.mem_of_getElem? (i := 15) rfl))) (mvT hZ (hw _ (List.mem_of_getElem? (i := 14) rfl))) (by decide) (backOf (W := 0) (rm3 l Z a0 hw [] a_REGISTER (11 : Int32) h0 n0 (Nat.le_trans Z0 (Keep.refl h0 []).1) F_code_a_REGISTER) hZ (hw _ (List.mem_of_getElem? (i := 16) rfl)) (hw _ (List.mem_of_getElem? (i := 2) rfl)) (by decide) (by decide)) q137a q137c (g := (mkF m 41 #[.val (.int p0), .val (.int p1), .val (.int (11 : Int32)), .val (.ref a_REGISTER), .val (.ref a_REGISTER)] [(.ref a_REGISTER)])) rfl (by rw [hml]; rfl) (Steps.refl _) (argsL := []) (rest := []) (lenOf pd_1 rfl) rfl (by show 2 * 0 + _ ≤ _; exact Nat.le_of_eq rfl) (hb hby at_41) (fun _ _ => ⟨rfl, hh136, (by decide : 0 + 0 ≤ _), (by decide : 0 + 0 ≤ _)⟩)
                          dsimp only [Pt.U, Pt.locs, Pt.cells, Pt.slots] at X137 l137 y137 z137 st137 hQ137
                          subst l137 y137 z137
                          obtain ⟨rfl, Nq137, hh137⟩ := hQ137
                          have N137 := Fr.app N136 Nq137
                          refine Ends.step (fun _ k => st137.trans k) ?_
                          show Ends p e below QQ (T137.setTop (mkF m 44 #[.val (.int p0), .val (.int p1), .val (.int (11 : Int32)), .val (.ref a_REGISTER), .val (.ref a_REGISTER)] [(.int (11 : Int32))]))
                          refine Ends.step (fun _ k => XS.iloadN X137.here hx rfl (hb hby at_44) rfl k) ?_
                          show Ends p e below QQ (T137.setTop (mkF m 45 #[.val (.int p0), .val (.int p1), .val (.int (11 : Int32)), .val (.ref a_REGISTER), .val (.ref a_REGISTER)] [(.int (11 : Int32)), (.int (11 : Int32))]))
                          refine Ends.step (fun _ k => XS.icmpYes X137.here hx rfl (pc0 := 45) (pc' := 50) rfl (hb hby at_45) rfl (XT.ii_eq_t (by decide)) (by decide) (by decide) k) ?_
                          show Ends p e below QQ (T137.setTop (mkF m 50 #[.val (.int p0), .val (.int p1), .val (.int (11 : Int32)), .val (.ref a_REGISTER), .val (.ref a_REGISTER)] []))
                          refine Ends.step (fun _ k => XT.iconstV X137.here hx rfl (1 : Int32) (hb hby at_50) rfl k) ?_
                          show Ends p e below QQ (T137.setTop (mkF m 51 #[.val (.int p0), .val (.int p1), .val (.int (11 : Int32)), .val (.ref a_REGISTER), .val (.ref a_REGISTER)] [(.int (1 : Int32))]))
                          exact Ends.fin (some (.int (1 : Int32))) X137 hQQ (fun h => by rw [Bd.returns] at h; cases h) Bd.notSynchronized (fun _ hr => retOut X137 hx (t := .boolean) Bd.returns rfl (Or.inl ⟨rfl, (by simp), _, rfl⟩) (hb hby at_51) hr) hh137 (by decide) (by decide) ⟨(by simp only [f0, dv16_1, if_neg hs17_91, if_neg hs17_95, if_neg hs17_99, if_neg hs17_103, if_neg hs17_107, if_neg hs17_110, if_neg hs17_114, if_neg hs17_118, if_neg hs17_122, if_neg hs17_126, if_neg hs17_130, if_pos hs17_134]), N137, (Keep.refl h0 [])⟩
                        · show Ends p e below QQ (s₁.setTop (mkF m 17 #[.val (.int p0), .val (.int p1), .val (.int v16_1), .unset, .unset] []))
                          by_cases hs17_138 : v16_1 = (12 : Int32)
                          · show Ends p e below QQ (s₁.setTop (mkF m 17 #[.val (.int p0), .val (.int p1), .val (.int v16_1), .unset, .unset] []))
                            rw [hs17_138]
                            show Ends p e below QQ (s₁.setTop (mkF m 17 #[.val (.int p0), .val (.int p1), .val (.int (12 : Int32)), .unset, .unset] []))
                            refine Ends.step (fun _ k => XS.iloadN X0.here hx rfl (hb hby at_17) rfl k) ?_
                            show Ends p e below QQ (s₁.setTop (mkF m 18 #[.val (.int p0), .val (.int p1), .val (.int (12 : Int32)), .unset, .unset] [(.int (12 : Int32))]))
                            obtain ⟨_, _, ⟨T139, L139, k139, n139⟩, -, X139, ⟨Lc139, hQ139, l139, y139, z139⟩, st139⟩ := Jvm.LawKit.callS X0 hx (y := (⟨"com/example/nuntius/nuntius/protocol/Opcode", "ofCode", "(I)Lcom/example/nuntius/nuntius/protocol/Opcode;"⟩ : MethodName)) hown (mvT hZ (hw _ (List.mem_of_getElem? (i := 0) rfl))) (mvT hZ (hw _ (List.mem_of_getElem? (i := 1) rfl))) (mvT hZ (hw _ (List.mem_of_getElem? (i := 2) rfl))) (mvT hZ (hw _ (List.mem_of_getElem? (i := 3) rfl))) (by decide) (backOf (W := 0) (rm1_12 l Z a0 hw [] a_BY_CODE a_ERROR a_AUTH_CHALLENGE a_SUPPORTED a_RESULT a_EVENT a_AUTHENTICATE a_EXECUTE a_AUTH_SUCCESS a_OPTIONS a_STARTUP a_PREPARE a_REGISTER a_READY a_QUERY a_AUTH_RESPONSE a_BATCH k_a_BY_CODE h0 n0 (Nat.le_trans Z0 (Keep.refl h0 []).1) A_a_BY_CODE S_BY_CODE) hZ (hw _ (List.mem_of_getElem? (i := 3) rfl)) (hw _ (List.mem_of_getElem? (i := 2) rfl)) (by decide) (by decide)) (g := (mkF m 18 #[.val (.int p0), .val (.int p1), .val (.int (12 : Int32)), .unset, .unset] [(.int (12 : Int32))])) rfl (by rw [hml]; rfl) (argsL := [(.int (12 : Int32))]) (rest := []) (lenOf pd_0 rfl) rfl (by show 2 * 0 + _ ≤ _; exact Nat.le_of_eq rfl) (hb hby at_18) (fun _ _ => ⟨rfl, e0, (by decide : 0 + 0 ≤ _), (by decide : 0 + 0 ≤ _)⟩)
                            dsimp only [Pt.U, Pt.locs, Pt.cells, Pt.slots] at X139 l139 y139 z139 st139 hQ139
                            subst l139 y139 z139
                            obtain ⟨rfl, Nq139, hh139⟩ := hQ139
                            have N139 := Fr.app N0 Nq139
                            refine Ends.step st139 ?_
                            show Ends p e below QQ (T139.setTop (mkF m 21 #[.val (.int p0), .val (.int p1), .val (.int (12 : Int32)), .unset, .unset] [(.ref a_EVENT)]))
                            refine Ends.step (fun _ k => XS.astoreN X139.here hx rfl (hb hby at_21) rfl rfl (l' := #[.val (.int p0), .val (.int p1), .val (.int (12 : Int32)), .val (.ref a_EVENT), .unset]) rfl k) ?_
                            show Ends p e below QQ (T139.setTop (mkF m 22 #[.val (.int p0), .val (.int p1), .val (.int (12 : Int32)), .val (.ref a_EVENT), .unset] []))
                            refine Ends.step (fun _ k => XS.iloadN X139.here hx rfl (hb hby at_22) rfl k) ?_
                            show Ends p e below QQ (T139.setTop (mkF m 23 #[.val (.int p0), .val (.int p1), .val (.int (12 : Int32)), .val (.ref a_EVENT), .unset] [(.int (12 : Int32))]))
                            obtain ⟨_, _, ⟨T140, L140, k140, n140⟩, -, X140, ⟨Lc140, hQ140, l140, y140, z140⟩, st140⟩ := Jvm.LawKit.callS X139 hx (y := (⟨"com/example/nuntius/nuntius/protocol/OpcodeOfCodePinLaw", "expected", "(I)Lcom/example/nuntius/nuntius/protocol/Opcode;"⟩ : MethodName)) hown (mvT hZ (hw _ (List.mem_of_getElem? (i := 7) rfl))) (mvT hZ (hw _ (List.mem_of_getElem? (i := 8) rfl))) (mvT hZ (hw _ (List.mem_of_getElem? (i := 9) rfl))) (mvT hZ (hw _ (List.mem_of_getElem? (i := 10) rfl))) (by decide) (backOf (W := 0) (rm2_12 l Z a0 hw [] a_EVENT h0 n0 (Nat.le_trans Z0 (Keep.refl h0 []).1) S_EVENT) hZ (hw _ (List.mem_of_getElem? (i := 10) rfl)) (hw _ (List.mem_of_getElem? (i := 9) rfl)) (by decide) (by decide)) (g := (mkF m 23 #[.val (.int p0), .val (.int p1), .val (.int (12 : Int32)), .val (.ref a_EVENT), .unset] [(.int (12 : Int32))])) rfl (by rw [hml]; rfl) (argsL := [(.int (12 : Int32))]) (rest := []) (lenOf pd_0 rfl) rfl (by show 2 * 0 + _ ≤ _; exact Nat.le_of_eq rfl) (hb hby at_23) (fun _ _ => ⟨rfl, hh139, (by decide : 0 + 0 ≤ _), (by decide : 0 + 0 ≤ _)⟩)
                            dsimp only [Pt.U, Pt.locs, Pt.cells, Pt.slots] at X140 l140 y140 z140 st140 hQ140
                            subst l140 y140 z140
                            obtain ⟨rfl, Nq140, hh140⟩ := hQ140
                            have N140 := Fr.app N139 Nq140
                            refine Ends.step st140 ?_
                            show Ends p e below QQ (T140.setTop (mkF m 26 #[.val (.int p0), .val (.int p1), .val (.int (12 : Int32)), .val (.ref a_EVENT), .unset] [(.ref a_EVENT)]))
                            refine Ends.step (fun _ k => XS.astore X140.here hx rfl (hb hby at_26) rfl rfl (l' := #[.val (.int p0), .val (.int p1), .val (.int (12 : Int32)), .val (.ref a_EVENT), .val (.ref a_EVENT)]) rfl k) ?_
                            show Ends p e below QQ (T140.setTop (mkF m 28 #[.val (.int p0), .val (.int p1), .val (.int (12 : Int32)), .val (.ref a_EVENT), .val (.ref a_EVENT)] []))
                            refine Ends.step (fun _ k => XS.aloadN X140.here hx rfl (hb hby at_28) rfl rfl k) ?_
                            show Ends p e below QQ (T140.setTop (mkF m 29 #[.val (.int p0), .val (.int p1), .val (.int (12 : Int32)), .val (.ref a_EVENT), .val (.ref a_EVENT)] [(.ref a_EVENT)]))
                            refine Ends.step (fun _ k => XS.aload X140.here hx rfl (hb hby at_29) rfl rfl k) ?_
                            show Ends p e below QQ (T140.setTop (mkF m 31 #[.val (.int p0), .val (.int p1), .val (.int (12 : Int32)), .val (.ref a_EVENT), .val (.ref a_EVENT)] [(.ref a_EVENT), (.ref a_EVENT)]))
                            refine Ends.step (fun _ k => Jvm.RoadKit.acmp (g := (mkF m 31 #[.val (.int p0), .val (.int p1), .val (.int (12 : Int32)), .val (.ref a_EVENT), .val (.ref a_EVENT)] [(.ref a_EVENT), (.ref a_EVENT)])) X140 hx rfl rfl rfl (pc0 := 31) (pc' := 36) (same := true) rfl (hb hby at_31) rfl (decide_eq_true rfl) (by decide) (by decide) k) ?_
                            show Ends p e below QQ (T140.setTop (mkF m 36 #[.val (.int p0), .val (.int p1), .val (.int (12 : Int32)), .val (.ref a_EVENT), .val (.ref a_EVENT)] []))
                            refine Ends.step (fun _ k => XS.aloadN X140.here hx rfl (hb hby at_36) rfl rfl k) ?_
                            show Ends p e below QQ (T140.setTop (mkF m 37 #[.val (.int p0), .val (.int p1), .val (.int (12 : Int32)), .val (.ref a_EVENT), .val (.ref a_EVENT)] [(.ref a_EVENT)]))
                            refine Ends.step (fun _ k => XS.ifnullNo X140.here hx rfl (hb hby at_37) rfl k) ?_
                            show Ends p e below QQ (T140.setTop (mkF m 40 #[.val (.int p0), .val (.int p1), .val (.int (12 : Int32)), .val (.ref a_EVENT), .val (.ref a_EVENT)] []))
                            refine Ends.step (fun _ k => XS.aloadN X140.here hx rfl (hb hby at_40) rfl rfl k) ?_
                            show Ends p e below QQ (T140.setTop (mkF m 41 #[.val (.int p0), .val (.int p1), .val (.int (12 : Int32)), .val (.ref a_EVENT), .val (.ref a_EVENT)] [(.ref a_EVENT)]))
                            obtain ⟨cq141, kq141, q141a, q141b, q141c⟩ := isOf hZ hh140 E_a_EVENT
                            obtain ⟨_, _, ⟨T141, L141, k141, n141⟩, -, X141, ⟨Lc141, hQ141, l141, y141, z141⟩, st141⟩ := X140.virtualBack hx (y := (⟨"com/example/nuntius/nuntius/protocol/Opcode", "code", "()I"⟩ : MethodName)) (z := (⟨"com/example/nuntius/nuntius/protocol/Opcode", "code", "()I"⟩ : MethodName)) hown (mvT hZ (hw _ (List.mem_of_getElem? (i := 12) rfl))) (mvT hZ (hw _ (List.mem_of_getElem? (i := 13) rfl))) (notFace_of_selects (args := #[]) (mvT hZ (hw _ (List.mem_of_getElem? (i := 15) rfl)))) (mvT hZ (hw _ (List.mem_of_getElem? (i := 15) rfl))) (mvT hZ (hw _ (List.mem_of_getElem? (i := 14) rfl))) (by decide) (backOf (W := 0) (rm3 l Z a0 hw [] a_EVENT (12 : Int32) h0 n0 (Nat.le_trans Z0 (Keep.refl h0 []).1) F_code_a_EVENT) hZ (hw _ (List.mem_of_getElem? (i := 16) rfl)) (hw _ (List.mem_of_getElem? (i := 2) rfl)) (by decide) (by decide)) q141a q141c (g := (mkF m 41 #[.val (.int p0), .val (.int p1), .val (.int (12 : Int32)), .val (.ref a_EVENT), .val (.ref a_EVENT)] [(.ref a_EVENT)])) rfl (by rw [hml]; rfl) (Steps.refl _) (argsL := []) (rest := []) (lenOf pd_1 rfl) rfl (by show 2 * 0 + _ ≤ _; exact Nat.le_of_eq rfl) (hb hby at_41) (fun _ _ => ⟨rfl, hh140, (by decide : 0 + 0 ≤ _), (by decide : 0 + 0 ≤ _)⟩)
                            dsimp only [Pt.U, Pt.locs, Pt.cells, Pt.slots] at X141 l141 y141 z141 st141 hQ141
                            subst l141 y141 z141
                            obtain ⟨rfl, Nq141, hh141⟩ := hQ141
                            have N141 := Fr.app N140 Nq141
                            refine Ends.step (fun _ k => st141.trans k) ?_
                            show Ends p e below QQ (T141.setTop (mkF m 44 #[.val (.int p0), .val (.int p1), .val (.int (12 : Int32)), .val (.ref a_EVENT), .val (.ref a_EVENT)] [(.int (12 : Int32))]))
                            refine Ends.step (fun _ k => XS.iloadN X141.here hx rfl (hb hby at_44) rfl k) ?_
                            show Ends p e below QQ (T141.setTop (mkF m 45 #[.val (.int p0), .val (.int p1), .val (.int (12 : Int32)), .val (.ref a_EVENT), .val (.ref a_EVENT)] [(.int (12 : Int32)), (.int (12 : Int32))]))
                            refine Ends.step (fun _ k => XS.icmpYes X141.here hx rfl (pc0 := 45) (pc' := 50) rfl (hb hby at_45) rfl (XT.ii_eq_t (by decide)) (by decide) (by decide) k) ?_
                            show Ends p e below QQ (T141.setTop (mkF m 50 #[.val (.int p0), .val (.int p1), .val (.int (12 : Int32)), .val (.ref a_EVENT), .val (.ref a_EVENT)] []))
                            refine Ends.step (fun _ k => XT.iconstV X141.here hx rfl (1 : Int32) (hb hby at_50) rfl k) ?_
                            show Ends p e below QQ (T141.setTop (mkF m 51 #[.val (.int p0), .val (.int p1), .val (.int (12 : Int32)), .val (.ref a_EVENT), .val (.ref a_EVENT)] [(.int (1 : Int32))]))
                            exact Ends.fin (some (.int (1 : Int32))) X141 hQQ (fun h => by rw [Bd.returns] at h; cases h) Bd.notSynchronized (fun _ hr => retOut X141 hx (t := .boolean) Bd.returns rfl (Or.inl ⟨rfl, (by simp), _, rfl⟩) (hb hby at_51) hr) hh141 (by decide) (by decide) ⟨(by simp only [f0, dv16_1, if_neg hs17_91, if_neg hs17_95, if_neg hs17_99, if_neg hs17_103, if_neg hs17_107, if_neg hs17_110, if_neg hs17_114, if_neg hs17_118, if_neg hs17_122, if_neg hs17_126, if_neg hs17_130, if_neg hs17_134, if_pos hs17_138]), N141, (Keep.refl h0 [])⟩
                          · show Ends p e below QQ (s₁.setTop (mkF m 17 #[.val (.int p0), .val (.int p1), .val (.int v16_1), .unset, .unset] []))
                            by_cases hs17_142 : v16_1 = (13 : Int32)
                            · show Ends p e below QQ (s₁.setTop (mkF m 17 #[.val (.int p0), .val (.int p1), .val (.int v16_1), .unset, .unset] []))
                              rw [hs17_142]
                              show Ends p e below QQ (s₁.setTop (mkF m 17 #[.val (.int p0), .val (.int p1), .val (.int (13 : Int32)), .unset, .unset] []))
                              refine Ends.step (fun _ k => XS.iloadN X0.here hx rfl (hb hby at_17) rfl k) ?_
                              show Ends p e below QQ (s₁.setTop (mkF m 18 #[.val (.int p0), .val (.int p1), .val (.int (13 : Int32)), .unset, .unset] [(.int (13 : Int32))]))
                              obtain ⟨_, _, ⟨T143, L143, k143, n143⟩, -, X143, ⟨Lc143, hQ143, l143, y143, z143⟩, st143⟩ := Jvm.LawKit.callS X0 hx (y := (⟨"com/example/nuntius/nuntius/protocol/Opcode", "ofCode", "(I)Lcom/example/nuntius/nuntius/protocol/Opcode;"⟩ : MethodName)) hown (mvT hZ (hw _ (List.mem_of_getElem? (i := 0) rfl))) (mvT hZ (hw _ (List.mem_of_getElem? (i := 1) rfl))) (mvT hZ (hw _ (List.mem_of_getElem? (i := 2) rfl))) (mvT hZ (hw _ (List.mem_of_getElem? (i := 3) rfl))) (by decide) (backOf (W := 0) (rm1_13 l Z a0 hw [] a_BY_CODE a_ERROR a_AUTH_CHALLENGE a_SUPPORTED a_RESULT a_EVENT a_AUTHENTICATE a_EXECUTE a_AUTH_SUCCESS a_OPTIONS a_STARTUP a_PREPARE a_REGISTER a_READY a_QUERY a_AUTH_RESPONSE a_BATCH k_a_BY_CODE h0 n0 (Nat.le_trans Z0 (Keep.refl h0 []).1) A_a_BY_CODE S_BY_CODE) hZ (hw _ (List.mem_of_getElem? (i := 3) rfl)) (hw _ (List.mem_of_getElem? (i := 2) rfl)) (by decide) (by decide)) (g := (mkF m 18 #[.val (.int p0), .val (.int p1), .val (.int (13 : Int32)), .unset, .unset] [(.int (13 : Int32))])) rfl (by rw [hml]; rfl) (argsL := [(.int (13 : Int32))]) (rest := []) (lenOf pd_0 rfl) rfl (by show 2 * 0 + _ ≤ _; exact Nat.le_of_eq rfl) (hb hby at_18) (fun _ _ => ⟨rfl, e0, (by decide : 0 + 0 ≤ _), (by decide : 0 + 0 ≤ _)⟩)
                              dsimp only [Pt.U, Pt.locs, Pt.cells, Pt.slots] at X143 l143 y143 z143 st143 hQ143
                              subst l143 y143 z143
                              obtain ⟨rfl, Nq143, hh143⟩ := hQ143
                              have N143 := Fr.app N0 Nq143
                              refine Ends.step st143 ?_
                              show Ends p e below QQ (T143.setTop (mkF m 21 #[.val (.int p0), .val (.int p1), .val (.int (13 : Int32)), .unset, .unset] [(.ref a_BATCH)]))
                              refine Ends.step (fun _ k => XS.astoreN X143.here hx rfl (hb hby at_21) rfl rfl (l' := #[.val (.int p0), .val (.int p1), .val (.int (13 : Int32)), .val (.ref a_BATCH), .unset]) rfl k) ?_
                              show Ends p e below QQ (T143.setTop (mkF m 22 #[.val (.int p0), .val (.int p1), .val (.int (13 : Int32)), .val (.ref a_BATCH), .unset] []))
                              refine Ends.step (fun _ k => XS.iloadN X143.here hx rfl (hb hby at_22) rfl k) ?_
                              show Ends p e below QQ (T143.setTop (mkF m 23 #[.val (.int p0), .val (.int p1), .val (.int (13 : Int32)), .val (.ref a_BATCH), .unset] [(.int (13 : Int32))]))
                              obtain ⟨_, _, ⟨T144, L144, k144, n144⟩, -, X144, ⟨Lc144, hQ144, l144, y144, z144⟩, st144⟩ := Jvm.LawKit.callS X143 hx (y := (⟨"com/example/nuntius/nuntius/protocol/OpcodeOfCodePinLaw", "expected", "(I)Lcom/example/nuntius/nuntius/protocol/Opcode;"⟩ : MethodName)) hown (mvT hZ (hw _ (List.mem_of_getElem? (i := 7) rfl))) (mvT hZ (hw _ (List.mem_of_getElem? (i := 8) rfl))) (mvT hZ (hw _ (List.mem_of_getElem? (i := 9) rfl))) (mvT hZ (hw _ (List.mem_of_getElem? (i := 10) rfl))) (by decide) (backOf (W := 0) (rm2_13 l Z a0 hw [] a_BATCH h0 n0 (Nat.le_trans Z0 (Keep.refl h0 []).1) S_BATCH) hZ (hw _ (List.mem_of_getElem? (i := 10) rfl)) (hw _ (List.mem_of_getElem? (i := 9) rfl)) (by decide) (by decide)) (g := (mkF m 23 #[.val (.int p0), .val (.int p1), .val (.int (13 : Int32)), .val (.ref a_BATCH), .unset] [(.int (13 : Int32))])) rfl (by rw [hml]; rfl) (argsL := [(.int (13 : Int32))]) (rest := []) (lenOf pd_0 rfl) rfl (by show 2 * 0 + _ ≤ _; exact Nat.le_of_eq rfl) (hb hby at_23) (fun _ _ => ⟨rfl, hh143, (by decide : 0 + 0 ≤ _), (by decide : 0 + 0 ≤ _)⟩)
                              dsimp only [Pt.U, Pt.locs, Pt.cells, Pt.slots] at X144 l144 y144 z144 st144 hQ144
                              subst l144 y144 z144
                              obtain ⟨rfl, Nq144, hh144⟩ := hQ144
                              have N144 := Fr.app N143 Nq144
                              refine Ends.step st144 ?_
                              show Ends p e below QQ (T144.setTop (mkF m 26 #[.val (.int p0), .val (.int p1), .val (.int (13 : Int32)), .val (.ref a_BATCH), .unset] [(.ref a_BATCH)]))
                              refine Ends.step (fun _ k => XS.astore X144.here hx rfl (hb hby at_26) rfl rfl (l' := #[.val (.int p0), .val (.int p1), .val (.int (13 : Int32)), .val (.ref a_BATCH), .val (.ref a_BATCH)]) rfl k) ?_
                              show Ends p e below QQ (T144.setTop (mkF m 28 #[.val (.int p0), .val (.int p1), .val (.int (13 : Int32)), .val (.ref a_BATCH), .val (.ref a_BATCH)] []))
                              refine Ends.step (fun _ k => XS.aloadN X144.here hx rfl (hb hby at_28) rfl rfl k) ?_
                              show Ends p e below QQ (T144.setTop (mkF m 29 #[.val (.int p0), .val (.int p1), .val (.int (13 : Int32)), .val (.ref a_BATCH), .val (.ref a_BATCH)] [(.ref a_BATCH)]))
                              refine Ends.step (fun _ k => XS.aload X144.here hx rfl (hb hby at_29) rfl rfl k) ?_
                              show Ends p e below QQ (T144.setTop (mkF m 31 #[.val (.int p0), .val (.int p1), .val (.int (13 : Int32)), .val (.ref a_BATCH), .val (.ref a_BATCH)] [(.ref a_BATCH), (.ref a_BATCH)]))
                              refine Ends.step (fun _ k => Jvm.RoadKit.acmp (g := (mkF m 31 #[.val (.int p0), .val (.int p1), .val (.int (13 : Int32)), .val (.ref a_BATCH), .val (.ref a_BATCH)] [(.ref a_BATCH), (.ref a_BATCH)])) X144 hx rfl rfl rfl (pc0 := 31) (pc' := 36) (same := true) rfl (hb hby at_31) rfl (decide_eq_true rfl) (by decide) (by decide) k) ?_
                              show Ends p e below QQ (T144.setTop (mkF m 36 #[.val (.int p0), .val (.int p1), .val (.int (13 : Int32)), .val (.ref a_BATCH), .val (.ref a_BATCH)] []))
                              refine Ends.step (fun _ k => XS.aloadN X144.here hx rfl (hb hby at_36) rfl rfl k) ?_
                              show Ends p e below QQ (T144.setTop (mkF m 37 #[.val (.int p0), .val (.int p1), .val (.int (13 : Int32)), .val (.ref a_BATCH), .val (.ref a_BATCH)] [(.ref a_BATCH)]))
                              refine Ends.step (fun _ k => XS.ifnullNo X144.here hx rfl (hb hby at_37) rfl k) ?_
                              show Ends p e below QQ (T144.setTop (mkF m 40 #[.val (.int p0), .val (.int p1), .val (.int (13 : Int32)), .val (.ref a_BATCH), .val (.ref a_BATCH)] []))
                              refine Ends.step (fun _ k => XS.aloadN X144.here hx rfl (hb hby at_40) rfl rfl k) ?_
                              show Ends p e below QQ (T144.setTop (mkF m 41 #[.val (.int p0), .val (.int p1), .val (.int (13 : Int32)), .val (.ref a_BATCH), .val (.ref a_BATCH)] [(.ref a_BATCH)]))
                              obtain ⟨cq145, kq145, q145a, q145b, q145c⟩ := isOf hZ hh144 E_a_BATCH
                              obtain ⟨_, _, ⟨T145, L145, k145, n145⟩, -, X145, ⟨Lc145, hQ145, l145, y145, z145⟩, st145⟩ := X144.virtualBack hx (y := (⟨"com/example/nuntius/nuntius/protocol/Opcode", "code", "()I"⟩ : MethodName)) (z := (⟨"com/example/nuntius/nuntius/protocol/Opcode", "code", "()I"⟩ : MethodName)) hown (mvT hZ (hw _ (List.mem_of_getElem? (i := 12) rfl))) (mvT hZ (hw _ (List.mem_of_getElem? (i := 13) rfl))) (notFace_of_selects (args := #[]) (mvT hZ (hw _ (List.mem_of_getElem? (i := 15) rfl)))) (mvT hZ (hw _ (List.mem_of_getElem? (i := 15) rfl))) (mvT hZ (hw _ (List.mem_of_getElem? (i := 14) rfl))) (by decide) (backOf (W := 0) (rm3 l Z a0 hw [] a_BATCH (13 : Int32) h0 n0 (Nat.le_trans Z0 (Keep.refl h0 []).1) F_code_a_BATCH) hZ (hw _ (List.mem_of_getElem? (i := 16) rfl)) (hw _ (List.mem_of_getElem? (i := 2) rfl)) (by decide) (by decide)) q145a q145c (g := (mkF m 41 #[.val (.int p0), .val (.int p1), .val (.int (13 : Int32)), .val (.ref a_BATCH), .val (.ref a_BATCH)] [(.ref a_BATCH)])) rfl (by rw [hml]; rfl) (Steps.refl _) (argsL := []) (rest := []) (lenOf pd_1 rfl) rfl (by show 2 * 0 + _ ≤ _; exact Nat.le_of_eq rfl) (hb hby at_41) (fun _ _ => ⟨rfl, hh144, (by decide : 0 + 0 ≤ _), (by decide : 0 + 0 ≤ _)⟩)
                              dsimp only [Pt.U, Pt.locs, Pt.cells, Pt.slots] at X145 l145 y145 z145 st145 hQ145
                              subst l145 y145 z145
                              obtain ⟨rfl, Nq145, hh145⟩ := hQ145
                              have N145 := Fr.app N144 Nq145
                              refine Ends.step (fun _ k => st145.trans k) ?_
                              show Ends p e below QQ (T145.setTop (mkF m 44 #[.val (.int p0), .val (.int p1), .val (.int (13 : Int32)), .val (.ref a_BATCH), .val (.ref a_BATCH)] [(.int (13 : Int32))]))
                              refine Ends.step (fun _ k => XS.iloadN X145.here hx rfl (hb hby at_44) rfl k) ?_
                              show Ends p e below QQ (T145.setTop (mkF m 45 #[.val (.int p0), .val (.int p1), .val (.int (13 : Int32)), .val (.ref a_BATCH), .val (.ref a_BATCH)] [(.int (13 : Int32)), (.int (13 : Int32))]))
                              refine Ends.step (fun _ k => XS.icmpYes X145.here hx rfl (pc0 := 45) (pc' := 50) rfl (hb hby at_45) rfl (XT.ii_eq_t (by decide)) (by decide) (by decide) k) ?_
                              show Ends p e below QQ (T145.setTop (mkF m 50 #[.val (.int p0), .val (.int p1), .val (.int (13 : Int32)), .val (.ref a_BATCH), .val (.ref a_BATCH)] []))
                              refine Ends.step (fun _ k => XT.iconstV X145.here hx rfl (1 : Int32) (hb hby at_50) rfl k) ?_
                              show Ends p e below QQ (T145.setTop (mkF m 51 #[.val (.int p0), .val (.int p1), .val (.int (13 : Int32)), .val (.ref a_BATCH), .val (.ref a_BATCH)] [(.int (1 : Int32))]))
                              exact Ends.fin (some (.int (1 : Int32))) X145 hQQ (fun h => by rw [Bd.returns] at h; cases h) Bd.notSynchronized (fun _ hr => retOut X145 hx (t := .boolean) Bd.returns rfl (Or.inl ⟨rfl, (by simp), _, rfl⟩) (hb hby at_51) hr) hh145 (by decide) (by decide) ⟨(by simp only [f0, dv16_1, if_neg hs17_91, if_neg hs17_95, if_neg hs17_99, if_neg hs17_103, if_neg hs17_107, if_neg hs17_110, if_neg hs17_114, if_neg hs17_118, if_neg hs17_122, if_neg hs17_126, if_neg hs17_130, if_neg hs17_134, if_neg hs17_138, if_pos hs17_142]), N145, (Keep.refl h0 [])⟩
                            · show Ends p e below QQ (s₁.setTop (mkF m 17 #[.val (.int p0), .val (.int p1), .val (.int v16_1), .unset, .unset] []))
                              by_cases hs17_146 : v16_1 = (14 : Int32)
                              · show Ends p e below QQ (s₁.setTop (mkF m 17 #[.val (.int p0), .val (.int p1), .val (.int v16_1), .unset, .unset] []))
                                rw [hs17_146]
                                show Ends p e below QQ (s₁.setTop (mkF m 17 #[.val (.int p0), .val (.int p1), .val (.int (14 : Int32)), .unset, .unset] []))
                                refine Ends.step (fun _ k => XS.iloadN X0.here hx rfl (hb hby at_17) rfl k) ?_
                                show Ends p e below QQ (s₁.setTop (mkF m 18 #[.val (.int p0), .val (.int p1), .val (.int (14 : Int32)), .unset, .unset] [(.int (14 : Int32))]))
                                obtain ⟨_, _, ⟨T147, L147, k147, n147⟩, -, X147, ⟨Lc147, hQ147, l147, y147, z147⟩, st147⟩ := Jvm.LawKit.callS X0 hx (y := (⟨"com/example/nuntius/nuntius/protocol/Opcode", "ofCode", "(I)Lcom/example/nuntius/nuntius/protocol/Opcode;"⟩ : MethodName)) hown (mvT hZ (hw _ (List.mem_of_getElem? (i := 0) rfl))) (mvT hZ (hw _ (List.mem_of_getElem? (i := 1) rfl))) (mvT hZ (hw _ (List.mem_of_getElem? (i := 2) rfl))) (mvT hZ (hw _ (List.mem_of_getElem? (i := 3) rfl))) (by decide) (backOf (W := 0) (rm1_14 l Z a0 hw [] a_BY_CODE a_ERROR a_AUTH_CHALLENGE a_SUPPORTED a_RESULT a_EVENT a_AUTHENTICATE a_EXECUTE a_AUTH_SUCCESS a_OPTIONS a_STARTUP a_PREPARE a_REGISTER a_READY a_QUERY a_AUTH_RESPONSE a_BATCH k_a_BY_CODE h0 n0 (Nat.le_trans Z0 (Keep.refl h0 []).1) A_a_BY_CODE S_BY_CODE) hZ (hw _ (List.mem_of_getElem? (i := 3) rfl)) (hw _ (List.mem_of_getElem? (i := 2) rfl)) (by decide) (by decide)) (g := (mkF m 18 #[.val (.int p0), .val (.int p1), .val (.int (14 : Int32)), .unset, .unset] [(.int (14 : Int32))])) rfl (by rw [hml]; rfl) (argsL := [(.int (14 : Int32))]) (rest := []) (lenOf pd_0 rfl) rfl (by show 2 * 0 + _ ≤ _; exact Nat.le_of_eq rfl) (hb hby at_18) (fun _ _ => ⟨rfl, e0, (by decide : 0 + 0 ≤ _), (by decide : 0 + 0 ≤ _)⟩)
                                dsimp only [Pt.U, Pt.locs, Pt.cells, Pt.slots] at X147 l147 y147 z147 st147 hQ147
                                subst l147 y147 z147
                                obtain ⟨rfl, Nq147, hh147⟩ := hQ147
                                have N147 := Fr.app N0 Nq147
                                refine Ends.step st147 ?_
                                show Ends p e below QQ (T147.setTop (mkF m 21 #[.val (.int p0), .val (.int p1), .val (.int (14 : Int32)), .unset, .unset] [(.ref a_AUTH_CHALLENGE)]))
                                refine Ends.step (fun _ k => XS.astoreN X147.here hx rfl (hb hby at_21) rfl rfl (l' := #[.val (.int p0), .val (.int p1), .val (.int (14 : Int32)), .val (.ref a_AUTH_CHALLENGE), .unset]) rfl k) ?_
                                show Ends p e below QQ (T147.setTop (mkF m 22 #[.val (.int p0), .val (.int p1), .val (.int (14 : Int32)), .val (.ref a_AUTH_CHALLENGE), .unset] []))
                                refine Ends.step (fun _ k => XS.iloadN X147.here hx rfl (hb hby at_22) rfl k) ?_
                                show Ends p e below QQ (T147.setTop (mkF m 23 #[.val (.int p0), .val (.int p1), .val (.int (14 : Int32)), .val (.ref a_AUTH_CHALLENGE), .unset] [(.int (14 : Int32))]))
                                obtain ⟨_, _, ⟨T148, L148, k148, n148⟩, -, X148, ⟨Lc148, hQ148, l148, y148, z148⟩, st148⟩ := Jvm.LawKit.callS X147 hx (y := (⟨"com/example/nuntius/nuntius/protocol/OpcodeOfCodePinLaw", "expected", "(I)Lcom/example/nuntius/nuntius/protocol/Opcode;"⟩ : MethodName)) hown (mvT hZ (hw _ (List.mem_of_getElem? (i := 7) rfl))) (mvT hZ (hw _ (List.mem_of_getElem? (i := 8) rfl))) (mvT hZ (hw _ (List.mem_of_getElem? (i := 9) rfl))) (mvT hZ (hw _ (List.mem_of_getElem? (i := 10) rfl))) (by decide) (backOf (W := 0) (rm2_14 l Z a0 hw [] a_AUTH_CHALLENGE h0 n0 (Nat.le_trans Z0 (Keep.refl h0 []).1) S_AUTH_CHALLENGE) hZ (hw _ (List.mem_of_getElem? (i := 10) rfl)) (hw _ (List.mem_of_getElem? (i := 9) rfl)) (by decide) (by decide)) (g := (mkF m 23 #[.val (.int p0), .val (.int p1), .val (.int (14 : Int32)), .val (.ref a_AUTH_CHALLENGE), .unset] [(.int (14 : Int32))])) rfl (by rw [hml]; rfl) (argsL := [(.int (14 : Int32))]) (rest := []) (lenOf pd_0 rfl) rfl (by show 2 * 0 + _ ≤ _; exact Nat.le_of_eq rfl) (hb hby at_23) (fun _ _ => ⟨rfl, hh147, (by decide : 0 + 0 ≤ _), (by decide : 0 + 0 ≤ _)⟩)
                                dsimp only [Pt.U, Pt.locs, Pt.cells, Pt.slots] at X148 l148 y148 z148 st148 hQ148
                                subst l148 y148 z148
                                obtain ⟨rfl, Nq148, hh148⟩ := hQ148
                                have N148 := Fr.app N147 Nq148
                                refine Ends.step st148 ?_
                                show Ends p e below QQ (T148.setTop (mkF m 26 #[.val (.int p0), .val (.int p1), .val (.int (14 : Int32)), .val (.ref a_AUTH_CHALLENGE), .unset] [(.ref a_AUTH_CHALLENGE)]))
                                refine Ends.step (fun _ k => XS.astore X148.here hx rfl (hb hby at_26) rfl rfl (l' := #[.val (.int p0), .val (.int p1), .val (.int (14 : Int32)), .val (.ref a_AUTH_CHALLENGE), .val (.ref a_AUTH_CHALLENGE)]) rfl k) ?_
                                show Ends p e below QQ (T148.setTop (mkF m 28 #[.val (.int p0), .val (.int p1), .val (.int (14 : Int32)), .val (.ref a_AUTH_CHALLENGE), .val (.ref a_AUTH_CHALLENGE)] []))
                                refine Ends.step (fun _ k => XS.aloadN X148.here hx rfl (hb hby at_28) rfl rfl k) ?_
                                show Ends p e below QQ (T148.setTop (mkF m 29 #[.val (.int p0), .val (.int p1), .val (.int (14 : Int32)), .val (.ref a_AUTH_CHALLENGE), .val (.ref a_AUTH_CHALLENGE)] [(.ref a_AUTH_CHALLENGE)]))
                                refine Ends.step (fun _ k => XS.aload X148.here hx rfl (hb hby at_29) rfl rfl k) ?_
                                show Ends p e below QQ (T148.setTop (mkF m 31 #[.val (.int p0), .val (.int p1), .val (.int (14 : Int32)), .val (.ref a_AUTH_CHALLENGE), .val (.ref a_AUTH_CHALLENGE)] [(.ref a_AUTH_CHALLENGE), (.ref a_AUTH_CHALLENGE)]))
                                refine Ends.step (fun _ k => Jvm.RoadKit.acmp (g := (mkF m 31 #[.val (.int p0), .val (.int p1), .val (.int (14 : Int32)), .val (.ref a_AUTH_CHALLENGE), .val (.ref a_AUTH_CHALLENGE)] [(.ref a_AUTH_CHALLENGE), (.ref a_AUTH_CHALLENGE)])) X148 hx rfl rfl rfl (pc0 := 31) (pc' := 36) (same := true) rfl (hb hby at_31) rfl (decide_eq_true rfl) (by decide) (by decide) k) ?_
                                show Ends p e below QQ (T148.setTop (mkF m 36 #[.val (.int p0), .val (.int p1), .val (.int (14 : Int32)), .val (.ref a_AUTH_CHALLENGE), .val (.ref a_AUTH_CHALLENGE)] []))
                                refine Ends.step (fun _ k => XS.aloadN X148.here hx rfl (hb hby at_36) rfl rfl k) ?_
                                show Ends p e below QQ (T148.setTop (mkF m 37 #[.val (.int p0), .val (.int p1), .val (.int (14 : Int32)), .val (.ref a_AUTH_CHALLENGE), .val (.ref a_AUTH_CHALLENGE)] [(.ref a_AUTH_CHALLENGE)]))
                                refine Ends.step (fun _ k => XS.ifnullNo X148.here hx rfl (hb hby at_37) rfl k) ?_
                                show Ends p e below QQ (T148.setTop (mkF m 40 #[.val (.int p0), .val (.int p1), .val (.int (14 : Int32)), .val (.ref a_AUTH_CHALLENGE), .val (.ref a_AUTH_CHALLENGE)] []))
                                refine Ends.step (fun _ k => XS.aloadN X148.here hx rfl (hb hby at_40) rfl rfl k) ?_
                                show Ends p e below QQ (T148.setTop (mkF m 41 #[.val (.int p0), .val (.int p1), .val (.int (14 : Int32)), .val (.ref a_AUTH_CHALLENGE), .val (.ref a_AUTH_CHALLENGE)] [(.ref a_AUTH_CHALLENGE)]))
                                obtain ⟨cq149, kq149, q149a, q149b, q149c⟩ := isOf hZ hh148 E_a_AUTH_CHALLENGE
                                obtain ⟨_, _, ⟨T149, L149, k149, n149⟩, -, X149, ⟨Lc149, hQ149, l149, y149, z149⟩, st149⟩ := X148.virtualBack hx (y := (⟨"com/example/nuntius/nuntius/protocol/Opcode", "code", "()I"⟩ : MethodName)) (z := (⟨"com/example/nuntius/nuntius/protocol/Opcode", "code", "()I"⟩ : MethodName)) hown (mvT hZ (hw _ (List.mem_of_getElem? (i := 12) rfl))) (mvT hZ (hw _ (List.mem_of_getElem? (i := 13) rfl))) (notFace_of_selects (args := #[]) (mvT hZ (hw _ (List.mem_of_getElem? (i := 15) rfl)))) (mvT hZ (hw _ (List.mem_of_getElem? (i := 15) rfl))) (mvT hZ (hw _ (List.mem_of_getElem? (i := 14) rfl))) (by decide) (backOf (W := 0) (rm3 l Z a0 hw [] a_AUTH_CHALLENGE (14 : Int32) h0 n0 (Nat.le_trans Z0 (Keep.refl h0 []).1) F_code_a_AUTH_CHALLENGE) hZ (hw _ (List.mem_of_getElem? (i := 16) rfl)) (hw _ (List.mem_of_getElem? (i := 2) rfl)) (by decide) (by decide)) q149a q149c (g := (mkF m 41 #[.val (.int p0), .val (.int p1), .val (.int (14 : Int32)), .val (.ref a_AUTH_CHALLENGE), .val (.ref a_AUTH_CHALLENGE)] [(.ref a_AUTH_CHALLENGE)])) rfl (by rw [hml]; rfl) (Steps.refl _) (argsL := []) (rest := []) (lenOf pd_1 rfl) rfl (by show 2 * 0 + _ ≤ _; exact Nat.le_of_eq rfl) (hb hby at_41) (fun _ _ => ⟨rfl, hh148, (by decide : 0 + 0 ≤ _), (by decide : 0 + 0 ≤ _)⟩)
                                dsimp only [Pt.U, Pt.locs, Pt.cells, Pt.slots] at X149 l149 y149 z149 st149 hQ149
                                subst l149 y149 z149
                                obtain ⟨rfl, Nq149, hh149⟩ := hQ149
                                have N149 := Fr.app N148 Nq149
                                refine Ends.step (fun _ k => st149.trans k) ?_
                                show Ends p e below QQ (T149.setTop (mkF m 44 #[.val (.int p0), .val (.int p1), .val (.int (14 : Int32)), .val (.ref a_AUTH_CHALLENGE), .val (.ref a_AUTH_CHALLENGE)] [(.int (14 : Int32))]))
                                refine Ends.step (fun _ k => XS.iloadN X149.here hx rfl (hb hby at_44) rfl k) ?_
                                show Ends p e below QQ (T149.setTop (mkF m 45 #[.val (.int p0), .val (.int p1), .val (.int (14 : Int32)), .val (.ref a_AUTH_CHALLENGE), .val (.ref a_AUTH_CHALLENGE)] [(.int (14 : Int32)), (.int (14 : Int32))]))
                                refine Ends.step (fun _ k => XS.icmpYes X149.here hx rfl (pc0 := 45) (pc' := 50) rfl (hb hby at_45) rfl (XT.ii_eq_t (by decide)) (by decide) (by decide) k) ?_
                                show Ends p e below QQ (T149.setTop (mkF m 50 #[.val (.int p0), .val (.int p1), .val (.int (14 : Int32)), .val (.ref a_AUTH_CHALLENGE), .val (.ref a_AUTH_CHALLENGE)] []))
                                refine Ends.step (fun _ k => XT.iconstV X149.here hx rfl (1 : Int32) (hb hby at_50) rfl k) ?_
                                show Ends p e below QQ (T149.setTop (mkF m 51 #[.val (.int p0), .val (.int p1), .val (.int (14 : Int32)), .val (.ref a_AUTH_CHALLENGE), .val (.ref a_AUTH_CHALLENGE)] [(.int (1 : Int32))]))
                                exact Ends.fin (some (.int (1 : Int32))) X149 hQQ (fun h => by rw [Bd.returns] at h; cases h) Bd.notSynchronized (fun _ hr => retOut X149 hx (t := .boolean) Bd.returns rfl (Or.inl ⟨rfl, (by simp), _, rfl⟩) (hb hby at_51) hr) hh149 (by decide) (by decide) ⟨(by simp only [f0, dv16_1, if_neg hs17_91, if_neg hs17_95, if_neg hs17_99, if_neg hs17_103, if_neg hs17_107, if_neg hs17_110, if_neg hs17_114, if_neg hs17_118, if_neg hs17_122, if_neg hs17_126, if_neg hs17_130, if_neg hs17_134, if_neg hs17_138, if_neg hs17_142, if_pos hs17_146]), N149, (Keep.refl h0 [])⟩
                              · show Ends p e below QQ (s₁.setTop (mkF m 17 #[.val (.int p0), .val (.int p1), .val (.int v16_1), .unset, .unset] []))
                                by_cases hs17_150 : v16_1 = (15 : Int32)
                                · show Ends p e below QQ (s₁.setTop (mkF m 17 #[.val (.int p0), .val (.int p1), .val (.int v16_1), .unset, .unset] []))
                                  rw [hs17_150]
                                  show Ends p e below QQ (s₁.setTop (mkF m 17 #[.val (.int p0), .val (.int p1), .val (.int (15 : Int32)), .unset, .unset] []))
                                  refine Ends.step (fun _ k => XS.iloadN X0.here hx rfl (hb hby at_17) rfl k) ?_
                                  show Ends p e below QQ (s₁.setTop (mkF m 18 #[.val (.int p0), .val (.int p1), .val (.int (15 : Int32)), .unset, .unset] [(.int (15 : Int32))]))
                                  obtain ⟨_, _, ⟨T151, L151, k151, n151⟩, -, X151, ⟨Lc151, hQ151, l151, y151, z151⟩, st151⟩ := Jvm.LawKit.callS X0 hx (y := (⟨"com/example/nuntius/nuntius/protocol/Opcode", "ofCode", "(I)Lcom/example/nuntius/nuntius/protocol/Opcode;"⟩ : MethodName)) hown (mvT hZ (hw _ (List.mem_of_getElem? (i := 0) rfl))) (mvT hZ (hw _ (List.mem_of_getElem? (i := 1) rfl))) (mvT hZ (hw _ (List.mem_of_getElem? (i := 2) rfl))) (mvT hZ (hw _ (List.mem_of_getElem? (i := 3) rfl))) (by decide) (backOf (W := 0) (rm1_15 l Z a0 hw [] a_BY_CODE a_ERROR a_AUTH_CHALLENGE a_SUPPORTED a_RESULT a_EVENT a_AUTHENTICATE a_EXECUTE a_AUTH_SUCCESS a_OPTIONS a_STARTUP a_PREPARE a_REGISTER a_READY a_QUERY a_AUTH_RESPONSE a_BATCH k_a_BY_CODE h0 n0 (Nat.le_trans Z0 (Keep.refl h0 []).1) A_a_BY_CODE S_BY_CODE) hZ (hw _ (List.mem_of_getElem? (i := 3) rfl)) (hw _ (List.mem_of_getElem? (i := 2) rfl)) (by decide) (by decide)) (g := (mkF m 18 #[.val (.int p0), .val (.int p1), .val (.int (15 : Int32)), .unset, .unset] [(.int (15 : Int32))])) rfl (by rw [hml]; rfl) (argsL := [(.int (15 : Int32))]) (rest := []) (lenOf pd_0 rfl) rfl (by show 2 * 0 + _ ≤ _; exact Nat.le_of_eq rfl) (hb hby at_18) (fun _ _ => ⟨rfl, e0, (by decide : 0 + 0 ≤ _), (by decide : 0 + 0 ≤ _)⟩)
                                  dsimp only [Pt.U, Pt.locs, Pt.cells, Pt.slots] at X151 l151 y151 z151 st151 hQ151
                                  subst l151 y151 z151
                                  obtain ⟨rfl, Nq151, hh151⟩ := hQ151
                                  have N151 := Fr.app N0 Nq151
                                  refine Ends.step st151 ?_
                                  show Ends p e below QQ (T151.setTop (mkF m 21 #[.val (.int p0), .val (.int p1), .val (.int (15 : Int32)), .unset, .unset] [(.ref a_AUTH_RESPONSE)]))
                                  refine Ends.step (fun _ k => XS.astoreN X151.here hx rfl (hb hby at_21) rfl rfl (l' := #[.val (.int p0), .val (.int p1), .val (.int (15 : Int32)), .val (.ref a_AUTH_RESPONSE), .unset]) rfl k) ?_
                                  show Ends p e below QQ (T151.setTop (mkF m 22 #[.val (.int p0), .val (.int p1), .val (.int (15 : Int32)), .val (.ref a_AUTH_RESPONSE), .unset] []))
                                  refine Ends.step (fun _ k => XS.iloadN X151.here hx rfl (hb hby at_22) rfl k) ?_
                                  show Ends p e below QQ (T151.setTop (mkF m 23 #[.val (.int p0), .val (.int p1), .val (.int (15 : Int32)), .val (.ref a_AUTH_RESPONSE), .unset] [(.int (15 : Int32))]))
                                  obtain ⟨_, _, ⟨T152, L152, k152, n152⟩, -, X152, ⟨Lc152, hQ152, l152, y152, z152⟩, st152⟩ := Jvm.LawKit.callS X151 hx (y := (⟨"com/example/nuntius/nuntius/protocol/OpcodeOfCodePinLaw", "expected", "(I)Lcom/example/nuntius/nuntius/protocol/Opcode;"⟩ : MethodName)) hown (mvT hZ (hw _ (List.mem_of_getElem? (i := 7) rfl))) (mvT hZ (hw _ (List.mem_of_getElem? (i := 8) rfl))) (mvT hZ (hw _ (List.mem_of_getElem? (i := 9) rfl))) (mvT hZ (hw _ (List.mem_of_getElem? (i := 10) rfl))) (by decide) (backOf (W := 0) (rm2_15 l Z a0 hw [] a_AUTH_RESPONSE h0 n0 (Nat.le_trans Z0 (Keep.refl h0 []).1) S_AUTH_RESPONSE) hZ (hw _ (List.mem_of_getElem? (i := 10) rfl)) (hw _ (List.mem_of_getElem? (i := 9) rfl)) (by decide) (by decide)) (g := (mkF m 23 #[.val (.int p0), .val (.int p1), .val (.int (15 : Int32)), .val (.ref a_AUTH_RESPONSE), .unset] [(.int (15 : Int32))])) rfl (by rw [hml]; rfl) (argsL := [(.int (15 : Int32))]) (rest := []) (lenOf pd_0 rfl) rfl (by show 2 * 0 + _ ≤ _; exact Nat.le_of_eq rfl) (hb hby at_23) (fun _ _ => ⟨rfl, hh151, (by decide : 0 + 0 ≤ _), (by decide : 0 + 0 ≤ _)⟩)
                                  dsimp only [Pt.U, Pt.locs, Pt.cells, Pt.slots] at X152 l152 y152 z152 st152 hQ152
                                  subst l152 y152 z152
                                  obtain ⟨rfl, Nq152, hh152⟩ := hQ152
                                  have N152 := Fr.app N151 Nq152
                                  refine Ends.step st152 ?_
                                  show Ends p e below QQ (T152.setTop (mkF m 26 #[.val (.int p0), .val (.int p1), .val (.int (15 : Int32)), .val (.ref a_AUTH_RESPONSE), .unset] [(.ref a_AUTH_RESPONSE)]))
                                  refine Ends.step (fun _ k => XS.astore X152.here hx rfl (hb hby at_26) rfl rfl (l' := #[.val (.int p0), .val (.int p1), .val (.int (15 : Int32)), .val (.ref a_AUTH_RESPONSE), .val (.ref a_AUTH_RESPONSE)]) rfl k) ?_
                                  show Ends p e below QQ (T152.setTop (mkF m 28 #[.val (.int p0), .val (.int p1), .val (.int (15 : Int32)), .val (.ref a_AUTH_RESPONSE), .val (.ref a_AUTH_RESPONSE)] []))
                                  refine Ends.step (fun _ k => XS.aloadN X152.here hx rfl (hb hby at_28) rfl rfl k) ?_
                                  show Ends p e below QQ (T152.setTop (mkF m 29 #[.val (.int p0), .val (.int p1), .val (.int (15 : Int32)), .val (.ref a_AUTH_RESPONSE), .val (.ref a_AUTH_RESPONSE)] [(.ref a_AUTH_RESPONSE)]))
                                  refine Ends.step (fun _ k => XS.aload X152.here hx rfl (hb hby at_29) rfl rfl k) ?_
                                  show Ends p e below QQ (T152.setTop (mkF m 31 #[.val (.int p0), .val (.int p1), .val (.int (15 : Int32)), .val (.ref a_AUTH_RESPONSE), .val (.ref a_AUTH_RESPONSE)] [(.ref a_AUTH_RESPONSE), (.ref a_AUTH_RESPONSE)]))
                                  refine Ends.step (fun _ k => Jvm.RoadKit.acmp (g := (mkF m 31 #[.val (.int p0), .val (.int p1), .val (.int (15 : Int32)), .val (.ref a_AUTH_RESPONSE), .val (.ref a_AUTH_RESPONSE)] [(.ref a_AUTH_RESPONSE), (.ref a_AUTH_RESPONSE)])) X152 hx rfl rfl rfl (pc0 := 31) (pc' := 36) (same := true) rfl (hb hby at_31) rfl (decide_eq_true rfl) (by decide) (by decide) k) ?_
                                  show Ends p e below QQ (T152.setTop (mkF m 36 #[.val (.int p0), .val (.int p1), .val (.int (15 : Int32)), .val (.ref a_AUTH_RESPONSE), .val (.ref a_AUTH_RESPONSE)] []))
                                  refine Ends.step (fun _ k => XS.aloadN X152.here hx rfl (hb hby at_36) rfl rfl k) ?_
                                  show Ends p e below QQ (T152.setTop (mkF m 37 #[.val (.int p0), .val (.int p1), .val (.int (15 : Int32)), .val (.ref a_AUTH_RESPONSE), .val (.ref a_AUTH_RESPONSE)] [(.ref a_AUTH_RESPONSE)]))
                                  refine Ends.step (fun _ k => XS.ifnullNo X152.here hx rfl (hb hby at_37) rfl k) ?_
                                  show Ends p e below QQ (T152.setTop (mkF m 40 #[.val (.int p0), .val (.int p1), .val (.int (15 : Int32)), .val (.ref a_AUTH_RESPONSE), .val (.ref a_AUTH_RESPONSE)] []))
                                  refine Ends.step (fun _ k => XS.aloadN X152.here hx rfl (hb hby at_40) rfl rfl k) ?_
                                  show Ends p e below QQ (T152.setTop (mkF m 41 #[.val (.int p0), .val (.int p1), .val (.int (15 : Int32)), .val (.ref a_AUTH_RESPONSE), .val (.ref a_AUTH_RESPONSE)] [(.ref a_AUTH_RESPONSE)]))
                                  obtain ⟨cq153, kq153, q153a, q153b, q153c⟩ := isOf hZ hh152 E_a_AUTH_RESPONSE
                                  obtain ⟨_, _, ⟨T153, L153, k153, n153⟩, -, X153, ⟨Lc153, hQ153, l153, y153, z153⟩, st153⟩ := X152.virtualBack hx (y := (⟨"com/example/nuntius/nuntius/protocol/Opcode", "code", "()I"⟩ : MethodName)) (z := (⟨"com/example/nuntius/nuntius/protocol/Opcode", "code", "()I"⟩ : MethodName)) hown (mvT hZ (hw _ (List.mem_of_getElem? (i := 12) rfl))) (mvT hZ (hw _ (List.mem_of_getElem? (i := 13) rfl))) (notFace_of_selects (args := #[]) (mvT hZ (hw _ (List.mem_of_getElem? (i := 15) rfl)))) (mvT hZ (hw _ (List.mem_of_getElem? (i := 15) rfl))) (mvT hZ (hw _ (List.mem_of_getElem? (i := 14) rfl))) (by decide) (backOf (W := 0) (rm3 l Z a0 hw [] a_AUTH_RESPONSE (15 : Int32) h0 n0 (Nat.le_trans Z0 (Keep.refl h0 []).1) F_code_a_AUTH_RESPONSE) hZ (hw _ (List.mem_of_getElem? (i := 16) rfl)) (hw _ (List.mem_of_getElem? (i := 2) rfl)) (by decide) (by decide)) q153a q153c (g := (mkF m 41 #[.val (.int p0), .val (.int p1), .val (.int (15 : Int32)), .val (.ref a_AUTH_RESPONSE), .val (.ref a_AUTH_RESPONSE)] [(.ref a_AUTH_RESPONSE)])) rfl (by rw [hml]; rfl) (Steps.refl _) (argsL := []) (rest := []) (lenOf pd_1 rfl) rfl (by show 2 * 0 + _ ≤ _; exact Nat.le_of_eq rfl) (hb hby at_41) (fun _ _ => ⟨rfl, hh152, (by decide : 0 + 0 ≤ _), (by decide : 0 + 0 ≤ _)⟩)
                                  dsimp only [Pt.U, Pt.locs, Pt.cells, Pt.slots] at X153 l153 y153 z153 st153 hQ153
                                  subst l153 y153 z153
                                  obtain ⟨rfl, Nq153, hh153⟩ := hQ153
                                  have N153 := Fr.app N152 Nq153
                                  refine Ends.step (fun _ k => st153.trans k) ?_
                                  show Ends p e below QQ (T153.setTop (mkF m 44 #[.val (.int p0), .val (.int p1), .val (.int (15 : Int32)), .val (.ref a_AUTH_RESPONSE), .val (.ref a_AUTH_RESPONSE)] [(.int (15 : Int32))]))
                                  refine Ends.step (fun _ k => XS.iloadN X153.here hx rfl (hb hby at_44) rfl k) ?_
                                  show Ends p e below QQ (T153.setTop (mkF m 45 #[.val (.int p0), .val (.int p1), .val (.int (15 : Int32)), .val (.ref a_AUTH_RESPONSE), .val (.ref a_AUTH_RESPONSE)] [(.int (15 : Int32)), (.int (15 : Int32))]))
                                  refine Ends.step (fun _ k => XS.icmpYes X153.here hx rfl (pc0 := 45) (pc' := 50) rfl (hb hby at_45) rfl (XT.ii_eq_t (by decide)) (by decide) (by decide) k) ?_
                                  show Ends p e below QQ (T153.setTop (mkF m 50 #[.val (.int p0), .val (.int p1), .val (.int (15 : Int32)), .val (.ref a_AUTH_RESPONSE), .val (.ref a_AUTH_RESPONSE)] []))
                                  refine Ends.step (fun _ k => XT.iconstV X153.here hx rfl (1 : Int32) (hb hby at_50) rfl k) ?_
                                  show Ends p e below QQ (T153.setTop (mkF m 51 #[.val (.int p0), .val (.int p1), .val (.int (15 : Int32)), .val (.ref a_AUTH_RESPONSE), .val (.ref a_AUTH_RESPONSE)] [(.int (1 : Int32))]))
                                  exact Ends.fin (some (.int (1 : Int32))) X153 hQQ (fun h => by rw [Bd.returns] at h; cases h) Bd.notSynchronized (fun _ hr => retOut X153 hx (t := .boolean) Bd.returns rfl (Or.inl ⟨rfl, (by simp), _, rfl⟩) (hb hby at_51) hr) hh153 (by decide) (by decide) ⟨(by simp only [f0, dv16_1, if_neg hs17_91, if_neg hs17_95, if_neg hs17_99, if_neg hs17_103, if_neg hs17_107, if_neg hs17_110, if_neg hs17_114, if_neg hs17_118, if_neg hs17_122, if_neg hs17_126, if_neg hs17_130, if_neg hs17_134, if_neg hs17_138, if_neg hs17_142, if_neg hs17_146, if_pos hs17_150]), N153, (Keep.refl h0 [])⟩
                                · show Ends p e below QQ (s₁.setTop (mkF m 17 #[.val (.int p0), .val (.int p1), .val (.int v16_1), .unset, .unset] []))
                                  by_cases hs17_154 : v16_1 = (16 : Int32)
                                  · show Ends p e below QQ (s₁.setTop (mkF m 17 #[.val (.int p0), .val (.int p1), .val (.int v16_1), .unset, .unset] []))
                                    rw [hs17_154]
                                    show Ends p e below QQ (s₁.setTop (mkF m 17 #[.val (.int p0), .val (.int p1), .val (.int (16 : Int32)), .unset, .unset] []))
                                    refine Ends.step (fun _ k => XS.iloadN X0.here hx rfl (hb hby at_17) rfl k) ?_
                                    show Ends p e below QQ (s₁.setTop (mkF m 18 #[.val (.int p0), .val (.int p1), .val (.int (16 : Int32)), .unset, .unset] [(.int (16 : Int32))]))
                                    obtain ⟨_, _, ⟨T155, L155, k155, n155⟩, -, X155, ⟨Lc155, hQ155, l155, y155, z155⟩, st155⟩ := Jvm.LawKit.callS X0 hx (y := (⟨"com/example/nuntius/nuntius/protocol/Opcode", "ofCode", "(I)Lcom/example/nuntius/nuntius/protocol/Opcode;"⟩ : MethodName)) hown (mvT hZ (hw _ (List.mem_of_getElem? (i := 0) rfl))) (mvT hZ (hw _ (List.mem_of_getElem? (i := 1) rfl))) (mvT hZ (hw _ (List.mem_of_getElem? (i := 2) rfl))) (mvT hZ (hw _ (List.mem_of_getElem? (i := 3) rfl))) (by decide) (backOf (W := 0) (rm1_16 l Z a0 hw [] a_BY_CODE a_ERROR a_AUTH_CHALLENGE a_SUPPORTED a_RESULT a_EVENT a_AUTHENTICATE a_EXECUTE a_AUTH_SUCCESS a_OPTIONS a_STARTUP a_PREPARE a_REGISTER a_READY a_QUERY a_AUTH_RESPONSE a_BATCH k_a_BY_CODE h0 n0 (Nat.le_trans Z0 (Keep.refl h0 []).1) A_a_BY_CODE S_BY_CODE) hZ (hw _ (List.mem_of_getElem? (i := 3) rfl)) (hw _ (List.mem_of_getElem? (i := 2) rfl)) (by decide) (by decide)) (g := (mkF m 18 #[.val (.int p0), .val (.int p1), .val (.int (16 : Int32)), .unset, .unset] [(.int (16 : Int32))])) rfl (by rw [hml]; rfl) (argsL := [(.int (16 : Int32))]) (rest := []) (lenOf pd_0 rfl) rfl (by show 2 * 0 + _ ≤ _; exact Nat.le_of_eq rfl) (hb hby at_18) (fun _ _ => ⟨rfl, e0, (by decide : 0 + 0 ≤ _), (by decide : 0 + 0 ≤ _)⟩)
                                    dsimp only [Pt.U, Pt.locs, Pt.cells, Pt.slots] at X155 l155 y155 z155 st155 hQ155
                                    subst l155 y155 z155
                                    obtain ⟨rfl, Nq155, hh155⟩ := hQ155
                                    have N155 := Fr.app N0 Nq155
                                    refine Ends.step st155 ?_
                                    show Ends p e below QQ (T155.setTop (mkF m 21 #[.val (.int p0), .val (.int p1), .val (.int (16 : Int32)), .unset, .unset] [(.ref a_AUTH_SUCCESS)]))
                                    refine Ends.step (fun _ k => XS.astoreN X155.here hx rfl (hb hby at_21) rfl rfl (l' := #[.val (.int p0), .val (.int p1), .val (.int (16 : Int32)), .val (.ref a_AUTH_SUCCESS), .unset]) rfl k) ?_
                                    show Ends p e below QQ (T155.setTop (mkF m 22 #[.val (.int p0), .val (.int p1), .val (.int (16 : Int32)), .val (.ref a_AUTH_SUCCESS), .unset] []))
                                    refine Ends.step (fun _ k => XS.iloadN X155.here hx rfl (hb hby at_22) rfl k) ?_
                                    show Ends p e below QQ (T155.setTop (mkF m 23 #[.val (.int p0), .val (.int p1), .val (.int (16 : Int32)), .val (.ref a_AUTH_SUCCESS), .unset] [(.int (16 : Int32))]))
                                    obtain ⟨_, _, ⟨T156, L156, k156, n156⟩, -, X156, ⟨Lc156, hQ156, l156, y156, z156⟩, st156⟩ := Jvm.LawKit.callS X155 hx (y := (⟨"com/example/nuntius/nuntius/protocol/OpcodeOfCodePinLaw", "expected", "(I)Lcom/example/nuntius/nuntius/protocol/Opcode;"⟩ : MethodName)) hown (mvT hZ (hw _ (List.mem_of_getElem? (i := 7) rfl))) (mvT hZ (hw _ (List.mem_of_getElem? (i := 8) rfl))) (mvT hZ (hw _ (List.mem_of_getElem? (i := 9) rfl))) (mvT hZ (hw _ (List.mem_of_getElem? (i := 10) rfl))) (by decide) (backOf (W := 0) (rm2_16 l Z a0 hw [] a_AUTH_SUCCESS h0 n0 (Nat.le_trans Z0 (Keep.refl h0 []).1) S_AUTH_SUCCESS) hZ (hw _ (List.mem_of_getElem? (i := 10) rfl)) (hw _ (List.mem_of_getElem? (i := 9) rfl)) (by decide) (by decide)) (g := (mkF m 23 #[.val (.int p0), .val (.int p1), .val (.int (16 : Int32)), .val (.ref a_AUTH_SUCCESS), .unset] [(.int (16 : Int32))])) rfl (by rw [hml]; rfl) (argsL := [(.int (16 : Int32))]) (rest := []) (lenOf pd_0 rfl) rfl (by show 2 * 0 + _ ≤ _; exact Nat.le_of_eq rfl) (hb hby at_23) (fun _ _ => ⟨rfl, hh155, (by decide : 0 + 0 ≤ _), (by decide : 0 + 0 ≤ _)⟩)
                                    dsimp only [Pt.U, Pt.locs, Pt.cells, Pt.slots] at X156 l156 y156 z156 st156 hQ156
                                    subst l156 y156 z156
                                    obtain ⟨rfl, Nq156, hh156⟩ := hQ156
                                    have N156 := Fr.app N155 Nq156
                                    refine Ends.step st156 ?_
                                    show Ends p e below QQ (T156.setTop (mkF m 26 #[.val (.int p0), .val (.int p1), .val (.int (16 : Int32)), .val (.ref a_AUTH_SUCCESS), .unset] [(.ref a_AUTH_SUCCESS)]))
                                    refine Ends.step (fun _ k => XS.astore X156.here hx rfl (hb hby at_26) rfl rfl (l' := #[.val (.int p0), .val (.int p1), .val (.int (16 : Int32)), .val (.ref a_AUTH_SUCCESS), .val (.ref a_AUTH_SUCCESS)]) rfl k) ?_
                                    show Ends p e below QQ (T156.setTop (mkF m 28 #[.val (.int p0), .val (.int p1), .val (.int (16 : Int32)), .val (.ref a_AUTH_SUCCESS), .val (.ref a_AUTH_SUCCESS)] []))
                                    refine Ends.step (fun _ k => XS.aloadN X156.here hx rfl (hb hby at_28) rfl rfl k) ?_
                                    show Ends p e below QQ (T156.setTop (mkF m 29 #[.val (.int p0), .val (.int p1), .val (.int (16 : Int32)), .val (.ref a_AUTH_SUCCESS), .val (.ref a_AUTH_SUCCESS)] [(.ref a_AUTH_SUCCESS)]))
                                    refine Ends.step (fun _ k => XS.aload X156.here hx rfl (hb hby at_29) rfl rfl k) ?_
                                    show Ends p e below QQ (T156.setTop (mkF m 31 #[.val (.int p0), .val (.int p1), .val (.int (16 : Int32)), .val (.ref a_AUTH_SUCCESS), .val (.ref a_AUTH_SUCCESS)] [(.ref a_AUTH_SUCCESS), (.ref a_AUTH_SUCCESS)]))
                                    refine Ends.step (fun _ k => Jvm.RoadKit.acmp (g := (mkF m 31 #[.val (.int p0), .val (.int p1), .val (.int (16 : Int32)), .val (.ref a_AUTH_SUCCESS), .val (.ref a_AUTH_SUCCESS)] [(.ref a_AUTH_SUCCESS), (.ref a_AUTH_SUCCESS)])) X156 hx rfl rfl rfl (pc0 := 31) (pc' := 36) (same := true) rfl (hb hby at_31) rfl (decide_eq_true rfl) (by decide) (by decide) k) ?_
                                    show Ends p e below QQ (T156.setTop (mkF m 36 #[.val (.int p0), .val (.int p1), .val (.int (16 : Int32)), .val (.ref a_AUTH_SUCCESS), .val (.ref a_AUTH_SUCCESS)] []))
                                    refine Ends.step (fun _ k => XS.aloadN X156.here hx rfl (hb hby at_36) rfl rfl k) ?_
                                    show Ends p e below QQ (T156.setTop (mkF m 37 #[.val (.int p0), .val (.int p1), .val (.int (16 : Int32)), .val (.ref a_AUTH_SUCCESS), .val (.ref a_AUTH_SUCCESS)] [(.ref a_AUTH_SUCCESS)]))
                                    refine Ends.step (fun _ k => XS.ifnullNo X156.here hx rfl (hb hby at_37) rfl k) ?_
                                    show Ends p e below QQ (T156.setTop (mkF m 40 #[.val (.int p0), .val (.int p1), .val (.int (16 : Int32)), .val (.ref a_AUTH_SUCCESS), .val (.ref a_AUTH_SUCCESS)] []))
                                    refine Ends.step (fun _ k => XS.aloadN X156.here hx rfl (hb hby at_40) rfl rfl k) ?_
                                    show Ends p e below QQ (T156.setTop (mkF m 41 #[.val (.int p0), .val (.int p1), .val (.int (16 : Int32)), .val (.ref a_AUTH_SUCCESS), .val (.ref a_AUTH_SUCCESS)] [(.ref a_AUTH_SUCCESS)]))
                                    obtain ⟨cq157, kq157, q157a, q157b, q157c⟩ := isOf hZ hh156 E_a_AUTH_SUCCESS
                                    obtain ⟨_, _, ⟨T157, L157, k157, n157⟩, -, X157, ⟨Lc157, hQ157, l157, y157, z157⟩, st157⟩ := X156.virtualBack hx (y := (⟨"com/example/nuntius/nuntius/protocol/Opcode", "code", "()I"⟩ : MethodName)) (z := (⟨"com/example/nuntius/nuntius/protocol/Opcode", "code", "()I"⟩ : MethodName)) hown (mvT hZ (hw _ (List.mem_of_getElem? (i := 12) rfl))) (mvT hZ (hw _ (List.mem_of_getElem? (i := 13) rfl))) (notFace_of_selects (args := #[]) (mvT hZ (hw _ (List.mem_of_getElem? (i := 15) rfl)))) (mvT hZ (hw _ (List.mem_of_getElem? (i := 15) rfl))) (mvT hZ (hw _ (List.mem_of_getElem? (i := 14) rfl))) (by decide) (backOf (W := 0) (rm3 l Z a0 hw [] a_AUTH_SUCCESS (16 : Int32) h0 n0 (Nat.le_trans Z0 (Keep.refl h0 []).1) F_code_a_AUTH_SUCCESS) hZ (hw _ (List.mem_of_getElem? (i := 16) rfl)) (hw _ (List.mem_of_getElem? (i := 2) rfl)) (by decide) (by decide)) q157a q157c (g := (mkF m 41 #[.val (.int p0), .val (.int p1), .val (.int (16 : Int32)), .val (.ref a_AUTH_SUCCESS), .val (.ref a_AUTH_SUCCESS)] [(.ref a_AUTH_SUCCESS)])) rfl (by rw [hml]; rfl) (Steps.refl _) (argsL := []) (rest := []) (lenOf pd_1 rfl) rfl (by show 2 * 0 + _ ≤ _; exact Nat.le_of_eq rfl) (hb hby at_41) (fun _ _ => ⟨rfl, hh156, (by decide : 0 + 0 ≤ _), (by decide : 0 + 0 ≤ _)⟩)
                                    dsimp only [Pt.U, Pt.locs, Pt.cells, Pt.slots] at X157 l157 y157 z157 st157 hQ157
                                    subst l157 y157 z157
                                    obtain ⟨rfl, Nq157, hh157⟩ := hQ157
                                    have N157 := Fr.app N156 Nq157
                                    refine Ends.step (fun _ k => st157.trans k) ?_
                                    show Ends p e below QQ (T157.setTop (mkF m 44 #[.val (.int p0), .val (.int p1), .val (.int (16 : Int32)), .val (.ref a_AUTH_SUCCESS), .val (.ref a_AUTH_SUCCESS)] [(.int (16 : Int32))]))
                                    refine Ends.step (fun _ k => XS.iloadN X157.here hx rfl (hb hby at_44) rfl k) ?_
                                    show Ends p e below QQ (T157.setTop (mkF m 45 #[.val (.int p0), .val (.int p1), .val (.int (16 : Int32)), .val (.ref a_AUTH_SUCCESS), .val (.ref a_AUTH_SUCCESS)] [(.int (16 : Int32)), (.int (16 : Int32))]))
                                    refine Ends.step (fun _ k => XS.icmpYes X157.here hx rfl (pc0 := 45) (pc' := 50) rfl (hb hby at_45) rfl (XT.ii_eq_t (by decide)) (by decide) (by decide) k) ?_
                                    show Ends p e below QQ (T157.setTop (mkF m 50 #[.val (.int p0), .val (.int p1), .val (.int (16 : Int32)), .val (.ref a_AUTH_SUCCESS), .val (.ref a_AUTH_SUCCESS)] []))
                                    refine Ends.step (fun _ k => XT.iconstV X157.here hx rfl (1 : Int32) (hb hby at_50) rfl k) ?_
                                    show Ends p e below QQ (T157.setTop (mkF m 51 #[.val (.int p0), .val (.int p1), .val (.int (16 : Int32)), .val (.ref a_AUTH_SUCCESS), .val (.ref a_AUTH_SUCCESS)] [(.int (1 : Int32))]))
                                    exact Ends.fin (some (.int (1 : Int32))) X157 hQQ (fun h => by rw [Bd.returns] at h; cases h) Bd.notSynchronized (fun _ hr => retOut X157 hx (t := .boolean) Bd.returns rfl (Or.inl ⟨rfl, (by simp), _, rfl⟩) (hb hby at_51) hr) hh157 (by decide) (by decide) ⟨(by simp only [f0, dv16_1, if_neg hs17_91, if_neg hs17_95, if_neg hs17_99, if_neg hs17_103, if_neg hs17_107, if_neg hs17_110, if_neg hs17_114, if_neg hs17_118, if_neg hs17_122, if_neg hs17_126, if_neg hs17_130, if_neg hs17_134, if_neg hs17_138, if_neg hs17_142, if_neg hs17_146, if_neg hs17_150, if_pos hs17_154]), N157, (Keep.refl h0 [])⟩
                                  · show Ends p e below QQ (s₁.setTop (mkF m 17 #[.val (.int p0), .val (.int p1), .val (.int v16_1), .unset, .unset] []))
                                    show Ends p e below QQ (s₁.setTop (mkF m 17 #[.val (.int p0), .val (.int p1), .val (.int v16_1), .unset, .unset] []))
                                    refine Ends.step (fun _ k => XS.iloadN X0.here hx rfl (hb hby at_17) rfl k) ?_
                                    show Ends p e below QQ (s₁.setTop (mkF m 18 #[.val (.int p0), .val (.int p1), .val (.int v16_1), .unset, .unset] [(.int v16_1)]))
                                    obtain ⟨_, _, ⟨T158, L158, k158, n158⟩, -, X158, ⟨Lc158, hQ158, l158, y158, z158⟩, st158⟩ := Jvm.LawKit.callS X0 hx (y := (⟨"com/example/nuntius/nuntius/protocol/Opcode", "ofCode", "(I)Lcom/example/nuntius/nuntius/protocol/Opcode;"⟩ : MethodName)) hown (mvT hZ (hw _ (List.mem_of_getElem? (i := 0) rfl))) (mvT hZ (hw _ (List.mem_of_getElem? (i := 1) rfl))) (mvT hZ (hw _ (List.mem_of_getElem? (i := 2) rfl))) (mvT hZ (hw _ (List.mem_of_getElem? (i := 3) rfl))) (by decide) (backOf (W := 0) (rm1_n l Z a0 hw [] v16_1 a_BY_CODE a_ERROR a_AUTH_CHALLENGE a_SUPPORTED a_RESULT a_EVENT a_AUTHENTICATE a_EXECUTE a_AUTH_SUCCESS a_OPTIONS a_STARTUP a_PREPARE a_REGISTER a_READY a_QUERY a_AUTH_RESPONSE a_BATCH k_a_BY_CODE h0 n0 (Nat.le_trans Z0 (Keep.refl h0 []).1) A_a_BY_CODE S_BY_CODE (own_none hs17_91 hs17_95 hs17_99 hs17_103 hs17_107 hs17_110 hs17_114 hs17_118 hs17_122 hs17_126 hs17_130 hs17_134 hs17_138 hs17_142 hs17_146 hs17_150 hs17_154)) hZ (hw _ (List.mem_of_getElem? (i := 3) rfl)) (hw _ (List.mem_of_getElem? (i := 2) rfl)) (by decide) (by decide)) (g := (mkF m 18 #[.val (.int p0), .val (.int p1), .val (.int v16_1), .unset, .unset] [(.int v16_1)])) rfl (by rw [hml]; rfl) (argsL := [(.int v16_1)]) (rest := []) (lenOf pd_0 rfl) rfl (by show 2 * 0 + _ ≤ _; exact Nat.le_of_eq rfl) (hb hby at_18) (fun _ _ => ⟨rfl, e0, (by decide : 0 + 0 ≤ _), (by decide : 0 + 0 ≤ _)⟩)
                                    dsimp only [Pt.U, Pt.locs, Pt.cells, Pt.slots] at X158 l158 y158 z158 st158 hQ158
                                    subst l158 y158 z158
                                    obtain ⟨rfl, Nq158, hh158⟩ := hQ158
                                    have N158 := Fr.app N0 Nq158
                                    refine Ends.step st158 ?_
                                    show Ends p e below QQ (T158.setTop (mkF m 21 #[.val (.int p0), .val (.int p1), .val (.int v16_1), .unset, .unset] [.null]))
                                    refine Ends.step (fun _ k => XS.astoreN X158.here hx rfl (hb hby at_21) rfl rfl (l' := #[.val (.int p0), .val (.int p1), .val (.int v16_1), .val .null, .unset]) rfl k) ?_
                                    show Ends p e below QQ (T158.setTop (mkF m 22 #[.val (.int p0), .val (.int p1), .val (.int v16_1), .val .null, .unset] []))
                                    refine Ends.step (fun _ k => XS.iloadN X158.here hx rfl (hb hby at_22) rfl k) ?_
                                    show Ends p e below QQ (T158.setTop (mkF m 23 #[.val (.int p0), .val (.int p1), .val (.int v16_1), .val .null, .unset] [(.int v16_1)]))
                                    obtain ⟨_, _, ⟨T159, L159, k159, n159⟩, -, X159, ⟨Lc159, hQ159, l159, y159, z159⟩, st159⟩ := Jvm.LawKit.callS X158 hx (y := (⟨"com/example/nuntius/nuntius/protocol/OpcodeOfCodePinLaw", "expected", "(I)Lcom/example/nuntius/nuntius/protocol/Opcode;"⟩ : MethodName)) hown (mvT hZ (hw _ (List.mem_of_getElem? (i := 7) rfl))) (mvT hZ (hw _ (List.mem_of_getElem? (i := 8) rfl))) (mvT hZ (hw _ (List.mem_of_getElem? (i := 9) rfl))) (mvT hZ (hw _ (List.mem_of_getElem? (i := 10) rfl))) (by decide) (backOf (W := 0) (rm2_n l Z a0 hw [] v16_1 h0 n0 (Nat.le_trans Z0 (Keep.refl h0 []).1) hs17_91 hs17_95 hs17_99 hs17_103 hs17_110 hs17_114 hs17_118 hs17_122 hs17_126 hs17_130 hs17_134 hs17_138 hs17_142 hs17_146 hs17_150 hs17_154) hZ (hw _ (List.mem_of_getElem? (i := 10) rfl)) (hw _ (List.mem_of_getElem? (i := 9) rfl)) (by decide) (by decide)) (g := (mkF m 23 #[.val (.int p0), .val (.int p1), .val (.int v16_1), .val .null, .unset] [(.int v16_1)])) rfl (by rw [hml]; rfl) (argsL := [(.int v16_1)]) (rest := []) (lenOf pd_0 rfl) rfl (by show 2 * 0 + _ ≤ _; exact Nat.le_of_eq rfl) (hb hby at_23) (fun _ _ => ⟨rfl, hh158, (by decide : 0 + 0 ≤ _), (by decide : 0 + 0 ≤ _)⟩)
                                    dsimp only [Pt.U, Pt.locs, Pt.cells, Pt.slots] at X159 l159 y159 z159 st159 hQ159
                                    subst l159 y159 z159
                                    obtain ⟨rfl, Nq159, hh159⟩ := hQ159
                                    have N159 := Fr.app N158 Nq159
                                    refine Ends.step st159 ?_
                                    show Ends p e below QQ (T159.setTop (mkF m 26 #[.val (.int p0), .val (.int p1), .val (.int v16_1), .val .null, .unset] [.null]))
                                    refine Ends.step (fun _ k => XS.astore X159.here hx rfl (hb hby at_26) rfl rfl (l' := #[.val (.int p0), .val (.int p1), .val (.int v16_1), .val .null, .val .null]) rfl k) ?_
                                    show Ends p e below QQ (T159.setTop (mkF m 28 #[.val (.int p0), .val (.int p1), .val (.int v16_1), .val .null, .val .null] []))
                                    refine Ends.step (fun _ k => XS.aloadN X159.here hx rfl (hb hby at_28) rfl rfl k) ?_
                                    show Ends p e below QQ (T159.setTop (mkF m 29 #[.val (.int p0), .val (.int p1), .val (.int v16_1), .val .null, .val .null] [.null]))
                                    refine Ends.step (fun _ k => XS.aload X159.here hx rfl (hb hby at_29) rfl rfl k) ?_
                                    show Ends p e below QQ (T159.setTop (mkF m 31 #[.val (.int p0), .val (.int p1), .val (.int v16_1), .val .null, .val .null] [.null, .null]))
                                    refine Ends.step (fun _ k => Jvm.RoadKit.acmp (g := (mkF m 31 #[.val (.int p0), .val (.int p1), .val (.int v16_1), .val .null, .val .null] [.null, .null])) X159 hx rfl rfl rfl (pc0 := 31) (pc' := 36) (same := true) rfl (hb hby at_31) rfl (decide_eq_true rfl) (by decide) (by decide) k) ?_
                                    show Ends p e below QQ (T159.setTop (mkF m 36 #[.val (.int p0), .val (.int p1), .val (.int v16_1), .val .null, .val .null] []))
                                    refine Ends.step (fun _ k => XS.aloadN X159.here hx rfl (hb hby at_36) rfl rfl k) ?_
                                    show Ends p e below QQ (T159.setTop (mkF m 37 #[.val (.int p0), .val (.int p1), .val (.int v16_1), .val .null, .val .null] [.null]))
                                    refine Ends.step (fun _ k => XS.ifnullYes X159.here hx rfl (pc0 := 37) (pc' := 50) rfl (hb hby at_37) rfl (by decide) (by decide) k) ?_
                                    show Ends p e below QQ (T159.setTop (mkF m 50 #[.val (.int p0), .val (.int p1), .val (.int v16_1), .val .null, .val .null] []))
                                    refine Ends.step (fun _ k => XT.iconstV X159.here hx rfl (1 : Int32) (hb hby at_50) rfl k) ?_
                                    show Ends p e below QQ (T159.setTop (mkF m 51 #[.val (.int p0), .val (.int p1), .val (.int v16_1), .val .null, .val .null] [(.int (1 : Int32))]))
                                    exact Ends.fin (some (.int (1 : Int32))) X159 hQQ (fun h => by rw [Bd.returns] at h; cases h) Bd.notSynchronized (fun _ hr => retOut X159 hx (t := .boolean) Bd.returns rfl (Or.inl ⟨rfl, (by simp), _, rfl⟩) (hb hby at_51) hr) hh159 (by decide) (by decide) ⟨(by simp only [f0, dv16_1, if_neg hs17_91, if_neg hs17_95, if_neg hs17_99, if_neg hs17_103, if_neg hs17_107, if_neg hs17_110, if_neg hs17_114, if_neg hs17_118, if_neg hs17_122, if_neg hs17_126, if_neg hs17_130, if_neg hs17_134, if_neg hs17_138, if_neg hs17_142, if_neg hs17_146, if_neg hs17_150, if_neg hs17_154]), N159, (Keep.refl h0 [])⟩
theorem own_law (a b : Int32) : f0 a b = 1 := by
  simp only [f0]
  repeat' split
  all_goals rfl
set_option maxRecDepth 65536 in
set_option maxHeartbeats 40000000 in
theorem comes_1 {Post : Tables → Env → Array Value → State → Outcome → State → Prop} (hpost : ∀ tb e args s v u, (limb_1_1.after args s (.returned v) u = true ∧ limb_1_2.after args s (.returned v) u = true ∧ True) → FrameEnd s (.returned v) u (Jvm.fieldLocs frame_1_writes args s ++ Jvm.arrayLocs frame_1_arrays args s ++ Jvm.staticLocs frame_1_statics s) 0 0 → Post tb e args s (.returned v) u) :
    ArmFor flags0 classFile x code maxLocals ret World_1 tables_1 room_1 Calls_1 rest_1 Pre_1 Post := by
  intro l hfl _ _ p e ha hc hk s m args below hf hA hF happ hP
  obtain ⟨hcalls, hrest, hpre⟩ := hP
  obtain ⟨-, -, -, hnamed, -, -, -, hat⟩ := (Spec.applies_iff hf).mp happ
  obtain ⟨hg, hn⟩ := and_e (Cond.before_iff.mp (show (Jvm.Cond.and given_1 narrow_1).before args s = true from hpre))
  obtain ⟨gl1, gr1⟩ := and_e hg
  obtain ⟨gl2, gr2⟩ := and_e gr1
  obtain ⟨w0, w1, rfl⟩ : ∃ w0 w1 : Value, args = #[w0, w1] := by
    have hs : args.size = 2 := by simpa [Cond.value, given_1] using gl1
    obtain ⟨L⟩ := args
    match L, hs with
    | [w0, w1], _ => exact ⟨w0, w1, rfl⟩
  have hw := fun d (hd : d ∈ tables_1) => atoms_spec (ws := Jvm.Cond.code x code maxLocals ret :: tables_1) hat d (List.mem_cons_of_mem _ hd)
  have hfit : Fit s := fun {y c} hc i hi => by
    obtain ⟨ha, rfl⟩ := Array.getElem?_eq_some_iff.mp hc
    have q := List.all_eq_true.mp ((Array.all_eq_true_iff_forall_mem.mp hF) _ (Array.getElem_mem ha)) i (List.mem_range.mpr hi)
    simpa [Array.getElem?_eq_getElem hi] using q
  obtain ⟨i0, ei0⟩ := is_v gl2
  obtain rfl : w0 = (.int i0) := Option.some.inj ei0
  obtain ⟨i1, ei1⟩ := is_v gr2
  obtain rfl : w1 = (.int i1) := Option.some.inj ei1
  obtain ⟨nl1, nr1⟩ := and_e hn
  obtain ⟨nl2, nr2⟩ := and_e nr1
  obtain ⟨nl3, nr3⟩ := and_e nr2
  obtain ⟨nl4, nr4⟩ := and_e nr3
  obtain ⟨nl5, nr5⟩ := and_e nr4
  obtain ⟨nl6, nr6⟩ := and_e nr5
  obtain ⟨nl7, nr7⟩ := and_e nr6
  obtain ⟨nl8, nr8⟩ := and_e nr7
  obtain ⟨nl9, nr9⟩ := and_e nr8
  obtain ⟨nl10, nr10⟩ := and_e nr9
  obtain ⟨nl11, nr11⟩ := and_e nr10
  obtain ⟨nl12, nr12⟩ := and_e nr11
  obtain ⟨nl13, nr13⟩ := and_e nr12
  obtain ⟨nl14, nr14⟩ := and_e nr13
  obtain ⟨nl15, nr15⟩ := and_e nr14
  obtain ⟨nl16, nr16⟩ := and_e nr15
  obtain ⟨nl17, nr17⟩ := and_e nr16
  obtain ⟨nl18, nr18⟩ := and_e nr17
  obtain ⟨nl19, nr19⟩ := and_e nr18
  obtain ⟨nl20, nr20⟩ := and_e nr19
  obtain ⟨nl21, nr21⟩ := and_e nr20
  obtain ⟨nl22, nr22⟩ := and_e nr21
  obtain ⟨nl23, nr23⟩ := and_e nr22
  obtain ⟨nl24, nr24⟩ := and_e nr23
  obtain ⟨nl25, nr25⟩ := and_e nr24
  obtain ⟨nl26, nr26⟩ := and_e nr25
  obtain ⟨nl27, nr27⟩ := and_e nr26
  obtain ⟨nl28, nr28⟩ := and_e nr27
  obtain ⟨nl29, nr29⟩ := and_e nr28
  obtain ⟨nl30, nr30⟩ := and_e nr29
  obtain ⟨nl31, nr31⟩ := and_e nr30
  obtain ⟨nl32, nr32⟩ := and_e nr31
  obtain ⟨nl33, nr33⟩ := and_e nr32
  obtain ⟨nl34, nr34⟩ := and_e nr33
  obtain ⟨nl35, nr35⟩ := and_e nr34
  obtain ⟨nl36, nr36⟩ := and_e nr35
  obtain ⟨nl37, nr37⟩ := and_e nr36
  obtain ⟨nl38, nr38⟩ := and_e nr37
  obtain ⟨nl39, nr39⟩ := and_e nr38
  obtain ⟨nl40, nr40⟩ := and_e nr39
  obtain ⟨nl41, nr41⟩ := and_e nr40
  obtain ⟨nl42, nr42⟩ := and_e nr41
  obtain ⟨nl43, nr43⟩ := and_e nr42
  obtain ⟨nl44, nr44⟩ := and_e nr43
  obtain ⟨nl45, nr45⟩ := and_e nr44
  obtain ⟨nl46, nr46⟩ := and_e nr45
  obtain ⟨nl47, nr47⟩ := and_e nr46
  obtain ⟨nl48, nr48⟩ := and_e nr47
  obtain ⟨nl49, nr49⟩ := and_e nr48
  obtain ⟨nl50, nr50⟩ := and_e nr49
  obtain ⟨a_BY_CODE, ev_a_BY_CODE⟩ := arr_v nl1
  obtain ⟨cl_a_BY_CODE, Ar_a_BY_CODE⟩ := Arr.start ev_a_BY_CODE nl1
  obtain ⟨a_ERROR, ev_a_ERROR⟩ := exa_v nl3
  have E_a_ERROR := Exa.start ev_a_ERROR nl3
  obtain ⟨a_AUTH_CHALLENGE, ev_a_AUTH_CHALLENGE⟩ := exa_v nl6
  have E_a_AUTH_CHALLENGE := Exa.start ev_a_AUTH_CHALLENGE nl6
  obtain ⟨a_SUPPORTED, ev_a_SUPPORTED⟩ := exa_v nl9
  have E_a_SUPPORTED := Exa.start ev_a_SUPPORTED nl9
  obtain ⟨a_RESULT, ev_a_RESULT⟩ := exa_v nl13
  have E_a_RESULT := Exa.start ev_a_RESULT nl13
  obtain ⟨a_EVENT, ev_a_EVENT⟩ := exa_v nl16
  have E_a_EVENT := Exa.start ev_a_EVENT nl16
  obtain ⟨a_AUTHENTICATE, ev_a_AUTHENTICATE⟩ := exa_v nl19
  have E_a_AUTHENTICATE := Exa.start ev_a_AUTHENTICATE nl19
  obtain ⟨a_EXECUTE, ev_a_EXECUTE⟩ := exa_v nl22
  have E_a_EXECUTE := Exa.start ev_a_EXECUTE nl22
  obtain ⟨a_AUTH_SUCCESS, ev_a_AUTH_SUCCESS⟩ := exa_v nl25
  have E_a_AUTH_SUCCESS := Exa.start ev_a_AUTH_SUCCESS nl25
  obtain ⟨a_OPTIONS, ev_a_OPTIONS⟩ := exa_v nl28
  have E_a_OPTIONS := Exa.start ev_a_OPTIONS nl28
  obtain ⟨a_STARTUP, ev_a_STARTUP⟩ := exa_v nl31
  have E_a_STARTUP := Exa.start ev_a_STARTUP nl31
  obtain ⟨a_PREPARE, ev_a_PREPARE⟩ := exa_v nl34
  have E_a_PREPARE := Exa.start ev_a_PREPARE nl34
  obtain ⟨a_REGISTER, ev_a_REGISTER⟩ := exa_v nl37
  have E_a_REGISTER := Exa.start ev_a_REGISTER nl37
  obtain ⟨a_READY, ev_a_READY⟩ := exa_v nl40
  have E_a_READY := Exa.start ev_a_READY nl40
  obtain ⟨a_QUERY, ev_a_QUERY⟩ := exa_v nl43
  have E_a_QUERY := Exa.start ev_a_QUERY nl43
  obtain ⟨a_AUTH_RESPONSE, ev_a_AUTH_RESPONSE⟩ := exa_v nl46
  have E_a_AUTH_RESPONSE := Exa.start ev_a_AUTH_RESPONSE nl46
  obtain ⟨a_BATCH, ev_a_BATCH⟩ := exa_v nl49
  have E_a_BATCH := Exa.start ev_a_BATCH nl49
  obtain ⟨lt_a_BY_CODE, sz_a_BY_CODE⟩ := own_len nl2 ev_a_BY_CODE Ar_a_BY_CODE
  have at_a_BY_CODE_0 : cl_a_BY_CODE.slots[(0 : Int32).toNatClampNeg]? = some (.ref a_ERROR) := own_elem nl4 ev_a_BY_CODE Ar_a_BY_CODE (ev_a_ERROR)
  have F_code_a_ERROR : Fld s s.heap a_ERROR "com/example/nuntius/nuntius/protocol/Opcode" "code" "I" (.int (0 : Int32)) := own_fld nl5 ev_a_ERROR rfl
  have at_a_BY_CODE_14 : cl_a_BY_CODE.slots[(14 : Int32).toNatClampNeg]? = some (.ref a_AUTH_CHALLENGE) := own_elem nl7 ev_a_BY_CODE Ar_a_BY_CODE (ev_a_AUTH_CHALLENGE)
  have F_code_a_AUTH_CHALLENGE : Fld s s.heap a_AUTH_CHALLENGE "com/example/nuntius/nuntius/protocol/Opcode" "code" "I" (.int (14 : Int32)) := own_fld nl8 ev_a_AUTH_CHALLENGE rfl
  have at_a_BY_CODE_6 : cl_a_BY_CODE.slots[(6 : Int32).toNatClampNeg]? = some (.ref a_SUPPORTED) := own_elem nl10 ev_a_BY_CODE Ar_a_BY_CODE (ev_a_SUPPORTED)
  have F_code_a_SUPPORTED : Fld s s.heap a_SUPPORTED "com/example/nuntius/nuntius/protocol/Opcode" "code" "I" (.int (6 : Int32)) := own_fld nl11 ev_a_SUPPORTED rfl
  have at_a_BY_CODE_4 : cl_a_BY_CODE.slots[(4 : Int32).toNatClampNeg]? = some .null := own_elem nl12 ev_a_BY_CODE Ar_a_BY_CODE (rfl)
  have at_a_BY_CODE_8 : cl_a_BY_CODE.slots[(8 : Int32).toNatClampNeg]? = some (.ref a_RESULT) := own_elem nl14 ev_a_BY_CODE Ar_a_BY_CODE (ev_a_RESULT)
  have F_code_a_RESULT : Fld s s.heap a_RESULT "com/example/nuntius/nuntius/protocol/Opcode" "code" "I" (.int (8 : Int32)) := own_fld nl15 ev_a_RESULT rfl
  have at_a_BY_CODE_12 : cl_a_BY_CODE.slots[(12 : Int32).toNatClampNeg]? = some (.ref a_EVENT) := own_elem nl17 ev_a_BY_CODE Ar_a_BY_CODE (ev_a_EVENT)
  have F_code_a_EVENT : Fld s s.heap a_EVENT "com/example/nuntius/nuntius/protocol/Opcode" "code" "I" (.int (12 : Int32)) := own_fld nl18 ev_a_EVENT rfl
  have at_a_BY_CODE_3 : cl_a_BY_CODE.slots[(3 : Int32).toNatClampNeg]? = some (.ref a_AUTHENTICATE) := own_elem nl20 ev_a_BY_CODE Ar_a_BY_CODE (ev_a_AUTHENTICATE)
  have F_code_a_AUTHENTICATE : Fld s s.heap a_AUTHENTICATE "com/example/nuntius/nuntius/protocol/Opcode" "code" "I" (.int (3 : Int32)) := own_fld nl21 ev_a_AUTHENTICATE rfl
  have at_a_BY_CODE_10 : cl_a_BY_CODE.slots[(10 : Int32).toNatClampNeg]? = some (.ref a_EXECUTE) := own_elem nl23 ev_a_BY_CODE Ar_a_BY_CODE (ev_a_EXECUTE)
  have F_code_a_EXECUTE : Fld s s.heap a_EXECUTE "com/example/nuntius/nuntius/protocol/Opcode" "code" "I" (.int (10 : Int32)) := own_fld nl24 ev_a_EXECUTE rfl
  have at_a_BY_CODE_16 : cl_a_BY_CODE.slots[(16 : Int32).toNatClampNeg]? = some (.ref a_AUTH_SUCCESS) := own_elem nl26 ev_a_BY_CODE Ar_a_BY_CODE (ev_a_AUTH_SUCCESS)
  have F_code_a_AUTH_SUCCESS : Fld s s.heap a_AUTH_SUCCESS "com/example/nuntius/nuntius/protocol/Opcode" "code" "I" (.int (16 : Int32)) := own_fld nl27 ev_a_AUTH_SUCCESS rfl
  have at_a_BY_CODE_5 : cl_a_BY_CODE.slots[(5 : Int32).toNatClampNeg]? = some (.ref a_OPTIONS) := own_elem nl29 ev_a_BY_CODE Ar_a_BY_CODE (ev_a_OPTIONS)
  have F_code_a_OPTIONS : Fld s s.heap a_OPTIONS "com/example/nuntius/nuntius/protocol/Opcode" "code" "I" (.int (5 : Int32)) := own_fld nl30 ev_a_OPTIONS rfl
  have at_a_BY_CODE_1 : cl_a_BY_CODE.slots[(1 : Int32).toNatClampNeg]? = some (.ref a_STARTUP) := own_elem nl32 ev_a_BY_CODE Ar_a_BY_CODE (ev_a_STARTUP)
  have F_code_a_STARTUP : Fld s s.heap a_STARTUP "com/example/nuntius/nuntius/protocol/Opcode" "code" "I" (.int (1 : Int32)) := own_fld nl33 ev_a_STARTUP rfl
  have at_a_BY_CODE_9 : cl_a_BY_CODE.slots[(9 : Int32).toNatClampNeg]? = some (.ref a_PREPARE) := own_elem nl35 ev_a_BY_CODE Ar_a_BY_CODE (ev_a_PREPARE)
  have F_code_a_PREPARE : Fld s s.heap a_PREPARE "com/example/nuntius/nuntius/protocol/Opcode" "code" "I" (.int (9 : Int32)) := own_fld nl36 ev_a_PREPARE rfl
  have at_a_BY_CODE_11 : cl_a_BY_CODE.slots[(11 : Int32).toNatClampNeg]? = some (.ref a_REGISTER) := own_elem nl38 ev_a_BY_CODE Ar_a_BY_CODE (ev_a_REGISTER)
  have F_code_a_REGISTER : Fld s s.heap a_REGISTER "com/example/nuntius/nuntius/protocol/Opcode" "code" "I" (.int (11 : Int32)) := own_fld nl39 ev_a_REGISTER rfl
  have at_a_BY_CODE_2 : cl_a_BY_CODE.slots[(2 : Int32).toNatClampNeg]? = some (.ref a_READY) := own_elem nl41 ev_a_BY_CODE Ar_a_BY_CODE (ev_a_READY)
  have F_code_a_READY : Fld s s.heap a_READY "com/example/nuntius/nuntius/protocol/Opcode" "code" "I" (.int (2 : Int32)) := own_fld nl42 ev_a_READY rfl
  have at_a_BY_CODE_7 : cl_a_BY_CODE.slots[(7 : Int32).toNatClampNeg]? = some (.ref a_QUERY) := own_elem nl44 ev_a_BY_CODE Ar_a_BY_CODE (ev_a_QUERY)
  have F_code_a_QUERY : Fld s s.heap a_QUERY "com/example/nuntius/nuntius/protocol/Opcode" "code" "I" (.int (7 : Int32)) := own_fld nl45 ev_a_QUERY rfl
  have at_a_BY_CODE_15 : cl_a_BY_CODE.slots[(15 : Int32).toNatClampNeg]? = some (.ref a_AUTH_RESPONSE) := own_elem nl47 ev_a_BY_CODE Ar_a_BY_CODE (ev_a_AUTH_RESPONSE)
  have F_code_a_AUTH_RESPONSE : Fld s s.heap a_AUTH_RESPONSE "com/example/nuntius/nuntius/protocol/Opcode" "code" "I" (.int (15 : Int32)) := own_fld nl48 ev_a_AUTH_RESPONSE rfl
  have at_a_BY_CODE_13 : cl_a_BY_CODE.slots[(13 : Int32).toNatClampNeg]? = some (.ref a_BATCH) := own_elem nl50 ev_a_BY_CODE Ar_a_BY_CODE (ev_a_BATCH)
  have F_code_a_BATCH : Fld s s.heap a_BATCH "com/example/nuntius/nuntius/protocol/Opcode" "code" "I" (.int (13 : Int32)) := own_fld nr50 ev_a_BATCH rfl
  have A_a_BY_CODE : Arv s s.heap a_BY_CODE cl_a_BY_CODE.cls (.object "com/example/nuntius/nuntius/protocol/Opcode") (17 : Int32) [(.ref a_ERROR), (.ref a_STARTUP), (.ref a_READY), (.ref a_AUTHENTICATE), .null, (.ref a_OPTIONS), (.ref a_SUPPORTED), (.ref a_QUERY), (.ref a_RESULT), (.ref a_PREPARE), (.ref a_EXECUTE), (.ref a_REGISTER), (.ref a_EVENT), (.ref a_BATCH), (.ref a_AUTH_CHALLENGE), (.ref a_AUTH_RESPONSE), (.ref a_AUTH_SUCCESS)] .null := Arv.start hfit Ar_a_BY_CODE lt_a_BY_CODE sz_a_BY_CODE (by decide) rfl ⟨at_a_BY_CODE_0, at_a_BY_CODE_1, at_a_BY_CODE_2, at_a_BY_CODE_3, at_a_BY_CODE_4, at_a_BY_CODE_5, at_a_BY_CODE_6, at_a_BY_CODE_7, at_a_BY_CODE_8, at_a_BY_CODE_9, at_a_BY_CODE_10, at_a_BY_CODE_11, at_a_BY_CODE_12, at_a_BY_CODE_13, at_a_BY_CODE_14, at_a_BY_CODE_15, at_a_BY_CODE_16, trivial⟩
  have S_BY_CODE := Sta.start ev_a_BY_CODE (Or.inr ⟨(hw _ (List.mem_of_getElem? (i := 2) rfl)), (hw _ (List.mem_of_getElem? (i := 5) rfl))⟩)
  have S_ERROR := Sta.start ev_a_ERROR (Or.inr ⟨(hw _ (List.mem_of_getElem? (i := 2) rfl)), (hw _ (List.mem_of_getElem? (i := 6) rfl))⟩)
  have S_AUTH_CHALLENGE := Sta.start ev_a_AUTH_CHALLENGE (Or.inr ⟨(hw _ (List.mem_of_getElem? (i := 2) rfl)), (hw _ (List.mem_of_getElem? (i := 19) rfl))⟩)
  have S_SUPPORTED := Sta.start ev_a_SUPPORTED (Or.inr ⟨(hw _ (List.mem_of_getElem? (i := 2) rfl)), (hw _ (List.mem_of_getElem? (i := 21) rfl))⟩)
  have S_RESULT := Sta.start ev_a_RESULT (Or.inr ⟨(hw _ (List.mem_of_getElem? (i := 2) rfl)), (hw _ (List.mem_of_getElem? (i := 23) rfl))⟩)
  have S_EVENT := Sta.start ev_a_EVENT (Or.inr ⟨(hw _ (List.mem_of_getElem? (i := 2) rfl)), (hw _ (List.mem_of_getElem? (i := 25) rfl))⟩)
  have S_AUTHENTICATE := Sta.start ev_a_AUTHENTICATE (Or.inr ⟨(hw _ (List.mem_of_getElem? (i := 2) rfl)), (hw _ (List.mem_of_getElem? (i := 27) rfl))⟩)
  have S_EXECUTE := Sta.start ev_a_EXECUTE (Or.inr ⟨(hw _ (List.mem_of_getElem? (i := 2) rfl)), (hw _ (List.mem_of_getElem? (i := 29) rfl))⟩)
  have S_AUTH_SUCCESS := Sta.start ev_a_AUTH_SUCCESS (Or.inr ⟨(hw _ (List.mem_of_getElem? (i := 2) rfl)), (hw _ (List.mem_of_getElem? (i := 31) rfl))⟩)
  have S_OPTIONS := Sta.start ev_a_OPTIONS (Or.inr ⟨(hw _ (List.mem_of_getElem? (i := 2) rfl)), (hw _ (List.mem_of_getElem? (i := 33) rfl))⟩)
  have S_STARTUP := Sta.start ev_a_STARTUP (Or.inr ⟨(hw _ (List.mem_of_getElem? (i := 2) rfl)), (hw _ (List.mem_of_getElem? (i := 35) rfl))⟩)
  have S_PREPARE := Sta.start ev_a_PREPARE (Or.inr ⟨(hw _ (List.mem_of_getElem? (i := 2) rfl)), (hw _ (List.mem_of_getElem? (i := 37) rfl))⟩)
  have S_REGISTER := Sta.start ev_a_REGISTER (Or.inr ⟨(hw _ (List.mem_of_getElem? (i := 2) rfl)), (hw _ (List.mem_of_getElem? (i := 39) rfl))⟩)
  have S_READY := Sta.start ev_a_READY (Or.inr ⟨(hw _ (List.mem_of_getElem? (i := 2) rfl)), (hw _ (List.mem_of_getElem? (i := 41) rfl))⟩)
  have S_QUERY := Sta.start ev_a_QUERY (Or.inr ⟨(hw _ (List.mem_of_getElem? (i := 2) rfl)), (hw _ (List.mem_of_getElem? (i := 43) rfl))⟩)
  have S_AUTH_RESPONSE := Sta.start ev_a_AUTH_RESPONSE (Or.inr ⟨(hw _ (List.mem_of_getElem? (i := 2) rfl)), (hw _ (List.mem_of_getElem? (i := 45) rfl))⟩)
  have S_BATCH := Sta.start ev_a_BATCH (Or.inr ⟨(hw _ (List.mem_of_getElem? (i := 2) rfl)), (hw _ (List.mem_of_getElem? (i := 47) rfl))⟩)
  obtain ⟨n, o, h1, h2, h3, _, L, rfl, hQ, hq⟩ := rm0 l s _ hw tables_1 i0 i1 a_BY_CODE a_ERROR a_AUTH_CHALLENGE a_SUPPORTED a_RESULT a_EVENT a_AUTHENTICATE a_EXECUTE a_AUTH_SUCCESS a_OPTIONS a_STARTUP a_PREPARE a_REGISTER a_READY a_QUERY a_AUTH_RESPONSE a_BATCH cl_a_BY_CODE.cls s.heap s.heap.size (Nat.le_refl _) E_a_ERROR E_a_AUTH_CHALLENGE E_a_SUPPORTED E_a_RESULT E_a_EVENT E_a_AUTHENTICATE E_a_EXECUTE E_a_AUTH_SUCCESS E_a_OPTIONS E_a_STARTUP E_a_PREPARE E_a_REGISTER E_a_READY E_a_QUERY E_a_AUTH_RESPONSE E_a_BATCH F_code_a_ERROR F_code_a_AUTH_CHALLENGE F_code_a_SUPPORTED F_code_a_RESULT F_code_a_EVENT F_code_a_AUTHENTICATE F_code_a_EXECUTE F_code_a_AUTH_SUCCESS F_code_a_OPTIONS F_code_a_STARTUP F_code_a_PREPARE F_code_a_REGISTER F_code_a_READY F_code_a_QUERY F_code_a_AUTH_RESPONSE F_code_a_BATCH A_a_BY_CODE S_BY_CODE S_ERROR S_AUTH_CHALLENGE S_SUPPORTED S_RESULT S_EVENT S_AUTHENTICATE S_EXECUTE S_AUTH_SUCCESS S_OPTIONS S_STARTUP S_PREPARE S_REGISTER S_READY S_QUERY S_AUTH_RESPONSE S_BATCH p e ha hc hk s m _ below hf ((Spec.applies_iff_loose hf).mp happ).1 ⟨rfl, State.Warmed39.refl s, rfl⟩ trivial
  obtain ⟨hv, N, -⟩ := hQ
  have hlaw : (f0 i0 i1) = 1 := own_law i0 i1
  rw [hlaw] at hv
  subst hv
  refine ⟨n, _, h1, h2, h3, hpost _ _ _ _ _ _ ⟨Cond.after_iff.mpr rfl, Cond.after_iff.mpr (eq_i res_at (Term.int_eval (1)) rfl), trivial⟩ ⟨hq.1, hq.2.1, (hq.2.2.sift fun y hy => Or.inr (N y hy)).mono (by decide) (by decide)⟩⟩
theorem main_1_1 : Claimed_1_1 := comes_1 fun _ _ _ _ _ _ h hF => ⟨h.1, hF⟩
theorem main_1_2 : Claimed_1_2 := comes_1 fun _ _ _ _ _ _ h hF => ⟨h.2.1, hF⟩
end Jvm.Pilot.@@N@@
namespace Jvm.Pilot.@@N@@
open Jvm Jvm.ClassFile Sem Op Lib Jvm.Free Jvm.Stand Jvm.Pilot.@@N@@.Jvm.D
/-! MADE BY PROGRAM (witnessworld.py) out of the Statement's table words and the real class files: 13 classes; the members and pool entries that the words name. The judged class is class 1, her method 2. -/
namespace start1
open Jvm.ClassFile
def u (s : String) : CpInfo := .utf8 (stringToUtf16 s)
/-- a pool by its gaps: so many unusable entries, then the entry; so many at the end -/
def gap : Nat → List CpInfo → List CpInfo
  | 0, r => r
  | n + 1, r => .unusable :: gap n r
def poolList (es : List (Nat × CpInfo)) (last : Nat) : List CpInfo := es.foldr (fun e r => gap e.1 (e.2 :: r)) (gap last [])
def pool (es : List (Nat × CpInfo)) (last : Nat) : Array CpInfo := ⟨poolList es last⟩
def fileOf (pool : Array CpInfo) (this : Nat) (attrs : Array Attribute := #[]) (ms : Array MethodInfo := #[]) (fl : Nat := 33) (sup : Nat := 0) (ifs : Array Nat := #[]) (fds : Array FieldInfo := #[]) : ClassFile where
  minorVersion := 0
  majorVersion := 65
  constantPool := pool
  accessFlags := fl
  thisClass := this
  superClass := sup
  interfaces := ifs
  fields := fds
  methods := ms
  attributes := attrs
def plain (name : String) (sup : Option ClassId) : Class where
  name := name
  kind := .ordinary
  loader := none
  accessFlags := 33
  super := sup
  interfaces := #[]
  cf := none
  fields := #[]
  methods := #[]
  instanceTypes := #[]
  staticTypes := #[]
  resolved := #[]
  callSites := []
  init := .initialized
  statics := none
  mirror := none

def pool0 : Array CpInfo := pool [(5, u "<init>"), (0, u "()V"), (1, .class_ 10), (1, u "java/lang/Object")] 113

def k0m0 : Method := { name := "<init>", desc := "()V", sig := { parameters := [], returnType := none }, accessFlags := 1, code := none }
/-- java/lang/Object -/
def k0 : Class := { plain "java/lang/Object" none with
  accessFlags := 33
  interfaces := #[]
  cf := some (fileOf pool0 8 #[] #[{ accessFlags := 1, nameIndex := 5, descriptorIndex := 6, attributes := #[] }] 33 0 #[] #[])
  fields := #[]
  methods := #[k0m0]
  instanceTypes := #[]
  staticTypes := #[]
  resolved := Array.replicate 124 none
  statics := none }

def pool1 : Array CpInfo := pool [(2, .class_ 4), (1, u "java/lang/Object"), (0, u "<init>"), (0, u "()V"), (0, .fieldref 8 9), (0, .class_ 10), (0, .nameAndType 11 12), (0, u "com/example/nuntius/nuntius/protocol/Opcode"), (0, u "ERROR"), (0, u "Lcom/example/nuntius/nuntius/protocol/Opcode;"), (0, .fieldref 8 14), (0, .nameAndType 15 12), (0, u "STARTUP"), (0, .fieldref 8 17), (0, .nameAndType 18 12), (0, u "READY"), (0, .fieldref 8 20), (0, .nameAndType 21 12), (0, u "AUTHENTICATE"), (0, .fieldref 8 23), (0, .nameAndType 24 12), (0, u "OPTIONS"), (0, .fieldref 8 26), (0, .nameAndType 27 12), (0, u "SUPPORTED"), (0, .fieldref 8 29), (0, .nameAndType 30 12), (0, u "QUERY"), (0, .fieldref 8 32), (0, .nameAndType 33 12), (0, u "RESULT"), (0, .fieldref 8 35), (0, .nameAndType 36 12), (0, u "PREPARE"), (0, .fieldref 8 38), (0, .nameAndType 39 12), (0, u "EXECUTE"), (0, .fieldref 8 41), (0, .nameAndType 42 12), (0, u "REGISTER"), (0, .fieldref 8 44), (0, .nameAndType 45 12), (0, u "EVENT"), (0, .fieldref 8 47), (0, .nameAndType 48 12), (0, u "BATCH"), (0, .fieldref 8 50), (0, .nameAndType 51 12), (0, u "AUTH_CHALLENGE"), (0, .fieldref 8 53), (0, .nameAndType 54 12), (0, u "AUTH_RESPONSE"), (0, .fieldref 8 56), (0, .nameAndType 57 12), (0, u "AUTH_SUCCESS"), (0, .methodref 8 59), (0, .nameAndType 60 61), (0, u "ofCode"), (0, u "(I)Lcom/example/nuntius/nuntius/protocol/Opcode;"), (0, .methodref 63 64), (0, .class_ 65), (0, .nameAndType 66 61), (0, u "com/example/nuntius/nuntius/protocol/OpcodeOfCodePinLaw"), (0, u "expected"), (0, .methodref 8 68), (0, .nameAndType 69 70), (0, u "code"), (0, u "()I"), (3, u "law"), (0, u "(II)Z")] 2

def k1m0 : Method := { name := "<init>", desc := "()V", sig := { parameters := [], returnType := none }, accessFlags := 1, code := none }
def k1c1 : Code := { maxStack := 2, maxLocals := 1, code := method_2_code, exceptionTable := #[], attributes := #[] }
def k1m1 : Method := { name := "expected", desc := "(I)Lcom/example/nuntius/nuntius/protocol/Opcode;", sig := { parameters := [.int], returnType := some (.object "com/example/nuntius/nuntius/protocol/Opcode") }, accessFlags := 10, code := some k1c1 }
def k1c2 : Code := { maxStack := 2, maxLocals := 5, code := code, exceptionTable := #[], attributes := #[] }
def k1m2 : Method := { name := "law", desc := "(II)Z", sig := { parameters := [.int, .int], returnType := some .boolean }, accessFlags := 9, code := some k1c2 }
/-- com/example/nuntius/nuntius/protocol/OpcodeOfCodePinLaw -/
def k1 : Class := { plain "com/example/nuntius/nuntius/protocol/OpcodeOfCodePinLaw" (some 0) with
  accessFlags := 49
  interfaces := #[]
  cf := some (fileOf pool1 63 #[] #[{ accessFlags := 1, nameIndex := 5, descriptorIndex := 6, attributes := #[] }, { accessFlags := 10, nameIndex := 66, descriptorIndex := 61, attributes := #[] }, { accessFlags := 9, nameIndex := 74, descriptorIndex := 75, attributes := #[] }] 49 2 #[] #[])
  fields := #[]
  methods := #[k1m0, k1m1, k1m2]
  instanceTypes := #[]
  staticTypes := #[]
  resolved := Array.replicate 78 none
  statics := none }

def pool2 : Array CpInfo := pool [(1, .class_ 2), (0, u "java/lang/constant/Constable"), (0, .class_ 4), (0, u "java/lang/Object")] 6

/-- java/lang/constant/Constable -/
def k2 : Class := { plain "java/lang/constant/Constable" (some 0) with
  accessFlags := 1537
  interfaces := #[]
  cf := some (fileOf pool2 1 #[] #[] 1537 3 #[] #[])
  fields := #[]
  methods := #[]
  instanceTypes := #[]
  staticTypes := #[]
  resolved := Array.replicate 11 none
  statics := none }

def pool3 : Array CpInfo := pool [(1, .class_ 2), (0, u "java/lang/Comparable"), (0, .class_ 4), (0, u "java/lang/Object")] 7

/-- java/lang/Comparable -/
def k3 : Class := { plain "java/lang/Comparable" (some 0) with
  accessFlags := 1537
  interfaces := #[]
  cf := some (fileOf pool3 1 #[] #[] 1537 3 #[] #[])
  fields := #[]
  methods := #[]
  instanceTypes := #[]
  staticTypes := #[]
  resolved := Array.replicate 12 none
  statics := none }

def pool4 : Array CpInfo := pool [(1, .class_ 2), (0, u "java/io/Serializable"), (0, .class_ 4), (0, u "java/lang/Object")] 2

/-- java/io/Serializable -/
def k4 : Class := { plain "java/io/Serializable" (some 0) with
  accessFlags := 1537
  interfaces := #[]
  cf := some (fileOf pool4 1 #[] #[] 1537 3 #[] #[])
  fields := #[]
  methods := #[]
  instanceTypes := #[]
  staticTypes := #[]
  resolved := Array.replicate 7 none
  statics := none }

def pool5 : Array CpInfo := pool [(2, .class_ 4), (1, u "java/lang/Enum"), (0, u "name"), (0, u "Ljava/lang/String;"), (2, u "ordinal"), (0, u "I"), (1, .class_ 14), (1, u "java/lang/Object"), (4, u "hash"), (86, .class_ 108), (1, u "java/lang/Enum$EnumDesc"), (2, .class_ 112), (0, u "java/lang/constant/Constable"), (0, .class_ 114), (0, u "java/lang/Comparable"), (0, .class_ 116), (0, u "java/io/Serializable")] 87

/-- java/lang/Enum -/
def k5 : Class := { plain "java/lang/Enum" (some 0) with
  accessFlags := 1057
  interfaces := #[2, 3, 4]
  cf := some (fileOf pool5 2 #[.nestMembers #[106]] #[] 1057 12 #[111, 113, 115] #[{ accessFlags := 18, nameIndex := 5, descriptorIndex := 6, attributes := #[] }, { accessFlags := 18, nameIndex := 9, descriptorIndex := 10, attributes := #[] }, { accessFlags := 2, nameIndex := 19, descriptorIndex := 10, attributes := #[] }])
  fields := #[{ name := "name", type := (.object "java/lang/String"), accessFlags := 18, slot := 0, constantValue := 0 }, { name := "ordinal", type := .int, accessFlags := 18, slot := 1, constantValue := 0 }, { name := "hash", type := .int, accessFlags := 2, slot := 2, constantValue := 0 }]
  methods := #[]
  instanceTypes := #[(.object "java/lang/String"), .int, .int]
  staticTypes := #[]
  resolved := Array.replicate 204 none
  statics := none }

def pool6 : Array CpInfo := pool [(1, .class_ 2), (0, u "com/example/nuntius/nuntius/protocol/Opcode"), (2, u "ERROR"), (0, u "Lcom/example/nuntius/nuntius/protocol/Opcode;"), (2, u "STARTUP"), (2, u "READY"), (2, u "AUTHENTICATE"), (2, u "OPTIONS"), (2, u "SUPPORTED"), (2, u "QUERY"), (2, u "RESULT"), (2, u "PREPARE"), (2, u "EXECUTE"), (2, u "REGISTER"), (2, u "EVENT"), (2, u "BATCH"), (2, u "AUTH_CHALLENGE"), (2, u "AUTH_RESPONSE"), (2, u "AUTH_SUCCESS"), (2, u "$VALUES"), (0, u "[Lcom/example/nuntius/nuntius/protocol/Opcode;"), (6, .class_ 64), (1, u "java/lang/Enum"), (6, .fieldref 1 72), (0, .nameAndType 73 74), (0, u "code"), (0, u "I"), (0, .fieldref 1 76), (0, .nameAndType 77 55), (0, u "BY_CODE"), (32, u "()I"), (0, u "ofCode"), (0, u "(I)Lcom/example/nuntius/nuntius/protocol/Opcode;")] 6

def k6c0 : Code := { maxStack := 1, maxLocals := 1, code := prog_43_method_4_code, exceptionTable := #[], attributes := #[] }
def k6m0 : Method := { name := "code", desc := "()I", sig := { parameters := [], returnType := some .int }, accessFlags := 1, code := some k6c0 }
def k6c1 : Code := { maxStack := 2, maxLocals := 2, code := prog_43_method_5_code, exceptionTable := #[], attributes := #[] }
def k6m1 : Method := { name := "ofCode", desc := "(I)Lcom/example/nuntius/nuntius/protocol/Opcode;", sig := { parameters := [.int], returnType := some (.object "com/example/nuntius/nuntius/protocol/Opcode") }, accessFlags := 9, code := some k6c1 }
/-- com/example/nuntius/nuntius/protocol/Opcode -/
def k6 : Class := { plain "com/example/nuntius/nuntius/protocol/Opcode" (some 5) with
  accessFlags := 16433
  interfaces := #[]
  cf := some (fileOf pool6 1 #[] #[{ accessFlags := 1, nameIndex := 73, descriptorIndex := 110, attributes := #[] }, { accessFlags := 9, nameIndex := 111, descriptorIndex := 112, attributes := #[] }] 16433 62 #[] #[{ accessFlags := 16409, nameIndex := 5, descriptorIndex := 6, attributes := #[] }, { accessFlags := 16409, nameIndex := 9, descriptorIndex := 6, attributes := #[] }, { accessFlags := 16409, nameIndex := 12, descriptorIndex := 6, attributes := #[] }, { accessFlags := 16409, nameIndex := 15, descriptorIndex := 6, attributes := #[] }, { accessFlags := 16409, nameIndex := 18, descriptorIndex := 6, attributes := #[] }, { accessFlags := 16409, nameIndex := 21, descriptorIndex := 6, attributes := #[] }, { accessFlags := 16409, nameIndex := 24, descriptorIndex := 6, attributes := #[] }, { accessFlags := 16409, nameIndex := 27, descriptorIndex := 6, attributes := #[] }, { accessFlags := 16409, nameIndex := 30, descriptorIndex := 6, attributes := #[] }, { accessFlags := 16409, nameIndex := 33, descriptorIndex := 6, attributes := #[] }, { accessFlags := 16409, nameIndex := 36, descriptorIndex := 6, attributes := #[] }, { accessFlags := 16409, nameIndex := 39, descriptorIndex := 6, attributes := #[] }, { accessFlags := 16409, nameIndex := 42, descriptorIndex := 6, attributes := #[] }, { accessFlags := 16409, nameIndex := 45, descriptorIndex := 6, attributes := #[] }, { accessFlags := 16409, nameIndex := 48, descriptorIndex := 6, attributes := #[] }, { accessFlags := 16409, nameIndex := 51, descriptorIndex := 6, attributes := #[] }, { accessFlags := 26, nameIndex := 77, descriptorIndex := 55, attributes := #[] }, { accessFlags := 18, nameIndex := 73, descriptorIndex := 74, attributes := #[] }, { accessFlags := 4122, nameIndex := 54, descriptorIndex := 55, attributes := #[] }])
  fields := #[{ name := "ERROR", type := (.object "com/example/nuntius/nuntius/protocol/Opcode"), accessFlags := 16409, slot := 0, constantValue := 0 }, { name := "STARTUP", type := (.object "com/example/nuntius/nuntius/protocol/Opcode"), accessFlags := 16409, slot := 1, constantValue := 0 }, { name := "READY", type := (.object "com/example/nuntius/nuntius/protocol/Opcode"), accessFlags := 16409, slot := 2, constantValue := 0 }, { name := "AUTHENTICATE", type := (.object "com/example/nuntius/nuntius/protocol/Opcode"), accessFlags := 16409, slot := 3, constantValue := 0 }, { name := "OPTIONS", type := (.object "com/example/nuntius/nuntius/protocol/Opcode"), accessFlags := 16409, slot := 4, constantValue := 0 }, { name := "SUPPORTED", type := (.object "com/example/nuntius/nuntius/protocol/Opcode"), accessFlags := 16409, slot := 5, constantValue := 0 }, { name := "QUERY", type := (.object "com/example/nuntius/nuntius/protocol/Opcode"), accessFlags := 16409, slot := 6, constantValue := 0 }, { name := "RESULT", type := (.object "com/example/nuntius/nuntius/protocol/Opcode"), accessFlags := 16409, slot := 7, constantValue := 0 }, { name := "PREPARE", type := (.object "com/example/nuntius/nuntius/protocol/Opcode"), accessFlags := 16409, slot := 8, constantValue := 0 }, { name := "EXECUTE", type := (.object "com/example/nuntius/nuntius/protocol/Opcode"), accessFlags := 16409, slot := 9, constantValue := 0 }, { name := "REGISTER", type := (.object "com/example/nuntius/nuntius/protocol/Opcode"), accessFlags := 16409, slot := 10, constantValue := 0 }, { name := "EVENT", type := (.object "com/example/nuntius/nuntius/protocol/Opcode"), accessFlags := 16409, slot := 11, constantValue := 0 }, { name := "BATCH", type := (.object "com/example/nuntius/nuntius/protocol/Opcode"), accessFlags := 16409, slot := 12, constantValue := 0 }, { name := "AUTH_CHALLENGE", type := (.object "com/example/nuntius/nuntius/protocol/Opcode"), accessFlags := 16409, slot := 13, constantValue := 0 }, { name := "AUTH_RESPONSE", type := (.object "com/example/nuntius/nuntius/protocol/Opcode"), accessFlags := 16409, slot := 14, constantValue := 0 }, { name := "AUTH_SUCCESS", type := (.object "com/example/nuntius/nuntius/protocol/Opcode"), accessFlags := 16409, slot := 15, constantValue := 0 }, { name := "BY_CODE", type := (.array (.object "com/example/nuntius/nuntius/protocol/Opcode")), accessFlags := 26, slot := 16, constantValue := 0 }, { name := "code", type := .int, accessFlags := 18, slot := 3, constantValue := 0 }, { name := "$VALUES", type := (.array (.object "com/example/nuntius/nuntius/protocol/Opcode")), accessFlags := 4122, slot := 17, constantValue := 0 }]
  methods := #[k6m0, k6m1]
  instanceTypes := #[(.object "java/lang/String"), .int, .int, .int]
  staticTypes := #[(.object "com/example/nuntius/nuntius/protocol/Opcode"), (.object "com/example/nuntius/nuntius/protocol/Opcode"), (.object "com/example/nuntius/nuntius/protocol/Opcode"), (.object "com/example/nuntius/nuntius/protocol/Opcode"), (.object "com/example/nuntius/nuntius/protocol/Opcode"), (.object "com/example/nuntius/nuntius/protocol/Opcode"), (.object "com/example/nuntius/nuntius/protocol/Opcode"), (.object "com/example/nuntius/nuntius/protocol/Opcode"), (.object "com/example/nuntius/nuntius/protocol/Opcode"), (.object "com/example/nuntius/nuntius/protocol/Opcode"), (.object "com/example/nuntius/nuntius/protocol/Opcode"), (.object "com/example/nuntius/nuntius/protocol/Opcode"), (.object "com/example/nuntius/nuntius/protocol/Opcode"), (.object "com/example/nuntius/nuntius/protocol/Opcode"), (.object "com/example/nuntius/nuntius/protocol/Opcode"), (.object "com/example/nuntius/nuntius/protocol/Opcode"), (.array (.object "com/example/nuntius/nuntius/protocol/Opcode")), (.array (.object "com/example/nuntius/nuntius/protocol/Opcode"))]
  resolved := Array.replicate 119 none
  statics := some 0 }

def pool7 : Array CpInfo := pool [(1, u "java/lang/Cloneable"), (0, .class_ 1), (0, u "java/lang/Object"), (0, .class_ 3)] 3

/-- java/lang/Cloneable -/
def k7 : Class := { plain "java/lang/Cloneable" (some 0) with
  accessFlags := 1537
  interfaces := #[]
  cf := some (fileOf pool7 2 #[] #[] 1537 4 #[] #[])
  fields := #[]
  methods := #[]
  instanceTypes := #[]
  staticTypes := #[]
  resolved := Array.replicate 8 none
  statics := none }

/-- the primitive byte -/
def k8 : Class := { plain "byte" none with kind := .primitive 'B', accessFlags := 0x411 }
/-- [B -/
def k9 : Class := { plain "[B" (some 0) with kind := .array 8 .byte, interfaces := #[7, 4], accessFlags := 1041 }

/-- the primitive int -/
def k10 : Class := { plain "int" none with kind := .primitive 'I', accessFlags := 0x411 }
/-- [I -/
def k11 : Class := { plain "[I" (some 0) with kind := .array 10 .int, interfaces := #[7, 4], accessFlags := 1041 }

/-- [Lcom/example/nuntius/nuntius/protocol/Opcode; -/
def k12 : Class := { plain "[Lcom/example/nuntius/nuntius/protocol/Opcode;" (some 0) with kind := .array 6 (.object "com/example/nuntius/nuntius/protocol/Opcode"), interfaces := #[7, 4], accessFlags := 1041 }

def heap : Heap := #[{ cls := 6, slots := #[.ref 2, .ref 11, .ref 14, .ref 7, .ref 10, .ref 4, .ref 15, .ref 5, .ref 12, .ref 8, .ref 13, .ref 6, .ref 17, .ref 3, .ref 16, .ref 9, .ref 1, .null], vm := .statics 6 },
  { cls := 12, slots := #[.ref 2, .ref 11, .ref 14, .ref 7, .null, .ref 10, .ref 4, .ref 15, .ref 5, .ref 12, .ref 8, .ref 13, .ref 6, .ref 17, .ref 3, .ref 16, .ref 9], vm := .none },
  { cls := 6, slots := #[.null, .int 0, .int 0, .int 0], vm := .none },
  { cls := 6, slots := #[.null, .int 0, .int 0, .int 14], vm := .none },
  { cls := 6, slots := #[.null, .int 0, .int 0, .int 6], vm := .none },
  { cls := 6, slots := #[.null, .int 0, .int 0, .int 8], vm := .none },
  { cls := 6, slots := #[.null, .int 0, .int 0, .int 12], vm := .none },
  { cls := 6, slots := #[.null, .int 0, .int 0, .int 3], vm := .none },
  { cls := 6, slots := #[.null, .int 0, .int 0, .int 10], vm := .none },
  { cls := 6, slots := #[.null, .int 0, .int 0, .int 16], vm := .none },
  { cls := 6, slots := #[.null, .int 0, .int 0, .int 5], vm := .none },
  { cls := 6, slots := #[.null, .int 0, .int 0, .int 1], vm := .none },
  { cls := 6, slots := #[.null, .int 0, .int 0, .int 9], vm := .none },
  { cls := 6, slots := #[.null, .int 0, .int 0, .int 11], vm := .none },
  { cls := 6, slots := #[.null, .int 0, .int 0, .int 2], vm := .none },
  { cls := 6, slots := #[.null, .int 0, .int 0, .int 7], vm := .none },
  { cls := 6, slots := #[.null, .int 0, .int 0, .int 15], vm := .none },
  { cls := 6, slots := #[.null, .int 0, .int 0, .int 13], vm := .none }]
def classes : Array Class := #[k0, k1, k2, k3, k4, k5, k6, k7, k8, k9, k10, k11, k12]
def interned : List (Array UInt16 × Addr) := []
def slotsUsed : Nat := 99
def theMethod : MethodId := ⟨1, 2⟩
def args0 : Array Value := #[.int 5, .int 7]
def aboutOver (below : List Frame) : State where
  vm := { classes := classes, interned := interned.toArray }
  heap := heap
  slotsUsed := slotsUsed
  threads := #[{ frames := .invoking theMethod args0 :: below }]
def below0 : List Frame := [.native { method := ⟨0, 0⟩, args := #[] }]
def about1 : State := aboutOver below0
def p0 : Program := .bare "" "" ""
def e0 : Env := launch0.env 0 0 0
theorem w_frames : about1.frames = Frame.invoking theMethod args0 :: below0 := rfl
set_option maxRecDepth 65536 in
theorem w_args : argsFit about1.vm theMethod args0 = true := by decide +kernel
set_option maxRecDepth 65536 in
theorem w_heap : heapFits about1 = true := by decide +kernel
set_option maxRecDepth 65536 in
theorem w_runnable : about1.curStatus? = some .runnable := by decide +kernel
set_option maxRecDepth 65536 in
theorem w_alone : about1.alone = true := by decide +kernel
set_option maxRecDepth 65536 in
theorem w_named : about1.methodNamed? x = some theMethod := by decide +kernel
set_option maxRecDepth 65536 in
theorem w_hears : about1.hears theMethod below0 = true := by decide +kernel
set_option maxRecDepth 65536 in
theorem w_ripe : about1.ripe theMethod args0 below0 = true := by decide +kernel
theorem w_running : about1.status = .running := rfl
set_option maxRecDepth 65536 in
theorem w_room : about1.hasRoom e0.platform room_1 = true :=
  launch0.hasRoom_least _ room_1 (by decide +kernel) (by decide +kernel) (by decide +kernel) (by decide +kernel) (by decide +kernel) (by decide +kernel)
theorem allAtoms_all (ts : List Jvm.Cond) (a : Array Jvm.Value) (st : Jvm.State) : (allAtoms ts).before a st = ts.all (fun c => c.before a st) := by
  induction ts with
  | nil => rfl
  | cons c t ih =>
    show (Jvm.Cond.and c (allAtoms t)).before a st = _
    rw [Jvm.Cond.before_and, ih, List.all_cons]
def words1 : List Jvm.Cond := Jvm.Cond.code x code maxLocals ret :: tables_1
/-- a 'code' word, met by the world's own term for the bytes: nothing is compared byte by byte -/
theorem code_word {y : MethodName} {bytes : ByteArray} {mx : Nat} {rt : Option FieldType} {a : Array Value} {s : State} {m : MethodId} {meth : Method} {c : Code} (h1 : s.methodNamed? y = some m) (h2 : s.vm.method? m = some meth) (h3 : meth.code = some c) (h4 : c.code = bytes)
    (h5 : (c.maxLocals == mx && c.exceptionTable.isEmpty && decide (c.maxStack ≤ mostOperands) && decide (meth.sig.returnType = rt) && !meth.locks && decide (parseMethodDescriptor y.desc = some meth.sig)) = true) : (Jvm.Cond.code y bytes mx rt).before a s = true := by
  simp only [Bool.and_eq_true, beq_iff_eq, Bool.not_eq_true', decide_eq_true_eq] at h5
  obtain ⟨⟨⟨⟨⟨g1, g2⟩, g3⟩, g4⟩, g5⟩, g6⟩ := h5
  simp [Cond.before, Cond.holds, Cond.value, h1, h2, h3, h4, g1, g2, g3, g4, g5, g6]
def isCode : Jvm.Cond → Bool
  | .code _ _ _ _ => true
  | _ => false
theorem all_split {L : List Jvm.Cond} {P : Jvm.Cond → Bool} (h1 : L.all (fun c => isCode c || P c) = true) (h2 : ∀ c ∈ L.filter isCode, P c = true) : L.all P = true := by
  refine List.all_eq_true.mpr fun c hc => ?_
  have h := List.all_eq_true.mp h1 c hc
  rcases Bool.eq_false_or_eq_true (isCode c) with hi | hi
  · exact h2 c (List.mem_filter.mpr ⟨hc, hi⟩)
  · simpa [hi] using h
set_option maxRecDepth 65536 in
theorem w_c0 : (Jvm.Cond.code x code maxLocals ret).before args0 about1 = true := code_word (m := ⟨1, 2⟩) (meth := k1m2) (c := k1c2) (by decide +kernel) rfl rfl rfl (by decide +kernel)
set_option maxRecDepth 65536 in
theorem w_c1 : (Jvm.Cond.code ({ cls := "com/example/nuntius/nuntius/protocol/Opcode", name := "ofCode", desc := "(I)Lcom/example/nuntius/nuntius/protocol/Opcode;" } : Jvm.MethodName) prog_43_method_5_code (2 : Nat) (Option.some (Jvm.ClassFile.FieldType.object "com/example/nuntius/nuntius/protocol/Opcode"))).before args0 about1 = true := code_word (m := ⟨6, 1⟩) (meth := k6m1) (c := k6c1) (by decide +kernel) rfl rfl rfl (by decide +kernel)
set_option maxRecDepth 65536 in
theorem w_c2 : (Jvm.Cond.code ({ cls := "com/example/nuntius/nuntius/protocol/OpcodeOfCodePinLaw", name := "expected", desc := "(I)Lcom/example/nuntius/nuntius/protocol/Opcode;" } : Jvm.MethodName) method_2_code (1 : Nat) (Option.some (Jvm.ClassFile.FieldType.object "com/example/nuntius/nuntius/protocol/Opcode"))).before args0 about1 = true := code_word (m := ⟨1, 1⟩) (meth := k1m1) (c := k1c1) (by decide +kernel) rfl rfl rfl (by decide +kernel)
set_option maxRecDepth 65536 in
theorem w_c3 : (Jvm.Cond.code ({ cls := "com/example/nuntius/nuntius/protocol/Opcode", name := "code", desc := "()I" } : Jvm.MethodName) prog_43_method_4_code (1 : Nat) (Option.some Jvm.ClassFile.FieldType.int)).before args0 about1 = true := code_word (m := ⟨6, 0⟩) (meth := k6m0) (c := k6c0) (by decide +kernel) rfl rfl rfl (by decide +kernel)
def codes1 : List Jvm.Cond := [Jvm.Cond.code x code maxLocals ret, Jvm.Cond.code ({ cls := "com/example/nuntius/nuntius/protocol/Opcode", name := "ofCode", desc := "(I)Lcom/example/nuntius/nuntius/protocol/Opcode;" } : Jvm.MethodName) prog_43_method_5_code (2 : Nat) (Option.some (Jvm.ClassFile.FieldType.object "com/example/nuntius/nuntius/protocol/Opcode")), Jvm.Cond.code ({ cls := "com/example/nuntius/nuntius/protocol/OpcodeOfCodePinLaw", name := "expected", desc := "(I)Lcom/example/nuntius/nuntius/protocol/Opcode;" } : Jvm.MethodName) method_2_code (1 : Nat) (Option.some (Jvm.ClassFile.FieldType.object "com/example/nuntius/nuntius/protocol/Opcode")), Jvm.Cond.code ({ cls := "com/example/nuntius/nuntius/protocol/Opcode", name := "code", desc := "()I" } : Jvm.MethodName) prog_43_method_4_code (1 : Nat) (Option.some Jvm.ClassFile.FieldType.int)]
set_option maxRecDepth 65536 in
theorem codes_eq : words1.filter isCode = codes1 := rfl
theorem w_codes : ∀ c ∈ words1.filter isCode, c.before args0 about1 = true := by
  rw [codes_eq]
  intro c hc
  simp only [codes1, List.mem_cons, List.not_mem_nil, or_false] at hc
  rcases hc with rfl | rfl | rfl | rfl
  · exact w_c0
  · exact w_c1
  · exact w_c2
  · exact w_c3
set_option maxRecDepth 65536 in
theorem w_t1 : (words1.take 24).all (fun c => isCode c || c.before args0 about1) = true := by decide +kernel
set_option maxRecDepth 65536 in
theorem w_t2 : ((words1.drop 24).take 24).all (fun c => isCode c || c.before args0 about1) = true := by decide +kernel
set_option maxRecDepth 65536 in
theorem w_t3 : ((words1.drop 24).drop 24).all (fun c => isCode c || c.before args0 about1) = true := by decide +kernel
theorem w_tables : (allAtoms (Jvm.Cond.code x code maxLocals ret :: tables_1)).before args0 about1 = true := by
  rw [allAtoms_all]
  show words1.all (fun c => c.before args0 about1) = true
  refine all_split ?_ w_codes
  rw [← List.take_append_drop 24 words1, List.all_append, w_t1, ← List.take_append_drop 24 (words1.drop 24), List.all_append, w_t2, w_t3]
  rfl
set_option maxRecDepth 65536 in
theorem w_case : (Jvm.Cond.and given_1 narrow_1).before args0 about1 = true := by decide +kernel
theorem w_applies : (headSpec (Jvm.Cond.code x code maxLocals ret :: tables_1) room_1).applies x e0.platform about1 = true :=
  (Spec.applies_iff w_frames).mpr ⟨w_running, w_runnable, w_alone, w_named, w_hears, w_ripe, w_room, w_tables⟩
theorem atStart : AtStart classFile x code maxLocals ret World_1 tables_1 room_1 Calls_1 rest_1 Pre_1 launch0 p0 e0 about1 theMethod args0 below0 :=
  ⟨lists_1, trivial, launch0.admits_env _ _ _, launch0.least_env, fairChoices_fair.cas, fairChoices_fair.clock, w_frames, w_args, w_heap, w_applies, trivial, trivial, w_case⟩
end start1
theorem witness_1 : WitnessClaimed_1 := ⟨start1.p0, start1.e0, start1.about1, start1.theMethod, start1.args0, start1.below0, start1.atStart⟩
end Jvm.Pilot.@@N@@
