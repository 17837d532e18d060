import JvmDerived
import JvmDerived.Pilot.@@N@@Statement
import JvmDerived.Pilot.@@N@@Code
set_option linter.unusedVariables false
set_option linter.unusedSimpArgs false
namespace Jvm.Pilot.@@N@@
open Jvm Jvm.ClassFile Sem Op Lib Jvm.Free Jvm.Stand Jvm.LawKit Jvm.RoadKit Bundle Jvm.Pilot.@@N@@.Jvm.D
section Own
variable {p : Program} {l : Launch} {e : Env} {R : Room} {s : State} {m : MethodId} {args : Array Value} {below : List Frame} {meth : Method} {c : Code} {T : State} {locs : List Loc} {cells slots : Nat}
def Ends (p : Program) (e : Env) (below : List Frame) (Q : Outcome → State → Prop) (S : State) : Prop := ∃ s₂ o, Steps p.tables e below S s₂ ∧ s₂.status = .running ∧ Ended s₂ below o ∧ Q o s₂
theorem Ends.opn {Q : Outcome → State → Prop} {S : State} (h : ∀ QQ : Outcome → State → Prop, (∀ o t, Q o t → QQ o t) → Ends p e below QQ S) : ∃ s₂ o, Steps p.tables e below S s₂ ∧ s₂.status = .running ∧ Ended s₂ below o ∧ Q o s₂ := h Q fun _ _ q => q
theorem Ends.step {Q : Outcome → State → Prop} {S S' : State} (k : ∀ t, Steps p.tables e below S' t → Steps p.tables e below S t) (h : Ends p e below Q S') : Ends p e below Q S := by
  obtain ⟨a, o, h1, h2⟩ := h
  exact ⟨a, o, k _ h1, h2⟩
theorem Ends.fin {QQ : Outcome → State → Prop} {Q : Option Value → Heap → List Loc → Prop} {cl sl : Nat} {g : JFrame} {h : Heap} (v : Option Value) (X : Stand p l e R s m args below meth c T locs cells slots)
    (hQQ : ∀ o t, (∃ v L, o = .returned v ∧ Q v t.heap L ∧ FrameEnd s o t L cl sl) → QQ o t) (hv : meth.sig.returnType = none → v = none) (hlocks : meth.locks = false)
    (hstep : ∀ fs, (∀ (f : JFrame) (acts : List Action), f.method = m → f.locked = none → f.entered = [] → (doReturn e (T.setTop f) acts v).1 = T.setFrames fs) → Steps p.tables e below (T.setTop g) (T.setFrames fs))
    (eT : T.heap = h) (hc : cells ≤ cl) (hs : slots ≤ sl) (q : Q v h locs) : Ends p e below QQ (T.setTop g) := by
  obtain ⟨fs, hr, hrun, hended, hW, hsame⟩ := X.leave hv hlocks
  subst eT
  exact ⟨_, _, hstep fs hr, hrun, hended, hQQ _ _ ⟨v, locs, rfl, q, ⟨_, rfl⟩, hW, hsame.mono hc hs⟩⟩
theorem own_narB {x : Int32} (h : x = 0 ∨ x = 1) : narrow .boolean (.int x) = .int x := by rcases h with rfl | rfl <;> rfl
theorem own_narref {v : Value} {t : FieldType} (h : v.isRef = true) (ht : t.isReference = true) : narrow t v = v := by
  cases t <;> first | (cases ht; done) | (cases v <;> first | rfl | cases h)
theorem own_fitref {v : Value} {t : FieldType} (h : v.isRef = true) (ht : t.isReference = true) : fits t v = true := by
  cases t <;> first | (cases ht; done) | (cases v <;> first | rfl | cases h)
theorem own_nar255 (b : Int32) : narrow .char (.int (b &&& (255 : Int32))) = .int (b &&& (255 : Int32)) := by
  have h := XT.narrow_c (b &&& 255)
  rw [i2c_mask] at h
  exact h
theorem own_narb (x : Int32) : nar .byte x.toInt8.toInt32 = x.toInt8.toInt32 := by simp [nar]
theorem own_ins_keep {Z : State} {h h' : Heap} {a : Addr} {C : String} {b : Bool} {ws : List Addr} (F : Ins Z h a C b) (K : Keep h h' ws) : Ins Z h' a C b := by
  obtain ⟨cell, cT, h1, h2, h3⟩ := F
  obtain ⟨c', q1, q2, q3, -⟩ := K.2.2 _ _ h1
  exact ⟨c', cT, q1, h2, by rw [q2, q3]; exact h3⟩
theorem own_sta_keep {Z : State} {h h' : Heap} {C n d : String} {v : Value} {ws : List Addr} (F : Sta Z h C n d v) (K : Keep h h' ws) (q : ∀ x ∈ ws, ∃ c : Cell, h[x]? = some c ∧ ∀ q, c.vm ≠ .statics q) : Sta Z h' C n d v := by
  obtain ⟨cf, i, k, f, st, cell, h1, h2, h3, h4, h5, h6, h7⟩ := F
  refine ⟨cf, i, k, f, st, cell, h1, h2, h3, h4, K.2.1 _ _ h5 fun hm => ?_, h6, h7⟩
  obtain ⟨c, q1, q2⟩ := q _ hm
  cases h5.symm.trans q1
  cases hq : cell.vm <;> first | exact q2 _ hq | (rw [hq] at h6; cases h6)
theorem lremM {g : JFrame} {target : State} (X : Stand p l e R s m args below meth c T locs cells slots) (hx : p.tables.exec = Jvm.exec) (hg : g.method = m) {x y : Int64} {rest : List Value} (hd : decode c.code g.pc = .ok (.lrem, 1)) (hs : g.stack = .long y :: .long x :: rest) (hy : y ≠ 0)
    (hr : Steps p.tables e below (T.setTop { g with pc := g.pc + 1, stack := .long (x % y) :: rest }) target) : Steps p.tables e below (T.setTop g) target := by
  have q : x - x / y * y = x % y := lrem_mod x y
  exact XT.lrem X.here hx hg hd hs hy (by rw [q]; exact hr)
end Own
theorem pn_0 : plainName "com/example/nuntius/nuntius/schema/CollectionType$Kind" = true := by first | (simp [plainName, overriddenIn]; done) | decide +kernel
theorem pn_1 : plainName "com/example/nuntius/nuntius/schema/KindOfProtocolIdPinLaw" = true := by first | (simp [plainName, overriddenIn]; done) | decide +kernel
theorem pd_0 : parseMethodDescriptor "()[Lcom/example/nuntius/nuntius/schema/CollectionType$Kind;" = some ⟨[], some (.array (.object "com/example/nuntius/nuntius/schema/CollectionType$Kind"))⟩ := by decide +kernel
theorem pd_1 : parseMethodDescriptor "(I)Lcom/example/nuntius/nuntius/schema/CollectionType$Kind;" = some ⟨[.int], some (.object "com/example/nuntius/nuntius/schema/CollectionType$Kind")⟩ := by decide +kernel
theorem pd_2 : parseMethodDescriptor "()I" = some ⟨[], some .int⟩ := by decide +kernel
theorem own_len {args : Array Value} {s : State} {t : Term} {n : Int32} {x : Addr} {cl : Cell} {ty : FieldType} (h : (Jvm.Cond.eq (Term.length t) (Term.int n)).value args s none s [] = some true) (ev : t.eval args s none [] s = some (.ref x)) (A : Arr s s.heap x cl ty) : cl.slots.size < 2 ^ 31 ∧ cl.slots.size.toInt32 = n := by
  obtain ⟨v, w, h1, h2, -, -⟩ := cmp_v (Or.inl h)
  have ha := A.fin (Vm.Alike.refl _)
  by_cases hl : cl.slots.size < 2 ^ 31
  · refine ⟨hl, ?_⟩
    have e := len_f ev ha hl (args := args) (first := s) (o := none) (idx := [])
    simp only [Cond.value, e, Term.int_eval] at h
    simpa using h
  · simp [Term.eval, ev, ha, hl] at h1
theorem own_elem {args : Array Value} {s : State} {t u : Term} {j : Int32} {x : Addr} {cl : Cell} {ty : FieldType} {v : Value} (h : (Jvm.Cond.eq (Term.elem t (Term.int j)) u).value args s none s [] = some true) (ev : t.eval args s none [] s = some (.ref x)) (A : Arr s s.heap x cl ty) (eu : u.eval args s none [] s = some v) : cl.slots[j.toNatClampNeg]? = some v := by
  obtain ⟨a, b, h1, h2, k1, k2⟩ := cmp_v (Or.inl h)
  cases eu.symm.trans h2
  have q := elem_in h1 ev (Term.int_eval j) A.1
  rw [q.2]
  simp only [Cond.value, h1, h2] at h
  cases a <;> cases v <;> simp_all [Kin, Value.isRef]
theorem own_elemJ {args : Array Value} {s : State} {t : Term} {j : Nat} {x : Addr} {cl : Cell} {ty : FieldType} {v : Int32} (h : (Jvm.Cond.eq (Term.elem t (Term.index 0)) (Term.int v)).value args s none s [j] = some true) (ev : t.eval args s none [j] s = some (.ref x)) (A : Arr s s.heap x cl ty) (hl : cl.slots.size < 2 ^ 31) (hj : j < cl.slots.size) : cl.slots[j]? = some (.int v) := by
  obtain ⟨a, b, h1, h2, k1, k2⟩ := cmp_v (Or.inl h)
  have q := elem_in h1 ev (Term.index_eval j) A.1
  have ej : j.toInt32.toNatClampNeg = j := by have := len_toInt (show j < 2 ^ 31 by omega); simp only [Int32.toNatClampNeg]; omega
  rw [ej] at q
  rw [q.2]
  cases (Term.int_eval v).symm.trans h2
  simp only [Cond.value, h1, h2] at h
  cases a <;> simp_all [Kin, Value.isRef]
theorem own_fld {args : Array Value} {s : State} {t u : Term} {x : Addr} {C f d : String} {v : Value} (h : (Jvm.Cond.eq (Term.field t C f d) u).value args s none s [] = some true) (ev : t.eval args s none [] s = some (.ref x)) (eu : u.eval args s none [] s = some v) : Fld s s.heap x C f d v := by
  obtain ⟨a, b, h1, h2, k1, k2⟩ := cmp_v (Or.inl h)
  cases eu.symm.trans h2
  have e : a = v := by
    simp only [Cond.value, h1, h2] at h
    cases a <;> cases v <;> simp_all [Kin, Value.isRef]
  subst e
  exact Fld.start ((fld_at ev).symm.trans h1)
theorem own_idx {args : Array Value} {s : State} {C n d : String} {v : Value} (ev : (Term.static C n d).eval args s none [] s = some v) (idx : List Nat := []) : (Term.static C n d).eval args s none idx s = some v := ev
theorem own_lt {k : Nat} {n : Int32} {j : Nat} (h : k.toInt32 = n) (h2 : k < 2 ^ 31) (h3 : (j : Int) < n.toInt) : j < k := by
  have := len_toInt h2
  rw [h] at this
  omega
theorem own_all3 {args : Array Value} {s : State} {t : Term} {a b v : Int32} {x : Addr} {cl : Cell} {ty : FieldType} (h : (Jvm.Cond.all t (.or (.lt (.index 0) (.int a)) (.or (.le (.int b) (.index 0)) (.eq (.elem t (.index 0)) (.int v))))).value args s none s [] = some true)
    (ev : ∀ idx, t.eval args s none idx s = some (.ref x)) (A : Arr s s.heap x cl ty) (hl : cl.slots.size < 2 ^ 31) (j : Nat) (hj : j < cl.slots.size) (h1 : a.toInt ≤ j) (h2 : (j : Int) < b.toInt) : cl.slots[j]? = some (.int v) := by
  have e := Cond.all_elim (ev []) (A.fin (Vm.Alike.refl _)) h j hj
  have ej : j.toInt32.toInt = j := len_toInt (by omega)
  have g1 : (Jvm.Cond.lt (.index 0) (.int a)).value args s none s [j] = some false := by
    simp only [Cond.value, Term.index_eval, Term.int_eval, Int32.lt_iff_toInt_lt, ej]; simp; omega
  have g2 : (Jvm.Cond.le (.int b) (.index 0)).value args s none s [j] = some false := by
    simp only [Cond.value, Term.index_eval, Term.int_eval, Int32.le_iff_toInt_le, ej]; simp; omega
  rw [Cond.or_of_right g1, Cond.or_of_right g2] at e
  exact own_elemJ e (ev [j]) A hl hj
theorem own_allH {args : Array Value} {s : State} {t : Term} {b v : Int32} {x : Addr} {cl : Cell} {ty : FieldType} (h : (Jvm.Cond.all t (.or (.le (.int b) (.index 0)) (.eq (.elem t (.index 0)) (.int v)))).value args s none s [] = some true)
    (ev : ∀ idx, t.eval args s none idx s = some (.ref x)) (A : Arr s s.heap x cl ty) (hl : cl.slots.size < 2 ^ 31) (j : Nat) (hj : j < cl.slots.size) (h2 : (j : Int) < b.toInt) : cl.slots[j]? = some (.int v) := by
  have e := Cond.all_elim (ev []) (A.fin (Vm.Alike.refl _)) h j hj
  have ej : j.toInt32.toInt = j := len_toInt (by omega)
  have g2 : (Jvm.Cond.le (.int b) (.index 0)).value args s none s [j] = some false := by
    simp only [Cond.value, Term.index_eval, Term.int_eval, Int32.le_iff_toInt_le, ej]; simp; omega
  rw [Cond.or_of_right g2] at e
  exact own_elemJ e (ev [j]) A hl hj
theorem own_nz {args : Array Value} {s : State} {t : Term} {x : Int32} (h : (Jvm.Cond.not (Jvm.Cond.eq t (Term.int (0 : Int32)))).value args s none s [] = some true) (ev : t.eval args s none [] s = some (.int x)) : ¬ x = (0 : Int32) := by
  simpa [Cond.value, ev, Term.eval] using h

theorem d3_0 : decode prog_48_method_4_code 0 = .ok (.aload_n 0, 1) := by decide +kernel
theorem d3_1 : decode prog_48_method_4_code 1 = .ok (.getfield 32, 3) := by decide +kernel
theorem d3_4 : decode prog_48_method_4_code 4 = .ok (.ireturn, 1) := by decide +kernel
theorem ef_3 (m : MethodId) (x0 : Addr) : entryFrame m #[(.ref x0)] 1 = mkF m 0 #[.val (.ref x0)] [] := by first | (simp [entryFrame, mkF, argsToLocals, Value.category]; done) | rfl
def Q3 (Z : State) (o0 : Addr) (u : Int32) (h0 : Heap) (n0 : Nat) (v : Option Value) (h : Heap) (L : List Loc) : Prop := (v = some (.int u)) ∧ (Fr n0 L) ∧ (h = h0)
set_option maxRecDepth 65536 in
set_option maxHeartbeats 40000000 in
theorem rm3 (l : Launch) (Z : State) (a0 : Array Value) (hw : ∀ d ∈ tables_1, d.before a0 Z = true) (ws : List Jvm.Cond) (o0 : Addr) (u : Int32) (h0 : Heap) (n0 : Nat) (Z0 : n0 ≤ h0.size) (F_protocolId_o0 : Fld Z h0 o0 "com/example/nuntius/nuntius/schema/CollectionType$Kind" "protocolId" "I" (.int u)) :
    MetFree l (⟨"com/example/nuntius/nuntius/schema/CollectionType$Kind", "protocolId", "()I"⟩ : MethodName) (head1 (Jvm.Cond.code (⟨"com/example/nuntius/nuntius/schema/CollectionType$Kind", "protocolId", "()I"⟩ : MethodName) prog_48_method_4_code 1 (some .int) :: ws) ({ frames := 0, cells := 0, slots := 0, locals := 0 } : Room)) (fun a U => a = #[(.ref o0)] ∧ Z.Warmed39 U.vm ∧ U.heap = h0) (fun _ _ _ _ _ => True) (fun _ U o U' => ∃ v L, o = .returned v ∧ Q3 Z o0 u h0 n0 v U'.heap L ∧ FrameEnd U o U' L ({ frames := 0, cells := 0, slots := 0, locals := 0 } : Room).cells ({ frames := 0, cells := 0, slots := 0, locals := 0 } : Room).slots) := by
  refine MetFree.of_bodySF (plainFor_of_name pn_0) hisR ?_
  intro p e s m args below meth c s₁ Bd hml0 hP hK
  obtain ⟨rfl, hZ, hh⟩ := hP
  have hx := Bd.exec
  have hby := Bd.bytes
  have hml : c.maxLocals = 1 := hml0
  have hown : s.vm.findClass "com/example/nuntius/nuntius/schema/CollectionType$Kind" = some m.cls := findClass_of_methodNamed Bd.named
  have hnm := (name_of_methodNamed Bd.named Bd.method).1
  have X0 : Stand p l e ({ frames := 0, cells := 0, slots := 0, locals := 0 } : Room) s m #[(.ref o0)] below meth c s₁ [] 0 0 := Stand.of_body Bd
  have e0 : s₁.heap = h0 := by rw [← hh, Bd.state]; rfl
  have N0 := Fr.nil n0
  refine Ends.opn ?_
  intro QQ hQQ
  refine Ends.step (S' := s₁.setTop (mkF m 0 #[.val (.ref o0)] [])) (fun t k => castTop (ef_3 m o0) k) ?_
  show Ends p e below QQ (s₁.setTop (mkF m 0 #[.val (.ref o0)] []))
  refine Ends.step (fun _ k => XS.aloadN X0.here hx rfl (hb hby d3_0) rfl rfl k) ?_
  show Ends p e below QQ (s₁.setTop (mkF m 1 #[.val (.ref o0)] [(.ref o0)]))
  obtain ⟨T1, X1, e1, st1⟩ := getF X0 hx hZ hown (host := "") (Or.inl (hw _ (List.mem_of_getElem? (i := 23) rfl))) Via.refl e0 F_protocolId_o0 (g := (mkF m 1 #[.val (.ref o0)] [(.ref o0)])) rfl rfl (hb hby d3_1)
  refine Ends.step st1 ?_
  show Ends p e below QQ (T1.setTop (mkF m 4 #[.val (.ref o0)] [(.int u)]))
  exact Ends.fin (some (.int u)) X1 hQQ (fun h => by rw [Bd.returns] at h; cases h) Bd.notSynchronized (fun _ hr => retOut X1 hx (t := .int) Bd.returns rfl (Or.inl ⟨rfl, Or.inl rfl, _, rfl⟩) (hb hby d3_4) hr) e1 (by decide) (by decide) ⟨rfl, N0, rfl⟩
theorem d2_0 : decode prog_48_method_1_code 0 = .ok (.getstatic 13, 3) := by decide +kernel
theorem d2_3 : decode prog_48_method_1_code 3 = .ok (.invokevirtual 17, 3) := by decide +kernel
theorem d2_6 : decode prog_48_method_1_code 6 = .ok (.checkcast 18, 3) := by decide +kernel
theorem d2_9 : decode prog_48_method_1_code 9 = .ok (.areturn, 1) := by decide +kernel
theorem ef_2 (m : MethodId)  : entryFrame m #[] 0 = mkF m 0 #[] [] := by first | (simp [entryFrame, mkF, argsToLocals, Value.category]; done) | rfl
def Q2 (Z : State) (a_VALUES : Addr) (a_LIST : Addr) (a_MAP : Addr) (a_SET : Addr) (k_a_VALUES : ClassId) (h0 : Heap) (n0 : Nat) (v : Option Value) (h : Heap) (L : List Loc) : Prop := ∃ (b : Addr), (v = some (.ref b)) ∧ (Fr n0 L) ∧ (Keep h0 h []) ∧ (h0.size ≤ b) ∧ (n0 ≤ b) ∧ (Exa Z h b "[Lcom/example/nuntius/nuntius/schema/CollectionType$Kind;") ∧ (Arv Z h b k_a_VALUES (.object "com/example/nuntius/nuntius/schema/CollectionType$Kind") (3 : Int32) [(.ref a_LIST), (.ref a_MAP), (.ref a_SET)] .null)
set_option maxRecDepth 65536 in
set_option maxHeartbeats 40000000 in
theorem rm2 (l : Launch) (Z : State) (a0 : Array Value) (hw : ∀ d ∈ tables_1, d.before a0 Z = true) (ws : List Jvm.Cond) (a_VALUES : Addr) (a_LIST : Addr) (a_MAP : Addr) (a_SET : Addr) (k_a_VALUES : ClassId) (h0 : Heap) (n0 : Nat) (Z0 : n0 ≤ h0.size) (E_a_VALUES : Exa Z h0 a_VALUES "[Lcom/example/nuntius/nuntius/schema/CollectionType$Kind;") (E_a_LIST : Exa Z h0 a_LIST "com/example/nuntius/nuntius/schema/CollectionType$Kind") (E_a_MAP : Exa Z h0 a_MAP "com/example/nuntius/nuntius/schema/CollectionType$Kind") (E_a_SET : Exa Z h0 a_SET "com/example/nuntius/nuntius/schema/CollectionType$Kind") (F_protocolId_a_LIST : Fld Z h0 a_LIST "com/example/nuntius/nuntius/schema/CollectionType$Kind" "protocolId" "I" (.int (32 : Int32))) (F_protocolId_a_MAP : Fld Z h0 a_MAP "com/example/nuntius/nuntius/schema/CollectionType$Kind" "protocolId" "I" (.int (33 : Int32))) (F_protocolId_a_SET : Fld Z h0 a_SET "com/example/nuntius/nuntius/schema/CollectionType$Kind" "protocolId" "I" (.int (34 : Int32))) (A_a_VALUES : Arv Z h0 a_VALUES k_a_VALUES (.object "com/example/nuntius/nuntius/schema/CollectionType$Kind") (3 : Int32) [(.ref a_LIST), (.ref a_MAP), (.ref a_SET)] .null) (S__VALUES : Sta Z h0 "com/example/nuntius/nuntius/schema/CollectionType$Kind" "$VALUES" "[Lcom/example/nuntius/nuntius/schema/CollectionType$Kind;" (.ref a_VALUES)) (S_LIST : Sta Z h0 "com/example/nuntius/nuntius/schema/CollectionType$Kind" "LIST" "Lcom/example/nuntius/nuntius/schema/CollectionType$Kind;" (.ref a_LIST)) (S_MAP : Sta Z h0 "com/example/nuntius/nuntius/schema/CollectionType$Kind" "MAP" "Lcom/example/nuntius/nuntius/schema/CollectionType$Kind;" (.ref a_MAP)) (S_SET : Sta Z h0 "com/example/nuntius/nuntius/schema/CollectionType$Kind" "SET" "Lcom/example/nuntius/nuntius/schema/CollectionType$Kind;" (.ref a_SET)) :
    MetFree l (⟨"com/example/nuntius/nuntius/schema/CollectionType$Kind", "values", "()[Lcom/example/nuntius/nuntius/schema/CollectionType$Kind;"⟩ : MethodName) (head1 (Jvm.Cond.code (⟨"com/example/nuntius/nuntius/schema/CollectionType$Kind", "values", "()[Lcom/example/nuntius/nuntius/schema/CollectionType$Kind;"⟩ : MethodName) prog_48_method_1_code 0 (some (.array (.object "com/example/nuntius/nuntius/schema/CollectionType$Kind"))) :: ws) ({ frames := 1, cells := 1, slots := 3, locals := 14 } : Room)) (fun a U => a = #[] ∧ Z.Warmed39 U.vm ∧ U.heap = h0) (fun _ _ _ _ _ => True) (fun _ U o U' => ∃ v L, o = .returned v ∧ Q2 Z a_VALUES a_LIST a_MAP a_SET k_a_VALUES h0 n0 v U'.heap L ∧ FrameEnd U o U' L ({ frames := 1, cells := 1, slots := 3, locals := 14 } : Room).cells ({ frames := 1, cells := 1, slots := 3, locals := 14 } : Room).slots) := by
  refine MetFree.of_bodySF (plainFor_of_name pn_0) hisR ?_
  intro p e s m args below meth c s₁ Bd hml0 hP hK
  obtain ⟨rfl, hZ, hh⟩ := hP
  have hx := Bd.exec
  have hby := Bd.bytes
  have hml : c.maxLocals = 0 := hml0
  have hown : s.vm.findClass "com/example/nuntius/nuntius/schema/CollectionType$Kind" = some m.cls := findClass_of_methodNamed Bd.named
  have hnm := (name_of_methodNamed Bd.named Bd.method).1
  have X0 : Stand p l e ({ frames := 1, cells := 1, slots := 3, locals := 14 } : Room) s m #[] below meth c s₁ [] 0 0 := Stand.of_body Bd
  have e0 : s₁.heap = h0 := by rw [← hh, Bd.state]; rfl
  have N0 := Fr.nil n0
  refine Ends.opn ?_
  intro QQ hQQ
  refine Ends.step (S' := s₁.setTop (mkF m 0 #[] [])) (fun t k => castTop (ef_2 m ) k) ?_
  show Ends p e below QQ (s₁.setTop (mkF m 0 #[] []))
  obtain ⟨T2, X2, e2, st2⟩ := getS2 X0 hx hZ hown (host := "") (Or.inl (hw _ (List.mem_of_getElem? (i := 8) rfl))) Via.refl e0 S__VALUES (g := (mkF m 0 #[] [])) rfl (hb hby d2_0)
  refine Ends.step st2 ?_
  show Ends p e below QQ (T2.setTop (mkF m 3 #[] [(.ref a_VALUES)]))
  obtain ⟨T3, h3, X3, e3, E3, A3, D3, st3⟩ := cloneH X2 hx hZ hown (hw _ (List.mem_of_getElem? (i := 10) rfl)) (hw _ (List.mem_of_getElem? (i := 11) rfl)) (hw _ (List.mem_of_getElem? (i := 15) rfl)) (hw _ (List.mem_of_getElem? (i := 13) rfl)) (hw _ (List.mem_of_getElem? (i := 14) rfl)) (hw _ (List.mem_of_getElem? (i := 16) rfl)) e2 (Arv.arh A_a_VALUES) E_a_VALUES (g := (mkF m 3 #[] [(.ref a_VALUES)])) rfl (by rw [hml]; rfl) rfl (hb hby d2_3) (by decide) (W := 0) (cap := 3) (by show 2 * 0 + _ ≤ _; exact Nat.le_of_eq rfl) (by decide) (by decide) (by decide) (by decide)
  obtain ⟨b3, g3⟩ : ∃ z, z = h0.size := ⟨_, rfl⟩
  rw [← g3] at A3 D3 st3
  have ne_a_VALUES_b3 : a_VALUES ≠ b3 := Nat.ne_of_lt (Nat.lt_of_lt_of_le E_a_VALUES.lt (Nat.le_of_eq g3.symm))
  have ne_a_LIST_b3 : a_LIST ≠ b3 := Nat.ne_of_lt (Nat.lt_of_lt_of_le E_a_LIST.lt (Nat.le_of_eq g3.symm))
  have ne_a_MAP_b3 : a_MAP ≠ b3 := Nat.ne_of_lt (Nat.lt_of_lt_of_le E_a_MAP.lt (Nat.le_of_eq g3.symm))
  have ne_a_SET_b3 : a_SET ≠ b3 := Nat.ne_of_lt (Nat.lt_of_lt_of_le E_a_SET.lt (Nat.le_of_eq g3.symm))
  have g_b3 : n0 ≤ b3 := Nat.le_trans Z0 (Nat.le_trans (Keep.refl h0 []).1 (Nat.le_of_eq g3.symm))
  have sz_b3 : h0.size ≤ b3 := Nat.le_trans (Keep.refl h0 []).1 (Nat.le_of_eq g3.symm)
  have E_a_VALUES := E_a_VALUES.ext E3
  have E_a_LIST := E_a_LIST.ext E3
  have E_a_MAP := E_a_MAP.ext E3
  have E_a_SET := E_a_SET.ext E3
  have F_protocolId_a_LIST := F_protocolId_a_LIST.ext E3
  have F_protocolId_a_MAP := F_protocolId_a_MAP.ext E3
  have F_protocolId_a_SET := F_protocolId_a_SET.ext E3
  have A_a_VALUES := A_a_VALUES.ext E3
  have S__VALUES := S__VALUES.ext E3
  have S_LIST := S_LIST.ext E3
  have S_MAP := S_MAP.ext E3
  have S_SET := S_SET.ext E3
  have K3 := (Keep.refl h0 []).ext E3
  have A_b3 : Arv Z h3 b3 k_a_VALUES (.object "com/example/nuntius/nuntius/schema/CollectionType$Kind") (3 : Int32) [(.ref a_LIST), (.ref a_MAP), (.ref a_SET)] .null := A3
  have E_b3 := D3
  refine Ends.step st3 ?_
  show Ends p e below QQ (T3.setTop (mkF m 6 #[] [(.ref b3)]))
  obtain ⟨T4, X4, e4, st4⟩ := castY X3 hx hZ hown (hw _ (List.mem_of_getElem? (i := 21) rfl)) e3 (Ins.self E_b3) (g := (mkF m 6 #[] [(.ref b3)])) rfl rfl (hb hby d2_6)
  refine Ends.step st4 ?_
  show Ends p e below QQ (T4.setTop (mkF m 9 #[] [(.ref b3)]))
  exact Ends.fin (some (.ref b3)) X4 hQQ (fun h => by rw [Bd.returns] at h; cases h) Bd.notSynchronized (fun _ hr => retOut X4 hx (t := (.array (.object "com/example/nuntius/nuntius/schema/CollectionType$Kind"))) Bd.returns rfl (Or.inr (Or.inr (Or.inr (Or.inr ⟨rfl, rfl, rfl⟩)))) (hb hby d2_9) hr) e4 (by decide) (by decide) ⟨b3, rfl, N0, K3, sz_b3, g_b3, E_b3, A_b3⟩
theorem d1_0 : decode prog_48_method_5_code 0 = .ok (.aconst_null, 1) := by decide +kernel
theorem d1_1 : decode prog_48_method_5_code 1 = .ok (.astore_n 1, 1) := by decide +kernel
theorem d1_2 : decode prog_48_method_5_code 2 = .ok (.invokestatic 46, 3) := by decide +kernel
theorem d1_5 : decode prog_48_method_5_code 5 = .ok (.astore_n 2, 1) := by decide +kernel
theorem d1_6 : decode prog_48_method_5_code 6 = .ok (.aload_n 2, 1) := by decide +kernel
theorem d1_7 : decode prog_48_method_5_code 7 = .ok (.arraylength, 1) := by decide +kernel
theorem d1_8 : decode prog_48_method_5_code 8 = .ok (.istore_n 3, 1) := by decide +kernel
theorem d1_9 : decode prog_48_method_5_code 9 = .ok (.iconst 0, 1) := by decide +kernel
theorem d1_10 : decode prog_48_method_5_code 10 = .ok (.istore 4, 2) := by decide +kernel
theorem d1_12 : decode prog_48_method_5_code 12 = .ok (.iload 4, 2) := by decide +kernel
theorem d1_14 : decode prog_48_method_5_code 14 = .ok (.iload_n 3, 1) := by decide +kernel
theorem d1_15 : decode prog_48_method_5_code 15 = .ok (.if_icmp .ge 30, 3) := by decide +kernel
theorem d1_18 : decode prog_48_method_5_code 18 = .ok (.aload_n 2, 1) := by decide +kernel
theorem d1_19 : decode prog_48_method_5_code 19 = .ok (.iload 4, 2) := by decide +kernel
theorem d1_21 : decode prog_48_method_5_code 21 = .ok (.aaload, 1) := by decide +kernel
theorem d1_22 : decode prog_48_method_5_code 22 = .ok (.astore 5, 2) := by decide +kernel
theorem d1_24 : decode prog_48_method_5_code 24 = .ok (.aload 5, 2) := by decide +kernel
theorem d1_26 : decode prog_48_method_5_code 26 = .ok (.getfield 32, 3) := by decide +kernel
theorem d1_29 : decode prog_48_method_5_code 29 = .ok (.iload_n 0, 1) := by decide +kernel
theorem d1_30 : decode prog_48_method_5_code 30 = .ok (.if_icmp .ne 9, 3) := by decide +kernel
theorem d1_33 : decode prog_48_method_5_code 33 = .ok (.aload 5, 2) := by decide +kernel
theorem d1_35 : decode prog_48_method_5_code 35 = .ok (.astore_n 1, 1) := by decide +kernel
theorem d1_36 : decode prog_48_method_5_code 36 = .ok (.goto 9, 3) := by decide +kernel
theorem d1_45 : decode prog_48_method_5_code 45 = .ok (.aload_n 1, 1) := by decide +kernel
theorem d1_46 : decode prog_48_method_5_code 46 = .ok (.areturn, 1) := by decide +kernel
theorem ef_1a (m : MethodId) (x0 : Int32) : entryFrame m #[(.int x0)] 6 = mkF m 0 #[.val (.int x0), .unset, .unset, .unset, .unset, .unset] [] := by first | (simp [entryFrame, mkF, argsToLocals, Value.category]; done) | rfl
def Q1a (Z : State) (p0 : Int32) (a_VALUES : Addr) (a_LIST : Addr) (a_MAP : Addr) (a_SET : Addr) (k_a_VALUES : ClassId) (h0 : Heap) (n0 : Nat) (v : Option Value) (h : Heap) (L : List Loc) : Prop := (v = some (.ref a_LIST)) ∧ (Fr n0 L) ∧ (Keep h0 h [])
set_option maxRecDepth 65536 in
set_option maxHeartbeats 40000000 in
theorem rm1a (l : Launch) (Z : State) (a0 : Array Value) (hw : ∀ d ∈ tables_1, d.before a0 Z = true) (ws : List Jvm.Cond) (p0 : Int32) (a_VALUES : Addr) (a_LIST : Addr) (a_MAP : Addr) (a_SET : Addr) (k_a_VALUES : ClassId) (h0 : Heap) (n0 : Nat) (Z0 : n0 ≤ h0.size) (E_a_VALUES : Exa Z h0 a_VALUES "[Lcom/example/nuntius/nuntius/schema/CollectionType$Kind;") (E_a_LIST : Exa Z h0 a_LIST "com/example/nuntius/nuntius/schema/CollectionType$Kind") (E_a_MAP : Exa Z h0 a_MAP "com/example/nuntius/nuntius/schema/CollectionType$Kind") (E_a_SET : Exa Z h0 a_SET "com/example/nuntius/nuntius/schema/CollectionType$Kind") (F_protocolId_a_LIST : Fld Z h0 a_LIST "com/example/nuntius/nuntius/schema/CollectionType$Kind" "protocolId" "I" (.int (32 : Int32))) (F_protocolId_a_MAP : Fld Z h0 a_MAP "com/example/nuntius/nuntius/schema/CollectionType$Kind" "protocolId" "I" (.int (33 : Int32))) (F_protocolId_a_SET : Fld Z h0 a_SET "com/example/nuntius/nuntius/schema/CollectionType$Kind" "protocolId" "I" (.int (34 : Int32))) (A_a_VALUES : Arv Z h0 a_VALUES k_a_VALUES (.object "com/example/nuntius/nuntius/schema/CollectionType$Kind") (3 : Int32) [(.ref a_LIST), (.ref a_MAP), (.ref a_SET)] .null) (S__VALUES : Sta Z h0 "com/example/nuntius/nuntius/schema/CollectionType$Kind" "$VALUES" "[Lcom/example/nuntius/nuntius/schema/CollectionType$Kind;" (.ref a_VALUES)) (S_LIST : Sta Z h0 "com/example/nuntius/nuntius/schema/CollectionType$Kind" "LIST" "Lcom/example/nuntius/nuntius/schema/CollectionType$Kind;" (.ref a_LIST)) (S_MAP : Sta Z h0 "com/example/nuntius/nuntius/schema/CollectionType$Kind" "MAP" "Lcom/example/nuntius/nuntius/schema/CollectionType$Kind;" (.ref a_MAP)) (S_SET : Sta Z h0 "com/example/nuntius/nuntius/schema/CollectionType$Kind" "SET" "Lcom/example/nuntius/nuntius/schema/CollectionType$Kind;" (.ref a_SET)) (hk : p0 = (32 : Int32)) :
    MetFree l (⟨"com/example/nuntius/nuntius/schema/CollectionType$Kind", "ofProtocolId", "(I)Lcom/example/nuntius/nuntius/schema/CollectionType$Kind;"⟩ : MethodName) (head1 (Jvm.Cond.code (⟨"com/example/nuntius/nuntius/schema/CollectionType$Kind", "ofProtocolId", "(I)Lcom/example/nuntius/nuntius/schema/CollectionType$Kind;"⟩ : MethodName) prog_48_method_5_code 6 (some (.object "com/example/nuntius/nuntius/schema/CollectionType$Kind")) :: ws) ({ frames := 2, cells := 1, slots := 3, locals := 25 } : Room)) (fun a U => a = #[(.int p0)] ∧ Z.Warmed39 U.vm ∧ U.heap = h0) (fun _ _ _ _ _ => True) (fun _ U o U' => ∃ v L, o = .returned v ∧ Q1a Z p0 a_VALUES a_LIST a_MAP a_SET k_a_VALUES h0 n0 v U'.heap L ∧ FrameEnd U o U' L ({ frames := 2, cells := 1, slots := 3, locals := 25 } : Room).cells ({ frames := 2, cells := 1, slots := 3, locals := 25 } : Room).slots) := by
  refine MetFree.of_bodySF (plainFor_of_name pn_0) hisR ?_
  intro p e s m args below meth c s₁ Bd hml0 hP hK
  obtain ⟨rfl, hZ, hh⟩ := hP
  have hx := Bd.exec
  have hby := Bd.bytes
  have hml : c.maxLocals = 6 := hml0
  have hown : s.vm.findClass "com/example/nuntius/nuntius/schema/CollectionType$Kind" = some m.cls := findClass_of_methodNamed Bd.named
  have hnm := (name_of_methodNamed Bd.named Bd.method).1
  have X0 : Stand p l e ({ frames := 2, cells := 1, slots := 3, locals := 25 } : Room) s m #[(.int p0)] below meth c s₁ [] 0 0 := Stand.of_body Bd
  have e0 : s₁.heap = h0 := by rw [← hh, Bd.state]; rfl
  have N0 := Fr.nil n0
  refine Ends.opn ?_
  intro QQ hQQ
  refine Ends.step (S' := s₁.setTop (mkF m 0 #[.val (.int p0), .unset, .unset, .unset, .unset, .unset] [])) (fun t k => castTop (ef_1a m p0) k) ?_
  show Ends p e below QQ (s₁.setTop (mkF m 0 #[.val (.int p0), .unset, .unset, .unset, .unset, .unset] []))
  refine Ends.step (fun _ k => XS.aconstNull X0.here hx rfl (hb hby d1_0) k) ?_
  show Ends p e below QQ (s₁.setTop (mkF m 1 #[.val (.int p0), .unset, .unset, .unset, .unset, .unset] [.null]))
  refine Ends.step (fun _ k => XS.astoreN X0.here hx rfl (hb hby d1_1) rfl rfl (l' := #[.val (.int p0), .val .null, .unset, .unset, .unset, .unset]) rfl k) ?_
  show Ends p e below QQ (s₁.setTop (mkF m 2 #[.val (.int p0), .val .null, .unset, .unset, .unset, .unset] []))
  obtain ⟨_, _, ⟨T5, L5, k5, n5⟩, -, X5, ⟨Lc5, hQ5, l5, y5, z5⟩, st5⟩ := Jvm.LawKit.callS X0 hx (y := (⟨"com/example/nuntius/nuntius/schema/CollectionType$Kind", "values", "()[Lcom/example/nuntius/nuntius/schema/CollectionType$Kind;"⟩ : MethodName)) hown (mvT hZ (hw _ (List.mem_of_getElem? (i := 5) rfl))) (mvT hZ (hw _ (List.mem_of_getElem? (i := 6) rfl))) (mvT hZ (hw _ (List.mem_of_getElem? (i := 3) rfl))) (mvT hZ (hw _ (List.mem_of_getElem? (i := 7) rfl))) (by decide) (backOf (W := 0) (rm2 l Z a0 hw [] a_VALUES a_LIST a_MAP a_SET k_a_VALUES h0 n0 (Nat.le_trans Z0 (Keep.refl h0 []).1) E_a_VALUES E_a_LIST E_a_MAP E_a_SET F_protocolId_a_LIST F_protocolId_a_MAP F_protocolId_a_SET A_a_VALUES S__VALUES S_LIST S_MAP S_SET) hZ (hw _ (List.mem_of_getElem? (i := 7) rfl)) (hw _ (List.mem_of_getElem? (i := 3) rfl)) (by decide) (by decide)) (g := (mkF m 2 #[.val (.int p0), .val .null, .unset, .unset, .unset, .unset] [])) rfl (by rw [hml]; rfl) (argsL := []) (rest := []) (lenOf pd_0 rfl) rfl (by show 2 * 0 + _ ≤ _; exact Nat.le_of_eq rfl) (hb hby d1_2) (fun _ _ => ⟨rfl, e0, (by decide : 0 + 1 ≤ _), (by decide : 0 + 3 ≤ _)⟩)
  dsimp only [Pt.U, Pt.locs, Pt.cells, Pt.slots] at X5 l5 y5 z5 st5 hQ5
  subst l5 y5 z5
  obtain ⟨b_5, rfl, Nq5, Kq5, fq5_0, fq5_1, fq5_2, fq5_3⟩ := hQ5
  have N5 := Fr.app N0 Nq5
  have ne_a_VALUES_b_5 : a_VALUES ≠ b_5 := Nat.ne_of_lt (Nat.lt_of_lt_of_le E_a_VALUES.lt fq5_0)
  have ne_a_LIST_b_5 : a_LIST ≠ b_5 := Nat.ne_of_lt (Nat.lt_of_lt_of_le E_a_LIST.lt fq5_0)
  have ne_a_MAP_b_5 : a_MAP ≠ b_5 := Nat.ne_of_lt (Nat.lt_of_lt_of_le E_a_MAP.lt fq5_0)
  have ne_a_SET_b_5 : a_SET ≠ b_5 := Nat.ne_of_lt (Nat.lt_of_lt_of_le E_a_SET.lt fq5_0)
  have sz_b_5 := Nat.le_trans (Keep.refl h0 []).1 fq5_0
  have S__VALUES := own_sta_keep S__VALUES Kq5 all0
  have S_LIST := own_sta_keep S_LIST Kq5 all0
  have S_MAP := own_sta_keep S_MAP Kq5 all0
  have S_SET := own_sta_keep S_SET Kq5 all0
  have E_a_VALUES := E_a_VALUES.keep Kq5
  have E_a_LIST := E_a_LIST.keep Kq5
  have E_a_MAP := E_a_MAP.keep Kq5
  have E_a_SET := E_a_SET.keep Kq5
  have F_protocolId_a_LIST := F_protocolId_a_LIST.keep Kq5 nin0
  have F_protocolId_a_MAP := F_protocolId_a_MAP.keep Kq5 nin0
  have F_protocolId_a_SET := F_protocolId_a_SET.keep Kq5 nin0
  have A_a_VALUES := A_a_VALUES.keep Kq5 nin0
  have g_b_5 := fq5_1
  have E_b_5 := fq5_2
  have A_b_5 := fq5_3
  have K5 := (Keep.refl h0 []).trans Kq5 all0
  refine Ends.step st5 ?_
  show Ends p e below QQ (T5.setTop (mkF m 5 #[.val (.int p0), .val .null, .unset, .unset, .unset, .unset] [(.ref b_5)]))
  refine Ends.step (fun _ k => XS.astoreN X5.here hx rfl (hb hby d1_5) rfl rfl (l' := #[.val (.int p0), .val .null, .val (.ref b_5), .unset, .unset, .unset]) rfl k) ?_
  show Ends p e below QQ (T5.setTop (mkF m 6 #[.val (.int p0), .val .null, .val (.ref b_5), .unset, .unset, .unset] []))
  refine Ends.step (fun _ k => XS.aloadN X5.here hx rfl (hb hby d1_6) rfl rfl k) ?_
  show Ends p e below QQ (T5.setTop (mkF m 7 #[.val (.int p0), .val .null, .val (.ref b_5), .unset, .unset, .unset] [(.ref b_5)]))
  obtain ⟨cl6, Ar6, -, S6, P6, -, -⟩ := id A_b_5
  refine Ends.step (S' := T5.setTop (mkF m 8 #[.val (.int p0), .val .null, .val (.ref b_5), .unset, .unset, .unset] [(.int (3 : Int32))])) (fun _ k => X5.arraylength hx Ar6.1 (State.isArrayOf_alike hZ.alike Ar6.2.1) (g := (mkF m 7 #[.val (.int p0), .val .null, .val (.ref b_5), .unset, .unset, .unset] [(.ref b_5)])) rfl rfl (hb hby d1_7) _ (by rw [len_of S6 P6]; exact k)) ?_
  show Ends p e below QQ (T5.setTop (mkF m 8 #[.val (.int p0), .val .null, .val (.ref b_5), .unset, .unset, .unset] [(.int (3 : Int32))]))
  refine Ends.step (fun _ k => XS.istoreN X5.here hx rfl (hb hby d1_8) rfl (l' := #[.val (.int p0), .val .null, .val (.ref b_5), .val (.int (3 : Int32)), .unset, .unset]) rfl k) ?_
  show Ends p e below QQ (T5.setTop (mkF m 9 #[.val (.int p0), .val .null, .val (.ref b_5), .val (.int (3 : Int32)), .unset, .unset] []))
  refine Ends.step (fun _ k => XT.iconstV X5.here hx rfl (0 : Int32) (hb hby d1_9) rfl k) ?_
  show Ends p e below QQ (T5.setTop (mkF m 10 #[.val (.int p0), .val .null, .val (.ref b_5), .val (.int (3 : Int32)), .unset, .unset] [(.int (0 : Int32))]))
  refine Ends.step (fun _ k => XS.istore X5.here hx rfl (hb hby d1_10) rfl (l' := #[.val (.int p0), .val .null, .val (.ref b_5), .val (.int (3 : Int32)), .val (.int (0 : Int32)), .unset]) rfl k) ?_
  show Ends p e below QQ (T5.setTop (mkF m 12 #[.val (.int p0), .val .null, .val (.ref b_5), .val (.int (3 : Int32)), .val (.int (0 : Int32)), .unset] []))
  refine Ends.step (fun _ k => XS.iload X5.here hx rfl (hb hby d1_12) rfl k) ?_
  show Ends p e below QQ (T5.setTop (mkF m 14 #[.val (.int p0), .val .null, .val (.ref b_5), .val (.int (3 : Int32)), .val (.int (0 : Int32)), .unset] [(.int (0 : Int32))]))
  refine Ends.step (fun _ k => XS.iloadN X5.here hx rfl (hb hby d1_14) rfl k) ?_
  show Ends p e below QQ (T5.setTop (mkF m 15 #[.val (.int p0), .val .null, .val (.ref b_5), .val (.int (3 : Int32)), .val (.int (0 : Int32)), .unset] [(.int (3 : Int32)), (.int (0 : Int32))]))
  refine Ends.step (fun _ k => XS.icmpNo X5.here hx rfl (hb hby d1_15) rfl (XT.ii_ge_f (by decide)) k) ?_
  show Ends p e below QQ (T5.setTop (mkF m 18 #[.val (.int p0), .val .null, .val (.ref b_5), .val (.int (3 : Int32)), .val (.int (0 : Int32)), .unset] []))
  refine Ends.step (fun _ k => XS.aloadN X5.here hx rfl (hb hby d1_18) rfl rfl k) ?_
  show Ends p e below QQ (T5.setTop (mkF m 19 #[.val (.int p0), .val .null, .val (.ref b_5), .val (.int (3 : Int32)), .val (.int (0 : Int32)), .unset] [(.ref b_5)]))
  refine Ends.step (fun _ k => XS.iload X5.here hx rfl (hb hby d1_19) rfl k) ?_
  show Ends p e below QQ (T5.setTop (mkF m 21 #[.val (.int p0), .val .null, .val (.ref b_5), .val (.int (3 : Int32)), .val (.int (0 : Int32)), .unset] [(.int (0 : Int32)), (.ref b_5)]))
  obtain ⟨cl7, Ar7, q7, S7, P7, H7, G7⟩ := id A_b_5
  have hin7 : ¬ ((0 : Int32) < 0 ∨ cl7.slots.size ≤ ((0 : Int32)).toNatClampNeg) := inb_of S7 ⟨by decide, by decide⟩
  have hat7 : cl7.slots[((0 : Int32)).toNatClampNeg]? = some (.ref a_LIST) := H7.at hin7 (rfl)
  refine Ends.step (fun _ k => X5.aaload hx (j := (0 : Int32)) (v := (.ref a_LIST)) Ar7.1 (State.isArrayOf_alike hZ.alike Ar7.2.1) rfl Ar7.2.2 hin7 hat7 (g := (mkF m 21 #[.val (.int p0), .val .null, .val (.ref b_5), .val (.int (3 : Int32)), .val (.int (0 : Int32)), .unset] [(.int (0 : Int32)), (.ref b_5)])) rfl rfl (hb hby d1_21) _ k) ?_
  show Ends p e below QQ (T5.setTop (mkF m 22 #[.val (.int p0), .val .null, .val (.ref b_5), .val (.int (3 : Int32)), .val (.int (0 : Int32)), .unset] [(.ref a_LIST)]))
  refine Ends.step (fun _ k => XS.astore X5.here hx rfl (hb hby d1_22) rfl rfl (l' := #[.val (.int p0), .val .null, .val (.ref b_5), .val (.int (3 : Int32)), .val (.int (0 : Int32)), .val (.ref a_LIST)]) rfl k) ?_
  show Ends p e below QQ (T5.setTop (mkF m 24 #[.val (.int p0), .val .null, .val (.ref b_5), .val (.int (3 : Int32)), .val (.int (0 : Int32)), .val (.ref a_LIST)] []))
  refine Ends.step (fun _ k => XS.aload X5.here hx rfl (hb hby d1_24) rfl rfl k) ?_
  show Ends p e below QQ (T5.setTop (mkF m 26 #[.val (.int p0), .val .null, .val (.ref b_5), .val (.int (3 : Int32)), .val (.int (0 : Int32)), .val (.ref a_LIST)] [(.ref a_LIST)]))
  obtain ⟨T8, X8, e8, st8⟩ := getF X5 hx hZ hown (host := "") (Or.inl (hw _ (List.mem_of_getElem? (i := 23) rfl))) Via.refl rfl F_protocolId_a_LIST (g := (mkF m 26 #[.val (.int p0), .val .null, .val (.ref b_5), .val (.int (3 : Int32)), .val (.int (0 : Int32)), .val (.ref a_LIST)] [(.ref a_LIST)])) rfl rfl (hb hby d1_26)
  refine Ends.step st8 ?_
  show Ends p e below QQ (T8.setTop (mkF m 29 #[.val (.int p0), .val .null, .val (.ref b_5), .val (.int (3 : Int32)), .val (.int (0 : Int32)), .val (.ref a_LIST)] [(.int (32 : Int32))]))
  refine Ends.step (fun _ k => XS.iloadN X8.here hx rfl (hb hby d1_29) rfl k) ?_
  show Ends p e below QQ (T8.setTop (mkF m 30 #[.val (.int p0), .val .null, .val (.ref b_5), .val (.int (3 : Int32)), .val (.int (0 : Int32)), .val (.ref a_LIST)] [(.int p0), (.int (32 : Int32))]))
  have hc30 : (32 : Int32) = p0 := hk.symm
  refine Ends.step (fun _ k => XS.icmpNo X8.here hx rfl (hb hby d1_30) rfl (XT.ii_ne_f hc30) k) ?_
  show Ends p e below QQ (T8.setTop (mkF m 33 #[.val (.int p0), .val .null, .val (.ref b_5), .val (.int (3 : Int32)), .val (.int (0 : Int32)), .val (.ref a_LIST)] []))
  refine Ends.step (fun _ k => XS.aload X8.here hx rfl (hb hby d1_33) rfl rfl k) ?_
  show Ends p e below QQ (T8.setTop (mkF m 35 #[.val (.int p0), .val .null, .val (.ref b_5), .val (.int (3 : Int32)), .val (.int (0 : Int32)), .val (.ref a_LIST)] [(.ref a_LIST)]))
  refine Ends.step (fun _ k => XS.astoreN X8.here hx rfl (hb hby d1_35) rfl rfl (l' := #[.val (.int p0), .val (.ref a_LIST), .val (.ref b_5), .val (.int (3 : Int32)), .val (.int (0 : Int32)), .val (.ref a_LIST)]) rfl k) ?_
  show Ends p e below QQ (T8.setTop (mkF m 36 #[.val (.int p0), .val (.ref a_LIST), .val (.ref b_5), .val (.int (3 : Int32)), .val (.int (0 : Int32)), .val (.ref a_LIST)] []))
  refine Ends.step (fun _ k => XS.goto X8.here hx rfl (pc0 := 36) (pc' := 45) rfl (hb hby d1_36) (by decide) (by decide) k) ?_
  show Ends p e below QQ (T8.setTop (mkF m 45 #[.val (.int p0), .val (.ref a_LIST), .val (.ref b_5), .val (.int (3 : Int32)), .val (.int (0 : Int32)), .val (.ref a_LIST)] []))
  refine Ends.step (fun _ k => XS.aloadN X8.here hx rfl (hb hby d1_45) rfl rfl k) ?_
  show Ends p e below QQ (T8.setTop (mkF m 46 #[.val (.int p0), .val (.ref a_LIST), .val (.ref b_5), .val (.int (3 : Int32)), .val (.int (0 : Int32)), .val (.ref a_LIST)] [(.ref a_LIST)]))
  exact Ends.fin (some (.ref a_LIST)) X8 hQQ (fun h => by rw [Bd.returns] at h; cases h) Bd.notSynchronized (fun _ hr => retOut X8 hx (t := (.object "com/example/nuntius/nuntius/schema/CollectionType$Kind")) Bd.returns rfl (Or.inr (Or.inr (Or.inr (Or.inr ⟨rfl, rfl, rfl⟩)))) (hb hby d1_46) hr) e8 (by decide) (by decide) ⟨rfl, N5, K5⟩
theorem d1_39 : decode prog_48_method_5_code 39 = .ok (.iinc 4 1, 3) := by decide +kernel
theorem d1_42 : decode prog_48_method_5_code 42 = .ok (.goto (-30), 3) := by decide +kernel
theorem ef_1b (m : MethodId) (x0 : Int32) : entryFrame m #[(.int x0)] 6 = mkF m 0 #[.val (.int x0), .unset, .unset, .unset, .unset, .unset] [] := by first | (simp [entryFrame, mkF, argsToLocals, Value.category]; done) | rfl
def Q1b (Z : State) (p0 : Int32) (a_VALUES : Addr) (a_LIST : Addr) (a_MAP : Addr) (a_SET : Addr) (k_a_VALUES : ClassId) (h0 : Heap) (n0 : Nat) (v : Option Value) (h : Heap) (L : List Loc) : Prop := (v = some (.ref a_MAP)) ∧ (Fr n0 L) ∧ (Keep h0 h [])
set_option maxRecDepth 65536 in
set_option maxHeartbeats 40000000 in
theorem rm1b (l : Launch) (Z : State) (a0 : Array Value) (hw : ∀ d ∈ tables_1, d.before a0 Z = true) (ws : List Jvm.Cond) (p0 : Int32) (a_VALUES : Addr) (a_LIST : Addr) (a_MAP : Addr) (a_SET : Addr) (k_a_VALUES : ClassId) (h0 : Heap) (n0 : Nat) (Z0 : n0 ≤ h0.size) (E_a_VALUES : Exa Z h0 a_VALUES "[Lcom/example/nuntius/nuntius/schema/CollectionType$Kind;") (E_a_LIST : Exa Z h0 a_LIST "com/example/nuntius/nuntius/schema/CollectionType$Kind") (E_a_MAP : Exa Z h0 a_MAP "com/example/nuntius/nuntius/schema/CollectionType$Kind") (E_a_SET : Exa Z h0 a_SET "com/example/nuntius/nuntius/schema/CollectionType$Kind") (F_protocolId_a_LIST : Fld Z h0 a_LIST "com/example/nuntius/nuntius/schema/CollectionType$Kind" "protocolId" "I" (.int (32 : Int32))) (F_protocolId_a_MAP : Fld Z h0 a_MAP "com/example/nuntius/nuntius/schema/CollectionType$Kind" "protocolId" "I" (.int (33 : Int32))) (F_protocolId_a_SET : Fld Z h0 a_SET "com/example/nuntius/nuntius/schema/CollectionType$Kind" "protocolId" "I" (.int (34 : Int32))) (A_a_VALUES : Arv Z h0 a_VALUES k_a_VALUES (.object "com/example/nuntius/nuntius/schema/CollectionType$Kind") (3 : Int32) [(.ref a_LIST), (.ref a_MAP), (.ref a_SET)] .null) (S__VALUES : Sta Z h0 "com/example/nuntius/nuntius/schema/CollectionType$Kind" "$VALUES" "[Lcom/example/nuntius/nuntius/schema/CollectionType$Kind;" (.ref a_VALUES)) (S_LIST : Sta Z h0 "com/example/nuntius/nuntius/schema/CollectionType$Kind" "LIST" "Lcom/example/nuntius/nuntius/schema/CollectionType$Kind;" (.ref a_LIST)) (S_MAP : Sta Z h0 "com/example/nuntius/nuntius/schema/CollectionType$Kind" "MAP" "Lcom/example/nuntius/nuntius/schema/CollectionType$Kind;" (.ref a_MAP)) (S_SET : Sta Z h0 "com/example/nuntius/nuntius/schema/CollectionType$Kind" "SET" "Lcom/example/nuntius/nuntius/schema/CollectionType$Kind;" (.ref a_SET)) (hk : p0 = (33 : Int32)) :
    MetFree l (⟨"com/example/nuntius/nuntius/schema/CollectionType$Kind", "ofProtocolId", "(I)Lcom/example/nuntius/nuntius/schema/CollectionType$Kind;"⟩ : MethodName) (head1 (Jvm.Cond.code (⟨"com/example/nuntius/nuntius/schema/CollectionType$Kind", "ofProtocolId", "(I)Lcom/example/nuntius/nuntius/schema/CollectionType$Kind;"⟩ : MethodName) prog_48_method_5_code 6 (some (.object "com/example/nuntius/nuntius/schema/CollectionType$Kind")) :: ws) ({ frames := 2, cells := 1, slots := 3, locals := 25 } : Room)) (fun a U => a = #[(.int p0)] ∧ Z.Warmed39 U.vm ∧ U.heap = h0) (fun _ _ _ _ _ => True) (fun _ U o U' => ∃ v L, o = .returned v ∧ Q1b Z p0 a_VALUES a_LIST a_MAP a_SET k_a_VALUES h0 n0 v U'.heap L ∧ FrameEnd U o U' L ({ frames := 2, cells := 1, slots := 3, locals := 25 } : Room).cells ({ frames := 2, cells := 1, slots := 3, locals := 25 } : Room).slots) := by
  refine MetFree.of_bodySF (plainFor_of_name pn_0) hisR ?_
  intro p e s m args below meth c s₁ Bd hml0 hP hK
  obtain ⟨rfl, hZ, hh⟩ := hP
  have hx := Bd.exec
  have hby := Bd.bytes
  have hml : c.maxLocals = 6 := hml0
  have hown : s.vm.findClass "com/example/nuntius/nuntius/schema/CollectionType$Kind" = some m.cls := findClass_of_methodNamed Bd.named
  have hnm := (name_of_methodNamed Bd.named Bd.method).1
  have X0 : Stand p l e ({ frames := 2, cells := 1, slots := 3, locals := 25 } : Room) s m #[(.int p0)] below meth c s₁ [] 0 0 := Stand.of_body Bd
  have e0 : s₁.heap = h0 := by rw [← hh, Bd.state]; rfl
  have N0 := Fr.nil n0
  refine Ends.opn ?_
  intro QQ hQQ
  refine Ends.step (S' := s₁.setTop (mkF m 0 #[.val (.int p0), .unset, .unset, .unset, .unset, .unset] [])) (fun t k => castTop (ef_1b m p0) k) ?_
  show Ends p e below QQ (s₁.setTop (mkF m 0 #[.val (.int p0), .unset, .unset, .unset, .unset, .unset] []))
  refine Ends.step (fun _ k => XS.aconstNull X0.here hx rfl (hb hby d1_0) k) ?_
  show Ends p e below QQ (s₁.setTop (mkF m 1 #[.val (.int p0), .unset, .unset, .unset, .unset, .unset] [.null]))
  refine Ends.step (fun _ k => XS.astoreN X0.here hx rfl (hb hby d1_1) rfl rfl (l' := #[.val (.int p0), .val .null, .unset, .unset, .unset, .unset]) rfl k) ?_
  show Ends p e below QQ (s₁.setTop (mkF m 2 #[.val (.int p0), .val .null, .unset, .unset, .unset, .unset] []))
  obtain ⟨_, _, ⟨T9, L9, k9, n9⟩, -, X9, ⟨Lc9, hQ9, l9, y9, z9⟩, st9⟩ := Jvm.LawKit.callS X0 hx (y := (⟨"com/example/nuntius/nuntius/schema/CollectionType$Kind", "values", "()[Lcom/example/nuntius/nuntius/schema/CollectionType$Kind;"⟩ : MethodName)) hown (mvT hZ (hw _ (List.mem_of_getElem? (i := 5) rfl))) (mvT hZ (hw _ (List.mem_of_getElem? (i := 6) rfl))) (mvT hZ (hw _ (List.mem_of_getElem? (i := 3) rfl))) (mvT hZ (hw _ (List.mem_of_getElem? (i := 7) rfl))) (by decide) (backOf (W := 0) (rm2 l Z a0 hw [] a_VALUES a_LIST a_MAP a_SET k_a_VALUES h0 n0 (Nat.le_trans Z0 (Keep.refl h0 []).1) E_a_VALUES E_a_LIST E_a_MAP E_a_SET F_protocolId_a_LIST F_protocolId_a_MAP F_protocolId_a_SET A_a_VALUES S__VALUES S_LIST S_MAP S_SET) hZ (hw _ (List.mem_of_getElem? (i := 7) rfl)) (hw _ (List.mem_of_getElem? (i := 3) rfl)) (by decide) (by decide)) (g := (mkF m 2 #[.val (.int p0), .val .null, .unset, .unset, .unset, .unset] [])) rfl (by rw [hml]; rfl) (argsL := []) (rest := []) (lenOf pd_0 rfl) rfl (by show 2 * 0 + _ ≤ _; exact Nat.le_of_eq rfl) (hb hby d1_2) (fun _ _ => ⟨rfl, e0, (by decide : 0 + 1 ≤ _), (by decide : 0 + 3 ≤ _)⟩)
  dsimp only [Pt.U, Pt.locs, Pt.cells, Pt.slots] at X9 l9 y9 z9 st9 hQ9
  subst l9 y9 z9
  obtain ⟨b_9, rfl, Nq9, Kq9, fq9_0, fq9_1, fq9_2, fq9_3⟩ := hQ9
  have N9 := Fr.app N0 Nq9
  have ne_a_VALUES_b_9 : a_VALUES ≠ b_9 := Nat.ne_of_lt (Nat.lt_of_lt_of_le E_a_VALUES.lt fq9_0)
  have ne_a_LIST_b_9 : a_LIST ≠ b_9 := Nat.ne_of_lt (Nat.lt_of_lt_of_le E_a_LIST.lt fq9_0)
  have ne_a_MAP_b_9 : a_MAP ≠ b_9 := Nat.ne_of_lt (Nat.lt_of_lt_of_le E_a_MAP.lt fq9_0)
  have ne_a_SET_b_9 : a_SET ≠ b_9 := Nat.ne_of_lt (Nat.lt_of_lt_of_le E_a_SET.lt fq9_0)
  have sz_b_9 := Nat.le_trans (Keep.refl h0 []).1 fq9_0
  have S__VALUES := own_sta_keep S__VALUES Kq9 all0
  have S_LIST := own_sta_keep S_LIST Kq9 all0
  have S_MAP := own_sta_keep S_MAP Kq9 all0
  have S_SET := own_sta_keep S_SET Kq9 all0
  have E_a_VALUES := E_a_VALUES.keep Kq9
  have E_a_LIST := E_a_LIST.keep Kq9
  have E_a_MAP := E_a_MAP.keep Kq9
  have E_a_SET := E_a_SET.keep Kq9
  have F_protocolId_a_LIST := F_protocolId_a_LIST.keep Kq9 nin0
  have F_protocolId_a_MAP := F_protocolId_a_MAP.keep Kq9 nin0
  have F_protocolId_a_SET := F_protocolId_a_SET.keep Kq9 nin0
  have A_a_VALUES := A_a_VALUES.keep Kq9 nin0
  have g_b_9 := fq9_1
  have E_b_9 := fq9_2
  have A_b_9 := fq9_3
  have K9 := (Keep.refl h0 []).trans Kq9 all0
  refine Ends.step st9 ?_
  show Ends p e below QQ (T9.setTop (mkF m 5 #[.val (.int p0), .val .null, .unset, .unset, .unset, .unset] [(.ref b_9)]))
  refine Ends.step (fun _ k => XS.astoreN X9.here hx rfl (hb hby d1_5) rfl rfl (l' := #[.val (.int p0), .val .null, .val (.ref b_9), .unset, .unset, .unset]) rfl k) ?_
  show Ends p e below QQ (T9.setTop (mkF m 6 #[.val (.int p0), .val .null, .val (.ref b_9), .unset, .unset, .unset] []))
  refine Ends.step (fun _ k => XS.aloadN X9.here hx rfl (hb hby d1_6) rfl rfl k) ?_
  show Ends p e below QQ (T9.setTop (mkF m 7 #[.val (.int p0), .val .null, .val (.ref b_9), .unset, .unset, .unset] [(.ref b_9)]))
  obtain ⟨cl10, Ar10, -, S10, P10, -, -⟩ := id A_b_9
  refine Ends.step (S' := T9.setTop (mkF m 8 #[.val (.int p0), .val .null, .val (.ref b_9), .unset, .unset, .unset] [(.int (3 : Int32))])) (fun _ k => X9.arraylength hx Ar10.1 (State.isArrayOf_alike hZ.alike Ar10.2.1) (g := (mkF m 7 #[.val (.int p0), .val .null, .val (.ref b_9), .unset, .unset, .unset] [(.ref b_9)])) rfl rfl (hb hby d1_7) _ (by rw [len_of S10 P10]; exact k)) ?_
  show Ends p e below QQ (T9.setTop (mkF m 8 #[.val (.int p0), .val .null, .val (.ref b_9), .unset, .unset, .unset] [(.int (3 : Int32))]))
  refine Ends.step (fun _ k => XS.istoreN X9.here hx rfl (hb hby d1_8) rfl (l' := #[.val (.int p0), .val .null, .val (.ref b_9), .val (.int (3 : Int32)), .unset, .unset]) rfl k) ?_
  show Ends p e below QQ (T9.setTop (mkF m 9 #[.val (.int p0), .val .null, .val (.ref b_9), .val (.int (3 : Int32)), .unset, .unset] []))
  refine Ends.step (fun _ k => XT.iconstV X9.here hx rfl (0 : Int32) (hb hby d1_9) rfl k) ?_
  show Ends p e below QQ (T9.setTop (mkF m 10 #[.val (.int p0), .val .null, .val (.ref b_9), .val (.int (3 : Int32)), .unset, .unset] [(.int (0 : Int32))]))
  refine Ends.step (fun _ k => XS.istore X9.here hx rfl (hb hby d1_10) rfl (l' := #[.val (.int p0), .val .null, .val (.ref b_9), .val (.int (3 : Int32)), .val (.int (0 : Int32)), .unset]) rfl k) ?_
  show Ends p e below QQ (T9.setTop (mkF m 12 #[.val (.int p0), .val .null, .val (.ref b_9), .val (.int (3 : Int32)), .val (.int (0 : Int32)), .unset] []))
  refine Ends.step (fun _ k => XS.iload X9.here hx rfl (hb hby d1_12) rfl k) ?_
  show Ends p e below QQ (T9.setTop (mkF m 14 #[.val (.int p0), .val .null, .val (.ref b_9), .val (.int (3 : Int32)), .val (.int (0 : Int32)), .unset] [(.int (0 : Int32))]))
  refine Ends.step (fun _ k => XS.iloadN X9.here hx rfl (hb hby d1_14) rfl k) ?_
  show Ends p e below QQ (T9.setTop (mkF m 15 #[.val (.int p0), .val .null, .val (.ref b_9), .val (.int (3 : Int32)), .val (.int (0 : Int32)), .unset] [(.int (3 : Int32)), (.int (0 : Int32))]))
  refine Ends.step (fun _ k => XS.icmpNo X9.here hx rfl (hb hby d1_15) rfl (XT.ii_ge_f (by decide)) k) ?_
  show Ends p e below QQ (T9.setTop (mkF m 18 #[.val (.int p0), .val .null, .val (.ref b_9), .val (.int (3 : Int32)), .val (.int (0 : Int32)), .unset] []))
  refine Ends.step (fun _ k => XS.aloadN X9.here hx rfl (hb hby d1_18) rfl rfl k) ?_
  show Ends p e below QQ (T9.setTop (mkF m 19 #[.val (.int p0), .val .null, .val (.ref b_9), .val (.int (3 : Int32)), .val (.int (0 : Int32)), .unset] [(.ref b_9)]))
  refine Ends.step (fun _ k => XS.iload X9.here hx rfl (hb hby d1_19) rfl k) ?_
  show Ends p e below QQ (T9.setTop (mkF m 21 #[.val (.int p0), .val .null, .val (.ref b_9), .val (.int (3 : Int32)), .val (.int (0 : Int32)), .unset] [(.int (0 : Int32)), (.ref b_9)]))
  obtain ⟨cl11, Ar11, q11, S11, P11, H11, G11⟩ := id A_b_9
  have hin11 : ¬ ((0 : Int32) < 0 ∨ cl11.slots.size ≤ ((0 : Int32)).toNatClampNeg) := inb_of S11 ⟨by decide, by decide⟩
  have hat11 : cl11.slots[((0 : Int32)).toNatClampNeg]? = some (.ref a_LIST) := H11.at hin11 (rfl)
  refine Ends.step (fun _ k => X9.aaload hx (j := (0 : Int32)) (v := (.ref a_LIST)) Ar11.1 (State.isArrayOf_alike hZ.alike Ar11.2.1) rfl Ar11.2.2 hin11 hat11 (g := (mkF m 21 #[.val (.int p0), .val .null, .val (.ref b_9), .val (.int (3 : Int32)), .val (.int (0 : Int32)), .unset] [(.int (0 : Int32)), (.ref b_9)])) rfl rfl (hb hby d1_21) _ k) ?_
  show Ends p e below QQ (T9.setTop (mkF m 22 #[.val (.int p0), .val .null, .val (.ref b_9), .val (.int (3 : Int32)), .val (.int (0 : Int32)), .unset] [(.ref a_LIST)]))
  refine Ends.step (fun _ k => XS.astore X9.here hx rfl (hb hby d1_22) rfl rfl (l' := #[.val (.int p0), .val .null, .val (.ref b_9), .val (.int (3 : Int32)), .val (.int (0 : Int32)), .val (.ref a_LIST)]) rfl k) ?_
  show Ends p e below QQ (T9.setTop (mkF m 24 #[.val (.int p0), .val .null, .val (.ref b_9), .val (.int (3 : Int32)), .val (.int (0 : Int32)), .val (.ref a_LIST)] []))
  refine Ends.step (fun _ k => XS.aload X9.here hx rfl (hb hby d1_24) rfl rfl k) ?_
  show Ends p e below QQ (T9.setTop (mkF m 26 #[.val (.int p0), .val .null, .val (.ref b_9), .val (.int (3 : Int32)), .val (.int (0 : Int32)), .val (.ref a_LIST)] [(.ref a_LIST)]))
  obtain ⟨T12, X12, e12, st12⟩ := getF X9 hx hZ hown (host := "") (Or.inl (hw _ (List.mem_of_getElem? (i := 23) rfl))) Via.refl rfl F_protocolId_a_LIST (g := (mkF m 26 #[.val (.int p0), .val .null, .val (.ref b_9), .val (.int (3 : Int32)), .val (.int (0 : Int32)), .val (.ref a_LIST)] [(.ref a_LIST)])) rfl rfl (hb hby d1_26)
  refine Ends.step st12 ?_
  show Ends p e below QQ (T12.setTop (mkF m 29 #[.val (.int p0), .val .null, .val (.ref b_9), .val (.int (3 : Int32)), .val (.int (0 : Int32)), .val (.ref a_LIST)] [(.int (32 : Int32))]))
  refine Ends.step (fun _ k => XS.iloadN X12.here hx rfl (hb hby d1_29) rfl k) ?_
  show Ends p e below QQ (T12.setTop (mkF m 30 #[.val (.int p0), .val .null, .val (.ref b_9), .val (.int (3 : Int32)), .val (.int (0 : Int32)), .val (.ref a_LIST)] [(.int p0), (.int (32 : Int32))]))
  have hc30 : ¬ ((32 : Int32) = p0) := (by rw [hk]; decide)
  refine Ends.step (fun _ k => XS.icmpYes X12.here hx rfl (pc0 := 30) (pc' := 39) rfl (hb hby d1_30) rfl (XT.ii_ne_t hc30) (by decide) (by decide) k) ?_
  show Ends p e below QQ (T12.setTop (mkF m 39 #[.val (.int p0), .val .null, .val (.ref b_9), .val (.int (3 : Int32)), .val (.int (0 : Int32)), .val (.ref a_LIST)] []))
  refine Ends.step (fun _ k => XT.iincV X12.here hx rfl (1 : Int32) (hb hby d1_39) rfl rfl (l' := #[.val (.int p0), .val .null, .val (.ref b_9), .val (.int (3 : Int32)), .val (.int (1 : Int32)), .val (.ref a_LIST)]) rfl k) ?_
  show Ends p e below QQ (T12.setTop (mkF m 42 #[.val (.int p0), .val .null, .val (.ref b_9), .val (.int (3 : Int32)), .val (.int (1 : Int32)), .val (.ref a_LIST)] []))
  refine Ends.step (fun _ k => XS.goto X12.here hx rfl (pc0 := 42) (pc' := 12) rfl (hb hby d1_42) (by decide) (by decide) k) ?_
  show Ends p e below QQ (T12.setTop (mkF m 12 #[.val (.int p0), .val .null, .val (.ref b_9), .val (.int (3 : Int32)), .val (.int (1 : Int32)), .val (.ref a_LIST)] []))
  refine Ends.step (fun _ k => XS.iload X12.here hx rfl (hb hby d1_12) rfl k) ?_
  show Ends p e below QQ (T12.setTop (mkF m 14 #[.val (.int p0), .val .null, .val (.ref b_9), .val (.int (3 : Int32)), .val (.int (1 : Int32)), .val (.ref a_LIST)] [(.int (1 : Int32))]))
  refine Ends.step (fun _ k => XS.iloadN X12.here hx rfl (hb hby d1_14) rfl k) ?_
  show Ends p e below QQ (T12.setTop (mkF m 15 #[.val (.int p0), .val .null, .val (.ref b_9), .val (.int (3 : Int32)), .val (.int (1 : Int32)), .val (.ref a_LIST)] [(.int (3 : Int32)), (.int (1 : Int32))]))
  refine Ends.step (fun _ k => XS.icmpNo X12.here hx rfl (hb hby d1_15) rfl (XT.ii_ge_f (by decide)) k) ?_
  show Ends p e below QQ (T12.setTop (mkF m 18 #[.val (.int p0), .val .null, .val (.ref b_9), .val (.int (3 : Int32)), .val (.int (1 : Int32)), .val (.ref a_LIST)] []))
  refine Ends.step (fun _ k => XS.aloadN X12.here hx rfl (hb hby d1_18) rfl rfl k) ?_
  show Ends p e below QQ (T12.setTop (mkF m 19 #[.val (.int p0), .val .null, .val (.ref b_9), .val (.int (3 : Int32)), .val (.int (1 : Int32)), .val (.ref a_LIST)] [(.ref b_9)]))
  refine Ends.step (fun _ k => XS.iload X12.here hx rfl (hb hby d1_19) rfl k) ?_
  show Ends p e below QQ (T12.setTop (mkF m 21 #[.val (.int p0), .val .null, .val (.ref b_9), .val (.int (3 : Int32)), .val (.int (1 : Int32)), .val (.ref a_LIST)] [(.int (1 : Int32)), (.ref b_9)]))
  obtain ⟨cl13, Ar13, q13, S13, P13, H13, G13⟩ := id A_b_9
  have hin13 : ¬ ((1 : Int32) < 0 ∨ cl13.slots.size ≤ ((1 : Int32)).toNatClampNeg) := inb_of S13 ⟨by decide, by decide⟩
  have hat13 : cl13.slots[((1 : Int32)).toNatClampNeg]? = some (.ref a_MAP) := H13.at hin13 (rfl)
  refine Ends.step (fun _ k => X12.aaload hx (j := (1 : Int32)) (v := (.ref a_MAP)) (by rw [e12]; exact Ar13.1) (State.isArrayOf_alike hZ.alike Ar13.2.1) rfl Ar13.2.2 hin13 hat13 (g := (mkF m 21 #[.val (.int p0), .val .null, .val (.ref b_9), .val (.int (3 : Int32)), .val (.int (1 : Int32)), .val (.ref a_LIST)] [(.int (1 : Int32)), (.ref b_9)])) rfl rfl (hb hby d1_21) _ k) ?_
  show Ends p e below QQ (T12.setTop (mkF m 22 #[.val (.int p0), .val .null, .val (.ref b_9), .val (.int (3 : Int32)), .val (.int (1 : Int32)), .val (.ref a_LIST)] [(.ref a_MAP)]))
  refine Ends.step (fun _ k => XS.astore X12.here hx rfl (hb hby d1_22) rfl rfl (l' := #[.val (.int p0), .val .null, .val (.ref b_9), .val (.int (3 : Int32)), .val (.int (1 : Int32)), .val (.ref a_MAP)]) rfl k) ?_
  show Ends p e below QQ (T12.setTop (mkF m 24 #[.val (.int p0), .val .null, .val (.ref b_9), .val (.int (3 : Int32)), .val (.int (1 : Int32)), .val (.ref a_MAP)] []))
  refine Ends.step (fun _ k => XS.aload X12.here hx rfl (hb hby d1_24) rfl rfl k) ?_
  show Ends p e below QQ (T12.setTop (mkF m 26 #[.val (.int p0), .val .null, .val (.ref b_9), .val (.int (3 : Int32)), .val (.int (1 : Int32)), .val (.ref a_MAP)] [(.ref a_MAP)]))
  obtain ⟨T14, X14, e14, st14⟩ := getF X12 hx hZ hown (host := "") (Or.inl (hw _ (List.mem_of_getElem? (i := 23) rfl))) Via.refl e12 F_protocolId_a_MAP (g := (mkF m 26 #[.val (.int p0), .val .null, .val (.ref b_9), .val (.int (3 : Int32)), .val (.int (1 : Int32)), .val (.ref a_MAP)] [(.ref a_MAP)])) rfl rfl (hb hby d1_26)
  refine Ends.step st14 ?_
  show Ends p e below QQ (T14.setTop (mkF m 29 #[.val (.int p0), .val .null, .val (.ref b_9), .val (.int (3 : Int32)), .val (.int (1 : Int32)), .val (.ref a_MAP)] [(.int (33 : Int32))]))
  refine Ends.step (fun _ k => XS.iloadN X14.here hx rfl (hb hby d1_29) rfl k) ?_
  show Ends p e below QQ (T14.setTop (mkF m 30 #[.val (.int p0), .val .null, .val (.ref b_9), .val (.int (3 : Int32)), .val (.int (1 : Int32)), .val (.ref a_MAP)] [(.int p0), (.int (33 : Int32))]))
  have hc30 : (33 : Int32) = p0 := hk.symm
  refine Ends.step (fun _ k => XS.icmpNo X14.here hx rfl (hb hby d1_30) rfl (XT.ii_ne_f hc30) k) ?_
  show Ends p e below QQ (T14.setTop (mkF m 33 #[.val (.int p0), .val .null, .val (.ref b_9), .val (.int (3 : Int32)), .val (.int (1 : Int32)), .val (.ref a_MAP)] []))
  refine Ends.step (fun _ k => XS.aload X14.here hx rfl (hb hby d1_33) rfl rfl k) ?_
  show Ends p e below QQ (T14.setTop (mkF m 35 #[.val (.int p0), .val .null, .val (.ref b_9), .val (.int (3 : Int32)), .val (.int (1 : Int32)), .val (.ref a_MAP)] [(.ref a_MAP)]))
  refine Ends.step (fun _ k => XS.astoreN X14.here hx rfl (hb hby d1_35) rfl rfl (l' := #[.val (.int p0), .val (.ref a_MAP), .val (.ref b_9), .val (.int (3 : Int32)), .val (.int (1 : Int32)), .val (.ref a_MAP)]) rfl k) ?_
  show Ends p e below QQ (T14.setTop (mkF m 36 #[.val (.int p0), .val (.ref a_MAP), .val (.ref b_9), .val (.int (3 : Int32)), .val (.int (1 : Int32)), .val (.ref a_MAP)] []))
  refine Ends.step (fun _ k => XS.goto X14.here hx rfl (pc0 := 36) (pc' := 45) rfl (hb hby d1_36) (by decide) (by decide) k) ?_
  show Ends p e below QQ (T14.setTop (mkF m 45 #[.val (.int p0), .val (.ref a_MAP), .val (.ref b_9), .val (.int (3 : Int32)), .val (.int (1 : Int32)), .val (.ref a_MAP)] []))
  refine Ends.step (fun _ k => XS.aloadN X14.here hx rfl (hb hby d1_45) rfl rfl k) ?_
  show Ends p e below QQ (T14.setTop (mkF m 46 #[.val (.int p0), .val (.ref a_MAP), .val (.ref b_9), .val (.int (3 : Int32)), .val (.int (1 : Int32)), .val (.ref a_MAP)] [(.ref a_MAP)]))
  exact Ends.fin (some (.ref a_MAP)) X14 hQQ (fun h => by rw [Bd.returns] at h; cases h) Bd.notSynchronized (fun _ hr => retOut X14 hx (t := (.object "com/example/nuntius/nuntius/schema/CollectionType$Kind")) Bd.returns rfl (Or.inr (Or.inr (Or.inr (Or.inr ⟨rfl, rfl, rfl⟩)))) (hb hby d1_46) hr) e14 (by decide) (by decide) ⟨rfl, N9, K9⟩
theorem ef_1c (m : MethodId) (x0 : Int32) : entryFrame m #[(.int x0)] 6 = mkF m 0 #[.val (.int x0), .unset, .unset, .unset, .unset, .unset] [] := by first | (simp [entryFrame, mkF, argsToLocals, Value.category]; done) | rfl
def Q1c (Z : State) (p0 : Int32) (a_VALUES : Addr) (a_LIST : Addr) (a_MAP : Addr) (a_SET : Addr) (k_a_VALUES : ClassId) (h0 : Heap) (n0 : Nat) (v : Option Value) (h : Heap) (L : List Loc) : Prop := (v = some (.ref a_SET)) ∧ (Fr n0 L) ∧ (Keep h0 h [])
set_option maxRecDepth 65536 in
set_option maxHeartbeats 40000000 in
theorem rm1c (l : Launch) (Z : State) (a0 : Array Value) (hw : ∀ d ∈ tables_1, d.before a0 Z = true) (ws : List Jvm.Cond) (p0 : Int32) (a_VALUES : Addr) (a_LIST : Addr) (a_MAP : Addr) (a_SET : Addr) (k_a_VALUES : ClassId) (h0 : Heap) (n0 : Nat) (Z0 : n0 ≤ h0.size) (E_a_VALUES : Exa Z h0 a_VALUES "[Lcom/example/nuntius/nuntius/schema/CollectionType$Kind;") (E_a_LIST : Exa Z h0 a_LIST "com/example/nuntius/nuntius/schema/CollectionType$Kind") (E_a_MAP : Exa Z h0 a_MAP "com/example/nuntius/nuntius/schema/CollectionType$Kind") (E_a_SET : Exa Z h0 a_SET "com/example/nuntius/nuntius/schema/CollectionType$Kind") (F_protocolId_a_LIST : Fld Z h0 a_LIST "com/example/nuntius/nuntius/schema/CollectionType$Kind" "protocolId" "I" (.int (32 : Int32))) (F_protocolId_a_MAP : Fld Z h0 a_MAP "com/example/nuntius/nuntius/schema/CollectionType$Kind" "protocolId" "I" (.int (33 : Int32))) (F_protocolId_a_SET : Fld Z h0 a_SET "com/example/nuntius/nuntius/schema/CollectionType$Kind" "protocolId" "I" (.int (34 : Int32))) (A_a_VALUES : Arv Z h0 a_VALUES k_a_VALUES (.object "com/example/nuntius/nuntius/schema/CollectionType$Kind") (3 : Int32) [(.ref a_LIST), (.ref a_MAP), (.ref a_SET)] .null) (S__VALUES : Sta Z h0 "com/example/nuntius/nuntius/schema/CollectionType$Kind" "$VALUES" "[Lcom/example/nuntius/nuntius/schema/CollectionType$Kind;" (.ref a_VALUES)) (S_LIST : Sta Z h0 "com/example/nuntius/nuntius/schema/CollectionType$Kind" "LIST" "Lcom/example/nuntius/nuntius/schema/CollectionType$Kind;" (.ref a_LIST)) (S_MAP : Sta Z h0 "com/example/nuntius/nuntius/schema/CollectionType$Kind" "MAP" "Lcom/example/nuntius/nuntius/schema/CollectionType$Kind;" (.ref a_MAP)) (S_SET : Sta Z h0 "com/example/nuntius/nuntius/schema/CollectionType$Kind" "SET" "Lcom/example/nuntius/nuntius/schema/CollectionType$Kind;" (.ref a_SET)) (hk : p0 = (34 : Int32)) :
    MetFree l (⟨"com/example/nuntius/nuntius/schema/CollectionType$Kind", "ofProtocolId", "(I)Lcom/example/nuntius/nuntius/schema/CollectionType$Kind;"⟩ : MethodName) (head1 (Jvm.Cond.code (⟨"com/example/nuntius/nuntius/schema/CollectionType$Kind", "ofProtocolId", "(I)Lcom/example/nuntius/nuntius/schema/CollectionType$Kind;"⟩ : MethodName) prog_48_method_5_code 6 (some (.object "com/example/nuntius/nuntius/schema/CollectionType$Kind")) :: ws) ({ frames := 2, cells := 1, slots := 3, locals := 25 } : Room)) (fun a U => a = #[(.int p0)] ∧ Z.Warmed39 U.vm ∧ U.heap = h0) (fun _ _ _ _ _ => True) (fun _ U o U' => ∃ v L, o = .returned v ∧ Q1c Z p0 a_VALUES a_LIST a_MAP a_SET k_a_VALUES h0 n0 v U'.heap L ∧ FrameEnd U o U' L ({ frames := 2, cells := 1, slots := 3, locals := 25 } : Room).cells ({ frames := 2, cells := 1, slots := 3, locals := 25 } : Room).slots) := by
  refine MetFree.of_bodySF (plainFor_of_name pn_0) hisR ?_
  intro p e s m args below meth c s₁ Bd hml0 hP hK
  obtain ⟨rfl, hZ, hh⟩ := hP
  have hx := Bd.exec
  have hby := Bd.bytes
  have hml : c.maxLocals = 6 := hml0
  have hown : s.vm.findClass "com/example/nuntius/nuntius/schema/CollectionType$Kind" = some m.cls := findClass_of_methodNamed Bd.named
  have hnm := (name_of_methodNamed Bd.named Bd.method).1
  have X0 : Stand p l e ({ frames := 2, cells := 1, slots := 3, locals := 25 } : Room) s m #[(.int p0)] below meth c s₁ [] 0 0 := Stand.of_body Bd
  have e0 : s₁.heap = h0 := by rw [← hh, Bd.state]; rfl
  have N0 := Fr.nil n0
  refine Ends.opn ?_
  intro QQ hQQ
  refine Ends.step (S' := s₁.setTop (mkF m 0 #[.val (.int p0), .unset, .unset, .unset, .unset, .unset] [])) (fun t k => castTop (ef_1c m p0) k) ?_
  show Ends p e below QQ (s₁.setTop (mkF m 0 #[.val (.int p0), .unset, .unset, .unset, .unset, .unset] []))
  refine Ends.step (fun _ k => XS.aconstNull X0.here hx rfl (hb hby d1_0) k) ?_
  show Ends p e below QQ (s₁.setTop (mkF m 1 #[.val (.int p0), .unset, .unset, .unset, .unset, .unset] [.null]))
  refine Ends.step (fun _ k => XS.astoreN X0.here hx rfl (hb hby d1_1) rfl rfl (l' := #[.val (.int p0), .val .null, .unset, .unset, .unset, .unset]) rfl k) ?_
  show Ends p e below QQ (s₁.setTop (mkF m 2 #[.val (.int p0), .val .null, .unset, .unset, .unset, .unset] []))
  obtain ⟨_, _, ⟨T15, L15, k15, n15⟩, -, X15, ⟨Lc15, hQ15, l15, y15, z15⟩, st15⟩ := Jvm.LawKit.callS X0 hx (y := (⟨"com/example/nuntius/nuntius/schema/CollectionType$Kind", "values", "()[Lcom/example/nuntius/nuntius/schema/CollectionType$Kind;"⟩ : MethodName)) hown (mvT hZ (hw _ (List.mem_of_getElem? (i := 5) rfl))) (mvT hZ (hw _ (List.mem_of_getElem? (i := 6) rfl))) (mvT hZ (hw _ (List.mem_of_getElem? (i := 3) rfl))) (mvT hZ (hw _ (List.mem_of_getElem? (i := 7) rfl))) (by decide) (backOf (W := 0) (rm2 l Z a0 hw [] a_VALUES a_LIST a_MAP a_SET k_a_VALUES h0 n0 (Nat.le_trans Z0 (Keep.refl h0 []).1) E_a_VALUES E_a_LIST E_a_MAP E_a_SET F_protocolId_a_LIST F_protocolId_a_MAP F_protocolId_a_SET A_a_VALUES S__VALUES S_LIST S_MAP S_SET) hZ (hw _ (List.mem_of_getElem? (i := 7) rfl)) (hw _ (List.mem_of_getElem? (i := 3) rfl)) (by decide) (by decide)) (g := (mkF m 2 #[.val (.int p0), .val .null, .unset, .unset, .unset, .unset] [])) rfl (by rw [hml]; rfl) (argsL := []) (rest := []) (lenOf pd_0 rfl) rfl (by show 2 * 0 + _ ≤ _; exact Nat.le_of_eq rfl) (hb hby d1_2) (fun _ _ => ⟨rfl, e0, (by decide : 0 + 1 ≤ _), (by decide : 0 + 3 ≤ _)⟩)
  dsimp only [Pt.U, Pt.locs, Pt.cells, Pt.slots] at X15 l15 y15 z15 st15 hQ15
  subst l15 y15 z15
  obtain ⟨b_15, rfl, Nq15, Kq15, fq15_0, fq15_1, fq15_2, fq15_3⟩ := hQ15
  have N15 := Fr.app N0 Nq15
  have ne_a_VALUES_b_15 : a_VALUES ≠ b_15 := Nat.ne_of_lt (Nat.lt_of_lt_of_le E_a_VALUES.lt fq15_0)
  have ne_a_LIST_b_15 : a_LIST ≠ b_15 := Nat.ne_of_lt (Nat.lt_of_lt_of_le E_a_LIST.lt fq15_0)
  have ne_a_MAP_b_15 : a_MAP ≠ b_15 := Nat.ne_of_lt (Nat.lt_of_lt_of_le E_a_MAP.lt fq15_0)
  have ne_a_SET_b_15 : a_SET ≠ b_15 := Nat.ne_of_lt (Nat.lt_of_lt_of_le E_a_SET.lt fq15_0)
  have sz_b_15 := Nat.le_trans (Keep.refl h0 []).1 fq15_0
  have S__VALUES := own_sta_keep S__VALUES Kq15 all0
  have S_LIST := own_sta_keep S_LIST Kq15 all0
  have S_MAP := own_sta_keep S_MAP Kq15 all0
  have S_SET := own_sta_keep S_SET Kq15 all0
  have E_a_VALUES := E_a_VALUES.keep Kq15
  have E_a_LIST := E_a_LIST.keep Kq15
  have E_a_MAP := E_a_MAP.keep Kq15
  have E_a_SET := E_a_SET.keep Kq15
  have F_protocolId_a_LIST := F_protocolId_a_LIST.keep Kq15 nin0
  have F_protocolId_a_MAP := F_protocolId_a_MAP.keep Kq15 nin0
  have F_protocolId_a_SET := F_protocolId_a_SET.keep Kq15 nin0
  have A_a_VALUES := A_a_VALUES.keep Kq15 nin0
  have g_b_15 := fq15_1
  have E_b_15 := fq15_2
  have A_b_15 := fq15_3
  have K15 := (Keep.refl h0 []).trans Kq15 all0
  refine Ends.step st15 ?_
  show Ends p e below QQ (T15.setTop (mkF m 5 #[.val (.int p0), .val .null, .unset, .unset, .unset, .unset] [(.ref b_15)]))
  refine Ends.step (fun _ k => XS.astoreN X15.here hx rfl (hb hby d1_5) rfl rfl (l' := #[.val (.int p0), .val .null, .val (.ref b_15), .unset, .unset, .unset]) rfl k) ?_
  show Ends p e below QQ (T15.setTop (mkF m 6 #[.val (.int p0), .val .null, .val (.ref b_15), .unset, .unset, .unset] []))
  refine Ends.step (fun _ k => XS.aloadN X15.here hx rfl (hb hby d1_6) rfl rfl k) ?_
  show Ends p e below QQ (T15.setTop (mkF m 7 #[.val (.int p0), .val .null, .val (.ref b_15), .unset, .unset, .unset] [(.ref b_15)]))
  obtain ⟨cl16, Ar16, -, S16, P16, -, -⟩ := id A_b_15
  refine Ends.step (S' := T15.setTop (mkF m 8 #[.val (.int p0), .val .null, .val (.ref b_15), .unset, .unset, .unset] [(.int (3 : Int32))])) (fun _ k => X15.arraylength hx Ar16.1 (State.isArrayOf_alike hZ.alike Ar16.2.1) (g := (mkF m 7 #[.val (.int p0), .val .null, .val (.ref b_15), .unset, .unset, .unset] [(.ref b_15)])) rfl rfl (hb hby d1_7) _ (by rw [len_of S16 P16]; exact k)) ?_
  show Ends p e below QQ (T15.setTop (mkF m 8 #[.val (.int p0), .val .null, .val (.ref b_15), .unset, .unset, .unset] [(.int (3 : Int32))]))
  refine Ends.step (fun _ k => XS.istoreN X15.here hx rfl (hb hby d1_8) rfl (l' := #[.val (.int p0), .val .null, .val (.ref b_15), .val (.int (3 : Int32)), .unset, .unset]) rfl k) ?_
  show Ends p e below QQ (T15.setTop (mkF m 9 #[.val (.int p0), .val .null, .val (.ref b_15), .val (.int (3 : Int32)), .unset, .unset] []))
  refine Ends.step (fun _ k => XT.iconstV X15.here hx rfl (0 : Int32) (hb hby d1_9) rfl k) ?_
  show Ends p e below QQ (T15.setTop (mkF m 10 #[.val (.int p0), .val .null, .val (.ref b_15), .val (.int (3 : Int32)), .unset, .unset] [(.int (0 : Int32))]))
  refine Ends.step (fun _ k => XS.istore X15.here hx rfl (hb hby d1_10) rfl (l' := #[.val (.int p0), .val .null, .val (.ref b_15), .val (.int (3 : Int32)), .val (.int (0 : Int32)), .unset]) rfl k) ?_
  show Ends p e below QQ (T15.setTop (mkF m 12 #[.val (.int p0), .val .null, .val (.ref b_15), .val (.int (3 : Int32)), .val (.int (0 : Int32)), .unset] []))
  refine Ends.step (fun _ k => XS.iload X15.here hx rfl (hb hby d1_12) rfl k) ?_
  show Ends p e below QQ (T15.setTop (mkF m 14 #[.val (.int p0), .val .null, .val (.ref b_15), .val (.int (3 : Int32)), .val (.int (0 : Int32)), .unset] [(.int (0 : Int32))]))
  refine Ends.step (fun _ k => XS.iloadN X15.here hx rfl (hb hby d1_14) rfl k) ?_
  show Ends p e below QQ (T15.setTop (mkF m 15 #[.val (.int p0), .val .null, .val (.ref b_15), .val (.int (3 : Int32)), .val (.int (0 : Int32)), .unset] [(.int (3 : Int32)), (.int (0 : Int32))]))
  refine Ends.step (fun _ k => XS.icmpNo X15.here hx rfl (hb hby d1_15) rfl (XT.ii_ge_f (by decide)) k) ?_
  show Ends p e below QQ (T15.setTop (mkF m 18 #[.val (.int p0), .val .null, .val (.ref b_15), .val (.int (3 : Int32)), .val (.int (0 : Int32)), .unset] []))
  refine Ends.step (fun _ k => XS.aloadN X15.here hx rfl (hb hby d1_18) rfl rfl k) ?_
  show Ends p e below QQ (T15.setTop (mkF m 19 #[.val (.int p0), .val .null, .val (.ref b_15), .val (.int (3 : Int32)), .val (.int (0 : Int32)), .unset] [(.ref b_15)]))
  refine Ends.step (fun _ k => XS.iload X15.here hx rfl (hb hby d1_19) rfl k) ?_
  show Ends p e below QQ (T15.setTop (mkF m 21 #[.val (.int p0), .val .null, .val (.ref b_15), .val (.int (3 : Int32)), .val (.int (0 : Int32)), .unset] [(.int (0 : Int32)), (.ref b_15)]))
  obtain ⟨cl17, Ar17, q17, S17, P17, H17, G17⟩ := id A_b_15
  have hin17 : ¬ ((0 : Int32) < 0 ∨ cl17.slots.size ≤ ((0 : Int32)).toNatClampNeg) := inb_of S17 ⟨by decide, by decide⟩
  have hat17 : cl17.slots[((0 : Int32)).toNatClampNeg]? = some (.ref a_LIST) := H17.at hin17 (rfl)
  refine Ends.step (fun _ k => X15.aaload hx (j := (0 : Int32)) (v := (.ref a_LIST)) Ar17.1 (State.isArrayOf_alike hZ.alike Ar17.2.1) rfl Ar17.2.2 hin17 hat17 (g := (mkF m 21 #[.val (.int p0), .val .null, .val (.ref b_15), .val (.int (3 : Int32)), .val (.int (0 : Int32)), .unset] [(.int (0 : Int32)), (.ref b_15)])) rfl rfl (hb hby d1_21) _ k) ?_
  show Ends p e below QQ (T15.setTop (mkF m 22 #[.val (.int p0), .val .null, .val (.ref b_15), .val (.int (3 : Int32)), .val (.int (0 : Int32)), .unset] [(.ref a_LIST)]))
  refine Ends.step (fun _ k => XS.astore X15.here hx rfl (hb hby d1_22) rfl rfl (l' := #[.val (.int p0), .val .null, .val (.ref b_15), .val (.int (3 : Int32)), .val (.int (0 : Int32)), .val (.ref a_LIST)]) rfl k) ?_
  show Ends p e below QQ (T15.setTop (mkF m 24 #[.val (.int p0), .val .null, .val (.ref b_15), .val (.int (3 : Int32)), .val (.int (0 : Int32)), .val (.ref a_LIST)] []))
  refine Ends.step (fun _ k => XS.aload X15.here hx rfl (hb hby d1_24) rfl rfl k) ?_
  show Ends p e below QQ (T15.setTop (mkF m 26 #[.val (.int p0), .val .null, .val (.ref b_15), .val (.int (3 : Int32)), .val (.int (0 : Int32)), .val (.ref a_LIST)] [(.ref a_LIST)]))
  obtain ⟨T18, X18, e18, st18⟩ := getF X15 hx hZ hown (host := "") (Or.inl (hw _ (List.mem_of_getElem? (i := 23) rfl))) Via.refl rfl F_protocolId_a_LIST (g := (mkF m 26 #[.val (.int p0), .val .null, .val (.ref b_15), .val (.int (3 : Int32)), .val (.int (0 : Int32)), .val (.ref a_LIST)] [(.ref a_LIST)])) rfl rfl (hb hby d1_26)
  refine Ends.step st18 ?_
  show Ends p e below QQ (T18.setTop (mkF m 29 #[.val (.int p0), .val .null, .val (.ref b_15), .val (.int (3 : Int32)), .val (.int (0 : Int32)), .val (.ref a_LIST)] [(.int (32 : Int32))]))
  refine Ends.step (fun _ k => XS.iloadN X18.here hx rfl (hb hby d1_29) rfl k) ?_
  show Ends p e below QQ (T18.setTop (mkF m 30 #[.val (.int p0), .val .null, .val (.ref b_15), .val (.int (3 : Int32)), .val (.int (0 : Int32)), .val (.ref a_LIST)] [(.int p0), (.int (32 : Int32))]))
  have hc30 : ¬ ((32 : Int32) = p0) := (by rw [hk]; decide)
  refine Ends.step (fun _ k => XS.icmpYes X18.here hx rfl (pc0 := 30) (pc' := 39) rfl (hb hby d1_30) rfl (XT.ii_ne_t hc30) (by decide) (by decide) k) ?_
  show Ends p e below QQ (T18.setTop (mkF m 39 #[.val (.int p0), .val .null, .val (.ref b_15), .val (.int (3 : Int32)), .val (.int (0 : Int32)), .val (.ref a_LIST)] []))
  refine Ends.step (fun _ k => XT.iincV X18.here hx rfl (1 : Int32) (hb hby d1_39) rfl rfl (l' := #[.val (.int p0), .val .null, .val (.ref b_15), .val (.int (3 : Int32)), .val (.int (1 : Int32)), .val (.ref a_LIST)]) rfl k) ?_
  show Ends p e below QQ (T18.setTop (mkF m 42 #[.val (.int p0), .val .null, .val (.ref b_15), .val (.int (3 : Int32)), .val (.int (1 : Int32)), .val (.ref a_LIST)] []))
  refine Ends.step (fun _ k => XS.goto X18.here hx rfl (pc0 := 42) (pc' := 12) rfl (hb hby d1_42) (by decide) (by decide) k) ?_
  show Ends p e below QQ (T18.setTop (mkF m 12 #[.val (.int p0), .val .null, .val (.ref b_15), .val (.int (3 : Int32)), .val (.int (1 : Int32)), .val (.ref a_LIST)] []))
  refine Ends.step (fun _ k => XS.iload X18.here hx rfl (hb hby d1_12) rfl k) ?_
  show Ends p e below QQ (T18.setTop (mkF m 14 #[.val (.int p0), .val .null, .val (.ref b_15), .val (.int (3 : Int32)), .val (.int (1 : Int32)), .val (.ref a_LIST)] [(.int (1 : Int32))]))
  refine Ends.step (fun _ k => XS.iloadN X18.here hx rfl (hb hby d1_14) rfl k) ?_
  show Ends p e below QQ (T18.setTop (mkF m 15 #[.val (.int p0), .val .null, .val (.ref b_15), .val (.int (3 : Int32)), .val (.int (1 : Int32)), .val (.ref a_LIST)] [(.int (3 : Int32)), (.int (1 : Int32))]))
  refine Ends.step (fun _ k => XS.icmpNo X18.here hx rfl (hb hby d1_15) rfl (XT.ii_ge_f (by decide)) k) ?_
  show Ends p e below QQ (T18.setTop (mkF m 18 #[.val (.int p0), .val .null, .val (.ref b_15), .val (.int (3 : Int32)), .val (.int (1 : Int32)), .val (.ref a_LIST)] []))
  refine Ends.step (fun _ k => XS.aloadN X18.here hx rfl (hb hby d1_18) rfl rfl k) ?_
  show Ends p e below QQ (T18.setTop (mkF m 19 #[.val (.int p0), .val .null, .val (.ref b_15), .val (.int (3 : Int32)), .val (.int (1 : Int32)), .val (.ref a_LIST)] [(.ref b_15)]))
  refine Ends.step (fun _ k => XS.iload X18.here hx rfl (hb hby d1_19) rfl k) ?_
  show Ends p e below QQ (T18.setTop (mkF m 21 #[.val (.int p0), .val .null, .val (.ref b_15), .val (.int (3 : Int32)), .val (.int (1 : Int32)), .val (.ref a_LIST)] [(.int (1 : Int32)), (.ref b_15)]))
  obtain ⟨cl19, Ar19, q19, S19, P19, H19, G19⟩ := id A_b_15
  have hin19 : ¬ ((1 : Int32) < 0 ∨ cl19.slots.size ≤ ((1 : Int32)).toNatClampNeg) := inb_of S19 ⟨by decide, by decide⟩
  have hat19 : cl19.slots[((1 : Int32)).toNatClampNeg]? = some (.ref a_MAP) := H19.at hin19 (rfl)
  refine Ends.step (fun _ k => X18.aaload hx (j := (1 : Int32)) (v := (.ref a_MAP)) (by rw [e18]; exact Ar19.1) (State.isArrayOf_alike hZ.alike Ar19.2.1) rfl Ar19.2.2 hin19 hat19 (g := (mkF m 21 #[.val (.int p0), .val .null, .val (.ref b_15), .val (.int (3 : Int32)), .val (.int (1 : Int32)), .val (.ref a_LIST)] [(.int (1 : Int32)), (.ref b_15)])) rfl rfl (hb hby d1_21) _ k) ?_
  show Ends p e below QQ (T18.setTop (mkF m 22 #[.val (.int p0), .val .null, .val (.ref b_15), .val (.int (3 : Int32)), .val (.int (1 : Int32)), .val (.ref a_LIST)] [(.ref a_MAP)]))
  refine Ends.step (fun _ k => XS.astore X18.here hx rfl (hb hby d1_22) rfl rfl (l' := #[.val (.int p0), .val .null, .val (.ref b_15), .val (.int (3 : Int32)), .val (.int (1 : Int32)), .val (.ref a_MAP)]) rfl k) ?_
  show Ends p e below QQ (T18.setTop (mkF m 24 #[.val (.int p0), .val .null, .val (.ref b_15), .val (.int (3 : Int32)), .val (.int (1 : Int32)), .val (.ref a_MAP)] []))
  refine Ends.step (fun _ k => XS.aload X18.here hx rfl (hb hby d1_24) rfl rfl k) ?_
  show Ends p e below QQ (T18.setTop (mkF m 26 #[.val (.int p0), .val .null, .val (.ref b_15), .val (.int (3 : Int32)), .val (.int (1 : Int32)), .val (.ref a_MAP)] [(.ref a_MAP)]))
  obtain ⟨T20, X20, e20, st20⟩ := getF X18 hx hZ hown (host := "") (Or.inl (hw _ (List.mem_of_getElem? (i := 23) rfl))) Via.refl e18 F_protocolId_a_MAP (g := (mkF m 26 #[.val (.int p0), .val .null, .val (.ref b_15), .val (.int (3 : Int32)), .val (.int (1 : Int32)), .val (.ref a_MAP)] [(.ref a_MAP)])) rfl rfl (hb hby d1_26)
  refine Ends.step st20 ?_
  show Ends p e below QQ (T20.setTop (mkF m 29 #[.val (.int p0), .val .null, .val (.ref b_15), .val (.int (3 : Int32)), .val (.int (1 : Int32)), .val (.ref a_MAP)] [(.int (33 : Int32))]))
  refine Ends.step (fun _ k => XS.iloadN X20.here hx rfl (hb hby d1_29) rfl k) ?_
  show Ends p e below QQ (T20.setTop (mkF m 30 #[.val (.int p0), .val .null, .val (.ref b_15), .val (.int (3 : Int32)), .val (.int (1 : Int32)), .val (.ref a_MAP)] [(.int p0), (.int (33 : Int32))]))
  have hc30 : ¬ ((33 : Int32) = p0) := (by rw [hk]; decide)
  refine Ends.step (fun _ k => XS.icmpYes X20.here hx rfl (pc0 := 30) (pc' := 39) rfl (hb hby d1_30) rfl (XT.ii_ne_t hc30) (by decide) (by decide) k) ?_
  show Ends p e below QQ (T20.setTop (mkF m 39 #[.val (.int p0), .val .null, .val (.ref b_15), .val (.int (3 : Int32)), .val (.int (1 : Int32)), .val (.ref a_MAP)] []))
  refine Ends.step (fun _ k => XT.iincV X20.here hx rfl (1 : Int32) (hb hby d1_39) rfl rfl (l' := #[.val (.int p0), .val .null, .val (.ref b_15), .val (.int (3 : Int32)), .val (.int (2 : Int32)), .val (.ref a_MAP)]) rfl k) ?_
  show Ends p e below QQ (T20.setTop (mkF m 42 #[.val (.int p0), .val .null, .val (.ref b_15), .val (.int (3 : Int32)), .val (.int (2 : Int32)), .val (.ref a_MAP)] []))
  refine Ends.step (fun _ k => XS.goto X20.here hx rfl (pc0 := 42) (pc' := 12) rfl (hb hby d1_42) (by decide) (by decide) k) ?_
  show Ends p e below QQ (T20.setTop (mkF m 12 #[.val (.int p0), .val .null, .val (.ref b_15), .val (.int (3 : Int32)), .val (.int (2 : Int32)), .val (.ref a_MAP)] []))
  refine Ends.step (fun _ k => XS.iload X20.here hx rfl (hb hby d1_12) rfl k) ?_
  show Ends p e below QQ (T20.setTop (mkF m 14 #[.val (.int p0), .val .null, .val (.ref b_15), .val (.int (3 : Int32)), .val (.int (2 : Int32)), .val (.ref a_MAP)] [(.int (2 : Int32))]))
  refine Ends.step (fun _ k => XS.iloadN X20.here hx rfl (hb hby d1_14) rfl k) ?_
  show Ends p e below QQ (T20.setTop (mkF m 15 #[.val (.int p0), .val .null, .val (.ref b_15), .val (.int (3 : Int32)), .val (.int (2 : Int32)), .val (.ref a_MAP)] [(.int (3 : Int32)), (.int (2 : Int32))]))
  refine Ends.step (fun _ k => XS.icmpNo X20.here hx rfl (hb hby d1_15) rfl (XT.ii_ge_f (by decide)) k) ?_
  show Ends p e below QQ (T20.setTop (mkF m 18 #[.val (.int p0), .val .null, .val (.ref b_15), .val (.int (3 : Int32)), .val (.int (2 : Int32)), .val (.ref a_MAP)] []))
  refine Ends.step (fun _ k => XS.aloadN X20.here hx rfl (hb hby d1_18) rfl rfl k) ?_
  show Ends p e below QQ (T20.setTop (mkF m 19 #[.val (.int p0), .val .null, .val (.ref b_15), .val (.int (3 : Int32)), .val (.int (2 : Int32)), .val (.ref a_MAP)] [(.ref b_15)]))
  refine Ends.step (fun _ k => XS.iload X20.here hx rfl (hb hby d1_19) rfl k) ?_
  show Ends p e below QQ (T20.setTop (mkF m 21 #[.val (.int p0), .val .null, .val (.ref b_15), .val (.int (3 : Int32)), .val (.int (2 : Int32)), .val (.ref a_MAP)] [(.int (2 : Int32)), (.ref b_15)]))
  obtain ⟨cl21, Ar21, q21, S21, P21, H21, G21⟩ := id A_b_15
  have hin21 : ¬ ((2 : Int32) < 0 ∨ cl21.slots.size ≤ ((2 : Int32)).toNatClampNeg) := inb_of S21 ⟨by decide, by decide⟩
  have hat21 : cl21.slots[((2 : Int32)).toNatClampNeg]? = some (.ref a_SET) := H21.at hin21 (rfl)
  refine Ends.step (fun _ k => X20.aaload hx (j := (2 : Int32)) (v := (.ref a_SET)) (by rw [e20]; exact Ar21.1) (State.isArrayOf_alike hZ.alike Ar21.2.1) rfl Ar21.2.2 hin21 hat21 (g := (mkF m 21 #[.val (.int p0), .val .null, .val (.ref b_15), .val (.int (3 : Int32)), .val (.int (2 : Int32)), .val (.ref a_MAP)] [(.int (2 : Int32)), (.ref b_15)])) rfl rfl (hb hby d1_21) _ k) ?_
  show Ends p e below QQ (T20.setTop (mkF m 22 #[.val (.int p0), .val .null, .val (.ref b_15), .val (.int (3 : Int32)), .val (.int (2 : Int32)), .val (.ref a_MAP)] [(.ref a_SET)]))
  refine Ends.step (fun _ k => XS.astore X20.here hx rfl (hb hby d1_22) rfl rfl (l' := #[.val (.int p0), .val .null, .val (.ref b_15), .val (.int (3 : Int32)), .val (.int (2 : Int32)), .val (.ref a_SET)]) rfl k) ?_
  show Ends p e below QQ (T20.setTop (mkF m 24 #[.val (.int p0), .val .null, .val (.ref b_15), .val (.int (3 : Int32)), .val (.int (2 : Int32)), .val (.ref a_SET)] []))
  refine Ends.step (fun _ k => XS.aload X20.here hx rfl (hb hby d1_24) rfl rfl k) ?_
  show Ends p e below QQ (T20.setTop (mkF m 26 #[.val (.int p0), .val .null, .val (.ref b_15), .val (.int (3 : Int32)), .val (.int (2 : Int32)), .val (.ref a_SET)] [(.ref a_SET)]))
  obtain ⟨T22, X22, e22, st22⟩ := getF X20 hx hZ hown (host := "") (Or.inl (hw _ (List.mem_of_getElem? (i := 23) rfl))) Via.refl e20 F_protocolId_a_SET (g := (mkF m 26 #[.val (.int p0), .val .null, .val (.ref b_15), .val (.int (3 : Int32)), .val (.int (2 : Int32)), .val (.ref a_SET)] [(.ref a_SET)])) rfl rfl (hb hby d1_26)
  refine Ends.step st22 ?_
  show Ends p e below QQ (T22.setTop (mkF m 29 #[.val (.int p0), .val .null, .val (.ref b_15), .val (.int (3 : Int32)), .val (.int (2 : Int32)), .val (.ref a_SET)] [(.int (34 : Int32))]))
  refine Ends.step (fun _ k => XS.iloadN X22.here hx rfl (hb hby d1_29) rfl k) ?_
  show Ends p e below QQ (T22.setTop (mkF m 30 #[.val (.int p0), .val .null, .val (.ref b_15), .val (.int (3 : Int32)), .val (.int (2 : Int32)), .val (.ref a_SET)] [(.int p0), (.int (34 : Int32))]))
  have hc30 : (34 : Int32) = p0 := hk.symm
  refine Ends.step (fun _ k => XS.icmpNo X22.here hx rfl (hb hby d1_30) rfl (XT.ii_ne_f hc30) k) ?_
  show Ends p e below QQ (T22.setTop (mkF m 33 #[.val (.int p0), .val .null, .val (.ref b_15), .val (.int (3 : Int32)), .val (.int (2 : Int32)), .val (.ref a_SET)] []))
  refine Ends.step (fun _ k => XS.aload X22.here hx rfl (hb hby d1_33) rfl rfl k) ?_
  show Ends p e below QQ (T22.setTop (mkF m 35 #[.val (.int p0), .val .null, .val (.ref b_15), .val (.int (3 : Int32)), .val (.int (2 : Int32)), .val (.ref a_SET)] [(.ref a_SET)]))
  refine Ends.step (fun _ k => XS.astoreN X22.here hx rfl (hb hby d1_35) rfl rfl (l' := #[.val (.int p0), .val (.ref a_SET), .val (.ref b_15), .val (.int (3 : Int32)), .val (.int (2 : Int32)), .val (.ref a_SET)]) rfl k) ?_
  show Ends p e below QQ (T22.setTop (mkF m 36 #[.val (.int p0), .val (.ref a_SET), .val (.ref b_15), .val (.int (3 : Int32)), .val (.int (2 : Int32)), .val (.ref a_SET)] []))
  refine Ends.step (fun _ k => XS.goto X22.here hx rfl (pc0 := 36) (pc' := 45) rfl (hb hby d1_36) (by decide) (by decide) k) ?_
  show Ends p e below QQ (T22.setTop (mkF m 45 #[.val (.int p0), .val (.ref a_SET), .val (.ref b_15), .val (.int (3 : Int32)), .val (.int (2 : Int32)), .val (.ref a_SET)] []))
  refine Ends.step (fun _ k => XS.aloadN X22.here hx rfl (hb hby d1_45) rfl rfl k) ?_
  show Ends p e below QQ (T22.setTop (mkF m 46 #[.val (.int p0), .val (.ref a_SET), .val (.ref b_15), .val (.int (3 : Int32)), .val (.int (2 : Int32)), .val (.ref a_SET)] [(.ref a_SET)]))
  exact Ends.fin (some (.ref a_SET)) X22 hQQ (fun h => by rw [Bd.returns] at h; cases h) Bd.notSynchronized (fun _ hr => retOut X22 hx (t := (.object "com/example/nuntius/nuntius/schema/CollectionType$Kind")) Bd.returns rfl (Or.inr (Or.inr (Or.inr (Or.inr ⟨rfl, rfl, rfl⟩)))) (hb hby d1_46) hr) e22 (by decide) (by decide) ⟨rfl, N15, K15⟩
theorem ef_1d (m : MethodId) (x0 : Int32) : entryFrame m #[(.int x0)] 6 = mkF m 0 #[.val (.int x0), .unset, .unset, .unset, .unset, .unset] [] := by first | (simp [entryFrame, mkF, argsToLocals, Value.category]; done) | rfl
def Q1d (Z : State) (p0 : Int32) (a_VALUES : Addr) (a_LIST : Addr) (a_MAP : Addr) (a_SET : Addr) (k_a_VALUES : ClassId) (h0 : Heap) (n0 : Nat) (v : Option Value) (h : Heap) (L : List Loc) : Prop := (v = some .null) ∧ (Fr n0 L) ∧ (Keep h0 h [])
set_option maxRecDepth 65536 in
set_option maxHeartbeats 40000000 in
theorem rm1d (l : Launch) (Z : State) (a0 : Array Value) (hw : ∀ d ∈ tables_1, d.before a0 Z = true) (ws : List Jvm.Cond) (p0 : Int32) (a_VALUES : Addr) (a_LIST : Addr) (a_MAP : Addr) (a_SET : Addr) (k_a_VALUES : ClassId) (h0 : Heap) (n0 : Nat) (Z0 : n0 ≤ h0.size) (E_a_VALUES : Exa Z h0 a_VALUES "[Lcom/example/nuntius/nuntius/schema/CollectionType$Kind;") (E_a_LIST : Exa Z h0 a_LIST "com/example/nuntius/nuntius/schema/CollectionType$Kind") (E_a_MAP : Exa Z h0 a_MAP "com/example/nuntius/nuntius/schema/CollectionType$Kind") (E_a_SET : Exa Z h0 a_SET "com/example/nuntius/nuntius/schema/CollectionType$Kind") (F_protocolId_a_LIST : Fld Z h0 a_LIST "com/example/nuntius/nuntius/schema/CollectionType$Kind" "protocolId" "I" (.int (32 : Int32))) (F_protocolId_a_MAP : Fld Z h0 a_MAP "com/example/nuntius/nuntius/schema/CollectionType$Kind" "protocolId" "I" (.int (33 : Int32))) (F_protocolId_a_SET : Fld Z h0 a_SET "com/example/nuntius/nuntius/schema/CollectionType$Kind" "protocolId" "I" (.int (34 : Int32))) (A_a_VALUES : Arv Z h0 a_VALUES k_a_VALUES (.object "com/example/nuntius/nuntius/schema/CollectionType$Kind") (3 : Int32) [(.ref a_LIST), (.ref a_MAP), (.ref a_SET)] .null) (S__VALUES : Sta Z h0 "com/example/nuntius/nuntius/schema/CollectionType$Kind" "$VALUES" "[Lcom/example/nuntius/nuntius/schema/CollectionType$Kind;" (.ref a_VALUES)) (S_LIST : Sta Z h0 "com/example/nuntius/nuntius/schema/CollectionType$Kind" "LIST" "Lcom/example/nuntius/nuntius/schema/CollectionType$Kind;" (.ref a_LIST)) (S_MAP : Sta Z h0 "com/example/nuntius/nuntius/schema/CollectionType$Kind" "MAP" "Lcom/example/nuntius/nuntius/schema/CollectionType$Kind;" (.ref a_MAP)) (S_SET : Sta Z h0 "com/example/nuntius/nuntius/schema/CollectionType$Kind" "SET" "Lcom/example/nuntius/nuntius/schema/CollectionType$Kind;" (.ref a_SET)) (h32 : ¬ p0 = (32 : Int32)) (h33 : ¬ p0 = (33 : Int32)) (h34 : ¬ p0 = (34 : Int32)) :
    MetFree l (⟨"com/example/nuntius/nuntius/schema/CollectionType$Kind", "ofProtocolId", "(I)Lcom/example/nuntius/nuntius/schema/CollectionType$Kind;"⟩ : MethodName) (head1 (Jvm.Cond.code (⟨"com/example/nuntius/nuntius/schema/CollectionType$Kind", "ofProtocolId", "(I)Lcom/example/nuntius/nuntius/schema/CollectionType$Kind;"⟩ : MethodName) prog_48_method_5_code 6 (some (.object "com/example/nuntius/nuntius/schema/CollectionType$Kind")) :: ws) ({ frames := 2, cells := 1, slots := 3, locals := 25 } : Room)) (fun a U => a = #[(.int p0)] ∧ Z.Warmed39 U.vm ∧ U.heap = h0) (fun _ _ _ _ _ => True) (fun _ U o U' => ∃ v L, o = .returned v ∧ Q1d Z p0 a_VALUES a_LIST a_MAP a_SET k_a_VALUES h0 n0 v U'.heap L ∧ FrameEnd U o U' L ({ frames := 2, cells := 1, slots := 3, locals := 25 } : Room).cells ({ frames := 2, cells := 1, slots := 3, locals := 25 } : Room).slots) := by
  refine MetFree.of_bodySF (plainFor_of_name pn_0) hisR ?_
  intro p e s m args below meth c s₁ Bd hml0 hP hK
  obtain ⟨rfl, hZ, hh⟩ := hP
  have hx := Bd.exec
  have hby := Bd.bytes
  have hml : c.maxLocals = 6 := hml0
  have hown : s.vm.findClass "com/example/nuntius/nuntius/schema/CollectionType$Kind" = some m.cls := findClass_of_methodNamed Bd.named
  have hnm := (name_of_methodNamed Bd.named Bd.method).1
  have X0 : Stand p l e ({ frames := 2, cells := 1, slots := 3, locals := 25 } : Room) s m #[(.int p0)] below meth c s₁ [] 0 0 := Stand.of_body Bd
  have e0 : s₁.heap = h0 := by rw [← hh, Bd.state]; rfl
  have N0 := Fr.nil n0
  refine Ends.opn ?_
  intro QQ hQQ
  refine Ends.step (S' := s₁.setTop (mkF m 0 #[.val (.int p0), .unset, .unset, .unset, .unset, .unset] [])) (fun t k => castTop (ef_1d m p0) k) ?_
  show Ends p e below QQ (s₁.setTop (mkF m 0 #[.val (.int p0), .unset, .unset, .unset, .unset, .unset] []))
  refine Ends.step (fun _ k => XS.aconstNull X0.here hx rfl (hb hby d1_0) k) ?_
  show Ends p e below QQ (s₁.setTop (mkF m 1 #[.val (.int p0), .unset, .unset, .unset, .unset, .unset] [.null]))
  refine Ends.step (fun _ k => XS.astoreN X0.here hx rfl (hb hby d1_1) rfl rfl (l' := #[.val (.int p0), .val .null, .unset, .unset, .unset, .unset]) rfl k) ?_
  show Ends p e below QQ (s₁.setTop (mkF m 2 #[.val (.int p0), .val .null, .unset, .unset, .unset, .unset] []))
  obtain ⟨_, _, ⟨T23, L23, k23, n23⟩, -, X23, ⟨Lc23, hQ23, l23, y23, z23⟩, st23⟩ := Jvm.LawKit.callS X0 hx (y := (⟨"com/example/nuntius/nuntius/schema/CollectionType$Kind", "values", "()[Lcom/example/nuntius/nuntius/schema/CollectionType$Kind;"⟩ : MethodName)) hown (mvT hZ (hw _ (List.mem_of_getElem? (i := 5) rfl))) (mvT hZ (hw _ (List.mem_of_getElem? (i := 6) rfl))) (mvT hZ (hw _ (List.mem_of_getElem? (i := 3) rfl))) (mvT hZ (hw _ (List.mem_of_getElem? (i := 7) rfl))) (by decide) (backOf (W := 0) (rm2 l Z a0 hw [] a_VALUES a_LIST a_MAP a_SET k_a_VALUES h0 n0 (Nat.le_trans Z0 (Keep.refl h0 []).1) E_a_VALUES E_a_LIST E_a_MAP E_a_SET F_protocolId_a_LIST F_protocolId_a_MAP F_protocolId_a_SET A_a_VALUES S__VALUES S_LIST S_MAP S_SET) hZ (hw _ (List.mem_of_getElem? (i := 7) rfl)) (hw _ (List.mem_of_getElem? (i := 3) rfl)) (by decide) (by decide)) (g := (mkF m 2 #[.val (.int p0), .val .null, .unset, .unset, .unset, .unset] [])) rfl (by rw [hml]; rfl) (argsL := []) (rest := []) (lenOf pd_0 rfl) rfl (by show 2 * 0 + _ ≤ _; exact Nat.le_of_eq rfl) (hb hby d1_2) (fun _ _ => ⟨rfl, e0, (by decide : 0 + 1 ≤ _), (by decide : 0 + 3 ≤ _)⟩)
  dsimp only [Pt.U, Pt.locs, Pt.cells, Pt.slots] at X23 l23 y23 z23 st23 hQ23
  subst l23 y23 z23
  obtain ⟨b_23, rfl, Nq23, Kq23, fq23_0, fq23_1, fq23_2, fq23_3⟩ := hQ23
  have N23 := Fr.app N0 Nq23
  have ne_a_VALUES_b_23 : a_VALUES ≠ b_23 := Nat.ne_of_lt (Nat.lt_of_lt_of_le E_a_VALUES.lt fq23_0)
  have ne_a_LIST_b_23 : a_LIST ≠ b_23 := Nat.ne_of_lt (Nat.lt_of_lt_of_le E_a_LIST.lt fq23_0)
  have ne_a_MAP_b_23 : a_MAP ≠ b_23 := Nat.ne_of_lt (Nat.lt_of_lt_of_le E_a_MAP.lt fq23_0)
  have ne_a_SET_b_23 : a_SET ≠ b_23 := Nat.ne_of_lt (Nat.lt_of_lt_of_le E_a_SET.lt fq23_0)
  have sz_b_23 := Nat.le_trans (Keep.refl h0 []).1 fq23_0
  have S__VALUES := own_sta_keep S__VALUES Kq23 all0
  have S_LIST := own_sta_keep S_LIST Kq23 all0
  have S_MAP := own_sta_keep S_MAP Kq23 all0
  have S_SET := own_sta_keep S_SET Kq23 all0
  have E_a_VALUES := E_a_VALUES.keep Kq23
  have E_a_LIST := E_a_LIST.keep Kq23
  have E_a_MAP := E_a_MAP.keep Kq23
  have E_a_SET := E_a_SET.keep Kq23
  have F_protocolId_a_LIST := F_protocolId_a_LIST.keep Kq23 nin0
  have F_protocolId_a_MAP := F_protocolId_a_MAP.keep Kq23 nin0
  have F_protocolId_a_SET := F_protocolId_a_SET.keep Kq23 nin0
  have A_a_VALUES := A_a_VALUES.keep Kq23 nin0
  have g_b_23 := fq23_1
  have E_b_23 := fq23_2
  have A_b_23 := fq23_3
  have K23 := (Keep.refl h0 []).trans Kq23 all0
  refine Ends.step st23 ?_
  show Ends p e below QQ (T23.setTop (mkF m 5 #[.val (.int p0), .val .null, .unset, .unset, .unset, .unset] [(.ref b_23)]))
  refine Ends.step (fun _ k => XS.astoreN X23.here hx rfl (hb hby d1_5) rfl rfl (l' := #[.val (.int p0), .val .null, .val (.ref b_23), .unset, .unset, .unset]) rfl k) ?_
  show Ends p e below QQ (T23.setTop (mkF m 6 #[.val (.int p0), .val .null, .val (.ref b_23), .unset, .unset, .unset] []))
  refine Ends.step (fun _ k => XS.aloadN X23.here hx rfl (hb hby d1_6) rfl rfl k) ?_
  show Ends p e below QQ (T23.setTop (mkF m 7 #[.val (.int p0), .val .null, .val (.ref b_23), .unset, .unset, .unset] [(.ref b_23)]))
  obtain ⟨cl24, Ar24, -, S24, P24, -, -⟩ := id A_b_23
  refine Ends.step (S' := T23.setTop (mkF m 8 #[.val (.int p0), .val .null, .val (.ref b_23), .unset, .unset, .unset] [(.int (3 : Int32))])) (fun _ k => X23.arraylength hx Ar24.1 (State.isArrayOf_alike hZ.alike Ar24.2.1) (g := (mkF m 7 #[.val (.int p0), .val .null, .val (.ref b_23), .unset, .unset, .unset] [(.ref b_23)])) rfl rfl (hb hby d1_7) _ (by rw [len_of S24 P24]; exact k)) ?_
  show Ends p e below QQ (T23.setTop (mkF m 8 #[.val (.int p0), .val .null, .val (.ref b_23), .unset, .unset, .unset] [(.int (3 : Int32))]))
  refine Ends.step (fun _ k => XS.istoreN X23.here hx rfl (hb hby d1_8) rfl (l' := #[.val (.int p0), .val .null, .val (.ref b_23), .val (.int (3 : Int32)), .unset, .unset]) rfl k) ?_
  show Ends p e below QQ (T23.setTop (mkF m 9 #[.val (.int p0), .val .null, .val (.ref b_23), .val (.int (3 : Int32)), .unset, .unset] []))
  refine Ends.step (fun _ k => XT.iconstV X23.here hx rfl (0 : Int32) (hb hby d1_9) rfl k) ?_
  show Ends p e below QQ (T23.setTop (mkF m 10 #[.val (.int p0), .val .null, .val (.ref b_23), .val (.int (3 : Int32)), .unset, .unset] [(.int (0 : Int32))]))
  refine Ends.step (fun _ k => XS.istore X23.here hx rfl (hb hby d1_10) rfl (l' := #[.val (.int p0), .val .null, .val (.ref b_23), .val (.int (3 : Int32)), .val (.int (0 : Int32)), .unset]) rfl k) ?_
  show Ends p e below QQ (T23.setTop (mkF m 12 #[.val (.int p0), .val .null, .val (.ref b_23), .val (.int (3 : Int32)), .val (.int (0 : Int32)), .unset] []))
  refine Ends.step (fun _ k => XS.iload X23.here hx rfl (hb hby d1_12) rfl k) ?_
  show Ends p e below QQ (T23.setTop (mkF m 14 #[.val (.int p0), .val .null, .val (.ref b_23), .val (.int (3 : Int32)), .val (.int (0 : Int32)), .unset] [(.int (0 : Int32))]))
  refine Ends.step (fun _ k => XS.iloadN X23.here hx rfl (hb hby d1_14) rfl k) ?_
  show Ends p e below QQ (T23.setTop (mkF m 15 #[.val (.int p0), .val .null, .val (.ref b_23), .val (.int (3 : Int32)), .val (.int (0 : Int32)), .unset] [(.int (3 : Int32)), (.int (0 : Int32))]))
  refine Ends.step (fun _ k => XS.icmpNo X23.here hx rfl (hb hby d1_15) rfl (XT.ii_ge_f (by decide)) k) ?_
  show Ends p e below QQ (T23.setTop (mkF m 18 #[.val (.int p0), .val .null, .val (.ref b_23), .val (.int (3 : Int32)), .val (.int (0 : Int32)), .unset] []))
  refine Ends.step (fun _ k => XS.aloadN X23.here hx rfl (hb hby d1_18) rfl rfl k) ?_
  show Ends p e below QQ (T23.setTop (mkF m 19 #[.val (.int p0), .val .null, .val (.ref b_23), .val (.int (3 : Int32)), .val (.int (0 : Int32)), .unset] [(.ref b_23)]))
  refine Ends.step (fun _ k => XS.iload X23.here hx rfl (hb hby d1_19) rfl k) ?_
  show Ends p e below QQ (T23.setTop (mkF m 21 #[.val (.int p0), .val .null, .val (.ref b_23), .val (.int (3 : Int32)), .val (.int (0 : Int32)), .unset] [(.int (0 : Int32)), (.ref b_23)]))
  obtain ⟨cl25, Ar25, q25, S25, P25, H25, G25⟩ := id A_b_23
  have hin25 : ¬ ((0 : Int32) < 0 ∨ cl25.slots.size ≤ ((0 : Int32)).toNatClampNeg) := inb_of S25 ⟨by decide, by decide⟩
  have hat25 : cl25.slots[((0 : Int32)).toNatClampNeg]? = some (.ref a_LIST) := H25.at hin25 (rfl)
  refine Ends.step (fun _ k => X23.aaload hx (j := (0 : Int32)) (v := (.ref a_LIST)) Ar25.1 (State.isArrayOf_alike hZ.alike Ar25.2.1) rfl Ar25.2.2 hin25 hat25 (g := (mkF m 21 #[.val (.int p0), .val .null, .val (.ref b_23), .val (.int (3 : Int32)), .val (.int (0 : Int32)), .unset] [(.int (0 : Int32)), (.ref b_23)])) rfl rfl (hb hby d1_21) _ k) ?_
  show Ends p e below QQ (T23.setTop (mkF m 22 #[.val (.int p0), .val .null, .val (.ref b_23), .val (.int (3 : Int32)), .val (.int (0 : Int32)), .unset] [(.ref a_LIST)]))
  refine Ends.step (fun _ k => XS.astore X23.here hx rfl (hb hby d1_22) rfl rfl (l' := #[.val (.int p0), .val .null, .val (.ref b_23), .val (.int (3 : Int32)), .val (.int (0 : Int32)), .val (.ref a_LIST)]) rfl k) ?_
  show Ends p e below QQ (T23.setTop (mkF m 24 #[.val (.int p0), .val .null, .val (.ref b_23), .val (.int (3 : Int32)), .val (.int (0 : Int32)), .val (.ref a_LIST)] []))
  refine Ends.step (fun _ k => XS.aload X23.here hx rfl (hb hby d1_24) rfl rfl k) ?_
  show Ends p e below QQ (T23.setTop (mkF m 26 #[.val (.int p0), .val .null, .val (.ref b_23), .val (.int (3 : Int32)), .val (.int (0 : Int32)), .val (.ref a_LIST)] [(.ref a_LIST)]))
  obtain ⟨T26, X26, e26, st26⟩ := getF X23 hx hZ hown (host := "") (Or.inl (hw _ (List.mem_of_getElem? (i := 23) rfl))) Via.refl rfl F_protocolId_a_LIST (g := (mkF m 26 #[.val (.int p0), .val .null, .val (.ref b_23), .val (.int (3 : Int32)), .val (.int (0 : Int32)), .val (.ref a_LIST)] [(.ref a_LIST)])) rfl rfl (hb hby d1_26)
  refine Ends.step st26 ?_
  show Ends p e below QQ (T26.setTop (mkF m 29 #[.val (.int p0), .val .null, .val (.ref b_23), .val (.int (3 : Int32)), .val (.int (0 : Int32)), .val (.ref a_LIST)] [(.int (32 : Int32))]))
  refine Ends.step (fun _ k => XS.iloadN X26.here hx rfl (hb hby d1_29) rfl k) ?_
  show Ends p e below QQ (T26.setTop (mkF m 30 #[.val (.int p0), .val .null, .val (.ref b_23), .val (.int (3 : Int32)), .val (.int (0 : Int32)), .val (.ref a_LIST)] [(.int p0), (.int (32 : Int32))]))
  have hc30 : ¬ ((32 : Int32) = p0) := (fun q => h32 q.symm)
  refine Ends.step (fun _ k => XS.icmpYes X26.here hx rfl (pc0 := 30) (pc' := 39) rfl (hb hby d1_30) rfl (XT.ii_ne_t hc30) (by decide) (by decide) k) ?_
  show Ends p e below QQ (T26.setTop (mkF m 39 #[.val (.int p0), .val .null, .val (.ref b_23), .val (.int (3 : Int32)), .val (.int (0 : Int32)), .val (.ref a_LIST)] []))
  refine Ends.step (fun _ k => XT.iincV X26.here hx rfl (1 : Int32) (hb hby d1_39) rfl rfl (l' := #[.val (.int p0), .val .null, .val (.ref b_23), .val (.int (3 : Int32)), .val (.int (1 : Int32)), .val (.ref a_LIST)]) rfl k) ?_
  show Ends p e below QQ (T26.setTop (mkF m 42 #[.val (.int p0), .val .null, .val (.ref b_23), .val (.int (3 : Int32)), .val (.int (1 : Int32)), .val (.ref a_LIST)] []))
  refine Ends.step (fun _ k => XS.goto X26.here hx rfl (pc0 := 42) (pc' := 12) rfl (hb hby d1_42) (by decide) (by decide) k) ?_
  show Ends p e below QQ (T26.setTop (mkF m 12 #[.val (.int p0), .val .null, .val (.ref b_23), .val (.int (3 : Int32)), .val (.int (1 : Int32)), .val (.ref a_LIST)] []))
  refine Ends.step (fun _ k => XS.iload X26.here hx rfl (hb hby d1_12) rfl k) ?_
  show Ends p e below QQ (T26.setTop (mkF m 14 #[.val (.int p0), .val .null, .val (.ref b_23), .val (.int (3 : Int32)), .val (.int (1 : Int32)), .val (.ref a_LIST)] [(.int (1 : Int32))]))
  refine Ends.step (fun _ k => XS.iloadN X26.here hx rfl (hb hby d1_14) rfl k) ?_
  show Ends p e below QQ (T26.setTop (mkF m 15 #[.val (.int p0), .val .null, .val (.ref b_23), .val (.int (3 : Int32)), .val (.int (1 : Int32)), .val (.ref a_LIST)] [(.int (3 : Int32)), (.int (1 : Int32))]))
  refine Ends.step (fun _ k => XS.icmpNo X26.here hx rfl (hb hby d1_15) rfl (XT.ii_ge_f (by decide)) k) ?_
  show Ends p e below QQ (T26.setTop (mkF m 18 #[.val (.int p0), .val .null, .val (.ref b_23), .val (.int (3 : Int32)), .val (.int (1 : Int32)), .val (.ref a_LIST)] []))
  refine Ends.step (fun _ k => XS.aloadN X26.here hx rfl (hb hby d1_18) rfl rfl k) ?_
  show Ends p e below QQ (T26.setTop (mkF m 19 #[.val (.int p0), .val .null, .val (.ref b_23), .val (.int (3 : Int32)), .val (.int (1 : Int32)), .val (.ref a_LIST)] [(.ref b_23)]))
  refine Ends.step (fun _ k => XS.iload X26.here hx rfl (hb hby d1_19) rfl k) ?_
  show Ends p e below QQ (T26.setTop (mkF m 21 #[.val (.int p0), .val .null, .val (.ref b_23), .val (.int (3 : Int32)), .val (.int (1 : Int32)), .val (.ref a_LIST)] [(.int (1 : Int32)), (.ref b_23)]))
  obtain ⟨cl27, Ar27, q27, S27, P27, H27, G27⟩ := id A_b_23
  have hin27 : ¬ ((1 : Int32) < 0 ∨ cl27.slots.size ≤ ((1 : Int32)).toNatClampNeg) := inb_of S27 ⟨by decide, by decide⟩
  have hat27 : cl27.slots[((1 : Int32)).toNatClampNeg]? = some (.ref a_MAP) := H27.at hin27 (rfl)
  refine Ends.step (fun _ k => X26.aaload hx (j := (1 : Int32)) (v := (.ref a_MAP)) (by rw [e26]; exact Ar27.1) (State.isArrayOf_alike hZ.alike Ar27.2.1) rfl Ar27.2.2 hin27 hat27 (g := (mkF m 21 #[.val (.int p0), .val .null, .val (.ref b_23), .val (.int (3 : Int32)), .val (.int (1 : Int32)), .val (.ref a_LIST)] [(.int (1 : Int32)), (.ref b_23)])) rfl rfl (hb hby d1_21) _ k) ?_
  show Ends p e below QQ (T26.setTop (mkF m 22 #[.val (.int p0), .val .null, .val (.ref b_23), .val (.int (3 : Int32)), .val (.int (1 : Int32)), .val (.ref a_LIST)] [(.ref a_MAP)]))
  refine Ends.step (fun _ k => XS.astore X26.here hx rfl (hb hby d1_22) rfl rfl (l' := #[.val (.int p0), .val .null, .val (.ref b_23), .val (.int (3 : Int32)), .val (.int (1 : Int32)), .val (.ref a_MAP)]) rfl k) ?_
  show Ends p e below QQ (T26.setTop (mkF m 24 #[.val (.int p0), .val .null, .val (.ref b_23), .val (.int (3 : Int32)), .val (.int (1 : Int32)), .val (.ref a_MAP)] []))
  refine Ends.step (fun _ k => XS.aload X26.here hx rfl (hb hby d1_24) rfl rfl k) ?_
  show Ends p e below QQ (T26.setTop (mkF m 26 #[.val (.int p0), .val .null, .val (.ref b_23), .val (.int (3 : Int32)), .val (.int (1 : Int32)), .val (.ref a_MAP)] [(.ref a_MAP)]))
  obtain ⟨T28, X28, e28, st28⟩ := getF X26 hx hZ hown (host := "") (Or.inl (hw _ (List.mem_of_getElem? (i := 23) rfl))) Via.refl e26 F_protocolId_a_MAP (g := (mkF m 26 #[.val (.int p0), .val .null, .val (.ref b_23), .val (.int (3 : Int32)), .val (.int (1 : Int32)), .val (.ref a_MAP)] [(.ref a_MAP)])) rfl rfl (hb hby d1_26)
  refine Ends.step st28 ?_
  show Ends p e below QQ (T28.setTop (mkF m 29 #[.val (.int p0), .val .null, .val (.ref b_23), .val (.int (3 : Int32)), .val (.int (1 : Int32)), .val (.ref a_MAP)] [(.int (33 : Int32))]))
  refine Ends.step (fun _ k => XS.iloadN X28.here hx rfl (hb hby d1_29) rfl k) ?_
  show Ends p e below QQ (T28.setTop (mkF m 30 #[.val (.int p0), .val .null, .val (.ref b_23), .val (.int (3 : Int32)), .val (.int (1 : Int32)), .val (.ref a_MAP)] [(.int p0), (.int (33 : Int32))]))
  have hc30 : ¬ ((33 : Int32) = p0) := (fun q => h33 q.symm)
  refine Ends.step (fun _ k => XS.icmpYes X28.here hx rfl (pc0 := 30) (pc' := 39) rfl (hb hby d1_30) rfl (XT.ii_ne_t hc30) (by decide) (by decide) k) ?_
  show Ends p e below QQ (T28.setTop (mkF m 39 #[.val (.int p0), .val .null, .val (.ref b_23), .val (.int (3 : Int32)), .val (.int (1 : Int32)), .val (.ref a_MAP)] []))
  refine Ends.step (fun _ k => XT.iincV X28.here hx rfl (1 : Int32) (hb hby d1_39) rfl rfl (l' := #[.val (.int p0), .val .null, .val (.ref b_23), .val (.int (3 : Int32)), .val (.int (2 : Int32)), .val (.ref a_MAP)]) rfl k) ?_
  show Ends p e below QQ (T28.setTop (mkF m 42 #[.val (.int p0), .val .null, .val (.ref b_23), .val (.int (3 : Int32)), .val (.int (2 : Int32)), .val (.ref a_MAP)] []))
  refine Ends.step (fun _ k => XS.goto X28.here hx rfl (pc0 := 42) (pc' := 12) rfl (hb hby d1_42) (by decide) (by decide) k) ?_
  show Ends p e below QQ (T28.setTop (mkF m 12 #[.val (.int p0), .val .null, .val (.ref b_23), .val (.int (3 : Int32)), .val (.int (2 : Int32)), .val (.ref a_MAP)] []))
  refine Ends.step (fun _ k => XS.iload X28.here hx rfl (hb hby d1_12) rfl k) ?_
  show Ends p e below QQ (T28.setTop (mkF m 14 #[.val (.int p0), .val .null, .val (.ref b_23), .val (.int (3 : Int32)), .val (.int (2 : Int32)), .val (.ref a_MAP)] [(.int (2 : Int32))]))
  refine Ends.step (fun _ k => XS.iloadN X28.here hx rfl (hb hby d1_14) rfl k) ?_
  show Ends p e below QQ (T28.setTop (mkF m 15 #[.val (.int p0), .val .null, .val (.ref b_23), .val (.int (3 : Int32)), .val (.int (2 : Int32)), .val (.ref a_MAP)] [(.int (3 : Int32)), (.int (2 : Int32))]))
  refine Ends.step (fun _ k => XS.icmpNo X28.here hx rfl (hb hby d1_15) rfl (XT.ii_ge_f (by decide)) k) ?_
  show Ends p e below QQ (T28.setTop (mkF m 18 #[.val (.int p0), .val .null, .val (.ref b_23), .val (.int (3 : Int32)), .val (.int (2 : Int32)), .val (.ref a_MAP)] []))
  refine Ends.step (fun _ k => XS.aloadN X28.here hx rfl (hb hby d1_18) rfl rfl k) ?_
  show Ends p e below QQ (T28.setTop (mkF m 19 #[.val (.int p0), .val .null, .val (.ref b_23), .val (.int (3 : Int32)), .val (.int (2 : Int32)), .val (.ref a_MAP)] [(.ref b_23)]))
  refine Ends.step (fun _ k => XS.iload X28.here hx rfl (hb hby d1_19) rfl k) ?_
  show Ends p e below QQ (T28.setTop (mkF m 21 #[.val (.int p0), .val .null, .val (.ref b_23), .val (.int (3 : Int32)), .val (.int (2 : Int32)), .val (.ref a_MAP)] [(.int (2 : Int32)), (.ref b_23)]))
  obtain ⟨cl29, Ar29, q29, S29, P29, H29, G29⟩ := id A_b_23
  have hin29 : ¬ ((2 : Int32) < 0 ∨ cl29.slots.size ≤ ((2 : Int32)).toNatClampNeg) := inb_of S29 ⟨by decide, by decide⟩
  have hat29 : cl29.slots[((2 : Int32)).toNatClampNeg]? = some (.ref a_SET) := H29.at hin29 (rfl)
  refine Ends.step (fun _ k => X28.aaload hx (j := (2 : Int32)) (v := (.ref a_SET)) (by rw [e28]; exact Ar29.1) (State.isArrayOf_alike hZ.alike Ar29.2.1) rfl Ar29.2.2 hin29 hat29 (g := (mkF m 21 #[.val (.int p0), .val .null, .val (.ref b_23), .val (.int (3 : Int32)), .val (.int (2 : Int32)), .val (.ref a_MAP)] [(.int (2 : Int32)), (.ref b_23)])) rfl rfl (hb hby d1_21) _ k) ?_
  show Ends p e below QQ (T28.setTop (mkF m 22 #[.val (.int p0), .val .null, .val (.ref b_23), .val (.int (3 : Int32)), .val (.int (2 : Int32)), .val (.ref a_MAP)] [(.ref a_SET)]))
  refine Ends.step (fun _ k => XS.astore X28.here hx rfl (hb hby d1_22) rfl rfl (l' := #[.val (.int p0), .val .null, .val (.ref b_23), .val (.int (3 : Int32)), .val (.int (2 : Int32)), .val (.ref a_SET)]) rfl k) ?_
  show Ends p e below QQ (T28.setTop (mkF m 24 #[.val (.int p0), .val .null, .val (.ref b_23), .val (.int (3 : Int32)), .val (.int (2 : Int32)), .val (.ref a_SET)] []))
  refine Ends.step (fun _ k => XS.aload X28.here hx rfl (hb hby d1_24) rfl rfl k) ?_
  show Ends p e below QQ (T28.setTop (mkF m 26 #[.val (.int p0), .val .null, .val (.ref b_23), .val (.int (3 : Int32)), .val (.int (2 : Int32)), .val (.ref a_SET)] [(.ref a_SET)]))
  obtain ⟨T30, X30, e30, st30⟩ := getF X28 hx hZ hown (host := "") (Or.inl (hw _ (List.mem_of_getElem? (i := 23) rfl))) Via.refl e28 F_protocolId_a_SET (g := (mkF m 26 #[.val (.int p0), .val .null, .val (.ref b_23), .val (.int (3 : Int32)), .val (.int (2 : Int32)), .val (.ref a_SET)] [(.ref a_SET)])) rfl rfl (hb hby d1_26)
  refine Ends.step st30 ?_
  show Ends p e below QQ (T30.setTop (mkF m 29 #[.val (.int p0), .val .null, .val (.ref b_23), .val (.int (3 : Int32)), .val (.int (2 : Int32)), .val (.ref a_SET)] [(.int (34 : Int32))]))
  refine Ends.step (fun _ k => XS.iloadN X30.here hx rfl (hb hby d1_29) rfl k) ?_
  show Ends p e below QQ (T30.setTop (mkF m 30 #[.val (.int p0), .val .null, .val (.ref b_23), .val (.int (3 : Int32)), .val (.int (2 : Int32)), .val (.ref a_SET)] [(.int p0), (.int (34 : Int32))]))
  have hc30 : ¬ ((34 : Int32) = p0) := (fun q => h34 q.symm)
  refine Ends.step (fun _ k => XS.icmpYes X30.here hx rfl (pc0 := 30) (pc' := 39) rfl (hb hby d1_30) rfl (XT.ii_ne_t hc30) (by decide) (by decide) k) ?_
  show Ends p e below QQ (T30.setTop (mkF m 39 #[.val (.int p0), .val .null, .val (.ref b_23), .val (.int (3 : Int32)), .val (.int (2 : Int32)), .val (.ref a_SET)] []))
  refine Ends.step (fun _ k => XT.iincV X30.here hx rfl (1 : Int32) (hb hby d1_39) rfl rfl (l' := #[.val (.int p0), .val .null, .val (.ref b_23), .val (.int (3 : Int32)), .val (.int (3 : Int32)), .val (.ref a_SET)]) rfl k) ?_
  show Ends p e below QQ (T30.setTop (mkF m 42 #[.val (.int p0), .val .null, .val (.ref b_23), .val (.int (3 : Int32)), .val (.int (3 : Int32)), .val (.ref a_SET)] []))
  refine Ends.step (fun _ k => XS.goto X30.here hx rfl (pc0 := 42) (pc' := 12) rfl (hb hby d1_42) (by decide) (by decide) k) ?_
  show Ends p e below QQ (T30.setTop (mkF m 12 #[.val (.int p0), .val .null, .val (.ref b_23), .val (.int (3 : Int32)), .val (.int (3 : Int32)), .val (.ref a_SET)] []))
  refine Ends.step (fun _ k => XS.iload X30.here hx rfl (hb hby d1_12) rfl k) ?_
  show Ends p e below QQ (T30.setTop (mkF m 14 #[.val (.int p0), .val .null, .val (.ref b_23), .val (.int (3 : Int32)), .val (.int (3 : Int32)), .val (.ref a_SET)] [(.int (3 : Int32))]))
  refine Ends.step (fun _ k => XS.iloadN X30.here hx rfl (hb hby d1_14) rfl k) ?_
  show Ends p e below QQ (T30.setTop (mkF m 15 #[.val (.int p0), .val .null, .val (.ref b_23), .val (.int (3 : Int32)), .val (.int (3 : Int32)), .val (.ref a_SET)] [(.int (3 : Int32)), (.int (3 : Int32))]))
  refine Ends.step (fun _ k => XS.icmpYes X30.here hx rfl (pc0 := 15) (pc' := 45) rfl (hb hby d1_15) rfl (XT.ii_ge_t (by decide)) (by decide) (by decide) k) ?_
  show Ends p e below QQ (T30.setTop (mkF m 45 #[.val (.int p0), .val .null, .val (.ref b_23), .val (.int (3 : Int32)), .val (.int (3 : Int32)), .val (.ref a_SET)] []))
  refine Ends.step (fun _ k => XS.aloadN X30.here hx rfl (hb hby d1_45) rfl rfl k) ?_
  show Ends p e below QQ (T30.setTop (mkF m 46 #[.val (.int p0), .val .null, .val (.ref b_23), .val (.int (3 : Int32)), .val (.int (3 : Int32)), .val (.ref a_SET)] [.null]))
  exact Ends.fin (some .null) X30 hQQ (fun h => by rw [Bd.returns] at h; cases h) Bd.notSynchronized (fun _ hr => retOut X30 hx (t := (.object "com/example/nuntius/nuntius/schema/CollectionType$Kind")) Bd.returns rfl (Or.inr (Or.inr (Or.inr (Or.inr ⟨rfl, rfl, rfl⟩)))) (hb hby d1_46) hr) e30 (by decide) (by decide) ⟨rfl, N23, K23⟩
theorem ef_0 (m : MethodId) (x0 : Int32) (x1 : Int32) : entryFrame m #[(.int x0), (.int x1)] maxLocals = mkF m 0 #[.val (.int x0), .val (.int x1), .unset, .unset, .unset, .unset] [] := by first | (simp [entryFrame, mkF, argsToLocals, Value.category, maxLocals]; done) | rfl
def f0_v11_1 (p0 : Int32) (p1 : Int32) : Int32 := (if (p1 &&& (1 : Int32)) = (0 : Int32) then (0 : Int32) else (1 : Int32))
def f0_v29_2 (p0 : Int32) (p1 : Int32) : Int32 := (if (f0_v11_1 p0 p1) = (0 : Int32) then p0 else ((31 : Int32) + ((p0 &&& (2147483647 : Int32)) % (5 : Int32))))
def f0 (p0 : Int32) (p1 : Int32) : Int32 := (1 : Int32)
def Q0 (Z : State) (p0 : Int32) (p1 : Int32) (a_VALUES : Addr) (a_LIST : Addr) (a_MAP : Addr) (a_SET : Addr) (k_a_VALUES : ClassId) (h0 : Heap) (n0 : Nat) (v : Option Value) (h : Heap) (L : List Loc) : Prop := (v = some (.int (f0 p0 p1))) ∧ (Fr n0 L) ∧ (Keep h0 h [])
set_option maxRecDepth 65536 in
set_option maxHeartbeats 40000000 in
theorem rm0 (l : Launch) (Z : State) (a0 : Array Value) (hw : ∀ d ∈ tables_1, d.before a0 Z = true) (ws : List Jvm.Cond) (p0 : Int32) (p1 : Int32) (a_VALUES : Addr) (a_LIST : Addr) (a_MAP : Addr) (a_SET : Addr) (k_a_VALUES : ClassId) (h0 : Heap) (n0 : Nat) (Z0 : n0 ≤ h0.size) (E_a_VALUES : Exa Z h0 a_VALUES "[Lcom/example/nuntius/nuntius/schema/CollectionType$Kind;") (E_a_LIST : Exa Z h0 a_LIST "com/example/nuntius/nuntius/schema/CollectionType$Kind") (E_a_MAP : Exa Z h0 a_MAP "com/example/nuntius/nuntius/schema/CollectionType$Kind") (E_a_SET : Exa Z h0 a_SET "com/example/nuntius/nuntius/schema/CollectionType$Kind") (F_protocolId_a_LIST : Fld Z h0 a_LIST "com/example/nuntius/nuntius/schema/CollectionType$Kind" "protocolId" "I" (.int (32 : Int32))) (F_protocolId_a_MAP : Fld Z h0 a_MAP "com/example/nuntius/nuntius/schema/CollectionType$Kind" "protocolId" "I" (.int (33 : Int32))) (F_protocolId_a_SET : Fld Z h0 a_SET "com/example/nuntius/nuntius/schema/CollectionType$Kind" "protocolId" "I" (.int (34 : Int32))) (A_a_VALUES : Arv Z h0 a_VALUES k_a_VALUES (.object "com/example/nuntius/nuntius/schema/CollectionType$Kind") (3 : Int32) [(.ref a_LIST), (.ref a_MAP), (.ref a_SET)] .null) (S__VALUES : Sta Z h0 "com/example/nuntius/nuntius/schema/CollectionType$Kind" "$VALUES" "[Lcom/example/nuntius/nuntius/schema/CollectionType$Kind;" (.ref a_VALUES)) (S_LIST : Sta Z h0 "com/example/nuntius/nuntius/schema/CollectionType$Kind" "LIST" "Lcom/example/nuntius/nuntius/schema/CollectionType$Kind;" (.ref a_LIST)) (S_MAP : Sta Z h0 "com/example/nuntius/nuntius/schema/CollectionType$Kind" "MAP" "Lcom/example/nuntius/nuntius/schema/CollectionType$Kind;" (.ref a_MAP)) (S_SET : Sta Z h0 "com/example/nuntius/nuntius/schema/CollectionType$Kind" "SET" "Lcom/example/nuntius/nuntius/schema/CollectionType$Kind;" (.ref a_SET)) :
    MetFree l x (head1 (Jvm.Cond.code x code maxLocals ret :: ws) room_1) (fun a U => a = #[(.int p0), (.int p1)] ∧ Z.Warmed39 U.vm ∧ U.heap = h0) (fun _ _ _ _ _ => True) (fun _ U o U' => ∃ v L, o = .returned v ∧ Q0 Z p0 p1 a_VALUES a_LIST a_MAP a_SET k_a_VALUES h0 n0 v U'.heap L ∧ FrameEnd U o U' L room_1.cells room_1.slots) := by
  refine MetFree.of_bodySF (plainFor_of_name pn_1) hisR ?_
  intro p e s m args below meth c s₁ Bd hml0 hP hK
  obtain ⟨rfl, hZ, hh⟩ := hP
  have hx := Bd.exec
  have hby := Bd.bytes
  have hml : c.maxLocals = 6 := hml0
  have hown : s.vm.findClass "com/example/nuntius/nuntius/schema/KindOfProtocolIdPinLaw" = some m.cls := findClass_of_methodNamed Bd.named
  have hnm := (name_of_methodNamed Bd.named Bd.method).1
  have X0 : Stand p l e room_1 s m #[(.int p0), (.int p1)] below meth c s₁ [] 0 0 := Stand.of_body Bd
  have e0 : s₁.heap = h0 := by rw [← hh, Bd.state]; rfl
  have N0 := Fr.nil n0
  refine Ends.opn ?_
  intro QQ hQQ
  refine Ends.step (S' := s₁.setTop (mkF m 0 #[.val (.int p0), .val (.int p1), .unset, .unset, .unset, .unset] [])) (fun t k => castTop (ef_0 m p0 p1) k) ?_
  show Ends p e below QQ (s₁.setTop (mkF m 0 #[.val (.int p0), .val (.int p1), .unset, .unset, .unset, .unset] []))
  refine Ends.step (fun _ k => XS.iloadN X0.here hx rfl (hb hby at_0) rfl k) ?_
  show Ends p e below QQ (s₁.setTop (mkF m 1 #[.val (.int p0), .val (.int p1), .unset, .unset, .unset, .unset] [(.int p1)]))
  refine Ends.step (fun _ k => XT.iconstV X0.here hx rfl (1 : Int32) (hb hby at_1) rfl k) ?_
  show Ends p e below QQ (s₁.setTop (mkF m 2 #[.val (.int p0), .val (.int p1), .unset, .unset, .unset, .unset] [(.int (1 : Int32)), (.int p1)]))
  refine Ends.step (fun _ k => XS.iand X0.here hx rfl (hb hby at_2) rfl k) ?_
  show Ends p e below QQ (s₁.setTop (mkF m 3 #[.val (.int p0), .val (.int p1), .unset, .unset, .unset, .unset] [(.int (p1 &&& (1 : Int32)))]))
  have J11_31 : (∀ (v11_1 : Int32) (hv11_1 : v11_1 = (if (p1 &&& (1 : Int32)) = (0 : Int32) then (0 : Int32) else (1 : Int32))), Ends p e below QQ (s₁.setTop (mkF m 11 #[.val (.int p0), .val (.int p1), .unset, .unset, .unset, .unset] [(.int v11_1)]))) → Ends p e below QQ (s₁.setTop (mkF m 3 #[.val (.int p0), .val (.int p1), .unset, .unset, .unset, .unset] [(.int (p1 &&& (1 : Int32)))])) := by
    intro hJ
    by_cases hc3_32 : (p1 &&& (1 : Int32)) = (0 : Int32)
    · refine Ends.step (fun _ k => XS.ifYes X0.here hx rfl (pc0 := 3) (pc' := 10) rfl (hb hby at_3) rfl (XT.i0_eq_t hc3_32) (by decide) (by decide) k) ?_
      show Ends p e below QQ (s₁.setTop (mkF m 10 #[.val (.int p0), .val (.int p1), .unset, .unset, .unset, .unset] []))
      refine Ends.step (fun _ k => XT.iconstV X0.here hx rfl (0 : Int32) (hb hby at_10) rfl k) ?_
      exact hJ _ (by simp only [if_pos hc3_32])
    · refine Ends.step (fun _ k => XS.ifNo X0.here hx rfl (hb hby at_3) rfl (XT.i0_eq_f hc3_32) k) ?_
      show Ends p e below QQ (s₁.setTop (mkF m 6 #[.val (.int p0), .val (.int p1), .unset, .unset, .unset, .unset] []))
      refine Ends.step (fun _ k => XT.iconstV X0.here hx rfl (1 : Int32) (hb hby at_6) rfl k) ?_
      show Ends p e below QQ (s₁.setTop (mkF m 7 #[.val (.int p0), .val (.int p1), .unset, .unset, .unset, .unset] [(.int (1 : Int32))]))
      refine Ends.step (fun _ k => XS.goto X0.here hx rfl (pc0 := 7) (pc' := 11) rfl (hb hby at_7) (by decide) (by decide) k) ?_
      exact hJ _ (by simp only [if_neg hc3_32])
  refine J11_31 fun v11_1 hv11_1 => ?_
  have dv11_1 : f0_v11_1 p0 p1 = v11_1 := by
    simp only [f0_v11_1]
    exact hv11_1.symm
  show Ends p e below QQ (s₁.setTop (mkF m 11 #[.val (.int p0), .val (.int p1), .unset, .unset, .unset, .unset] [(.int v11_1)]))
  refine Ends.step (fun _ k => XS.istoreN X0.here hx rfl (hb hby at_11) rfl (l' := #[.val (.int p0), .val (.int p1), .val (.int v11_1), .unset, .unset, .unset]) rfl k) ?_
  show Ends p e below QQ (s₁.setTop (mkF m 12 #[.val (.int p0), .val (.int p1), .val (.int v11_1), .unset, .unset, .unset] []))
  refine Ends.step (fun _ k => XS.iloadN X0.here hx rfl (hb hby at_12) rfl k) ?_
  show Ends p e below QQ (s₁.setTop (mkF m 13 #[.val (.int p0), .val (.int p1), .val (.int v11_1), .unset, .unset, .unset] [(.int v11_1)]))
  have J29_33 : (∀ (v29_2 : Int32) (hv29_2 : v29_2 = (if v11_1 = (0 : Int32) then p0 else ((31 : Int32) + ((p0 &&& (2147483647 : Int32)) % (5 : Int32))))), Ends p e below QQ (s₁.setTop (mkF m 29 #[.val (.int p0), .val (.int p1), .val (.int v11_1), .unset, .unset, .unset] [(.int v29_2)]))) → Ends p e below QQ (s₁.setTop (mkF m 13 #[.val (.int p0), .val (.int p1), .val (.int v11_1), .unset, .unset, .unset] [(.int v11_1)])) := by
    intro hJ
    by_cases hc13_34 : v11_1 = (0 : Int32)
    · refine Ends.step (fun _ k => XS.ifYes X0.here hx rfl (pc0 := 13) (pc' := 28) rfl (hb hby at_13) rfl (XT.i0_eq_t hc13_34) (by decide) (by decide) k) ?_
      show Ends p e below QQ (s₁.setTop (mkF m 28 #[.val (.int p0), .val (.int p1), .val (.int v11_1), .unset, .unset, .unset] []))
      refine Ends.step (fun _ k => XS.iloadN X0.here hx rfl (hb hby at_28) rfl k) ?_
      exact hJ _ (by simp only [if_pos hc13_34])
    · refine Ends.step (fun _ k => XS.ifNo X0.here hx rfl (hb hby at_13) rfl (XT.i0_eq_f hc13_34) k) ?_
      show Ends p e below QQ (s₁.setTop (mkF m 16 #[.val (.int p0), .val (.int p1), .val (.int v11_1), .unset, .unset, .unset] []))
      refine Ends.step (fun _ k => XT.bipushV X0.here hx rfl (31 : Int32) (hb hby at_16) rfl k) ?_
      show Ends p e below QQ (s₁.setTop (mkF m 18 #[.val (.int p0), .val (.int p1), .val (.int v11_1), .unset, .unset, .unset] [(.int (31 : Int32))]))
      refine Ends.step (fun _ k => XS.iloadN X0.here hx rfl (hb hby at_18) rfl k) ?_
      show Ends p e below QQ (s₁.setTop (mkF m 19 #[.val (.int p0), .val (.int p1), .val (.int v11_1), .unset, .unset, .unset] [(.int p0), (.int (31 : Int32))]))
      refine Ends.step (fun _ k => X0.ldcI hx hown (mvT hZ (hw _ (List.mem_of_getElem? (i := 0) rfl))) (g := (mkF m 19 #[.val (.int p0), .val (.int p1), .val (.int v11_1), .unset, .unset, .unset] [(.int p0), (.int (31 : Int32))])) rfl (hb hby at_19) k) ?_
      show Ends p e below QQ (s₁.setTop (mkF m 21 #[.val (.int p0), .val (.int p1), .val (.int v11_1), .unset, .unset, .unset] [(.int (2147483647 : Int32)), (.int p0), (.int (31 : Int32))]))
      refine Ends.step (fun _ k => XS.iand X0.here hx rfl (hb hby at_21) rfl k) ?_
      show Ends p e below QQ (s₁.setTop (mkF m 22 #[.val (.int p0), .val (.int p1), .val (.int v11_1), .unset, .unset, .unset] [(.int (p0 &&& (2147483647 : Int32))), (.int (31 : Int32))]))
      refine Ends.step (fun _ k => XT.iconstV X0.here hx rfl (5 : Int32) (hb hby at_22) rfl k) ?_
      show Ends p e below QQ (s₁.setTop (mkF m 23 #[.val (.int p0), .val (.int p1), .val (.int v11_1), .unset, .unset, .unset] [(.int (5 : Int32)), (.int (p0 &&& (2147483647 : Int32))), (.int (31 : Int32))]))
      refine Ends.step (fun _ k => iremM (g := (mkF m 23 #[.val (.int p0), .val (.int p1), .val (.int v11_1), .unset, .unset, .unset] [(.int (5 : Int32)), (.int (p0 &&& (2147483647 : Int32))), (.int (31 : Int32))])) X0 hx rfl (hb hby at_23) rfl (by decide) k) ?_
      show Ends p e below QQ (s₁.setTop (mkF m 24 #[.val (.int p0), .val (.int p1), .val (.int v11_1), .unset, .unset, .unset] [(.int ((p0 &&& (2147483647 : Int32)) % (5 : Int32))), (.int (31 : Int32))]))
      refine Ends.step (fun _ k => XS.iadd X0.here hx rfl (hb hby at_24) rfl k) ?_
      show Ends p e below QQ (s₁.setTop (mkF m 25 #[.val (.int p0), .val (.int p1), .val (.int v11_1), .unset, .unset, .unset] [(.int ((31 : Int32) + ((p0 &&& (2147483647 : Int32)) % (5 : Int32))))]))
      refine Ends.step (fun _ k => XS.goto X0.here hx rfl (pc0 := 25) (pc' := 29) rfl (hb hby at_25) (by decide) (by decide) k) ?_
      exact hJ _ (by simp only [if_neg hc13_34])
  refine J29_33 fun v29_2 hv29_2 => ?_
  have dv29_2 : f0_v29_2 p0 p1 = v29_2 := by
    simp only [f0_v29_2, dv11_1]
    exact hv29_2.symm
  show Ends p e below QQ (s₁.setTop (mkF m 29 #[.val (.int p0), .val (.int p1), .val (.int v11_1), .unset, .unset, .unset] [(.int v29_2)]))
  refine Ends.step (fun _ k => XS.istoreN X0.here hx rfl (hb hby at_29) rfl (l' := #[.val (.int p0), .val (.int p1), .val (.int v11_1), .val (.int v29_2), .unset, .unset]) rfl k) ?_
  show Ends p e below QQ (s₁.setTop (mkF m 30 #[.val (.int p0), .val (.int p1), .val (.int v11_1), .val (.int v29_2), .unset, .unset] []))
  refine Ends.step (fun _ k => XS.iloadN X0.here hx rfl (hb hby at_30) rfl k) ?_
  by_cases hs31_35 : v29_2 = (32 : Int32)
  · show Ends p e below QQ (s₁.setTop (mkF m 31 #[.val (.int p0), .val (.int p1), .val (.int v11_1), .val (.int v29_2), .unset, .unset] [(.int v29_2)]))
    rw [hs31_35]
    show Ends p e below QQ (s₁.setTop (mkF m 31 #[.val (.int p0), .val (.int p1), .val (.int v11_1), .val (.int (32 : Int32)), .unset, .unset] [(.int (32 : Int32))]))
    obtain ⟨_, _, ⟨T36, L36, k36, n36⟩, -, X36, ⟨Lc36, hQ36, l36, y36, z36⟩, st36⟩ := Jvm.LawKit.callS X0 hx (y := (⟨"com/example/nuntius/nuntius/schema/CollectionType$Kind", "ofProtocolId", "(I)Lcom/example/nuntius/nuntius/schema/CollectionType$Kind;"⟩ : MethodName)) hown (mvT hZ (hw _ (List.mem_of_getElem? (i := 1) rfl))) (mvT hZ (hw _ (List.mem_of_getElem? (i := 2) rfl))) (mvT hZ (hw _ (List.mem_of_getElem? (i := 3) rfl))) (mvT hZ (hw _ (List.mem_of_getElem? (i := 4) rfl))) (by decide) (backOf (W := 0) (rm1a l Z a0 hw [] (32 : Int32) a_VALUES a_LIST a_MAP a_SET k_a_VALUES h0 n0 (Nat.le_trans Z0 (Keep.refl h0 []).1) E_a_VALUES E_a_LIST E_a_MAP E_a_SET F_protocolId_a_LIST F_protocolId_a_MAP F_protocolId_a_SET A_a_VALUES S__VALUES S_LIST S_MAP S_SET (by first | assumption | rfl | decide)) hZ (hw _ (List.mem_of_getElem? (i := 4) rfl)) (hw _ (List.mem_of_getElem? (i := 3) rfl)) (by decide) (by decide)) (g := (mkF m 31 #[.val (.int p0), .val (.int p1), .val (.int v11_1), .val (.int (32 : Int32)), .unset, .unset] [(.int (32 : Int32))])) rfl (by rw [hml]; rfl) (argsL := [(.int (32 : Int32))]) (rest := []) (lenOf pd_1 rfl) rfl (by show 2 * 0 + _ ≤ _; exact Nat.le_of_eq rfl) (hb hby at_31) (fun _ _ => ⟨rfl, e0, (by decide : 0 + 1 ≤ _), (by decide : 0 + 3 ≤ _)⟩)
    dsimp only [Pt.U, Pt.locs, Pt.cells, Pt.slots] at X36 l36 y36 z36 st36 hQ36
    subst l36 y36 z36
    obtain ⟨rfl, Nq36, Kq36⟩ := hQ36
    have N36 := Fr.app N0 Nq36
    have S__VALUES := own_sta_keep S__VALUES Kq36 all0
    have S_LIST := own_sta_keep S_LIST Kq36 all0
    have S_MAP := own_sta_keep S_MAP Kq36 all0
    have S_SET := own_sta_keep S_SET Kq36 all0
    have E_a_VALUES := E_a_VALUES.keep Kq36
    have E_a_LIST := E_a_LIST.keep Kq36
    have E_a_MAP := E_a_MAP.keep Kq36
    have E_a_SET := E_a_SET.keep Kq36
    have F_protocolId_a_LIST := F_protocolId_a_LIST.keep Kq36 nin0
    have F_protocolId_a_MAP := F_protocolId_a_MAP.keep Kq36 nin0
    have F_protocolId_a_SET := F_protocolId_a_SET.keep Kq36 nin0
    have A_a_VALUES := A_a_VALUES.keep Kq36 nin0
    have K36 := (Keep.refl h0 []).trans Kq36 all0
    refine Ends.step st36 ?_
    show Ends p e below QQ (T36.setTop (mkF m 34 #[.val (.int p0), .val (.int p1), .val (.int v11_1), .val (.int (32 : Int32)), .unset, .unset] [(.ref a_LIST)]))
    refine Ends.step (fun _ k => XS.astore X36.here hx rfl (hb hby at_34) rfl rfl (l' := #[.val (.int p0), .val (.int p1), .val (.int v11_1), .val (.int (32 : Int32)), .val (.ref a_LIST), .unset]) rfl k) ?_
    show Ends p e below QQ (T36.setTop (mkF m 36 #[.val (.int p0), .val (.int p1), .val (.int v11_1), .val (.int (32 : Int32)), .val (.ref a_LIST), .unset] []))
    refine Ends.step (fun _ k => XS.iloadN X36.here hx rfl (hb hby at_36) rfl k) ?_
    show Ends p e below QQ (T36.setTop (mkF m 37 #[.val (.int p0), .val (.int p1), .val (.int v11_1), .val (.int (32 : Int32)), .val (.ref a_LIST), .unset] [(.int (32 : Int32))]))
    refine Ends.step (fun _ k => XT.bipushV X36.here hx rfl (32 : Int32) (hb hby at_37) rfl k) ?_
    show Ends p e below QQ (T36.setTop (mkF m 39 #[.val (.int p0), .val (.int p1), .val (.int v11_1), .val (.int (32 : Int32)), .val (.ref a_LIST), .unset] [(.int (32 : Int32)), (.int (32 : Int32))]))
    refine Ends.step (fun _ k => XS.icmpNo X36.here hx rfl (hb hby at_39) rfl (XT.ii_ne_f (by decide)) k) ?_
    show Ends p e below QQ (T36.setTop (mkF m 42 #[.val (.int p0), .val (.int p1), .val (.int v11_1), .val (.int (32 : Int32)), .val (.ref a_LIST), .unset] []))
    obtain ⟨T37, X37, e37, st37⟩ := getS2 X36 hx hZ hown (host := "") (Or.inl (hw _ (List.mem_of_getElem? (i := 32) rfl))) Via.refl rfl S_LIST (g := (mkF m 42 #[.val (.int p0), .val (.int p1), .val (.int v11_1), .val (.int (32 : Int32)), .val (.ref a_LIST), .unset] [])) rfl (hb hby at_42)
    refine Ends.step st37 ?_
    show Ends p e below QQ (T37.setTop (mkF m 45 #[.val (.int p0), .val (.int p1), .val (.int v11_1), .val (.int (32 : Int32)), .val (.ref a_LIST), .unset] [(.ref a_LIST)]))
    refine Ends.step (fun _ k => XS.astore X37.here hx rfl (hb hby at_45) rfl rfl (l' := #[.val (.int p0), .val (.int p1), .val (.int v11_1), .val (.int (32 : Int32)), .val (.ref a_LIST), .val (.ref a_LIST)]) rfl k) ?_
    show Ends p e below QQ (T37.setTop (mkF m 47 #[.val (.int p0), .val (.int p1), .val (.int v11_1), .val (.int (32 : Int32)), .val (.ref a_LIST), .val (.ref a_LIST)] []))
    refine Ends.step (fun _ k => XS.goto X37.here hx rfl (pc0 := 47) (pc' := 81) rfl (hb hby at_47) (by decide) (by decide) k) ?_
    show Ends p e below QQ (T37.setTop (mkF m 81 #[.val (.int p0), .val (.int p1), .val (.int v11_1), .val (.int (32 : Int32)), .val (.ref a_LIST), .val (.ref a_LIST)] []))
    refine Ends.step (fun _ k => XS.aload X37.here hx rfl (hb hby at_81) rfl rfl k) ?_
    show Ends p e below QQ (T37.setTop (mkF m 83 #[.val (.int p0), .val (.int p1), .val (.int v11_1), .val (.int (32 : Int32)), .val (.ref a_LIST), .val (.ref a_LIST)] [(.ref a_LIST)]))
    refine Ends.step (fun _ k => XS.aload X37.here hx rfl (hb hby at_83) rfl rfl k) ?_
    show Ends p e below QQ (T37.setTop (mkF m 85 #[.val (.int p0), .val (.int p1), .val (.int v11_1), .val (.int (32 : Int32)), .val (.ref a_LIST), .val (.ref a_LIST)] [(.ref a_LIST), (.ref a_LIST)]))
    refine Ends.step (fun _ k => Jvm.RoadKit.acmp (g := (mkF m 85 #[.val (.int p0), .val (.int p1), .val (.int v11_1), .val (.int (32 : Int32)), .val (.ref a_LIST), .val (.ref a_LIST)] [(.ref a_LIST), (.ref a_LIST)])) X37 hx rfl rfl rfl (pc0 := 85) (pc' := 90) (same := true) rfl (hb hby at_85) rfl (decide_eq_true rfl) (by decide) (by decide) k) ?_
    show Ends p e below QQ (T37.setTop (mkF m 90 #[.val (.int p0), .val (.int p1), .val (.int v11_1), .val (.int (32 : Int32)), .val (.ref a_LIST), .val (.ref a_LIST)] []))
    refine Ends.step (fun _ k => XS.aload X37.here hx rfl (hb hby at_90) rfl rfl k) ?_
    show Ends p e below QQ (T37.setTop (mkF m 92 #[.val (.int p0), .val (.int p1), .val (.int v11_1), .val (.int (32 : Int32)), .val (.ref a_LIST), .val (.ref a_LIST)] [(.ref a_LIST)]))
    refine Ends.step (fun _ k => XS.ifnullNo X37.here hx rfl (hb hby at_92) rfl k) ?_
    show Ends p e below QQ (T37.setTop (mkF m 95 #[.val (.int p0), .val (.int p1), .val (.int v11_1), .val (.int (32 : Int32)), .val (.ref a_LIST), .val (.ref a_LIST)] []))
    refine Ends.step (fun _ k => XS.aload X37.here hx rfl (hb hby at_95) rfl rfl k) ?_
    show Ends p e below QQ (T37.setTop (mkF m 97 #[.val (.int p0), .val (.int p1), .val (.int v11_1), .val (.int (32 : Int32)), .val (.ref a_LIST), .val (.ref a_LIST)] [(.ref a_LIST)]))
    obtain ⟨cq38, kq38, q38a, q38b, q38c⟩ := isOf hZ e37 E_a_LIST
    obtain ⟨_, _, ⟨T38, L38, k38, n38⟩, -, X38, ⟨Lc38, hQ38, l38, y38, z38⟩, st38⟩ := X37.virtualBack hx (y := (⟨"com/example/nuntius/nuntius/schema/CollectionType$Kind", "protocolId", "()I"⟩ : MethodName)) (z := (⟨"com/example/nuntius/nuntius/schema/CollectionType$Kind", "protocolId", "()I"⟩ : MethodName)) hown (mvT hZ (hw _ (List.mem_of_getElem? (i := 26) rfl))) (mvT hZ (hw _ (List.mem_of_getElem? (i := 27) rfl))) (notFace_of_selects (args := #[]) (mvT hZ (hw _ (List.mem_of_getElem? (i := 29) rfl)))) (mvT hZ (hw _ (List.mem_of_getElem? (i := 29) rfl))) (mvT hZ (hw _ (List.mem_of_getElem? (i := 28) rfl))) (by decide) (backOf (W := 0) (rm3 l Z a0 hw [] a_LIST (32 : Int32) T36.heap n0 (Nat.le_trans Z0 K36.1) F_protocolId_a_LIST) hZ (hw _ (List.mem_of_getElem? (i := 30) rfl)) (hw _ (List.mem_of_getElem? (i := 3) rfl)) (by decide) (by decide)) q38a q38c (g := (mkF m 97 #[.val (.int p0), .val (.int p1), .val (.int v11_1), .val (.int (32 : Int32)), .val (.ref a_LIST), .val (.ref a_LIST)] [(.ref a_LIST)])) rfl (by rw [hml]; rfl) (Steps.refl _) (argsL := []) (rest := []) (lenOf pd_2 rfl) rfl (by show 2 * 0 + _ ≤ _; exact Nat.le_of_eq rfl) (hb hby at_97) (fun _ _ => ⟨rfl, e37, (by decide : 1 + 0 ≤ _), (by decide : 3 + 0 ≤ _)⟩)
    dsimp only [Pt.U, Pt.locs, Pt.cells, Pt.slots] at X38 l38 y38 z38 st38 hQ38
    subst l38 y38 z38
    obtain ⟨rfl, Nq38, hh38⟩ := hQ38
    have N38 := Fr.app N36 Nq38
    refine Ends.step (fun _ k => st38.trans k) ?_
    show Ends p e below QQ (T38.setTop (mkF m 100 #[.val (.int p0), .val (.int p1), .val (.int v11_1), .val (.int (32 : Int32)), .val (.ref a_LIST), .val (.ref a_LIST)] [(.int (32 : Int32))]))
    refine Ends.step (fun _ k => XS.iloadN X38.here hx rfl (hb hby at_100) rfl k) ?_
    show Ends p e below QQ (T38.setTop (mkF m 101 #[.val (.int p0), .val (.int p1), .val (.int v11_1), .val (.int (32 : Int32)), .val (.ref a_LIST), .val (.ref a_LIST)] [(.int (32 : Int32)), (.int (32 : Int32))]))
    refine Ends.step (fun _ k => XS.icmpNo X38.here hx rfl (hb hby at_101) rfl (XT.ii_ne_f (by decide)) k) ?_
    show Ends p e below QQ (T38.setTop (mkF m 104 #[.val (.int p0), .val (.int p1), .val (.int v11_1), .val (.int (32 : Int32)), .val (.ref a_LIST), .val (.ref a_LIST)] []))
    refine Ends.step (fun _ k => XT.iconstV X38.here hx rfl (1 : Int32) (hb hby at_104) rfl k) ?_
    show Ends p e below QQ (T38.setTop (mkF m 105 #[.val (.int p0), .val (.int p1), .val (.int v11_1), .val (.int (32 : Int32)), .val (.ref a_LIST), .val (.ref a_LIST)] [(.int (1 : Int32))]))
    refine Ends.step (fun _ k => XS.goto X38.here hx rfl (pc0 := 105) (pc' := 109) rfl (hb hby at_105) (by decide) (by decide) k) ?_
    show Ends p e below QQ (T38.setTop (mkF m 109 #[.val (.int p0), .val (.int p1), .val (.int v11_1), .val (.int (32 : Int32)), .val (.ref a_LIST), .val (.ref a_LIST)] [(.int (1 : Int32))]))
    exact Ends.fin (some (.int (1 : Int32))) X38 hQQ (fun h => by rw [Bd.returns] at h; cases h) Bd.notSynchronized (fun _ hr => retOut X38 hx (t := .boolean) Bd.returns rfl (Or.inl ⟨rfl, (by simp), _, rfl⟩) (hb hby at_109) hr) hh38 (by decide) (by decide) ⟨(by simp only [f0, dv11_1, dv29_2, if_pos hs31_35]), N38, K36⟩
  · show Ends p e below QQ (s₁.setTop (mkF m 31 #[.val (.int p0), .val (.int p1), .val (.int v11_1), .val (.int v29_2), .unset, .unset] [(.int v29_2)]))
    by_cases hs31_39 : v29_2 = (33 : Int32)
    · show Ends p e below QQ (s₁.setTop (mkF m 31 #[.val (.int p0), .val (.int p1), .val (.int v11_1), .val (.int v29_2), .unset, .unset] [(.int v29_2)]))
      rw [hs31_39]
      show Ends p e below QQ (s₁.setTop (mkF m 31 #[.val (.int p0), .val (.int p1), .val (.int v11_1), .val (.int (33 : Int32)), .unset, .unset] [(.int (33 : Int32))]))
      obtain ⟨_, _, ⟨T40, L40, k40, n40⟩, -, X40, ⟨Lc40, hQ40, l40, y40, z40⟩, st40⟩ := Jvm.LawKit.callS X0 hx (y := (⟨"com/example/nuntius/nuntius/schema/CollectionType$Kind", "ofProtocolId", "(I)Lcom/example/nuntius/nuntius/schema/CollectionType$Kind;"⟩ : MethodName)) hown (mvT hZ (hw _ (List.mem_of_getElem? (i := 1) rfl))) (mvT hZ (hw _ (List.mem_of_getElem? (i := 2) rfl))) (mvT hZ (hw _ (List.mem_of_getElem? (i := 3) rfl))) (mvT hZ (hw _ (List.mem_of_getElem? (i := 4) rfl))) (by decide) (backOf (W := 0) (rm1b l Z a0 hw [] (33 : Int32) a_VALUES a_LIST a_MAP a_SET k_a_VALUES h0 n0 (Nat.le_trans Z0 (Keep.refl h0 []).1) E_a_VALUES E_a_LIST E_a_MAP E_a_SET F_protocolId_a_LIST F_protocolId_a_MAP F_protocolId_a_SET A_a_VALUES S__VALUES S_LIST S_MAP S_SET (by first | assumption | rfl | decide)) hZ (hw _ (List.mem_of_getElem? (i := 4) rfl)) (hw _ (List.mem_of_getElem? (i := 3) rfl)) (by decide) (by decide)) (g := (mkF m 31 #[.val (.int p0), .val (.int p1), .val (.int v11_1), .val (.int (33 : Int32)), .unset, .unset] [(.int (33 : Int32))])) rfl (by rw [hml]; rfl) (argsL := [(.int (33 : Int32))]) (rest := []) (lenOf pd_1 rfl) rfl (by show 2 * 0 + _ ≤ _; exact Nat.le_of_eq rfl) (hb hby at_31) (fun _ _ => ⟨rfl, e0, (by decide : 0 + 1 ≤ _), (by decide : 0 + 3 ≤ _)⟩)
      dsimp only [Pt.U, Pt.locs, Pt.cells, Pt.slots] at X40 l40 y40 z40 st40 hQ40
      subst l40 y40 z40
      obtain ⟨rfl, Nq40, Kq40⟩ := hQ40
      have N40 := Fr.app N0 Nq40
      have S__VALUES := own_sta_keep S__VALUES Kq40 all0
      have S_LIST := own_sta_keep S_LIST Kq40 all0
      have S_MAP := own_sta_keep S_MAP Kq40 all0
      have S_SET := own_sta_keep S_SET Kq40 all0
      have E_a_VALUES := E_a_VALUES.keep Kq40
      have E_a_LIST := E_a_LIST.keep Kq40
      have E_a_MAP := E_a_MAP.keep Kq40
      have E_a_SET := E_a_SET.keep Kq40
      have F_protocolId_a_LIST := F_protocolId_a_LIST.keep Kq40 nin0
      have F_protocolId_a_MAP := F_protocolId_a_MAP.keep Kq40 nin0
      have F_protocolId_a_SET := F_protocolId_a_SET.keep Kq40 nin0
      have A_a_VALUES := A_a_VALUES.keep Kq40 nin0
      have K40 := (Keep.refl h0 []).trans Kq40 all0
      refine Ends.step st40 ?_
      show Ends p e below QQ (T40.setTop (mkF m 34 #[.val (.int p0), .val (.int p1), .val (.int v11_1), .val (.int (33 : Int32)), .unset, .unset] [(.ref a_MAP)]))
      refine Ends.step (fun _ k => XS.astore X40.here hx rfl (hb hby at_34) rfl rfl (l' := #[.val (.int p0), .val (.int p1), .val (.int v11_1), .val (.int (33 : Int32)), .val (.ref a_MAP), .unset]) rfl k) ?_
      show Ends p e below QQ (T40.setTop (mkF m 36 #[.val (.int p0), .val (.int p1), .val (.int v11_1), .val (.int (33 : Int32)), .val (.ref a_MAP), .unset] []))
      refine Ends.step (fun _ k => XS.iloadN X40.here hx rfl (hb hby at_36) rfl k) ?_
      show Ends p e below QQ (T40.setTop (mkF m 37 #[.val (.int p0), .val (.int p1), .val (.int v11_1), .val (.int (33 : Int32)), .val (.ref a_MAP), .unset] [(.int (33 : Int32))]))
      refine Ends.step (fun _ k => XT.bipushV X40.here hx rfl (32 : Int32) (hb hby at_37) rfl k) ?_
      show Ends p e below QQ (T40.setTop (mkF m 39 #[.val (.int p0), .val (.int p1), .val (.int v11_1), .val (.int (33 : Int32)), .val (.ref a_MAP), .unset] [(.int (32 : Int32)), (.int (33 : Int32))]))
      refine Ends.step (fun _ k => XS.icmpYes X40.here hx rfl (pc0 := 39) (pc' := 50) rfl (hb hby at_39) rfl (XT.ii_ne_t (by decide)) (by decide) (by decide) k) ?_
      show Ends p e below QQ (T40.setTop (mkF m 50 #[.val (.int p0), .val (.int p1), .val (.int v11_1), .val (.int (33 : Int32)), .val (.ref a_MAP), .unset] []))
      refine Ends.step (fun _ k => XS.iloadN X40.here hx rfl (hb hby at_50) rfl k) ?_
      show Ends p e below QQ (T40.setTop (mkF m 51 #[.val (.int p0), .val (.int p1), .val (.int v11_1), .val (.int (33 : Int32)), .val (.ref a_MAP), .unset] [(.int (33 : Int32))]))
      refine Ends.step (fun _ k => XT.bipushV X40.here hx rfl (33 : Int32) (hb hby at_51) rfl k) ?_
      show Ends p e below QQ (T40.setTop (mkF m 53 #[.val (.int p0), .val (.int p1), .val (.int v11_1), .val (.int (33 : Int32)), .val (.ref a_MAP), .unset] [(.int (33 : Int32)), (.int (33 : Int32))]))
      refine Ends.step (fun _ k => XS.icmpNo X40.here hx rfl (hb hby at_53) rfl (XT.ii_ne_f (by decide)) k) ?_
      show Ends p e below QQ (T40.setTop (mkF m 56 #[.val (.int p0), .val (.int p1), .val (.int v11_1), .val (.int (33 : Int32)), .val (.ref a_MAP), .unset] []))
      obtain ⟨T41, X41, e41, st41⟩ := getS2 X40 hx hZ hown (host := "") (Or.inl (hw _ (List.mem_of_getElem? (i := 31) rfl))) Via.refl rfl S_MAP (g := (mkF m 56 #[.val (.int p0), .val (.int p1), .val (.int v11_1), .val (.int (33 : Int32)), .val (.ref a_MAP), .unset] [])) rfl (hb hby at_56)
      refine Ends.step st41 ?_
      show Ends p e below QQ (T41.setTop (mkF m 59 #[.val (.int p0), .val (.int p1), .val (.int v11_1), .val (.int (33 : Int32)), .val (.ref a_MAP), .unset] [(.ref a_MAP)]))
      refine Ends.step (fun _ k => XS.astore X41.here hx rfl (hb hby at_59) rfl rfl (l' := #[.val (.int p0), .val (.int p1), .val (.int v11_1), .val (.int (33 : Int32)), .val (.ref a_MAP), .val (.ref a_MAP)]) rfl k) ?_
      show Ends p e below QQ (T41.setTop (mkF m 61 #[.val (.int p0), .val (.int p1), .val (.int v11_1), .val (.int (33 : Int32)), .val (.ref a_MAP), .val (.ref a_MAP)] []))
      refine Ends.step (fun _ k => XS.goto X41.here hx rfl (pc0 := 61) (pc' := 81) rfl (hb hby at_61) (by decide) (by decide) k) ?_
      show Ends p e below QQ (T41.setTop (mkF m 81 #[.val (.int p0), .val (.int p1), .val (.int v11_1), .val (.int (33 : Int32)), .val (.ref a_MAP), .val (.ref a_MAP)] []))
      refine Ends.step (fun _ k => XS.aload X41.here hx rfl (hb hby at_81) rfl rfl k) ?_
      show Ends p e below QQ (T41.setTop (mkF m 83 #[.val (.int p0), .val (.int p1), .val (.int v11_1), .val (.int (33 : Int32)), .val (.ref a_MAP), .val (.ref a_MAP)] [(.ref a_MAP)]))
      refine Ends.step (fun _ k => XS.aload X41.here hx rfl (hb hby at_83) rfl rfl k) ?_
      show Ends p e below QQ (T41.setTop (mkF m 85 #[.val (.int p0), .val (.int p1), .val (.int v11_1), .val (.int (33 : Int32)), .val (.ref a_MAP), .val (.ref a_MAP)] [(.ref a_MAP), (.ref a_MAP)]))
      refine Ends.step (fun _ k => Jvm.RoadKit.acmp (g := (mkF m 85 #[.val (.int p0), .val (.int p1), .val (.int v11_1), .val (.int (33 : Int32)), .val (.ref a_MAP), .val (.ref a_MAP)] [(.ref a_MAP), (.ref a_MAP)])) X41 hx rfl rfl rfl (pc0 := 85) (pc' := 90) (same := true) rfl (hb hby at_85) rfl (decide_eq_true rfl) (by decide) (by decide) k) ?_
      show Ends p e below QQ (T41.setTop (mkF m 90 #[.val (.int p0), .val (.int p1), .val (.int v11_1), .val (.int (33 : Int32)), .val (.ref a_MAP), .val (.ref a_MAP)] []))
      refine Ends.step (fun _ k => XS.aload X41.here hx rfl (hb hby at_90) rfl rfl k) ?_
      show Ends p e below QQ (T41.setTop (mkF m 92 #[.val (.int p0), .val (.int p1), .val (.int v11_1), .val (.int (33 : Int32)), .val (.ref a_MAP), .val (.ref a_MAP)] [(.ref a_MAP)]))
      refine Ends.step (fun _ k => XS.ifnullNo X41.here hx rfl (hb hby at_92) rfl k) ?_
      show Ends p e below QQ (T41.setTop (mkF m 95 #[.val (.int p0), .val (.int p1), .val (.int v11_1), .val (.int (33 : Int32)), .val (.ref a_MAP), .val (.ref a_MAP)] []))
      refine Ends.step (fun _ k => XS.aload X41.here hx rfl (hb hby at_95) rfl rfl k) ?_
      show Ends p e below QQ (T41.setTop (mkF m 97 #[.val (.int p0), .val (.int p1), .val (.int v11_1), .val (.int (33 : Int32)), .val (.ref a_MAP), .val (.ref a_MAP)] [(.ref a_MAP)]))
      obtain ⟨cq42, kq42, q42a, q42b, q42c⟩ := isOf hZ e41 E_a_MAP
      obtain ⟨_, _, ⟨T42, L42, k42, n42⟩, -, X42, ⟨Lc42, hQ42, l42, y42, z42⟩, st42⟩ := X41.virtualBack hx (y := (⟨"com/example/nuntius/nuntius/schema/CollectionType$Kind", "protocolId", "()I"⟩ : MethodName)) (z := (⟨"com/example/nuntius/nuntius/schema/CollectionType$Kind", "protocolId", "()I"⟩ : MethodName)) hown (mvT hZ (hw _ (List.mem_of_getElem? (i := 26) rfl))) (mvT hZ (hw _ (List.mem_of_getElem? (i := 27) rfl))) (notFace_of_selects (args := #[]) (mvT hZ (hw _ (List.mem_of_getElem? (i := 29) rfl)))) (mvT hZ (hw _ (List.mem_of_getElem? (i := 29) rfl))) (mvT hZ (hw _ (List.mem_of_getElem? (i := 28) rfl))) (by decide) (backOf (W := 0) (rm3 l Z a0 hw [] a_MAP (33 : Int32) T40.heap n0 (Nat.le_trans Z0 K40.1) F_protocolId_a_MAP) hZ (hw _ (List.mem_of_getElem? (i := 30) rfl)) (hw _ (List.mem_of_getElem? (i := 3) rfl)) (by decide) (by decide)) q42a q42c (g := (mkF m 97 #[.val (.int p0), .val (.int p1), .val (.int v11_1), .val (.int (33 : Int32)), .val (.ref a_MAP), .val (.ref a_MAP)] [(.ref a_MAP)])) rfl (by rw [hml]; rfl) (Steps.refl _) (argsL := []) (rest := []) (lenOf pd_2 rfl) rfl (by show 2 * 0 + _ ≤ _; exact Nat.le_of_eq rfl) (hb hby at_97) (fun _ _ => ⟨rfl, e41, (by decide : 1 + 0 ≤ _), (by decide : 3 + 0 ≤ _)⟩)
      dsimp only [Pt.U, Pt.locs, Pt.cells, Pt.slots] at X42 l42 y42 z42 st42 hQ42
      subst l42 y42 z42
      obtain ⟨rfl, Nq42, hh42⟩ := hQ42
      have N42 := Fr.app N40 Nq42
      refine Ends.step (fun _ k => st42.trans k) ?_
      show Ends p e below QQ (T42.setTop (mkF m 100 #[.val (.int p0), .val (.int p1), .val (.int v11_1), .val (.int (33 : Int32)), .val (.ref a_MAP), .val (.ref a_MAP)] [(.int (33 : Int32))]))
      refine Ends.step (fun _ k => XS.iloadN X42.here hx rfl (hb hby at_100) rfl k) ?_
      show Ends p e below QQ (T42.setTop (mkF m 101 #[.val (.int p0), .val (.int p1), .val (.int v11_1), .val (.int (33 : Int32)), .val (.ref a_MAP), .val (.ref a_MAP)] [(.int (33 : Int32)), (.int (33 : Int32))]))
      refine Ends.step (fun _ k => XS.icmpNo X42.here hx rfl (hb hby at_101) rfl (XT.ii_ne_f (by decide)) k) ?_
      show Ends p e below QQ (T42.setTop (mkF m 104 #[.val (.int p0), .val (.int p1), .val (.int v11_1), .val (.int (33 : Int32)), .val (.ref a_MAP), .val (.ref a_MAP)] []))
      refine Ends.step (fun _ k => XT.iconstV X42.here hx rfl (1 : Int32) (hb hby at_104) rfl k) ?_
      show Ends p e below QQ (T42.setTop (mkF m 105 #[.val (.int p0), .val (.int p1), .val (.int v11_1), .val (.int (33 : Int32)), .val (.ref a_MAP), .val (.ref a_MAP)] [(.int (1 : Int32))]))
      refine Ends.step (fun _ k => XS.goto X42.here hx rfl (pc0 := 105) (pc' := 109) rfl (hb hby at_105) (by decide) (by decide) k) ?_
      show Ends p e below QQ (T42.setTop (mkF m 109 #[.val (.int p0), .val (.int p1), .val (.int v11_1), .val (.int (33 : Int32)), .val (.ref a_MAP), .val (.ref a_MAP)] [(.int (1 : Int32))]))
      exact Ends.fin (some (.int (1 : Int32))) X42 hQQ (fun h => by rw [Bd.returns] at h; cases h) Bd.notSynchronized (fun _ hr => retOut X42 hx (t := .boolean) Bd.returns rfl (Or.inl ⟨rfl, (by simp), _, rfl⟩) (hb hby at_109) hr) hh42 (by decide) (by decide) ⟨(by simp only [f0, dv11_1, dv29_2, if_neg hs31_35, if_pos hs31_39]), N42, K40⟩
    · show Ends p e below QQ (s₁.setTop (mkF m 31 #[.val (.int p0), .val (.int p1), .val (.int v11_1), .val (.int v29_2), .unset, .unset] [(.int v29_2)]))
      by_cases hs31_43 : v29_2 = (34 : Int32)
      · show Ends p e below QQ (s₁.setTop (mkF m 31 #[.val (.int p0), .val (.int p1), .val (.int v11_1), .val (.int v29_2), .unset, .unset] [(.int v29_2)]))
        rw [hs31_43]
        show Ends p e below QQ (s₁.setTop (mkF m 31 #[.val (.int p0), .val (.int p1), .val (.int v11_1), .val (.int (34 : Int32)), .unset, .unset] [(.int (34 : Int32))]))
        obtain ⟨_, _, ⟨T44, L44, k44, n44⟩, -, X44, ⟨Lc44, hQ44, l44, y44, z44⟩, st44⟩ := Jvm.LawKit.callS X0 hx (y := (⟨"com/example/nuntius/nuntius/schema/CollectionType$Kind", "ofProtocolId", "(I)Lcom/example/nuntius/nuntius/schema/CollectionType$Kind;"⟩ : MethodName)) hown (mvT hZ (hw _ (List.mem_of_getElem? (i := 1) rfl))) (mvT hZ (hw _ (List.mem_of_getElem? (i := 2) rfl))) (mvT hZ (hw _ (List.mem_of_getElem? (i := 3) rfl))) (mvT hZ (hw _ (List.mem_of_getElem? (i := 4) rfl))) (by decide) (backOf (W := 0) (rm1c l Z a0 hw [] (34 : Int32) a_VALUES a_LIST a_MAP a_SET k_a_VALUES h0 n0 (Nat.le_trans Z0 (Keep.refl h0 []).1) E_a_VALUES E_a_LIST E_a_MAP E_a_SET F_protocolId_a_LIST F_protocolId_a_MAP F_protocolId_a_SET A_a_VALUES S__VALUES S_LIST S_MAP S_SET (by first | assumption | rfl | decide)) hZ (hw _ (List.mem_of_getElem? (i := 4) rfl)) (hw _ (List.mem_of_getElem? (i := 3) rfl)) (by decide) (by decide)) (g := (mkF m 31 #[.val (.int p0), .val (.int p1), .val (.int v11_1), .val (.int (34 : Int32)), .unset, .unset] [(.int (34 : Int32))])) rfl (by rw [hml]; rfl) (argsL := [(.int (34 : Int32))]) (rest := []) (lenOf pd_1 rfl) rfl (by show 2 * 0 + _ ≤ _; exact Nat.le_of_eq rfl) (hb hby at_31) (fun _ _ => ⟨rfl, e0, (by decide : 0 + 1 ≤ _), (by decide : 0 + 3 ≤ _)⟩)
        dsimp only [Pt.U, Pt.locs, Pt.cells, Pt.slots] at X44 l44 y44 z44 st44 hQ44
        subst l44 y44 z44
        obtain ⟨rfl, Nq44, Kq44⟩ := hQ44
        have N44 := Fr.app N0 Nq44
        have S__VALUES := own_sta_keep S__VALUES Kq44 all0
        have S_LIST := own_sta_keep S_LIST Kq44 all0
        have S_MAP := own_sta_keep S_MAP Kq44 all0
        have S_SET := own_sta_keep S_SET Kq44 all0
        have E_a_VALUES := E_a_VALUES.keep Kq44
        have E_a_LIST := E_a_LIST.keep Kq44
        have E_a_MAP := E_a_MAP.keep Kq44
        have E_a_SET := E_a_SET.keep Kq44
        have F_protocolId_a_LIST := F_protocolId_a_LIST.keep Kq44 nin0
        have F_protocolId_a_MAP := F_protocolId_a_MAP.keep Kq44 nin0
        have F_protocolId_a_SET := F_protocolId_a_SET.keep Kq44 nin0
        have A_a_VALUES := A_a_VALUES.keep Kq44 nin0
        have K44 := (Keep.refl h0 []).trans Kq44 all0
        refine Ends.step st44 ?_
        show Ends p e below QQ (T44.setTop (mkF m 34 #[.val (.int p0), .val (.int p1), .val (.int v11_1), .val (.int (34 : Int32)), .unset, .unset] [(.ref a_SET)]))
        refine Ends.step (fun _ k => XS.astore X44.here hx rfl (hb hby at_34) rfl rfl (l' := #[.val (.int p0), .val (.int p1), .val (.int v11_1), .val (.int (34 : Int32)), .val (.ref a_SET), .unset]) rfl k) ?_
        show Ends p e below QQ (T44.setTop (mkF m 36 #[.val (.int p0), .val (.int p1), .val (.int v11_1), .val (.int (34 : Int32)), .val (.ref a_SET), .unset] []))
        refine Ends.step (fun _ k => XS.iloadN X44.here hx rfl (hb hby at_36) rfl k) ?_
        show Ends p e below QQ (T44.setTop (mkF m 37 #[.val (.int p0), .val (.int p1), .val (.int v11_1), .val (.int (34 : Int32)), .val (.ref a_SET), .unset] [(.int (34 : Int32))]))
        refine Ends.step (fun _ k => XT.bipushV X44.here hx rfl (32 : Int32) (hb hby at_37) rfl k) ?_
        show Ends p e below QQ (T44.setTop (mkF m 39 #[.val (.int p0), .val (.int p1), .val (.int v11_1), .val (.int (34 : Int32)), .val (.ref a_SET), .unset] [(.int (32 : Int32)), (.int (34 : Int32))]))
        refine Ends.step (fun _ k => XS.icmpYes X44.here hx rfl (pc0 := 39) (pc' := 50) rfl (hb hby at_39) rfl (XT.ii_ne_t (by decide)) (by decide) (by decide) k) ?_
        show Ends p e below QQ (T44.setTop (mkF m 50 #[.val (.int p0), .val (.int p1), .val (.int v11_1), .val (.int (34 : Int32)), .val (.ref a_SET), .unset] []))
        refine Ends.step (fun _ k => XS.iloadN X44.here hx rfl (hb hby at_50) rfl k) ?_
        show Ends p e below QQ (T44.setTop (mkF m 51 #[.val (.int p0), .val (.int p1), .val (.int v11_1), .val (.int (34 : Int32)), .val (.ref a_SET), .unset] [(.int (34 : Int32))]))
        refine Ends.step (fun _ k => XT.bipushV X44.here hx rfl (33 : Int32) (hb hby at_51) rfl k) ?_
        show Ends p e below QQ (T44.setTop (mkF m 53 #[.val (.int p0), .val (.int p1), .val (.int v11_1), .val (.int (34 : Int32)), .val (.ref a_SET), .unset] [(.int (33 : Int32)), (.int (34 : Int32))]))
        refine Ends.step (fun _ k => XS.icmpYes X44.here hx rfl (pc0 := 53) (pc' := 64) rfl (hb hby at_53) rfl (XT.ii_ne_t (by decide)) (by decide) (by decide) k) ?_
        show Ends p e below QQ (T44.setTop (mkF m 64 #[.val (.int p0), .val (.int p1), .val (.int v11_1), .val (.int (34 : Int32)), .val (.ref a_SET), .unset] []))
        refine Ends.step (fun _ k => XS.iloadN X44.here hx rfl (hb hby at_64) rfl k) ?_
        show Ends p e below QQ (T44.setTop (mkF m 65 #[.val (.int p0), .val (.int p1), .val (.int v11_1), .val (.int (34 : Int32)), .val (.ref a_SET), .unset] [(.int (34 : Int32))]))
        refine Ends.step (fun _ k => XT.bipushV X44.here hx rfl (34 : Int32) (hb hby at_65) rfl k) ?_
        show Ends p e below QQ (T44.setTop (mkF m 67 #[.val (.int p0), .val (.int p1), .val (.int v11_1), .val (.int (34 : Int32)), .val (.ref a_SET), .unset] [(.int (34 : Int32)), (.int (34 : Int32))]))
        refine Ends.step (fun _ k => XS.icmpNo X44.here hx rfl (hb hby at_67) rfl (XT.ii_ne_f (by decide)) k) ?_
        show Ends p e below QQ (T44.setTop (mkF m 70 #[.val (.int p0), .val (.int p1), .val (.int v11_1), .val (.int (34 : Int32)), .val (.ref a_SET), .unset] []))
        obtain ⟨T45, X45, e45, st45⟩ := getS2 X44 hx hZ hown (host := "") (Or.inl (hw _ (List.mem_of_getElem? (i := 25) rfl))) Via.refl rfl S_SET (g := (mkF m 70 #[.val (.int p0), .val (.int p1), .val (.int v11_1), .val (.int (34 : Int32)), .val (.ref a_SET), .unset] [])) rfl (hb hby at_70)
        refine Ends.step st45 ?_
        show Ends p e below QQ (T45.setTop (mkF m 73 #[.val (.int p0), .val (.int p1), .val (.int v11_1), .val (.int (34 : Int32)), .val (.ref a_SET), .unset] [(.ref a_SET)]))
        refine Ends.step (fun _ k => XS.astore X45.here hx rfl (hb hby at_73) rfl rfl (l' := #[.val (.int p0), .val (.int p1), .val (.int v11_1), .val (.int (34 : Int32)), .val (.ref a_SET), .val (.ref a_SET)]) rfl k) ?_
        show Ends p e below QQ (T45.setTop (mkF m 75 #[.val (.int p0), .val (.int p1), .val (.int v11_1), .val (.int (34 : Int32)), .val (.ref a_SET), .val (.ref a_SET)] []))
        refine Ends.step (fun _ k => XS.goto X45.here hx rfl (pc0 := 75) (pc' := 81) rfl (hb hby at_75) (by decide) (by decide) k) ?_
        show Ends p e below QQ (T45.setTop (mkF m 81 #[.val (.int p0), .val (.int p1), .val (.int v11_1), .val (.int (34 : Int32)), .val (.ref a_SET), .val (.ref a_SET)] []))
        refine Ends.step (fun _ k => XS.aload X45.here hx rfl (hb hby at_81) rfl rfl k) ?_
        show Ends p e below QQ (T45.setTop (mkF m 83 #[.val (.int p0), .val (.int p1), .val (.int v11_1), .val (.int (34 : Int32)), .val (.ref a_SET), .val (.ref a_SET)] [(.ref a_SET)]))
        refine Ends.step (fun _ k => XS.aload X45.here hx rfl (hb hby at_83) rfl rfl k) ?_
        show Ends p e below QQ (T45.setTop (mkF m 85 #[.val (.int p0), .val (.int p1), .val (.int v11_1), .val (.int (34 : Int32)), .val (.ref a_SET), .val (.ref a_SET)] [(.ref a_SET), (.ref a_SET)]))
        refine Ends.step (fun _ k => Jvm.RoadKit.acmp (g := (mkF m 85 #[.val (.int p0), .val (.int p1), .val (.int v11_1), .val (.int (34 : Int32)), .val (.ref a_SET), .val (.ref a_SET)] [(.ref a_SET), (.ref a_SET)])) X45 hx rfl rfl rfl (pc0 := 85) (pc' := 90) (same := true) rfl (hb hby at_85) rfl (decide_eq_true rfl) (by decide) (by decide) k) ?_
        show Ends p e below QQ (T45.setTop (mkF m 90 #[.val (.int p0), .val (.int p1), .val (.int v11_1), .val (.int (34 : Int32)), .val (.ref a_SET), .val (.ref a_SET)] []))
        refine Ends.step (fun _ k => XS.aload X45.here hx rfl (hb hby at_90) rfl rfl k) ?_
        show Ends p e below QQ (T45.setTop (mkF m 92 #[.val (.int p0), .val (.int p1), .val (.int v11_1), .val (.int (34 : Int32)), .val (.ref a_SET), .val (.ref a_SET)] [(.ref a_SET)]))
        refine Ends.step (fun _ k => XS.ifnullNo X45.here hx rfl (hb hby at_92) rfl k) ?_
        show Ends p e below QQ (T45.setTop (mkF m 95 #[.val (.int p0), .val (.int p1), .val (.int v11_1), .val (.int (34 : Int32)), .val (.ref a_SET), .val (.ref a_SET)] []))
        refine Ends.step (fun _ k => XS.aload X45.here hx rfl (hb hby at_95) rfl rfl k) ?_
        show Ends p e below QQ (T45.setTop (mkF m 97 #[.val (.int p0), .val (.int p1), .val (.int v11_1), .val (.int (34 : Int32)), .val (.ref a_SET), .val (.ref a_SET)] [(.ref a_SET)]))
        obtain ⟨cq46, kq46, q46a, q46b, q46c⟩ := isOf hZ e45 E_a_SET
        obtain ⟨_, _, ⟨T46, L46, k46, n46⟩, -, X46, ⟨Lc46, hQ46, l46, y46, z46⟩, st46⟩ := X45.virtualBack hx (y := (⟨"com/example/nuntius/nuntius/schema/CollectionType$Kind", "protocolId", "()I"⟩ : MethodName)) (z := (⟨"com/example/nuntius/nuntius/schema/CollectionType$Kind", "protocolId", "()I"⟩ : MethodName)) hown (mvT hZ (hw _ (List.mem_of_getElem? (i := 26) rfl))) (mvT hZ (hw _ (List.mem_of_getElem? (i := 27) rfl))) (notFace_of_selects (args := #[]) (mvT hZ (hw _ (List.mem_of_getElem? (i := 29) rfl)))) (mvT hZ (hw _ (List.mem_of_getElem? (i := 29) rfl))) (mvT hZ (hw _ (List.mem_of_getElem? (i := 28) rfl))) (by decide) (backOf (W := 0) (rm3 l Z a0 hw [] a_SET (34 : Int32) T44.heap n0 (Nat.le_trans Z0 K44.1) F_protocolId_a_SET) hZ (hw _ (List.mem_of_getElem? (i := 30) rfl)) (hw _ (List.mem_of_getElem? (i := 3) rfl)) (by decide) (by decide)) q46a q46c (g := (mkF m 97 #[.val (.int p0), .val (.int p1), .val (.int v11_1), .val (.int (34 : Int32)), .val (.ref a_SET), .val (.ref a_SET)] [(.ref a_SET)])) rfl (by rw [hml]; rfl) (Steps.refl _) (argsL := []) (rest := []) (lenOf pd_2 rfl) rfl (by show 2 * 0 + _ ≤ _; exact Nat.le_of_eq rfl) (hb hby at_97) (fun _ _ => ⟨rfl, e45, (by decide : 1 + 0 ≤ _), (by decide : 3 + 0 ≤ _)⟩)
        dsimp only [Pt.U, Pt.locs, Pt.cells, Pt.slots] at X46 l46 y46 z46 st46 hQ46
        subst l46 y46 z46
        obtain ⟨rfl, Nq46, hh46⟩ := hQ46
        have N46 := Fr.app N44 Nq46
        refine Ends.step (fun _ k => st46.trans k) ?_
        show Ends p e below QQ (T46.setTop (mkF m 100 #[.val (.int p0), .val (.int p1), .val (.int v11_1), .val (.int (34 : Int32)), .val (.ref a_SET), .val (.ref a_SET)] [(.int (34 : Int32))]))
        refine Ends.step (fun _ k => XS.iloadN X46.here hx rfl (hb hby at_100) rfl k) ?_
        show Ends p e below QQ (T46.setTop (mkF m 101 #[.val (.int p0), .val (.int p1), .val (.int v11_1), .val (.int (34 : Int32)), .val (.ref a_SET), .val (.ref a_SET)] [(.int (34 : Int32)), (.int (34 : Int32))]))
        refine Ends.step (fun _ k => XS.icmpNo X46.here hx rfl (hb hby at_101) rfl (XT.ii_ne_f (by decide)) k) ?_
        show Ends p e below QQ (T46.setTop (mkF m 104 #[.val (.int p0), .val (.int p1), .val (.int v11_1), .val (.int (34 : Int32)), .val (.ref a_SET), .val (.ref a_SET)] []))
        refine Ends.step (fun _ k => XT.iconstV X46.here hx rfl (1 : Int32) (hb hby at_104) rfl k) ?_
        show Ends p e below QQ (T46.setTop (mkF m 105 #[.val (.int p0), .val (.int p1), .val (.int v11_1), .val (.int (34 : Int32)), .val (.ref a_SET), .val (.ref a_SET)] [(.int (1 : Int32))]))
        refine Ends.step (fun _ k => XS.goto X46.here hx rfl (pc0 := 105) (pc' := 109) rfl (hb hby at_105) (by decide) (by decide) k) ?_
        show Ends p e below QQ (T46.setTop (mkF m 109 #[.val (.int p0), .val (.int p1), .val (.int v11_1), .val (.int (34 : Int32)), .val (.ref a_SET), .val (.ref a_SET)] [(.int (1 : Int32))]))
        exact Ends.fin (some (.int (1 : Int32))) X46 hQQ (fun h => by rw [Bd.returns] at h; cases h) Bd.notSynchronized (fun _ hr => retOut X46 hx (t := .boolean) Bd.returns rfl (Or.inl ⟨rfl, (by simp), _, rfl⟩) (hb hby at_109) hr) hh46 (by decide) (by decide) ⟨(by simp only [f0, dv11_1, dv29_2, if_neg hs31_35, if_neg hs31_39, if_pos hs31_43]), N46, K44⟩
      · show Ends p e below QQ (s₁.setTop (mkF m 31 #[.val (.int p0), .val (.int p1), .val (.int v11_1), .val (.int v29_2), .unset, .unset] [(.int v29_2)]))
        show Ends p e below QQ (s₁.setTop (mkF m 31 #[.val (.int p0), .val (.int p1), .val (.int v11_1), .val (.int v29_2), .unset, .unset] [(.int v29_2)]))
        obtain ⟨_, _, ⟨T47, L47, k47, n47⟩, -, X47, ⟨Lc47, hQ47, l47, y47, z47⟩, st47⟩ := Jvm.LawKit.callS X0 hx (y := (⟨"com/example/nuntius/nuntius/schema/CollectionType$Kind", "ofProtocolId", "(I)Lcom/example/nuntius/nuntius/schema/CollectionType$Kind;"⟩ : MethodName)) hown (mvT hZ (hw _ (List.mem_of_getElem? (i := 1) rfl))) (mvT hZ (hw _ (List.mem_of_getElem? (i := 2) rfl))) (mvT hZ (hw _ (List.mem_of_getElem? (i := 3) rfl))) (mvT hZ (hw _ (List.mem_of_getElem? (i := 4) rfl))) (by decide) (backOf (W := 0) (rm1d l Z a0 hw [] v29_2 a_VALUES a_LIST a_MAP a_SET k_a_VALUES h0 n0 (Nat.le_trans Z0 (Keep.refl h0 []).1) E_a_VALUES E_a_LIST E_a_MAP E_a_SET F_protocolId_a_LIST F_protocolId_a_MAP F_protocolId_a_SET A_a_VALUES S__VALUES S_LIST S_MAP S_SET (by first | assumption | rfl | decide) (by first | assumption | rfl | decide) (by first | assumption | rfl | decide)) hZ (hw _ (List.mem_of_getElem? (i := 4) rfl)) (hw _ (List.mem_of_getElem? (i := 3) rfl)) (by decide) (by decide)) (g := (mkF m 31 #[.val (.int p0), .val (.int p1), .val (.int v11_1), .val (.int v29_2), .unset, .unset] [(.int v29_2)])) rfl (by rw [hml]; rfl) (argsL := [(.int v29_2)]) (rest := []) (lenOf pd_1 rfl) rfl (by show 2 * 0 + _ ≤ _; exact Nat.le_of_eq rfl) (hb hby at_31) (fun _ _ => ⟨rfl, e0, (by decide : 0 + 1 ≤ _), (by decide : 0 + 3 ≤ _)⟩)
        dsimp only [Pt.U, Pt.locs, Pt.cells, Pt.slots] at X47 l47 y47 z47 st47 hQ47
        subst l47 y47 z47
        obtain ⟨rfl, Nq47, Kq47⟩ := hQ47
        have N47 := Fr.app N0 Nq47
        have S__VALUES := own_sta_keep S__VALUES Kq47 all0
        have S_LIST := own_sta_keep S_LIST Kq47 all0
        have S_MAP := own_sta_keep S_MAP Kq47 all0
        have S_SET := own_sta_keep S_SET Kq47 all0
        have E_a_VALUES := E_a_VALUES.keep Kq47
        have E_a_LIST := E_a_LIST.keep Kq47
        have E_a_MAP := E_a_MAP.keep Kq47
        have E_a_SET := E_a_SET.keep Kq47
        have F_protocolId_a_LIST := F_protocolId_a_LIST.keep Kq47 nin0
        have F_protocolId_a_MAP := F_protocolId_a_MAP.keep Kq47 nin0
        have F_protocolId_a_SET := F_protocolId_a_SET.keep Kq47 nin0
        have A_a_VALUES := A_a_VALUES.keep Kq47 nin0
        have K47 := (Keep.refl h0 []).trans Kq47 all0
        refine Ends.step st47 ?_
        show Ends p e below QQ (T47.setTop (mkF m 34 #[.val (.int p0), .val (.int p1), .val (.int v11_1), .val (.int v29_2), .unset, .unset] [.null]))
        refine Ends.step (fun _ k => XS.astore X47.here hx rfl (hb hby at_34) rfl rfl (l' := #[.val (.int p0), .val (.int p1), .val (.int v11_1), .val (.int v29_2), .val .null, .unset]) rfl k) ?_
        show Ends p e below QQ (T47.setTop (mkF m 36 #[.val (.int p0), .val (.int p1), .val (.int v11_1), .val (.int v29_2), .val .null, .unset] []))
        refine Ends.step (fun _ k => XS.iloadN X47.here hx rfl (hb hby at_36) rfl k) ?_
        show Ends p e below QQ (T47.setTop (mkF m 37 #[.val (.int p0), .val (.int p1), .val (.int v11_1), .val (.int v29_2), .val .null, .unset] [(.int v29_2)]))
        refine Ends.step (fun _ k => XT.bipushV X47.here hx rfl (32 : Int32) (hb hby at_37) rfl k) ?_
        show Ends p e below QQ (T47.setTop (mkF m 39 #[.val (.int p0), .val (.int p1), .val (.int v11_1), .val (.int v29_2), .val .null, .unset] [(.int (32 : Int32)), (.int v29_2)]))
        refine Ends.step (fun _ k => XS.icmpYes X47.here hx rfl (pc0 := 39) (pc' := 50) rfl (hb hby at_39) rfl (XT.ii_ne_t hs31_35) (by decide) (by decide) k) ?_
        show Ends p e below QQ (T47.setTop (mkF m 50 #[.val (.int p0), .val (.int p1), .val (.int v11_1), .val (.int v29_2), .val .null, .unset] []))
        refine Ends.step (fun _ k => XS.iloadN X47.here hx rfl (hb hby at_50) rfl k) ?_
        show Ends p e below QQ (T47.setTop (mkF m 51 #[.val (.int p0), .val (.int p1), .val (.int v11_1), .val (.int v29_2), .val .null, .unset] [(.int v29_2)]))
        refine Ends.step (fun _ k => XT.bipushV X47.here hx rfl (33 : Int32) (hb hby at_51) rfl k) ?_
        show Ends p e below QQ (T47.setTop (mkF m 53 #[.val (.int p0), .val (.int p1), .val (.int v11_1), .val (.int v29_2), .val .null, .unset] [(.int (33 : Int32)), (.int v29_2)]))
        refine Ends.step (fun _ k => XS.icmpYes X47.here hx rfl (pc0 := 53) (pc' := 64) rfl (hb hby at_53) rfl (XT.ii_ne_t hs31_39) (by decide) (by decide) k) ?_
        show Ends p e below QQ (T47.setTop (mkF m 64 #[.val (.int p0), .val (.int p1), .val (.int v11_1), .val (.int v29_2), .val .null, .unset] []))
        refine Ends.step (fun _ k => XS.iloadN X47.here hx rfl (hb hby at_64) rfl k) ?_
        show Ends p e below QQ (T47.setTop (mkF m 65 #[.val (.int p0), .val (.int p1), .val (.int v11_1), .val (.int v29_2), .val .null, .unset] [(.int v29_2)]))
        refine Ends.step (fun _ k => XT.bipushV X47.here hx rfl (34 : Int32) (hb hby at_65) rfl k) ?_
        show Ends p e below QQ (T47.setTop (mkF m 67 #[.val (.int p0), .val (.int p1), .val (.int v11_1), .val (.int v29_2), .val .null, .unset] [(.int (34 : Int32)), (.int v29_2)]))
        refine Ends.step (fun _ k => XS.icmpYes X47.here hx rfl (pc0 := 67) (pc' := 78) rfl (hb hby at_67) rfl (XT.ii_ne_t hs31_43) (by decide) (by decide) k) ?_
        show Ends p e below QQ (T47.setTop (mkF m 78 #[.val (.int p0), .val (.int p1), .val (.int v11_1), .val (.int v29_2), .val .null, .unset] []))
        refine Ends.step (fun _ k => XS.aconstNull X47.here hx rfl (hb hby at_78) k) ?_
        show Ends p e below QQ (T47.setTop (mkF m 79 #[.val (.int p0), .val (.int p1), .val (.int v11_1), .val (.int v29_2), .val .null, .unset] [.null]))
        refine Ends.step (fun _ k => XS.astore X47.here hx rfl (hb hby at_79) rfl rfl (l' := #[.val (.int p0), .val (.int p1), .val (.int v11_1), .val (.int v29_2), .val .null, .val .null]) rfl k) ?_
        show Ends p e below QQ (T47.setTop (mkF m 81 #[.val (.int p0), .val (.int p1), .val (.int v11_1), .val (.int v29_2), .val .null, .val .null] []))
        refine Ends.step (fun _ k => XS.aload X47.here hx rfl (hb hby at_81) rfl rfl k) ?_
        show Ends p e below QQ (T47.setTop (mkF m 83 #[.val (.int p0), .val (.int p1), .val (.int v11_1), .val (.int v29_2), .val .null, .val .null] [.null]))
        refine Ends.step (fun _ k => XS.aload X47.here hx rfl (hb hby at_83) rfl rfl k) ?_
        show Ends p e below QQ (T47.setTop (mkF m 85 #[.val (.int p0), .val (.int p1), .val (.int v11_1), .val (.int v29_2), .val .null, .val .null] [.null, .null]))
        refine Ends.step (fun _ k => Jvm.RoadKit.acmp (g := (mkF m 85 #[.val (.int p0), .val (.int p1), .val (.int v11_1), .val (.int v29_2), .val .null, .val .null] [.null, .null])) X47 hx rfl rfl rfl (pc0 := 85) (pc' := 90) (same := true) rfl (hb hby at_85) rfl (decide_eq_true rfl) (by decide) (by decide) k) ?_
        show Ends p e below QQ (T47.setTop (mkF m 90 #[.val (.int p0), .val (.int p1), .val (.int v11_1), .val (.int v29_2), .val .null, .val .null] []))
        refine Ends.step (fun _ k => XS.aload X47.here hx rfl (hb hby at_90) rfl rfl k) ?_
        show Ends p e below QQ (T47.setTop (mkF m 92 #[.val (.int p0), .val (.int p1), .val (.int v11_1), .val (.int v29_2), .val .null, .val .null] [.null]))
        refine Ends.step (fun _ k => XS.ifnullYes X47.here hx rfl (pc0 := 92) (pc' := 104) rfl (hb hby at_92) rfl (by decide) (by decide) k) ?_
        show Ends p e below QQ (T47.setTop (mkF m 104 #[.val (.int p0), .val (.int p1), .val (.int v11_1), .val (.int v29_2), .val .null, .val .null] []))
        refine Ends.step (fun _ k => XT.iconstV X47.here hx rfl (1 : Int32) (hb hby at_104) rfl k) ?_
        show Ends p e below QQ (T47.setTop (mkF m 105 #[.val (.int p0), .val (.int p1), .val (.int v11_1), .val (.int v29_2), .val .null, .val .null] [(.int (1 : Int32))]))
        refine Ends.step (fun _ k => XS.goto X47.here hx rfl (pc0 := 105) (pc' := 109) rfl (hb hby at_105) (by decide) (by decide) k) ?_
        show Ends p e below QQ (T47.setTop (mkF m 109 #[.val (.int p0), .val (.int p1), .val (.int v11_1), .val (.int v29_2), .val .null, .val .null] [(.int (1 : Int32))]))
        exact Ends.fin (some (.int (1 : Int32))) X47 hQQ (fun h => by rw [Bd.returns] at h; cases h) Bd.notSynchronized (fun _ hr => retOut X47 hx (t := .boolean) Bd.returns rfl (Or.inl ⟨rfl, (by simp), _, rfl⟩) (hb hby at_109) hr) rfl (by decide) (by decide) ⟨(by simp only [f0, dv11_1, dv29_2, if_neg hs31_35, if_neg hs31_39, if_neg hs31_43]), N47, K47⟩
theorem own_law (a b : Int32) : f0 a b = 1 := rfl
set_option maxRecDepth 65536 in
set_option maxHeartbeats 40000000 in
theorem comes_1 {Post : Tables → Env → Array Value → State → Outcome → State → Prop} (hpost : ∀ tb e args s v u, (limb_1_1.after args s (.returned v) u = true ∧ limb_1_2.after args s (.returned v) u = true ∧ True) → FrameEnd s (.returned v) u (Jvm.fieldLocs frame_1_writes args s ++ Jvm.arrayLocs frame_1_arrays args s ++ Jvm.staticLocs frame_1_statics s) 16 128 → Post tb e args s (.returned v) u) :
    ArmFor flags0 classFile x code maxLocals ret World_1 tables_1 room_1 Calls_1 rest_1 Pre_1 Post := by
  intro l hfl _ _ p e ha hc hk s m args below hf hA hF happ hP
  obtain ⟨hcalls, hrest, hpre⟩ := hP
  obtain ⟨-, -, -, hnamed, -, -, -, hat⟩ := (Spec.applies_iff hf).mp happ
  obtain ⟨hg, hn⟩ := and_e (Cond.before_iff.mp (show (Jvm.Cond.and given_1 narrow_1).before args s = true from hpre))
  obtain ⟨gl1, gr1⟩ := and_e hg
  obtain ⟨gl2, gr2⟩ := and_e gr1
  obtain ⟨w0, w1, rfl⟩ : ∃ w0 w1 : Value, args = #[w0, w1] := by
    have hs : args.size = 2 := by simpa [Cond.value, given_1] using gl1
    obtain ⟨L⟩ := args
    match L, hs with
    | [w0, w1], _ => exact ⟨w0, w1, rfl⟩
  have hw := fun d (hd : d ∈ tables_1) => atoms_spec (ws := Jvm.Cond.code x code maxLocals ret :: tables_1) hat d (List.mem_cons_of_mem _ hd)
  have hfit : Fit s := fun {y c} hc i hi => by
    obtain ⟨ha, rfl⟩ := Array.getElem?_eq_some_iff.mp hc
    have q := List.all_eq_true.mp ((Array.all_eq_true_iff_forall_mem.mp hF) _ (Array.getElem_mem ha)) i (List.mem_range.mpr hi)
    simpa [Array.getElem?_eq_getElem hi] using q
  obtain ⟨i0, ei0⟩ := is_v gl2
  obtain rfl : w0 = (.int i0) := Option.some.inj ei0
  obtain ⟨i1, ei1⟩ := is_v gr2
  obtain rfl : w1 = (.int i1) := Option.some.inj ei1
  obtain ⟨nl1, nr1⟩ := and_e hn
  obtain ⟨nl2, nr2⟩ := and_e nr1
  obtain ⟨nl3, nr3⟩ := and_e nr2
  obtain ⟨nl4, nr4⟩ := and_e nr3
  obtain ⟨nl5, nr5⟩ := and_e nr4
  obtain ⟨nl6, nr6⟩ := and_e nr5
  obtain ⟨nl7, nr7⟩ := and_e nr6
  obtain ⟨nl8, nr8⟩ := and_e nr7
  obtain ⟨nl9, nr9⟩ := and_e nr8
  obtain ⟨nl10, nr10⟩ := and_e nr9
  obtain ⟨nl11, nr11⟩ := and_e nr10
  obtain ⟨a_VALUES, ev_a_VALUES⟩ := arr_v nl1
  obtain ⟨cl_a_VALUES, Ar_a_VALUES⟩ := Arr.start ev_a_VALUES nl1
  have E_a_VALUES := Exa.start ev_a_VALUES nl2
  obtain ⟨a_LIST, ev_a_LIST⟩ := exa_v nl4
  have E_a_LIST := Exa.start ev_a_LIST nl4
  obtain ⟨a_MAP, ev_a_MAP⟩ := exa_v nl6
  have E_a_MAP := Exa.start ev_a_MAP nl6
  obtain ⟨a_SET, ev_a_SET⟩ := exa_v nl8
  have E_a_SET := Exa.start ev_a_SET nl8
  obtain ⟨lt_a_VALUES, sz_a_VALUES⟩ := own_len nl3 ev_a_VALUES Ar_a_VALUES
  have at_a_VALUES_0 : cl_a_VALUES.slots[(0 : Int32).toNatClampNeg]? = some (.ref a_LIST) := own_elem nl5 ev_a_VALUES Ar_a_VALUES (ev_a_LIST)
  have at_a_VALUES_1 : cl_a_VALUES.slots[(1 : Int32).toNatClampNeg]? = some (.ref a_MAP) := own_elem nl7 ev_a_VALUES Ar_a_VALUES (ev_a_MAP)
  have at_a_VALUES_2 : cl_a_VALUES.slots[(2 : Int32).toNatClampNeg]? = some (.ref a_SET) := own_elem nl9 ev_a_VALUES Ar_a_VALUES (ev_a_SET)
  have F_protocolId_a_LIST : Fld s s.heap a_LIST "com/example/nuntius/nuntius/schema/CollectionType$Kind" "protocolId" "I" (.int (32 : Int32)) := own_fld nl10 ev_a_LIST rfl
  have F_protocolId_a_MAP : Fld s s.heap a_MAP "com/example/nuntius/nuntius/schema/CollectionType$Kind" "protocolId" "I" (.int (33 : Int32)) := own_fld nl11 ev_a_MAP rfl
  have F_protocolId_a_SET : Fld s s.heap a_SET "com/example/nuntius/nuntius/schema/CollectionType$Kind" "protocolId" "I" (.int (34 : Int32)) := own_fld nr11 ev_a_SET rfl
  have A_a_VALUES : Arv s s.heap a_VALUES cl_a_VALUES.cls (.object "com/example/nuntius/nuntius/schema/CollectionType$Kind") (3 : Int32) [(.ref a_LIST), (.ref a_MAP), (.ref a_SET)] .null := Arv.start hfit Ar_a_VALUES lt_a_VALUES sz_a_VALUES (by decide) rfl ⟨at_a_VALUES_0, at_a_VALUES_1, at_a_VALUES_2, trivial⟩
  have S__VALUES := Sta.start ev_a_VALUES (Or.inl (hw _ (List.mem_of_getElem? (i := 20) rfl)))
  have S_LIST := Sta.start ev_a_LIST (Or.inr ⟨(hw _ (List.mem_of_getElem? (i := 3) rfl)), (hw _ (List.mem_of_getElem? (i := 17) rfl))⟩)
  have S_MAP := Sta.start ev_a_MAP (Or.inr ⟨(hw _ (List.mem_of_getElem? (i := 3) rfl)), (hw _ (List.mem_of_getElem? (i := 18) rfl))⟩)
  have S_SET := Sta.start ev_a_SET (Or.inr ⟨(hw _ (List.mem_of_getElem? (i := 3) rfl)), (hw _ (List.mem_of_getElem? (i := 19) rfl))⟩)
  obtain ⟨n, o, h1, h2, h3, _, L, rfl, hQ, hq⟩ := rm0 l s _ hw tables_1 i0 i1 a_VALUES a_LIST a_MAP a_SET cl_a_VALUES.cls s.heap s.heap.size (Nat.le_refl _) E_a_VALUES E_a_LIST E_a_MAP E_a_SET F_protocolId_a_LIST F_protocolId_a_MAP F_protocolId_a_SET A_a_VALUES S__VALUES S_LIST S_MAP S_SET p e ha hc hk s m _ below hf ((Spec.applies_iff_loose hf).mp happ).1 ⟨rfl, State.Warmed39.refl s, rfl⟩ trivial
  obtain ⟨hv, N, -⟩ := hQ
  have hlaw : (f0 i0 i1) = 1 := own_law i0 i1
  rw [hlaw] at hv
  subst hv
  refine ⟨n, _, h1, h2, h3, hpost _ _ _ _ _ _ ⟨Cond.after_iff.mpr rfl, Cond.after_iff.mpr (eq_i res_at (Term.int_eval (1)) rfl), trivial⟩ ⟨hq.1, hq.2.1, (hq.2.2.sift fun y hy => Or.inr (N y hy)).mono (by decide) (by decide)⟩⟩
theorem main_1_1 : Claimed_1_1 := comes_1 fun _ _ _ _ _ _ h hF => ⟨h.1, hF⟩
theorem main_1_2 : Claimed_1_2 := comes_1 fun _ _ _ _ _ _ h hF => ⟨h.2.1, hF⟩
end Jvm.Pilot.@@N@@
namespace Jvm.Pilot.@@N@@
open Jvm Jvm.ClassFile Sem Op Lib Jvm.Free Jvm.Stand Jvm.Pilot.@@N@@.Jvm.D
/-! MADE BY PROGRAM (witnessworld.py) out of the Statement's table words and the real class files: 13 classes; the members and pool entries that the words name. The judged class is class 1, her method 1. -/
namespace start1
open Jvm.ClassFile
def u (s : String) : CpInfo := .utf8 (stringToUtf16 s)
/-- a pool by its gaps: so many unusable entries, then the entry; so many at the end -/
def gap : Nat → List CpInfo → List CpInfo
  | 0, r => r
  | n + 1, r => .unusable :: gap n r
def poolList (es : List (Nat × CpInfo)) (last : Nat) : List CpInfo := es.foldr (fun e r => gap e.1 (e.2 :: r)) (gap last [])
def pool (es : List (Nat × CpInfo)) (last : Nat) : Array CpInfo := ⟨poolList es last⟩
def fileOf (pool : Array CpInfo) (this : Nat) (attrs : Array Attribute := #[]) (ms : Array MethodInfo := #[]) (fl : Nat := 33) (sup : Nat := 0) (ifs : Array Nat := #[]) (fds : Array FieldInfo := #[]) : ClassFile where
  minorVersion := 0
  majorVersion := 65
  constantPool := pool
  accessFlags := fl
  thisClass := this
  superClass := sup
  interfaces := ifs
  fields := fds
  methods := ms
  attributes := attrs
def plain (name : String) (sup : Option ClassId) : Class where
  name := name
  kind := .ordinary
  loader := none
  accessFlags := 33
  super := sup
  interfaces := #[]
  cf := none
  fields := #[]
  methods := #[]
  instanceTypes := #[]
  staticTypes := #[]
  resolved := #[]
  callSites := []
  init := .initialized
  statics := none
  mirror := none

def pool0 : Array CpInfo := pool [(5, u "<init>"), (0, u "()V"), (1, .class_ 10), (1, u "java/lang/Object"), (85, u "clone"), (0, u "()Ljava/lang/Object;")] 26

def k0m0 : Method := { name := "<init>", desc := "()V", sig := { parameters := [], returnType := none }, accessFlags := 1, code := none }
def k0m1 : Method := { name := "clone", desc := "()Ljava/lang/Object;", sig := { parameters := [], returnType := some (.object "java/lang/Object") }, accessFlags := 260, code := none }
/-- java/lang/Object -/
def k0 : Class := { plain "java/lang/Object" none with
  accessFlags := 33
  interfaces := #[]
  cf := some (fileOf pool0 8 #[] #[{ accessFlags := 1, nameIndex := 5, descriptorIndex := 6, attributes := #[] }, { accessFlags := 260, nameIndex := 96, descriptorIndex := 97, attributes := #[] }] 33 0 #[] #[])
  fields := #[]
  methods := #[k0m0, k0m1]
  instanceTypes := #[]
  staticTypes := #[]
  resolved := Array.replicate 124 none
  statics := none }

def pool1 : Array CpInfo := pool [(2, .class_ 4), (1, u "java/lang/Object"), (0, u "<init>"), (0, u "()V"), (0, .integer 2147483647), (0, .methodref 9 10), (0, .class_ 11), (0, .nameAndType 12 13), (0, u "com/example/nuntius/nuntius/schema/CollectionType$Kind"), (0, u "ofProtocolId"), (0, u "(I)Lcom/example/nuntius/nuntius/schema/CollectionType$Kind;"), (0, .fieldref 9 15), (0, .nameAndType 16 17), (0, u "LIST"), (0, u "Lcom/example/nuntius/nuntius/schema/CollectionType$Kind;"), (0, .fieldref 9 19), (0, .nameAndType 20 17), (0, u "MAP"), (0, .fieldref 9 22), (0, .nameAndType 23 17), (0, u "SET"), (0, .methodref 9 25), (0, .nameAndType 26 27), (0, u "protocolId"), (0, u "()I"), (0, .class_ 29), (0, u "com/example/nuntius/nuntius/schema/KindOfProtocolIdPinLaw"), (2, u "law"), (0, u "(II)Z")] 7

def k1m0 : Method := { name := "<init>", desc := "()V", sig := { parameters := [], returnType := none }, accessFlags := 2, code := none }
def k1c1 : Code := { maxStack := 3, maxLocals := 6, code := code, exceptionTable := #[], attributes := #[] }
def k1m1 : Method := { name := "law", desc := "(II)Z", sig := { parameters := [.int, .int], returnType := some .boolean }, accessFlags := 9, code := some k1c1 }
/-- com/example/nuntius/nuntius/schema/KindOfProtocolIdPinLaw -/
def k1 : Class := { plain "com/example/nuntius/nuntius/schema/KindOfProtocolIdPinLaw" (some 0) with
  accessFlags := 49
  interfaces := #[]
  cf := some (fileOf pool1 28 #[] #[{ accessFlags := 2, nameIndex := 5, descriptorIndex := 6, attributes := #[] }, { accessFlags := 9, nameIndex := 32, descriptorIndex := 33, attributes := #[] }] 49 2 #[] #[])
  fields := #[]
  methods := #[k1m0, k1m1]
  instanceTypes := #[]
  staticTypes := #[]
  resolved := Array.replicate 41 none
  statics := none }

def pool2 : Array CpInfo := pool [(1, .class_ 2), (0, u "java/lang/constant/Constable"), (0, .class_ 4), (0, u "java/lang/Object")] 6

/-- java/lang/constant/Constable -/
def k2 : Class := { plain "java/lang/constant/Constable" (some 0) with
  accessFlags := 1537
  interfaces := #[]
  cf := some (fileOf pool2 1 #[] #[] 1537 3 #[] #[])
  fields := #[]
  methods := #[]
  instanceTypes := #[]
  staticTypes := #[]
  resolved := Array.replicate 11 none
  statics := none }

def pool3 : Array CpInfo := pool [(1, .class_ 2), (0, u "java/lang/Comparable"), (0, .class_ 4), (0, u "java/lang/Object")] 7

/-- java/lang/Comparable -/
def k3 : Class := { plain "java/lang/Comparable" (some 0) with
  accessFlags := 1537
  interfaces := #[]
  cf := some (fileOf pool3 1 #[] #[] 1537 3 #[] #[])
  fields := #[]
  methods := #[]
  instanceTypes := #[]
  staticTypes := #[]
  resolved := Array.replicate 12 none
  statics := none }

def pool4 : Array CpInfo := pool [(1, .class_ 2), (0, u "java/io/Serializable"), (0, .class_ 4), (0, u "java/lang/Object")] 2

/-- java/io/Serializable -/
def k4 : Class := { plain "java/io/Serializable" (some 0) with
  accessFlags := 1537
  interfaces := #[]
  cf := some (fileOf pool4 1 #[] #[] 1537 3 #[] #[])
  fields := #[]
  methods := #[]
  instanceTypes := #[]
  staticTypes := #[]
  resolved := Array.replicate 7 none
  statics := none }

def pool5 : Array CpInfo := pool [(2, .class_ 4), (1, u "java/lang/Enum"), (0, u "name"), (0, u "Ljava/lang/String;"), (2, u "ordinal"), (0, u "I"), (1, .class_ 14), (1, u "java/lang/Object"), (4, u "hash"), (86, .class_ 108), (1, u "java/lang/Enum$EnumDesc"), (2, .class_ 112), (0, u "java/lang/constant/Constable"), (0, .class_ 114), (0, u "java/lang/Comparable"), (0, .class_ 116), (0, u "java/io/Serializable")] 87

/-- java/lang/Enum -/
def k5 : Class := { plain "java/lang/Enum" (some 0) with
  accessFlags := 1057
  interfaces := #[2, 3, 4]
  cf := some (fileOf pool5 2 #[.nestMembers #[106]] #[] 1057 12 #[111, 113, 115] #[{ accessFlags := 18, nameIndex := 5, descriptorIndex := 6, attributes := #[] }, { accessFlags := 18, nameIndex := 9, descriptorIndex := 10, attributes := #[] }, { accessFlags := 2, nameIndex := 19, descriptorIndex := 10, attributes := #[] }])
  fields := #[{ name := "name", type := (.object "java/lang/String"), accessFlags := 18, slot := 0, constantValue := 0 }, { name := "ordinal", type := .int, accessFlags := 18, slot := 1, constantValue := 0 }, { name := "hash", type := .int, accessFlags := 2, slot := 2, constantValue := 0 }]
  methods := #[]
  instanceTypes := #[(.object "java/lang/String"), .int, .int]
  staticTypes := #[]
  resolved := Array.replicate 204 none
  statics := none }

def pool6 : Array CpInfo := pool [(1, .class_ 2), (0, u "com/example/nuntius/nuntius/schema/CollectionType$Kind"), (2, u "LIST"), (0, u "Lcom/example/nuntius/nuntius/schema/CollectionType$Kind;"), (2, u "MAP"), (2, u "SET"), (0, .fieldref 1 14), (0, .nameAndType 15 16), (0, u "$VALUES"), (0, u "[Lcom/example/nuntius/nuntius/schema/CollectionType$Kind;"), (0, .methodref 18 19), (0, .class_ 16), (0, .nameAndType 20 21), (0, u "clone"), (0, u "()Ljava/lang/Object;"), (1, .class_ 25), (1, u "java/lang/Enum"), (6, .fieldref 1 33), (0, .nameAndType 34 35), (0, u "protocolId"), (0, u "I"), (2, u "name"), (0, u "Ljava/lang/String;"), (2, u "open"), (2, u "close"), (0, .methodref 1 47), (0, .nameAndType 48 49), (0, u "values"), (0, u "()[Lcom/example/nuntius/nuntius/schema/CollectionType$Kind;"), (29, u "()I"), (0, u "ofProtocolId"), (0, u "(I)Lcom/example/nuntius/nuntius/schema/CollectionType$Kind;"), (7, .class_ 90), (0, u "com/example/nuntius/nuntius/schema/CollectionType")] 2

def k6c0 : Code := { maxStack := 1, maxLocals := 0, code := prog_48_method_1_code, exceptionTable := #[], attributes := #[] }
def k6m0 : Method := { name := "values", desc := "()[Lcom/example/nuntius/nuntius/schema/CollectionType$Kind;", sig := { parameters := [], returnType := some (.array (.object "com/example/nuntius/nuntius/schema/CollectionType$Kind")) }, accessFlags := 9, code := some k6c0 }
def k6c1 : Code := { maxStack := 1, maxLocals := 1, code := prog_48_method_4_code, exceptionTable := #[], attributes := #[] }
def k6m1 : Method := { name := "protocolId", desc := "()I", sig := { parameters := [], returnType := some .int }, accessFlags := 1, code := some k6c1 }
def k6c2 : Code := { maxStack := 2, maxLocals := 6, code := prog_48_method_5_code, exceptionTable := #[], attributes := #[] }
def k6m2 : Method := { name := "ofProtocolId", desc := "(I)Lcom/example/nuntius/nuntius/schema/CollectionType$Kind;", sig := { parameters := [.int], returnType := some (.object "com/example/nuntius/nuntius/schema/CollectionType$Kind") }, accessFlags := 9, code := some k6c2 }
/-- com/example/nuntius/nuntius/schema/CollectionType$Kind -/
def k6 : Class := { plain "com/example/nuntius/nuntius/schema/CollectionType$Kind" (some 5) with
  accessFlags := 16433
  interfaces := #[]
  cf := some (fileOf pool6 1 #[.nestHost 89] #[{ accessFlags := 9, nameIndex := 48, descriptorIndex := 49, attributes := #[] }, { accessFlags := 1, nameIndex := 34, descriptorIndex := 79, attributes := #[] }, { accessFlags := 9, nameIndex := 80, descriptorIndex := 81, attributes := #[] }] 16433 23 #[] #[{ accessFlags := 16409, nameIndex := 5, descriptorIndex := 6, attributes := #[] }, { accessFlags := 16409, nameIndex := 9, descriptorIndex := 6, attributes := #[] }, { accessFlags := 16409, nameIndex := 12, descriptorIndex := 6, attributes := #[] }, { accessFlags := 18, nameIndex := 34, descriptorIndex := 35, attributes := #[] }, { accessFlags := 18, nameIndex := 38, descriptorIndex := 39, attributes := #[] }, { accessFlags := 18, nameIndex := 42, descriptorIndex := 39, attributes := #[] }, { accessFlags := 18, nameIndex := 45, descriptorIndex := 39, attributes := #[] }, { accessFlags := 4122, nameIndex := 15, descriptorIndex := 16, attributes := #[] }])
  fields := #[{ name := "LIST", type := (.object "com/example/nuntius/nuntius/schema/CollectionType$Kind"), accessFlags := 16409, slot := 0, constantValue := 0 }, { name := "MAP", type := (.object "com/example/nuntius/nuntius/schema/CollectionType$Kind"), accessFlags := 16409, slot := 1, constantValue := 0 }, { name := "SET", type := (.object "com/example/nuntius/nuntius/schema/CollectionType$Kind"), accessFlags := 16409, slot := 2, constantValue := 0 }, { name := "protocolId", type := .int, accessFlags := 18, slot := 3, constantValue := 0 }, { name := "name", type := (.object "java/lang/String"), accessFlags := 18, slot := 4, constantValue := 0 }, { name := "open", type := (.object "java/lang/String"), accessFlags := 18, slot := 5, constantValue := 0 }, { name := "close", type := (.object "java/lang/String"), accessFlags := 18, slot := 6, constantValue := 0 }, { name := "$VALUES", type := (.array (.object "com/example/nuntius/nuntius/schema/CollectionType$Kind")), accessFlags := 4122, slot := 3, constantValue := 0 }]
  methods := #[k6m0, k6m1, k6m2]
  instanceTypes := #[(.object "java/lang/String"), .int, .int, .int, (.object "java/lang/String"), (.object "java/lang/String"), (.object "java/lang/String")]
  staticTypes := #[(.object "com/example/nuntius/nuntius/schema/CollectionType$Kind"), (.object "com/example/nuntius/nuntius/schema/CollectionType$Kind"), (.object "com/example/nuntius/nuntius/schema/CollectionType$Kind"), (.array (.object "com/example/nuntius/nuntius/schema/CollectionType$Kind"))]
  resolved := Array.replicate 93 none
  statics := some 0 }

def pool7 : Array CpInfo := pool [(1, .class_ 2), (0, u "java/lang/Cloneable"), (0, .class_ 4), (0, u "java/lang/Object")] 2

/-- java/lang/Cloneable -/
def k7 : Class := { plain "java/lang/Cloneable" (some 0) with
  accessFlags := 1537
  interfaces := #[]
  cf := some (fileOf pool7 1 #[] #[] 1537 3 #[] #[])
  fields := #[]
  methods := #[]
  instanceTypes := #[]
  staticTypes := #[]
  resolved := Array.replicate 7 none
  statics := none }

/-- the primitive byte -/
def k8 : Class := { plain "byte" none with kind := .primitive 'B', accessFlags := 0x411 }
/-- [B -/
def k9 : Class := { plain "[B" (some 0) with kind := .array 8 .byte, interfaces := #[7, 4], accessFlags := 1041 }

/-- the primitive int -/
def k10 : Class := { plain "int" none with kind := .primitive 'I', accessFlags := 0x411 }
/-- [I -/
def k11 : Class := { plain "[I" (some 0) with kind := .array 10 .int, interfaces := #[7, 4], accessFlags := 1041 }

/-- [Lcom/example/nuntius/nuntius/schema/CollectionType$Kind; -/
def k12 : Class := { plain "[Lcom/example/nuntius/nuntius/schema/CollectionType$Kind;" (some 0) with kind := .array 6 (.object "com/example/nuntius/nuntius/schema/CollectionType$Kind"), interfaces := #[7, 4], accessFlags := 1041 }

def heap : Heap := #[{ cls := 6, slots := #[.ref 2, .ref 3, .ref 4, .ref 1], vm := .statics 6 },
  { cls := 12, slots := #[.ref 2, .ref 3, .ref 4], vm := .none },
  { cls := 6, slots := #[.null, .int 0, .int 0, .int 32, .null, .null, .null], vm := .none },
  { cls := 6, slots := #[.null, .int 0, .int 0, .int 33, .null, .null, .null], vm := .none },
  { cls := 6, slots := #[.null, .int 0, .int 0, .int 34, .null, .null, .null], vm := .none }]
def classes : Array Class := #[k0, k1, k2, k3, k4, k5, k6, k7, k8, k9, k10, k11, k12]
def interned : List (Array UInt16 × Addr) := []
def slotsUsed : Nat := 28
def theMethod : MethodId := ⟨1, 1⟩
def args0 : Array Value := #[.int 5, .int 7]
def aboutOver (below : List Frame) : State where
  vm := { classes := classes, interned := interned.toArray }
  heap := heap
  slotsUsed := slotsUsed
  threads := #[{ frames := .invoking theMethod args0 :: below }]
def below0 : List Frame := [.native { method := ⟨0, 0⟩, args := #[] }]
def about1 : State := aboutOver below0
def p0 : Program := .bare "" "" ""
def e0 : Env := launch0.env 0 0 0
theorem w_frames : about1.frames = Frame.invoking theMethod args0 :: below0 := rfl
set_option maxRecDepth 65536 in
theorem w_args : argsFit about1.vm theMethod args0 = true := by decide +kernel
set_option maxRecDepth 65536 in
theorem w_heap : heapFits about1 = true := by decide +kernel
set_option maxRecDepth 65536 in
theorem w_runnable : about1.curStatus? = some .runnable := by decide +kernel
set_option maxRecDepth 65536 in
theorem w_alone : about1.alone = true := by decide +kernel
set_option maxRecDepth 65536 in
theorem w_named : about1.methodNamed? x = some theMethod := by decide +kernel
set_option maxRecDepth 65536 in
theorem w_hears : about1.hears theMethod below0 = true := by decide +kernel
set_option maxRecDepth 65536 in
theorem w_ripe : about1.ripe theMethod args0 below0 = true := by decide +kernel
theorem w_running : about1.status = .running := rfl
set_option maxRecDepth 65536 in
theorem w_room : about1.hasRoom e0.platform room_1 = true :=
  launch0.hasRoom_least _ room_1 (by decide +kernel) (by decide +kernel) (by decide +kernel) (by decide +kernel) (by decide +kernel) (by decide +kernel)
theorem allAtoms_all (ts : List Jvm.Cond) (a : Array Jvm.Value) (st : Jvm.State) : (allAtoms ts).before a st = ts.all (fun c => c.before a st) := by
  induction ts with
  | nil => rfl
  | cons c t ih =>
    show (Jvm.Cond.and c (allAtoms t)).before a st = _
    rw [Jvm.Cond.before_and, ih, List.all_cons]
def words1 : List Jvm.Cond := Jvm.Cond.code x code maxLocals ret :: tables_1
/-- a 'code' word, met by the world's own term for the bytes: nothing is compared byte by byte -/
theorem code_word {y : MethodName} {bytes : ByteArray} {mx : Nat} {rt : Option FieldType} {a : Array Value} {s : State} {m : MethodId} {meth : Method} {c : Code} (h1 : s.methodNamed? y = some m) (h2 : s.vm.method? m = some meth) (h3 : meth.code = some c) (h4 : c.code = bytes)
    (h5 : (c.maxLocals == mx && c.exceptionTable.isEmpty && decide (c.maxStack ≤ mostOperands) && decide (meth.sig.returnType = rt) && !meth.locks && decide (parseMethodDescriptor y.desc = some meth.sig)) = true) : (Jvm.Cond.code y bytes mx rt).before a s = true := by
  simp only [Bool.and_eq_true, beq_iff_eq, Bool.not_eq_true', decide_eq_true_eq] at h5
  obtain ⟨⟨⟨⟨⟨g1, g2⟩, g3⟩, g4⟩, g5⟩, g6⟩ := h5
  simp [Cond.before, Cond.holds, Cond.value, h1, h2, h3, h4, g1, g2, g3, g4, g5, g6]
def isCode : Jvm.Cond → Bool
  | .code _ _ _ _ => true
  | _ => false
theorem all_split {L : List Jvm.Cond} {P : Jvm.Cond → Bool} (h1 : L.all (fun c => isCode c || P c) = true) (h2 : ∀ c ∈ L.filter isCode, P c = true) : L.all P = true := by
  refine List.all_eq_true.mpr fun c hc => ?_
  have h := List.all_eq_true.mp h1 c hc
  rcases Bool.eq_false_or_eq_true (isCode c) with hi | hi
  · exact h2 c (List.mem_filter.mpr ⟨hc, hi⟩)
  · simpa [hi] using h
set_option maxRecDepth 65536 in
theorem w_c0 : (Jvm.Cond.code x code maxLocals ret).before args0 about1 = true := code_word (m := ⟨1, 1⟩) (meth := k1m1) (c := k1c1) (by decide +kernel) rfl rfl rfl (by decide +kernel)
set_option maxRecDepth 65536 in
theorem w_c1 : (Jvm.Cond.code ({ cls := "com/example/nuntius/nuntius/schema/CollectionType$Kind", name := "ofProtocolId", desc := "(I)Lcom/example/nuntius/nuntius/schema/CollectionType$Kind;" } : Jvm.MethodName) prog_48_method_5_code (6 : Nat) (Option.some (Jvm.ClassFile.FieldType.object "com/example/nuntius/nuntius/schema/CollectionType$Kind"))).before args0 about1 = true := code_word (m := ⟨6, 2⟩) (meth := k6m2) (c := k6c2) (by decide +kernel) rfl rfl rfl (by decide +kernel)
set_option maxRecDepth 65536 in
theorem w_c2 : (Jvm.Cond.code ({ cls := "com/example/nuntius/nuntius/schema/CollectionType$Kind", name := "values", desc := "()[Lcom/example/nuntius/nuntius/schema/CollectionType$Kind;" } : Jvm.MethodName) prog_48_method_1_code (0 : Nat) (Option.some (Jvm.ClassFile.FieldType.array (Jvm.ClassFile.FieldType.object "com/example/nuntius/nuntius/schema/CollectionType$Kind")))).before args0 about1 = true := code_word (m := ⟨6, 0⟩) (meth := k6m0) (c := k6c0) (by decide +kernel) rfl rfl rfl (by decide +kernel)
set_option maxRecDepth 65536 in
theorem w_c3 : (Jvm.Cond.code ({ cls := "com/example/nuntius/nuntius/schema/CollectionType$Kind", name := "protocolId", desc := "()I" } : Jvm.MethodName) prog_48_method_4_code (1 : Nat) (Option.some Jvm.ClassFile.FieldType.int)).before args0 about1 = true := code_word (m := ⟨6, 1⟩) (meth := k6m1) (c := k6c1) (by decide +kernel) rfl rfl rfl (by decide +kernel)
def codes1 : List Jvm.Cond := [Jvm.Cond.code x code maxLocals ret, Jvm.Cond.code ({ cls := "com/example/nuntius/nuntius/schema/CollectionType$Kind", name := "ofProtocolId", desc := "(I)Lcom/example/nuntius/nuntius/schema/CollectionType$Kind;" } : Jvm.MethodName) prog_48_method_5_code (6 : Nat) (Option.some (Jvm.ClassFile.FieldType.object "com/example/nuntius/nuntius/schema/CollectionType$Kind")), Jvm.Cond.code ({ cls := "com/example/nuntius/nuntius/schema/CollectionType$Kind", name := "values", desc := "()[Lcom/example/nuntius/nuntius/schema/CollectionType$Kind;" } : Jvm.MethodName) prog_48_method_1_code (0 : Nat) (Option.some (Jvm.ClassFile.FieldType.array (Jvm.ClassFile.FieldType.object "com/example/nuntius/nuntius/schema/CollectionType$Kind"))), Jvm.Cond.code ({ cls := "com/example/nuntius/nuntius/schema/CollectionType$Kind", name := "protocolId", desc := "()I" } : Jvm.MethodName) prog_48_method_4_code (1 : Nat) (Option.some Jvm.ClassFile.FieldType.int)]
set_option maxRecDepth 65536 in
theorem codes_eq : words1.filter isCode = codes1 := rfl
theorem w_codes : ∀ c ∈ words1.filter isCode, c.before args0 about1 = true := by
  rw [codes_eq]
  intro c hc
  simp only [codes1, List.mem_cons, List.not_mem_nil, or_false] at hc
  rcases hc with rfl | rfl | rfl | rfl
  · exact w_c0
  · exact w_c1
  · exact w_c2
  · exact w_c3
set_option maxRecDepth 65536 in
theorem w_t1 : (words1.take 24).all (fun c => isCode c || c.before args0 about1) = true := by decide +kernel
set_option maxRecDepth 65536 in
theorem w_t2 : (words1.drop 24).all (fun c => isCode c || c.before args0 about1) = true := by decide +kernel
theorem w_tables : (allAtoms (Jvm.Cond.code x code maxLocals ret :: tables_1)).before args0 about1 = true := by
  rw [allAtoms_all]
  show words1.all (fun c => c.before args0 about1) = true
  refine all_split ?_ w_codes
  rw [← List.take_append_drop 24 words1, List.all_append, w_t1, w_t2]
  rfl
set_option maxRecDepth 65536 in
theorem w_case : (Jvm.Cond.and given_1 narrow_1).before args0 about1 = true := by decide +kernel
theorem w_applies : (headSpec (Jvm.Cond.code x code maxLocals ret :: tables_1) room_1).applies x e0.platform about1 = true :=
  (Spec.applies_iff w_frames).mpr ⟨w_running, w_runnable, w_alone, w_named, w_hears, w_ripe, w_room, w_tables⟩
theorem atStart : AtStart classFile x code maxLocals ret World_1 tables_1 room_1 Calls_1 rest_1 Pre_1 launch0 p0 e0 about1 theMethod args0 below0 :=
  ⟨lists_1, trivial, launch0.admits_env _ _ _, launch0.least_env, fairChoices_fair.cas, fairChoices_fair.clock, w_frames, w_args, w_heap, w_applies, trivial, trivial, w_case⟩
end start1
theorem witness_1 : WitnessClaimed_1 := ⟨start1.p0, start1.e0, start1.about1, start1.theMethod, start1.args0, start1.below0, start1.atStart⟩
end Jvm.Pilot.@@N@@
