import JvmDerived
import JvmDerived.Pilot.@@N@@Statement
import JvmDerived.Pilot.@@N@@Code
set_option linter.unusedVariables false
set_option linter.unusedSimpArgs false
namespace Jvm.Pilot.@@N@@
open Jvm Jvm.ClassFile Sem Op Lib Jvm.Free Jvm.Stand Jvm.LawKit Jvm.RoadKit Bundle Jvm.Pilot.@@N@@.Jvm.D
section Own
variable {p : Program} {l : Launch} {e : Env} {R : Room} {s : State} {m : MethodId} {args : Array Value} {below : List Frame} {meth : Method} {c : Code} {T : State} {locs : List Loc} {cells slots : Nat}
def Ends (p : Program) (e : Env) (below : List Frame) (Q : Outcome → State → Prop) (S : State) : Prop := ∃ s₂ o, Steps p.tables e below S s₂ ∧ s₂.status = .running ∧ Ended s₂ below o ∧ Q o s₂
theorem Ends.opn {Q : Outcome → State → Prop} {S : State} (h : ∀ QQ : Outcome → State → Prop, (∀ o t, Q o t → QQ o t) → Ends p e below QQ S) : ∃ s₂ o, Steps p.tables e below S s₂ ∧ s₂.status = .running ∧ Ended s₂ below o ∧ Q o s₂ := h Q fun _ _ q => q
theorem Ends.step {Q : Outcome → State → Prop} {S S' : State} (k : ∀ t, Steps p.tables e below S' t → Steps p.tables e below S t) (h : Ends p e below Q S') : Ends p e below Q S := by
  obtain ⟨a, o, h1, h2⟩ := h
  exact ⟨a, o, k _ h1, h2⟩
theorem Ends.fin {QQ : Outcome → State → Prop} {Q : Option Value → Heap → List Loc → Prop} {cl sl : Nat} {g : JFrame} {h : Heap} (v : Option Value) (X : Stand p l e R s m args below meth c T locs cells slots)
    (hQQ : ∀ o t, (∃ v L, o = .returned v ∧ Q v t.heap L ∧ FrameEnd s o t L cl sl) → QQ o t) (hv : meth.sig.returnType = none → v = none) (hlocks : meth.locks = false)
    (hstep : ∀ fs, (∀ (f : JFrame) (acts : List Action), f.method = m → f.locked = none → f.entered = [] → (doReturn e (T.setTop f) acts v).1 = T.setFrames fs) → Steps p.tables e below (T.setTop g) (T.setFrames fs))
    (eT : T.heap = h) (hc : cells ≤ cl) (hs : slots ≤ sl) (q : Q v h locs) : Ends p e below QQ (T.setTop g) := by
  obtain ⟨fs, hr, hrun, hended, hW, hsame⟩ := X.leave hv hlocks
  subst eT
  exact ⟨_, _, hstep fs hr, hrun, hended, hQQ _ _ ⟨v, locs, rfl, q, ⟨_, rfl⟩, hW, hsame.mono hc hs⟩⟩
theorem own_01 {c : Prop} [Decidable c] {a b : Int32} (ha : a = 0 ∨ a = 1) (hb : b = 0 ∨ b = 1) : (if c then a else b) = 0 ∨ (if c then a else b) = 1 := by
  split <;> assumption
theorem own_narB {x : Int32} (h : x = 0 ∨ x = 1) : narrow .boolean (.int x) = .int x := by rcases h with rfl | rfl <;> rfl
theorem own_narref {v : Value} {t : FieldType} (h : v.isRef = true) (ht : t.isReference = true) : narrow t v = v := by
  cases t <;> first | (cases ht; done) | (cases v <;> first | rfl | cases h)
theorem own_fitref {v : Value} {t : FieldType} (h : v.isRef = true) (ht : t.isReference = true) : fits t v = true := by
  cases t <;> first | (cases ht; done) | (cases v <;> first | rfl | cases h)
theorem own_nar255 (b : Int32) : narrow .char (.int (b &&& (255 : Int32))) = .int (b &&& (255 : Int32)) := by
  have h := XT.narrow_c (b &&& 255)
  rw [i2c_mask] at h
  exact h
theorem own_narb (x : Int32) : nar .byte x.toInt8.toInt32 = x.toInt8.toInt32 := by simp [nar]
theorem own_ins_keep {Z : State} {h h' : Heap} {a : Addr} {C : String} {b : Bool} {ws : List Addr} (F : Ins Z h a C b) (K : Keep h h' ws) : Ins Z h' a C b := by
  obtain ⟨cell, cT, h1, h2, h3⟩ := F
  obtain ⟨c', q1, q2, q3, -⟩ := K.2.2 _ _ h1
  exact ⟨c', cT, q1, h2, by rw [q2, q3]; exact h3⟩
theorem own_sta_keep {Z : State} {h h' : Heap} {C n d : String} {v : Value} {ws : List Addr} (F : Sta Z h C n d v) (K : Keep h h' ws) (q : ∀ x ∈ ws, ∃ c : Cell, h[x]? = some c ∧ ∀ q, c.vm ≠ .statics q) : Sta Z h' C n d v := by
  obtain ⟨cf, i, k, f, st, cell, h1, h2, h3, h4, h5, h6, h7⟩ := F
  refine ⟨cf, i, k, f, st, cell, h1, h2, h3, h4, K.2.1 _ _ h5 fun hm => ?_, h6, h7⟩
  obtain ⟨c, q1, q2⟩ := q _ hm
  cases h5.symm.trans q1
  cases hq : cell.vm <;> first | exact q2 _ hq | (rw [hq] at h6; cases h6)
theorem lremM {g : JFrame} {target : State} (X : Stand p l e R s m args below meth c T locs cells slots) (hx : p.tables.exec = Jvm.exec) (hg : g.method = m) {x y : Int64} {rest : List Value} (hd : decode c.code g.pc = .ok (.lrem, 1)) (hs : g.stack = .long y :: .long x :: rest) (hy : y ≠ 0)
    (hr : Steps p.tables e below (T.setTop { g with pc := g.pc + 1, stack := .long (x % y) :: rest }) target) : Steps p.tables e below (T.setTop g) target := by
  have q : x - x / y * y = x % y := lrem_mod x y
  exact XT.lrem X.here hx hg hd hs hy (by rw [q]; exact hr)
end Own
theorem pn_0 : plainName "java/lang/Record" = true := by first | (simp [plainName, overriddenIn]; done) | decide +kernel
theorem pn_1 : plainName "java/lang/Number" = true := by first | (simp [plainName, overriddenIn]; done) | decide +kernel
theorem pn_2 : plainName "java/lang/Integer" = true := by first | (simp [plainName, overriddenIn]; done) | decide +kernel
theorem pn_3 : plainName "com/example/glyphdelve/glyphdelve/cli/KeyEqualsPinLaw" = true := by first | (simp [plainName, overriddenIn]; done) | decide +kernel
theorem pn_4 : plainName "com/example/glyphdelve/glyphdelve/cli/Key" = true := by first | (simp [plainName, overriddenIn]; done) | decide +kernel
theorem pd_0 : parseMethodDescriptor "()V" = some ⟨[], none⟩ := by decide +kernel
theorem pd_1 : parseMethodDescriptor "(I)V" = some ⟨[.int], none⟩ := by decide +kernel
theorem pd_2 : parseMethodDescriptor "(I)I" = some ⟨[.int], some .int⟩ := by decide +kernel
theorem pd_3 : parseMethodDescriptor "(I)Lcom/example/glyphdelve/glyphdelve/cli/Key$Kind;" = some ⟨[.int], some (.object "com/example/glyphdelve/glyphdelve/cli/Key$Kind")⟩ := by decide +kernel
theorem pd_4 : parseMethodDescriptor "(Lcom/example/glyphdelve/glyphdelve/cli/Key$Kind;C)V" = some ⟨[(.object "com/example/glyphdelve/glyphdelve/cli/Key$Kind"), .char], none⟩ := by decide +kernel
theorem pd_5 : parseMethodDescriptor "(I)Ljava/lang/Integer;" = some ⟨[.int], some (.object "java/lang/Integer")⟩ := by decide +kernel
theorem pd_6 : parseMethodDescriptor "(Ljava/lang/Object;)Z" = some ⟨[(.object "java/lang/Object")], some .boolean⟩ := by decide +kernel
theorem own_len {args : Array Value} {s : State} {t : Term} {n : Int32} {x : Addr} {cl : Cell} {ty : FieldType} (h : (Jvm.Cond.eq (Term.length t) (Term.int n)).value args s none s [] = some true) (ev : t.eval args s none [] s = some (.ref x)) (A : Arr s s.heap x cl ty) : cl.slots.size < 2 ^ 31 ∧ cl.slots.size.toInt32 = n := by
  obtain ⟨v, w, h1, h2, -, -⟩ := cmp_v (Or.inl h)
  have ha := A.fin (Vm.Alike.refl _)
  by_cases hl : cl.slots.size < 2 ^ 31
  · refine ⟨hl, ?_⟩
    have e := len_f ev ha hl (args := args) (first := s) (o := none) (idx := [])
    simp only [Cond.value, e, Term.int_eval] at h
    simpa using h
  · simp [Term.eval, ev, ha, hl] at h1
theorem own_elem {args : Array Value} {s : State} {t u : Term} {j : Int32} {x : Addr} {cl : Cell} {ty : FieldType} {v : Value} (h : (Jvm.Cond.eq (Term.elem t (Term.int j)) u).value args s none s [] = some true) (ev : t.eval args s none [] s = some (.ref x)) (A : Arr s s.heap x cl ty) (eu : u.eval args s none [] s = some v) : cl.slots[j.toNatClampNeg]? = some v := by
  obtain ⟨a, b, h1, h2, k1, k2⟩ := cmp_v (Or.inl h)
  cases eu.symm.trans h2
  have q := elem_in h1 ev (Term.int_eval j) A.1
  rw [q.2]
  simp only [Cond.value, h1, h2] at h
  cases a <;> cases v <;> simp_all [Kin, Value.isRef]
theorem own_elemJ {args : Array Value} {s : State} {t : Term} {j : Nat} {x : Addr} {cl : Cell} {ty : FieldType} {v : Int32} (h : (Jvm.Cond.eq (Term.elem t (Term.index 0)) (Term.int v)).value args s none s [j] = some true) (ev : t.eval args s none [j] s = some (.ref x)) (A : Arr s s.heap x cl ty) (hl : cl.slots.size < 2 ^ 31) (hj : j < cl.slots.size) : cl.slots[j]? = some (.int v) := by
  obtain ⟨a, b, h1, h2, k1, k2⟩ := cmp_v (Or.inl h)
  have q := elem_in h1 ev (Term.index_eval j) A.1
  have ej : j.toInt32.toNatClampNeg = j := by have := len_toInt (show j < 2 ^ 31 by omega); simp only [Int32.toNatClampNeg]; omega
  rw [ej] at q
  rw [q.2]
  cases (Term.int_eval v).symm.trans h2
  simp only [Cond.value, h1, h2] at h
  cases a <;> simp_all [Kin, Value.isRef]
theorem own_fld {args : Array Value} {s : State} {t u : Term} {x : Addr} {C f d : String} {v : Value} (h : (Jvm.Cond.eq (Term.field t C f d) u).value args s none s [] = some true) (ev : t.eval args s none [] s = some (.ref x)) (eu : u.eval args s none [] s = some v) : Fld s s.heap x C f d v := by
  obtain ⟨a, b, h1, h2, k1, k2⟩ := cmp_v (Or.inl h)
  cases eu.symm.trans h2
  have e : a = v := by
    simp only [Cond.value, h1, h2] at h
    cases a <;> cases v <;> simp_all [Kin, Value.isRef]
  subst e
  exact Fld.start ((fld_at ev).symm.trans h1)
theorem own_idx {args : Array Value} {s : State} {C n d : String} {v : Value} (ev : (Term.static C n d).eval args s none [] s = some v) (idx : List Nat := []) : (Term.static C n d).eval args s none idx s = some v := ev
theorem own_lt {k : Nat} {n : Int32} {j : Nat} (h : k.toInt32 = n) (h2 : k < 2 ^ 31) (h3 : (j : Int) < n.toInt) : j < k := by
  have := len_toInt h2
  rw [h] at this
  omega
theorem own_all3 {args : Array Value} {s : State} {t : Term} {a b v : Int32} {x : Addr} {cl : Cell} {ty : FieldType} (h : (Jvm.Cond.all t (.or (.lt (.index 0) (.int a)) (.or (.le (.int b) (.index 0)) (.eq (.elem t (.index 0)) (.int v))))).value args s none s [] = some true)
    (ev : ∀ idx, t.eval args s none idx s = some (.ref x)) (A : Arr s s.heap x cl ty) (hl : cl.slots.size < 2 ^ 31) (j : Nat) (hj : j < cl.slots.size) (h1 : a.toInt ≤ j) (h2 : (j : Int) < b.toInt) : cl.slots[j]? = some (.int v) := by
  have e := Cond.all_elim (ev []) (A.fin (Vm.Alike.refl _)) h j hj
  have ej : j.toInt32.toInt = j := len_toInt (by omega)
  have g1 : (Jvm.Cond.lt (.index 0) (.int a)).value args s none s [j] = some false := by
    simp only [Cond.value, Term.index_eval, Term.int_eval, Int32.lt_iff_toInt_lt, ej]; simp; omega
  have g2 : (Jvm.Cond.le (.int b) (.index 0)).value args s none s [j] = some false := by
    simp only [Cond.value, Term.index_eval, Term.int_eval, Int32.le_iff_toInt_le, ej]; simp; omega
  rw [Cond.or_of_right g1, Cond.or_of_right g2] at e
  exact own_elemJ e (ev [j]) A hl hj
theorem own_allH {args : Array Value} {s : State} {t : Term} {b v : Int32} {x : Addr} {cl : Cell} {ty : FieldType} (h : (Jvm.Cond.all t (.or (.le (.int b) (.index 0)) (.eq (.elem t (.index 0)) (.int v)))).value args s none s [] = some true)
    (ev : ∀ idx, t.eval args s none idx s = some (.ref x)) (A : Arr s s.heap x cl ty) (hl : cl.slots.size < 2 ^ 31) (j : Nat) (hj : j < cl.slots.size) (h2 : (j : Int) < b.toInt) : cl.slots[j]? = some (.int v) := by
  have e := Cond.all_elim (ev []) (A.fin (Vm.Alike.refl _)) h j hj
  have ej : j.toInt32.toInt = j := len_toInt (by omega)
  have g2 : (Jvm.Cond.le (.int b) (.index 0)).value args s none s [j] = some false := by
    simp only [Cond.value, Term.index_eval, Term.int_eval, Int32.le_iff_toInt_le, ej]; simp; omega
  rw [Cond.or_of_right g2] at e
  exact own_elemJ e (ev [j]) A hl hj
theorem own_nz {args : Array Value} {s : State} {t : Term} {x : Int32} (h : (Jvm.Cond.not (Jvm.Cond.eq t (Term.int (0 : Int32)))).value args s none s [] = some true) (ev : t.eval args s none [] s = some (.int x)) : ¬ x = (0 : Int32) := by
  simpa [Cond.value, ev, Term.eval] using h
theorem own_cidx (p : Int32) (h1 : ¬ p < (-128 : Int32)) (h2 : ¬ (127 : Int32) < p) : ¬ (p + (128 : Int32)) < 0 ∧ (p + (128 : Int32)) < (256 : Int32) := by
  have e := c_iadd p 128
  have a1 := (p + 128).toInt_lt; have a2 := (p + 128).le_toInt
  simp only [Int32.lt_iff_toInt_lt, Int32.reduceToInt] at *
  omega
theorem own_noI {Z : State} {a0 : Array Value} {K : String} {n : Nat} (w1 : (Jvm.Cond.superclass "java/lang/Integer" "java/lang/Number").before a0 Z = true) (w2 : (Jvm.Cond.superclass "java/lang/Number" "java/lang/Object").before a0 Z = true) (w3 : (Jvm.Cond.noSuperclass "java/lang/Object").before a0 Z = true) (wk : (Jvm.Cond.instantiable K n).before a0 Z = true) (n1 : "java/lang/Object" ≠ K) (n2 : "java/lang/Number" ≠ K) (n3 : "java/lang/Integer" ≠ K) :
    ∃ c t, Z.vm.findClass "java/lang/Integer" = some c ∧ Z.vm.findClass K = some t ∧ Z.vm.assignable c t = false := by
  obtain ⟨t, kt, t1, t2, t3, t4, -⟩ := Cond.instantiable_spec wk
  obtain ⟨o, ko, o1, o2, o3, -, -⟩ := Cond.noSuperclass_spec w3
  have r : NS Z "java/lang/Object" K := ⟨o, t, o1, t1, fun f => by cases f <;> simp [Vm.isSubclassAux, ids_ne o1 t1 n1, o2, o3]⟩
  obtain ⟨c, t', c1, c2, c3⟩ := NS.step w1 (NS.step w2 r n2) n3
  cases t1.symm.trans c2
  obtain ⟨p, k, kp, h1, h2, h3, h4, h5, -, h7⟩ := Cond.superclass_spec c1 w1
  have ti : kt.isInterface = false := by simp only [Bool.or_eq_false_iff] at t4; exact t4.1
  refine ⟨c, t, c1, t1, ?_⟩
  show Z.vm.assignableAux (255 + 1) c t = false
  simp [Vm.assignableAux, ids_ne c1 t1 n3, h2, t2, h5, t3, ti, Vm.isSubclass, c3]
theorem own_sub {args : Array Value} {s : State} {j : Int32} (hj : ¬ j < 0) : (Term.sub (Term.index 0) (Term.int (128 : Int32))).eval args s none [j.toNatClampNeg] s = some (.int (j - 128)) := by
  simp only [Term.eval]
  have e : (Term.index 0).eval args s none [j.toNatClampNeg] s = some (.int j) := idx_at hj
  simp only [Term.eval] at e
  simp [e]
  exact (back32 hj).1
def own_k (i : Int32) (a_CHARACTER a_ESCAPE a_ENTER a_UP a_DOWN a_LEFT a_RIGHT : Addr) : Addr := if i = (0 : Int32) then a_CHARACTER else if i = (1 : Int32) then a_ESCAPE else if i = (2 : Int32) then a_ENTER else if i = (3 : Int32) then a_UP else if i = (4 : Int32) then a_DOWN else if i = (5 : Int32) then a_LEFT else a_RIGHT
theorem own_narc (x : Int32) : nar .char (x.toUInt32.toUInt16.toUInt32.toInt32) = x.toUInt32.toUInt16.toUInt32.toInt32 := Value.int.inj (XT.narrow_c x)

theorem d4_0 : decode jdk_30_method_1_code 0 = .ok (.aload_n 0, 1) := by decide +kernel
theorem d4_1 : decode jdk_30_method_1_code 1 = .ok (.invokespecial 1, 3) := by decide +kernel
theorem d4_4 : decode jdk_30_method_1_code 4 = .ok (.return_, 1) := by decide +kernel
theorem ef_4 (m : MethodId) (x0 : Addr) : entryFrame m #[(.ref x0)] 1 = mkF m 0 #[.val (.ref x0)] [] := by first | (simp [entryFrame, mkF, argsToLocals, Value.category]; done) | rfl
def Q4 (Z : State) (o0 : Addr) (h0 : Heap) (n0 : Nat) (v : Option Value) (h : Heap) (L : List Loc) : Prop := (v = none) ∧ (Fr n0 L) ∧ (h = h0)
set_option maxRecDepth 65536 in
set_option maxHeartbeats 40000000 in
theorem rm4 (l : Launch) (Z : State) (a0 : Array Value) (hw : ∀ d ∈ tables_1, d.before a0 Z = true) (ws : List Jvm.Cond) (o0 : Addr) (h0 : Heap) (n0 : Nat) (Z0 : n0 ≤ h0.size) :
    MetFree l (⟨"java/lang/Record", "<init>", "()V"⟩ : MethodName) (head1 (Jvm.Cond.code (⟨"java/lang/Record", "<init>", "()V"⟩ : MethodName) jdk_30_method_1_code 1 none :: ws) ({ frames := 1, cells := 0, slots := 0, locals := 12 } : Room)) (fun a U => a = #[(.ref o0)] ∧ Z.Warmed39 U.vm ∧ U.heap = h0) (fun _ _ _ _ _ => True) (fun _ U o U' => ∃ v L, o = .returned v ∧ Q4 Z o0 h0 n0 v U'.heap L ∧ FrameEnd U o U' L ({ frames := 1, cells := 0, slots := 0, locals := 12 } : Room).cells ({ frames := 1, cells := 0, slots := 0, locals := 12 } : Room).slots) := by
  refine MetFree.of_bodySF (plainFor_of_name pn_0) hisR ?_
  intro p e s m args below meth c s₁ Bd hml0 hP hK
  obtain ⟨rfl, hZ, hh⟩ := hP
  have hx := Bd.exec
  have hby := Bd.bytes
  have hml : c.maxLocals = 1 := hml0
  have hown : s.vm.findClass "java/lang/Record" = some m.cls := findClass_of_methodNamed Bd.named
  have hnm := (name_of_methodNamed Bd.named Bd.method).1
  have X0 : Stand p l e ({ frames := 1, cells := 0, slots := 0, locals := 12 } : Room) s m #[(.ref o0)] below meth c s₁ [] 0 0 := Stand.of_body Bd
  have e0 : s₁.heap = h0 := by rw [← hh, Bd.state]; rfl
  have N0 := Fr.nil n0
  refine Ends.opn ?_
  intro QQ hQQ
  refine Ends.step (S' := s₁.setTop (mkF m 0 #[.val (.ref o0)] [])) (fun t k => castTop (ef_4 m o0) k) ?_
  show Ends p e below QQ (s₁.setTop (mkF m 0 #[.val (.ref o0)] []))
  refine Ends.step (fun _ k => XS.aloadN X0.here hx rfl (hb hby d4_0) rfl rfl k) ?_
  show Ends p e below QQ (s₁.setTop (mkF m 1 #[.val (.ref o0)] [(.ref o0)]))
  obtain ⟨T1, X1, e1, st1⟩ := initO X0 hx hZ hown (hw _ (List.mem_of_getElem? (i := 22) rfl)) (hw _ (List.mem_of_getElem? (i := 23) rfl)) (hw _ (List.mem_of_getElem? (i := 24) rfl)) e0 (g := (mkF m 1 #[.val (.ref o0)] [(.ref o0)])) rfl (by rw [hml]; rfl) rfl (hb hby d4_1) (by decide) (W := 0) (by show 2 * 0 + _ ≤ _; exact Nat.le_of_eq rfl) (by decide)
  refine Ends.step st1 ?_
  show Ends p e below QQ (T1.setTop (mkF m 4 #[.val (.ref o0)] []))
  exact Ends.fin (none) X1 hQQ (fun _ => rfl) Bd.notSynchronized (fun _ hr => X1.returnOut hx Bd.returns (hb hby d4_4) hr) e1 (by decide) (by decide) ⟨rfl, N0, rfl⟩
theorem d9_0 : decode jdk_18_method_1_code 0 = .ok (.aload_n 0, 1) := by decide +kernel
theorem d9_1 : decode jdk_18_method_1_code 1 = .ok (.invokespecial 1, 3) := by decide +kernel
theorem d9_4 : decode jdk_18_method_1_code 4 = .ok (.return_, 1) := by decide +kernel
theorem ef_num (m : MethodId) (x0 : Addr) : entryFrame m #[(.ref x0)] 1 = mkF m 0 #[.val (.ref x0)] [] := by first | (simp [entryFrame, mkF, argsToLocals, Value.category]; done) | rfl
def Qnum (Z : State) (o0 : Addr) (h0 : Heap) (n0 : Nat) (v : Option Value) (h : Heap) (L : List Loc) : Prop := (v = none) ∧ (Fr n0 L) ∧ (h = h0)
set_option maxRecDepth 65536 in
set_option maxHeartbeats 40000000 in
theorem rmnum (l : Launch) (Z : State) (a0 : Array Value) (hw : ∀ d ∈ tables_1, d.before a0 Z = true) (ws : List Jvm.Cond) (o0 : Addr) (h0 : Heap) (n0 : Nat) (Z0 : n0 ≤ h0.size) :
    MetFree l (⟨"java/lang/Number", "<init>", "()V"⟩ : MethodName) (head1 (Jvm.Cond.code (⟨"java/lang/Number", "<init>", "()V"⟩ : MethodName) jdk_18_method_1_code 1 none :: ws) ({ frames := 1, cells := 0, slots := 0, locals := 12 } : Room)) (fun a U => a = #[(.ref o0)] ∧ Z.Warmed39 U.vm ∧ U.heap = h0) (fun _ _ _ _ _ => True) (fun _ U o U' => ∃ v L, o = .returned v ∧ Qnum Z o0 h0 n0 v U'.heap L ∧ FrameEnd U o U' L ({ frames := 1, cells := 0, slots := 0, locals := 12 } : Room).cells ({ frames := 1, cells := 0, slots := 0, locals := 12 } : Room).slots) := by
  refine MetFree.of_bodySF (plainFor_of_name pn_1) hisR ?_
  intro p e s m args below meth c s₁ Bd hml0 hP hK
  obtain ⟨rfl, hZ, hh⟩ := hP
  have hx := Bd.exec
  have hby := Bd.bytes
  have hml : c.maxLocals = 1 := hml0
  have hown : s.vm.findClass "java/lang/Number" = some m.cls := findClass_of_methodNamed Bd.named
  have hnm := (name_of_methodNamed Bd.named Bd.method).1
  have X0 : Stand p l e ({ frames := 1, cells := 0, slots := 0, locals := 12 } : Room) s m #[(.ref o0)] below meth c s₁ [] 0 0 := Stand.of_body Bd
  have e0 : s₁.heap = h0 := by rw [← hh, Bd.state]; rfl
  have N0 := Fr.nil n0
  refine Ends.opn ?_
  intro QQ hQQ
  refine Ends.step (S' := s₁.setTop (mkF m 0 #[.val (.ref o0)] [])) (fun t k => castTop (ef_num m o0) k) ?_
  show Ends p e below QQ (s₁.setTop (mkF m 0 #[.val (.ref o0)] []))
  refine Ends.step (fun _ k => XS.aloadN X0.here hx rfl (hb hby d9_0) rfl rfl k) ?_
  show Ends p e below QQ (s₁.setTop (mkF m 1 #[.val (.ref o0)] [(.ref o0)]))
  obtain ⟨T2, X2, e2, st2⟩ := initO X0 hx hZ hown (hw _ (List.mem_of_getElem? (i := 64) rfl)) (hw _ (List.mem_of_getElem? (i := 23) rfl)) (hw _ (List.mem_of_getElem? (i := 24) rfl)) e0 (g := (mkF m 1 #[.val (.ref o0)] [(.ref o0)])) rfl (by rw [hml]; rfl) rfl (hb hby d9_1) (by decide) (W := 0) (by show 2 * 0 + _ ≤ _; exact Nat.le_of_eq rfl) (by decide)
  refine Ends.step st2 ?_
  show Ends p e below QQ (T2.setTop (mkF m 4 #[.val (.ref o0)] []))
  exact Ends.fin (none) X2 hQQ (fun _ => rfl) Bd.notSynchronized (fun _ hr => X2.returnOut hx Bd.returns (hb hby d9_4) hr) e2 (by decide) (by decide) ⟨rfl, N0, rfl⟩
theorem d8_0 : decode jdk_33_method_23_code 0 = .ok (.aload_n 0, 1) := by decide +kernel
theorem d8_1 : decode jdk_33_method_23_code 1 = .ok (.invokespecial 202, 3) := by decide +kernel
theorem d8_4 : decode jdk_33_method_23_code 4 = .ok (.aload_n 0, 1) := by decide +kernel
theorem d8_5 : decode jdk_33_method_23_code 5 = .ok (.iload_n 1, 1) := by decide +kernel
theorem d8_6 : decode jdk_33_method_23_code 6 = .ok (.putfield 205, 3) := by decide +kernel
theorem d8_9 : decode jdk_33_method_23_code 9 = .ok (.return_, 1) := by decide +kernel
theorem ef_ini (m : MethodId) (x0 : Addr) (x1 : Int32) : entryFrame m #[(.ref x0), (.int x1)] 2 = mkF m 0 #[.val (.ref x0), .val (.int x1)] [] := by first | (simp [entryFrame, mkF, argsToLocals, Value.category]; done) | rfl
def Qini (Z : State) (o0 : Addr) (p1 : Int32) (u : Int32) (h0 : Heap) (n0 : Nat) (v : Option Value) (h : Heap) (L : List Loc) : Prop := (v = none) ∧ (Fr n0 L) ∧ (Keep h0 h [o0]) ∧ (Exa Z h o0 "java/lang/Integer") ∧ (Fld Z h o0 "java/lang/Integer" "value" "I" (.int p1))
set_option maxRecDepth 65536 in
set_option maxHeartbeats 40000000 in
theorem rmini (l : Launch) (Z : State) (a0 : Array Value) (hw : ∀ d ∈ tables_1, d.before a0 Z = true) (ws : List Jvm.Cond) (o0 : Addr) (p1 : Int32) (u : Int32) (h0 : Heap) (n0 : Nat) (Z0 : n0 ≤ h0.size) (E_o0 : Exa Z h0 o0 "java/lang/Integer") (F_value_o0 : Fld Z h0 o0 "java/lang/Integer" "value" "I" (.int u)) (g_o0 : n0 ≤ o0) :
    MetFree l (⟨"java/lang/Integer", "<init>", "(I)V"⟩ : MethodName) (head1 (Jvm.Cond.code (⟨"java/lang/Integer", "<init>", "(I)V"⟩ : MethodName) jdk_33_method_23_code 2 none :: ws) ({ frames := 2, cells := 0, slots := 0, locals := 24 } : Room)) (fun a U => a = #[(.ref o0), (.int p1)] ∧ Z.Warmed39 U.vm ∧ U.heap = h0) (fun _ _ _ _ _ => True) (fun _ U o U' => ∃ v L, o = .returned v ∧ Qini Z o0 p1 u h0 n0 v U'.heap L ∧ FrameEnd U o U' L ({ frames := 2, cells := 0, slots := 0, locals := 24 } : Room).cells ({ frames := 2, cells := 0, slots := 0, locals := 24 } : Room).slots) := by
  refine MetFree.of_bodySF (plainFor_of_name pn_2) hisR ?_
  intro p e s m args below meth c s₁ Bd hml0 hP hK
  obtain ⟨rfl, hZ, hh⟩ := hP
  have hx := Bd.exec
  have hby := Bd.bytes
  have hml : c.maxLocals = 2 := hml0
  have hown : s.vm.findClass "java/lang/Integer" = some m.cls := findClass_of_methodNamed Bd.named
  have hnm := (name_of_methodNamed Bd.named Bd.method).1
  have X0 : Stand p l e ({ frames := 2, cells := 0, slots := 0, locals := 24 } : Room) s m #[(.ref o0), (.int p1)] below meth c s₁ [] 0 0 := Stand.of_body Bd
  have e0 : s₁.heap = h0 := by rw [← hh, Bd.state]; rfl
  have N0 := Fr.nil n0
  refine Ends.opn ?_
  intro QQ hQQ
  refine Ends.step (S' := s₁.setTop (mkF m 0 #[.val (.ref o0), .val (.int p1)] [])) (fun t k => castTop (ef_ini m o0 p1) k) ?_
  show Ends p e below QQ (s₁.setTop (mkF m 0 #[.val (.ref o0), .val (.int p1)] []))
  refine Ends.step (fun _ k => XS.aloadN X0.here hx rfl (hb hby d8_0) rfl rfl k) ?_
  show Ends p e below QQ (s₁.setTop (mkF m 1 #[.val (.ref o0), .val (.int p1)] [(.ref o0)]))
  obtain ⟨_, _, ⟨T3, L3, k3, n3⟩, -, X3, ⟨Lc3, hQ3, l3, y3, z3⟩, st3⟩ := X0.specialBack hx (y := (⟨"java/lang/Number", "<init>", "()V"⟩ : MethodName)) rfl hown (mvT hZ (hw _ (List.mem_of_getElem? (i := 58) rfl))) (mvT hZ (hw _ (List.mem_of_getElem? (i := 59) rfl))) (mvT hZ (hw _ (List.mem_of_getElem? (i := 63) rfl))) (by decide) (backOf (W := 0) (rmnum l Z a0 hw [] o0 h0 n0 (Nat.le_trans Z0 (Keep.refl h0 [o0]).1)) hZ (hw _ (List.mem_of_getElem? (i := 63) rfl)) (hw _ (List.mem_of_getElem? (i := 62) rfl)) (by decide) (by decide)) (g := (mkF m 1 #[.val (.ref o0), .val (.int p1)] [(.ref o0)])) rfl (by rw [hml]; rfl) (Steps.refl _) (a := o0) (argsL := []) (rest := []) (lenOf pd_0 rfl) rfl (by show 2 * 0 + _ ≤ _; exact Nat.le_of_eq rfl) (hb hby d8_1) (fun _ _ => ⟨rfl, e0, (by decide : 0 + 0 ≤ _), (by decide : 0 + 0 ≤ _)⟩)
  dsimp only [Pt.U, Pt.locs, Pt.cells, Pt.slots] at X3 l3 y3 z3 st3 hQ3
  subst l3 y3 z3
  obtain ⟨rfl, Nq3, hh3⟩ := hQ3
  have N3 := Fr.app N0 Nq3
  refine Ends.step (fun _ k => st3.trans k) ?_
  show Ends p e below QQ (T3.setTop (mkF m 4 #[.val (.ref o0), .val (.int p1)] []))
  refine Ends.step (fun _ k => XS.aloadN X3.here hx rfl (hb hby d8_4) rfl rfl k) ?_
  show Ends p e below QQ (T3.setTop (mkF m 5 #[.val (.ref o0), .val (.int p1)] [(.ref o0)]))
  refine Ends.step (fun _ k => XS.iloadN X3.here hx rfl (hb hby d8_5) rfl k) ?_
  show Ends p e below QQ (T3.setTop (mkF m 6 #[.val (.ref o0), .val (.int p1)] [(.int p1), (.ref o0)]))
  obtain ⟨T4, h4, X4, e4, W4, st4⟩ := putF X3 hx hZ hown (host := "") (Or.inl (hw _ (List.mem_of_getElem? (i := 65) rfl))) Via.refl hh3 F_value_o0 E_o0 (Or.inr ⟨(hw _ (List.mem_of_getElem? (i := 66) rfl)), rfl, hnm⟩) (hw _ (List.mem_of_getElem? (i := 53) rfl)) (ty := .int) (by decide) rfl rfl (g := (mkF m 6 #[.val (.ref o0), .val (.int p1)] [(.int p1), (.ref o0)])) rfl rfl (hb hby d8_6)
  have E_o0 := E_o0.wr W4
  have F_value_o0 : Fld Z h4 o0 "java/lang/Integer" "value" "I" (.int p1) := F_value_o0.same W4
  have K4 := (Keep.refl h0 [o0]).wr W4 (Or.inl (List.mem_of_getElem? (i := 0) rfl))
  have N4 := Fr.snoc X4 N3 g_o0
  refine Ends.step st4 ?_
  show Ends p e below QQ (T4.setTop (mkF m 9 #[.val (.ref o0), .val (.int p1)] []))
  exact Ends.fin (none) X4 hQQ (fun _ => rfl) Bd.notSynchronized (fun _ hr => X4.returnOut hx Bd.returns (hb hby d8_9) hr) e4 (by decide) (by decide) ⟨rfl, N4, K4, E_o0, F_value_o0⟩
theorem d6_0 : decode jdk_33_method_22_code 0 = .ok (.iload_n 0, 1) := by decide +kernel
theorem d6_1 : decode jdk_33_method_22_code 1 = .ok (.bipush (-128), 2) := by decide +kernel
theorem d6_3 : decode jdk_33_method_22_code 3 = .ok (.if_icmp .lt 20, 3) := by decide +kernel
theorem d6_6 : decode jdk_33_method_22_code 6 = .ok (.iload_n 0, 1) := by decide +kernel
theorem d6_7 : decode jdk_33_method_22_code 7 = .ok (.getstatic 191, 3) := by decide +kernel
theorem d6_10 : decode jdk_33_method_22_code 10 = .ok (.if_icmp .gt 13, 3) := by decide +kernel
theorem d6_13 : decode jdk_33_method_22_code 13 = .ok (.getstatic 195, 3) := by decide +kernel
theorem d6_16 : decode jdk_33_method_22_code 16 = .ok (.iload_n 0, 1) := by decide +kernel
theorem d6_17 : decode jdk_33_method_22_code 17 = .ok (.sipush 128, 3) := by decide +kernel
theorem d6_20 : decode jdk_33_method_22_code 20 = .ok (.iadd, 1) := by decide +kernel
theorem d6_21 : decode jdk_33_method_22_code 21 = .ok (.aaload, 1) := by decide +kernel
theorem d6_22 : decode jdk_33_method_22_code 22 = .ok (.areturn, 1) := by decide +kernel
theorem d6_23 : decode jdk_33_method_22_code 23 = .ok (.new 1, 3) := by decide +kernel
theorem d6_26 : decode jdk_33_method_22_code 26 = .ok (.dup, 1) := by decide +kernel
theorem d6_27 : decode jdk_33_method_22_code 27 = .ok (.iload_n 0, 1) := by decide +kernel
theorem d6_28 : decode jdk_33_method_22_code 28 = .ok (.invokespecial 199, 3) := by decide +kernel
theorem d6_31 : decode jdk_33_method_22_code 31 = .ok (.areturn, 1) := by decide +kernel
theorem ef_vo (m : MethodId) (x0 : Int32) : entryFrame m #[(.int x0)] 1 = mkF m 0 #[.val (.int x0)] [] := by first | (simp [entryFrame, mkF, argsToLocals, Value.category]; done) | rfl
def Qvo (Z : State) (p0 : Int32) (ac : Addr) (cc : Cell) (h0 : Heap) (n0 : Nat) (v : Option Value) (h : Heap) (L : List Loc) : Prop := ∃ (b : Addr), (v = some (.ref b)) ∧ (Fr n0 L) ∧ (Keep h0 h []) ∧ (Exa Z h b "java/lang/Integer")
set_option maxRecDepth 65536 in
set_option maxHeartbeats 40000000 in
theorem rmvo (l : Launch) (Z : State) (a0 : Array Value) (hw : ∀ d ∈ tables_1, d.before a0 Z = true) (ws : List Jvm.Cond) (p0 : Int32) (ac : Addr) (cc : Cell) (h0 : Heap) (n0 : Nat) (Z0 : n0 ≤ h0.size) (S_high : Sta Z h0 "java/lang/Integer$IntegerCache" "high" "I" (.int (127 : Int32))) (S_cache : Sta Z h0 "java/lang/Integer$IntegerCache" "cache" "[Ljava/lang/Integer;" (.ref ac)) (hbx : Bxs Z ac cc "java/lang/Integer" "I" (256 : Int32) (fun j => .int (j - 128))) (old : Old Z n0 h0) :
    MetFree l (⟨"java/lang/Integer", "valueOf", "(I)Ljava/lang/Integer;"⟩ : MethodName) (head1 (Jvm.Cond.code (⟨"java/lang/Integer", "valueOf", "(I)Ljava/lang/Integer;"⟩ : MethodName) jdk_33_method_22_code 1 (some (.object "java/lang/Integer")) :: ws) ({ frames := 3, cells := 1, slots := 1, locals := 38 } : Room)) (fun a U => a = #[(.int p0)] ∧ Z.Warmed39 U.vm ∧ U.heap = h0) (fun _ _ _ _ _ => True) (fun _ U o U' => ∃ v L, o = .returned v ∧ Qvo Z p0 ac cc h0 n0 v U'.heap L ∧ FrameEnd U o U' L ({ frames := 3, cells := 1, slots := 1, locals := 38 } : Room).cells ({ frames := 3, cells := 1, slots := 1, locals := 38 } : Room).slots) := by
  refine MetFree.of_bodySF (plainFor_of_name pn_2) hisR ?_
  intro p e s m args below meth c s₁ Bd hml0 hP hK
  obtain ⟨rfl, hZ, hh⟩ := hP
  have hx := Bd.exec
  have hby := Bd.bytes
  have hml : c.maxLocals = 1 := hml0
  have hown : s.vm.findClass "java/lang/Integer" = some m.cls := findClass_of_methodNamed Bd.named
  have hnm := (name_of_methodNamed Bd.named Bd.method).1
  have X0 : Stand p l e ({ frames := 3, cells := 1, slots := 1, locals := 38 } : Room) s m #[(.int p0)] below meth c s₁ [] 0 0 := Stand.of_body Bd
  have e0 : s₁.heap = h0 := by rw [← hh, Bd.state]; rfl
  have N0 := Fr.nil n0
  refine Ends.opn ?_
  intro QQ hQQ
  refine Ends.step (S' := s₁.setTop (mkF m 0 #[.val (.int p0)] [])) (fun t k => castTop (ef_vo m p0) k) ?_
  show Ends p e below QQ (s₁.setTop (mkF m 0 #[.val (.int p0)] []))
  refine Ends.step (fun _ k => XS.iloadN X0.here hx rfl (hb hby d6_0) rfl k) ?_
  show Ends p e below QQ (s₁.setTop (mkF m 1 #[.val (.int p0)] [(.int p0)]))
  refine Ends.step (fun _ k => XT.bipushV X0.here hx rfl (-128 : Int32) (hb hby d6_1) rfl k) ?_
  show Ends p e below QQ (s₁.setTop (mkF m 3 #[.val (.int p0)] [(.int (-128 : Int32)), (.int p0)]))
  by_cases hc3_5 : p0 < (-128 : Int32)
  · refine Ends.step (fun _ k => XS.icmpYes X0.here hx rfl (pc0 := 3) (pc' := 23) rfl (hb hby d6_3) rfl (XT.ii_lt_t hc3_5) (by decide) (by decide) k) ?_
    show Ends p e below QQ (s₁.setTop (mkF m 23 #[.val (.int p0)] []))
    obtain ⟨T6, h6, X6, e6, E6, A6, D6, U6, st6⟩ := newO X0 hx hZ hown (hw _ (List.mem_of_getElem? (i := 52) rfl)) (hw _ (List.mem_of_getElem? (i := 53) rfl)) (hw _ (List.mem_of_getElem? (i := 33) rfl)) e0 (g := (mkF m 23 #[.val (.int p0)] [])) rfl (hb hby d6_23) (by decide) (by decide)
    obtain ⟨b6, g6⟩ : ∃ z, z = h0.size := ⟨_, rfl⟩
    rw [← g6] at A6 D6 U6 st6
    have g_b6 : n0 ≤ b6 := Nat.le_trans Z0 (Nat.le_trans (Keep.refl h0 []).1 (Nat.le_of_eq g6.symm))
    have sz_b6 : h0.size ≤ b6 := Nat.le_trans (Keep.refl h0 []).1 (Nat.le_of_eq g6.symm)
    have S_high := S_high.ext E6
    have S_cache := S_cache.ext E6
    have old := old.ext E6
    have K6 := (Keep.refl h0 []).ext E6
    have E_b6 := A6
    have F_value_b6 : Fld Z h6 b6 "java/lang/Integer" "value" "I" (.int (0 : Int32)) := D6 (Or.inr (hw _ (List.mem_of_getElem? (i := 66) rfl))) (ty := .int) (by decide)
    refine Ends.step st6 ?_
    show Ends p e below QQ (T6.setTop (mkF m 26 #[.val (.int p0)] [(.ref b6)]))
    refine Ends.step (fun _ k => XS.dup X6.here hx rfl (hb hby d6_26) rfl rfl k) ?_
    show Ends p e below QQ (T6.setTop (mkF m 27 #[.val (.int p0)] [(.ref b6), (.ref b6)]))
    refine Ends.step (fun _ k => XS.iloadN X6.here hx rfl (hb hby d6_27) rfl k) ?_
    show Ends p e below QQ (T6.setTop (mkF m 28 #[.val (.int p0)] [(.int p0), (.ref b6), (.ref b6)]))
    obtain ⟨_, _, ⟨T7, L7, k7, n7⟩, -, X7, ⟨Lc7, hQ7, l7, y7, z7⟩, st7⟩ := X6.specialBack hx (y := (⟨"java/lang/Integer", "<init>", "(I)V"⟩ : MethodName)) rfl hown (mvT hZ (hw _ (List.mem_of_getElem? (i := 54) rfl))) (mvT hZ (hw _ (List.mem_of_getElem? (i := 55) rfl))) (mvT hZ (hw _ (List.mem_of_getElem? (i := 57) rfl))) (by decide) (backOf (W := 1) (rmini l Z a0 hw [] b6 p0 (0 : Int32) h6 n0 (Nat.le_trans Z0 K6.1) E_b6 F_value_b6 g_b6) hZ (hw _ (List.mem_of_getElem? (i := 57) rfl)) (hw _ (List.mem_of_getElem? (i := 33) rfl)) (by decide) (by decide)) (g := (mkF m 28 #[.val (.int p0)] [(.int p0), (.ref b6), (.ref b6)])) rfl (by rw [hml]; rfl) (Steps.refl _) (a := b6) (argsL := [(.int p0)]) (rest := [(.ref b6)]) (lenOf pd_1 rfl) rfl (by show 2 * 0 + _ ≤ _; exact Nat.le_of_eq rfl) (hb hby d6_28) (fun _ _ => ⟨rfl, e6, (by decide : 1 + 0 ≤ _), (by decide : 1 + 0 ≤ _)⟩)
    dsimp only [Pt.U, Pt.locs, Pt.cells, Pt.slots] at X7 l7 y7 z7 st7 hQ7
    subst l7 y7 z7
    obtain ⟨rfl, Nq7, Kq7, fq7_0, fq7_1⟩ := hQ7
    have N7 := Fr.app N0 Nq7
    have S_high := own_sta_keep S_high Kq7 (allS E_b6.cell all0)
    have S_cache := own_sta_keep S_cache Kq7 (allS E_b6.cell all0)
    have old := old.keep Kq7 (allS g_b6 all0)
    have E_b6 := fq7_0
    have F_value_b6 := fq7_1
    have K7 := K6.trans Kq7 (allS (Or.inr sz_b6) all0)
    refine Ends.step (fun _ k => st7.trans k) ?_
    show Ends p e below QQ (T7.setTop (mkF m 31 #[.val (.int p0)] [(.ref b6)]))
    exact Ends.fin (some (.ref b6)) X7 hQQ (fun h => by rw [Bd.returns] at h; cases h) Bd.notSynchronized (fun _ hr => retOut X7 hx (t := (.object "java/lang/Integer")) Bd.returns rfl (Or.inr (Or.inr (Or.inr (Or.inr ⟨rfl, rfl, rfl⟩)))) (hb hby d6_31) hr) rfl (by decide) (by decide) ⟨b6, rfl, N7, K7, E_b6⟩
  · refine Ends.step (fun _ k => XS.icmpNo X0.here hx rfl (hb hby d6_3) rfl (XT.ii_lt_f hc3_5) k) ?_
    show Ends p e below QQ (s₁.setTop (mkF m 6 #[.val (.int p0)] []))
    refine Ends.step (fun _ k => XS.iloadN X0.here hx rfl (hb hby d6_6) rfl k) ?_
    show Ends p e below QQ (s₁.setTop (mkF m 7 #[.val (.int p0)] [(.int p0)]))
    obtain ⟨T8, X8, e8, st8⟩ := getS2 X0 hx hZ hown (host := "") (Or.inl (hw _ (List.mem_of_getElem? (i := 35) rfl))) Via.refl e0 S_high (g := (mkF m 7 #[.val (.int p0)] [(.int p0)])) rfl (hb hby d6_7)
    refine Ends.step st8 ?_
    show Ends p e below QQ (T8.setTop (mkF m 10 #[.val (.int p0)] [(.int (127 : Int32)), (.int p0)]))
    by_cases hc10_9 : (127 : Int32) < p0
    · refine Ends.step (fun _ k => XS.icmpYes X8.here hx rfl (pc0 := 10) (pc' := 23) rfl (hb hby d6_10) rfl (XT.ii_gt_t hc10_9) (by decide) (by decide) k) ?_
      show Ends p e below QQ (T8.setTop (mkF m 23 #[.val (.int p0)] []))
      obtain ⟨T10, h10, X10, e10, E10, A10, D10, U10, st10⟩ := newO X8 hx hZ hown (hw _ (List.mem_of_getElem? (i := 52) rfl)) (hw _ (List.mem_of_getElem? (i := 53) rfl)) (hw _ (List.mem_of_getElem? (i := 33) rfl)) e8 (g := (mkF m 23 #[.val (.int p0)] [])) rfl (hb hby d6_23) (by decide) (by decide)
      obtain ⟨b10, g10⟩ : ∃ z, z = h0.size := ⟨_, rfl⟩
      rw [← g10] at A10 D10 U10 st10
      have g_b10 : n0 ≤ b10 := Nat.le_trans Z0 (Nat.le_trans (Keep.refl h0 []).1 (Nat.le_of_eq g10.symm))
      have sz_b10 : h0.size ≤ b10 := Nat.le_trans (Keep.refl h0 []).1 (Nat.le_of_eq g10.symm)
      have S_high := S_high.ext E10
      have S_cache := S_cache.ext E10
      have old := old.ext E10
      have K10 := (Keep.refl h0 []).ext E10
      have E_b10 := A10
      have F_value_b10 : Fld Z h10 b10 "java/lang/Integer" "value" "I" (.int (0 : Int32)) := D10 (Or.inr (hw _ (List.mem_of_getElem? (i := 66) rfl))) (ty := .int) (by decide)
      refine Ends.step st10 ?_
      show Ends p e below QQ (T10.setTop (mkF m 26 #[.val (.int p0)] [(.ref b10)]))
      refine Ends.step (fun _ k => XS.dup X10.here hx rfl (hb hby d6_26) rfl rfl k) ?_
      show Ends p e below QQ (T10.setTop (mkF m 27 #[.val (.int p0)] [(.ref b10), (.ref b10)]))
      refine Ends.step (fun _ k => XS.iloadN X10.here hx rfl (hb hby d6_27) rfl k) ?_
      show Ends p e below QQ (T10.setTop (mkF m 28 #[.val (.int p0)] [(.int p0), (.ref b10), (.ref b10)]))
      obtain ⟨_, _, ⟨T11, L11, k11, n11⟩, -, X11, ⟨Lc11, hQ11, l11, y11, z11⟩, st11⟩ := X10.specialBack hx (y := (⟨"java/lang/Integer", "<init>", "(I)V"⟩ : MethodName)) rfl hown (mvT hZ (hw _ (List.mem_of_getElem? (i := 54) rfl))) (mvT hZ (hw _ (List.mem_of_getElem? (i := 55) rfl))) (mvT hZ (hw _ (List.mem_of_getElem? (i := 57) rfl))) (by decide) (backOf (W := 1) (rmini l Z a0 hw [] b10 p0 (0 : Int32) h10 n0 (Nat.le_trans Z0 K10.1) E_b10 F_value_b10 g_b10) hZ (hw _ (List.mem_of_getElem? (i := 57) rfl)) (hw _ (List.mem_of_getElem? (i := 33) rfl)) (by decide) (by decide)) (g := (mkF m 28 #[.val (.int p0)] [(.int p0), (.ref b10), (.ref b10)])) rfl (by rw [hml]; rfl) (Steps.refl _) (a := b10) (argsL := [(.int p0)]) (rest := [(.ref b10)]) (lenOf pd_1 rfl) rfl (by show 2 * 0 + _ ≤ _; exact Nat.le_of_eq rfl) (hb hby d6_28) (fun _ _ => ⟨rfl, e10, (by decide : 1 + 0 ≤ _), (by decide : 1 + 0 ≤ _)⟩)
      dsimp only [Pt.U, Pt.locs, Pt.cells, Pt.slots] at X11 l11 y11 z11 st11 hQ11
      subst l11 y11 z11
      obtain ⟨rfl, Nq11, Kq11, fq11_0, fq11_1⟩ := hQ11
      have N11 := Fr.app N0 Nq11
      have S_high := own_sta_keep S_high Kq11 (allS E_b10.cell all0)
      have S_cache := own_sta_keep S_cache Kq11 (allS E_b10.cell all0)
      have old := old.keep Kq11 (allS g_b10 all0)
      have E_b10 := fq11_0
      have F_value_b10 := fq11_1
      have K11 := K10.trans Kq11 (allS (Or.inr sz_b10) all0)
      refine Ends.step (fun _ k => st11.trans k) ?_
      show Ends p e below QQ (T11.setTop (mkF m 31 #[.val (.int p0)] [(.ref b10)]))
      exact Ends.fin (some (.ref b10)) X11 hQQ (fun h => by rw [Bd.returns] at h; cases h) Bd.notSynchronized (fun _ hr => retOut X11 hx (t := (.object "java/lang/Integer")) Bd.returns rfl (Or.inr (Or.inr (Or.inr (Or.inr ⟨rfl, rfl, rfl⟩)))) (hb hby d6_31) hr) rfl (by decide) (by decide) ⟨b10, rfl, N11, K11, E_b10⟩
    · refine Ends.step (fun _ k => XS.icmpNo X8.here hx rfl (hb hby d6_10) rfl (XT.ii_gt_f hc10_9) k) ?_
      show Ends p e below QQ (T8.setTop (mkF m 13 #[.val (.int p0)] []))
      obtain ⟨T12, X12, e12, st12⟩ := getS2 X8 hx hZ hown (host := "") (Or.inl (hw _ (List.mem_of_getElem? (i := 37) rfl))) Via.refl e8 S_cache (g := (mkF m 13 #[.val (.int p0)] [])) rfl (hb hby d6_13)
      refine Ends.step st12 ?_
      show Ends p e below QQ (T12.setTop (mkF m 16 #[.val (.int p0)] [(.ref ac)]))
      refine Ends.step (fun _ k => XS.iloadN X12.here hx rfl (hb hby d6_16) rfl k) ?_
      show Ends p e below QQ (T12.setTop (mkF m 17 #[.val (.int p0)] [(.int p0), (.ref ac)]))
      refine Ends.step (fun _ k => XT.sipushV X12.here hx rfl (128 : Int32) (hb hby d6_17) rfl k) ?_
      show Ends p e below QQ (T12.setTop (mkF m 20 #[.val (.int p0)] [(.int (128 : Int32)), (.int p0), (.ref ac)]))
      refine Ends.step (fun _ k => XS.iadd X12.here hx rfl (hb hby d6_20) rfl k) ?_
      show Ends p e below QQ (T12.setTop (mkF m 21 #[.val (.int p0)] [(.int (p0 + (128 : Int32))), (.ref ac)]))
      have hin : ¬ ((p0 + (128 : Int32)) < 0 ∨ cc.slots.size ≤ ((p0 + (128 : Int32))).toNatClampNeg) := inb_of hbx.2.1 ⟨(own_cidx p0 hc3_5 hc10_9).1, (own_cidx p0 hc3_5 hc10_9).2⟩
      obtain ⟨box, hat, EB, -⟩ := hbx.2.2.2 _ hin
      have Ar := hbx.1.ext old.2
      have E_box := EB.ext old.2
      refine Ends.step (fun _ k => X12.aaload hx (j := (p0 + (128 : Int32))) (v := .ref box) (by rw [e12]; exact Ar.1) (State.isArrayOf_alike hZ.alike Ar.2.1) rfl Ar.2.2 hin hat (g := (mkF m 21 #[.val (.int p0)] [(.int (p0 + (128 : Int32))), (.ref ac)])) rfl rfl (hb hby d6_21) _ k) ?_
      show Ends p e below QQ (T12.setTop (mkF m 22 #[.val (.int p0)] [(.ref box)]))
      exact Ends.fin (some (.ref box)) X12 hQQ (fun h => by rw [Bd.returns] at h; cases h) Bd.notSynchronized (fun _ hr => retOut X12 hx (t := (.object "java/lang/Integer")) Bd.returns rfl (Or.inr (Or.inr (Or.inr (Or.inr ⟨rfl, rfl, rfl⟩)))) (hb hby d6_22) hr) e12 (by decide) (by decide) ⟨box, rfl, N0, (Keep.refl h0 []), E_box⟩
theorem d1_0 : decode method_2_code 0 = .ok (.iload_n 0, 1) := by decide +kernel
theorem d1_1 : decode method_2_code 1 = .ok (.ldc 7, 2) := by decide +kernel
theorem d1_3 : decode method_2_code 3 = .ok (.iand, 1) := by decide +kernel
theorem d1_4 : decode method_2_code 4 = .ok (.bipush 7, 2) := by decide +kernel
theorem d1_6 : decode method_2_code 6 = .ok (.irem, 1) := by decide +kernel
theorem d1_7 : decode method_2_code 7 = .ok (.ireturn, 1) := by decide +kernel
theorem ef_1 (m : MethodId) (x0 : Int32) : entryFrame m #[(.int x0)] 1 = mkF m 0 #[.val (.int x0)] [] := by first | (simp [entryFrame, mkF, argsToLocals, Value.category]; done) | rfl
def f1 (p0 : Int32) : Int32 := ((p0 &&& (2147483647 : Int32)) % (7 : Int32))
def Q1 (Z : State) (p0 : Int32) (h0 : Heap) (n0 : Nat) (v : Option Value) (h : Heap) (L : List Loc) : Prop := (v = some (.int (f1 p0))) ∧ (Fr n0 L) ∧ (h = h0)
set_option maxRecDepth 65536 in
set_option maxHeartbeats 40000000 in
theorem rm1 (l : Launch) (Z : State) (a0 : Array Value) (hw : ∀ d ∈ tables_1, d.before a0 Z = true) (ws : List Jvm.Cond) (p0 : Int32) (h0 : Heap) (n0 : Nat) (Z0 : n0 ≤ h0.size) :
    MetFree l (⟨"com/example/glyphdelve/glyphdelve/cli/KeyEqualsPinLaw", "idx", "(I)I"⟩ : MethodName) (head1 (Jvm.Cond.code (⟨"com/example/glyphdelve/glyphdelve/cli/KeyEqualsPinLaw", "idx", "(I)I"⟩ : MethodName) method_2_code 1 (some .int) :: ws) ({ frames := 0, cells := 0, slots := 0, locals := 0 } : Room)) (fun a U => a = #[(.int p0)] ∧ Z.Warmed39 U.vm ∧ U.heap = h0) (fun _ _ _ _ _ => True) (fun _ U o U' => ∃ v L, o = .returned v ∧ Q1 Z p0 h0 n0 v U'.heap L ∧ FrameEnd U o U' L ({ frames := 0, cells := 0, slots := 0, locals := 0 } : Room).cells ({ frames := 0, cells := 0, slots := 0, locals := 0 } : Room).slots) := by
  refine MetFree.of_bodySF (plainFor_of_name pn_3) hisR ?_
  intro p e s m args below meth c s₁ Bd hml0 hP hK
  obtain ⟨rfl, hZ, hh⟩ := hP
  have hx := Bd.exec
  have hby := Bd.bytes
  have hml : c.maxLocals = 1 := hml0
  have hown : s.vm.findClass "com/example/glyphdelve/glyphdelve/cli/KeyEqualsPinLaw" = some m.cls := findClass_of_methodNamed Bd.named
  have hnm := (name_of_methodNamed Bd.named Bd.method).1
  have X0 : Stand p l e ({ frames := 0, cells := 0, slots := 0, locals := 0 } : Room) s m #[(.int p0)] below meth c s₁ [] 0 0 := Stand.of_body Bd
  have e0 : s₁.heap = h0 := by rw [← hh, Bd.state]; rfl
  have N0 := Fr.nil n0
  refine Ends.opn ?_
  intro QQ hQQ
  refine Ends.step (S' := s₁.setTop (mkF m 0 #[.val (.int p0)] [])) (fun t k => castTop (ef_1 m p0) k) ?_
  show Ends p e below QQ (s₁.setTop (mkF m 0 #[.val (.int p0)] []))
  refine Ends.step (fun _ k => XS.iloadN X0.here hx rfl (hb hby d1_0) rfl k) ?_
  show Ends p e below QQ (s₁.setTop (mkF m 1 #[.val (.int p0)] [(.int p0)]))
  refine Ends.step (fun _ k => X0.ldcI hx hown (mvT hZ (hw _ (List.mem_of_getElem? (i := 4) rfl))) (g := (mkF m 1 #[.val (.int p0)] [(.int p0)])) rfl (hb hby d1_1) k) ?_
  show Ends p e below QQ (s₁.setTop (mkF m 3 #[.val (.int p0)] [(.int (2147483647 : Int32)), (.int p0)]))
  refine Ends.step (fun _ k => XS.iand X0.here hx rfl (hb hby d1_3) rfl k) ?_
  show Ends p e below QQ (s₁.setTop (mkF m 4 #[.val (.int p0)] [(.int (p0 &&& (2147483647 : Int32)))]))
  refine Ends.step (fun _ k => XT.bipushV X0.here hx rfl (7 : Int32) (hb hby d1_4) rfl k) ?_
  show Ends p e below QQ (s₁.setTop (mkF m 6 #[.val (.int p0)] [(.int (7 : Int32)), (.int (p0 &&& (2147483647 : Int32)))]))
  refine Ends.step (fun _ k => iremM (g := (mkF m 6 #[.val (.int p0)] [(.int (7 : Int32)), (.int (p0 &&& (2147483647 : Int32)))])) X0 hx rfl (hb hby d1_6) rfl (by decide) k) ?_
  show Ends p e below QQ (s₁.setTop (mkF m 7 #[.val (.int p0)] [(.int ((p0 &&& (2147483647 : Int32)) % (7 : Int32)))]))
  exact Ends.fin (some (.int ((p0 &&& (2147483647 : Int32)) % (7 : Int32)))) X0 hQQ (fun h => by rw [Bd.returns] at h; cases h) Bd.notSynchronized (fun _ hr => retOut X0 hx (t := .int) Bd.returns rfl (Or.inl ⟨rfl, Or.inl rfl, _, rfl⟩) (hb hby d1_7) hr) e0 (by decide) (by decide) ⟨(by simp only [f1]), N0, rfl⟩
theorem d2_0 : decode method_3_code 0 = .ok (.iload_n 0, 1) := by decide +kernel
theorem d2_1 : decode method_3_code 1 = .ok (.ifCond .ne 7, 3) := by decide +kernel
theorem d2_4 : decode method_3_code 4 = .ok (.getstatic 8, 3) := by decide +kernel
theorem d2_7 : decode method_3_code 7 = .ok (.areturn, 1) := by decide +kernel
theorem d2_8 : decode method_3_code 8 = .ok (.iload_n 0, 1) := by decide +kernel
theorem d2_9 : decode method_3_code 9 = .ok (.iconst 1, 1) := by decide +kernel
theorem d2_10 : decode method_3_code 10 = .ok (.if_icmp .ne 7, 3) := by decide +kernel
theorem d2_13 : decode method_3_code 13 = .ok (.getstatic 14, 3) := by decide +kernel
theorem d2_16 : decode method_3_code 16 = .ok (.areturn, 1) := by decide +kernel
theorem d2_17 : decode method_3_code 17 = .ok (.iload_n 0, 1) := by decide +kernel
theorem d2_18 : decode method_3_code 18 = .ok (.iconst 2, 1) := by decide +kernel
theorem d2_19 : decode method_3_code 19 = .ok (.if_icmp .ne 7, 3) := by decide +kernel
theorem d2_22 : decode method_3_code 22 = .ok (.getstatic 17, 3) := by decide +kernel
theorem d2_25 : decode method_3_code 25 = .ok (.areturn, 1) := by decide +kernel
theorem d2_26 : decode method_3_code 26 = .ok (.iload_n 0, 1) := by decide +kernel
theorem d2_27 : decode method_3_code 27 = .ok (.iconst 3, 1) := by decide +kernel
theorem d2_28 : decode method_3_code 28 = .ok (.if_icmp .ne 7, 3) := by decide +kernel
theorem d2_31 : decode method_3_code 31 = .ok (.getstatic 20, 3) := by decide +kernel
theorem d2_34 : decode method_3_code 34 = .ok (.areturn, 1) := by decide +kernel
theorem d2_35 : decode method_3_code 35 = .ok (.iload_n 0, 1) := by decide +kernel
theorem d2_36 : decode method_3_code 36 = .ok (.iconst 4, 1) := by decide +kernel
theorem d2_37 : decode method_3_code 37 = .ok (.if_icmp .ne 7, 3) := by decide +kernel
theorem d2_40 : decode method_3_code 40 = .ok (.getstatic 23, 3) := by decide +kernel
theorem d2_43 : decode method_3_code 43 = .ok (.areturn, 1) := by decide +kernel
theorem d2_44 : decode method_3_code 44 = .ok (.iload_n 0, 1) := by decide +kernel
theorem d2_45 : decode method_3_code 45 = .ok (.iconst 5, 1) := by decide +kernel
theorem d2_46 : decode method_3_code 46 = .ok (.if_icmp .ne 7, 3) := by decide +kernel
theorem d2_49 : decode method_3_code 49 = .ok (.getstatic 26, 3) := by decide +kernel
theorem d2_52 : decode method_3_code 52 = .ok (.areturn, 1) := by decide +kernel
theorem d2_53 : decode method_3_code 53 = .ok (.getstatic 29, 3) := by decide +kernel
theorem d2_56 : decode method_3_code 56 = .ok (.areturn, 1) := by decide +kernel
theorem ef_2 (m : MethodId) (x0 : Int32) : entryFrame m #[(.int x0)] 1 = mkF m 0 #[.val (.int x0)] [] := by first | (simp [entryFrame, mkF, argsToLocals, Value.category]; done) | rfl
def Q2 (Z : State) (p0 : Int32) (a_CHARACTER : Addr) (a_ESCAPE : Addr) (a_ENTER : Addr) (a_UP : Addr) (a_DOWN : Addr) (a_LEFT : Addr) (a_RIGHT : Addr) (h0 : Heap) (n0 : Nat) (v : Option Value) (h : Heap) (L : List Loc) : Prop := (v = some (.ref (own_k p0 a_CHARACTER a_ESCAPE a_ENTER a_UP a_DOWN a_LEFT a_RIGHT))) ∧ (Fr n0 L) ∧ (h = h0)
set_option maxRecDepth 65536 in
set_option maxHeartbeats 40000000 in
theorem rm2 (l : Launch) (Z : State) (a0 : Array Value) (hw : ∀ d ∈ tables_1, d.before a0 Z = true) (ws : List Jvm.Cond) (p0 : Int32) (a_CHARACTER : Addr) (a_ESCAPE : Addr) (a_ENTER : Addr) (a_UP : Addr) (a_DOWN : Addr) (a_LEFT : Addr) (a_RIGHT : Addr) (h0 : Heap) (n0 : Nat) (Z0 : n0 ≤ h0.size) (S_CHARACTER : Sta Z h0 "com/example/glyphdelve/glyphdelve/cli/Key$Kind" "CHARACTER" "Lcom/example/glyphdelve/glyphdelve/cli/Key$Kind;" (.ref a_CHARACTER)) (S_ENTER : Sta Z h0 "com/example/glyphdelve/glyphdelve/cli/Key$Kind" "ENTER" "Lcom/example/glyphdelve/glyphdelve/cli/Key$Kind;" (.ref a_ENTER)) (S_UP : Sta Z h0 "com/example/glyphdelve/glyphdelve/cli/Key$Kind" "UP" "Lcom/example/glyphdelve/glyphdelve/cli/Key$Kind;" (.ref a_UP)) (S_LEFT : Sta Z h0 "com/example/glyphdelve/glyphdelve/cli/Key$Kind" "LEFT" "Lcom/example/glyphdelve/glyphdelve/cli/Key$Kind;" (.ref a_LEFT)) (S_ESCAPE : Sta Z h0 "com/example/glyphdelve/glyphdelve/cli/Key$Kind" "ESCAPE" "Lcom/example/glyphdelve/glyphdelve/cli/Key$Kind;" (.ref a_ESCAPE)) (S_DOWN : Sta Z h0 "com/example/glyphdelve/glyphdelve/cli/Key$Kind" "DOWN" "Lcom/example/glyphdelve/glyphdelve/cli/Key$Kind;" (.ref a_DOWN)) (S_RIGHT : Sta Z h0 "com/example/glyphdelve/glyphdelve/cli/Key$Kind" "RIGHT" "Lcom/example/glyphdelve/glyphdelve/cli/Key$Kind;" (.ref a_RIGHT)) :
    MetFree l (⟨"com/example/glyphdelve/glyphdelve/cli/KeyEqualsPinLaw", "kind", "(I)Lcom/example/glyphdelve/glyphdelve/cli/Key$Kind;"⟩ : MethodName) (head1 (Jvm.Cond.code (⟨"com/example/glyphdelve/glyphdelve/cli/KeyEqualsPinLaw", "kind", "(I)Lcom/example/glyphdelve/glyphdelve/cli/Key$Kind;"⟩ : MethodName) method_3_code 1 (some (.object "com/example/glyphdelve/glyphdelve/cli/Key$Kind")) :: ws) ({ frames := 0, cells := 0, slots := 0, locals := 0 } : Room)) (fun a U => a = #[(.int p0)] ∧ Z.Warmed39 U.vm ∧ U.heap = h0) (fun _ _ _ _ _ => True) (fun _ U o U' => ∃ v L, o = .returned v ∧ Q2 Z p0 a_CHARACTER a_ESCAPE a_ENTER a_UP a_DOWN a_LEFT a_RIGHT h0 n0 v U'.heap L ∧ FrameEnd U o U' L ({ frames := 0, cells := 0, slots := 0, locals := 0 } : Room).cells ({ frames := 0, cells := 0, slots := 0, locals := 0 } : Room).slots) := by
  refine MetFree.of_bodySF (plainFor_of_name pn_3) hisR ?_
  intro p e s m args below meth c s₁ Bd hml0 hP hK
  obtain ⟨rfl, hZ, hh⟩ := hP
  have hx := Bd.exec
  have hby := Bd.bytes
  have hml : c.maxLocals = 1 := hml0
  have hown : s.vm.findClass "com/example/glyphdelve/glyphdelve/cli/KeyEqualsPinLaw" = some m.cls := findClass_of_methodNamed Bd.named
  have hnm := (name_of_methodNamed Bd.named Bd.method).1
  have X0 : Stand p l e ({ frames := 0, cells := 0, slots := 0, locals := 0 } : Room) s m #[(.int p0)] below meth c s₁ [] 0 0 := Stand.of_body Bd
  have e0 : s₁.heap = h0 := by rw [← hh, Bd.state]; rfl
  have N0 := Fr.nil n0
  refine Ends.opn ?_
  intro QQ hQQ
  refine Ends.step (S' := s₁.setTop (mkF m 0 #[.val (.int p0)] [])) (fun t k => castTop (ef_2 m p0) k) ?_
  show Ends p e below QQ (s₁.setTop (mkF m 0 #[.val (.int p0)] []))
  refine Ends.step (fun _ k => XS.iloadN X0.here hx rfl (hb hby d2_0) rfl k) ?_
  show Ends p e below QQ (s₁.setTop (mkF m 1 #[.val (.int p0)] [(.int p0)]))
  by_cases hc1_13 : p0 = (0 : Int32)
  · refine Ends.step (fun _ k => XS.ifNo X0.here hx rfl (hb hby d2_1) rfl (XT.i0_ne_f hc1_13) k) ?_
    show Ends p e below QQ (s₁.setTop (mkF m 4 #[.val (.int p0)] []))
    obtain ⟨T14, X14, e14, st14⟩ := getS2 X0 hx hZ hown (host := "") (Or.inl (hw _ (List.mem_of_getElem? (i := 11) rfl))) Via.refl e0 S_CHARACTER (g := (mkF m 4 #[.val (.int p0)] [])) rfl (hb hby d2_4)
    refine Ends.step st14 ?_
    show Ends p e below QQ (T14.setTop (mkF m 7 #[.val (.int p0)] [(.ref a_CHARACTER)]))
    exact Ends.fin (some (.ref a_CHARACTER)) X14 hQQ (fun h => by rw [Bd.returns] at h; cases h) Bd.notSynchronized (fun _ hr => retOut X14 hx (t := (.object "com/example/glyphdelve/glyphdelve/cli/Key$Kind")) Bd.returns rfl (Or.inr (Or.inr (Or.inr (Or.inr ⟨rfl, rfl, rfl⟩)))) (hb hby d2_7) hr) e14 (by decide) (by decide) ⟨(by simp only [own_k, if_pos hc1_13]), N0, rfl⟩
  · refine Ends.step (fun _ k => XS.ifYes X0.here hx rfl (pc0 := 1) (pc' := 8) rfl (hb hby d2_1) rfl (XT.i0_ne_t hc1_13) (by decide) (by decide) k) ?_
    show Ends p e below QQ (s₁.setTop (mkF m 8 #[.val (.int p0)] []))
    refine Ends.step (fun _ k => XS.iloadN X0.here hx rfl (hb hby d2_8) rfl k) ?_
    show Ends p e below QQ (s₁.setTop (mkF m 9 #[.val (.int p0)] [(.int p0)]))
    refine Ends.step (fun _ k => XT.iconstV X0.here hx rfl (1 : Int32) (hb hby d2_9) rfl k) ?_
    show Ends p e below QQ (s₁.setTop (mkF m 10 #[.val (.int p0)] [(.int (1 : Int32)), (.int p0)]))
    by_cases hc10_15 : p0 = (1 : Int32)
    · refine Ends.step (fun _ k => XS.icmpNo X0.here hx rfl (hb hby d2_10) rfl (XT.ii_ne_f hc10_15) k) ?_
      show Ends p e below QQ (s₁.setTop (mkF m 13 #[.val (.int p0)] []))
      obtain ⟨T16, X16, e16, st16⟩ := getS2 X0 hx hZ hown (host := "") (Or.inl (hw _ (List.mem_of_getElem? (i := 67) rfl))) Via.refl e0 S_ESCAPE (g := (mkF m 13 #[.val (.int p0)] [])) rfl (hb hby d2_13)
      refine Ends.step st16 ?_
      show Ends p e below QQ (T16.setTop (mkF m 16 #[.val (.int p0)] [(.ref a_ESCAPE)]))
      exact Ends.fin (some (.ref a_ESCAPE)) X16 hQQ (fun h => by rw [Bd.returns] at h; cases h) Bd.notSynchronized (fun _ hr => retOut X16 hx (t := (.object "com/example/glyphdelve/glyphdelve/cli/Key$Kind")) Bd.returns rfl (Or.inr (Or.inr (Or.inr (Or.inr ⟨rfl, rfl, rfl⟩)))) (hb hby d2_16) hr) e16 (by decide) (by decide) ⟨(by simp only [own_k, if_neg hc1_13, if_pos hc10_15]), N0, rfl⟩
    · refine Ends.step (fun _ k => XS.icmpYes X0.here hx rfl (pc0 := 10) (pc' := 17) rfl (hb hby d2_10) rfl (XT.ii_ne_t hc10_15) (by decide) (by decide) k) ?_
      show Ends p e below QQ (s₁.setTop (mkF m 17 #[.val (.int p0)] []))
      refine Ends.step (fun _ k => XS.iloadN X0.here hx rfl (hb hby d2_17) rfl k) ?_
      show Ends p e below QQ (s₁.setTop (mkF m 18 #[.val (.int p0)] [(.int p0)]))
      refine Ends.step (fun _ k => XT.iconstV X0.here hx rfl (2 : Int32) (hb hby d2_18) rfl k) ?_
      show Ends p e below QQ (s₁.setTop (mkF m 19 #[.val (.int p0)] [(.int (2 : Int32)), (.int p0)]))
      by_cases hc19_17 : p0 = (2 : Int32)
      · refine Ends.step (fun _ k => XS.icmpNo X0.here hx rfl (hb hby d2_19) rfl (XT.ii_ne_f hc19_17) k) ?_
        show Ends p e below QQ (s₁.setTop (mkF m 22 #[.val (.int p0)] []))
        obtain ⟨T18, X18, e18, st18⟩ := getS2 X0 hx hZ hown (host := "") (Or.inl (hw _ (List.mem_of_getElem? (i := 29) rfl))) Via.refl e0 S_ENTER (g := (mkF m 22 #[.val (.int p0)] [])) rfl (hb hby d2_22)
        refine Ends.step st18 ?_
        show Ends p e below QQ (T18.setTop (mkF m 25 #[.val (.int p0)] [(.ref a_ENTER)]))
        exact Ends.fin (some (.ref a_ENTER)) X18 hQQ (fun h => by rw [Bd.returns] at h; cases h) Bd.notSynchronized (fun _ hr => retOut X18 hx (t := (.object "com/example/glyphdelve/glyphdelve/cli/Key$Kind")) Bd.returns rfl (Or.inr (Or.inr (Or.inr (Or.inr ⟨rfl, rfl, rfl⟩)))) (hb hby d2_25) hr) e18 (by decide) (by decide) ⟨(by simp only [own_k, if_neg hc1_13, if_neg hc10_15, if_pos hc19_17]), N0, rfl⟩
      · refine Ends.step (fun _ k => XS.icmpYes X0.here hx rfl (pc0 := 19) (pc' := 26) rfl (hb hby d2_19) rfl (XT.ii_ne_t hc19_17) (by decide) (by decide) k) ?_
        show Ends p e below QQ (s₁.setTop (mkF m 26 #[.val (.int p0)] []))
        refine Ends.step (fun _ k => XS.iloadN X0.here hx rfl (hb hby d2_26) rfl k) ?_
        show Ends p e below QQ (s₁.setTop (mkF m 27 #[.val (.int p0)] [(.int p0)]))
        refine Ends.step (fun _ k => XT.iconstV X0.here hx rfl (3 : Int32) (hb hby d2_27) rfl k) ?_
        show Ends p e below QQ (s₁.setTop (mkF m 28 #[.val (.int p0)] [(.int (3 : Int32)), (.int p0)]))
        by_cases hc28_19 : p0 = (3 : Int32)
        · refine Ends.step (fun _ k => XS.icmpNo X0.here hx rfl (hb hby d2_28) rfl (XT.ii_ne_f hc28_19) k) ?_
          show Ends p e below QQ (s₁.setTop (mkF m 31 #[.val (.int p0)] []))
          obtain ⟨T20, X20, e20, st20⟩ := getS2 X0 hx hZ hown (host := "") (Or.inl (hw _ (List.mem_of_getElem? (i := 48) rfl))) Via.refl e0 S_UP (g := (mkF m 31 #[.val (.int p0)] [])) rfl (hb hby d2_31)
          refine Ends.step st20 ?_
          show Ends p e below QQ (T20.setTop (mkF m 34 #[.val (.int p0)] [(.ref a_UP)]))
          exact Ends.fin (some (.ref a_UP)) X20 hQQ (fun h => by rw [Bd.returns] at h; cases h) Bd.notSynchronized (fun _ hr => retOut X20 hx (t := (.object "com/example/glyphdelve/glyphdelve/cli/Key$Kind")) Bd.returns rfl (Or.inr (Or.inr (Or.inr (Or.inr ⟨rfl, rfl, rfl⟩)))) (hb hby d2_34) hr) e20 (by decide) (by decide) ⟨(by simp only [own_k, if_neg hc1_13, if_neg hc10_15, if_neg hc19_17, if_pos hc28_19]), N0, rfl⟩
        · refine Ends.step (fun _ k => XS.icmpYes X0.here hx rfl (pc0 := 28) (pc' := 35) rfl (hb hby d2_28) rfl (XT.ii_ne_t hc28_19) (by decide) (by decide) k) ?_
          show Ends p e below QQ (s₁.setTop (mkF m 35 #[.val (.int p0)] []))
          refine Ends.step (fun _ k => XS.iloadN X0.here hx rfl (hb hby d2_35) rfl k) ?_
          show Ends p e below QQ (s₁.setTop (mkF m 36 #[.val (.int p0)] [(.int p0)]))
          refine Ends.step (fun _ k => XT.iconstV X0.here hx rfl (4 : Int32) (hb hby d2_36) rfl k) ?_
          show Ends p e below QQ (s₁.setTop (mkF m 37 #[.val (.int p0)] [(.int (4 : Int32)), (.int p0)]))
          by_cases hc37_21 : p0 = (4 : Int32)
          · refine Ends.step (fun _ k => XS.icmpNo X0.here hx rfl (hb hby d2_37) rfl (XT.ii_ne_f hc37_21) k) ?_
            show Ends p e below QQ (s₁.setTop (mkF m 40 #[.val (.int p0)] []))
            obtain ⟨T22, X22, e22, st22⟩ := getS2 X0 hx hZ hown (host := "") (Or.inl (hw _ (List.mem_of_getElem? (i := 69) rfl))) Via.refl e0 S_DOWN (g := (mkF m 40 #[.val (.int p0)] [])) rfl (hb hby d2_40)
            refine Ends.step st22 ?_
            show Ends p e below QQ (T22.setTop (mkF m 43 #[.val (.int p0)] [(.ref a_DOWN)]))
            exact Ends.fin (some (.ref a_DOWN)) X22 hQQ (fun h => by rw [Bd.returns] at h; cases h) Bd.notSynchronized (fun _ hr => retOut X22 hx (t := (.object "com/example/glyphdelve/glyphdelve/cli/Key$Kind")) Bd.returns rfl (Or.inr (Or.inr (Or.inr (Or.inr ⟨rfl, rfl, rfl⟩)))) (hb hby d2_43) hr) e22 (by decide) (by decide) ⟨(by simp only [own_k, if_neg hc1_13, if_neg hc10_15, if_neg hc19_17, if_neg hc28_19, if_pos hc37_21]), N0, rfl⟩
          · refine Ends.step (fun _ k => XS.icmpYes X0.here hx rfl (pc0 := 37) (pc' := 44) rfl (hb hby d2_37) rfl (XT.ii_ne_t hc37_21) (by decide) (by decide) k) ?_
            show Ends p e below QQ (s₁.setTop (mkF m 44 #[.val (.int p0)] []))
            refine Ends.step (fun _ k => XS.iloadN X0.here hx rfl (hb hby d2_44) rfl k) ?_
            show Ends p e below QQ (s₁.setTop (mkF m 45 #[.val (.int p0)] [(.int p0)]))
            refine Ends.step (fun _ k => XT.iconstV X0.here hx rfl (5 : Int32) (hb hby d2_45) rfl k) ?_
            show Ends p e below QQ (s₁.setTop (mkF m 46 #[.val (.int p0)] [(.int (5 : Int32)), (.int p0)]))
            by_cases hc46_23 : p0 = (5 : Int32)
            · refine Ends.step (fun _ k => XS.icmpNo X0.here hx rfl (hb hby d2_46) rfl (XT.ii_ne_f hc46_23) k) ?_
              show Ends p e below QQ (s₁.setTop (mkF m 49 #[.val (.int p0)] []))
              obtain ⟨T24, X24, e24, st24⟩ := getS2 X0 hx hZ hown (host := "") (Or.inl (hw _ (List.mem_of_getElem? (i := 50) rfl))) Via.refl e0 S_LEFT (g := (mkF m 49 #[.val (.int p0)] [])) rfl (hb hby d2_49)
              refine Ends.step st24 ?_
              show Ends p e below QQ (T24.setTop (mkF m 52 #[.val (.int p0)] [(.ref a_LEFT)]))
              exact Ends.fin (some (.ref a_LEFT)) X24 hQQ (fun h => by rw [Bd.returns] at h; cases h) Bd.notSynchronized (fun _ hr => retOut X24 hx (t := (.object "com/example/glyphdelve/glyphdelve/cli/Key$Kind")) Bd.returns rfl (Or.inr (Or.inr (Or.inr (Or.inr ⟨rfl, rfl, rfl⟩)))) (hb hby d2_52) hr) e24 (by decide) (by decide) ⟨(by simp only [own_k, if_neg hc1_13, if_neg hc10_15, if_neg hc19_17, if_neg hc28_19, if_neg hc37_21, if_pos hc46_23]), N0, rfl⟩
            · refine Ends.step (fun _ k => XS.icmpYes X0.here hx rfl (pc0 := 46) (pc' := 53) rfl (hb hby d2_46) rfl (XT.ii_ne_t hc46_23) (by decide) (by decide) k) ?_
              show Ends p e below QQ (s₁.setTop (mkF m 53 #[.val (.int p0)] []))
              obtain ⟨T25, X25, e25, st25⟩ := getS2 X0 hx hZ hown (host := "") (Or.inl (hw _ (List.mem_of_getElem? (i := 71) rfl))) Via.refl e0 S_RIGHT (g := (mkF m 53 #[.val (.int p0)] [])) rfl (hb hby d2_53)
              refine Ends.step st25 ?_
              show Ends p e below QQ (T25.setTop (mkF m 56 #[.val (.int p0)] [(.ref a_RIGHT)]))
              exact Ends.fin (some (.ref a_RIGHT)) X25 hQQ (fun h => by rw [Bd.returns] at h; cases h) Bd.notSynchronized (fun _ hr => retOut X25 hx (t := (.object "com/example/glyphdelve/glyphdelve/cli/Key$Kind")) Bd.returns rfl (Or.inr (Or.inr (Or.inr (Or.inr ⟨rfl, rfl, rfl⟩)))) (hb hby d2_56) hr) e25 (by decide) (by decide) ⟨(by simp only [own_k, if_neg hc1_13, if_neg hc10_15, if_neg hc19_17, if_neg hc28_19, if_neg hc37_21, if_neg hc46_23]), N0, rfl⟩
theorem d3_0 : decode prog_33_method_1_code 0 = .ok (.aload_n 0, 1) := by decide +kernel
theorem d3_1 : decode prog_33_method_1_code 1 = .ok (.invokespecial 1, 3) := by decide +kernel
theorem d3_4 : decode prog_33_method_1_code 4 = .ok (.aload_n 0, 1) := by decide +kernel
theorem d3_5 : decode prog_33_method_1_code 5 = .ok (.aload_n 1, 1) := by decide +kernel
theorem d3_6 : decode prog_33_method_1_code 6 = .ok (.putfield 7, 3) := by decide +kernel
theorem d3_9 : decode prog_33_method_1_code 9 = .ok (.aload_n 0, 1) := by decide +kernel
theorem d3_10 : decode prog_33_method_1_code 10 = .ok (.iload_n 2, 1) := by decide +kernel
theorem d3_11 : decode prog_33_method_1_code 11 = .ok (.putfield 13, 3) := by decide +kernel
theorem d3_14 : decode prog_33_method_1_code 14 = .ok (.return_, 1) := by decide +kernel
theorem ef_3 (m : MethodId) (x0 : Addr) (x1 : Addr) (x2 : Int32) : entryFrame m #[(.ref x0), (.ref x1), (.int x2)] 3 = mkF m 0 #[.val (.ref x0), .val (.ref x1), .val (.int x2)] [] := by first | (simp [entryFrame, mkF, argsToLocals, Value.category]; done) | rfl
def Q3 (Z : State) (o0 : Addr) (o1 : Addr) (p2 : Int32) (u : Value) (w : Int32) (h0 : Heap) (n0 : Nat) (v : Option Value) (h : Heap) (L : List Loc) : Prop := (v = none) ∧ (Fr n0 L) ∧ (Keep h0 h [o0]) ∧ (Exa Z h o0 "com/example/glyphdelve/glyphdelve/cli/Key") ∧ (Fld Z h o0 "com/example/glyphdelve/glyphdelve/cli/Key" "kind" "Lcom/example/glyphdelve/glyphdelve/cli/Key$Kind;" (.ref o1)) ∧ (Fld Z h o0 "com/example/glyphdelve/glyphdelve/cli/Key" "character" "C" (.int p2))
set_option maxRecDepth 65536 in
set_option maxHeartbeats 40000000 in
theorem rm3 (l : Launch) (Z : State) (a0 : Array Value) (hw : ∀ d ∈ tables_1, d.before a0 Z = true) (ws : List Jvm.Cond) (o0 : Addr) (o1 : Addr) (p2 : Int32) (u : Value) (w : Int32) (h0 : Heap) (n0 : Nat) (Z0 : n0 ≤ h0.size) (E_o0 : Exa Z h0 o0 "com/example/glyphdelve/glyphdelve/cli/Key") (F_kind_o0 : Fld Z h0 o0 "com/example/glyphdelve/glyphdelve/cli/Key" "kind" "Lcom/example/glyphdelve/glyphdelve/cli/Key$Kind;" u) (F_character_o0 : Fld Z h0 o0 "com/example/glyphdelve/glyphdelve/cli/Key" "character" "C" (.int w)) (g_o0 : n0 ≤ o0) (hch : nar .char p2 = p2) :
    MetFree l (⟨"com/example/glyphdelve/glyphdelve/cli/Key", "<init>", "(Lcom/example/glyphdelve/glyphdelve/cli/Key$Kind;C)V"⟩ : MethodName) (head1 (Jvm.Cond.code (⟨"com/example/glyphdelve/glyphdelve/cli/Key", "<init>", "(Lcom/example/glyphdelve/glyphdelve/cli/Key$Kind;C)V"⟩ : MethodName) prog_33_method_1_code 3 none :: ws) ({ frames := 2, cells := 0, slots := 0, locals := 24 } : Room)) (fun a U => a = #[(.ref o0), (.ref o1), (.int p2)] ∧ Z.Warmed39 U.vm ∧ U.heap = h0) (fun _ _ _ _ _ => True) (fun _ U o U' => ∃ v L, o = .returned v ∧ Q3 Z o0 o1 p2 u w h0 n0 v U'.heap L ∧ FrameEnd U o U' L ({ frames := 2, cells := 0, slots := 0, locals := 24 } : Room).cells ({ frames := 2, cells := 0, slots := 0, locals := 24 } : Room).slots) := by
  refine MetFree.of_bodySF (plainFor_of_name pn_4) hisR ?_
  intro p e s m args below meth c s₁ Bd hml0 hP hK
  obtain ⟨rfl, hZ, hh⟩ := hP
  have hx := Bd.exec
  have hby := Bd.bytes
  have hml : c.maxLocals = 3 := hml0
  have hown : s.vm.findClass "com/example/glyphdelve/glyphdelve/cli/Key" = some m.cls := findClass_of_methodNamed Bd.named
  have hnm := (name_of_methodNamed Bd.named Bd.method).1
  have X0 : Stand p l e ({ frames := 2, cells := 0, slots := 0, locals := 24 } : Room) s m #[(.ref o0), (.ref o1), (.int p2)] below meth c s₁ [] 0 0 := Stand.of_body Bd
  have e0 : s₁.heap = h0 := by rw [← hh, Bd.state]; rfl
  have N0 := Fr.nil n0
  refine Ends.opn ?_
  intro QQ hQQ
  refine Ends.step (S' := s₁.setTop (mkF m 0 #[.val (.ref o0), .val (.ref o1), .val (.int p2)] [])) (fun t k => castTop (ef_3 m o0 o1 p2) k) ?_
  show Ends p e below QQ (s₁.setTop (mkF m 0 #[.val (.ref o0), .val (.ref o1), .val (.int p2)] []))
  refine Ends.step (fun _ k => XS.aloadN X0.here hx rfl (hb hby d3_0) rfl rfl k) ?_
  show Ends p e below QQ (s₁.setTop (mkF m 1 #[.val (.ref o0), .val (.ref o1), .val (.int p2)] [(.ref o0)]))
  obtain ⟨_, _, ⟨T26, L26, k26, n26⟩, -, X26, ⟨Lc26, hQ26, l26, y26, z26⟩, st26⟩ := X0.specialBack hx (y := (⟨"java/lang/Record", "<init>", "()V"⟩ : MethodName)) rfl hown (mvT hZ (hw _ (List.mem_of_getElem? (i := 17) rfl))) (mvT hZ (hw _ (List.mem_of_getElem? (i := 18) rfl))) (mvT hZ (hw _ (List.mem_of_getElem? (i := 21) rfl))) (by decide) (backOf (W := 0) (rm4 l Z a0 hw [] o0 h0 n0 (Nat.le_trans Z0 (Keep.refl h0 [o0]).1)) hZ (hw _ (List.mem_of_getElem? (i := 21) rfl)) (hw _ (List.mem_of_getElem? (i := 20) rfl)) (by decide) (by decide)) (g := (mkF m 1 #[.val (.ref o0), .val (.ref o1), .val (.int p2)] [(.ref o0)])) rfl (by rw [hml]; rfl) (Steps.refl _) (a := o0) (argsL := []) (rest := []) (lenOf pd_0 rfl) rfl (by show 2 * 0 + _ ≤ _; exact Nat.le_of_eq rfl) (hb hby d3_1) (fun _ _ => ⟨rfl, e0, (by decide : 0 + 0 ≤ _), (by decide : 0 + 0 ≤ _)⟩)
  dsimp only [Pt.U, Pt.locs, Pt.cells, Pt.slots] at X26 l26 y26 z26 st26 hQ26
  subst l26 y26 z26
  obtain ⟨rfl, Nq26, hh26⟩ := hQ26
  have N26 := Fr.app N0 Nq26
  refine Ends.step (fun _ k => st26.trans k) ?_
  show Ends p e below QQ (T26.setTop (mkF m 4 #[.val (.ref o0), .val (.ref o1), .val (.int p2)] []))
  refine Ends.step (fun _ k => XS.aloadN X26.here hx rfl (hb hby d3_4) rfl rfl k) ?_
  show Ends p e below QQ (T26.setTop (mkF m 5 #[.val (.ref o0), .val (.ref o1), .val (.int p2)] [(.ref o0)]))
  refine Ends.step (fun _ k => XS.aloadN X26.here hx rfl (hb hby d3_5) rfl rfl k) ?_
  show Ends p e below QQ (T26.setTop (mkF m 6 #[.val (.ref o0), .val (.ref o1), .val (.int p2)] [(.ref o1), (.ref o0)]))
  obtain ⟨T27, h27, X27, e27, W27, st27⟩ := putF X26 hx hZ hown (host := "") (Or.inl (hw _ (List.mem_of_getElem? (i := 25) rfl))) Via.refl hh26 F_kind_o0 E_o0 (Or.inr ⟨(hw _ (List.mem_of_getElem? (i := 26) rfl)), rfl, hnm⟩) (hw _ (List.mem_of_getElem? (i := 6) rfl)) (ty := (.object "com/example/glyphdelve/glyphdelve/cli/Key$Kind")) (by decide) rfl rfl (g := (mkF m 6 #[.val (.ref o0), .val (.ref o1), .val (.int p2)] [(.ref o1), (.ref o0)])) rfl rfl (hb hby d3_6)
  have E_o0 := E_o0.wr W27
  have F_character_o0 := F_character_o0.other W27 (Or.inr (slot_ne (Or.inr (hw _ (List.mem_of_getElem? (i := 28) rfl))) (Or.inr (hw _ (List.mem_of_getElem? (i := 26) rfl))) (by decide) (t := .char) (t' := (.object "com/example/glyphdelve/glyphdelve/cli/Key$Kind")) (by decide) (by decide)))
  have F_kind_o0 : Fld Z h27 o0 "com/example/glyphdelve/glyphdelve/cli/Key" "kind" "Lcom/example/glyphdelve/glyphdelve/cli/Key$Kind;" (.ref o1) := F_kind_o0.same W27
  have K27 := (Keep.refl h0 [o0]).wr W27 (Or.inl (List.mem_of_getElem? (i := 0) rfl))
  have N27 := Fr.snoc X27 N26 g_o0
  refine Ends.step st27 ?_
  show Ends p e below QQ (T27.setTop (mkF m 9 #[.val (.ref o0), .val (.ref o1), .val (.int p2)] []))
  refine Ends.step (fun _ k => XS.aloadN X27.here hx rfl (hb hby d3_9) rfl rfl k) ?_
  show Ends p e below QQ (T27.setTop (mkF m 10 #[.val (.ref o0), .val (.ref o1), .val (.int p2)] [(.ref o0)]))
  refine Ends.step (fun _ k => XS.iloadN X27.here hx rfl (hb hby d3_10) rfl k) ?_
  show Ends p e below QQ (T27.setTop (mkF m 11 #[.val (.ref o0), .val (.ref o1), .val (.int p2)] [(.int p2), (.ref o0)]))
  obtain ⟨T28, h28, X28, e28, W28, st28⟩ := putFN X27 hx hZ hown (hw _ (List.mem_of_getElem? (i := 27) rfl)) Via.refl e27 F_character_o0 E_o0 (Or.inr ⟨(hw _ (List.mem_of_getElem? (i := 28) rfl)), rfl, hnm⟩) (hw _ (List.mem_of_getElem? (i := 6) rfl)) (ty := .char) (v' := (.int p2)) (by decide) (by show Value.int (nar .char p2) = _; rw [hch]) (hch ▸ fits_nar_char p2) (g := (mkF m 11 #[.val (.ref o0), .val (.ref o1), .val (.int p2)] [(.int p2), (.ref o0)])) rfl rfl (hb hby d3_11)
  have E_o0 := E_o0.wr W28
  have F_kind_o0 := F_kind_o0.other W28 (Or.inr (slot_ne (Or.inr (hw _ (List.mem_of_getElem? (i := 26) rfl))) (Or.inr (hw _ (List.mem_of_getElem? (i := 28) rfl))) (by decide) (t := (.object "com/example/glyphdelve/glyphdelve/cli/Key$Kind")) (t' := .char) (by decide) (by decide)))
  have F_character_o0 : Fld Z h28 o0 "com/example/glyphdelve/glyphdelve/cli/Key" "character" "C" (.int p2) := F_character_o0.same W28
  have K28 := K27.wr W28 (Or.inl (List.mem_of_getElem? (i := 0) rfl))
  have N28 := Fr.snoc X28 N27 g_o0
  refine Ends.step st28 ?_
  show Ends p e below QQ (T28.setTop (mkF m 14 #[.val (.ref o0), .val (.ref o1), .val (.int p2)] []))
  exact Ends.fin (none) X28 hQQ (fun _ => rfl) Bd.notSynchronized (fun _ hr => X28.returnOut hx Bd.returns (hb hby d3_14) hr) e28 (by decide) (by decide) ⟨rfl, N28, K28, E_o0, F_kind_o0, F_character_o0⟩
theorem d7_0 : decode prog_33_method_3_code 0 = .ok (.aload_n 1, 1) := by decide +kernel
theorem d7_1 : decode prog_33_method_3_code 1 = .ok (.instanceof 8, 3) := by decide +kernel
theorem d7_4 : decode prog_33_method_3_code 4 = .ok (.ifCond .eq 34, 3) := by decide +kernel
theorem d7_38 : decode prog_33_method_3_code 38 = .ok (.iconst 0, 1) := by decide +kernel
theorem d7_39 : decode prog_33_method_3_code 39 = .ok (.ireturn, 1) := by decide +kernel
theorem ef_7n (m : MethodId) (x0 : Addr) : entryFrame m #[(.ref x0), .null] 3 = mkF m 0 #[.val (.ref x0), .val .null, .unset] [] := by first | (simp [entryFrame, mkF, argsToLocals, Value.category]; done) | rfl
def Q7n (Z : State) (o0 : Addr) (h0 : Heap) (n0 : Nat) (v : Option Value) (h : Heap) (L : List Loc) : Prop := (v = some (.int (0 : Int32))) ∧ (Fr n0 L) ∧ (h = h0)
set_option maxRecDepth 65536 in
set_option maxHeartbeats 40000000 in
theorem rm7n (l : Launch) (Z : State) (a0 : Array Value) (hw : ∀ d ∈ tables_1, d.before a0 Z = true) (ws : List Jvm.Cond) (o0 : Addr) (h0 : Heap) (n0 : Nat) (Z0 : n0 ≤ h0.size) :
    MetFree l (⟨"com/example/glyphdelve/glyphdelve/cli/Key", "equals", "(Ljava/lang/Object;)Z"⟩ : MethodName) (head1 (Jvm.Cond.code (⟨"com/example/glyphdelve/glyphdelve/cli/Key", "equals", "(Ljava/lang/Object;)Z"⟩ : MethodName) prog_33_method_3_code 3 (some .boolean) :: ws) ({ frames := 0, cells := 0, slots := 0, locals := 0 } : Room)) (fun a U => a = #[(.ref o0), .null] ∧ Z.Warmed39 U.vm ∧ U.heap = h0) (fun _ _ _ _ _ => True) (fun _ U o U' => ∃ v L, o = .returned v ∧ Q7n Z o0 h0 n0 v U'.heap L ∧ FrameEnd U o U' L ({ frames := 0, cells := 0, slots := 0, locals := 0 } : Room).cells ({ frames := 0, cells := 0, slots := 0, locals := 0 } : Room).slots) := by
  refine MetFree.of_bodySF (plainFor_of_name pn_4) hisR ?_
  intro p e s m args below meth c s₁ Bd hml0 hP hK
  obtain ⟨rfl, hZ, hh⟩ := hP
  have hx := Bd.exec
  have hby := Bd.bytes
  have hml : c.maxLocals = 3 := hml0
  have hown : s.vm.findClass "com/example/glyphdelve/glyphdelve/cli/Key" = some m.cls := findClass_of_methodNamed Bd.named
  have hnm := (name_of_methodNamed Bd.named Bd.method).1
  have X0 : Stand p l e ({ frames := 0, cells := 0, slots := 0, locals := 0 } : Room) s m #[(.ref o0), .null] below meth c s₁ [] 0 0 := Stand.of_body Bd
  have e0 : s₁.heap = h0 := by rw [← hh, Bd.state]; rfl
  have N0 := Fr.nil n0
  refine Ends.opn ?_
  intro QQ hQQ
  refine Ends.step (S' := s₁.setTop (mkF m 0 #[.val (.ref o0), .val .null, .unset] [])) (fun t k => castTop (ef_7n m o0) k) ?_
  show Ends p e below QQ (s₁.setTop (mkF m 0 #[.val (.ref o0), .val .null, .unset] []))
  refine Ends.step (fun _ k => XS.aloadN X0.here hx rfl (hb hby d7_0) rfl rfl k) ?_
  show Ends p e below QQ (s₁.setTop (mkF m 1 #[.val (.ref o0), .val .null, .unset] [.null]))
  refine Ends.step (fun _ k => X0.instanceofNull hx (g := (mkF m 1 #[.val (.ref o0), .val .null, .unset] [.null])) rfl rfl (hb hby d7_1) _ k) ?_
  show Ends p e below QQ (s₁.setTop (mkF m 4 #[.val (.ref o0), .val .null, .unset] [(.int (0 : Int32))]))
  refine Ends.step (fun _ k => XS.ifYes X0.here hx rfl (pc0 := 4) (pc' := 38) rfl (hb hby d7_4) rfl (XT.i0_eq_t (by decide)) (by decide) (by decide) k) ?_
  show Ends p e below QQ (s₁.setTop (mkF m 38 #[.val (.ref o0), .val .null, .unset] []))
  refine Ends.step (fun _ k => XT.iconstV X0.here hx rfl (0 : Int32) (hb hby d7_38) rfl k) ?_
  show Ends p e below QQ (s₁.setTop (mkF m 39 #[.val (.ref o0), .val .null, .unset] [(.int (0 : Int32))]))
  exact Ends.fin (some (.int (0 : Int32))) X0 hQQ (fun h => by rw [Bd.returns] at h; cases h) Bd.notSynchronized (fun _ hr => retOut X0 hx (t := .boolean) Bd.returns rfl (Or.inl ⟨rfl, (by simp), _, rfl⟩) (hb hby d7_39) hr) e0 (by decide) (by decide) ⟨rfl, N0, rfl⟩
theorem ef_7i (m : MethodId) (x0 : Addr) (x1 : Addr) : entryFrame m #[(.ref x0), (.ref x1)] 3 = mkF m 0 #[.val (.ref x0), .val (.ref x1), .unset] [] := by first | (simp [entryFrame, mkF, argsToLocals, Value.category]; done) | rfl
def Q7i (Z : State) (o0 : Addr) (o1 : Addr) (h0 : Heap) (n0 : Nat) (v : Option Value) (h : Heap) (L : List Loc) : Prop := (v = some (.int (0 : Int32))) ∧ (Fr n0 L) ∧ (h = h0)
set_option maxRecDepth 65536 in
set_option maxHeartbeats 40000000 in
theorem rm7i (l : Launch) (Z : State) (a0 : Array Value) (hw : ∀ d ∈ tables_1, d.before a0 Z = true) (ws : List Jvm.Cond) (o0 : Addr) (o1 : Addr) (h0 : Heap) (n0 : Nat) (Z0 : n0 ≤ h0.size) (E_o1 : Exa Z h0 o1 "java/lang/Integer") :
    MetFree l (⟨"com/example/glyphdelve/glyphdelve/cli/Key", "equals", "(Ljava/lang/Object;)Z"⟩ : MethodName) (head1 (Jvm.Cond.code (⟨"com/example/glyphdelve/glyphdelve/cli/Key", "equals", "(Ljava/lang/Object;)Z"⟩ : MethodName) prog_33_method_3_code 3 (some .boolean) :: ws) ({ frames := 0, cells := 0, slots := 0, locals := 0 } : Room)) (fun a U => a = #[(.ref o0), (.ref o1)] ∧ Z.Warmed39 U.vm ∧ U.heap = h0) (fun _ _ _ _ _ => True) (fun _ U o U' => ∃ v L, o = .returned v ∧ Q7i Z o0 o1 h0 n0 v U'.heap L ∧ FrameEnd U o U' L ({ frames := 0, cells := 0, slots := 0, locals := 0 } : Room).cells ({ frames := 0, cells := 0, slots := 0, locals := 0 } : Room).slots) := by
  refine MetFree.of_bodySF (plainFor_of_name pn_4) hisR ?_
  intro p e s m args below meth c s₁ Bd hml0 hP hK
  obtain ⟨rfl, hZ, hh⟩ := hP
  have hx := Bd.exec
  have hby := Bd.bytes
  have hml : c.maxLocals = 3 := hml0
  have hown : s.vm.findClass "com/example/glyphdelve/glyphdelve/cli/Key" = some m.cls := findClass_of_methodNamed Bd.named
  have hnm := (name_of_methodNamed Bd.named Bd.method).1
  have X0 : Stand p l e ({ frames := 0, cells := 0, slots := 0, locals := 0 } : Room) s m #[(.ref o0), (.ref o1)] below meth c s₁ [] 0 0 := Stand.of_body Bd
  have e0 : s₁.heap = h0 := by rw [← hh, Bd.state]; rfl
  have N0 := Fr.nil n0
  refine Ends.opn ?_
  intro QQ hQQ
  refine Ends.step (S' := s₁.setTop (mkF m 0 #[.val (.ref o0), .val (.ref o1), .unset] [])) (fun t k => castTop (ef_7i m o0 o1) k) ?_
  show Ends p e below QQ (s₁.setTop (mkF m 0 #[.val (.ref o0), .val (.ref o1), .unset] []))
  refine Ends.step (fun _ k => XS.aloadN X0.here hx rfl (hb hby d7_0) rfl rfl k) ?_
  show Ends p e below QQ (s₁.setTop (mkF m 1 #[.val (.ref o0), .val (.ref o1), .unset] [(.ref o1)]))
  obtain ⟨T29, X29, e29, st29⟩ := instNo X0 hx hZ hown (hw _ (List.mem_of_getElem? (i := 43) rfl)) e0 E_o1 (own_noI (hw _ (List.mem_of_getElem? (i := 45) rfl)) (hw _ (List.mem_of_getElem? (i := 46) rfl)) (hw _ (List.mem_of_getElem? (i := 47) rfl)) (hw _ (List.mem_of_getElem? (i := 6) rfl)) (by decide) (by decide) (by decide)) (g := (mkF m 1 #[.val (.ref o0), .val (.ref o1), .unset] [(.ref o1)])) rfl rfl (hb hby d7_1)
  refine Ends.step st29 ?_
  show Ends p e below QQ (T29.setTop (mkF m 4 #[.val (.ref o0), .val (.ref o1), .unset] [(.int (0 : Int32))]))
  refine Ends.step (fun _ k => XS.ifYes X29.here hx rfl (pc0 := 4) (pc' := 38) rfl (hb hby d7_4) rfl (XT.i0_eq_t (by decide)) (by decide) (by decide) k) ?_
  show Ends p e below QQ (T29.setTop (mkF m 38 #[.val (.ref o0), .val (.ref o1), .unset] []))
  refine Ends.step (fun _ k => XT.iconstV X29.here hx rfl (0 : Int32) (hb hby d7_38) rfl k) ?_
  show Ends p e below QQ (T29.setTop (mkF m 39 #[.val (.ref o0), .val (.ref o1), .unset] [(.int (0 : Int32))]))
  exact Ends.fin (some (.int (0 : Int32))) X29 hQQ (fun h => by rw [Bd.returns] at h; cases h) Bd.notSynchronized (fun _ hr => retOut X29 hx (t := .boolean) Bd.returns rfl (Or.inl ⟨rfl, (by simp), _, rfl⟩) (hb hby d7_39) hr) e29 (by decide) (by decide) ⟨rfl, N0, rfl⟩
theorem d7_7 : decode prog_33_method_3_code 7 = .ok (.aload_n 1, 1) := by decide +kernel
theorem d7_8 : decode prog_33_method_3_code 8 = .ok (.checkcast 8, 3) := by decide +kernel
theorem d7_11 : decode prog_33_method_3_code 11 = .ok (.astore_n 2, 1) := by decide +kernel
theorem d7_12 : decode prog_33_method_3_code 12 = .ok (.aload_n 2, 1) := by decide +kernel
theorem d7_13 : decode prog_33_method_3_code 13 = .ok (.getfield 7, 3) := by decide +kernel
theorem d7_16 : decode prog_33_method_3_code 16 = .ok (.aload_n 0, 1) := by decide +kernel
theorem d7_17 : decode prog_33_method_3_code 17 = .ok (.getfield 7, 3) := by decide +kernel
theorem d7_20 : decode prog_33_method_3_code 20 = .ok (.if_acmp .ne 18, 3) := by decide +kernel
theorem d7_23 : decode prog_33_method_3_code 23 = .ok (.aload_n 2, 1) := by decide +kernel
theorem d7_24 : decode prog_33_method_3_code 24 = .ok (.getfield 13, 3) := by decide +kernel
theorem d7_27 : decode prog_33_method_3_code 27 = .ok (.aload_n 0, 1) := by decide +kernel
theorem d7_28 : decode prog_33_method_3_code 28 = .ok (.getfield 13, 3) := by decide +kernel
theorem d7_31 : decode prog_33_method_3_code 31 = .ok (.if_icmp .ne 7, 3) := by decide +kernel
theorem d7_34 : decode prog_33_method_3_code 34 = .ok (.iconst 1, 1) := by decide +kernel
theorem d7_35 : decode prog_33_method_3_code 35 = .ok (.goto 4, 3) := by decide +kernel
theorem ef_7 (m : MethodId) (x0 : Addr) (x1 : Addr) : entryFrame m #[(.ref x0), (.ref x1)] 3 = mkF m 0 #[.val (.ref x0), .val (.ref x1), .unset] [] := by first | (simp [entryFrame, mkF, argsToLocals, Value.category]; done) | rfl
def f7_v39_1 (ka : Addr) (ca : Int32) (kb : Addr) (cb : Int32) : Int32 := (if cb = ca then (1 : Int32) else (0 : Int32))
def f7 (ka : Addr) (ca : Int32) (kb : Addr) (cb : Int32) : Int32 := (if ((.ref kb) : Value) = (.ref ka) then (f7_v39_1 ka ca kb cb) else (0 : Int32))
theorem f7_01 (ka : Addr) (ca : Int32) (kb : Addr) (cb : Int32) : f7 ka ca kb cb = 0 ∨ f7 ka ca kb cb = 1 := by
  simp only [f7, f7_v39_1]
  repeat' (first | exact Or.inl rfl | exact Or.inr rfl | apply own_01)
def Q7 (Z : State) (o0 : Addr) (o1 : Addr) (ka : Addr) (ca : Int32) (kb : Addr) (cb : Int32) (h0 : Heap) (n0 : Nat) (v : Option Value) (h : Heap) (L : List Loc) : Prop := (v = some (.int (f7 ka ca kb cb))) ∧ (Fr n0 L) ∧ (h = h0)
set_option maxRecDepth 65536 in
set_option maxHeartbeats 40000000 in
theorem rm7 (l : Launch) (Z : State) (a0 : Array Value) (hw : ∀ d ∈ tables_1, d.before a0 Z = true) (ws : List Jvm.Cond) (o0 : Addr) (o1 : Addr) (ka : Addr) (ca : Int32) (kb : Addr) (cb : Int32) (h0 : Heap) (n0 : Nat) (Z0 : n0 ≤ h0.size) (F_kind_o0 : Fld Z h0 o0 "com/example/glyphdelve/glyphdelve/cli/Key" "kind" "Lcom/example/glyphdelve/glyphdelve/cli/Key$Kind;" (.ref ka)) (F_character_o0 : Fld Z h0 o0 "com/example/glyphdelve/glyphdelve/cli/Key" "character" "C" (.int ca)) (F_kind_o1 : Fld Z h0 o1 "com/example/glyphdelve/glyphdelve/cli/Key" "kind" "Lcom/example/glyphdelve/glyphdelve/cli/Key$Kind;" (.ref kb)) (F_character_o1 : Fld Z h0 o1 "com/example/glyphdelve/glyphdelve/cli/Key" "character" "C" (.int cb)) (E_o1 : Exa Z h0 o1 "com/example/glyphdelve/glyphdelve/cli/Key") :
    MetFree l (⟨"com/example/glyphdelve/glyphdelve/cli/Key", "equals", "(Ljava/lang/Object;)Z"⟩ : MethodName) (head1 (Jvm.Cond.code (⟨"com/example/glyphdelve/glyphdelve/cli/Key", "equals", "(Ljava/lang/Object;)Z"⟩ : MethodName) prog_33_method_3_code 3 (some .boolean) :: ws) ({ frames := 0, cells := 0, slots := 0, locals := 0 } : Room)) (fun a U => a = #[(.ref o0), (.ref o1)] ∧ Z.Warmed39 U.vm ∧ U.heap = h0) (fun _ _ _ _ _ => True) (fun _ U o U' => ∃ v L, o = .returned v ∧ Q7 Z o0 o1 ka ca kb cb h0 n0 v U'.heap L ∧ FrameEnd U o U' L ({ frames := 0, cells := 0, slots := 0, locals := 0 } : Room).cells ({ frames := 0, cells := 0, slots := 0, locals := 0 } : Room).slots) := by
  refine MetFree.of_bodySF (plainFor_of_name pn_4) hisR ?_
  intro p e s m args below meth c s₁ Bd hml0 hP hK
  obtain ⟨rfl, hZ, hh⟩ := hP
  have hx := Bd.exec
  have hby := Bd.bytes
  have hml : c.maxLocals = 3 := hml0
  have hown : s.vm.findClass "com/example/glyphdelve/glyphdelve/cli/Key" = some m.cls := findClass_of_methodNamed Bd.named
  have hnm := (name_of_methodNamed Bd.named Bd.method).1
  have X0 : Stand p l e ({ frames := 0, cells := 0, slots := 0, locals := 0 } : Room) s m #[(.ref o0), (.ref o1)] below meth c s₁ [] 0 0 := Stand.of_body Bd
  have e0 : s₁.heap = h0 := by rw [← hh, Bd.state]; rfl
  have N0 := Fr.nil n0
  refine Ends.opn ?_
  intro QQ hQQ
  refine Ends.step (S' := s₁.setTop (mkF m 0 #[.val (.ref o0), .val (.ref o1), .unset] [])) (fun t k => castTop (ef_7 m o0 o1) k) ?_
  show Ends p e below QQ (s₁.setTop (mkF m 0 #[.val (.ref o0), .val (.ref o1), .unset] []))
  refine Ends.step (fun _ k => XS.aloadN X0.here hx rfl (hb hby d7_0) rfl rfl k) ?_
  show Ends p e below QQ (s₁.setTop (mkF m 1 #[.val (.ref o0), .val (.ref o1), .unset] [(.ref o1)]))
  obtain ⟨T30, X30, e30, st30⟩ := instY X0 hx hZ hown (hw _ (List.mem_of_getElem? (i := 43) rfl)) e0 (Ins.self E_o1) (g := (mkF m 1 #[.val (.ref o0), .val (.ref o1), .unset] [(.ref o1)])) rfl rfl (hb hby d7_1)
  refine Ends.step st30 ?_
  show Ends p e below QQ (T30.setTop (mkF m 4 #[.val (.ref o0), .val (.ref o1), .unset] [(.int (1 : Int32))]))
  refine Ends.step (fun _ k => XS.ifNo X30.here hx rfl (hb hby d7_4) rfl (XT.i0_eq_f (by decide)) k) ?_
  show Ends p e below QQ (T30.setTop (mkF m 7 #[.val (.ref o0), .val (.ref o1), .unset] []))
  refine Ends.step (fun _ k => XS.aloadN X30.here hx rfl (hb hby d7_7) rfl rfl k) ?_
  show Ends p e below QQ (T30.setTop (mkF m 8 #[.val (.ref o0), .val (.ref o1), .unset] [(.ref o1)]))
  obtain ⟨T31, X31, e31, st31⟩ := castY X30 hx hZ hown (hw _ (List.mem_of_getElem? (i := 43) rfl)) e30 (Ins.self E_o1) (g := (mkF m 8 #[.val (.ref o0), .val (.ref o1), .unset] [(.ref o1)])) rfl rfl (hb hby d7_8)
  refine Ends.step st31 ?_
  show Ends p e below QQ (T31.setTop (mkF m 11 #[.val (.ref o0), .val (.ref o1), .unset] [(.ref o1)]))
  refine Ends.step (fun _ k => XS.astoreN X31.here hx rfl (hb hby d7_11) rfl rfl (l' := #[.val (.ref o0), .val (.ref o1), .val (.ref o1)]) rfl k) ?_
  show Ends p e below QQ (T31.setTop (mkF m 12 #[.val (.ref o0), .val (.ref o1), .val (.ref o1)] []))
  refine Ends.step (fun _ k => XS.aloadN X31.here hx rfl (hb hby d7_12) rfl rfl k) ?_
  show Ends p e below QQ (T31.setTop (mkF m 13 #[.val (.ref o0), .val (.ref o1), .val (.ref o1)] [(.ref o1)]))
  obtain ⟨T32, X32, e32, st32⟩ := getF X31 hx hZ hown (host := "") (Or.inl (hw _ (List.mem_of_getElem? (i := 25) rfl))) Via.refl e31 F_kind_o1 (g := (mkF m 13 #[.val (.ref o0), .val (.ref o1), .val (.ref o1)] [(.ref o1)])) rfl rfl (hb hby d7_13)
  refine Ends.step st32 ?_
  show Ends p e below QQ (T32.setTop (mkF m 16 #[.val (.ref o0), .val (.ref o1), .val (.ref o1)] [(.ref kb)]))
  refine Ends.step (fun _ k => XS.aloadN X32.here hx rfl (hb hby d7_16) rfl rfl k) ?_
  show Ends p e below QQ (T32.setTop (mkF m 17 #[.val (.ref o0), .val (.ref o1), .val (.ref o1)] [(.ref o0), (.ref kb)]))
  obtain ⟨T33, X33, e33, st33⟩ := getF X32 hx hZ hown (host := "") (Or.inl (hw _ (List.mem_of_getElem? (i := 25) rfl))) Via.refl e32 F_kind_o0 (g := (mkF m 17 #[.val (.ref o0), .val (.ref o1), .val (.ref o1)] [(.ref o0), (.ref kb)])) rfl rfl (hb hby d7_17)
  refine Ends.step st33 ?_
  show Ends p e below QQ (T33.setTop (mkF m 20 #[.val (.ref o0), .val (.ref o1), .val (.ref o1)] [(.ref ka), (.ref kb)]))
  by_cases hc20_34 : ((.ref kb) : Value) = (.ref ka)
  · refine Ends.step (fun _ k => Jvm.RoadKit.acmp (g := (mkF m 20 #[.val (.ref o0), .val (.ref o1), .val (.ref o1)] [(.ref ka), (.ref kb)])) X33 hx rfl rfl rfl (pc0 := 20) (pc' := 23) (same := true) rfl (hb hby d7_20) rfl (decide_eq_true hc20_34) (by decide) (by decide) k) ?_
    show Ends p e below QQ (T33.setTop (mkF m 23 #[.val (.ref o0), .val (.ref o1), .val (.ref o1)] []))
    refine Ends.step (fun _ k => XS.aloadN X33.here hx rfl (hb hby d7_23) rfl rfl k) ?_
    show Ends p e below QQ (T33.setTop (mkF m 24 #[.val (.ref o0), .val (.ref o1), .val (.ref o1)] [(.ref o1)]))
    obtain ⟨T35, X35, e35, st35⟩ := getF X33 hx hZ hown (host := "") (Or.inl (hw _ (List.mem_of_getElem? (i := 27) rfl))) Via.refl e33 F_character_o1 (g := (mkF m 24 #[.val (.ref o0), .val (.ref o1), .val (.ref o1)] [(.ref o1)])) rfl rfl (hb hby d7_24)
    refine Ends.step st35 ?_
    show Ends p e below QQ (T35.setTop (mkF m 27 #[.val (.ref o0), .val (.ref o1), .val (.ref o1)] [(.int cb)]))
    refine Ends.step (fun _ k => XS.aloadN X35.here hx rfl (hb hby d7_27) rfl rfl k) ?_
    show Ends p e below QQ (T35.setTop (mkF m 28 #[.val (.ref o0), .val (.ref o1), .val (.ref o1)] [(.ref o0), (.int cb)]))
    obtain ⟨T36, X36, e36, st36⟩ := getF X35 hx hZ hown (host := "") (Or.inl (hw _ (List.mem_of_getElem? (i := 27) rfl))) Via.refl e35 F_character_o0 (g := (mkF m 28 #[.val (.ref o0), .val (.ref o1), .val (.ref o1)] [(.ref o0), (.int cb)])) rfl rfl (hb hby d7_28)
    refine Ends.step st36 ?_
    show Ends p e below QQ (T36.setTop (mkF m 31 #[.val (.ref o0), .val (.ref o1), .val (.ref o1)] [(.int ca), (.int cb)]))
    have J39_37 : (∀ (v39_1 : Int32) (hv39_1 : v39_1 = (if cb = ca then (1 : Int32) else (0 : Int32))), Ends p e below QQ (T36.setTop (mkF m 39 #[.val (.ref o0), .val (.ref o1), .val (.ref o1)] [(.int v39_1)]))) → Ends p e below QQ (T36.setTop (mkF m 31 #[.val (.ref o0), .val (.ref o1), .val (.ref o1)] [(.int ca), (.int cb)])) := by
      intro hJ
      by_cases hc31_38 : cb = ca
      · refine Ends.step (fun _ k => XS.icmpNo X36.here hx rfl (hb hby d7_31) rfl (XT.ii_ne_f hc31_38) k) ?_
        show Ends p e below QQ (T36.setTop (mkF m 34 #[.val (.ref o0), .val (.ref o1), .val (.ref o1)] []))
        refine Ends.step (fun _ k => XT.iconstV X36.here hx rfl (1 : Int32) (hb hby d7_34) rfl k) ?_
        show Ends p e below QQ (T36.setTop (mkF m 35 #[.val (.ref o0), .val (.ref o1), .val (.ref o1)] [(.int (1 : Int32))]))
        refine Ends.step (fun _ k => XS.goto X36.here hx rfl (pc0 := 35) (pc' := 39) rfl (hb hby d7_35) (by decide) (by decide) k) ?_
        exact hJ _ (by simp only [if_pos hc31_38])
      · refine Ends.step (fun _ k => XS.icmpYes X36.here hx rfl (pc0 := 31) (pc' := 38) rfl (hb hby d7_31) rfl (XT.ii_ne_t hc31_38) (by decide) (by decide) k) ?_
        show Ends p e below QQ (T36.setTop (mkF m 38 #[.val (.ref o0), .val (.ref o1), .val (.ref o1)] []))
        refine Ends.step (fun _ k => XT.iconstV X36.here hx rfl (0 : Int32) (hb hby d7_38) rfl k) ?_
        exact hJ _ (by simp only [if_neg hc31_38])
    refine J39_37 fun v39_1 hv39_1 => ?_
    have dv39_1 : f7_v39_1 ka ca kb cb = v39_1 := by
      simp only [f7_v39_1]
      exact hv39_1.symm
    show Ends p e below QQ (T36.setTop (mkF m 39 #[.val (.ref o0), .val (.ref o1), .val (.ref o1)] [(.int v39_1)]))
    exact Ends.fin (some (.int v39_1)) X36 hQQ (fun h => by rw [Bd.returns] at h; cases h) Bd.notSynchronized (fun _ hr => retOut X36 hx (t := .boolean) Bd.returns (by rw [hv39_1]; exact own_narB (by repeat' (first | exact Or.inl rfl | exact Or.inr rfl | apply own_01))) (Or.inl ⟨rfl, (by simp), _, rfl⟩) (hb hby d7_39) hr) e36 (by decide) (by decide) ⟨(by simp only [f7, dv39_1, if_pos hc20_34]), N0, rfl⟩
  · refine Ends.step (fun _ k => Jvm.RoadKit.acmp (g := (mkF m 20 #[.val (.ref o0), .val (.ref o1), .val (.ref o1)] [(.ref ka), (.ref kb)])) X33 hx rfl rfl rfl (pc0 := 20) (pc' := 38) (same := false) rfl (hb hby d7_20) rfl (decide_eq_false hc20_34) (by decide) (by decide) k) ?_
    show Ends p e below QQ (T33.setTop (mkF m 38 #[.val (.ref o0), .val (.ref o1), .val (.ref o1)] []))
    refine Ends.step (fun _ k => XT.iconstV X33.here hx rfl (0 : Int32) (hb hby d7_38) rfl k) ?_
    show Ends p e below QQ (T33.setTop (mkF m 39 #[.val (.ref o0), .val (.ref o1), .val (.ref o1)] [(.int (0 : Int32))]))
    exact Ends.fin (some (.int (0 : Int32))) X33 hQQ (fun h => by rw [Bd.returns] at h; cases h) Bd.notSynchronized (fun _ hr => retOut X33 hx (t := .boolean) Bd.returns rfl (Or.inl ⟨rfl, (by simp), _, rfl⟩) (hb hby d7_39) hr) e33 (by decide) (by decide) ⟨(by simp only [f7, if_neg hc20_34]), N0, rfl⟩
theorem ef_0 (m : MethodId) (x0 : Int32) (x1 : Int32) (x2 : Int32) (x3 : Int32) (x4 : Int32) : entryFrame m #[(.int x0), (.int x1), (.int x2), (.int x3), (.int x4)] maxLocals = mkF m 0 #[.val (.int x0), .val (.int x1), .val (.int x2), .val (.int x3), .val (.int x4), .unset, .unset, .unset, .unset, .unset, .unset, .unset, .unset] [] := by first | (simp [entryFrame, mkF, argsToLocals, Value.category, maxLocals]; done) | rfl
def f0_v42_1 (p0 : Int32) (p1 : Int32) (p2 : Int32) (p3 : Int32) (p4 : Int32) (a_CHARACTER : Addr) (a_ESCAPE : Addr) (a_ENTER : Addr) (a_UP : Addr) (a_DOWN : Addr) (a_LEFT : Addr) (a_RIGHT : Addr) : Int32 := (if (p4 &&& (2 : Int32)) = (0 : Int32) then p3.toUInt32.toUInt16.toUInt32.toInt32 else p1.toUInt32.toUInt16.toUInt32.toInt32)
def f0_v95_2 (p0 : Int32) (p1 : Int32) (p2 : Int32) (p3 : Int32) (p4 : Int32) (a_CHARACTER : Addr) (a_ESCAPE : Addr) (a_ENTER : Addr) (a_UP : Addr) (a_DOWN : Addr) (a_LEFT : Addr) (a_RIGHT : Addr) : Int32 := (if (f1 p0) = (f1 p2) then (if p1.toUInt32.toUInt16.toUInt32.toInt32 = (f0_v42_1 p0 p1 p2 p3 p4 a_CHARACTER a_ESCAPE a_ENTER a_UP a_DOWN a_LEFT a_RIGHT) then (1 : Int32) else (0 : Int32)) else (0 : Int32))
def f0_v42_3 (p0 : Int32) (p1 : Int32) (p2 : Int32) (p3 : Int32) (p4 : Int32) (a_CHARACTER : Addr) (a_ESCAPE : Addr) (a_ENTER : Addr) (a_UP : Addr) (a_DOWN : Addr) (a_LEFT : Addr) (a_RIGHT : Addr) : Int32 := (if (p4 &&& (2 : Int32)) = (0 : Int32) then p3.toUInt32.toUInt16.toUInt32.toInt32 else p1.toUInt32.toUInt16.toUInt32.toInt32)
def f0_v95_4 (p0 : Int32) (p1 : Int32) (p2 : Int32) (p3 : Int32) (p4 : Int32) (a_CHARACTER : Addr) (a_ESCAPE : Addr) (a_ENTER : Addr) (a_UP : Addr) (a_DOWN : Addr) (a_LEFT : Addr) (a_RIGHT : Addr) : Int32 := (if p1.toUInt32.toUInt16.toUInt32.toInt32 = (f0_v42_3 p0 p1 p2 p3 p4 a_CHARACTER a_ESCAPE a_ENTER a_UP a_DOWN a_LEFT a_RIGHT) then (1 : Int32) else (0 : Int32))
def f0 (p0 : Int32) (p1 : Int32) (p2 : Int32) (p3 : Int32) (p4 : Int32) (a_CHARACTER : Addr) (a_ESCAPE : Addr) (a_ENTER : Addr) (a_UP : Addr) (a_DOWN : Addr) (a_LEFT : Addr) (a_RIGHT : Addr) : Int32 := (if (p4 &&& (1 : Int32)) = (0 : Int32) then (if (f7 (own_k (f1 p0) a_CHARACTER a_ESCAPE a_ENTER a_UP a_DOWN a_LEFT a_RIGHT) p1.toUInt32.toUInt16.toUInt32.toInt32 (own_k (f1 p2) a_CHARACTER a_ESCAPE a_ENTER a_UP a_DOWN a_LEFT a_RIGHT) (f0_v42_1 p0 p1 p2 p3 p4 a_CHARACTER a_ESCAPE a_ENTER a_UP a_DOWN a_LEFT a_RIGHT)) = (f0_v95_2 p0 p1 p2 p3 p4 a_CHARACTER a_ESCAPE a_ENTER a_UP a_DOWN a_LEFT a_RIGHT) then (if (f7 (own_k (f1 p2) a_CHARACTER a_ESCAPE a_ENTER a_UP a_DOWN a_LEFT a_RIGHT) (f0_v42_1 p0 p1 p2 p3 p4 a_CHARACTER a_ESCAPE a_ENTER a_UP a_DOWN a_LEFT a_RIGHT) (own_k (f1 p0) a_CHARACTER a_ESCAPE a_ENTER a_UP a_DOWN a_LEFT a_RIGHT) p1.toUInt32.toUInt16.toUInt32.toInt32) = (f0_v95_2 p0 p1 p2 p3 p4 a_CHARACTER a_ESCAPE a_ENTER a_UP a_DOWN a_LEFT a_RIGHT) then (if (f7 (own_k (f1 p0) a_CHARACTER a_ESCAPE a_ENTER a_UP a_DOWN a_LEFT a_RIGHT) p1.toUInt32.toUInt16.toUInt32.toInt32 (own_k (f1 p0) a_CHARACTER a_ESCAPE a_ENTER a_UP a_DOWN a_LEFT a_RIGHT) p1.toUInt32.toUInt16.toUInt32.toInt32) = (0 : Int32) then (0 : Int32) else (1 : Int32)) else (0 : Int32)) else (0 : Int32)) else (if (f7 (own_k (f1 p0) a_CHARACTER a_ESCAPE a_ENTER a_UP a_DOWN a_LEFT a_RIGHT) p1.toUInt32.toUInt16.toUInt32.toInt32 (own_k (f1 p0) a_CHARACTER a_ESCAPE a_ENTER a_UP a_DOWN a_LEFT a_RIGHT) (f0_v42_3 p0 p1 p2 p3 p4 a_CHARACTER a_ESCAPE a_ENTER a_UP a_DOWN a_LEFT a_RIGHT)) = (f0_v95_4 p0 p1 p2 p3 p4 a_CHARACTER a_ESCAPE a_ENTER a_UP a_DOWN a_LEFT a_RIGHT) then (if (f7 (own_k (f1 p0) a_CHARACTER a_ESCAPE a_ENTER a_UP a_DOWN a_LEFT a_RIGHT) (f0_v42_3 p0 p1 p2 p3 p4 a_CHARACTER a_ESCAPE a_ENTER a_UP a_DOWN a_LEFT a_RIGHT) (own_k (f1 p0) a_CHARACTER a_ESCAPE a_ENTER a_UP a_DOWN a_LEFT a_RIGHT) p1.toUInt32.toUInt16.toUInt32.toInt32) = (f0_v95_4 p0 p1 p2 p3 p4 a_CHARACTER a_ESCAPE a_ENTER a_UP a_DOWN a_LEFT a_RIGHT) then (if (f7 (own_k (f1 p0) a_CHARACTER a_ESCAPE a_ENTER a_UP a_DOWN a_LEFT a_RIGHT) p1.toUInt32.toUInt16.toUInt32.toInt32 (own_k (f1 p0) a_CHARACTER a_ESCAPE a_ENTER a_UP a_DOWN a_LEFT a_RIGHT) p1.toUInt32.toUInt16.toUInt32.toInt32) = (0 : Int32) then (0 : Int32) else (1 : Int32)) else (0 : Int32)) else (0 : Int32)))
def Q0 (Z : State) (p0 : Int32) (p1 : Int32) (p2 : Int32) (p3 : Int32) (p4 : Int32) (a_CHARACTER : Addr) (a_ENTER : Addr) (a_UP : Addr) (a_LEFT : Addr) (a_ESCAPE : Addr) (a_DOWN : Addr) (a_RIGHT : Addr) (ac : Addr) (cc : Cell) (h0 : Heap) (n0 : Nat) (v : Option Value) (h : Heap) (L : List Loc) : Prop := (v = some (.int (f0 p0 p1 p2 p3 p4 a_CHARACTER a_ESCAPE a_ENTER a_UP a_DOWN a_LEFT a_RIGHT))) ∧ (Fr n0 L) ∧ (Keep h0 h [])
set_option maxRecDepth 65536 in
set_option maxHeartbeats 40000000 in
theorem rm0 (l : Launch) (Z : State) (a0 : Array Value) (hw : ∀ d ∈ tables_1, d.before a0 Z = true) (ws : List Jvm.Cond) (p0 : Int32) (p1 : Int32) (p2 : Int32) (p3 : Int32) (p4 : Int32) (a_CHARACTER : Addr) (a_ENTER : Addr) (a_UP : Addr) (a_LEFT : Addr) (a_ESCAPE : Addr) (a_DOWN : Addr) (a_RIGHT : Addr) (ac : Addr) (cc : Cell) (h0 : Heap) (n0 : Nat) (Z0 : n0 ≤ h0.size) (E_a_CHARACTER : Exa Z h0 a_CHARACTER "com/example/glyphdelve/glyphdelve/cli/Key$Kind") (E_a_ENTER : Exa Z h0 a_ENTER "com/example/glyphdelve/glyphdelve/cli/Key$Kind") (E_a_UP : Exa Z h0 a_UP "com/example/glyphdelve/glyphdelve/cli/Key$Kind") (E_a_LEFT : Exa Z h0 a_LEFT "com/example/glyphdelve/glyphdelve/cli/Key$Kind") (E_a_ESCAPE : Exa Z h0 a_ESCAPE "com/example/glyphdelve/glyphdelve/cli/Key$Kind") (E_a_DOWN : Exa Z h0 a_DOWN "com/example/glyphdelve/glyphdelve/cli/Key$Kind") (E_a_RIGHT : Exa Z h0 a_RIGHT "com/example/glyphdelve/glyphdelve/cli/Key$Kind") (F_ordinal_a_ENTER : Fld Z h0 a_ENTER "java/lang/Enum" "ordinal" "I" (.int (2 : Int32))) (F_ordinal_a_CHARACTER : Fld Z h0 a_CHARACTER "java/lang/Enum" "ordinal" "I" (.int (0 : Int32))) (F_ordinal_a_ESCAPE : Fld Z h0 a_ESCAPE "java/lang/Enum" "ordinal" "I" (.int (1 : Int32))) (F_ordinal_a_UP : Fld Z h0 a_UP "java/lang/Enum" "ordinal" "I" (.int (3 : Int32))) (F_ordinal_a_DOWN : Fld Z h0 a_DOWN "java/lang/Enum" "ordinal" "I" (.int (4 : Int32))) (F_ordinal_a_LEFT : Fld Z h0 a_LEFT "java/lang/Enum" "ordinal" "I" (.int (5 : Int32))) (F_ordinal_a_RIGHT : Fld Z h0 a_RIGHT "java/lang/Enum" "ordinal" "I" (.int (6 : Int32))) (S_CHARACTER : Sta Z h0 "com/example/glyphdelve/glyphdelve/cli/Key$Kind" "CHARACTER" "Lcom/example/glyphdelve/glyphdelve/cli/Key$Kind;" (.ref a_CHARACTER)) (S_ENTER : Sta Z h0 "com/example/glyphdelve/glyphdelve/cli/Key$Kind" "ENTER" "Lcom/example/glyphdelve/glyphdelve/cli/Key$Kind;" (.ref a_ENTER)) (S_UP : Sta Z h0 "com/example/glyphdelve/glyphdelve/cli/Key$Kind" "UP" "Lcom/example/glyphdelve/glyphdelve/cli/Key$Kind;" (.ref a_UP)) (S_LEFT : Sta Z h0 "com/example/glyphdelve/glyphdelve/cli/Key$Kind" "LEFT" "Lcom/example/glyphdelve/glyphdelve/cli/Key$Kind;" (.ref a_LEFT)) (S_ESCAPE : Sta Z h0 "com/example/glyphdelve/glyphdelve/cli/Key$Kind" "ESCAPE" "Lcom/example/glyphdelve/glyphdelve/cli/Key$Kind;" (.ref a_ESCAPE)) (S_DOWN : Sta Z h0 "com/example/glyphdelve/glyphdelve/cli/Key$Kind" "DOWN" "Lcom/example/glyphdelve/glyphdelve/cli/Key$Kind;" (.ref a_DOWN)) (S_RIGHT : Sta Z h0 "com/example/glyphdelve/glyphdelve/cli/Key$Kind" "RIGHT" "Lcom/example/glyphdelve/glyphdelve/cli/Key$Kind;" (.ref a_RIGHT)) (S_high : Sta Z h0 "java/lang/Integer$IntegerCache" "high" "I" (.int (127 : Int32))) (S_cache : Sta Z h0 "java/lang/Integer$IntegerCache" "cache" "[Ljava/lang/Integer;" (.ref ac)) (hbx : Bxs Z ac cc "java/lang/Integer" "I" (256 : Int32) (fun j => .int (j - 128))) (old : Old Z n0 h0) (ne_a_CHARACTER_a_ESCAPE : a_CHARACTER ≠ a_ESCAPE) (ne_a_CHARACTER_a_ENTER : a_CHARACTER ≠ a_ENTER) (ne_a_CHARACTER_a_UP : a_CHARACTER ≠ a_UP) (ne_a_CHARACTER_a_DOWN : a_CHARACTER ≠ a_DOWN) (ne_a_CHARACTER_a_LEFT : a_CHARACTER ≠ a_LEFT) (ne_a_CHARACTER_a_RIGHT : a_CHARACTER ≠ a_RIGHT) (ne_a_ESCAPE_a_ENTER : a_ESCAPE ≠ a_ENTER) (ne_a_ESCAPE_a_UP : a_ESCAPE ≠ a_UP) (ne_a_ESCAPE_a_DOWN : a_ESCAPE ≠ a_DOWN) (ne_a_ESCAPE_a_LEFT : a_ESCAPE ≠ a_LEFT) (ne_a_ESCAPE_a_RIGHT : a_ESCAPE ≠ a_RIGHT) (ne_a_ENTER_a_UP : a_ENTER ≠ a_UP) (ne_a_ENTER_a_DOWN : a_ENTER ≠ a_DOWN) (ne_a_ENTER_a_LEFT : a_ENTER ≠ a_LEFT) (ne_a_ENTER_a_RIGHT : a_ENTER ≠ a_RIGHT) (ne_a_UP_a_DOWN : a_UP ≠ a_DOWN) (ne_a_UP_a_LEFT : a_UP ≠ a_LEFT) (ne_a_UP_a_RIGHT : a_UP ≠ a_RIGHT) (ne_a_DOWN_a_LEFT : a_DOWN ≠ a_LEFT) (ne_a_DOWN_a_RIGHT : a_DOWN ≠ a_RIGHT) (ne_a_LEFT_a_RIGHT : a_LEFT ≠ a_RIGHT) :
    MetFree l x (head1 (Jvm.Cond.code x code maxLocals ret :: ws) room_1) (fun a U => a = #[(.int p0), (.int p1), (.int p2), (.int p3), (.int p4)] ∧ Z.Warmed39 U.vm ∧ U.heap = h0) (fun _ _ _ _ _ => True) (fun _ U o U' => ∃ v L, o = .returned v ∧ Q0 Z p0 p1 p2 p3 p4 a_CHARACTER a_ENTER a_UP a_LEFT a_ESCAPE a_DOWN a_RIGHT ac cc h0 n0 v U'.heap L ∧ FrameEnd U o U' L room_1.cells room_1.slots) := by
  refine MetFree.of_bodySF (plainFor_of_name pn_3) hisR ?_
  intro p e s m args below meth c s₁ Bd hml0 hP hK
  obtain ⟨rfl, hZ, hh⟩ := hP
  have hx := Bd.exec
  have hby := Bd.bytes
  have hml : c.maxLocals = 13 := hml0
  have hown : s.vm.findClass "com/example/glyphdelve/glyphdelve/cli/KeyEqualsPinLaw" = some m.cls := findClass_of_methodNamed Bd.named
  have hnm := (name_of_methodNamed Bd.named Bd.method).1
  have X0 : Stand p l e room_1 s m #[(.int p0), (.int p1), (.int p2), (.int p3), (.int p4)] below meth c s₁ [] 0 0 := Stand.of_body Bd
  have e0 : s₁.heap = h0 := by rw [← hh, Bd.state]; rfl
  have N0 := Fr.nil n0
  refine Ends.opn ?_
  intro QQ hQQ
  refine Ends.step (S' := s₁.setTop (mkF m 0 #[.val (.int p0), .val (.int p1), .val (.int p2), .val (.int p3), .val (.int p4), .unset, .unset, .unset, .unset, .unset, .unset, .unset, .unset] [])) (fun t k => castTop (ef_0 m p0 p1 p2 p3 p4) k) ?_
  show Ends p e below QQ (s₁.setTop (mkF m 0 #[.val (.int p0), .val (.int p1), .val (.int p2), .val (.int p3), .val (.int p4), .unset, .unset, .unset, .unset, .unset, .unset, .unset, .unset] []))
  refine Ends.step (fun _ k => XS.iloadN X0.here hx rfl (hb hby at_0) rfl k) ?_
  show Ends p e below QQ (s₁.setTop (mkF m 1 #[.val (.int p0), .val (.int p1), .val (.int p2), .val (.int p3), .val (.int p4), .unset, .unset, .unset, .unset, .unset, .unset, .unset, .unset] [(.int p0)]))
  obtain ⟨_, _, ⟨T39, L39, k39, n39⟩, -, X39, ⟨Lc39, hQ39, l39, y39, z39⟩, st39⟩ := Jvm.LawKit.callS X0 hx (y := (⟨"com/example/glyphdelve/glyphdelve/cli/KeyEqualsPinLaw", "idx", "(I)I"⟩ : MethodName)) hown (mvT hZ (hw _ (List.mem_of_getElem? (i := 0) rfl))) (mvT hZ (hw _ (List.mem_of_getElem? (i := 1) rfl))) (mvT hZ (hw _ (List.mem_of_getElem? (i := 2) rfl))) (mvT hZ (hw _ (List.mem_of_getElem? (i := 3) rfl))) (by decide) (backOf (W := 0) (rm1 l Z a0 hw [] p0 h0 n0 (Nat.le_trans Z0 (Keep.refl h0 []).1)) hZ (hw _ (List.mem_of_getElem? (i := 3) rfl)) (hw _ (List.mem_of_getElem? (i := 2) rfl)) (by decide) (by decide)) (g := (mkF m 1 #[.val (.int p0), .val (.int p1), .val (.int p2), .val (.int p3), .val (.int p4), .unset, .unset, .unset, .unset, .unset, .unset, .unset, .unset] [(.int p0)])) rfl (by rw [hml]; rfl) (argsL := [(.int p0)]) (rest := []) (lenOf pd_2 rfl) rfl (by show 2 * 0 + _ ≤ _; exact Nat.le_of_eq rfl) (hb hby at_1) (fun _ _ => ⟨rfl, e0, (by decide : 0 + 0 ≤ _), (by decide : 0 + 0 ≤ _)⟩)
  dsimp only [Pt.U, Pt.locs, Pt.cells, Pt.slots] at X39 l39 y39 z39 st39 hQ39
  subst l39 y39 z39
  obtain ⟨rfl, Nq39, hh39⟩ := hQ39
  have N39 := Fr.app N0 Nq39
  refine Ends.step st39 ?_
  show Ends p e below QQ (T39.setTop (mkF m 4 #[.val (.int p0), .val (.int p1), .val (.int p2), .val (.int p3), .val (.int p4), .unset, .unset, .unset, .unset, .unset, .unset, .unset, .unset] [(.int (f1 p0))]))
  refine Ends.step (fun _ k => XS.istore X39.here hx rfl (hb hby at_4) rfl (l' := #[.val (.int p0), .val (.int p1), .val (.int p2), .val (.int p3), .val (.int p4), .val (.int (f1 p0)), .unset, .unset, .unset, .unset, .unset, .unset, .unset]) rfl k) ?_
  show Ends p e below QQ (T39.setTop (mkF m 6 #[.val (.int p0), .val (.int p1), .val (.int p2), .val (.int p3), .val (.int p4), .val (.int (f1 p0)), .unset, .unset, .unset, .unset, .unset, .unset, .unset] []))
  refine Ends.step (fun _ k => XS.iload X39.here hx rfl (hb hby at_6) rfl k) ?_
  show Ends p e below QQ (T39.setTop (mkF m 8 #[.val (.int p0), .val (.int p1), .val (.int p2), .val (.int p3), .val (.int p4), .val (.int (f1 p0)), .unset, .unset, .unset, .unset, .unset, .unset, .unset] [(.int p4)]))
  refine Ends.step (fun _ k => XT.iconstV X39.here hx rfl (1 : Int32) (hb hby at_8) rfl k) ?_
  show Ends p e below QQ (T39.setTop (mkF m 9 #[.val (.int p0), .val (.int p1), .val (.int p2), .val (.int p3), .val (.int p4), .val (.int (f1 p0)), .unset, .unset, .unset, .unset, .unset, .unset, .unset] [(.int (1 : Int32)), (.int p4)]))
  refine Ends.step (fun _ k => XS.iand X39.here hx rfl (hb hby at_9) rfl k) ?_
  show Ends p e below QQ (T39.setTop (mkF m 10 #[.val (.int p0), .val (.int p1), .val (.int p2), .val (.int p3), .val (.int p4), .val (.int (f1 p0)), .unset, .unset, .unset, .unset, .unset, .unset, .unset] [(.int (p4 &&& (1 : Int32)))]))
  by_cases hc10_40 : (p4 &&& (1 : Int32)) = (0 : Int32)
  · refine Ends.step (fun _ k => XS.ifYes X39.here hx rfl (pc0 := 10) (pc' := 18) rfl (hb hby at_10) rfl (XT.i0_eq_t hc10_40) (by decide) (by decide) k) ?_
    show Ends p e below QQ (T39.setTop (mkF m 18 #[.val (.int p0), .val (.int p1), .val (.int p2), .val (.int p3), .val (.int p4), .val (.int (f1 p0)), .unset, .unset, .unset, .unset, .unset, .unset, .unset] []))
    refine Ends.step (fun _ k => XS.iloadN X39.here hx rfl (hb hby at_18) rfl k) ?_
    show Ends p e below QQ (T39.setTop (mkF m 19 #[.val (.int p0), .val (.int p1), .val (.int p2), .val (.int p3), .val (.int p4), .val (.int (f1 p0)), .unset, .unset, .unset, .unset, .unset, .unset, .unset] [(.int p2)]))
    obtain ⟨_, _, ⟨T41, L41, k41, n41⟩, -, X41, ⟨Lc41, hQ41, l41, y41, z41⟩, st41⟩ := Jvm.LawKit.callS X39 hx (y := (⟨"com/example/glyphdelve/glyphdelve/cli/KeyEqualsPinLaw", "idx", "(I)I"⟩ : MethodName)) hown (mvT hZ (hw _ (List.mem_of_getElem? (i := 0) rfl))) (mvT hZ (hw _ (List.mem_of_getElem? (i := 1) rfl))) (mvT hZ (hw _ (List.mem_of_getElem? (i := 2) rfl))) (mvT hZ (hw _ (List.mem_of_getElem? (i := 3) rfl))) (by decide) (backOf (W := 0) (rm1 l Z a0 hw [] p2 h0 n0 (Nat.le_trans Z0 (Keep.refl h0 []).1)) hZ (hw _ (List.mem_of_getElem? (i := 3) rfl)) (hw _ (List.mem_of_getElem? (i := 2) rfl)) (by decide) (by decide)) (g := (mkF m 19 #[.val (.int p0), .val (.int p1), .val (.int p2), .val (.int p3), .val (.int p4), .val (.int (f1 p0)), .unset, .unset, .unset, .unset, .unset, .unset, .unset] [(.int p2)])) rfl (by rw [hml]; rfl) (argsL := [(.int p2)]) (rest := []) (lenOf pd_2 rfl) rfl (by show 2 * 0 + _ ≤ _; exact Nat.le_of_eq rfl) (hb hby at_19) (fun _ _ => ⟨rfl, hh39, (by decide : 0 + 0 ≤ _), (by decide : 0 + 0 ≤ _)⟩)
    dsimp only [Pt.U, Pt.locs, Pt.cells, Pt.slots] at X41 l41 y41 z41 st41 hQ41
    subst l41 y41 z41
    obtain ⟨rfl, Nq41, hh41⟩ := hQ41
    have N41 := Fr.app N39 Nq41
    refine Ends.step st41 ?_
    show Ends p e below QQ (T41.setTop (mkF m 22 #[.val (.int p0), .val (.int p1), .val (.int p2), .val (.int p3), .val (.int p4), .val (.int (f1 p0)), .unset, .unset, .unset, .unset, .unset, .unset, .unset] [(.int (f1 p2))]))
    refine Ends.step (fun _ k => XS.istore X41.here hx rfl (hb hby at_22) rfl (l' := #[.val (.int p0), .val (.int p1), .val (.int p2), .val (.int p3), .val (.int p4), .val (.int (f1 p0)), .val (.int (f1 p2)), .unset, .unset, .unset, .unset, .unset, .unset]) rfl k) ?_
    show Ends p e below QQ (T41.setTop (mkF m 24 #[.val (.int p0), .val (.int p1), .val (.int p2), .val (.int p3), .val (.int p4), .val (.int (f1 p0)), .val (.int (f1 p2)), .unset, .unset, .unset, .unset, .unset, .unset] []))
    refine Ends.step (fun _ k => XS.iloadN X41.here hx rfl (hb hby at_24) rfl k) ?_
    show Ends p e below QQ (T41.setTop (mkF m 25 #[.val (.int p0), .val (.int p1), .val (.int p2), .val (.int p3), .val (.int p4), .val (.int (f1 p0)), .val (.int (f1 p2)), .unset, .unset, .unset, .unset, .unset, .unset] [(.int p1)]))
    refine Ends.step (fun _ k => XT.i2c X41.here hx rfl (hb hby at_25) rfl k) ?_
    show Ends p e below QQ (T41.setTop (mkF m 26 #[.val (.int p0), .val (.int p1), .val (.int p2), .val (.int p3), .val (.int p4), .val (.int (f1 p0)), .val (.int (f1 p2)), .unset, .unset, .unset, .unset, .unset, .unset] [(.int p1.toUInt32.toUInt16.toUInt32.toInt32)]))
    refine Ends.step (fun _ k => XS.istore X41.here hx rfl (hb hby at_26) rfl (l' := #[.val (.int p0), .val (.int p1), .val (.int p2), .val (.int p3), .val (.int p4), .val (.int (f1 p0)), .val (.int (f1 p2)), .val (.int p1.toUInt32.toUInt16.toUInt32.toInt32), .unset, .unset, .unset, .unset, .unset]) rfl k) ?_
    show Ends p e below QQ (T41.setTop (mkF m 28 #[.val (.int p0), .val (.int p1), .val (.int p2), .val (.int p3), .val (.int p4), .val (.int (f1 p0)), .val (.int (f1 p2)), .val (.int p1.toUInt32.toUInt16.toUInt32.toInt32), .unset, .unset, .unset, .unset, .unset] []))
    refine Ends.step (fun _ k => XS.iload X41.here hx rfl (hb hby at_28) rfl k) ?_
    show Ends p e below QQ (T41.setTop (mkF m 30 #[.val (.int p0), .val (.int p1), .val (.int p2), .val (.int p3), .val (.int p4), .val (.int (f1 p0)), .val (.int (f1 p2)), .val (.int p1.toUInt32.toUInt16.toUInt32.toInt32), .unset, .unset, .unset, .unset, .unset] [(.int p4)]))
    refine Ends.step (fun _ k => XT.iconstV X41.here hx rfl (2 : Int32) (hb hby at_30) rfl k) ?_
    show Ends p e below QQ (T41.setTop (mkF m 31 #[.val (.int p0), .val (.int p1), .val (.int p2), .val (.int p3), .val (.int p4), .val (.int (f1 p0)), .val (.int (f1 p2)), .val (.int p1.toUInt32.toUInt16.toUInt32.toInt32), .unset, .unset, .unset, .unset, .unset] [(.int (2 : Int32)), (.int p4)]))
    refine Ends.step (fun _ k => XS.iand X41.here hx rfl (hb hby at_31) rfl k) ?_
    show Ends p e below QQ (T41.setTop (mkF m 32 #[.val (.int p0), .val (.int p1), .val (.int p2), .val (.int p3), .val (.int p4), .val (.int (f1 p0)), .val (.int (f1 p2)), .val (.int p1.toUInt32.toUInt16.toUInt32.toInt32), .unset, .unset, .unset, .unset, .unset] [(.int (p4 &&& (2 : Int32)))]))
    have J42_42 : (∀ (v42_1 : Int32) (hv42_1 : v42_1 = (if (p4 &&& (2 : Int32)) = (0 : Int32) then p3.toUInt32.toUInt16.toUInt32.toInt32 else p1.toUInt32.toUInt16.toUInt32.toInt32)), Ends p e below QQ (T41.setTop (mkF m 42 #[.val (.int p0), .val (.int p1), .val (.int p2), .val (.int p3), .val (.int p4), .val (.int (f1 p0)), .val (.int (f1 p2)), .val (.int p1.toUInt32.toUInt16.toUInt32.toInt32), .unset, .unset, .unset, .unset, .unset] [(.int v42_1)]))) → Ends p e below QQ (T41.setTop (mkF m 32 #[.val (.int p0), .val (.int p1), .val (.int p2), .val (.int p3), .val (.int p4), .val (.int (f1 p0)), .val (.int (f1 p2)), .val (.int p1.toUInt32.toUInt16.toUInt32.toInt32), .unset, .unset, .unset, .unset, .unset] [(.int (p4 &&& (2 : Int32)))])) := by
      intro hJ
      by_cases hc32_43 : (p4 &&& (2 : Int32)) = (0 : Int32)
      · refine Ends.step (fun _ k => XS.ifYes X41.here hx rfl (pc0 := 32) (pc' := 40) rfl (hb hby at_32) rfl (XT.i0_eq_t hc32_43) (by decide) (by decide) k) ?_
        show Ends p e below QQ (T41.setTop (mkF m 40 #[.val (.int p0), .val (.int p1), .val (.int p2), .val (.int p3), .val (.int p4), .val (.int (f1 p0)), .val (.int (f1 p2)), .val (.int p1.toUInt32.toUInt16.toUInt32.toInt32), .unset, .unset, .unset, .unset, .unset] []))
        refine Ends.step (fun _ k => XS.iloadN X41.here hx rfl (hb hby at_40) rfl k) ?_
        show Ends p e below QQ (T41.setTop (mkF m 41 #[.val (.int p0), .val (.int p1), .val (.int p2), .val (.int p3), .val (.int p4), .val (.int (f1 p0)), .val (.int (f1 p2)), .val (.int p1.toUInt32.toUInt16.toUInt32.toInt32), .unset, .unset, .unset, .unset, .unset] [(.int p3)]))
        refine Ends.step (fun _ k => XT.i2c X41.here hx rfl (hb hby at_41) rfl k) ?_
        exact hJ _ (by simp only [if_pos hc32_43])
      · refine Ends.step (fun _ k => XS.ifNo X41.here hx rfl (hb hby at_32) rfl (XT.i0_eq_f hc32_43) k) ?_
        show Ends p e below QQ (T41.setTop (mkF m 35 #[.val (.int p0), .val (.int p1), .val (.int p2), .val (.int p3), .val (.int p4), .val (.int (f1 p0)), .val (.int (f1 p2)), .val (.int p1.toUInt32.toUInt16.toUInt32.toInt32), .unset, .unset, .unset, .unset, .unset] []))
        refine Ends.step (fun _ k => XS.iload X41.here hx rfl (hb hby at_35) rfl k) ?_
        show Ends p e below QQ (T41.setTop (mkF m 37 #[.val (.int p0), .val (.int p1), .val (.int p2), .val (.int p3), .val (.int p4), .val (.int (f1 p0)), .val (.int (f1 p2)), .val (.int p1.toUInt32.toUInt16.toUInt32.toInt32), .unset, .unset, .unset, .unset, .unset] [(.int p1.toUInt32.toUInt16.toUInt32.toInt32)]))
        refine Ends.step (fun _ k => XS.goto X41.here hx rfl (pc0 := 37) (pc' := 42) rfl (hb hby at_37) (by decide) (by decide) k) ?_
        exact hJ _ (by simp only [if_neg hc32_43])
    refine J42_42 fun v42_1 hv42_1 => ?_
    have dv42_1 : f0_v42_1 p0 p1 p2 p3 p4 a_CHARACTER a_ESCAPE a_ENTER a_UP a_DOWN a_LEFT a_RIGHT = v42_1 := by
      simp only [f0_v42_1]
      exact hv42_1.symm
    show Ends p e below QQ (T41.setTop (mkF m 42 #[.val (.int p0), .val (.int p1), .val (.int p2), .val (.int p3), .val (.int p4), .val (.int (f1 p0)), .val (.int (f1 p2)), .val (.int p1.toUInt32.toUInt16.toUInt32.toInt32), .unset, .unset, .unset, .unset, .unset] [(.int v42_1)]))
    refine Ends.step (fun _ k => XS.istore X41.here hx rfl (hb hby at_42) rfl (l' := #[.val (.int p0), .val (.int p1), .val (.int p2), .val (.int p3), .val (.int p4), .val (.int (f1 p0)), .val (.int (f1 p2)), .val (.int p1.toUInt32.toUInt16.toUInt32.toInt32), .val (.int v42_1), .unset, .unset, .unset, .unset]) rfl k) ?_
    show Ends p e below QQ (T41.setTop (mkF m 44 #[.val (.int p0), .val (.int p1), .val (.int p2), .val (.int p3), .val (.int p4), .val (.int (f1 p0)), .val (.int (f1 p2)), .val (.int p1.toUInt32.toUInt16.toUInt32.toInt32), .val (.int v42_1), .unset, .unset, .unset, .unset] []))
    obtain ⟨T44, h44, X44, e44, E44, A44, D44, U44, st44⟩ := newO X41 hx hZ hown (hw _ (List.mem_of_getElem? (i := 5) rfl)) (hw _ (List.mem_of_getElem? (i := 6) rfl)) (hw _ (List.mem_of_getElem? (i := 7) rfl)) hh41 (g := (mkF m 44 #[.val (.int p0), .val (.int p1), .val (.int p2), .val (.int p3), .val (.int p4), .val (.int (f1 p0)), .val (.int (f1 p2)), .val (.int p1.toUInt32.toUInt16.toUInt32.toInt32), .val (.int v42_1), .unset, .unset, .unset, .unset] [])) rfl (hb hby at_44) (by decide) (by decide)
    obtain ⟨b44, g44⟩ : ∃ z, z = h0.size := ⟨_, rfl⟩
    rw [← g44] at A44 D44 U44 st44
    have ne_a_CHARACTER_b44 : a_CHARACTER ≠ b44 := Nat.ne_of_lt (Nat.lt_of_lt_of_le E_a_CHARACTER.lt (Nat.le_of_eq g44.symm))
    have ne_a_ENTER_b44 : a_ENTER ≠ b44 := Nat.ne_of_lt (Nat.lt_of_lt_of_le E_a_ENTER.lt (Nat.le_of_eq g44.symm))
    have ne_a_UP_b44 : a_UP ≠ b44 := Nat.ne_of_lt (Nat.lt_of_lt_of_le E_a_UP.lt (Nat.le_of_eq g44.symm))
    have ne_a_LEFT_b44 : a_LEFT ≠ b44 := Nat.ne_of_lt (Nat.lt_of_lt_of_le E_a_LEFT.lt (Nat.le_of_eq g44.symm))
    have ne_a_ESCAPE_b44 : a_ESCAPE ≠ b44 := Nat.ne_of_lt (Nat.lt_of_lt_of_le E_a_ESCAPE.lt (Nat.le_of_eq g44.symm))
    have ne_a_DOWN_b44 : a_DOWN ≠ b44 := Nat.ne_of_lt (Nat.lt_of_lt_of_le E_a_DOWN.lt (Nat.le_of_eq g44.symm))
    have ne_a_RIGHT_b44 : a_RIGHT ≠ b44 := Nat.ne_of_lt (Nat.lt_of_lt_of_le E_a_RIGHT.lt (Nat.le_of_eq g44.symm))
    have g_b44 : n0 ≤ b44 := Nat.le_trans Z0 (Nat.le_trans (Keep.refl h0 []).1 (Nat.le_of_eq g44.symm))
    have sz_b44 : h0.size ≤ b44 := Nat.le_trans (Keep.refl h0 []).1 (Nat.le_of_eq g44.symm)
    have E_a_CHARACTER := E_a_CHARACTER.ext E44
    have E_a_ENTER := E_a_ENTER.ext E44
    have E_a_UP := E_a_UP.ext E44
    have E_a_LEFT := E_a_LEFT.ext E44
    have E_a_ESCAPE := E_a_ESCAPE.ext E44
    have E_a_DOWN := E_a_DOWN.ext E44
    have E_a_RIGHT := E_a_RIGHT.ext E44
    have F_ordinal_a_ENTER := F_ordinal_a_ENTER.ext E44
    have F_ordinal_a_CHARACTER := F_ordinal_a_CHARACTER.ext E44
    have F_ordinal_a_ESCAPE := F_ordinal_a_ESCAPE.ext E44
    have F_ordinal_a_UP := F_ordinal_a_UP.ext E44
    have F_ordinal_a_DOWN := F_ordinal_a_DOWN.ext E44
    have F_ordinal_a_LEFT := F_ordinal_a_LEFT.ext E44
    have F_ordinal_a_RIGHT := F_ordinal_a_RIGHT.ext E44
    have S_CHARACTER := S_CHARACTER.ext E44
    have S_ENTER := S_ENTER.ext E44
    have S_UP := S_UP.ext E44
    have S_LEFT := S_LEFT.ext E44
    have S_ESCAPE := S_ESCAPE.ext E44
    have S_DOWN := S_DOWN.ext E44
    have S_RIGHT := S_RIGHT.ext E44
    have S_high := S_high.ext E44
    have S_cache := S_cache.ext E44
    have old := old.ext E44
    have K44 := (Keep.refl h0 []).ext E44
    have E_b44 := A44
    have F_kind_b44 : Fld Z h44 b44 "com/example/glyphdelve/glyphdelve/cli/Key" "kind" "Lcom/example/glyphdelve/glyphdelve/cli/Key$Kind;" .null := D44 (Or.inr (hw _ (List.mem_of_getElem? (i := 26) rfl))) (ty := (.object "com/example/glyphdelve/glyphdelve/cli/Key$Kind")) (by decide)
    have F_character_b44 : Fld Z h44 b44 "com/example/glyphdelve/glyphdelve/cli/Key" "character" "C" (.int (0 : Int32)) := D44 (Or.inr (hw _ (List.mem_of_getElem? (i := 28) rfl))) (ty := .char) (by decide)
    refine Ends.step st44 ?_
    show Ends p e below QQ (T44.setTop (mkF m 47 #[.val (.int p0), .val (.int p1), .val (.int p2), .val (.int p3), .val (.int p4), .val (.int (f1 p0)), .val (.int (f1 p2)), .val (.int p1.toUInt32.toUInt16.toUInt32.toInt32), .val (.int v42_1), .unset, .unset, .unset, .unset] [(.ref b44)]))
    refine Ends.step (fun _ k => XS.dup X44.here hx rfl (hb hby at_47) rfl rfl k) ?_
    show Ends p e below QQ (T44.setTop (mkF m 48 #[.val (.int p0), .val (.int p1), .val (.int p2), .val (.int p3), .val (.int p4), .val (.int (f1 p0)), .val (.int (f1 p2)), .val (.int p1.toUInt32.toUInt16.toUInt32.toInt32), .val (.int v42_1), .unset, .unset, .unset, .unset] [(.ref b44), (.ref b44)]))
    refine Ends.step (fun _ k => XS.iload X44.here hx rfl (hb hby at_48) rfl k) ?_
    show Ends p e below QQ (T44.setTop (mkF m 50 #[.val (.int p0), .val (.int p1), .val (.int p2), .val (.int p3), .val (.int p4), .val (.int (f1 p0)), .val (.int (f1 p2)), .val (.int p1.toUInt32.toUInt16.toUInt32.toInt32), .val (.int v42_1), .unset, .unset, .unset, .unset] [(.int (f1 p0)), (.ref b44), (.ref b44)]))
    obtain ⟨_, _, ⟨T45, L45, k45, n45⟩, -, X45, ⟨Lc45, hQ45, l45, y45, z45⟩, st45⟩ := Jvm.LawKit.callS X44 hx (y := (⟨"com/example/glyphdelve/glyphdelve/cli/KeyEqualsPinLaw", "kind", "(I)Lcom/example/glyphdelve/glyphdelve/cli/Key$Kind;"⟩ : MethodName)) hown (mvT hZ (hw _ (List.mem_of_getElem? (i := 8) rfl))) (mvT hZ (hw _ (List.mem_of_getElem? (i := 9) rfl))) (mvT hZ (hw _ (List.mem_of_getElem? (i := 2) rfl))) (mvT hZ (hw _ (List.mem_of_getElem? (i := 10) rfl))) (by decide) (backOf (W := 2) (rm2 l Z a0 hw [] (f1 p0) a_CHARACTER a_ESCAPE a_ENTER a_UP a_DOWN a_LEFT a_RIGHT h44 n0 (Nat.le_trans Z0 K44.1) S_CHARACTER S_ENTER S_UP S_LEFT S_ESCAPE S_DOWN S_RIGHT) hZ (hw _ (List.mem_of_getElem? (i := 10) rfl)) (hw _ (List.mem_of_getElem? (i := 2) rfl)) (by decide) (by decide)) (g := (mkF m 50 #[.val (.int p0), .val (.int p1), .val (.int p2), .val (.int p3), .val (.int p4), .val (.int (f1 p0)), .val (.int (f1 p2)), .val (.int p1.toUInt32.toUInt16.toUInt32.toInt32), .val (.int v42_1), .unset, .unset, .unset, .unset] [(.int (f1 p0)), (.ref b44), (.ref b44)])) rfl (by rw [hml]; rfl) (argsL := [(.int (f1 p0))]) (rest := [(.ref b44), (.ref b44)]) (lenOf pd_3 rfl) rfl (by show 2 * 0 + _ ≤ _; exact Nat.le_of_eq rfl) (hb hby at_50) (fun _ _ => ⟨rfl, e44, (by decide : 1 + 0 ≤ _), (by decide : 2 + 0 ≤ _)⟩)
    dsimp only [Pt.U, Pt.locs, Pt.cells, Pt.slots] at X45 l45 y45 z45 st45 hQ45
    subst l45 y45 z45
    obtain ⟨rfl, Nq45, hh45⟩ := hQ45
    have N45 := Fr.app N41 Nq45
    refine Ends.step st45 ?_
    show Ends p e below QQ (T45.setTop (mkF m 53 #[.val (.int p0), .val (.int p1), .val (.int p2), .val (.int p3), .val (.int p4), .val (.int (f1 p0)), .val (.int (f1 p2)), .val (.int p1.toUInt32.toUInt16.toUInt32.toInt32), .val (.int v42_1), .unset, .unset, .unset, .unset] [(.ref (own_k (f1 p0) a_CHARACTER a_ESCAPE a_ENTER a_UP a_DOWN a_LEFT a_RIGHT)), (.ref b44), (.ref b44)]))
    refine Ends.step (fun _ k => XS.iload X45.here hx rfl (hb hby at_53) rfl k) ?_
    show Ends p e below QQ (T45.setTop (mkF m 55 #[.val (.int p0), .val (.int p1), .val (.int p2), .val (.int p3), .val (.int p4), .val (.int (f1 p0)), .val (.int (f1 p2)), .val (.int p1.toUInt32.toUInt16.toUInt32.toInt32), .val (.int v42_1), .unset, .unset, .unset, .unset] [(.int p1.toUInt32.toUInt16.toUInt32.toInt32), (.ref (own_k (f1 p0) a_CHARACTER a_ESCAPE a_ENTER a_UP a_DOWN a_LEFT a_RIGHT)), (.ref b44), (.ref b44)]))
    obtain ⟨_, _, ⟨T46, L46, k46, n46⟩, -, X46, ⟨Lc46, hQ46, l46, y46, z46⟩, st46⟩ := X45.specialBack hx (y := (⟨"com/example/glyphdelve/glyphdelve/cli/Key", "<init>", "(Lcom/example/glyphdelve/glyphdelve/cli/Key$Kind;C)V"⟩ : MethodName)) rfl hown (mvT hZ (hw _ (List.mem_of_getElem? (i := 14) rfl))) (mvT hZ (hw _ (List.mem_of_getElem? (i := 15) rfl))) (mvT hZ (hw _ (List.mem_of_getElem? (i := 16) rfl))) (by decide) (backOf (W := 1) (rm3 l Z a0 hw [] b44 (own_k (f1 p0) a_CHARACTER a_ESCAPE a_ENTER a_UP a_DOWN a_LEFT a_RIGHT) (p1.toUInt32.toUInt16.toUInt32.toInt32) (.null : Value) (0 : Int32) h44 n0 (Nat.le_trans Z0 K44.1) E_b44 F_kind_b44 F_character_b44 g_b44 (own_narc _)) hZ (hw _ (List.mem_of_getElem? (i := 16) rfl)) (hw _ (List.mem_of_getElem? (i := 7) rfl)) (by decide) (by decide)) (g := (mkF m 55 #[.val (.int p0), .val (.int p1), .val (.int p2), .val (.int p3), .val (.int p4), .val (.int (f1 p0)), .val (.int (f1 p2)), .val (.int p1.toUInt32.toUInt16.toUInt32.toInt32), .val (.int v42_1), .unset, .unset, .unset, .unset] [(.int p1.toUInt32.toUInt16.toUInt32.toInt32), (.ref (own_k (f1 p0) a_CHARACTER a_ESCAPE a_ENTER a_UP a_DOWN a_LEFT a_RIGHT)), (.ref b44), (.ref b44)])) rfl (by rw [hml]; rfl) (Steps.refl _) (a := b44) (argsL := [(.ref (own_k (f1 p0) a_CHARACTER a_ESCAPE a_ENTER a_UP a_DOWN a_LEFT a_RIGHT)), (.int p1.toUInt32.toUInt16.toUInt32.toInt32)]) (rest := [(.ref b44)]) (lenOf pd_4 rfl) rfl (by show 2 * 0 + _ ≤ _; exact Nat.le_of_eq rfl) (hb hby at_55) (fun _ _ => ⟨rfl, hh45, (by decide : 1 + 0 ≤ _), (by decide : 2 + 0 ≤ _)⟩)
    dsimp only [Pt.U, Pt.locs, Pt.cells, Pt.slots] at X46 l46 y46 z46 st46 hQ46
    subst l46 y46 z46
    obtain ⟨rfl, Nq46, Kq46, fq46_0, fq46_1, fq46_2⟩ := hQ46
    have N46 := Fr.app N45 Nq46
    have S_CHARACTER := own_sta_keep S_CHARACTER Kq46 (allS E_b44.cell all0)
    have S_ENTER := own_sta_keep S_ENTER Kq46 (allS E_b44.cell all0)
    have S_UP := own_sta_keep S_UP Kq46 (allS E_b44.cell all0)
    have S_LEFT := own_sta_keep S_LEFT Kq46 (allS E_b44.cell all0)
    have S_ESCAPE := own_sta_keep S_ESCAPE Kq46 (allS E_b44.cell all0)
    have S_DOWN := own_sta_keep S_DOWN Kq46 (allS E_b44.cell all0)
    have S_RIGHT := own_sta_keep S_RIGHT Kq46 (allS E_b44.cell all0)
    have S_high := own_sta_keep S_high Kq46 (allS E_b44.cell all0)
    have S_cache := own_sta_keep S_cache Kq46 (allS E_b44.cell all0)
    have E_a_CHARACTER := E_a_CHARACTER.keep Kq46
    have E_a_ENTER := E_a_ENTER.keep Kq46
    have E_a_UP := E_a_UP.keep Kq46
    have E_a_LEFT := E_a_LEFT.keep Kq46
    have E_a_ESCAPE := E_a_ESCAPE.keep Kq46
    have E_a_DOWN := E_a_DOWN.keep Kq46
    have E_a_RIGHT := E_a_RIGHT.keep Kq46
    have F_ordinal_a_ENTER := F_ordinal_a_ENTER.keep Kq46 (ninS ne_a_ENTER_b44 nin0)
    have F_ordinal_a_CHARACTER := F_ordinal_a_CHARACTER.keep Kq46 (ninS ne_a_CHARACTER_b44 nin0)
    have F_ordinal_a_ESCAPE := F_ordinal_a_ESCAPE.keep Kq46 (ninS ne_a_ESCAPE_b44 nin0)
    have F_ordinal_a_UP := F_ordinal_a_UP.keep Kq46 (ninS ne_a_UP_b44 nin0)
    have F_ordinal_a_DOWN := F_ordinal_a_DOWN.keep Kq46 (ninS ne_a_DOWN_b44 nin0)
    have F_ordinal_a_LEFT := F_ordinal_a_LEFT.keep Kq46 (ninS ne_a_LEFT_b44 nin0)
    have F_ordinal_a_RIGHT := F_ordinal_a_RIGHT.keep Kq46 (ninS ne_a_RIGHT_b44 nin0)
    have old := old.keep Kq46 (allS g_b44 all0)
    have E_b44 := fq46_0
    have F_kind_b44 := fq46_1
    have F_character_b44 := fq46_2
    have K46 := K44.trans Kq46 (allS (Or.inr sz_b44) all0)
    refine Ends.step (fun _ k => st46.trans k) ?_
    show Ends p e below QQ (T46.setTop (mkF m 58 #[.val (.int p0), .val (.int p1), .val (.int p2), .val (.int p3), .val (.int p4), .val (.int (f1 p0)), .val (.int (f1 p2)), .val (.int p1.toUInt32.toUInt16.toUInt32.toInt32), .val (.int v42_1), .unset, .unset, .unset, .unset] [(.ref b44)]))
    refine Ends.step (fun _ k => XS.astore X46.here hx rfl (hb hby at_58) rfl rfl (l' := #[.val (.int p0), .val (.int p1), .val (.int p2), .val (.int p3), .val (.int p4), .val (.int (f1 p0)), .val (.int (f1 p2)), .val (.int p1.toUInt32.toUInt16.toUInt32.toInt32), .val (.int v42_1), .val (.ref b44), .unset, .unset, .unset]) rfl k) ?_
    show Ends p e below QQ (T46.setTop (mkF m 60 #[.val (.int p0), .val (.int p1), .val (.int p2), .val (.int p3), .val (.int p4), .val (.int (f1 p0)), .val (.int (f1 p2)), .val (.int p1.toUInt32.toUInt16.toUInt32.toInt32), .val (.int v42_1), .val (.ref b44), .unset, .unset, .unset] []))
    obtain ⟨T47, h47, X47, e47, E47, A47, D47, U47, st47⟩ := newO X46 hx hZ hown (hw _ (List.mem_of_getElem? (i := 5) rfl)) (hw _ (List.mem_of_getElem? (i := 6) rfl)) (hw _ (List.mem_of_getElem? (i := 7) rfl)) rfl (g := (mkF m 60 #[.val (.int p0), .val (.int p1), .val (.int p2), .val (.int p3), .val (.int p4), .val (.int (f1 p0)), .val (.int (f1 p2)), .val (.int p1.toUInt32.toUInt16.toUInt32.toInt32), .val (.int v42_1), .val (.ref b44), .unset, .unset, .unset] [])) rfl (hb hby at_60) (by decide) (by decide)
    obtain ⟨b47, g47⟩ : ∃ z, z = T46.heap.size := ⟨_, rfl⟩
    rw [← g47] at A47 D47 U47 st47
    have ne_a_CHARACTER_b47 : a_CHARACTER ≠ b47 := Nat.ne_of_lt (Nat.lt_of_lt_of_le E_a_CHARACTER.lt (Nat.le_of_eq g47.symm))
    have ne_a_ENTER_b47 : a_ENTER ≠ b47 := Nat.ne_of_lt (Nat.lt_of_lt_of_le E_a_ENTER.lt (Nat.le_of_eq g47.symm))
    have ne_a_UP_b47 : a_UP ≠ b47 := Nat.ne_of_lt (Nat.lt_of_lt_of_le E_a_UP.lt (Nat.le_of_eq g47.symm))
    have ne_a_LEFT_b47 : a_LEFT ≠ b47 := Nat.ne_of_lt (Nat.lt_of_lt_of_le E_a_LEFT.lt (Nat.le_of_eq g47.symm))
    have ne_a_ESCAPE_b47 : a_ESCAPE ≠ b47 := Nat.ne_of_lt (Nat.lt_of_lt_of_le E_a_ESCAPE.lt (Nat.le_of_eq g47.symm))
    have ne_a_DOWN_b47 : a_DOWN ≠ b47 := Nat.ne_of_lt (Nat.lt_of_lt_of_le E_a_DOWN.lt (Nat.le_of_eq g47.symm))
    have ne_a_RIGHT_b47 : a_RIGHT ≠ b47 := Nat.ne_of_lt (Nat.lt_of_lt_of_le E_a_RIGHT.lt (Nat.le_of_eq g47.symm))
    have ne_b44_b47 : b44 ≠ b47 := Nat.ne_of_lt (Nat.lt_of_lt_of_le E_b44.lt (Nat.le_of_eq g47.symm))
    have g_b47 : n0 ≤ b47 := Nat.le_trans Z0 (Nat.le_trans K46.1 (Nat.le_of_eq g47.symm))
    have sz_b47 : h0.size ≤ b47 := Nat.le_trans K46.1 (Nat.le_of_eq g47.symm)
    have E_a_CHARACTER := E_a_CHARACTER.ext E47
    have E_a_ENTER := E_a_ENTER.ext E47
    have E_a_UP := E_a_UP.ext E47
    have E_a_LEFT := E_a_LEFT.ext E47
    have E_a_ESCAPE := E_a_ESCAPE.ext E47
    have E_a_DOWN := E_a_DOWN.ext E47
    have E_a_RIGHT := E_a_RIGHT.ext E47
    have F_ordinal_a_ENTER := F_ordinal_a_ENTER.ext E47
    have F_ordinal_a_CHARACTER := F_ordinal_a_CHARACTER.ext E47
    have F_ordinal_a_ESCAPE := F_ordinal_a_ESCAPE.ext E47
    have F_ordinal_a_UP := F_ordinal_a_UP.ext E47
    have F_ordinal_a_DOWN := F_ordinal_a_DOWN.ext E47
    have F_ordinal_a_LEFT := F_ordinal_a_LEFT.ext E47
    have F_ordinal_a_RIGHT := F_ordinal_a_RIGHT.ext E47
    have S_CHARACTER := S_CHARACTER.ext E47
    have S_ENTER := S_ENTER.ext E47
    have S_UP := S_UP.ext E47
    have S_LEFT := S_LEFT.ext E47
    have S_ESCAPE := S_ESCAPE.ext E47
    have S_DOWN := S_DOWN.ext E47
    have S_RIGHT := S_RIGHT.ext E47
    have S_high := S_high.ext E47
    have S_cache := S_cache.ext E47
    have old := old.ext E47
    have E_b44 := E_b44.ext E47
    have F_kind_b44 := F_kind_b44.ext E47
    have F_character_b44 := F_character_b44.ext E47
    have K47 := K46.ext E47
    have E_b47 := A47
    have F_kind_b47 : Fld Z h47 b47 "com/example/glyphdelve/glyphdelve/cli/Key" "kind" "Lcom/example/glyphdelve/glyphdelve/cli/Key$Kind;" .null := D47 (Or.inr (hw _ (List.mem_of_getElem? (i := 26) rfl))) (ty := (.object "com/example/glyphdelve/glyphdelve/cli/Key$Kind")) (by decide)
    have F_character_b47 : Fld Z h47 b47 "com/example/glyphdelve/glyphdelve/cli/Key" "character" "C" (.int (0 : Int32)) := D47 (Or.inr (hw _ (List.mem_of_getElem? (i := 28) rfl))) (ty := .char) (by decide)
    refine Ends.step st47 ?_
    show Ends p e below QQ (T47.setTop (mkF m 63 #[.val (.int p0), .val (.int p1), .val (.int p2), .val (.int p3), .val (.int p4), .val (.int (f1 p0)), .val (.int (f1 p2)), .val (.int p1.toUInt32.toUInt16.toUInt32.toInt32), .val (.int v42_1), .val (.ref b44), .unset, .unset, .unset] [(.ref b47)]))
    refine Ends.step (fun _ k => XS.dup X47.here hx rfl (hb hby at_63) rfl rfl k) ?_
    show Ends p e below QQ (T47.setTop (mkF m 64 #[.val (.int p0), .val (.int p1), .val (.int p2), .val (.int p3), .val (.int p4), .val (.int (f1 p0)), .val (.int (f1 p2)), .val (.int p1.toUInt32.toUInt16.toUInt32.toInt32), .val (.int v42_1), .val (.ref b44), .unset, .unset, .unset] [(.ref b47), (.ref b47)]))
    refine Ends.step (fun _ k => XS.iload X47.here hx rfl (hb hby at_64) rfl k) ?_
    show Ends p e below QQ (T47.setTop (mkF m 66 #[.val (.int p0), .val (.int p1), .val (.int p2), .val (.int p3), .val (.int p4), .val (.int (f1 p0)), .val (.int (f1 p2)), .val (.int p1.toUInt32.toUInt16.toUInt32.toInt32), .val (.int v42_1), .val (.ref b44), .unset, .unset, .unset] [(.int (f1 p2)), (.ref b47), (.ref b47)]))
    obtain ⟨_, _, ⟨T48, L48, k48, n48⟩, -, X48, ⟨Lc48, hQ48, l48, y48, z48⟩, st48⟩ := Jvm.LawKit.callS X47 hx (y := (⟨"com/example/glyphdelve/glyphdelve/cli/KeyEqualsPinLaw", "kind", "(I)Lcom/example/glyphdelve/glyphdelve/cli/Key$Kind;"⟩ : MethodName)) hown (mvT hZ (hw _ (List.mem_of_getElem? (i := 8) rfl))) (mvT hZ (hw _ (List.mem_of_getElem? (i := 9) rfl))) (mvT hZ (hw _ (List.mem_of_getElem? (i := 2) rfl))) (mvT hZ (hw _ (List.mem_of_getElem? (i := 10) rfl))) (by decide) (backOf (W := 2) (rm2 l Z a0 hw [] (f1 p2) a_CHARACTER a_ESCAPE a_ENTER a_UP a_DOWN a_LEFT a_RIGHT h47 n0 (Nat.le_trans Z0 K47.1) S_CHARACTER S_ENTER S_UP S_LEFT S_ESCAPE S_DOWN S_RIGHT) hZ (hw _ (List.mem_of_getElem? (i := 10) rfl)) (hw _ (List.mem_of_getElem? (i := 2) rfl)) (by decide) (by decide)) (g := (mkF m 66 #[.val (.int p0), .val (.int p1), .val (.int p2), .val (.int p3), .val (.int p4), .val (.int (f1 p0)), .val (.int (f1 p2)), .val (.int p1.toUInt32.toUInt16.toUInt32.toInt32), .val (.int v42_1), .val (.ref b44), .unset, .unset, .unset] [(.int (f1 p2)), (.ref b47), (.ref b47)])) rfl (by rw [hml]; rfl) (argsL := [(.int (f1 p2))]) (rest := [(.ref b47), (.ref b47)]) (lenOf pd_3 rfl) rfl (by show 2 * 0 + _ ≤ _; exact Nat.le_of_eq rfl) (hb hby at_66) (fun _ _ => ⟨rfl, e47, (by decide : 2 + 0 ≤ _), (by decide : 4 + 0 ≤ _)⟩)
    dsimp only [Pt.U, Pt.locs, Pt.cells, Pt.slots] at X48 l48 y48 z48 st48 hQ48
    subst l48 y48 z48
    obtain ⟨rfl, Nq48, hh48⟩ := hQ48
    have N48 := Fr.app N46 Nq48
    refine Ends.step st48 ?_
    show Ends p e below QQ (T48.setTop (mkF m 69 #[.val (.int p0), .val (.int p1), .val (.int p2), .val (.int p3), .val (.int p4), .val (.int (f1 p0)), .val (.int (f1 p2)), .val (.int p1.toUInt32.toUInt16.toUInt32.toInt32), .val (.int v42_1), .val (.ref b44), .unset, .unset, .unset] [(.ref (own_k (f1 p2) a_CHARACTER a_ESCAPE a_ENTER a_UP a_DOWN a_LEFT a_RIGHT)), (.ref b47), (.ref b47)]))
    refine Ends.step (fun _ k => XS.iload X48.here hx rfl (hb hby at_69) rfl k) ?_
    show Ends p e below QQ (T48.setTop (mkF m 71 #[.val (.int p0), .val (.int p1), .val (.int p2), .val (.int p3), .val (.int p4), .val (.int (f1 p0)), .val (.int (f1 p2)), .val (.int p1.toUInt32.toUInt16.toUInt32.toInt32), .val (.int v42_1), .val (.ref b44), .unset, .unset, .unset] [(.int v42_1), (.ref (own_k (f1 p2) a_CHARACTER a_ESCAPE a_ENTER a_UP a_DOWN a_LEFT a_RIGHT)), (.ref b47), (.ref b47)]))
    obtain ⟨_, _, ⟨T49, L49, k49, n49⟩, -, X49, ⟨Lc49, hQ49, l49, y49, z49⟩, st49⟩ := X48.specialBack hx (y := (⟨"com/example/glyphdelve/glyphdelve/cli/Key", "<init>", "(Lcom/example/glyphdelve/glyphdelve/cli/Key$Kind;C)V"⟩ : MethodName)) rfl hown (mvT hZ (hw _ (List.mem_of_getElem? (i := 14) rfl))) (mvT hZ (hw _ (List.mem_of_getElem? (i := 15) rfl))) (mvT hZ (hw _ (List.mem_of_getElem? (i := 16) rfl))) (by decide) (backOf (W := 1) (rm3 l Z a0 hw [] b47 (own_k (f1 p2) a_CHARACTER a_ESCAPE a_ENTER a_UP a_DOWN a_LEFT a_RIGHT) v42_1 (.null : Value) (0 : Int32) h47 n0 (Nat.le_trans Z0 K47.1) E_b47 F_kind_b47 F_character_b47 g_b47 (by rw [hv42_1]; split <;> exact own_narc _)) hZ (hw _ (List.mem_of_getElem? (i := 16) rfl)) (hw _ (List.mem_of_getElem? (i := 7) rfl)) (by decide) (by decide)) (g := (mkF m 71 #[.val (.int p0), .val (.int p1), .val (.int p2), .val (.int p3), .val (.int p4), .val (.int (f1 p0)), .val (.int (f1 p2)), .val (.int p1.toUInt32.toUInt16.toUInt32.toInt32), .val (.int v42_1), .val (.ref b44), .unset, .unset, .unset] [(.int v42_1), (.ref (own_k (f1 p2) a_CHARACTER a_ESCAPE a_ENTER a_UP a_DOWN a_LEFT a_RIGHT)), (.ref b47), (.ref b47)])) rfl (by rw [hml]; rfl) (Steps.refl _) (a := b47) (argsL := [(.ref (own_k (f1 p2) a_CHARACTER a_ESCAPE a_ENTER a_UP a_DOWN a_LEFT a_RIGHT)), (.int v42_1)]) (rest := [(.ref b47)]) (lenOf pd_4 rfl) rfl (by show 2 * 0 + _ ≤ _; exact Nat.le_of_eq rfl) (hb hby at_71) (fun _ _ => ⟨rfl, hh48, (by decide : 2 + 0 ≤ _), (by decide : 4 + 0 ≤ _)⟩)
    dsimp only [Pt.U, Pt.locs, Pt.cells, Pt.slots] at X49 l49 y49 z49 st49 hQ49
    subst l49 y49 z49
    obtain ⟨rfl, Nq49, Kq49, fq49_0, fq49_1, fq49_2⟩ := hQ49
    have N49 := Fr.app N48 Nq49
    have S_CHARACTER := own_sta_keep S_CHARACTER Kq49 (allS E_b47.cell all0)
    have S_ENTER := own_sta_keep S_ENTER Kq49 (allS E_b47.cell all0)
    have S_UP := own_sta_keep S_UP Kq49 (allS E_b47.cell all0)
    have S_LEFT := own_sta_keep S_LEFT Kq49 (allS E_b47.cell all0)
    have S_ESCAPE := own_sta_keep S_ESCAPE Kq49 (allS E_b47.cell all0)
    have S_DOWN := own_sta_keep S_DOWN Kq49 (allS E_b47.cell all0)
    have S_RIGHT := own_sta_keep S_RIGHT Kq49 (allS E_b47.cell all0)
    have S_high := own_sta_keep S_high Kq49 (allS E_b47.cell all0)
    have S_cache := own_sta_keep S_cache Kq49 (allS E_b47.cell all0)
    have E_a_CHARACTER := E_a_CHARACTER.keep Kq49
    have E_a_ENTER := E_a_ENTER.keep Kq49
    have E_a_UP := E_a_UP.keep Kq49
    have E_a_LEFT := E_a_LEFT.keep Kq49
    have E_a_ESCAPE := E_a_ESCAPE.keep Kq49
    have E_a_DOWN := E_a_DOWN.keep Kq49
    have E_a_RIGHT := E_a_RIGHT.keep Kq49
    have F_ordinal_a_ENTER := F_ordinal_a_ENTER.keep Kq49 (ninS ne_a_ENTER_b47 nin0)
    have F_ordinal_a_CHARACTER := F_ordinal_a_CHARACTER.keep Kq49 (ninS ne_a_CHARACTER_b47 nin0)
    have F_ordinal_a_ESCAPE := F_ordinal_a_ESCAPE.keep Kq49 (ninS ne_a_ESCAPE_b47 nin0)
    have F_ordinal_a_UP := F_ordinal_a_UP.keep Kq49 (ninS ne_a_UP_b47 nin0)
    have F_ordinal_a_DOWN := F_ordinal_a_DOWN.keep Kq49 (ninS ne_a_DOWN_b47 nin0)
    have F_ordinal_a_LEFT := F_ordinal_a_LEFT.keep Kq49 (ninS ne_a_LEFT_b47 nin0)
    have F_ordinal_a_RIGHT := F_ordinal_a_RIGHT.keep Kq49 (ninS ne_a_RIGHT_b47 nin0)
    have old := old.keep Kq49 (allS g_b47 all0)
    have E_b44 := E_b44.keep Kq49
    have F_kind_b44 := F_kind_b44.keep Kq49 (ninS ne_b44_b47 nin0)
    have F_character_b44 := F_character_b44.keep Kq49 (ninS ne_b44_b47 nin0)
    have E_b47 := fq49_0
    have F_kind_b47 := fq49_1
    have F_character_b47 := fq49_2
    have K49 := K47.trans Kq49 (allS (Or.inr sz_b47) all0)
    refine Ends.step (fun _ k => st49.trans k) ?_
    show Ends p e below QQ (T49.setTop (mkF m 74 #[.val (.int p0), .val (.int p1), .val (.int p2), .val (.int p3), .val (.int p4), .val (.int (f1 p0)), .val (.int (f1 p2)), .val (.int p1.toUInt32.toUInt16.toUInt32.toInt32), .val (.int v42_1), .val (.ref b44), .unset, .unset, .unset] [(.ref b47)]))
    refine Ends.step (fun _ k => XS.astore X49.here hx rfl (hb hby at_74) rfl rfl (l' := #[.val (.int p0), .val (.int p1), .val (.int p2), .val (.int p3), .val (.int p4), .val (.int (f1 p0)), .val (.int (f1 p2)), .val (.int p1.toUInt32.toUInt16.toUInt32.toInt32), .val (.int v42_1), .val (.ref b44), .val (.ref b47), .unset, .unset]) rfl k) ?_
    show Ends p e below QQ (T49.setTop (mkF m 76 #[.val (.int p0), .val (.int p1), .val (.int p2), .val (.int p3), .val (.int p4), .val (.int (f1 p0)), .val (.int (f1 p2)), .val (.int p1.toUInt32.toUInt16.toUInt32.toInt32), .val (.int v42_1), .val (.ref b44), .val (.ref b47), .unset, .unset] []))
    refine Ends.step (fun _ k => XS.iload X49.here hx rfl (hb hby at_76) rfl k) ?_
    show Ends p e below QQ (T49.setTop (mkF m 78 #[.val (.int p0), .val (.int p1), .val (.int p2), .val (.int p3), .val (.int p4), .val (.int (f1 p0)), .val (.int (f1 p2)), .val (.int p1.toUInt32.toUInt16.toUInt32.toInt32), .val (.int v42_1), .val (.ref b44), .val (.ref b47), .unset, .unset] [(.int (f1 p0))]))
    refine Ends.step (fun _ k => XS.iload X49.here hx rfl (hb hby at_78) rfl k) ?_
    show Ends p e below QQ (T49.setTop (mkF m 80 #[.val (.int p0), .val (.int p1), .val (.int p2), .val (.int p3), .val (.int p4), .val (.int (f1 p0)), .val (.int (f1 p2)), .val (.int p1.toUInt32.toUInt16.toUInt32.toInt32), .val (.int v42_1), .val (.ref b44), .val (.ref b47), .unset, .unset] [(.int (f1 p2)), (.int (f1 p0))]))
    have J95_50 : (∀ (v95_2 : Int32) (hv95_2 : v95_2 = (if (f1 p0) = (f1 p2) then (if p1.toUInt32.toUInt16.toUInt32.toInt32 = v42_1 then (1 : Int32) else (0 : Int32)) else (0 : Int32))), Ends p e below QQ (T49.setTop (mkF m 95 #[.val (.int p0), .val (.int p1), .val (.int p2), .val (.int p3), .val (.int p4), .val (.int (f1 p0)), .val (.int (f1 p2)), .val (.int p1.toUInt32.toUInt16.toUInt32.toInt32), .val (.int v42_1), .val (.ref b44), .val (.ref b47), .unset, .unset] [(.int v95_2)]))) → Ends p e below QQ (T49.setTop (mkF m 80 #[.val (.int p0), .val (.int p1), .val (.int p2), .val (.int p3), .val (.int p4), .val (.int (f1 p0)), .val (.int (f1 p2)), .val (.int p1.toUInt32.toUInt16.toUInt32.toInt32), .val (.int v42_1), .val (.ref b44), .val (.ref b47), .unset, .unset] [(.int (f1 p2)), (.int (f1 p0))])) := by
      intro hJ
      by_cases hc80_51 : (f1 p0) = (f1 p2)
      · refine Ends.step (fun _ k => XS.icmpNo X49.here hx rfl (hb hby at_80) rfl (XT.ii_ne_f hc80_51) k) ?_
        show Ends p e below QQ (T49.setTop (mkF m 83 #[.val (.int p0), .val (.int p1), .val (.int p2), .val (.int p3), .val (.int p4), .val (.int (f1 p0)), .val (.int (f1 p2)), .val (.int p1.toUInt32.toUInt16.toUInt32.toInt32), .val (.int v42_1), .val (.ref b44), .val (.ref b47), .unset, .unset] []))
        refine Ends.step (fun _ k => XS.iload X49.here hx rfl (hb hby at_83) rfl k) ?_
        show Ends p e below QQ (T49.setTop (mkF m 85 #[.val (.int p0), .val (.int p1), .val (.int p2), .val (.int p3), .val (.int p4), .val (.int (f1 p0)), .val (.int (f1 p2)), .val (.int p1.toUInt32.toUInt16.toUInt32.toInt32), .val (.int v42_1), .val (.ref b44), .val (.ref b47), .unset, .unset] [(.int p1.toUInt32.toUInt16.toUInt32.toInt32)]))
        refine Ends.step (fun _ k => XS.iload X49.here hx rfl (hb hby at_85) rfl k) ?_
        show Ends p e below QQ (T49.setTop (mkF m 87 #[.val (.int p0), .val (.int p1), .val (.int p2), .val (.int p3), .val (.int p4), .val (.int (f1 p0)), .val (.int (f1 p2)), .val (.int p1.toUInt32.toUInt16.toUInt32.toInt32), .val (.int v42_1), .val (.ref b44), .val (.ref b47), .unset, .unset] [(.int v42_1), (.int p1.toUInt32.toUInt16.toUInt32.toInt32)]))
        by_cases hc87_52 : p1.toUInt32.toUInt16.toUInt32.toInt32 = v42_1
        · refine Ends.step (fun _ k => XS.icmpNo X49.here hx rfl (hb hby at_87) rfl (XT.ii_ne_f hc87_52) k) ?_
          show Ends p e below QQ (T49.setTop (mkF m 90 #[.val (.int p0), .val (.int p1), .val (.int p2), .val (.int p3), .val (.int p4), .val (.int (f1 p0)), .val (.int (f1 p2)), .val (.int p1.toUInt32.toUInt16.toUInt32.toInt32), .val (.int v42_1), .val (.ref b44), .val (.ref b47), .unset, .unset] []))
          refine Ends.step (fun _ k => XT.iconstV X49.here hx rfl (1 : Int32) (hb hby at_90) rfl k) ?_
          show Ends p e below QQ (T49.setTop (mkF m 91 #[.val (.int p0), .val (.int p1), .val (.int p2), .val (.int p3), .val (.int p4), .val (.int (f1 p0)), .val (.int (f1 p2)), .val (.int p1.toUInt32.toUInt16.toUInt32.toInt32), .val (.int v42_1), .val (.ref b44), .val (.ref b47), .unset, .unset] [(.int (1 : Int32))]))
          refine Ends.step (fun _ k => XS.goto X49.here hx rfl (pc0 := 91) (pc' := 95) rfl (hb hby at_91) (by decide) (by decide) k) ?_
          exact hJ _ (by simp only [if_pos hc80_51, if_pos hc87_52])
        · refine Ends.step (fun _ k => XS.icmpYes X49.here hx rfl (pc0 := 87) (pc' := 94) rfl (hb hby at_87) rfl (XT.ii_ne_t hc87_52) (by decide) (by decide) k) ?_
          show Ends p e below QQ (T49.setTop (mkF m 94 #[.val (.int p0), .val (.int p1), .val (.int p2), .val (.int p3), .val (.int p4), .val (.int (f1 p0)), .val (.int (f1 p2)), .val (.int p1.toUInt32.toUInt16.toUInt32.toInt32), .val (.int v42_1), .val (.ref b44), .val (.ref b47), .unset, .unset] []))
          refine Ends.step (fun _ k => XT.iconstV X49.here hx rfl (0 : Int32) (hb hby at_94) rfl k) ?_
          exact hJ _ (by simp only [if_pos hc80_51, if_neg hc87_52])
      · refine Ends.step (fun _ k => XS.icmpYes X49.here hx rfl (pc0 := 80) (pc' := 94) rfl (hb hby at_80) rfl (XT.ii_ne_t hc80_51) (by decide) (by decide) k) ?_
        show Ends p e below QQ (T49.setTop (mkF m 94 #[.val (.int p0), .val (.int p1), .val (.int p2), .val (.int p3), .val (.int p4), .val (.int (f1 p0)), .val (.int (f1 p2)), .val (.int p1.toUInt32.toUInt16.toUInt32.toInt32), .val (.int v42_1), .val (.ref b44), .val (.ref b47), .unset, .unset] []))
        refine Ends.step (fun _ k => XT.iconstV X49.here hx rfl (0 : Int32) (hb hby at_94) rfl k) ?_
        exact hJ _ (by simp only [if_neg hc80_51])
    refine J95_50 fun v95_2 hv95_2 => ?_
    have dv95_2 : f0_v95_2 p0 p1 p2 p3 p4 a_CHARACTER a_ESCAPE a_ENTER a_UP a_DOWN a_LEFT a_RIGHT = v95_2 := by
      simp only [f0_v95_2, dv42_1]
      exact hv95_2.symm
    show Ends p e below QQ (T49.setTop (mkF m 95 #[.val (.int p0), .val (.int p1), .val (.int p2), .val (.int p3), .val (.int p4), .val (.int (f1 p0)), .val (.int (f1 p2)), .val (.int p1.toUInt32.toUInt16.toUInt32.toInt32), .val (.int v42_1), .val (.ref b44), .val (.ref b47), .unset, .unset] [(.int v95_2)]))
    refine Ends.step (fun _ k => XS.istore X49.here hx rfl (hb hby at_95) rfl (l' := #[.val (.int p0), .val (.int p1), .val (.int p2), .val (.int p3), .val (.int p4), .val (.int (f1 p0)), .val (.int (f1 p2)), .val (.int p1.toUInt32.toUInt16.toUInt32.toInt32), .val (.int v42_1), .val (.ref b44), .val (.ref b47), .val (.int v95_2), .unset]) rfl k) ?_
    show Ends p e below QQ (T49.setTop (mkF m 97 #[.val (.int p0), .val (.int p1), .val (.int p2), .val (.int p3), .val (.int p4), .val (.int (f1 p0)), .val (.int (f1 p2)), .val (.int p1.toUInt32.toUInt16.toUInt32.toInt32), .val (.int v42_1), .val (.ref b44), .val (.ref b47), .val (.int v95_2), .unset] []))
    refine Ends.step (fun _ k => XS.iloadN X49.here hx rfl (hb hby at_97) rfl k) ?_
    show Ends p e below QQ (T49.setTop (mkF m 98 #[.val (.int p0), .val (.int p1), .val (.int p2), .val (.int p3), .val (.int p4), .val (.int (f1 p0)), .val (.int (f1 p2)), .val (.int p1.toUInt32.toUInt16.toUInt32.toInt32), .val (.int v42_1), .val (.ref b44), .val (.ref b47), .val (.int v95_2), .unset] [(.int p1)]))
    obtain ⟨_, _, ⟨T53, L53, k53, n53⟩, -, X53, ⟨Lc53, hQ53, l53, y53, z53⟩, st53⟩ := Jvm.LawKit.callS X49 hx (y := (⟨"java/lang/Integer", "valueOf", "(I)Ljava/lang/Integer;"⟩ : MethodName)) hown (mvT hZ (hw _ (List.mem_of_getElem? (i := 31) rfl))) (mvT hZ (hw _ (List.mem_of_getElem? (i := 32) rfl))) (mvT hZ (hw _ (List.mem_of_getElem? (i := 33) rfl))) (mvT hZ (hw _ (List.mem_of_getElem? (i := 34) rfl))) (by decide) (backOf (W := 0) (rmvo l Z a0 hw [] p1 ac cc T49.heap n0 (Nat.le_trans Z0 K49.1) S_high S_cache hbx old) hZ (hw _ (List.mem_of_getElem? (i := 34) rfl)) (hw _ (List.mem_of_getElem? (i := 33) rfl)) (by decide) (by decide)) (g := (mkF m 98 #[.val (.int p0), .val (.int p1), .val (.int p2), .val (.int p3), .val (.int p4), .val (.int (f1 p0)), .val (.int (f1 p2)), .val (.int p1.toUInt32.toUInt16.toUInt32.toInt32), .val (.int v42_1), .val (.ref b44), .val (.ref b47), .val (.int v95_2), .unset] [(.int p1)])) rfl (by rw [hml]; rfl) (argsL := [(.int p1)]) (rest := []) (lenOf pd_5 rfl) rfl (by show 2 * 0 + _ ≤ _; exact Nat.le_of_eq rfl) (hb hby at_98) (fun _ _ => ⟨rfl, rfl, (by decide : 2 + 1 ≤ _), (by decide : 4 + 1 ≤ _)⟩)
    dsimp only [Pt.U, Pt.locs, Pt.cells, Pt.slots] at X53 l53 y53 z53 st53 hQ53
    subst l53 y53 z53
    obtain ⟨b_53, rfl, Nq53, Kq53, fq53_0⟩ := hQ53
    have N53 := Fr.app N49 Nq53
    have S_CHARACTER := own_sta_keep S_CHARACTER Kq53 all0
    have S_ENTER := own_sta_keep S_ENTER Kq53 all0
    have S_UP := own_sta_keep S_UP Kq53 all0
    have S_LEFT := own_sta_keep S_LEFT Kq53 all0
    have S_ESCAPE := own_sta_keep S_ESCAPE Kq53 all0
    have S_DOWN := own_sta_keep S_DOWN Kq53 all0
    have S_RIGHT := own_sta_keep S_RIGHT Kq53 all0
    have S_high := own_sta_keep S_high Kq53 all0
    have S_cache := own_sta_keep S_cache Kq53 all0
    have E_a_CHARACTER := E_a_CHARACTER.keep Kq53
    have E_a_ENTER := E_a_ENTER.keep Kq53
    have E_a_UP := E_a_UP.keep Kq53
    have E_a_LEFT := E_a_LEFT.keep Kq53
    have E_a_ESCAPE := E_a_ESCAPE.keep Kq53
    have E_a_DOWN := E_a_DOWN.keep Kq53
    have E_a_RIGHT := E_a_RIGHT.keep Kq53
    have F_ordinal_a_ENTER := F_ordinal_a_ENTER.keep Kq53 nin0
    have F_ordinal_a_CHARACTER := F_ordinal_a_CHARACTER.keep Kq53 nin0
    have F_ordinal_a_ESCAPE := F_ordinal_a_ESCAPE.keep Kq53 nin0
    have F_ordinal_a_UP := F_ordinal_a_UP.keep Kq53 nin0
    have F_ordinal_a_DOWN := F_ordinal_a_DOWN.keep Kq53 nin0
    have F_ordinal_a_LEFT := F_ordinal_a_LEFT.keep Kq53 nin0
    have F_ordinal_a_RIGHT := F_ordinal_a_RIGHT.keep Kq53 nin0
    have old := old.keep Kq53 all0
    have E_b44 := E_b44.keep Kq53
    have F_kind_b44 := F_kind_b44.keep Kq53 nin0
    have F_character_b44 := F_character_b44.keep Kq53 nin0
    have E_b47 := E_b47.keep Kq53
    have F_kind_b47 := F_kind_b47.keep Kq53 nin0
    have F_character_b47 := F_character_b47.keep Kq53 nin0
    have E_b_53 := fq53_0
    have K53 := K49.trans Kq53 all0
    refine Ends.step st53 ?_
    show Ends p e below QQ (T53.setTop (mkF m 101 #[.val (.int p0), .val (.int p1), .val (.int p2), .val (.int p3), .val (.int p4), .val (.int (f1 p0)), .val (.int (f1 p2)), .val (.int p1.toUInt32.toUInt16.toUInt32.toInt32), .val (.int v42_1), .val (.ref b44), .val (.ref b47), .val (.int v95_2), .unset] [(.ref b_53)]))
    refine Ends.step (fun _ k => XS.astore X53.here hx rfl (hb hby at_101) rfl rfl (l' := #[.val (.int p0), .val (.int p1), .val (.int p2), .val (.int p3), .val (.int p4), .val (.int (f1 p0)), .val (.int (f1 p2)), .val (.int p1.toUInt32.toUInt16.toUInt32.toInt32), .val (.int v42_1), .val (.ref b44), .val (.ref b47), .val (.int v95_2), .val (.ref b_53)]) rfl k) ?_
    show Ends p e below QQ (T53.setTop (mkF m 103 #[.val (.int p0), .val (.int p1), .val (.int p2), .val (.int p3), .val (.int p4), .val (.int (f1 p0)), .val (.int (f1 p2)), .val (.int p1.toUInt32.toUInt16.toUInt32.toInt32), .val (.int v42_1), .val (.ref b44), .val (.ref b47), .val (.int v95_2), .val (.ref b_53)] []))
    refine Ends.step (fun _ k => XS.aload X53.here hx rfl (hb hby at_103) rfl rfl k) ?_
    show Ends p e below QQ (T53.setTop (mkF m 105 #[.val (.int p0), .val (.int p1), .val (.int p2), .val (.int p3), .val (.int p4), .val (.int (f1 p0)), .val (.int (f1 p2)), .val (.int p1.toUInt32.toUInt16.toUInt32.toInt32), .val (.int v42_1), .val (.ref b44), .val (.ref b47), .val (.int v95_2), .val (.ref b_53)] [(.ref b44)]))
    refine Ends.step (fun _ k => XS.aload X53.here hx rfl (hb hby at_105) rfl rfl k) ?_
    show Ends p e below QQ (T53.setTop (mkF m 107 #[.val (.int p0), .val (.int p1), .val (.int p2), .val (.int p3), .val (.int p4), .val (.int (f1 p0)), .val (.int (f1 p2)), .val (.int p1.toUInt32.toUInt16.toUInt32.toInt32), .val (.int v42_1), .val (.ref b44), .val (.ref b47), .val (.int v95_2), .val (.ref b_53)] [(.ref b47), (.ref b44)]))
    obtain ⟨cq54, kq54, q54a, q54b, q54c⟩ := isOf hZ rfl E_b44
    obtain ⟨_, _, ⟨T54, L54, k54, n54⟩, -, X54, ⟨Lc54, hQ54, l54, y54, z54⟩, st54⟩ := X53.virtualBack hx (y := (⟨"com/example/glyphdelve/glyphdelve/cli/Key", "equals", "(Ljava/lang/Object;)Z"⟩ : MethodName)) (z := (⟨"com/example/glyphdelve/glyphdelve/cli/Key", "equals", "(Ljava/lang/Object;)Z"⟩ : MethodName)) hown (mvT hZ (hw _ (List.mem_of_getElem? (i := 38) rfl))) (mvT hZ (hw _ (List.mem_of_getElem? (i := 39) rfl))) (notFace_of_selects (args := #[]) (mvT hZ (hw _ (List.mem_of_getElem? (i := 41) rfl)))) (mvT hZ (hw _ (List.mem_of_getElem? (i := 41) rfl))) (mvT hZ (hw _ (List.mem_of_getElem? (i := 40) rfl))) (by decide) (backOf (W := 0) (rm7 l Z a0 hw [] b44 b47 (own_k (f1 p0) a_CHARACTER a_ESCAPE a_ENTER a_UP a_DOWN a_LEFT a_RIGHT) (p1.toUInt32.toUInt16.toUInt32.toInt32) (own_k (f1 p2) a_CHARACTER a_ESCAPE a_ENTER a_UP a_DOWN a_LEFT a_RIGHT) v42_1 T53.heap n0 (Nat.le_trans Z0 K53.1) F_kind_b44 F_character_b44 F_kind_b47 F_character_b47 E_b47) hZ (hw _ (List.mem_of_getElem? (i := 42) rfl)) (hw _ (List.mem_of_getElem? (i := 7) rfl)) (by decide) (by decide)) q54a q54c (g := (mkF m 107 #[.val (.int p0), .val (.int p1), .val (.int p2), .val (.int p3), .val (.int p4), .val (.int (f1 p0)), .val (.int (f1 p2)), .val (.int p1.toUInt32.toUInt16.toUInt32.toInt32), .val (.int v42_1), .val (.ref b44), .val (.ref b47), .val (.int v95_2), .val (.ref b_53)] [(.ref b47), (.ref b44)])) rfl (by rw [hml]; rfl) (Steps.refl _) (argsL := [(.ref b47)]) (rest := []) (lenOf pd_6 rfl) rfl (by show 2 * 0 + _ ≤ _; exact Nat.le_of_eq rfl) (hb hby at_107) (fun _ _ => ⟨rfl, rfl, (by decide : 3 + 0 ≤ _), (by decide : 5 + 0 ≤ _)⟩)
    dsimp only [Pt.U, Pt.locs, Pt.cells, Pt.slots] at X54 l54 y54 z54 st54 hQ54
    subst l54 y54 z54
    obtain ⟨rfl, Nq54, hh54⟩ := hQ54
    have N54 := Fr.app N53 Nq54
    refine Ends.step (fun _ k => st54.trans k) ?_
    show Ends p e below QQ (T54.setTop (mkF m 110 #[.val (.int p0), .val (.int p1), .val (.int p2), .val (.int p3), .val (.int p4), .val (.int (f1 p0)), .val (.int (f1 p2)), .val (.int p1.toUInt32.toUInt16.toUInt32.toInt32), .val (.int v42_1), .val (.ref b44), .val (.ref b47), .val (.int v95_2), .val (.ref b_53)] [(.int (f7 (own_k (f1 p0) a_CHARACTER a_ESCAPE a_ENTER a_UP a_DOWN a_LEFT a_RIGHT) p1.toUInt32.toUInt16.toUInt32.toInt32 (own_k (f1 p2) a_CHARACTER a_ESCAPE a_ENTER a_UP a_DOWN a_LEFT a_RIGHT) v42_1))]))
    refine Ends.step (fun _ k => XS.iload X54.here hx rfl (hb hby at_110) rfl k) ?_
    show Ends p e below QQ (T54.setTop (mkF m 112 #[.val (.int p0), .val (.int p1), .val (.int p2), .val (.int p3), .val (.int p4), .val (.int (f1 p0)), .val (.int (f1 p2)), .val (.int p1.toUInt32.toUInt16.toUInt32.toInt32), .val (.int v42_1), .val (.ref b44), .val (.ref b47), .val (.int v95_2), .val (.ref b_53)] [(.int v95_2), (.int (f7 (own_k (f1 p0) a_CHARACTER a_ESCAPE a_ENTER a_UP a_DOWN a_LEFT a_RIGHT) p1.toUInt32.toUInt16.toUInt32.toInt32 (own_k (f1 p2) a_CHARACTER a_ESCAPE a_ENTER a_UP a_DOWN a_LEFT a_RIGHT) v42_1))]))
    by_cases hc112_55 : (f7 (own_k (f1 p0) a_CHARACTER a_ESCAPE a_ENTER a_UP a_DOWN a_LEFT a_RIGHT) p1.toUInt32.toUInt16.toUInt32.toInt32 (own_k (f1 p2) a_CHARACTER a_ESCAPE a_ENTER a_UP a_DOWN a_LEFT a_RIGHT) v42_1) = v95_2
    · refine Ends.step (fun _ k => XS.icmpNo X54.here hx rfl (hb hby at_112) rfl (XT.ii_ne_f hc112_55) k) ?_
      show Ends p e below QQ (T54.setTop (mkF m 115 #[.val (.int p0), .val (.int p1), .val (.int p2), .val (.int p3), .val (.int p4), .val (.int (f1 p0)), .val (.int (f1 p2)), .val (.int p1.toUInt32.toUInt16.toUInt32.toInt32), .val (.int v42_1), .val (.ref b44), .val (.ref b47), .val (.int v95_2), .val (.ref b_53)] []))
      refine Ends.step (fun _ k => XS.aload X54.here hx rfl (hb hby at_115) rfl rfl k) ?_
      show Ends p e below QQ (T54.setTop (mkF m 117 #[.val (.int p0), .val (.int p1), .val (.int p2), .val (.int p3), .val (.int p4), .val (.int (f1 p0)), .val (.int (f1 p2)), .val (.int p1.toUInt32.toUInt16.toUInt32.toInt32), .val (.int v42_1), .val (.ref b44), .val (.ref b47), .val (.int v95_2), .val (.ref b_53)] [(.ref b47)]))
      refine Ends.step (fun _ k => XS.aload X54.here hx rfl (hb hby at_117) rfl rfl k) ?_
      show Ends p e below QQ (T54.setTop (mkF m 119 #[.val (.int p0), .val (.int p1), .val (.int p2), .val (.int p3), .val (.int p4), .val (.int (f1 p0)), .val (.int (f1 p2)), .val (.int p1.toUInt32.toUInt16.toUInt32.toInt32), .val (.int v42_1), .val (.ref b44), .val (.ref b47), .val (.int v95_2), .val (.ref b_53)] [(.ref b44), (.ref b47)]))
      obtain ⟨cq56, kq56, q56a, q56b, q56c⟩ := isOf hZ hh54 E_b47
      obtain ⟨_, _, ⟨T56, L56, k56, n56⟩, -, X56, ⟨Lc56, hQ56, l56, y56, z56⟩, st56⟩ := X54.virtualBack hx (y := (⟨"com/example/glyphdelve/glyphdelve/cli/Key", "equals", "(Ljava/lang/Object;)Z"⟩ : MethodName)) (z := (⟨"com/example/glyphdelve/glyphdelve/cli/Key", "equals", "(Ljava/lang/Object;)Z"⟩ : MethodName)) hown (mvT hZ (hw _ (List.mem_of_getElem? (i := 38) rfl))) (mvT hZ (hw _ (List.mem_of_getElem? (i := 39) rfl))) (notFace_of_selects (args := #[]) (mvT hZ (hw _ (List.mem_of_getElem? (i := 41) rfl)))) (mvT hZ (hw _ (List.mem_of_getElem? (i := 41) rfl))) (mvT hZ (hw _ (List.mem_of_getElem? (i := 40) rfl))) (by decide) (backOf (W := 0) (rm7 l Z a0 hw [] b47 b44 (own_k (f1 p2) a_CHARACTER a_ESCAPE a_ENTER a_UP a_DOWN a_LEFT a_RIGHT) v42_1 (own_k (f1 p0) a_CHARACTER a_ESCAPE a_ENTER a_UP a_DOWN a_LEFT a_RIGHT) (p1.toUInt32.toUInt16.toUInt32.toInt32) T53.heap n0 (Nat.le_trans Z0 K53.1) F_kind_b47 F_character_b47 F_kind_b44 F_character_b44 E_b44) hZ (hw _ (List.mem_of_getElem? (i := 42) rfl)) (hw _ (List.mem_of_getElem? (i := 7) rfl)) (by decide) (by decide)) q56a q56c (g := (mkF m 119 #[.val (.int p0), .val (.int p1), .val (.int p2), .val (.int p3), .val (.int p4), .val (.int (f1 p0)), .val (.int (f1 p2)), .val (.int p1.toUInt32.toUInt16.toUInt32.toInt32), .val (.int v42_1), .val (.ref b44), .val (.ref b47), .val (.int v95_2), .val (.ref b_53)] [(.ref b44), (.ref b47)])) rfl (by rw [hml]; rfl) (Steps.refl _) (argsL := [(.ref b44)]) (rest := []) (lenOf pd_6 rfl) rfl (by show 2 * 0 + _ ≤ _; exact Nat.le_of_eq rfl) (hb hby at_119) (fun _ _ => ⟨rfl, hh54, (by decide : 3 + 0 ≤ _), (by decide : 5 + 0 ≤ _)⟩)
      dsimp only [Pt.U, Pt.locs, Pt.cells, Pt.slots] at X56 l56 y56 z56 st56 hQ56
      subst l56 y56 z56
      obtain ⟨rfl, Nq56, hh56⟩ := hQ56
      have N56 := Fr.app N54 Nq56
      refine Ends.step (fun _ k => st56.trans k) ?_
      show Ends p e below QQ (T56.setTop (mkF m 122 #[.val (.int p0), .val (.int p1), .val (.int p2), .val (.int p3), .val (.int p4), .val (.int (f1 p0)), .val (.int (f1 p2)), .val (.int p1.toUInt32.toUInt16.toUInt32.toInt32), .val (.int v42_1), .val (.ref b44), .val (.ref b47), .val (.int v95_2), .val (.ref b_53)] [(.int (f7 (own_k (f1 p2) a_CHARACTER a_ESCAPE a_ENTER a_UP a_DOWN a_LEFT a_RIGHT) v42_1 (own_k (f1 p0) a_CHARACTER a_ESCAPE a_ENTER a_UP a_DOWN a_LEFT a_RIGHT) p1.toUInt32.toUInt16.toUInt32.toInt32))]))
      refine Ends.step (fun _ k => XS.iload X56.here hx rfl (hb hby at_122) rfl k) ?_
      show Ends p e below QQ (T56.setTop (mkF m 124 #[.val (.int p0), .val (.int p1), .val (.int p2), .val (.int p3), .val (.int p4), .val (.int (f1 p0)), .val (.int (f1 p2)), .val (.int p1.toUInt32.toUInt16.toUInt32.toInt32), .val (.int v42_1), .val (.ref b44), .val (.ref b47), .val (.int v95_2), .val (.ref b_53)] [(.int v95_2), (.int (f7 (own_k (f1 p2) a_CHARACTER a_ESCAPE a_ENTER a_UP a_DOWN a_LEFT a_RIGHT) v42_1 (own_k (f1 p0) a_CHARACTER a_ESCAPE a_ENTER a_UP a_DOWN a_LEFT a_RIGHT) p1.toUInt32.toUInt16.toUInt32.toInt32))]))
      by_cases hc124_57 : (f7 (own_k (f1 p2) a_CHARACTER a_ESCAPE a_ENTER a_UP a_DOWN a_LEFT a_RIGHT) v42_1 (own_k (f1 p0) a_CHARACTER a_ESCAPE a_ENTER a_UP a_DOWN a_LEFT a_RIGHT) p1.toUInt32.toUInt16.toUInt32.toInt32) = v95_2
      · refine Ends.step (fun _ k => XS.icmpNo X56.here hx rfl (hb hby at_124) rfl (XT.ii_ne_f hc124_57) k) ?_
        show Ends p e below QQ (T56.setTop (mkF m 127 #[.val (.int p0), .val (.int p1), .val (.int p2), .val (.int p3), .val (.int p4), .val (.int (f1 p0)), .val (.int (f1 p2)), .val (.int p1.toUInt32.toUInt16.toUInt32.toInt32), .val (.int v42_1), .val (.ref b44), .val (.ref b47), .val (.int v95_2), .val (.ref b_53)] []))
        refine Ends.step (fun _ k => XS.aload X56.here hx rfl (hb hby at_127) rfl rfl k) ?_
        show Ends p e below QQ (T56.setTop (mkF m 129 #[.val (.int p0), .val (.int p1), .val (.int p2), .val (.int p3), .val (.int p4), .val (.int (f1 p0)), .val (.int (f1 p2)), .val (.int p1.toUInt32.toUInt16.toUInt32.toInt32), .val (.int v42_1), .val (.ref b44), .val (.ref b47), .val (.int v95_2), .val (.ref b_53)] [(.ref b44)]))
        refine Ends.step (fun _ k => XS.aload X56.here hx rfl (hb hby at_129) rfl rfl k) ?_
        show Ends p e below QQ (T56.setTop (mkF m 131 #[.val (.int p0), .val (.int p1), .val (.int p2), .val (.int p3), .val (.int p4), .val (.int (f1 p0)), .val (.int (f1 p2)), .val (.int p1.toUInt32.toUInt16.toUInt32.toInt32), .val (.int v42_1), .val (.ref b44), .val (.ref b47), .val (.int v95_2), .val (.ref b_53)] [(.ref b44), (.ref b44)]))
        obtain ⟨cq58, kq58, q58a, q58b, q58c⟩ := isOf hZ hh56 E_b44
        obtain ⟨_, _, ⟨T58, L58, k58, n58⟩, -, X58, ⟨Lc58, hQ58, l58, y58, z58⟩, st58⟩ := X56.virtualBack hx (y := (⟨"com/example/glyphdelve/glyphdelve/cli/Key", "equals", "(Ljava/lang/Object;)Z"⟩ : MethodName)) (z := (⟨"com/example/glyphdelve/glyphdelve/cli/Key", "equals", "(Ljava/lang/Object;)Z"⟩ : MethodName)) hown (mvT hZ (hw _ (List.mem_of_getElem? (i := 38) rfl))) (mvT hZ (hw _ (List.mem_of_getElem? (i := 39) rfl))) (notFace_of_selects (args := #[]) (mvT hZ (hw _ (List.mem_of_getElem? (i := 41) rfl)))) (mvT hZ (hw _ (List.mem_of_getElem? (i := 41) rfl))) (mvT hZ (hw _ (List.mem_of_getElem? (i := 40) rfl))) (by decide) (backOf (W := 0) (rm7 l Z a0 hw [] b44 b44 (own_k (f1 p0) a_CHARACTER a_ESCAPE a_ENTER a_UP a_DOWN a_LEFT a_RIGHT) (p1.toUInt32.toUInt16.toUInt32.toInt32) (own_k (f1 p0) a_CHARACTER a_ESCAPE a_ENTER a_UP a_DOWN a_LEFT a_RIGHT) (p1.toUInt32.toUInt16.toUInt32.toInt32) T53.heap n0 (Nat.le_trans Z0 K53.1) F_kind_b44 F_character_b44 F_kind_b44 F_character_b44 E_b44) hZ (hw _ (List.mem_of_getElem? (i := 42) rfl)) (hw _ (List.mem_of_getElem? (i := 7) rfl)) (by decide) (by decide)) q58a q58c (g := (mkF m 131 #[.val (.int p0), .val (.int p1), .val (.int p2), .val (.int p3), .val (.int p4), .val (.int (f1 p0)), .val (.int (f1 p2)), .val (.int p1.toUInt32.toUInt16.toUInt32.toInt32), .val (.int v42_1), .val (.ref b44), .val (.ref b47), .val (.int v95_2), .val (.ref b_53)] [(.ref b44), (.ref b44)])) rfl (by rw [hml]; rfl) (Steps.refl _) (argsL := [(.ref b44)]) (rest := []) (lenOf pd_6 rfl) rfl (by show 2 * 0 + _ ≤ _; exact Nat.le_of_eq rfl) (hb hby at_131) (fun _ _ => ⟨rfl, hh56, (by decide : 3 + 0 ≤ _), (by decide : 5 + 0 ≤ _)⟩)
        dsimp only [Pt.U, Pt.locs, Pt.cells, Pt.slots] at X58 l58 y58 z58 st58 hQ58
        subst l58 y58 z58
        obtain ⟨rfl, Nq58, hh58⟩ := hQ58
        have N58 := Fr.app N56 Nq58
        refine Ends.step (fun _ k => st58.trans k) ?_
        show Ends p e below QQ (T58.setTop (mkF m 134 #[.val (.int p0), .val (.int p1), .val (.int p2), .val (.int p3), .val (.int p4), .val (.int (f1 p0)), .val (.int (f1 p2)), .val (.int p1.toUInt32.toUInt16.toUInt32.toInt32), .val (.int v42_1), .val (.ref b44), .val (.ref b47), .val (.int v95_2), .val (.ref b_53)] [(.int (f7 (own_k (f1 p0) a_CHARACTER a_ESCAPE a_ENTER a_UP a_DOWN a_LEFT a_RIGHT) p1.toUInt32.toUInt16.toUInt32.toInt32 (own_k (f1 p0) a_CHARACTER a_ESCAPE a_ENTER a_UP a_DOWN a_LEFT a_RIGHT) p1.toUInt32.toUInt16.toUInt32.toInt32))]))
        by_cases hc134_59 : (f7 (own_k (f1 p0) a_CHARACTER a_ESCAPE a_ENTER a_UP a_DOWN a_LEFT a_RIGHT) p1.toUInt32.toUInt16.toUInt32.toInt32 (own_k (f1 p0) a_CHARACTER a_ESCAPE a_ENTER a_UP a_DOWN a_LEFT a_RIGHT) p1.toUInt32.toUInt16.toUInt32.toInt32) = (0 : Int32)
        · refine Ends.step (fun _ k => XS.ifYes X58.here hx rfl (pc0 := 134) (pc' := 160) rfl (hb hby at_134) rfl (XT.i0_eq_t hc134_59) (by decide) (by decide) k) ?_
          show Ends p e below QQ (T58.setTop (mkF m 160 #[.val (.int p0), .val (.int p1), .val (.int p2), .val (.int p3), .val (.int p4), .val (.int (f1 p0)), .val (.int (f1 p2)), .val (.int p1.toUInt32.toUInt16.toUInt32.toInt32), .val (.int v42_1), .val (.ref b44), .val (.ref b47), .val (.int v95_2), .val (.ref b_53)] []))
          refine Ends.step (fun _ k => XT.iconstV X58.here hx rfl (0 : Int32) (hb hby at_160) rfl k) ?_
          show Ends p e below QQ (T58.setTop (mkF m 161 #[.val (.int p0), .val (.int p1), .val (.int p2), .val (.int p3), .val (.int p4), .val (.int (f1 p0)), .val (.int (f1 p2)), .val (.int p1.toUInt32.toUInt16.toUInt32.toInt32), .val (.int v42_1), .val (.ref b44), .val (.ref b47), .val (.int v95_2), .val (.ref b_53)] [(.int (0 : Int32))]))
          exact Ends.fin (some (.int (0 : Int32))) X58 hQQ (fun h => by rw [Bd.returns] at h; cases h) Bd.notSynchronized (fun _ hr => retOut X58 hx (t := .boolean) Bd.returns rfl (Or.inl ⟨rfl, (by simp), _, rfl⟩) (hb hby at_161) hr) hh58 (by decide) (by decide) ⟨(by simp only [f0, dv42_1, dv95_2, if_pos hc10_40, if_pos hc112_55, if_pos hc124_57, if_pos hc134_59]), N58, K53⟩
        · refine Ends.step (fun _ k => XS.ifNo X58.here hx rfl (hb hby at_134) rfl (XT.i0_eq_f hc134_59) k) ?_
          show Ends p e below QQ (T58.setTop (mkF m 137 #[.val (.int p0), .val (.int p1), .val (.int p2), .val (.int p3), .val (.int p4), .val (.int (f1 p0)), .val (.int (f1 p2)), .val (.int p1.toUInt32.toUInt16.toUInt32.toInt32), .val (.int v42_1), .val (.ref b44), .val (.ref b47), .val (.int v95_2), .val (.ref b_53)] []))
          refine Ends.step (fun _ k => XS.aload X58.here hx rfl (hb hby at_137) rfl rfl k) ?_
          show Ends p e below QQ (T58.setTop (mkF m 139 #[.val (.int p0), .val (.int p1), .val (.int p2), .val (.int p3), .val (.int p4), .val (.int (f1 p0)), .val (.int (f1 p2)), .val (.int p1.toUInt32.toUInt16.toUInt32.toInt32), .val (.int v42_1), .val (.ref b44), .val (.ref b47), .val (.int v95_2), .val (.ref b_53)] [(.ref b44)]))
          refine Ends.step (fun _ k => XS.aconstNull X58.here hx rfl (hb hby at_139) k) ?_
          show Ends p e below QQ (T58.setTop (mkF m 140 #[.val (.int p0), .val (.int p1), .val (.int p2), .val (.int p3), .val (.int p4), .val (.int (f1 p0)), .val (.int (f1 p2)), .val (.int p1.toUInt32.toUInt16.toUInt32.toInt32), .val (.int v42_1), .val (.ref b44), .val (.ref b47), .val (.int v95_2), .val (.ref b_53)] [.null, (.ref b44)]))
          obtain ⟨cq60, kq60, q60a, q60b, q60c⟩ := isOf hZ hh58 E_b44
          obtain ⟨_, _, ⟨T60, L60, k60, n60⟩, -, X60, ⟨Lc60, hQ60, l60, y60, z60⟩, st60⟩ := X58.virtualBack hx (y := (⟨"com/example/glyphdelve/glyphdelve/cli/Key", "equals", "(Ljava/lang/Object;)Z"⟩ : MethodName)) (z := (⟨"com/example/glyphdelve/glyphdelve/cli/Key", "equals", "(Ljava/lang/Object;)Z"⟩ : MethodName)) hown (mvT hZ (hw _ (List.mem_of_getElem? (i := 38) rfl))) (mvT hZ (hw _ (List.mem_of_getElem? (i := 39) rfl))) (notFace_of_selects (args := #[]) (mvT hZ (hw _ (List.mem_of_getElem? (i := 41) rfl)))) (mvT hZ (hw _ (List.mem_of_getElem? (i := 41) rfl))) (mvT hZ (hw _ (List.mem_of_getElem? (i := 40) rfl))) (by decide) (backOf (W := 0) (rm7n l Z a0 hw [] b44 T53.heap n0 (Nat.le_trans Z0 K53.1)) hZ (hw _ (List.mem_of_getElem? (i := 42) rfl)) (hw _ (List.mem_of_getElem? (i := 7) rfl)) (by decide) (by decide)) q60a q60c (g := (mkF m 140 #[.val (.int p0), .val (.int p1), .val (.int p2), .val (.int p3), .val (.int p4), .val (.int (f1 p0)), .val (.int (f1 p2)), .val (.int p1.toUInt32.toUInt16.toUInt32.toInt32), .val (.int v42_1), .val (.ref b44), .val (.ref b47), .val (.int v95_2), .val (.ref b_53)] [.null, (.ref b44)])) rfl (by rw [hml]; rfl) (Steps.refl _) (argsL := [.null]) (rest := []) (lenOf pd_6 rfl) rfl (by show 2 * 0 + _ ≤ _; exact Nat.le_of_eq rfl) (hb hby at_140) (fun _ _ => ⟨rfl, hh58, (by decide : 3 + 0 ≤ _), (by decide : 5 + 0 ≤ _)⟩)
          dsimp only [Pt.U, Pt.locs, Pt.cells, Pt.slots] at X60 l60 y60 z60 st60 hQ60
          subst l60 y60 z60
          obtain ⟨rfl, Nq60, hh60⟩ := hQ60
          have N60 := Fr.app N58 Nq60
          refine Ends.step (fun _ k => st60.trans k) ?_
          show Ends p e below QQ (T60.setTop (mkF m 143 #[.val (.int p0), .val (.int p1), .val (.int p2), .val (.int p3), .val (.int p4), .val (.int (f1 p0)), .val (.int (f1 p2)), .val (.int p1.toUInt32.toUInt16.toUInt32.toInt32), .val (.int v42_1), .val (.ref b44), .val (.ref b47), .val (.int v95_2), .val (.ref b_53)] [(.int (0 : Int32))]))
          refine Ends.step (fun _ k => XS.ifNo X60.here hx rfl (hb hby at_143) rfl (XT.i0_ne_f (by decide)) k) ?_
          show Ends p e below QQ (T60.setTop (mkF m 146 #[.val (.int p0), .val (.int p1), .val (.int p2), .val (.int p3), .val (.int p4), .val (.int (f1 p0)), .val (.int (f1 p2)), .val (.int p1.toUInt32.toUInt16.toUInt32.toInt32), .val (.int v42_1), .val (.ref b44), .val (.ref b47), .val (.int v95_2), .val (.ref b_53)] []))
          refine Ends.step (fun _ k => XS.aload X60.here hx rfl (hb hby at_146) rfl rfl k) ?_
          show Ends p e below QQ (T60.setTop (mkF m 148 #[.val (.int p0), .val (.int p1), .val (.int p2), .val (.int p3), .val (.int p4), .val (.int (f1 p0)), .val (.int (f1 p2)), .val (.int p1.toUInt32.toUInt16.toUInt32.toInt32), .val (.int v42_1), .val (.ref b44), .val (.ref b47), .val (.int v95_2), .val (.ref b_53)] [(.ref b44)]))
          refine Ends.step (fun _ k => XS.aload X60.here hx rfl (hb hby at_148) rfl rfl k) ?_
          show Ends p e below QQ (T60.setTop (mkF m 150 #[.val (.int p0), .val (.int p1), .val (.int p2), .val (.int p3), .val (.int p4), .val (.int (f1 p0)), .val (.int (f1 p2)), .val (.int p1.toUInt32.toUInt16.toUInt32.toInt32), .val (.int v42_1), .val (.ref b44), .val (.ref b47), .val (.int v95_2), .val (.ref b_53)] [(.ref b_53), (.ref b44)]))
          obtain ⟨cq61, kq61, q61a, q61b, q61c⟩ := isOf hZ hh60 E_b44
          obtain ⟨_, _, ⟨T61, L61, k61, n61⟩, -, X61, ⟨Lc61, hQ61, l61, y61, z61⟩, st61⟩ := X60.virtualBack hx (y := (⟨"com/example/glyphdelve/glyphdelve/cli/Key", "equals", "(Ljava/lang/Object;)Z"⟩ : MethodName)) (z := (⟨"com/example/glyphdelve/glyphdelve/cli/Key", "equals", "(Ljava/lang/Object;)Z"⟩ : MethodName)) hown (mvT hZ (hw _ (List.mem_of_getElem? (i := 38) rfl))) (mvT hZ (hw _ (List.mem_of_getElem? (i := 39) rfl))) (notFace_of_selects (args := #[]) (mvT hZ (hw _ (List.mem_of_getElem? (i := 41) rfl)))) (mvT hZ (hw _ (List.mem_of_getElem? (i := 41) rfl))) (mvT hZ (hw _ (List.mem_of_getElem? (i := 40) rfl))) (by decide) (backOf (W := 0) (rm7i l Z a0 hw [] b44 b_53 T53.heap n0 (Nat.le_trans Z0 K53.1) E_b_53) hZ (hw _ (List.mem_of_getElem? (i := 42) rfl)) (hw _ (List.mem_of_getElem? (i := 7) rfl)) (by decide) (by decide)) q61a q61c (g := (mkF m 150 #[.val (.int p0), .val (.int p1), .val (.int p2), .val (.int p3), .val (.int p4), .val (.int (f1 p0)), .val (.int (f1 p2)), .val (.int p1.toUInt32.toUInt16.toUInt32.toInt32), .val (.int v42_1), .val (.ref b44), .val (.ref b47), .val (.int v95_2), .val (.ref b_53)] [(.ref b_53), (.ref b44)])) rfl (by rw [hml]; rfl) (Steps.refl _) (argsL := [(.ref b_53)]) (rest := []) (lenOf pd_6 rfl) rfl (by show 2 * 0 + _ ≤ _; exact Nat.le_of_eq rfl) (hb hby at_150) (fun _ _ => ⟨rfl, hh60, (by decide : 3 + 0 ≤ _), (by decide : 5 + 0 ≤ _)⟩)
          dsimp only [Pt.U, Pt.locs, Pt.cells, Pt.slots] at X61 l61 y61 z61 st61 hQ61
          subst l61 y61 z61
          obtain ⟨rfl, Nq61, hh61⟩ := hQ61
          have N61 := Fr.app N60 Nq61
          refine Ends.step (fun _ k => st61.trans k) ?_
          show Ends p e below QQ (T61.setTop (mkF m 153 #[.val (.int p0), .val (.int p1), .val (.int p2), .val (.int p3), .val (.int p4), .val (.int (f1 p0)), .val (.int (f1 p2)), .val (.int p1.toUInt32.toUInt16.toUInt32.toInt32), .val (.int v42_1), .val (.ref b44), .val (.ref b47), .val (.int v95_2), .val (.ref b_53)] [(.int (0 : Int32))]))
          refine Ends.step (fun _ k => XS.ifNo X61.here hx rfl (hb hby at_153) rfl (XT.i0_ne_f (by decide)) k) ?_
          show Ends p e below QQ (T61.setTop (mkF m 156 #[.val (.int p0), .val (.int p1), .val (.int p2), .val (.int p3), .val (.int p4), .val (.int (f1 p0)), .val (.int (f1 p2)), .val (.int p1.toUInt32.toUInt16.toUInt32.toInt32), .val (.int v42_1), .val (.ref b44), .val (.ref b47), .val (.int v95_2), .val (.ref b_53)] []))
          refine Ends.step (fun _ k => XT.iconstV X61.here hx rfl (1 : Int32) (hb hby at_156) rfl k) ?_
          show Ends p e below QQ (T61.setTop (mkF m 157 #[.val (.int p0), .val (.int p1), .val (.int p2), .val (.int p3), .val (.int p4), .val (.int (f1 p0)), .val (.int (f1 p2)), .val (.int p1.toUInt32.toUInt16.toUInt32.toInt32), .val (.int v42_1), .val (.ref b44), .val (.ref b47), .val (.int v95_2), .val (.ref b_53)] [(.int (1 : Int32))]))
          refine Ends.step (fun _ k => XS.goto X61.here hx rfl (pc0 := 157) (pc' := 161) rfl (hb hby at_157) (by decide) (by decide) k) ?_
          show Ends p e below QQ (T61.setTop (mkF m 161 #[.val (.int p0), .val (.int p1), .val (.int p2), .val (.int p3), .val (.int p4), .val (.int (f1 p0)), .val (.int (f1 p2)), .val (.int p1.toUInt32.toUInt16.toUInt32.toInt32), .val (.int v42_1), .val (.ref b44), .val (.ref b47), .val (.int v95_2), .val (.ref b_53)] [(.int (1 : Int32))]))
          exact Ends.fin (some (.int (1 : Int32))) X61 hQQ (fun h => by rw [Bd.returns] at h; cases h) Bd.notSynchronized (fun _ hr => retOut X61 hx (t := .boolean) Bd.returns rfl (Or.inl ⟨rfl, (by simp), _, rfl⟩) (hb hby at_161) hr) hh61 (by decide) (by decide) ⟨(by simp only [f0, dv42_1, dv95_2, if_pos hc10_40, if_pos hc112_55, if_pos hc124_57, if_neg hc134_59]), N61, K53⟩
      · refine Ends.step (fun _ k => XS.icmpYes X56.here hx rfl (pc0 := 124) (pc' := 160) rfl (hb hby at_124) rfl (XT.ii_ne_t hc124_57) (by decide) (by decide) k) ?_
        show Ends p e below QQ (T56.setTop (mkF m 160 #[.val (.int p0), .val (.int p1), .val (.int p2), .val (.int p3), .val (.int p4), .val (.int (f1 p0)), .val (.int (f1 p2)), .val (.int p1.toUInt32.toUInt16.toUInt32.toInt32), .val (.int v42_1), .val (.ref b44), .val (.ref b47), .val (.int v95_2), .val (.ref b_53)] []))
        refine Ends.step (fun _ k => XT.iconstV X56.here hx rfl (0 : Int32) (hb hby at_160) rfl k) ?_
        show Ends p e below QQ (T56.setTop (mkF m 161 #[.val (.int p0), .val (.int p1), .val (.int p2), .val (.int p3), .val (.int p4), .val (.int (f1 p0)), .val (.int (f1 p2)), .val (.int p1.toUInt32.toUInt16.toUInt32.toInt32), .val (.int v42_1), .val (.ref b44), .val (.ref b47), .val (.int v95_2), .val (.ref b_53)] [(.int (0 : Int32))]))
        exact Ends.fin (some (.int (0 : Int32))) X56 hQQ (fun h => by rw [Bd.returns] at h; cases h) Bd.notSynchronized (fun _ hr => retOut X56 hx (t := .boolean) Bd.returns rfl (Or.inl ⟨rfl, (by simp), _, rfl⟩) (hb hby at_161) hr) hh56 (by decide) (by decide) ⟨(by simp only [f0, dv42_1, dv95_2, if_pos hc10_40, if_pos hc112_55, if_neg hc124_57]), N56, K53⟩
    · refine Ends.step (fun _ k => XS.icmpYes X54.here hx rfl (pc0 := 112) (pc' := 160) rfl (hb hby at_112) rfl (XT.ii_ne_t hc112_55) (by decide) (by decide) k) ?_
      show Ends p e below QQ (T54.setTop (mkF m 160 #[.val (.int p0), .val (.int p1), .val (.int p2), .val (.int p3), .val (.int p4), .val (.int (f1 p0)), .val (.int (f1 p2)), .val (.int p1.toUInt32.toUInt16.toUInt32.toInt32), .val (.int v42_1), .val (.ref b44), .val (.ref b47), .val (.int v95_2), .val (.ref b_53)] []))
      refine Ends.step (fun _ k => XT.iconstV X54.here hx rfl (0 : Int32) (hb hby at_160) rfl k) ?_
      show Ends p e below QQ (T54.setTop (mkF m 161 #[.val (.int p0), .val (.int p1), .val (.int p2), .val (.int p3), .val (.int p4), .val (.int (f1 p0)), .val (.int (f1 p2)), .val (.int p1.toUInt32.toUInt16.toUInt32.toInt32), .val (.int v42_1), .val (.ref b44), .val (.ref b47), .val (.int v95_2), .val (.ref b_53)] [(.int (0 : Int32))]))
      exact Ends.fin (some (.int (0 : Int32))) X54 hQQ (fun h => by rw [Bd.returns] at h; cases h) Bd.notSynchronized (fun _ hr => retOut X54 hx (t := .boolean) Bd.returns rfl (Or.inl ⟨rfl, (by simp), _, rfl⟩) (hb hby at_161) hr) hh54 (by decide) (by decide) ⟨(by simp only [f0, dv42_1, dv95_2, if_pos hc10_40, if_neg hc112_55]), N54, K53⟩
  · refine Ends.step (fun _ k => XS.ifNo X39.here hx rfl (hb hby at_10) rfl (XT.i0_eq_f hc10_40) k) ?_
    show Ends p e below QQ (T39.setTop (mkF m 13 #[.val (.int p0), .val (.int p1), .val (.int p2), .val (.int p3), .val (.int p4), .val (.int (f1 p0)), .unset, .unset, .unset, .unset, .unset, .unset, .unset] []))
    refine Ends.step (fun _ k => XS.iload X39.here hx rfl (hb hby at_13) rfl k) ?_
    show Ends p e below QQ (T39.setTop (mkF m 15 #[.val (.int p0), .val (.int p1), .val (.int p2), .val (.int p3), .val (.int p4), .val (.int (f1 p0)), .unset, .unset, .unset, .unset, .unset, .unset, .unset] [(.int (f1 p0))]))
    refine Ends.step (fun _ k => XS.goto X39.here hx rfl (pc0 := 15) (pc' := 22) rfl (hb hby at_15) (by decide) (by decide) k) ?_
    show Ends p e below QQ (T39.setTop (mkF m 22 #[.val (.int p0), .val (.int p1), .val (.int p2), .val (.int p3), .val (.int p4), .val (.int (f1 p0)), .unset, .unset, .unset, .unset, .unset, .unset, .unset] [(.int (f1 p0))]))
    refine Ends.step (fun _ k => XS.istore X39.here hx rfl (hb hby at_22) rfl (l' := #[.val (.int p0), .val (.int p1), .val (.int p2), .val (.int p3), .val (.int p4), .val (.int (f1 p0)), .val (.int (f1 p0)), .unset, .unset, .unset, .unset, .unset, .unset]) rfl k) ?_
    show Ends p e below QQ (T39.setTop (mkF m 24 #[.val (.int p0), .val (.int p1), .val (.int p2), .val (.int p3), .val (.int p4), .val (.int (f1 p0)), .val (.int (f1 p0)), .unset, .unset, .unset, .unset, .unset, .unset] []))
    refine Ends.step (fun _ k => XS.iloadN X39.here hx rfl (hb hby at_24) rfl k) ?_
    show Ends p e below QQ (T39.setTop (mkF m 25 #[.val (.int p0), .val (.int p1), .val (.int p2), .val (.int p3), .val (.int p4), .val (.int (f1 p0)), .val (.int (f1 p0)), .unset, .unset, .unset, .unset, .unset, .unset] [(.int p1)]))
    refine Ends.step (fun _ k => XT.i2c X39.here hx rfl (hb hby at_25) rfl k) ?_
    show Ends p e below QQ (T39.setTop (mkF m 26 #[.val (.int p0), .val (.int p1), .val (.int p2), .val (.int p3), .val (.int p4), .val (.int (f1 p0)), .val (.int (f1 p0)), .unset, .unset, .unset, .unset, .unset, .unset] [(.int p1.toUInt32.toUInt16.toUInt32.toInt32)]))
    refine Ends.step (fun _ k => XS.istore X39.here hx rfl (hb hby at_26) rfl (l' := #[.val (.int p0), .val (.int p1), .val (.int p2), .val (.int p3), .val (.int p4), .val (.int (f1 p0)), .val (.int (f1 p0)), .val (.int p1.toUInt32.toUInt16.toUInt32.toInt32), .unset, .unset, .unset, .unset, .unset]) rfl k) ?_
    show Ends p e below QQ (T39.setTop (mkF m 28 #[.val (.int p0), .val (.int p1), .val (.int p2), .val (.int p3), .val (.int p4), .val (.int (f1 p0)), .val (.int (f1 p0)), .val (.int p1.toUInt32.toUInt16.toUInt32.toInt32), .unset, .unset, .unset, .unset, .unset] []))
    refine Ends.step (fun _ k => XS.iload X39.here hx rfl (hb hby at_28) rfl k) ?_
    show Ends p e below QQ (T39.setTop (mkF m 30 #[.val (.int p0), .val (.int p1), .val (.int p2), .val (.int p3), .val (.int p4), .val (.int (f1 p0)), .val (.int (f1 p0)), .val (.int p1.toUInt32.toUInt16.toUInt32.toInt32), .unset, .unset, .unset, .unset, .unset] [(.int p4)]))
    refine Ends.step (fun _ k => XT.iconstV X39.here hx rfl (2 : Int32) (hb hby at_30) rfl k) ?_
    show Ends p e below QQ (T39.setTop (mkF m 31 #[.val (.int p0), .val (.int p1), .val (.int p2), .val (.int p3), .val (.int p4), .val (.int (f1 p0)), .val (.int (f1 p0)), .val (.int p1.toUInt32.toUInt16.toUInt32.toInt32), .unset, .unset, .unset, .unset, .unset] [(.int (2 : Int32)), (.int p4)]))
    refine Ends.step (fun _ k => XS.iand X39.here hx rfl (hb hby at_31) rfl k) ?_
    show Ends p e below QQ (T39.setTop (mkF m 32 #[.val (.int p0), .val (.int p1), .val (.int p2), .val (.int p3), .val (.int p4), .val (.int (f1 p0)), .val (.int (f1 p0)), .val (.int p1.toUInt32.toUInt16.toUInt32.toInt32), .unset, .unset, .unset, .unset, .unset] [(.int (p4 &&& (2 : Int32)))]))
    have J42_62 : (∀ (v42_3 : Int32) (hv42_3 : v42_3 = (if (p4 &&& (2 : Int32)) = (0 : Int32) then p3.toUInt32.toUInt16.toUInt32.toInt32 else p1.toUInt32.toUInt16.toUInt32.toInt32)), Ends p e below QQ (T39.setTop (mkF m 42 #[.val (.int p0), .val (.int p1), .val (.int p2), .val (.int p3), .val (.int p4), .val (.int (f1 p0)), .val (.int (f1 p0)), .val (.int p1.toUInt32.toUInt16.toUInt32.toInt32), .unset, .unset, .unset, .unset, .unset] [(.int v42_3)]))) → Ends p e below QQ (T39.setTop (mkF m 32 #[.val (.int p0), .val (.int p1), .val (.int p2), .val (.int p3), .val (.int p4), .val (.int (f1 p0)), .val (.int (f1 p0)), .val (.int p1.toUInt32.toUInt16.toUInt32.toInt32), .unset, .unset, .unset, .unset, .unset] [(.int (p4 &&& (2 : Int32)))])) := by
      intro hJ
      by_cases hc32_63 : (p4 &&& (2 : Int32)) = (0 : Int32)
      · refine Ends.step (fun _ k => XS.ifYes X39.here hx rfl (pc0 := 32) (pc' := 40) rfl (hb hby at_32) rfl (XT.i0_eq_t hc32_63) (by decide) (by decide) k) ?_
        show Ends p e below QQ (T39.setTop (mkF m 40 #[.val (.int p0), .val (.int p1), .val (.int p2), .val (.int p3), .val (.int p4), .val (.int (f1 p0)), .val (.int (f1 p0)), .val (.int p1.toUInt32.toUInt16.toUInt32.toInt32), .unset, .unset, .unset, .unset, .unset] []))
        refine Ends.step (fun _ k => XS.iloadN X39.here hx rfl (hb hby at_40) rfl k) ?_
        show Ends p e below QQ (T39.setTop (mkF m 41 #[.val (.int p0), .val (.int p1), .val (.int p2), .val (.int p3), .val (.int p4), .val (.int (f1 p0)), .val (.int (f1 p0)), .val (.int p1.toUInt32.toUInt16.toUInt32.toInt32), .unset, .unset, .unset, .unset, .unset] [(.int p3)]))
        refine Ends.step (fun _ k => XT.i2c X39.here hx rfl (hb hby at_41) rfl k) ?_
        exact hJ _ (by simp only [if_pos hc32_63])
      · refine Ends.step (fun _ k => XS.ifNo X39.here hx rfl (hb hby at_32) rfl (XT.i0_eq_f hc32_63) k) ?_
        show Ends p e below QQ (T39.setTop (mkF m 35 #[.val (.int p0), .val (.int p1), .val (.int p2), .val (.int p3), .val (.int p4), .val (.int (f1 p0)), .val (.int (f1 p0)), .val (.int p1.toUInt32.toUInt16.toUInt32.toInt32), .unset, .unset, .unset, .unset, .unset] []))
        refine Ends.step (fun _ k => XS.iload X39.here hx rfl (hb hby at_35) rfl k) ?_
        show Ends p e below QQ (T39.setTop (mkF m 37 #[.val (.int p0), .val (.int p1), .val (.int p2), .val (.int p3), .val (.int p4), .val (.int (f1 p0)), .val (.int (f1 p0)), .val (.int p1.toUInt32.toUInt16.toUInt32.toInt32), .unset, .unset, .unset, .unset, .unset] [(.int p1.toUInt32.toUInt16.toUInt32.toInt32)]))
        refine Ends.step (fun _ k => XS.goto X39.here hx rfl (pc0 := 37) (pc' := 42) rfl (hb hby at_37) (by decide) (by decide) k) ?_
        exact hJ _ (by simp only [if_neg hc32_63])
    refine J42_62 fun v42_3 hv42_3 => ?_
    have dv42_3 : f0_v42_3 p0 p1 p2 p3 p4 a_CHARACTER a_ESCAPE a_ENTER a_UP a_DOWN a_LEFT a_RIGHT = v42_3 := by
      simp only [f0_v42_3]
      exact hv42_3.symm
    show Ends p e below QQ (T39.setTop (mkF m 42 #[.val (.int p0), .val (.int p1), .val (.int p2), .val (.int p3), .val (.int p4), .val (.int (f1 p0)), .val (.int (f1 p0)), .val (.int p1.toUInt32.toUInt16.toUInt32.toInt32), .unset, .unset, .unset, .unset, .unset] [(.int v42_3)]))
    refine Ends.step (fun _ k => XS.istore X39.here hx rfl (hb hby at_42) rfl (l' := #[.val (.int p0), .val (.int p1), .val (.int p2), .val (.int p3), .val (.int p4), .val (.int (f1 p0)), .val (.int (f1 p0)), .val (.int p1.toUInt32.toUInt16.toUInt32.toInt32), .val (.int v42_3), .unset, .unset, .unset, .unset]) rfl k) ?_
    show Ends p e below QQ (T39.setTop (mkF m 44 #[.val (.int p0), .val (.int p1), .val (.int p2), .val (.int p3), .val (.int p4), .val (.int (f1 p0)), .val (.int (f1 p0)), .val (.int p1.toUInt32.toUInt16.toUInt32.toInt32), .val (.int v42_3), .unset, .unset, .unset, .unset] []))
    obtain ⟨T64, h64, X64, e64, E64, A64, D64, U64, st64⟩ := newO X39 hx hZ hown (hw _ (List.mem_of_getElem? (i := 5) rfl)) (hw _ (List.mem_of_getElem? (i := 6) rfl)) (hw _ (List.mem_of_getElem? (i := 7) rfl)) hh39 (g := (mkF m 44 #[.val (.int p0), .val (.int p1), .val (.int p2), .val (.int p3), .val (.int p4), .val (.int (f1 p0)), .val (.int (f1 p0)), .val (.int p1.toUInt32.toUInt16.toUInt32.toInt32), .val (.int v42_3), .unset, .unset, .unset, .unset] [])) rfl (hb hby at_44) (by decide) (by decide)
    obtain ⟨b64, g64⟩ : ∃ z, z = h0.size := ⟨_, rfl⟩
    rw [← g64] at A64 D64 U64 st64
    have ne_a_CHARACTER_b64 : a_CHARACTER ≠ b64 := Nat.ne_of_lt (Nat.lt_of_lt_of_le E_a_CHARACTER.lt (Nat.le_of_eq g64.symm))
    have ne_a_ENTER_b64 : a_ENTER ≠ b64 := Nat.ne_of_lt (Nat.lt_of_lt_of_le E_a_ENTER.lt (Nat.le_of_eq g64.symm))
    have ne_a_UP_b64 : a_UP ≠ b64 := Nat.ne_of_lt (Nat.lt_of_lt_of_le E_a_UP.lt (Nat.le_of_eq g64.symm))
    have ne_a_LEFT_b64 : a_LEFT ≠ b64 := Nat.ne_of_lt (Nat.lt_of_lt_of_le E_a_LEFT.lt (Nat.le_of_eq g64.symm))
    have ne_a_ESCAPE_b64 : a_ESCAPE ≠ b64 := Nat.ne_of_lt (Nat.lt_of_lt_of_le E_a_ESCAPE.lt (Nat.le_of_eq g64.symm))
    have ne_a_DOWN_b64 : a_DOWN ≠ b64 := Nat.ne_of_lt (Nat.lt_of_lt_of_le E_a_DOWN.lt (Nat.le_of_eq g64.symm))
    have ne_a_RIGHT_b64 : a_RIGHT ≠ b64 := Nat.ne_of_lt (Nat.lt_of_lt_of_le E_a_RIGHT.lt (Nat.le_of_eq g64.symm))
    have g_b64 : n0 ≤ b64 := Nat.le_trans Z0 (Nat.le_trans (Keep.refl h0 []).1 (Nat.le_of_eq g64.symm))
    have sz_b64 : h0.size ≤ b64 := Nat.le_trans (Keep.refl h0 []).1 (Nat.le_of_eq g64.symm)
    have E_a_CHARACTER := E_a_CHARACTER.ext E64
    have E_a_ENTER := E_a_ENTER.ext E64
    have E_a_UP := E_a_UP.ext E64
    have E_a_LEFT := E_a_LEFT.ext E64
    have E_a_ESCAPE := E_a_ESCAPE.ext E64
    have E_a_DOWN := E_a_DOWN.ext E64
    have E_a_RIGHT := E_a_RIGHT.ext E64
    have F_ordinal_a_ENTER := F_ordinal_a_ENTER.ext E64
    have F_ordinal_a_CHARACTER := F_ordinal_a_CHARACTER.ext E64
    have F_ordinal_a_ESCAPE := F_ordinal_a_ESCAPE.ext E64
    have F_ordinal_a_UP := F_ordinal_a_UP.ext E64
    have F_ordinal_a_DOWN := F_ordinal_a_DOWN.ext E64
    have F_ordinal_a_LEFT := F_ordinal_a_LEFT.ext E64
    have F_ordinal_a_RIGHT := F_ordinal_a_RIGHT.ext E64
    have S_CHARACTER := S_CHARACTER.ext E64
    have S_ENTER := S_ENTER.ext E64
    have S_UP := S_UP.ext E64
    have S_LEFT := S_LEFT.ext E64
    have S_ESCAPE := S_ESCAPE.ext E64
    have S_DOWN := S_DOWN.ext E64
    have S_RIGHT := S_RIGHT.ext E64
    have S_high := S_high.ext E64
    have S_cache := S_cache.ext E64
    have old := old.ext E64
    have K64 := (Keep.refl h0 []).ext E64
    have E_b64 := A64
    have F_kind_b64 : Fld Z h64 b64 "com/example/glyphdelve/glyphdelve/cli/Key" "kind" "Lcom/example/glyphdelve/glyphdelve/cli/Key$Kind;" .null := D64 (Or.inr (hw _ (List.mem_of_getElem? (i := 26) rfl))) (ty := (.object "com/example/glyphdelve/glyphdelve/cli/Key$Kind")) (by decide)
    have F_character_b64 : Fld Z h64 b64 "com/example/glyphdelve/glyphdelve/cli/Key" "character" "C" (.int (0 : Int32)) := D64 (Or.inr (hw _ (List.mem_of_getElem? (i := 28) rfl))) (ty := .char) (by decide)
    refine Ends.step st64 ?_
    show Ends p e below QQ (T64.setTop (mkF m 47 #[.val (.int p0), .val (.int p1), .val (.int p2), .val (.int p3), .val (.int p4), .val (.int (f1 p0)), .val (.int (f1 p0)), .val (.int p1.toUInt32.toUInt16.toUInt32.toInt32), .val (.int v42_3), .unset, .unset, .unset, .unset] [(.ref b64)]))
    refine Ends.step (fun _ k => XS.dup X64.here hx rfl (hb hby at_47) rfl rfl k) ?_
    show Ends p e below QQ (T64.setTop (mkF m 48 #[.val (.int p0), .val (.int p1), .val (.int p2), .val (.int p3), .val (.int p4), .val (.int (f1 p0)), .val (.int (f1 p0)), .val (.int p1.toUInt32.toUInt16.toUInt32.toInt32), .val (.int v42_3), .unset, .unset, .unset, .unset] [(.ref b64), (.ref b64)]))
    refine Ends.step (fun _ k => XS.iload X64.here hx rfl (hb hby at_48) rfl k) ?_
    show Ends p e below QQ (T64.setTop (mkF m 50 #[.val (.int p0), .val (.int p1), .val (.int p2), .val (.int p3), .val (.int p4), .val (.int (f1 p0)), .val (.int (f1 p0)), .val (.int p1.toUInt32.toUInt16.toUInt32.toInt32), .val (.int v42_3), .unset, .unset, .unset, .unset] [(.int (f1 p0)), (.ref b64), (.ref b64)]))
    obtain ⟨_, _, ⟨T65, L65, k65, n65⟩, -, X65, ⟨Lc65, hQ65, l65, y65, z65⟩, st65⟩ := Jvm.LawKit.callS X64 hx (y := (⟨"com/example/glyphdelve/glyphdelve/cli/KeyEqualsPinLaw", "kind", "(I)Lcom/example/glyphdelve/glyphdelve/cli/Key$Kind;"⟩ : MethodName)) hown (mvT hZ (hw _ (List.mem_of_getElem? (i := 8) rfl))) (mvT hZ (hw _ (List.mem_of_getElem? (i := 9) rfl))) (mvT hZ (hw _ (List.mem_of_getElem? (i := 2) rfl))) (mvT hZ (hw _ (List.mem_of_getElem? (i := 10) rfl))) (by decide) (backOf (W := 2) (rm2 l Z a0 hw [] (f1 p0) a_CHARACTER a_ESCAPE a_ENTER a_UP a_DOWN a_LEFT a_RIGHT h64 n0 (Nat.le_trans Z0 K64.1) S_CHARACTER S_ENTER S_UP S_LEFT S_ESCAPE S_DOWN S_RIGHT) hZ (hw _ (List.mem_of_getElem? (i := 10) rfl)) (hw _ (List.mem_of_getElem? (i := 2) rfl)) (by decide) (by decide)) (g := (mkF m 50 #[.val (.int p0), .val (.int p1), .val (.int p2), .val (.int p3), .val (.int p4), .val (.int (f1 p0)), .val (.int (f1 p0)), .val (.int p1.toUInt32.toUInt16.toUInt32.toInt32), .val (.int v42_3), .unset, .unset, .unset, .unset] [(.int (f1 p0)), (.ref b64), (.ref b64)])) rfl (by rw [hml]; rfl) (argsL := [(.int (f1 p0))]) (rest := [(.ref b64), (.ref b64)]) (lenOf pd_3 rfl) rfl (by show 2 * 0 + _ ≤ _; exact Nat.le_of_eq rfl) (hb hby at_50) (fun _ _ => ⟨rfl, e64, (by decide : 1 + 0 ≤ _), (by decide : 2 + 0 ≤ _)⟩)
    dsimp only [Pt.U, Pt.locs, Pt.cells, Pt.slots] at X65 l65 y65 z65 st65 hQ65
    subst l65 y65 z65
    obtain ⟨rfl, Nq65, hh65⟩ := hQ65
    have N65 := Fr.app N39 Nq65
    refine Ends.step st65 ?_
    show Ends p e below QQ (T65.setTop (mkF m 53 #[.val (.int p0), .val (.int p1), .val (.int p2), .val (.int p3), .val (.int p4), .val (.int (f1 p0)), .val (.int (f1 p0)), .val (.int p1.toUInt32.toUInt16.toUInt32.toInt32), .val (.int v42_3), .unset, .unset, .unset, .unset] [(.ref (own_k (f1 p0) a_CHARACTER a_ESCAPE a_ENTER a_UP a_DOWN a_LEFT a_RIGHT)), (.ref b64), (.ref b64)]))
    refine Ends.step (fun _ k => XS.iload X65.here hx rfl (hb hby at_53) rfl k) ?_
    show Ends p e below QQ (T65.setTop (mkF m 55 #[.val (.int p0), .val (.int p1), .val (.int p2), .val (.int p3), .val (.int p4), .val (.int (f1 p0)), .val (.int (f1 p0)), .val (.int p1.toUInt32.toUInt16.toUInt32.toInt32), .val (.int v42_3), .unset, .unset, .unset, .unset] [(.int p1.toUInt32.toUInt16.toUInt32.toInt32), (.ref (own_k (f1 p0) a_CHARACTER a_ESCAPE a_ENTER a_UP a_DOWN a_LEFT a_RIGHT)), (.ref b64), (.ref b64)]))
    obtain ⟨_, _, ⟨T66, L66, k66, n66⟩, -, X66, ⟨Lc66, hQ66, l66, y66, z66⟩, st66⟩ := X65.specialBack hx (y := (⟨"com/example/glyphdelve/glyphdelve/cli/Key", "<init>", "(Lcom/example/glyphdelve/glyphdelve/cli/Key$Kind;C)V"⟩ : MethodName)) rfl hown (mvT hZ (hw _ (List.mem_of_getElem? (i := 14) rfl))) (mvT hZ (hw _ (List.mem_of_getElem? (i := 15) rfl))) (mvT hZ (hw _ (List.mem_of_getElem? (i := 16) rfl))) (by decide) (backOf (W := 1) (rm3 l Z a0 hw [] b64 (own_k (f1 p0) a_CHARACTER a_ESCAPE a_ENTER a_UP a_DOWN a_LEFT a_RIGHT) (p1.toUInt32.toUInt16.toUInt32.toInt32) (.null : Value) (0 : Int32) h64 n0 (Nat.le_trans Z0 K64.1) E_b64 F_kind_b64 F_character_b64 g_b64 (own_narc _)) hZ (hw _ (List.mem_of_getElem? (i := 16) rfl)) (hw _ (List.mem_of_getElem? (i := 7) rfl)) (by decide) (by decide)) (g := (mkF m 55 #[.val (.int p0), .val (.int p1), .val (.int p2), .val (.int p3), .val (.int p4), .val (.int (f1 p0)), .val (.int (f1 p0)), .val (.int p1.toUInt32.toUInt16.toUInt32.toInt32), .val (.int v42_3), .unset, .unset, .unset, .unset] [(.int p1.toUInt32.toUInt16.toUInt32.toInt32), (.ref (own_k (f1 p0) a_CHARACTER a_ESCAPE a_ENTER a_UP a_DOWN a_LEFT a_RIGHT)), (.ref b64), (.ref b64)])) rfl (by rw [hml]; rfl) (Steps.refl _) (a := b64) (argsL := [(.ref (own_k (f1 p0) a_CHARACTER a_ESCAPE a_ENTER a_UP a_DOWN a_LEFT a_RIGHT)), (.int p1.toUInt32.toUInt16.toUInt32.toInt32)]) (rest := [(.ref b64)]) (lenOf pd_4 rfl) rfl (by show 2 * 0 + _ ≤ _; exact Nat.le_of_eq rfl) (hb hby at_55) (fun _ _ => ⟨rfl, hh65, (by decide : 1 + 0 ≤ _), (by decide : 2 + 0 ≤ _)⟩)
    dsimp only [Pt.U, Pt.locs, Pt.cells, Pt.slots] at X66 l66 y66 z66 st66 hQ66
    subst l66 y66 z66
    obtain ⟨rfl, Nq66, Kq66, fq66_0, fq66_1, fq66_2⟩ := hQ66
    have N66 := Fr.app N65 Nq66
    have S_CHARACTER := own_sta_keep S_CHARACTER Kq66 (allS E_b64.cell all0)
    have S_ENTER := own_sta_keep S_ENTER Kq66 (allS E_b64.cell all0)
    have S_UP := own_sta_keep S_UP Kq66 (allS E_b64.cell all0)
    have S_LEFT := own_sta_keep S_LEFT Kq66 (allS E_b64.cell all0)
    have S_ESCAPE := own_sta_keep S_ESCAPE Kq66 (allS E_b64.cell all0)
    have S_DOWN := own_sta_keep S_DOWN Kq66 (allS E_b64.cell all0)
    have S_RIGHT := own_sta_keep S_RIGHT Kq66 (allS E_b64.cell all0)
    have S_high := own_sta_keep S_high Kq66 (allS E_b64.cell all0)
    have S_cache := own_sta_keep S_cache Kq66 (allS E_b64.cell all0)
    have E_a_CHARACTER := E_a_CHARACTER.keep Kq66
    have E_a_ENTER := E_a_ENTER.keep Kq66
    have E_a_UP := E_a_UP.keep Kq66
    have E_a_LEFT := E_a_LEFT.keep Kq66
    have E_a_ESCAPE := E_a_ESCAPE.keep Kq66
    have E_a_DOWN := E_a_DOWN.keep Kq66
    have E_a_RIGHT := E_a_RIGHT.keep Kq66
    have F_ordinal_a_ENTER := F_ordinal_a_ENTER.keep Kq66 (ninS ne_a_ENTER_b64 nin0)
    have F_ordinal_a_CHARACTER := F_ordinal_a_CHARACTER.keep Kq66 (ninS ne_a_CHARACTER_b64 nin0)
    have F_ordinal_a_ESCAPE := F_ordinal_a_ESCAPE.keep Kq66 (ninS ne_a_ESCAPE_b64 nin0)
    have F_ordinal_a_UP := F_ordinal_a_UP.keep Kq66 (ninS ne_a_UP_b64 nin0)
    have F_ordinal_a_DOWN := F_ordinal_a_DOWN.keep Kq66 (ninS ne_a_DOWN_b64 nin0)
    have F_ordinal_a_LEFT := F_ordinal_a_LEFT.keep Kq66 (ninS ne_a_LEFT_b64 nin0)
    have F_ordinal_a_RIGHT := F_ordinal_a_RIGHT.keep Kq66 (ninS ne_a_RIGHT_b64 nin0)
    have old := old.keep Kq66 (allS g_b64 all0)
    have E_b64 := fq66_0
    have F_kind_b64 := fq66_1
    have F_character_b64 := fq66_2
    have K66 := K64.trans Kq66 (allS (Or.inr sz_b64) all0)
    refine Ends.step (fun _ k => st66.trans k) ?_
    show Ends p e below QQ (T66.setTop (mkF m 58 #[.val (.int p0), .val (.int p1), .val (.int p2), .val (.int p3), .val (.int p4), .val (.int (f1 p0)), .val (.int (f1 p0)), .val (.int p1.toUInt32.toUInt16.toUInt32.toInt32), .val (.int v42_3), .unset, .unset, .unset, .unset] [(.ref b64)]))
    refine Ends.step (fun _ k => XS.astore X66.here hx rfl (hb hby at_58) rfl rfl (l' := #[.val (.int p0), .val (.int p1), .val (.int p2), .val (.int p3), .val (.int p4), .val (.int (f1 p0)), .val (.int (f1 p0)), .val (.int p1.toUInt32.toUInt16.toUInt32.toInt32), .val (.int v42_3), .val (.ref b64), .unset, .unset, .unset]) rfl k) ?_
    show Ends p e below QQ (T66.setTop (mkF m 60 #[.val (.int p0), .val (.int p1), .val (.int p2), .val (.int p3), .val (.int p4), .val (.int (f1 p0)), .val (.int (f1 p0)), .val (.int p1.toUInt32.toUInt16.toUInt32.toInt32), .val (.int v42_3), .val (.ref b64), .unset, .unset, .unset] []))
    obtain ⟨T67, h67, X67, e67, E67, A67, D67, U67, st67⟩ := newO X66 hx hZ hown (hw _ (List.mem_of_getElem? (i := 5) rfl)) (hw _ (List.mem_of_getElem? (i := 6) rfl)) (hw _ (List.mem_of_getElem? (i := 7) rfl)) rfl (g := (mkF m 60 #[.val (.int p0), .val (.int p1), .val (.int p2), .val (.int p3), .val (.int p4), .val (.int (f1 p0)), .val (.int (f1 p0)), .val (.int p1.toUInt32.toUInt16.toUInt32.toInt32), .val (.int v42_3), .val (.ref b64), .unset, .unset, .unset] [])) rfl (hb hby at_60) (by decide) (by decide)
    obtain ⟨b67, g67⟩ : ∃ z, z = T66.heap.size := ⟨_, rfl⟩
    rw [← g67] at A67 D67 U67 st67
    have ne_a_CHARACTER_b67 : a_CHARACTER ≠ b67 := Nat.ne_of_lt (Nat.lt_of_lt_of_le E_a_CHARACTER.lt (Nat.le_of_eq g67.symm))
    have ne_a_ENTER_b67 : a_ENTER ≠ b67 := Nat.ne_of_lt (Nat.lt_of_lt_of_le E_a_ENTER.lt (Nat.le_of_eq g67.symm))
    have ne_a_UP_b67 : a_UP ≠ b67 := Nat.ne_of_lt (Nat.lt_of_lt_of_le E_a_UP.lt (Nat.le_of_eq g67.symm))
    have ne_a_LEFT_b67 : a_LEFT ≠ b67 := Nat.ne_of_lt (Nat.lt_of_lt_of_le E_a_LEFT.lt (Nat.le_of_eq g67.symm))
    have ne_a_ESCAPE_b67 : a_ESCAPE ≠ b67 := Nat.ne_of_lt (Nat.lt_of_lt_of_le E_a_ESCAPE.lt (Nat.le_of_eq g67.symm))
    have ne_a_DOWN_b67 : a_DOWN ≠ b67 := Nat.ne_of_lt (Nat.lt_of_lt_of_le E_a_DOWN.lt (Nat.le_of_eq g67.symm))
    have ne_a_RIGHT_b67 : a_RIGHT ≠ b67 := Nat.ne_of_lt (Nat.lt_of_lt_of_le E_a_RIGHT.lt (Nat.le_of_eq g67.symm))
    have ne_b64_b67 : b64 ≠ b67 := Nat.ne_of_lt (Nat.lt_of_lt_of_le E_b64.lt (Nat.le_of_eq g67.symm))
    have g_b67 : n0 ≤ b67 := Nat.le_trans Z0 (Nat.le_trans K66.1 (Nat.le_of_eq g67.symm))
    have sz_b67 : h0.size ≤ b67 := Nat.le_trans K66.1 (Nat.le_of_eq g67.symm)
    have E_a_CHARACTER := E_a_CHARACTER.ext E67
    have E_a_ENTER := E_a_ENTER.ext E67
    have E_a_UP := E_a_UP.ext E67
    have E_a_LEFT := E_a_LEFT.ext E67
    have E_a_ESCAPE := E_a_ESCAPE.ext E67
    have E_a_DOWN := E_a_DOWN.ext E67
    have E_a_RIGHT := E_a_RIGHT.ext E67
    have F_ordinal_a_ENTER := F_ordinal_a_ENTER.ext E67
    have F_ordinal_a_CHARACTER := F_ordinal_a_CHARACTER.ext E67
    have F_ordinal_a_ESCAPE := F_ordinal_a_ESCAPE.ext E67
    have F_ordinal_a_UP := F_ordinal_a_UP.ext E67
    have F_ordinal_a_DOWN := F_ordinal_a_DOWN.ext E67
    have F_ordinal_a_LEFT := F_ordinal_a_LEFT.ext E67
    have F_ordinal_a_RIGHT := F_ordinal_a_RIGHT.ext E67
    have S_CHARACTER := S_CHARACTER.ext E67
    have S_ENTER := S_ENTER.ext E67
    have S_UP := S_UP.ext E67
    have S_LEFT := S_LEFT.ext E67
    have S_ESCAPE := S_ESCAPE.ext E67
    have S_DOWN := S_DOWN.ext E67
    have S_RIGHT := S_RIGHT.ext E67
    have S_high := S_high.ext E67
    have S_cache := S_cache.ext E67
    have old := old.ext E67
    have E_b64 := E_b64.ext E67
    have F_kind_b64 := F_kind_b64.ext E67
    have F_character_b64 := F_character_b64.ext E67
    have K67 := K66.ext E67
    have E_b67 := A67
    have F_kind_b67 : Fld Z h67 b67 "com/example/glyphdelve/glyphdelve/cli/Key" "kind" "Lcom/example/glyphdelve/glyphdelve/cli/Key$Kind;" .null := D67 (Or.inr (hw _ (List.mem_of_getElem? (i := 26) rfl))) (ty := (.object "com/example/glyphdelve/glyphdelve/cli/Key$Kind")) (by decide)
    have F_character_b67 : Fld Z h67 b67 "com/example/glyphdelve/glyphdelve/cli/Key" "character" "C" (.int (0 : Int32)) := D67 (Or.inr (hw _ (List.mem_of_getElem? (i := 28) rfl))) (ty := .char) (by decide)
    refine Ends.step st67 ?_
    show Ends p e below QQ (T67.setTop (mkF m 63 #[.val (.int p0), .val (.int p1), .val (.int p2), .val (.int p3), .val (.int p4), .val (.int (f1 p0)), .val (.int (f1 p0)), .val (.int p1.toUInt32.toUInt16.toUInt32.toInt32), .val (.int v42_3), .val (.ref b64), .unset, .unset, .unset] [(.ref b67)]))
    refine Ends.step (fun _ k => XS.dup X67.here hx rfl (hb hby at_63) rfl rfl k) ?_
    show Ends p e below QQ (T67.setTop (mkF m 64 #[.val (.int p0), .val (.int p1), .val (.int p2), .val (.int p3), .val (.int p4), .val (.int (f1 p0)), .val (.int (f1 p0)), .val (.int p1.toUInt32.toUInt16.toUInt32.toInt32), .val (.int v42_3), .val (.ref b64), .unset, .unset, .unset] [(.ref b67), (.ref b67)]))
    refine Ends.step (fun _ k => XS.iload X67.here hx rfl (hb hby at_64) rfl k) ?_
    show Ends p e below QQ (T67.setTop (mkF m 66 #[.val (.int p0), .val (.int p1), .val (.int p2), .val (.int p3), .val (.int p4), .val (.int (f1 p0)), .val (.int (f1 p0)), .val (.int p1.toUInt32.toUInt16.toUInt32.toInt32), .val (.int v42_3), .val (.ref b64), .unset, .unset, .unset] [(.int (f1 p0)), (.ref b67), (.ref b67)]))
    obtain ⟨_, _, ⟨T68, L68, k68, n68⟩, -, X68, ⟨Lc68, hQ68, l68, y68, z68⟩, st68⟩ := Jvm.LawKit.callS X67 hx (y := (⟨"com/example/glyphdelve/glyphdelve/cli/KeyEqualsPinLaw", "kind", "(I)Lcom/example/glyphdelve/glyphdelve/cli/Key$Kind;"⟩ : MethodName)) hown (mvT hZ (hw _ (List.mem_of_getElem? (i := 8) rfl))) (mvT hZ (hw _ (List.mem_of_getElem? (i := 9) rfl))) (mvT hZ (hw _ (List.mem_of_getElem? (i := 2) rfl))) (mvT hZ (hw _ (List.mem_of_getElem? (i := 10) rfl))) (by decide) (backOf (W := 2) (rm2 l Z a0 hw [] (f1 p0) a_CHARACTER a_ESCAPE a_ENTER a_UP a_DOWN a_LEFT a_RIGHT h67 n0 (Nat.le_trans Z0 K67.1) S_CHARACTER S_ENTER S_UP S_LEFT S_ESCAPE S_DOWN S_RIGHT) hZ (hw _ (List.mem_of_getElem? (i := 10) rfl)) (hw _ (List.mem_of_getElem? (i := 2) rfl)) (by decide) (by decide)) (g := (mkF m 66 #[.val (.int p0), .val (.int p1), .val (.int p2), .val (.int p3), .val (.int p4), .val (.int (f1 p0)), .val (.int (f1 p0)), .val (.int p1.toUInt32.toUInt16.toUInt32.toInt32), .val (.int v42_3), .val (.ref b64), .unset, .unset, .unset] [(.int (f1 p0)), (.ref b67), (.ref b67)])) rfl (by rw [hml]; rfl) (argsL := [(.int (f1 p0))]) (rest := [(.ref b67), (.ref b67)]) (lenOf pd_3 rfl) rfl (by show 2 * 0 + _ ≤ _; exact Nat.le_of_eq rfl) (hb hby at_66) (fun _ _ => ⟨rfl, e67, (by decide : 2 + 0 ≤ _), (by decide : 4 + 0 ≤ _)⟩)
    dsimp only [Pt.U, Pt.locs, Pt.cells, Pt.slots] at X68 l68 y68 z68 st68 hQ68
    subst l68 y68 z68
    obtain ⟨rfl, Nq68, hh68⟩ := hQ68
    have N68 := Fr.app N66 Nq68
    refine Ends.step st68 ?_
    show Ends p e below QQ (T68.setTop (mkF m 69 #[.val (.int p0), .val (.int p1), .val (.int p2), .val (.int p3), .val (.int p4), .val (.int (f1 p0)), .val (.int (f1 p0)), .val (.int p1.toUInt32.toUInt16.toUInt32.toInt32), .val (.int v42_3), .val (.ref b64), .unset, .unset, .unset] [(.ref (own_k (f1 p0) a_CHARACTER a_ESCAPE a_ENTER a_UP a_DOWN a_LEFT a_RIGHT)), (.ref b67), (.ref b67)]))
    refine Ends.step (fun _ k => XS.iload X68.here hx rfl (hb hby at_69) rfl k) ?_
    show Ends p e below QQ (T68.setTop (mkF m 71 #[.val (.int p0), .val (.int p1), .val (.int p2), .val (.int p3), .val (.int p4), .val (.int (f1 p0)), .val (.int (f1 p0)), .val (.int p1.toUInt32.toUInt16.toUInt32.toInt32), .val (.int v42_3), .val (.ref b64), .unset, .unset, .unset] [(.int v42_3), (.ref (own_k (f1 p0) a_CHARACTER a_ESCAPE a_ENTER a_UP a_DOWN a_LEFT a_RIGHT)), (.ref b67), (.ref b67)]))
    obtain ⟨_, _, ⟨T69, L69, k69, n69⟩, -, X69, ⟨Lc69, hQ69, l69, y69, z69⟩, st69⟩ := X68.specialBack hx (y := (⟨"com/example/glyphdelve/glyphdelve/cli/Key", "<init>", "(Lcom/example/glyphdelve/glyphdelve/cli/Key$Kind;C)V"⟩ : MethodName)) rfl hown (mvT hZ (hw _ (List.mem_of_getElem? (i := 14) rfl))) (mvT hZ (hw _ (List.mem_of_getElem? (i := 15) rfl))) (mvT hZ (hw _ (List.mem_of_getElem? (i := 16) rfl))) (by decide) (backOf (W := 1) (rm3 l Z a0 hw [] b67 (own_k (f1 p0) a_CHARACTER a_ESCAPE a_ENTER a_UP a_DOWN a_LEFT a_RIGHT) v42_3 (.null : Value) (0 : Int32) h67 n0 (Nat.le_trans Z0 K67.1) E_b67 F_kind_b67 F_character_b67 g_b67 (by rw [hv42_3]; split <;> exact own_narc _)) hZ (hw _ (List.mem_of_getElem? (i := 16) rfl)) (hw _ (List.mem_of_getElem? (i := 7) rfl)) (by decide) (by decide)) (g := (mkF m 71 #[.val (.int p0), .val (.int p1), .val (.int p2), .val (.int p3), .val (.int p4), .val (.int (f1 p0)), .val (.int (f1 p0)), .val (.int p1.toUInt32.toUInt16.toUInt32.toInt32), .val (.int v42_3), .val (.ref b64), .unset, .unset, .unset] [(.int v42_3), (.ref (own_k (f1 p0) a_CHARACTER a_ESCAPE a_ENTER a_UP a_DOWN a_LEFT a_RIGHT)), (.ref b67), (.ref b67)])) rfl (by rw [hml]; rfl) (Steps.refl _) (a := b67) (argsL := [(.ref (own_k (f1 p0) a_CHARACTER a_ESCAPE a_ENTER a_UP a_DOWN a_LEFT a_RIGHT)), (.int v42_3)]) (rest := [(.ref b67)]) (lenOf pd_4 rfl) rfl (by show 2 * 0 + _ ≤ _; exact Nat.le_of_eq rfl) (hb hby at_71) (fun _ _ => ⟨rfl, hh68, (by decide : 2 + 0 ≤ _), (by decide : 4 + 0 ≤ _)⟩)
    dsimp only [Pt.U, Pt.locs, Pt.cells, Pt.slots] at X69 l69 y69 z69 st69 hQ69
    subst l69 y69 z69
    obtain ⟨rfl, Nq69, Kq69, fq69_0, fq69_1, fq69_2⟩ := hQ69
    have N69 := Fr.app N68 Nq69
    have S_CHARACTER := own_sta_keep S_CHARACTER Kq69 (allS E_b67.cell all0)
    have S_ENTER := own_sta_keep S_ENTER Kq69 (allS E_b67.cell all0)
    have S_UP := own_sta_keep S_UP Kq69 (allS E_b67.cell all0)
    have S_LEFT := own_sta_keep S_LEFT Kq69 (allS E_b67.cell all0)
    have S_ESCAPE := own_sta_keep S_ESCAPE Kq69 (allS E_b67.cell all0)
    have S_DOWN := own_sta_keep S_DOWN Kq69 (allS E_b67.cell all0)
    have S_RIGHT := own_sta_keep S_RIGHT Kq69 (allS E_b67.cell all0)
    have S_high := own_sta_keep S_high Kq69 (allS E_b67.cell all0)
    have S_cache := own_sta_keep S_cache Kq69 (allS E_b67.cell all0)
    have E_a_CHARACTER := E_a_CHARACTER.keep Kq69
    have E_a_ENTER := E_a_ENTER.keep Kq69
    have E_a_UP := E_a_UP.keep Kq69
    have E_a_LEFT := E_a_LEFT.keep Kq69
    have E_a_ESCAPE := E_a_ESCAPE.keep Kq69
    have E_a_DOWN := E_a_DOWN.keep Kq69
    have E_a_RIGHT := E_a_RIGHT.keep Kq69
    have F_ordinal_a_ENTER := F_ordinal_a_ENTER.keep Kq69 (ninS ne_a_ENTER_b67 nin0)
    have F_ordinal_a_CHARACTER := F_ordinal_a_CHARACTER.keep Kq69 (ninS ne_a_CHARACTER_b67 nin0)
    have F_ordinal_a_ESCAPE := F_ordinal_a_ESCAPE.keep Kq69 (ninS ne_a_ESCAPE_b67 nin0)
    have F_ordinal_a_UP := F_ordinal_a_UP.keep Kq69 (ninS ne_a_UP_b67 nin0)
    have F_ordinal_a_DOWN := F_ordinal_a_DOWN.keep Kq69 (ninS ne_a_DOWN_b67 nin0)
    have F_ordinal_a_LEFT := F_ordinal_a_LEFT.keep Kq69 (ninS ne_a_LEFT_b67 nin0)
    have F_ordinal_a_RIGHT := F_ordinal_a_RIGHT.keep Kq69 (ninS ne_a_RIGHT_b67 nin0)
    have old := old.keep Kq69 (allS g_b67 all0)
    have E_b64 := E_b64.keep Kq69
    have F_kind_b64 := F_kind_b64.keep Kq69 (ninS ne_b64_b67 nin0)
    have F_character_b64 := F_character_b64.keep Kq69 (ninS ne_b64_b67 nin0)
    have E_b67 := fq69_0
    have F_kind_b67 := fq69_1
    have F_character_b67 := fq69_2
    have K69 := K67.trans Kq69 (allS (Or.inr sz_b67) all0)
    refine Ends.step (fun _ k => st69.trans k) ?_
    show Ends p e below QQ (T69.setTop (mkF m 74 #[.val (.int p0), .val (.int p1), .val (.int p2), .val (.int p3), .val (.int p4), .val (.int (f1 p0)), .val (.int (f1 p0)), .val (.int p1.toUInt32.toUInt16.toUInt32.toInt32), .val (.int v42_3), .val (.ref b64), .unset, .unset, .unset] [(.ref b67)]))
    refine Ends.step (fun _ k => XS.astore X69.here hx rfl (hb hby at_74) rfl rfl (l' := #[.val (.int p0), .val (.int p1), .val (.int p2), .val (.int p3), .val (.int p4), .val (.int (f1 p0)), .val (.int (f1 p0)), .val (.int p1.toUInt32.toUInt16.toUInt32.toInt32), .val (.int v42_3), .val (.ref b64), .val (.ref b67), .unset, .unset]) rfl k) ?_
    show Ends p e below QQ (T69.setTop (mkF m 76 #[.val (.int p0), .val (.int p1), .val (.int p2), .val (.int p3), .val (.int p4), .val (.int (f1 p0)), .val (.int (f1 p0)), .val (.int p1.toUInt32.toUInt16.toUInt32.toInt32), .val (.int v42_3), .val (.ref b64), .val (.ref b67), .unset, .unset] []))
    refine Ends.step (fun _ k => XS.iload X69.here hx rfl (hb hby at_76) rfl k) ?_
    show Ends p e below QQ (T69.setTop (mkF m 78 #[.val (.int p0), .val (.int p1), .val (.int p2), .val (.int p3), .val (.int p4), .val (.int (f1 p0)), .val (.int (f1 p0)), .val (.int p1.toUInt32.toUInt16.toUInt32.toInt32), .val (.int v42_3), .val (.ref b64), .val (.ref b67), .unset, .unset] [(.int (f1 p0))]))
    refine Ends.step (fun _ k => XS.iload X69.here hx rfl (hb hby at_78) rfl k) ?_
    show Ends p e below QQ (T69.setTop (mkF m 80 #[.val (.int p0), .val (.int p1), .val (.int p2), .val (.int p3), .val (.int p4), .val (.int (f1 p0)), .val (.int (f1 p0)), .val (.int p1.toUInt32.toUInt16.toUInt32.toInt32), .val (.int v42_3), .val (.ref b64), .val (.ref b67), .unset, .unset] [(.int (f1 p0)), (.int (f1 p0))]))
    refine Ends.step (fun _ k => XS.icmpNo X69.here hx rfl (hb hby at_80) rfl (XT.ii_ne_f rfl) k) ?_
    show Ends p e below QQ (T69.setTop (mkF m 83 #[.val (.int p0), .val (.int p1), .val (.int p2), .val (.int p3), .val (.int p4), .val (.int (f1 p0)), .val (.int (f1 p0)), .val (.int p1.toUInt32.toUInt16.toUInt32.toInt32), .val (.int v42_3), .val (.ref b64), .val (.ref b67), .unset, .unset] []))
    refine Ends.step (fun _ k => XS.iload X69.here hx rfl (hb hby at_83) rfl k) ?_
    show Ends p e below QQ (T69.setTop (mkF m 85 #[.val (.int p0), .val (.int p1), .val (.int p2), .val (.int p3), .val (.int p4), .val (.int (f1 p0)), .val (.int (f1 p0)), .val (.int p1.toUInt32.toUInt16.toUInt32.toInt32), .val (.int v42_3), .val (.ref b64), .val (.ref b67), .unset, .unset] [(.int p1.toUInt32.toUInt16.toUInt32.toInt32)]))
    refine Ends.step (fun _ k => XS.iload X69.here hx rfl (hb hby at_85) rfl k) ?_
    show Ends p e below QQ (T69.setTop (mkF m 87 #[.val (.int p0), .val (.int p1), .val (.int p2), .val (.int p3), .val (.int p4), .val (.int (f1 p0)), .val (.int (f1 p0)), .val (.int p1.toUInt32.toUInt16.toUInt32.toInt32), .val (.int v42_3), .val (.ref b64), .val (.ref b67), .unset, .unset] [(.int v42_3), (.int p1.toUInt32.toUInt16.toUInt32.toInt32)]))
    have J95_70 : (∀ (v95_4 : Int32) (hv95_4 : v95_4 = (if p1.toUInt32.toUInt16.toUInt32.toInt32 = v42_3 then (1 : Int32) else (0 : Int32))), Ends p e below QQ (T69.setTop (mkF m 95 #[.val (.int p0), .val (.int p1), .val (.int p2), .val (.int p3), .val (.int p4), .val (.int (f1 p0)), .val (.int (f1 p0)), .val (.int p1.toUInt32.toUInt16.toUInt32.toInt32), .val (.int v42_3), .val (.ref b64), .val (.ref b67), .unset, .unset] [(.int v95_4)]))) → Ends p e below QQ (T69.setTop (mkF m 87 #[.val (.int p0), .val (.int p1), .val (.int p2), .val (.int p3), .val (.int p4), .val (.int (f1 p0)), .val (.int (f1 p0)), .val (.int p1.toUInt32.toUInt16.toUInt32.toInt32), .val (.int v42_3), .val (.ref b64), .val (.ref b67), .unset, .unset] [(.int v42_3), (.int p1.toUInt32.toUInt16.toUInt32.toInt32)])) := by
      intro hJ
      by_cases hc87_71 : p1.toUInt32.toUInt16.toUInt32.toInt32 = v42_3
      · refine Ends.step (fun _ k => XS.icmpNo X69.here hx rfl (hb hby at_87) rfl (XT.ii_ne_f hc87_71) k) ?_
        show Ends p e below QQ (T69.setTop (mkF m 90 #[.val (.int p0), .val (.int p1), .val (.int p2), .val (.int p3), .val (.int p4), .val (.int (f1 p0)), .val (.int (f1 p0)), .val (.int p1.toUInt32.toUInt16.toUInt32.toInt32), .val (.int v42_3), .val (.ref b64), .val (.ref b67), .unset, .unset] []))
        refine Ends.step (fun _ k => XT.iconstV X69.here hx rfl (1 : Int32) (hb hby at_90) rfl k) ?_
        show Ends p e below QQ (T69.setTop (mkF m 91 #[.val (.int p0), .val (.int p1), .val (.int p2), .val (.int p3), .val (.int p4), .val (.int (f1 p0)), .val (.int (f1 p0)), .val (.int p1.toUInt32.toUInt16.toUInt32.toInt32), .val (.int v42_3), .val (.ref b64), .val (.ref b67), .unset, .unset] [(.int (1 : Int32))]))
        refine Ends.step (fun _ k => XS.goto X69.here hx rfl (pc0 := 91) (pc' := 95) rfl (hb hby at_91) (by decide) (by decide) k) ?_
        exact hJ _ (by simp only [if_pos hc87_71])
      · refine Ends.step (fun _ k => XS.icmpYes X69.here hx rfl (pc0 := 87) (pc' := 94) rfl (hb hby at_87) rfl (XT.ii_ne_t hc87_71) (by decide) (by decide) k) ?_
        show Ends p e below QQ (T69.setTop (mkF m 94 #[.val (.int p0), .val (.int p1), .val (.int p2), .val (.int p3), .val (.int p4), .val (.int (f1 p0)), .val (.int (f1 p0)), .val (.int p1.toUInt32.toUInt16.toUInt32.toInt32), .val (.int v42_3), .val (.ref b64), .val (.ref b67), .unset, .unset] []))
        refine Ends.step (fun _ k => XT.iconstV X69.here hx rfl (0 : Int32) (hb hby at_94) rfl k) ?_
        exact hJ _ (by simp only [if_neg hc87_71])
    refine J95_70 fun v95_4 hv95_4 => ?_
    have dv95_4 : f0_v95_4 p0 p1 p2 p3 p4 a_CHARACTER a_ESCAPE a_ENTER a_UP a_DOWN a_LEFT a_RIGHT = v95_4 := by
      simp only [f0_v95_4, dv42_3]
      exact hv95_4.symm
    show Ends p e below QQ (T69.setTop (mkF m 95 #[.val (.int p0), .val (.int p1), .val (.int p2), .val (.int p3), .val (.int p4), .val (.int (f1 p0)), .val (.int (f1 p0)), .val (.int p1.toUInt32.toUInt16.toUInt32.toInt32), .val (.int v42_3), .val (.ref b64), .val (.ref b67), .unset, .unset] [(.int v95_4)]))
    refine Ends.step (fun _ k => XS.istore X69.here hx rfl (hb hby at_95) rfl (l' := #[.val (.int p0), .val (.int p1), .val (.int p2), .val (.int p3), .val (.int p4), .val (.int (f1 p0)), .val (.int (f1 p0)), .val (.int p1.toUInt32.toUInt16.toUInt32.toInt32), .val (.int v42_3), .val (.ref b64), .val (.ref b67), .val (.int v95_4), .unset]) rfl k) ?_
    show Ends p e below QQ (T69.setTop (mkF m 97 #[.val (.int p0), .val (.int p1), .val (.int p2), .val (.int p3), .val (.int p4), .val (.int (f1 p0)), .val (.int (f1 p0)), .val (.int p1.toUInt32.toUInt16.toUInt32.toInt32), .val (.int v42_3), .val (.ref b64), .val (.ref b67), .val (.int v95_4), .unset] []))
    refine Ends.step (fun _ k => XS.iloadN X69.here hx rfl (hb hby at_97) rfl k) ?_
    show Ends p e below QQ (T69.setTop (mkF m 98 #[.val (.int p0), .val (.int p1), .val (.int p2), .val (.int p3), .val (.int p4), .val (.int (f1 p0)), .val (.int (f1 p0)), .val (.int p1.toUInt32.toUInt16.toUInt32.toInt32), .val (.int v42_3), .val (.ref b64), .val (.ref b67), .val (.int v95_4), .unset] [(.int p1)]))
    obtain ⟨_, _, ⟨T72, L72, k72, n72⟩, -, X72, ⟨Lc72, hQ72, l72, y72, z72⟩, st72⟩ := Jvm.LawKit.callS X69 hx (y := (⟨"java/lang/Integer", "valueOf", "(I)Ljava/lang/Integer;"⟩ : MethodName)) hown (mvT hZ (hw _ (List.mem_of_getElem? (i := 31) rfl))) (mvT hZ (hw _ (List.mem_of_getElem? (i := 32) rfl))) (mvT hZ (hw _ (List.mem_of_getElem? (i := 33) rfl))) (mvT hZ (hw _ (List.mem_of_getElem? (i := 34) rfl))) (by decide) (backOf (W := 0) (rmvo l Z a0 hw [] p1 ac cc T69.heap n0 (Nat.le_trans Z0 K69.1) S_high S_cache hbx old) hZ (hw _ (List.mem_of_getElem? (i := 34) rfl)) (hw _ (List.mem_of_getElem? (i := 33) rfl)) (by decide) (by decide)) (g := (mkF m 98 #[.val (.int p0), .val (.int p1), .val (.int p2), .val (.int p3), .val (.int p4), .val (.int (f1 p0)), .val (.int (f1 p0)), .val (.int p1.toUInt32.toUInt16.toUInt32.toInt32), .val (.int v42_3), .val (.ref b64), .val (.ref b67), .val (.int v95_4), .unset] [(.int p1)])) rfl (by rw [hml]; rfl) (argsL := [(.int p1)]) (rest := []) (lenOf pd_5 rfl) rfl (by show 2 * 0 + _ ≤ _; exact Nat.le_of_eq rfl) (hb hby at_98) (fun _ _ => ⟨rfl, rfl, (by decide : 2 + 1 ≤ _), (by decide : 4 + 1 ≤ _)⟩)
    dsimp only [Pt.U, Pt.locs, Pt.cells, Pt.slots] at X72 l72 y72 z72 st72 hQ72
    subst l72 y72 z72
    obtain ⟨b_72, rfl, Nq72, Kq72, fq72_0⟩ := hQ72
    have N72 := Fr.app N69 Nq72
    have S_CHARACTER := own_sta_keep S_CHARACTER Kq72 all0
    have S_ENTER := own_sta_keep S_ENTER Kq72 all0
    have S_UP := own_sta_keep S_UP Kq72 all0
    have S_LEFT := own_sta_keep S_LEFT Kq72 all0
    have S_ESCAPE := own_sta_keep S_ESCAPE Kq72 all0
    have S_DOWN := own_sta_keep S_DOWN Kq72 all0
    have S_RIGHT := own_sta_keep S_RIGHT Kq72 all0
    have S_high := own_sta_keep S_high Kq72 all0
    have S_cache := own_sta_keep S_cache Kq72 all0
    have E_a_CHARACTER := E_a_CHARACTER.keep Kq72
    have E_a_ENTER := E_a_ENTER.keep Kq72
    have E_a_UP := E_a_UP.keep Kq72
    have E_a_LEFT := E_a_LEFT.keep Kq72
    have E_a_ESCAPE := E_a_ESCAPE.keep Kq72
    have E_a_DOWN := E_a_DOWN.keep Kq72
    have E_a_RIGHT := E_a_RIGHT.keep Kq72
    have F_ordinal_a_ENTER := F_ordinal_a_ENTER.keep Kq72 nin0
    have F_ordinal_a_CHARACTER := F_ordinal_a_CHARACTER.keep Kq72 nin0
    have F_ordinal_a_ESCAPE := F_ordinal_a_ESCAPE.keep Kq72 nin0
    have F_ordinal_a_UP := F_ordinal_a_UP.keep Kq72 nin0
    have F_ordinal_a_DOWN := F_ordinal_a_DOWN.keep Kq72 nin0
    have F_ordinal_a_LEFT := F_ordinal_a_LEFT.keep Kq72 nin0
    have F_ordinal_a_RIGHT := F_ordinal_a_RIGHT.keep Kq72 nin0
    have old := old.keep Kq72 all0
    have E_b64 := E_b64.keep Kq72
    have F_kind_b64 := F_kind_b64.keep Kq72 nin0
    have F_character_b64 := F_character_b64.keep Kq72 nin0
    have E_b67 := E_b67.keep Kq72
    have F_kind_b67 := F_kind_b67.keep Kq72 nin0
    have F_character_b67 := F_character_b67.keep Kq72 nin0
    have E_b_72 := fq72_0
    have K72 := K69.trans Kq72 all0
    refine Ends.step st72 ?_
    show Ends p e below QQ (T72.setTop (mkF m 101 #[.val (.int p0), .val (.int p1), .val (.int p2), .val (.int p3), .val (.int p4), .val (.int (f1 p0)), .val (.int (f1 p0)), .val (.int p1.toUInt32.toUInt16.toUInt32.toInt32), .val (.int v42_3), .val (.ref b64), .val (.ref b67), .val (.int v95_4), .unset] [(.ref b_72)]))
    refine Ends.step (fun _ k => XS.astore X72.here hx rfl (hb hby at_101) rfl rfl (l' := #[.val (.int p0), .val (.int p1), .val (.int p2), .val (.int p3), .val (.int p4), .val (.int (f1 p0)), .val (.int (f1 p0)), .val (.int p1.toUInt32.toUInt16.toUInt32.toInt32), .val (.int v42_3), .val (.ref b64), .val (.ref b67), .val (.int v95_4), .val (.ref b_72)]) rfl k) ?_
    show Ends p e below QQ (T72.setTop (mkF m 103 #[.val (.int p0), .val (.int p1), .val (.int p2), .val (.int p3), .val (.int p4), .val (.int (f1 p0)), .val (.int (f1 p0)), .val (.int p1.toUInt32.toUInt16.toUInt32.toInt32), .val (.int v42_3), .val (.ref b64), .val (.ref b67), .val (.int v95_4), .val (.ref b_72)] []))
    refine Ends.step (fun _ k => XS.aload X72.here hx rfl (hb hby at_103) rfl rfl k) ?_
    show Ends p e below QQ (T72.setTop (mkF m 105 #[.val (.int p0), .val (.int p1), .val (.int p2), .val (.int p3), .val (.int p4), .val (.int (f1 p0)), .val (.int (f1 p0)), .val (.int p1.toUInt32.toUInt16.toUInt32.toInt32), .val (.int v42_3), .val (.ref b64), .val (.ref b67), .val (.int v95_4), .val (.ref b_72)] [(.ref b64)]))
    refine Ends.step (fun _ k => XS.aload X72.here hx rfl (hb hby at_105) rfl rfl k) ?_
    show Ends p e below QQ (T72.setTop (mkF m 107 #[.val (.int p0), .val (.int p1), .val (.int p2), .val (.int p3), .val (.int p4), .val (.int (f1 p0)), .val (.int (f1 p0)), .val (.int p1.toUInt32.toUInt16.toUInt32.toInt32), .val (.int v42_3), .val (.ref b64), .val (.ref b67), .val (.int v95_4), .val (.ref b_72)] [(.ref b67), (.ref b64)]))
    obtain ⟨cq73, kq73, q73a, q73b, q73c⟩ := isOf hZ rfl E_b64
    obtain ⟨_, _, ⟨T73, L73, k73, n73⟩, -, X73, ⟨Lc73, hQ73, l73, y73, z73⟩, st73⟩ := X72.virtualBack hx (y := (⟨"com/example/glyphdelve/glyphdelve/cli/Key", "equals", "(Ljava/lang/Object;)Z"⟩ : MethodName)) (z := (⟨"com/example/glyphdelve/glyphdelve/cli/Key", "equals", "(Ljava/lang/Object;)Z"⟩ : MethodName)) hown (mvT hZ (hw _ (List.mem_of_getElem? (i := 38) rfl))) (mvT hZ (hw _ (List.mem_of_getElem? (i := 39) rfl))) (notFace_of_selects (args := #[]) (mvT hZ (hw _ (List.mem_of_getElem? (i := 41) rfl)))) (mvT hZ (hw _ (List.mem_of_getElem? (i := 41) rfl))) (mvT hZ (hw _ (List.mem_of_getElem? (i := 40) rfl))) (by decide) (backOf (W := 0) (rm7 l Z a0 hw [] b64 b67 (own_k (f1 p0) a_CHARACTER a_ESCAPE a_ENTER a_UP a_DOWN a_LEFT a_RIGHT) (p1.toUInt32.toUInt16.toUInt32.toInt32) (own_k (f1 p0) a_CHARACTER a_ESCAPE a_ENTER a_UP a_DOWN a_LEFT a_RIGHT) v42_3 T72.heap n0 (Nat.le_trans Z0 K72.1) F_kind_b64 F_character_b64 F_kind_b67 F_character_b67 E_b67) hZ (hw _ (List.mem_of_getElem? (i := 42) rfl)) (hw _ (List.mem_of_getElem? (i := 7) rfl)) (by decide) (by decide)) q73a q73c (g := (mkF m 107 #[.val (.int p0), .val (.int p1), .val (.int p2), .val (.int p3), .val (.int p4), .val (.int (f1 p0)), .val (.int (f1 p0)), .val (.int p1.toUInt32.toUInt16.toUInt32.toInt32), .val (.int v42_3), .val (.ref b64), .val (.ref b67), .val (.int v95_4), .val (.ref b_72)] [(.ref b67), (.ref b64)])) rfl (by rw [hml]; rfl) (Steps.refl _) (argsL := [(.ref b67)]) (rest := []) (lenOf pd_6 rfl) rfl (by show 2 * 0 + _ ≤ _; exact Nat.le_of_eq rfl) (hb hby at_107) (fun _ _ => ⟨rfl, rfl, (by decide : 3 + 0 ≤ _), (by decide : 5 + 0 ≤ _)⟩)
    dsimp only [Pt.U, Pt.locs, Pt.cells, Pt.slots] at X73 l73 y73 z73 st73 hQ73
    subst l73 y73 z73
    obtain ⟨rfl, Nq73, hh73⟩ := hQ73
    have N73 := Fr.app N72 Nq73
    refine Ends.step (fun _ k => st73.trans k) ?_
    show Ends p e below QQ (T73.setTop (mkF m 110 #[.val (.int p0), .val (.int p1), .val (.int p2), .val (.int p3), .val (.int p4), .val (.int (f1 p0)), .val (.int (f1 p0)), .val (.int p1.toUInt32.toUInt16.toUInt32.toInt32), .val (.int v42_3), .val (.ref b64), .val (.ref b67), .val (.int v95_4), .val (.ref b_72)] [(.int (f7 (own_k (f1 p0) a_CHARACTER a_ESCAPE a_ENTER a_UP a_DOWN a_LEFT a_RIGHT) p1.toUInt32.toUInt16.toUInt32.toInt32 (own_k (f1 p0) a_CHARACTER a_ESCAPE a_ENTER a_UP a_DOWN a_LEFT a_RIGHT) v42_3))]))
    refine Ends.step (fun _ k => XS.iload X73.here hx rfl (hb hby at_110) rfl k) ?_
    show Ends p e below QQ (T73.setTop (mkF m 112 #[.val (.int p0), .val (.int p1), .val (.int p2), .val (.int p3), .val (.int p4), .val (.int (f1 p0)), .val (.int (f1 p0)), .val (.int p1.toUInt32.toUInt16.toUInt32.toInt32), .val (.int v42_3), .val (.ref b64), .val (.ref b67), .val (.int v95_4), .val (.ref b_72)] [(.int v95_4), (.int (f7 (own_k (f1 p0) a_CHARACTER a_ESCAPE a_ENTER a_UP a_DOWN a_LEFT a_RIGHT) p1.toUInt32.toUInt16.toUInt32.toInt32 (own_k (f1 p0) a_CHARACTER a_ESCAPE a_ENTER a_UP a_DOWN a_LEFT a_RIGHT) v42_3))]))
    by_cases hc112_74 : (f7 (own_k (f1 p0) a_CHARACTER a_ESCAPE a_ENTER a_UP a_DOWN a_LEFT a_RIGHT) p1.toUInt32.toUInt16.toUInt32.toInt32 (own_k (f1 p0) a_CHARACTER a_ESCAPE a_ENTER a_UP a_DOWN a_LEFT a_RIGHT) v42_3) = v95_4
    · refine Ends.step (fun _ k => XS.icmpNo X73.here hx rfl (hb hby at_112) rfl (XT.ii_ne_f hc112_74) k) ?_
      show Ends p e below QQ (T73.setTop (mkF m 115 #[.val (.int p0), .val (.int p1), .val (.int p2), .val (.int p3), .val (.int p4), .val (.int (f1 p0)), .val (.int (f1 p0)), .val (.int p1.toUInt32.toUInt16.toUInt32.toInt32), .val (.int v42_3), .val (.ref b64), .val (.ref b67), .val (.int v95_4), .val (.ref b_72)] []))
      refine Ends.step (fun _ k => XS.aload X73.here hx rfl (hb hby at_115) rfl rfl k) ?_
      show Ends p e below QQ (T73.setTop (mkF m 117 #[.val (.int p0), .val (.int p1), .val (.int p2), .val (.int p3), .val (.int p4), .val (.int (f1 p0)), .val (.int (f1 p0)), .val (.int p1.toUInt32.toUInt16.toUInt32.toInt32), .val (.int v42_3), .val (.ref b64), .val (.ref b67), .val (.int v95_4), .val (.ref b_72)] [(.ref b67)]))
      refine Ends.step (fun _ k => XS.aload X73.here hx rfl (hb hby at_117) rfl rfl k) ?_
      show Ends p e below QQ (T73.setTop (mkF m 119 #[.val (.int p0), .val (.int p1), .val (.int p2), .val (.int p3), .val (.int p4), .val (.int (f1 p0)), .val (.int (f1 p0)), .val (.int p1.toUInt32.toUInt16.toUInt32.toInt32), .val (.int v42_3), .val (.ref b64), .val (.ref b67), .val (.int v95_4), .val (.ref b_72)] [(.ref b64), (.ref b67)]))
      obtain ⟨cq75, kq75, q75a, q75b, q75c⟩ := isOf hZ hh73 E_b67
      obtain ⟨_, _, ⟨T75, L75, k75, n75⟩, -, X75, ⟨Lc75, hQ75, l75, y75, z75⟩, st75⟩ := X73.virtualBack hx (y := (⟨"com/example/glyphdelve/glyphdelve/cli/Key", "equals", "(Ljava/lang/Object;)Z"⟩ : MethodName)) (z := (⟨"com/example/glyphdelve/glyphdelve/cli/Key", "equals", "(Ljava/lang/Object;)Z"⟩ : MethodName)) hown (mvT hZ (hw _ (List.mem_of_getElem? (i := 38) rfl))) (mvT hZ (hw _ (List.mem_of_getElem? (i := 39) rfl))) (notFace_of_selects (args := #[]) (mvT hZ (hw _ (List.mem_of_getElem? (i := 41) rfl)))) (mvT hZ (hw _ (List.mem_of_getElem? (i := 41) rfl))) (mvT hZ (hw _ (List.mem_of_getElem? (i := 40) rfl))) (by decide) (backOf (W := 0) (rm7 l Z a0 hw [] b67 b64 (own_k (f1 p0) a_CHARACTER a_ESCAPE a_ENTER a_UP a_DOWN a_LEFT a_RIGHT) v42_3 (own_k (f1 p0) a_CHARACTER a_ESCAPE a_ENTER a_UP a_DOWN a_LEFT a_RIGHT) (p1.toUInt32.toUInt16.toUInt32.toInt32) T72.heap n0 (Nat.le_trans Z0 K72.1) F_kind_b67 F_character_b67 F_kind_b64 F_character_b64 E_b64) hZ (hw _ (List.mem_of_getElem? (i := 42) rfl)) (hw _ (List.mem_of_getElem? (i := 7) rfl)) (by decide) (by decide)) q75a q75c (g := (mkF m 119 #[.val (.int p0), .val (.int p1), .val (.int p2), .val (.int p3), .val (.int p4), .val (.int (f1 p0)), .val (.int (f1 p0)), .val (.int p1.toUInt32.toUInt16.toUInt32.toInt32), .val (.int v42_3), .val (.ref b64), .val (.ref b67), .val (.int v95_4), .val (.ref b_72)] [(.ref b64), (.ref b67)])) rfl (by rw [hml]; rfl) (Steps.refl _) (argsL := [(.ref b64)]) (rest := []) (lenOf pd_6 rfl) rfl (by show 2 * 0 + _ ≤ _; exact Nat.le_of_eq rfl) (hb hby at_119) (fun _ _ => ⟨rfl, hh73, (by decide : 3 + 0 ≤ _), (by decide : 5 + 0 ≤ _)⟩)
      dsimp only [Pt.U, Pt.locs, Pt.cells, Pt.slots] at X75 l75 y75 z75 st75 hQ75
      subst l75 y75 z75
      obtain ⟨rfl, Nq75, hh75⟩ := hQ75
      have N75 := Fr.app N73 Nq75
      refine Ends.step (fun _ k => st75.trans k) ?_
      show Ends p e below QQ (T75.setTop (mkF m 122 #[.val (.int p0), .val (.int p1), .val (.int p2), .val (.int p3), .val (.int p4), .val (.int (f1 p0)), .val (.int (f1 p0)), .val (.int p1.toUInt32.toUInt16.toUInt32.toInt32), .val (.int v42_3), .val (.ref b64), .val (.ref b67), .val (.int v95_4), .val (.ref b_72)] [(.int (f7 (own_k (f1 p0) a_CHARACTER a_ESCAPE a_ENTER a_UP a_DOWN a_LEFT a_RIGHT) v42_3 (own_k (f1 p0) a_CHARACTER a_ESCAPE a_ENTER a_UP a_DOWN a_LEFT a_RIGHT) p1.toUInt32.toUInt16.toUInt32.toInt32))]))
      refine Ends.step (fun _ k => XS.iload X75.here hx rfl (hb hby at_122) rfl k) ?_
      show Ends p e below QQ (T75.setTop (mkF m 124 #[.val (.int p0), .val (.int p1), .val (.int p2), .val (.int p3), .val (.int p4), .val (.int (f1 p0)), .val (.int (f1 p0)), .val (.int p1.toUInt32.toUInt16.toUInt32.toInt32), .val (.int v42_3), .val (.ref b64), .val (.ref b67), .val (.int v95_4), .val (.ref b_72)] [(.int v95_4), (.int (f7 (own_k (f1 p0) a_CHARACTER a_ESCAPE a_ENTER a_UP a_DOWN a_LEFT a_RIGHT) v42_3 (own_k (f1 p0) a_CHARACTER a_ESCAPE a_ENTER a_UP a_DOWN a_LEFT a_RIGHT) p1.toUInt32.toUInt16.toUInt32.toInt32))]))
      by_cases hc124_76 : (f7 (own_k (f1 p0) a_CHARACTER a_ESCAPE a_ENTER a_UP a_DOWN a_LEFT a_RIGHT) v42_3 (own_k (f1 p0) a_CHARACTER a_ESCAPE a_ENTER a_UP a_DOWN a_LEFT a_RIGHT) p1.toUInt32.toUInt16.toUInt32.toInt32) = v95_4
      · refine Ends.step (fun _ k => XS.icmpNo X75.here hx rfl (hb hby at_124) rfl (XT.ii_ne_f hc124_76) k) ?_
        show Ends p e below QQ (T75.setTop (mkF m 127 #[.val (.int p0), .val (.int p1), .val (.int p2), .val (.int p3), .val (.int p4), .val (.int (f1 p0)), .val (.int (f1 p0)), .val (.int p1.toUInt32.toUInt16.toUInt32.toInt32), .val (.int v42_3), .val (.ref b64), .val (.ref b67), .val (.int v95_4), .val (.ref b_72)] []))
        refine Ends.step (fun _ k => XS.aload X75.here hx rfl (hb hby at_127) rfl rfl k) ?_
        show Ends p e below QQ (T75.setTop (mkF m 129 #[.val (.int p0), .val (.int p1), .val (.int p2), .val (.int p3), .val (.int p4), .val (.int (f1 p0)), .val (.int (f1 p0)), .val (.int p1.toUInt32.toUInt16.toUInt32.toInt32), .val (.int v42_3), .val (.ref b64), .val (.ref b67), .val (.int v95_4), .val (.ref b_72)] [(.ref b64)]))
        refine Ends.step (fun _ k => XS.aload X75.here hx rfl (hb hby at_129) rfl rfl k) ?_
        show Ends p e below QQ (T75.setTop (mkF m 131 #[.val (.int p0), .val (.int p1), .val (.int p2), .val (.int p3), .val (.int p4), .val (.int (f1 p0)), .val (.int (f1 p0)), .val (.int p1.toUInt32.toUInt16.toUInt32.toInt32), .val (.int v42_3), .val (.ref b64), .val (.ref b67), .val (.int v95_4), .val (.ref b_72)] [(.ref b64), (.ref b64)]))
        obtain ⟨cq77, kq77, q77a, q77b, q77c⟩ := isOf hZ hh75 E_b64
        obtain ⟨_, _, ⟨T77, L77, k77, n77⟩, -, X77, ⟨Lc77, hQ77, l77, y77, z77⟩, st77⟩ := X75.virtualBack hx (y := (⟨"com/example/glyphdelve/glyphdelve/cli/Key", "equals", "(Ljava/lang/Object;)Z"⟩ : MethodName)) (z := (⟨"com/example/glyphdelve/glyphdelve/cli/Key", "equals", "(Ljava/lang/Object;)Z"⟩ : MethodName)) hown (mvT hZ (hw _ (List.mem_of_getElem? (i := 38) rfl))) (mvT hZ (hw _ (List.mem_of_getElem? (i := 39) rfl))) (notFace_of_selects (args := #[]) (mvT hZ (hw _ (List.mem_of_getElem? (i := 41) rfl)))) (mvT hZ (hw _ (List.mem_of_getElem? (i := 41) rfl))) (mvT hZ (hw _ (List.mem_of_getElem? (i := 40) rfl))) (by decide) (backOf (W := 0) (rm7 l Z a0 hw [] b64 b64 (own_k (f1 p0) a_CHARACTER a_ESCAPE a_ENTER a_UP a_DOWN a_LEFT a_RIGHT) (p1.toUInt32.toUInt16.toUInt32.toInt32) (own_k (f1 p0) a_CHARACTER a_ESCAPE a_ENTER a_UP a_DOWN a_LEFT a_RIGHT) (p1.toUInt32.toUInt16.toUInt32.toInt32) T72.heap n0 (Nat.le_trans Z0 K72.1) F_kind_b64 F_character_b64 F_kind_b64 F_character_b64 E_b64) hZ (hw _ (List.mem_of_getElem? (i := 42) rfl)) (hw _ (List.mem_of_getElem? (i := 7) rfl)) (by decide) (by decide)) q77a q77c (g := (mkF m 131 #[.val (.int p0), .val (.int p1), .val (.int p2), .val (.int p3), .val (.int p4), .val (.int (f1 p0)), .val (.int (f1 p0)), .val (.int p1.toUInt32.toUInt16.toUInt32.toInt32), .val (.int v42_3), .val (.ref b64), .val (.ref b67), .val (.int v95_4), .val (.ref b_72)] [(.ref b64), (.ref b64)])) rfl (by rw [hml]; rfl) (Steps.refl _) (argsL := [(.ref b64)]) (rest := []) (lenOf pd_6 rfl) rfl (by show 2 * 0 + _ ≤ _; exact Nat.le_of_eq rfl) (hb hby at_131) (fun _ _ => ⟨rfl, hh75, (by decide : 3 + 0 ≤ _), (by decide : 5 + 0 ≤ _)⟩)
        dsimp only [Pt.U, Pt.locs, Pt.cells, Pt.slots] at X77 l77 y77 z77 st77 hQ77
        subst l77 y77 z77
        obtain ⟨rfl, Nq77, hh77⟩ := hQ77
        have N77 := Fr.app N75 Nq77
        refine Ends.step (fun _ k => st77.trans k) ?_
        show Ends p e below QQ (T77.setTop (mkF m 134 #[.val (.int p0), .val (.int p1), .val (.int p2), .val (.int p3), .val (.int p4), .val (.int (f1 p0)), .val (.int (f1 p0)), .val (.int p1.toUInt32.toUInt16.toUInt32.toInt32), .val (.int v42_3), .val (.ref b64), .val (.ref b67), .val (.int v95_4), .val (.ref b_72)] [(.int (f7 (own_k (f1 p0) a_CHARACTER a_ESCAPE a_ENTER a_UP a_DOWN a_LEFT a_RIGHT) p1.toUInt32.toUInt16.toUInt32.toInt32 (own_k (f1 p0) a_CHARACTER a_ESCAPE a_ENTER a_UP a_DOWN a_LEFT a_RIGHT) p1.toUInt32.toUInt16.toUInt32.toInt32))]))
        by_cases hc134_78 : (f7 (own_k (f1 p0) a_CHARACTER a_ESCAPE a_ENTER a_UP a_DOWN a_LEFT a_RIGHT) p1.toUInt32.toUInt16.toUInt32.toInt32 (own_k (f1 p0) a_CHARACTER a_ESCAPE a_ENTER a_UP a_DOWN a_LEFT a_RIGHT) p1.toUInt32.toUInt16.toUInt32.toInt32) = (0 : Int32)
        · refine Ends.step (fun _ k => XS.ifYes X77.here hx rfl (pc0 := 134) (pc' := 160) rfl (hb hby at_134) rfl (XT.i0_eq_t hc134_78) (by decide) (by decide) k) ?_
          show Ends p e below QQ (T77.setTop (mkF m 160 #[.val (.int p0), .val (.int p1), .val (.int p2), .val (.int p3), .val (.int p4), .val (.int (f1 p0)), .val (.int (f1 p0)), .val (.int p1.toUInt32.toUInt16.toUInt32.toInt32), .val (.int v42_3), .val (.ref b64), .val (.ref b67), .val (.int v95_4), .val (.ref b_72)] []))
          refine Ends.step (fun _ k => XT.iconstV X77.here hx rfl (0 : Int32) (hb hby at_160) rfl k) ?_
          show Ends p e below QQ (T77.setTop (mkF m 161 #[.val (.int p0), .val (.int p1), .val (.int p2), .val (.int p3), .val (.int p4), .val (.int (f1 p0)), .val (.int (f1 p0)), .val (.int p1.toUInt32.toUInt16.toUInt32.toInt32), .val (.int v42_3), .val (.ref b64), .val (.ref b67), .val (.int v95_4), .val (.ref b_72)] [(.int (0 : Int32))]))
          exact Ends.fin (some (.int (0 : Int32))) X77 hQQ (fun h => by rw [Bd.returns] at h; cases h) Bd.notSynchronized (fun _ hr => retOut X77 hx (t := .boolean) Bd.returns rfl (Or.inl ⟨rfl, (by simp), _, rfl⟩) (hb hby at_161) hr) hh77 (by decide) (by decide) ⟨(by simp only [f0, dv42_3, dv95_4, if_neg hc10_40, if_pos hc112_74, if_pos hc124_76, if_pos hc134_78]), N77, K72⟩
        · refine Ends.step (fun _ k => XS.ifNo X77.here hx rfl (hb hby at_134) rfl (XT.i0_eq_f hc134_78) k) ?_
          show Ends p e below QQ (T77.setTop (mkF m 137 #[.val (.int p0), .val (.int p1), .val (.int p2), .val (.int p3), .val (.int p4), .val (.int (f1 p0)), .val (.int (f1 p0)), .val (.int p1.toUInt32.toUInt16.toUInt32.toInt32), .val (.int v42_3), .val (.ref b64), .val (.ref b67), .val (.int v95_4), .val (.ref b_72)] []))
          refine Ends.step (fun _ k => XS.aload X77.here hx rfl (hb hby at_137) rfl rfl k) ?_
          show Ends p e below QQ (T77.setTop (mkF m 139 #[.val (.int p0), .val (.int p1), .val (.int p2), .val (.int p3), .val (.int p4), .val (.int (f1 p0)), .val (.int (f1 p0)), .val (.int p1.toUInt32.toUInt16.toUInt32.toInt32), .val (.int v42_3), .val (.ref b64), .val (.ref b67), .val (.int v95_4), .val (.ref b_72)] [(.ref b64)]))
          refine Ends.step (fun _ k => XS.aconstNull X77.here hx rfl (hb hby at_139) k) ?_
          show Ends p e below QQ (T77.setTop (mkF m 140 #[.val (.int p0), .val (.int p1), .val (.int p2), .val (.int p3), .val (.int p4), .val (.int (f1 p0)), .val (.int (f1 p0)), .val (.int p1.toUInt32.toUInt16.toUInt32.toInt32), .val (.int v42_3), .val (.ref b64), .val (.ref b67), .val (.int v95_4), .val (.ref b_72)] [.null, (.ref b64)]))
          obtain ⟨cq79, kq79, q79a, q79b, q79c⟩ := isOf hZ hh77 E_b64
          obtain ⟨_, _, ⟨T79, L79, k79, n79⟩, -, X79, ⟨Lc79, hQ79, l79, y79, z79⟩, st79⟩ := X77.virtualBack hx (y := (⟨"com/example/glyphdelve/glyphdelve/cli/Key", "equals", "(Ljava/lang/Object;)Z"⟩ : MethodName)) (z := (⟨"com/example/glyphdelve/glyphdelve/cli/Key", "equals", "(Ljava/lang/Object;)Z"⟩ : MethodName)) hown (mvT hZ (hw _ (List.mem_of_getElem? (i := 38) rfl))) (mvT hZ (hw _ (List.mem_of_getElem? (i := 39) rfl))) (notFace_of_selects (args := #[]) (mvT hZ (hw _ (List.mem_of_getElem? (i := 41) rfl)))) (mvT hZ (hw _ (List.mem_of_getElem? (i := 41) rfl))) (mvT hZ (hw _ (List.mem_of_getElem? (i := 40) rfl))) (by decide) (backOf (W := 0) (rm7n l Z a0 hw [] b64 T72.heap n0 (Nat.le_trans Z0 K72.1)) hZ (hw _ (List.mem_of_getElem? (i := 42) rfl)) (hw _ (List.mem_of_getElem? (i := 7) rfl)) (by decide) (by decide)) q79a q79c (g := (mkF m 140 #[.val (.int p0), .val (.int p1), .val (.int p2), .val (.int p3), .val (.int p4), .val (.int (f1 p0)), .val (.int (f1 p0)), .val (.int p1.toUInt32.toUInt16.toUInt32.toInt32), .val (.int v42_3), .val (.ref b64), .val (.ref b67), .val (.int v95_4), .val (.ref b_72)] [.null, (.ref b64)])) rfl (by rw [hml]; rfl) (Steps.refl _) (argsL := [.null]) (rest := []) (lenOf pd_6 rfl) rfl (by show 2 * 0 + _ ≤ _; exact Nat.le_of_eq rfl) (hb hby at_140) (fun _ _ => ⟨rfl, hh77, (by decide : 3 + 0 ≤ _), (by decide : 5 + 0 ≤ _)⟩)
          dsimp only [Pt.U, Pt.locs, Pt.cells, Pt.slots] at X79 l79 y79 z79 st79 hQ79
          subst l79 y79 z79
          obtain ⟨rfl, Nq79, hh79⟩ := hQ79
          have N79 := Fr.app N77 Nq79
          refine Ends.step (fun _ k => st79.trans k) ?_
          show Ends p e below QQ (T79.setTop (mkF m 143 #[.val (.int p0), .val (.int p1), .val (.int p2), .val (.int p3), .val (.int p4), .val (.int (f1 p0)), .val (.int (f1 p0)), .val (.int p1.toUInt32.toUInt16.toUInt32.toInt32), .val (.int v42_3), .val (.ref b64), .val (.ref b67), .val (.int v95_4), .val (.ref b_72)] [(.int (0 : Int32))]))
          refine Ends.step (fun _ k => XS.ifNo X79.here hx rfl (hb hby at_143) rfl (XT.i0_ne_f (by decide)) k) ?_
          show Ends p e below QQ (T79.setTop (mkF m 146 #[.val (.int p0), .val (.int p1), .val (.int p2), .val (.int p3), .val (.int p4), .val (.int (f1 p0)), .val (.int (f1 p0)), .val (.int p1.toUInt32.toUInt16.toUInt32.toInt32), .val (.int v42_3), .val (.ref b64), .val (.ref b67), .val (.int v95_4), .val (.ref b_72)] []))
          refine Ends.step (fun _ k => XS.aload X79.here hx rfl (hb hby at_146) rfl rfl k) ?_
          show Ends p e below QQ (T79.setTop (mkF m 148 #[.val (.int p0), .val (.int p1), .val (.int p2), .val (.int p3), .val (.int p4), .val (.int (f1 p0)), .val (.int (f1 p0)), .val (.int p1.toUInt32.toUInt16.toUInt32.toInt32), .val (.int v42_3), .val (.ref b64), .val (.ref b67), .val (.int v95_4), .val (.ref b_72)] [(.ref b64)]))
          refine Ends.step (fun _ k => XS.aload X79.here hx rfl (hb hby at_148) rfl rfl k) ?_
          show Ends p e below QQ (T79.setTop (mkF m 150 #[.val (.int p0), .val (.int p1), .val (.int p2), .val (.int p3), .val (.int p4), .val (.int (f1 p0)), .val (.int (f1 p0)), .val (.int p1.toUInt32.toUInt16.toUInt32.toInt32), .val (.int v42_3), .val (.ref b64), .val (.ref b67), .val (.int v95_4), .val (.ref b_72)] [(.ref b_72), (.ref b64)]))
          obtain ⟨cq80, kq80, q80a, q80b, q80c⟩ := isOf hZ hh79 E_b64
          obtain ⟨_, _, ⟨T80, L80, k80, n80⟩, -, X80, ⟨Lc80, hQ80, l80, y80, z80⟩, st80⟩ := X79.virtualBack hx (y := (⟨"com/example/glyphdelve/glyphdelve/cli/Key", "equals", "(Ljava/lang/Object;)Z"⟩ : MethodName)) (z := (⟨"com/example/glyphdelve/glyphdelve/cli/Key", "equals", "(Ljava/lang/Object;)Z"⟩ : MethodName)) hown (mvT hZ (hw _ (List.mem_of_getElem? (i := 38) rfl))) (mvT hZ (hw _ (List.mem_of_getElem? (i := 39) rfl))) (notFace_of_selects (args := #[]) (mvT hZ (hw _ (List.mem_of_getElem? (i := 41) rfl)))) (mvT hZ (hw _ (List.mem_of_getElem? (i := 41) rfl))) (mvT hZ (hw _ (List.mem_of_getElem? (i := 40) rfl))) (by decide) (backOf (W := 0) (rm7i l Z a0 hw [] b64 b_72 T72.heap n0 (Nat.le_trans Z0 K72.1) E_b_72) hZ (hw _ (List.mem_of_getElem? (i := 42) rfl)) (hw _ (List.mem_of_getElem? (i := 7) rfl)) (by decide) (by decide)) q80a q80c (g := (mkF m 150 #[.val (.int p0), .val (.int p1), .val (.int p2), .val (.int p3), .val (.int p4), .val (.int (f1 p0)), .val (.int (f1 p0)), .val (.int p1.toUInt32.toUInt16.toUInt32.toInt32), .val (.int v42_3), .val (.ref b64), .val (.ref b67), .val (.int v95_4), .val (.ref b_72)] [(.ref b_72), (.ref b64)])) rfl (by rw [hml]; rfl) (Steps.refl _) (argsL := [(.ref b_72)]) (rest := []) (lenOf pd_6 rfl) rfl (by show 2 * 0 + _ ≤ _; exact Nat.le_of_eq rfl) (hb hby at_150) (fun _ _ => ⟨rfl, hh79, (by decide : 3 + 0 ≤ _), (by decide : 5 + 0 ≤ _)⟩)
          dsimp only [Pt.U, Pt.locs, Pt.cells, Pt.slots] at X80 l80 y80 z80 st80 hQ80
          subst l80 y80 z80
          obtain ⟨rfl, Nq80, hh80⟩ := hQ80
          have N80 := Fr.app N79 Nq80
          refine Ends.step (fun _ k => st80.trans k) ?_
          show Ends p e below QQ (T80.setTop (mkF m 153 #[.val (.int p0), .val (.int p1), .val (.int p2), .val (.int p3), .val (.int p4), .val (.int (f1 p0)), .val (.int (f1 p0)), .val (.int p1.toUInt32.toUInt16.toUInt32.toInt32), .val (.int v42_3), .val (.ref b64), .val (.ref b67), .val (.int v95_4), .val (.ref b_72)] [(.int (0 : Int32))]))
          refine Ends.step (fun _ k => XS.ifNo X80.here hx rfl (hb hby at_153) rfl (XT.i0_ne_f (by decide)) k) ?_
          show Ends p e below QQ (T80.setTop (mkF m 156 #[.val (.int p0), .val (.int p1), .val (.int p2), .val (.int p3), .val (.int p4), .val (.int (f1 p0)), .val (.int (f1 p0)), .val (.int p1.toUInt32.toUInt16.toUInt32.toInt32), .val (.int v42_3), .val (.ref b64), .val (.ref b67), .val (.int v95_4), .val (.ref b_72)] []))
          refine Ends.step (fun _ k => XT.iconstV X80.here hx rfl (1 : Int32) (hb hby at_156) rfl k) ?_
          show Ends p e below QQ (T80.setTop (mkF m 157 #[.val (.int p0), .val (.int p1), .val (.int p2), .val (.int p3), .val (.int p4), .val (.int (f1 p0)), .val (.int (f1 p0)), .val (.int p1.toUInt32.toUInt16.toUInt32.toInt32), .val (.int v42_3), .val (.ref b64), .val (.ref b67), .val (.int v95_4), .val (.ref b_72)] [(.int (1 : Int32))]))
          refine Ends.step (fun _ k => XS.goto X80.here hx rfl (pc0 := 157) (pc' := 161) rfl (hb hby at_157) (by decide) (by decide) k) ?_
          show Ends p e below QQ (T80.setTop (mkF m 161 #[.val (.int p0), .val (.int p1), .val (.int p2), .val (.int p3), .val (.int p4), .val (.int (f1 p0)), .val (.int (f1 p0)), .val (.int p1.toUInt32.toUInt16.toUInt32.toInt32), .val (.int v42_3), .val (.ref b64), .val (.ref b67), .val (.int v95_4), .val (.ref b_72)] [(.int (1 : Int32))]))
          exact Ends.fin (some (.int (1 : Int32))) X80 hQQ (fun h => by rw [Bd.returns] at h; cases h) Bd.notSynchronized (fun _ hr => retOut X80 hx (t := .boolean) Bd.returns rfl (Or.inl ⟨rfl, (by simp), _, rfl⟩) (hb hby at_161) hr) hh80 (by decide) (by decide) ⟨(by simp only [f0, dv42_3, dv95_4, if_neg hc10_40, if_pos hc112_74, if_pos hc124_76, if_neg hc134_78]), N80, K72⟩
      · refine Ends.step (fun _ k => XS.icmpYes X75.here hx rfl (pc0 := 124) (pc' := 160) rfl (hb hby at_124) rfl (XT.ii_ne_t hc124_76) (by decide) (by decide) k) ?_
        show Ends p e below QQ (T75.setTop (mkF m 160 #[.val (.int p0), .val (.int p1), .val (.int p2), .val (.int p3), .val (.int p4), .val (.int (f1 p0)), .val (.int (f1 p0)), .val (.int p1.toUInt32.toUInt16.toUInt32.toInt32), .val (.int v42_3), .val (.ref b64), .val (.ref b67), .val (.int v95_4), .val (.ref b_72)] []))
        refine Ends.step (fun _ k => XT.iconstV X75.here hx rfl (0 : Int32) (hb hby at_160) rfl k) ?_
        show Ends p e below QQ (T75.setTop (mkF m 161 #[.val (.int p0), .val (.int p1), .val (.int p2), .val (.int p3), .val (.int p4), .val (.int (f1 p0)), .val (.int (f1 p0)), .val (.int p1.toUInt32.toUInt16.toUInt32.toInt32), .val (.int v42_3), .val (.ref b64), .val (.ref b67), .val (.int v95_4), .val (.ref b_72)] [(.int (0 : Int32))]))
        exact Ends.fin (some (.int (0 : Int32))) X75 hQQ (fun h => by rw [Bd.returns] at h; cases h) Bd.notSynchronized (fun _ hr => retOut X75 hx (t := .boolean) Bd.returns rfl (Or.inl ⟨rfl, (by simp), _, rfl⟩) (hb hby at_161) hr) hh75 (by decide) (by decide) ⟨(by simp only [f0, dv42_3, dv95_4, if_neg hc10_40, if_pos hc112_74, if_neg hc124_76]), N75, K72⟩
    · refine Ends.step (fun _ k => XS.icmpYes X73.here hx rfl (pc0 := 112) (pc' := 160) rfl (hb hby at_112) rfl (XT.ii_ne_t hc112_74) (by decide) (by decide) k) ?_
      show Ends p e below QQ (T73.setTop (mkF m 160 #[.val (.int p0), .val (.int p1), .val (.int p2), .val (.int p3), .val (.int p4), .val (.int (f1 p0)), .val (.int (f1 p0)), .val (.int p1.toUInt32.toUInt16.toUInt32.toInt32), .val (.int v42_3), .val (.ref b64), .val (.ref b67), .val (.int v95_4), .val (.ref b_72)] []))
      refine Ends.step (fun _ k => XT.iconstV X73.here hx rfl (0 : Int32) (hb hby at_160) rfl k) ?_
      show Ends p e below QQ (T73.setTop (mkF m 161 #[.val (.int p0), .val (.int p1), .val (.int p2), .val (.int p3), .val (.int p4), .val (.int (f1 p0)), .val (.int (f1 p0)), .val (.int p1.toUInt32.toUInt16.toUInt32.toInt32), .val (.int v42_3), .val (.ref b64), .val (.ref b67), .val (.int v95_4), .val (.ref b_72)] [(.int (0 : Int32))]))
      exact Ends.fin (some (.int (0 : Int32))) X73 hQQ (fun h => by rw [Bd.returns] at h; cases h) Bd.notSynchronized (fun _ hr => retOut X73 hx (t := .boolean) Bd.returns rfl (Or.inl ⟨rfl, (by simp), _, rfl⟩) (hb hby at_161) hr) hh73 (by decide) (by decide) ⟨(by simp only [f0, dv42_3, dv95_4, if_neg hc10_40, if_neg hc112_74]), N73, K72⟩
theorem own_range (x : Int32) : f1 x = 0 ∨ f1 x = 1 ∨ f1 x = 2 ∨ f1 x = 3 ∨ f1 x = 4 ∨ f1 x = 5 ∨ f1 x = 6 := by
  have e1 := c_mask x 2147483647 31 (by decide) (by decide)
  have e2 := (c_irem (x &&& 2147483647) 7 7 (by decide)).1 (by omega)
  simp only [f1, ← Int32.toInt_inj, Int32.reduceToInt, e2]
  omega
theorem own_inj (i j : Int32) {a_CHARACTER a_ESCAPE a_ENTER a_UP a_DOWN a_LEFT a_RIGHT : Addr} (n0 : a_CHARACTER ≠ a_ESCAPE) (n1 : a_CHARACTER ≠ a_ENTER) (n2 : a_CHARACTER ≠ a_UP) (n3 : a_CHARACTER ≠ a_DOWN) (n4 : a_CHARACTER ≠ a_LEFT) (n5 : a_CHARACTER ≠ a_RIGHT) (n6 : a_ESCAPE ≠ a_ENTER) (n7 : a_ESCAPE ≠ a_UP) (n8 : a_ESCAPE ≠ a_DOWN) (n9 : a_ESCAPE ≠ a_LEFT) (n10 : a_ESCAPE ≠ a_RIGHT) (n11 : a_ENTER ≠ a_UP) (n12 : a_ENTER ≠ a_DOWN) (n13 : a_ENTER ≠ a_LEFT) (n14 : a_ENTER ≠ a_RIGHT) (n15 : a_UP ≠ a_DOWN) (n16 : a_UP ≠ a_LEFT) (n17 : a_UP ≠ a_RIGHT) (n18 : a_DOWN ≠ a_LEFT) (n19 : a_DOWN ≠ a_RIGHT) (n20 : a_LEFT ≠ a_RIGHT) (hi : i = 0 ∨ i = 1 ∨ i = 2 ∨ i = 3 ∨ i = 4 ∨ i = 5 ∨ i = 6) (hj : j = 0 ∨ j = 1 ∨ j = 2 ∨ j = 3 ∨ j = 4 ∨ j = 5 ∨ j = 6) (h : own_k i a_CHARACTER a_ESCAPE a_ENTER a_UP a_DOWN a_LEFT a_RIGHT = own_k j a_CHARACTER a_ESCAPE a_ENTER a_UP a_DOWN a_LEFT a_RIGHT) : i = j := by
  rcases hi with rfl | rfl | rfl | rfl | rfl | rfl | rfl <;> rcases hj with rfl | rfl | rfl | rfl | rfl | rfl | rfl <;> first | rfl | exact absurd h (by assumption) | exact absurd h (Ne.symm (by assumption))
theorem own_f7 (ka kb : Addr) (a b : Int32) : f7 ka a kb b = if kb = ka then (if b = a then 1 else 0) else 0 := by
  simp only [f7, f7_v39_1]
  by_cases h : kb = ka
  · rw [if_pos h, if_pos (congrArg Value.ref h)]
  · rw [if_neg h, if_neg (fun q => h (Value.ref.inj q))]
theorem own_law (p q r t m : Int32) {a_CHARACTER a_ESCAPE a_ENTER a_UP a_DOWN a_LEFT a_RIGHT : Addr} (n0 : a_CHARACTER ≠ a_ESCAPE) (n1 : a_CHARACTER ≠ a_ENTER) (n2 : a_CHARACTER ≠ a_UP) (n3 : a_CHARACTER ≠ a_DOWN) (n4 : a_CHARACTER ≠ a_LEFT) (n5 : a_CHARACTER ≠ a_RIGHT) (n6 : a_ESCAPE ≠ a_ENTER) (n7 : a_ESCAPE ≠ a_UP) (n8 : a_ESCAPE ≠ a_DOWN) (n9 : a_ESCAPE ≠ a_LEFT) (n10 : a_ESCAPE ≠ a_RIGHT) (n11 : a_ENTER ≠ a_UP) (n12 : a_ENTER ≠ a_DOWN) (n13 : a_ENTER ≠ a_LEFT) (n14 : a_ENTER ≠ a_RIGHT) (n15 : a_UP ≠ a_DOWN) (n16 : a_UP ≠ a_LEFT) (n17 : a_UP ≠ a_RIGHT) (n18 : a_DOWN ≠ a_LEFT) (n19 : a_DOWN ≠ a_RIGHT) (n20 : a_LEFT ≠ a_RIGHT) : f0 p q r t m a_CHARACTER a_ESCAPE a_ENTER a_UP a_DOWN a_LEFT a_RIGHT = 1 := by
  have inj := fun i j hi hj => own_inj i j n0 n1 n2 n3 n4 n5 n6 n7 n8 n9 n10 n11 n12 n13 n14 n15 n16 n17 n18 n19 n20 hi hj
  have gen : ∀ (i j x y : Int32) (hi : i = 0 ∨ i = 1 ∨ i = 2 ∨ i = 3 ∨ i = 4 ∨ i = 5 ∨ i = 6) (hj : j = 0 ∨ j = 1 ∨ j = 2 ∨ j = 3 ∨ j = 4 ∨ j = 5 ∨ j = 6),
      f7 (own_k i a_CHARACTER a_ESCAPE a_ENTER a_UP a_DOWN a_LEFT a_RIGHT) x (own_k j a_CHARACTER a_ESCAPE a_ENTER a_UP a_DOWN a_LEFT a_RIGHT) y = (if i = j then (if x = y then (1 : Int32) else 0) else 0) ∧ f7 (own_k j a_CHARACTER a_ESCAPE a_ENTER a_UP a_DOWN a_LEFT a_RIGHT) y (own_k i a_CHARACTER a_ESCAPE a_ENTER a_UP a_DOWN a_LEFT a_RIGHT) x = (if i = j then (if x = y then (1 : Int32) else 0) else 0) := by
    intro i j x y hi hj
    rw [own_f7, own_f7]
    by_cases h : i = j
    · subst h
      simp only [if_true]
      by_cases h2 : x = y
      · subst h2; simp only [if_true, and_self]
      · rw [if_neg (Ne.symm h2), if_neg h2]; exact ⟨rfl, trivial⟩
    · have n : ¬ own_k i a_CHARACTER a_ESCAPE a_ENTER a_UP a_DOWN a_LEFT a_RIGHT = own_k j a_CHARACTER a_ESCAPE a_ENTER a_UP a_DOWN a_LEFT a_RIGHT := fun q => h (inj i j hi hj q)
      rw [if_neg n, if_neg (Ne.symm n), if_neg h]; exact ⟨rfl, rfl⟩
  have self : ∀ (k : Addr) (x : Int32), ¬ f7 k x k x = 0 := by
    intro k x
    rw [own_f7]
    simp only [if_true]
    decide
  unfold f0
  split
  · obtain ⟨g1, g2⟩ := gen (f1 p) (f1 r) q.toUInt32.toUInt16.toUInt32.toInt32 (f0_v42_1 p q r t m a_CHARACTER a_ESCAPE a_ENTER a_UP a_DOWN a_LEFT a_RIGHT) (own_range p) (own_range r)
    rw [if_pos (by rw [g1]; rfl), if_pos (by rw [g2]; rfl), if_neg (self _ _)]
  · obtain ⟨g1, g2⟩ := gen (f1 p) (f1 p) q.toUInt32.toUInt16.toUInt32.toInt32 (f0_v42_3 p q r t m a_CHARACTER a_ESCAPE a_ENTER a_UP a_DOWN a_LEFT a_RIGHT) (own_range p) (own_range p)
    rw [if_pos (by rw [g1, if_pos rfl]; rfl), if_pos (by rw [g2, if_pos rfl]; rfl), if_neg (self _ _)]
set_option maxRecDepth 65536 in
set_option maxHeartbeats 40000000 in
theorem comes_1 {Post : Tables → Env → Array Value → State → Outcome → State → Prop} (hpost : ∀ tb e args s v u, (limb_1_1.after args s (.returned v) u = true ∧ limb_1_2.after args s (.returned v) u = true ∧ True) → FrameEnd s (.returned v) u (Jvm.fieldLocs frame_1_writes args s ++ Jvm.arrayLocs frame_1_arrays args s ++ Jvm.staticLocs frame_1_statics s) 16 128 → Post tb e args s (.returned v) u) :
    ArmFor flags0 classFile x code maxLocals ret World_1 tables_1 room_1 Calls_1 rest_1 Pre_1 Post := by
  intro l hfl _ _ p e ha hc hk s m args below hf hA hF happ hP
  obtain ⟨hcalls, hrest, hpre⟩ := hP
  obtain ⟨-, -, -, hnamed, -, -, -, hat⟩ := (Spec.applies_iff hf).mp happ
  obtain ⟨hg, hn⟩ := and_e (Cond.before_iff.mp (show (Jvm.Cond.and given_1 narrow_1).before args s = true from hpre))
  obtain ⟨gl1, gr1⟩ := and_e hg
  obtain ⟨gl2, gr2⟩ := and_e gr1
  obtain ⟨gl3, gr3⟩ := and_e gr2
  obtain ⟨gl4, gr4⟩ := and_e gr3
  obtain ⟨gl5, gr5⟩ := and_e gr4
  obtain ⟨w0, w1, w2, w3, w4, rfl⟩ : ∃ w0 w1 w2 w3 w4 : Value, args = #[w0, w1, w2, w3, w4] := by
    have hs : args.size = 5 := by simpa [Cond.value, given_1] using gl1
    obtain ⟨L⟩ := args
    match L, hs with
    | [w0, w1, w2, w3, w4], _ => exact ⟨w0, w1, w2, w3, w4, rfl⟩
  have hw := fun d (hd : d ∈ tables_1) => atoms_spec (ws := Jvm.Cond.code x code maxLocals ret :: tables_1) hat d (List.mem_cons_of_mem _ hd)
  have hfit : Fit s := fun {y c} hc i hi => by
    obtain ⟨ha, rfl⟩ := Array.getElem?_eq_some_iff.mp hc
    have q := List.all_eq_true.mp ((Array.all_eq_true_iff_forall_mem.mp hF) _ (Array.getElem_mem ha)) i (List.mem_range.mpr hi)
    simpa [Array.getElem?_eq_getElem hi] using q
  obtain ⟨hsets, hown0⟩ := atoms_of _ (rest_1_c_eq ▸ (show rest_1_c.before _ s = true from hrest))
  have hr0 := Cond.before_iff.mp hown0
  obtain ⟨i0, ei0⟩ := is_v gl2
  obtain rfl : w0 = (.int i0) := Option.some.inj ei0
  obtain ⟨i1, ei1⟩ := is_v gl3
  obtain rfl : w1 = (.int i1) := Option.some.inj ei1
  obtain ⟨i2, ei2⟩ := is_v gl4
  obtain rfl : w2 = (.int i2) := Option.some.inj ei2
  obtain ⟨i3, ei3⟩ := is_v gl5
  obtain rfl : w3 = (.int i3) := Option.some.inj ei3
  obtain ⟨i4, ei4⟩ := is_v gr5
  obtain rfl : w4 = (.int i4) := Option.some.inj ei4
  obtain ⟨nl1, nr1⟩ := and_e hn
  obtain ⟨nl2, nr2⟩ := and_e nr1
  obtain ⟨nl3, nr3⟩ := and_e nr2
  obtain ⟨nl4, nr4⟩ := and_e nr3
  obtain ⟨nl5, nr5⟩ := and_e nr4
  obtain ⟨nl6, nr6⟩ := and_e nr5
  obtain ⟨nl7, nr7⟩ := and_e nr6
  obtain ⟨nl8, nr8⟩ := and_e nr7
  obtain ⟨nl9, nr9⟩ := and_e nr8
  obtain ⟨nl10, nr10⟩ := and_e nr9
  obtain ⟨nl11, nr11⟩ := and_e nr10
  obtain ⟨nl12, nr12⟩ := and_e nr11
  obtain ⟨nl13, nr13⟩ := and_e nr12
  obtain ⟨a_CHARACTER, ev_a_CHARACTER⟩ := exa_v nl1
  have E_a_CHARACTER := Exa.start ev_a_CHARACTER nl1
  obtain ⟨a_ENTER, ev_a_ENTER⟩ := exa_v nl2
  have E_a_ENTER := Exa.start ev_a_ENTER nl2
  obtain ⟨a_UP, ev_a_UP⟩ := exa_v nl5
  have E_a_UP := Exa.start ev_a_UP nl5
  obtain ⟨a_LEFT, ev_a_LEFT⟩ := exa_v nl6
  have E_a_LEFT := Exa.start ev_a_LEFT nl6
  obtain ⟨a_ESCAPE, ev_a_ESCAPE⟩ := exa_v nl7
  have E_a_ESCAPE := Exa.start ev_a_ESCAPE nl7
  obtain ⟨a_DOWN, ev_a_DOWN⟩ := exa_v nl10
  have E_a_DOWN := Exa.start ev_a_DOWN nl10
  obtain ⟨a_RIGHT, ev_a_RIGHT⟩ := exa_v nl12
  have E_a_RIGHT := Exa.start ev_a_RIGHT nl12
  have F_ordinal_a_ENTER : Fld s s.heap a_ENTER "java/lang/Enum" "ordinal" "I" (.int (2 : Int32)) := own_fld nl3 ev_a_ENTER rfl
  have F_ordinal_a_CHARACTER : Fld s s.heap a_CHARACTER "java/lang/Enum" "ordinal" "I" (.int (0 : Int32)) := own_fld nl4 ev_a_CHARACTER rfl
  have F_ordinal_a_ESCAPE : Fld s s.heap a_ESCAPE "java/lang/Enum" "ordinal" "I" (.int (1 : Int32)) := own_fld nl8 ev_a_ESCAPE rfl
  have F_ordinal_a_UP : Fld s s.heap a_UP "java/lang/Enum" "ordinal" "I" (.int (3 : Int32)) := own_fld nl9 ev_a_UP rfl
  have F_ordinal_a_DOWN : Fld s s.heap a_DOWN "java/lang/Enum" "ordinal" "I" (.int (4 : Int32)) := own_fld nl11 ev_a_DOWN rfl
  have F_ordinal_a_LEFT : Fld s s.heap a_LEFT "java/lang/Enum" "ordinal" "I" (.int (5 : Int32)) := own_fld nl13 ev_a_LEFT rfl
  have F_ordinal_a_RIGHT : Fld s s.heap a_RIGHT "java/lang/Enum" "ordinal" "I" (.int (6 : Int32)) := own_fld nr13 ev_a_RIGHT rfl
  have S_CHARACTER := Sta.start ev_a_CHARACTER (Or.inr ⟨(hw _ (List.mem_of_getElem? (i := 12) rfl)), (hw _ (List.mem_of_getElem? (i := 13) rfl))⟩)
  have S_ENTER := Sta.start ev_a_ENTER (Or.inr ⟨(hw _ (List.mem_of_getElem? (i := 12) rfl)), (hw _ (List.mem_of_getElem? (i := 30) rfl))⟩)
  have S_UP := Sta.start ev_a_UP (Or.inr ⟨(hw _ (List.mem_of_getElem? (i := 12) rfl)), (hw _ (List.mem_of_getElem? (i := 49) rfl))⟩)
  have S_LEFT := Sta.start ev_a_LEFT (Or.inr ⟨(hw _ (List.mem_of_getElem? (i := 12) rfl)), (hw _ (List.mem_of_getElem? (i := 51) rfl))⟩)
  have S_ESCAPE := Sta.start ev_a_ESCAPE (Or.inr ⟨(hw _ (List.mem_of_getElem? (i := 12) rfl)), (hw _ (List.mem_of_getElem? (i := 68) rfl))⟩)
  have S_DOWN := Sta.start ev_a_DOWN (Or.inr ⟨(hw _ (List.mem_of_getElem? (i := 12) rfl)), (hw _ (List.mem_of_getElem? (i := 70) rfl))⟩)
  have S_RIGHT := Sta.start ev_a_RIGHT (Or.inr ⟨(hw _ (List.mem_of_getElem? (i := 12) rfl)), (hw _ (List.mem_of_getElem? (i := 72) rfl))⟩)
  have ev_hi := eqv_i (Term.int_eval (127 : Int32)) (Cond.before_iff.mp (hsets _ (List.mem_of_getElem? (i := 3) rfl)))
  have S_high := Sta.start ev_hi (Or.inr ⟨(hw _ (List.mem_of_getElem? (i := 36) rfl)), (hsets _ (List.mem_of_getElem? (i := 0) rfl))⟩)
  obtain ⟨ac, ev_ac⟩ := arr_v (Cond.before_iff.mp (hsets _ (List.mem_of_getElem? (i := 4) rfl)))
  obtain ⟨cc, Ar_cc⟩ := Arr.start ev_ac (Cond.before_iff.mp (hsets _ (List.mem_of_getElem? (i := 4) rfl)))
  have S_cache := Sta.start ev_ac (Or.inr ⟨(hw _ (List.mem_of_getElem? (i := 36) rfl)), (hsets _ (List.mem_of_getElem? (i := 2) rfl))⟩)
  obtain ⟨lt_cc, sz_cc⟩ := own_len (Cond.before_iff.mp (hsets _ (List.mem_of_getElem? (i := 6) rfl))) ev_ac Ar_cc
  have hbx : Bxs s ac cc "java/lang/Integer" "I" (256 : Int32) (fun j => .int (j - 128)) := Bxs.start (fun idx => own_idx ev_ac idx) Ar_cc lt_cc sz_cc (by decide) (Cond.before_iff.mp (hsets _ (List.mem_of_getElem? (i := 7) rfl))) (fun X j hj hX => eqv_i (own_sub hj) hX)
  have old := Old.start s
  have ne_a_CHARACTER_a_ESCAPE : a_CHARACTER ≠ a_ESCAPE := Fld.ne F_ordinal_a_CHARACTER F_ordinal_a_ESCAPE (by decide)
  have ne_a_CHARACTER_a_ENTER : a_CHARACTER ≠ a_ENTER := Fld.ne F_ordinal_a_CHARACTER F_ordinal_a_ENTER (by decide)
  have ne_a_CHARACTER_a_UP : a_CHARACTER ≠ a_UP := Fld.ne F_ordinal_a_CHARACTER F_ordinal_a_UP (by decide)
  have ne_a_CHARACTER_a_DOWN : a_CHARACTER ≠ a_DOWN := Fld.ne F_ordinal_a_CHARACTER F_ordinal_a_DOWN (by decide)
  have ne_a_CHARACTER_a_LEFT : a_CHARACTER ≠ a_LEFT := Fld.ne F_ordinal_a_CHARACTER F_ordinal_a_LEFT (by decide)
  have ne_a_CHARACTER_a_RIGHT : a_CHARACTER ≠ a_RIGHT := Fld.ne F_ordinal_a_CHARACTER F_ordinal_a_RIGHT (by decide)
  have ne_a_ESCAPE_a_ENTER : a_ESCAPE ≠ a_ENTER := Fld.ne F_ordinal_a_ESCAPE F_ordinal_a_ENTER (by decide)
  have ne_a_ESCAPE_a_UP : a_ESCAPE ≠ a_UP := Fld.ne F_ordinal_a_ESCAPE F_ordinal_a_UP (by decide)
  have ne_a_ESCAPE_a_DOWN : a_ESCAPE ≠ a_DOWN := Fld.ne F_ordinal_a_ESCAPE F_ordinal_a_DOWN (by decide)
  have ne_a_ESCAPE_a_LEFT : a_ESCAPE ≠ a_LEFT := Fld.ne F_ordinal_a_ESCAPE F_ordinal_a_LEFT (by decide)
  have ne_a_ESCAPE_a_RIGHT : a_ESCAPE ≠ a_RIGHT := Fld.ne F_ordinal_a_ESCAPE F_ordinal_a_RIGHT (by decide)
  have ne_a_ENTER_a_UP : a_ENTER ≠ a_UP := Fld.ne F_ordinal_a_ENTER F_ordinal_a_UP (by decide)
  have ne_a_ENTER_a_DOWN : a_ENTER ≠ a_DOWN := Fld.ne F_ordinal_a_ENTER F_ordinal_a_DOWN (by decide)
  have ne_a_ENTER_a_LEFT : a_ENTER ≠ a_LEFT := Fld.ne F_ordinal_a_ENTER F_ordinal_a_LEFT (by decide)
  have ne_a_ENTER_a_RIGHT : a_ENTER ≠ a_RIGHT := Fld.ne F_ordinal_a_ENTER F_ordinal_a_RIGHT (by decide)
  have ne_a_UP_a_DOWN : a_UP ≠ a_DOWN := Fld.ne F_ordinal_a_UP F_ordinal_a_DOWN (by decide)
  have ne_a_UP_a_LEFT : a_UP ≠ a_LEFT := Fld.ne F_ordinal_a_UP F_ordinal_a_LEFT (by decide)
  have ne_a_UP_a_RIGHT : a_UP ≠ a_RIGHT := Fld.ne F_ordinal_a_UP F_ordinal_a_RIGHT (by decide)
  have ne_a_DOWN_a_LEFT : a_DOWN ≠ a_LEFT := Fld.ne F_ordinal_a_DOWN F_ordinal_a_LEFT (by decide)
  have ne_a_DOWN_a_RIGHT : a_DOWN ≠ a_RIGHT := Fld.ne F_ordinal_a_DOWN F_ordinal_a_RIGHT (by decide)
  have ne_a_LEFT_a_RIGHT : a_LEFT ≠ a_RIGHT := Fld.ne F_ordinal_a_LEFT F_ordinal_a_RIGHT (by decide)
  obtain ⟨n, o, h1, h2, h3, _, L, rfl, hQ, hq⟩ := rm0 l s _ hw tables_1 i0 i1 i2 i3 i4 a_CHARACTER a_ENTER a_UP a_LEFT a_ESCAPE a_DOWN a_RIGHT ac cc s.heap s.heap.size (Nat.le_refl _) E_a_CHARACTER E_a_ENTER E_a_UP E_a_LEFT E_a_ESCAPE E_a_DOWN E_a_RIGHT F_ordinal_a_ENTER F_ordinal_a_CHARACTER F_ordinal_a_ESCAPE F_ordinal_a_UP F_ordinal_a_DOWN F_ordinal_a_LEFT F_ordinal_a_RIGHT S_CHARACTER S_ENTER S_UP S_LEFT S_ESCAPE S_DOWN S_RIGHT S_high S_cache hbx old ne_a_CHARACTER_a_ESCAPE ne_a_CHARACTER_a_ENTER ne_a_CHARACTER_a_UP ne_a_CHARACTER_a_DOWN ne_a_CHARACTER_a_LEFT ne_a_CHARACTER_a_RIGHT ne_a_ESCAPE_a_ENTER ne_a_ESCAPE_a_UP ne_a_ESCAPE_a_DOWN ne_a_ESCAPE_a_LEFT ne_a_ESCAPE_a_RIGHT ne_a_ENTER_a_UP ne_a_ENTER_a_DOWN ne_a_ENTER_a_LEFT ne_a_ENTER_a_RIGHT ne_a_UP_a_DOWN ne_a_UP_a_LEFT ne_a_UP_a_RIGHT ne_a_DOWN_a_LEFT ne_a_DOWN_a_RIGHT ne_a_LEFT_a_RIGHT p e ha hc hk s m _ below hf ((Spec.applies_iff_loose hf).mp happ).1 ⟨rfl, State.Warmed39.refl s, rfl⟩ trivial
  obtain ⟨hv, N, -⟩ := hQ
  have hlaw : (f0 i0 i1 i2 i3 i4 a_CHARACTER a_ESCAPE a_ENTER a_UP a_DOWN a_LEFT a_RIGHT) = 1 := own_law i0 i1 i2 i3 i4 ne_a_CHARACTER_a_ESCAPE ne_a_CHARACTER_a_ENTER ne_a_CHARACTER_a_UP ne_a_CHARACTER_a_DOWN ne_a_CHARACTER_a_LEFT ne_a_CHARACTER_a_RIGHT ne_a_ESCAPE_a_ENTER ne_a_ESCAPE_a_UP ne_a_ESCAPE_a_DOWN ne_a_ESCAPE_a_LEFT ne_a_ESCAPE_a_RIGHT ne_a_ENTER_a_UP ne_a_ENTER_a_DOWN ne_a_ENTER_a_LEFT ne_a_ENTER_a_RIGHT ne_a_UP_a_DOWN ne_a_UP_a_LEFT ne_a_UP_a_RIGHT ne_a_DOWN_a_LEFT ne_a_DOWN_a_RIGHT ne_a_LEFT_a_RIGHT
  rw [hlaw] at hv
  subst hv
  refine ⟨n, _, h1, h2, h3, hpost _ _ _ _ _ _ ⟨Cond.after_iff.mpr rfl, Cond.after_iff.mpr (eq_i res_at (Term.int_eval (1)) rfl), trivial⟩ ⟨hq.1, hq.2.1, (hq.2.2.sift fun y hy => Or.inr (N y hy)).mono (by decide) (by decide)⟩⟩
theorem main_1_1 : Claimed_1_1 := comes_1 fun _ _ _ _ _ _ h hF => ⟨h.1, hF⟩
theorem main_1_2 : Claimed_1_2 := comes_1 fun _ _ _ _ _ _ h hF => ⟨h.2.1, hF⟩
end Jvm.Pilot.@@N@@
namespace Jvm.Pilot.@@N@@
open Jvm Jvm.ClassFile Sem Op Lib Jvm.Free Jvm.Stand Jvm.Pilot.@@N@@.Jvm.D
/-! MADE BY PROGRAM (witnessworld.py) out of the Statement's table words and the real class files: 19 classes; the members and pool entries that the words name. The judged class is class 1, her method 3. -/
namespace start1
open Jvm.ClassFile
def u (s : String) : CpInfo := .utf8 (stringToUtf16 s)
/-- a pool by its gaps: so many unusable entries, then the entry; so many at the end -/
def gap : Nat → List CpInfo → List CpInfo
  | 0, r => r
  | n + 1, r => .unusable :: gap n r
def poolList (es : List (Nat × CpInfo)) (last : Nat) : List CpInfo := es.foldr (fun e r => gap e.1 (e.2 :: r)) (gap last [])
def pool (es : List (Nat × CpInfo)) (last : Nat) : Array CpInfo := ⟨poolList es last⟩
def fileOf (pool : Array CpInfo) (this : Nat) (attrs : Array Attribute := #[]) (ms : Array MethodInfo := #[]) (fl : Nat := 33) (sup : Nat := 0) (ifs : Array Nat := #[]) (fds : Array FieldInfo := #[]) : ClassFile where
  minorVersion := 0
  majorVersion := 65
  constantPool := pool
  accessFlags := fl
  thisClass := this
  superClass := sup
  interfaces := ifs
  fields := fds
  methods := ms
  attributes := attrs
def plain (name : String) (sup : Option ClassId) : Class where
  name := name
  kind := .ordinary
  loader := none
  accessFlags := 33
  super := sup
  interfaces := #[]
  cf := none
  fields := #[]
  methods := #[]
  instanceTypes := #[]
  staticTypes := #[]
  resolved := #[]
  callSites := []
  init := .initialized
  statics := none
  mirror := none

def pool0 : Array CpInfo := pool [(5, u "<init>"), (0, u "()V"), (1, .class_ 10), (1, u "java/lang/Object")] 113

def k0c0 : Code := { maxStack := 0, maxLocals := 1, code := object_method_1_code, exceptionTable := #[], attributes := #[] }
def k0m0 : Method := { name := "<init>", desc := "()V", sig := { parameters := [], returnType := none }, accessFlags := 1, code := some k0c0 }
/-- java/lang/Object -/
def k0 : Class := { plain "java/lang/Object" none with
  accessFlags := 33
  interfaces := #[]
  cf := some (fileOf pool0 8 #[] #[{ accessFlags := 1, nameIndex := 5, descriptorIndex := 6, attributes := #[] }] 33 0 #[] #[])
  fields := #[]
  methods := #[k0m0]
  instanceTypes := #[]
  staticTypes := #[]
  resolved := Array.replicate 124 none
  statics := none }

def pool1 : Array CpInfo := pool [(2, .class_ 4), (1, u "java/lang/Object"), (0, u "<init>"), (0, u "()V"), (0, .integer 2147483647), (0, .fieldref 9 10), (0, .class_ 11), (0, .nameAndType 12 13), (0, u "com/example/glyphdelve/glyphdelve/cli/Key$Kind"), (0, u "CHARACTER"), (0, u "Lcom/example/glyphdelve/glyphdelve/cli/Key$Kind;"), (0, .fieldref 9 15), (0, .nameAndType 16 13), (0, u "ESCAPE"), (0, .fieldref 9 18), (0, .nameAndType 19 13), (0, u "ENTER"), (0, .fieldref 9 21), (0, .nameAndType 22 13), (0, u "UP"), (0, .fieldref 9 24), (0, .nameAndType 25 13), (0, u "DOWN"), (0, .fieldref 9 27), (0, .nameAndType 28 13), (0, u "LEFT"), (0, .fieldref 9 30), (0, .nameAndType 31 13), (0, u "RIGHT"), (0, .methodref 33 34), (0, .class_ 35), (0, .nameAndType 36 37), (0, u "com/example/glyphdelve/glyphdelve/cli/KeyEqualsPinLaw"), (0, u "idx"), (0, u "(I)I"), (0, .class_ 39), (0, u "com/example/glyphdelve/glyphdelve/cli/Key"), (0, .methodref 33 41), (0, .nameAndType 42 43), (0, u "kind"), (0, u "(I)Lcom/example/glyphdelve/glyphdelve/cli/Key$Kind;"), (0, .methodref 38 45), (0, .nameAndType 5 46), (0, u "(Lcom/example/glyphdelve/glyphdelve/cli/Key$Kind;C)V"), (0, .methodref 48 49), (0, .class_ 50), (0, .nameAndType 51 52), (0, u "java/lang/Integer"), (0, u "valueOf"), (0, u "(I)Ljava/lang/Integer;"), (0, .methodref 38 54), (0, .nameAndType 55 56), (0, u "equals"), (0, u "(Ljava/lang/Object;)Z"), (3, u "law"), (0, u "(IIIII)Z")] 4

def k1m0 : Method := { name := "<init>", desc := "()V", sig := { parameters := [], returnType := none }, accessFlags := 2, code := none }
def k1c1 : Code := { maxStack := 2, maxLocals := 1, code := method_2_code, exceptionTable := #[], attributes := #[] }
def k1m1 : Method := { name := "idx", desc := "(I)I", sig := { parameters := [.int], returnType := some .int }, accessFlags := 10, code := some k1c1 }
def k1c2 : Code := { maxStack := 2, maxLocals := 1, code := method_3_code, exceptionTable := #[], attributes := #[] }
def k1m2 : Method := { name := "kind", desc := "(I)Lcom/example/glyphdelve/glyphdelve/cli/Key$Kind;", sig := { parameters := [.int], returnType := some (.object "com/example/glyphdelve/glyphdelve/cli/Key$Kind") }, accessFlags := 10, code := some k1c2 }
def k1c3 : Code := { maxStack := 4, maxLocals := 13, code := code, exceptionTable := #[], attributes := #[] }
def k1m3 : Method := { name := "law", desc := "(IIIII)Z", sig := { parameters := [.int, .int, .int, .int, .int], returnType := some .boolean }, accessFlags := 9, code := some k1c3 }
/-- com/example/glyphdelve/glyphdelve/cli/KeyEqualsPinLaw -/
def k1 : Class := { plain "com/example/glyphdelve/glyphdelve/cli/KeyEqualsPinLaw" (some 0) with
  accessFlags := 49
  interfaces := #[]
  cf := some (fileOf pool1 33 #[] #[{ accessFlags := 2, nameIndex := 5, descriptorIndex := 6, attributes := #[] }, { accessFlags := 10, nameIndex := 36, descriptorIndex := 37, attributes := #[] }, { accessFlags := 10, nameIndex := 42, descriptorIndex := 43, attributes := #[] }, { accessFlags := 9, nameIndex := 60, descriptorIndex := 61, attributes := #[] }] 49 2 #[] #[])
  fields := #[]
  methods := #[k1m0, k1m1, k1m2, k1m3]
  instanceTypes := #[]
  staticTypes := #[]
  resolved := Array.replicate 66 none
  statics := none }

def pool2 : Array CpInfo := pool [(1, .methodref 2 3), (0, .class_ 4), (0, .nameAndType 5 6), (0, u "java/lang/Object"), (0, u "<init>"), (0, u "()V"), (0, .class_ 8), (0, u "java/lang/Record")] 13

def k2c0 : Code := { maxStack := 1, maxLocals := 1, code := jdk_30_method_1_code, exceptionTable := #[], attributes := #[] }
def k2m0 : Method := { name := "<init>", desc := "()V", sig := { parameters := [], returnType := none }, accessFlags := 4, code := some k2c0 }
/-- java/lang/Record -/
def k2 : Class := { plain "java/lang/Record" (some 0) with
  accessFlags := 1057
  interfaces := #[]
  cf := some (fileOf pool2 7 #[] #[{ accessFlags := 4, nameIndex := 5, descriptorIndex := 6, attributes := #[] }] 1057 2 #[] #[])
  fields := #[]
  methods := #[k2m0]
  instanceTypes := #[]
  staticTypes := #[]
  resolved := Array.replicate 22 none
  statics := none }

def pool3 : Array CpInfo := pool [(1, .methodref 2 3), (0, .class_ 4), (0, .nameAndType 5 6), (0, u "java/lang/Record"), (0, u "<init>"), (0, u "()V"), (0, .fieldref 8 9), (0, .class_ 10), (0, .nameAndType 11 12), (0, u "com/example/glyphdelve/glyphdelve/cli/Key"), (0, u "kind"), (0, u "Lcom/example/glyphdelve/glyphdelve/cli/Key$Kind;"), (0, .fieldref 8 14), (0, .nameAndType 15 16), (0, u "character"), (0, u "C"), (1, .class_ 20), (1, u "com/example/glyphdelve/glyphdelve/cli/Key$Kind"), (30, u "(Lcom/example/glyphdelve/glyphdelve/cli/Key$Kind;C)V"), (19, u "(Ljava/lang/Object;)Z"), (13, u "NAMED"), (0, u "Ljava/util/Map;"), (48, u "ESCAPE"), (2, u "Lcom/example/glyphdelve/glyphdelve/cli/Key;"), (2, u "ENTER"), (4, u "UP"), (4, u "DOWN"), (4, u "LEFT"), (4, u "RIGHT"), (25, u "equals")] 38

def k3c0 : Code := { maxStack := 2, maxLocals := 3, code := prog_33_method_1_code, exceptionTable := #[], attributes := #[] }
def k3m0 : Method := { name := "<init>", desc := "(Lcom/example/glyphdelve/glyphdelve/cli/Key$Kind;C)V", sig := { parameters := [(.object "com/example/glyphdelve/glyphdelve/cli/Key$Kind"), .char], returnType := none }, accessFlags := 0, code := some k3c0 }
def k3c1 : Code := { maxStack := 2, maxLocals := 3, code := prog_33_method_3_code, exceptionTable := #[], attributes := #[] }
def k3m1 : Method := { name := "equals", desc := "(Ljava/lang/Object;)Z", sig := { parameters := [(.object "java/lang/Object")], returnType := some .boolean }, accessFlags := 1, code := some k3c1 }
/-- com/example/glyphdelve/glyphdelve/cli/Key -/
def k3 : Class := { plain "com/example/glyphdelve/glyphdelve/cli/Key" (some 2) with
  accessFlags := 48
  interfaces := #[]
  cf := some (fileOf pool3 8 #[.nestMembers #[18]] #[{ accessFlags := 0, nameIndex := 5, descriptorIndex := 51, attributes := #[] }, { accessFlags := 1, nameIndex := 187, descriptorIndex := 71, attributes := #[] }] 48 2 #[] #[{ accessFlags := 18, nameIndex := 11, descriptorIndex := 12, attributes := #[] }, { accessFlags := 18, nameIndex := 15, descriptorIndex := 16, attributes := #[] }, { accessFlags := 24, nameIndex := 135, descriptorIndex := 138, attributes := #[] }, { accessFlags := 24, nameIndex := 141, descriptorIndex := 138, attributes := #[] }, { accessFlags := 24, nameIndex := 146, descriptorIndex := 138, attributes := #[] }, { accessFlags := 24, nameIndex := 151, descriptorIndex := 138, attributes := #[] }, { accessFlags := 24, nameIndex := 156, descriptorIndex := 138, attributes := #[] }, { accessFlags := 24, nameIndex := 161, descriptorIndex := 138, attributes := #[] }, { accessFlags := 26, nameIndex := 85, descriptorIndex := 86, attributes := #[] }])
  fields := #[{ name := "kind", type := (.object "com/example/glyphdelve/glyphdelve/cli/Key$Kind"), accessFlags := 18, slot := 0, constantValue := 0 }, { name := "character", type := .char, accessFlags := 18, slot := 1, constantValue := 0 }, { name := "ESCAPE", type := (.object "com/example/glyphdelve/glyphdelve/cli/Key"), accessFlags := 24, slot := 0, constantValue := 0 }, { name := "ENTER", type := (.object "com/example/glyphdelve/glyphdelve/cli/Key"), accessFlags := 24, slot := 1, constantValue := 0 }, { name := "UP", type := (.object "com/example/glyphdelve/glyphdelve/cli/Key"), accessFlags := 24, slot := 2, constantValue := 0 }, { name := "DOWN", type := (.object "com/example/glyphdelve/glyphdelve/cli/Key"), accessFlags := 24, slot := 3, constantValue := 0 }, { name := "LEFT", type := (.object "com/example/glyphdelve/glyphdelve/cli/Key"), accessFlags := 24, slot := 4, constantValue := 0 }, { name := "RIGHT", type := (.object "com/example/glyphdelve/glyphdelve/cli/Key"), accessFlags := 24, slot := 5, constantValue := 0 }, { name := "NAMED", type := (.object "java/util/Map"), accessFlags := 26, slot := 6, constantValue := 0 }]
  methods := #[k3m0, k3m1]
  instanceTypes := #[(.object "com/example/glyphdelve/glyphdelve/cli/Key$Kind"), .char]
  staticTypes := #[(.object "com/example/glyphdelve/glyphdelve/cli/Key"), (.object "com/example/glyphdelve/glyphdelve/cli/Key"), (.object "com/example/glyphdelve/glyphdelve/cli/Key"), (.object "com/example/glyphdelve/glyphdelve/cli/Key"), (.object "com/example/glyphdelve/glyphdelve/cli/Key"), (.object "com/example/glyphdelve/glyphdelve/cli/Key"), (.object "java/util/Map")]
  resolved := Array.replicate 226 none
  statics := none }

def pool4 : Array CpInfo := pool [(1, .class_ 2), (0, u "java/lang/constant/Constable"), (0, .class_ 4), (0, u "java/lang/Object")] 6

/-- java/lang/constant/Constable -/
def k4 : Class := { plain "java/lang/constant/Constable" (some 0) with
  accessFlags := 1537
  interfaces := #[]
  cf := some (fileOf pool4 1 #[] #[] 1537 3 #[] #[])
  fields := #[]
  methods := #[]
  instanceTypes := #[]
  staticTypes := #[]
  resolved := Array.replicate 11 none
  statics := none }

def pool5 : Array CpInfo := pool [(1, .class_ 2), (0, u "java/lang/Comparable"), (0, .class_ 4), (0, u "java/lang/Object")] 7

/-- java/lang/Comparable -/
def k5 : Class := { plain "java/lang/Comparable" (some 0) with
  accessFlags := 1537
  interfaces := #[]
  cf := some (fileOf pool5 1 #[] #[] 1537 3 #[] #[])
  fields := #[]
  methods := #[]
  instanceTypes := #[]
  staticTypes := #[]
  resolved := Array.replicate 12 none
  statics := none }

def pool6 : Array CpInfo := pool [(1, .class_ 2), (0, u "java/io/Serializable"), (0, .class_ 4), (0, u "java/lang/Object")] 2

/-- java/io/Serializable -/
def k6 : Class := { plain "java/io/Serializable" (some 0) with
  accessFlags := 1537
  interfaces := #[]
  cf := some (fileOf pool6 1 #[] #[] 1537 3 #[] #[])
  fields := #[]
  methods := #[]
  instanceTypes := #[]
  staticTypes := #[]
  resolved := Array.replicate 7 none
  statics := none }

def pool7 : Array CpInfo := pool [(2, .class_ 4), (1, u "java/lang/Enum"), (0, u "name"), (0, u "Ljava/lang/String;"), (2, u "ordinal"), (0, u "I"), (1, .class_ 14), (1, u "java/lang/Object"), (4, u "hash"), (86, .class_ 108), (1, u "java/lang/Enum$EnumDesc"), (2, .class_ 112), (0, u "java/lang/constant/Constable"), (0, .class_ 114), (0, u "java/lang/Comparable"), (0, .class_ 116), (0, u "java/io/Serializable")] 87

/-- java/lang/Enum -/
def k7 : Class := { plain "java/lang/Enum" (some 0) with
  accessFlags := 1057
  interfaces := #[4, 5, 6]
  cf := some (fileOf pool7 2 #[.nestMembers #[106]] #[] 1057 12 #[111, 113, 115] #[{ accessFlags := 18, nameIndex := 5, descriptorIndex := 6, attributes := #[] }, { accessFlags := 18, nameIndex := 9, descriptorIndex := 10, attributes := #[] }, { accessFlags := 2, nameIndex := 19, descriptorIndex := 10, attributes := #[] }])
  fields := #[{ name := "name", type := (.object "java/lang/String"), accessFlags := 18, slot := 0, constantValue := 0 }, { name := "ordinal", type := .int, accessFlags := 18, slot := 1, constantValue := 0 }, { name := "hash", type := .int, accessFlags := 2, slot := 2, constantValue := 0 }]
  methods := #[]
  instanceTypes := #[(.object "java/lang/String"), .int, .int]
  staticTypes := #[]
  resolved := Array.replicate 204 none
  statics := none }

def pool8 : Array CpInfo := pool [(1, .class_ 2), (0, u "com/example/glyphdelve/glyphdelve/cli/Key$Kind"), (2, u "CHARACTER"), (0, u "Lcom/example/glyphdelve/glyphdelve/cli/Key$Kind;"), (2, u "ESCAPE"), (2, u "ENTER"), (2, u "UP"), (2, u "DOWN"), (2, u "LEFT"), (2, u "RIGHT"), (2, u "$VALUES"), (0, u "[Lcom/example/glyphdelve/glyphdelve/cli/Key$Kind;"), (6, .class_ 37), (1, u "java/lang/Enum"), (30, .class_ 69), (0, u "com/example/glyphdelve/glyphdelve/cli/Key")] 2

/-- com/example/glyphdelve/glyphdelve/cli/Key$Kind -/
def k8 : Class := { plain "com/example/glyphdelve/glyphdelve/cli/Key$Kind" (some 7) with
  accessFlags := 16432
  interfaces := #[]
  cf := some (fileOf pool8 1 #[.nestHost 68] #[] 16432 35 #[] #[{ accessFlags := 16409, nameIndex := 5, descriptorIndex := 6, attributes := #[] }, { accessFlags := 16409, nameIndex := 9, descriptorIndex := 6, attributes := #[] }, { accessFlags := 16409, nameIndex := 12, descriptorIndex := 6, attributes := #[] }, { accessFlags := 16409, nameIndex := 15, descriptorIndex := 6, attributes := #[] }, { accessFlags := 16409, nameIndex := 18, descriptorIndex := 6, attributes := #[] }, { accessFlags := 16409, nameIndex := 21, descriptorIndex := 6, attributes := #[] }, { accessFlags := 16409, nameIndex := 24, descriptorIndex := 6, attributes := #[] }, { accessFlags := 4122, nameIndex := 27, descriptorIndex := 28, attributes := #[] }])
  fields := #[{ name := "CHARACTER", type := (.object "com/example/glyphdelve/glyphdelve/cli/Key$Kind"), accessFlags := 16409, slot := 0, constantValue := 0 }, { name := "ESCAPE", type := (.object "com/example/glyphdelve/glyphdelve/cli/Key$Kind"), accessFlags := 16409, slot := 1, constantValue := 0 }, { name := "ENTER", type := (.object "com/example/glyphdelve/glyphdelve/cli/Key$Kind"), accessFlags := 16409, slot := 2, constantValue := 0 }, { name := "UP", type := (.object "com/example/glyphdelve/glyphdelve/cli/Key$Kind"), accessFlags := 16409, slot := 3, constantValue := 0 }, { name := "DOWN", type := (.object "com/example/glyphdelve/glyphdelve/cli/Key$Kind"), accessFlags := 16409, slot := 4, constantValue := 0 }, { name := "LEFT", type := (.object "com/example/glyphdelve/glyphdelve/cli/Key$Kind"), accessFlags := 16409, slot := 5, constantValue := 0 }, { name := "RIGHT", type := (.object "com/example/glyphdelve/glyphdelve/cli/Key$Kind"), accessFlags := 16409, slot := 6, constantValue := 0 }, { name := "$VALUES", type := (.array (.object "com/example/glyphdelve/glyphdelve/cli/Key$Kind")), accessFlags := 4122, slot := 7, constantValue := 0 }]
  methods := #[]
  instanceTypes := #[(.object "java/lang/String"), .int, .int]
  staticTypes := #[(.object "com/example/glyphdelve/glyphdelve/cli/Key$Kind"), (.object "com/example/glyphdelve/glyphdelve/cli/Key$Kind"), (.object "com/example/glyphdelve/glyphdelve/cli/Key$Kind"), (.object "com/example/glyphdelve/glyphdelve/cli/Key$Kind"), (.object "com/example/glyphdelve/glyphdelve/cli/Key$Kind"), (.object "com/example/glyphdelve/glyphdelve/cli/Key$Kind"), (.object "com/example/glyphdelve/glyphdelve/cli/Key$Kind"), (.array (.object "com/example/glyphdelve/glyphdelve/cli/Key$Kind"))]
  resolved := Array.replicate 72 none
  statics := some 0 }

def pool9 : Array CpInfo := pool [(1, .methodref 2 3), (0, .class_ 4), (0, .nameAndType 5 6), (0, u "java/lang/Object"), (0, u "<init>"), (0, u "()V"), (1, .class_ 10), (1, u "java/lang/Number"), (2, .class_ 14), (0, u "java/io/Serializable"), (0, u "serialVersionUID"), (0, u "J")] 20

def k9c0 : Code := { maxStack := 1, maxLocals := 1, code := jdk_18_method_1_code, exceptionTable := #[], attributes := #[] }
def k9m0 : Method := { name := "<init>", desc := "()V", sig := { parameters := [], returnType := none }, accessFlags := 1, code := some k9c0 }
/-- java/lang/Number -/
def k9 : Class := { plain "java/lang/Number" (some 0) with
  accessFlags := 1057
  interfaces := #[6]
  cf := some (fileOf pool9 8 #[] #[{ accessFlags := 1, nameIndex := 5, descriptorIndex := 6, attributes := #[] }] 1057 2 #[13] #[{ accessFlags := 26, nameIndex := 15, descriptorIndex := 16, attributes := #[] }])
  fields := #[{ name := "serialVersionUID", type := .long, accessFlags := 26, slot := 0, constantValue := 0 }]
  methods := #[k9m0]
  instanceTypes := #[]
  staticTypes := #[.long]
  resolved := Array.replicate 37 none
  statics := none }

def pool10 : Array CpInfo := pool [(1, .class_ 2), (0, u "java/lang/constant/ConstantDesc"), (0, .class_ 4), (0, u "java/lang/Object")] 32

/-- java/lang/constant/ConstantDesc -/
def k10 : Class := { plain "java/lang/constant/ConstantDesc" (some 0) with
  accessFlags := 1537
  interfaces := #[]
  cf := some (fileOf pool10 1 #[] #[] 1537 3 #[] #[])
  fields := #[]
  methods := #[]
  instanceTypes := #[]
  staticTypes := #[]
  resolved := Array.replicate 37 none
  statics := none }

def pool11 : Array CpInfo := pool [(1, .class_ 2), (0, u "java/lang/Integer"), (16, u "digits"), (0, u "[C"), (46, u "<init>"), (17, u "DigitOnes"), (0, u "[B"), (2, u "DigitTens"), (10, .nameAndType 67 101), (0, u "()V"), (85, u "valueOf"), (0, u "(I)Ljava/lang/Integer;"), (0, .class_ 190), (0, u "java/lang/Integer$IntegerCache"), (0, .fieldref 189 192), (0, .nameAndType 193 194), (0, u "high"), (0, u "I"), (0, .fieldref 189 196), (0, .nameAndType 197 198), (0, u "cache"), (0, u "[Ljava/lang/Integer;"), (0, .methodref 1 200), (0, .nameAndType 67 201), (0, u "(I)V"), (0, .methodref 203 100), (0, .class_ 204), (0, u "java/lang/Number"), (0, .fieldref 1 206), (0, .nameAndType 207 194), (0, u "value"), (94, u "TYPE"), (0, u "Ljava/lang/Class;"), (0, .class_ 305), (0, u "java/lang/Comparable"), (0, .class_ 307), (0, u "java/lang/constant/Constable"), (0, .class_ 309), (0, u "java/lang/constant/ConstantDesc"), (0, u "MIN_VALUE"), (1, u "MAX_VALUE"), (3, u "SIZE"), (1, u "BYTES"), (1, u "serialVersionUID"), (0, u "J")] 131

def k11c0 : Code := { maxStack := 3, maxLocals := 1, code := jdk_33_method_22_code, exceptionTable := #[], attributes := #[] }
def k11m0 : Method := { name := "valueOf", desc := "(I)Ljava/lang/Integer;", sig := { parameters := [.int], returnType := some (.object "java/lang/Integer") }, accessFlags := 9, code := some k11c0 }
def k11c1 : Code := { maxStack := 2, maxLocals := 2, code := jdk_33_method_23_code, exceptionTable := #[], attributes := #[] }
def k11m1 : Method := { name := "<init>", desc := "(I)V", sig := { parameters := [.int], returnType := none }, accessFlags := 1, code := some k11c1 }
/-- java/lang/Integer -/
def k11 : Class := { plain "java/lang/Integer" (some 9) with
  accessFlags := 49
  interfaces := #[5, 4, 10]
  cf := some (fileOf pool11 1 #[.nestMembers #[189]] #[{ accessFlags := 9, nameIndex := 187, descriptorIndex := 188, attributes := #[] }, { accessFlags := 1, nameIndex := 67, descriptorIndex := 201, attributes := #[] }] 49 203 #[304, 306, 308] #[{ accessFlags := 25, nameIndex := 310, descriptorIndex := 194, attributes := #[] }, { accessFlags := 25, nameIndex := 312, descriptorIndex := 194, attributes := #[] }, { accessFlags := 25, nameIndex := 302, descriptorIndex := 303, attributes := #[] }, { accessFlags := 24, nameIndex := 19, descriptorIndex := 20, attributes := #[] }, { accessFlags := 24, nameIndex := 89, descriptorIndex := 86, attributes := #[] }, { accessFlags := 24, nameIndex := 85, descriptorIndex := 86, attributes := #[] }, { accessFlags := 18, nameIndex := 207, descriptorIndex := 194, attributes := #[] }, { accessFlags := 25, nameIndex := 316, descriptorIndex := 194, attributes := #[] }, { accessFlags := 25, nameIndex := 318, descriptorIndex := 194, attributes := #[] }, { accessFlags := 26, nameIndex := 320, descriptorIndex := 321, attributes := #[] }])
  fields := #[{ name := "MIN_VALUE", type := .int, accessFlags := 25, slot := 0, constantValue := 0 }, { name := "MAX_VALUE", type := .int, accessFlags := 25, slot := 1, constantValue := 0 }, { name := "TYPE", type := (.object "java/lang/Class"), accessFlags := 25, slot := 2, constantValue := 0 }, { name := "digits", type := (.array .char), accessFlags := 24, slot := 3, constantValue := 0 }, { name := "DigitTens", type := (.array .byte), accessFlags := 24, slot := 4, constantValue := 0 }, { name := "DigitOnes", type := (.array .byte), accessFlags := 24, slot := 5, constantValue := 0 }, { name := "value", type := .int, accessFlags := 18, slot := 0, constantValue := 0 }, { name := "SIZE", type := .int, accessFlags := 25, slot := 6, constantValue := 0 }, { name := "BYTES", type := .int, accessFlags := 25, slot := 7, constantValue := 0 }, { name := "serialVersionUID", type := .long, accessFlags := 26, slot := 8, constantValue := 0 }]
  methods := #[k11m0, k11m1]
  instanceTypes := #[.int]
  staticTypes := #[.int, .int, (.object "java/lang/Class"), (.array .char), (.array .byte), (.array .byte), .int, .int, .long]
  resolved := Array.replicate 453 none
  statics := none }

def pool12 : Array CpInfo := pool [(2, .class_ 4), (1, u "java/lang/Object"), (0, u "<init>"), (0, u "()V"), (0, .class_ 8), (0, u "java/lang/Integer"), (7, .class_ 18), (1, u "java/lang/Integer$IntegerCache"), (0, u "$assertionsDisabled"), (0, u "Z"), (26, u "high"), (0, u "I"), (8, u "archivedCache"), (0, u "[Ljava/lang/Integer;"), (12, u "cache"), (0, u "low")] 27

def k12m0 : Method := { name := "<init>", desc := "()V", sig := { parameters := [], returnType := none }, accessFlags := 2, code := none }
/-- java/lang/Integer$IntegerCache -/
def k12 : Class := { plain "java/lang/Integer$IntegerCache" (some 0) with
  accessFlags := 48
  interfaces := #[]
  cf := some (fileOf pool12 16 #[.nestHost 7] #[{ accessFlags := 2, nameIndex := 5, descriptorIndex := 6, attributes := #[] }] 48 2 #[] #[{ accessFlags := 24, nameIndex := 72, descriptorIndex := 48, attributes := #[] }, { accessFlags := 24, nameIndex := 47, descriptorIndex := 48, attributes := #[] }, { accessFlags := 24, nameIndex := 71, descriptorIndex := 58, attributes := #[] }, { accessFlags := 8, nameIndex := 57, descriptorIndex := 58, attributes := #[] }, { accessFlags := 4120, nameIndex := 19, descriptorIndex := 20, attributes := #[] }])
  fields := #[{ name := "low", type := .int, accessFlags := 24, slot := 0, constantValue := 0 }, { name := "high", type := .int, accessFlags := 24, slot := 1, constantValue := 0 }, { name := "cache", type := (.array (.object "java/lang/Integer")), accessFlags := 24, slot := 2, constantValue := 0 }, { name := "archivedCache", type := (.array (.object "java/lang/Integer")), accessFlags := 8, slot := 3, constantValue := 0 }, { name := "$assertionsDisabled", type := .boolean, accessFlags := 4120, slot := 4, constantValue := 0 }]
  methods := #[k12m0]
  instanceTypes := #[]
  staticTypes := #[.int, .int, (.array (.object "java/lang/Integer")), (.array (.object "java/lang/Integer")), .boolean]
  resolved := Array.replicate 100 none
  statics := some 1 }

def pool13 : Array CpInfo := pool [(1, u "java/lang/Cloneable"), (0, .class_ 1), (0, u "java/lang/Object"), (0, .class_ 3)] 3

/-- java/lang/Cloneable -/
def k13 : Class := { plain "java/lang/Cloneable" (some 0) with
  accessFlags := 1537
  interfaces := #[]
  cf := some (fileOf pool13 2 #[] #[] 1537 4 #[] #[])
  fields := #[]
  methods := #[]
  instanceTypes := #[]
  staticTypes := #[]
  resolved := Array.replicate 8 none
  statics := none }

/-- the primitive byte -/
def k14 : Class := { plain "byte" none with kind := .primitive 'B', accessFlags := 0x411 }
/-- [B -/
def k15 : Class := { plain "[B" (some 0) with kind := .array 14 .byte, interfaces := #[13, 6], accessFlags := 1041 }

/-- the primitive int -/
def k16 : Class := { plain "int" none with kind := .primitive 'I', accessFlags := 0x411 }
/-- [I -/
def k17 : Class := { plain "[I" (some 0) with kind := .array 16 .int, interfaces := #[13, 6], accessFlags := 1041 }

/-- [Ljava/lang/Integer; -/
def k18 : Class := { plain "[Ljava/lang/Integer;" (some 0) with kind := .array 11 (.object "java/lang/Integer"), interfaces := #[13, 6], accessFlags := 1041 }

def heap : Heap := #[{ cls := 8, slots := #[.ref 3, .ref 7, .ref 4, .ref 5, .ref 8, .ref 6, .ref 9, .null], vm := .statics 8 },
  { cls := 12, slots := #[.int 0, .int 127, .ref 2, .null, .int 0], vm := .statics 12 },
  { cls := 18, slots := #[.ref 10, .ref 11, .ref 12, .ref 13, .ref 14, .ref 15, .ref 16, .ref 17, .ref 18, .ref 19, .ref 20, .ref 21, .ref 22, .ref 23, .ref 24, .ref 25, .ref 26, .ref 27, .ref 28, .ref 29, .ref 30, .ref 31, .ref 32, .ref 33, .ref 34, .ref 35, .ref 36, .ref 37, .ref 38, .ref 39, .ref 40, .ref 41, .ref 42, .ref 43, .ref 44, .ref 45, .ref 46, .ref 47, .ref 48, .ref 49, .ref 50, .ref 51, .ref 52, .ref 53, .ref 54, .ref 55, .ref 56, .ref 57, .ref 58, .ref 59, .ref 60, .ref 61, .ref 62, .ref 63, .ref 64, .ref 65, .ref 66, .ref 67, .ref 68, .ref 69, .ref 70, .ref 71, .ref 72, .ref 73, .ref 74, .ref 75, .ref 76, .ref 77, .ref 78, .ref 79, .ref 80, .ref 81, .ref 82, .ref 83, .ref 84, .ref 85, .ref 86, .ref 87, .ref 88, .ref 89, .ref 90, .ref 91, .ref 92, .ref 93, .ref 94, .ref 95, .ref 96, .ref 97, .ref 98, .ref 99, .ref 100, .ref 101, .ref 102, .ref 103, .ref 104, .ref 105, .ref 106, .ref 107, .ref 108, .ref 109, .ref 110, .ref 111, .ref 112, .ref 113, .ref 114, .ref 115, .ref 116, .ref 117, .ref 118, .ref 119, .ref 120, .ref 121, .ref 122, .ref 123, .ref 124, .ref 125, .ref 126, .ref 127, .ref 128, .ref 129, .ref 130, .ref 131, .ref 132, .ref 133, .ref 134, .ref 135, .ref 136, .ref 137, .ref 138, .ref 139, .ref 140, .ref 141, .ref 142, .ref 143, .ref 144, .ref 145, .ref 146, .ref 147, .ref 148, .ref 149, .ref 150, .ref 151, .ref 152, .ref 153, .ref 154, .ref 155, .ref 156, .ref 157, .ref 158, .ref 159, .ref 160, .ref 161, .ref 162, .ref 163, .ref 164, .ref 165, .ref 166, .ref 167, .ref 168, .ref 169, .ref 170, .ref 171, .ref 172, .ref 173, .ref 174, .ref 175, .ref 176, .ref 177, .ref 178, .ref 179, .ref 180, .ref 181, .ref 182, .ref 183, .ref 184, .ref 185, .ref 186, .ref 187, .ref 188, .ref 189, .ref 190, .ref 191, .ref 192, .ref 193, .ref 194, .ref 195, .ref 196, .ref 197, .ref 198, .ref 199, .ref 200, .ref 201, .ref 202, .ref 203, .ref 204, .ref 205, .ref 206, .ref 207, .ref 208, .ref 209, .ref 210, .ref 211, .ref 212, .ref 213, .ref 214, .ref 215, .ref 216, .ref 217, .ref 218, .ref 219, .ref 220, .ref 221, .ref 222, .ref 223, .ref 224, .ref 225, .ref 226, .ref 227, .ref 228, .ref 229, .ref 230, .ref 231, .ref 232, .ref 233, .ref 234, .ref 235, .ref 236, .ref 237, .ref 238, .ref 239, .ref 240, .ref 241, .ref 242, .ref 243, .ref 244, .ref 245, .ref 246, .ref 247, .ref 248, .ref 249, .ref 250, .ref 251, .ref 252, .ref 253, .ref 254, .ref 255, .ref 256, .ref 257, .ref 258, .ref 259, .ref 260, .ref 261, .ref 262, .ref 263, .ref 264, .ref 265], vm := .none },
  { cls := 8, slots := #[.null, .int 0, .int 0], vm := .none },
  { cls := 8, slots := #[.null, .int 2, .int 0], vm := .none },
  { cls := 8, slots := #[.null, .int 3, .int 0], vm := .none },
  { cls := 8, slots := #[.null, .int 5, .int 0], vm := .none },
  { cls := 8, slots := #[.null, .int 1, .int 0], vm := .none },
  { cls := 8, slots := #[.null, .int 4, .int 0], vm := .none },
  { cls := 8, slots := #[.null, .int 6, .int 0], vm := .none },
  { cls := 11, slots := #[.int (-128)], vm := .none },
  { cls := 11, slots := #[.int (-127)], vm := .none },
  { cls := 11, slots := #[.int (-126)], vm := .none },
  { cls := 11, slots := #[.int (-125)], vm := .none },
  { cls := 11, slots := #[.int (-124)], vm := .none },
  { cls := 11, slots := #[.int (-123)], vm := .none },
  { cls := 11, slots := #[.int (-122)], vm := .none },
  { cls := 11, slots := #[.int (-121)], vm := .none },
  { cls := 11, slots := #[.int (-120)], vm := .none },
  { cls := 11, slots := #[.int (-119)], vm := .none },
  { cls := 11, slots := #[.int (-118)], vm := .none },
  { cls := 11, slots := #[.int (-117)], vm := .none },
  { cls := 11, slots := #[.int (-116)], vm := .none },
  { cls := 11, slots := #[.int (-115)], vm := .none },
  { cls := 11, slots := #[.int (-114)], vm := .none },
  { cls := 11, slots := #[.int (-113)], vm := .none },
  { cls := 11, slots := #[.int (-112)], vm := .none },
  { cls := 11, slots := #[.int (-111)], vm := .none },
  { cls := 11, slots := #[.int (-110)], vm := .none },
  { cls := 11, slots := #[.int (-109)], vm := .none },
  { cls := 11, slots := #[.int (-108)], vm := .none },
  { cls := 11, slots := #[.int (-107)], vm := .none },
  { cls := 11, slots := #[.int (-106)], vm := .none },
  { cls := 11, slots := #[.int (-105)], vm := .none },
  { cls := 11, slots := #[.int (-104)], vm := .none },
  { cls := 11, slots := #[.int (-103)], vm := .none },
  { cls := 11, slots := #[.int (-102)], vm := .none },
  { cls := 11, slots := #[.int (-101)], vm := .none },
  { cls := 11, slots := #[.int (-100)], vm := .none },
  { cls := 11, slots := #[.int (-99)], vm := .none },
  { cls := 11, slots := #[.int (-98)], vm := .none },
  { cls := 11, slots := #[.int (-97)], vm := .none },
  { cls := 11, slots := #[.int (-96)], vm := .none },
  { cls := 11, slots := #[.int (-95)], vm := .none },
  { cls := 11, slots := #[.int (-94)], vm := .none },
  { cls := 11, slots := #[.int (-93)], vm := .none },
  { cls := 11, slots := #[.int (-92)], vm := .none },
  { cls := 11, slots := #[.int (-91)], vm := .none },
  { cls := 11, slots := #[.int (-90)], vm := .none },
  { cls := 11, slots := #[.int (-89)], vm := .none },
  { cls := 11, slots := #[.int (-88)], vm := .none },
  { cls := 11, slots := #[.int (-87)], vm := .none },
  { cls := 11, slots := #[.int (-86)], vm := .none },
  { cls := 11, slots := #[.int (-85)], vm := .none },
  { cls := 11, slots := #[.int (-84)], vm := .none },
  { cls := 11, slots := #[.int (-83)], vm := .none },
  { cls := 11, slots := #[.int (-82)], vm := .none },
  { cls := 11, slots := #[.int (-81)], vm := .none },
  { cls := 11, slots := #[.int (-80)], vm := .none },
  { cls := 11, slots := #[.int (-79)], vm := .none },
  { cls := 11, slots := #[.int (-78)], vm := .none },
  { cls := 11, slots := #[.int (-77)], vm := .none },
  { cls := 11, slots := #[.int (-76)], vm := .none },
  { cls := 11, slots := #[.int (-75)], vm := .none },
  { cls := 11, slots := #[.int (-74)], vm := .none },
  { cls := 11, slots := #[.int (-73)], vm := .none },
  { cls := 11, slots := #[.int (-72)], vm := .none },
  { cls := 11, slots := #[.int (-71)], vm := .none },
  { cls := 11, slots := #[.int (-70)], vm := .none },
  { cls := 11, slots := #[.int (-69)], vm := .none },
  { cls := 11, slots := #[.int (-68)], vm := .none },
  { cls := 11, slots := #[.int (-67)], vm := .none },
  { cls := 11, slots := #[.int (-66)], vm := .none },
  { cls := 11, slots := #[.int (-65)], vm := .none },
  { cls := 11, slots := #[.int (-64)], vm := .none },
  { cls := 11, slots := #[.int (-63)], vm := .none },
  { cls := 11, slots := #[.int (-62)], vm := .none },
  { cls := 11, slots := #[.int (-61)], vm := .none },
  { cls := 11, slots := #[.int (-60)], vm := .none },
  { cls := 11, slots := #[.int (-59)], vm := .none },
  { cls := 11, slots := #[.int (-58)], vm := .none },
  { cls := 11, slots := #[.int (-57)], vm := .none },
  { cls := 11, slots := #[.int (-56)], vm := .none },
  { cls := 11, slots := #[.int (-55)], vm := .none },
  { cls := 11, slots := #[.int (-54)], vm := .none },
  { cls := 11, slots := #[.int (-53)], vm := .none },
  { cls := 11, slots := #[.int (-52)], vm := .none },
  { cls := 11, slots := #[.int (-51)], vm := .none },
  { cls := 11, slots := #[.int (-50)], vm := .none },
  { cls := 11, slots := #[.int (-49)], vm := .none },
  { cls := 11, slots := #[.int (-48)], vm := .none },
  { cls := 11, slots := #[.int (-47)], vm := .none },
  { cls := 11, slots := #[.int (-46)], vm := .none },
  { cls := 11, slots := #[.int (-45)], vm := .none },
  { cls := 11, slots := #[.int (-44)], vm := .none },
  { cls := 11, slots := #[.int (-43)], vm := .none },
  { cls := 11, slots := #[.int (-42)], vm := .none },
  { cls := 11, slots := #[.int (-41)], vm := .none },
  { cls := 11, slots := #[.int (-40)], vm := .none },
  { cls := 11, slots := #[.int (-39)], vm := .none },
  { cls := 11, slots := #[.int (-38)], vm := .none },
  { cls := 11, slots := #[.int (-37)], vm := .none },
  { cls := 11, slots := #[.int (-36)], vm := .none },
  { cls := 11, slots := #[.int (-35)], vm := .none },
  { cls := 11, slots := #[.int (-34)], vm := .none },
  { cls := 11, slots := #[.int (-33)], vm := .none },
  { cls := 11, slots := #[.int (-32)], vm := .none },
  { cls := 11, slots := #[.int (-31)], vm := .none },
  { cls := 11, slots := #[.int (-30)], vm := .none },
  { cls := 11, slots := #[.int (-29)], vm := .none },
  { cls := 11, slots := #[.int (-28)], vm := .none },
  { cls := 11, slots := #[.int (-27)], vm := .none },
  { cls := 11, slots := #[.int (-26)], vm := .none },
  { cls := 11, slots := #[.int (-25)], vm := .none },
  { cls := 11, slots := #[.int (-24)], vm := .none },
  { cls := 11, slots := #[.int (-23)], vm := .none },
  { cls := 11, slots := #[.int (-22)], vm := .none },
  { cls := 11, slots := #[.int (-21)], vm := .none },
  { cls := 11, slots := #[.int (-20)], vm := .none },
  { cls := 11, slots := #[.int (-19)], vm := .none },
  { cls := 11, slots := #[.int (-18)], vm := .none },
  { cls := 11, slots := #[.int (-17)], vm := .none },
  { cls := 11, slots := #[.int (-16)], vm := .none },
  { cls := 11, slots := #[.int (-15)], vm := .none },
  { cls := 11, slots := #[.int (-14)], vm := .none },
  { cls := 11, slots := #[.int (-13)], vm := .none },
  { cls := 11, slots := #[.int (-12)], vm := .none },
  { cls := 11, slots := #[.int (-11)], vm := .none },
  { cls := 11, slots := #[.int (-10)], vm := .none },
  { cls := 11, slots := #[.int (-9)], vm := .none },
  { cls := 11, slots := #[.int (-8)], vm := .none },
  { cls := 11, slots := #[.int (-7)], vm := .none },
  { cls := 11, slots := #[.int (-6)], vm := .none },
  { cls := 11, slots := #[.int (-5)], vm := .none },
  { cls := 11, slots := #[.int (-4)], vm := .none },
  { cls := 11, slots := #[.int (-3)], vm := .none },
  { cls := 11, slots := #[.int (-2)], vm := .none },
  { cls := 11, slots := #[.int (-1)], vm := .none },
  { cls := 11, slots := #[.int 0], vm := .none },
  { cls := 11, slots := #[.int 1], vm := .none },
  { cls := 11, slots := #[.int 2], vm := .none },
  { cls := 11, slots := #[.int 3], vm := .none },
  { cls := 11, slots := #[.int 4], vm := .none },
  { cls := 11, slots := #[.int 5], vm := .none },
  { cls := 11, slots := #[.int 6], vm := .none },
  { cls := 11, slots := #[.int 7], vm := .none },
  { cls := 11, slots := #[.int 8], vm := .none },
  { cls := 11, slots := #[.int 9], vm := .none },
  { cls := 11, slots := #[.int 10], vm := .none },
  { cls := 11, slots := #[.int 11], vm := .none },
  { cls := 11, slots := #[.int 12], vm := .none },
  { cls := 11, slots := #[.int 13], vm := .none },
  { cls := 11, slots := #[.int 14], vm := .none },
  { cls := 11, slots := #[.int 15], vm := .none },
  { cls := 11, slots := #[.int 16], vm := .none },
  { cls := 11, slots := #[.int 17], vm := .none },
  { cls := 11, slots := #[.int 18], vm := .none },
  { cls := 11, slots := #[.int 19], vm := .none },
  { cls := 11, slots := #[.int 20], vm := .none },
  { cls := 11, slots := #[.int 21], vm := .none },
  { cls := 11, slots := #[.int 22], vm := .none },
  { cls := 11, slots := #[.int 23], vm := .none },
  { cls := 11, slots := #[.int 24], vm := .none },
  { cls := 11, slots := #[.int 25], vm := .none },
  { cls := 11, slots := #[.int 26], vm := .none },
  { cls := 11, slots := #[.int 27], vm := .none },
  { cls := 11, slots := #[.int 28], vm := .none },
  { cls := 11, slots := #[.int 29], vm := .none },
  { cls := 11, slots := #[.int 30], vm := .none },
  { cls := 11, slots := #[.int 31], vm := .none },
  { cls := 11, slots := #[.int 32], vm := .none },
  { cls := 11, slots := #[.int 33], vm := .none },
  { cls := 11, slots := #[.int 34], vm := .none },
  { cls := 11, slots := #[.int 35], vm := .none },
  { cls := 11, slots := #[.int 36], vm := .none },
  { cls := 11, slots := #[.int 37], vm := .none },
  { cls := 11, slots := #[.int 38], vm := .none },
  { cls := 11, slots := #[.int 39], vm := .none },
  { cls := 11, slots := #[.int 40], vm := .none },
  { cls := 11, slots := #[.int 41], vm := .none },
  { cls := 11, slots := #[.int 42], vm := .none },
  { cls := 11, slots := #[.int 43], vm := .none },
  { cls := 11, slots := #[.int 44], vm := .none },
  { cls := 11, slots := #[.int 45], vm := .none },
  { cls := 11, slots := #[.int 46], vm := .none },
  { cls := 11, slots := #[.int 47], vm := .none },
  { cls := 11, slots := #[.int 48], vm := .none },
  { cls := 11, slots := #[.int 49], vm := .none },
  { cls := 11, slots := #[.int 50], vm := .none },
  { cls := 11, slots := #[.int 51], vm := .none },
  { cls := 11, slots := #[.int 52], vm := .none },
  { cls := 11, slots := #[.int 53], vm := .none },
  { cls := 11, slots := #[.int 54], vm := .none },
  { cls := 11, slots := #[.int 55], vm := .none },
  { cls := 11, slots := #[.int 56], vm := .none },
  { cls := 11, slots := #[.int 57], vm := .none },
  { cls := 11, slots := #[.int 58], vm := .none },
  { cls := 11, slots := #[.int 59], vm := .none },
  { cls := 11, slots := #[.int 60], vm := .none },
  { cls := 11, slots := #[.int 61], vm := .none },
  { cls := 11, slots := #[.int 62], vm := .none },
  { cls := 11, slots := #[.int 63], vm := .none },
  { cls := 11, slots := #[.int 64], vm := .none },
  { cls := 11, slots := #[.int 65], vm := .none },
  { cls := 11, slots := #[.int 66], vm := .none },
  { cls := 11, slots := #[.int 67], vm := .none },
  { cls := 11, slots := #[.int 68], vm := .none },
  { cls := 11, slots := #[.int 69], vm := .none },
  { cls := 11, slots := #[.int 70], vm := .none },
  { cls := 11, slots := #[.int 71], vm := .none },
  { cls := 11, slots := #[.int 72], vm := .none },
  { cls := 11, slots := #[.int 73], vm := .none },
  { cls := 11, slots := #[.int 74], vm := .none },
  { cls := 11, slots := #[.int 75], vm := .none },
  { cls := 11, slots := #[.int 76], vm := .none },
  { cls := 11, slots := #[.int 77], vm := .none },
  { cls := 11, slots := #[.int 78], vm := .none },
  { cls := 11, slots := #[.int 79], vm := .none },
  { cls := 11, slots := #[.int 80], vm := .none },
  { cls := 11, slots := #[.int 81], vm := .none },
  { cls := 11, slots := #[.int 82], vm := .none },
  { cls := 11, slots := #[.int 83], vm := .none },
  { cls := 11, slots := #[.int 84], vm := .none },
  { cls := 11, slots := #[.int 85], vm := .none },
  { cls := 11, slots := #[.int 86], vm := .none },
  { cls := 11, slots := #[.int 87], vm := .none },
  { cls := 11, slots := #[.int 88], vm := .none },
  { cls := 11, slots := #[.int 89], vm := .none },
  { cls := 11, slots := #[.int 90], vm := .none },
  { cls := 11, slots := #[.int 91], vm := .none },
  { cls := 11, slots := #[.int 92], vm := .none },
  { cls := 11, slots := #[.int 93], vm := .none },
  { cls := 11, slots := #[.int 94], vm := .none },
  { cls := 11, slots := #[.int 95], vm := .none },
  { cls := 11, slots := #[.int 96], vm := .none },
  { cls := 11, slots := #[.int 97], vm := .none },
  { cls := 11, slots := #[.int 98], vm := .none },
  { cls := 11, slots := #[.int 99], vm := .none },
  { cls := 11, slots := #[.int 100], vm := .none },
  { cls := 11, slots := #[.int 101], vm := .none },
  { cls := 11, slots := #[.int 102], vm := .none },
  { cls := 11, slots := #[.int 103], vm := .none },
  { cls := 11, slots := #[.int 104], vm := .none },
  { cls := 11, slots := #[.int 105], vm := .none },
  { cls := 11, slots := #[.int 106], vm := .none },
  { cls := 11, slots := #[.int 107], vm := .none },
  { cls := 11, slots := #[.int 108], vm := .none },
  { cls := 11, slots := #[.int 109], vm := .none },
  { cls := 11, slots := #[.int 110], vm := .none },
  { cls := 11, slots := #[.int 111], vm := .none },
  { cls := 11, slots := #[.int 112], vm := .none },
  { cls := 11, slots := #[.int 113], vm := .none },
  { cls := 11, slots := #[.int 114], vm := .none },
  { cls := 11, slots := #[.int 115], vm := .none },
  { cls := 11, slots := #[.int 116], vm := .none },
  { cls := 11, slots := #[.int 117], vm := .none },
  { cls := 11, slots := #[.int 118], vm := .none },
  { cls := 11, slots := #[.int 119], vm := .none },
  { cls := 11, slots := #[.int 120], vm := .none },
  { cls := 11, slots := #[.int 121], vm := .none },
  { cls := 11, slots := #[.int 122], vm := .none },
  { cls := 11, slots := #[.int 123], vm := .none },
  { cls := 11, slots := #[.int 124], vm := .none },
  { cls := 11, slots := #[.int 125], vm := .none },
  { cls := 11, slots := #[.int 126], vm := .none },
  { cls := 11, slots := #[.int 127], vm := .none }]
def classes : Array Class := #[k0, k1, k2, k3, k4, k5, k6, k7, k8, k9, k10, k11, k12, k13, k14, k15, k16, k17, k18]
def interned : List (Array UInt16 × Addr) := []
def slotsUsed : Nat := 546
def theMethod : MethodId := ⟨1, 3⟩
def args0 : Array Value := #[.int 5, .int 7, .int 3, .int 2, .int 1]
def aboutOver (below : List Frame) : State where
  vm := { classes := classes, interned := interned.toArray }
  heap := heap
  slotsUsed := slotsUsed
  threads := #[{ frames := .invoking theMethod args0 :: below }]
def below0 : List Frame := [.native { method := ⟨0, 0⟩, args := #[] }]
def about1 : State := aboutOver below0
def p0 : Program := .bare "" "" ""
def e0 : Env := launch0.env 0 0 0
theorem w_frames : about1.frames = Frame.invoking theMethod args0 :: below0 := rfl
set_option maxRecDepth 65536 in
theorem w_args : argsFit about1.vm theMethod args0 = true := by decide +kernel
set_option maxRecDepth 65536 in
theorem w_heap : heapFits about1 = true := by decide +kernel
set_option maxRecDepth 65536 in
theorem w_runnable : about1.curStatus? = some .runnable := by decide +kernel
set_option maxRecDepth 65536 in
theorem w_alone : about1.alone = true := by decide +kernel
set_option maxRecDepth 65536 in
theorem w_named : about1.methodNamed? x = some theMethod := by decide +kernel
set_option maxRecDepth 65536 in
theorem w_hears : about1.hears theMethod below0 = true := by decide +kernel
set_option maxRecDepth 65536 in
theorem w_ripe : about1.ripe theMethod args0 below0 = true := by decide +kernel
theorem w_running : about1.status = .running := rfl
set_option maxRecDepth 65536 in
theorem w_room : about1.hasRoom e0.platform room_1 = true :=
  launch0.hasRoom_least _ room_1 (by decide +kernel) (by decide +kernel) (by decide +kernel) (by decide +kernel) (by decide +kernel) (by decide +kernel)
theorem allAtoms_all (ts : List Jvm.Cond) (a : Array Jvm.Value) (st : Jvm.State) : (allAtoms ts).before a st = ts.all (fun c => c.before a st) := by
  induction ts with
  | nil => rfl
  | cons c t ih =>
    show (Jvm.Cond.and c (allAtoms t)).before a st = _
    rw [Jvm.Cond.before_and, ih, List.all_cons]
def words1 : List Jvm.Cond := Jvm.Cond.code x code maxLocals ret :: tables_1
/-- a 'code' word, met by the world's own term for the bytes: nothing is compared byte by byte -/
theorem code_word {y : MethodName} {bytes : ByteArray} {mx : Nat} {rt : Option FieldType} {a : Array Value} {s : State} {m : MethodId} {meth : Method} {c : Code} (h1 : s.methodNamed? y = some m) (h2 : s.vm.method? m = some meth) (h3 : meth.code = some c) (h4 : c.code = bytes)
    (h5 : (c.maxLocals == mx && c.exceptionTable.isEmpty && decide (c.maxStack ≤ mostOperands) && decide (meth.sig.returnType = rt) && !meth.locks && decide (parseMethodDescriptor y.desc = some meth.sig)) = true) : (Jvm.Cond.code y bytes mx rt).before a s = true := by
  simp only [Bool.and_eq_true, beq_iff_eq, Bool.not_eq_true', decide_eq_true_eq] at h5
  obtain ⟨⟨⟨⟨⟨g1, g2⟩, g3⟩, g4⟩, g5⟩, g6⟩ := h5
  simp [Cond.before, Cond.holds, Cond.value, h1, h2, h3, h4, g1, g2, g3, g4, g5, g6]
def isCode : Jvm.Cond → Bool
  | .code _ _ _ _ => true
  | _ => false
theorem all_split {L : List Jvm.Cond} {P : Jvm.Cond → Bool} (h1 : L.all (fun c => isCode c || P c) = true) (h2 : ∀ c ∈ L.filter isCode, P c = true) : L.all P = true := by
  refine List.all_eq_true.mpr fun c hc => ?_
  have h := List.all_eq_true.mp h1 c hc
  rcases Bool.eq_false_or_eq_true (isCode c) with hi | hi
  · exact h2 c (List.mem_filter.mpr ⟨hc, hi⟩)
  · simpa [hi] using h
set_option maxRecDepth 65536 in
theorem w_c0 : (Jvm.Cond.code x code maxLocals ret).before args0 about1 = true := code_word (m := ⟨1, 3⟩) (meth := k1m3) (c := k1c3) (by decide +kernel) rfl rfl rfl (by decide +kernel)
set_option maxRecDepth 65536 in
theorem w_c1 : (Jvm.Cond.code ({ cls := "com/example/glyphdelve/glyphdelve/cli/KeyEqualsPinLaw", name := "idx", desc := "(I)I" } : Jvm.MethodName) method_2_code (1 : Nat) (Option.some Jvm.ClassFile.FieldType.int)).before args0 about1 = true := code_word (m := ⟨1, 1⟩) (meth := k1m1) (c := k1c1) (by decide +kernel) rfl rfl rfl (by decide +kernel)
set_option maxRecDepth 65536 in
theorem w_c2 : (Jvm.Cond.code ({ cls := "com/example/glyphdelve/glyphdelve/cli/KeyEqualsPinLaw", name := "kind", desc := "(I)Lcom/example/glyphdelve/glyphdelve/cli/Key$Kind;" } : Jvm.MethodName) method_3_code (1 : Nat) (Option.some (Jvm.ClassFile.FieldType.object "com/example/glyphdelve/glyphdelve/cli/Key$Kind"))).before args0 about1 = true := code_word (m := ⟨1, 2⟩) (meth := k1m2) (c := k1c2) (by decide +kernel) rfl rfl rfl (by decide +kernel)
set_option maxRecDepth 65536 in
theorem w_c3 : (Jvm.Cond.code ({ cls := "com/example/glyphdelve/glyphdelve/cli/Key", name := "<init>", desc := "(Lcom/example/glyphdelve/glyphdelve/cli/Key$Kind;C)V" } : Jvm.MethodName) prog_33_method_1_code (3 : Nat) (Option.none : Option Jvm.ClassFile.FieldType)).before args0 about1 = true := code_word (m := ⟨3, 0⟩) (meth := k3m0) (c := k3c0) (by decide +kernel) rfl rfl rfl (by decide +kernel)
set_option maxRecDepth 65536 in
theorem w_c4 : (Jvm.Cond.code ({ cls := "java/lang/Record", name := "<init>", desc := "()V" } : Jvm.MethodName) jdk_30_method_1_code (1 : Nat) (Option.none : Option Jvm.ClassFile.FieldType)).before args0 about1 = true := code_word (m := ⟨2, 0⟩) (meth := k2m0) (c := k2c0) (by decide +kernel) rfl rfl rfl (by decide +kernel)
set_option maxRecDepth 65536 in
theorem w_c5 : (Jvm.Cond.code ({ cls := "java/lang/Object", name := "<init>", desc := "()V" } : Jvm.MethodName) object_method_1_code (1 : Nat) (Option.none : Option Jvm.ClassFile.FieldType)).before args0 about1 = true := code_word (m := ⟨0, 0⟩) (meth := k0m0) (c := k0c0) (by decide +kernel) rfl rfl rfl (by decide +kernel)
set_option maxRecDepth 65536 in
theorem w_c6 : (Jvm.Cond.code ({ cls := "java/lang/Integer", name := "valueOf", desc := "(I)Ljava/lang/Integer;" } : Jvm.MethodName) jdk_33_method_22_code (1 : Nat) (Option.some (Jvm.ClassFile.FieldType.object "java/lang/Integer"))).before args0 about1 = true := code_word (m := ⟨11, 0⟩) (meth := k11m0) (c := k11c0) (by decide +kernel) rfl rfl rfl (by decide +kernel)
set_option maxRecDepth 65536 in
theorem w_c7 : (Jvm.Cond.code ({ cls := "com/example/glyphdelve/glyphdelve/cli/Key", name := "equals", desc := "(Ljava/lang/Object;)Z" } : Jvm.MethodName) prog_33_method_3_code (3 : Nat) (Option.some Jvm.ClassFile.FieldType.boolean)).before args0 about1 = true := code_word (m := ⟨3, 1⟩) (meth := k3m1) (c := k3c1) (by decide +kernel) rfl rfl rfl (by decide +kernel)
set_option maxRecDepth 65536 in
theorem w_c8 : (Jvm.Cond.code ({ cls := "java/lang/Integer", name := "<init>", desc := "(I)V" } : Jvm.MethodName) jdk_33_method_23_code (2 : Nat) (Option.none : Option Jvm.ClassFile.FieldType)).before args0 about1 = true := code_word (m := ⟨11, 1⟩) (meth := k11m1) (c := k11c1) (by decide +kernel) rfl rfl rfl (by decide +kernel)
set_option maxRecDepth 65536 in
theorem w_c9 : (Jvm.Cond.code ({ cls := "java/lang/Number", name := "<init>", desc := "()V" } : Jvm.MethodName) jdk_18_method_1_code (1 : Nat) (Option.none : Option Jvm.ClassFile.FieldType)).before args0 about1 = true := code_word (m := ⟨9, 0⟩) (meth := k9m0) (c := k9c0) (by decide +kernel) rfl rfl rfl (by decide +kernel)
def codes1 : List Jvm.Cond := [Jvm.Cond.code x code maxLocals ret, Jvm.Cond.code ({ cls := "com/example/glyphdelve/glyphdelve/cli/KeyEqualsPinLaw", name := "idx", desc := "(I)I" } : Jvm.MethodName) method_2_code (1 : Nat) (Option.some Jvm.ClassFile.FieldType.int), Jvm.Cond.code ({ cls := "com/example/glyphdelve/glyphdelve/cli/KeyEqualsPinLaw", name := "kind", desc := "(I)Lcom/example/glyphdelve/glyphdelve/cli/Key$Kind;" } : Jvm.MethodName) method_3_code (1 : Nat) (Option.some (Jvm.ClassFile.FieldType.object "com/example/glyphdelve/glyphdelve/cli/Key$Kind")), Jvm.Cond.code ({ cls := "com/example/glyphdelve/glyphdelve/cli/Key", name := "<init>", desc := "(Lcom/example/glyphdelve/glyphdelve/cli/Key$Kind;C)V" } : Jvm.MethodName) prog_33_method_1_code (3 : Nat) (Option.none : Option Jvm.ClassFile.FieldType), Jvm.Cond.code ({ cls := "java/lang/Record", name := "<init>", desc := "()V" } : Jvm.MethodName) jdk_30_method_1_code (1 : Nat) (Option.none : Option Jvm.ClassFile.FieldType), Jvm.Cond.code ({ cls := "java/lang/Object", name := "<init>", desc := "()V" } : Jvm.MethodName) object_method_1_code (1 : Nat) (Option.none : Option Jvm.ClassFile.FieldType), Jvm.Cond.code ({ cls := "java/lang/Integer", name := "valueOf", desc := "(I)Ljava/lang/Integer;" } : Jvm.MethodName) jdk_33_method_22_code (1 : Nat) (Option.some (Jvm.ClassFile.FieldType.object "java/lang/Integer")), Jvm.Cond.code ({ cls := "com/example/glyphdelve/glyphdelve/cli/Key", name := "equals", desc := "(Ljava/lang/Object;)Z" } : Jvm.MethodName) prog_33_method_3_code (3 : Nat) (Option.some Jvm.ClassFile.FieldType.boolean), Jvm.Cond.code ({ cls := "java/lang/Integer", name := "<init>", desc := "(I)V" } : Jvm.MethodName) jdk_33_method_23_code (2 : Nat) (Option.none : Option Jvm.ClassFile.FieldType), Jvm.Cond.code ({ cls := "java/lang/Number", name := "<init>", desc := "()V" } : Jvm.MethodName) jdk_18_method_1_code (1 : Nat) (Option.none : Option Jvm.ClassFile.FieldType)]
set_option maxRecDepth 65536 in
theorem codes_eq : words1.filter isCode = codes1 := rfl
theorem w_codes : ∀ c ∈ words1.filter isCode, c.before args0 about1 = true := by
  rw [codes_eq]
  intro c hc
  simp only [codes1, List.mem_cons, List.not_mem_nil, or_false] at hc
  rcases hc with rfl | rfl | rfl | rfl | rfl | rfl | rfl | rfl | rfl | rfl
  · exact w_c0
  · exact w_c1
  · exact w_c2
  · exact w_c3
  · exact w_c4
  · exact w_c5
  · exact w_c6
  · exact w_c7
  · exact w_c8
  · exact w_c9
set_option maxRecDepth 65536 in
theorem w_t1 : (words1.take 24).all (fun c => isCode c || c.before args0 about1) = true := by decide +kernel
set_option maxRecDepth 65536 in
theorem w_t2 : ((words1.drop 24).take 24).all (fun c => isCode c || c.before args0 about1) = true := by decide +kernel
set_option maxRecDepth 65536 in
theorem w_t3 : (((words1.drop 24).drop 24).take 24).all (fun c => isCode c || c.before args0 about1) = true := by decide +kernel
set_option maxRecDepth 65536 in
theorem w_t4 : (((words1.drop 24).drop 24).drop 24).all (fun c => isCode c || c.before args0 about1) = true := by decide +kernel
theorem w_tables : (allAtoms (Jvm.Cond.code x code maxLocals ret :: tables_1)).before args0 about1 = true := by
  rw [allAtoms_all]
  show words1.all (fun c => c.before args0 about1) = true
  refine all_split ?_ w_codes
  rw [← List.take_append_drop 24 words1, List.all_append, w_t1, ← List.take_append_drop 24 (words1.drop 24), List.all_append, w_t2, ← List.take_append_drop 24 ((words1.drop 24).drop 24), List.all_append, w_t3, w_t4]
  rfl
set_option maxRecDepth 65536 in
theorem w_rest : rest_1_c.before args0 about1 = true := by decide +kernel
set_option maxRecDepth 65536 in
theorem w_case : (Jvm.Cond.and given_1 narrow_1).before args0 about1 = true := by decide +kernel
theorem w_applies : (headSpec (Jvm.Cond.code x code maxLocals ret :: tables_1) room_1).applies x e0.platform about1 = true :=
  (Spec.applies_iff w_frames).mpr ⟨w_running, w_runnable, w_alone, w_named, w_hears, w_ripe, w_room, w_tables⟩
theorem atStart : AtStart classFile x code maxLocals ret World_1 tables_1 room_1 Calls_1 rest_1 Pre_1 launch0 p0 e0 about1 theMethod args0 below0 :=
  ⟨lists_1, trivial, launch0.admits_env _ _ _, launch0.least_env, fairChoices_fair.cas, fairChoices_fair.clock, w_frames, w_args, w_heap, w_applies, trivial, w_rest, w_case⟩
end start1
theorem witness_1 : WitnessClaimed_1 := ⟨start1.p0, start1.e0, start1.about1, start1.theMethod, start1.args0, start1.below0, start1.atStart⟩
end Jvm.Pilot.@@N@@
