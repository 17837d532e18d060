import JvmDerived
import JvmDerived.Pilot.@@N@@Statement
import JvmDerived.Pilot.@@N@@Code
set_option linter.unusedVariables false
set_option linter.unusedSimpArgs false
namespace Jvm.Pilot.@@N@@
open Jvm Jvm.ClassFile Sem Op Lib Jvm.Free Jvm.Stand Jvm.LawKit Jvm.RoadKit Bundle Jvm.Pilot.@@N@@.Jvm.D
section Own
variable {p : Program} {l : Launch} {e : Env} {R : Room} {s : State} {m : MethodId} {args : Array Value} {below : List Frame} {meth : Method} {c : Code} {T : State} {locs : List Loc} {cells slots : Nat}
def Ends (p : Program) (e : Env) (below : List Frame) (Q : Outcome → State → Prop) (S : State) : Prop := ∃ s₂ o, Steps p.tables e below S s₂ ∧ s₂.status = .running ∧ Ended s₂ below o ∧ Q o s₂
theorem Ends.opn {Q : Outcome → State → Prop} {S : State} (h : ∀ QQ : Outcome → State → Prop, (∀ o t, Q o t → QQ o t) → Ends p e below QQ S) : ∃ s₂ o, Steps p.tables e below S s₂ ∧ s₂.status = .running ∧ Ended s₂ below o ∧ Q o s₂ := h Q fun _ _ q => q
theorem Ends.step {Q : Outcome → State → Prop} {S S' : State} (k : ∀ t, Steps p.tables e below S' t → Steps p.tables e below S t) (h : Ends p e below Q S') : Ends p e below Q S := by
  obtain ⟨a, o, h1, h2⟩ := h
  exact ⟨a, o, k _ h1, h2⟩
theorem Ends.fin {QQ : Outcome → State → Prop} {Q : Option Value → Heap → List Loc → Prop} {cl sl : Nat} {g : JFrame} {h : Heap} (v : Option Value) (X : Stand p l e R s m args below meth c T locs cells slots)
    (hQQ : ∀ o t, (∃ v L, o = .returned v ∧ Q v t.heap L ∧ FrameEnd s o t L cl sl) → QQ o t) (hv : meth.sig.returnType = none → v = none) (hlocks : meth.locks = false)
    (hstep : ∀ fs, (∀ (f : JFrame) (acts : List Action), f.method = m → f.locked = none → f.entered = [] → (doReturn e (T.setTop f) acts v).1 = T.setFrames fs) → Steps p.tables e below (T.setTop g) (T.setFrames fs))
    (eT : T.heap = h) (hc : cells ≤ cl) (hs : slots ≤ sl) (q : Q v h locs) : Ends p e below QQ (T.setTop g) := by
  obtain ⟨fs, hr, hrun, hended, hW, hsame⟩ := X.leave hv hlocks
  subst eT
  exact ⟨_, _, hstep fs hr, hrun, hended, hQQ _ _ ⟨v, locs, rfl, q, ⟨_, rfl⟩, hW, hsame.mono hc hs⟩⟩
theorem Ends.finW {QQ : Outcome → State → Prop} {Q : Option Value → Heap → List Loc → Prop} {cl sl : Nat} {g : JFrame} {h : Heap} {vm0 : Vm} {n : Nat} (v : Option Value) (X : Stand p l e R (s.setVm vm0) m args below meth c T locs cells slots) (hS : s.Since vm0 n) (hn : n ≤ h.size)
    (hQQ : ∀ o t, (∃ v L, o = .returned v ∧ Q v t.heap L ∧ ReturnedEndW s o t L cl sl) → QQ o t) (hv : meth.sig.returnType = none → v = none) (hlocks : meth.locks = false)
    (hstep : ∀ fs, (∀ (f : JFrame) (acts : List Action), f.method = m → f.locked = none → f.entered = [] → (doReturn e (T.setTop f) acts v).1 = T.setFrames fs) → Steps p.tables e below (T.setTop g) (T.setFrames fs))
    (eT : T.heap = h) (hc : cells ≤ cl) (hs : slots ≤ sl) (q : Q v h locs) : Ends p e below QQ (T.setTop g) := by
  subst eT
  obtain ⟨fs, hr, hrun, hended, hW⟩ := X.leaveW hS hn hv hlocks
  exact ⟨_, _, hstep fs hr, hrun, hended, hQQ _ _ ⟨v, locs, rfl, q, hW.1, hW.2.1, hW.2.2.1, hW.2.2.2.mono hc hs⟩⟩
theorem own_cp0 (X : Stand p l e R s m args below meth c T locs cells slots) (hx : p.tables.exec = Jvm.exec) {Z : State} (hZ : Z.Warmed39 s.vm) {a0 : Array Value} {own : String} {index : Nat} (hown : s.vm.findClass own = some m.cls)
    (w1 : (Jvm.Cond.methodLink own index Jvm.Stand.acN).before a0 Z = true) (w2 : (Jvm.Cond.native Jvm.Stand.acN).before a0 Z = true) (w3 : (Jvm.Cond.static Jvm.Stand.acN).before a0 Z = true) (w4 : (Jvm.Cond.initialized "java/lang/System").before a0 Z = true) {h : Heap} (eT : T.heap = h)
    {a b : Addr} {k k' : ClassId} {ty : FieldType} {z z' sp dp : Int32} {vs vd : List Value} {dv dd : Value} (A : Arv Z h a k ty z vs dv) (B : Arv Z h b k' ty z' vd dd) (h1 : sp = 0) (h2 : dp = 0)
    {g : JFrame} (hg : g.method = m) (hsize : g.locals.size = c.maxLocals) {rest : List Value} (hs : g.stack = .int 0 :: .int dp :: .ref b :: .int sp :: .ref a :: rest) (hd : decode c.code g.pc = .ok (.invokestatic index, 3))
    (hf : 1 ≤ R.frames) {W : Nat} (hW : 2 * g.monitorRoom + (rest.map fun v => v.category).sum ≤ W) (hlo : W + (nativeFrameWords "java/lang/System" "arraycopy" 5 + 11) ≤ R.locals) :
    ∃ T', Stand p l e R s m args below meth c T' locs cells slots ∧ T'.heap = h ∧ ∀ target, Steps p.tables e below (T'.setTop { g with pc := g.pc + 3, stack := rest }) target → Steps p.tables e below (T.setTop g) target := by
  subst h1 h2 eT
  obtain ⟨cs, As, -, Ss, -, Hs, Gs⟩ := A
  obtain ⟨cd, Ad, qd, Sd, Nd, Hd, Gd⟩ := B
  obtain ⟨os, ks, hks, sc, hsk⟩ := State.isArrayOf_alike hZ.alike As.2.1
  obtain ⟨od, kd, hkd, dc, hdk⟩ := State.isArrayOf_alike hZ.alike Ad.2.1
  obtain ⟨vm₁, hW₁, X', st⟩ := X.arraycopyK hx hown (mvT hZ w1) (mvT hZ w2) (mvT hZ w3) (mvT hZ w4) As.1 Ad.1 os od As.2.2 Ad.2.2 hks hkd hsk hdk (by cases refKind ty <;> simp) (by decide) (by decide) (by decide)
    (by show ¬ ((0 : Int) + 0 > _); omega) (by show ¬ ((0 : Int) + 0 > _); omega) (fun vm₁ hw i hi => absurd hi (by show ¬ i < 0; omega)) hg hsize hs hd hf (Nat.le_trans (Nat.add_le_add_right hW _) hlo)
  have hL : locs ++ copyLocs b (0 : Int32).toNatClampNeg (0 : Int32).toNatClampNeg = locs := by simp [copyLocs]
  rw [hL] at X'
  refine ⟨_, X', ?_, st⟩
  have hc : copied cs cd (0 : Int32) (0 : Int32) (0 : Int32) = cd := rfl
  show T.heap.setIfInBounds b (copied cs cd (0 : Int32) (0 : Int32) (0 : Int32)) = T.heap
  rw [hc]
  apply Array.ext_getElem?
  intro i
  by_cases q : b = i
  · subst q
    rw [Array.getElem?_setIfInBounds_self_of_lt (Array.getElem?_eq_some_iff.mp Ad.1).1, Ad.1]
  · rw [Array.getElem?_setIfInBounds_ne q]
theorem own_arv_cell {Z : State} {h : Heap} {a : Addr} {k : ClassId} {ty : FieldType} {z : Int32} {vs : List Value} {dv : Value} (F : Arv Z h a k ty z vs dv) : ∃ c : Cell, h[a]? = some c ∧ ∀ q, c.vm ≠ .statics q := by
  obtain ⟨c, A, -⟩ := F
  exact ⟨c, A.1, fun q e => by have := A.plain; rw [e] at this; cases this⟩
theorem own_same {Z : State} {a0 : Array Value} {y x : MethodName} {K : String} (w3 : (Jvm.Cond.instanceMethod y).before a0 Z = true) (hy : y.cls ≠ "java/lang/invoke/MethodHandle" ∧ y.cls ≠ "java/lang/invoke/VarHandle") (hsel : (Jvm.Cond.selects K x x).before a0 Z = true) (hc : x.cls = y.cls) : (Jvm.Cond.sameMethod y.cls y.cls y.name y.desc).before a0 Z = true := by
  obtain ⟨mk, methM, hn, hm, -, -⟩ := Cond.instanceMethod_spec w3
  have hf := State.methodFound?_of_named hn hy
  have h1 := findClass_of_methodNamed hn
  obtain ⟨c2, r2, m2, q1, q2, q3, q4, kP, hkP, hkPi⟩ := Cond.selects_spec hsel
  have h2 := findClass_of_methodNamed q3
  rw [hc] at h2
  have e := Option.some.inj (h1.symm.trans h2)
  rw [← e] at hkP
  simp [Cond.before, Cond.holds, Cond.value, h1, hf, hn, hkP, hkPi]
theorem own_decl {Z : State} {a0 : Array Value} {y : MethodName} {bytes : ByteArray} {maxL : Nat} {ret : Option FieldType} (w3 : (Jvm.Cond.instanceMethod y).before a0 Z = true) (wc : (Jvm.Cond.code y bytes maxL ret).before a0 Z = true) : (Jvm.Cond.declares y).before a0 Z = true := by
  obtain ⟨mk, methM, hn, hm, hs, -⟩ := Cond.instanceMethod_spec w3
  obtain ⟨m2, cM, q1, -, -, -, -, -, -, hsig⟩ := Cond.code_spec hn wc
  cases hm.symm.trans q1
  simp [Cond.before, Cond.holds, Cond.value, hn, hm, hs, hsig]
theorem own_selp {Z : State} {a0 : Array Value} {y : MethodName} {n : Nat} (w1 : (Jvm.Cond.instantiable y.cls n).before a0 Z = true) (w2 : (Jvm.Cond.privateMethod y).before a0 Z = true) (w3 : (Jvm.Cond.instanceMethod y).before a0 Z = true) (hy : y.cls ≠ "java/lang/invoke/MethodHandle" ∧ y.cls ≠ "java/lang/invoke/VarHandle") : (Jvm.Cond.selects y.cls y y).before a0 Z = true := by
  obtain ⟨c1, k1, hc1, hk1, -, hb1, -, -⟩ := Cond.instantiable_spec w1
  exact selects_self_of_private hc1 hk1 (by simp at hb1; exact hb1.1) (Cond.privateMethod_at w2) w3 hy
theorem own_selq {Z : State} {a0 : Array Value} {y x : MethodName} {K : String} (hsel : (Jvm.Cond.selects K x x).before a0 Z = true) (hc : x.cls = y.cls) (w2 : (Jvm.Cond.privateMethod y).before a0 Z = true) (w3 : (Jvm.Cond.instanceMethod y).before a0 Z = true) (hy : y.cls ≠ "java/lang/invoke/MethodHandle" ∧ y.cls ≠ "java/lang/invoke/VarHandle") : (Jvm.Cond.selects y.cls y y).before a0 Z = true := by
  obtain ⟨c2, r2, m2, q1, q2, q3, q4, kP, hkP, hkPi⟩ := Cond.selects_spec hsel
  have h2 := findClass_of_methodNamed q3
  rw [hc] at h2
  exact selects_self_of_private h2 hkP hkPi (Cond.privateMethod_at w2) w3 hy
theorem own_narBy {x : Int32} (h : nar .byte x = x) : narrow .byte (.int x) = .int x := congrArg Value.int h
theorem own_iteN {c : Prop} [Decidable c] {a b : Int32} {t : FieldType} (ha : nar t a = a) (hb : nar t b = b) : nar t (if c then a else b) = if c then a else b := by
  split <;> assumption
theorem own_01 {c : Prop} [Decidable c] {a b : Int32} (ha : a = 0 ∨ a = 1) (hb : b = 0 ∨ b = 1) : (if c then a else b) = 0 ∨ (if c then a else b) = 1 := by
  split <;> assumption
theorem own_narB {x : Int32} (h : x = 0 ∨ x = 1) : narrow .boolean (.int x) = .int x := by rcases h with rfl | rfl <;> rfl
theorem own_narref {v : Value} {t : FieldType} (h : v.isRef = true) (ht : t.isReference = true) : narrow t v = v := by
  cases t <;> first | (cases ht; done) | (cases v <;> first | rfl | cases h)
theorem own_fitref {v : Value} {t : FieldType} (h : v.isRef = true) (ht : t.isReference = true) : fits t v = true := by
  cases t <;> first | (cases ht; done) | (cases v <;> first | rfl | cases h)
theorem own_nar255 (b : Int32) : narrow .char (.int (b &&& (255 : Int32))) = .int (b &&& (255 : Int32)) := by
  have h := XT.narrow_c (b &&& 255)
  rw [i2c_mask] at h
  exact h
theorem own_narb (x : Int32) : nar .byte x.toInt8.toInt32 = x.toInt8.toInt32 := by simp [nar]
theorem own_ins_keep {Z : State} {h h' : Heap} {a : Addr} {C : String} {b : Bool} {ws : List Addr} (F : Ins Z h a C b) (K : Keep h h' ws) : Ins Z h' a C b := by
  obtain ⟨cell, cT, h1, h2, h3⟩ := F
  obtain ⟨c', q1, q2, q3, -⟩ := K.2.2 _ _ h1
  exact ⟨c', cT, q1, h2, by rw [q2, q3]; exact h3⟩
theorem own_sta_keep {Z : State} {h h' : Heap} {C n d : String} {v : Value} {ws : List Addr} (F : Sta Z h C n d v) (K : Keep h h' ws) (q : ∀ x ∈ ws, ∃ c : Cell, h[x]? = some c ∧ ∀ q, c.vm ≠ .statics q) : Sta Z h' C n d v := by
  obtain ⟨cf, i, k, f, st, cell, h1, h2, h3, h4, h5, h6, h7⟩ := F
  refine ⟨cf, i, k, f, st, cell, h1, h2, h3, h4, K.2.1 _ _ h5 fun hm => ?_, h6, h7⟩
  obtain ⟨c, q1, q2⟩ := q _ hm
  cases h5.symm.trans q1
  cases hq : cell.vm <;> first | exact q2 _ hq | (rw [hq] at h6; cases h6)
theorem lremM {g : JFrame} {target : State} (X : Stand p l e R s m args below meth c T locs cells slots) (hx : p.tables.exec = Jvm.exec) (hg : g.method = m) {x y : Int64} {rest : List Value} (hd : decode c.code g.pc = .ok (.lrem, 1)) (hs : g.stack = .long y :: .long x :: rest) (hy : y ≠ 0)
    (hr : Steps p.tables e below (T.setTop { g with pc := g.pc + 1, stack := .long (x % y) :: rest }) target) : Steps p.tables e below (T.setTop g) target := by
  have q : x - x / y * y = x % y := lrem_mod x y
  exact XT.lrem X.here hx hg hd hs hy (by rw [q]; exact hr)
end Own
theorem pn_0 : plainName "java/io/OutputStream" = true := by first | (simp [plainName, overriddenIn]; done) | decide +kernel
theorem pn_1 : plainName "java/io/ByteArrayOutputStream" = true := by first | (simp [plainName, overriddenIn]; done) | decide +kernel
theorem pn_2 : plainName "java/lang/AbstractStringBuilder" = true := by first | (simp [plainName, overriddenIn]; done) | decide +kernel
theorem pn_3 : plainName "java/lang/StringBuilder" = true := by first | (simp [plainName, overriddenIn]; done) | decide +kernel
theorem pn_4 : plainName "com/example/gatehook/gatehook/http/ChunkedBody" = true := by first | (simp [plainName, overriddenIn]; done) | decide +kernel
theorem pn_5 : plainName "com/example/gatehook/gatehook/http/IncomingBody" = true := by first | (simp [plainName, overriddenIn]; done) | decide +kernel
theorem pn_6 : plainName "java/util/Arrays" = true := by first | (simp [plainName, overriddenIn]; done) | decide +kernel
theorem pn_7 : plainName "java/lang/Enum" = true := by first | (simp [plainName, overriddenIn]; done) | decide +kernel
theorem pn_8 : plainName "java/lang/StringLatin1" = true := by first | (simp [plainName, overriddenIn]; done) | decide +kernel
theorem pn_9 : plainName "com/example/gatehook/gatehook/http/IncomingBodyLastsUntilClosePinLaw" = true := by first | (simp [plainName, overriddenIn]; done) | decide +kernel
theorem pd_0 : parseMethodDescriptor "()V" = some ⟨[], none⟩ := by decide +kernel
theorem pd_1 : parseMethodDescriptor "(I)V" = some ⟨[.int], none⟩ := by decide +kernel
theorem pd_2 : parseMethodDescriptor "(II)I" = some ⟨[.int, .int], some .int⟩ := by decide +kernel
theorem pd_3 : parseMethodDescriptor "(JJ)J" = some ⟨[.long, .long], some .long⟩ := by decide +kernel
theorem pd_4 : parseMethodDescriptor "([BI)[B" = some ⟨[(.array .byte), .int], some (.array .byte)⟩ := by decide +kernel
theorem pd_5 : parseMethodDescriptor "()I" = some ⟨[], some .int⟩ := by decide +kernel
theorem pd_6 : parseMethodDescriptor "()Z" = some ⟨[], some .boolean⟩ := by decide +kernel
theorem pd_7 : parseMethodDescriptor "(C)Z" = some ⟨[.char], some .boolean⟩ := by decide +kernel
theorem pd_8 : parseMethodDescriptor "(C)Ljava/lang/AbstractStringBuilder;" = some ⟨[.char], some (.object "java/lang/AbstractStringBuilder")⟩ := by decide +kernel
theorem pd_9 : parseMethodDescriptor "(C)Ljava/lang/StringBuilder;" = some ⟨[.char], some (.object "java/lang/StringBuilder")⟩ := by decide +kernel
theorem pd_10 : parseMethodDescriptor "(B)V" = some ⟨[.byte], none⟩ := by decide +kernel
theorem pd_11 : parseMethodDescriptor "([BII)I" = some ⟨[(.array .byte), .int, .int], some .int⟩ := by decide +kernel
theorem pd_12 : parseMethodDescriptor "([BIJ)[B" = some ⟨[(.array .byte), .int, .long], some (.array .byte)⟩ := by decide +kernel
theorem pd_13 : parseMethodDescriptor "(JI)V" = some ⟨[.long, .int], none⟩ := by decide +kernel
theorem own_len {args : Array Value} {s : State} {t : Term} {n : Int32} {x : Addr} {cl : Cell} {ty : FieldType} (h : (Jvm.Cond.eq (Term.length t) (Term.int n)).value args s none s [] = some true) (ev : t.eval args s none [] s = some (.ref x)) (A : Arr s s.heap x cl ty) : cl.slots.size < 2 ^ 31 ∧ cl.slots.size.toInt32 = n := by
  obtain ⟨v, w, h1, h2, -, -⟩ := cmp_v (Or.inl h)
  have ha := A.fin (Vm.Alike.refl _)
  by_cases hl : cl.slots.size < 2 ^ 31
  · refine ⟨hl, ?_⟩
    have e := len_f ev ha hl (args := args) (first := s) (o := none) (idx := [])
    simp only [Cond.value, e, Term.int_eval] at h
    simpa using h
  · simp [Term.eval, ev, ha, hl] at h1
theorem own_elem {args : Array Value} {s : State} {t u : Term} {j : Int32} {x : Addr} {cl : Cell} {ty : FieldType} {v : Value} (h : (Jvm.Cond.eq (Term.elem t (Term.int j)) u).value args s none s [] = some true) (ev : t.eval args s none [] s = some (.ref x)) (A : Arr s s.heap x cl ty) (eu : u.eval args s none [] s = some v) : cl.slots[j.toNatClampNeg]? = some v := by
  obtain ⟨a, b, h1, h2, k1, k2⟩ := cmp_v (Or.inl h)
  cases eu.symm.trans h2
  have q := elem_in h1 ev (Term.int_eval j) A.1
  rw [q.2]
  simp only [Cond.value, h1, h2] at h
  cases a <;> cases v <;> simp_all [Kin, Value.isRef]
theorem own_elemJ {args : Array Value} {s : State} {t : Term} {j : Nat} {x : Addr} {cl : Cell} {ty : FieldType} {v : Int32} (h : (Jvm.Cond.eq (Term.elem t (Term.index 0)) (Term.int v)).value args s none s [j] = some true) (ev : t.eval args s none [j] s = some (.ref x)) (A : Arr s s.heap x cl ty) (hl : cl.slots.size < 2 ^ 31) (hj : j < cl.slots.size) : cl.slots[j]? = some (.int v) := by
  obtain ⟨a, b, h1, h2, k1, k2⟩ := cmp_v (Or.inl h)
  have q := elem_in h1 ev (Term.index_eval j) A.1
  have ej : j.toInt32.toNatClampNeg = j := by have := len_toInt (show j < 2 ^ 31 by omega); simp only [Int32.toNatClampNeg]; omega
  rw [ej] at q
  rw [q.2]
  cases (Term.int_eval v).symm.trans h2
  simp only [Cond.value, h1, h2] at h
  cases a <;> simp_all [Kin, Value.isRef]
theorem own_fld {args : Array Value} {s : State} {t u : Term} {x : Addr} {C f d : String} {v : Value} (h : (Jvm.Cond.eq (Term.field t C f d) u).value args s none s [] = some true) (ev : t.eval args s none [] s = some (.ref x)) (eu : u.eval args s none [] s = some v) : Fld s s.heap x C f d v := by
  obtain ⟨a, b, h1, h2, k1, k2⟩ := cmp_v (Or.inl h)
  cases eu.symm.trans h2
  have e : a = v := by
    simp only [Cond.value, h1, h2] at h
    cases a <;> cases v <;> simp_all [Kin, Value.isRef]
  subst e
  exact Fld.start ((fld_at ev).symm.trans h1)
theorem own_idx {args : Array Value} {s : State} {C n d : String} {v : Value} (ev : (Term.static C n d).eval args s none [] s = some v) (idx : List Nat := []) : (Term.static C n d).eval args s none idx s = some v := ev
theorem own_lt {k : Nat} {n : Int32} {j : Nat} (h : k.toInt32 = n) (h2 : k < 2 ^ 31) (h3 : (j : Int) < n.toInt) : j < k := by
  have := len_toInt h2
  rw [h] at this
  omega
theorem own_all3 {args : Array Value} {s : State} {t : Term} {a b v : Int32} {x : Addr} {cl : Cell} {ty : FieldType} (h : (Jvm.Cond.all t (.or (.lt (.index 0) (.int a)) (.or (.le (.int b) (.index 0)) (.eq (.elem t (.index 0)) (.int v))))).value args s none s [] = some true)
    (ev : ∀ idx, t.eval args s none idx s = some (.ref x)) (A : Arr s s.heap x cl ty) (hl : cl.slots.size < 2 ^ 31) (j : Nat) (hj : j < cl.slots.size) (h1 : a.toInt ≤ j) (h2 : (j : Int) < b.toInt) : cl.slots[j]? = some (.int v) := by
  have e := Cond.all_elim (ev []) (A.fin (Vm.Alike.refl _)) h j hj
  have ej : j.toInt32.toInt = j := len_toInt (by omega)
  have g1 : (Jvm.Cond.lt (.index 0) (.int a)).value args s none s [j] = some false := by
    simp only [Cond.value, Term.index_eval, Term.int_eval, Int32.lt_iff_toInt_lt, ej]; simp; omega
  have g2 : (Jvm.Cond.le (.int b) (.index 0)).value args s none s [j] = some false := by
    simp only [Cond.value, Term.index_eval, Term.int_eval, Int32.le_iff_toInt_le, ej]; simp; omega
  rw [Cond.or_of_right g1, Cond.or_of_right g2] at e
  exact own_elemJ e (ev [j]) A hl hj
theorem own_allH {args : Array Value} {s : State} {t : Term} {b v : Int32} {x : Addr} {cl : Cell} {ty : FieldType} (h : (Jvm.Cond.all t (.or (.le (.int b) (.index 0)) (.eq (.elem t (.index 0)) (.int v)))).value args s none s [] = some true)
    (ev : ∀ idx, t.eval args s none idx s = some (.ref x)) (A : Arr s s.heap x cl ty) (hl : cl.slots.size < 2 ^ 31) (j : Nat) (hj : j < cl.slots.size) (h2 : (j : Int) < b.toInt) : cl.slots[j]? = some (.int v) := by
  have e := Cond.all_elim (ev []) (A.fin (Vm.Alike.refl _)) h j hj
  have ej : j.toInt32.toInt = j := len_toInt (by omega)
  have g2 : (Jvm.Cond.le (.int b) (.index 0)).value args s none s [j] = some false := by
    simp only [Cond.value, Term.index_eval, Term.int_eval, Int32.le_iff_toInt_le, ej]; simp; omega
  rw [Cond.or_of_right g2] at e
  exact own_elemJ e (ev [j]) A hl hj
theorem own_nz {args : Array Value} {s : State} {t : Term} {x : Int32} (h : (Jvm.Cond.not (Jvm.Cond.eq t (Term.int (0 : Int32)))).value args s none s [] = some true) (ev : t.eval args s none [] s = some (.int x)) : ¬ x = (0 : Int32) := by
  simpa [Cond.value, ev, Term.eval] using h
theorem own_anti {a b : Int64} (h1 : ¬ a < b) (h2 : ¬ b < a) : a = b := by
  rw [Int64.lt_iff_toInt_lt] at h1 h2
  exact Int64.toInt_inj.mp (by omega)
theorem own_i64 (x : Int32) : x.toInt64.toInt = x.toInt := Int32.toInt_toInt64 x
theorem own_mx {x : Int32} (h : ¬ x < (0 : Int32)) : ¬ x.toInt64 + (1 : Int64) < (1 : Int64) := by
  rw [Int32.lt_iff_toInt_lt] at h
  have h2 := Int32.toInt_lt x
  have h3 := own_i64 x
  rw [Int64.lt_iff_toInt_lt, Int64.toInt_add, h3]
  have e1 : (1 : Int64).toInt = 1 := by decide
  have e0 : (0 : Int32).toInt = 0 := by decide
  rw [e0] at h
  rw [e1, Int.bmod_eq_of_le (by omega) (by omega)]
  omega
theorem own_lim0 {x : Int64} (h : ¬ x < (1 : Int64)) : ¬ (x - (0 : Int64)) < (0 : Int64) := by
  rw [Int64.lt_iff_toInt_lt] at h ⊢
  have e1 : (1 : Int64).toInt = 1 := by decide
  have e0 : (0 : Int64).toInt = 0 := by decide
  rw [e1] at h
  rw [Int64.sub_zero, e0]
  omega
theorem own_lim1 {x : Int64} (h : ¬ x < (1 : Int64)) : ¬ (x - (0 : Int64)) < (1 : Int64) := by
  rw [Int64.sub_zero]; exact h
theorem own_nn (x : Int64) : ¬ (x &&& (9223372036854775807 : Int64)) < (0 : Int64) := by
  have h := c_maskL x 9223372036854775807 63 (by decide) (by decide)
  rw [Int64.lt_iff_toInt_lt, h]
  have e0 : (0 : Int64).toInt = 0 := by decide
  omega
theorem own_nn2 (x : Int64) : ¬ (x &&& (9223372036854775807 : Int64)) = (-2 : Int64) := fun q => own_nn x (by rw [q]; decide)
theorem own_lz {x : Int64} (h : ¬ (x &&& (9223372036854775807 : Int64)) = (0 : Int64)) : ¬ (x &&& (9223372036854775807 : Int64)) < (1 : Int64) := by
  have h1 := own_nn x
  rw [Int64.lt_iff_toInt_lt] at h1 ⊢
  have e0 : (0 : Int64).toInt = 0 := by decide
  have e1 : (1 : Int64).toInt = 1 := by decide
  have h2 : ¬ (x &&& (9223372036854775807 : Int64)).toInt = (0 : Int64).toInt := fun q => h (Int64.toInt_inj.mp q)
  omega
theorem own_pm (x : Int32) : ¬ (x &&& (2147483647 : Int32)) < (0 : Int32) := by
  have h := c_mask x 2147483647 31 (by decide) (by decide)
  rw [Int32.lt_iff_toInt_lt, h]
  have e0 : (0 : Int32).toInt = 0 := by decide
  omega
theorem own_pm0 (x : Int32) : ¬ (x &&& (2147483647 : Int32)).toInt64 < (0 : Int64) := by
  have h := c_mask x 2147483647 31 (by decide) (by decide)
  rw [Int64.lt_iff_toInt_lt, own_i64, h]
  have e0 : (0 : Int64).toInt = 0 := by decide
  omega
theorem own_pm1 (x : Int32) : ¬ (x &&& (2147483647 : Int32)).toInt64 < (-1 : Int64) := by
  have h := c_mask x 2147483647 31 (by decide) (by decide)
  rw [Int64.lt_iff_toInt_lt, own_i64, h]
  have e0 : (-1 : Int64).toInt = -1 := by decide
  omega
theorem own_h10 (x : Int32) : ¬ ((x &&& (63 : Int32)) + (64 : Int32)).toInt8.toInt32 = (10 : Int32) := by
  intro q
  have h1 := c_mask x 63 6 (by decide) (by decide)
  have h2 := c_iadd (x &&& 63) 64
  have h3 := c_i2b ((x &&& 63) + 64)
  have e := congrArg Int32.toInt q
  have e1 : (10 : Int32).toInt = 10 := by decide
  have e2 : (64 : Int32).toInt = 64 := by decide
  have b1 := Int32.toInt_lt ((x &&& 63) + 64)
  have b2 := Int32.le_toInt ((x &&& 63) + 64)
  omega
theorem own_hc (x : Int32) : ¬ (255 : Int32) < ((x &&& (255 : Int32))).toUInt32.toUInt16.toUInt32.toInt32 := by
  have h1 := c_mask x 255 8 (by decide) (by decide)
  have h2 := c_i2c (x &&& 255)
  have e1 : (255 : Int32).toInt = 255 := by decide
  rw [Int32.lt_iff_toInt_lt]
  omega
theorem own_bit (x : Int32) (h0 : ¬ (x &&& (1 : Int32)) = (0 : Int32)) (h1 : ¬ (x &&& (1 : Int32)) = (1 : Int32)) : False := by
  have h := c_mask x 1 1 (by decide) (by decide)
  have q0 : ¬ (x &&& 1).toInt = (0 : Int32).toInt := fun q => h0 (Int32.toInt_inj.mp q)
  have q1 : ¬ (x &&& 1).toInt = (1 : Int32).toInt := fun q => h1 (Int32.toInt_inj.mp q)
  have e0 : (0 : Int32).toInt = 0 := by decide
  have e1 : (1 : Int32).toInt = 1 := by decide
  omega

theorem d6_0 : decode jdk_2038_method_1_code 0 = .ok (.aload_n 0, 1) := by decide +kernel
theorem d6_1 : decode jdk_2038_method_1_code 1 = .ok (.invokespecial 1, 3) := by decide +kernel
theorem d6_4 : decode jdk_2038_method_1_code 4 = .ok (.return_, 1) := by decide +kernel
theorem ef_os (m : MethodId) (x0 : Addr) : entryFrame m #[(.ref x0)] 1 = mkF m 0 #[.val (.ref x0)] [] := by first | (simp [entryFrame, mkF, argsToLocals, Value.category]; done) | rfl
def Qos (Z : State) (o0 : Addr) (h0 : Heap) (n0 : Nat) (v : Option Value) (h : Heap) (L : List Loc) : Prop := (v = none) ∧ (Fr n0 L) ∧ (h = h0)
set_option maxRecDepth 65536 in
set_option maxHeartbeats 40000000 in
theorem rmos (l : Launch) (Z : State) (a0 : Array Value) (hw : ∀ d ∈ tables_1, d.before a0 Z = true) (ws : List Jvm.Cond) (o0 : Addr) (h0 : Heap) (n0 : Nat) (Z0 : n0 ≤ h0.size) :
    MetFree l (⟨"java/io/OutputStream", "<init>", "()V"⟩ : MethodName) (head1 (Jvm.Cond.code (⟨"java/io/OutputStream", "<init>", "()V"⟩ : MethodName) jdk_2038_method_1_code 1 none :: ws) ({ frames := 1, cells := 0, slots := 0, locals := 12 } : Room)) (fun a U => a = #[(.ref o0)] ∧ Z.Warmed39 U.vm ∧ U.heap = h0) (fun _ _ _ _ _ => True) (fun _ U o U' => ∃ v L, o = .returned v ∧ Qos Z o0 h0 n0 v U'.heap L ∧ FrameEnd U o U' L ({ frames := 1, cells := 0, slots := 0, locals := 12 } : Room).cells ({ frames := 1, cells := 0, slots := 0, locals := 12 } : Room).slots) := by
  refine MetFree.of_bodySF (plainFor_of_name pn_0) hisR ?_
  intro p e s m args below meth c s₁ Bd hml0 hP hK
  obtain ⟨rfl, hZ, hh⟩ := hP
  have hx := Bd.exec
  have hby := Bd.bytes
  have hml : c.maxLocals = 1 := hml0
  have hown : s.vm.findClass "java/io/OutputStream" = some m.cls := findClass_of_methodNamed Bd.named
  have hnm := (name_of_methodNamed Bd.named Bd.method).1
  have X0 : Stand p l e ({ frames := 1, cells := 0, slots := 0, locals := 12 } : Room) s m #[(.ref o0)] below meth c s₁ [] 0 0 := Stand.of_body Bd
  have e0 : s₁.heap = h0 := by rw [← hh, Bd.state]; rfl
  have N0 := Fr.nil n0
  refine Ends.opn ?_
  intro QQ hQQ
  refine Ends.step (S' := s₁.setTop (mkF m 0 #[.val (.ref o0)] [])) (fun t k => castTop (ef_os m o0) k) ?_
  show Ends p e below QQ (s₁.setTop (mkF m 0 #[.val (.ref o0)] []))
  refine Ends.step (fun _ k => XS.aloadN X0.here hx rfl (hb hby d6_0) rfl rfl k) ?_
  show Ends p e below QQ (s₁.setTop (mkF m 1 #[.val (.ref o0)] [(.ref o0)]))
  obtain ⟨T1, X1, e1, st1⟩ := initO X0 hx hZ hown (hw _ (List.mem_of_getElem? (i := 43) rfl)) (hw _ (List.mem_of_getElem? (i := 9) rfl)) (hw _ (List.mem_of_getElem? (i := 10) rfl)) e0 (g := (mkF m 1 #[.val (.ref o0)] [(.ref o0)])) rfl (by rw [hml]; rfl) rfl (hb hby d6_1) (by decide) (W := 0) (by show 2 * 0 + _ ≤ _; exact Nat.le_of_eq rfl) (by decide)
  refine Ends.step st1 ?_
  show Ends p e below QQ (T1.setTop (mkF m 4 #[.val (.ref o0)] []))
  exact Ends.fin (none) X1 hQQ (fun _ => rfl) Bd.notSynchronized (fun _ hr => X1.returnOut hx Bd.returns (hb hby d6_4) hr) e1 (by decide) (by decide) ⟨rfl, N0, rfl⟩
theorem d5_0 : decode jdk_2005_method_2_code 0 = .ok (.aload_n 0, 1) := by decide +kernel
theorem d5_1 : decode jdk_2005_method_2_code 1 = .ok (.invokespecial 7, 3) := by decide +kernel
theorem d5_4 : decode jdk_2005_method_2_code 4 = .ok (.iload_n 1, 1) := by decide +kernel
theorem d5_5 : decode jdk_2005_method_2_code 5 = .ok (.ifCond .ge 30, 3) := by decide +kernel
theorem d5_35 : decode jdk_2005_method_2_code 35 = .ok (.aload_n 0, 1) := by decide +kernel
theorem d5_36 : decode jdk_2005_method_2_code 36 = .ok (.iload_n 1, 1) := by decide +kernel
theorem d5_37 : decode jdk_2005_method_2_code 37 = .ok (.newarray .byte, 2) := by decide +kernel
theorem d5_39 : decode jdk_2005_method_2_code 39 = .ok (.putfield 33, 3) := by decide +kernel
theorem d5_42 : decode jdk_2005_method_2_code 42 = .ok (.return_, 1) := by decide +kernel
theorem ef_bs1 (m : MethodId) (x0 : Addr) : entryFrame m #[(.ref x0), (.int (32 : Int32))] 2 = mkF m 0 #[.val (.ref x0), .val (.int (32 : Int32))] [] := by first | (simp [entryFrame, mkF, argsToLocals, Value.category]; done) | rfl
def Qbs1 (Z : State) (o0 : Addr) (u : Value) (h0 : Heap) (n0 : Nat) (v : Option Value) (h : Heap) (L : List Loc) : Prop := (v = none) ∧ (Fr n0 L) ∧ (Keep h0 h [o0]) ∧ (Exa Z h o0 "java/io/ByteArrayOutputStream")
set_option maxRecDepth 65536 in
set_option maxHeartbeats 40000000 in
theorem rmbs1 (l : Launch) (Z : State) (a0 : Array Value) (hw : ∀ d ∈ tables_1, d.before a0 Z = true) (ws : List Jvm.Cond) (o0 : Addr) (u : Value) (h0 : Heap) (n0 : Nat) (Z0 : n0 ≤ h0.size) (E_o0 : Exa Z h0 o0 "java/io/ByteArrayOutputStream") (F_buf_o0 : Fld Z h0 o0 "java/io/ByteArrayOutputStream" "buf" "[B" u) (g_o0 : n0 ≤ o0) :
    MetFree l (⟨"java/io/ByteArrayOutputStream", "<init>", "(I)V"⟩ : MethodName) (head1 (Jvm.Cond.code (⟨"java/io/ByteArrayOutputStream", "<init>", "(I)V"⟩ : MethodName) jdk_2005_method_2_code 2 none :: ws) ({ frames := 2, cells := 1, slots := 32, locals := 24 } : Room)) (fun a U => a = #[(.ref o0), (.int (32 : Int32))] ∧ Z.Warmed39 U.vm ∧ U.heap = h0) (fun _ _ _ _ _ => True) (fun _ U o U' => ∃ v L, o = .returned v ∧ Qbs1 Z o0 u h0 n0 v U'.heap L ∧ FrameEnd U o U' L ({ frames := 2, cells := 1, slots := 32, locals := 24 } : Room).cells ({ frames := 2, cells := 1, slots := 32, locals := 24 } : Room).slots) := by
  refine MetFree.of_bodySF (plainFor_of_name pn_1) hisR ?_
  intro p e s m args below meth c s₁ Bd hml0 hP hK
  obtain ⟨rfl, hZ, hh⟩ := hP
  have hx := Bd.exec
  have hby := Bd.bytes
  have hml : c.maxLocals = 2 := hml0
  have hown : s.vm.findClass "java/io/ByteArrayOutputStream" = some m.cls := findClass_of_methodNamed Bd.named
  have hnm := (name_of_methodNamed Bd.named Bd.method).1
  have X0 : Stand p l e ({ frames := 2, cells := 1, slots := 32, locals := 24 } : Room) s m #[(.ref o0), (.int (32 : Int32))] below meth c s₁ [] 0 0 := Stand.of_body Bd
  have e0 : s₁.heap = h0 := by rw [← hh, Bd.state]; rfl
  have N0 := Fr.nil n0
  refine Ends.opn ?_
  intro QQ hQQ
  refine Ends.step (S' := s₁.setTop (mkF m 0 #[.val (.ref o0), .val (.int (32 : Int32))] [])) (fun t k => castTop (ef_bs1 m o0) k) ?_
  show Ends p e below QQ (s₁.setTop (mkF m 0 #[.val (.ref o0), .val (.int (32 : Int32))] []))
  refine Ends.step (fun _ k => XS.aloadN X0.here hx rfl (hb hby d5_0) rfl rfl k) ?_
  show Ends p e below QQ (s₁.setTop (mkF m 1 #[.val (.ref o0), .val (.int (32 : Int32))] [(.ref o0)]))
  obtain ⟨_, _, ⟨T2, L2, k2, n2⟩, -, X2, ⟨Lc2, hQ2, l2, y2, z2⟩, st2⟩ := X0.specialBack hx (y := (⟨"java/io/OutputStream", "<init>", "()V"⟩ : MethodName)) rfl hown (mvT hZ (hw _ (List.mem_of_getElem? (i := 37) rfl))) (mvT hZ (hw _ (List.mem_of_getElem? (i := 38) rfl))) (mvT hZ (hw _ (List.mem_of_getElem? (i := 42) rfl))) (by decide) (backOf (W := 0) (rmos l Z a0 hw [] o0 h0 n0 (Nat.le_trans Z0 (Keep.refl h0 [o0]).1)) hZ (hw _ (List.mem_of_getElem? (i := 42) rfl)) (hw _ (List.mem_of_getElem? (i := 41) rfl)) (by decide) (by decide)) (g := (mkF m 1 #[.val (.ref o0), .val (.int (32 : Int32))] [(.ref o0)])) rfl (by rw [hml]; rfl) (Steps.refl _) (a := o0) (argsL := []) (rest := []) (lenOf pd_0 rfl) rfl (by show 2 * 0 + _ ≤ _; exact Nat.le_of_eq rfl) (hb hby d5_1) (fun _ _ => ⟨rfl, e0, (by decide : 0 + 0 ≤ _), (by decide : 0 + 0 ≤ _)⟩)
  dsimp only [Pt.U, Pt.locs, Pt.cells, Pt.slots] at X2 l2 y2 z2 st2 hQ2
  subst l2 y2 z2
  obtain ⟨rfl, Nq2, hh2⟩ := hQ2
  have N2 := Fr.app N0 Nq2
  refine Ends.step (fun _ k => st2.trans k) ?_
  show Ends p e below QQ (T2.setTop (mkF m 4 #[.val (.ref o0), .val (.int (32 : Int32))] []))
  refine Ends.step (fun _ k => XS.iloadN X2.here hx rfl (hb hby d5_4) rfl k) ?_
  show Ends p e below QQ (T2.setTop (mkF m 5 #[.val (.ref o0), .val (.int (32 : Int32))] [(.int (32 : Int32))]))
  refine Ends.step (fun _ k => XS.ifYes X2.here hx rfl (pc0 := 5) (pc' := 35) rfl (hb hby d5_5) rfl (XT.i0_ge_t (by decide)) (by decide) (by decide) k) ?_
  show Ends p e below QQ (T2.setTop (mkF m 35 #[.val (.ref o0), .val (.int (32 : Int32))] []))
  refine Ends.step (fun _ k => XS.aloadN X2.here hx rfl (hb hby d5_35) rfl rfl k) ?_
  show Ends p e below QQ (T2.setTop (mkF m 36 #[.val (.ref o0), .val (.int (32 : Int32))] [(.ref o0)]))
  refine Ends.step (fun _ k => XS.iloadN X2.here hx rfl (hb hby d5_36) rfl k) ?_
  show Ends p e below QQ (T2.setTop (mkF m 37 #[.val (.ref o0), .val (.int (32 : Int32))] [(.int (32 : Int32)), (.ref o0)]))
  obtain ⟨T3, h3, k3, X3, e3, E3, A3, st3⟩ := newP X2 hx hZ (hw _ (List.mem_of_getElem? (i := 44) rfl)) hh2 (g := (mkF m 37 #[.val (.ref o0), .val (.int (32 : Int32))] [(.int (32 : Int32)), (.ref o0)])) rfl (hb hby d5_37) rfl (by decide) (cap := 32) (by decide) (by decide) (by decide) (by decide)
  obtain ⟨b3, g3⟩ : ∃ z, z = h0.size := ⟨_, rfl⟩
  rw [← g3] at A3 st3
  have ne_o0_b3 : o0 ≠ b3 := Nat.ne_of_lt (Nat.lt_of_lt_of_le E_o0.lt (Nat.le_of_eq g3.symm))
  have g_b3 : n0 ≤ b3 := Nat.le_trans Z0 (Nat.le_trans (Keep.refl h0 [o0]).1 (Nat.le_of_eq g3.symm))
  have sz_b3 : h0.size ≤ b3 := Nat.le_trans (Keep.refl h0 [o0]).1 (Nat.le_of_eq g3.symm)
  have E_o0 := E_o0.ext E3
  have F_buf_o0 := F_buf_o0.ext E3
  have K3 := (Keep.refl h0 [o0]).ext E3
  have A_b3 : Arv Z h3 b3 k3 .byte (32 : Int32) [(.int (0 : Int32)), (.int (0 : Int32)), (.int (0 : Int32)), (.int (0 : Int32)), (.int (0 : Int32)), (.int (0 : Int32)), (.int (0 : Int32)), (.int (0 : Int32)), (.int (0 : Int32)), (.int (0 : Int32)), (.int (0 : Int32)), (.int (0 : Int32)), (.int (0 : Int32)), (.int (0 : Int32)), (.int (0 : Int32)), (.int (0 : Int32)), (.int (0 : Int32)), (.int (0 : Int32)), (.int (0 : Int32)), (.int (0 : Int32)), (.int (0 : Int32)), (.int (0 : Int32)), (.int (0 : Int32)), (.int (0 : Int32)), (.int (0 : Int32)), (.int (0 : Int32)), (.int (0 : Int32)), (.int (0 : Int32)), (.int (0 : Int32)), (.int (0 : Int32)), (.int (0 : Int32)), (.int (0 : Int32))] (.int (0 : Int32)) := (Arv.new A3 (by decide)).pad (pad_rep [] (.int (0 : Int32)) 32)
  refine Ends.step st3 ?_
  show Ends p e below QQ (T3.setTop (mkF m 39 #[.val (.ref o0), .val (.int (32 : Int32))] [(.ref b3), (.ref o0)]))
  obtain ⟨T4, h4, X4, e4, W4, st4⟩ := putF X3 hx hZ hown (host := "") (Or.inl (hw _ (List.mem_of_getElem? (i := 45) rfl))) Via.refl e3 F_buf_o0 E_o0 (Or.inl (hw _ (List.mem_of_getElem? (i := 46) rfl))) (hw _ (List.mem_of_getElem? (i := 28) rfl)) (ty := (.array .byte)) (by decide) rfl rfl (g := (mkF m 39 #[.val (.ref o0), .val (.int (32 : Int32))] [(.ref b3), (.ref o0)])) rfl rfl (hb hby d5_39)
  have E_o0 := E_o0.wr W4
  have A_b3 := A_b3.other W4 (Ne.symm ne_o0_b3)
  have F_buf_o0 : Fld Z h4 o0 "java/io/ByteArrayOutputStream" "buf" "[B" (.ref b3) := F_buf_o0.same W4
  have K4 := K3.wr W4 (Or.inl (List.mem_of_getElem? (i := 0) rfl))
  have N4 := Fr.snoc X4 N2 g_o0
  refine Ends.step st4 ?_
  show Ends p e below QQ (T4.setTop (mkF m 42 #[.val (.ref o0), .val (.int (32 : Int32))] []))
  exact Ends.fin (none) X4 hQQ (fun _ => rfl) Bd.notSynchronized (fun _ hr => X4.returnOut hx Bd.returns (hb hby d5_42) hr) e4 (by decide) (by decide) ⟨rfl, N4, K4, E_o0⟩
theorem d4_0 : decode jdk_2005_method_1_code 0 = .ok (.aload_n 0, 1) := by decide +kernel
theorem d4_1 : decode jdk_2005_method_1_code 1 = .ok (.bipush 32, 2) := by decide +kernel
theorem d4_3 : decode jdk_2005_method_1_code 3 = .ok (.invokespecial 1, 3) := by decide +kernel
theorem d4_6 : decode jdk_2005_method_1_code 6 = .ok (.return_, 1) := by decide +kernel
theorem ef_bs0 (m : MethodId) (x0 : Addr) : entryFrame m #[(.ref x0)] 1 = mkF m 0 #[.val (.ref x0)] [] := by first | (simp [entryFrame, mkF, argsToLocals, Value.category]; done) | rfl
def Qbs0 (Z : State) (o0 : Addr) (u : Value) (h0 : Heap) (n0 : Nat) (v : Option Value) (h : Heap) (L : List Loc) : Prop := (v = none) ∧ (Fr n0 L) ∧ (Keep h0 h [o0]) ∧ (Exa Z h o0 "java/io/ByteArrayOutputStream")
set_option maxRecDepth 65536 in
set_option maxHeartbeats 40000000 in
theorem rmbs0 (l : Launch) (Z : State) (a0 : Array Value) (hw : ∀ d ∈ tables_1, d.before a0 Z = true) (ws : List Jvm.Cond) (o0 : Addr) (u : Value) (h0 : Heap) (n0 : Nat) (Z0 : n0 ≤ h0.size) (E_o0 : Exa Z h0 o0 "java/io/ByteArrayOutputStream") (F_buf_o0 : Fld Z h0 o0 "java/io/ByteArrayOutputStream" "buf" "[B" u) (g_o0 : n0 ≤ o0) :
    MetFree l (⟨"java/io/ByteArrayOutputStream", "<init>", "()V"⟩ : MethodName) (head1 (Jvm.Cond.code (⟨"java/io/ByteArrayOutputStream", "<init>", "()V"⟩ : MethodName) jdk_2005_method_1_code 1 none :: ws) ({ frames := 3, cells := 1, slots := 32, locals := 37 } : Room)) (fun a U => a = #[(.ref o0)] ∧ Z.Warmed39 U.vm ∧ U.heap = h0) (fun _ _ _ _ _ => True) (fun _ U o U' => ∃ v L, o = .returned v ∧ Qbs0 Z o0 u h0 n0 v U'.heap L ∧ FrameEnd U o U' L ({ frames := 3, cells := 1, slots := 32, locals := 37 } : Room).cells ({ frames := 3, cells := 1, slots := 32, locals := 37 } : Room).slots) := by
  refine MetFree.of_bodySF (plainFor_of_name pn_1) hisR ?_
  intro p e s m args below meth c s₁ Bd hml0 hP hK
  obtain ⟨rfl, hZ, hh⟩ := hP
  have hx := Bd.exec
  have hby := Bd.bytes
  have hml : c.maxLocals = 1 := hml0
  have hown : s.vm.findClass "java/io/ByteArrayOutputStream" = some m.cls := findClass_of_methodNamed Bd.named
  have hnm := (name_of_methodNamed Bd.named Bd.method).1
  have X0 : Stand p l e ({ frames := 3, cells := 1, slots := 32, locals := 37 } : Room) s m #[(.ref o0)] below meth c s₁ [] 0 0 := Stand.of_body Bd
  have e0 : s₁.heap = h0 := by rw [← hh, Bd.state]; rfl
  have N0 := Fr.nil n0
  refine Ends.opn ?_
  intro QQ hQQ
  refine Ends.step (S' := s₁.setTop (mkF m 0 #[.val (.ref o0)] [])) (fun t k => castTop (ef_bs0 m o0) k) ?_
  show Ends p e below QQ (s₁.setTop (mkF m 0 #[.val (.ref o0)] []))
  refine Ends.step (fun _ k => XS.aloadN X0.here hx rfl (hb hby d4_0) rfl rfl k) ?_
  show Ends p e below QQ (s₁.setTop (mkF m 1 #[.val (.ref o0)] [(.ref o0)]))
  refine Ends.step (fun _ k => XT.bipushV X0.here hx rfl (32 : Int32) (hb hby d4_1) rfl k) ?_
  show Ends p e below QQ (s₁.setTop (mkF m 3 #[.val (.ref o0)] [(.int (32 : Int32)), (.ref o0)]))
  obtain ⟨_, _, ⟨T5, L5, k5, n5⟩, -, X5, ⟨Lc5, hQ5, l5, y5, z5⟩, st5⟩ := X0.specialBack hx (y := (⟨"java/io/ByteArrayOutputStream", "<init>", "(I)V"⟩ : MethodName)) rfl hown (mvT hZ (hw _ (List.mem_of_getElem? (i := 33) rfl))) (mvT hZ (hw _ (List.mem_of_getElem? (i := 34) rfl))) (mvT hZ (hw _ (List.mem_of_getElem? (i := 36) rfl))) (by decide) (backOf (W := 0) (rmbs1 l Z a0 hw [] o0 u h0 n0 (Nat.le_trans Z0 (Keep.refl h0 [o0]).1) E_o0 F_buf_o0 g_o0) hZ (hw _ (List.mem_of_getElem? (i := 36) rfl)) (hw _ (List.mem_of_getElem? (i := 29) rfl)) (by decide) (by decide)) (g := (mkF m 3 #[.val (.ref o0)] [(.int (32 : Int32)), (.ref o0)])) rfl (by rw [hml]; rfl) (Steps.refl _) (a := o0) (argsL := [(.int (32 : Int32))]) (rest := []) (lenOf pd_1 rfl) rfl (by show 2 * 0 + _ ≤ _; exact Nat.le_of_eq rfl) (hb hby d4_3) (fun _ _ => ⟨rfl, e0, (by decide : 0 + 1 ≤ _), (by decide : 0 + 32 ≤ _)⟩)
  dsimp only [Pt.U, Pt.locs, Pt.cells, Pt.slots] at X5 l5 y5 z5 st5 hQ5
  subst l5 y5 z5
  obtain ⟨rfl, Nq5, Kq5, fq5_0⟩ := hQ5
  have N5 := Fr.app N0 Nq5
  have E_o0 := fq5_0
  have K5 := (Keep.refl h0 [o0]).trans Kq5 (allS (Or.inl (List.mem_of_getElem? (i := 0) rfl)) all0)
  refine Ends.step (fun _ k => st5.trans k) ?_
  show Ends p e below QQ (T5.setTop (mkF m 6 #[.val (.ref o0)] []))
  exact Ends.fin (none) X5 hQQ (fun _ => rfl) Bd.notSynchronized (fun _ hr => X5.returnOut hx Bd.returns (hb hby d4_6) hr) rfl (by decide) (by decide) ⟨rfl, N5, K5, E_o0⟩
theorem d8_0 : decode jdk_68_method_2_code 0 = .ok (.aload_n 0, 1) := by decide +kernel
theorem d8_1 : decode jdk_68_method_2_code 1 = .ok (.invokespecial 3, 3) := by decide +kernel
theorem d8_4 : decode jdk_68_method_2_code 4 = .ok (.getstatic 18, 3) := by decide +kernel
theorem d8_7 : decode jdk_68_method_2_code 7 = .ok (.ifCond .eq 18, 3) := by decide +kernel
theorem d8_10 : decode jdk_68_method_2_code 10 = .ok (.aload_n 0, 1) := by decide +kernel
theorem d8_11 : decode jdk_68_method_2_code 11 = .ok (.iload_n 1, 1) := by decide +kernel
theorem d8_12 : decode jdk_68_method_2_code 12 = .ok (.newarray .byte, 2) := by decide +kernel
theorem d8_14 : decode jdk_68_method_2_code 14 = .ok (.putfield 15, 3) := by decide +kernel
theorem d8_17 : decode jdk_68_method_2_code 17 = .ok (.aload_n 0, 1) := by decide +kernel
theorem d8_18 : decode jdk_68_method_2_code 18 = .ok (.iconst 0, 1) := by decide +kernel
theorem d8_19 : decode jdk_68_method_2_code 19 = .ok (.putfield 22, 3) := by decide +kernel
theorem d8_22 : decode jdk_68_method_2_code 22 = .ok (.goto 16, 3) := by decide +kernel
theorem d8_38 : decode jdk_68_method_2_code 38 = .ok (.return_, 1) := by decide +kernel
theorem ef_as (m : MethodId) (x0 : Addr) : entryFrame m #[(.ref x0), (.int (16 : Int32))] 2 = mkF m 0 #[.val (.ref x0), .val (.int (16 : Int32))] [] := by first | (simp [entryFrame, mkF, argsToLocals, Value.category]; done) | rfl
def Qas (Z : State) (o0 : Addr) (u : Value) (w : Int32) (cs : Int32) (h0 : Heap) (n0 : Nat) (v : Option Value) (h : Heap) (L : List Loc) : Prop := ∃ (vb : Addr), ∃ (kb : ClassId), (v = none) ∧ (Fr n0 L) ∧ (Keep h0 h [o0]) ∧ (h0.size ≤ vb) ∧ (n0 ≤ vb) ∧ (Exa Z h o0 "java/lang/StringBuilder") ∧ (Fld Z h o0 "java/lang/AbstractStringBuilder" "value" "[B" (.ref vb)) ∧ (Fld Z h o0 "java/lang/AbstractStringBuilder" "coder" "B" (.int (0 : Int32))) ∧ (Fld Z h o0 "java/lang/AbstractStringBuilder" "count" "I" (.int (0 : Int32))) ∧ (Arv Z h vb kb .byte (16 : Int32) [(.int (0 : Int32)), (.int (0 : Int32)), (.int (0 : Int32)), (.int (0 : Int32)), (.int (0 : Int32)), (.int (0 : Int32)), (.int (0 : Int32)), (.int (0 : Int32)), (.int (0 : Int32)), (.int (0 : Int32)), (.int (0 : Int32)), (.int (0 : Int32)), (.int (0 : Int32)), (.int (0 : Int32)), (.int (0 : Int32)), (.int (0 : Int32))] (.int (0 : Int32)))
set_option maxRecDepth 65536 in
set_option maxHeartbeats 40000000 in
theorem rmas (l : Launch) (Z : State) (a0 : Array Value) (hw : ∀ d ∈ tables_1, d.before a0 Z = true) (ws : List Jvm.Cond) (o0 : Addr) (u : Value) (w : Int32) (cs : Int32) (h0 : Heap) (n0 : Nat) (Z0 : n0 ≤ h0.size) (E_o0 : Exa Z h0 o0 "java/lang/StringBuilder") (F_value_o0 : Fld Z h0 o0 "java/lang/AbstractStringBuilder" "value" "[B" u) (F_coder_o0 : Fld Z h0 o0 "java/lang/AbstractStringBuilder" "coder" "B" (.int w)) (F_count_o0 : Fld Z h0 o0 "java/lang/AbstractStringBuilder" "count" "I" (.int (0 : Int32))) (g_o0 : n0 ≤ o0) (S_COMPACT_STRINGS : Sta Z h0 "java/lang/String" "COMPACT_STRINGS" "Z" (.int cs)) (hcs : ¬ cs = (0 : Int32)) :
    MetFree l (⟨"java/lang/AbstractStringBuilder", "<init>", "(I)V"⟩ : MethodName) (head1 (Jvm.Cond.code (⟨"java/lang/AbstractStringBuilder", "<init>", "(I)V"⟩ : MethodName) jdk_68_method_2_code 2 none :: ws) ({ frames := 1, cells := 1, slots := 16, locals := 12 } : Room)) (fun a U => a = #[(.ref o0), (.int (16 : Int32))] ∧ Z.Warmed39 U.vm ∧ U.heap = h0) (fun _ _ _ _ _ => True) (fun _ U o U' => ∃ v L, o = .returned v ∧ Qas Z o0 u w cs h0 n0 v U'.heap L ∧ FrameEnd U o U' L ({ frames := 1, cells := 1, slots := 16, locals := 12 } : Room).cells ({ frames := 1, cells := 1, slots := 16, locals := 12 } : Room).slots) := by
  refine MetFree.of_bodySF (plainFor_of_name pn_2) hisR ?_
  intro p e s m args below meth c s₁ Bd hml0 hP hK
  obtain ⟨rfl, hZ, hh⟩ := hP
  have hx := Bd.exec
  have hby := Bd.bytes
  have hml : c.maxLocals = 2 := hml0
  have hown : s.vm.findClass "java/lang/AbstractStringBuilder" = some m.cls := findClass_of_methodNamed Bd.named
  have hnm := (name_of_methodNamed Bd.named Bd.method).1
  have X0 : Stand p l e ({ frames := 1, cells := 1, slots := 16, locals := 12 } : Room) s m #[(.ref o0), (.int (16 : Int32))] below meth c s₁ [] 0 0 := Stand.of_body Bd
  have e0 : s₁.heap = h0 := by rw [← hh, Bd.state]; rfl
  have N0 := Fr.nil n0
  refine Ends.opn ?_
  intro QQ hQQ
  refine Ends.step (S' := s₁.setTop (mkF m 0 #[.val (.ref o0), .val (.int (16 : Int32))] [])) (fun t k => castTop (ef_as m o0) k) ?_
  show Ends p e below QQ (s₁.setTop (mkF m 0 #[.val (.ref o0), .val (.int (16 : Int32))] []))
  refine Ends.step (fun _ k => XS.aloadN X0.here hx rfl (hb hby d8_0) rfl rfl k) ?_
  show Ends p e below QQ (s₁.setTop (mkF m 1 #[.val (.ref o0), .val (.int (16 : Int32))] [(.ref o0)]))
  obtain ⟨T6, X6, e6, st6⟩ := initO X0 hx hZ hown (hw _ (List.mem_of_getElem? (i := 61) rfl)) (hw _ (List.mem_of_getElem? (i := 9) rfl)) (hw _ (List.mem_of_getElem? (i := 10) rfl)) e0 (g := (mkF m 1 #[.val (.ref o0), .val (.int (16 : Int32))] [(.ref o0)])) rfl (by rw [hml]; rfl) rfl (hb hby d8_1) (by decide) (W := 0) (by show 2 * 0 + _ ≤ _; exact Nat.le_of_eq rfl) (by decide)
  refine Ends.step st6 ?_
  show Ends p e below QQ (T6.setTop (mkF m 4 #[.val (.ref o0), .val (.int (16 : Int32))] []))
  obtain ⟨T7, X7, e7, st7⟩ := getS2 X6 hx hZ hown (host := "") (Or.inl (hw _ (List.mem_of_getElem? (i := 62) rfl))) Via.refl e6 S_COMPACT_STRINGS (g := (mkF m 4 #[.val (.ref o0), .val (.int (16 : Int32))] [])) rfl (hb hby d8_4)
  refine Ends.step st7 ?_
  show Ends p e below QQ (T7.setTop (mkF m 7 #[.val (.ref o0), .val (.int (16 : Int32))] [(.int cs)]))
  have hc7 : ¬ (cs = (0 : Int32)) := hcs
  refine Ends.step (fun _ k => XS.ifNo X7.here hx rfl (hb hby d8_7) rfl (XT.i0_eq_f hc7) k) ?_
  show Ends p e below QQ (T7.setTop (mkF m 10 #[.val (.ref o0), .val (.int (16 : Int32))] []))
  refine Ends.step (fun _ k => XS.aloadN X7.here hx rfl (hb hby d8_10) rfl rfl k) ?_
  show Ends p e below QQ (T7.setTop (mkF m 11 #[.val (.ref o0), .val (.int (16 : Int32))] [(.ref o0)]))
  refine Ends.step (fun _ k => XS.iloadN X7.here hx rfl (hb hby d8_11) rfl k) ?_
  show Ends p e below QQ (T7.setTop (mkF m 12 #[.val (.ref o0), .val (.int (16 : Int32))] [(.int (16 : Int32)), (.ref o0)]))
  obtain ⟨T8, h8, k8, X8, e8, E8, A8, st8⟩ := newP X7 hx hZ (hw _ (List.mem_of_getElem? (i := 44) rfl)) e7 (g := (mkF m 12 #[.val (.ref o0), .val (.int (16 : Int32))] [(.int (16 : Int32)), (.ref o0)])) rfl (hb hby d8_12) rfl (by decide) (cap := 16) (by decide) (by decide) (by decide) (by decide)
  obtain ⟨b8, g8⟩ : ∃ z, z = h0.size := ⟨_, rfl⟩
  rw [← g8] at A8 st8
  have ne_o0_b8 : o0 ≠ b8 := Nat.ne_of_lt (Nat.lt_of_lt_of_le E_o0.lt (Nat.le_of_eq g8.symm))
  have g_b8 : n0 ≤ b8 := Nat.le_trans Z0 (Nat.le_trans (Keep.refl h0 [o0]).1 (Nat.le_of_eq g8.symm))
  have sz_b8 : h0.size ≤ b8 := Nat.le_trans (Keep.refl h0 [o0]).1 (Nat.le_of_eq g8.symm)
  have E_o0 := E_o0.ext E8
  have F_value_o0 := F_value_o0.ext E8
  have F_coder_o0 := F_coder_o0.ext E8
  have F_count_o0 := F_count_o0.ext E8
  have S_COMPACT_STRINGS := S_COMPACT_STRINGS.ext E8
  have K8 := (Keep.refl h0 [o0]).ext E8
  have A_b8 : Arv Z h8 b8 k8 .byte (16 : Int32) [(.int (0 : Int32)), (.int (0 : Int32)), (.int (0 : Int32)), (.int (0 : Int32)), (.int (0 : Int32)), (.int (0 : Int32)), (.int (0 : Int32)), (.int (0 : Int32)), (.int (0 : Int32)), (.int (0 : Int32)), (.int (0 : Int32)), (.int (0 : Int32)), (.int (0 : Int32)), (.int (0 : Int32)), (.int (0 : Int32)), (.int (0 : Int32))] (.int (0 : Int32)) := (Arv.new A8 (by decide)).pad (pad_rep [] (.int (0 : Int32)) 16)
  refine Ends.step st8 ?_
  show Ends p e below QQ (T8.setTop (mkF m 14 #[.val (.ref o0), .val (.int (16 : Int32))] [(.ref b8), (.ref o0)]))
  obtain ⟨T9, h9, X9, e9, W9, st9⟩ := putF X8 hx hZ hown (host := "") (Or.inl (hw _ (List.mem_of_getElem? (i := 64) rfl))) Via.refl e8 F_value_o0 E_o0 (Or.inl (hw _ (List.mem_of_getElem? (i := 65) rfl))) (hw _ (List.mem_of_getElem? (i := 50) rfl)) (ty := (.array .byte)) (by decide) rfl rfl (g := (mkF m 14 #[.val (.ref o0), .val (.int (16 : Int32))] [(.ref b8), (.ref o0)])) rfl rfl (hb hby d8_14)
  have E_o0 := E_o0.wr W9
  have F_coder_o0 := F_coder_o0.other W9 (Or.inr (slot_ne (Or.inl (hw _ (List.mem_of_getElem? (i := 67) rfl))) (Or.inl (hw _ (List.mem_of_getElem? (i := 65) rfl))) (by decide) (t := .byte) (t' := (.array .byte)) (by decide) (by decide)))
  have F_count_o0 := F_count_o0.other W9 (Or.inr (slot_ne (Or.inl (hw _ (List.mem_of_getElem? (i := 144) rfl))) (Or.inl (hw _ (List.mem_of_getElem? (i := 65) rfl))) (by decide) (t := .int) (t' := (.array .byte)) (by decide) (by decide)))
  have S_COMPACT_STRINGS := S_COMPACT_STRINGS.wr W9
  have A_b8 := A_b8.other W9 (Ne.symm ne_o0_b8)
  have F_value_o0 : Fld Z h9 o0 "java/lang/AbstractStringBuilder" "value" "[B" (.ref b8) := F_value_o0.same W9
  have K9 := K8.wr W9 (Or.inl (List.mem_of_getElem? (i := 0) rfl))
  have N9 := Fr.snoc X9 N0 g_o0
  refine Ends.step st9 ?_
  show Ends p e below QQ (T9.setTop (mkF m 17 #[.val (.ref o0), .val (.int (16 : Int32))] []))
  refine Ends.step (fun _ k => XS.aloadN X9.here hx rfl (hb hby d8_17) rfl rfl k) ?_
  show Ends p e below QQ (T9.setTop (mkF m 18 #[.val (.ref o0), .val (.int (16 : Int32))] [(.ref o0)]))
  refine Ends.step (fun _ k => XT.iconstV X9.here hx rfl (0 : Int32) (hb hby d8_18) rfl k) ?_
  show Ends p e below QQ (T9.setTop (mkF m 19 #[.val (.ref o0), .val (.int (16 : Int32))] [(.int (0 : Int32)), (.ref o0)]))
  obtain ⟨T10, h10, X10, e10, W10, st10⟩ := putFN X9 hx hZ hown (hw _ (List.mem_of_getElem? (i := 66) rfl)) Via.refl e9 F_coder_o0 E_o0 (Or.inl (hw _ (List.mem_of_getElem? (i := 67) rfl))) (hw _ (List.mem_of_getElem? (i := 50) rfl)) (ty := .byte) (v' := (.int (0 : Int32))) (by decide) rfl rfl (g := (mkF m 19 #[.val (.ref o0), .val (.int (16 : Int32))] [(.int (0 : Int32)), (.ref o0)])) rfl rfl (hb hby d8_19)
  have E_o0 := E_o0.wr W10
  have F_value_o0 := F_value_o0.other W10 (Or.inr (slot_ne (Or.inl (hw _ (List.mem_of_getElem? (i := 65) rfl))) (Or.inl (hw _ (List.mem_of_getElem? (i := 67) rfl))) (by decide) (t := (.array .byte)) (t' := .byte) (by decide) (by decide)))
  have F_count_o0 := F_count_o0.other W10 (Or.inr (slot_ne (Or.inl (hw _ (List.mem_of_getElem? (i := 144) rfl))) (Or.inl (hw _ (List.mem_of_getElem? (i := 67) rfl))) (by decide) (t := .int) (t' := .byte) (by decide) (by decide)))
  have S_COMPACT_STRINGS := S_COMPACT_STRINGS.wr W10
  have A_b8 := A_b8.other W10 (Ne.symm ne_o0_b8)
  have F_coder_o0 : Fld Z h10 o0 "java/lang/AbstractStringBuilder" "coder" "B" (.int (0 : Int32)) := F_coder_o0.same W10
  have K10 := K9.wr W10 (Or.inl (List.mem_of_getElem? (i := 0) rfl))
  have N10 := Fr.snoc X10 N9 g_o0
  refine Ends.step st10 ?_
  show Ends p e below QQ (T10.setTop (mkF m 22 #[.val (.ref o0), .val (.int (16 : Int32))] []))
  refine Ends.step (fun _ k => XS.goto X10.here hx rfl (pc0 := 22) (pc' := 38) rfl (hb hby d8_22) (by decide) (by decide) k) ?_
  show Ends p e below QQ (T10.setTop (mkF m 38 #[.val (.ref o0), .val (.int (16 : Int32))] []))
  exact Ends.fin (none) X10 hQQ (fun _ => rfl) Bd.notSynchronized (fun _ hr => X10.returnOut hx Bd.returns (hb hby d8_38) hr) e10 (by decide) (by decide) ⟨b8, k8, rfl, N10, K10, sz_b8, g_b8, E_o0, F_value_o0, F_coder_o0, F_count_o0, A_b8⟩
theorem d7_0 : decode jdk_67_method_1_code 0 = .ok (.aload_n 0, 1) := by decide +kernel
theorem d7_1 : decode jdk_67_method_1_code 1 = .ok (.bipush 16, 2) := by decide +kernel
theorem d7_3 : decode jdk_67_method_1_code 3 = .ok (.invokespecial 1, 3) := by decide +kernel
theorem d7_6 : decode jdk_67_method_1_code 6 = .ok (.return_, 1) := by decide +kernel
theorem ef_sb (m : MethodId) (x0 : Addr) : entryFrame m #[(.ref x0)] 1 = mkF m 0 #[.val (.ref x0)] [] := by first | (simp [entryFrame, mkF, argsToLocals, Value.category]; done) | rfl
def Qsb (Z : State) (o0 : Addr) (u : Value) (w : Int32) (cs : Int32) (h0 : Heap) (n0 : Nat) (v : Option Value) (h : Heap) (L : List Loc) : Prop := ∃ (vb : Addr), ∃ (kb : ClassId), (v = none) ∧ (Fr n0 L) ∧ (Keep h0 h [o0]) ∧ (h0.size ≤ vb) ∧ (n0 ≤ vb) ∧ (Exa Z h o0 "java/lang/StringBuilder") ∧ (Fld Z h o0 "java/lang/AbstractStringBuilder" "value" "[B" (.ref vb)) ∧ (Fld Z h o0 "java/lang/AbstractStringBuilder" "coder" "B" (.int (0 : Int32))) ∧ (Fld Z h o0 "java/lang/AbstractStringBuilder" "count" "I" (.int (0 : Int32))) ∧ (Arv Z h vb kb .byte (16 : Int32) [(.int (0 : Int32)), (.int (0 : Int32)), (.int (0 : Int32)), (.int (0 : Int32)), (.int (0 : Int32)), (.int (0 : Int32)), (.int (0 : Int32)), (.int (0 : Int32)), (.int (0 : Int32)), (.int (0 : Int32)), (.int (0 : Int32)), (.int (0 : Int32)), (.int (0 : Int32)), (.int (0 : Int32)), (.int (0 : Int32)), (.int (0 : Int32))] (.int (0 : Int32)))
set_option maxRecDepth 65536 in
set_option maxHeartbeats 40000000 in
theorem rmsb (l : Launch) (Z : State) (a0 : Array Value) (hw : ∀ d ∈ tables_1, d.before a0 Z = true) (ws : List Jvm.Cond) (o0 : Addr) (u : Value) (w : Int32) (cs : Int32) (h0 : Heap) (n0 : Nat) (Z0 : n0 ≤ h0.size) (E_o0 : Exa Z h0 o0 "java/lang/StringBuilder") (F_value_o0 : Fld Z h0 o0 "java/lang/AbstractStringBuilder" "value" "[B" u) (F_coder_o0 : Fld Z h0 o0 "java/lang/AbstractStringBuilder" "coder" "B" (.int w)) (F_count_o0 : Fld Z h0 o0 "java/lang/AbstractStringBuilder" "count" "I" (.int (0 : Int32))) (g_o0 : n0 ≤ o0) (S_COMPACT_STRINGS : Sta Z h0 "java/lang/String" "COMPACT_STRINGS" "Z" (.int cs)) (hcs : ¬ cs = (0 : Int32)) :
    MetFree l (⟨"java/lang/StringBuilder", "<init>", "()V"⟩ : MethodName) (head1 (Jvm.Cond.code (⟨"java/lang/StringBuilder", "<init>", "()V"⟩ : MethodName) jdk_67_method_1_code 1 none :: ws) ({ frames := 2, cells := 1, slots := 16, locals := 25 } : Room)) (fun a U => a = #[(.ref o0)] ∧ Z.Warmed39 U.vm ∧ U.heap = h0) (fun _ _ _ _ _ => True) (fun _ U o U' => ∃ v L, o = .returned v ∧ Qsb Z o0 u w cs h0 n0 v U'.heap L ∧ FrameEnd U o U' L ({ frames := 2, cells := 1, slots := 16, locals := 25 } : Room).cells ({ frames := 2, cells := 1, slots := 16, locals := 25 } : Room).slots) := by
  refine MetFree.of_bodySF (plainFor_of_name pn_3) hisR ?_
  intro p e s m args below meth c s₁ Bd hml0 hP hK
  obtain ⟨rfl, hZ, hh⟩ := hP
  have hx := Bd.exec
  have hby := Bd.bytes
  have hml : c.maxLocals = 1 := hml0
  have hown : s.vm.findClass "java/lang/StringBuilder" = some m.cls := findClass_of_methodNamed Bd.named
  have hnm := (name_of_methodNamed Bd.named Bd.method).1
  have X0 : Stand p l e ({ frames := 2, cells := 1, slots := 16, locals := 25 } : Room) s m #[(.ref o0)] below meth c s₁ [] 0 0 := Stand.of_body Bd
  have e0 : s₁.heap = h0 := by rw [← hh, Bd.state]; rfl
  have N0 := Fr.nil n0
  refine Ends.opn ?_
  intro QQ hQQ
  refine Ends.step (S' := s₁.setTop (mkF m 0 #[.val (.ref o0)] [])) (fun t k => castTop (ef_sb m o0) k) ?_
  show Ends p e below QQ (s₁.setTop (mkF m 0 #[.val (.ref o0)] []))
  refine Ends.step (fun _ k => XS.aloadN X0.here hx rfl (hb hby d7_0) rfl rfl k) ?_
  show Ends p e below QQ (s₁.setTop (mkF m 1 #[.val (.ref o0)] [(.ref o0)]))
  refine Ends.step (fun _ k => XT.bipushV X0.here hx rfl (16 : Int32) (hb hby d7_1) rfl k) ?_
  show Ends p e below QQ (s₁.setTop (mkF m 3 #[.val (.ref o0)] [(.int (16 : Int32)), (.ref o0)]))
  obtain ⟨_, _, ⟨T11, L11, k11, n11⟩, -, X11, ⟨Lc11, hQ11, l11, y11, z11⟩, st11⟩ := X0.specialBack hx (y := (⟨"java/lang/AbstractStringBuilder", "<init>", "(I)V"⟩ : MethodName)) rfl hown (mvT hZ (hw _ (List.mem_of_getElem? (i := 55) rfl))) (mvT hZ (hw _ (List.mem_of_getElem? (i := 56) rfl))) (mvT hZ (hw _ (List.mem_of_getElem? (i := 60) rfl))) (by decide) (backOf (W := 0) (rmas l Z a0 hw [] o0 u w cs h0 n0 (Nat.le_trans Z0 (Keep.refl h0 [o0]).1) E_o0 F_value_o0 F_coder_o0 F_count_o0 g_o0 S_COMPACT_STRINGS hcs) hZ (hw _ (List.mem_of_getElem? (i := 60) rfl)) (hw _ (List.mem_of_getElem? (i := 59) rfl)) (by decide) (by decide)) (g := (mkF m 3 #[.val (.ref o0)] [(.int (16 : Int32)), (.ref o0)])) rfl (by rw [hml]; rfl) (Steps.refl _) (a := o0) (argsL := [(.int (16 : Int32))]) (rest := []) (lenOf pd_1 rfl) rfl (by show 2 * 0 + _ ≤ _; exact Nat.le_of_eq rfl) (hb hby d7_3) (fun _ _ => ⟨rfl, e0, (by decide : 0 + 1 ≤ _), (by decide : 0 + 16 ≤ _)⟩)
  dsimp only [Pt.U, Pt.locs, Pt.cells, Pt.slots] at X11 l11 y11 z11 st11 hQ11
  subst l11 y11 z11
  obtain ⟨vb_11, kb_11, rfl, Nq11, Kq11, fq11_0, fq11_1, fq11_2, fq11_3, fq11_4, fq11_5, fq11_6⟩ := hQ11
  have N11 := Fr.app N0 Nq11
  have ne_o0_vb_11 : o0 ≠ vb_11 := Nat.ne_of_lt (Nat.lt_of_lt_of_le E_o0.lt fq11_0)
  have sz_vb_11 := Nat.le_trans (Keep.refl h0 [o0]).1 fq11_0
  have S_COMPACT_STRINGS := own_sta_keep S_COMPACT_STRINGS Kq11 (allS E_o0.cell all0)
  have g_vb_11 := fq11_1
  have E_o0 := fq11_2
  have F_value_o0 := fq11_3
  have F_coder_o0 := fq11_4
  have F_count_o0 := fq11_5
  have A_vb_11 := fq11_6
  have K11 := (Keep.refl h0 [o0]).trans Kq11 (allS (Or.inl (List.mem_of_getElem? (i := 0) rfl)) all0)
  refine Ends.step (fun _ k => st11.trans k) ?_
  show Ends p e below QQ (T11.setTop (mkF m 6 #[.val (.ref o0)] []))
  exact Ends.fin (none) X11 hQQ (fun _ => rfl) Bd.notSynchronized (fun _ hr => X11.returnOut hx Bd.returns (hb hby d7_6) hr) rfl (by decide) (by decide) ⟨vb_11, kb_11, rfl, N11, K11, sz_vb_11, g_vb_11, E_o0, F_value_o0, F_coder_o0, F_count_o0, A_vb_11⟩
theorem d3_0 : decode prog_38_method_1_code 0 = .ok (.aload_n 0, 1) := by decide +kernel
theorem d3_1 : decode prog_38_method_1_code 1 = .ok (.invokespecial 1, 3) := by decide +kernel
theorem d3_4 : decode prog_38_method_1_code 4 = .ok (.aload_n 0, 1) := by decide +kernel
theorem d3_5 : decode prog_38_method_1_code 5 = .ok (.new 7, 3) := by decide +kernel
theorem d3_8 : decode prog_38_method_1_code 8 = .ok (.dup, 1) := by decide +kernel
theorem d3_9 : decode prog_38_method_1_code 9 = .ok (.invokespecial 9, 3) := by decide +kernel
theorem d3_12 : decode prog_38_method_1_code 12 = .ok (.putfield 10, 3) := by decide +kernel
theorem d3_15 : decode prog_38_method_1_code 15 = .ok (.aload_n 0, 1) := by decide +kernel
theorem d3_16 : decode prog_38_method_1_code 16 = .ok (.new 16, 3) := by decide +kernel
theorem d3_19 : decode prog_38_method_1_code 19 = .ok (.dup, 1) := by decide +kernel
theorem d3_20 : decode prog_38_method_1_code 20 = .ok (.invokespecial 18, 3) := by decide +kernel
theorem d3_23 : decode prog_38_method_1_code 23 = .ok (.putfield 19, 3) := by decide +kernel
theorem d3_26 : decode prog_38_method_1_code 26 = .ok (.aload_n 0, 1) := by decide +kernel
theorem d3_27 : decode prog_38_method_1_code 27 = .ok (.getstatic 23, 3) := by decide +kernel
theorem d3_30 : decode prog_38_method_1_code 30 = .ok (.putfield 29, 3) := by decide +kernel
theorem d3_33 : decode prog_38_method_1_code 33 = .ok (.aload_n 0, 1) := by decide +kernel
theorem d3_34 : decode prog_38_method_1_code 34 = .ok (.iload_n 1, 1) := by decide +kernel
theorem d3_35 : decode prog_38_method_1_code 35 = .ok (.putfield 32, 3) := by decide +kernel
theorem d3_38 : decode prog_38_method_1_code 38 = .ok (.return_, 1) := by decide +kernel
theorem ef_cb (m : MethodId) (x0 : Addr) (x1 : Int32) : entryFrame m #[(.ref x0), (.int x1)] 2 = mkF m 0 #[.val (.ref x0), .val (.int x1)] [] := by first | (simp [entryFrame, mkF, argsToLocals, Value.category]; done) | rfl
def Qcb (Z : State) (o0 : Addr) (p1 : Int32) (u1 : Value) (u2 : Value) (u3 : Value) (m0 : Int32) (a_SIZE_LINE : Addr) (cs : Int32) (h0 : Heap) (n0 : Nat) (v : Option Value) (h : Heap) (L : List Loc) : Prop := ∃ (sb : Addr), ∃ (vb : Addr), ∃ (kb : ClassId), (v = none) ∧ (Fr n0 L) ∧ (Keep h0 h [o0]) ∧ (h0.size ≤ sb) ∧ (h0.size ≤ vb) ∧ (Exa Z h o0 "com/example/gatehook/gatehook/http/ChunkedBody") ∧ (Fld Z h o0 "com/example/gatehook/gatehook/http/ChunkedBody" "line" "Ljava/lang/StringBuilder;" (.ref sb)) ∧ (Fld Z h o0 "com/example/gatehook/gatehook/http/ChunkedBody" "part" "Lcom/example/gatehook/gatehook/http/ChunkedBody$Part;" (.ref a_SIZE_LINE)) ∧ (Exa Z h sb "java/lang/StringBuilder") ∧ (Fld Z h sb "java/lang/AbstractStringBuilder" "value" "[B" (.ref vb)) ∧ (Fld Z h sb "java/lang/AbstractStringBuilder" "coder" "B" (.int (0 : Int32))) ∧ (Fld Z h sb "java/lang/AbstractStringBuilder" "count" "I" (.int (0 : Int32))) ∧ (Arv Z h vb kb .byte (16 : Int32) [(.int (0 : Int32)), (.int (0 : Int32)), (.int (0 : Int32)), (.int (0 : Int32)), (.int (0 : Int32)), (.int (0 : Int32)), (.int (0 : Int32)), (.int (0 : Int32)), (.int (0 : Int32)), (.int (0 : Int32)), (.int (0 : Int32)), (.int (0 : Int32)), (.int (0 : Int32)), (.int (0 : Int32)), (.int (0 : Int32)), (.int (0 : Int32))] (.int (0 : Int32))) ∧ (n0 ≤ sb) ∧ (n0 ≤ vb) ∧ (sb ≠ vb)
set_option maxRecDepth 65536 in
set_option maxHeartbeats 40000000 in
theorem rmcb (l : Launch) (Z : State) (a0 : Array Value) (hw : ∀ d ∈ tables_1, d.before a0 Z = true) (ws : List Jvm.Cond) (o0 : Addr) (p1 : Int32) (u1 : Value) (u2 : Value) (u3 : Value) (m0 : Int32) (a_SIZE_LINE : Addr) (cs : Int32) (h0 : Heap) (n0 : Nat) (Z0 : n0 ≤ h0.size) (E_o0 : Exa Z h0 o0 "com/example/gatehook/gatehook/http/ChunkedBody") (F_data_o0 : Fld Z h0 o0 "com/example/gatehook/gatehook/http/ChunkedBody" "data" "Ljava/io/ByteArrayOutputStream;" u1) (F_line_o0 : Fld Z h0 o0 "com/example/gatehook/gatehook/http/ChunkedBody" "line" "Ljava/lang/StringBuilder;" u2) (F_part_o0 : Fld Z h0 o0 "com/example/gatehook/gatehook/http/ChunkedBody" "part" "Lcom/example/gatehook/gatehook/http/ChunkedBody$Part;" u3) (F_max_o0 : Fld Z h0 o0 "com/example/gatehook/gatehook/http/ChunkedBody" "max" "I" (.int m0)) (g_o0 : n0 ≤ o0) (S_SIZE_LINE : Sta Z h0 "com/example/gatehook/gatehook/http/ChunkedBody$Part" "SIZE_LINE" "Lcom/example/gatehook/gatehook/http/ChunkedBody$Part;" (.ref a_SIZE_LINE)) (S_COMPACT_STRINGS : Sta Z h0 "java/lang/String" "COMPACT_STRINGS" "Z" (.int cs)) (hcs : ¬ cs = (0 : Int32)) :
    MetFree l (⟨"com/example/gatehook/gatehook/http/ChunkedBody", "<init>", "(I)V"⟩ : MethodName) (head1 (Jvm.Cond.code (⟨"com/example/gatehook/gatehook/http/ChunkedBody", "<init>", "(I)V"⟩ : MethodName) prog_38_method_1_code 2 none :: ws) ({ frames := 4, cells := 4, slots := 54, locals := 51 } : Room)) (fun a U => a = #[(.ref o0), (.int p1)] ∧ Z.Warmed39 U.vm ∧ U.heap = h0) (fun _ _ _ _ _ => True) (fun _ U o U' => ∃ v L, o = .returned v ∧ Qcb Z o0 p1 u1 u2 u3 m0 a_SIZE_LINE cs h0 n0 v U'.heap L ∧ FrameEnd U o U' L ({ frames := 4, cells := 4, slots := 54, locals := 51 } : Room).cells ({ frames := 4, cells := 4, slots := 54, locals := 51 } : Room).slots) := by
  refine MetFree.of_bodySF (plainFor_of_name pn_4) hisR ?_
  intro p e s m args below meth c s₁ Bd hml0 hP hK
  obtain ⟨rfl, hZ, hh⟩ := hP
  have hx := Bd.exec
  have hby := Bd.bytes
  have hml : c.maxLocals = 2 := hml0
  have hown : s.vm.findClass "com/example/gatehook/gatehook/http/ChunkedBody" = some m.cls := findClass_of_methodNamed Bd.named
  have hnm := (name_of_methodNamed Bd.named Bd.method).1
  have X0 : Stand p l e ({ frames := 4, cells := 4, slots := 54, locals := 51 } : Room) s m #[(.ref o0), (.int p1)] below meth c s₁ [] 0 0 := Stand.of_body Bd
  have e0 : s₁.heap = h0 := by rw [← hh, Bd.state]; rfl
  have N0 := Fr.nil n0
  refine Ends.opn ?_
  intro QQ hQQ
  refine Ends.step (S' := s₁.setTop (mkF m 0 #[.val (.ref o0), .val (.int p1)] [])) (fun t k => castTop (ef_cb m o0 p1) k) ?_
  show Ends p e below QQ (s₁.setTop (mkF m 0 #[.val (.ref o0), .val (.int p1)] []))
  refine Ends.step (fun _ k => XS.aloadN X0.here hx rfl (hb hby d3_0) rfl rfl k) ?_
  show Ends p e below QQ (s₁.setTop (mkF m 1 #[.val (.ref o0), .val (.int p1)] [(.ref o0)]))
  obtain ⟨T12, X12, e12, st12⟩ := initO X0 hx hZ hown (hw _ (List.mem_of_getElem? (i := 26) rfl)) (hw _ (List.mem_of_getElem? (i := 9) rfl)) (hw _ (List.mem_of_getElem? (i := 10) rfl)) e0 (g := (mkF m 1 #[.val (.ref o0), .val (.int p1)] [(.ref o0)])) rfl (by rw [hml]; rfl) rfl (hb hby d3_1) (by decide) (W := 0) (by show 2 * 0 + _ ≤ _; exact Nat.le_of_eq rfl) (by decide)
  refine Ends.step st12 ?_
  show Ends p e below QQ (T12.setTop (mkF m 4 #[.val (.ref o0), .val (.int p1)] []))
  refine Ends.step (fun _ k => XS.aloadN X12.here hx rfl (hb hby d3_4) rfl rfl k) ?_
  show Ends p e below QQ (T12.setTop (mkF m 5 #[.val (.ref o0), .val (.int p1)] [(.ref o0)]))
  obtain ⟨T13, h13, X13, e13, E13, A13, D13, U13, st13⟩ := newO X12 hx hZ hown (hw _ (List.mem_of_getElem? (i := 27) rfl)) (hw _ (List.mem_of_getElem? (i := 28) rfl)) (hw _ (List.mem_of_getElem? (i := 29) rfl)) e12 (g := (mkF m 5 #[.val (.ref o0), .val (.int p1)] [(.ref o0)])) rfl (hb hby d3_5) (by decide) (by decide)
  obtain ⟨b13, g13⟩ : ∃ z, z = h0.size := ⟨_, rfl⟩
  rw [← g13] at A13 D13 U13 st13
  have ne_o0_b13 : o0 ≠ b13 := Nat.ne_of_lt (Nat.lt_of_lt_of_le E_o0.lt (Nat.le_of_eq g13.symm))
  have g_b13 : n0 ≤ b13 := Nat.le_trans Z0 (Nat.le_trans (Keep.refl h0 [o0]).1 (Nat.le_of_eq g13.symm))
  have sz_b13 : h0.size ≤ b13 := Nat.le_trans (Keep.refl h0 [o0]).1 (Nat.le_of_eq g13.symm)
  have E_o0 := E_o0.ext E13
  have F_data_o0 := F_data_o0.ext E13
  have F_line_o0 := F_line_o0.ext E13
  have F_part_o0 := F_part_o0.ext E13
  have F_max_o0 := F_max_o0.ext E13
  have S_SIZE_LINE := S_SIZE_LINE.ext E13
  have S_COMPACT_STRINGS := S_COMPACT_STRINGS.ext E13
  have K13 := (Keep.refl h0 [o0]).ext E13
  have E_b13 := A13
  have F_buf_b13 : Fld Z h13 b13 "java/io/ByteArrayOutputStream" "buf" "[B" .null := D13 (Or.inl (hw _ (List.mem_of_getElem? (i := 46) rfl))) (ty := (.array .byte)) (by decide)
  refine Ends.step st13 ?_
  show Ends p e below QQ (T13.setTop (mkF m 8 #[.val (.ref o0), .val (.int p1)] [(.ref b13), (.ref o0)]))
  refine Ends.step (fun _ k => XS.dup X13.here hx rfl (hb hby d3_8) rfl rfl k) ?_
  show Ends p e below QQ (T13.setTop (mkF m 9 #[.val (.ref o0), .val (.int p1)] [(.ref b13), (.ref b13), (.ref o0)]))
  obtain ⟨_, _, ⟨T14, L14, k14, n14⟩, -, X14, ⟨Lc14, hQ14, l14, y14, z14⟩, st14⟩ := X13.specialBack hx (y := (⟨"java/io/ByteArrayOutputStream", "<init>", "()V"⟩ : MethodName)) rfl hown (mvT hZ (hw _ (List.mem_of_getElem? (i := 30) rfl))) (mvT hZ (hw _ (List.mem_of_getElem? (i := 31) rfl))) (mvT hZ (hw _ (List.mem_of_getElem? (i := 32) rfl))) (by decide) (backOf (W := 2) (rmbs0 l Z a0 hw [] b13 (.null : Value) h13 n0 (Nat.le_trans Z0 K13.1) E_b13 F_buf_b13 g_b13) hZ (hw _ (List.mem_of_getElem? (i := 32) rfl)) (hw _ (List.mem_of_getElem? (i := 29) rfl)) (by decide) (by decide)) (g := (mkF m 9 #[.val (.ref o0), .val (.int p1)] [(.ref b13), (.ref b13), (.ref o0)])) rfl (by rw [hml]; rfl) (Steps.refl _) (a := b13) (argsL := []) (rest := [(.ref b13), (.ref o0)]) (lenOf pd_0 rfl) rfl (by show 2 * 0 + _ ≤ _; exact Nat.le_of_eq rfl) (hb hby d3_9) (fun _ _ => ⟨rfl, e13, (by decide : 1 + 1 ≤ _), (by decide : 2 + 32 ≤ _)⟩)
  dsimp only [Pt.U, Pt.locs, Pt.cells, Pt.slots] at X14 l14 y14 z14 st14 hQ14
  subst l14 y14 z14
  obtain ⟨rfl, Nq14, Kq14, fq14_0⟩ := hQ14
  have N14 := Fr.app N0 Nq14
  have S_SIZE_LINE := own_sta_keep S_SIZE_LINE Kq14 (allS E_b13.cell all0)
  have S_COMPACT_STRINGS := own_sta_keep S_COMPACT_STRINGS Kq14 (allS E_b13.cell all0)
  have E_o0 := E_o0.keep Kq14
  have F_data_o0 := F_data_o0.keep Kq14 (ninS ne_o0_b13 nin0)
  have F_line_o0 := F_line_o0.keep Kq14 (ninS ne_o0_b13 nin0)
  have F_part_o0 := F_part_o0.keep Kq14 (ninS ne_o0_b13 nin0)
  have F_max_o0 := F_max_o0.keep Kq14 (ninS ne_o0_b13 nin0)
  have E_b13 := fq14_0
  have K14 := K13.trans Kq14 (allS (Or.inr sz_b13) all0)
  refine Ends.step (fun _ k => st14.trans k) ?_
  show Ends p e below QQ (T14.setTop (mkF m 12 #[.val (.ref o0), .val (.int p1)] [(.ref b13), (.ref o0)]))
  obtain ⟨T15, h15, X15, e15, W15, st15⟩ := putF X14 hx hZ hown (host := "") (Or.inl (hw _ (List.mem_of_getElem? (i := 47) rfl))) Via.refl rfl F_data_o0 E_o0 (Or.inr ⟨(hw _ (List.mem_of_getElem? (i := 48) rfl)), rfl, hnm⟩) (hw _ (List.mem_of_getElem? (i := 21) rfl)) (ty := (.object "java/io/ByteArrayOutputStream")) (by decide) rfl rfl (g := (mkF m 12 #[.val (.ref o0), .val (.int p1)] [(.ref b13), (.ref o0)])) rfl rfl (hb hby d3_12)
  have E_o0 := E_o0.wr W15
  have F_line_o0 := F_line_o0.other W15 (Or.inr (slot_ne (Or.inr (hw _ (List.mem_of_getElem? (i := 69) rfl))) (Or.inr (hw _ (List.mem_of_getElem? (i := 48) rfl))) (by decide) (t := (.object "java/lang/StringBuilder")) (t' := (.object "java/io/ByteArrayOutputStream")) (by decide) (by decide)))
  have F_part_o0 := F_part_o0.other W15 (Or.inr (slot_ne (Or.inl (hw _ (List.mem_of_getElem? (i := 74) rfl))) (Or.inr (hw _ (List.mem_of_getElem? (i := 48) rfl))) (by decide) (t := (.object "com/example/gatehook/gatehook/http/ChunkedBody$Part")) (t' := (.object "java/io/ByteArrayOutputStream")) (by decide) (by decide)))
  have F_max_o0 := F_max_o0.other W15 (Or.inr (slot_ne (Or.inr (hw _ (List.mem_of_getElem? (i := 76) rfl))) (Or.inr (hw _ (List.mem_of_getElem? (i := 48) rfl))) (by decide) (t := .int) (t' := (.object "java/io/ByteArrayOutputStream")) (by decide) (by decide)))
  have S_SIZE_LINE := S_SIZE_LINE.wr W15
  have S_COMPACT_STRINGS := S_COMPACT_STRINGS.wr W15
  have E_b13 := E_b13.wr W15
  have F_data_o0 : Fld Z h15 o0 "com/example/gatehook/gatehook/http/ChunkedBody" "data" "Ljava/io/ByteArrayOutputStream;" (.ref b13) := F_data_o0.same W15
  have K15 := K14.wr W15 (Or.inl (List.mem_of_getElem? (i := 0) rfl))
  have N15 := Fr.snoc X15 N14 g_o0
  refine Ends.step st15 ?_
  show Ends p e below QQ (T15.setTop (mkF m 15 #[.val (.ref o0), .val (.int p1)] []))
  refine Ends.step (fun _ k => XS.aloadN X15.here hx rfl (hb hby d3_15) rfl rfl k) ?_
  show Ends p e below QQ (T15.setTop (mkF m 16 #[.val (.ref o0), .val (.int p1)] [(.ref o0)]))
  obtain ⟨T16, h16, X16, e16, E16, A16, D16, U16, st16⟩ := newO X15 hx hZ hown (hw _ (List.mem_of_getElem? (i := 49) rfl)) (hw _ (List.mem_of_getElem? (i := 50) rfl)) (hw _ (List.mem_of_getElem? (i := 51) rfl)) e15 (g := (mkF m 16 #[.val (.ref o0), .val (.int p1)] [(.ref o0)])) rfl (hb hby d3_16) (by decide) (by decide)
  obtain ⟨b16, g16⟩ : ∃ z, z = h15.size := ⟨_, rfl⟩
  rw [← g16] at A16 D16 U16 st16
  have ne_o0_b16 : o0 ≠ b16 := Nat.ne_of_lt (Nat.lt_of_lt_of_le E_o0.lt (Nat.le_of_eq g16.symm))
  have ne_b13_b16 : b13 ≠ b16 := Nat.ne_of_lt (Nat.lt_of_lt_of_le E_b13.lt (Nat.le_of_eq g16.symm))
  have g_b16 : n0 ≤ b16 := Nat.le_trans Z0 (Nat.le_trans K15.1 (Nat.le_of_eq g16.symm))
  have sz_b16 : h0.size ≤ b16 := Nat.le_trans K15.1 (Nat.le_of_eq g16.symm)
  have E_o0 := E_o0.ext E16
  have F_data_o0 := F_data_o0.ext E16
  have F_line_o0 := F_line_o0.ext E16
  have F_part_o0 := F_part_o0.ext E16
  have F_max_o0 := F_max_o0.ext E16
  have S_SIZE_LINE := S_SIZE_LINE.ext E16
  have S_COMPACT_STRINGS := S_COMPACT_STRINGS.ext E16
  have E_b13 := E_b13.ext E16
  have K16 := K15.ext E16
  have E_b16 := A16
  have F_value_b16 : Fld Z h16 b16 "java/lang/AbstractStringBuilder" "value" "[B" .null := D16 (Or.inl (hw _ (List.mem_of_getElem? (i := 65) rfl))) (ty := (.array .byte)) (by decide)
  have F_coder_b16 : Fld Z h16 b16 "java/lang/AbstractStringBuilder" "coder" "B" (.int (0 : Int32)) := D16 (Or.inl (hw _ (List.mem_of_getElem? (i := 67) rfl))) (ty := .byte) (by decide)
  have F_count_b16 : Fld Z h16 b16 "java/lang/AbstractStringBuilder" "count" "I" (.int (0 : Int32)) := D16 (Or.inl (hw _ (List.mem_of_getElem? (i := 144) rfl))) (ty := .int) (by decide)
  refine Ends.step st16 ?_
  show Ends p e below QQ (T16.setTop (mkF m 19 #[.val (.ref o0), .val (.int p1)] [(.ref b16), (.ref o0)]))
  refine Ends.step (fun _ k => XS.dup X16.here hx rfl (hb hby d3_19) rfl rfl k) ?_
  show Ends p e below QQ (T16.setTop (mkF m 20 #[.val (.ref o0), .val (.int p1)] [(.ref b16), (.ref b16), (.ref o0)]))
  obtain ⟨_, _, ⟨T17, L17, k17, n17⟩, -, X17, ⟨Lc17, hQ17, l17, y17, z17⟩, st17⟩ := X16.specialBack hx (y := (⟨"java/lang/StringBuilder", "<init>", "()V"⟩ : MethodName)) rfl hown (mvT hZ (hw _ (List.mem_of_getElem? (i := 52) rfl))) (mvT hZ (hw _ (List.mem_of_getElem? (i := 53) rfl))) (mvT hZ (hw _ (List.mem_of_getElem? (i := 54) rfl))) (by decide) (backOf (W := 2) (rmsb l Z a0 hw [] b16 (.null : Value) (0 : Int32) cs h16 n0 (Nat.le_trans Z0 K16.1) E_b16 F_value_b16 F_coder_b16 F_count_b16 g_b16 S_COMPACT_STRINGS hcs) hZ (hw _ (List.mem_of_getElem? (i := 54) rfl)) (hw _ (List.mem_of_getElem? (i := 51) rfl)) (by decide) (by decide)) (g := (mkF m 20 #[.val (.ref o0), .val (.int p1)] [(.ref b16), (.ref b16), (.ref o0)])) rfl (by rw [hml]; rfl) (Steps.refl _) (a := b16) (argsL := []) (rest := [(.ref b16), (.ref o0)]) (lenOf pd_0 rfl) rfl (by show 2 * 0 + _ ≤ _; exact Nat.le_of_eq rfl) (hb hby d3_20) (fun _ _ => ⟨rfl, e16, (by decide : 3 + 1 ≤ _), (by decide : 38 + 16 ≤ _)⟩)
  dsimp only [Pt.U, Pt.locs, Pt.cells, Pt.slots] at X17 l17 y17 z17 st17 hQ17
  subst l17 y17 z17
  obtain ⟨vb_17, kb_17, rfl, Nq17, Kq17, fq17_0, fq17_1, fq17_2, fq17_3, fq17_4, fq17_5, fq17_6⟩ := hQ17
  have N17 := Fr.app N15 Nq17
  have ne_o0_vb_17 : o0 ≠ vb_17 := Nat.ne_of_lt (Nat.lt_of_lt_of_le E_o0.lt fq17_0)
  have ne_b13_vb_17 : b13 ≠ vb_17 := Nat.ne_of_lt (Nat.lt_of_lt_of_le E_b13.lt fq17_0)
  have ne_b16_vb_17 : b16 ≠ vb_17 := Nat.ne_of_lt (Nat.lt_of_lt_of_le E_b16.lt fq17_0)
  have sz_vb_17 := Nat.le_trans K16.1 fq17_0
  have S_SIZE_LINE := own_sta_keep S_SIZE_LINE Kq17 (allS E_b16.cell all0)
  have S_COMPACT_STRINGS := own_sta_keep S_COMPACT_STRINGS Kq17 (allS E_b16.cell all0)
  have E_o0 := E_o0.keep Kq17
  have F_data_o0 := F_data_o0.keep Kq17 (ninS ne_o0_b16 nin0)
  have F_line_o0 := F_line_o0.keep Kq17 (ninS ne_o0_b16 nin0)
  have F_part_o0 := F_part_o0.keep Kq17 (ninS ne_o0_b16 nin0)
  have F_max_o0 := F_max_o0.keep Kq17 (ninS ne_o0_b16 nin0)
  have E_b13 := E_b13.keep Kq17
  have g_vb_17 := fq17_1
  have E_b16 := fq17_2
  have F_value_b16 := fq17_3
  have F_coder_b16 := fq17_4
  have F_count_b16 := fq17_5
  have A_vb_17 := fq17_6
  have K17 := K16.trans Kq17 (allS (Or.inr sz_b16) all0)
  refine Ends.step (fun _ k => st17.trans k) ?_
  show Ends p e below QQ (T17.setTop (mkF m 23 #[.val (.ref o0), .val (.int p1)] [(.ref b16), (.ref o0)]))
  obtain ⟨T18, h18, X18, e18, W18, st18⟩ := putF X17 hx hZ hown (host := "") (Or.inl (hw _ (List.mem_of_getElem? (i := 68) rfl))) Via.refl rfl F_line_o0 E_o0 (Or.inr ⟨(hw _ (List.mem_of_getElem? (i := 69) rfl)), rfl, hnm⟩) (hw _ (List.mem_of_getElem? (i := 21) rfl)) (ty := (.object "java/lang/StringBuilder")) (by decide) rfl rfl (g := (mkF m 23 #[.val (.ref o0), .val (.int p1)] [(.ref b16), (.ref o0)])) rfl rfl (hb hby d3_23)
  have E_o0 := E_o0.wr W18
  have F_data_o0 := F_data_o0.other W18 (Or.inr (slot_ne (Or.inr (hw _ (List.mem_of_getElem? (i := 48) rfl))) (Or.inr (hw _ (List.mem_of_getElem? (i := 69) rfl))) (by decide) (t := (.object "java/io/ByteArrayOutputStream")) (t' := (.object "java/lang/StringBuilder")) (by decide) (by decide)))
  have F_part_o0 := F_part_o0.other W18 (Or.inr (slot_ne (Or.inl (hw _ (List.mem_of_getElem? (i := 74) rfl))) (Or.inr (hw _ (List.mem_of_getElem? (i := 69) rfl))) (by decide) (t := (.object "com/example/gatehook/gatehook/http/ChunkedBody$Part")) (t' := (.object "java/lang/StringBuilder")) (by decide) (by decide)))
  have F_max_o0 := F_max_o0.other W18 (Or.inr (slot_ne (Or.inr (hw _ (List.mem_of_getElem? (i := 76) rfl))) (Or.inr (hw _ (List.mem_of_getElem? (i := 69) rfl))) (by decide) (t := .int) (t' := (.object "java/lang/StringBuilder")) (by decide) (by decide)))
  have S_SIZE_LINE := S_SIZE_LINE.wr W18
  have S_COMPACT_STRINGS := S_COMPACT_STRINGS.wr W18
  have E_b13 := E_b13.wr W18
  have E_b16 := E_b16.wr W18
  have F_value_b16 := F_value_b16.other W18 (Or.inl (Ne.symm ne_o0_b16))
  have F_coder_b16 := F_coder_b16.other W18 (Or.inl (Ne.symm ne_o0_b16))
  have F_count_b16 := F_count_b16.other W18 (Or.inl (Ne.symm ne_o0_b16))
  have A_vb_17 := A_vb_17.other W18 (Ne.symm ne_o0_vb_17)
  have F_line_o0 : Fld Z h18 o0 "com/example/gatehook/gatehook/http/ChunkedBody" "line" "Ljava/lang/StringBuilder;" (.ref b16) := F_line_o0.same W18
  have K18 := K17.wr W18 (Or.inl (List.mem_of_getElem? (i := 0) rfl))
  have N18 := Fr.snoc X18 N17 g_o0
  refine Ends.step st18 ?_
  show Ends p e below QQ (T18.setTop (mkF m 26 #[.val (.ref o0), .val (.int p1)] []))
  refine Ends.step (fun _ k => XS.aloadN X18.here hx rfl (hb hby d3_26) rfl rfl k) ?_
  show Ends p e below QQ (T18.setTop (mkF m 27 #[.val (.ref o0), .val (.int p1)] [(.ref o0)]))
  obtain ⟨T19, X19, e19, st19⟩ := getS2 X18 hx hZ hown (host := "") (Or.inl (hw _ (List.mem_of_getElem? (i := 70) rfl))) Via.refl e18 S_SIZE_LINE (g := (mkF m 27 #[.val (.ref o0), .val (.int p1)] [(.ref o0)])) rfl (hb hby d3_27)
  refine Ends.step st19 ?_
  show Ends p e below QQ (T19.setTop (mkF m 30 #[.val (.ref o0), .val (.int p1)] [(.ref a_SIZE_LINE), (.ref o0)]))
  obtain ⟨T20, h20, X20, e20, W20, st20⟩ := putF X19 hx hZ hown (host := "") (Or.inl (hw _ (List.mem_of_getElem? (i := 73) rfl))) Via.refl e19 F_part_o0 E_o0 (Or.inl (hw _ (List.mem_of_getElem? (i := 74) rfl))) (hw _ (List.mem_of_getElem? (i := 21) rfl)) (ty := (.object "com/example/gatehook/gatehook/http/ChunkedBody$Part")) (by decide) rfl rfl (g := (mkF m 30 #[.val (.ref o0), .val (.int p1)] [(.ref a_SIZE_LINE), (.ref o0)])) rfl rfl (hb hby d3_30)
  have E_o0 := E_o0.wr W20
  have F_data_o0 := F_data_o0.other W20 (Or.inr (slot_ne (Or.inr (hw _ (List.mem_of_getElem? (i := 48) rfl))) (Or.inl (hw _ (List.mem_of_getElem? (i := 74) rfl))) (by decide) (t := (.object "java/io/ByteArrayOutputStream")) (t' := (.object "com/example/gatehook/gatehook/http/ChunkedBody$Part")) (by decide) (by decide)))
  have F_line_o0 := F_line_o0.other W20 (Or.inr (slot_ne (Or.inr (hw _ (List.mem_of_getElem? (i := 69) rfl))) (Or.inl (hw _ (List.mem_of_getElem? (i := 74) rfl))) (by decide) (t := (.object "java/lang/StringBuilder")) (t' := (.object "com/example/gatehook/gatehook/http/ChunkedBody$Part")) (by decide) (by decide)))
  have F_max_o0 := F_max_o0.other W20 (Or.inr (slot_ne (Or.inr (hw _ (List.mem_of_getElem? (i := 76) rfl))) (Or.inl (hw _ (List.mem_of_getElem? (i := 74) rfl))) (by decide) (t := .int) (t' := (.object "com/example/gatehook/gatehook/http/ChunkedBody$Part")) (by decide) (by decide)))
  have S_SIZE_LINE := S_SIZE_LINE.wr W20
  have S_COMPACT_STRINGS := S_COMPACT_STRINGS.wr W20
  have E_b13 := E_b13.wr W20
  have E_b16 := E_b16.wr W20
  have F_value_b16 := F_value_b16.other W20 (Or.inl (Ne.symm ne_o0_b16))
  have F_coder_b16 := F_coder_b16.other W20 (Or.inl (Ne.symm ne_o0_b16))
  have F_count_b16 := F_count_b16.other W20 (Or.inl (Ne.symm ne_o0_b16))
  have A_vb_17 := A_vb_17.other W20 (Ne.symm ne_o0_vb_17)
  have F_part_o0 : Fld Z h20 o0 "com/example/gatehook/gatehook/http/ChunkedBody" "part" "Lcom/example/gatehook/gatehook/http/ChunkedBody$Part;" (.ref a_SIZE_LINE) := F_part_o0.same W20
  have K20 := K18.wr W20 (Or.inl (List.mem_of_getElem? (i := 0) rfl))
  have N20 := Fr.snoc X20 N18 g_o0
  refine Ends.step st20 ?_
  show Ends p e below QQ (T20.setTop (mkF m 33 #[.val (.ref o0), .val (.int p1)] []))
  refine Ends.step (fun _ k => XS.aloadN X20.here hx rfl (hb hby d3_33) rfl rfl k) ?_
  show Ends p e below QQ (T20.setTop (mkF m 34 #[.val (.ref o0), .val (.int p1)] [(.ref o0)]))
  refine Ends.step (fun _ k => XS.iloadN X20.here hx rfl (hb hby d3_34) rfl k) ?_
  show Ends p e below QQ (T20.setTop (mkF m 35 #[.val (.ref o0), .val (.int p1)] [(.int p1), (.ref o0)]))
  obtain ⟨T21, h21, X21, e21, W21, st21⟩ := putF X20 hx hZ hown (host := "") (Or.inl (hw _ (List.mem_of_getElem? (i := 75) rfl))) Via.refl e20 F_max_o0 E_o0 (Or.inr ⟨(hw _ (List.mem_of_getElem? (i := 76) rfl)), rfl, hnm⟩) (hw _ (List.mem_of_getElem? (i := 21) rfl)) (ty := .int) (by decide) rfl rfl (g := (mkF m 35 #[.val (.ref o0), .val (.int p1)] [(.int p1), (.ref o0)])) rfl rfl (hb hby d3_35)
  have E_o0 := E_o0.wr W21
  have F_data_o0 := F_data_o0.other W21 (Or.inr (slot_ne (Or.inr (hw _ (List.mem_of_getElem? (i := 48) rfl))) (Or.inr (hw _ (List.mem_of_getElem? (i := 76) rfl))) (by decide) (t := (.object "java/io/ByteArrayOutputStream")) (t' := .int) (by decide) (by decide)))
  have F_line_o0 := F_line_o0.other W21 (Or.inr (slot_ne (Or.inr (hw _ (List.mem_of_getElem? (i := 69) rfl))) (Or.inr (hw _ (List.mem_of_getElem? (i := 76) rfl))) (by decide) (t := (.object "java/lang/StringBuilder")) (t' := .int) (by decide) (by decide)))
  have F_part_o0 := F_part_o0.other W21 (Or.inr (slot_ne (Or.inl (hw _ (List.mem_of_getElem? (i := 74) rfl))) (Or.inr (hw _ (List.mem_of_getElem? (i := 76) rfl))) (by decide) (t := (.object "com/example/gatehook/gatehook/http/ChunkedBody$Part")) (t' := .int) (by decide) (by decide)))
  have S_SIZE_LINE := S_SIZE_LINE.wr W21
  have S_COMPACT_STRINGS := S_COMPACT_STRINGS.wr W21
  have E_b13 := E_b13.wr W21
  have E_b16 := E_b16.wr W21
  have F_value_b16 := F_value_b16.other W21 (Or.inl (Ne.symm ne_o0_b16))
  have F_coder_b16 := F_coder_b16.other W21 (Or.inl (Ne.symm ne_o0_b16))
  have F_count_b16 := F_count_b16.other W21 (Or.inl (Ne.symm ne_o0_b16))
  have A_vb_17 := A_vb_17.other W21 (Ne.symm ne_o0_vb_17)
  have F_max_o0 : Fld Z h21 o0 "com/example/gatehook/gatehook/http/ChunkedBody" "max" "I" (.int p1) := F_max_o0.same W21
  have K21 := K20.wr W21 (Or.inl (List.mem_of_getElem? (i := 0) rfl))
  have N21 := Fr.snoc X21 N20 g_o0
  refine Ends.step st21 ?_
  show Ends p e below QQ (T21.setTop (mkF m 38 #[.val (.ref o0), .val (.int p1)] []))
  exact Ends.fin (none) X21 hQQ (fun _ => rfl) Bd.notSynchronized (fun _ hr => X21.returnOut hx Bd.returns (hb hby d3_38) hr) e21 (by decide) (by decide) ⟨b16, vb_17, kb_17, rfl, N21, K21, sz_b16, sz_vb_17, E_o0, F_line_o0, F_part_o0, E_b16, F_value_b16, F_coder_b16, F_count_b16, A_vb_17, g_b16, g_vb_17, ne_b16_vb_17⟩
theorem d1_0 : decode prog_42_method_1_code 0 = .ok (.aload_n 0, 1) := by decide +kernel
theorem d1_1 : decode prog_42_method_1_code 1 = .ok (.invokespecial 1, 3) := by decide +kernel
theorem d1_4 : decode prog_42_method_1_code 4 = .ok (.aload_n 0, 1) := by decide +kernel
theorem d1_5 : decode prog_42_method_1_code 5 = .ok (.getstatic 7, 3) := by decide +kernel
theorem d1_8 : decode prog_42_method_1_code 8 = .ok (.putfield 13, 3) := by decide +kernel
theorem d1_11 : decode prog_42_method_1_code 11 = .ok (.aload_n 0, 1) := by decide +kernel
theorem d1_12 : decode prog_42_method_1_code 12 = .ok (.lload_n 1, 1) := by decide +kernel
theorem d1_13 : decode prog_42_method_1_code 13 = .ok (.putfield 16, 3) := by decide +kernel
theorem d1_16 : decode prog_42_method_1_code 16 = .ok (.aload_n 0, 1) := by decide +kernel
theorem d1_17 : decode prog_42_method_1_code 17 = .ok (.iload_n 3, 1) := by decide +kernel
theorem d1_18 : decode prog_42_method_1_code 18 = .ok (.putfield 20, 3) := by decide +kernel
theorem d1_21 : decode prog_42_method_1_code 21 = .ok (.lload_n 1, 1) := by decide +kernel
theorem d1_22 : decode prog_42_method_1_code 22 = .ok (.ldc2_w 26, 3) := by decide +kernel
theorem d1_25 : decode prog_42_method_1_code 25 = .ok (.lcmp, 1) := by decide +kernel
theorem d1_26 : decode prog_42_method_1_code 26 = .ok (.ifCond .ne 18, 3) := by decide +kernel
theorem d1_29 : decode prog_42_method_1_code 29 = .ok (.aload_n 0, 1) := by decide +kernel
theorem d1_30 : decode prog_42_method_1_code 30 = .ok (.new 28, 3) := by decide +kernel
theorem d1_33 : decode prog_42_method_1_code 33 = .ok (.dup, 1) := by decide +kernel
theorem d1_34 : decode prog_42_method_1_code 34 = .ok (.iload_n 3, 1) := by decide +kernel
theorem d1_35 : decode prog_42_method_1_code 35 = .ok (.invokespecial 30, 3) := by decide +kernel
theorem d1_38 : decode prog_42_method_1_code 38 = .ok (.putfield 33, 3) := by decide +kernel
theorem d1_41 : decode prog_42_method_1_code 41 = .ok (.goto 38, 3) := by decide +kernel
theorem d1_79 : decode prog_42_method_1_code 79 = .ok (.return_, 1) := by decide +kernel
theorem ef_ia (m : MethodId) (x0 : Addr) (x2 : Int32) : entryFrame m #[(.ref x0), (.long (-2 : Int64)), (.int x2)] 4 = mkF m 0 #[.val (.ref x0), .val (.long (-2 : Int64)), .second, .val (.int x2)] [] := by first | (simp [entryFrame, mkF, argsToLocals, Value.category]; done) | rfl
def Qia (Z : State) (o0 : Addr) (p2 : Int32) (a_NONE : Addr) (a_SIZE_LINE : Addr) (cs : Int32) (h0 : Heap) (n0 : Nat) (v : Option Value) (h : Heap) (L : List Loc) : Prop := ∃ (cc : Addr), ∃ (sb : Addr), ∃ (vb : Addr), ∃ (kb : ClassId), (v = none) ∧ (Fr n0 L) ∧ (Keep h0 h [o0]) ∧ (h0.size ≤ cc) ∧ (h0.size ≤ sb) ∧ (h0.size ≤ vb) ∧ (Exa Z h o0 "com/example/gatehook/gatehook/http/IncomingBody") ∧ (Fld Z h o0 "com/example/gatehook/gatehook/http/IncomingBody" "length" "J" (.long (-2 : Int64))) ∧ (Fld Z h o0 "com/example/gatehook/gatehook/http/IncomingBody" "ended" "Z" (.int (0 : Int32))) ∧ (Fld Z h o0 "com/example/gatehook/gatehook/http/IncomingBody" "chunks" "Lcom/example/gatehook/gatehook/http/ChunkedBody;" (.ref cc)) ∧ (Exa Z h cc "com/example/gatehook/gatehook/http/ChunkedBody") ∧ (cc ≠ sb) ∧ (cc ≠ vb) ∧ (Fld Z h cc "com/example/gatehook/gatehook/http/ChunkedBody" "line" "Ljava/lang/StringBuilder;" (.ref sb)) ∧ (Fld Z h cc "com/example/gatehook/gatehook/http/ChunkedBody" "part" "Lcom/example/gatehook/gatehook/http/ChunkedBody$Part;" (.ref a_SIZE_LINE)) ∧ (Exa Z h sb "java/lang/StringBuilder") ∧ (Fld Z h sb "java/lang/AbstractStringBuilder" "value" "[B" (.ref vb)) ∧ (Fld Z h sb "java/lang/AbstractStringBuilder" "coder" "B" (.int (0 : Int32))) ∧ (Fld Z h sb "java/lang/AbstractStringBuilder" "count" "I" (.int (0 : Int32))) ∧ (Arv Z h vb kb .byte (16 : Int32) [(.int (0 : Int32)), (.int (0 : Int32)), (.int (0 : Int32)), (.int (0 : Int32)), (.int (0 : Int32)), (.int (0 : Int32)), (.int (0 : Int32)), (.int (0 : Int32)), (.int (0 : Int32)), (.int (0 : Int32)), (.int (0 : Int32)), (.int (0 : Int32)), (.int (0 : Int32)), (.int (0 : Int32)), (.int (0 : Int32)), (.int (0 : Int32))] (.int (0 : Int32))) ∧ (n0 ≤ sb) ∧ (n0 ≤ vb) ∧ (sb ≠ vb)
set_option maxRecDepth 65536 in
set_option maxHeartbeats 40000000 in
theorem rmia (l : Launch) (Z : State) (a0 : Array Value) (hw : ∀ d ∈ tables_1, d.before a0 Z = true) (ws : List Jvm.Cond) (o0 : Addr) (p2 : Int32) (a_NONE : Addr) (a_SIZE_LINE : Addr) (cs : Int32) (h0 : Heap) (n0 : Nat) (Z0 : n0 ≤ h0.size) (E_o0 : Exa Z h0 o0 "com/example/gatehook/gatehook/http/IncomingBody") (F_data_o0 : Fld Z h0 o0 "com/example/gatehook/gatehook/http/IncomingBody" "data" "[B" .null) (F_length_o0 : Fld Z h0 o0 "com/example/gatehook/gatehook/http/IncomingBody" "length" "J" (.long (0 : Int64))) (F_max_o0 : Fld Z h0 o0 "com/example/gatehook/gatehook/http/IncomingBody" "max" "I" (.int (0 : Int32))) (F_chunks_o0 : Fld Z h0 o0 "com/example/gatehook/gatehook/http/IncomingBody" "chunks" "Lcom/example/gatehook/gatehook/http/ChunkedBody;" .null) (F_ended_o0 : Fld Z h0 o0 "com/example/gatehook/gatehook/http/IncomingBody" "ended" "Z" (.int (0 : Int32))) (F_dataLength_o0 : Fld Z h0 o0 "com/example/gatehook/gatehook/http/IncomingBody" "dataLength" "I" (.int (0 : Int32))) (g_o0 : n0 ≤ o0) (S_NONE : Sta Z h0 "com/example/gatehook/gatehook/http/IncomingBody" "NONE" "[B" (.ref a_NONE)) (S_SIZE_LINE : Sta Z h0 "com/example/gatehook/gatehook/http/ChunkedBody$Part" "SIZE_LINE" "Lcom/example/gatehook/gatehook/http/ChunkedBody$Part;" (.ref a_SIZE_LINE)) (S_COMPACT_STRINGS : Sta Z h0 "java/lang/String" "COMPACT_STRINGS" "Z" (.int cs)) (hcs : ¬ cs = (0 : Int32)) :
    MetFree l (⟨"com/example/gatehook/gatehook/http/IncomingBody", "<init>", "(JI)V"⟩ : MethodName) (head1 (Jvm.Cond.code (⟨"com/example/gatehook/gatehook/http/IncomingBody", "<init>", "(JI)V"⟩ : MethodName) prog_42_method_1_code 4 none :: ws) ({ frames := 5, cells := 5, slots := 61, locals := 66 } : Room)) (fun a U => a = #[(.ref o0), (.long (-2 : Int64)), (.int p2)] ∧ Z.Warmed39 U.vm ∧ U.heap = h0) (fun _ _ _ _ _ => True) (fun _ U o U' => ∃ v L, o = .returned v ∧ Qia Z o0 p2 a_NONE a_SIZE_LINE cs h0 n0 v U'.heap L ∧ FrameEnd U o U' L ({ frames := 5, cells := 5, slots := 61, locals := 66 } : Room).cells ({ frames := 5, cells := 5, slots := 61, locals := 66 } : Room).slots) := by
  refine MetFree.of_bodySF (plainFor_of_name pn_5) hisR ?_
  intro p e s m args below meth c s₁ Bd hml0 hP hK
  obtain ⟨rfl, hZ, hh⟩ := hP
  have hx := Bd.exec
  have hby := Bd.bytes
  have hml : c.maxLocals = 4 := hml0
  have hown : s.vm.findClass "com/example/gatehook/gatehook/http/IncomingBody" = some m.cls := findClass_of_methodNamed Bd.named
  have hnm := (name_of_methodNamed Bd.named Bd.method).1
  have X0 : Stand p l e ({ frames := 5, cells := 5, slots := 61, locals := 66 } : Room) s m #[(.ref o0), (.long (-2 : Int64)), (.int p2)] below meth c s₁ [] 0 0 := Stand.of_body Bd
  have e0 : s₁.heap = h0 := by rw [← hh, Bd.state]; rfl
  have N0 := Fr.nil n0
  refine Ends.opn ?_
  intro QQ hQQ
  refine Ends.step (S' := s₁.setTop (mkF m 0 #[.val (.ref o0), .val (.long (-2 : Int64)), .second, .val (.int p2)] [])) (fun t k => castTop (ef_ia m o0 p2) k) ?_
  show Ends p e below QQ (s₁.setTop (mkF m 0 #[.val (.ref o0), .val (.long (-2 : Int64)), .second, .val (.int p2)] []))
  refine Ends.step (fun _ k => XS.aloadN X0.here hx rfl (hb hby d1_0) rfl rfl k) ?_
  show Ends p e below QQ (s₁.setTop (mkF m 1 #[.val (.ref o0), .val (.long (-2 : Int64)), .second, .val (.int p2)] [(.ref o0)]))
  obtain ⟨T22, X22, e22, st22⟩ := initO X0 hx hZ hown (hw _ (List.mem_of_getElem? (i := 8) rfl)) (hw _ (List.mem_of_getElem? (i := 9) rfl)) (hw _ (List.mem_of_getElem? (i := 10) rfl)) e0 (g := (mkF m 1 #[.val (.ref o0), .val (.long (-2 : Int64)), .second, .val (.int p2)] [(.ref o0)])) rfl (by rw [hml]; rfl) rfl (hb hby d1_1) (by decide) (W := 0) (by show 2 * 0 + _ ≤ _; exact Nat.le_of_eq rfl) (by decide)
  refine Ends.step st22 ?_
  show Ends p e below QQ (T22.setTop (mkF m 4 #[.val (.ref o0), .val (.long (-2 : Int64)), .second, .val (.int p2)] []))
  refine Ends.step (fun _ k => XS.aloadN X22.here hx rfl (hb hby d1_4) rfl rfl k) ?_
  show Ends p e below QQ (T22.setTop (mkF m 5 #[.val (.ref o0), .val (.long (-2 : Int64)), .second, .val (.int p2)] [(.ref o0)]))
  obtain ⟨T23, X23, e23, st23⟩ := getS2 X22 hx hZ hown (host := "") (Or.inl (hw _ (List.mem_of_getElem? (i := 11) rfl))) Via.refl e22 S_NONE (g := (mkF m 5 #[.val (.ref o0), .val (.long (-2 : Int64)), .second, .val (.int p2)] [(.ref o0)])) rfl (hb hby d1_5)
  refine Ends.step st23 ?_
  show Ends p e below QQ (T23.setTop (mkF m 8 #[.val (.ref o0), .val (.long (-2 : Int64)), .second, .val (.int p2)] [(.ref a_NONE), (.ref o0)]))
  obtain ⟨T24, h24, X24, e24, W24, st24⟩ := putF X23 hx hZ hown (host := "") (Or.inl (hw _ (List.mem_of_getElem? (i := 13) rfl))) Via.refl e23 F_data_o0 E_o0 (Or.inl (hw _ (List.mem_of_getElem? (i := 14) rfl))) (hw _ (List.mem_of_getElem? (i := 3) rfl)) (ty := (.array .byte)) (by decide) rfl rfl (g := (mkF m 8 #[.val (.ref o0), .val (.long (-2 : Int64)), .second, .val (.int p2)] [(.ref a_NONE), (.ref o0)])) rfl rfl (hb hby d1_8)
  have E_o0 := E_o0.wr W24
  have F_length_o0 := F_length_o0.other W24 (Or.inr (slot_ne (Or.inr (hw _ (List.mem_of_getElem? (i := 16) rfl))) (Or.inl (hw _ (List.mem_of_getElem? (i := 14) rfl))) (by decide) (t := .long) (t' := (.array .byte)) (by decide) (by decide)))
  have F_max_o0 := F_max_o0.other W24 (Or.inr (slot_ne (Or.inr (hw _ (List.mem_of_getElem? (i := 18) rfl))) (Or.inl (hw _ (List.mem_of_getElem? (i := 14) rfl))) (by decide) (t := .int) (t' := (.array .byte)) (by decide) (by decide)))
  have F_chunks_o0 := F_chunks_o0.other W24 (Or.inr (slot_ne (Or.inl (hw _ (List.mem_of_getElem? (i := 78) rfl))) (Or.inl (hw _ (List.mem_of_getElem? (i := 14) rfl))) (by decide) (t := (.object "com/example/gatehook/gatehook/http/ChunkedBody")) (t' := (.array .byte)) (by decide) (by decide)))
  have F_ended_o0 := F_ended_o0.other W24 (Or.inr (slot_ne (Or.inl (hw _ (List.mem_of_getElem? (i := 91) rfl))) (Or.inl (hw _ (List.mem_of_getElem? (i := 14) rfl))) (by decide) (t := .boolean) (t' := (.array .byte)) (by decide) (by decide)))
  have F_dataLength_o0 := F_dataLength_o0.other W24 (Or.inr (slot_ne (Or.inl (hw _ (List.mem_of_getElem? (i := 106) rfl))) (Or.inl (hw _ (List.mem_of_getElem? (i := 14) rfl))) (by decide) (t := .int) (t' := (.array .byte)) (by decide) (by decide)))
  have S_NONE := S_NONE.wr W24
  have S_SIZE_LINE := S_SIZE_LINE.wr W24
  have S_COMPACT_STRINGS := S_COMPACT_STRINGS.wr W24
  have F_data_o0 : Fld Z h24 o0 "com/example/gatehook/gatehook/http/IncomingBody" "data" "[B" (.ref a_NONE) := F_data_o0.same W24
  have K24 := (Keep.refl h0 [o0]).wr W24 (Or.inl (List.mem_of_getElem? (i := 0) rfl))
  have N24 := Fr.snoc X24 N0 g_o0
  refine Ends.step st24 ?_
  show Ends p e below QQ (T24.setTop (mkF m 11 #[.val (.ref o0), .val (.long (-2 : Int64)), .second, .val (.int p2)] []))
  refine Ends.step (fun _ k => XS.aloadN X24.here hx rfl (hb hby d1_11) rfl rfl k) ?_
  show Ends p e below QQ (T24.setTop (mkF m 12 #[.val (.ref o0), .val (.long (-2 : Int64)), .second, .val (.int p2)] [(.ref o0)]))
  refine Ends.step (fun _ k => XT.lloadN X24.here hx rfl (hb hby d1_12) rfl k) ?_
  show Ends p e below QQ (T24.setTop (mkF m 13 #[.val (.ref o0), .val (.long (-2 : Int64)), .second, .val (.int p2)] [(.long (-2 : Int64)), (.ref o0)]))
  obtain ⟨T25, h25, X25, e25, W25, st25⟩ := putF X24 hx hZ hown (host := "") (Or.inl (hw _ (List.mem_of_getElem? (i := 15) rfl))) Via.refl e24 F_length_o0 E_o0 (Or.inr ⟨(hw _ (List.mem_of_getElem? (i := 16) rfl)), rfl, hnm⟩) (hw _ (List.mem_of_getElem? (i := 3) rfl)) (ty := .long) (by decide) rfl rfl (g := (mkF m 13 #[.val (.ref o0), .val (.long (-2 : Int64)), .second, .val (.int p2)] [(.long (-2 : Int64)), (.ref o0)])) rfl rfl (hb hby d1_13)
  have E_o0 := E_o0.wr W25
  have F_data_o0 := F_data_o0.other W25 (Or.inr (slot_ne (Or.inl (hw _ (List.mem_of_getElem? (i := 14) rfl))) (Or.inr (hw _ (List.mem_of_getElem? (i := 16) rfl))) (by decide) (t := (.array .byte)) (t' := .long) (by decide) (by decide)))
  have F_max_o0 := F_max_o0.other W25 (Or.inr (slot_ne (Or.inr (hw _ (List.mem_of_getElem? (i := 18) rfl))) (Or.inr (hw _ (List.mem_of_getElem? (i := 16) rfl))) (by decide) (t := .int) (t' := .long) (by decide) (by decide)))
  have F_chunks_o0 := F_chunks_o0.other W25 (Or.inr (slot_ne (Or.inl (hw _ (List.mem_of_getElem? (i := 78) rfl))) (Or.inr (hw _ (List.mem_of_getElem? (i := 16) rfl))) (by decide) (t := (.object "com/example/gatehook/gatehook/http/ChunkedBody")) (t' := .long) (by decide) (by decide)))
  have F_ended_o0 := F_ended_o0.other W25 (Or.inr (slot_ne (Or.inl (hw _ (List.mem_of_getElem? (i := 91) rfl))) (Or.inr (hw _ (List.mem_of_getElem? (i := 16) rfl))) (by decide) (t := .boolean) (t' := .long) (by decide) (by decide)))
  have F_dataLength_o0 := F_dataLength_o0.other W25 (Or.inr (slot_ne (Or.inl (hw _ (List.mem_of_getElem? (i := 106) rfl))) (Or.inr (hw _ (List.mem_of_getElem? (i := 16) rfl))) (by decide) (t := .int) (t' := .long) (by decide) (by decide)))
  have S_NONE := S_NONE.wr W25
  have S_SIZE_LINE := S_SIZE_LINE.wr W25
  have S_COMPACT_STRINGS := S_COMPACT_STRINGS.wr W25
  have F_length_o0 : Fld Z h25 o0 "com/example/gatehook/gatehook/http/IncomingBody" "length" "J" (.long (-2 : Int64)) := F_length_o0.same W25
  have K25 := K24.wr W25 (Or.inl (List.mem_of_getElem? (i := 0) rfl))
  have N25 := Fr.snoc X25 N24 g_o0
  refine Ends.step st25 ?_
  show Ends p e below QQ (T25.setTop (mkF m 16 #[.val (.ref o0), .val (.long (-2 : Int64)), .second, .val (.int p2)] []))
  refine Ends.step (fun _ k => XS.aloadN X25.here hx rfl (hb hby d1_16) rfl rfl k) ?_
  show Ends p e below QQ (T25.setTop (mkF m 17 #[.val (.ref o0), .val (.long (-2 : Int64)), .second, .val (.int p2)] [(.ref o0)]))
  refine Ends.step (fun _ k => XS.iloadN X25.here hx rfl (hb hby d1_17) rfl k) ?_
  show Ends p e below QQ (T25.setTop (mkF m 18 #[.val (.ref o0), .val (.long (-2 : Int64)), .second, .val (.int p2)] [(.int p2), (.ref o0)]))
  obtain ⟨T26, h26, X26, e26, W26, st26⟩ := putF X25 hx hZ hown (host := "") (Or.inl (hw _ (List.mem_of_getElem? (i := 17) rfl))) Via.refl e25 F_max_o0 E_o0 (Or.inr ⟨(hw _ (List.mem_of_getElem? (i := 18) rfl)), rfl, hnm⟩) (hw _ (List.mem_of_getElem? (i := 3) rfl)) (ty := .int) (by decide) rfl rfl (g := (mkF m 18 #[.val (.ref o0), .val (.long (-2 : Int64)), .second, .val (.int p2)] [(.int p2), (.ref o0)])) rfl rfl (hb hby d1_18)
  have E_o0 := E_o0.wr W26
  have F_data_o0 := F_data_o0.other W26 (Or.inr (slot_ne (Or.inl (hw _ (List.mem_of_getElem? (i := 14) rfl))) (Or.inr (hw _ (List.mem_of_getElem? (i := 18) rfl))) (by decide) (t := (.array .byte)) (t' := .int) (by decide) (by decide)))
  have F_length_o0 := F_length_o0.other W26 (Or.inr (slot_ne (Or.inr (hw _ (List.mem_of_getElem? (i := 16) rfl))) (Or.inr (hw _ (List.mem_of_getElem? (i := 18) rfl))) (by decide) (t := .long) (t' := .int) (by decide) (by decide)))
  have F_chunks_o0 := F_chunks_o0.other W26 (Or.inr (slot_ne (Or.inl (hw _ (List.mem_of_getElem? (i := 78) rfl))) (Or.inr (hw _ (List.mem_of_getElem? (i := 18) rfl))) (by decide) (t := (.object "com/example/gatehook/gatehook/http/ChunkedBody")) (t' := .int) (by decide) (by decide)))
  have F_ended_o0 := F_ended_o0.other W26 (Or.inr (slot_ne (Or.inl (hw _ (List.mem_of_getElem? (i := 91) rfl))) (Or.inr (hw _ (List.mem_of_getElem? (i := 18) rfl))) (by decide) (t := .boolean) (t' := .int) (by decide) (by decide)))
  have F_dataLength_o0 := F_dataLength_o0.other W26 (Or.inr (slot_ne (Or.inl (hw _ (List.mem_of_getElem? (i := 106) rfl))) (Or.inr (hw _ (List.mem_of_getElem? (i := 18) rfl))) (by decide) (t := .int) (t' := .int) (by decide) (by decide)))
  have S_NONE := S_NONE.wr W26
  have S_SIZE_LINE := S_SIZE_LINE.wr W26
  have S_COMPACT_STRINGS := S_COMPACT_STRINGS.wr W26
  have F_max_o0 : Fld Z h26 o0 "com/example/gatehook/gatehook/http/IncomingBody" "max" "I" (.int p2) := F_max_o0.same W26
  have K26 := K25.wr W26 (Or.inl (List.mem_of_getElem? (i := 0) rfl))
  have N26 := Fr.snoc X26 N25 g_o0
  refine Ends.step st26 ?_
  show Ends p e below QQ (T26.setTop (mkF m 21 #[.val (.ref o0), .val (.long (-2 : Int64)), .second, .val (.int p2)] []))
  refine Ends.step (fun _ k => XT.lloadN X26.here hx rfl (hb hby d1_21) rfl k) ?_
  show Ends p e below QQ (T26.setTop (mkF m 22 #[.val (.ref o0), .val (.long (-2 : Int64)), .second, .val (.int p2)] [(.long (-2 : Int64))]))
  refine Ends.step (fun _ k => X26.ldc2J hx hown (mvT hZ (hw _ (List.mem_of_getElem? (i := 19) rfl))) (g := (mkF m 22 #[.val (.ref o0), .val (.long (-2 : Int64)), .second, .val (.int p2)] [(.long (-2 : Int64))])) rfl (hb hby d1_22) k) ?_
  show Ends p e below QQ (T26.setTop (mkF m 25 #[.val (.ref o0), .val (.long (-2 : Int64)), .second, .val (.int p2)] [(.long (-2 : Int64)), (.long (-2 : Int64))]))
  refine Ends.step (fun _ k => XT.lcmp X26.here hx rfl (hb hby d1_25) rfl k) ?_
  show Ends p e below QQ (T26.setTop (mkF m 26 #[.val (.ref o0), .val (.long (-2 : Int64)), .second, .val (.int p2)] [(.int (XT.cmpL (-2 : Int64) (-2 : Int64)))]))
  refine Ends.step (fun _ k => XS.ifNo X26.here hx rfl (hb hby d1_26) rfl (XT.ll_ne_f (by decide)) k) ?_
  show Ends p e below QQ (T26.setTop (mkF m 29 #[.val (.ref o0), .val (.long (-2 : Int64)), .second, .val (.int p2)] []))
  refine Ends.step (fun _ k => XS.aloadN X26.here hx rfl (hb hby d1_29) rfl rfl k) ?_
  show Ends p e below QQ (T26.setTop (mkF m 30 #[.val (.ref o0), .val (.long (-2 : Int64)), .second, .val (.int p2)] [(.ref o0)]))
  obtain ⟨T27, h27, X27, e27, E27, A27, D27, U27, st27⟩ := newO X26 hx hZ hown (hw _ (List.mem_of_getElem? (i := 20) rfl)) (hw _ (List.mem_of_getElem? (i := 21) rfl)) (hw _ (List.mem_of_getElem? (i := 22) rfl)) e26 (g := (mkF m 30 #[.val (.ref o0), .val (.long (-2 : Int64)), .second, .val (.int p2)] [(.ref o0)])) rfl (hb hby d1_30) (by decide) (by decide)
  obtain ⟨b27, g27⟩ : ∃ z, z = h26.size := ⟨_, rfl⟩
  rw [← g27] at A27 D27 U27 st27
  have ne_o0_b27 : o0 ≠ b27 := Nat.ne_of_lt (Nat.lt_of_lt_of_le E_o0.lt (Nat.le_of_eq g27.symm))
  have g_b27 : n0 ≤ b27 := Nat.le_trans Z0 (Nat.le_trans K26.1 (Nat.le_of_eq g27.symm))
  have sz_b27 : h0.size ≤ b27 := Nat.le_trans K26.1 (Nat.le_of_eq g27.symm)
  have E_o0 := E_o0.ext E27
  have F_data_o0 := F_data_o0.ext E27
  have F_length_o0 := F_length_o0.ext E27
  have F_max_o0 := F_max_o0.ext E27
  have F_chunks_o0 := F_chunks_o0.ext E27
  have F_ended_o0 := F_ended_o0.ext E27
  have F_dataLength_o0 := F_dataLength_o0.ext E27
  have S_NONE := S_NONE.ext E27
  have S_SIZE_LINE := S_SIZE_LINE.ext E27
  have S_COMPACT_STRINGS := S_COMPACT_STRINGS.ext E27
  have K27 := K26.ext E27
  have E_b27 := A27
  have F_data_b27 : Fld Z h27 b27 "com/example/gatehook/gatehook/http/ChunkedBody" "data" "Ljava/io/ByteArrayOutputStream;" .null := D27 (Or.inr (hw _ (List.mem_of_getElem? (i := 48) rfl))) (ty := (.object "java/io/ByteArrayOutputStream")) (by decide)
  have F_line_b27 : Fld Z h27 b27 "com/example/gatehook/gatehook/http/ChunkedBody" "line" "Ljava/lang/StringBuilder;" .null := D27 (Or.inr (hw _ (List.mem_of_getElem? (i := 69) rfl))) (ty := (.object "java/lang/StringBuilder")) (by decide)
  have F_part_b27 : Fld Z h27 b27 "com/example/gatehook/gatehook/http/ChunkedBody" "part" "Lcom/example/gatehook/gatehook/http/ChunkedBody$Part;" .null := D27 (Or.inl (hw _ (List.mem_of_getElem? (i := 74) rfl))) (ty := (.object "com/example/gatehook/gatehook/http/ChunkedBody$Part")) (by decide)
  have F_max_b27 : Fld Z h27 b27 "com/example/gatehook/gatehook/http/ChunkedBody" "max" "I" (.int (0 : Int32)) := D27 (Or.inr (hw _ (List.mem_of_getElem? (i := 76) rfl))) (ty := .int) (by decide)
  have F_dataLeft_b27 : Fld Z h27 b27 "com/example/gatehook/gatehook/http/ChunkedBody" "dataLeft" "J" (.long (0 : Int64)) := D27 (Or.inl (hw _ (List.mem_of_getElem? (i := 182) rfl))) (ty := .long) (by decide)
  have F_trailerBytes_b27 : Fld Z h27 b27 "com/example/gatehook/gatehook/http/ChunkedBody" "trailerBytes" "I" (.int (0 : Int32)) := D27 (Or.inl (hw _ (List.mem_of_getElem? (i := 186) rfl))) (ty := .int) (by decide)
  refine Ends.step st27 ?_
  show Ends p e below QQ (T27.setTop (mkF m 33 #[.val (.ref o0), .val (.long (-2 : Int64)), .second, .val (.int p2)] [(.ref b27), (.ref o0)]))
  refine Ends.step (fun _ k => XS.dup X27.here hx rfl (hb hby d1_33) rfl rfl k) ?_
  show Ends p e below QQ (T27.setTop (mkF m 34 #[.val (.ref o0), .val (.long (-2 : Int64)), .second, .val (.int p2)] [(.ref b27), (.ref b27), (.ref o0)]))
  refine Ends.step (fun _ k => XS.iloadN X27.here hx rfl (hb hby d1_34) rfl k) ?_
  show Ends p e below QQ (T27.setTop (mkF m 35 #[.val (.ref o0), .val (.long (-2 : Int64)), .second, .val (.int p2)] [(.int p2), (.ref b27), (.ref b27), (.ref o0)]))
  obtain ⟨_, _, ⟨T28, L28, k28, n28⟩, -, X28, ⟨Lc28, hQ28, l28, y28, z28⟩, st28⟩ := X27.specialBack hx (y := (⟨"com/example/gatehook/gatehook/http/ChunkedBody", "<init>", "(I)V"⟩ : MethodName)) rfl hown (mvT hZ (hw _ (List.mem_of_getElem? (i := 23) rfl))) (mvT hZ (hw _ (List.mem_of_getElem? (i := 24) rfl))) (mvT hZ (hw _ (List.mem_of_getElem? (i := 25) rfl))) (by decide) (backOf (W := 2) (rmcb l Z a0 hw [] b27 p2 (.null : Value) (.null : Value) (.null : Value) (0 : Int32) a_SIZE_LINE cs h27 n0 (Nat.le_trans Z0 K27.1) E_b27 F_data_b27 F_line_b27 F_part_b27 F_max_b27 g_b27 S_SIZE_LINE S_COMPACT_STRINGS hcs) hZ (hw _ (List.mem_of_getElem? (i := 25) rfl)) (hw _ (List.mem_of_getElem? (i := 22) rfl)) (by decide) (by decide)) (g := (mkF m 35 #[.val (.ref o0), .val (.long (-2 : Int64)), .second, .val (.int p2)] [(.int p2), (.ref b27), (.ref b27), (.ref o0)])) rfl (by rw [hml]; rfl) (Steps.refl _) (a := b27) (argsL := [(.int p2)]) (rest := [(.ref b27), (.ref o0)]) (lenOf pd_1 rfl) rfl (by show 2 * 0 + _ ≤ _; exact Nat.le_of_eq rfl) (hb hby d1_35) (fun _ _ => ⟨rfl, e27, (by decide : 1 + 4 ≤ _), (by decide : 7 + 54 ≤ _)⟩)
  dsimp only [Pt.U, Pt.locs, Pt.cells, Pt.slots] at X28 l28 y28 z28 st28 hQ28
  subst l28 y28 z28
  obtain ⟨sb_28, vb_28, kb_28, rfl, Nq28, Kq28, fq28_0, fq28_1, fq28_2, fq28_3, fq28_4, fq28_5, fq28_6, fq28_7, fq28_8, fq28_9, fq28_10, fq28_11, fq28_12⟩ := hQ28
  have N28 := Fr.app N26 Nq28
  have ne_o0_sb_28 : o0 ≠ sb_28 := Nat.ne_of_lt (Nat.lt_of_lt_of_le E_o0.lt fq28_0)
  have ne_b27_sb_28 : b27 ≠ sb_28 := Nat.ne_of_lt (Nat.lt_of_lt_of_le E_b27.lt fq28_0)
  have sz_sb_28 := Nat.le_trans K27.1 fq28_0
  have ne_o0_vb_28 : o0 ≠ vb_28 := Nat.ne_of_lt (Nat.lt_of_lt_of_le E_o0.lt fq28_1)
  have ne_b27_vb_28 : b27 ≠ vb_28 := Nat.ne_of_lt (Nat.lt_of_lt_of_le E_b27.lt fq28_1)
  have sz_vb_28 := Nat.le_trans K27.1 fq28_1
  have S_NONE := own_sta_keep S_NONE Kq28 (allS E_b27.cell all0)
  have S_SIZE_LINE := own_sta_keep S_SIZE_LINE Kq28 (allS E_b27.cell all0)
  have S_COMPACT_STRINGS := own_sta_keep S_COMPACT_STRINGS Kq28 (allS E_b27.cell all0)
  have E_o0 := E_o0.keep Kq28
  have F_data_o0 := F_data_o0.keep Kq28 (ninS ne_o0_b27 nin0)
  have F_length_o0 := F_length_o0.keep Kq28 (ninS ne_o0_b27 nin0)
  have F_max_o0 := F_max_o0.keep Kq28 (ninS ne_o0_b27 nin0)
  have F_chunks_o0 := F_chunks_o0.keep Kq28 (ninS ne_o0_b27 nin0)
  have F_ended_o0 := F_ended_o0.keep Kq28 (ninS ne_o0_b27 nin0)
  have F_dataLength_o0 := F_dataLength_o0.keep Kq28 (ninS ne_o0_b27 nin0)
  have E_b27 := fq28_2
  have F_line_b27 := fq28_3
  have F_part_b27 := fq28_4
  have E_sb_28 := fq28_5
  have F_value_sb_28 := fq28_6
  have F_coder_sb_28 := fq28_7
  have F_count_sb_28 := fq28_8
  have A_vb_28 := fq28_9
  have g_sb_28 := fq28_10
  have g_vb_28 := fq28_11
  have ne_sb_28_vb_28 := fq28_12
  have K28 := K27.trans Kq28 (allS (Or.inr sz_b27) all0)
  refine Ends.step (fun _ k => st28.trans k) ?_
  show Ends p e below QQ (T28.setTop (mkF m 38 #[.val (.ref o0), .val (.long (-2 : Int64)), .second, .val (.int p2)] [(.ref b27), (.ref o0)]))
  obtain ⟨T29, h29, X29, e29, W29, st29⟩ := putF X28 hx hZ hown (host := "") (Or.inl (hw _ (List.mem_of_getElem? (i := 77) rfl))) Via.refl rfl F_chunks_o0 E_o0 (Or.inl (hw _ (List.mem_of_getElem? (i := 78) rfl))) (hw _ (List.mem_of_getElem? (i := 3) rfl)) (ty := (.object "com/example/gatehook/gatehook/http/ChunkedBody")) (by decide) rfl rfl (g := (mkF m 38 #[.val (.ref o0), .val (.long (-2 : Int64)), .second, .val (.int p2)] [(.ref b27), (.ref o0)])) rfl rfl (hb hby d1_38)
  have E_o0 := E_o0.wr W29
  have F_data_o0 := F_data_o0.other W29 (Or.inr (slot_ne (Or.inl (hw _ (List.mem_of_getElem? (i := 14) rfl))) (Or.inl (hw _ (List.mem_of_getElem? (i := 78) rfl))) (by decide) (t := (.array .byte)) (t' := (.object "com/example/gatehook/gatehook/http/ChunkedBody")) (by decide) (by decide)))
  have F_length_o0 := F_length_o0.other W29 (Or.inr (slot_ne (Or.inr (hw _ (List.mem_of_getElem? (i := 16) rfl))) (Or.inl (hw _ (List.mem_of_getElem? (i := 78) rfl))) (by decide) (t := .long) (t' := (.object "com/example/gatehook/gatehook/http/ChunkedBody")) (by decide) (by decide)))
  have F_max_o0 := F_max_o0.other W29 (Or.inr (slot_ne (Or.inr (hw _ (List.mem_of_getElem? (i := 18) rfl))) (Or.inl (hw _ (List.mem_of_getElem? (i := 78) rfl))) (by decide) (t := .int) (t' := (.object "com/example/gatehook/gatehook/http/ChunkedBody")) (by decide) (by decide)))
  have F_ended_o0 := F_ended_o0.other W29 (Or.inr (slot_ne (Or.inl (hw _ (List.mem_of_getElem? (i := 91) rfl))) (Or.inl (hw _ (List.mem_of_getElem? (i := 78) rfl))) (by decide) (t := .boolean) (t' := (.object "com/example/gatehook/gatehook/http/ChunkedBody")) (by decide) (by decide)))
  have F_dataLength_o0 := F_dataLength_o0.other W29 (Or.inr (slot_ne (Or.inl (hw _ (List.mem_of_getElem? (i := 106) rfl))) (Or.inl (hw _ (List.mem_of_getElem? (i := 78) rfl))) (by decide) (t := .int) (t' := (.object "com/example/gatehook/gatehook/http/ChunkedBody")) (by decide) (by decide)))
  have S_NONE := S_NONE.wr W29
  have S_SIZE_LINE := S_SIZE_LINE.wr W29
  have S_COMPACT_STRINGS := S_COMPACT_STRINGS.wr W29
  have E_b27 := E_b27.wr W29
  have F_line_b27 := F_line_b27.other W29 (Or.inl (Ne.symm ne_o0_b27))
  have F_part_b27 := F_part_b27.other W29 (Or.inl (Ne.symm ne_o0_b27))
  have E_sb_28 := E_sb_28.wr W29
  have F_value_sb_28 := F_value_sb_28.other W29 (Or.inl (Ne.symm ne_o0_sb_28))
  have F_coder_sb_28 := F_coder_sb_28.other W29 (Or.inl (Ne.symm ne_o0_sb_28))
  have F_count_sb_28 := F_count_sb_28.other W29 (Or.inl (Ne.symm ne_o0_sb_28))
  have A_vb_28 := A_vb_28.other W29 (Ne.symm ne_o0_vb_28)
  have F_chunks_o0 : Fld Z h29 o0 "com/example/gatehook/gatehook/http/IncomingBody" "chunks" "Lcom/example/gatehook/gatehook/http/ChunkedBody;" (.ref b27) := F_chunks_o0.same W29
  have K29 := K28.wr W29 (Or.inl (List.mem_of_getElem? (i := 0) rfl))
  have N29 := Fr.snoc X29 N28 g_o0
  refine Ends.step st29 ?_
  show Ends p e below QQ (T29.setTop (mkF m 41 #[.val (.ref o0), .val (.long (-2 : Int64)), .second, .val (.int p2)] []))
  refine Ends.step (fun _ k => XS.goto X29.here hx rfl (pc0 := 41) (pc' := 79) rfl (hb hby d1_41) (by decide) (by decide) k) ?_
  show Ends p e below QQ (T29.setTop (mkF m 79 #[.val (.ref o0), .val (.long (-2 : Int64)), .second, .val (.int p2)] []))
  exact Ends.fin (none) X29 hQQ (fun _ => rfl) Bd.notSynchronized (fun _ hr => X29.returnOut hx Bd.returns (hb hby d1_79) hr) e29 (by decide) (by decide) ⟨b27, sb_28, vb_28, kb_28, rfl, N29, K29, sz_b27, sz_sb_28, sz_vb_28, E_o0, F_length_o0, F_ended_o0, F_chunks_o0, E_b27, ne_b27_sb_28, ne_b27_vb_28, F_line_b27, F_part_b27, E_sb_28, F_value_sb_28, F_coder_sb_28, F_count_sb_28, A_vb_28, g_sb_28, g_vb_28, ne_sb_28_vb_28⟩
theorem d1_44 : decode prog_42_method_1_code 44 = .ok (.lload_n 1, 1) := by decide +kernel
theorem d1_45 : decode prog_42_method_1_code 45 = .ok (.iload_n 3, 1) := by decide +kernel
theorem d1_46 : decode prog_42_method_1_code 46 = .ok (.i2l, 1) := by decide +kernel
theorem d1_47 : decode prog_42_method_1_code 47 = .ok (.lcmp, 1) := by decide +kernel
theorem d1_48 : decode prog_42_method_1_code 48 = .ok (.ifCond .le 16, 3) := by decide +kernel
theorem d1_51 : decode prog_42_method_1_code 51 = .ok (.aload_n 0, 1) := by decide +kernel
theorem d1_52 : decode prog_42_method_1_code 52 = .ok (.aconst_null, 1) := by decide +kernel
theorem d1_53 : decode prog_42_method_1_code 53 = .ok (.putfield 13, 3) := by decide +kernel
theorem d1_56 : decode prog_42_method_1_code 56 = .ok (.aload_n 0, 1) := by decide +kernel
theorem d1_57 : decode prog_42_method_1_code 57 = .ok (.iconst 1, 1) := by decide +kernel
theorem d1_58 : decode prog_42_method_1_code 58 = .ok (.putfield 37, 3) := by decide +kernel
theorem d1_61 : decode prog_42_method_1_code 61 = .ok (.goto 18, 3) := by decide +kernel
theorem ef_ib (m : MethodId) (x0 : Addr) (x1 : Int64) (x2 : Int32) : entryFrame m #[(.ref x0), (.long x1), (.int x2)] 4 = mkF m 0 #[.val (.ref x0), .val (.long x1), .second, .val (.int x2)] [] := by first | (simp [entryFrame, mkF, argsToLocals, Value.category]; done) | rfl
def Qib (Z : State) (o0 : Addr) (q1 : Int64) (p2 : Int32) (a_NONE : Addr) (h0 : Heap) (n0 : Nat) (v : Option Value) (h : Heap) (L : List Loc) : Prop := (v = none) ∧ (Fr n0 L) ∧ (Keep h0 h [o0]) ∧ (Exa Z h o0 "com/example/gatehook/gatehook/http/IncomingBody") ∧ (Fld Z h o0 "com/example/gatehook/gatehook/http/IncomingBody" "length" "J" (.long q1)) ∧ (Fld Z h o0 "com/example/gatehook/gatehook/http/IncomingBody" "ended" "Z" (.int (1 : Int32)))
set_option maxRecDepth 65536 in
set_option maxHeartbeats 40000000 in
theorem rmib (l : Launch) (Z : State) (a0 : Array Value) (hw : ∀ d ∈ tables_1, d.before a0 Z = true) (ws : List Jvm.Cond) (o0 : Addr) (q1 : Int64) (p2 : Int32) (a_NONE : Addr) (h0 : Heap) (n0 : Nat) (Z0 : n0 ≤ h0.size) (E_o0 : Exa Z h0 o0 "com/example/gatehook/gatehook/http/IncomingBody") (F_data_o0 : Fld Z h0 o0 "com/example/gatehook/gatehook/http/IncomingBody" "data" "[B" .null) (F_length_o0 : Fld Z h0 o0 "com/example/gatehook/gatehook/http/IncomingBody" "length" "J" (.long (0 : Int64))) (F_max_o0 : Fld Z h0 o0 "com/example/gatehook/gatehook/http/IncomingBody" "max" "I" (.int (0 : Int32))) (F_chunks_o0 : Fld Z h0 o0 "com/example/gatehook/gatehook/http/IncomingBody" "chunks" "Lcom/example/gatehook/gatehook/http/ChunkedBody;" .null) (F_ended_o0 : Fld Z h0 o0 "com/example/gatehook/gatehook/http/IncomingBody" "ended" "Z" (.int (0 : Int32))) (F_dataLength_o0 : Fld Z h0 o0 "com/example/gatehook/gatehook/http/IncomingBody" "dataLength" "I" (.int (0 : Int32))) (g_o0 : n0 ≤ o0) (S_NONE : Sta Z h0 "com/example/gatehook/gatehook/http/IncomingBody" "NONE" "[B" (.ref a_NONE)) (h1 : ¬ q1 = (-2 : Int64)) (h2 : p2.toInt64 < q1) :
    MetFree l (⟨"com/example/gatehook/gatehook/http/IncomingBody", "<init>", "(JI)V"⟩ : MethodName) (head1 (Jvm.Cond.code (⟨"com/example/gatehook/gatehook/http/IncomingBody", "<init>", "(JI)V"⟩ : MethodName) prog_42_method_1_code 4 none :: ws) ({ frames := 1, cells := 0, slots := 0, locals := 12 } : Room)) (fun a U => a = #[(.ref o0), (.long q1), (.int p2)] ∧ Z.Warmed39 U.vm ∧ U.heap = h0) (fun _ _ _ _ _ => True) (fun _ U o U' => ∃ v L, o = .returned v ∧ Qib Z o0 q1 p2 a_NONE h0 n0 v U'.heap L ∧ FrameEnd U o U' L ({ frames := 1, cells := 0, slots := 0, locals := 12 } : Room).cells ({ frames := 1, cells := 0, slots := 0, locals := 12 } : Room).slots) := by
  refine MetFree.of_bodySF (plainFor_of_name pn_5) hisR ?_
  intro p e s m args below meth c s₁ Bd hml0 hP hK
  obtain ⟨rfl, hZ, hh⟩ := hP
  have hx := Bd.exec
  have hby := Bd.bytes
  have hml : c.maxLocals = 4 := hml0
  have hown : s.vm.findClass "com/example/gatehook/gatehook/http/IncomingBody" = some m.cls := findClass_of_methodNamed Bd.named
  have hnm := (name_of_methodNamed Bd.named Bd.method).1
  have X0 : Stand p l e ({ frames := 1, cells := 0, slots := 0, locals := 12 } : Room) s m #[(.ref o0), (.long q1), (.int p2)] below meth c s₁ [] 0 0 := Stand.of_body Bd
  have e0 : s₁.heap = h0 := by rw [← hh, Bd.state]; rfl
  have N0 := Fr.nil n0
  refine Ends.opn ?_
  intro QQ hQQ
  refine Ends.step (S' := s₁.setTop (mkF m 0 #[.val (.ref o0), .val (.long q1), .second, .val (.int p2)] [])) (fun t k => castTop (ef_ib m o0 q1 p2) k) ?_
  show Ends p e below QQ (s₁.setTop (mkF m 0 #[.val (.ref o0), .val (.long q1), .second, .val (.int p2)] []))
  refine Ends.step (fun _ k => XS.aloadN X0.here hx rfl (hb hby d1_0) rfl rfl k) ?_
  show Ends p e below QQ (s₁.setTop (mkF m 1 #[.val (.ref o0), .val (.long q1), .second, .val (.int p2)] [(.ref o0)]))
  obtain ⟨T30, X30, e30, st30⟩ := initO X0 hx hZ hown (hw _ (List.mem_of_getElem? (i := 8) rfl)) (hw _ (List.mem_of_getElem? (i := 9) rfl)) (hw _ (List.mem_of_getElem? (i := 10) rfl)) e0 (g := (mkF m 1 #[.val (.ref o0), .val (.long q1), .second, .val (.int p2)] [(.ref o0)])) rfl (by rw [hml]; rfl) rfl (hb hby d1_1) (by decide) (W := 0) (by show 2 * 0 + _ ≤ _; exact Nat.le_of_eq rfl) (by decide)
  refine Ends.step st30 ?_
  show Ends p e below QQ (T30.setTop (mkF m 4 #[.val (.ref o0), .val (.long q1), .second, .val (.int p2)] []))
  refine Ends.step (fun _ k => XS.aloadN X30.here hx rfl (hb hby d1_4) rfl rfl k) ?_
  show Ends p e below QQ (T30.setTop (mkF m 5 #[.val (.ref o0), .val (.long q1), .second, .val (.int p2)] [(.ref o0)]))
  obtain ⟨T31, X31, e31, st31⟩ := getS2 X30 hx hZ hown (host := "") (Or.inl (hw _ (List.mem_of_getElem? (i := 11) rfl))) Via.refl e30 S_NONE (g := (mkF m 5 #[.val (.ref o0), .val (.long q1), .second, .val (.int p2)] [(.ref o0)])) rfl (hb hby d1_5)
  refine Ends.step st31 ?_
  show Ends p e below QQ (T31.setTop (mkF m 8 #[.val (.ref o0), .val (.long q1), .second, .val (.int p2)] [(.ref a_NONE), (.ref o0)]))
  obtain ⟨T32, h32, X32, e32, W32, st32⟩ := putF X31 hx hZ hown (host := "") (Or.inl (hw _ (List.mem_of_getElem? (i := 13) rfl))) Via.refl e31 F_data_o0 E_o0 (Or.inl (hw _ (List.mem_of_getElem? (i := 14) rfl))) (hw _ (List.mem_of_getElem? (i := 3) rfl)) (ty := (.array .byte)) (by decide) rfl rfl (g := (mkF m 8 #[.val (.ref o0), .val (.long q1), .second, .val (.int p2)] [(.ref a_NONE), (.ref o0)])) rfl rfl (hb hby d1_8)
  have E_o0 := E_o0.wr W32
  have F_length_o0 := F_length_o0.other W32 (Or.inr (slot_ne (Or.inr (hw _ (List.mem_of_getElem? (i := 16) rfl))) (Or.inl (hw _ (List.mem_of_getElem? (i := 14) rfl))) (by decide) (t := .long) (t' := (.array .byte)) (by decide) (by decide)))
  have F_max_o0 := F_max_o0.other W32 (Or.inr (slot_ne (Or.inr (hw _ (List.mem_of_getElem? (i := 18) rfl))) (Or.inl (hw _ (List.mem_of_getElem? (i := 14) rfl))) (by decide) (t := .int) (t' := (.array .byte)) (by decide) (by decide)))
  have F_chunks_o0 := F_chunks_o0.other W32 (Or.inr (slot_ne (Or.inl (hw _ (List.mem_of_getElem? (i := 78) rfl))) (Or.inl (hw _ (List.mem_of_getElem? (i := 14) rfl))) (by decide) (t := (.object "com/example/gatehook/gatehook/http/ChunkedBody")) (t' := (.array .byte)) (by decide) (by decide)))
  have F_ended_o0 := F_ended_o0.other W32 (Or.inr (slot_ne (Or.inl (hw _ (List.mem_of_getElem? (i := 91) rfl))) (Or.inl (hw _ (List.mem_of_getElem? (i := 14) rfl))) (by decide) (t := .boolean) (t' := (.array .byte)) (by decide) (by decide)))
  have F_dataLength_o0 := F_dataLength_o0.other W32 (Or.inr (slot_ne (Or.inl (hw _ (List.mem_of_getElem? (i := 106) rfl))) (Or.inl (hw _ (List.mem_of_getElem? (i := 14) rfl))) (by decide) (t := .int) (t' := (.array .byte)) (by decide) (by decide)))
  have S_NONE := S_NONE.wr W32
  have F_data_o0 : Fld Z h32 o0 "com/example/gatehook/gatehook/http/IncomingBody" "data" "[B" (.ref a_NONE) := F_data_o0.same W32
  have K32 := (Keep.refl h0 [o0]).wr W32 (Or.inl (List.mem_of_getElem? (i := 0) rfl))
  have N32 := Fr.snoc X32 N0 g_o0
  refine Ends.step st32 ?_
  show Ends p e below QQ (T32.setTop (mkF m 11 #[.val (.ref o0), .val (.long q1), .second, .val (.int p2)] []))
  refine Ends.step (fun _ k => XS.aloadN X32.here hx rfl (hb hby d1_11) rfl rfl k) ?_
  show Ends p e below QQ (T32.setTop (mkF m 12 #[.val (.ref o0), .val (.long q1), .second, .val (.int p2)] [(.ref o0)]))
  refine Ends.step (fun _ k => XT.lloadN X32.here hx rfl (hb hby d1_12) rfl k) ?_
  show Ends p e below QQ (T32.setTop (mkF m 13 #[.val (.ref o0), .val (.long q1), .second, .val (.int p2)] [(.long q1), (.ref o0)]))
  obtain ⟨T33, h33, X33, e33, W33, st33⟩ := putF X32 hx hZ hown (host := "") (Or.inl (hw _ (List.mem_of_getElem? (i := 15) rfl))) Via.refl e32 F_length_o0 E_o0 (Or.inr ⟨(hw _ (List.mem_of_getElem? (i := 16) rfl)), rfl, hnm⟩) (hw _ (List.mem_of_getElem? (i := 3) rfl)) (ty := .long) (by decide) rfl rfl (g := (mkF m 13 #[.val (.ref o0), .val (.long q1), .second, .val (.int p2)] [(.long q1), (.ref o0)])) rfl rfl (hb hby d1_13)
  have E_o0 := E_o0.wr W33
  have F_data_o0 := F_data_o0.other W33 (Or.inr (slot_ne (Or.inl (hw _ (List.mem_of_getElem? (i := 14) rfl))) (Or.inr (hw _ (List.mem_of_getElem? (i := 16) rfl))) (by decide) (t := (.array .byte)) (t' := .long) (by decide) (by decide)))
  have F_max_o0 := F_max_o0.other W33 (Or.inr (slot_ne (Or.inr (hw _ (List.mem_of_getElem? (i := 18) rfl))) (Or.inr (hw _ (List.mem_of_getElem? (i := 16) rfl))) (by decide) (t := .int) (t' := .long) (by decide) (by decide)))
  have F_chunks_o0 := F_chunks_o0.other W33 (Or.inr (slot_ne (Or.inl (hw _ (List.mem_of_getElem? (i := 78) rfl))) (Or.inr (hw _ (List.mem_of_getElem? (i := 16) rfl))) (by decide) (t := (.object "com/example/gatehook/gatehook/http/ChunkedBody")) (t' := .long) (by decide) (by decide)))
  have F_ended_o0 := F_ended_o0.other W33 (Or.inr (slot_ne (Or.inl (hw _ (List.mem_of_getElem? (i := 91) rfl))) (Or.inr (hw _ (List.mem_of_getElem? (i := 16) rfl))) (by decide) (t := .boolean) (t' := .long) (by decide) (by decide)))
  have F_dataLength_o0 := F_dataLength_o0.other W33 (Or.inr (slot_ne (Or.inl (hw _ (List.mem_of_getElem? (i := 106) rfl))) (Or.inr (hw _ (List.mem_of_getElem? (i := 16) rfl))) (by decide) (t := .int) (t' := .long) (by decide) (by decide)))
  have S_NONE := S_NONE.wr W33
  have F_length_o0 : Fld Z h33 o0 "com/example/gatehook/gatehook/http/IncomingBody" "length" "J" (.long q1) := F_length_o0.same W33
  have K33 := K32.wr W33 (Or.inl (List.mem_of_getElem? (i := 0) rfl))
  have N33 := Fr.snoc X33 N32 g_o0
  refine Ends.step st33 ?_
  show Ends p e below QQ (T33.setTop (mkF m 16 #[.val (.ref o0), .val (.long q1), .second, .val (.int p2)] []))
  refine Ends.step (fun _ k => XS.aloadN X33.here hx rfl (hb hby d1_16) rfl rfl k) ?_
  show Ends p e below QQ (T33.setTop (mkF m 17 #[.val (.ref o0), .val (.long q1), .second, .val (.int p2)] [(.ref o0)]))
  refine Ends.step (fun _ k => XS.iloadN X33.here hx rfl (hb hby d1_17) rfl k) ?_
  show Ends p e below QQ (T33.setTop (mkF m 18 #[.val (.ref o0), .val (.long q1), .second, .val (.int p2)] [(.int p2), (.ref o0)]))
  obtain ⟨T34, h34, X34, e34, W34, st34⟩ := putF X33 hx hZ hown (host := "") (Or.inl (hw _ (List.mem_of_getElem? (i := 17) rfl))) Via.refl e33 F_max_o0 E_o0 (Or.inr ⟨(hw _ (List.mem_of_getElem? (i := 18) rfl)), rfl, hnm⟩) (hw _ (List.mem_of_getElem? (i := 3) rfl)) (ty := .int) (by decide) rfl rfl (g := (mkF m 18 #[.val (.ref o0), .val (.long q1), .second, .val (.int p2)] [(.int p2), (.ref o0)])) rfl rfl (hb hby d1_18)
  have E_o0 := E_o0.wr W34
  have F_data_o0 := F_data_o0.other W34 (Or.inr (slot_ne (Or.inl (hw _ (List.mem_of_getElem? (i := 14) rfl))) (Or.inr (hw _ (List.mem_of_getElem? (i := 18) rfl))) (by decide) (t := (.array .byte)) (t' := .int) (by decide) (by decide)))
  have F_length_o0 := F_length_o0.other W34 (Or.inr (slot_ne (Or.inr (hw _ (List.mem_of_getElem? (i := 16) rfl))) (Or.inr (hw _ (List.mem_of_getElem? (i := 18) rfl))) (by decide) (t := .long) (t' := .int) (by decide) (by decide)))
  have F_chunks_o0 := F_chunks_o0.other W34 (Or.inr (slot_ne (Or.inl (hw _ (List.mem_of_getElem? (i := 78) rfl))) (Or.inr (hw _ (List.mem_of_getElem? (i := 18) rfl))) (by decide) (t := (.object "com/example/gatehook/gatehook/http/ChunkedBody")) (t' := .int) (by decide) (by decide)))
  have F_ended_o0 := F_ended_o0.other W34 (Or.inr (slot_ne (Or.inl (hw _ (List.mem_of_getElem? (i := 91) rfl))) (Or.inr (hw _ (List.mem_of_getElem? (i := 18) rfl))) (by decide) (t := .boolean) (t' := .int) (by decide) (by decide)))
  have F_dataLength_o0 := F_dataLength_o0.other W34 (Or.inr (slot_ne (Or.inl (hw _ (List.mem_of_getElem? (i := 106) rfl))) (Or.inr (hw _ (List.mem_of_getElem? (i := 18) rfl))) (by decide) (t := .int) (t' := .int) (by decide) (by decide)))
  have S_NONE := S_NONE.wr W34
  have F_max_o0 : Fld Z h34 o0 "com/example/gatehook/gatehook/http/IncomingBody" "max" "I" (.int p2) := F_max_o0.same W34
  have K34 := K33.wr W34 (Or.inl (List.mem_of_getElem? (i := 0) rfl))
  have N34 := Fr.snoc X34 N33 g_o0
  refine Ends.step st34 ?_
  show Ends p e below QQ (T34.setTop (mkF m 21 #[.val (.ref o0), .val (.long q1), .second, .val (.int p2)] []))
  refine Ends.step (fun _ k => XT.lloadN X34.here hx rfl (hb hby d1_21) rfl k) ?_
  show Ends p e below QQ (T34.setTop (mkF m 22 #[.val (.ref o0), .val (.long q1), .second, .val (.int p2)] [(.long q1)]))
  refine Ends.step (fun _ k => X34.ldc2J hx hown (mvT hZ (hw _ (List.mem_of_getElem? (i := 19) rfl))) (g := (mkF m 22 #[.val (.ref o0), .val (.long q1), .second, .val (.int p2)] [(.long q1)])) rfl (hb hby d1_22) k) ?_
  show Ends p e below QQ (T34.setTop (mkF m 25 #[.val (.ref o0), .val (.long q1), .second, .val (.int p2)] [(.long (-2 : Int64)), (.long q1)]))
  refine Ends.step (fun _ k => XT.lcmp X34.here hx rfl (hb hby d1_25) rfl k) ?_
  show Ends p e below QQ (T34.setTop (mkF m 26 #[.val (.ref o0), .val (.long q1), .second, .val (.int p2)] [(.int (XT.cmpL q1 (-2 : Int64)))]))
  have hc26 : ¬ (q1 = (-2 : Int64)) := h1
  refine Ends.step (fun _ k => XS.ifYes X34.here hx rfl (pc0 := 26) (pc' := 44) rfl (hb hby d1_26) rfl (XT.ll_ne_t hc26) (by decide) (by decide) k) ?_
  show Ends p e below QQ (T34.setTop (mkF m 44 #[.val (.ref o0), .val (.long q1), .second, .val (.int p2)] []))
  refine Ends.step (fun _ k => XT.lloadN X34.here hx rfl (hb hby d1_44) rfl k) ?_
  show Ends p e below QQ (T34.setTop (mkF m 45 #[.val (.ref o0), .val (.long q1), .second, .val (.int p2)] [(.long q1)]))
  refine Ends.step (fun _ k => XS.iloadN X34.here hx rfl (hb hby d1_45) rfl k) ?_
  show Ends p e below QQ (T34.setTop (mkF m 46 #[.val (.ref o0), .val (.long q1), .second, .val (.int p2)] [(.int p2), (.long q1)]))
  refine Ends.step (fun _ k => XT.i2l X34.here hx rfl (hb hby d1_46) rfl k) ?_
  show Ends p e below QQ (T34.setTop (mkF m 47 #[.val (.ref o0), .val (.long q1), .second, .val (.int p2)] [(.long p2.toInt64), (.long q1)]))
  refine Ends.step (fun _ k => XT.lcmp X34.here hx rfl (hb hby d1_47) rfl k) ?_
  show Ends p e below QQ (T34.setTop (mkF m 48 #[.val (.ref o0), .val (.long q1), .second, .val (.int p2)] [(.int (XT.cmpL q1 p2.toInt64))]))
  have hc48 : p2.toInt64 < q1 := h2
  refine Ends.step (fun _ k => XS.ifNo X34.here hx rfl (hb hby d1_48) rfl (XT.ll_le_f hc48) k) ?_
  show Ends p e below QQ (T34.setTop (mkF m 51 #[.val (.ref o0), .val (.long q1), .second, .val (.int p2)] []))
  refine Ends.step (fun _ k => XS.aloadN X34.here hx rfl (hb hby d1_51) rfl rfl k) ?_
  show Ends p e below QQ (T34.setTop (mkF m 52 #[.val (.ref o0), .val (.long q1), .second, .val (.int p2)] [(.ref o0)]))
  refine Ends.step (fun _ k => XS.aconstNull X34.here hx rfl (hb hby d1_52) k) ?_
  show Ends p e below QQ (T34.setTop (mkF m 53 #[.val (.ref o0), .val (.long q1), .second, .val (.int p2)] [.null, (.ref o0)]))
  obtain ⟨T35, h35, X35, e35, W35, st35⟩ := putF X34 hx hZ hown (host := "") (Or.inl (hw _ (List.mem_of_getElem? (i := 13) rfl))) Via.refl e34 F_data_o0 E_o0 (Or.inl (hw _ (List.mem_of_getElem? (i := 14) rfl))) (hw _ (List.mem_of_getElem? (i := 3) rfl)) (ty := (.array .byte)) (by decide) rfl rfl (g := (mkF m 53 #[.val (.ref o0), .val (.long q1), .second, .val (.int p2)] [.null, (.ref o0)])) rfl rfl (hb hby d1_53)
  have E_o0 := E_o0.wr W35
  have F_length_o0 := F_length_o0.other W35 (Or.inr (slot_ne (Or.inr (hw _ (List.mem_of_getElem? (i := 16) rfl))) (Or.inl (hw _ (List.mem_of_getElem? (i := 14) rfl))) (by decide) (t := .long) (t' := (.array .byte)) (by decide) (by decide)))
  have F_max_o0 := F_max_o0.other W35 (Or.inr (slot_ne (Or.inr (hw _ (List.mem_of_getElem? (i := 18) rfl))) (Or.inl (hw _ (List.mem_of_getElem? (i := 14) rfl))) (by decide) (t := .int) (t' := (.array .byte)) (by decide) (by decide)))
  have F_chunks_o0 := F_chunks_o0.other W35 (Or.inr (slot_ne (Or.inl (hw _ (List.mem_of_getElem? (i := 78) rfl))) (Or.inl (hw _ (List.mem_of_getElem? (i := 14) rfl))) (by decide) (t := (.object "com/example/gatehook/gatehook/http/ChunkedBody")) (t' := (.array .byte)) (by decide) (by decide)))
  have F_ended_o0 := F_ended_o0.other W35 (Or.inr (slot_ne (Or.inl (hw _ (List.mem_of_getElem? (i := 91) rfl))) (Or.inl (hw _ (List.mem_of_getElem? (i := 14) rfl))) (by decide) (t := .boolean) (t' := (.array .byte)) (by decide) (by decide)))
  have F_dataLength_o0 := F_dataLength_o0.other W35 (Or.inr (slot_ne (Or.inl (hw _ (List.mem_of_getElem? (i := 106) rfl))) (Or.inl (hw _ (List.mem_of_getElem? (i := 14) rfl))) (by decide) (t := .int) (t' := (.array .byte)) (by decide) (by decide)))
  have S_NONE := S_NONE.wr W35
  have F_data_o0 : Fld Z h35 o0 "com/example/gatehook/gatehook/http/IncomingBody" "data" "[B" .null := F_data_o0.same W35
  have K35 := K34.wr W35 (Or.inl (List.mem_of_getElem? (i := 0) rfl))
  have N35 := Fr.snoc X35 N34 g_o0
  refine Ends.step st35 ?_
  show Ends p e below QQ (T35.setTop (mkF m 56 #[.val (.ref o0), .val (.long q1), .second, .val (.int p2)] []))
  refine Ends.step (fun _ k => XS.aloadN X35.here hx rfl (hb hby d1_56) rfl rfl k) ?_
  show Ends p e below QQ (T35.setTop (mkF m 57 #[.val (.ref o0), .val (.long q1), .second, .val (.int p2)] [(.ref o0)]))
  refine Ends.step (fun _ k => XT.iconstV X35.here hx rfl (1 : Int32) (hb hby d1_57) rfl k) ?_
  show Ends p e below QQ (T35.setTop (mkF m 58 #[.val (.ref o0), .val (.long q1), .second, .val (.int p2)] [(.int (1 : Int32)), (.ref o0)]))
  obtain ⟨T36, h36, X36, e36, W36, st36⟩ := putFN X35 hx hZ hown (hw _ (List.mem_of_getElem? (i := 90) rfl)) Via.refl e35 F_ended_o0 E_o0 (Or.inl (hw _ (List.mem_of_getElem? (i := 91) rfl))) (hw _ (List.mem_of_getElem? (i := 3) rfl)) (ty := .boolean) (v' := (.int (1 : Int32))) (by decide) rfl rfl (g := (mkF m 58 #[.val (.ref o0), .val (.long q1), .second, .val (.int p2)] [(.int (1 : Int32)), (.ref o0)])) rfl rfl (hb hby d1_58)
  have E_o0 := E_o0.wr W36
  have F_data_o0 := F_data_o0.other W36 (Or.inr (slot_ne (Or.inl (hw _ (List.mem_of_getElem? (i := 14) rfl))) (Or.inl (hw _ (List.mem_of_getElem? (i := 91) rfl))) (by decide) (t := (.array .byte)) (t' := .boolean) (by decide) (by decide)))
  have F_length_o0 := F_length_o0.other W36 (Or.inr (slot_ne (Or.inr (hw _ (List.mem_of_getElem? (i := 16) rfl))) (Or.inl (hw _ (List.mem_of_getElem? (i := 91) rfl))) (by decide) (t := .long) (t' := .boolean) (by decide) (by decide)))
  have F_max_o0 := F_max_o0.other W36 (Or.inr (slot_ne (Or.inr (hw _ (List.mem_of_getElem? (i := 18) rfl))) (Or.inl (hw _ (List.mem_of_getElem? (i := 91) rfl))) (by decide) (t := .int) (t' := .boolean) (by decide) (by decide)))
  have F_chunks_o0 := F_chunks_o0.other W36 (Or.inr (slot_ne (Or.inl (hw _ (List.mem_of_getElem? (i := 78) rfl))) (Or.inl (hw _ (List.mem_of_getElem? (i := 91) rfl))) (by decide) (t := (.object "com/example/gatehook/gatehook/http/ChunkedBody")) (t' := .boolean) (by decide) (by decide)))
  have F_dataLength_o0 := F_dataLength_o0.other W36 (Or.inr (slot_ne (Or.inl (hw _ (List.mem_of_getElem? (i := 106) rfl))) (Or.inl (hw _ (List.mem_of_getElem? (i := 91) rfl))) (by decide) (t := .int) (t' := .boolean) (by decide) (by decide)))
  have S_NONE := S_NONE.wr W36
  have F_ended_o0 : Fld Z h36 o0 "com/example/gatehook/gatehook/http/IncomingBody" "ended" "Z" (.int (1 : Int32)) := F_ended_o0.same W36
  have K36 := K35.wr W36 (Or.inl (List.mem_of_getElem? (i := 0) rfl))
  have N36 := Fr.snoc X36 N35 g_o0
  refine Ends.step st36 ?_
  show Ends p e below QQ (T36.setTop (mkF m 61 #[.val (.ref o0), .val (.long q1), .second, .val (.int p2)] []))
  refine Ends.step (fun _ k => XS.goto X36.here hx rfl (pc0 := 61) (pc' := 79) rfl (hb hby d1_61) (by decide) (by decide) k) ?_
  show Ends p e below QQ (T36.setTop (mkF m 79 #[.val (.ref o0), .val (.long q1), .second, .val (.int p2)] []))
  exact Ends.fin (none) X36 hQQ (fun _ => rfl) Bd.notSynchronized (fun _ hr => X36.returnOut hx Bd.returns (hb hby d1_79) hr) e36 (by decide) (by decide) ⟨rfl, N36, K36, E_o0, F_length_o0, F_ended_o0⟩
theorem d1_64 : decode prog_42_method_1_code 64 = .ok (.aload_n 0, 1) := by decide +kernel
theorem d1_65 : decode prog_42_method_1_code 65 = .ok (.lload_n 1, 1) := by decide +kernel
theorem d1_66 : decode prog_42_method_1_code 66 = .ok (.lconst 0, 1) := by decide +kernel
theorem d1_67 : decode prog_42_method_1_code 67 = .ok (.lcmp, 1) := by decide +kernel
theorem d1_68 : decode prog_42_method_1_code 68 = .ok (.ifCond .ne 7, 3) := by decide +kernel
theorem d1_71 : decode prog_42_method_1_code 71 = .ok (.iconst 1, 1) := by decide +kernel
theorem d1_72 : decode prog_42_method_1_code 72 = .ok (.goto 4, 3) := by decide +kernel
theorem d1_76 : decode prog_42_method_1_code 76 = .ok (.putfield 37, 3) := by decide +kernel
theorem ef_ic (m : MethodId) (x0 : Addr) (x2 : Int32) : entryFrame m #[(.ref x0), (.long (0 : Int64)), (.int x2)] 4 = mkF m 0 #[.val (.ref x0), .val (.long (0 : Int64)), .second, .val (.int x2)] [] := by first | (simp [entryFrame, mkF, argsToLocals, Value.category]; done) | rfl
def Qic (Z : State) (o0 : Addr) (p2 : Int32) (a_NONE : Addr) (h0 : Heap) (n0 : Nat) (v : Option Value) (h : Heap) (L : List Loc) : Prop := (v = none) ∧ (Fr n0 L) ∧ (Keep h0 h [o0]) ∧ (Exa Z h o0 "com/example/gatehook/gatehook/http/IncomingBody") ∧ (Fld Z h o0 "com/example/gatehook/gatehook/http/IncomingBody" "length" "J" (.long (0 : Int64))) ∧ (Fld Z h o0 "com/example/gatehook/gatehook/http/IncomingBody" "ended" "Z" (.int (1 : Int32)))
set_option maxRecDepth 65536 in
set_option maxHeartbeats 40000000 in
theorem rmic (l : Launch) (Z : State) (a0 : Array Value) (hw : ∀ d ∈ tables_1, d.before a0 Z = true) (ws : List Jvm.Cond) (o0 : Addr) (p2 : Int32) (a_NONE : Addr) (h0 : Heap) (n0 : Nat) (Z0 : n0 ≤ h0.size) (E_o0 : Exa Z h0 o0 "com/example/gatehook/gatehook/http/IncomingBody") (F_data_o0 : Fld Z h0 o0 "com/example/gatehook/gatehook/http/IncomingBody" "data" "[B" .null) (F_length_o0 : Fld Z h0 o0 "com/example/gatehook/gatehook/http/IncomingBody" "length" "J" (.long (0 : Int64))) (F_max_o0 : Fld Z h0 o0 "com/example/gatehook/gatehook/http/IncomingBody" "max" "I" (.int (0 : Int32))) (F_chunks_o0 : Fld Z h0 o0 "com/example/gatehook/gatehook/http/IncomingBody" "chunks" "Lcom/example/gatehook/gatehook/http/ChunkedBody;" .null) (F_ended_o0 : Fld Z h0 o0 "com/example/gatehook/gatehook/http/IncomingBody" "ended" "Z" (.int (0 : Int32))) (F_dataLength_o0 : Fld Z h0 o0 "com/example/gatehook/gatehook/http/IncomingBody" "dataLength" "I" (.int (0 : Int32))) (g_o0 : n0 ≤ o0) (S_NONE : Sta Z h0 "com/example/gatehook/gatehook/http/IncomingBody" "NONE" "[B" (.ref a_NONE)) (h2 : ¬ p2.toInt64 < (0 : Int64)) :
    MetFree l (⟨"com/example/gatehook/gatehook/http/IncomingBody", "<init>", "(JI)V"⟩ : MethodName) (head1 (Jvm.Cond.code (⟨"com/example/gatehook/gatehook/http/IncomingBody", "<init>", "(JI)V"⟩ : MethodName) prog_42_method_1_code 4 none :: ws) ({ frames := 1, cells := 0, slots := 0, locals := 12 } : Room)) (fun a U => a = #[(.ref o0), (.long (0 : Int64)), (.int p2)] ∧ Z.Warmed39 U.vm ∧ U.heap = h0) (fun _ _ _ _ _ => True) (fun _ U o U' => ∃ v L, o = .returned v ∧ Qic Z o0 p2 a_NONE h0 n0 v U'.heap L ∧ FrameEnd U o U' L ({ frames := 1, cells := 0, slots := 0, locals := 12 } : Room).cells ({ frames := 1, cells := 0, slots := 0, locals := 12 } : Room).slots) := by
  refine MetFree.of_bodySF (plainFor_of_name pn_5) hisR ?_
  intro p e s m args below meth c s₁ Bd hml0 hP hK
  obtain ⟨rfl, hZ, hh⟩ := hP
  have hx := Bd.exec
  have hby := Bd.bytes
  have hml : c.maxLocals = 4 := hml0
  have hown : s.vm.findClass "com/example/gatehook/gatehook/http/IncomingBody" = some m.cls := findClass_of_methodNamed Bd.named
  have hnm := (name_of_methodNamed Bd.named Bd.method).1
  have X0 : Stand p l e ({ frames := 1, cells := 0, slots := 0, locals := 12 } : Room) s m #[(.ref o0), (.long (0 : Int64)), (.int p2)] below meth c s₁ [] 0 0 := Stand.of_body Bd
  have e0 : s₁.heap = h0 := by rw [← hh, Bd.state]; rfl
  have N0 := Fr.nil n0
  refine Ends.opn ?_
  intro QQ hQQ
  refine Ends.step (S' := s₁.setTop (mkF m 0 #[.val (.ref o0), .val (.long (0 : Int64)), .second, .val (.int p2)] [])) (fun t k => castTop (ef_ic m o0 p2) k) ?_
  show Ends p e below QQ (s₁.setTop (mkF m 0 #[.val (.ref o0), .val (.long (0 : Int64)), .second, .val (.int p2)] []))
  refine Ends.step (fun _ k => XS.aloadN X0.here hx rfl (hb hby d1_0) rfl rfl k) ?_
  show Ends p e below QQ (s₁.setTop (mkF m 1 #[.val (.ref o0), .val (.long (0 : Int64)), .second, .val (.int p2)] [(.ref o0)]))
  obtain ⟨T37, X37, e37, st37⟩ := initO X0 hx hZ hown (hw _ (List.mem_of_getElem? (i := 8) rfl)) (hw _ (List.mem_of_getElem? (i := 9) rfl)) (hw _ (List.mem_of_getElem? (i := 10) rfl)) e0 (g := (mkF m 1 #[.val (.ref o0), .val (.long (0 : Int64)), .second, .val (.int p2)] [(.ref o0)])) rfl (by rw [hml]; rfl) rfl (hb hby d1_1) (by decide) (W := 0) (by show 2 * 0 + _ ≤ _; exact Nat.le_of_eq rfl) (by decide)
  refine Ends.step st37 ?_
  show Ends p e below QQ (T37.setTop (mkF m 4 #[.val (.ref o0), .val (.long (0 : Int64)), .second, .val (.int p2)] []))
  refine Ends.step (fun _ k => XS.aloadN X37.here hx rfl (hb hby d1_4) rfl rfl k) ?_
  show Ends p e below QQ (T37.setTop (mkF m 5 #[.val (.ref o0), .val (.long (0 : Int64)), .second, .val (.int p2)] [(.ref o0)]))
  obtain ⟨T38, X38, e38, st38⟩ := getS2 X37 hx hZ hown (host := "") (Or.inl (hw _ (List.mem_of_getElem? (i := 11) rfl))) Via.refl e37 S_NONE (g := (mkF m 5 #[.val (.ref o0), .val (.long (0 : Int64)), .second, .val (.int p2)] [(.ref o0)])) rfl (hb hby d1_5)
  refine Ends.step st38 ?_
  show Ends p e below QQ (T38.setTop (mkF m 8 #[.val (.ref o0), .val (.long (0 : Int64)), .second, .val (.int p2)] [(.ref a_NONE), (.ref o0)]))
  obtain ⟨T39, h39, X39, e39, W39, st39⟩ := putF X38 hx hZ hown (host := "") (Or.inl (hw _ (List.mem_of_getElem? (i := 13) rfl))) Via.refl e38 F_data_o0 E_o0 (Or.inl (hw _ (List.mem_of_getElem? (i := 14) rfl))) (hw _ (List.mem_of_getElem? (i := 3) rfl)) (ty := (.array .byte)) (by decide) rfl rfl (g := (mkF m 8 #[.val (.ref o0), .val (.long (0 : Int64)), .second, .val (.int p2)] [(.ref a_NONE), (.ref o0)])) rfl rfl (hb hby d1_8)
  have E_o0 := E_o0.wr W39
  have F_length_o0 := F_length_o0.other W39 (Or.inr (slot_ne (Or.inr (hw _ (List.mem_of_getElem? (i := 16) rfl))) (Or.inl (hw _ (List.mem_of_getElem? (i := 14) rfl))) (by decide) (t := .long) (t' := (.array .byte)) (by decide) (by decide)))
  have F_max_o0 := F_max_o0.other W39 (Or.inr (slot_ne (Or.inr (hw _ (List.mem_of_getElem? (i := 18) rfl))) (Or.inl (hw _ (List.mem_of_getElem? (i := 14) rfl))) (by decide) (t := .int) (t' := (.array .byte)) (by decide) (by decide)))
  have F_chunks_o0 := F_chunks_o0.other W39 (Or.inr (slot_ne (Or.inl (hw _ (List.mem_of_getElem? (i := 78) rfl))) (Or.inl (hw _ (List.mem_of_getElem? (i := 14) rfl))) (by decide) (t := (.object "com/example/gatehook/gatehook/http/ChunkedBody")) (t' := (.array .byte)) (by decide) (by decide)))
  have F_ended_o0 := F_ended_o0.other W39 (Or.inr (slot_ne (Or.inl (hw _ (List.mem_of_getElem? (i := 91) rfl))) (Or.inl (hw _ (List.mem_of_getElem? (i := 14) rfl))) (by decide) (t := .boolean) (t' := (.array .byte)) (by decide) (by decide)))
  have F_dataLength_o0 := F_dataLength_o0.other W39 (Or.inr (slot_ne (Or.inl (hw _ (List.mem_of_getElem? (i := 106) rfl))) (Or.inl (hw _ (List.mem_of_getElem? (i := 14) rfl))) (by decide) (t := .int) (t' := (.array .byte)) (by decide) (by decide)))
  have S_NONE := S_NONE.wr W39
  have F_data_o0 : Fld Z h39 o0 "com/example/gatehook/gatehook/http/IncomingBody" "data" "[B" (.ref a_NONE) := F_data_o0.same W39
  have K39 := (Keep.refl h0 [o0]).wr W39 (Or.inl (List.mem_of_getElem? (i := 0) rfl))
  have N39 := Fr.snoc X39 N0 g_o0
  refine Ends.step st39 ?_
  show Ends p e below QQ (T39.setTop (mkF m 11 #[.val (.ref o0), .val (.long (0 : Int64)), .second, .val (.int p2)] []))
  refine Ends.step (fun _ k => XS.aloadN X39.here hx rfl (hb hby d1_11) rfl rfl k) ?_
  show Ends p e below QQ (T39.setTop (mkF m 12 #[.val (.ref o0), .val (.long (0 : Int64)), .second, .val (.int p2)] [(.ref o0)]))
  refine Ends.step (fun _ k => XT.lloadN X39.here hx rfl (hb hby d1_12) rfl k) ?_
  show Ends p e below QQ (T39.setTop (mkF m 13 #[.val (.ref o0), .val (.long (0 : Int64)), .second, .val (.int p2)] [(.long (0 : Int64)), (.ref o0)]))
  obtain ⟨T40, h40, X40, e40, W40, st40⟩ := putF X39 hx hZ hown (host := "") (Or.inl (hw _ (List.mem_of_getElem? (i := 15) rfl))) Via.refl e39 F_length_o0 E_o0 (Or.inr ⟨(hw _ (List.mem_of_getElem? (i := 16) rfl)), rfl, hnm⟩) (hw _ (List.mem_of_getElem? (i := 3) rfl)) (ty := .long) (by decide) rfl rfl (g := (mkF m 13 #[.val (.ref o0), .val (.long (0 : Int64)), .second, .val (.int p2)] [(.long (0 : Int64)), (.ref o0)])) rfl rfl (hb hby d1_13)
  have E_o0 := E_o0.wr W40
  have F_data_o0 := F_data_o0.other W40 (Or.inr (slot_ne (Or.inl (hw _ (List.mem_of_getElem? (i := 14) rfl))) (Or.inr (hw _ (List.mem_of_getElem? (i := 16) rfl))) (by decide) (t := (.array .byte)) (t' := .long) (by decide) (by decide)))
  have F_max_o0 := F_max_o0.other W40 (Or.inr (slot_ne (Or.inr (hw _ (List.mem_of_getElem? (i := 18) rfl))) (Or.inr (hw _ (List.mem_of_getElem? (i := 16) rfl))) (by decide) (t := .int) (t' := .long) (by decide) (by decide)))
  have F_chunks_o0 := F_chunks_o0.other W40 (Or.inr (slot_ne (Or.inl (hw _ (List.mem_of_getElem? (i := 78) rfl))) (Or.inr (hw _ (List.mem_of_getElem? (i := 16) rfl))) (by decide) (t := (.object "com/example/gatehook/gatehook/http/ChunkedBody")) (t' := .long) (by decide) (by decide)))
  have F_ended_o0 := F_ended_o0.other W40 (Or.inr (slot_ne (Or.inl (hw _ (List.mem_of_getElem? (i := 91) rfl))) (Or.inr (hw _ (List.mem_of_getElem? (i := 16) rfl))) (by decide) (t := .boolean) (t' := .long) (by decide) (by decide)))
  have F_dataLength_o0 := F_dataLength_o0.other W40 (Or.inr (slot_ne (Or.inl (hw _ (List.mem_of_getElem? (i := 106) rfl))) (Or.inr (hw _ (List.mem_of_getElem? (i := 16) rfl))) (by decide) (t := .int) (t' := .long) (by decide) (by decide)))
  have S_NONE := S_NONE.wr W40
  have F_length_o0 : Fld Z h40 o0 "com/example/gatehook/gatehook/http/IncomingBody" "length" "J" (.long (0 : Int64)) := F_length_o0.same W40
  have K40 := K39.wr W40 (Or.inl (List.mem_of_getElem? (i := 0) rfl))
  have N40 := Fr.snoc X40 N39 g_o0
  refine Ends.step st40 ?_
  show Ends p e below QQ (T40.setTop (mkF m 16 #[.val (.ref o0), .val (.long (0 : Int64)), .second, .val (.int p2)] []))
  refine Ends.step (fun _ k => XS.aloadN X40.here hx rfl (hb hby d1_16) rfl rfl k) ?_
  show Ends p e below QQ (T40.setTop (mkF m 17 #[.val (.ref o0), .val (.long (0 : Int64)), .second, .val (.int p2)] [(.ref o0)]))
  refine Ends.step (fun _ k => XS.iloadN X40.here hx rfl (hb hby d1_17) rfl k) ?_
  show Ends p e below QQ (T40.setTop (mkF m 18 #[.val (.ref o0), .val (.long (0 : Int64)), .second, .val (.int p2)] [(.int p2), (.ref o0)]))
  obtain ⟨T41, h41, X41, e41, W41, st41⟩ := putF X40 hx hZ hown (host := "") (Or.inl (hw _ (List.mem_of_getElem? (i := 17) rfl))) Via.refl e40 F_max_o0 E_o0 (Or.inr ⟨(hw _ (List.mem_of_getElem? (i := 18) rfl)), rfl, hnm⟩) (hw _ (List.mem_of_getElem? (i := 3) rfl)) (ty := .int) (by decide) rfl rfl (g := (mkF m 18 #[.val (.ref o0), .val (.long (0 : Int64)), .second, .val (.int p2)] [(.int p2), (.ref o0)])) rfl rfl (hb hby d1_18)
  have E_o0 := E_o0.wr W41
  have F_data_o0 := F_data_o0.other W41 (Or.inr (slot_ne (Or.inl (hw _ (List.mem_of_getElem? (i := 14) rfl))) (Or.inr (hw _ (List.mem_of_getElem? (i := 18) rfl))) (by decide) (t := (.array .byte)) (t' := .int) (by decide) (by decide)))
  have F_length_o0 := F_length_o0.other W41 (Or.inr (slot_ne (Or.inr (hw _ (List.mem_of_getElem? (i := 16) rfl))) (Or.inr (hw _ (List.mem_of_getElem? (i := 18) rfl))) (by decide) (t := .long) (t' := .int) (by decide) (by decide)))
  have F_chunks_o0 := F_chunks_o0.other W41 (Or.inr (slot_ne (Or.inl (hw _ (List.mem_of_getElem? (i := 78) rfl))) (Or.inr (hw _ (List.mem_of_getElem? (i := 18) rfl))) (by decide) (t := (.object "com/example/gatehook/gatehook/http/ChunkedBody")) (t' := .int) (by decide) (by decide)))
  have F_ended_o0 := F_ended_o0.other W41 (Or.inr (slot_ne (Or.inl (hw _ (List.mem_of_getElem? (i := 91) rfl))) (Or.inr (hw _ (List.mem_of_getElem? (i := 18) rfl))) (by decide) (t := .boolean) (t' := .int) (by decide) (by decide)))
  have F_dataLength_o0 := F_dataLength_o0.other W41 (Or.inr (slot_ne (Or.inl (hw _ (List.mem_of_getElem? (i := 106) rfl))) (Or.inr (hw _ (List.mem_of_getElem? (i := 18) rfl))) (by decide) (t := .int) (t' := .int) (by decide) (by decide)))
  have S_NONE := S_NONE.wr W41
  have F_max_o0 : Fld Z h41 o0 "com/example/gatehook/gatehook/http/IncomingBody" "max" "I" (.int p2) := F_max_o0.same W41
  have K41 := K40.wr W41 (Or.inl (List.mem_of_getElem? (i := 0) rfl))
  have N41 := Fr.snoc X41 N40 g_o0
  refine Ends.step st41 ?_
  show Ends p e below QQ (T41.setTop (mkF m 21 #[.val (.ref o0), .val (.long (0 : Int64)), .second, .val (.int p2)] []))
  refine Ends.step (fun _ k => XT.lloadN X41.here hx rfl (hb hby d1_21) rfl k) ?_
  show Ends p e below QQ (T41.setTop (mkF m 22 #[.val (.ref o0), .val (.long (0 : Int64)), .second, .val (.int p2)] [(.long (0 : Int64))]))
  refine Ends.step (fun _ k => X41.ldc2J hx hown (mvT hZ (hw _ (List.mem_of_getElem? (i := 19) rfl))) (g := (mkF m 22 #[.val (.ref o0), .val (.long (0 : Int64)), .second, .val (.int p2)] [(.long (0 : Int64))])) rfl (hb hby d1_22) k) ?_
  show Ends p e below QQ (T41.setTop (mkF m 25 #[.val (.ref o0), .val (.long (0 : Int64)), .second, .val (.int p2)] [(.long (-2 : Int64)), (.long (0 : Int64))]))
  refine Ends.step (fun _ k => XT.lcmp X41.here hx rfl (hb hby d1_25) rfl k) ?_
  show Ends p e below QQ (T41.setTop (mkF m 26 #[.val (.ref o0), .val (.long (0 : Int64)), .second, .val (.int p2)] [(.int (XT.cmpL (0 : Int64) (-2 : Int64)))]))
  refine Ends.step (fun _ k => XS.ifYes X41.here hx rfl (pc0 := 26) (pc' := 44) rfl (hb hby d1_26) rfl (XT.ll_ne_t (by decide)) (by decide) (by decide) k) ?_
  show Ends p e below QQ (T41.setTop (mkF m 44 #[.val (.ref o0), .val (.long (0 : Int64)), .second, .val (.int p2)] []))
  refine Ends.step (fun _ k => XT.lloadN X41.here hx rfl (hb hby d1_44) rfl k) ?_
  show Ends p e below QQ (T41.setTop (mkF m 45 #[.val (.ref o0), .val (.long (0 : Int64)), .second, .val (.int p2)] [(.long (0 : Int64))]))
  refine Ends.step (fun _ k => XS.iloadN X41.here hx rfl (hb hby d1_45) rfl k) ?_
  show Ends p e below QQ (T41.setTop (mkF m 46 #[.val (.ref o0), .val (.long (0 : Int64)), .second, .val (.int p2)] [(.int p2), (.long (0 : Int64))]))
  refine Ends.step (fun _ k => XT.i2l X41.here hx rfl (hb hby d1_46) rfl k) ?_
  show Ends p e below QQ (T41.setTop (mkF m 47 #[.val (.ref o0), .val (.long (0 : Int64)), .second, .val (.int p2)] [(.long p2.toInt64), (.long (0 : Int64))]))
  refine Ends.step (fun _ k => XT.lcmp X41.here hx rfl (hb hby d1_47) rfl k) ?_
  show Ends p e below QQ (T41.setTop (mkF m 48 #[.val (.ref o0), .val (.long (0 : Int64)), .second, .val (.int p2)] [(.int (XT.cmpL (0 : Int64) p2.toInt64))]))
  have hc48 : ¬ (p2.toInt64 < (0 : Int64)) := h2
  refine Ends.step (fun _ k => XS.ifYes X41.here hx rfl (pc0 := 48) (pc' := 64) rfl (hb hby d1_48) rfl (XT.ll_le_t hc48) (by decide) (by decide) k) ?_
  show Ends p e below QQ (T41.setTop (mkF m 64 #[.val (.ref o0), .val (.long (0 : Int64)), .second, .val (.int p2)] []))
  refine Ends.step (fun _ k => XS.aloadN X41.here hx rfl (hb hby d1_64) rfl rfl k) ?_
  show Ends p e below QQ (T41.setTop (mkF m 65 #[.val (.ref o0), .val (.long (0 : Int64)), .second, .val (.int p2)] [(.ref o0)]))
  refine Ends.step (fun _ k => XT.lloadN X41.here hx rfl (hb hby d1_65) rfl k) ?_
  show Ends p e below QQ (T41.setTop (mkF m 66 #[.val (.ref o0), .val (.long (0 : Int64)), .second, .val (.int p2)] [(.long (0 : Int64)), (.ref o0)]))
  refine Ends.step (fun _ k => XT.lconstV X41.here hx rfl (0 : Int64) (hb hby d1_66) rfl k) ?_
  show Ends p e below QQ (T41.setTop (mkF m 67 #[.val (.ref o0), .val (.long (0 : Int64)), .second, .val (.int p2)] [(.long (0 : Int64)), (.long (0 : Int64)), (.ref o0)]))
  refine Ends.step (fun _ k => XT.lcmp X41.here hx rfl (hb hby d1_67) rfl k) ?_
  show Ends p e below QQ (T41.setTop (mkF m 68 #[.val (.ref o0), .val (.long (0 : Int64)), .second, .val (.int p2)] [(.int (XT.cmpL (0 : Int64) (0 : Int64))), (.ref o0)]))
  refine Ends.step (fun _ k => XS.ifNo X41.here hx rfl (hb hby d1_68) rfl (XT.ll_ne_f (by decide)) k) ?_
  show Ends p e below QQ (T41.setTop (mkF m 71 #[.val (.ref o0), .val (.long (0 : Int64)), .second, .val (.int p2)] [(.ref o0)]))
  refine Ends.step (fun _ k => XT.iconstV X41.here hx rfl (1 : Int32) (hb hby d1_71) rfl k) ?_
  show Ends p e below QQ (T41.setTop (mkF m 72 #[.val (.ref o0), .val (.long (0 : Int64)), .second, .val (.int p2)] [(.int (1 : Int32)), (.ref o0)]))
  refine Ends.step (fun _ k => XS.goto X41.here hx rfl (pc0 := 72) (pc' := 76) rfl (hb hby d1_72) (by decide) (by decide) k) ?_
  show Ends p e below QQ (T41.setTop (mkF m 76 #[.val (.ref o0), .val (.long (0 : Int64)), .second, .val (.int p2)] [(.int (1 : Int32)), (.ref o0)]))
  obtain ⟨T42, h42, X42, e42, W42, st42⟩ := putFN X41 hx hZ hown (hw _ (List.mem_of_getElem? (i := 90) rfl)) Via.refl e41 F_ended_o0 E_o0 (Or.inl (hw _ (List.mem_of_getElem? (i := 91) rfl))) (hw _ (List.mem_of_getElem? (i := 3) rfl)) (ty := .boolean) (v' := (.int (1 : Int32))) (by decide) rfl rfl (g := (mkF m 76 #[.val (.ref o0), .val (.long (0 : Int64)), .second, .val (.int p2)] [(.int (1 : Int32)), (.ref o0)])) rfl rfl (hb hby d1_76)
  have E_o0 := E_o0.wr W42
  have F_data_o0 := F_data_o0.other W42 (Or.inr (slot_ne (Or.inl (hw _ (List.mem_of_getElem? (i := 14) rfl))) (Or.inl (hw _ (List.mem_of_getElem? (i := 91) rfl))) (by decide) (t := (.array .byte)) (t' := .boolean) (by decide) (by decide)))
  have F_length_o0 := F_length_o0.other W42 (Or.inr (slot_ne (Or.inr (hw _ (List.mem_of_getElem? (i := 16) rfl))) (Or.inl (hw _ (List.mem_of_getElem? (i := 91) rfl))) (by decide) (t := .long) (t' := .boolean) (by decide) (by decide)))
  have F_max_o0 := F_max_o0.other W42 (Or.inr (slot_ne (Or.inr (hw _ (List.mem_of_getElem? (i := 18) rfl))) (Or.inl (hw _ (List.mem_of_getElem? (i := 91) rfl))) (by decide) (t := .int) (t' := .boolean) (by decide) (by decide)))
  have F_chunks_o0 := F_chunks_o0.other W42 (Or.inr (slot_ne (Or.inl (hw _ (List.mem_of_getElem? (i := 78) rfl))) (Or.inl (hw _ (List.mem_of_getElem? (i := 91) rfl))) (by decide) (t := (.object "com/example/gatehook/gatehook/http/ChunkedBody")) (t' := .boolean) (by decide) (by decide)))
  have F_dataLength_o0 := F_dataLength_o0.other W42 (Or.inr (slot_ne (Or.inl (hw _ (List.mem_of_getElem? (i := 106) rfl))) (Or.inl (hw _ (List.mem_of_getElem? (i := 91) rfl))) (by decide) (t := .int) (t' := .boolean) (by decide) (by decide)))
  have S_NONE := S_NONE.wr W42
  have F_ended_o0 : Fld Z h42 o0 "com/example/gatehook/gatehook/http/IncomingBody" "ended" "Z" (.int (1 : Int32)) := F_ended_o0.same W42
  have K42 := K41.wr W42 (Or.inl (List.mem_of_getElem? (i := 0) rfl))
  have N42 := Fr.snoc X42 N41 g_o0
  refine Ends.step st42 ?_
  show Ends p e below QQ (T42.setTop (mkF m 79 #[.val (.ref o0), .val (.long (0 : Int64)), .second, .val (.int p2)] []))
  exact Ends.fin (none) X42 hQQ (fun _ => rfl) Bd.notSynchronized (fun _ hr => X42.returnOut hx Bd.returns (hb hby d1_79) hr) e42 (by decide) (by decide) ⟨rfl, N42, K42, E_o0, F_length_o0, F_ended_o0⟩
theorem d1_75 : decode prog_42_method_1_code 75 = .ok (.iconst 0, 1) := by decide +kernel
theorem ef_id (m : MethodId) (x0 : Addr) (x1 : Int64) (x2 : Int32) : entryFrame m #[(.ref x0), (.long x1), (.int x2)] 4 = mkF m 0 #[.val (.ref x0), .val (.long x1), .second, .val (.int x2)] [] := by first | (simp [entryFrame, mkF, argsToLocals, Value.category]; done) | rfl
def Qid (Z : State) (o0 : Addr) (q1 : Int64) (p2 : Int32) (a_NONE : Addr) (h0 : Heap) (n0 : Nat) (v : Option Value) (h : Heap) (L : List Loc) : Prop := (v = none) ∧ (Fr n0 L) ∧ (Keep h0 h [o0]) ∧ (Exa Z h o0 "com/example/gatehook/gatehook/http/IncomingBody") ∧ (Fld Z h o0 "com/example/gatehook/gatehook/http/IncomingBody" "length" "J" (.long q1)) ∧ (Fld Z h o0 "com/example/gatehook/gatehook/http/IncomingBody" "max" "I" (.int p2)) ∧ (Fld Z h o0 "com/example/gatehook/gatehook/http/IncomingBody" "ended" "Z" (.int (0 : Int32))) ∧ (Fld Z h o0 "com/example/gatehook/gatehook/http/IncomingBody" "chunks" "Lcom/example/gatehook/gatehook/http/ChunkedBody;" .null) ∧ (Fld Z h o0 "com/example/gatehook/gatehook/http/IncomingBody" "dataLength" "I" (.int (0 : Int32))) ∧ (Fld Z h o0 "com/example/gatehook/gatehook/http/IncomingBody" "data" "[B" (.ref a_NONE))
set_option maxRecDepth 65536 in
set_option maxHeartbeats 40000000 in
theorem rmid (l : Launch) (Z : State) (a0 : Array Value) (hw : ∀ d ∈ tables_1, d.before a0 Z = true) (ws : List Jvm.Cond) (o0 : Addr) (q1 : Int64) (p2 : Int32) (a_NONE : Addr) (h0 : Heap) (n0 : Nat) (Z0 : n0 ≤ h0.size) (E_o0 : Exa Z h0 o0 "com/example/gatehook/gatehook/http/IncomingBody") (F_data_o0 : Fld Z h0 o0 "com/example/gatehook/gatehook/http/IncomingBody" "data" "[B" .null) (F_length_o0 : Fld Z h0 o0 "com/example/gatehook/gatehook/http/IncomingBody" "length" "J" (.long (0 : Int64))) (F_max_o0 : Fld Z h0 o0 "com/example/gatehook/gatehook/http/IncomingBody" "max" "I" (.int (0 : Int32))) (F_chunks_o0 : Fld Z h0 o0 "com/example/gatehook/gatehook/http/IncomingBody" "chunks" "Lcom/example/gatehook/gatehook/http/ChunkedBody;" .null) (F_ended_o0 : Fld Z h0 o0 "com/example/gatehook/gatehook/http/IncomingBody" "ended" "Z" (.int (0 : Int32))) (F_dataLength_o0 : Fld Z h0 o0 "com/example/gatehook/gatehook/http/IncomingBody" "dataLength" "I" (.int (0 : Int32))) (g_o0 : n0 ≤ o0) (S_NONE : Sta Z h0 "com/example/gatehook/gatehook/http/IncomingBody" "NONE" "[B" (.ref a_NONE)) (h1 : ¬ q1 = (-2 : Int64)) (h2 : ¬ p2.toInt64 < q1) (h3 : ¬ q1 = (0 : Int64)) :
    MetFree l (⟨"com/example/gatehook/gatehook/http/IncomingBody", "<init>", "(JI)V"⟩ : MethodName) (head1 (Jvm.Cond.code (⟨"com/example/gatehook/gatehook/http/IncomingBody", "<init>", "(JI)V"⟩ : MethodName) prog_42_method_1_code 4 none :: ws) ({ frames := 1, cells := 0, slots := 0, locals := 12 } : Room)) (fun a U => a = #[(.ref o0), (.long q1), (.int p2)] ∧ Z.Warmed39 U.vm ∧ U.heap = h0) (fun _ _ _ _ _ => True) (fun _ U o U' => ∃ v L, o = .returned v ∧ Qid Z o0 q1 p2 a_NONE h0 n0 v U'.heap L ∧ FrameEnd U o U' L ({ frames := 1, cells := 0, slots := 0, locals := 12 } : Room).cells ({ frames := 1, cells := 0, slots := 0, locals := 12 } : Room).slots) := by
  refine MetFree.of_bodySF (plainFor_of_name pn_5) hisR ?_
  intro p e s m args below meth c s₁ Bd hml0 hP hK
  obtain ⟨rfl, hZ, hh⟩ := hP
  have hx := Bd.exec
  have hby := Bd.bytes
  have hml : c.maxLocals = 4 := hml0
  have hown : s.vm.findClass "com/example/gatehook/gatehook/http/IncomingBody" = some m.cls := findClass_of_methodNamed Bd.named
  have hnm := (name_of_methodNamed Bd.named Bd.method).1
  have X0 : Stand p l e ({ frames := 1, cells := 0, slots := 0, locals := 12 } : Room) s m #[(.ref o0), (.long q1), (.int p2)] below meth c s₁ [] 0 0 := Stand.of_body Bd
  have e0 : s₁.heap = h0 := by rw [← hh, Bd.state]; rfl
  have N0 := Fr.nil n0
  refine Ends.opn ?_
  intro QQ hQQ
  refine Ends.step (S' := s₁.setTop (mkF m 0 #[.val (.ref o0), .val (.long q1), .second, .val (.int p2)] [])) (fun t k => castTop (ef_id m o0 q1 p2) k) ?_
  show Ends p e below QQ (s₁.setTop (mkF m 0 #[.val (.ref o0), .val (.long q1), .second, .val (.int p2)] []))
  refine Ends.step (fun _ k => XS.aloadN X0.here hx rfl (hb hby d1_0) rfl rfl k) ?_
  show Ends p e below QQ (s₁.setTop (mkF m 1 #[.val (.ref o0), .val (.long q1), .second, .val (.int p2)] [(.ref o0)]))
  obtain ⟨T43, X43, e43, st43⟩ := initO X0 hx hZ hown (hw _ (List.mem_of_getElem? (i := 8) rfl)) (hw _ (List.mem_of_getElem? (i := 9) rfl)) (hw _ (List.mem_of_getElem? (i := 10) rfl)) e0 (g := (mkF m 1 #[.val (.ref o0), .val (.long q1), .second, .val (.int p2)] [(.ref o0)])) rfl (by rw [hml]; rfl) rfl (hb hby d1_1) (by decide) (W := 0) (by show 2 * 0 + _ ≤ _; exact Nat.le_of_eq rfl) (by decide)
  refine Ends.step st43 ?_
  show Ends p e below QQ (T43.setTop (mkF m 4 #[.val (.ref o0), .val (.long q1), .second, .val (.int p2)] []))
  refine Ends.step (fun _ k => XS.aloadN X43.here hx rfl (hb hby d1_4) rfl rfl k) ?_
  show Ends p e below QQ (T43.setTop (mkF m 5 #[.val (.ref o0), .val (.long q1), .second, .val (.int p2)] [(.ref o0)]))
  obtain ⟨T44, X44, e44, st44⟩ := getS2 X43 hx hZ hown (host := "") (Or.inl (hw _ (List.mem_of_getElem? (i := 11) rfl))) Via.refl e43 S_NONE (g := (mkF m 5 #[.val (.ref o0), .val (.long q1), .second, .val (.int p2)] [(.ref o0)])) rfl (hb hby d1_5)
  refine Ends.step st44 ?_
  show Ends p e below QQ (T44.setTop (mkF m 8 #[.val (.ref o0), .val (.long q1), .second, .val (.int p2)] [(.ref a_NONE), (.ref o0)]))
  obtain ⟨T45, h45, X45, e45, W45, st45⟩ := putF X44 hx hZ hown (host := "") (Or.inl (hw _ (List.mem_of_getElem? (i := 13) rfl))) Via.refl e44 F_data_o0 E_o0 (Or.inl (hw _ (List.mem_of_getElem? (i := 14) rfl))) (hw _ (List.mem_of_getElem? (i := 3) rfl)) (ty := (.array .byte)) (by decide) rfl rfl (g := (mkF m 8 #[.val (.ref o0), .val (.long q1), .second, .val (.int p2)] [(.ref a_NONE), (.ref o0)])) rfl rfl (hb hby d1_8)
  have E_o0 := E_o0.wr W45
  have F_length_o0 := F_length_o0.other W45 (Or.inr (slot_ne (Or.inr (hw _ (List.mem_of_getElem? (i := 16) rfl))) (Or.inl (hw _ (List.mem_of_getElem? (i := 14) rfl))) (by decide) (t := .long) (t' := (.array .byte)) (by decide) (by decide)))
  have F_max_o0 := F_max_o0.other W45 (Or.inr (slot_ne (Or.inr (hw _ (List.mem_of_getElem? (i := 18) rfl))) (Or.inl (hw _ (List.mem_of_getElem? (i := 14) rfl))) (by decide) (t := .int) (t' := (.array .byte)) (by decide) (by decide)))
  have F_chunks_o0 := F_chunks_o0.other W45 (Or.inr (slot_ne (Or.inl (hw _ (List.mem_of_getElem? (i := 78) rfl))) (Or.inl (hw _ (List.mem_of_getElem? (i := 14) rfl))) (by decide) (t := (.object "com/example/gatehook/gatehook/http/ChunkedBody")) (t' := (.array .byte)) (by decide) (by decide)))
  have F_ended_o0 := F_ended_o0.other W45 (Or.inr (slot_ne (Or.inl (hw _ (List.mem_of_getElem? (i := 91) rfl))) (Or.inl (hw _ (List.mem_of_getElem? (i := 14) rfl))) (by decide) (t := .boolean) (t' := (.array .byte)) (by decide) (by decide)))
  have F_dataLength_o0 := F_dataLength_o0.other W45 (Or.inr (slot_ne (Or.inl (hw _ (List.mem_of_getElem? (i := 106) rfl))) (Or.inl (hw _ (List.mem_of_getElem? (i := 14) rfl))) (by decide) (t := .int) (t' := (.array .byte)) (by decide) (by decide)))
  have S_NONE := S_NONE.wr W45
  have F_data_o0 : Fld Z h45 o0 "com/example/gatehook/gatehook/http/IncomingBody" "data" "[B" (.ref a_NONE) := F_data_o0.same W45
  have K45 := (Keep.refl h0 [o0]).wr W45 (Or.inl (List.mem_of_getElem? (i := 0) rfl))
  have N45 := Fr.snoc X45 N0 g_o0
  refine Ends.step st45 ?_
  show Ends p e below QQ (T45.setTop (mkF m 11 #[.val (.ref o0), .val (.long q1), .second, .val (.int p2)] []))
  refine Ends.step (fun _ k => XS.aloadN X45.here hx rfl (hb hby d1_11) rfl rfl k) ?_
  show Ends p e below QQ (T45.setTop (mkF m 12 #[.val (.ref o0), .val (.long q1), .second, .val (.int p2)] [(.ref o0)]))
  refine Ends.step (fun _ k => XT.lloadN X45.here hx rfl (hb hby d1_12) rfl k) ?_
  show Ends p e below QQ (T45.setTop (mkF m 13 #[.val (.ref o0), .val (.long q1), .second, .val (.int p2)] [(.long q1), (.ref o0)]))
  obtain ⟨T46, h46, X46, e46, W46, st46⟩ := putF X45 hx hZ hown (host := "") (Or.inl (hw _ (List.mem_of_getElem? (i := 15) rfl))) Via.refl e45 F_length_o0 E_o0 (Or.inr ⟨(hw _ (List.mem_of_getElem? (i := 16) rfl)), rfl, hnm⟩) (hw _ (List.mem_of_getElem? (i := 3) rfl)) (ty := .long) (by decide) rfl rfl (g := (mkF m 13 #[.val (.ref o0), .val (.long q1), .second, .val (.int p2)] [(.long q1), (.ref o0)])) rfl rfl (hb hby d1_13)
  have E_o0 := E_o0.wr W46
  have F_data_o0 := F_data_o0.other W46 (Or.inr (slot_ne (Or.inl (hw _ (List.mem_of_getElem? (i := 14) rfl))) (Or.inr (hw _ (List.mem_of_getElem? (i := 16) rfl))) (by decide) (t := (.array .byte)) (t' := .long) (by decide) (by decide)))
  have F_max_o0 := F_max_o0.other W46 (Or.inr (slot_ne (Or.inr (hw _ (List.mem_of_getElem? (i := 18) rfl))) (Or.inr (hw _ (List.mem_of_getElem? (i := 16) rfl))) (by decide) (t := .int) (t' := .long) (by decide) (by decide)))
  have F_chunks_o0 := F_chunks_o0.other W46 (Or.inr (slot_ne (Or.inl (hw _ (List.mem_of_getElem? (i := 78) rfl))) (Or.inr (hw _ (List.mem_of_getElem? (i := 16) rfl))) (by decide) (t := (.object "com/example/gatehook/gatehook/http/ChunkedBody")) (t' := .long) (by decide) (by decide)))
  have F_ended_o0 := F_ended_o0.other W46 (Or.inr (slot_ne (Or.inl (hw _ (List.mem_of_getElem? (i := 91) rfl))) (Or.inr (hw _ (List.mem_of_getElem? (i := 16) rfl))) (by decide) (t := .boolean) (t' := .long) (by decide) (by decide)))
  have F_dataLength_o0 := F_dataLength_o0.other W46 (Or.inr (slot_ne (Or.inl (hw _ (List.mem_of_getElem? (i := 106) rfl))) (Or.inr (hw _ (List.mem_of_getElem? (i := 16) rfl))) (by decide) (t := .int) (t' := .long) (by decide) (by decide)))
  have S_NONE := S_NONE.wr W46
  have F_length_o0 : Fld Z h46 o0 "com/example/gatehook/gatehook/http/IncomingBody" "length" "J" (.long q1) := F_length_o0.same W46
  have K46 := K45.wr W46 (Or.inl (List.mem_of_getElem? (i := 0) rfl))
  have N46 := Fr.snoc X46 N45 g_o0
  refine Ends.step st46 ?_
  show Ends p e below QQ (T46.setTop (mkF m 16 #[.val (.ref o0), .val (.long q1), .second, .val (.int p2)] []))
  refine Ends.step (fun _ k => XS.aloadN X46.here hx rfl (hb hby d1_16) rfl rfl k) ?_
  show Ends p e below QQ (T46.setTop (mkF m 17 #[.val (.ref o0), .val (.long q1), .second, .val (.int p2)] [(.ref o0)]))
  refine Ends.step (fun _ k => XS.iloadN X46.here hx rfl (hb hby d1_17) rfl k) ?_
  show Ends p e below QQ (T46.setTop (mkF m 18 #[.val (.ref o0), .val (.long q1), .second, .val (.int p2)] [(.int p2), (.ref o0)]))
  obtain ⟨T47, h47, X47, e47, W47, st47⟩ := putF X46 hx hZ hown (host := "") (Or.inl (hw _ (List.mem_of_getElem? (i := 17) rfl))) Via.refl e46 F_max_o0 E_o0 (Or.inr ⟨(hw _ (List.mem_of_getElem? (i := 18) rfl)), rfl, hnm⟩) (hw _ (List.mem_of_getElem? (i := 3) rfl)) (ty := .int) (by decide) rfl rfl (g := (mkF m 18 #[.val (.ref o0), .val (.long q1), .second, .val (.int p2)] [(.int p2), (.ref o0)])) rfl rfl (hb hby d1_18)
  have E_o0 := E_o0.wr W47
  have F_data_o0 := F_data_o0.other W47 (Or.inr (slot_ne (Or.inl (hw _ (List.mem_of_getElem? (i := 14) rfl))) (Or.inr (hw _ (List.mem_of_getElem? (i := 18) rfl))) (by decide) (t := (.array .byte)) (t' := .int) (by decide) (by decide)))
  have F_length_o0 := F_length_o0.other W47 (Or.inr (slot_ne (Or.inr (hw _ (List.mem_of_getElem? (i := 16) rfl))) (Or.inr (hw _ (List.mem_of_getElem? (i := 18) rfl))) (by decide) (t := .long) (t' := .int) (by decide) (by decide)))
  have F_chunks_o0 := F_chunks_o0.other W47 (Or.inr (slot_ne (Or.inl (hw _ (List.mem_of_getElem? (i := 78) rfl))) (Or.inr (hw _ (List.mem_of_getElem? (i := 18) rfl))) (by decide) (t := (.object "com/example/gatehook/gatehook/http/ChunkedBody")) (t' := .int) (by decide) (by decide)))
  have F_ended_o0 := F_ended_o0.other W47 (Or.inr (slot_ne (Or.inl (hw _ (List.mem_of_getElem? (i := 91) rfl))) (Or.inr (hw _ (List.mem_of_getElem? (i := 18) rfl))) (by decide) (t := .boolean) (t' := .int) (by decide) (by decide)))
  have F_dataLength_o0 := F_dataLength_o0.other W47 (Or.inr (slot_ne (Or.inl (hw _ (List.mem_of_getElem? (i := 106) rfl))) (Or.inr (hw _ (List.mem_of_getElem? (i := 18) rfl))) (by decide) (t := .int) (t' := .int) (by decide) (by decide)))
  have S_NONE := S_NONE.wr W47
  have F_max_o0 : Fld Z h47 o0 "com/example/gatehook/gatehook/http/IncomingBody" "max" "I" (.int p2) := F_max_o0.same W47
  have K47 := K46.wr W47 (Or.inl (List.mem_of_getElem? (i := 0) rfl))
  have N47 := Fr.snoc X47 N46 g_o0
  refine Ends.step st47 ?_
  show Ends p e below QQ (T47.setTop (mkF m 21 #[.val (.ref o0), .val (.long q1), .second, .val (.int p2)] []))
  refine Ends.step (fun _ k => XT.lloadN X47.here hx rfl (hb hby d1_21) rfl k) ?_
  show Ends p e below QQ (T47.setTop (mkF m 22 #[.val (.ref o0), .val (.long q1), .second, .val (.int p2)] [(.long q1)]))
  refine Ends.step (fun _ k => X47.ldc2J hx hown (mvT hZ (hw _ (List.mem_of_getElem? (i := 19) rfl))) (g := (mkF m 22 #[.val (.ref o0), .val (.long q1), .second, .val (.int p2)] [(.long q1)])) rfl (hb hby d1_22) k) ?_
  show Ends p e below QQ (T47.setTop (mkF m 25 #[.val (.ref o0), .val (.long q1), .second, .val (.int p2)] [(.long (-2 : Int64)), (.long q1)]))
  refine Ends.step (fun _ k => XT.lcmp X47.here hx rfl (hb hby d1_25) rfl k) ?_
  show Ends p e below QQ (T47.setTop (mkF m 26 #[.val (.ref o0), .val (.long q1), .second, .val (.int p2)] [(.int (XT.cmpL q1 (-2 : Int64)))]))
  have hc26 : ¬ (q1 = (-2 : Int64)) := h1
  refine Ends.step (fun _ k => XS.ifYes X47.here hx rfl (pc0 := 26) (pc' := 44) rfl (hb hby d1_26) rfl (XT.ll_ne_t hc26) (by decide) (by decide) k) ?_
  show Ends p e below QQ (T47.setTop (mkF m 44 #[.val (.ref o0), .val (.long q1), .second, .val (.int p2)] []))
  refine Ends.step (fun _ k => XT.lloadN X47.here hx rfl (hb hby d1_44) rfl k) ?_
  show Ends p e below QQ (T47.setTop (mkF m 45 #[.val (.ref o0), .val (.long q1), .second, .val (.int p2)] [(.long q1)]))
  refine Ends.step (fun _ k => XS.iloadN X47.here hx rfl (hb hby d1_45) rfl k) ?_
  show Ends p e below QQ (T47.setTop (mkF m 46 #[.val (.ref o0), .val (.long q1), .second, .val (.int p2)] [(.int p2), (.long q1)]))
  refine Ends.step (fun _ k => XT.i2l X47.here hx rfl (hb hby d1_46) rfl k) ?_
  show Ends p e below QQ (T47.setTop (mkF m 47 #[.val (.ref o0), .val (.long q1), .second, .val (.int p2)] [(.long p2.toInt64), (.long q1)]))
  refine Ends.step (fun _ k => XT.lcmp X47.here hx rfl (hb hby d1_47) rfl k) ?_
  show Ends p e below QQ (T47.setTop (mkF m 48 #[.val (.ref o0), .val (.long q1), .second, .val (.int p2)] [(.int (XT.cmpL q1 p2.toInt64))]))
  have hc48 : ¬ (p2.toInt64 < q1) := h2
  refine Ends.step (fun _ k => XS.ifYes X47.here hx rfl (pc0 := 48) (pc' := 64) rfl (hb hby d1_48) rfl (XT.ll_le_t hc48) (by decide) (by decide) k) ?_
  show Ends p e below QQ (T47.setTop (mkF m 64 #[.val (.ref o0), .val (.long q1), .second, .val (.int p2)] []))
  refine Ends.step (fun _ k => XS.aloadN X47.here hx rfl (hb hby d1_64) rfl rfl k) ?_
  show Ends p e below QQ (T47.setTop (mkF m 65 #[.val (.ref o0), .val (.long q1), .second, .val (.int p2)] [(.ref o0)]))
  refine Ends.step (fun _ k => XT.lloadN X47.here hx rfl (hb hby d1_65) rfl k) ?_
  show Ends p e below QQ (T47.setTop (mkF m 66 #[.val (.ref o0), .val (.long q1), .second, .val (.int p2)] [(.long q1), (.ref o0)]))
  refine Ends.step (fun _ k => XT.lconstV X47.here hx rfl (0 : Int64) (hb hby d1_66) rfl k) ?_
  show Ends p e below QQ (T47.setTop (mkF m 67 #[.val (.ref o0), .val (.long q1), .second, .val (.int p2)] [(.long (0 : Int64)), (.long q1), (.ref o0)]))
  refine Ends.step (fun _ k => XT.lcmp X47.here hx rfl (hb hby d1_67) rfl k) ?_
  show Ends p e below QQ (T47.setTop (mkF m 68 #[.val (.ref o0), .val (.long q1), .second, .val (.int p2)] [(.int (XT.cmpL q1 (0 : Int64))), (.ref o0)]))
  have hc68 : ¬ (q1 = (0 : Int64)) := h3
  refine Ends.step (fun _ k => XS.ifYes X47.here hx rfl (pc0 := 68) (pc' := 75) rfl (hb hby d1_68) rfl (XT.ll_ne_t hc68) (by decide) (by decide) k) ?_
  show Ends p e below QQ (T47.setTop (mkF m 75 #[.val (.ref o0), .val (.long q1), .second, .val (.int p2)] [(.ref o0)]))
  refine Ends.step (fun _ k => XT.iconstV X47.here hx rfl (0 : Int32) (hb hby d1_75) rfl k) ?_
  show Ends p e below QQ (T47.setTop (mkF m 76 #[.val (.ref o0), .val (.long q1), .second, .val (.int p2)] [(.int (0 : Int32)), (.ref o0)]))
  obtain ⟨T48, h48, X48, e48, W48, st48⟩ := putFN X47 hx hZ hown (hw _ (List.mem_of_getElem? (i := 90) rfl)) Via.refl e47 F_ended_o0 E_o0 (Or.inl (hw _ (List.mem_of_getElem? (i := 91) rfl))) (hw _ (List.mem_of_getElem? (i := 3) rfl)) (ty := .boolean) (v' := (.int (0 : Int32))) (by decide) rfl rfl (g := (mkF m 76 #[.val (.ref o0), .val (.long q1), .second, .val (.int p2)] [(.int (0 : Int32)), (.ref o0)])) rfl rfl (hb hby d1_76)
  have E_o0 := E_o0.wr W48
  have F_data_o0 := F_data_o0.other W48 (Or.inr (slot_ne (Or.inl (hw _ (List.mem_of_getElem? (i := 14) rfl))) (Or.inl (hw _ (List.mem_of_getElem? (i := 91) rfl))) (by decide) (t := (.array .byte)) (t' := .boolean) (by decide) (by decide)))
  have F_length_o0 := F_length_o0.other W48 (Or.inr (slot_ne (Or.inr (hw _ (List.mem_of_getElem? (i := 16) rfl))) (Or.inl (hw _ (List.mem_of_getElem? (i := 91) rfl))) (by decide) (t := .long) (t' := .boolean) (by decide) (by decide)))
  have F_max_o0 := F_max_o0.other W48 (Or.inr (slot_ne (Or.inr (hw _ (List.mem_of_getElem? (i := 18) rfl))) (Or.inl (hw _ (List.mem_of_getElem? (i := 91) rfl))) (by decide) (t := .int) (t' := .boolean) (by decide) (by decide)))
  have F_chunks_o0 := F_chunks_o0.other W48 (Or.inr (slot_ne (Or.inl (hw _ (List.mem_of_getElem? (i := 78) rfl))) (Or.inl (hw _ (List.mem_of_getElem? (i := 91) rfl))) (by decide) (t := (.object "com/example/gatehook/gatehook/http/ChunkedBody")) (t' := .boolean) (by decide) (by decide)))
  have F_dataLength_o0 := F_dataLength_o0.other W48 (Or.inr (slot_ne (Or.inl (hw _ (List.mem_of_getElem? (i := 106) rfl))) (Or.inl (hw _ (List.mem_of_getElem? (i := 91) rfl))) (by decide) (t := .int) (t' := .boolean) (by decide) (by decide)))
  have S_NONE := S_NONE.wr W48
  have F_ended_o0 : Fld Z h48 o0 "com/example/gatehook/gatehook/http/IncomingBody" "ended" "Z" (.int (0 : Int32)) := F_ended_o0.same W48
  have K48 := K47.wr W48 (Or.inl (List.mem_of_getElem? (i := 0) rfl))
  have N48 := Fr.snoc X48 N47 g_o0
  refine Ends.step st48 ?_
  show Ends p e below QQ (T48.setTop (mkF m 79 #[.val (.ref o0), .val (.long q1), .second, .val (.int p2)] []))
  exact Ends.fin (none) X48 hQQ (fun _ => rfl) Bd.notSynchronized (fun _ hr => X48.returnOut hx Bd.returns (hb hby d1_79) hr) e48 (by decide) (by decide) ⟨rfl, N48, K48, E_o0, F_length_o0, F_max_o0, F_ended_o0, F_chunks_o0, F_dataLength_o0, F_data_o0⟩
theorem d9_0 : decode prog_42_method_5_code 0 = .ok (.aload_n 0, 1) := by decide +kernel
theorem d9_1 : decode prog_42_method_5_code 1 = .ok (.getfield 16, 3) := by decide +kernel
theorem d9_4 : decode prog_42_method_5_code 4 = .ok (.ldc2_w 52, 3) := by decide +kernel
theorem d9_7 : decode prog_42_method_5_code 7 = .ok (.lcmp, 1) := by decide +kernel
theorem d9_8 : decode prog_42_method_5_code 8 = .ok (.ifCond .ne 7, 3) := by decide +kernel
theorem d9_11 : decode prog_42_method_5_code 11 = .ok (.iconst 1, 1) := by decide +kernel
theorem d9_12 : decode prog_42_method_5_code 12 = .ok (.goto 4, 3) := by decide +kernel
theorem d9_15 : decode prog_42_method_5_code 15 = .ok (.iconst 0, 1) := by decide +kernel
theorem d9_16 : decode prog_42_method_5_code 16 = .ok (.ireturn, 1) := by decide +kernel
theorem ef_luc (m : MethodId) (x0 : Addr) : entryFrame m #[(.ref x0)] 1 = mkF m 0 #[.val (.ref x0)] [] := by first | (simp [entryFrame, mkF, argsToLocals, Value.category]; done) | rfl
def fluc_v16_1 (u : Int64) : Int32 := (if u = (-1 : Int64) then (1 : Int32) else (0 : Int32))
def fluc (u : Int64) : Int32 := (fluc_v16_1 u)
theorem fluc_01 (u : Int64) : fluc u = 0 ∨ fluc u = 1 := by
  simp only [fluc, fluc_v16_1]
  repeat' (first | exact Or.inl rfl | exact Or.inr rfl | apply own_01)
def Qluc (Z : State) (o0 : Addr) (u : Int64) (h0 : Heap) (n0 : Nat) (v : Option Value) (h : Heap) (L : List Loc) : Prop := (v = some (.int (fluc u))) ∧ (Fr n0 L) ∧ (h = h0)
set_option maxRecDepth 65536 in
set_option maxHeartbeats 40000000 in
theorem rmluc (l : Launch) (Z : State) (a0 : Array Value) (hw : ∀ d ∈ tables_1, d.before a0 Z = true) (ws : List Jvm.Cond) (o0 : Addr) (u : Int64) (h0 : Heap) (n0 : Nat) (Z0 : n0 ≤ h0.size) (F_length_o0 : Fld Z h0 o0 "com/example/gatehook/gatehook/http/IncomingBody" "length" "J" (.long u)) :
    MetFree l (⟨"com/example/gatehook/gatehook/http/IncomingBody", "lastsUntilClose", "()Z"⟩ : MethodName) (head1 (Jvm.Cond.code (⟨"com/example/gatehook/gatehook/http/IncomingBody", "lastsUntilClose", "()Z"⟩ : MethodName) prog_42_method_5_code 1 (some .boolean) :: ws) ({ frames := 0, cells := 0, slots := 0, locals := 0 } : Room)) (fun a U => a = #[(.ref o0)] ∧ Z.Warmed39 U.vm ∧ U.heap = h0) (fun _ _ _ _ _ => True) (fun _ U o U' => ∃ v L, o = .returned v ∧ Qluc Z o0 u h0 n0 v U'.heap L ∧ FrameEnd U o U' L ({ frames := 0, cells := 0, slots := 0, locals := 0 } : Room).cells ({ frames := 0, cells := 0, slots := 0, locals := 0 } : Room).slots) := by
  refine MetFree.of_bodySF (plainFor_of_name pn_5) hisR ?_
  intro p e s m args below meth c s₁ Bd hml0 hP hK
  obtain ⟨rfl, hZ, hh⟩ := hP
  have hx := Bd.exec
  have hby := Bd.bytes
  have hml : c.maxLocals = 1 := hml0
  have hown : s.vm.findClass "com/example/gatehook/gatehook/http/IncomingBody" = some m.cls := findClass_of_methodNamed Bd.named
  have hnm := (name_of_methodNamed Bd.named Bd.method).1
  have X0 : Stand p l e ({ frames := 0, cells := 0, slots := 0, locals := 0 } : Room) s m #[(.ref o0)] below meth c s₁ [] 0 0 := Stand.of_body Bd
  have e0 : s₁.heap = h0 := by rw [← hh, Bd.state]; rfl
  have N0 := Fr.nil n0
  refine Ends.opn ?_
  intro QQ hQQ
  refine Ends.step (S' := s₁.setTop (mkF m 0 #[.val (.ref o0)] [])) (fun t k => castTop (ef_luc m o0) k) ?_
  show Ends p e below QQ (s₁.setTop (mkF m 0 #[.val (.ref o0)] []))
  refine Ends.step (fun _ k => XS.aloadN X0.here hx rfl (hb hby d9_0) rfl rfl k) ?_
  show Ends p e below QQ (s₁.setTop (mkF m 1 #[.val (.ref o0)] [(.ref o0)]))
  obtain ⟨T49, X49, e49, st49⟩ := getF X0 hx hZ hown (host := "") (Or.inl (hw _ (List.mem_of_getElem? (i := 15) rfl))) Via.refl e0 F_length_o0 (g := (mkF m 1 #[.val (.ref o0)] [(.ref o0)])) rfl rfl (hb hby d9_1)
  refine Ends.step st49 ?_
  show Ends p e below QQ (T49.setTop (mkF m 4 #[.val (.ref o0)] [(.long u)]))
  refine Ends.step (fun _ k => X49.ldc2J hx hown (mvT hZ (hw _ (List.mem_of_getElem? (i := 84) rfl))) (g := (mkF m 4 #[.val (.ref o0)] [(.long u)])) rfl (hb hby d9_4) k) ?_
  show Ends p e below QQ (T49.setTop (mkF m 7 #[.val (.ref o0)] [(.long (-1 : Int64)), (.long u)]))
  refine Ends.step (fun _ k => XT.lcmp X49.here hx rfl (hb hby d9_7) rfl k) ?_
  show Ends p e below QQ (T49.setTop (mkF m 8 #[.val (.ref o0)] [(.int (XT.cmpL u (-1 : Int64)))]))
  have J16_50 : (∀ (v16_1 : Int32) (hv16_1 : v16_1 = (if u = (-1 : Int64) then (1 : Int32) else (0 : Int32))), Ends p e below QQ (T49.setTop (mkF m 16 #[.val (.ref o0)] [(.int v16_1)]))) → Ends p e below QQ (T49.setTop (mkF m 8 #[.val (.ref o0)] [(.int (XT.cmpL u (-1 : Int64)))])) := by
    intro hJ
    by_cases hc8_51 : u = (-1 : Int64)
    · refine Ends.step (fun _ k => XS.ifNo X49.here hx rfl (hb hby d9_8) rfl (XT.ll_ne_f hc8_51) k) ?_
      show Ends p e below QQ (T49.setTop (mkF m 11 #[.val (.ref o0)] []))
      refine Ends.step (fun _ k => XT.iconstV X49.here hx rfl (1 : Int32) (hb hby d9_11) rfl k) ?_
      show Ends p e below QQ (T49.setTop (mkF m 12 #[.val (.ref o0)] [(.int (1 : Int32))]))
      refine Ends.step (fun _ k => XS.goto X49.here hx rfl (pc0 := 12) (pc' := 16) rfl (hb hby d9_12) (by decide) (by decide) k) ?_
      exact hJ _ (by simp only [if_pos hc8_51])
    · refine Ends.step (fun _ k => XS.ifYes X49.here hx rfl (pc0 := 8) (pc' := 15) rfl (hb hby d9_8) rfl (XT.ll_ne_t hc8_51) (by decide) (by decide) k) ?_
      show Ends p e below QQ (T49.setTop (mkF m 15 #[.val (.ref o0)] []))
      refine Ends.step (fun _ k => XT.iconstV X49.here hx rfl (0 : Int32) (hb hby d9_15) rfl k) ?_
      exact hJ _ (by simp only [if_neg hc8_51])
  refine J16_50 fun v16_1 hv16_1 => ?_
  have dv16_1 : fluc_v16_1 u = v16_1 := by
    simp only [fluc_v16_1]
    exact hv16_1.symm
  show Ends p e below QQ (T49.setTop (mkF m 16 #[.val (.ref o0)] [(.int v16_1)]))
  exact Ends.fin (some (.int v16_1)) X49 hQQ (fun h => by rw [Bd.returns] at h; cases h) Bd.notSynchronized (fun _ hr => retOut X49 hx (t := .boolean) Bd.returns (by rw [hv16_1]; exact own_narB (by repeat' (first | exact Or.inl rfl | exact Or.inr rfl | apply own_01))) (Or.inl ⟨rfl, (by simp), _, rfl⟩) (hb hby d9_16) hr) e49 (by decide) (by decide) ⟨(by simp only [fluc, dv16_1]), N0, rfl⟩
theorem d13_0 : decode jdk_29_method_70_code 0 = .ok (.lload_n 0, 1) := by decide +kernel
theorem d13_1 : decode jdk_29_method_70_code 1 = .ok (.lload_n 2, 1) := by decide +kernel
theorem d13_2 : decode jdk_29_method_70_code 2 = .ok (.lcmp, 1) := by decide +kernel
theorem d13_3 : decode jdk_29_method_70_code 3 = .ok (.ifCond .gt 7, 3) := by decide +kernel
theorem d13_6 : decode jdk_29_method_70_code 6 = .ok (.lload_n 0, 1) := by decide +kernel
theorem d13_7 : decode jdk_29_method_70_code 7 = .ok (.goto 4, 3) := by decide +kernel
theorem d13_11 : decode jdk_29_method_70_code 11 = .ok (.lreturn, 1) := by decide +kernel
theorem ef_mna (m : MethodId) (x0 : Int64) (x1 : Int64) : entryFrame m #[(.long x0), (.long x1)] 4 = mkF m 0 #[.val (.long x0), .second, .val (.long x1), .second] [] := by first | (simp [entryFrame, mkF, argsToLocals, Value.category]; done) | rfl
def Qmna (Z : State) (q0 : Int64) (q1 : Int64) (h0 : Heap) (n0 : Nat) (v : Option Value) (h : Heap) (L : List Loc) : Prop := (v = some (.long q0)) ∧ (Fr n0 L) ∧ (h = h0)
set_option maxRecDepth 65536 in
set_option maxHeartbeats 40000000 in
theorem rmmna (l : Launch) (Z : State) (a0 : Array Value) (hw : ∀ d ∈ tables_1, d.before a0 Z = true) (ws : List Jvm.Cond) (q0 : Int64) (q1 : Int64) (h0 : Heap) (n0 : Nat) (Z0 : n0 ≤ h0.size) (hm : ¬ q1 < q0) :
    MetFree l (⟨"java/lang/Math", "min", "(JJ)J"⟩ : MethodName) (head1 (Jvm.Cond.code (⟨"java/lang/Math", "min", "(JJ)J"⟩ : MethodName) jdk_29_method_70_code 4 (some .long) :: ws) ({ frames := 0, cells := 0, slots := 0, locals := 0 } : Room)) (fun a U => a = #[(.long q0), (.long q1)] ∧ Z.Warmed39 U.vm ∧ U.heap = h0) (fun _ _ _ _ _ => True) (fun _ U o U' => ∃ v L, o = .returned v ∧ Qmna Z q0 q1 h0 n0 v U'.heap L ∧ FrameEnd U o U' L ({ frames := 0, cells := 0, slots := 0, locals := 0 } : Room).cells ({ frames := 0, cells := 0, slots := 0, locals := 0 } : Room).slots) := by
  refine MetFree.of_bodySF (Jvm.Free.JP.mathPlain rfl (by decide +kernel)) hisR ?_
  intro p e s m args below meth c s₁ Bd hml0 hP hK
  obtain ⟨rfl, hZ, hh⟩ := hP
  have hx := Bd.exec
  have hby := Bd.bytes
  have hml : c.maxLocals = 4 := hml0
  have hown : s.vm.findClass "java/lang/Math" = some m.cls := findClass_of_methodNamed Bd.named
  have hnm := (name_of_methodNamed Bd.named Bd.method).1
  have X0 : Stand p l e ({ frames := 0, cells := 0, slots := 0, locals := 0 } : Room) s m #[(.long q0), (.long q1)] below meth c s₁ [] 0 0 := Stand.of_body Bd
  have e0 : s₁.heap = h0 := by rw [← hh, Bd.state]; rfl
  have N0 := Fr.nil n0
  refine Ends.opn ?_
  intro QQ hQQ
  refine Ends.step (S' := s₁.setTop (mkF m 0 #[.val (.long q0), .second, .val (.long q1), .second] [])) (fun t k => castTop (ef_mna m q0 q1) k) ?_
  show Ends p e below QQ (s₁.setTop (mkF m 0 #[.val (.long q0), .second, .val (.long q1), .second] []))
  refine Ends.step (fun _ k => XT.lloadN X0.here hx rfl (hb hby d13_0) rfl k) ?_
  show Ends p e below QQ (s₁.setTop (mkF m 1 #[.val (.long q0), .second, .val (.long q1), .second] [(.long q0)]))
  refine Ends.step (fun _ k => XT.lloadN X0.here hx rfl (hb hby d13_1) rfl k) ?_
  show Ends p e below QQ (s₁.setTop (mkF m 2 #[.val (.long q0), .second, .val (.long q1), .second] [(.long q1), (.long q0)]))
  refine Ends.step (fun _ k => XT.lcmp X0.here hx rfl (hb hby d13_2) rfl k) ?_
  show Ends p e below QQ (s₁.setTop (mkF m 3 #[.val (.long q0), .second, .val (.long q1), .second] [(.int (XT.cmpL q0 q1))]))
  have hc3 : ¬ (q1 < q0) := hm
  refine Ends.step (fun _ k => XS.ifNo X0.here hx rfl (hb hby d13_3) rfl (XT.ll_gt_f hc3) k) ?_
  show Ends p e below QQ (s₁.setTop (mkF m 6 #[.val (.long q0), .second, .val (.long q1), .second] []))
  refine Ends.step (fun _ k => XT.lloadN X0.here hx rfl (hb hby d13_6) rfl k) ?_
  show Ends p e below QQ (s₁.setTop (mkF m 7 #[.val (.long q0), .second, .val (.long q1), .second] [(.long q0)]))
  refine Ends.step (fun _ k => XS.goto X0.here hx rfl (pc0 := 7) (pc' := 11) rfl (hb hby d13_7) (by decide) (by decide) k) ?_
  show Ends p e below QQ (s₁.setTop (mkF m 11 #[.val (.long q0), .second, .val (.long q1), .second] [(.long q0)]))
  exact Ends.fin (some (.long q0)) X0 hQQ (fun h => by rw [Bd.returns] at h; cases h) Bd.notSynchronized (fun _ hr => retOut X0 hx (t := .long) Bd.returns rfl (Or.inr (Or.inl ⟨rfl, rfl, _, rfl⟩)) (hb hby d13_11) hr) e0 (by decide) (by decide) ⟨rfl, N0, rfl⟩
theorem d13_10 : decode jdk_29_method_70_code 10 = .ok (.lload_n 2, 1) := by decide +kernel
theorem ef_mnb (m : MethodId) (x0 : Int64) (x1 : Int64) : entryFrame m #[(.long x0), (.long x1)] 4 = mkF m 0 #[.val (.long x0), .second, .val (.long x1), .second] [] := by first | (simp [entryFrame, mkF, argsToLocals, Value.category]; done) | rfl
def Qmnb (Z : State) (q0 : Int64) (q1 : Int64) (h0 : Heap) (n0 : Nat) (v : Option Value) (h : Heap) (L : List Loc) : Prop := (v = some (.long q1)) ∧ (Fr n0 L) ∧ (h = h0)
set_option maxRecDepth 65536 in
set_option maxHeartbeats 40000000 in
theorem rmmnb (l : Launch) (Z : State) (a0 : Array Value) (hw : ∀ d ∈ tables_1, d.before a0 Z = true) (ws : List Jvm.Cond) (q0 : Int64) (q1 : Int64) (h0 : Heap) (n0 : Nat) (Z0 : n0 ≤ h0.size) (hm : ¬ q0 < q1) :
    MetFree l (⟨"java/lang/Math", "min", "(JJ)J"⟩ : MethodName) (head1 (Jvm.Cond.code (⟨"java/lang/Math", "min", "(JJ)J"⟩ : MethodName) jdk_29_method_70_code 4 (some .long) :: ws) ({ frames := 0, cells := 0, slots := 0, locals := 0 } : Room)) (fun a U => a = #[(.long q0), (.long q1)] ∧ Z.Warmed39 U.vm ∧ U.heap = h0) (fun _ _ _ _ _ => True) (fun _ U o U' => ∃ v L, o = .returned v ∧ Qmnb Z q0 q1 h0 n0 v U'.heap L ∧ FrameEnd U o U' L ({ frames := 0, cells := 0, slots := 0, locals := 0 } : Room).cells ({ frames := 0, cells := 0, slots := 0, locals := 0 } : Room).slots) := by
  refine MetFree.of_bodySF (Jvm.Free.JP.mathPlain rfl (by decide +kernel)) hisR ?_
  intro p e s m args below meth c s₁ Bd hml0 hP hK
  obtain ⟨rfl, hZ, hh⟩ := hP
  have hx := Bd.exec
  have hby := Bd.bytes
  have hml : c.maxLocals = 4 := hml0
  have hown : s.vm.findClass "java/lang/Math" = some m.cls := findClass_of_methodNamed Bd.named
  have hnm := (name_of_methodNamed Bd.named Bd.method).1
  have X0 : Stand p l e ({ frames := 0, cells := 0, slots := 0, locals := 0 } : Room) s m #[(.long q0), (.long q1)] below meth c s₁ [] 0 0 := Stand.of_body Bd
  have e0 : s₁.heap = h0 := by rw [← hh, Bd.state]; rfl
  have N0 := Fr.nil n0
  refine Ends.opn ?_
  intro QQ hQQ
  refine Ends.step (S' := s₁.setTop (mkF m 0 #[.val (.long q0), .second, .val (.long q1), .second] [])) (fun t k => castTop (ef_mnb m q0 q1) k) ?_
  show Ends p e below QQ (s₁.setTop (mkF m 0 #[.val (.long q0), .second, .val (.long q1), .second] []))
  refine Ends.step (fun _ k => XT.lloadN X0.here hx rfl (hb hby d13_0) rfl k) ?_
  show Ends p e below QQ (s₁.setTop (mkF m 1 #[.val (.long q0), .second, .val (.long q1), .second] [(.long q0)]))
  refine Ends.step (fun _ k => XT.lloadN X0.here hx rfl (hb hby d13_1) rfl k) ?_
  show Ends p e below QQ (s₁.setTop (mkF m 2 #[.val (.long q0), .second, .val (.long q1), .second] [(.long q1), (.long q0)]))
  refine Ends.step (fun _ k => XT.lcmp X0.here hx rfl (hb hby d13_2) rfl k) ?_
  show Ends p e below QQ (s₁.setTop (mkF m 3 #[.val (.long q0), .second, .val (.long q1), .second] [(.int (XT.cmpL q0 q1))]))
  by_cases hc3_52 : q1 < q0
  · refine Ends.step (fun _ k => XS.ifYes X0.here hx rfl (pc0 := 3) (pc' := 10) rfl (hb hby d13_3) rfl (XT.ll_gt_t hc3_52) (by decide) (by decide) k) ?_
    show Ends p e below QQ (s₁.setTop (mkF m 10 #[.val (.long q0), .second, .val (.long q1), .second] []))
    refine Ends.step (fun _ k => XT.lloadN X0.here hx rfl (hb hby d13_10) rfl k) ?_
    show Ends p e below QQ (s₁.setTop (mkF m 11 #[.val (.long q0), .second, .val (.long q1), .second] [(.long q1)]))
    exact Ends.fin (some (.long q1)) X0 hQQ (fun h => by rw [Bd.returns] at h; cases h) Bd.notSynchronized (fun _ hr => retOut X0 hx (t := .long) Bd.returns rfl (Or.inr (Or.inl ⟨rfl, rfl, _, rfl⟩)) (hb hby d13_11) hr) e0 (by decide) (by decide) ⟨rfl, N0, rfl⟩
  · refine Ends.step (fun _ k => XS.ifNo X0.here hx rfl (hb hby d13_3) rfl (XT.ll_gt_f hc3_52) k) ?_
    show Ends p e below QQ (s₁.setTop (mkF m 6 #[.val (.long q0), .second, .val (.long q1), .second] []))
    refine Ends.step (fun _ k => XT.lloadN X0.here hx rfl (hb hby d13_6) rfl k) ?_
    show Ends p e below QQ (s₁.setTop (mkF m 7 #[.val (.long q0), .second, .val (.long q1), .second] [(.long q0)]))
    refine Ends.step (fun _ k => XS.goto X0.here hx rfl (pc0 := 7) (pc' := 11) rfl (hb hby d13_7) (by decide) (by decide) k) ?_
    show Ends p e below QQ (s₁.setTop (mkF m 11 #[.val (.long q0), .second, .val (.long q1), .second] [(.long q0)]))
    exact Ends.fin (some (.long q0)) X0 hQQ (fun h => by rw [Bd.returns] at h; cases h) Bd.notSynchronized (fun _ hr => retOut X0 hx (t := .long) Bd.returns rfl (Or.inr (Or.inl ⟨rfl, rfl, _, rfl⟩)) (hb hby d13_11) hr) e0 (by decide) (by decide) ⟨(by rw [own_anti hm hc3_52]), N0, rfl⟩
theorem d24_0 : decode jdk_29_method_66_code 0 = .ok (.lload_n 0, 1) := by decide +kernel
theorem d24_1 : decode jdk_29_method_66_code 1 = .ok (.lload_n 2, 1) := by decide +kernel
theorem d24_2 : decode jdk_29_method_66_code 2 = .ok (.lcmp, 1) := by decide +kernel
theorem d24_3 : decode jdk_29_method_66_code 3 = .ok (.ifCond .lt 7, 3) := by decide +kernel
theorem d24_6 : decode jdk_29_method_66_code 6 = .ok (.lload_n 0, 1) := by decide +kernel
theorem d24_7 : decode jdk_29_method_66_code 7 = .ok (.goto 4, 3) := by decide +kernel
theorem d24_11 : decode jdk_29_method_66_code 11 = .ok (.lreturn, 1) := by decide +kernel
theorem ef_mx (m : MethodId) (x0 : Int64) (x1 : Int64) : entryFrame m #[(.long x0), (.long x1)] 4 = mkF m 0 #[.val (.long x0), .second, .val (.long x1), .second] [] := by first | (simp [entryFrame, mkF, argsToLocals, Value.category]; done) | rfl
def Qmx (Z : State) (q0 : Int64) (q1 : Int64) (h0 : Heap) (n0 : Nat) (v : Option Value) (h : Heap) (L : List Loc) : Prop := (v = some (.long q0)) ∧ (Fr n0 L) ∧ (h = h0)
set_option maxRecDepth 65536 in
set_option maxHeartbeats 40000000 in
theorem rmmx (l : Launch) (Z : State) (a0 : Array Value) (hw : ∀ d ∈ tables_1, d.before a0 Z = true) (ws : List Jvm.Cond) (q0 : Int64) (q1 : Int64) (h0 : Heap) (n0 : Nat) (Z0 : n0 ≤ h0.size) (hm : ¬ q0 < q1) :
    MetFree l (⟨"java/lang/Math", "max", "(JJ)J"⟩ : MethodName) (head1 (Jvm.Cond.code (⟨"java/lang/Math", "max", "(JJ)J"⟩ : MethodName) jdk_29_method_66_code 4 (some .long) :: ws) ({ frames := 0, cells := 0, slots := 0, locals := 0 } : Room)) (fun a U => a = #[(.long q0), (.long q1)] ∧ Z.Warmed39 U.vm ∧ U.heap = h0) (fun _ _ _ _ _ => True) (fun _ U o U' => ∃ v L, o = .returned v ∧ Qmx Z q0 q1 h0 n0 v U'.heap L ∧ FrameEnd U o U' L ({ frames := 0, cells := 0, slots := 0, locals := 0 } : Room).cells ({ frames := 0, cells := 0, slots := 0, locals := 0 } : Room).slots) := by
  refine MetFree.of_bodySF (Jvm.Free.JP.mathPlain rfl (by decide +kernel)) hisR ?_
  intro p e s m args below meth c s₁ Bd hml0 hP hK
  obtain ⟨rfl, hZ, hh⟩ := hP
  have hx := Bd.exec
  have hby := Bd.bytes
  have hml : c.maxLocals = 4 := hml0
  have hown : s.vm.findClass "java/lang/Math" = some m.cls := findClass_of_methodNamed Bd.named
  have hnm := (name_of_methodNamed Bd.named Bd.method).1
  have X0 : Stand p l e ({ frames := 0, cells := 0, slots := 0, locals := 0 } : Room) s m #[(.long q0), (.long q1)] below meth c s₁ [] 0 0 := Stand.of_body Bd
  have e0 : s₁.heap = h0 := by rw [← hh, Bd.state]; rfl
  have N0 := Fr.nil n0
  refine Ends.opn ?_
  intro QQ hQQ
  refine Ends.step (S' := s₁.setTop (mkF m 0 #[.val (.long q0), .second, .val (.long q1), .second] [])) (fun t k => castTop (ef_mx m q0 q1) k) ?_
  show Ends p e below QQ (s₁.setTop (mkF m 0 #[.val (.long q0), .second, .val (.long q1), .second] []))
  refine Ends.step (fun _ k => XT.lloadN X0.here hx rfl (hb hby d24_0) rfl k) ?_
  show Ends p e below QQ (s₁.setTop (mkF m 1 #[.val (.long q0), .second, .val (.long q1), .second] [(.long q0)]))
  refine Ends.step (fun _ k => XT.lloadN X0.here hx rfl (hb hby d24_1) rfl k) ?_
  show Ends p e below QQ (s₁.setTop (mkF m 2 #[.val (.long q0), .second, .val (.long q1), .second] [(.long q1), (.long q0)]))
  refine Ends.step (fun _ k => XT.lcmp X0.here hx rfl (hb hby d24_2) rfl k) ?_
  show Ends p e below QQ (s₁.setTop (mkF m 3 #[.val (.long q0), .second, .val (.long q1), .second] [(.int (XT.cmpL q0 q1))]))
  have hc3 : ¬ (q0 < q1) := hm
  refine Ends.step (fun _ k => XS.ifNo X0.here hx rfl (hb hby d24_3) rfl (XT.ll_lt_f hc3) k) ?_
  show Ends p e below QQ (s₁.setTop (mkF m 6 #[.val (.long q0), .second, .val (.long q1), .second] []))
  refine Ends.step (fun _ k => XT.lloadN X0.here hx rfl (hb hby d24_6) rfl k) ?_
  show Ends p e below QQ (s₁.setTop (mkF m 7 #[.val (.long q0), .second, .val (.long q1), .second] [(.long q0)]))
  refine Ends.step (fun _ k => XS.goto X0.here hx rfl (pc0 := 7) (pc' := 11) rfl (hb hby d24_7) (by decide) (by decide) k) ?_
  show Ends p e below QQ (s₁.setTop (mkF m 11 #[.val (.long q0), .second, .val (.long q1), .second] [(.long q0)]))
  exact Ends.fin (some (.long q0)) X0 hQQ (fun h => by rw [Bd.returns] at h; cases h) Bd.notSynchronized (fun _ hr => retOut X0 hx (t := .long) Bd.returns rfl (Or.inr (Or.inl ⟨rfl, rfl, _, rfl⟩)) (hb hby d24_11) hr) e0 (by decide) (by decide) ⟨rfl, N0, rfl⟩
theorem d26_0 : decode jdk_29_method_69_code 0 = .ok (.iload_n 0, 1) := by decide +kernel
theorem d26_1 : decode jdk_29_method_69_code 1 = .ok (.iload_n 1, 1) := by decide +kernel
theorem d26_2 : decode jdk_29_method_69_code 2 = .ok (.if_icmp .gt 7, 3) := by decide +kernel
theorem d26_5 : decode jdk_29_method_69_code 5 = .ok (.iload_n 0, 1) := by decide +kernel
theorem d26_6 : decode jdk_29_method_69_code 6 = .ok (.goto 4, 3) := by decide +kernel
theorem d26_10 : decode jdk_29_method_69_code 10 = .ok (.ireturn, 1) := by decide +kernel
theorem ef_mi (m : MethodId) (x0 : Int32) (x1 : Int32) : entryFrame m #[(.int x0), (.int x1)] 2 = mkF m 0 #[.val (.int x0), .val (.int x1)] [] := by first | (simp [entryFrame, mkF, argsToLocals, Value.category]; done) | rfl
def Qmi (Z : State) (p0 : Int32) (p1 : Int32) (h0 : Heap) (n0 : Nat) (v : Option Value) (h : Heap) (L : List Loc) : Prop := (v = some (.int p0)) ∧ (Fr n0 L) ∧ (h = h0)
set_option maxRecDepth 65536 in
set_option maxHeartbeats 40000000 in
theorem rmmi (l : Launch) (Z : State) (a0 : Array Value) (hw : ∀ d ∈ tables_1, d.before a0 Z = true) (ws : List Jvm.Cond) (p0 : Int32) (p1 : Int32) (h0 : Heap) (n0 : Nat) (Z0 : n0 ≤ h0.size) (hm : ¬ p1 < p0) :
    MetFree l (⟨"java/lang/Math", "min", "(II)I"⟩ : MethodName) (head1 (Jvm.Cond.code (⟨"java/lang/Math", "min", "(II)I"⟩ : MethodName) jdk_29_method_69_code 2 (some .int) :: ws) ({ frames := 0, cells := 0, slots := 0, locals := 0 } : Room)) (fun a U => a = #[(.int p0), (.int p1)] ∧ Z.Warmed39 U.vm ∧ U.heap = h0) (fun _ _ _ _ _ => True) (fun _ U o U' => ∃ v L, o = .returned v ∧ Qmi Z p0 p1 h0 n0 v U'.heap L ∧ FrameEnd U o U' L ({ frames := 0, cells := 0, slots := 0, locals := 0 } : Room).cells ({ frames := 0, cells := 0, slots := 0, locals := 0 } : Room).slots) := by
  refine MetFree.of_bodySF (Jvm.Free.JP.mathPlain rfl (by decide +kernel)) hisR ?_
  intro p e s m args below meth c s₁ Bd hml0 hP hK
  obtain ⟨rfl, hZ, hh⟩ := hP
  have hx := Bd.exec
  have hby := Bd.bytes
  have hml : c.maxLocals = 2 := hml0
  have hown : s.vm.findClass "java/lang/Math" = some m.cls := findClass_of_methodNamed Bd.named
  have hnm := (name_of_methodNamed Bd.named Bd.method).1
  have X0 : Stand p l e ({ frames := 0, cells := 0, slots := 0, locals := 0 } : Room) s m #[(.int p0), (.int p1)] below meth c s₁ [] 0 0 := Stand.of_body Bd
  have e0 : s₁.heap = h0 := by rw [← hh, Bd.state]; rfl
  have N0 := Fr.nil n0
  refine Ends.opn ?_
  intro QQ hQQ
  refine Ends.step (S' := s₁.setTop (mkF m 0 #[.val (.int p0), .val (.int p1)] [])) (fun t k => castTop (ef_mi m p0 p1) k) ?_
  show Ends p e below QQ (s₁.setTop (mkF m 0 #[.val (.int p0), .val (.int p1)] []))
  refine Ends.step (fun _ k => XS.iloadN X0.here hx rfl (hb hby d26_0) rfl k) ?_
  show Ends p e below QQ (s₁.setTop (mkF m 1 #[.val (.int p0), .val (.int p1)] [(.int p0)]))
  refine Ends.step (fun _ k => XS.iloadN X0.here hx rfl (hb hby d26_1) rfl k) ?_
  show Ends p e below QQ (s₁.setTop (mkF m 2 #[.val (.int p0), .val (.int p1)] [(.int p1), (.int p0)]))
  have hc2 : ¬ (p1 < p0) := hm
  refine Ends.step (fun _ k => XS.icmpNo X0.here hx rfl (hb hby d26_2) rfl (XT.ii_gt_f hc2) k) ?_
  show Ends p e below QQ (s₁.setTop (mkF m 5 #[.val (.int p0), .val (.int p1)] []))
  refine Ends.step (fun _ k => XS.iloadN X0.here hx rfl (hb hby d26_5) rfl k) ?_
  show Ends p e below QQ (s₁.setTop (mkF m 6 #[.val (.int p0), .val (.int p1)] [(.int p0)]))
  refine Ends.step (fun _ k => XS.goto X0.here hx rfl (pc0 := 6) (pc' := 10) rfl (hb hby d26_6) (by decide) (by decide) k) ?_
  show Ends p e below QQ (s₁.setTop (mkF m 10 #[.val (.int p0), .val (.int p1)] [(.int p0)]))
  exact Ends.fin (some (.int p0)) X0 hQQ (fun h => by rw [Bd.returns] at h; cases h) Bd.notSynchronized (fun _ hr => retOut X0 hx (t := .int) Bd.returns rfl (Or.inl ⟨rfl, Or.inl rfl, _, rfl⟩) (hb hby d26_10) hr) e0 (by decide) (by decide) ⟨rfl, N0, rfl⟩
theorem d25_0 : decode jdk_65_method_121_code 0 = .ok (.iload_n 1, 1) := by decide +kernel
theorem d25_1 : decode jdk_65_method_121_code 1 = .ok (.aload_n 0, 1) := by decide +kernel
theorem d25_2 : decode jdk_65_method_121_code 2 = .ok (.arraylength, 1) := by decide +kernel
theorem d25_3 : decode jdk_65_method_121_code 3 = .ok (.if_icmp .ne 11, 3) := by decide +kernel
theorem d25_14 : decode jdk_65_method_121_code 14 = .ok (.iload_n 1, 1) := by decide +kernel
theorem d25_15 : decode jdk_65_method_121_code 15 = .ok (.newarray .byte, 2) := by decide +kernel
theorem d25_17 : decode jdk_65_method_121_code 17 = .ok (.astore_n 2, 1) := by decide +kernel
theorem d25_18 : decode jdk_65_method_121_code 18 = .ok (.aload_n 0, 1) := by decide +kernel
theorem d25_19 : decode jdk_65_method_121_code 19 = .ok (.iconst 0, 1) := by decide +kernel
theorem d25_20 : decode jdk_65_method_121_code 20 = .ok (.aload_n 2, 1) := by decide +kernel
theorem d25_21 : decode jdk_65_method_121_code 21 = .ok (.iconst 0, 1) := by decide +kernel
theorem d25_22 : decode jdk_65_method_121_code 22 = .ok (.aload_n 0, 1) := by decide +kernel
theorem d25_23 : decode jdk_65_method_121_code 23 = .ok (.arraylength, 1) := by decide +kernel
theorem d25_24 : decode jdk_65_method_121_code 24 = .ok (.iload_n 1, 1) := by decide +kernel
theorem d25_25 : decode jdk_65_method_121_code 25 = .ok (.invokestatic 304, 3) := by decide +kernel
theorem d25_28 : decode jdk_65_method_121_code 28 = .ok (.invokestatic 150, 3) := by decide +kernel
theorem d25_31 : decode jdk_65_method_121_code 31 = .ok (.aload_n 2, 1) := by decide +kernel
theorem d25_32 : decode jdk_65_method_121_code 32 = .ok (.areturn, 1) := by decide +kernel
theorem ef_cpo (m : MethodId) (x0 : Addr) : entryFrame m #[(.ref x0), (.int (1 : Int32))] 3 = mkF m 0 #[.val (.ref x0), .val (.int (1 : Int32)), .unset] [] := by first | (simp [entryFrame, mkF, argsToLocals, Value.category]; done) | rfl
def Qcpo (Z : State) (o0 : Addr) (k : ClassId) (h0 : Heap) (n0 : Nat) (v : Option Value) (h : Heap) (L : List Loc) : Prop := ∃ (b : Addr), ∃ (kb : ClassId), (v = some (.ref b)) ∧ (Fr n0 L) ∧ (Keep h0 h []) ∧ (h0.size ≤ b) ∧ (n0 ≤ b) ∧ (Arv Z h b kb .byte (1 : Int32) [(.int (0 : Int32))] (.int (0 : Int32)))
set_option maxRecDepth 65536 in
set_option maxHeartbeats 40000000 in
theorem rmcpo (l : Launch) (Z : State) (a0 : Array Value) (hw : ∀ d ∈ tables_1, d.before a0 Z = true) (ws : List Jvm.Cond) (o0 : Addr) (k : ClassId) (h0 : Heap) (n0 : Nat) (Z0 : n0 ≤ h0.size) (A_o0 : Arv Z h0 o0 k .byte (0 : Int32) [] (.int (0 : Int32))) :
    MetFree l (⟨"java/util/Arrays", "copyOf", "([BI)[B"⟩ : MethodName) (head1 (Jvm.Cond.code (⟨"java/util/Arrays", "copyOf", "([BI)[B"⟩ : MethodName) jdk_65_method_121_code 3 (some (.array .byte)) :: ws) ({ frames := 1, cells := 1, slots := 1, locals := 24 } : Room)) (fun a U => a = #[(.ref o0), (.int (1 : Int32))] ∧ Z.Warmed39 U.vm ∧ U.heap = h0) (fun _ _ _ _ _ => True) (fun _ U o U' => ∃ v L, o = .returned v ∧ Qcpo Z o0 k h0 n0 v U'.heap L ∧ FrameEnd U o U' L ({ frames := 1, cells := 1, slots := 1, locals := 24 } : Room).cells ({ frames := 1, cells := 1, slots := 1, locals := 24 } : Room).slots) := by
  refine MetFree.of_bodySF (plainFor_of_name pn_6) hisR ?_
  intro p e s m args below meth c s₁ Bd hml0 hP hK
  obtain ⟨rfl, hZ, hh⟩ := hP
  have hx := Bd.exec
  have hby := Bd.bytes
  have hml : c.maxLocals = 3 := hml0
  have hown : s.vm.findClass "java/util/Arrays" = some m.cls := findClass_of_methodNamed Bd.named
  have hnm := (name_of_methodNamed Bd.named Bd.method).1
  have X0 : Stand p l e ({ frames := 1, cells := 1, slots := 1, locals := 24 } : Room) s m #[(.ref o0), (.int (1 : Int32))] below meth c s₁ [] 0 0 := Stand.of_body Bd
  have e0 : s₁.heap = h0 := by rw [← hh, Bd.state]; rfl
  have N0 := Fr.nil n0
  refine Ends.opn ?_
  intro QQ hQQ
  refine Ends.step (S' := s₁.setTop (mkF m 0 #[.val (.ref o0), .val (.int (1 : Int32)), .unset] [])) (fun t k => castTop (ef_cpo m o0) k) ?_
  show Ends p e below QQ (s₁.setTop (mkF m 0 #[.val (.ref o0), .val (.int (1 : Int32)), .unset] []))
  refine Ends.step (fun _ k => XS.iloadN X0.here hx rfl (hb hby d25_0) rfl k) ?_
  show Ends p e below QQ (s₁.setTop (mkF m 1 #[.val (.ref o0), .val (.int (1 : Int32)), .unset] [(.int (1 : Int32))]))
  refine Ends.step (fun _ k => XS.aloadN X0.here hx rfl (hb hby d25_1) rfl rfl k) ?_
  show Ends p e below QQ (s₁.setTop (mkF m 2 #[.val (.ref o0), .val (.int (1 : Int32)), .unset] [(.ref o0), (.int (1 : Int32))]))
  obtain ⟨cl53, Ar53, -, S53, P53, -, -⟩ := id A_o0
  refine Ends.step (S' := s₁.setTop (mkF m 3 #[.val (.ref o0), .val (.int (1 : Int32)), .unset] [(.int (0 : Int32)), (.int (1 : Int32))])) (fun _ k => X0.arraylength hx (by rw [e0]; exact Ar53.1) (State.isArrayOf_alike hZ.alike Ar53.2.1) (g := (mkF m 2 #[.val (.ref o0), .val (.int (1 : Int32)), .unset] [(.ref o0), (.int (1 : Int32))])) rfl rfl (hb hby d25_2) _ (by rw [len_of S53 P53]; exact k)) ?_
  show Ends p e below QQ (s₁.setTop (mkF m 3 #[.val (.ref o0), .val (.int (1 : Int32)), .unset] [(.int (0 : Int32)), (.int (1 : Int32))]))
  refine Ends.step (fun _ k => XS.icmpYes X0.here hx rfl (pc0 := 3) (pc' := 14) rfl (hb hby d25_3) rfl (XT.ii_ne_t (by decide)) (by decide) (by decide) k) ?_
  show Ends p e below QQ (s₁.setTop (mkF m 14 #[.val (.ref o0), .val (.int (1 : Int32)), .unset] []))
  refine Ends.step (fun _ k => XS.iloadN X0.here hx rfl (hb hby d25_14) rfl k) ?_
  show Ends p e below QQ (s₁.setTop (mkF m 15 #[.val (.ref o0), .val (.int (1 : Int32)), .unset] [(.int (1 : Int32))]))
  obtain ⟨T54, h54, k54, X54, e54, E54, A54, st54⟩ := newP X0 hx hZ (hw _ (List.mem_of_getElem? (i := 44) rfl)) e0 (g := (mkF m 15 #[.val (.ref o0), .val (.int (1 : Int32)), .unset] [(.int (1 : Int32))])) rfl (hb hby d25_15) rfl (by decide) (cap := 1) (by decide) (by decide) (by decide) (by decide)
  obtain ⟨b54, g54⟩ : ∃ z, z = h0.size := ⟨_, rfl⟩
  rw [← g54] at A54 st54
  have ne_o0_b54 : o0 ≠ b54 := Nat.ne_of_lt (Nat.lt_of_lt_of_le A_o0.lt (Nat.le_of_eq g54.symm))
  have g_b54 : n0 ≤ b54 := Nat.le_trans Z0 (Nat.le_trans (Keep.refl h0 []).1 (Nat.le_of_eq g54.symm))
  have sz_b54 : h0.size ≤ b54 := Nat.le_trans (Keep.refl h0 []).1 (Nat.le_of_eq g54.symm)
  have A_o0 := A_o0.ext E54
  have K54 := (Keep.refl h0 []).ext E54
  have A_b54 : Arv Z h54 b54 k54 .byte (1 : Int32) [(.int (0 : Int32))] (.int (0 : Int32)) := (Arv.new A54 (by decide)).pad (pad_rep [] (.int (0 : Int32)) 1)
  refine Ends.step st54 ?_
  show Ends p e below QQ (T54.setTop (mkF m 17 #[.val (.ref o0), .val (.int (1 : Int32)), .unset] [(.ref b54)]))
  refine Ends.step (fun _ k => XS.astoreN X54.here hx rfl (hb hby d25_17) rfl rfl (l' := #[.val (.ref o0), .val (.int (1 : Int32)), .val (.ref b54)]) rfl k) ?_
  show Ends p e below QQ (T54.setTop (mkF m 18 #[.val (.ref o0), .val (.int (1 : Int32)), .val (.ref b54)] []))
  refine Ends.step (fun _ k => XS.aloadN X54.here hx rfl (hb hby d25_18) rfl rfl k) ?_
  show Ends p e below QQ (T54.setTop (mkF m 19 #[.val (.ref o0), .val (.int (1 : Int32)), .val (.ref b54)] [(.ref o0)]))
  refine Ends.step (fun _ k => XT.iconstV X54.here hx rfl (0 : Int32) (hb hby d25_19) rfl k) ?_
  show Ends p e below QQ (T54.setTop (mkF m 20 #[.val (.ref o0), .val (.int (1 : Int32)), .val (.ref b54)] [(.int (0 : Int32)), (.ref o0)]))
  refine Ends.step (fun _ k => XS.aloadN X54.here hx rfl (hb hby d25_20) rfl rfl k) ?_
  show Ends p e below QQ (T54.setTop (mkF m 21 #[.val (.ref o0), .val (.int (1 : Int32)), .val (.ref b54)] [(.ref b54), (.int (0 : Int32)), (.ref o0)]))
  refine Ends.step (fun _ k => XT.iconstV X54.here hx rfl (0 : Int32) (hb hby d25_21) rfl k) ?_
  show Ends p e below QQ (T54.setTop (mkF m 22 #[.val (.ref o0), .val (.int (1 : Int32)), .val (.ref b54)] [(.int (0 : Int32)), (.ref b54), (.int (0 : Int32)), (.ref o0)]))
  refine Ends.step (fun _ k => XS.aloadN X54.here hx rfl (hb hby d25_22) rfl rfl k) ?_
  show Ends p e below QQ (T54.setTop (mkF m 23 #[.val (.ref o0), .val (.int (1 : Int32)), .val (.ref b54)] [(.ref o0), (.int (0 : Int32)), (.ref b54), (.int (0 : Int32)), (.ref o0)]))
  obtain ⟨cl55, Ar55, -, S55, P55, -, -⟩ := id A_o0
  refine Ends.step (S' := T54.setTop (mkF m 24 #[.val (.ref o0), .val (.int (1 : Int32)), .val (.ref b54)] [(.int (0 : Int32)), (.int (0 : Int32)), (.ref b54), (.int (0 : Int32)), (.ref o0)])) (fun _ k => X54.arraylength hx (by rw [e54]; exact Ar55.1) (State.isArrayOf_alike hZ.alike Ar55.2.1) (g := (mkF m 23 #[.val (.ref o0), .val (.int (1 : Int32)), .val (.ref b54)] [(.ref o0), (.int (0 : Int32)), (.ref b54), (.int (0 : Int32)), (.ref o0)])) rfl rfl (hb hby d25_23) _ (by rw [len_of S55 P55]; exact k)) ?_
  show Ends p e below QQ (T54.setTop (mkF m 24 #[.val (.ref o0), .val (.int (1 : Int32)), .val (.ref b54)] [(.int (0 : Int32)), (.int (0 : Int32)), (.ref b54), (.int (0 : Int32)), (.ref o0)]))
  refine Ends.step (fun _ k => XS.iloadN X54.here hx rfl (hb hby d25_24) rfl k) ?_
  show Ends p e below QQ (T54.setTop (mkF m 25 #[.val (.ref o0), .val (.int (1 : Int32)), .val (.ref b54)] [(.int (1 : Int32)), (.int (0 : Int32)), (.int (0 : Int32)), (.ref b54), (.int (0 : Int32)), (.ref o0)]))
  obtain ⟨_, _, ⟨T56, L56, k56, n56⟩, -, X56, ⟨Lc56, hQ56, l56, y56, z56⟩, st56⟩ := Jvm.LawKit.callS X54 hx (y := (⟨"java/lang/Math", "min", "(II)I"⟩ : MethodName)) hown (mvT hZ (hw _ (List.mem_of_getElem? (i := 177) rfl))) (mvT hZ (hw _ (List.mem_of_getElem? (i := 178) rfl))) (mvT hZ (hw _ (List.mem_of_getElem? (i := 109) rfl))) (mvT hZ (hw _ (List.mem_of_getElem? (i := 179) rfl))) (by decide) (backOf (W := 4) (rmmi l Z a0 hw [] (0 : Int32) (1 : Int32) h54 n0 (Nat.le_trans Z0 K54.1) (by decide)) hZ (hw _ (List.mem_of_getElem? (i := 179) rfl)) (hw _ (List.mem_of_getElem? (i := 109) rfl)) (by decide) (by decide)) (g := (mkF m 25 #[.val (.ref o0), .val (.int (1 : Int32)), .val (.ref b54)] [(.int (1 : Int32)), (.int (0 : Int32)), (.int (0 : Int32)), (.ref b54), (.int (0 : Int32)), (.ref o0)])) rfl (by rw [hml]; rfl) (argsL := [(.int (0 : Int32)), (.int (1 : Int32))]) (rest := [(.int (0 : Int32)), (.ref b54), (.int (0 : Int32)), (.ref o0)]) (lenOf pd_2 rfl) rfl (by show 2 * 0 + _ ≤ _; exact Nat.le_of_eq rfl) (hb hby d25_25) (fun _ _ => ⟨rfl, e54, (by decide : 1 + 0 ≤ _), (by decide : 1 + 0 ≤ _)⟩)
  dsimp only [Pt.U, Pt.locs, Pt.cells, Pt.slots] at X56 l56 y56 z56 st56 hQ56
  subst l56 y56 z56
  obtain ⟨rfl, Nq56, hh56⟩ := hQ56
  have N56 := Fr.app N0 Nq56
  refine Ends.step st56 ?_
  show Ends p e below QQ (T56.setTop (mkF m 28 #[.val (.ref o0), .val (.int (1 : Int32)), .val (.ref b54)] [(.int (0 : Int32)), (.int (0 : Int32)), (.ref b54), (.int (0 : Int32)), (.ref o0)]))
  obtain ⟨T57, X57, e57, st57⟩ := own_cp0 X56 hx hZ hown (hw _ (List.mem_of_getElem? (i := 180) rfl)) (hw _ (List.mem_of_getElem? (i := 117) rfl)) (hw _ (List.mem_of_getElem? (i := 115) rfl)) (hw _ (List.mem_of_getElem? (i := 116) rfl)) hh56 A_o0 A_b54 (by decide) (by decide) (g := (mkF m 28 #[.val (.ref o0), .val (.int (1 : Int32)), .val (.ref b54)] [(.int (0 : Int32)), (.int (0 : Int32)), (.ref b54), (.int (0 : Int32)), (.ref o0)])) rfl (by rw [hml]; rfl) rfl (hb hby d25_28) (by decide) (W := 0) (by show 2 * 0 + _ ≤ _; exact Nat.le_of_eq rfl) (by decide)
  refine Ends.step st57 ?_
  show Ends p e below QQ (T57.setTop (mkF m 31 #[.val (.ref o0), .val (.int (1 : Int32)), .val (.ref b54)] []))
  refine Ends.step (fun _ k => XS.aloadN X57.here hx rfl (hb hby d25_31) rfl rfl k) ?_
  show Ends p e below QQ (T57.setTop (mkF m 32 #[.val (.ref o0), .val (.int (1 : Int32)), .val (.ref b54)] [(.ref b54)]))
  exact Ends.fin (some (.ref b54)) X57 hQQ (fun h => by rw [Bd.returns] at h; cases h) Bd.notSynchronized (fun _ hr => retOut X57 hx (t := (.array .byte)) Bd.returns rfl (Or.inr (Or.inr (Or.inr (Or.inr ⟨rfl, rfl, rfl⟩)))) (hb hby d25_32) hr) e57 (by decide) (by decide) ⟨b54, k54, rfl, N56, K54, sz_b54, g_b54, A_b54⟩
theorem d14_0 : decode prog_42_method_8_code 0 = .ok (.iload_n 1, 1) := by decide +kernel
theorem d14_1 : decode prog_42_method_8_code 1 = .ok (.aload_n 0, 1) := by decide +kernel
theorem d14_2 : decode prog_42_method_8_code 2 = .ok (.arraylength, 1) := by decide +kernel
theorem d14_3 : decode prog_42_method_8_code 3 = .ok (.if_icmp .gt 5, 3) := by decide +kernel
theorem d14_6 : decode prog_42_method_8_code 6 = .ok (.aload_n 0, 1) := by decide +kernel
theorem d14_7 : decode prog_42_method_8_code 7 = .ok (.areturn, 1) := by decide +kernel
theorem ef_g0 (m : MethodId) (x0 : Addr) (x2 : Int64) : entryFrame m #[(.ref x0), (.int (0 : Int32)), (.long x2)] 4 = mkF m 0 #[.val (.ref x0), .val (.int (0 : Int32)), .val (.long x2), .second] [] := by first | (simp [entryFrame, mkF, argsToLocals, Value.category]; done) | rfl
def Qg0 (Z : State) (o0 : Addr) (q2 : Int64) (k : ClassId) (h0 : Heap) (n0 : Nat) (v : Option Value) (h : Heap) (L : List Loc) : Prop := (v = some (.ref o0)) ∧ (Fr n0 L) ∧ (h = h0)
set_option maxRecDepth 65536 in
set_option maxHeartbeats 40000000 in
theorem rmg0 (l : Launch) (Z : State) (a0 : Array Value) (hw : ∀ d ∈ tables_1, d.before a0 Z = true) (ws : List Jvm.Cond) (o0 : Addr) (q2 : Int64) (k : ClassId) (h0 : Heap) (n0 : Nat) (Z0 : n0 ≤ h0.size) (A_o0 : Arv Z h0 o0 k .byte (0 : Int32) [] (.int (0 : Int32))) :
    MetFree l (⟨"com/example/gatehook/gatehook/http/IncomingBody", "grown", "([BIJ)[B"⟩ : MethodName) (head1 (Jvm.Cond.code (⟨"com/example/gatehook/gatehook/http/IncomingBody", "grown", "([BIJ)[B"⟩ : MethodName) prog_42_method_8_code 4 (some (.array .byte)) :: ws) ({ frames := 0, cells := 0, slots := 0, locals := 0 } : Room)) (fun a U => a = #[(.ref o0), (.int (0 : Int32)), (.long q2)] ∧ Z.Warmed39 U.vm ∧ U.heap = h0) (fun _ _ _ _ _ => True) (fun _ U o U' => ∃ v L, o = .returned v ∧ Qg0 Z o0 q2 k h0 n0 v U'.heap L ∧ FrameEnd U o U' L ({ frames := 0, cells := 0, slots := 0, locals := 0 } : Room).cells ({ frames := 0, cells := 0, slots := 0, locals := 0 } : Room).slots) := by
  refine MetFree.of_bodySF (plainFor_of_name pn_5) hisR ?_
  intro p e s m args below meth c s₁ Bd hml0 hP hK
  obtain ⟨rfl, hZ, hh⟩ := hP
  have hx := Bd.exec
  have hby := Bd.bytes
  have hml : c.maxLocals = 4 := hml0
  have hown : s.vm.findClass "com/example/gatehook/gatehook/http/IncomingBody" = some m.cls := findClass_of_methodNamed Bd.named
  have hnm := (name_of_methodNamed Bd.named Bd.method).1
  have X0 : Stand p l e ({ frames := 0, cells := 0, slots := 0, locals := 0 } : Room) s m #[(.ref o0), (.int (0 : Int32)), (.long q2)] below meth c s₁ [] 0 0 := Stand.of_body Bd
  have e0 : s₁.heap = h0 := by rw [← hh, Bd.state]; rfl
  have N0 := Fr.nil n0
  refine Ends.opn ?_
  intro QQ hQQ
  refine Ends.step (S' := s₁.setTop (mkF m 0 #[.val (.ref o0), .val (.int (0 : Int32)), .val (.long q2), .second] [])) (fun t k => castTop (ef_g0 m o0 q2) k) ?_
  show Ends p e below QQ (s₁.setTop (mkF m 0 #[.val (.ref o0), .val (.int (0 : Int32)), .val (.long q2), .second] []))
  refine Ends.step (fun _ k => XS.iloadN X0.here hx rfl (hb hby d14_0) rfl k) ?_
  show Ends p e below QQ (s₁.setTop (mkF m 1 #[.val (.ref o0), .val (.int (0 : Int32)), .val (.long q2), .second] [(.int (0 : Int32))]))
  refine Ends.step (fun _ k => XS.aloadN X0.here hx rfl (hb hby d14_1) rfl rfl k) ?_
  show Ends p e below QQ (s₁.setTop (mkF m 2 #[.val (.ref o0), .val (.int (0 : Int32)), .val (.long q2), .second] [(.ref o0), (.int (0 : Int32))]))
  obtain ⟨cl58, Ar58, -, S58, P58, -, -⟩ := id A_o0
  refine Ends.step (S' := s₁.setTop (mkF m 3 #[.val (.ref o0), .val (.int (0 : Int32)), .val (.long q2), .second] [(.int (0 : Int32)), (.int (0 : Int32))])) (fun _ k => X0.arraylength hx (by rw [e0]; exact Ar58.1) (State.isArrayOf_alike hZ.alike Ar58.2.1) (g := (mkF m 2 #[.val (.ref o0), .val (.int (0 : Int32)), .val (.long q2), .second] [(.ref o0), (.int (0 : Int32))])) rfl rfl (hb hby d14_2) _ (by rw [len_of S58 P58]; exact k)) ?_
  show Ends p e below QQ (s₁.setTop (mkF m 3 #[.val (.ref o0), .val (.int (0 : Int32)), .val (.long q2), .second] [(.int (0 : Int32)), (.int (0 : Int32))]))
  refine Ends.step (fun _ k => XS.icmpNo X0.here hx rfl (hb hby d14_3) rfl (XT.ii_gt_f (by decide)) k) ?_
  show Ends p e below QQ (s₁.setTop (mkF m 6 #[.val (.ref o0), .val (.int (0 : Int32)), .val (.long q2), .second] []))
  refine Ends.step (fun _ k => XS.aloadN X0.here hx rfl (hb hby d14_6) rfl rfl k) ?_
  show Ends p e below QQ (s₁.setTop (mkF m 7 #[.val (.ref o0), .val (.int (0 : Int32)), .val (.long q2), .second] [(.ref o0)]))
  exact Ends.fin (some (.ref o0)) X0 hQQ (fun h => by rw [Bd.returns] at h; cases h) Bd.notSynchronized (fun _ hr => retOut X0 hx (t := (.array .byte)) Bd.returns rfl (Or.inr (Or.inr (Or.inr (Or.inr ⟨rfl, rfl, rfl⟩)))) (hb hby d14_7) hr) e0 (by decide) (by decide) ⟨rfl, N0, rfl⟩
theorem d14_8 : decode prog_42_method_8_code 8 = .ok (.aload_n 0, 1) := by decide +kernel
theorem d14_9 : decode prog_42_method_8_code 9 = .ok (.lload_n 2, 1) := by decide +kernel
theorem d14_10 : decode prog_42_method_8_code 10 = .ok (.iload_n 1, 1) := by decide +kernel
theorem d14_11 : decode prog_42_method_8_code 11 = .ok (.i2l, 1) := by decide +kernel
theorem d14_12 : decode prog_42_method_8_code 12 = .ok (.ldc2_w 95, 3) := by decide +kernel
theorem d14_15 : decode prog_42_method_8_code 15 = .ok (.aload_n 0, 1) := by decide +kernel
theorem d14_16 : decode prog_42_method_8_code 16 = .ok (.arraylength, 1) := by decide +kernel
theorem d14_17 : decode prog_42_method_8_code 17 = .ok (.i2l, 1) := by decide +kernel
theorem d14_18 : decode prog_42_method_8_code 18 = .ok (.lmul, 1) := by decide +kernel
theorem d14_19 : decode prog_42_method_8_code 19 = .ok (.invokestatic 97, 3) := by decide +kernel
theorem d14_22 : decode prog_42_method_8_code 22 = .ok (.invokestatic 57, 3) := by decide +kernel
theorem d14_25 : decode prog_42_method_8_code 25 = .ok (.l2i, 1) := by decide +kernel
theorem d14_26 : decode prog_42_method_8_code 26 = .ok (.invokestatic 80, 3) := by decide +kernel
theorem d14_29 : decode prog_42_method_8_code 29 = .ok (.areturn, 1) := by decide +kernel
theorem ef_g1 (m : MethodId) (x0 : Addr) (x2 : Int64) : entryFrame m #[(.ref x0), (.int (1 : Int32)), (.long x2)] 4 = mkF m 0 #[.val (.ref x0), .val (.int (1 : Int32)), .val (.long x2), .second] [] := by first | (simp [entryFrame, mkF, argsToLocals, Value.category]; done) | rfl
def Qg1 (Z : State) (o0 : Addr) (q2 : Int64) (k : ClassId) (h0 : Heap) (n0 : Nat) (v : Option Value) (h : Heap) (L : List Loc) : Prop := ∃ (b : Addr), ∃ (kb : ClassId), (v = some (.ref b)) ∧ (Fr n0 L) ∧ (Keep h0 h []) ∧ (h0.size ≤ b) ∧ (n0 ≤ b) ∧ (Arv Z h b kb .byte (1 : Int32) [(.int (0 : Int32))] (.int (0 : Int32)))
set_option maxRecDepth 65536 in
set_option maxHeartbeats 40000000 in
theorem rmg1 (l : Launch) (Z : State) (a0 : Array Value) (hw : ∀ d ∈ tables_1, d.before a0 Z = true) (ws : List Jvm.Cond) (o0 : Addr) (q2 : Int64) (k : ClassId) (h0 : Heap) (n0 : Nat) (Z0 : n0 ≤ h0.size) (A_o0 : Arv Z h0 o0 k .byte (0 : Int32) [] (.int (0 : Int32))) (hq : ¬ q2 < (1 : Int64)) :
    MetFree l (⟨"com/example/gatehook/gatehook/http/IncomingBody", "grown", "([BIJ)[B"⟩ : MethodName) (head1 (Jvm.Cond.code (⟨"com/example/gatehook/gatehook/http/IncomingBody", "grown", "([BIJ)[B"⟩ : MethodName) prog_42_method_8_code 4 (some (.array .byte)) :: ws) ({ frames := 2, cells := 1, slots := 1, locals := 38 } : Room)) (fun a U => a = #[(.ref o0), (.int (1 : Int32)), (.long q2)] ∧ Z.Warmed39 U.vm ∧ U.heap = h0) (fun _ _ _ _ _ => True) (fun _ U o U' => ∃ v L, o = .returned v ∧ Qg1 Z o0 q2 k h0 n0 v U'.heap L ∧ FrameEnd U o U' L ({ frames := 2, cells := 1, slots := 1, locals := 38 } : Room).cells ({ frames := 2, cells := 1, slots := 1, locals := 38 } : Room).slots) := by
  refine MetFree.of_bodySF (plainFor_of_name pn_5) hisR ?_
  intro p e s m args below meth c s₁ Bd hml0 hP hK
  obtain ⟨rfl, hZ, hh⟩ := hP
  have hx := Bd.exec
  have hby := Bd.bytes
  have hml : c.maxLocals = 4 := hml0
  have hown : s.vm.findClass "com/example/gatehook/gatehook/http/IncomingBody" = some m.cls := findClass_of_methodNamed Bd.named
  have hnm := (name_of_methodNamed Bd.named Bd.method).1
  have X0 : Stand p l e ({ frames := 2, cells := 1, slots := 1, locals := 38 } : Room) s m #[(.ref o0), (.int (1 : Int32)), (.long q2)] below meth c s₁ [] 0 0 := Stand.of_body Bd
  have e0 : s₁.heap = h0 := by rw [← hh, Bd.state]; rfl
  have N0 := Fr.nil n0
  refine Ends.opn ?_
  intro QQ hQQ
  refine Ends.step (S' := s₁.setTop (mkF m 0 #[.val (.ref o0), .val (.int (1 : Int32)), .val (.long q2), .second] [])) (fun t k => castTop (ef_g1 m o0 q2) k) ?_
  show Ends p e below QQ (s₁.setTop (mkF m 0 #[.val (.ref o0), .val (.int (1 : Int32)), .val (.long q2), .second] []))
  refine Ends.step (fun _ k => XS.iloadN X0.here hx rfl (hb hby d14_0) rfl k) ?_
  show Ends p e below QQ (s₁.setTop (mkF m 1 #[.val (.ref o0), .val (.int (1 : Int32)), .val (.long q2), .second] [(.int (1 : Int32))]))
  refine Ends.step (fun _ k => XS.aloadN X0.here hx rfl (hb hby d14_1) rfl rfl k) ?_
  show Ends p e below QQ (s₁.setTop (mkF m 2 #[.val (.ref o0), .val (.int (1 : Int32)), .val (.long q2), .second] [(.ref o0), (.int (1 : Int32))]))
  obtain ⟨cl59, Ar59, -, S59, P59, -, -⟩ := id A_o0
  refine Ends.step (S' := s₁.setTop (mkF m 3 #[.val (.ref o0), .val (.int (1 : Int32)), .val (.long q2), .second] [(.int (0 : Int32)), (.int (1 : Int32))])) (fun _ k => X0.arraylength hx (by rw [e0]; exact Ar59.1) (State.isArrayOf_alike hZ.alike Ar59.2.1) (g := (mkF m 2 #[.val (.ref o0), .val (.int (1 : Int32)), .val (.long q2), .second] [(.ref o0), (.int (1 : Int32))])) rfl rfl (hb hby d14_2) _ (by rw [len_of S59 P59]; exact k)) ?_
  show Ends p e below QQ (s₁.setTop (mkF m 3 #[.val (.ref o0), .val (.int (1 : Int32)), .val (.long q2), .second] [(.int (0 : Int32)), (.int (1 : Int32))]))
  refine Ends.step (fun _ k => XS.icmpYes X0.here hx rfl (pc0 := 3) (pc' := 8) rfl (hb hby d14_3) rfl (XT.ii_gt_t (by decide)) (by decide) (by decide) k) ?_
  show Ends p e below QQ (s₁.setTop (mkF m 8 #[.val (.ref o0), .val (.int (1 : Int32)), .val (.long q2), .second] []))
  refine Ends.step (fun _ k => XS.aloadN X0.here hx rfl (hb hby d14_8) rfl rfl k) ?_
  show Ends p e below QQ (s₁.setTop (mkF m 9 #[.val (.ref o0), .val (.int (1 : Int32)), .val (.long q2), .second] [(.ref o0)]))
  refine Ends.step (fun _ k => XT.lloadN X0.here hx rfl (hb hby d14_9) rfl k) ?_
  show Ends p e below QQ (s₁.setTop (mkF m 10 #[.val (.ref o0), .val (.int (1 : Int32)), .val (.long q2), .second] [(.long q2), (.ref o0)]))
  refine Ends.step (fun _ k => XS.iloadN X0.here hx rfl (hb hby d14_10) rfl k) ?_
  show Ends p e below QQ (s₁.setTop (mkF m 11 #[.val (.ref o0), .val (.int (1 : Int32)), .val (.long q2), .second] [(.int (1 : Int32)), (.long q2), (.ref o0)]))
  refine Ends.step (fun _ k => XT.i2l X0.here hx rfl (hb hby d14_11) rfl k) ?_
  show Ends p e below QQ (s₁.setTop (mkF m 12 #[.val (.ref o0), .val (.int (1 : Int32)), .val (.long q2), .second] [(.long (1 : Int64)), (.long q2), (.ref o0)]))
  refine Ends.step (fun _ k => X0.ldc2J hx hown (mvT hZ (hw _ (List.mem_of_getElem? (i := 169) rfl))) (g := (mkF m 12 #[.val (.ref o0), .val (.int (1 : Int32)), .val (.long q2), .second] [(.long (1 : Int64)), (.long q2), (.ref o0)])) rfl (hb hby d14_12) k) ?_
  show Ends p e below QQ (s₁.setTop (mkF m 15 #[.val (.ref o0), .val (.int (1 : Int32)), .val (.long q2), .second] [(.long (2 : Int64)), (.long (1 : Int64)), (.long q2), (.ref o0)]))
  refine Ends.step (fun _ k => XS.aloadN X0.here hx rfl (hb hby d14_15) rfl rfl k) ?_
  show Ends p e below QQ (s₁.setTop (mkF m 16 #[.val (.ref o0), .val (.int (1 : Int32)), .val (.long q2), .second] [(.ref o0), (.long (2 : Int64)), (.long (1 : Int64)), (.long q2), (.ref o0)]))
  obtain ⟨cl60, Ar60, -, S60, P60, -, -⟩ := id A_o0
  refine Ends.step (S' := s₁.setTop (mkF m 17 #[.val (.ref o0), .val (.int (1 : Int32)), .val (.long q2), .second] [(.int (0 : Int32)), (.long (2 : Int64)), (.long (1 : Int64)), (.long q2), (.ref o0)])) (fun _ k => X0.arraylength hx (by rw [e0]; exact Ar60.1) (State.isArrayOf_alike hZ.alike Ar60.2.1) (g := (mkF m 16 #[.val (.ref o0), .val (.int (1 : Int32)), .val (.long q2), .second] [(.ref o0), (.long (2 : Int64)), (.long (1 : Int64)), (.long q2), (.ref o0)])) rfl rfl (hb hby d14_16) _ (by rw [len_of S60 P60]; exact k)) ?_
  show Ends p e below QQ (s₁.setTop (mkF m 17 #[.val (.ref o0), .val (.int (1 : Int32)), .val (.long q2), .second] [(.int (0 : Int32)), (.long (2 : Int64)), (.long (1 : Int64)), (.long q2), (.ref o0)]))
  refine Ends.step (fun _ k => XT.i2l X0.here hx rfl (hb hby d14_17) rfl k) ?_
  show Ends p e below QQ (s₁.setTop (mkF m 18 #[.val (.ref o0), .val (.int (1 : Int32)), .val (.long q2), .second] [(.long (0 : Int64)), (.long (2 : Int64)), (.long (1 : Int64)), (.long q2), (.ref o0)]))
  refine Ends.step (fun _ k => XT.lmul X0.here hx rfl (hb hby d14_18) rfl k) ?_
  show Ends p e below QQ (s₁.setTop (mkF m 19 #[.val (.ref o0), .val (.int (1 : Int32)), .val (.long q2), .second] [(.long (0 : Int64)), (.long (1 : Int64)), (.long q2), (.ref o0)]))
  obtain ⟨_, _, ⟨T61, L61, k61, n61⟩, -, X61, ⟨Lc61, hQ61, l61, y61, z61⟩, st61⟩ := Jvm.LawKit.callS X0 hx (y := (⟨"java/lang/Math", "max", "(JJ)J"⟩ : MethodName)) hown (mvT hZ (hw _ (List.mem_of_getElem? (i := 170) rfl))) (mvT hZ (hw _ (List.mem_of_getElem? (i := 171) rfl))) (mvT hZ (hw _ (List.mem_of_getElem? (i := 109) rfl))) (mvT hZ (hw _ (List.mem_of_getElem? (i := 172) rfl))) (by decide) (backOf (W := 3) (rmmx l Z a0 hw [] (1 : Int64) (0 : Int64) h0 n0 (Nat.le_trans Z0 (Keep.refl h0 []).1) (by decide)) hZ (hw _ (List.mem_of_getElem? (i := 172) rfl)) (hw _ (List.mem_of_getElem? (i := 109) rfl)) (by decide) (by decide)) (g := (mkF m 19 #[.val (.ref o0), .val (.int (1 : Int32)), .val (.long q2), .second] [(.long (0 : Int64)), (.long (1 : Int64)), (.long q2), (.ref o0)])) rfl (by rw [hml]; rfl) (argsL := [(.long (1 : Int64)), (.long (0 : Int64))]) (rest := [(.long q2), (.ref o0)]) (lenOf pd_3 rfl) rfl (by show 2 * 0 + _ ≤ _; exact Nat.le_of_eq rfl) (hb hby d14_19) (fun _ _ => ⟨rfl, e0, (by decide : 0 + 0 ≤ _), (by decide : 0 + 0 ≤ _)⟩)
  dsimp only [Pt.U, Pt.locs, Pt.cells, Pt.slots] at X61 l61 y61 z61 st61 hQ61
  subst l61 y61 z61
  obtain ⟨rfl, Nq61, hh61⟩ := hQ61
  have N61 := Fr.app N0 Nq61
  refine Ends.step st61 ?_
  show Ends p e below QQ (T61.setTop (mkF m 22 #[.val (.ref o0), .val (.int (1 : Int32)), .val (.long q2), .second] [(.long (1 : Int64)), (.long q2), (.ref o0)]))
  obtain ⟨_, _, ⟨T62, L62, k62, n62⟩, -, X62, ⟨Lc62, hQ62, l62, y62, z62⟩, st62⟩ := Jvm.LawKit.callS X61 hx (y := (⟨"java/lang/Math", "min", "(JJ)J"⟩ : MethodName)) hown (mvT hZ (hw _ (List.mem_of_getElem? (i := 107) rfl))) (mvT hZ (hw _ (List.mem_of_getElem? (i := 108) rfl))) (mvT hZ (hw _ (List.mem_of_getElem? (i := 109) rfl))) (mvT hZ (hw _ (List.mem_of_getElem? (i := 110) rfl))) (by decide) (backOf (W := 1) (rmmnb l Z a0 hw [] q2 (1 : Int64) h0 n0 (Nat.le_trans Z0 (Keep.refl h0 []).1) hq) hZ (hw _ (List.mem_of_getElem? (i := 110) rfl)) (hw _ (List.mem_of_getElem? (i := 109) rfl)) (by decide) (by decide)) (g := (mkF m 22 #[.val (.ref o0), .val (.int (1 : Int32)), .val (.long q2), .second] [(.long (1 : Int64)), (.long q2), (.ref o0)])) rfl (by rw [hml]; rfl) (argsL := [(.long q2), (.long (1 : Int64))]) (rest := [(.ref o0)]) (lenOf pd_3 rfl) rfl (by show 2 * 0 + _ ≤ _; exact Nat.le_of_eq rfl) (hb hby d14_22) (fun _ _ => ⟨rfl, hh61, (by decide : 0 + 0 ≤ _), (by decide : 0 + 0 ≤ _)⟩)
  dsimp only [Pt.U, Pt.locs, Pt.cells, Pt.slots] at X62 l62 y62 z62 st62 hQ62
  subst l62 y62 z62
  obtain ⟨rfl, Nq62, hh62⟩ := hQ62
  have N62 := Fr.app N61 Nq62
  refine Ends.step st62 ?_
  show Ends p e below QQ (T62.setTop (mkF m 25 #[.val (.ref o0), .val (.int (1 : Int32)), .val (.long q2), .second] [(.long (1 : Int64)), (.ref o0)]))
  refine Ends.step (fun _ k => XT.l2i X62.here hx rfl (hb hby d14_25) rfl k) ?_
  show Ends p e below QQ (T62.setTop (mkF m 26 #[.val (.ref o0), .val (.int (1 : Int32)), .val (.long q2), .second] [(.int (1 : Int32)), (.ref o0)]))
  obtain ⟨_, _, ⟨T63, L63, k63, n63⟩, -, X63, ⟨Lc63, hQ63, l63, y63, z63⟩, st63⟩ := Jvm.LawKit.callS X62 hx (y := (⟨"java/util/Arrays", "copyOf", "([BI)[B"⟩ : MethodName)) hown (mvT hZ (hw _ (List.mem_of_getElem? (i := 173) rfl))) (mvT hZ (hw _ (List.mem_of_getElem? (i := 174) rfl))) (mvT hZ (hw _ (List.mem_of_getElem? (i := 175) rfl))) (mvT hZ (hw _ (List.mem_of_getElem? (i := 176) rfl))) (by decide) (backOf (W := 0) (rmcpo l Z a0 hw [] o0 k h0 n0 (Nat.le_trans Z0 (Keep.refl h0 []).1) A_o0) hZ (hw _ (List.mem_of_getElem? (i := 176) rfl)) (hw _ (List.mem_of_getElem? (i := 175) rfl)) (by decide) (by decide)) (g := (mkF m 26 #[.val (.ref o0), .val (.int (1 : Int32)), .val (.long q2), .second] [(.int (1 : Int32)), (.ref o0)])) rfl (by rw [hml]; rfl) (argsL := [(.ref o0), (.int (1 : Int32))]) (rest := []) (lenOf pd_4 rfl) rfl (by show 2 * 0 + _ ≤ _; exact Nat.le_of_eq rfl) (hb hby d14_26) (fun _ _ => ⟨rfl, hh62, (by decide : 0 + 1 ≤ _), (by decide : 0 + 1 ≤ _)⟩)
  dsimp only [Pt.U, Pt.locs, Pt.cells, Pt.slots] at X63 l63 y63 z63 st63 hQ63
  subst l63 y63 z63
  obtain ⟨b_63, kb_63, rfl, Nq63, Kq63, fq63_0, fq63_1, fq63_2⟩ := hQ63
  have N63 := Fr.app N62 Nq63
  have ne_o0_b_63 : o0 ≠ b_63 := Nat.ne_of_lt (Nat.lt_of_lt_of_le A_o0.lt fq63_0)
  have sz_b_63 := Nat.le_trans (Keep.refl h0 []).1 fq63_0
  have A_o0 := A_o0.keep Kq63 nin0
  have g_b_63 := fq63_1
  have A_b_63 := fq63_2
  have K63 := (Keep.refl h0 []).trans Kq63 all0
  refine Ends.step st63 ?_
  show Ends p e below QQ (T63.setTop (mkF m 29 #[.val (.ref o0), .val (.int (1 : Int32)), .val (.long q2), .second] [(.ref b_63)]))
  exact Ends.fin (some (.ref b_63)) X63 hQQ (fun h => by rw [Bd.returns] at h; cases h) Bd.notSynchronized (fun _ hr => retOut X63 hx (t := (.array .byte)) Bd.returns rfl (Or.inr (Or.inr (Or.inr (Or.inr ⟨rfl, rfl, rfl⟩)))) (hb hby d14_29) hr) rfl (by decide) (by decide) ⟨b_63, kb_63, rfl, N63, K63, sz_b_63, g_b_63, A_b_63⟩
theorem d16_0 : decode jdk_37_method_2_code 0 = .ok (.aload_n 0, 1) := by decide +kernel
theorem d16_1 : decode jdk_37_method_2_code 1 = .ok (.getfield 7, 3) := by decide +kernel
theorem d16_4 : decode jdk_37_method_2_code 4 = .ok (.ireturn, 1) := by decide +kernel
theorem ef_ord (m : MethodId) (x0 : Addr) : entryFrame m #[(.ref x0)] 1 = mkF m 0 #[.val (.ref x0)] [] := by first | (simp [entryFrame, mkF, argsToLocals, Value.category]; done) | rfl
def Qord (Z : State) (o0 : Addr) (u : Int32) (h0 : Heap) (n0 : Nat) (v : Option Value) (h : Heap) (L : List Loc) : Prop := (v = some (.int u)) ∧ (Fr n0 L) ∧ (h = h0)
set_option maxRecDepth 65536 in
set_option maxHeartbeats 40000000 in
theorem rmord (l : Launch) (Z : State) (a0 : Array Value) (hw : ∀ d ∈ tables_1, d.before a0 Z = true) (ws : List Jvm.Cond) (o0 : Addr) (u : Int32) (h0 : Heap) (n0 : Nat) (Z0 : n0 ≤ h0.size) (F_ordinal_o0 : Fld Z h0 o0 "java/lang/Enum" "ordinal" "I" (.int u)) :
    MetFree l (⟨"java/lang/Enum", "ordinal", "()I"⟩ : MethodName) (head1 (Jvm.Cond.code (⟨"java/lang/Enum", "ordinal", "()I"⟩ : MethodName) jdk_37_method_2_code 1 (some .int) :: ws) ({ frames := 0, cells := 0, slots := 0, locals := 0 } : Room)) (fun a U => a = #[(.ref o0)] ∧ Z.Warmed39 U.vm ∧ U.heap = h0) (fun _ _ _ _ _ => True) (fun _ U o U' => ∃ v L, o = .returned v ∧ Qord Z o0 u h0 n0 v U'.heap L ∧ FrameEnd U o U' L ({ frames := 0, cells := 0, slots := 0, locals := 0 } : Room).cells ({ frames := 0, cells := 0, slots := 0, locals := 0 } : Room).slots) := by
  refine MetFree.of_bodySF (plainFor_of_name pn_7) hisR ?_
  intro p e s m args below meth c s₁ Bd hml0 hP hK
  obtain ⟨rfl, hZ, hh⟩ := hP
  have hx := Bd.exec
  have hby := Bd.bytes
  have hml : c.maxLocals = 1 := hml0
  have hown : s.vm.findClass "java/lang/Enum" = some m.cls := findClass_of_methodNamed Bd.named
  have hnm := (name_of_methodNamed Bd.named Bd.method).1
  have X0 : Stand p l e ({ frames := 0, cells := 0, slots := 0, locals := 0 } : Room) s m #[(.ref o0)] below meth c s₁ [] 0 0 := Stand.of_body Bd
  have e0 : s₁.heap = h0 := by rw [← hh, Bd.state]; rfl
  have N0 := Fr.nil n0
  refine Ends.opn ?_
  intro QQ hQQ
  refine Ends.step (S' := s₁.setTop (mkF m 0 #[.val (.ref o0)] [])) (fun t k => castTop (ef_ord m o0) k) ?_
  show Ends p e below QQ (s₁.setTop (mkF m 0 #[.val (.ref o0)] []))
  refine Ends.step (fun _ k => XS.aloadN X0.here hx rfl (hb hby d16_0) rfl rfl k) ?_
  show Ends p e below QQ (s₁.setTop (mkF m 1 #[.val (.ref o0)] [(.ref o0)]))
  obtain ⟨T64, X64, e64, st64⟩ := getF X0 hx hZ hown (host := "") (Or.inl (hw _ (List.mem_of_getElem? (i := 131) rfl))) Via.refl e0 F_ordinal_o0 (g := (mkF m 1 #[.val (.ref o0)] [(.ref o0)])) rfl rfl (hb hby d16_1)
  refine Ends.step st64 ?_
  show Ends p e below QQ (T64.setTop (mkF m 4 #[.val (.ref o0)] [(.int u)]))
  exact Ends.fin (some (.int u)) X64 hQQ (fun h => by rw [Bd.returns] at h; cases h) Bd.notSynchronized (fun _ hr => retOut X64 hx (t := .int) Bd.returns rfl (Or.inl ⟨rfl, Or.inl rfl, _, rfl⟩) (hb hby d16_4) hr) e64 (by decide) (by decide) ⟨rfl, N0, rfl⟩
theorem d18_0 : decode jdk_68_method_6_code 0 = .ok (.aload_n 0, 1) := by decide +kernel
theorem d18_1 : decode jdk_68_method_6_code 1 = .ok (.getfield 79, 3) := by decide +kernel
theorem d18_4 : decode jdk_68_method_6_code 4 = .ok (.ireturn, 1) := by decide +kernel
theorem ef_asl (m : MethodId) (x0 : Addr) : entryFrame m #[(.ref x0)] 1 = mkF m 0 #[.val (.ref x0)] [] := by first | (simp [entryFrame, mkF, argsToLocals, Value.category]; done) | rfl
def Qasl (Z : State) (o0 : Addr) (u : Int32) (h0 : Heap) (n0 : Nat) (v : Option Value) (h : Heap) (L : List Loc) : Prop := (v = some (.int u)) ∧ (Fr n0 L) ∧ (h = h0)
set_option maxRecDepth 65536 in
set_option maxHeartbeats 40000000 in
theorem rmasl (l : Launch) (Z : State) (a0 : Array Value) (hw : ∀ d ∈ tables_1, d.before a0 Z = true) (ws : List Jvm.Cond) (o0 : Addr) (u : Int32) (h0 : Heap) (n0 : Nat) (Z0 : n0 ≤ h0.size) (F_count_o0 : Fld Z h0 o0 "java/lang/AbstractStringBuilder" "count" "I" (.int u)) :
    MetFree l (⟨"java/lang/AbstractStringBuilder", "length", "()I"⟩ : MethodName) (head1 (Jvm.Cond.code (⟨"java/lang/AbstractStringBuilder", "length", "()I"⟩ : MethodName) jdk_68_method_6_code 1 (some .int) :: ws) ({ frames := 0, cells := 0, slots := 0, locals := 0 } : Room)) (fun a U => a = #[(.ref o0)] ∧ Z.Warmed39 U.vm ∧ U.heap = h0) (fun _ _ _ _ _ => True) (fun _ U o U' => ∃ v L, o = .returned v ∧ Qasl Z o0 u h0 n0 v U'.heap L ∧ FrameEnd U o U' L ({ frames := 0, cells := 0, slots := 0, locals := 0 } : Room).cells ({ frames := 0, cells := 0, slots := 0, locals := 0 } : Room).slots) := by
  refine MetFree.of_bodySF (plainFor_of_name pn_2) hisR ?_
  intro p e s m args below meth c s₁ Bd hml0 hP hK
  obtain ⟨rfl, hZ, hh⟩ := hP
  have hx := Bd.exec
  have hby := Bd.bytes
  have hml : c.maxLocals = 1 := hml0
  have hown : s.vm.findClass "java/lang/AbstractStringBuilder" = some m.cls := findClass_of_methodNamed Bd.named
  have hnm := (name_of_methodNamed Bd.named Bd.method).1
  have X0 : Stand p l e ({ frames := 0, cells := 0, slots := 0, locals := 0 } : Room) s m #[(.ref o0)] below meth c s₁ [] 0 0 := Stand.of_body Bd
  have e0 : s₁.heap = h0 := by rw [← hh, Bd.state]; rfl
  have N0 := Fr.nil n0
  refine Ends.opn ?_
  intro QQ hQQ
  refine Ends.step (S' := s₁.setTop (mkF m 0 #[.val (.ref o0)] [])) (fun t k => castTop (ef_asl m o0) k) ?_
  show Ends p e below QQ (s₁.setTop (mkF m 0 #[.val (.ref o0)] []))
  refine Ends.step (fun _ k => XS.aloadN X0.here hx rfl (hb hby d18_0) rfl rfl k) ?_
  show Ends p e below QQ (s₁.setTop (mkF m 1 #[.val (.ref o0)] [(.ref o0)]))
  obtain ⟨T65, X65, e65, st65⟩ := getF X0 hx hZ hown (host := "") (Or.inl (hw _ (List.mem_of_getElem? (i := 143) rfl))) Via.refl e0 F_count_o0 (g := (mkF m 1 #[.val (.ref o0)] [(.ref o0)])) rfl rfl (hb hby d18_1)
  refine Ends.step st65 ?_
  show Ends p e below QQ (T65.setTop (mkF m 4 #[.val (.ref o0)] [(.int u)]))
  exact Ends.fin (some (.int u)) X65 hQQ (fun h => by rw [Bd.returns] at h; cases h) Bd.notSynchronized (fun _ hr => retOut X65 hx (t := .int) Bd.returns rfl (Or.inl ⟨rfl, Or.inl rfl, _, rfl⟩) (hb hby d18_4) hr) e65 (by decide) (by decide) ⟨rfl, N0, rfl⟩
theorem d17_0 : decode jdk_67_method_93_code 0 = .ok (.aload_n 0, 1) := by decide +kernel
theorem d17_1 : decode jdk_67_method_93_code 1 = .ok (.invokespecial 343, 3) := by decide +kernel
theorem d17_4 : decode jdk_67_method_93_code 4 = .ok (.ireturn, 1) := by decide +kernel
theorem ef_sbl (m : MethodId) (x0 : Addr) : entryFrame m #[(.ref x0)] 1 = mkF m 0 #[.val (.ref x0)] [] := by first | (simp [entryFrame, mkF, argsToLocals, Value.category]; done) | rfl
def Qsbl (Z : State) (o0 : Addr) (u : Int32) (h0 : Heap) (n0 : Nat) (v : Option Value) (h : Heap) (L : List Loc) : Prop := (v = some (.int u)) ∧ (Fr n0 L) ∧ (h = h0)
set_option maxRecDepth 65536 in
set_option maxHeartbeats 40000000 in
theorem rmsbl (l : Launch) (Z : State) (a0 : Array Value) (hw : ∀ d ∈ tables_1, d.before a0 Z = true) (ws : List Jvm.Cond) (o0 : Addr) (u : Int32) (h0 : Heap) (n0 : Nat) (Z0 : n0 ≤ h0.size) (E_o0 : Exa Z h0 o0 "java/lang/StringBuilder") (F_count_o0 : Fld Z h0 o0 "java/lang/AbstractStringBuilder" "count" "I" (.int u)) :
    MetFree l (⟨"java/lang/StringBuilder", "length", "()I"⟩ : MethodName) (head1 (Jvm.Cond.code (⟨"java/lang/StringBuilder", "length", "()I"⟩ : MethodName) jdk_67_method_93_code 1 (some .int) :: ws) ({ frames := 1, cells := 0, slots := 0, locals := 12 } : Room)) (fun a U => a = #[(.ref o0)] ∧ Z.Warmed39 U.vm ∧ U.heap = h0) (fun _ _ _ _ _ => True) (fun _ U o U' => ∃ v L, o = .returned v ∧ Qsbl Z o0 u h0 n0 v U'.heap L ∧ FrameEnd U o U' L ({ frames := 1, cells := 0, slots := 0, locals := 12 } : Room).cells ({ frames := 1, cells := 0, slots := 0, locals := 12 } : Room).slots) := by
  refine MetFree.of_bodySF (plainFor_of_name pn_3) hisR ?_
  intro p e s m args below meth c s₁ Bd hml0 hP hK
  obtain ⟨rfl, hZ, hh⟩ := hP
  have hx := Bd.exec
  have hby := Bd.bytes
  have hml : c.maxLocals = 1 := hml0
  have hown : s.vm.findClass "java/lang/StringBuilder" = some m.cls := findClass_of_methodNamed Bd.named
  have hnm := (name_of_methodNamed Bd.named Bd.method).1
  have X0 : Stand p l e ({ frames := 1, cells := 0, slots := 0, locals := 12 } : Room) s m #[(.ref o0)] below meth c s₁ [] 0 0 := Stand.of_body Bd
  have e0 : s₁.heap = h0 := by rw [← hh, Bd.state]; rfl
  have N0 := Fr.nil n0
  refine Ends.opn ?_
  intro QQ hQQ
  refine Ends.step (S' := s₁.setTop (mkF m 0 #[.val (.ref o0)] [])) (fun t k => castTop (ef_sbl m o0) k) ?_
  show Ends p e below QQ (s₁.setTop (mkF m 0 #[.val (.ref o0)] []))
  refine Ends.step (fun _ k => XS.aloadN X0.here hx rfl (hb hby d17_0) rfl rfl k) ?_
  show Ends p e below QQ (s₁.setTop (mkF m 1 #[.val (.ref o0)] [(.ref o0)]))
  obtain ⟨_, _, ⟨T66, L66, k66, n66⟩, -, X66, ⟨Lc66, hQ66, l66, y66, z66⟩, st66⟩ := superBack X0 hx hZ (y := (⟨"java/lang/AbstractStringBuilder", "length", "()I"⟩ : MethodName)) hown (hw _ (List.mem_of_getElem? (i := 138) rfl)) (own_same (hw _ (List.mem_of_getElem? (i := 139) rfl)) (by decide) (hw _ (List.mem_of_getElem? (i := 157) rfl)) rfl) (hw _ (List.mem_of_getElem? (i := 139) rfl)) (hw _ (List.mem_of_getElem? (i := 140) rfl)) (by decide) (backOf (W := 0) (rmasl l Z a0 hw [] o0 u h0 n0 (Nat.le_trans Z0 (Keep.refl h0 []).1) F_count_o0) hZ (hw _ (List.mem_of_getElem? (i := 142) rfl)) (hw _ (List.mem_of_getElem? (i := 59) rfl)) (by decide) (by decide)) e0 (Ins.self E_o0) (g := (mkF m 1 #[.val (.ref o0)] [(.ref o0)])) rfl (by rw [hml]; rfl) (hw _ (List.mem_of_getElem? (i := 142) rfl)) (argsL := []) (rest := []) (lenOf pd_5 rfl) rfl (by show 2 * 0 + _ ≤ _; exact Nat.le_of_eq rfl) (hb hby d17_1) (fun _ _ => ⟨rfl, e0, (by decide : 0 + 0 ≤ _), (by decide : 0 + 0 ≤ _)⟩)
  dsimp only [Pt.U, Pt.locs, Pt.cells, Pt.slots] at X66 l66 y66 z66 st66 hQ66
  subst l66 y66 z66
  obtain ⟨rfl, Nq66, hh66⟩ := hQ66
  have N66 := Fr.app N0 Nq66
  refine Ends.step (fun _ k => st66.trans k) ?_
  show Ends p e below QQ (T66.setTop (mkF m 4 #[.val (.ref o0)] [(.int u)]))
  exact Ends.fin (some (.int u)) X66 hQQ (fun h => by rw [Bd.returns] at h; cases h) Bd.notSynchronized (fun _ hr => retOut X66 hx (t := .int) Bd.returns rfl (Or.inl ⟨rfl, Or.inl rfl, _, rfl⟩) (hb hby d17_4) hr) hh66 (by decide) (by decide) ⟨rfl, N66, rfl⟩
theorem d22_0 : decode jdk_68_method_68_code 0 = .ok (.getstatic 18, 3) := by decide +kernel
theorem d22_3 : decode jdk_68_method_68_code 3 = .ok (.ifCond .eq 14, 3) := by decide +kernel
theorem d22_6 : decode jdk_68_method_68_code 6 = .ok (.aload_n 0, 1) := by decide +kernel
theorem d22_7 : decode jdk_68_method_68_code 7 = .ok (.getfield 22, 3) := by decide +kernel
theorem d22_10 : decode jdk_68_method_68_code 10 = .ok (.ifCond .ne 7, 3) := by decide +kernel
theorem d22_13 : decode jdk_68_method_68_code 13 = .ok (.iconst 1, 1) := by decide +kernel
theorem d22_14 : decode jdk_68_method_68_code 14 = .ok (.goto 4, 3) := by decide +kernel
theorem d22_18 : decode jdk_68_method_68_code 18 = .ok (.ireturn, 1) := by decide +kernel
theorem ef_asi (m : MethodId) (x0 : Addr) : entryFrame m #[(.ref x0)] 1 = mkF m 0 #[.val (.ref x0)] [] := by first | (simp [entryFrame, mkF, argsToLocals, Value.category]; done) | rfl
def Qasi (Z : State) (o0 : Addr) (cs : Int32) (h0 : Heap) (n0 : Nat) (v : Option Value) (h : Heap) (L : List Loc) : Prop := (v = some (.int (1 : Int32))) ∧ (Fr n0 L) ∧ (h = h0)
set_option maxRecDepth 65536 in
set_option maxHeartbeats 40000000 in
theorem rmasi (l : Launch) (Z : State) (a0 : Array Value) (hw : ∀ d ∈ tables_1, d.before a0 Z = true) (ws : List Jvm.Cond) (o0 : Addr) (cs : Int32) (h0 : Heap) (n0 : Nat) (Z0 : n0 ≤ h0.size) (S_COMPACT_STRINGS : Sta Z h0 "java/lang/String" "COMPACT_STRINGS" "Z" (.int cs)) (hcs : ¬ cs = (0 : Int32)) (F_coder_o0 : Fld Z h0 o0 "java/lang/AbstractStringBuilder" "coder" "B" (.int (0 : Int32))) :
    MetFree l (⟨"java/lang/AbstractStringBuilder", "isLatin1", "()Z"⟩ : MethodName) (head1 (Jvm.Cond.code (⟨"java/lang/AbstractStringBuilder", "isLatin1", "()Z"⟩ : MethodName) jdk_68_method_68_code 1 (some .boolean) :: ws) ({ frames := 0, cells := 0, slots := 0, locals := 0 } : Room)) (fun a U => a = #[(.ref o0)] ∧ Z.Warmed39 U.vm ∧ U.heap = h0) (fun _ _ _ _ _ => True) (fun _ U o U' => ∃ v L, o = .returned v ∧ Qasi Z o0 cs h0 n0 v U'.heap L ∧ FrameEnd U o U' L ({ frames := 0, cells := 0, slots := 0, locals := 0 } : Room).cells ({ frames := 0, cells := 0, slots := 0, locals := 0 } : Room).slots) := by
  refine MetFree.of_bodySF (plainFor_of_name pn_2) hisR ?_
  intro p e s m args below meth c s₁ Bd hml0 hP hK
  obtain ⟨rfl, hZ, hh⟩ := hP
  have hx := Bd.exec
  have hby := Bd.bytes
  have hml : c.maxLocals = 1 := hml0
  have hown : s.vm.findClass "java/lang/AbstractStringBuilder" = some m.cls := findClass_of_methodNamed Bd.named
  have hnm := (name_of_methodNamed Bd.named Bd.method).1
  have X0 : Stand p l e ({ frames := 0, cells := 0, slots := 0, locals := 0 } : Room) s m #[(.ref o0)] below meth c s₁ [] 0 0 := Stand.of_body Bd
  have e0 : s₁.heap = h0 := by rw [← hh, Bd.state]; rfl
  have N0 := Fr.nil n0
  refine Ends.opn ?_
  intro QQ hQQ
  refine Ends.step (S' := s₁.setTop (mkF m 0 #[.val (.ref o0)] [])) (fun t k => castTop (ef_asi m o0) k) ?_
  show Ends p e below QQ (s₁.setTop (mkF m 0 #[.val (.ref o0)] []))
  obtain ⟨T67, X67, e67, st67⟩ := getS2 X0 hx hZ hown (host := "") (Or.inl (hw _ (List.mem_of_getElem? (i := 62) rfl))) Via.refl e0 S_COMPACT_STRINGS (g := (mkF m 0 #[.val (.ref o0)] [])) rfl (hb hby d22_0)
  refine Ends.step st67 ?_
  show Ends p e below QQ (T67.setTop (mkF m 3 #[.val (.ref o0)] [(.int cs)]))
  have hc3 : ¬ (cs = (0 : Int32)) := hcs
  refine Ends.step (fun _ k => XS.ifNo X67.here hx rfl (hb hby d22_3) rfl (XT.i0_eq_f hc3) k) ?_
  show Ends p e below QQ (T67.setTop (mkF m 6 #[.val (.ref o0)] []))
  refine Ends.step (fun _ k => XS.aloadN X67.here hx rfl (hb hby d22_6) rfl rfl k) ?_
  show Ends p e below QQ (T67.setTop (mkF m 7 #[.val (.ref o0)] [(.ref o0)]))
  obtain ⟨T68, X68, e68, st68⟩ := getF X67 hx hZ hown (host := "") (Or.inl (hw _ (List.mem_of_getElem? (i := 66) rfl))) Via.refl e67 F_coder_o0 (g := (mkF m 7 #[.val (.ref o0)] [(.ref o0)])) rfl rfl (hb hby d22_7)
  refine Ends.step st68 ?_
  show Ends p e below QQ (T68.setTop (mkF m 10 #[.val (.ref o0)] [(.int (0 : Int32))]))
  refine Ends.step (fun _ k => XS.ifNo X68.here hx rfl (hb hby d22_10) rfl (XT.i0_ne_f (by decide)) k) ?_
  show Ends p e below QQ (T68.setTop (mkF m 13 #[.val (.ref o0)] []))
  refine Ends.step (fun _ k => XT.iconstV X68.here hx rfl (1 : Int32) (hb hby d22_13) rfl k) ?_
  show Ends p e below QQ (T68.setTop (mkF m 14 #[.val (.ref o0)] [(.int (1 : Int32))]))
  refine Ends.step (fun _ k => XS.goto X68.here hx rfl (pc0 := 14) (pc' := 18) rfl (hb hby d22_14) (by decide) (by decide) k) ?_
  show Ends p e below QQ (T68.setTop (mkF m 18 #[.val (.ref o0)] [(.int (1 : Int32))]))
  exact Ends.fin (some (.int (1 : Int32))) X68 hQQ (fun h => by rw [Bd.returns] at h; cases h) Bd.notSynchronized (fun _ hr => retOut X68 hx (t := .boolean) Bd.returns rfl (Or.inl ⟨rfl, (by simp), _, rfl⟩) (hb hby d22_18) hr) e68 (by decide) (by decide) ⟨rfl, N0, rfl⟩
theorem d23_0 : decode jdk_43_method_3_code 0 = .ok (.iload_n 0, 1) := by decide +kernel
theorem d23_1 : decode jdk_43_method_3_code 1 = .ok (.sipush 255, 3) := by decide +kernel
theorem d23_4 : decode jdk_43_method_3_code 4 = .ok (.if_icmp .gt 7, 3) := by decide +kernel
theorem d23_7 : decode jdk_43_method_3_code 7 = .ok (.iconst 1, 1) := by decide +kernel
theorem d23_8 : decode jdk_43_method_3_code 8 = .ok (.goto 4, 3) := by decide +kernel
theorem d23_12 : decode jdk_43_method_3_code 12 = .ok (.ireturn, 1) := by decide +kernel
theorem ef_can (m : MethodId) (x0 : Int32) : entryFrame m #[(.int x0)] 1 = mkF m 0 #[.val (.int x0)] [] := by first | (simp [entryFrame, mkF, argsToLocals, Value.category]; done) | rfl
def Qcan (Z : State) (p0 : Int32) (h0 : Heap) (n0 : Nat) (v : Option Value) (h : Heap) (L : List Loc) : Prop := (v = some (.int (1 : Int32))) ∧ (Fr n0 L) ∧ (h = h0)
set_option maxRecDepth 65536 in
set_option maxHeartbeats 40000000 in
theorem rmcan (l : Launch) (Z : State) (a0 : Array Value) (hw : ∀ d ∈ tables_1, d.before a0 Z = true) (ws : List Jvm.Cond) (p0 : Int32) (h0 : Heap) (n0 : Nat) (Z0 : n0 ≤ h0.size) (hc : ¬ (255 : Int32) < p0) :
    MetFree l (⟨"java/lang/StringLatin1", "canEncode", "(C)Z"⟩ : MethodName) (head1 (Jvm.Cond.code (⟨"java/lang/StringLatin1", "canEncode", "(C)Z"⟩ : MethodName) jdk_43_method_3_code 1 (some .boolean) :: ws) ({ frames := 0, cells := 0, slots := 0, locals := 0 } : Room)) (fun a U => a = #[(.int p0)] ∧ Z.Warmed39 U.vm ∧ U.heap = h0) (fun _ _ _ _ _ => True) (fun _ U o U' => ∃ v L, o = .returned v ∧ Qcan Z p0 h0 n0 v U'.heap L ∧ FrameEnd U o U' L ({ frames := 0, cells := 0, slots := 0, locals := 0 } : Room).cells ({ frames := 0, cells := 0, slots := 0, locals := 0 } : Room).slots) := by
  refine MetFree.of_bodySF (plainFor_of_name pn_8) hisR ?_
  intro p e s m args below meth c s₁ Bd hml0 hP hK
  obtain ⟨rfl, hZ, hh⟩ := hP
  have hx := Bd.exec
  have hby := Bd.bytes
  have hml : c.maxLocals = 1 := hml0
  have hown : s.vm.findClass "java/lang/StringLatin1" = some m.cls := findClass_of_methodNamed Bd.named
  have hnm := (name_of_methodNamed Bd.named Bd.method).1
  have X0 : Stand p l e ({ frames := 0, cells := 0, slots := 0, locals := 0 } : Room) s m #[(.int p0)] below meth c s₁ [] 0 0 := Stand.of_body Bd
  have e0 : s₁.heap = h0 := by rw [← hh, Bd.state]; rfl
  have N0 := Fr.nil n0
  refine Ends.opn ?_
  intro QQ hQQ
  refine Ends.step (S' := s₁.setTop (mkF m 0 #[.val (.int p0)] [])) (fun t k => castTop (ef_can m p0) k) ?_
  show Ends p e below QQ (s₁.setTop (mkF m 0 #[.val (.int p0)] []))
  refine Ends.step (fun _ k => XS.iloadN X0.here hx rfl (hb hby d23_0) rfl k) ?_
  show Ends p e below QQ (s₁.setTop (mkF m 1 #[.val (.int p0)] [(.int p0)]))
  refine Ends.step (fun _ k => XT.sipushV X0.here hx rfl (255 : Int32) (hb hby d23_1) rfl k) ?_
  show Ends p e below QQ (s₁.setTop (mkF m 4 #[.val (.int p0)] [(.int (255 : Int32)), (.int p0)]))
  have hc4 : ¬ ((255 : Int32) < p0) := hc
  refine Ends.step (fun _ k => XS.icmpNo X0.here hx rfl (hb hby d23_4) rfl (XT.ii_gt_f hc4) k) ?_
  show Ends p e below QQ (s₁.setTop (mkF m 7 #[.val (.int p0)] []))
  refine Ends.step (fun _ k => XT.iconstV X0.here hx rfl (1 : Int32) (hb hby d23_7) rfl k) ?_
  show Ends p e below QQ (s₁.setTop (mkF m 8 #[.val (.int p0)] [(.int (1 : Int32))]))
  refine Ends.step (fun _ k => XS.goto X0.here hx rfl (pc0 := 8) (pc' := 12) rfl (hb hby d23_8) (by decide) (by decide) k) ?_
  show Ends p e below QQ (s₁.setTop (mkF m 12 #[.val (.int p0)] [(.int (1 : Int32))]))
  exact Ends.fin (some (.int (1 : Int32))) X0 hQQ (fun h => by rw [Bd.returns] at h; cases h) Bd.notSynchronized (fun _ hr => retOut X0 hx (t := .boolean) Bd.returns rfl (Or.inl ⟨rfl, (by simp), _, rfl⟩) (hb hby d23_12) hr) e0 (by decide) (by decide) ⟨rfl, N0, rfl⟩
theorem d21_0 : decode jdk_68_method_9_code 0 = .ok (.aload_n 0, 1) := by decide +kernel
theorem d21_1 : decode jdk_68_method_9_code 1 = .ok (.getfield 15, 3) := by decide +kernel
theorem d21_4 : decode jdk_68_method_9_code 4 = .ok (.arraylength, 1) := by decide +kernel
theorem d21_5 : decode jdk_68_method_9_code 5 = .ok (.aload_n 0, 1) := by decide +kernel
theorem d21_6 : decode jdk_68_method_9_code 6 = .ok (.getfield 22, 3) := by decide +kernel
theorem d21_9 : decode jdk_68_method_9_code 9 = .ok (.ishr, 1) := by decide +kernel
theorem d21_10 : decode jdk_68_method_9_code 10 = .ok (.istore_n 2, 1) := by decide +kernel
theorem d21_11 : decode jdk_68_method_9_code 11 = .ok (.iload_n 1, 1) := by decide +kernel
theorem d21_12 : decode jdk_68_method_9_code 12 = .ok (.iload_n 2, 1) := by decide +kernel
theorem d21_13 : decode jdk_68_method_9_code 13 = .ok (.isub, 1) := by decide +kernel
theorem d21_14 : decode jdk_68_method_9_code 14 = .ok (.ifCond .le 24, 3) := by decide +kernel
theorem d21_38 : decode jdk_68_method_9_code 38 = .ok (.return_, 1) := by decide +kernel
theorem ef_ens (m : MethodId) (x0 : Addr) : entryFrame m #[(.ref x0), (.int (1 : Int32))] 3 = mkF m 0 #[.val (.ref x0), .val (.int (1 : Int32)), .unset] [] := by first | (simp [entryFrame, mkF, argsToLocals, Value.category]; done) | rfl
def Qens (Z : State) (o0 : Addr) (vb : Addr) (kb : ClassId) (h0 : Heap) (n0 : Nat) (v : Option Value) (h : Heap) (L : List Loc) : Prop := (v = none) ∧ (Fr n0 L) ∧ (h = h0)
set_option maxRecDepth 65536 in
set_option maxHeartbeats 40000000 in
theorem rmens (l : Launch) (Z : State) (a0 : Array Value) (hw : ∀ d ∈ tables_1, d.before a0 Z = true) (ws : List Jvm.Cond) (o0 : Addr) (vb : Addr) (kb : ClassId) (h0 : Heap) (n0 : Nat) (Z0 : n0 ≤ h0.size) (F_value_o0 : Fld Z h0 o0 "java/lang/AbstractStringBuilder" "value" "[B" (.ref vb)) (F_coder_o0 : Fld Z h0 o0 "java/lang/AbstractStringBuilder" "coder" "B" (.int (0 : Int32))) (A_vb : Arv Z h0 vb kb .byte (16 : Int32) [(.int (0 : Int32)), (.int (0 : Int32)), (.int (0 : Int32)), (.int (0 : Int32)), (.int (0 : Int32)), (.int (0 : Int32)), (.int (0 : Int32)), (.int (0 : Int32)), (.int (0 : Int32)), (.int (0 : Int32)), (.int (0 : Int32)), (.int (0 : Int32)), (.int (0 : Int32)), (.int (0 : Int32)), (.int (0 : Int32)), (.int (0 : Int32))] (.int (0 : Int32))) :
    MetFree l (⟨"java/lang/AbstractStringBuilder", "ensureCapacityInternal", "(I)V"⟩ : MethodName) (head1 (Jvm.Cond.code (⟨"java/lang/AbstractStringBuilder", "ensureCapacityInternal", "(I)V"⟩ : MethodName) jdk_68_method_9_code 3 none :: ws) ({ frames := 0, cells := 0, slots := 0, locals := 0 } : Room)) (fun a U => a = #[(.ref o0), (.int (1 : Int32))] ∧ Z.Warmed39 U.vm ∧ U.heap = h0) (fun _ _ _ _ _ => True) (fun _ U o U' => ∃ v L, o = .returned v ∧ Qens Z o0 vb kb h0 n0 v U'.heap L ∧ FrameEnd U o U' L ({ frames := 0, cells := 0, slots := 0, locals := 0 } : Room).cells ({ frames := 0, cells := 0, slots := 0, locals := 0 } : Room).slots) := by
  refine MetFree.of_bodySF (plainFor_of_name pn_2) hisR ?_
  intro p e s m args below meth c s₁ Bd hml0 hP hK
  obtain ⟨rfl, hZ, hh⟩ := hP
  have hx := Bd.exec
  have hby := Bd.bytes
  have hml : c.maxLocals = 3 := hml0
  have hown : s.vm.findClass "java/lang/AbstractStringBuilder" = some m.cls := findClass_of_methodNamed Bd.named
  have hnm := (name_of_methodNamed Bd.named Bd.method).1
  have X0 : Stand p l e ({ frames := 0, cells := 0, slots := 0, locals := 0 } : Room) s m #[(.ref o0), (.int (1 : Int32))] below meth c s₁ [] 0 0 := Stand.of_body Bd
  have e0 : s₁.heap = h0 := by rw [← hh, Bd.state]; rfl
  have N0 := Fr.nil n0
  refine Ends.opn ?_
  intro QQ hQQ
  refine Ends.step (S' := s₁.setTop (mkF m 0 #[.val (.ref o0), .val (.int (1 : Int32)), .unset] [])) (fun t k => castTop (ef_ens m o0) k) ?_
  show Ends p e below QQ (s₁.setTop (mkF m 0 #[.val (.ref o0), .val (.int (1 : Int32)), .unset] []))
  refine Ends.step (fun _ k => XS.aloadN X0.here hx rfl (hb hby d21_0) rfl rfl k) ?_
  show Ends p e below QQ (s₁.setTop (mkF m 1 #[.val (.ref o0), .val (.int (1 : Int32)), .unset] [(.ref o0)]))
  obtain ⟨T69, X69, e69, st69⟩ := getF X0 hx hZ hown (host := "") (Or.inl (hw _ (List.mem_of_getElem? (i := 64) rfl))) Via.refl e0 F_value_o0 (g := (mkF m 1 #[.val (.ref o0), .val (.int (1 : Int32)), .unset] [(.ref o0)])) rfl rfl (hb hby d21_1)
  refine Ends.step st69 ?_
  show Ends p e below QQ (T69.setTop (mkF m 4 #[.val (.ref o0), .val (.int (1 : Int32)), .unset] [(.ref vb)]))
  obtain ⟨cl70, Ar70, -, S70, P70, -, -⟩ := id A_vb
  refine Ends.step (S' := T69.setTop (mkF m 5 #[.val (.ref o0), .val (.int (1 : Int32)), .unset] [(.int (16 : Int32))])) (fun _ k => X69.arraylength hx (by rw [e69]; exact Ar70.1) (State.isArrayOf_alike hZ.alike Ar70.2.1) (g := (mkF m 4 #[.val (.ref o0), .val (.int (1 : Int32)), .unset] [(.ref vb)])) rfl rfl (hb hby d21_4) _ (by rw [len_of S70 P70]; exact k)) ?_
  show Ends p e below QQ (T69.setTop (mkF m 5 #[.val (.ref o0), .val (.int (1 : Int32)), .unset] [(.int (16 : Int32))]))
  refine Ends.step (fun _ k => XS.aloadN X69.here hx rfl (hb hby d21_5) rfl rfl k) ?_
  show Ends p e below QQ (T69.setTop (mkF m 6 #[.val (.ref o0), .val (.int (1 : Int32)), .unset] [(.ref o0), (.int (16 : Int32))]))
  obtain ⟨T71, X71, e71, st71⟩ := getF X69 hx hZ hown (host := "") (Or.inl (hw _ (List.mem_of_getElem? (i := 66) rfl))) Via.refl e69 F_coder_o0 (g := (mkF m 6 #[.val (.ref o0), .val (.int (1 : Int32)), .unset] [(.ref o0), (.int (16 : Int32))])) rfl rfl (hb hby d21_6)
  refine Ends.step st71 ?_
  show Ends p e below QQ (T71.setTop (mkF m 9 #[.val (.ref o0), .val (.int (1 : Int32)), .unset] [(.int (0 : Int32)), (.int (16 : Int32))]))
  refine Ends.step (fun _ k => XS.ishr X71.here hx rfl (hb hby d21_9) rfl k) ?_
  show Ends p e below QQ (T71.setTop (mkF m 10 #[.val (.ref o0), .val (.int (1 : Int32)), .unset] [(.int (16 : Int32))]))
  refine Ends.step (fun _ k => XS.istoreN X71.here hx rfl (hb hby d21_10) rfl (l' := #[.val (.ref o0), .val (.int (1 : Int32)), .val (.int (16 : Int32))]) rfl k) ?_
  show Ends p e below QQ (T71.setTop (mkF m 11 #[.val (.ref o0), .val (.int (1 : Int32)), .val (.int (16 : Int32))] []))
  refine Ends.step (fun _ k => XS.iloadN X71.here hx rfl (hb hby d21_11) rfl k) ?_
  show Ends p e below QQ (T71.setTop (mkF m 12 #[.val (.ref o0), .val (.int (1 : Int32)), .val (.int (16 : Int32))] [(.int (1 : Int32))]))
  refine Ends.step (fun _ k => XS.iloadN X71.here hx rfl (hb hby d21_12) rfl k) ?_
  show Ends p e below QQ (T71.setTop (mkF m 13 #[.val (.ref o0), .val (.int (1 : Int32)), .val (.int (16 : Int32))] [(.int (16 : Int32)), (.int (1 : Int32))]))
  refine Ends.step (fun _ k => XS.isub X71.here hx rfl (hb hby d21_13) rfl k) ?_
  show Ends p e below QQ (T71.setTop (mkF m 14 #[.val (.ref o0), .val (.int (1 : Int32)), .val (.int (16 : Int32))] [(.int (-15 : Int32))]))
  refine Ends.step (fun _ k => XS.ifYes X71.here hx rfl (pc0 := 14) (pc' := 38) rfl (hb hby d21_14) rfl (XT.i0_le_t (by decide)) (by decide) (by decide) k) ?_
  show Ends p e below QQ (T71.setTop (mkF m 38 #[.val (.ref o0), .val (.int (1 : Int32)), .val (.int (16 : Int32))] []))
  exact Ends.fin (none) X71 hQQ (fun _ => rfl) Bd.notSynchronized (fun _ hr => X71.returnOut hx Bd.returns (hb hby d21_38) hr) e71 (by decide) (by decide) ⟨rfl, N0, rfl⟩
theorem d20_0 : decode jdk_68_method_31_code 0 = .ok (.aload_n 0, 1) := by decide +kernel
theorem d20_1 : decode jdk_68_method_31_code 1 = .ok (.aload_n 0, 1) := by decide +kernel
theorem d20_2 : decode jdk_68_method_31_code 2 = .ok (.getfield 79, 3) := by decide +kernel
theorem d20_5 : decode jdk_68_method_31_code 5 = .ok (.iconst 1, 1) := by decide +kernel
theorem d20_6 : decode jdk_68_method_31_code 6 = .ok (.iadd, 1) := by decide +kernel
theorem d20_7 : decode jdk_68_method_31_code 7 = .ok (.invokevirtual 100, 3) := by decide +kernel
theorem d20_10 : decode jdk_68_method_31_code 10 = .ok (.aload_n 0, 1) := by decide +kernel
theorem d20_11 : decode jdk_68_method_31_code 11 = .ok (.invokevirtual 83, 3) := by decide +kernel
theorem d20_14 : decode jdk_68_method_31_code 14 = .ok (.ifCond .eq 31, 3) := by decide +kernel
theorem d20_17 : decode jdk_68_method_31_code 17 = .ok (.iload_n 1, 1) := by decide +kernel
theorem d20_18 : decode jdk_68_method_31_code 18 = .ok (.invokestatic 191, 3) := by decide +kernel
theorem d20_21 : decode jdk_68_method_31_code 21 = .ok (.ifCond .eq 24, 3) := by decide +kernel
theorem d20_24 : decode jdk_68_method_31_code 24 = .ok (.aload_n 0, 1) := by decide +kernel
theorem d20_25 : decode jdk_68_method_31_code 25 = .ok (.getfield 15, 3) := by decide +kernel
theorem d20_28 : decode jdk_68_method_31_code 28 = .ok (.aload_n 0, 1) := by decide +kernel
theorem d20_29 : decode jdk_68_method_31_code 29 = .ok (.dup, 1) := by decide +kernel
theorem d20_30 : decode jdk_68_method_31_code 30 = .ok (.getfield 79, 3) := by decide +kernel
theorem d20_33 : decode jdk_68_method_31_code 33 = .ok (.dup_x1, 1) := by decide +kernel
theorem d20_34 : decode jdk_68_method_31_code 34 = .ok (.iconst 1, 1) := by decide +kernel
theorem d20_35 : decode jdk_68_method_31_code 35 = .ok (.iadd, 1) := by decide +kernel
theorem d20_36 : decode jdk_68_method_31_code 36 = .ok (.putfield 79, 3) := by decide +kernel
theorem d20_39 : decode jdk_68_method_31_code 39 = .ok (.iload_n 1, 1) := by decide +kernel
theorem d20_40 : decode jdk_68_method_31_code 40 = .ok (.i2b, 1) := by decide +kernel
theorem d20_41 : decode jdk_68_method_31_code 41 = .ok (.bastore, 1) := by decide +kernel
theorem d20_42 : decode jdk_68_method_31_code 42 = .ok (.goto 33, 3) := by decide +kernel
theorem d20_75 : decode jdk_68_method_31_code 75 = .ok (.aload_n 0, 1) := by decide +kernel
theorem d20_76 : decode jdk_68_method_31_code 76 = .ok (.areturn, 1) := by decide +kernel
theorem ef_asa (m : MethodId) (x0 : Addr) (x1 : Int32) : entryFrame m #[(.ref x0), (.int x1)] 2 = mkF m 0 #[.val (.ref x0), .val (.int x1)] [] := by first | (simp [entryFrame, mkF, argsToLocals, Value.category]; done) | rfl
def Qasa (Z : State) (o0 : Addr) (p1 : Int32) (vb : Addr) (kb : ClassId) (cs : Int32) (h0 : Heap) (n0 : Nat) (v : Option Value) (h : Heap) (L : List Loc) : Prop := (v = some (.ref o0)) ∧ (Fr n0 L) ∧ (Keep h0 h [o0, vb])
set_option maxRecDepth 65536 in
set_option maxHeartbeats 40000000 in
theorem rmasa (l : Launch) (Z : State) (a0 : Array Value) (hw : ∀ d ∈ tables_1, d.before a0 Z = true) (ws : List Jvm.Cond) (o0 : Addr) (p1 : Int32) (vb : Addr) (kb : ClassId) (cs : Int32) (h0 : Heap) (n0 : Nat) (Z0 : n0 ≤ h0.size) (E_o0 : Exa Z h0 o0 "java/lang/StringBuilder") (F_value_o0 : Fld Z h0 o0 "java/lang/AbstractStringBuilder" "value" "[B" (.ref vb)) (F_coder_o0 : Fld Z h0 o0 "java/lang/AbstractStringBuilder" "coder" "B" (.int (0 : Int32))) (F_count_o0 : Fld Z h0 o0 "java/lang/AbstractStringBuilder" "count" "I" (.int (0 : Int32))) (A_vb : Arv Z h0 vb kb .byte (16 : Int32) [(.int (0 : Int32)), (.int (0 : Int32)), (.int (0 : Int32)), (.int (0 : Int32)), (.int (0 : Int32)), (.int (0 : Int32)), (.int (0 : Int32)), (.int (0 : Int32)), (.int (0 : Int32)), (.int (0 : Int32)), (.int (0 : Int32)), (.int (0 : Int32)), (.int (0 : Int32)), (.int (0 : Int32)), (.int (0 : Int32)), (.int (0 : Int32))] (.int (0 : Int32))) (g_o0 : n0 ≤ o0) (g_vb : n0 ≤ vb) (ne_o0_vb : o0 ≠ vb) (S_COMPACT_STRINGS : Sta Z h0 "java/lang/String" "COMPACT_STRINGS" "Z" (.int cs)) (hcs : ¬ cs = (0 : Int32)) (hc : ¬ (255 : Int32) < p1) :
    MetFree l (⟨"java/lang/AbstractStringBuilder", "append", "(C)Ljava/lang/AbstractStringBuilder;"⟩ : MethodName) (head1 (Jvm.Cond.code (⟨"java/lang/AbstractStringBuilder", "append", "(C)Ljava/lang/AbstractStringBuilder;"⟩ : MethodName) jdk_68_method_31_code 2 (some (.object "java/lang/AbstractStringBuilder")) :: ws) ({ frames := 1, cells := 0, slots := 0, locals := 14 } : Room)) (fun a U => a = #[(.ref o0), (.int p1)] ∧ Z.Warmed39 U.vm ∧ U.heap = h0) (fun _ _ _ _ _ => True) (fun _ U o U' => ∃ v L, o = .returned v ∧ Qasa Z o0 p1 vb kb cs h0 n0 v U'.heap L ∧ FrameEnd U o U' L ({ frames := 1, cells := 0, slots := 0, locals := 14 } : Room).cells ({ frames := 1, cells := 0, slots := 0, locals := 14 } : Room).slots) := by
  refine MetFree.of_bodySF (plainFor_of_name pn_2) hisR ?_
  intro p e s m args below meth c s₁ Bd hml0 hP hK
  obtain ⟨rfl, hZ, hh⟩ := hP
  have hx := Bd.exec
  have hby := Bd.bytes
  have hml : c.maxLocals = 2 := hml0
  have hown : s.vm.findClass "java/lang/AbstractStringBuilder" = some m.cls := findClass_of_methodNamed Bd.named
  have hnm := (name_of_methodNamed Bd.named Bd.method).1
  have X0 : Stand p l e ({ frames := 1, cells := 0, slots := 0, locals := 14 } : Room) s m #[(.ref o0), (.int p1)] below meth c s₁ [] 0 0 := Stand.of_body Bd
  have e0 : s₁.heap = h0 := by rw [← hh, Bd.state]; rfl
  have N0 := Fr.nil n0
  refine Ends.opn ?_
  intro QQ hQQ
  refine Ends.step (S' := s₁.setTop (mkF m 0 #[.val (.ref o0), .val (.int p1)] [])) (fun t k => castTop (ef_asa m o0 p1) k) ?_
  show Ends p e below QQ (s₁.setTop (mkF m 0 #[.val (.ref o0), .val (.int p1)] []))
  refine Ends.step (fun _ k => XS.aloadN X0.here hx rfl (hb hby d20_0) rfl rfl k) ?_
  show Ends p e below QQ (s₁.setTop (mkF m 1 #[.val (.ref o0), .val (.int p1)] [(.ref o0)]))
  refine Ends.step (fun _ k => XS.aloadN X0.here hx rfl (hb hby d20_1) rfl rfl k) ?_
  show Ends p e below QQ (s₁.setTop (mkF m 2 #[.val (.ref o0), .val (.int p1)] [(.ref o0), (.ref o0)]))
  obtain ⟨T72, X72, e72, st72⟩ := getF X0 hx hZ hown (host := "") (Or.inl (hw _ (List.mem_of_getElem? (i := 143) rfl))) Via.refl e0 F_count_o0 (g := (mkF m 2 #[.val (.ref o0), .val (.int p1)] [(.ref o0), (.ref o0)])) rfl rfl (hb hby d20_2)
  refine Ends.step st72 ?_
  show Ends p e below QQ (T72.setTop (mkF m 5 #[.val (.ref o0), .val (.int p1)] [(.int (0 : Int32)), (.ref o0)]))
  refine Ends.step (fun _ k => XT.iconstV X72.here hx rfl (1 : Int32) (hb hby d20_5) rfl k) ?_
  show Ends p e below QQ (T72.setTop (mkF m 6 #[.val (.ref o0), .val (.int p1)] [(.int (1 : Int32)), (.int (0 : Int32)), (.ref o0)]))
  refine Ends.step (fun _ k => XS.iadd X72.here hx rfl (hb hby d20_6) rfl k) ?_
  show Ends p e below QQ (T72.setTop (mkF m 7 #[.val (.ref o0), .val (.int p1)] [(.int (1 : Int32)), (.ref o0)]))
  obtain ⟨cq73, q73, q73'⟩ := E_o0.cell
  obtain ⟨_, _, ⟨T73, L73, k73, n73⟩, -, X73, ⟨Lc73, hQ73, l73, y73, z73⟩, st73⟩ := X72.privateBack hx (y := (⟨"java/lang/AbstractStringBuilder", "ensureCapacityInternal", "(I)V"⟩ : MethodName)) hown (mvT hZ (hw _ (List.mem_of_getElem? (i := 154) rfl))) (mvT hZ (hw _ (List.mem_of_getElem? (i := 155) rfl))) (mvT hZ (own_selq (y := (⟨"java/lang/AbstractStringBuilder", "ensureCapacityInternal", "(I)V"⟩ : MethodName)) (hw _ (List.mem_of_getElem? (i := 157) rfl)) rfl (hw _ (List.mem_of_getElem? (i := 156) rfl)) (hw _ (List.mem_of_getElem? (i := 155) rfl)) (by decide))) (Cond.privateMethod_at (mvP hZ (hw _ (List.mem_of_getElem? (i := 156) rfl)) (args := #[]))) (mvT hZ (hw _ (List.mem_of_getElem? (i := 158) rfl))) (by decide) (backOf (W := 0) (rmens l Z a0 hw [] o0 vb kb h0 n0 (Nat.le_trans Z0 (Keep.refl h0 [o0, vb]).1) F_value_o0 F_coder_o0 A_vb) hZ (hw _ (List.mem_of_getElem? (i := 158) rfl)) (hw _ (List.mem_of_getElem? (i := 59) rfl)) (by decide) (by decide)) (g := (mkF m 7 #[.val (.ref o0), .val (.int p1)] [(.int (1 : Int32)), (.ref o0)])) rfl (by rw [hml]; rfl) (Steps.refl _) (a := o0) (by rw [e72]; exact q73) q73' (argsL := [(.int (1 : Int32))]) (rest := []) (lenOf pd_1 rfl) rfl (by show 2 * 0 + _ ≤ _; exact Nat.le_of_eq rfl) (hb hby d20_7) (fun _ _ => ⟨rfl, e72, (by decide : 0 + 0 ≤ _), (by decide : 0 + 0 ≤ _)⟩)
  dsimp only [Pt.U, Pt.locs, Pt.cells, Pt.slots] at X73 l73 y73 z73 st73 hQ73
  subst l73 y73 z73
  obtain ⟨rfl, Nq73, hh73⟩ := hQ73
  have N73 := Fr.app N0 Nq73
  refine Ends.step (fun _ k => st73.trans k) ?_
  show Ends p e below QQ (T73.setTop (mkF m 10 #[.val (.ref o0), .val (.int p1)] []))
  refine Ends.step (fun _ k => XS.aloadN X73.here hx rfl (hb hby d20_10) rfl rfl k) ?_
  show Ends p e below QQ (T73.setTop (mkF m 11 #[.val (.ref o0), .val (.int p1)] [(.ref o0)]))
  obtain ⟨cq74, kq74, q74a, q74b, q74c⟩ := isOf hZ hh73 E_o0
  obtain ⟨_, _, ⟨T74, L74, k74, n74⟩, -, X74, ⟨Lc74, hQ74, l74, y74, z74⟩, st74⟩ := X73.virtualBack hx (y := (⟨"java/lang/AbstractStringBuilder", "isLatin1", "()Z"⟩ : MethodName)) (z := (⟨"java/lang/AbstractStringBuilder", "isLatin1", "()Z"⟩ : MethodName)) hown (mvT hZ (hw _ (List.mem_of_getElem? (i := 159) rfl))) (mvT hZ (hw _ (List.mem_of_getElem? (i := 160) rfl))) (notFace_of_selects (args := #[]) (mvT hZ (hw _ (List.mem_of_getElem? (i := 162) rfl)))) (mvT hZ (hw _ (List.mem_of_getElem? (i := 162) rfl))) (mvT hZ (hw _ (List.mem_of_getElem? (i := 161) rfl))) (by decide) (backOf (W := 0) (rmasi l Z a0 hw [] o0 cs h0 n0 (Nat.le_trans Z0 (Keep.refl h0 [o0, vb]).1) S_COMPACT_STRINGS hcs F_coder_o0) hZ (hw _ (List.mem_of_getElem? (i := 163) rfl)) (hw _ (List.mem_of_getElem? (i := 59) rfl)) (by decide) (by decide)) q74a q74c (g := (mkF m 11 #[.val (.ref o0), .val (.int p1)] [(.ref o0)])) rfl (by rw [hml]; rfl) (Steps.refl _) (argsL := []) (rest := []) (lenOf pd_6 rfl) rfl (by show 2 * 0 + _ ≤ _; exact Nat.le_of_eq rfl) (hb hby d20_11) (fun _ _ => ⟨rfl, hh73, (by decide : 0 + 0 ≤ _), (by decide : 0 + 0 ≤ _)⟩)
  dsimp only [Pt.U, Pt.locs, Pt.cells, Pt.slots] at X74 l74 y74 z74 st74 hQ74
  subst l74 y74 z74
  obtain ⟨rfl, Nq74, hh74⟩ := hQ74
  have N74 := Fr.app N73 Nq74
  refine Ends.step (fun _ k => st74.trans k) ?_
  show Ends p e below QQ (T74.setTop (mkF m 14 #[.val (.ref o0), .val (.int p1)] [(.int (1 : Int32))]))
  refine Ends.step (fun _ k => XS.ifNo X74.here hx rfl (hb hby d20_14) rfl (XT.i0_eq_f (by decide)) k) ?_
  show Ends p e below QQ (T74.setTop (mkF m 17 #[.val (.ref o0), .val (.int p1)] []))
  refine Ends.step (fun _ k => XS.iloadN X74.here hx rfl (hb hby d20_17) rfl k) ?_
  show Ends p e below QQ (T74.setTop (mkF m 18 #[.val (.ref o0), .val (.int p1)] [(.int p1)]))
  obtain ⟨_, _, ⟨T75, L75, k75, n75⟩, -, X75, ⟨Lc75, hQ75, l75, y75, z75⟩, st75⟩ := Jvm.LawKit.callS X74 hx (y := (⟨"java/lang/StringLatin1", "canEncode", "(C)Z"⟩ : MethodName)) hown (mvT hZ (hw _ (List.mem_of_getElem? (i := 164) rfl))) (mvT hZ (hw _ (List.mem_of_getElem? (i := 165) rfl))) (mvT hZ (hw _ (List.mem_of_getElem? (i := 166) rfl))) (mvT hZ (hw _ (List.mem_of_getElem? (i := 167) rfl))) (by decide) (backOf (W := 0) (rmcan l Z a0 hw [] p1 h0 n0 (Nat.le_trans Z0 (Keep.refl h0 [o0, vb]).1) hc) hZ (hw _ (List.mem_of_getElem? (i := 167) rfl)) (hw _ (List.mem_of_getElem? (i := 166) rfl)) (by decide) (by decide)) (g := (mkF m 18 #[.val (.ref o0), .val (.int p1)] [(.int p1)])) rfl (by rw [hml]; rfl) (argsL := [(.int p1)]) (rest := []) (lenOf pd_7 rfl) rfl (by show 2 * 0 + _ ≤ _; exact Nat.le_of_eq rfl) (hb hby d20_18) (fun _ _ => ⟨rfl, hh74, (by decide : 0 + 0 ≤ _), (by decide : 0 + 0 ≤ _)⟩)
  dsimp only [Pt.U, Pt.locs, Pt.cells, Pt.slots] at X75 l75 y75 z75 st75 hQ75
  subst l75 y75 z75
  obtain ⟨rfl, Nq75, hh75⟩ := hQ75
  have N75 := Fr.app N74 Nq75
  refine Ends.step st75 ?_
  show Ends p e below QQ (T75.setTop (mkF m 21 #[.val (.ref o0), .val (.int p1)] [(.int (1 : Int32))]))
  refine Ends.step (fun _ k => XS.ifNo X75.here hx rfl (hb hby d20_21) rfl (XT.i0_eq_f (by decide)) k) ?_
  show Ends p e below QQ (T75.setTop (mkF m 24 #[.val (.ref o0), .val (.int p1)] []))
  refine Ends.step (fun _ k => XS.aloadN X75.here hx rfl (hb hby d20_24) rfl rfl k) ?_
  show Ends p e below QQ (T75.setTop (mkF m 25 #[.val (.ref o0), .val (.int p1)] [(.ref o0)]))
  obtain ⟨T76, X76, e76, st76⟩ := getF X75 hx hZ hown (host := "") (Or.inl (hw _ (List.mem_of_getElem? (i := 64) rfl))) Via.refl hh75 F_value_o0 (g := (mkF m 25 #[.val (.ref o0), .val (.int p1)] [(.ref o0)])) rfl rfl (hb hby d20_25)
  refine Ends.step st76 ?_
  show Ends p e below QQ (T76.setTop (mkF m 28 #[.val (.ref o0), .val (.int p1)] [(.ref vb)]))
  refine Ends.step (fun _ k => XS.aloadN X76.here hx rfl (hb hby d20_28) rfl rfl k) ?_
  show Ends p e below QQ (T76.setTop (mkF m 29 #[.val (.ref o0), .val (.int p1)] [(.ref o0), (.ref vb)]))
  refine Ends.step (fun _ k => XS.dup X76.here hx rfl (hb hby d20_29) rfl rfl k) ?_
  show Ends p e below QQ (T76.setTop (mkF m 30 #[.val (.ref o0), .val (.int p1)] [(.ref o0), (.ref o0), (.ref vb)]))
  obtain ⟨T77, X77, e77, st77⟩ := getF X76 hx hZ hown (host := "") (Or.inl (hw _ (List.mem_of_getElem? (i := 143) rfl))) Via.refl e76 F_count_o0 (g := (mkF m 30 #[.val (.ref o0), .val (.int p1)] [(.ref o0), (.ref o0), (.ref vb)])) rfl rfl (hb hby d20_30)
  refine Ends.step st77 ?_
  show Ends p e below QQ (T77.setTop (mkF m 33 #[.val (.ref o0), .val (.int p1)] [(.int (0 : Int32)), (.ref o0), (.ref vb)]))
  refine Ends.step (fun _ k => XT.dupX1 X77.here hx rfl (hb hby d20_33) rfl rfl rfl k) ?_
  show Ends p e below QQ (T77.setTop (mkF m 34 #[.val (.ref o0), .val (.int p1)] [(.int (0 : Int32)), (.ref o0), (.int (0 : Int32)), (.ref vb)]))
  refine Ends.step (fun _ k => XT.iconstV X77.here hx rfl (1 : Int32) (hb hby d20_34) rfl k) ?_
  show Ends p e below QQ (T77.setTop (mkF m 35 #[.val (.ref o0), .val (.int p1)] [(.int (1 : Int32)), (.int (0 : Int32)), (.ref o0), (.int (0 : Int32)), (.ref vb)]))
  refine Ends.step (fun _ k => XS.iadd X77.here hx rfl (hb hby d20_35) rfl k) ?_
  show Ends p e below QQ (T77.setTop (mkF m 36 #[.val (.ref o0), .val (.int p1)] [(.int (1 : Int32)), (.ref o0), (.int (0 : Int32)), (.ref vb)]))
  obtain ⟨T78, h78, X78, e78, W78, st78⟩ := putF X77 hx hZ hown (host := "") (Or.inl (hw _ (List.mem_of_getElem? (i := 143) rfl))) Via.refl e77 F_count_o0 E_o0 (Or.inl (hw _ (List.mem_of_getElem? (i := 144) rfl))) (hw _ (List.mem_of_getElem? (i := 50) rfl)) (ty := .int) (by decide) rfl rfl (g := (mkF m 36 #[.val (.ref o0), .val (.int p1)] [(.int (1 : Int32)), (.ref o0), (.int (0 : Int32)), (.ref vb)])) rfl rfl (hb hby d20_36)
  have E_o0 := E_o0.wr W78
  have F_value_o0 := F_value_o0.other W78 (Or.inr (slot_ne (Or.inl (hw _ (List.mem_of_getElem? (i := 65) rfl))) (Or.inl (hw _ (List.mem_of_getElem? (i := 144) rfl))) (by decide) (t := (.array .byte)) (t' := .int) (by decide) (by decide)))
  have F_coder_o0 := F_coder_o0.other W78 (Or.inr (slot_ne (Or.inl (hw _ (List.mem_of_getElem? (i := 67) rfl))) (Or.inl (hw _ (List.mem_of_getElem? (i := 144) rfl))) (by decide) (t := .byte) (t' := .int) (by decide) (by decide)))
  have A_vb := A_vb.other W78 (Ne.symm ne_o0_vb)
  have S_COMPACT_STRINGS := S_COMPACT_STRINGS.wr W78
  have F_count_o0 : Fld Z h78 o0 "java/lang/AbstractStringBuilder" "count" "I" (.int (1 : Int32)) := F_count_o0.same W78
  have K78 := (Keep.refl h0 [o0, vb]).wr W78 (Or.inl (List.mem_of_getElem? (i := 0) rfl))
  have N78 := Fr.snoc X78 N75 g_o0
  refine Ends.step st78 ?_
  show Ends p e below QQ (T78.setTop (mkF m 39 #[.val (.ref o0), .val (.int p1)] [(.int (0 : Int32)), (.ref vb)]))
  refine Ends.step (fun _ k => XS.iloadN X78.here hx rfl (hb hby d20_39) rfl k) ?_
  show Ends p e below QQ (T78.setTop (mkF m 40 #[.val (.ref o0), .val (.int p1)] [(.int p1), (.int (0 : Int32)), (.ref vb)]))
  refine Ends.step (fun _ k => XT.i2b X78.here hx rfl (hb hby d20_40) rfl k) ?_
  show Ends p e below QQ (T78.setTop (mkF m 41 #[.val (.ref o0), .val (.int p1)] [(.int p1.toInt8.toInt32), (.int (0 : Int32)), (.ref vb)]))
  obtain ⟨cl79, Ar79, q79, S79, P79, H79, G79⟩ := id A_vb
  have hin79 : ¬ ((0 : Int32) < 0 ∨ cl79.slots.size ≤ ((0 : Int32)).toNatClampNeg) := inb_of S79 ⟨by decide, by decide⟩
  obtain ⟨T80, h80, X80, e80, W80, st80⟩ := stB X78 hx hZ e78 Ar79 (j := (0 : Int32)) hin79 (g := (mkF m 41 #[.val (.ref o0), .val (.int p1)] [(.int p1.toInt8.toInt32), (.int (0 : Int32)), (.ref vb)])) rfl rfl (hb hby d20_41)
  rw [own_narb] at W80
  have E_o0 := E_o0.wr W80
  have F_value_o0 := F_value_o0.other W80 (Or.inl ne_o0_vb)
  have F_coder_o0 := F_coder_o0.other W80 (Or.inl ne_o0_vb)
  have F_count_o0 := F_count_o0.other W80 (Or.inl ne_o0_vb)
  have S_COMPACT_STRINGS := S_COMPACT_STRINGS.wr W80
  have A_vb : Arv Z h80 vb kb .byte (16 : Int32) [(.int p1.toInt8.toInt32), (.int (0 : Int32)), (.int (0 : Int32)), (.int (0 : Int32)), (.int (0 : Int32)), (.int (0 : Int32)), (.int (0 : Int32)), (.int (0 : Int32)), (.int (0 : Int32)), (.int (0 : Int32)), (.int (0 : Int32)), (.int (0 : Int32)), (.int (0 : Int32)), (.int (0 : Int32)), (.int (0 : Int32)), (.int (0 : Int32))] (.int (0 : Int32)) := Arv.set Ar79 q79 S79 P79 H79 G79 (fits_nar_byte _) W80 0 rfl (Nat.le_of_ble_eq_true rfl)
  have K80 := K78.wr W80 (Or.inl (List.mem_of_getElem? (i := 1) rfl))
  have N80 := Fr.snoc X80 N78 g_vb
  refine Ends.step st80 ?_
  show Ends p e below QQ (T80.setTop (mkF m 42 #[.val (.ref o0), .val (.int p1)] []))
  refine Ends.step (fun _ k => XS.goto X80.here hx rfl (pc0 := 42) (pc' := 75) rfl (hb hby d20_42) (by decide) (by decide) k) ?_
  show Ends p e below QQ (T80.setTop (mkF m 75 #[.val (.ref o0), .val (.int p1)] []))
  refine Ends.step (fun _ k => XS.aloadN X80.here hx rfl (hb hby d20_75) rfl rfl k) ?_
  show Ends p e below QQ (T80.setTop (mkF m 76 #[.val (.ref o0), .val (.int p1)] [(.ref o0)]))
  exact Ends.fin (some (.ref o0)) X80 hQQ (fun h => by rw [Bd.returns] at h; cases h) Bd.notSynchronized (fun _ hr => retOut X80 hx (t := (.object "java/lang/AbstractStringBuilder")) Bd.returns rfl (Or.inr (Or.inr (Or.inr (Or.inr ⟨rfl, rfl, rfl⟩)))) (hb hby d20_76) hr) e80 (by decide) (by decide) ⟨rfl, N80, K80⟩
theorem d19_0 : decode jdk_67_method_14_code 0 = .ok (.aload_n 0, 1) := by decide +kernel
theorem d19_1 : decode jdk_67_method_14_code 1 = .ok (.iload_n 1, 1) := by decide +kernel
theorem d19_2 : decode jdk_67_method_14_code 2 = .ok (.invokespecial 50, 3) := by decide +kernel
theorem d19_5 : decode jdk_67_method_14_code 5 = .ok (.pop, 1) := by decide +kernel
theorem d19_6 : decode jdk_67_method_14_code 6 = .ok (.aload_n 0, 1) := by decide +kernel
theorem d19_7 : decode jdk_67_method_14_code 7 = .ok (.areturn, 1) := by decide +kernel
theorem ef_sba (m : MethodId) (x0 : Addr) (x1 : Int32) : entryFrame m #[(.ref x0), (.int x1)] 2 = mkF m 0 #[.val (.ref x0), .val (.int x1)] [] := by first | (simp [entryFrame, mkF, argsToLocals, Value.category]; done) | rfl
def Qsba (Z : State) (o0 : Addr) (p1 : Int32) (vb : Addr) (kb : ClassId) (cs : Int32) (h0 : Heap) (n0 : Nat) (v : Option Value) (h : Heap) (L : List Loc) : Prop := (v = some (.ref o0)) ∧ (Fr n0 L) ∧ (Keep h0 h [o0, vb])
set_option maxRecDepth 65536 in
set_option maxHeartbeats 40000000 in
theorem rmsba (l : Launch) (Z : State) (a0 : Array Value) (hw : ∀ d ∈ tables_1, d.before a0 Z = true) (ws : List Jvm.Cond) (o0 : Addr) (p1 : Int32) (vb : Addr) (kb : ClassId) (cs : Int32) (h0 : Heap) (n0 : Nat) (Z0 : n0 ≤ h0.size) (E_o0 : Exa Z h0 o0 "java/lang/StringBuilder") (F_value_o0 : Fld Z h0 o0 "java/lang/AbstractStringBuilder" "value" "[B" (.ref vb)) (F_coder_o0 : Fld Z h0 o0 "java/lang/AbstractStringBuilder" "coder" "B" (.int (0 : Int32))) (F_count_o0 : Fld Z h0 o0 "java/lang/AbstractStringBuilder" "count" "I" (.int (0 : Int32))) (A_vb : Arv Z h0 vb kb .byte (16 : Int32) [(.int (0 : Int32)), (.int (0 : Int32)), (.int (0 : Int32)), (.int (0 : Int32)), (.int (0 : Int32)), (.int (0 : Int32)), (.int (0 : Int32)), (.int (0 : Int32)), (.int (0 : Int32)), (.int (0 : Int32)), (.int (0 : Int32)), (.int (0 : Int32)), (.int (0 : Int32)), (.int (0 : Int32)), (.int (0 : Int32)), (.int (0 : Int32))] (.int (0 : Int32))) (g_o0 : n0 ≤ o0) (g_vb : n0 ≤ vb) (ne_o0_vb : o0 ≠ vb) (S_COMPACT_STRINGS : Sta Z h0 "java/lang/String" "COMPACT_STRINGS" "Z" (.int cs)) (hcs : ¬ cs = (0 : Int32)) (hc : ¬ (255 : Int32) < p1) :
    MetFree l (⟨"java/lang/StringBuilder", "append", "(C)Ljava/lang/StringBuilder;"⟩ : MethodName) (head1 (Jvm.Cond.code (⟨"java/lang/StringBuilder", "append", "(C)Ljava/lang/StringBuilder;"⟩ : MethodName) jdk_67_method_14_code 2 (some (.object "java/lang/StringBuilder")) :: ws) ({ frames := 2, cells := 0, slots := 0, locals := 27 } : Room)) (fun a U => a = #[(.ref o0), (.int p1)] ∧ Z.Warmed39 U.vm ∧ U.heap = h0) (fun _ _ _ _ _ => True) (fun _ U o U' => ∃ v L, o = .returned v ∧ Qsba Z o0 p1 vb kb cs h0 n0 v U'.heap L ∧ FrameEnd U o U' L ({ frames := 2, cells := 0, slots := 0, locals := 27 } : Room).cells ({ frames := 2, cells := 0, slots := 0, locals := 27 } : Room).slots) := by
  refine MetFree.of_bodySF (plainFor_of_name pn_3) hisR ?_
  intro p e s m args below meth c s₁ Bd hml0 hP hK
  obtain ⟨rfl, hZ, hh⟩ := hP
  have hx := Bd.exec
  have hby := Bd.bytes
  have hml : c.maxLocals = 2 := hml0
  have hown : s.vm.findClass "java/lang/StringBuilder" = some m.cls := findClass_of_methodNamed Bd.named
  have hnm := (name_of_methodNamed Bd.named Bd.method).1
  have X0 : Stand p l e ({ frames := 2, cells := 0, slots := 0, locals := 27 } : Room) s m #[(.ref o0), (.int p1)] below meth c s₁ [] 0 0 := Stand.of_body Bd
  have e0 : s₁.heap = h0 := by rw [← hh, Bd.state]; rfl
  have N0 := Fr.nil n0
  refine Ends.opn ?_
  intro QQ hQQ
  refine Ends.step (S' := s₁.setTop (mkF m 0 #[.val (.ref o0), .val (.int p1)] [])) (fun t k => castTop (ef_sba m o0 p1) k) ?_
  show Ends p e below QQ (s₁.setTop (mkF m 0 #[.val (.ref o0), .val (.int p1)] []))
  refine Ends.step (fun _ k => XS.aloadN X0.here hx rfl (hb hby d19_0) rfl rfl k) ?_
  show Ends p e below QQ (s₁.setTop (mkF m 1 #[.val (.ref o0), .val (.int p1)] [(.ref o0)]))
  refine Ends.step (fun _ k => XS.iloadN X0.here hx rfl (hb hby d19_1) rfl k) ?_
  show Ends p e below QQ (s₁.setTop (mkF m 2 #[.val (.ref o0), .val (.int p1)] [(.int p1), (.ref o0)]))
  obtain ⟨_, _, ⟨T81, L81, k81, n81⟩, -, X81, ⟨Lc81, hQ81, l81, y81, z81⟩, st81⟩ := superBack X0 hx hZ (y := (⟨"java/lang/AbstractStringBuilder", "append", "(C)Ljava/lang/AbstractStringBuilder;"⟩ : MethodName)) hown (hw _ (List.mem_of_getElem? (i := 150) rfl)) (own_same (hw _ (List.mem_of_getElem? (i := 151) rfl)) (by decide) (hw _ (List.mem_of_getElem? (i := 157) rfl)) rfl) (hw _ (List.mem_of_getElem? (i := 151) rfl)) (hw _ (List.mem_of_getElem? (i := 140) rfl)) (by decide) (backOf (W := 0) (rmasa l Z a0 hw [] o0 p1 vb kb cs h0 n0 (Nat.le_trans Z0 (Keep.refl h0 [o0, vb]).1) E_o0 F_value_o0 F_coder_o0 F_count_o0 A_vb g_o0 g_vb ne_o0_vb S_COMPACT_STRINGS hcs hc) hZ (hw _ (List.mem_of_getElem? (i := 153) rfl)) (hw _ (List.mem_of_getElem? (i := 59) rfl)) (by decide) (by decide)) e0 (Ins.self E_o0) (g := (mkF m 2 #[.val (.ref o0), .val (.int p1)] [(.int p1), (.ref o0)])) rfl (by rw [hml]; rfl) (hw _ (List.mem_of_getElem? (i := 153) rfl)) (argsL := [(.int p1)]) (rest := []) (lenOf pd_8 rfl) rfl (by show 2 * 0 + _ ≤ _; exact Nat.le_of_eq rfl) (hb hby d19_2) (fun _ _ => ⟨rfl, e0, (by decide : 0 + 0 ≤ _), (by decide : 0 + 0 ≤ _)⟩)
  dsimp only [Pt.U, Pt.locs, Pt.cells, Pt.slots] at X81 l81 y81 z81 st81 hQ81
  subst l81 y81 z81
  obtain ⟨rfl, Nq81, Kq81⟩ := hQ81
  have N81 := Fr.app N0 Nq81
  have S_COMPACT_STRINGS := own_sta_keep S_COMPACT_STRINGS Kq81 (allS E_o0.cell (allS (own_arv_cell A_vb) all0))
  have E_o0 := E_o0.keep Kq81
  have K81 := (Keep.refl h0 [o0, vb]).trans Kq81 (allS (Or.inl (List.mem_of_getElem? (i := 0) rfl)) (allS (Or.inl (List.mem_of_getElem? (i := 1) rfl)) all0))
  refine Ends.step (fun _ k => st81.trans k) ?_
  show Ends p e below QQ (T81.setTop (mkF m 5 #[.val (.ref o0), .val (.int p1)] [(.ref o0)]))
  refine Ends.step (fun _ k => XT.pop X81.here hx rfl (hb hby d19_5) rfl rfl k) ?_
  show Ends p e below QQ (T81.setTop (mkF m 6 #[.val (.ref o0), .val (.int p1)] []))
  refine Ends.step (fun _ k => XS.aloadN X81.here hx rfl (hb hby d19_6) rfl rfl k) ?_
  show Ends p e below QQ (T81.setTop (mkF m 7 #[.val (.ref o0), .val (.int p1)] [(.ref o0)]))
  exact Ends.fin (some (.ref o0)) X81 hQQ (fun h => by rw [Bd.returns] at h; cases h) Bd.notSynchronized (fun _ hr => retOut X81 hx (t := (.object "java/lang/StringBuilder")) Bd.returns rfl (Or.inr (Or.inr (Or.inr (Or.inr ⟨rfl, rfl, rfl⟩)))) (hb hby d19_7) hr) rfl (by decide) (by decide) ⟨rfl, N81, K81⟩
theorem d15_0 : decode prog_38_method_6_code 0 = .ok (.aload_n 0, 1) := by decide +kernel
theorem d15_1 : decode prog_38_method_6_code 1 = .ok (.getfield 29, 3) := by decide +kernel
theorem d15_4 : decode prog_38_method_6_code 4 = .ok (.invokevirtual 85, 3) := by decide +kernel
theorem d15_7 : decode prog_38_method_6_code 7 = .ok (.lookupswitch 35 #[(0, 25), (2, 31)], 25) := by decide +kernel
theorem d15_32 : decode prog_38_method_6_code 32 = .ok (.sipush 1024, 3) := by decide +kernel
theorem d15_35 : decode prog_38_method_6_code 35 = .ok (.goto 14, 3) := by decide +kernel
theorem d15_49 : decode prog_38_method_6_code 49 = .ok (.istore_n 2, 1) := by decide +kernel
theorem d15_50 : decode prog_38_method_6_code 50 = .ok (.aload_n 0, 1) := by decide +kernel
theorem d15_51 : decode prog_38_method_6_code 51 = .ok (.getfield 19, 3) := by decide +kernel
theorem d15_54 : decode prog_38_method_6_code 54 = .ok (.invokevirtual 67, 3) := by decide +kernel
theorem d15_57 : decode prog_38_method_6_code 57 = .ok (.iload_n 2, 1) := by decide +kernel
theorem d15_58 : decode prog_38_method_6_code 58 = .ok (.if_icmp .lt 13, 3) := by decide +kernel
theorem d15_71 : decode prog_38_method_6_code 71 = .ok (.iload_n 1, 1) := by decide +kernel
theorem d15_72 : decode prog_38_method_6_code 72 = .ok (.bipush 10, 2) := by decide +kernel
theorem d15_74 : decode prog_38_method_6_code 74 = .ok (.if_icmp .eq 18, 3) := by decide +kernel
theorem d15_77 : decode prog_38_method_6_code 77 = .ok (.aload_n 0, 1) := by decide +kernel
theorem d15_78 : decode prog_38_method_6_code 78 = .ok (.getfield 19, 3) := by decide +kernel
theorem d15_81 : decode prog_38_method_6_code 81 = .ok (.iload_n 1, 1) := by decide +kernel
theorem d15_82 : decode prog_38_method_6_code 82 = .ok (.sipush 255, 3) := by decide +kernel
theorem d15_85 : decode prog_38_method_6_code 85 = .ok (.iand, 1) := by decide +kernel
theorem d15_86 : decode prog_38_method_6_code 86 = .ok (.i2c, 1) := by decide +kernel
theorem d15_87 : decode prog_38_method_6_code 87 = .ok (.invokevirtual 97, 3) := by decide +kernel
theorem d15_90 : decode prog_38_method_6_code 90 = .ok (.pop, 1) := by decide +kernel
theorem d15_91 : decode prog_38_method_6_code 91 = .ok (.return_, 1) := by decide +kernel
theorem ef_lb (m : MethodId) (x0 : Addr) (x1 : Int32) : entryFrame m #[(.ref x0), (.int x1)] 5 = mkF m 0 #[.val (.ref x0), .val (.int x1), .unset, .unset, .unset] [] := by first | (simp [entryFrame, mkF, argsToLocals, Value.category]; done) | rfl
def Qlb (Z : State) (o0 : Addr) (p1 : Int32) (sb : Addr) (vb : Addr) (kb : ClassId) (a_SIZE_LINE : Addr) (cs : Int32) (h0 : Heap) (n0 : Nat) (v : Option Value) (h : Heap) (L : List Loc) : Prop := (v = none) ∧ (Fr n0 L) ∧ (Keep h0 h [sb, vb])
set_option maxRecDepth 65536 in
set_option maxHeartbeats 40000000 in
theorem rmlb (l : Launch) (Z : State) (a0 : Array Value) (hw : ∀ d ∈ tables_1, d.before a0 Z = true) (ws : List Jvm.Cond) (o0 : Addr) (p1 : Int32) (sb : Addr) (vb : Addr) (kb : ClassId) (a_SIZE_LINE : Addr) (cs : Int32) (h0 : Heap) (n0 : Nat) (Z0 : n0 ≤ h0.size) (F_line_o0 : Fld Z h0 o0 "com/example/gatehook/gatehook/http/ChunkedBody" "line" "Ljava/lang/StringBuilder;" (.ref sb)) (F_part_o0 : Fld Z h0 o0 "com/example/gatehook/gatehook/http/ChunkedBody" "part" "Lcom/example/gatehook/gatehook/http/ChunkedBody$Part;" (.ref a_SIZE_LINE)) (E_sb : Exa Z h0 sb "java/lang/StringBuilder") (F_value_sb : Fld Z h0 sb "java/lang/AbstractStringBuilder" "value" "[B" (.ref vb)) (F_coder_sb : Fld Z h0 sb "java/lang/AbstractStringBuilder" "coder" "B" (.int (0 : Int32))) (F_count_sb : Fld Z h0 sb "java/lang/AbstractStringBuilder" "count" "I" (.int (0 : Int32))) (A_vb : Arv Z h0 vb kb .byte (16 : Int32) [(.int (0 : Int32)), (.int (0 : Int32)), (.int (0 : Int32)), (.int (0 : Int32)), (.int (0 : Int32)), (.int (0 : Int32)), (.int (0 : Int32)), (.int (0 : Int32)), (.int (0 : Int32)), (.int (0 : Int32)), (.int (0 : Int32)), (.int (0 : Int32)), (.int (0 : Int32)), (.int (0 : Int32)), (.int (0 : Int32)), (.int (0 : Int32))] (.int (0 : Int32))) (g_sb : n0 ≤ sb) (g_vb : n0 ≤ vb) (ne_sb_vb : sb ≠ vb) (F_ordinal_a_SIZE_LINE : Fld Z h0 a_SIZE_LINE "java/lang/Enum" "ordinal" "I" (.int (0 : Int32))) (E_a_SIZE_LINE : Exa Z h0 a_SIZE_LINE "com/example/gatehook/gatehook/http/ChunkedBody$Part") (S_COMPACT_STRINGS : Sta Z h0 "java/lang/String" "COMPACT_STRINGS" "Z" (.int cs)) (hcs : ¬ cs = (0 : Int32)) (h10 : ¬ p1 = (10 : Int32)) (hc : ¬ (255 : Int32) < ((p1 &&& (255 : Int32))).toUInt32.toUInt16.toUInt32.toInt32) :
    MetFree l (⟨"com/example/gatehook/gatehook/http/ChunkedBody", "lineByte", "(B)V"⟩ : MethodName) (head1 (Jvm.Cond.code (⟨"com/example/gatehook/gatehook/http/ChunkedBody", "lineByte", "(B)V"⟩ : MethodName) prog_38_method_6_code 5 none :: ws) ({ frames := 3, cells := 0, slots := 0, locals := 40 } : Room)) (fun a U => a = #[(.ref o0), (.int p1)] ∧ Z.Warmed39 U.vm ∧ U.heap = h0) (fun _ _ _ _ _ => True) (fun _ U o U' => ∃ v L, o = .returned v ∧ Qlb Z o0 p1 sb vb kb a_SIZE_LINE cs h0 n0 v U'.heap L ∧ FrameEnd U o U' L ({ frames := 3, cells := 0, slots := 0, locals := 40 } : Room).cells ({ frames := 3, cells := 0, slots := 0, locals := 40 } : Room).slots) := by
  refine MetFree.of_bodySF (plainFor_of_name pn_4) hisR ?_
  intro p e s m args below meth c s₁ Bd hml0 hP hK
  obtain ⟨rfl, hZ, hh⟩ := hP
  have hx := Bd.exec
  have hby := Bd.bytes
  have hml : c.maxLocals = 5 := hml0
  have hown : s.vm.findClass "com/example/gatehook/gatehook/http/ChunkedBody" = some m.cls := findClass_of_methodNamed Bd.named
  have hnm := (name_of_methodNamed Bd.named Bd.method).1
  have X0 : Stand p l e ({ frames := 3, cells := 0, slots := 0, locals := 40 } : Room) s m #[(.ref o0), (.int p1)] below meth c s₁ [] 0 0 := Stand.of_body Bd
  have e0 : s₁.heap = h0 := by rw [← hh, Bd.state]; rfl
  have N0 := Fr.nil n0
  refine Ends.opn ?_
  intro QQ hQQ
  refine Ends.step (S' := s₁.setTop (mkF m 0 #[.val (.ref o0), .val (.int p1), .unset, .unset, .unset] [])) (fun t k => castTop (ef_lb m o0 p1) k) ?_
  show Ends p e below QQ (s₁.setTop (mkF m 0 #[.val (.ref o0), .val (.int p1), .unset, .unset, .unset] []))
  refine Ends.step (fun _ k => XS.aloadN X0.here hx rfl (hb hby d15_0) rfl rfl k) ?_
  show Ends p e below QQ (s₁.setTop (mkF m 1 #[.val (.ref o0), .val (.int p1), .unset, .unset, .unset] [(.ref o0)]))
  obtain ⟨T82, X82, e82, st82⟩ := getF X0 hx hZ hown (host := "") (Or.inl (hw _ (List.mem_of_getElem? (i := 73) rfl))) Via.refl e0 F_part_o0 (g := (mkF m 1 #[.val (.ref o0), .val (.int p1), .unset, .unset, .unset] [(.ref o0)])) rfl rfl (hb hby d15_1)
  refine Ends.step st82 ?_
  show Ends p e below QQ (T82.setTop (mkF m 4 #[.val (.ref o0), .val (.int p1), .unset, .unset, .unset] [(.ref a_SIZE_LINE)]))
  obtain ⟨cq83, kq83, q83a, q83b, q83c⟩ := isOf hZ e82 E_a_SIZE_LINE
  obtain ⟨_, _, ⟨T83, L83, k83, n83⟩, -, X83, ⟨Lc83, hQ83, l83, y83, z83⟩, st83⟩ := X82.virtualBackUp hx (owner := "java/lang/Enum") (x := (⟨"com/example/gatehook/gatehook/http/ChunkedBody$Part", "ordinal", "()I"⟩ : MethodName)) (y := (⟨"java/lang/Enum", "ordinal", "()I"⟩ : MethodName)) hown (mvT hZ (hw _ (List.mem_of_getElem? (i := 124) rfl))) (mvT hZ (hw _ (List.mem_of_getElem? (i := 125) rfl))) (mvT hZ (hw _ (List.mem_of_getElem? (i := 126) rfl))) (by decide) (mvT hZ (hw _ (List.mem_of_getElem? (i := 128) rfl))) (mvT hZ (hw _ (List.mem_of_getElem? (i := 127) rfl))) (backOf (W := 0) (rmord l Z a0 hw [] a_SIZE_LINE (0 : Int32) h0 n0 (Nat.le_trans Z0 (Keep.refl h0 [sb, vb]).1) F_ordinal_a_SIZE_LINE) hZ (hw _ (List.mem_of_getElem? (i := 130) rfl)) (hw _ (List.mem_of_getElem? (i := 129) rfl)) (by decide) (by decide)) q83a q83c (g := (mkF m 4 #[.val (.ref o0), .val (.int p1), .unset, .unset, .unset] [(.ref a_SIZE_LINE)])) rfl (by rw [hml]; rfl) (Steps.refl _) (argsL := []) (rest := []) (lenOf pd_5 rfl) rfl (by show 2 * 0 + _ ≤ _; exact Nat.le_of_eq rfl) (hb hby d15_4) (fun _ _ => ⟨rfl, e82, (by decide : 0 + 0 ≤ _), (by decide : 0 + 0 ≤ _)⟩)
  dsimp only [Pt.U, Pt.locs, Pt.cells, Pt.slots] at X83 l83 y83 z83 st83 hQ83
  subst l83 y83 z83
  obtain ⟨rfl, Nq83, hh83⟩ := hQ83
  have N83 := Fr.app N0 Nq83
  refine Ends.step (fun _ k => st83.trans k) ?_
  show Ends p e below QQ (T83.setTop (mkF m 7 #[.val (.ref o0), .val (.int p1), .unset, .unset, .unset] [(.int (0 : Int32))]))
  refine Ends.step (fun _ k => X83.lookupswitchHit hx (g := (mkF m 7 #[.val (.ref o0), .val (.int p1), .unset, .unset, .unset] [(.int (0 : Int32))])) rfl (k := (0 : Int32)) (rest := []) rfl (hb hby d15_7) (by decide) (a := 0) (off := 25) (by decide) (by show (0 : Int) ≤ (7 : Nat) + 25; decide) _ k) ?_
  show Ends p e below QQ (T83.setTop (mkF m 32 #[.val (.ref o0), .val (.int p1), .unset, .unset, .unset] []))
  refine Ends.step (fun _ k => XT.sipushV X83.here hx rfl (1024 : Int32) (hb hby d15_32) rfl k) ?_
  show Ends p e below QQ (T83.setTop (mkF m 35 #[.val (.ref o0), .val (.int p1), .unset, .unset, .unset] [(.int (1024 : Int32))]))
  refine Ends.step (fun _ k => XS.goto X83.here hx rfl (pc0 := 35) (pc' := 49) rfl (hb hby d15_35) (by decide) (by decide) k) ?_
  show Ends p e below QQ (T83.setTop (mkF m 49 #[.val (.ref o0), .val (.int p1), .unset, .unset, .unset] [(.int (1024 : Int32))]))
  refine Ends.step (fun _ k => XS.istoreN X83.here hx rfl (hb hby d15_49) rfl (l' := #[.val (.ref o0), .val (.int p1), .val (.int (1024 : Int32)), .unset, .unset]) rfl k) ?_
  show Ends p e below QQ (T83.setTop (mkF m 50 #[.val (.ref o0), .val (.int p1), .val (.int (1024 : Int32)), .unset, .unset] []))
  refine Ends.step (fun _ k => XS.aloadN X83.here hx rfl (hb hby d15_50) rfl rfl k) ?_
  show Ends p e below QQ (T83.setTop (mkF m 51 #[.val (.ref o0), .val (.int p1), .val (.int (1024 : Int32)), .unset, .unset] [(.ref o0)]))
  obtain ⟨T84, X84, e84, st84⟩ := getF X83 hx hZ hown (host := "") (Or.inl (hw _ (List.mem_of_getElem? (i := 68) rfl))) Via.refl hh83 F_line_o0 (g := (mkF m 51 #[.val (.ref o0), .val (.int p1), .val (.int (1024 : Int32)), .unset, .unset] [(.ref o0)])) rfl rfl (hb hby d15_51)
  refine Ends.step st84 ?_
  show Ends p e below QQ (T84.setTop (mkF m 54 #[.val (.ref o0), .val (.int p1), .val (.int (1024 : Int32)), .unset, .unset] [(.ref sb)]))
  obtain ⟨cq85, kq85, q85a, q85b, q85c⟩ := isOf hZ e84 E_sb
  obtain ⟨_, _, ⟨T85, L85, k85, n85⟩, -, X85, ⟨Lc85, hQ85, l85, y85, z85⟩, st85⟩ := X84.virtualBack hx (y := (⟨"java/lang/StringBuilder", "length", "()I"⟩ : MethodName)) (z := (⟨"java/lang/StringBuilder", "length", "()I"⟩ : MethodName)) hown (mvT hZ (hw _ (List.mem_of_getElem? (i := 133) rfl))) (mvT hZ (hw _ (List.mem_of_getElem? (i := 134) rfl))) (notFace_of_selects (args := #[]) (mvT hZ (hw _ (List.mem_of_getElem? (i := 136) rfl)))) (mvT hZ (hw _ (List.mem_of_getElem? (i := 136) rfl))) (mvT hZ (hw _ (List.mem_of_getElem? (i := 135) rfl))) (by decide) (backOf (W := 0) (rmsbl l Z a0 hw [] sb (0 : Int32) h0 n0 (Nat.le_trans Z0 (Keep.refl h0 [sb, vb]).1) E_sb F_count_sb) hZ (hw _ (List.mem_of_getElem? (i := 137) rfl)) (hw _ (List.mem_of_getElem? (i := 51) rfl)) (by decide) (by decide)) q85a q85c (g := (mkF m 54 #[.val (.ref o0), .val (.int p1), .val (.int (1024 : Int32)), .unset, .unset] [(.ref sb)])) rfl (by rw [hml]; rfl) (Steps.refl _) (argsL := []) (rest := []) (lenOf pd_5 rfl) rfl (by show 2 * 0 + _ ≤ _; exact Nat.le_of_eq rfl) (hb hby d15_54) (fun _ _ => ⟨rfl, e84, (by decide : 0 + 0 ≤ _), (by decide : 0 + 0 ≤ _)⟩)
  dsimp only [Pt.U, Pt.locs, Pt.cells, Pt.slots] at X85 l85 y85 z85 st85 hQ85
  subst l85 y85 z85
  obtain ⟨rfl, Nq85, hh85⟩ := hQ85
  have N85 := Fr.app N83 Nq85
  refine Ends.step (fun _ k => st85.trans k) ?_
  show Ends p e below QQ (T85.setTop (mkF m 57 #[.val (.ref o0), .val (.int p1), .val (.int (1024 : Int32)), .unset, .unset] [(.int (0 : Int32))]))
  refine Ends.step (fun _ k => XS.iloadN X85.here hx rfl (hb hby d15_57) rfl k) ?_
  show Ends p e below QQ (T85.setTop (mkF m 58 #[.val (.ref o0), .val (.int p1), .val (.int (1024 : Int32)), .unset, .unset] [(.int (1024 : Int32)), (.int (0 : Int32))]))
  refine Ends.step (fun _ k => XS.icmpYes X85.here hx rfl (pc0 := 58) (pc' := 71) rfl (hb hby d15_58) rfl (XT.ii_lt_t (by decide)) (by decide) (by decide) k) ?_
  show Ends p e below QQ (T85.setTop (mkF m 71 #[.val (.ref o0), .val (.int p1), .val (.int (1024 : Int32)), .unset, .unset] []))
  refine Ends.step (fun _ k => XS.iloadN X85.here hx rfl (hb hby d15_71) rfl k) ?_
  show Ends p e below QQ (T85.setTop (mkF m 72 #[.val (.ref o0), .val (.int p1), .val (.int (1024 : Int32)), .unset, .unset] [(.int p1)]))
  refine Ends.step (fun _ k => XT.bipushV X85.here hx rfl (10 : Int32) (hb hby d15_72) rfl k) ?_
  show Ends p e below QQ (T85.setTop (mkF m 74 #[.val (.ref o0), .val (.int p1), .val (.int (1024 : Int32)), .unset, .unset] [(.int (10 : Int32)), (.int p1)]))
  have hc74 : ¬ (p1 = (10 : Int32)) := h10
  refine Ends.step (fun _ k => XS.icmpNo X85.here hx rfl (hb hby d15_74) rfl (XT.ii_eq_f hc74) k) ?_
  show Ends p e below QQ (T85.setTop (mkF m 77 #[.val (.ref o0), .val (.int p1), .val (.int (1024 : Int32)), .unset, .unset] []))
  refine Ends.step (fun _ k => XS.aloadN X85.here hx rfl (hb hby d15_77) rfl rfl k) ?_
  show Ends p e below QQ (T85.setTop (mkF m 78 #[.val (.ref o0), .val (.int p1), .val (.int (1024 : Int32)), .unset, .unset] [(.ref o0)]))
  obtain ⟨T86, X86, e86, st86⟩ := getF X85 hx hZ hown (host := "") (Or.inl (hw _ (List.mem_of_getElem? (i := 68) rfl))) Via.refl hh85 F_line_o0 (g := (mkF m 78 #[.val (.ref o0), .val (.int p1), .val (.int (1024 : Int32)), .unset, .unset] [(.ref o0)])) rfl rfl (hb hby d15_78)
  refine Ends.step st86 ?_
  show Ends p e below QQ (T86.setTop (mkF m 81 #[.val (.ref o0), .val (.int p1), .val (.int (1024 : Int32)), .unset, .unset] [(.ref sb)]))
  refine Ends.step (fun _ k => XS.iloadN X86.here hx rfl (hb hby d15_81) rfl k) ?_
  show Ends p e below QQ (T86.setTop (mkF m 82 #[.val (.ref o0), .val (.int p1), .val (.int (1024 : Int32)), .unset, .unset] [(.int p1), (.ref sb)]))
  refine Ends.step (fun _ k => XT.sipushV X86.here hx rfl (255 : Int32) (hb hby d15_82) rfl k) ?_
  show Ends p e below QQ (T86.setTop (mkF m 85 #[.val (.ref o0), .val (.int p1), .val (.int (1024 : Int32)), .unset, .unset] [(.int (255 : Int32)), (.int p1), (.ref sb)]))
  refine Ends.step (fun _ k => XS.iand X86.here hx rfl (hb hby d15_85) rfl k) ?_
  show Ends p e below QQ (T86.setTop (mkF m 86 #[.val (.ref o0), .val (.int p1), .val (.int (1024 : Int32)), .unset, .unset] [(.int (p1 &&& (255 : Int32))), (.ref sb)]))
  refine Ends.step (fun _ k => XT.i2c X86.here hx rfl (hb hby d15_86) rfl k) ?_
  show Ends p e below QQ (T86.setTop (mkF m 87 #[.val (.ref o0), .val (.int p1), .val (.int (1024 : Int32)), .unset, .unset] [(.int (p1 &&& (255 : Int32)).toUInt32.toUInt16.toUInt32.toInt32), (.ref sb)]))
  obtain ⟨cq87, kq87, q87a, q87b, q87c⟩ := isOf hZ e86 E_sb
  obtain ⟨_, _, ⟨T87, L87, k87, n87⟩, -, X87, ⟨Lc87, hQ87, l87, y87, z87⟩, st87⟩ := X86.virtualBack hx (y := (⟨"java/lang/StringBuilder", "append", "(C)Ljava/lang/StringBuilder;"⟩ : MethodName)) (z := (⟨"java/lang/StringBuilder", "append", "(C)Ljava/lang/StringBuilder;"⟩ : MethodName)) hown (mvT hZ (hw _ (List.mem_of_getElem? (i := 145) rfl))) (mvT hZ (hw _ (List.mem_of_getElem? (i := 146) rfl))) (notFace_of_selects (args := #[]) (mvT hZ (hw _ (List.mem_of_getElem? (i := 148) rfl)))) (mvT hZ (hw _ (List.mem_of_getElem? (i := 148) rfl))) (mvT hZ (hw _ (List.mem_of_getElem? (i := 147) rfl))) (by decide) (backOf (W := 0) (rmsba l Z a0 hw [] sb ((p1 &&& (255 : Int32)).toUInt32.toUInt16.toUInt32.toInt32) vb kb cs h0 n0 (Nat.le_trans Z0 (Keep.refl h0 [sb, vb]).1) E_sb F_value_sb F_coder_sb F_count_sb A_vb g_sb g_vb ne_sb_vb S_COMPACT_STRINGS hcs hc) hZ (hw _ (List.mem_of_getElem? (i := 149) rfl)) (hw _ (List.mem_of_getElem? (i := 51) rfl)) (by decide) (by decide)) q87a q87c (g := (mkF m 87 #[.val (.ref o0), .val (.int p1), .val (.int (1024 : Int32)), .unset, .unset] [(.int (p1 &&& (255 : Int32)).toUInt32.toUInt16.toUInt32.toInt32), (.ref sb)])) rfl (by rw [hml]; rfl) (Steps.refl _) (argsL := [(.int (p1 &&& (255 : Int32)).toUInt32.toUInt16.toUInt32.toInt32)]) (rest := []) (lenOf pd_9 rfl) rfl (by show 2 * 0 + _ ≤ _; exact Nat.le_of_eq rfl) (hb hby d15_87) (fun _ _ => ⟨rfl, e86, (by decide : 0 + 0 ≤ _), (by decide : 0 + 0 ≤ _)⟩)
  dsimp only [Pt.U, Pt.locs, Pt.cells, Pt.slots] at X87 l87 y87 z87 st87 hQ87
  subst l87 y87 z87
  obtain ⟨rfl, Nq87, Kq87⟩ := hQ87
  have N87 := Fr.app N85 Nq87
  have S_COMPACT_STRINGS := own_sta_keep S_COMPACT_STRINGS Kq87 (allS E_sb.cell (allS (own_arv_cell A_vb) all0))
  have E_sb := E_sb.keep Kq87
  have E_a_SIZE_LINE := E_a_SIZE_LINE.keep Kq87
  have K87 := (Keep.refl h0 [sb, vb]).trans Kq87 (allS (Or.inl (List.mem_of_getElem? (i := 0) rfl)) (allS (Or.inl (List.mem_of_getElem? (i := 1) rfl)) all0))
  refine Ends.step (fun _ k => st87.trans k) ?_
  show Ends p e below QQ (T87.setTop (mkF m 90 #[.val (.ref o0), .val (.int p1), .val (.int (1024 : Int32)), .unset, .unset] [(.ref sb)]))
  refine Ends.step (fun _ k => XT.pop X87.here hx rfl (hb hby d15_90) rfl rfl k) ?_
  show Ends p e below QQ (T87.setTop (mkF m 91 #[.val (.ref o0), .val (.int p1), .val (.int (1024 : Int32)), .unset, .unset] []))
  exact Ends.fin (none) X87 hQQ (fun _ => rfl) Bd.notSynchronized (fun _ hr => X87.returnOut hx Bd.returns (hb hby d15_91) hr) rfl (by decide) (by decide) ⟨rfl, N87, K87⟩
theorem d11_0 : decode prog_38_method_2_code 0 = .ok (.iload_n 2, 1) := by decide +kernel
theorem d11_1 : decode prog_38_method_2_code 1 = .ok (.istore 4, 2) := by decide +kernel
theorem d11_3 : decode prog_38_method_2_code 3 = .ok (.iload_n 2, 1) := by decide +kernel
theorem d11_4 : decode prog_38_method_2_code 4 = .ok (.iload_n 3, 1) := by decide +kernel
theorem d11_5 : decode prog_38_method_2_code 5 = .ok (.iadd, 1) := by decide +kernel
theorem d11_6 : decode prog_38_method_2_code 6 = .ok (.istore 5, 2) := by decide +kernel
theorem d11_8 : decode prog_38_method_2_code 8 = .ok (.iload 4, 2) := by decide +kernel
theorem d11_10 : decode prog_38_method_2_code 10 = .ok (.iload 5, 2) := by decide +kernel
theorem d11_12 : decode prog_38_method_2_code 12 = .ok (.if_icmp .ge 103, 3) := by decide +kernel
theorem d11_115 : decode prog_38_method_2_code 115 = .ok (.iload 4, 2) := by decide +kernel
theorem d11_117 : decode prog_38_method_2_code 117 = .ok (.iload_n 2, 1) := by decide +kernel
theorem d11_118 : decode prog_38_method_2_code 118 = .ok (.isub, 1) := by decide +kernel
theorem d11_119 : decode prog_38_method_2_code 119 = .ok (.ireturn, 1) := by decide +kernel
theorem ef_ct0 (m : MethodId) (x0 : Addr) (x1 : Addr) : entryFrame m #[(.ref x0), (.ref x1), (.int (0 : Int32)), (.int (0 : Int32))] 7 = mkF m 0 #[.val (.ref x0), .val (.ref x1), .val (.int (0 : Int32)), .val (.int (0 : Int32)), .unset, .unset, .unset] [] := by first | (simp [entryFrame, mkF, argsToLocals, Value.category]; done) | rfl
def Qct0 (Z : State) (o0 : Addr) (o1 : Addr) (h0 : Heap) (n0 : Nat) (v : Option Value) (h : Heap) (L : List Loc) : Prop := (v = some (.int (0 : Int32))) ∧ (Fr n0 L) ∧ (h = h0)
set_option maxRecDepth 65536 in
set_option maxHeartbeats 40000000 in
theorem rmct0 (l : Launch) (Z : State) (a0 : Array Value) (hw : ∀ d ∈ tables_1, d.before a0 Z = true) (ws : List Jvm.Cond) (o0 : Addr) (o1 : Addr) (h0 : Heap) (n0 : Nat) (Z0 : n0 ≤ h0.size) :
    MetFree l (⟨"com/example/gatehook/gatehook/http/ChunkedBody", "take", "([BII)I"⟩ : MethodName) (head1 (Jvm.Cond.code (⟨"com/example/gatehook/gatehook/http/ChunkedBody", "take", "([BII)I"⟩ : MethodName) prog_38_method_2_code 7 (some .int) :: ws) ({ frames := 0, cells := 0, slots := 0, locals := 0 } : Room)) (fun a U => a = #[(.ref o0), (.ref o1), (.int (0 : Int32)), (.int (0 : Int32))] ∧ Z.Warmed39 U.vm ∧ U.heap = h0) (fun _ _ _ _ _ => True) (fun _ U o U' => ∃ v L, o = .returned v ∧ Qct0 Z o0 o1 h0 n0 v U'.heap L ∧ FrameEnd U o U' L ({ frames := 0, cells := 0, slots := 0, locals := 0 } : Room).cells ({ frames := 0, cells := 0, slots := 0, locals := 0 } : Room).slots) := by
  refine MetFree.of_bodySF (plainFor_of_name pn_4) hisR ?_
  intro p e s m args below meth c s₁ Bd hml0 hP hK
  obtain ⟨rfl, hZ, hh⟩ := hP
  have hx := Bd.exec
  have hby := Bd.bytes
  have hml : c.maxLocals = 7 := hml0
  have hown : s.vm.findClass "com/example/gatehook/gatehook/http/ChunkedBody" = some m.cls := findClass_of_methodNamed Bd.named
  have hnm := (name_of_methodNamed Bd.named Bd.method).1
  have X0 : Stand p l e ({ frames := 0, cells := 0, slots := 0, locals := 0 } : Room) s m #[(.ref o0), (.ref o1), (.int (0 : Int32)), (.int (0 : Int32))] below meth c s₁ [] 0 0 := Stand.of_body Bd
  have e0 : s₁.heap = h0 := by rw [← hh, Bd.state]; rfl
  have N0 := Fr.nil n0
  refine Ends.opn ?_
  intro QQ hQQ
  refine Ends.step (S' := s₁.setTop (mkF m 0 #[.val (.ref o0), .val (.ref o1), .val (.int (0 : Int32)), .val (.int (0 : Int32)), .unset, .unset, .unset] [])) (fun t k => castTop (ef_ct0 m o0 o1) k) ?_
  show Ends p e below QQ (s₁.setTop (mkF m 0 #[.val (.ref o0), .val (.ref o1), .val (.int (0 : Int32)), .val (.int (0 : Int32)), .unset, .unset, .unset] []))
  refine Ends.step (fun _ k => XS.iloadN X0.here hx rfl (hb hby d11_0) rfl k) ?_
  show Ends p e below QQ (s₁.setTop (mkF m 1 #[.val (.ref o0), .val (.ref o1), .val (.int (0 : Int32)), .val (.int (0 : Int32)), .unset, .unset, .unset] [(.int (0 : Int32))]))
  refine Ends.step (fun _ k => XS.istore X0.here hx rfl (hb hby d11_1) rfl (l' := #[.val (.ref o0), .val (.ref o1), .val (.int (0 : Int32)), .val (.int (0 : Int32)), .val (.int (0 : Int32)), .unset, .unset]) rfl k) ?_
  show Ends p e below QQ (s₁.setTop (mkF m 3 #[.val (.ref o0), .val (.ref o1), .val (.int (0 : Int32)), .val (.int (0 : Int32)), .val (.int (0 : Int32)), .unset, .unset] []))
  refine Ends.step (fun _ k => XS.iloadN X0.here hx rfl (hb hby d11_3) rfl k) ?_
  show Ends p e below QQ (s₁.setTop (mkF m 4 #[.val (.ref o0), .val (.ref o1), .val (.int (0 : Int32)), .val (.int (0 : Int32)), .val (.int (0 : Int32)), .unset, .unset] [(.int (0 : Int32))]))
  refine Ends.step (fun _ k => XS.iloadN X0.here hx rfl (hb hby d11_4) rfl k) ?_
  show Ends p e below QQ (s₁.setTop (mkF m 5 #[.val (.ref o0), .val (.ref o1), .val (.int (0 : Int32)), .val (.int (0 : Int32)), .val (.int (0 : Int32)), .unset, .unset] [(.int (0 : Int32)), (.int (0 : Int32))]))
  refine Ends.step (fun _ k => XS.iadd X0.here hx rfl (hb hby d11_5) rfl k) ?_
  show Ends p e below QQ (s₁.setTop (mkF m 6 #[.val (.ref o0), .val (.ref o1), .val (.int (0 : Int32)), .val (.int (0 : Int32)), .val (.int (0 : Int32)), .unset, .unset] [(.int (0 : Int32))]))
  refine Ends.step (fun _ k => XS.istore X0.here hx rfl (hb hby d11_6) rfl (l' := #[.val (.ref o0), .val (.ref o1), .val (.int (0 : Int32)), .val (.int (0 : Int32)), .val (.int (0 : Int32)), .val (.int (0 : Int32)), .unset]) rfl k) ?_
  show Ends p e below QQ (s₁.setTop (mkF m 8 #[.val (.ref o0), .val (.ref o1), .val (.int (0 : Int32)), .val (.int (0 : Int32)), .val (.int (0 : Int32)), .val (.int (0 : Int32)), .unset] []))
  refine Ends.step (fun _ k => XS.iload X0.here hx rfl (hb hby d11_8) rfl k) ?_
  show Ends p e below QQ (s₁.setTop (mkF m 10 #[.val (.ref o0), .val (.ref o1), .val (.int (0 : Int32)), .val (.int (0 : Int32)), .val (.int (0 : Int32)), .val (.int (0 : Int32)), .unset] [(.int (0 : Int32))]))
  refine Ends.step (fun _ k => XS.iload X0.here hx rfl (hb hby d11_10) rfl k) ?_
  show Ends p e below QQ (s₁.setTop (mkF m 12 #[.val (.ref o0), .val (.ref o1), .val (.int (0 : Int32)), .val (.int (0 : Int32)), .val (.int (0 : Int32)), .val (.int (0 : Int32)), .unset] [(.int (0 : Int32)), (.int (0 : Int32))]))
  refine Ends.step (fun _ k => XS.icmpYes X0.here hx rfl (pc0 := 12) (pc' := 115) rfl (hb hby d11_12) rfl (XT.ii_ge_t (by decide)) (by decide) (by decide) k) ?_
  show Ends p e below QQ (s₁.setTop (mkF m 115 #[.val (.ref o0), .val (.ref o1), .val (.int (0 : Int32)), .val (.int (0 : Int32)), .val (.int (0 : Int32)), .val (.int (0 : Int32)), .unset] []))
  refine Ends.step (fun _ k => XS.iload X0.here hx rfl (hb hby d11_115) rfl k) ?_
  show Ends p e below QQ (s₁.setTop (mkF m 117 #[.val (.ref o0), .val (.ref o1), .val (.int (0 : Int32)), .val (.int (0 : Int32)), .val (.int (0 : Int32)), .val (.int (0 : Int32)), .unset] [(.int (0 : Int32))]))
  refine Ends.step (fun _ k => XS.iloadN X0.here hx rfl (hb hby d11_117) rfl k) ?_
  show Ends p e below QQ (s₁.setTop (mkF m 118 #[.val (.ref o0), .val (.ref o1), .val (.int (0 : Int32)), .val (.int (0 : Int32)), .val (.int (0 : Int32)), .val (.int (0 : Int32)), .unset] [(.int (0 : Int32)), (.int (0 : Int32))]))
  refine Ends.step (fun _ k => XS.isub X0.here hx rfl (hb hby d11_118) rfl k) ?_
  show Ends p e below QQ (s₁.setTop (mkF m 119 #[.val (.ref o0), .val (.ref o1), .val (.int (0 : Int32)), .val (.int (0 : Int32)), .val (.int (0 : Int32)), .val (.int (0 : Int32)), .unset] [(.int (0 : Int32))]))
  exact Ends.fin (some (.int (0 : Int32))) X0 hQQ (fun h => by rw [Bd.returns] at h; cases h) Bd.notSynchronized (fun _ hr => retOut X0 hx (t := .int) Bd.returns rfl (Or.inl ⟨rfl, Or.inl rfl, _, rfl⟩) (hb hby d11_119) hr) e0 (by decide) (by decide) ⟨rfl, N0, rfl⟩
theorem d11_15 : decode prog_38_method_2_code 15 = .ok (.aload_n 0, 1) := by decide +kernel
theorem d11_16 : decode prog_38_method_2_code 16 = .ok (.getfield 29, 3) := by decide +kernel
theorem d11_19 : decode prog_38_method_2_code 19 = .ok (.getstatic 36, 3) := by decide +kernel
theorem d11_22 : decode prog_38_method_2_code 22 = .ok (.if_acmp .eq 93, 3) := by decide +kernel
theorem d11_25 : decode prog_38_method_2_code 25 = .ok (.aload_n 0, 1) := by decide +kernel
theorem d11_26 : decode prog_38_method_2_code 26 = .ok (.getfield 29, 3) := by decide +kernel
theorem d11_29 : decode prog_38_method_2_code 29 = .ok (.getstatic 39, 3) := by decide +kernel
theorem d11_32 : decode prog_38_method_2_code 32 = .ok (.if_acmp .ne 69, 3) := by decide +kernel
theorem d11_101 : decode prog_38_method_2_code 101 = .ok (.aload_n 0, 1) := by decide +kernel
theorem d11_102 : decode prog_38_method_2_code 102 = .ok (.aload_n 1, 1) := by decide +kernel
theorem d11_103 : decode prog_38_method_2_code 103 = .ok (.iload 4, 2) := by decide +kernel
theorem d11_105 : decode prog_38_method_2_code 105 = .ok (.iinc 4 1, 3) := by decide +kernel
theorem d11_108 : decode prog_38_method_2_code 108 = .ok (.baload, 1) := by decide +kernel
theorem d11_109 : decode prog_38_method_2_code 109 = .ok (.invokevirtual 59, 3) := by decide +kernel
theorem d11_112 : decode prog_38_method_2_code 112 = .ok (.goto (-104), 3) := by decide +kernel
theorem ef_ct1 (m : MethodId) (x0 : Addr) (x1 : Addr) : entryFrame m #[(.ref x0), (.ref x1), (.int (0 : Int32)), (.int (1 : Int32))] 7 = mkF m 0 #[.val (.ref x0), .val (.ref x1), .val (.int (0 : Int32)), .val (.int (1 : Int32)), .unset, .unset, .unset] [] := by first | (simp [entryFrame, mkF, argsToLocals, Value.category]; done) | rfl
def Qct1 (Z : State) (o0 : Addr) (o1 : Addr) (sb : Addr) (vb : Addr) (kb : ClassId) (a_SIZE_LINE : Addr) (a_ENDED : Addr) (a_DATA : Addr) (cs : Int32) (ka : ClassId) (bv : Int32) (h0 : Heap) (n0 : Nat) (v : Option Value) (h : Heap) (L : List Loc) : Prop := (v = some (.int (1 : Int32))) ∧ (Fr n0 L) ∧ (Keep h0 h [sb, vb])
set_option maxRecDepth 65536 in
set_option maxHeartbeats 40000000 in
theorem rmct1 (l : Launch) (Z : State) (a0 : Array Value) (hw : ∀ d ∈ tables_1, d.before a0 Z = true) (ws : List Jvm.Cond) (o0 : Addr) (o1 : Addr) (sb : Addr) (vb : Addr) (kb : ClassId) (a_SIZE_LINE : Addr) (a_ENDED : Addr) (a_DATA : Addr) (cs : Int32) (ka : ClassId) (bv : Int32) (h0 : Heap) (n0 : Nat) (Z0 : n0 ≤ h0.size) (E_o0 : Exa Z h0 o0 "com/example/gatehook/gatehook/http/ChunkedBody") (F_line_o0 : Fld Z h0 o0 "com/example/gatehook/gatehook/http/ChunkedBody" "line" "Ljava/lang/StringBuilder;" (.ref sb)) (F_part_o0 : Fld Z h0 o0 "com/example/gatehook/gatehook/http/ChunkedBody" "part" "Lcom/example/gatehook/gatehook/http/ChunkedBody$Part;" (.ref a_SIZE_LINE)) (E_sb : Exa Z h0 sb "java/lang/StringBuilder") (F_value_sb : Fld Z h0 sb "java/lang/AbstractStringBuilder" "value" "[B" (.ref vb)) (F_coder_sb : Fld Z h0 sb "java/lang/AbstractStringBuilder" "coder" "B" (.int (0 : Int32))) (F_count_sb : Fld Z h0 sb "java/lang/AbstractStringBuilder" "count" "I" (.int (0 : Int32))) (A_vb : Arv Z h0 vb kb .byte (16 : Int32) [(.int (0 : Int32)), (.int (0 : Int32)), (.int (0 : Int32)), (.int (0 : Int32)), (.int (0 : Int32)), (.int (0 : Int32)), (.int (0 : Int32)), (.int (0 : Int32)), (.int (0 : Int32)), (.int (0 : Int32)), (.int (0 : Int32)), (.int (0 : Int32)), (.int (0 : Int32)), (.int (0 : Int32)), (.int (0 : Int32)), (.int (0 : Int32))] (.int (0 : Int32))) (g_sb : n0 ≤ sb) (g_vb : n0 ≤ vb) (ne_sb_vb : sb ≠ vb) (F_ordinal_a_SIZE_LINE : Fld Z h0 a_SIZE_LINE "java/lang/Enum" "ordinal" "I" (.int (0 : Int32))) (E_a_SIZE_LINE : Exa Z h0 a_SIZE_LINE "com/example/gatehook/gatehook/http/ChunkedBody$Part") (S_COMPACT_STRINGS : Sta Z h0 "java/lang/String" "COMPACT_STRINGS" "Z" (.int cs)) (hcs : ¬ cs = (0 : Int32)) (S_ENDED : Sta Z h0 "com/example/gatehook/gatehook/http/ChunkedBody$Part" "ENDED" "Lcom/example/gatehook/gatehook/http/ChunkedBody$Part;" (.ref a_ENDED)) (S_DATA : Sta Z h0 "com/example/gatehook/gatehook/http/ChunkedBody$Part" "DATA" "Lcom/example/gatehook/gatehook/http/ChunkedBody$Part;" (.ref a_DATA)) (ne_a_SIZE_LINE_a_ENDED : a_SIZE_LINE ≠ a_ENDED) (ne_a_SIZE_LINE_a_DATA : a_SIZE_LINE ≠ a_DATA) (A_o1 : Arv Z h0 o1 ka .byte (1 : Int32) [(.int bv)] (.int (0 : Int32))) (ne_o1_sb : o1 ≠ sb) (ne_o1_vb : o1 ≠ vb) (ne_o0_sb : o0 ≠ sb) (ne_o0_vb : o0 ≠ vb) (h10 : ¬ bv = (10 : Int32)) (hc : ¬ (255 : Int32) < ((bv &&& (255 : Int32))).toUInt32.toUInt16.toUInt32.toInt32) :
    MetFree l (⟨"com/example/gatehook/gatehook/http/ChunkedBody", "take", "([BII)I"⟩ : MethodName) (head1 (Jvm.Cond.code (⟨"com/example/gatehook/gatehook/http/ChunkedBody", "take", "([BII)I"⟩ : MethodName) prog_38_method_2_code 7 (some .int) :: ws) ({ frames := 4, cells := 0, slots := 0, locals := 56 } : Room)) (fun a U => a = #[(.ref o0), (.ref o1), (.int (0 : Int32)), (.int (1 : Int32))] ∧ Z.Warmed39 U.vm ∧ U.heap = h0) (fun _ _ _ _ _ => True) (fun _ U o U' => ∃ v L, o = .returned v ∧ Qct1 Z o0 o1 sb vb kb a_SIZE_LINE a_ENDED a_DATA cs ka bv h0 n0 v U'.heap L ∧ FrameEnd U o U' L ({ frames := 4, cells := 0, slots := 0, locals := 56 } : Room).cells ({ frames := 4, cells := 0, slots := 0, locals := 56 } : Room).slots) := by
  refine MetFree.of_bodySF (plainFor_of_name pn_4) hisR ?_
  intro p e s m args below meth c s₁ Bd hml0 hP hK
  obtain ⟨rfl, hZ, hh⟩ := hP
  have hx := Bd.exec
  have hby := Bd.bytes
  have hml : c.maxLocals = 7 := hml0
  have hown : s.vm.findClass "com/example/gatehook/gatehook/http/ChunkedBody" = some m.cls := findClass_of_methodNamed Bd.named
  have hnm := (name_of_methodNamed Bd.named Bd.method).1
  have X0 : Stand p l e ({ frames := 4, cells := 0, slots := 0, locals := 56 } : Room) s m #[(.ref o0), (.ref o1), (.int (0 : Int32)), (.int (1 : Int32))] below meth c s₁ [] 0 0 := Stand.of_body Bd
  have e0 : s₁.heap = h0 := by rw [← hh, Bd.state]; rfl
  have N0 := Fr.nil n0
  refine Ends.opn ?_
  intro QQ hQQ
  refine Ends.step (S' := s₁.setTop (mkF m 0 #[.val (.ref o0), .val (.ref o1), .val (.int (0 : Int32)), .val (.int (1 : Int32)), .unset, .unset, .unset] [])) (fun t k => castTop (ef_ct1 m o0 o1) k) ?_
  show Ends p e below QQ (s₁.setTop (mkF m 0 #[.val (.ref o0), .val (.ref o1), .val (.int (0 : Int32)), .val (.int (1 : Int32)), .unset, .unset, .unset] []))
  refine Ends.step (fun _ k => XS.iloadN X0.here hx rfl (hb hby d11_0) rfl k) ?_
  show Ends p e below QQ (s₁.setTop (mkF m 1 #[.val (.ref o0), .val (.ref o1), .val (.int (0 : Int32)), .val (.int (1 : Int32)), .unset, .unset, .unset] [(.int (0 : Int32))]))
  refine Ends.step (fun _ k => XS.istore X0.here hx rfl (hb hby d11_1) rfl (l' := #[.val (.ref o0), .val (.ref o1), .val (.int (0 : Int32)), .val (.int (1 : Int32)), .val (.int (0 : Int32)), .unset, .unset]) rfl k) ?_
  show Ends p e below QQ (s₁.setTop (mkF m 3 #[.val (.ref o0), .val (.ref o1), .val (.int (0 : Int32)), .val (.int (1 : Int32)), .val (.int (0 : Int32)), .unset, .unset] []))
  refine Ends.step (fun _ k => XS.iloadN X0.here hx rfl (hb hby d11_3) rfl k) ?_
  show Ends p e below QQ (s₁.setTop (mkF m 4 #[.val (.ref o0), .val (.ref o1), .val (.int (0 : Int32)), .val (.int (1 : Int32)), .val (.int (0 : Int32)), .unset, .unset] [(.int (0 : Int32))]))
  refine Ends.step (fun _ k => XS.iloadN X0.here hx rfl (hb hby d11_4) rfl k) ?_
  show Ends p e below QQ (s₁.setTop (mkF m 5 #[.val (.ref o0), .val (.ref o1), .val (.int (0 : Int32)), .val (.int (1 : Int32)), .val (.int (0 : Int32)), .unset, .unset] [(.int (1 : Int32)), (.int (0 : Int32))]))
  refine Ends.step (fun _ k => XS.iadd X0.here hx rfl (hb hby d11_5) rfl k) ?_
  show Ends p e below QQ (s₁.setTop (mkF m 6 #[.val (.ref o0), .val (.ref o1), .val (.int (0 : Int32)), .val (.int (1 : Int32)), .val (.int (0 : Int32)), .unset, .unset] [(.int (1 : Int32))]))
  refine Ends.step (fun _ k => XS.istore X0.here hx rfl (hb hby d11_6) rfl (l' := #[.val (.ref o0), .val (.ref o1), .val (.int (0 : Int32)), .val (.int (1 : Int32)), .val (.int (0 : Int32)), .val (.int (1 : Int32)), .unset]) rfl k) ?_
  show Ends p e below QQ (s₁.setTop (mkF m 8 #[.val (.ref o0), .val (.ref o1), .val (.int (0 : Int32)), .val (.int (1 : Int32)), .val (.int (0 : Int32)), .val (.int (1 : Int32)), .unset] []))
  refine Ends.step (fun _ k => XS.iload X0.here hx rfl (hb hby d11_8) rfl k) ?_
  show Ends p e below QQ (s₁.setTop (mkF m 10 #[.val (.ref o0), .val (.ref o1), .val (.int (0 : Int32)), .val (.int (1 : Int32)), .val (.int (0 : Int32)), .val (.int (1 : Int32)), .unset] [(.int (0 : Int32))]))
  refine Ends.step (fun _ k => XS.iload X0.here hx rfl (hb hby d11_10) rfl k) ?_
  show Ends p e below QQ (s₁.setTop (mkF m 12 #[.val (.ref o0), .val (.ref o1), .val (.int (0 : Int32)), .val (.int (1 : Int32)), .val (.int (0 : Int32)), .val (.int (1 : Int32)), .unset] [(.int (1 : Int32)), (.int (0 : Int32))]))
  refine Ends.step (fun _ k => XS.icmpNo X0.here hx rfl (hb hby d11_12) rfl (XT.ii_ge_f (by decide)) k) ?_
  show Ends p e below QQ (s₁.setTop (mkF m 15 #[.val (.ref o0), .val (.ref o1), .val (.int (0 : Int32)), .val (.int (1 : Int32)), .val (.int (0 : Int32)), .val (.int (1 : Int32)), .unset] []))
  refine Ends.step (fun _ k => XS.aloadN X0.here hx rfl (hb hby d11_15) rfl rfl k) ?_
  show Ends p e below QQ (s₁.setTop (mkF m 16 #[.val (.ref o0), .val (.ref o1), .val (.int (0 : Int32)), .val (.int (1 : Int32)), .val (.int (0 : Int32)), .val (.int (1 : Int32)), .unset] [(.ref o0)]))
  obtain ⟨T88, X88, e88, st88⟩ := getF X0 hx hZ hown (host := "") (Or.inl (hw _ (List.mem_of_getElem? (i := 73) rfl))) Via.refl e0 F_part_o0 (g := (mkF m 16 #[.val (.ref o0), .val (.ref o1), .val (.int (0 : Int32)), .val (.int (1 : Int32)), .val (.int (0 : Int32)), .val (.int (1 : Int32)), .unset] [(.ref o0)])) rfl rfl (hb hby d11_16)
  refine Ends.step st88 ?_
  show Ends p e below QQ (T88.setTop (mkF m 19 #[.val (.ref o0), .val (.ref o1), .val (.int (0 : Int32)), .val (.int (1 : Int32)), .val (.int (0 : Int32)), .val (.int (1 : Int32)), .unset] [(.ref a_SIZE_LINE)]))
  obtain ⟨T89, X89, e89, st89⟩ := getS2 X88 hx hZ hown (host := "") (Or.inl (hw _ (List.mem_of_getElem? (i := 102) rfl))) Via.refl e88 S_ENDED (g := (mkF m 19 #[.val (.ref o0), .val (.ref o1), .val (.int (0 : Int32)), .val (.int (1 : Int32)), .val (.int (0 : Int32)), .val (.int (1 : Int32)), .unset] [(.ref a_SIZE_LINE)])) rfl (hb hby d11_19)
  refine Ends.step st89 ?_
  show Ends p e below QQ (T89.setTop (mkF m 22 #[.val (.ref o0), .val (.ref o1), .val (.int (0 : Int32)), .val (.int (1 : Int32)), .val (.int (0 : Int32)), .val (.int (1 : Int32)), .unset] [(.ref a_ENDED), (.ref a_SIZE_LINE)]))
  refine Ends.step (fun _ k => Jvm.RoadKit.acmp (g := (mkF m 22 #[.val (.ref o0), .val (.ref o1), .val (.int (0 : Int32)), .val (.int (1 : Int32)), .val (.int (0 : Int32)), .val (.int (1 : Int32)), .unset] [(.ref a_ENDED), (.ref a_SIZE_LINE)])) X89 hx rfl rfl rfl (pc0 := 22) (pc' := 25) (same := false) rfl (hb hby d11_22) rfl (decide_eq_false fun q => ne_a_SIZE_LINE_a_ENDED (Value.ref.inj q)) (by decide) (by decide) k) ?_
  show Ends p e below QQ (T89.setTop (mkF m 25 #[.val (.ref o0), .val (.ref o1), .val (.int (0 : Int32)), .val (.int (1 : Int32)), .val (.int (0 : Int32)), .val (.int (1 : Int32)), .unset] []))
  refine Ends.step (fun _ k => XS.aloadN X89.here hx rfl (hb hby d11_25) rfl rfl k) ?_
  show Ends p e below QQ (T89.setTop (mkF m 26 #[.val (.ref o0), .val (.ref o1), .val (.int (0 : Int32)), .val (.int (1 : Int32)), .val (.int (0 : Int32)), .val (.int (1 : Int32)), .unset] [(.ref o0)]))
  obtain ⟨T90, X90, e90, st90⟩ := getF X89 hx hZ hown (host := "") (Or.inl (hw _ (List.mem_of_getElem? (i := 73) rfl))) Via.refl e89 F_part_o0 (g := (mkF m 26 #[.val (.ref o0), .val (.ref o1), .val (.int (0 : Int32)), .val (.int (1 : Int32)), .val (.int (0 : Int32)), .val (.int (1 : Int32)), .unset] [(.ref o0)])) rfl rfl (hb hby d11_26)
  refine Ends.step st90 ?_
  show Ends p e below QQ (T90.setTop (mkF m 29 #[.val (.ref o0), .val (.ref o1), .val (.int (0 : Int32)), .val (.int (1 : Int32)), .val (.int (0 : Int32)), .val (.int (1 : Int32)), .unset] [(.ref a_SIZE_LINE)]))
  obtain ⟨T91, X91, e91, st91⟩ := getS2 X90 hx hZ hown (host := "") (Or.inl (hw _ (List.mem_of_getElem? (i := 118) rfl))) Via.refl e90 S_DATA (g := (mkF m 29 #[.val (.ref o0), .val (.ref o1), .val (.int (0 : Int32)), .val (.int (1 : Int32)), .val (.int (0 : Int32)), .val (.int (1 : Int32)), .unset] [(.ref a_SIZE_LINE)])) rfl (hb hby d11_29)
  refine Ends.step st91 ?_
  show Ends p e below QQ (T91.setTop (mkF m 32 #[.val (.ref o0), .val (.ref o1), .val (.int (0 : Int32)), .val (.int (1 : Int32)), .val (.int (0 : Int32)), .val (.int (1 : Int32)), .unset] [(.ref a_DATA), (.ref a_SIZE_LINE)]))
  refine Ends.step (fun _ k => Jvm.RoadKit.acmp (g := (mkF m 32 #[.val (.ref o0), .val (.ref o1), .val (.int (0 : Int32)), .val (.int (1 : Int32)), .val (.int (0 : Int32)), .val (.int (1 : Int32)), .unset] [(.ref a_DATA), (.ref a_SIZE_LINE)])) X91 hx rfl rfl rfl (pc0 := 32) (pc' := 101) (same := false) rfl (hb hby d11_32) rfl (decide_eq_false fun q => ne_a_SIZE_LINE_a_DATA (Value.ref.inj q)) (by decide) (by decide) k) ?_
  show Ends p e below QQ (T91.setTop (mkF m 101 #[.val (.ref o0), .val (.ref o1), .val (.int (0 : Int32)), .val (.int (1 : Int32)), .val (.int (0 : Int32)), .val (.int (1 : Int32)), .unset] []))
  refine Ends.step (fun _ k => XS.aloadN X91.here hx rfl (hb hby d11_101) rfl rfl k) ?_
  show Ends p e below QQ (T91.setTop (mkF m 102 #[.val (.ref o0), .val (.ref o1), .val (.int (0 : Int32)), .val (.int (1 : Int32)), .val (.int (0 : Int32)), .val (.int (1 : Int32)), .unset] [(.ref o0)]))
  refine Ends.step (fun _ k => XS.aloadN X91.here hx rfl (hb hby d11_102) rfl rfl k) ?_
  show Ends p e below QQ (T91.setTop (mkF m 103 #[.val (.ref o0), .val (.ref o1), .val (.int (0 : Int32)), .val (.int (1 : Int32)), .val (.int (0 : Int32)), .val (.int (1 : Int32)), .unset] [(.ref o1), (.ref o0)]))
  refine Ends.step (fun _ k => XS.iload X91.here hx rfl (hb hby d11_103) rfl k) ?_
  show Ends p e below QQ (T91.setTop (mkF m 105 #[.val (.ref o0), .val (.ref o1), .val (.int (0 : Int32)), .val (.int (1 : Int32)), .val (.int (0 : Int32)), .val (.int (1 : Int32)), .unset] [(.int (0 : Int32)), (.ref o1), (.ref o0)]))
  refine Ends.step (fun _ k => XT.iincV X91.here hx rfl (1 : Int32) (hb hby d11_105) rfl rfl (l' := #[.val (.ref o0), .val (.ref o1), .val (.int (0 : Int32)), .val (.int (1 : Int32)), .val (.int (1 : Int32)), .val (.int (1 : Int32)), .unset]) rfl k) ?_
  show Ends p e below QQ (T91.setTop (mkF m 108 #[.val (.ref o0), .val (.ref o1), .val (.int (0 : Int32)), .val (.int (1 : Int32)), .val (.int (1 : Int32)), .val (.int (1 : Int32)), .unset] [(.int (0 : Int32)), (.ref o1), (.ref o0)]))
  obtain ⟨cl92, Ar92, q92, S92, P92, H92, G92⟩ := id A_o1
  have hin92 : ¬ ((0 : Int32) < 0 ∨ cl92.slots.size ≤ ((0 : Int32)).toNatClampNeg) := inb_of S92 ⟨by decide, by decide⟩
  have hat92 : cl92.slots[((0 : Int32)).toNatClampNeg]? = some (.int bv) := H92.at hin92 (rfl)
  refine Ends.step (fun _ k => X91.baloadBytes hx (j := (0 : Int32)) (v := (.int bv)) (by rw [e91]; exact Ar92.1) (State.isArrayOf_alike hZ.alike Ar92.2.1) Ar92.2.2 hin92 hat92 (g := (mkF m 108 #[.val (.ref o0), .val (.ref o1), .val (.int (0 : Int32)), .val (.int (1 : Int32)), .val (.int (1 : Int32)), .val (.int (1 : Int32)), .unset] [(.int (0 : Int32)), (.ref o1), (.ref o0)])) rfl rfl (hb hby d11_108) _ k) ?_
  show Ends p e below QQ (T91.setTop (mkF m 109 #[.val (.ref o0), .val (.ref o1), .val (.int (0 : Int32)), .val (.int (1 : Int32)), .val (.int (1 : Int32)), .val (.int (1 : Int32)), .unset] [(.int bv), (.ref o0)]))
  obtain ⟨cq93, q93, q93'⟩ := E_o0.cell
  obtain ⟨_, _, ⟨T93, L93, k93, n93⟩, -, X93, ⟨Lc93, hQ93, l93, y93, z93⟩, st93⟩ := X91.privateBack hx (y := (⟨"com/example/gatehook/gatehook/http/ChunkedBody", "lineByte", "(B)V"⟩ : MethodName)) hown (mvT hZ (hw _ (List.mem_of_getElem? (i := 120) rfl))) (mvT hZ (hw _ (List.mem_of_getElem? (i := 121) rfl))) (mvT hZ (own_selq (y := (⟨"com/example/gatehook/gatehook/http/ChunkedBody", "lineByte", "(B)V"⟩ : MethodName)) (hw _ (List.mem_of_getElem? (i := 95) rfl)) rfl (hw _ (List.mem_of_getElem? (i := 122) rfl)) (hw _ (List.mem_of_getElem? (i := 121) rfl)) (by decide))) (Cond.privateMethod_at (mvP hZ (hw _ (List.mem_of_getElem? (i := 122) rfl)) (args := #[]))) (mvT hZ (hw _ (List.mem_of_getElem? (i := 123) rfl))) (by decide) (backOf (W := 0) (rmlb l Z a0 hw [] o0 bv sb vb kb a_SIZE_LINE cs h0 n0 (Nat.le_trans Z0 (Keep.refl h0 [sb, vb]).1) F_line_o0 F_part_o0 E_sb F_value_sb F_coder_sb F_count_sb A_vb g_sb g_vb ne_sb_vb F_ordinal_a_SIZE_LINE E_a_SIZE_LINE S_COMPACT_STRINGS hcs h10 hc) hZ (hw _ (List.mem_of_getElem? (i := 123) rfl)) (hw _ (List.mem_of_getElem? (i := 22) rfl)) (by decide) (by decide)) (g := (mkF m 109 #[.val (.ref o0), .val (.ref o1), .val (.int (0 : Int32)), .val (.int (1 : Int32)), .val (.int (1 : Int32)), .val (.int (1 : Int32)), .unset] [(.int bv), (.ref o0)])) rfl (by rw [hml]; rfl) (Steps.refl _) (a := o0) (by rw [e91]; exact q93) q93' (argsL := [(.int bv)]) (rest := []) (lenOf pd_10 rfl) rfl (by show 2 * 0 + _ ≤ _; exact Nat.le_of_eq rfl) (hb hby d11_109) (fun _ _ => ⟨rfl, e91, (by decide : 0 + 0 ≤ _), (by decide : 0 + 0 ≤ _)⟩)
  dsimp only [Pt.U, Pt.locs, Pt.cells, Pt.slots] at X93 l93 y93 z93 st93 hQ93
  subst l93 y93 z93
  obtain ⟨rfl, Nq93, Kq93⟩ := hQ93
  have N93 := Fr.app N0 Nq93
  have S_COMPACT_STRINGS := own_sta_keep S_COMPACT_STRINGS Kq93 (allS E_sb.cell (allS (own_arv_cell A_vb) all0))
  have S_ENDED := own_sta_keep S_ENDED Kq93 (allS E_sb.cell (allS (own_arv_cell A_vb) all0))
  have S_DATA := own_sta_keep S_DATA Kq93 (allS E_sb.cell (allS (own_arv_cell A_vb) all0))
  have E_o0 := E_o0.keep Kq93
  have F_line_o0 := F_line_o0.keep Kq93 (ninS ne_o0_sb (ninS ne_o0_vb nin0))
  have F_part_o0 := F_part_o0.keep Kq93 (ninS ne_o0_sb (ninS ne_o0_vb nin0))
  have E_sb := E_sb.keep Kq93
  have E_a_SIZE_LINE := E_a_SIZE_LINE.keep Kq93
  have A_o1 := A_o1.keep Kq93 (ninS ne_o1_sb (ninS ne_o1_vb nin0))
  have K93 := (Keep.refl h0 [sb, vb]).trans Kq93 (allS (Or.inl (List.mem_of_getElem? (i := 0) rfl)) (allS (Or.inl (List.mem_of_getElem? (i := 1) rfl)) all0))
  refine Ends.step (fun _ k => st93.trans k) ?_
  show Ends p e below QQ (T93.setTop (mkF m 112 #[.val (.ref o0), .val (.ref o1), .val (.int (0 : Int32)), .val (.int (1 : Int32)), .val (.int (1 : Int32)), .val (.int (1 : Int32)), .unset] []))
  refine Ends.step (fun _ k => XS.goto X93.here hx rfl (pc0 := 112) (pc' := 8) rfl (hb hby d11_112) (by decide) (by decide) k) ?_
  show Ends p e below QQ (T93.setTop (mkF m 8 #[.val (.ref o0), .val (.ref o1), .val (.int (0 : Int32)), .val (.int (1 : Int32)), .val (.int (1 : Int32)), .val (.int (1 : Int32)), .unset] []))
  refine Ends.step (fun _ k => XS.iload X93.here hx rfl (hb hby d11_8) rfl k) ?_
  show Ends p e below QQ (T93.setTop (mkF m 10 #[.val (.ref o0), .val (.ref o1), .val (.int (0 : Int32)), .val (.int (1 : Int32)), .val (.int (1 : Int32)), .val (.int (1 : Int32)), .unset] [(.int (1 : Int32))]))
  refine Ends.step (fun _ k => XS.iload X93.here hx rfl (hb hby d11_10) rfl k) ?_
  show Ends p e below QQ (T93.setTop (mkF m 12 #[.val (.ref o0), .val (.ref o1), .val (.int (0 : Int32)), .val (.int (1 : Int32)), .val (.int (1 : Int32)), .val (.int (1 : Int32)), .unset] [(.int (1 : Int32)), (.int (1 : Int32))]))
  refine Ends.step (fun _ k => XS.icmpYes X93.here hx rfl (pc0 := 12) (pc' := 115) rfl (hb hby d11_12) rfl (XT.ii_ge_t (by decide)) (by decide) (by decide) k) ?_
  show Ends p e below QQ (T93.setTop (mkF m 115 #[.val (.ref o0), .val (.ref o1), .val (.int (0 : Int32)), .val (.int (1 : Int32)), .val (.int (1 : Int32)), .val (.int (1 : Int32)), .unset] []))
  refine Ends.step (fun _ k => XS.iload X93.here hx rfl (hb hby d11_115) rfl k) ?_
  show Ends p e below QQ (T93.setTop (mkF m 117 #[.val (.ref o0), .val (.ref o1), .val (.int (0 : Int32)), .val (.int (1 : Int32)), .val (.int (1 : Int32)), .val (.int (1 : Int32)), .unset] [(.int (1 : Int32))]))
  refine Ends.step (fun _ k => XS.iloadN X93.here hx rfl (hb hby d11_117) rfl k) ?_
  show Ends p e below QQ (T93.setTop (mkF m 118 #[.val (.ref o0), .val (.ref o1), .val (.int (0 : Int32)), .val (.int (1 : Int32)), .val (.int (1 : Int32)), .val (.int (1 : Int32)), .unset] [(.int (0 : Int32)), (.int (1 : Int32))]))
  refine Ends.step (fun _ k => XS.isub X93.here hx rfl (hb hby d11_118) rfl k) ?_
  show Ends p e below QQ (T93.setTop (mkF m 119 #[.val (.ref o0), .val (.ref o1), .val (.int (0 : Int32)), .val (.int (1 : Int32)), .val (.int (1 : Int32)), .val (.int (1 : Int32)), .unset] [(.int (1 : Int32))]))
  exact Ends.fin (some (.int (1 : Int32))) X93 hQQ (fun h => by rw [Bd.returns] at h; cases h) Bd.notSynchronized (fun _ hr => retOut X93 hx (t := .int) Bd.returns rfl (Or.inl ⟨rfl, Or.inl rfl, _, rfl⟩) (hb hby d11_119) hr) rfl (by decide) (by decide) ⟨rfl, N93, K93⟩
theorem d12_0 : decode prog_38_method_3_code 0 = .ok (.aload_n 0, 1) := by decide +kernel
theorem d12_1 : decode prog_38_method_3_code 1 = .ok (.getfield 29, 3) := by decide +kernel
theorem d12_4 : decode prog_38_method_3_code 4 = .ok (.getstatic 36, 3) := by decide +kernel
theorem d12_7 : decode prog_38_method_3_code 7 = .ok (.if_acmp .ne 7, 3) := by decide +kernel
theorem d12_14 : decode prog_38_method_3_code 14 = .ok (.iconst 0, 1) := by decide +kernel
theorem d12_15 : decode prog_38_method_3_code 15 = .ok (.ireturn, 1) := by decide +kernel
theorem ef_ise (m : MethodId) (x0 : Addr) : entryFrame m #[(.ref x0)] 1 = mkF m 0 #[.val (.ref x0)] [] := by first | (simp [entryFrame, mkF, argsToLocals, Value.category]; done) | rfl
def Qise (Z : State) (o0 : Addr) (a_SIZE_LINE : Addr) (a_ENDED : Addr) (h0 : Heap) (n0 : Nat) (v : Option Value) (h : Heap) (L : List Loc) : Prop := (v = some (.int (0 : Int32))) ∧ (Fr n0 L) ∧ (h = h0)
set_option maxRecDepth 65536 in
set_option maxHeartbeats 40000000 in
theorem rmise (l : Launch) (Z : State) (a0 : Array Value) (hw : ∀ d ∈ tables_1, d.before a0 Z = true) (ws : List Jvm.Cond) (o0 : Addr) (a_SIZE_LINE : Addr) (a_ENDED : Addr) (h0 : Heap) (n0 : Nat) (Z0 : n0 ≤ h0.size) (F_part_o0 : Fld Z h0 o0 "com/example/gatehook/gatehook/http/ChunkedBody" "part" "Lcom/example/gatehook/gatehook/http/ChunkedBody$Part;" (.ref a_SIZE_LINE)) (S_ENDED : Sta Z h0 "com/example/gatehook/gatehook/http/ChunkedBody$Part" "ENDED" "Lcom/example/gatehook/gatehook/http/ChunkedBody$Part;" (.ref a_ENDED)) (ne_a_SIZE_LINE_a_ENDED : a_SIZE_LINE ≠ a_ENDED) :
    MetFree l (⟨"com/example/gatehook/gatehook/http/ChunkedBody", "isEnded", "()Z"⟩ : MethodName) (head1 (Jvm.Cond.code (⟨"com/example/gatehook/gatehook/http/ChunkedBody", "isEnded", "()Z"⟩ : MethodName) prog_38_method_3_code 1 (some .boolean) :: ws) ({ frames := 0, cells := 0, slots := 0, locals := 0 } : Room)) (fun a U => a = #[(.ref o0)] ∧ Z.Warmed39 U.vm ∧ U.heap = h0) (fun _ _ _ _ _ => True) (fun _ U o U' => ∃ v L, o = .returned v ∧ Qise Z o0 a_SIZE_LINE a_ENDED h0 n0 v U'.heap L ∧ FrameEnd U o U' L ({ frames := 0, cells := 0, slots := 0, locals := 0 } : Room).cells ({ frames := 0, cells := 0, slots := 0, locals := 0 } : Room).slots) := by
  refine MetFree.of_bodySF (plainFor_of_name pn_4) hisR ?_
  intro p e s m args below meth c s₁ Bd hml0 hP hK
  obtain ⟨rfl, hZ, hh⟩ := hP
  have hx := Bd.exec
  have hby := Bd.bytes
  have hml : c.maxLocals = 1 := hml0
  have hown : s.vm.findClass "com/example/gatehook/gatehook/http/ChunkedBody" = some m.cls := findClass_of_methodNamed Bd.named
  have hnm := (name_of_methodNamed Bd.named Bd.method).1
  have X0 : Stand p l e ({ frames := 0, cells := 0, slots := 0, locals := 0 } : Room) s m #[(.ref o0)] below meth c s₁ [] 0 0 := Stand.of_body Bd
  have e0 : s₁.heap = h0 := by rw [← hh, Bd.state]; rfl
  have N0 := Fr.nil n0
  refine Ends.opn ?_
  intro QQ hQQ
  refine Ends.step (S' := s₁.setTop (mkF m 0 #[.val (.ref o0)] [])) (fun t k => castTop (ef_ise m o0) k) ?_
  show Ends p e below QQ (s₁.setTop (mkF m 0 #[.val (.ref o0)] []))
  refine Ends.step (fun _ k => XS.aloadN X0.here hx rfl (hb hby d12_0) rfl rfl k) ?_
  show Ends p e below QQ (s₁.setTop (mkF m 1 #[.val (.ref o0)] [(.ref o0)]))
  obtain ⟨T94, X94, e94, st94⟩ := getF X0 hx hZ hown (host := "") (Or.inl (hw _ (List.mem_of_getElem? (i := 73) rfl))) Via.refl e0 F_part_o0 (g := (mkF m 1 #[.val (.ref o0)] [(.ref o0)])) rfl rfl (hb hby d12_1)
  refine Ends.step st94 ?_
  show Ends p e below QQ (T94.setTop (mkF m 4 #[.val (.ref o0)] [(.ref a_SIZE_LINE)]))
  obtain ⟨T95, X95, e95, st95⟩ := getS2 X94 hx hZ hown (host := "") (Or.inl (hw _ (List.mem_of_getElem? (i := 102) rfl))) Via.refl e94 S_ENDED (g := (mkF m 4 #[.val (.ref o0)] [(.ref a_SIZE_LINE)])) rfl (hb hby d12_4)
  refine Ends.step st95 ?_
  show Ends p e below QQ (T95.setTop (mkF m 7 #[.val (.ref o0)] [(.ref a_ENDED), (.ref a_SIZE_LINE)]))
  refine Ends.step (fun _ k => Jvm.RoadKit.acmp (g := (mkF m 7 #[.val (.ref o0)] [(.ref a_ENDED), (.ref a_SIZE_LINE)])) X95 hx rfl rfl rfl (pc0 := 7) (pc' := 14) (same := false) rfl (hb hby d12_7) rfl (decide_eq_false fun q => ne_a_SIZE_LINE_a_ENDED (Value.ref.inj q)) (by decide) (by decide) k) ?_
  show Ends p e below QQ (T95.setTop (mkF m 14 #[.val (.ref o0)] []))
  refine Ends.step (fun _ k => XT.iconstV X95.here hx rfl (0 : Int32) (hb hby d12_14) rfl k) ?_
  show Ends p e below QQ (T95.setTop (mkF m 15 #[.val (.ref o0)] [(.int (0 : Int32))]))
  exact Ends.fin (some (.int (0 : Int32))) X95 hQQ (fun h => by rw [Bd.returns] at h; cases h) Bd.notSynchronized (fun _ hr => retOut X95 hx (t := .boolean) Bd.returns rfl (Or.inl ⟨rfl, (by simp), _, rfl⟩) (hb hby d12_15) hr) e95 (by decide) (by decide) ⟨rfl, N0, rfl⟩
theorem d10_0 : decode prog_42_method_2_code 0 = .ok (.aload_n 0, 1) := by decide +kernel
theorem d10_1 : decode prog_42_method_2_code 1 = .ok (.getfield 37, 3) := by decide +kernel
theorem d10_4 : decode prog_42_method_2_code 4 = .ok (.ifCond .eq 5, 3) := by decide +kernel
theorem d10_7 : decode prog_42_method_2_code 7 = .ok (.iconst 0, 1) := by decide +kernel
theorem d10_8 : decode prog_42_method_2_code 8 = .ok (.ireturn, 1) := by decide +kernel
theorem ef_te (m : MethodId) (x0 : Addr) (x1 : Addr) (x2 : Int32) (x3 : Int32) : entryFrame m #[(.ref x0), (.ref x1), (.int x2), (.int x3)] 7 = mkF m 0 #[.val (.ref x0), .val (.ref x1), .val (.int x2), .val (.int x3), .unset, .unset, .unset] [] := by first | (simp [entryFrame, mkF, argsToLocals, Value.category]; done) | rfl
def Qte (Z : State) (o0 : Addr) (o1 : Addr) (p2 : Int32) (p3 : Int32) (h0 : Heap) (n0 : Nat) (v : Option Value) (h : Heap) (L : List Loc) : Prop := (v = some (.int (0 : Int32))) ∧ (Fr n0 L) ∧ (h = h0)
set_option maxRecDepth 65536 in
set_option maxHeartbeats 40000000 in
theorem rmte (l : Launch) (Z : State) (a0 : Array Value) (hw : ∀ d ∈ tables_1, d.before a0 Z = true) (ws : List Jvm.Cond) (o0 : Addr) (o1 : Addr) (p2 : Int32) (p3 : Int32) (h0 : Heap) (n0 : Nat) (Z0 : n0 ≤ h0.size) (F_ended_o0 : Fld Z h0 o0 "com/example/gatehook/gatehook/http/IncomingBody" "ended" "Z" (.int (1 : Int32))) :
    MetFree l (⟨"com/example/gatehook/gatehook/http/IncomingBody", "take", "([BII)I"⟩ : MethodName) (head1 (Jvm.Cond.code (⟨"com/example/gatehook/gatehook/http/IncomingBody", "take", "([BII)I"⟩ : MethodName) prog_42_method_2_code 7 (some .int) :: ws) ({ frames := 0, cells := 0, slots := 0, locals := 0 } : Room)) (fun a U => a = #[(.ref o0), (.ref o1), (.int p2), (.int p3)] ∧ Z.Warmed39 U.vm ∧ U.heap = h0) (fun _ _ _ _ _ => True) (fun _ U o U' => ∃ v L, o = .returned v ∧ Qte Z o0 o1 p2 p3 h0 n0 v U'.heap L ∧ FrameEnd U o U' L ({ frames := 0, cells := 0, slots := 0, locals := 0 } : Room).cells ({ frames := 0, cells := 0, slots := 0, locals := 0 } : Room).slots) := by
  refine MetFree.of_bodySF (plainFor_of_name pn_5) hisR ?_
  intro p e s m args below meth c s₁ Bd hml0 hP hK
  obtain ⟨rfl, hZ, hh⟩ := hP
  have hx := Bd.exec
  have hby := Bd.bytes
  have hml : c.maxLocals = 7 := hml0
  have hown : s.vm.findClass "com/example/gatehook/gatehook/http/IncomingBody" = some m.cls := findClass_of_methodNamed Bd.named
  have hnm := (name_of_methodNamed Bd.named Bd.method).1
  have X0 : Stand p l e ({ frames := 0, cells := 0, slots := 0, locals := 0 } : Room) s m #[(.ref o0), (.ref o1), (.int p2), (.int p3)] below meth c s₁ [] 0 0 := Stand.of_body Bd
  have e0 : s₁.heap = h0 := by rw [← hh, Bd.state]; rfl
  have N0 := Fr.nil n0
  refine Ends.opn ?_
  intro QQ hQQ
  refine Ends.step (S' := s₁.setTop (mkF m 0 #[.val (.ref o0), .val (.ref o1), .val (.int p2), .val (.int p3), .unset, .unset, .unset] [])) (fun t k => castTop (ef_te m o0 o1 p2 p3) k) ?_
  show Ends p e below QQ (s₁.setTop (mkF m 0 #[.val (.ref o0), .val (.ref o1), .val (.int p2), .val (.int p3), .unset, .unset, .unset] []))
  refine Ends.step (fun _ k => XS.aloadN X0.here hx rfl (hb hby d10_0) rfl rfl k) ?_
  show Ends p e below QQ (s₁.setTop (mkF m 1 #[.val (.ref o0), .val (.ref o1), .val (.int p2), .val (.int p3), .unset, .unset, .unset] [(.ref o0)]))
  obtain ⟨T96, X96, e96, st96⟩ := getF X0 hx hZ hown (host := "") (Or.inl (hw _ (List.mem_of_getElem? (i := 90) rfl))) Via.refl e0 F_ended_o0 (g := (mkF m 1 #[.val (.ref o0), .val (.ref o1), .val (.int p2), .val (.int p3), .unset, .unset, .unset] [(.ref o0)])) rfl rfl (hb hby d10_1)
  refine Ends.step st96 ?_
  show Ends p e below QQ (T96.setTop (mkF m 4 #[.val (.ref o0), .val (.ref o1), .val (.int p2), .val (.int p3), .unset, .unset, .unset] [(.int (1 : Int32))]))
  refine Ends.step (fun _ k => XS.ifNo X96.here hx rfl (hb hby d10_4) rfl (XT.i0_eq_f (by decide)) k) ?_
  show Ends p e below QQ (T96.setTop (mkF m 7 #[.val (.ref o0), .val (.ref o1), .val (.int p2), .val (.int p3), .unset, .unset, .unset] []))
  refine Ends.step (fun _ k => XT.iconstV X96.here hx rfl (0 : Int32) (hb hby d10_7) rfl k) ?_
  show Ends p e below QQ (T96.setTop (mkF m 8 #[.val (.ref o0), .val (.ref o1), .val (.int p2), .val (.int p3), .unset, .unset, .unset] [(.int (0 : Int32))]))
  exact Ends.fin (some (.int (0 : Int32))) X96 hQQ (fun h => by rw [Bd.returns] at h; cases h) Bd.notSynchronized (fun _ hr => retOut X96 hx (t := .int) Bd.returns rfl (Or.inl ⟨rfl, Or.inl rfl, _, rfl⟩) (hb hby d10_8) hr) e96 (by decide) (by decide) ⟨rfl, N0, rfl⟩
theorem d10_9 : decode prog_42_method_2_code 9 = .ok (.aload_n 0, 1) := by decide +kernel
theorem d10_10 : decode prog_42_method_2_code 10 = .ok (.getfield 33, 3) := by decide +kernel
theorem d10_13 : decode prog_42_method_2_code 13 = .ok (.ifnull 49, 3) := by decide +kernel
theorem d10_16 : decode prog_42_method_2_code 16 = .ok (.aload_n 0, 1) := by decide +kernel
theorem d10_17 : decode prog_42_method_2_code 17 = .ok (.getfield 33, 3) := by decide +kernel
theorem d10_20 : decode prog_42_method_2_code 20 = .ok (.aload_n 1, 1) := by decide +kernel
theorem d10_21 : decode prog_42_method_2_code 21 = .ok (.iload_n 2, 1) := by decide +kernel
theorem d10_22 : decode prog_42_method_2_code 22 = .ok (.iload_n 3, 1) := by decide +kernel
theorem d10_23 : decode prog_42_method_2_code 23 = .ok (.invokevirtual 41, 3) := by decide +kernel
theorem d10_26 : decode prog_42_method_2_code 26 = .ok (.istore 4, 2) := by decide +kernel
theorem d10_28 : decode prog_42_method_2_code 28 = .ok (.aload_n 0, 1) := by decide +kernel
theorem d10_29 : decode prog_42_method_2_code 29 = .ok (.getfield 33, 3) := by decide +kernel
theorem d10_32 : decode prog_42_method_2_code 32 = .ok (.invokevirtual 45, 3) := by decide +kernel
theorem d10_35 : decode prog_42_method_2_code 35 = .ok (.ifCond .eq 24, 3) := by decide +kernel
theorem d10_59 : decode prog_42_method_2_code 59 = .ok (.iload 4, 2) := by decide +kernel
theorem d10_61 : decode prog_42_method_2_code 61 = .ok (.ireturn, 1) := by decide +kernel
theorem ef_tc0 (m : MethodId) (x0 : Addr) (x1 : Addr) : entryFrame m #[(.ref x0), (.ref x1), (.int (0 : Int32)), (.int (0 : Int32))] 7 = mkF m 0 #[.val (.ref x0), .val (.ref x1), .val (.int (0 : Int32)), .val (.int (0 : Int32)), .unset, .unset, .unset] [] := by first | (simp [entryFrame, mkF, argsToLocals, Value.category]; done) | rfl
def Qtc0 (Z : State) (o0 : Addr) (o1 : Addr) (cc : Addr) (sb : Addr) (vb : Addr) (kb : ClassId) (a_SIZE_LINE : Addr) (a_ENDED : Addr) (a_DATA : Addr) (cs : Int32) (h0 : Heap) (n0 : Nat) (v : Option Value) (h : Heap) (L : List Loc) : Prop := (v = some (.int (0 : Int32))) ∧ (Fr n0 L) ∧ (h = h0)
set_option maxRecDepth 65536 in
set_option maxHeartbeats 40000000 in
theorem rmtc0 (l : Launch) (Z : State) (a0 : Array Value) (hw : ∀ d ∈ tables_1, d.before a0 Z = true) (ws : List Jvm.Cond) (o0 : Addr) (o1 : Addr) (cc : Addr) (sb : Addr) (vb : Addr) (kb : ClassId) (a_SIZE_LINE : Addr) (a_ENDED : Addr) (a_DATA : Addr) (cs : Int32) (h0 : Heap) (n0 : Nat) (Z0 : n0 ≤ h0.size) (E_o0 : Exa Z h0 o0 "com/example/gatehook/gatehook/http/IncomingBody") (F_ended_o0 : Fld Z h0 o0 "com/example/gatehook/gatehook/http/IncomingBody" "ended" "Z" (.int (0 : Int32))) (F_chunks_o0 : Fld Z h0 o0 "com/example/gatehook/gatehook/http/IncomingBody" "chunks" "Lcom/example/gatehook/gatehook/http/ChunkedBody;" (.ref cc)) (E_cc : Exa Z h0 cc "com/example/gatehook/gatehook/http/ChunkedBody") (F_line_cc : Fld Z h0 cc "com/example/gatehook/gatehook/http/ChunkedBody" "line" "Ljava/lang/StringBuilder;" (.ref sb)) (F_part_cc : Fld Z h0 cc "com/example/gatehook/gatehook/http/ChunkedBody" "part" "Lcom/example/gatehook/gatehook/http/ChunkedBody$Part;" (.ref a_SIZE_LINE)) (E_sb : Exa Z h0 sb "java/lang/StringBuilder") (F_value_sb : Fld Z h0 sb "java/lang/AbstractStringBuilder" "value" "[B" (.ref vb)) (F_coder_sb : Fld Z h0 sb "java/lang/AbstractStringBuilder" "coder" "B" (.int (0 : Int32))) (F_count_sb : Fld Z h0 sb "java/lang/AbstractStringBuilder" "count" "I" (.int (0 : Int32))) (A_vb : Arv Z h0 vb kb .byte (16 : Int32) [(.int (0 : Int32)), (.int (0 : Int32)), (.int (0 : Int32)), (.int (0 : Int32)), (.int (0 : Int32)), (.int (0 : Int32)), (.int (0 : Int32)), (.int (0 : Int32)), (.int (0 : Int32)), (.int (0 : Int32)), (.int (0 : Int32)), (.int (0 : Int32)), (.int (0 : Int32)), (.int (0 : Int32)), (.int (0 : Int32)), (.int (0 : Int32))] (.int (0 : Int32))) (g_sb : n0 ≤ sb) (g_vb : n0 ≤ vb) (ne_sb_vb : sb ≠ vb) (F_ordinal_a_SIZE_LINE : Fld Z h0 a_SIZE_LINE "java/lang/Enum" "ordinal" "I" (.int (0 : Int32))) (E_a_SIZE_LINE : Exa Z h0 a_SIZE_LINE "com/example/gatehook/gatehook/http/ChunkedBody$Part") (S_COMPACT_STRINGS : Sta Z h0 "java/lang/String" "COMPACT_STRINGS" "Z" (.int cs)) (hcs : ¬ cs = (0 : Int32)) (S_ENDED : Sta Z h0 "com/example/gatehook/gatehook/http/ChunkedBody$Part" "ENDED" "Lcom/example/gatehook/gatehook/http/ChunkedBody$Part;" (.ref a_ENDED)) (S_DATA : Sta Z h0 "com/example/gatehook/gatehook/http/ChunkedBody$Part" "DATA" "Lcom/example/gatehook/gatehook/http/ChunkedBody$Part;" (.ref a_DATA)) (ne_a_SIZE_LINE_a_ENDED : a_SIZE_LINE ≠ a_ENDED) (ne_a_SIZE_LINE_a_DATA : a_SIZE_LINE ≠ a_DATA) :
    MetFree l (⟨"com/example/gatehook/gatehook/http/IncomingBody", "take", "([BII)I"⟩ : MethodName) (head1 (Jvm.Cond.code (⟨"com/example/gatehook/gatehook/http/IncomingBody", "take", "([BII)I"⟩ : MethodName) prog_42_method_2_code 7 (some .int) :: ws) ({ frames := 1, cells := 0, slots := 0, locals := 18 } : Room)) (fun a U => a = #[(.ref o0), (.ref o1), (.int (0 : Int32)), (.int (0 : Int32))] ∧ Z.Warmed39 U.vm ∧ U.heap = h0) (fun _ _ _ _ _ => True) (fun _ U o U' => ∃ v L, o = .returned v ∧ Qtc0 Z o0 o1 cc sb vb kb a_SIZE_LINE a_ENDED a_DATA cs h0 n0 v U'.heap L ∧ FrameEnd U o U' L ({ frames := 1, cells := 0, slots := 0, locals := 18 } : Room).cells ({ frames := 1, cells := 0, slots := 0, locals := 18 } : Room).slots) := by
  refine MetFree.of_bodySF (plainFor_of_name pn_5) hisR ?_
  intro p e s m args below meth c s₁ Bd hml0 hP hK
  obtain ⟨rfl, hZ, hh⟩ := hP
  have hx := Bd.exec
  have hby := Bd.bytes
  have hml : c.maxLocals = 7 := hml0
  have hown : s.vm.findClass "com/example/gatehook/gatehook/http/IncomingBody" = some m.cls := findClass_of_methodNamed Bd.named
  have hnm := (name_of_methodNamed Bd.named Bd.method).1
  have X0 : Stand p l e ({ frames := 1, cells := 0, slots := 0, locals := 18 } : Room) s m #[(.ref o0), (.ref o1), (.int (0 : Int32)), (.int (0 : Int32))] below meth c s₁ [] 0 0 := Stand.of_body Bd
  have e0 : s₁.heap = h0 := by rw [← hh, Bd.state]; rfl
  have N0 := Fr.nil n0
  refine Ends.opn ?_
  intro QQ hQQ
  refine Ends.step (S' := s₁.setTop (mkF m 0 #[.val (.ref o0), .val (.ref o1), .val (.int (0 : Int32)), .val (.int (0 : Int32)), .unset, .unset, .unset] [])) (fun t k => castTop (ef_tc0 m o0 o1) k) ?_
  show Ends p e below QQ (s₁.setTop (mkF m 0 #[.val (.ref o0), .val (.ref o1), .val (.int (0 : Int32)), .val (.int (0 : Int32)), .unset, .unset, .unset] []))
  refine Ends.step (fun _ k => XS.aloadN X0.here hx rfl (hb hby d10_0) rfl rfl k) ?_
  show Ends p e below QQ (s₁.setTop (mkF m 1 #[.val (.ref o0), .val (.ref o1), .val (.int (0 : Int32)), .val (.int (0 : Int32)), .unset, .unset, .unset] [(.ref o0)]))
  obtain ⟨T97, X97, e97, st97⟩ := getF X0 hx hZ hown (host := "") (Or.inl (hw _ (List.mem_of_getElem? (i := 90) rfl))) Via.refl e0 F_ended_o0 (g := (mkF m 1 #[.val (.ref o0), .val (.ref o1), .val (.int (0 : Int32)), .val (.int (0 : Int32)), .unset, .unset, .unset] [(.ref o0)])) rfl rfl (hb hby d10_1)
  refine Ends.step st97 ?_
  show Ends p e below QQ (T97.setTop (mkF m 4 #[.val (.ref o0), .val (.ref o1), .val (.int (0 : Int32)), .val (.int (0 : Int32)), .unset, .unset, .unset] [(.int (0 : Int32))]))
  refine Ends.step (fun _ k => XS.ifYes X97.here hx rfl (pc0 := 4) (pc' := 9) rfl (hb hby d10_4) rfl (XT.i0_eq_t (by decide)) (by decide) (by decide) k) ?_
  show Ends p e below QQ (T97.setTop (mkF m 9 #[.val (.ref o0), .val (.ref o1), .val (.int (0 : Int32)), .val (.int (0 : Int32)), .unset, .unset, .unset] []))
  refine Ends.step (fun _ k => XS.aloadN X97.here hx rfl (hb hby d10_9) rfl rfl k) ?_
  show Ends p e below QQ (T97.setTop (mkF m 10 #[.val (.ref o0), .val (.ref o1), .val (.int (0 : Int32)), .val (.int (0 : Int32)), .unset, .unset, .unset] [(.ref o0)]))
  obtain ⟨T98, X98, e98, st98⟩ := getF X97 hx hZ hown (host := "") (Or.inl (hw _ (List.mem_of_getElem? (i := 77) rfl))) Via.refl e97 F_chunks_o0 (g := (mkF m 10 #[.val (.ref o0), .val (.ref o1), .val (.int (0 : Int32)), .val (.int (0 : Int32)), .unset, .unset, .unset] [(.ref o0)])) rfl rfl (hb hby d10_10)
  refine Ends.step st98 ?_
  show Ends p e below QQ (T98.setTop (mkF m 13 #[.val (.ref o0), .val (.ref o1), .val (.int (0 : Int32)), .val (.int (0 : Int32)), .unset, .unset, .unset] [(.ref cc)]))
  refine Ends.step (fun _ k => XS.ifnullNo X98.here hx rfl (hb hby d10_13) rfl k) ?_
  show Ends p e below QQ (T98.setTop (mkF m 16 #[.val (.ref o0), .val (.ref o1), .val (.int (0 : Int32)), .val (.int (0 : Int32)), .unset, .unset, .unset] []))
  refine Ends.step (fun _ k => XS.aloadN X98.here hx rfl (hb hby d10_16) rfl rfl k) ?_
  show Ends p e below QQ (T98.setTop (mkF m 17 #[.val (.ref o0), .val (.ref o1), .val (.int (0 : Int32)), .val (.int (0 : Int32)), .unset, .unset, .unset] [(.ref o0)]))
  obtain ⟨T99, X99, e99, st99⟩ := getF X98 hx hZ hown (host := "") (Or.inl (hw _ (List.mem_of_getElem? (i := 77) rfl))) Via.refl e98 F_chunks_o0 (g := (mkF m 17 #[.val (.ref o0), .val (.ref o1), .val (.int (0 : Int32)), .val (.int (0 : Int32)), .unset, .unset, .unset] [(.ref o0)])) rfl rfl (hb hby d10_17)
  refine Ends.step st99 ?_
  show Ends p e below QQ (T99.setTop (mkF m 20 #[.val (.ref o0), .val (.ref o1), .val (.int (0 : Int32)), .val (.int (0 : Int32)), .unset, .unset, .unset] [(.ref cc)]))
  refine Ends.step (fun _ k => XS.aloadN X99.here hx rfl (hb hby d10_20) rfl rfl k) ?_
  show Ends p e below QQ (T99.setTop (mkF m 21 #[.val (.ref o0), .val (.ref o1), .val (.int (0 : Int32)), .val (.int (0 : Int32)), .unset, .unset, .unset] [(.ref o1), (.ref cc)]))
  refine Ends.step (fun _ k => XS.iloadN X99.here hx rfl (hb hby d10_21) rfl k) ?_
  show Ends p e below QQ (T99.setTop (mkF m 22 #[.val (.ref o0), .val (.ref o1), .val (.int (0 : Int32)), .val (.int (0 : Int32)), .unset, .unset, .unset] [(.int (0 : Int32)), (.ref o1), (.ref cc)]))
  refine Ends.step (fun _ k => XS.iloadN X99.here hx rfl (hb hby d10_22) rfl k) ?_
  show Ends p e below QQ (T99.setTop (mkF m 23 #[.val (.ref o0), .val (.ref o1), .val (.int (0 : Int32)), .val (.int (0 : Int32)), .unset, .unset, .unset] [(.int (0 : Int32)), (.int (0 : Int32)), (.ref o1), (.ref cc)]))
  obtain ⟨cq100, kq100, q100a, q100b, q100c⟩ := isOf hZ e99 E_cc
  obtain ⟨_, _, ⟨T100, L100, k100, n100⟩, -, X100, ⟨Lc100, hQ100, l100, y100, z100⟩, st100⟩ := X99.virtualBack hx (y := (⟨"com/example/gatehook/gatehook/http/ChunkedBody", "take", "([BII)I"⟩ : MethodName)) (z := (⟨"com/example/gatehook/gatehook/http/ChunkedBody", "take", "([BII)I"⟩ : MethodName)) hown (mvT hZ (hw _ (List.mem_of_getElem? (i := 92) rfl))) (mvT hZ (hw _ (List.mem_of_getElem? (i := 93) rfl))) (notFace_of_selects (args := #[]) (mvT hZ (hw _ (List.mem_of_getElem? (i := 95) rfl)))) (mvT hZ (hw _ (List.mem_of_getElem? (i := 95) rfl))) (mvT hZ (hw _ (List.mem_of_getElem? (i := 94) rfl))) (by decide) (backOf (W := 0) (rmct0 l Z a0 hw [] cc o1 h0 n0 (Nat.le_trans Z0 (Keep.refl h0 []).1)) hZ (hw _ (List.mem_of_getElem? (i := 96) rfl)) (hw _ (List.mem_of_getElem? (i := 22) rfl)) (by decide) (by decide)) q100a q100c (g := (mkF m 23 #[.val (.ref o0), .val (.ref o1), .val (.int (0 : Int32)), .val (.int (0 : Int32)), .unset, .unset, .unset] [(.int (0 : Int32)), (.int (0 : Int32)), (.ref o1), (.ref cc)])) rfl (by rw [hml]; rfl) (Steps.refl _) (argsL := [(.ref o1), (.int (0 : Int32)), (.int (0 : Int32))]) (rest := []) (lenOf pd_11 rfl) rfl (by show 2 * 0 + _ ≤ _; exact Nat.le_of_eq rfl) (hb hby d10_23) (fun _ _ => ⟨rfl, e99, (by decide : 0 + 0 ≤ _), (by decide : 0 + 0 ≤ _)⟩)
  dsimp only [Pt.U, Pt.locs, Pt.cells, Pt.slots] at X100 l100 y100 z100 st100 hQ100
  subst l100 y100 z100
  obtain ⟨rfl, Nq100, hh100⟩ := hQ100
  have N100 := Fr.app N0 Nq100
  refine Ends.step (fun _ k => st100.trans k) ?_
  show Ends p e below QQ (T100.setTop (mkF m 26 #[.val (.ref o0), .val (.ref o1), .val (.int (0 : Int32)), .val (.int (0 : Int32)), .unset, .unset, .unset] [(.int (0 : Int32))]))
  refine Ends.step (fun _ k => XS.istore X100.here hx rfl (hb hby d10_26) rfl (l' := #[.val (.ref o0), .val (.ref o1), .val (.int (0 : Int32)), .val (.int (0 : Int32)), .val (.int (0 : Int32)), .unset, .unset]) rfl k) ?_
  show Ends p e below QQ (T100.setTop (mkF m 28 #[.val (.ref o0), .val (.ref o1), .val (.int (0 : Int32)), .val (.int (0 : Int32)), .val (.int (0 : Int32)), .unset, .unset] []))
  refine Ends.step (fun _ k => XS.aloadN X100.here hx rfl (hb hby d10_28) rfl rfl k) ?_
  show Ends p e below QQ (T100.setTop (mkF m 29 #[.val (.ref o0), .val (.ref o1), .val (.int (0 : Int32)), .val (.int (0 : Int32)), .val (.int (0 : Int32)), .unset, .unset] [(.ref o0)]))
  obtain ⟨T101, X101, e101, st101⟩ := getF X100 hx hZ hown (host := "") (Or.inl (hw _ (List.mem_of_getElem? (i := 77) rfl))) Via.refl hh100 F_chunks_o0 (g := (mkF m 29 #[.val (.ref o0), .val (.ref o1), .val (.int (0 : Int32)), .val (.int (0 : Int32)), .val (.int (0 : Int32)), .unset, .unset] [(.ref o0)])) rfl rfl (hb hby d10_29)
  refine Ends.step st101 ?_
  show Ends p e below QQ (T101.setTop (mkF m 32 #[.val (.ref o0), .val (.ref o1), .val (.int (0 : Int32)), .val (.int (0 : Int32)), .val (.int (0 : Int32)), .unset, .unset] [(.ref cc)]))
  obtain ⟨cq102, kq102, q102a, q102b, q102c⟩ := isOf hZ e101 E_cc
  obtain ⟨_, _, ⟨T102, L102, k102, n102⟩, -, X102, ⟨Lc102, hQ102, l102, y102, z102⟩, st102⟩ := X101.virtualBack hx (y := (⟨"com/example/gatehook/gatehook/http/ChunkedBody", "isEnded", "()Z"⟩ : MethodName)) (z := (⟨"com/example/gatehook/gatehook/http/ChunkedBody", "isEnded", "()Z"⟩ : MethodName)) hown (mvT hZ (hw _ (List.mem_of_getElem? (i := 97) rfl))) (mvT hZ (hw _ (List.mem_of_getElem? (i := 98) rfl))) (notFace_of_selects (args := #[]) (mvT hZ (hw _ (List.mem_of_getElem? (i := 100) rfl)))) (mvT hZ (hw _ (List.mem_of_getElem? (i := 100) rfl))) (mvT hZ (hw _ (List.mem_of_getElem? (i := 99) rfl))) (by decide) (backOf (W := 0) (rmise l Z a0 hw [] cc a_SIZE_LINE a_ENDED h0 n0 (Nat.le_trans Z0 (Keep.refl h0 []).1) F_part_cc S_ENDED ne_a_SIZE_LINE_a_ENDED) hZ (hw _ (List.mem_of_getElem? (i := 101) rfl)) (hw _ (List.mem_of_getElem? (i := 22) rfl)) (by decide) (by decide)) q102a q102c (g := (mkF m 32 #[.val (.ref o0), .val (.ref o1), .val (.int (0 : Int32)), .val (.int (0 : Int32)), .val (.int (0 : Int32)), .unset, .unset] [(.ref cc)])) rfl (by rw [hml]; rfl) (Steps.refl _) (argsL := []) (rest := []) (lenOf pd_6 rfl) rfl (by show 2 * 0 + _ ≤ _; exact Nat.le_of_eq rfl) (hb hby d10_32) (fun _ _ => ⟨rfl, e101, (by decide : 0 + 0 ≤ _), (by decide : 0 + 0 ≤ _)⟩)
  dsimp only [Pt.U, Pt.locs, Pt.cells, Pt.slots] at X102 l102 y102 z102 st102 hQ102
  subst l102 y102 z102
  obtain ⟨rfl, Nq102, hh102⟩ := hQ102
  have N102 := Fr.app N100 Nq102
  refine Ends.step (fun _ k => st102.trans k) ?_
  show Ends p e below QQ (T102.setTop (mkF m 35 #[.val (.ref o0), .val (.ref o1), .val (.int (0 : Int32)), .val (.int (0 : Int32)), .val (.int (0 : Int32)), .unset, .unset] [(.int (0 : Int32))]))
  refine Ends.step (fun _ k => XS.ifYes X102.here hx rfl (pc0 := 35) (pc' := 59) rfl (hb hby d10_35) rfl (XT.i0_eq_t (by decide)) (by decide) (by decide) k) ?_
  show Ends p e below QQ (T102.setTop (mkF m 59 #[.val (.ref o0), .val (.ref o1), .val (.int (0 : Int32)), .val (.int (0 : Int32)), .val (.int (0 : Int32)), .unset, .unset] []))
  refine Ends.step (fun _ k => XS.iload X102.here hx rfl (hb hby d10_59) rfl k) ?_
  show Ends p e below QQ (T102.setTop (mkF m 61 #[.val (.ref o0), .val (.ref o1), .val (.int (0 : Int32)), .val (.int (0 : Int32)), .val (.int (0 : Int32)), .unset, .unset] [(.int (0 : Int32))]))
  exact Ends.fin (some (.int (0 : Int32))) X102 hQQ (fun h => by rw [Bd.returns] at h; cases h) Bd.notSynchronized (fun _ hr => retOut X102 hx (t := .int) Bd.returns rfl (Or.inl ⟨rfl, Or.inl rfl, _, rfl⟩) (hb hby d10_61) hr) hh102 (by decide) (by decide) ⟨rfl, N102, rfl⟩
theorem ef_tc1 (m : MethodId) (x0 : Addr) (x1 : Addr) : entryFrame m #[(.ref x0), (.ref x1), (.int (0 : Int32)), (.int (1 : Int32))] 7 = mkF m 0 #[.val (.ref x0), .val (.ref x1), .val (.int (0 : Int32)), .val (.int (1 : Int32)), .unset, .unset, .unset] [] := by first | (simp [entryFrame, mkF, argsToLocals, Value.category]; done) | rfl
def Qtc1 (Z : State) (o0 : Addr) (o1 : Addr) (cc : Addr) (sb : Addr) (vb : Addr) (kb : ClassId) (a_SIZE_LINE : Addr) (a_ENDED : Addr) (a_DATA : Addr) (cs : Int32) (ka : ClassId) (bv : Int32) (h0 : Heap) (n0 : Nat) (v : Option Value) (h : Heap) (L : List Loc) : Prop := (v = some (.int (1 : Int32))) ∧ (Fr n0 L) ∧ (Keep h0 h [sb, vb])
set_option maxRecDepth 65536 in
set_option maxHeartbeats 40000000 in
theorem rmtc1 (l : Launch) (Z : State) (a0 : Array Value) (hw : ∀ d ∈ tables_1, d.before a0 Z = true) (ws : List Jvm.Cond) (o0 : Addr) (o1 : Addr) (cc : Addr) (sb : Addr) (vb : Addr) (kb : ClassId) (a_SIZE_LINE : Addr) (a_ENDED : Addr) (a_DATA : Addr) (cs : Int32) (ka : ClassId) (bv : Int32) (h0 : Heap) (n0 : Nat) (Z0 : n0 ≤ h0.size) (E_o0 : Exa Z h0 o0 "com/example/gatehook/gatehook/http/IncomingBody") (F_ended_o0 : Fld Z h0 o0 "com/example/gatehook/gatehook/http/IncomingBody" "ended" "Z" (.int (0 : Int32))) (F_chunks_o0 : Fld Z h0 o0 "com/example/gatehook/gatehook/http/IncomingBody" "chunks" "Lcom/example/gatehook/gatehook/http/ChunkedBody;" (.ref cc)) (E_cc : Exa Z h0 cc "com/example/gatehook/gatehook/http/ChunkedBody") (F_line_cc : Fld Z h0 cc "com/example/gatehook/gatehook/http/ChunkedBody" "line" "Ljava/lang/StringBuilder;" (.ref sb)) (F_part_cc : Fld Z h0 cc "com/example/gatehook/gatehook/http/ChunkedBody" "part" "Lcom/example/gatehook/gatehook/http/ChunkedBody$Part;" (.ref a_SIZE_LINE)) (E_sb : Exa Z h0 sb "java/lang/StringBuilder") (F_value_sb : Fld Z h0 sb "java/lang/AbstractStringBuilder" "value" "[B" (.ref vb)) (F_coder_sb : Fld Z h0 sb "java/lang/AbstractStringBuilder" "coder" "B" (.int (0 : Int32))) (F_count_sb : Fld Z h0 sb "java/lang/AbstractStringBuilder" "count" "I" (.int (0 : Int32))) (A_vb : Arv Z h0 vb kb .byte (16 : Int32) [(.int (0 : Int32)), (.int (0 : Int32)), (.int (0 : Int32)), (.int (0 : Int32)), (.int (0 : Int32)), (.int (0 : Int32)), (.int (0 : Int32)), (.int (0 : Int32)), (.int (0 : Int32)), (.int (0 : Int32)), (.int (0 : Int32)), (.int (0 : Int32)), (.int (0 : Int32)), (.int (0 : Int32)), (.int (0 : Int32)), (.int (0 : Int32))] (.int (0 : Int32))) (g_sb : n0 ≤ sb) (g_vb : n0 ≤ vb) (ne_sb_vb : sb ≠ vb) (F_ordinal_a_SIZE_LINE : Fld Z h0 a_SIZE_LINE "java/lang/Enum" "ordinal" "I" (.int (0 : Int32))) (E_a_SIZE_LINE : Exa Z h0 a_SIZE_LINE "com/example/gatehook/gatehook/http/ChunkedBody$Part") (S_COMPACT_STRINGS : Sta Z h0 "java/lang/String" "COMPACT_STRINGS" "Z" (.int cs)) (hcs : ¬ cs = (0 : Int32)) (S_ENDED : Sta Z h0 "com/example/gatehook/gatehook/http/ChunkedBody$Part" "ENDED" "Lcom/example/gatehook/gatehook/http/ChunkedBody$Part;" (.ref a_ENDED)) (S_DATA : Sta Z h0 "com/example/gatehook/gatehook/http/ChunkedBody$Part" "DATA" "Lcom/example/gatehook/gatehook/http/ChunkedBody$Part;" (.ref a_DATA)) (ne_a_SIZE_LINE_a_ENDED : a_SIZE_LINE ≠ a_ENDED) (ne_a_SIZE_LINE_a_DATA : a_SIZE_LINE ≠ a_DATA) (A_o1 : Arv Z h0 o1 ka .byte (1 : Int32) [(.int bv)] (.int (0 : Int32))) (ne_o1_sb : o1 ≠ sb) (ne_o1_vb : o1 ≠ vb) (ne_cc_sb : cc ≠ sb) (ne_cc_vb : cc ≠ vb) (ne_o0_sb : o0 ≠ sb) (ne_o0_vb : o0 ≠ vb) (h10 : ¬ bv = (10 : Int32)) (hc : ¬ (255 : Int32) < ((bv &&& (255 : Int32))).toUInt32.toUInt16.toUInt32.toInt32) :
    MetFree l (⟨"com/example/gatehook/gatehook/http/IncomingBody", "take", "([BII)I"⟩ : MethodName) (head1 (Jvm.Cond.code (⟨"com/example/gatehook/gatehook/http/IncomingBody", "take", "([BII)I"⟩ : MethodName) prog_42_method_2_code 7 (some .int) :: ws) ({ frames := 5, cells := 0, slots := 0, locals := 74 } : Room)) (fun a U => a = #[(.ref o0), (.ref o1), (.int (0 : Int32)), (.int (1 : Int32))] ∧ Z.Warmed39 U.vm ∧ U.heap = h0) (fun _ _ _ _ _ => True) (fun _ U o U' => ∃ v L, o = .returned v ∧ Qtc1 Z o0 o1 cc sb vb kb a_SIZE_LINE a_ENDED a_DATA cs ka bv h0 n0 v U'.heap L ∧ FrameEnd U o U' L ({ frames := 5, cells := 0, slots := 0, locals := 74 } : Room).cells ({ frames := 5, cells := 0, slots := 0, locals := 74 } : Room).slots) := by
  refine MetFree.of_bodySF (plainFor_of_name pn_5) hisR ?_
  intro p e s m args below meth c s₁ Bd hml0 hP hK
  obtain ⟨rfl, hZ, hh⟩ := hP
  have hx := Bd.exec
  have hby := Bd.bytes
  have hml : c.maxLocals = 7 := hml0
  have hown : s.vm.findClass "com/example/gatehook/gatehook/http/IncomingBody" = some m.cls := findClass_of_methodNamed Bd.named
  have hnm := (name_of_methodNamed Bd.named Bd.method).1
  have X0 : Stand p l e ({ frames := 5, cells := 0, slots := 0, locals := 74 } : Room) s m #[(.ref o0), (.ref o1), (.int (0 : Int32)), (.int (1 : Int32))] below meth c s₁ [] 0 0 := Stand.of_body Bd
  have e0 : s₁.heap = h0 := by rw [← hh, Bd.state]; rfl
  have N0 := Fr.nil n0
  refine Ends.opn ?_
  intro QQ hQQ
  refine Ends.step (S' := s₁.setTop (mkF m 0 #[.val (.ref o0), .val (.ref o1), .val (.int (0 : Int32)), .val (.int (1 : Int32)), .unset, .unset, .unset] [])) (fun t k => castTop (ef_tc1 m o0 o1) k) ?_
  show Ends p e below QQ (s₁.setTop (mkF m 0 #[.val (.ref o0), .val (.ref o1), .val (.int (0 : Int32)), .val (.int (1 : Int32)), .unset, .unset, .unset] []))
  refine Ends.step (fun _ k => XS.aloadN X0.here hx rfl (hb hby d10_0) rfl rfl k) ?_
  show Ends p e below QQ (s₁.setTop (mkF m 1 #[.val (.ref o0), .val (.ref o1), .val (.int (0 : Int32)), .val (.int (1 : Int32)), .unset, .unset, .unset] [(.ref o0)]))
  obtain ⟨T103, X103, e103, st103⟩ := getF X0 hx hZ hown (host := "") (Or.inl (hw _ (List.mem_of_getElem? (i := 90) rfl))) Via.refl e0 F_ended_o0 (g := (mkF m 1 #[.val (.ref o0), .val (.ref o1), .val (.int (0 : Int32)), .val (.int (1 : Int32)), .unset, .unset, .unset] [(.ref o0)])) rfl rfl (hb hby d10_1)
  refine Ends.step st103 ?_
  show Ends p e below QQ (T103.setTop (mkF m 4 #[.val (.ref o0), .val (.ref o1), .val (.int (0 : Int32)), .val (.int (1 : Int32)), .unset, .unset, .unset] [(.int (0 : Int32))]))
  refine Ends.step (fun _ k => XS.ifYes X103.here hx rfl (pc0 := 4) (pc' := 9) rfl (hb hby d10_4) rfl (XT.i0_eq_t (by decide)) (by decide) (by decide) k) ?_
  show Ends p e below QQ (T103.setTop (mkF m 9 #[.val (.ref o0), .val (.ref o1), .val (.int (0 : Int32)), .val (.int (1 : Int32)), .unset, .unset, .unset] []))
  refine Ends.step (fun _ k => XS.aloadN X103.here hx rfl (hb hby d10_9) rfl rfl k) ?_
  show Ends p e below QQ (T103.setTop (mkF m 10 #[.val (.ref o0), .val (.ref o1), .val (.int (0 : Int32)), .val (.int (1 : Int32)), .unset, .unset, .unset] [(.ref o0)]))
  obtain ⟨T104, X104, e104, st104⟩ := getF X103 hx hZ hown (host := "") (Or.inl (hw _ (List.mem_of_getElem? (i := 77) rfl))) Via.refl e103 F_chunks_o0 (g := (mkF m 10 #[.val (.ref o0), .val (.ref o1), .val (.int (0 : Int32)), .val (.int (1 : Int32)), .unset, .unset, .unset] [(.ref o0)])) rfl rfl (hb hby d10_10)
  refine Ends.step st104 ?_
  show Ends p e below QQ (T104.setTop (mkF m 13 #[.val (.ref o0), .val (.ref o1), .val (.int (0 : Int32)), .val (.int (1 : Int32)), .unset, .unset, .unset] [(.ref cc)]))
  refine Ends.step (fun _ k => XS.ifnullNo X104.here hx rfl (hb hby d10_13) rfl k) ?_
  show Ends p e below QQ (T104.setTop (mkF m 16 #[.val (.ref o0), .val (.ref o1), .val (.int (0 : Int32)), .val (.int (1 : Int32)), .unset, .unset, .unset] []))
  refine Ends.step (fun _ k => XS.aloadN X104.here hx rfl (hb hby d10_16) rfl rfl k) ?_
  show Ends p e below QQ (T104.setTop (mkF m 17 #[.val (.ref o0), .val (.ref o1), .val (.int (0 : Int32)), .val (.int (1 : Int32)), .unset, .unset, .unset] [(.ref o0)]))
  obtain ⟨T105, X105, e105, st105⟩ := getF X104 hx hZ hown (host := "") (Or.inl (hw _ (List.mem_of_getElem? (i := 77) rfl))) Via.refl e104 F_chunks_o0 (g := (mkF m 17 #[.val (.ref o0), .val (.ref o1), .val (.int (0 : Int32)), .val (.int (1 : Int32)), .unset, .unset, .unset] [(.ref o0)])) rfl rfl (hb hby d10_17)
  refine Ends.step st105 ?_
  show Ends p e below QQ (T105.setTop (mkF m 20 #[.val (.ref o0), .val (.ref o1), .val (.int (0 : Int32)), .val (.int (1 : Int32)), .unset, .unset, .unset] [(.ref cc)]))
  refine Ends.step (fun _ k => XS.aloadN X105.here hx rfl (hb hby d10_20) rfl rfl k) ?_
  show Ends p e below QQ (T105.setTop (mkF m 21 #[.val (.ref o0), .val (.ref o1), .val (.int (0 : Int32)), .val (.int (1 : Int32)), .unset, .unset, .unset] [(.ref o1), (.ref cc)]))
  refine Ends.step (fun _ k => XS.iloadN X105.here hx rfl (hb hby d10_21) rfl k) ?_
  show Ends p e below QQ (T105.setTop (mkF m 22 #[.val (.ref o0), .val (.ref o1), .val (.int (0 : Int32)), .val (.int (1 : Int32)), .unset, .unset, .unset] [(.int (0 : Int32)), (.ref o1), (.ref cc)]))
  refine Ends.step (fun _ k => XS.iloadN X105.here hx rfl (hb hby d10_22) rfl k) ?_
  show Ends p e below QQ (T105.setTop (mkF m 23 #[.val (.ref o0), .val (.ref o1), .val (.int (0 : Int32)), .val (.int (1 : Int32)), .unset, .unset, .unset] [(.int (1 : Int32)), (.int (0 : Int32)), (.ref o1), (.ref cc)]))
  obtain ⟨cq106, kq106, q106a, q106b, q106c⟩ := isOf hZ e105 E_cc
  obtain ⟨_, _, ⟨T106, L106, k106, n106⟩, -, X106, ⟨Lc106, hQ106, l106, y106, z106⟩, st106⟩ := X105.virtualBack hx (y := (⟨"com/example/gatehook/gatehook/http/ChunkedBody", "take", "([BII)I"⟩ : MethodName)) (z := (⟨"com/example/gatehook/gatehook/http/ChunkedBody", "take", "([BII)I"⟩ : MethodName)) hown (mvT hZ (hw _ (List.mem_of_getElem? (i := 92) rfl))) (mvT hZ (hw _ (List.mem_of_getElem? (i := 93) rfl))) (notFace_of_selects (args := #[]) (mvT hZ (hw _ (List.mem_of_getElem? (i := 95) rfl)))) (mvT hZ (hw _ (List.mem_of_getElem? (i := 95) rfl))) (mvT hZ (hw _ (List.mem_of_getElem? (i := 94) rfl))) (by decide) (backOf (W := 0) (rmct1 l Z a0 hw [] cc o1 sb vb kb a_SIZE_LINE a_ENDED a_DATA cs ka bv h0 n0 (Nat.le_trans Z0 (Keep.refl h0 [sb, vb]).1) E_cc F_line_cc F_part_cc E_sb F_value_sb F_coder_sb F_count_sb A_vb g_sb g_vb ne_sb_vb F_ordinal_a_SIZE_LINE E_a_SIZE_LINE S_COMPACT_STRINGS hcs S_ENDED S_DATA ne_a_SIZE_LINE_a_ENDED ne_a_SIZE_LINE_a_DATA A_o1 ne_o1_sb ne_o1_vb ne_cc_sb ne_cc_vb h10 hc) hZ (hw _ (List.mem_of_getElem? (i := 96) rfl)) (hw _ (List.mem_of_getElem? (i := 22) rfl)) (by decide) (by decide)) q106a q106c (g := (mkF m 23 #[.val (.ref o0), .val (.ref o1), .val (.int (0 : Int32)), .val (.int (1 : Int32)), .unset, .unset, .unset] [(.int (1 : Int32)), (.int (0 : Int32)), (.ref o1), (.ref cc)])) rfl (by rw [hml]; rfl) (Steps.refl _) (argsL := [(.ref o1), (.int (0 : Int32)), (.int (1 : Int32))]) (rest := []) (lenOf pd_11 rfl) rfl (by show 2 * 0 + _ ≤ _; exact Nat.le_of_eq rfl) (hb hby d10_23) (fun _ _ => ⟨rfl, e105, (by decide : 0 + 0 ≤ _), (by decide : 0 + 0 ≤ _)⟩)
  dsimp only [Pt.U, Pt.locs, Pt.cells, Pt.slots] at X106 l106 y106 z106 st106 hQ106
  subst l106 y106 z106
  obtain ⟨rfl, Nq106, Kq106⟩ := hQ106
  have N106 := Fr.app N0 Nq106
  have S_COMPACT_STRINGS := own_sta_keep S_COMPACT_STRINGS Kq106 (allS E_sb.cell (allS (own_arv_cell A_vb) all0))
  have S_ENDED := own_sta_keep S_ENDED Kq106 (allS E_sb.cell (allS (own_arv_cell A_vb) all0))
  have S_DATA := own_sta_keep S_DATA Kq106 (allS E_sb.cell (allS (own_arv_cell A_vb) all0))
  have E_o0 := E_o0.keep Kq106
  have F_ended_o0 := F_ended_o0.keep Kq106 (ninS ne_o0_sb (ninS ne_o0_vb nin0))
  have F_chunks_o0 := F_chunks_o0.keep Kq106 (ninS ne_o0_sb (ninS ne_o0_vb nin0))
  have E_cc := E_cc.keep Kq106
  have F_line_cc := F_line_cc.keep Kq106 (ninS ne_cc_sb (ninS ne_cc_vb nin0))
  have F_part_cc := F_part_cc.keep Kq106 (ninS ne_cc_sb (ninS ne_cc_vb nin0))
  have E_sb := E_sb.keep Kq106
  have E_a_SIZE_LINE := E_a_SIZE_LINE.keep Kq106
  have A_o1 := A_o1.keep Kq106 (ninS ne_o1_sb (ninS ne_o1_vb nin0))
  have K106 := (Keep.refl h0 [sb, vb]).trans Kq106 (allS (Or.inl (List.mem_of_getElem? (i := 0) rfl)) (allS (Or.inl (List.mem_of_getElem? (i := 1) rfl)) all0))
  refine Ends.step (fun _ k => st106.trans k) ?_
  show Ends p e below QQ (T106.setTop (mkF m 26 #[.val (.ref o0), .val (.ref o1), .val (.int (0 : Int32)), .val (.int (1 : Int32)), .unset, .unset, .unset] [(.int (1 : Int32))]))
  refine Ends.step (fun _ k => XS.istore X106.here hx rfl (hb hby d10_26) rfl (l' := #[.val (.ref o0), .val (.ref o1), .val (.int (0 : Int32)), .val (.int (1 : Int32)), .val (.int (1 : Int32)), .unset, .unset]) rfl k) ?_
  show Ends p e below QQ (T106.setTop (mkF m 28 #[.val (.ref o0), .val (.ref o1), .val (.int (0 : Int32)), .val (.int (1 : Int32)), .val (.int (1 : Int32)), .unset, .unset] []))
  refine Ends.step (fun _ k => XS.aloadN X106.here hx rfl (hb hby d10_28) rfl rfl k) ?_
  show Ends p e below QQ (T106.setTop (mkF m 29 #[.val (.ref o0), .val (.ref o1), .val (.int (0 : Int32)), .val (.int (1 : Int32)), .val (.int (1 : Int32)), .unset, .unset] [(.ref o0)]))
  obtain ⟨T107, X107, e107, st107⟩ := getF X106 hx hZ hown (host := "") (Or.inl (hw _ (List.mem_of_getElem? (i := 77) rfl))) Via.refl rfl F_chunks_o0 (g := (mkF m 29 #[.val (.ref o0), .val (.ref o1), .val (.int (0 : Int32)), .val (.int (1 : Int32)), .val (.int (1 : Int32)), .unset, .unset] [(.ref o0)])) rfl rfl (hb hby d10_29)
  refine Ends.step st107 ?_
  show Ends p e below QQ (T107.setTop (mkF m 32 #[.val (.ref o0), .val (.ref o1), .val (.int (0 : Int32)), .val (.int (1 : Int32)), .val (.int (1 : Int32)), .unset, .unset] [(.ref cc)]))
  obtain ⟨cq108, kq108, q108a, q108b, q108c⟩ := isOf hZ e107 E_cc
  obtain ⟨_, _, ⟨T108, L108, k108, n108⟩, -, X108, ⟨Lc108, hQ108, l108, y108, z108⟩, st108⟩ := X107.virtualBack hx (y := (⟨"com/example/gatehook/gatehook/http/ChunkedBody", "isEnded", "()Z"⟩ : MethodName)) (z := (⟨"com/example/gatehook/gatehook/http/ChunkedBody", "isEnded", "()Z"⟩ : MethodName)) hown (mvT hZ (hw _ (List.mem_of_getElem? (i := 97) rfl))) (mvT hZ (hw _ (List.mem_of_getElem? (i := 98) rfl))) (notFace_of_selects (args := #[]) (mvT hZ (hw _ (List.mem_of_getElem? (i := 100) rfl)))) (mvT hZ (hw _ (List.mem_of_getElem? (i := 100) rfl))) (mvT hZ (hw _ (List.mem_of_getElem? (i := 99) rfl))) (by decide) (backOf (W := 0) (rmise l Z a0 hw [] cc a_SIZE_LINE a_ENDED T106.heap n0 (Nat.le_trans Z0 K106.1) F_part_cc S_ENDED ne_a_SIZE_LINE_a_ENDED) hZ (hw _ (List.mem_of_getElem? (i := 101) rfl)) (hw _ (List.mem_of_getElem? (i := 22) rfl)) (by decide) (by decide)) q108a q108c (g := (mkF m 32 #[.val (.ref o0), .val (.ref o1), .val (.int (0 : Int32)), .val (.int (1 : Int32)), .val (.int (1 : Int32)), .unset, .unset] [(.ref cc)])) rfl (by rw [hml]; rfl) (Steps.refl _) (argsL := []) (rest := []) (lenOf pd_6 rfl) rfl (by show 2 * 0 + _ ≤ _; exact Nat.le_of_eq rfl) (hb hby d10_32) (fun _ _ => ⟨rfl, e107, (by decide : 0 + 0 ≤ _), (by decide : 0 + 0 ≤ _)⟩)
  dsimp only [Pt.U, Pt.locs, Pt.cells, Pt.slots] at X108 l108 y108 z108 st108 hQ108
  subst l108 y108 z108
  obtain ⟨rfl, Nq108, hh108⟩ := hQ108
  have N108 := Fr.app N106 Nq108
  refine Ends.step (fun _ k => st108.trans k) ?_
  show Ends p e below QQ (T108.setTop (mkF m 35 #[.val (.ref o0), .val (.ref o1), .val (.int (0 : Int32)), .val (.int (1 : Int32)), .val (.int (1 : Int32)), .unset, .unset] [(.int (0 : Int32))]))
  refine Ends.step (fun _ k => XS.ifYes X108.here hx rfl (pc0 := 35) (pc' := 59) rfl (hb hby d10_35) rfl (XT.i0_eq_t (by decide)) (by decide) (by decide) k) ?_
  show Ends p e below QQ (T108.setTop (mkF m 59 #[.val (.ref o0), .val (.ref o1), .val (.int (0 : Int32)), .val (.int (1 : Int32)), .val (.int (1 : Int32)), .unset, .unset] []))
  refine Ends.step (fun _ k => XS.iload X108.here hx rfl (hb hby d10_59) rfl k) ?_
  show Ends p e below QQ (T108.setTop (mkF m 61 #[.val (.ref o0), .val (.ref o1), .val (.int (0 : Int32)), .val (.int (1 : Int32)), .val (.int (1 : Int32)), .unset, .unset] [(.int (1 : Int32))]))
  exact Ends.fin (some (.int (1 : Int32))) X108 hQQ (fun h => by rw [Bd.returns] at h; cases h) Bd.notSynchronized (fun _ hr => retOut X108 hx (t := .int) Bd.returns rfl (Or.inl ⟨rfl, Or.inl rfl, _, rfl⟩) (hb hby d10_61) hr) hh108 (by decide) (by decide) ⟨rfl, N108, K106⟩
theorem d10_62 : decode prog_42_method_2_code 62 = .ok (.aload_n 0, 1) := by decide +kernel
theorem d10_63 : decode prog_42_method_2_code 63 = .ok (.getfield 16, 3) := by decide +kernel
theorem d10_66 : decode prog_42_method_2_code 66 = .ok (.ldc2_w 52, 3) := by decide +kernel
theorem d10_69 : decode prog_42_method_2_code 69 = .ok (.lcmp, 1) := by decide +kernel
theorem d10_70 : decode prog_42_method_2_code 70 = .ok (.ifCond .ne 13, 3) := by decide +kernel
theorem d10_73 : decode prog_42_method_2_code 73 = .ok (.aload_n 0, 1) := by decide +kernel
theorem d10_74 : decode prog_42_method_2_code 74 = .ok (.getfield 20, 3) := by decide +kernel
theorem d10_77 : decode prog_42_method_2_code 77 = .ok (.i2l, 1) := by decide +kernel
theorem d10_78 : decode prog_42_method_2_code 78 = .ok (.lconst 1, 1) := by decide +kernel
theorem d10_79 : decode prog_42_method_2_code 79 = .ok (.ladd, 1) := by decide +kernel
theorem d10_80 : decode prog_42_method_2_code 80 = .ok (.goto 7, 3) := by decide +kernel
theorem d10_83 : decode prog_42_method_2_code 83 = .ok (.aload_n 0, 1) := by decide +kernel
theorem d10_84 : decode prog_42_method_2_code 84 = .ok (.getfield 16, 3) := by decide +kernel
theorem d10_87 : decode prog_42_method_2_code 87 = .ok (.lstore 4, 2) := by decide +kernel
theorem d10_89 : decode prog_42_method_2_code 89 = .ok (.iload_n 3, 1) := by decide +kernel
theorem d10_90 : decode prog_42_method_2_code 90 = .ok (.i2l, 1) := by decide +kernel
theorem d10_91 : decode prog_42_method_2_code 91 = .ok (.lload 4, 2) := by decide +kernel
theorem d10_93 : decode prog_42_method_2_code 93 = .ok (.aload_n 0, 1) := by decide +kernel
theorem d10_94 : decode prog_42_method_2_code 94 = .ok (.getfield 54, 3) := by decide +kernel
theorem d10_97 : decode prog_42_method_2_code 97 = .ok (.i2l, 1) := by decide +kernel
theorem d10_98 : decode prog_42_method_2_code 98 = .ok (.lsub, 1) := by decide +kernel
theorem d10_99 : decode prog_42_method_2_code 99 = .ok (.invokestatic 57, 3) := by decide +kernel
theorem d10_102 : decode prog_42_method_2_code 102 = .ok (.l2i, 1) := by decide +kernel
theorem d10_103 : decode prog_42_method_2_code 103 = .ok (.istore 6, 2) := by decide +kernel
theorem d10_105 : decode prog_42_method_2_code 105 = .ok (.aload_n 0, 1) := by decide +kernel
theorem d10_106 : decode prog_42_method_2_code 106 = .ok (.aload_n 0, 1) := by decide +kernel
theorem d10_107 : decode prog_42_method_2_code 107 = .ok (.getfield 13, 3) := by decide +kernel
theorem d10_110 : decode prog_42_method_2_code 110 = .ok (.aload_n 0, 1) := by decide +kernel
theorem d10_111 : decode prog_42_method_2_code 111 = .ok (.getfield 54, 3) := by decide +kernel
theorem d10_114 : decode prog_42_method_2_code 114 = .ok (.iload 6, 2) := by decide +kernel
theorem d10_116 : decode prog_42_method_2_code 116 = .ok (.iadd, 1) := by decide +kernel
theorem d10_117 : decode prog_42_method_2_code 117 = .ok (.lload 4, 2) := by decide +kernel
theorem d10_119 : decode prog_42_method_2_code 119 = .ok (.invokestatic 63, 3) := by decide +kernel
theorem d10_122 : decode prog_42_method_2_code 122 = .ok (.putfield 13, 3) := by decide +kernel
theorem d10_125 : decode prog_42_method_2_code 125 = .ok (.aload_n 1, 1) := by decide +kernel
theorem d10_126 : decode prog_42_method_2_code 126 = .ok (.iload_n 2, 1) := by decide +kernel
theorem d10_127 : decode prog_42_method_2_code 127 = .ok (.aload_n 0, 1) := by decide +kernel
theorem d10_128 : decode prog_42_method_2_code 128 = .ok (.getfield 13, 3) := by decide +kernel
theorem d10_131 : decode prog_42_method_2_code 131 = .ok (.aload_n 0, 1) := by decide +kernel
theorem d10_132 : decode prog_42_method_2_code 132 = .ok (.getfield 54, 3) := by decide +kernel
theorem d10_135 : decode prog_42_method_2_code 135 = .ok (.iload 6, 2) := by decide +kernel
theorem d10_137 : decode prog_42_method_2_code 137 = .ok (.invokestatic 67, 3) := by decide +kernel
theorem d10_140 : decode prog_42_method_2_code 140 = .ok (.aload_n 0, 1) := by decide +kernel
theorem d10_141 : decode prog_42_method_2_code 141 = .ok (.dup, 1) := by decide +kernel
theorem d10_142 : decode prog_42_method_2_code 142 = .ok (.getfield 54, 3) := by decide +kernel
theorem d10_145 : decode prog_42_method_2_code 145 = .ok (.iload 6, 2) := by decide +kernel
theorem d10_147 : decode prog_42_method_2_code 147 = .ok (.iadd, 1) := by decide +kernel
theorem d10_148 : decode prog_42_method_2_code 148 = .ok (.putfield 54, 3) := by decide +kernel
theorem d10_151 : decode prog_42_method_2_code 151 = .ok (.aload_n 0, 1) := by decide +kernel
theorem d10_152 : decode prog_42_method_2_code 152 = .ok (.getfield 54, 3) := by decide +kernel
theorem d10_155 : decode prog_42_method_2_code 155 = .ok (.aload_n 0, 1) := by decide +kernel
theorem d10_156 : decode prog_42_method_2_code 156 = .ok (.getfield 20, 3) := by decide +kernel
theorem d10_159 : decode prog_42_method_2_code 159 = .ok (.if_icmp .le 16, 3) := by decide +kernel
theorem d10_162 : decode prog_42_method_2_code 162 = .ok (.aload_n 0, 1) := by decide +kernel
theorem d10_163 : decode prog_42_method_2_code 163 = .ok (.aconst_null, 1) := by decide +kernel
theorem d10_164 : decode prog_42_method_2_code 164 = .ok (.putfield 13, 3) := by decide +kernel
theorem d10_167 : decode prog_42_method_2_code 167 = .ok (.aload_n 0, 1) := by decide +kernel
theorem d10_168 : decode prog_42_method_2_code 168 = .ok (.iconst 1, 1) := by decide +kernel
theorem d10_169 : decode prog_42_method_2_code 169 = .ok (.putfield 37, 3) := by decide +kernel
theorem d10_172 : decode prog_42_method_2_code 172 = .ok (.goto 25, 3) := by decide +kernel
theorem d10_175 : decode prog_42_method_2_code 175 = .ok (.aload_n 0, 1) := by decide +kernel
theorem d10_176 : decode prog_42_method_2_code 176 = .ok (.aload_n 0, 1) := by decide +kernel
theorem d10_177 : decode prog_42_method_2_code 177 = .ok (.getfield 54, 3) := by decide +kernel
theorem d10_180 : decode prog_42_method_2_code 180 = .ok (.i2l, 1) := by decide +kernel
theorem d10_181 : decode prog_42_method_2_code 181 = .ok (.aload_n 0, 1) := by decide +kernel
theorem d10_182 : decode prog_42_method_2_code 182 = .ok (.getfield 16, 3) := by decide +kernel
theorem d10_185 : decode prog_42_method_2_code 185 = .ok (.lcmp, 1) := by decide +kernel
theorem d10_186 : decode prog_42_method_2_code 186 = .ok (.ifCond .ne 7, 3) := by decide +kernel
theorem d10_189 : decode prog_42_method_2_code 189 = .ok (.iconst 1, 1) := by decide +kernel
theorem d10_190 : decode prog_42_method_2_code 190 = .ok (.goto 4, 3) := by decide +kernel
theorem d10_193 : decode prog_42_method_2_code 193 = .ok (.iconst 0, 1) := by decide +kernel
theorem d10_194 : decode prog_42_method_2_code 194 = .ok (.putfield 37, 3) := by decide +kernel
theorem d10_197 : decode prog_42_method_2_code 197 = .ok (.iload 6, 2) := by decide +kernel
theorem d10_199 : decode prog_42_method_2_code 199 = .ok (.ireturn, 1) := by decide +kernel
theorem ef_tp0 (m : MethodId) (x0 : Addr) (x1 : Addr) : entryFrame m #[(.ref x0), (.ref x1), (.int (0 : Int32)), (.int (0 : Int32))] 7 = mkF m 0 #[.val (.ref x0), .val (.ref x1), .val (.int (0 : Int32)), .val (.int (0 : Int32)), .unset, .unset, .unset] [] := by first | (simp [entryFrame, mkF, argsToLocals, Value.category]; done) | rfl
def Qtp0 (Z : State) (o0 : Addr) (o1 : Addr) (u : Int64) (mx : Int32) (a_NONE : Addr) (kn : ClassId) (ka : ClassId) (bv : Int32) (h0 : Heap) (n0 : Nat) (v : Option Value) (h : Heap) (L : List Loc) : Prop := (v = some (.int (0 : Int32))) ∧ (Fr n0 L) ∧ (Keep h0 h [o0]) ∧ (Exa Z h o0 "com/example/gatehook/gatehook/http/IncomingBody") ∧ (Fld Z h o0 "com/example/gatehook/gatehook/http/IncomingBody" "length" "J" (.long u))
set_option maxRecDepth 65536 in
set_option maxHeartbeats 40000000 in
theorem rmtp0 (l : Launch) (Z : State) (a0 : Array Value) (hw : ∀ d ∈ tables_1, d.before a0 Z = true) (ws : List Jvm.Cond) (o0 : Addr) (o1 : Addr) (u : Int64) (mx : Int32) (a_NONE : Addr) (kn : ClassId) (ka : ClassId) (bv : Int32) (h0 : Heap) (n0 : Nat) (Z0 : n0 ≤ h0.size) (E_o0 : Exa Z h0 o0 "com/example/gatehook/gatehook/http/IncomingBody") (F_ended_o0 : Fld Z h0 o0 "com/example/gatehook/gatehook/http/IncomingBody" "ended" "Z" (.int (0 : Int32))) (F_chunks_o0 : Fld Z h0 o0 "com/example/gatehook/gatehook/http/IncomingBody" "chunks" "Lcom/example/gatehook/gatehook/http/ChunkedBody;" .null) (F_length_o0 : Fld Z h0 o0 "com/example/gatehook/gatehook/http/IncomingBody" "length" "J" (.long u)) (F_max_o0 : Fld Z h0 o0 "com/example/gatehook/gatehook/http/IncomingBody" "max" "I" (.int mx)) (F_data_o0 : Fld Z h0 o0 "com/example/gatehook/gatehook/http/IncomingBody" "data" "[B" (.ref a_NONE)) (F_dataLength_o0 : Fld Z h0 o0 "com/example/gatehook/gatehook/http/IncomingBody" "dataLength" "I" (.int (0 : Int32))) (A_a_NONE : Arv Z h0 a_NONE kn .byte (0 : Int32) [] (.int (0 : Int32))) (g_o0 : n0 ≤ o0) (ne_a_NONE_o0 : a_NONE ≠ o0) (A_o1 : Arv Z h0 o1 ka .byte (1 : Int32) [(.int bv)] (.int (0 : Int32))) (ne_o1_o0 : o1 ≠ o0) (hu : u = (-1 : Int64) ∨ ¬ u < (1 : Int64)) (hx0 : ¬ mx < (0 : Int32)) :
    MetFree l (⟨"com/example/gatehook/gatehook/http/IncomingBody", "take", "([BII)I"⟩ : MethodName) (head1 (Jvm.Cond.code (⟨"com/example/gatehook/gatehook/http/IncomingBody", "take", "([BII)I"⟩ : MethodName) prog_42_method_2_code 7 (some .int) :: ws) ({ frames := 1, cells := 0, slots := 0, locals := 24 } : Room)) (fun a U => a = #[(.ref o0), (.ref o1), (.int (0 : Int32)), (.int (0 : Int32))] ∧ Z.Warmed39 U.vm ∧ U.heap = h0) (fun _ _ _ _ _ => True) (fun _ U o U' => ∃ v L, o = .returned v ∧ Qtp0 Z o0 o1 u mx a_NONE kn ka bv h0 n0 v U'.heap L ∧ FrameEnd U o U' L ({ frames := 1, cells := 0, slots := 0, locals := 24 } : Room).cells ({ frames := 1, cells := 0, slots := 0, locals := 24 } : Room).slots) := by
  refine MetFree.of_bodySF (plainFor_of_name pn_5) hisR ?_
  intro p e s m args below meth c s₁ Bd hml0 hP hK
  obtain ⟨rfl, hZ, hh⟩ := hP
  have hx := Bd.exec
  have hby := Bd.bytes
  have hml : c.maxLocals = 7 := hml0
  have hown : s.vm.findClass "com/example/gatehook/gatehook/http/IncomingBody" = some m.cls := findClass_of_methodNamed Bd.named
  have hnm := (name_of_methodNamed Bd.named Bd.method).1
  have X0 : Stand p l e ({ frames := 1, cells := 0, slots := 0, locals := 24 } : Room) s m #[(.ref o0), (.ref o1), (.int (0 : Int32)), (.int (0 : Int32))] below meth c s₁ [] 0 0 := Stand.of_body Bd
  have e0 : s₁.heap = h0 := by rw [← hh, Bd.state]; rfl
  have N0 := Fr.nil n0
  refine Ends.opn ?_
  intro QQ hQQ
  refine Ends.step (S' := s₁.setTop (mkF m 0 #[.val (.ref o0), .val (.ref o1), .val (.int (0 : Int32)), .val (.int (0 : Int32)), .unset, .unset, .unset] [])) (fun t k => castTop (ef_tp0 m o0 o1) k) ?_
  show Ends p e below QQ (s₁.setTop (mkF m 0 #[.val (.ref o0), .val (.ref o1), .val (.int (0 : Int32)), .val (.int (0 : Int32)), .unset, .unset, .unset] []))
  refine Ends.step (fun _ k => XS.aloadN X0.here hx rfl (hb hby d10_0) rfl rfl k) ?_
  show Ends p e below QQ (s₁.setTop (mkF m 1 #[.val (.ref o0), .val (.ref o1), .val (.int (0 : Int32)), .val (.int (0 : Int32)), .unset, .unset, .unset] [(.ref o0)]))
  obtain ⟨T109, X109, e109, st109⟩ := getF X0 hx hZ hown (host := "") (Or.inl (hw _ (List.mem_of_getElem? (i := 90) rfl))) Via.refl e0 F_ended_o0 (g := (mkF m 1 #[.val (.ref o0), .val (.ref o1), .val (.int (0 : Int32)), .val (.int (0 : Int32)), .unset, .unset, .unset] [(.ref o0)])) rfl rfl (hb hby d10_1)
  refine Ends.step st109 ?_
  show Ends p e below QQ (T109.setTop (mkF m 4 #[.val (.ref o0), .val (.ref o1), .val (.int (0 : Int32)), .val (.int (0 : Int32)), .unset, .unset, .unset] [(.int (0 : Int32))]))
  refine Ends.step (fun _ k => XS.ifYes X109.here hx rfl (pc0 := 4) (pc' := 9) rfl (hb hby d10_4) rfl (XT.i0_eq_t (by decide)) (by decide) (by decide) k) ?_
  show Ends p e below QQ (T109.setTop (mkF m 9 #[.val (.ref o0), .val (.ref o1), .val (.int (0 : Int32)), .val (.int (0 : Int32)), .unset, .unset, .unset] []))
  refine Ends.step (fun _ k => XS.aloadN X109.here hx rfl (hb hby d10_9) rfl rfl k) ?_
  show Ends p e below QQ (T109.setTop (mkF m 10 #[.val (.ref o0), .val (.ref o1), .val (.int (0 : Int32)), .val (.int (0 : Int32)), .unset, .unset, .unset] [(.ref o0)]))
  obtain ⟨T110, X110, e110, st110⟩ := getF X109 hx hZ hown (host := "") (Or.inl (hw _ (List.mem_of_getElem? (i := 77) rfl))) Via.refl e109 F_chunks_o0 (g := (mkF m 10 #[.val (.ref o0), .val (.ref o1), .val (.int (0 : Int32)), .val (.int (0 : Int32)), .unset, .unset, .unset] [(.ref o0)])) rfl rfl (hb hby d10_10)
  refine Ends.step st110 ?_
  show Ends p e below QQ (T110.setTop (mkF m 13 #[.val (.ref o0), .val (.ref o1), .val (.int (0 : Int32)), .val (.int (0 : Int32)), .unset, .unset, .unset] [.null]))
  refine Ends.step (fun _ k => XS.ifnullYes X110.here hx rfl (pc0 := 13) (pc' := 62) rfl (hb hby d10_13) rfl (by decide) (by decide) k) ?_
  show Ends p e below QQ (T110.setTop (mkF m 62 #[.val (.ref o0), .val (.ref o1), .val (.int (0 : Int32)), .val (.int (0 : Int32)), .unset, .unset, .unset] []))
  refine Ends.step (fun _ k => XS.aloadN X110.here hx rfl (hb hby d10_62) rfl rfl k) ?_
  show Ends p e below QQ (T110.setTop (mkF m 63 #[.val (.ref o0), .val (.ref o1), .val (.int (0 : Int32)), .val (.int (0 : Int32)), .unset, .unset, .unset] [(.ref o0)]))
  obtain ⟨T111, X111, e111, st111⟩ := getF X110 hx hZ hown (host := "") (Or.inl (hw _ (List.mem_of_getElem? (i := 15) rfl))) Via.refl e110 F_length_o0 (g := (mkF m 63 #[.val (.ref o0), .val (.ref o1), .val (.int (0 : Int32)), .val (.int (0 : Int32)), .unset, .unset, .unset] [(.ref o0)])) rfl rfl (hb hby d10_63)
  refine Ends.step st111 ?_
  show Ends p e below QQ (T111.setTop (mkF m 66 #[.val (.ref o0), .val (.ref o1), .val (.int (0 : Int32)), .val (.int (0 : Int32)), .unset, .unset, .unset] [(.long u)]))
  refine Ends.step (fun _ k => X111.ldc2J hx hown (mvT hZ (hw _ (List.mem_of_getElem? (i := 84) rfl))) (g := (mkF m 66 #[.val (.ref o0), .val (.ref o1), .val (.int (0 : Int32)), .val (.int (0 : Int32)), .unset, .unset, .unset] [(.long u)])) rfl (hb hby d10_66) k) ?_
  show Ends p e below QQ (T111.setTop (mkF m 69 #[.val (.ref o0), .val (.ref o1), .val (.int (0 : Int32)), .val (.int (0 : Int32)), .unset, .unset, .unset] [(.long (-1 : Int64)), (.long u)]))
  refine Ends.step (fun _ k => XT.lcmp X111.here hx rfl (hb hby d10_69) rfl k) ?_
  show Ends p e below QQ (T111.setTop (mkF m 70 #[.val (.ref o0), .val (.ref o1), .val (.int (0 : Int32)), .val (.int (0 : Int32)), .unset, .unset, .unset] [(.int (XT.cmpL u (-1 : Int64)))]))
  by_cases hc70_112 : u = (-1 : Int64)
  · refine Ends.step (fun _ k => XS.ifNo X111.here hx rfl (hb hby d10_70) rfl (XT.ll_ne_f hc70_112) k) ?_
    show Ends p e below QQ (T111.setTop (mkF m 73 #[.val (.ref o0), .val (.ref o1), .val (.int (0 : Int32)), .val (.int (0 : Int32)), .unset, .unset, .unset] []))
    refine Ends.step (fun _ k => XS.aloadN X111.here hx rfl (hb hby d10_73) rfl rfl k) ?_
    show Ends p e below QQ (T111.setTop (mkF m 74 #[.val (.ref o0), .val (.ref o1), .val (.int (0 : Int32)), .val (.int (0 : Int32)), .unset, .unset, .unset] [(.ref o0)]))
    obtain ⟨T113, X113, e113, st113⟩ := getF X111 hx hZ hown (host := "") (Or.inl (hw _ (List.mem_of_getElem? (i := 17) rfl))) Via.refl e111 F_max_o0 (g := (mkF m 74 #[.val (.ref o0), .val (.ref o1), .val (.int (0 : Int32)), .val (.int (0 : Int32)), .unset, .unset, .unset] [(.ref o0)])) rfl rfl (hb hby d10_74)
    refine Ends.step st113 ?_
    show Ends p e below QQ (T113.setTop (mkF m 77 #[.val (.ref o0), .val (.ref o1), .val (.int (0 : Int32)), .val (.int (0 : Int32)), .unset, .unset, .unset] [(.int mx)]))
    refine Ends.step (fun _ k => XT.i2l X113.here hx rfl (hb hby d10_77) rfl k) ?_
    show Ends p e below QQ (T113.setTop (mkF m 78 #[.val (.ref o0), .val (.ref o1), .val (.int (0 : Int32)), .val (.int (0 : Int32)), .unset, .unset, .unset] [(.long mx.toInt64)]))
    refine Ends.step (fun _ k => XT.lconstV X113.here hx rfl (1 : Int64) (hb hby d10_78) rfl k) ?_
    show Ends p e below QQ (T113.setTop (mkF m 79 #[.val (.ref o0), .val (.ref o1), .val (.int (0 : Int32)), .val (.int (0 : Int32)), .unset, .unset, .unset] [(.long (1 : Int64)), (.long mx.toInt64)]))
    refine Ends.step (fun _ k => XT.ladd X113.here hx rfl (hb hby d10_79) rfl k) ?_
    show Ends p e below QQ (T113.setTop (mkF m 80 #[.val (.ref o0), .val (.ref o1), .val (.int (0 : Int32)), .val (.int (0 : Int32)), .unset, .unset, .unset] [(.long (mx.toInt64 + (1 : Int64)))]))
    refine Ends.step (fun _ k => XS.goto X113.here hx rfl (pc0 := 80) (pc' := 87) rfl (hb hby d10_80) (by decide) (by decide) k) ?_
    show Ends p e below QQ (T113.setTop (mkF m 87 #[.val (.ref o0), .val (.ref o1), .val (.int (0 : Int32)), .val (.int (0 : Int32)), .unset, .unset, .unset] [(.long (mx.toInt64 + (1 : Int64)))]))
    refine Ends.step (fun _ k => XT.lstore X113.here hx rfl (hb hby d10_87) rfl (l' := #[.val (.ref o0), .val (.ref o1), .val (.int (0 : Int32)), .val (.int (0 : Int32)), .val (.long (mx.toInt64 + (1 : Int64))), .second, .unset]) rfl k) ?_
    show Ends p e below QQ (T113.setTop (mkF m 89 #[.val (.ref o0), .val (.ref o1), .val (.int (0 : Int32)), .val (.int (0 : Int32)), .val (.long (mx.toInt64 + (1 : Int64))), .second, .unset] []))
    refine Ends.step (fun _ k => XS.iloadN X113.here hx rfl (hb hby d10_89) rfl k) ?_
    show Ends p e below QQ (T113.setTop (mkF m 90 #[.val (.ref o0), .val (.ref o1), .val (.int (0 : Int32)), .val (.int (0 : Int32)), .val (.long (mx.toInt64 + (1 : Int64))), .second, .unset] [(.int (0 : Int32))]))
    refine Ends.step (fun _ k => XT.i2l X113.here hx rfl (hb hby d10_90) rfl k) ?_
    show Ends p e below QQ (T113.setTop (mkF m 91 #[.val (.ref o0), .val (.ref o1), .val (.int (0 : Int32)), .val (.int (0 : Int32)), .val (.long (mx.toInt64 + (1 : Int64))), .second, .unset] [(.long (0 : Int64))]))
    refine Ends.step (fun _ k => XT.lload X113.here hx rfl (hb hby d10_91) rfl k) ?_
    show Ends p e below QQ (T113.setTop (mkF m 93 #[.val (.ref o0), .val (.ref o1), .val (.int (0 : Int32)), .val (.int (0 : Int32)), .val (.long (mx.toInt64 + (1 : Int64))), .second, .unset] [(.long (mx.toInt64 + (1 : Int64))), (.long (0 : Int64))]))
    refine Ends.step (fun _ k => XS.aloadN X113.here hx rfl (hb hby d10_93) rfl rfl k) ?_
    show Ends p e below QQ (T113.setTop (mkF m 94 #[.val (.ref o0), .val (.ref o1), .val (.int (0 : Int32)), .val (.int (0 : Int32)), .val (.long (mx.toInt64 + (1 : Int64))), .second, .unset] [(.ref o0), (.long (mx.toInt64 + (1 : Int64))), (.long (0 : Int64))]))
    obtain ⟨T114, X114, e114, st114⟩ := getF X113 hx hZ hown (host := "") (Or.inl (hw _ (List.mem_of_getElem? (i := 105) rfl))) Via.refl e113 F_dataLength_o0 (g := (mkF m 94 #[.val (.ref o0), .val (.ref o1), .val (.int (0 : Int32)), .val (.int (0 : Int32)), .val (.long (mx.toInt64 + (1 : Int64))), .second, .unset] [(.ref o0), (.long (mx.toInt64 + (1 : Int64))), (.long (0 : Int64))])) rfl rfl (hb hby d10_94)
    refine Ends.step st114 ?_
    show Ends p e below QQ (T114.setTop (mkF m 97 #[.val (.ref o0), .val (.ref o1), .val (.int (0 : Int32)), .val (.int (0 : Int32)), .val (.long (mx.toInt64 + (1 : Int64))), .second, .unset] [(.int (0 : Int32)), (.long (mx.toInt64 + (1 : Int64))), (.long (0 : Int64))]))
    refine Ends.step (fun _ k => XT.i2l X114.here hx rfl (hb hby d10_97) rfl k) ?_
    show Ends p e below QQ (T114.setTop (mkF m 98 #[.val (.ref o0), .val (.ref o1), .val (.int (0 : Int32)), .val (.int (0 : Int32)), .val (.long (mx.toInt64 + (1 : Int64))), .second, .unset] [(.long (0 : Int64)), (.long (mx.toInt64 + (1 : Int64))), (.long (0 : Int64))]))
    refine Ends.step (fun _ k => XT.lsub X114.here hx rfl (hb hby d10_98) rfl k) ?_
    show Ends p e below QQ (T114.setTop (mkF m 99 #[.val (.ref o0), .val (.ref o1), .val (.int (0 : Int32)), .val (.int (0 : Int32)), .val (.long (mx.toInt64 + (1 : Int64))), .second, .unset] [(.long ((mx.toInt64 + (1 : Int64)) - (0 : Int64))), (.long (0 : Int64))]))
    obtain ⟨_, _, ⟨T115, L115, k115, n115⟩, -, X115, ⟨Lc115, hQ115, l115, y115, z115⟩, st115⟩ := Jvm.LawKit.callS X114 hx (y := (⟨"java/lang/Math", "min", "(JJ)J"⟩ : MethodName)) hown (mvT hZ (hw _ (List.mem_of_getElem? (i := 107) rfl))) (mvT hZ (hw _ (List.mem_of_getElem? (i := 108) rfl))) (mvT hZ (hw _ (List.mem_of_getElem? (i := 109) rfl))) (mvT hZ (hw _ (List.mem_of_getElem? (i := 110) rfl))) (by decide) (backOf (W := 0) (rmmna l Z a0 hw [] (0 : Int64) ((mx.toInt64 + (1 : Int64)) - (0 : Int64)) h0 n0 (Nat.le_trans Z0 (Keep.refl h0 [o0]).1) (own_lim0 (own_mx hx0))) hZ (hw _ (List.mem_of_getElem? (i := 110) rfl)) (hw _ (List.mem_of_getElem? (i := 109) rfl)) (by decide) (by decide)) (g := (mkF m 99 #[.val (.ref o0), .val (.ref o1), .val (.int (0 : Int32)), .val (.int (0 : Int32)), .val (.long (mx.toInt64 + (1 : Int64))), .second, .unset] [(.long ((mx.toInt64 + (1 : Int64)) - (0 : Int64))), (.long (0 : Int64))])) rfl (by rw [hml]; rfl) (argsL := [(.long (0 : Int64)), (.long ((mx.toInt64 + (1 : Int64)) - (0 : Int64)))]) (rest := []) (lenOf pd_3 rfl) rfl (by show 2 * 0 + _ ≤ _; exact Nat.le_of_eq rfl) (hb hby d10_99) (fun _ _ => ⟨rfl, e114, (by decide : 0 + 0 ≤ _), (by decide : 0 + 0 ≤ _)⟩)
    dsimp only [Pt.U, Pt.locs, Pt.cells, Pt.slots] at X115 l115 y115 z115 st115 hQ115
    subst l115 y115 z115
    obtain ⟨rfl, Nq115, hh115⟩ := hQ115
    have N115 := Fr.app N0 Nq115
    refine Ends.step st115 ?_
    show Ends p e below QQ (T115.setTop (mkF m 102 #[.val (.ref o0), .val (.ref o1), .val (.int (0 : Int32)), .val (.int (0 : Int32)), .val (.long (mx.toInt64 + (1 : Int64))), .second, .unset] [(.long (0 : Int64))]))
    refine Ends.step (fun _ k => XT.l2i X115.here hx rfl (hb hby d10_102) rfl k) ?_
    show Ends p e below QQ (T115.setTop (mkF m 103 #[.val (.ref o0), .val (.ref o1), .val (.int (0 : Int32)), .val (.int (0 : Int32)), .val (.long (mx.toInt64 + (1 : Int64))), .second, .unset] [(.int (0 : Int32))]))
    refine Ends.step (fun _ k => XS.istore X115.here hx rfl (hb hby d10_103) rfl (l' := #[.val (.ref o0), .val (.ref o1), .val (.int (0 : Int32)), .val (.int (0 : Int32)), .val (.long (mx.toInt64 + (1 : Int64))), .second, .val (.int (0 : Int32))]) rfl k) ?_
    show Ends p e below QQ (T115.setTop (mkF m 105 #[.val (.ref o0), .val (.ref o1), .val (.int (0 : Int32)), .val (.int (0 : Int32)), .val (.long (mx.toInt64 + (1 : Int64))), .second, .val (.int (0 : Int32))] []))
    refine Ends.step (fun _ k => XS.aloadN X115.here hx rfl (hb hby d10_105) rfl rfl k) ?_
    show Ends p e below QQ (T115.setTop (mkF m 106 #[.val (.ref o0), .val (.ref o1), .val (.int (0 : Int32)), .val (.int (0 : Int32)), .val (.long (mx.toInt64 + (1 : Int64))), .second, .val (.int (0 : Int32))] [(.ref o0)]))
    refine Ends.step (fun _ k => XS.aloadN X115.here hx rfl (hb hby d10_106) rfl rfl k) ?_
    show Ends p e below QQ (T115.setTop (mkF m 107 #[.val (.ref o0), .val (.ref o1), .val (.int (0 : Int32)), .val (.int (0 : Int32)), .val (.long (mx.toInt64 + (1 : Int64))), .second, .val (.int (0 : Int32))] [(.ref o0), (.ref o0)]))
    obtain ⟨T116, X116, e116, st116⟩ := getF X115 hx hZ hown (host := "") (Or.inl (hw _ (List.mem_of_getElem? (i := 13) rfl))) Via.refl hh115 F_data_o0 (g := (mkF m 107 #[.val (.ref o0), .val (.ref o1), .val (.int (0 : Int32)), .val (.int (0 : Int32)), .val (.long (mx.toInt64 + (1 : Int64))), .second, .val (.int (0 : Int32))] [(.ref o0), (.ref o0)])) rfl rfl (hb hby d10_107)
    refine Ends.step st116 ?_
    show Ends p e below QQ (T116.setTop (mkF m 110 #[.val (.ref o0), .val (.ref o1), .val (.int (0 : Int32)), .val (.int (0 : Int32)), .val (.long (mx.toInt64 + (1 : Int64))), .second, .val (.int (0 : Int32))] [(.ref a_NONE), (.ref o0)]))
    refine Ends.step (fun _ k => XS.aloadN X116.here hx rfl (hb hby d10_110) rfl rfl k) ?_
    show Ends p e below QQ (T116.setTop (mkF m 111 #[.val (.ref o0), .val (.ref o1), .val (.int (0 : Int32)), .val (.int (0 : Int32)), .val (.long (mx.toInt64 + (1 : Int64))), .second, .val (.int (0 : Int32))] [(.ref o0), (.ref a_NONE), (.ref o0)]))
    obtain ⟨T117, X117, e117, st117⟩ := getF X116 hx hZ hown (host := "") (Or.inl (hw _ (List.mem_of_getElem? (i := 105) rfl))) Via.refl e116 F_dataLength_o0 (g := (mkF m 111 #[.val (.ref o0), .val (.ref o1), .val (.int (0 : Int32)), .val (.int (0 : Int32)), .val (.long (mx.toInt64 + (1 : Int64))), .second, .val (.int (0 : Int32))] [(.ref o0), (.ref a_NONE), (.ref o0)])) rfl rfl (hb hby d10_111)
    refine Ends.step st117 ?_
    show Ends p e below QQ (T117.setTop (mkF m 114 #[.val (.ref o0), .val (.ref o1), .val (.int (0 : Int32)), .val (.int (0 : Int32)), .val (.long (mx.toInt64 + (1 : Int64))), .second, .val (.int (0 : Int32))] [(.int (0 : Int32)), (.ref a_NONE), (.ref o0)]))
    refine Ends.step (fun _ k => XS.iload X117.here hx rfl (hb hby d10_114) rfl k) ?_
    show Ends p e below QQ (T117.setTop (mkF m 116 #[.val (.ref o0), .val (.ref o1), .val (.int (0 : Int32)), .val (.int (0 : Int32)), .val (.long (mx.toInt64 + (1 : Int64))), .second, .val (.int (0 : Int32))] [(.int (0 : Int32)), (.int (0 : Int32)), (.ref a_NONE), (.ref o0)]))
    refine Ends.step (fun _ k => XS.iadd X117.here hx rfl (hb hby d10_116) rfl k) ?_
    show Ends p e below QQ (T117.setTop (mkF m 117 #[.val (.ref o0), .val (.ref o1), .val (.int (0 : Int32)), .val (.int (0 : Int32)), .val (.long (mx.toInt64 + (1 : Int64))), .second, .val (.int (0 : Int32))] [(.int (0 : Int32)), (.ref a_NONE), (.ref o0)]))
    refine Ends.step (fun _ k => XT.lload X117.here hx rfl (hb hby d10_117) rfl k) ?_
    show Ends p e below QQ (T117.setTop (mkF m 119 #[.val (.ref o0), .val (.ref o1), .val (.int (0 : Int32)), .val (.int (0 : Int32)), .val (.long (mx.toInt64 + (1 : Int64))), .second, .val (.int (0 : Int32))] [(.long (mx.toInt64 + (1 : Int64))), (.int (0 : Int32)), (.ref a_NONE), (.ref o0)]))
    obtain ⟨_, _, ⟨T118, L118, k118, n118⟩, -, X118, ⟨Lc118, hQ118, l118, y118, z118⟩, st118⟩ := Jvm.LawKit.callS X117 hx (y := (⟨"com/example/gatehook/gatehook/http/IncomingBody", "grown", "([BIJ)[B"⟩ : MethodName)) hown (mvT hZ (hw _ (List.mem_of_getElem? (i := 111) rfl))) (mvT hZ (hw _ (List.mem_of_getElem? (i := 112) rfl))) (mvT hZ (hw _ (List.mem_of_getElem? (i := 4) rfl))) (mvT hZ (hw _ (List.mem_of_getElem? (i := 113) rfl))) (by decide) (backOf (W := 1) (rmg0 l Z a0 hw [] a_NONE (mx.toInt64 + (1 : Int64)) kn h0 n0 (Nat.le_trans Z0 (Keep.refl h0 [o0]).1) A_a_NONE) hZ (hw _ (List.mem_of_getElem? (i := 113) rfl)) (hw _ (List.mem_of_getElem? (i := 4) rfl)) (by decide) (by decide)) (g := (mkF m 119 #[.val (.ref o0), .val (.ref o1), .val (.int (0 : Int32)), .val (.int (0 : Int32)), .val (.long (mx.toInt64 + (1 : Int64))), .second, .val (.int (0 : Int32))] [(.long (mx.toInt64 + (1 : Int64))), (.int (0 : Int32)), (.ref a_NONE), (.ref o0)])) rfl (by rw [hml]; rfl) (argsL := [(.ref a_NONE), (.int (0 : Int32)), (.long (mx.toInt64 + (1 : Int64)))]) (rest := [(.ref o0)]) (lenOf pd_12 rfl) rfl (by show 2 * 0 + _ ≤ _; exact Nat.le_of_eq rfl) (hb hby d10_119) (fun _ _ => ⟨rfl, e117, (by decide : 0 + 0 ≤ _), (by decide : 0 + 0 ≤ _)⟩)
    dsimp only [Pt.U, Pt.locs, Pt.cells, Pt.slots] at X118 l118 y118 z118 st118 hQ118
    subst l118 y118 z118
    obtain ⟨rfl, Nq118, hh118⟩ := hQ118
    have N118 := Fr.app N115 Nq118
    refine Ends.step st118 ?_
    show Ends p e below QQ (T118.setTop (mkF m 122 #[.val (.ref o0), .val (.ref o1), .val (.int (0 : Int32)), .val (.int (0 : Int32)), .val (.long (mx.toInt64 + (1 : Int64))), .second, .val (.int (0 : Int32))] [(.ref a_NONE), (.ref o0)]))
    obtain ⟨T119, h119, X119, e119, W119, st119⟩ := putF X118 hx hZ hown (host := "") (Or.inl (hw _ (List.mem_of_getElem? (i := 13) rfl))) Via.refl hh118 F_data_o0 E_o0 (Or.inl (hw _ (List.mem_of_getElem? (i := 14) rfl))) (hw _ (List.mem_of_getElem? (i := 3) rfl)) (ty := (.array .byte)) (by decide) rfl rfl (g := (mkF m 122 #[.val (.ref o0), .val (.ref o1), .val (.int (0 : Int32)), .val (.int (0 : Int32)), .val (.long (mx.toInt64 + (1 : Int64))), .second, .val (.int (0 : Int32))] [(.ref a_NONE), (.ref o0)])) rfl rfl (hb hby d10_122)
    have E_o0 := E_o0.wr W119
    have F_ended_o0 := F_ended_o0.other W119 (Or.inr (slot_ne (Or.inl (hw _ (List.mem_of_getElem? (i := 91) rfl))) (Or.inl (hw _ (List.mem_of_getElem? (i := 14) rfl))) (by decide) (t := .boolean) (t' := (.array .byte)) (by decide) (by decide)))
    have F_chunks_o0 := F_chunks_o0.other W119 (Or.inr (slot_ne (Or.inl (hw _ (List.mem_of_getElem? (i := 78) rfl))) (Or.inl (hw _ (List.mem_of_getElem? (i := 14) rfl))) (by decide) (t := (.object "com/example/gatehook/gatehook/http/ChunkedBody")) (t' := (.array .byte)) (by decide) (by decide)))
    have F_length_o0 := F_length_o0.other W119 (Or.inr (slot_ne (Or.inr (hw _ (List.mem_of_getElem? (i := 16) rfl))) (Or.inl (hw _ (List.mem_of_getElem? (i := 14) rfl))) (by decide) (t := .long) (t' := (.array .byte)) (by decide) (by decide)))
    have F_max_o0 := F_max_o0.other W119 (Or.inr (slot_ne (Or.inr (hw _ (List.mem_of_getElem? (i := 18) rfl))) (Or.inl (hw _ (List.mem_of_getElem? (i := 14) rfl))) (by decide) (t := .int) (t' := (.array .byte)) (by decide) (by decide)))
    have F_dataLength_o0 := F_dataLength_o0.other W119 (Or.inr (slot_ne (Or.inl (hw _ (List.mem_of_getElem? (i := 106) rfl))) (Or.inl (hw _ (List.mem_of_getElem? (i := 14) rfl))) (by decide) (t := .int) (t' := (.array .byte)) (by decide) (by decide)))
    have A_a_NONE := A_a_NONE.other W119 ne_a_NONE_o0
    have A_o1 := A_o1.other W119 ne_o1_o0
    have F_data_o0 : Fld Z h119 o0 "com/example/gatehook/gatehook/http/IncomingBody" "data" "[B" (.ref a_NONE) := F_data_o0.same W119
    have K119 := (Keep.refl h0 [o0]).wr W119 (Or.inl (List.mem_of_getElem? (i := 0) rfl))
    have N119 := Fr.snoc X119 N118 g_o0
    refine Ends.step st119 ?_
    show Ends p e below QQ (T119.setTop (mkF m 125 #[.val (.ref o0), .val (.ref o1), .val (.int (0 : Int32)), .val (.int (0 : Int32)), .val (.long (mx.toInt64 + (1 : Int64))), .second, .val (.int (0 : Int32))] []))
    refine Ends.step (fun _ k => XS.aloadN X119.here hx rfl (hb hby d10_125) rfl rfl k) ?_
    show Ends p e below QQ (T119.setTop (mkF m 126 #[.val (.ref o0), .val (.ref o1), .val (.int (0 : Int32)), .val (.int (0 : Int32)), .val (.long (mx.toInt64 + (1 : Int64))), .second, .val (.int (0 : Int32))] [(.ref o1)]))
    refine Ends.step (fun _ k => XS.iloadN X119.here hx rfl (hb hby d10_126) rfl k) ?_
    show Ends p e below QQ (T119.setTop (mkF m 127 #[.val (.ref o0), .val (.ref o1), .val (.int (0 : Int32)), .val (.int (0 : Int32)), .val (.long (mx.toInt64 + (1 : Int64))), .second, .val (.int (0 : Int32))] [(.int (0 : Int32)), (.ref o1)]))
    refine Ends.step (fun _ k => XS.aloadN X119.here hx rfl (hb hby d10_127) rfl rfl k) ?_
    show Ends p e below QQ (T119.setTop (mkF m 128 #[.val (.ref o0), .val (.ref o1), .val (.int (0 : Int32)), .val (.int (0 : Int32)), .val (.long (mx.toInt64 + (1 : Int64))), .second, .val (.int (0 : Int32))] [(.ref o0), (.int (0 : Int32)), (.ref o1)]))
    obtain ⟨T120, X120, e120, st120⟩ := getF X119 hx hZ hown (host := "") (Or.inl (hw _ (List.mem_of_getElem? (i := 13) rfl))) Via.refl e119 F_data_o0 (g := (mkF m 128 #[.val (.ref o0), .val (.ref o1), .val (.int (0 : Int32)), .val (.int (0 : Int32)), .val (.long (mx.toInt64 + (1 : Int64))), .second, .val (.int (0 : Int32))] [(.ref o0), (.int (0 : Int32)), (.ref o1)])) rfl rfl (hb hby d10_128)
    refine Ends.step st120 ?_
    show Ends p e below QQ (T120.setTop (mkF m 131 #[.val (.ref o0), .val (.ref o1), .val (.int (0 : Int32)), .val (.int (0 : Int32)), .val (.long (mx.toInt64 + (1 : Int64))), .second, .val (.int (0 : Int32))] [(.ref a_NONE), (.int (0 : Int32)), (.ref o1)]))
    refine Ends.step (fun _ k => XS.aloadN X120.here hx rfl (hb hby d10_131) rfl rfl k) ?_
    show Ends p e below QQ (T120.setTop (mkF m 132 #[.val (.ref o0), .val (.ref o1), .val (.int (0 : Int32)), .val (.int (0 : Int32)), .val (.long (mx.toInt64 + (1 : Int64))), .second, .val (.int (0 : Int32))] [(.ref o0), (.ref a_NONE), (.int (0 : Int32)), (.ref o1)]))
    obtain ⟨T121, X121, e121, st121⟩ := getF X120 hx hZ hown (host := "") (Or.inl (hw _ (List.mem_of_getElem? (i := 105) rfl))) Via.refl e120 F_dataLength_o0 (g := (mkF m 132 #[.val (.ref o0), .val (.ref o1), .val (.int (0 : Int32)), .val (.int (0 : Int32)), .val (.long (mx.toInt64 + (1 : Int64))), .second, .val (.int (0 : Int32))] [(.ref o0), (.ref a_NONE), (.int (0 : Int32)), (.ref o1)])) rfl rfl (hb hby d10_132)
    refine Ends.step st121 ?_
    show Ends p e below QQ (T121.setTop (mkF m 135 #[.val (.ref o0), .val (.ref o1), .val (.int (0 : Int32)), .val (.int (0 : Int32)), .val (.long (mx.toInt64 + (1 : Int64))), .second, .val (.int (0 : Int32))] [(.int (0 : Int32)), (.ref a_NONE), (.int (0 : Int32)), (.ref o1)]))
    refine Ends.step (fun _ k => XS.iload X121.here hx rfl (hb hby d10_135) rfl k) ?_
    show Ends p e below QQ (T121.setTop (mkF m 137 #[.val (.ref o0), .val (.ref o1), .val (.int (0 : Int32)), .val (.int (0 : Int32)), .val (.long (mx.toInt64 + (1 : Int64))), .second, .val (.int (0 : Int32))] [(.int (0 : Int32)), (.int (0 : Int32)), (.ref a_NONE), (.int (0 : Int32)), (.ref o1)]))
    obtain ⟨T122, X122, e122, st122⟩ := own_cp0 X121 hx hZ hown (hw _ (List.mem_of_getElem? (i := 114) rfl)) (hw _ (List.mem_of_getElem? (i := 117) rfl)) (hw _ (List.mem_of_getElem? (i := 115) rfl)) (hw _ (List.mem_of_getElem? (i := 116) rfl)) e121 A_o1 A_a_NONE (by decide) (by decide) (g := (mkF m 137 #[.val (.ref o0), .val (.ref o1), .val (.int (0 : Int32)), .val (.int (0 : Int32)), .val (.long (mx.toInt64 + (1 : Int64))), .second, .val (.int (0 : Int32))] [(.int (0 : Int32)), (.int (0 : Int32)), (.ref a_NONE), (.int (0 : Int32)), (.ref o1)])) rfl (by rw [hml]; rfl) rfl (hb hby d10_137) (by decide) (W := 0) (by show 2 * 0 + _ ≤ _; exact Nat.le_of_eq rfl) (by decide)
    refine Ends.step st122 ?_
    show Ends p e below QQ (T122.setTop (mkF m 140 #[.val (.ref o0), .val (.ref o1), .val (.int (0 : Int32)), .val (.int (0 : Int32)), .val (.long (mx.toInt64 + (1 : Int64))), .second, .val (.int (0 : Int32))] []))
    refine Ends.step (fun _ k => XS.aloadN X122.here hx rfl (hb hby d10_140) rfl rfl k) ?_
    show Ends p e below QQ (T122.setTop (mkF m 141 #[.val (.ref o0), .val (.ref o1), .val (.int (0 : Int32)), .val (.int (0 : Int32)), .val (.long (mx.toInt64 + (1 : Int64))), .second, .val (.int (0 : Int32))] [(.ref o0)]))
    refine Ends.step (fun _ k => XS.dup X122.here hx rfl (hb hby d10_141) rfl rfl k) ?_
    show Ends p e below QQ (T122.setTop (mkF m 142 #[.val (.ref o0), .val (.ref o1), .val (.int (0 : Int32)), .val (.int (0 : Int32)), .val (.long (mx.toInt64 + (1 : Int64))), .second, .val (.int (0 : Int32))] [(.ref o0), (.ref o0)]))
    obtain ⟨T123, X123, e123, st123⟩ := getF X122 hx hZ hown (host := "") (Or.inl (hw _ (List.mem_of_getElem? (i := 105) rfl))) Via.refl e122 F_dataLength_o0 (g := (mkF m 142 #[.val (.ref o0), .val (.ref o1), .val (.int (0 : Int32)), .val (.int (0 : Int32)), .val (.long (mx.toInt64 + (1 : Int64))), .second, .val (.int (0 : Int32))] [(.ref o0), (.ref o0)])) rfl rfl (hb hby d10_142)
    refine Ends.step st123 ?_
    show Ends p e below QQ (T123.setTop (mkF m 145 #[.val (.ref o0), .val (.ref o1), .val (.int (0 : Int32)), .val (.int (0 : Int32)), .val (.long (mx.toInt64 + (1 : Int64))), .second, .val (.int (0 : Int32))] [(.int (0 : Int32)), (.ref o0)]))
    refine Ends.step (fun _ k => XS.iload X123.here hx rfl (hb hby d10_145) rfl k) ?_
    show Ends p e below QQ (T123.setTop (mkF m 147 #[.val (.ref o0), .val (.ref o1), .val (.int (0 : Int32)), .val (.int (0 : Int32)), .val (.long (mx.toInt64 + (1 : Int64))), .second, .val (.int (0 : Int32))] [(.int (0 : Int32)), (.int (0 : Int32)), (.ref o0)]))
    refine Ends.step (fun _ k => XS.iadd X123.here hx rfl (hb hby d10_147) rfl k) ?_
    show Ends p e below QQ (T123.setTop (mkF m 148 #[.val (.ref o0), .val (.ref o1), .val (.int (0 : Int32)), .val (.int (0 : Int32)), .val (.long (mx.toInt64 + (1 : Int64))), .second, .val (.int (0 : Int32))] [(.int (0 : Int32)), (.ref o0)]))
    obtain ⟨T124, h124, X124, e124, W124, st124⟩ := putF X123 hx hZ hown (host := "") (Or.inl (hw _ (List.mem_of_getElem? (i := 105) rfl))) Via.refl e123 F_dataLength_o0 E_o0 (Or.inl (hw _ (List.mem_of_getElem? (i := 106) rfl))) (hw _ (List.mem_of_getElem? (i := 3) rfl)) (ty := .int) (by decide) rfl rfl (g := (mkF m 148 #[.val (.ref o0), .val (.ref o1), .val (.int (0 : Int32)), .val (.int (0 : Int32)), .val (.long (mx.toInt64 + (1 : Int64))), .second, .val (.int (0 : Int32))] [(.int (0 : Int32)), (.ref o0)])) rfl rfl (hb hby d10_148)
    have E_o0 := E_o0.wr W124
    have F_ended_o0 := F_ended_o0.other W124 (Or.inr (slot_ne (Or.inl (hw _ (List.mem_of_getElem? (i := 91) rfl))) (Or.inl (hw _ (List.mem_of_getElem? (i := 106) rfl))) (by decide) (t := .boolean) (t' := .int) (by decide) (by decide)))
    have F_chunks_o0 := F_chunks_o0.other W124 (Or.inr (slot_ne (Or.inl (hw _ (List.mem_of_getElem? (i := 78) rfl))) (Or.inl (hw _ (List.mem_of_getElem? (i := 106) rfl))) (by decide) (t := (.object "com/example/gatehook/gatehook/http/ChunkedBody")) (t' := .int) (by decide) (by decide)))
    have F_length_o0 := F_length_o0.other W124 (Or.inr (slot_ne (Or.inr (hw _ (List.mem_of_getElem? (i := 16) rfl))) (Or.inl (hw _ (List.mem_of_getElem? (i := 106) rfl))) (by decide) (t := .long) (t' := .int) (by decide) (by decide)))
    have F_max_o0 := F_max_o0.other W124 (Or.inr (slot_ne (Or.inr (hw _ (List.mem_of_getElem? (i := 18) rfl))) (Or.inl (hw _ (List.mem_of_getElem? (i := 106) rfl))) (by decide) (t := .int) (t' := .int) (by decide) (by decide)))
    have F_data_o0 := F_data_o0.other W124 (Or.inr (slot_ne (Or.inl (hw _ (List.mem_of_getElem? (i := 14) rfl))) (Or.inl (hw _ (List.mem_of_getElem? (i := 106) rfl))) (by decide) (t := (.array .byte)) (t' := .int) (by decide) (by decide)))
    have A_a_NONE := A_a_NONE.other W124 ne_a_NONE_o0
    have A_o1 := A_o1.other W124 ne_o1_o0
    have F_dataLength_o0 : Fld Z h124 o0 "com/example/gatehook/gatehook/http/IncomingBody" "dataLength" "I" (.int (0 : Int32)) := F_dataLength_o0.same W124
    have K124 := K119.wr W124 (Or.inl (List.mem_of_getElem? (i := 0) rfl))
    have N124 := Fr.snoc X124 N119 g_o0
    refine Ends.step st124 ?_
    show Ends p e below QQ (T124.setTop (mkF m 151 #[.val (.ref o0), .val (.ref o1), .val (.int (0 : Int32)), .val (.int (0 : Int32)), .val (.long (mx.toInt64 + (1 : Int64))), .second, .val (.int (0 : Int32))] []))
    refine Ends.step (fun _ k => XS.aloadN X124.here hx rfl (hb hby d10_151) rfl rfl k) ?_
    show Ends p e below QQ (T124.setTop (mkF m 152 #[.val (.ref o0), .val (.ref o1), .val (.int (0 : Int32)), .val (.int (0 : Int32)), .val (.long (mx.toInt64 + (1 : Int64))), .second, .val (.int (0 : Int32))] [(.ref o0)]))
    obtain ⟨T125, X125, e125, st125⟩ := getF X124 hx hZ hown (host := "") (Or.inl (hw _ (List.mem_of_getElem? (i := 105) rfl))) Via.refl e124 F_dataLength_o0 (g := (mkF m 152 #[.val (.ref o0), .val (.ref o1), .val (.int (0 : Int32)), .val (.int (0 : Int32)), .val (.long (mx.toInt64 + (1 : Int64))), .second, .val (.int (0 : Int32))] [(.ref o0)])) rfl rfl (hb hby d10_152)
    refine Ends.step st125 ?_
    show Ends p e below QQ (T125.setTop (mkF m 155 #[.val (.ref o0), .val (.ref o1), .val (.int (0 : Int32)), .val (.int (0 : Int32)), .val (.long (mx.toInt64 + (1 : Int64))), .second, .val (.int (0 : Int32))] [(.int (0 : Int32))]))
    refine Ends.step (fun _ k => XS.aloadN X125.here hx rfl (hb hby d10_155) rfl rfl k) ?_
    show Ends p e below QQ (T125.setTop (mkF m 156 #[.val (.ref o0), .val (.ref o1), .val (.int (0 : Int32)), .val (.int (0 : Int32)), .val (.long (mx.toInt64 + (1 : Int64))), .second, .val (.int (0 : Int32))] [(.ref o0), (.int (0 : Int32))]))
    obtain ⟨T126, X126, e126, st126⟩ := getF X125 hx hZ hown (host := "") (Or.inl (hw _ (List.mem_of_getElem? (i := 17) rfl))) Via.refl e125 F_max_o0 (g := (mkF m 156 #[.val (.ref o0), .val (.ref o1), .val (.int (0 : Int32)), .val (.int (0 : Int32)), .val (.long (mx.toInt64 + (1 : Int64))), .second, .val (.int (0 : Int32))] [(.ref o0), (.int (0 : Int32))])) rfl rfl (hb hby d10_156)
    refine Ends.step st126 ?_
    show Ends p e below QQ (T126.setTop (mkF m 159 #[.val (.ref o0), .val (.ref o1), .val (.int (0 : Int32)), .val (.int (0 : Int32)), .val (.long (mx.toInt64 + (1 : Int64))), .second, .val (.int (0 : Int32))] [(.int mx), (.int (0 : Int32))]))
    by_cases hc159_127 : mx < (0 : Int32)
    · refine Ends.step (fun _ k => XS.icmpNo X126.here hx rfl (hb hby d10_159) rfl (XT.ii_le_f hc159_127) k) ?_
      show Ends p e below QQ (T126.setTop (mkF m 162 #[.val (.ref o0), .val (.ref o1), .val (.int (0 : Int32)), .val (.int (0 : Int32)), .val (.long (mx.toInt64 + (1 : Int64))), .second, .val (.int (0 : Int32))] []))
      refine Ends.step (fun _ k => XS.aloadN X126.here hx rfl (hb hby d10_162) rfl rfl k) ?_
      show Ends p e below QQ (T126.setTop (mkF m 163 #[.val (.ref o0), .val (.ref o1), .val (.int (0 : Int32)), .val (.int (0 : Int32)), .val (.long (mx.toInt64 + (1 : Int64))), .second, .val (.int (0 : Int32))] [(.ref o0)]))
      refine Ends.step (fun _ k => XS.aconstNull X126.here hx rfl (hb hby d10_163) k) ?_
      show Ends p e below QQ (T126.setTop (mkF m 164 #[.val (.ref o0), .val (.ref o1), .val (.int (0 : Int32)), .val (.int (0 : Int32)), .val (.long (mx.toInt64 + (1 : Int64))), .second, .val (.int (0 : Int32))] [.null, (.ref o0)]))
      obtain ⟨T128, h128, X128, e128, W128, st128⟩ := putF X126 hx hZ hown (host := "") (Or.inl (hw _ (List.mem_of_getElem? (i := 13) rfl))) Via.refl e126 F_data_o0 E_o0 (Or.inl (hw _ (List.mem_of_getElem? (i := 14) rfl))) (hw _ (List.mem_of_getElem? (i := 3) rfl)) (ty := (.array .byte)) (by decide) rfl rfl (g := (mkF m 164 #[.val (.ref o0), .val (.ref o1), .val (.int (0 : Int32)), .val (.int (0 : Int32)), .val (.long (mx.toInt64 + (1 : Int64))), .second, .val (.int (0 : Int32))] [.null, (.ref o0)])) rfl rfl (hb hby d10_164)
      have E_o0 := E_o0.wr W128
      have F_ended_o0 := F_ended_o0.other W128 (Or.inr (slot_ne (Or.inl (hw _ (List.mem_of_getElem? (i := 91) rfl))) (Or.inl (hw _ (List.mem_of_getElem? (i := 14) rfl))) (by decide) (t := .boolean) (t' := (.array .byte)) (by decide) (by decide)))
      have F_chunks_o0 := F_chunks_o0.other W128 (Or.inr (slot_ne (Or.inl (hw _ (List.mem_of_getElem? (i := 78) rfl))) (Or.inl (hw _ (List.mem_of_getElem? (i := 14) rfl))) (by decide) (t := (.object "com/example/gatehook/gatehook/http/ChunkedBody")) (t' := (.array .byte)) (by decide) (by decide)))
      have F_length_o0 := F_length_o0.other W128 (Or.inr (slot_ne (Or.inr (hw _ (List.mem_of_getElem? (i := 16) rfl))) (Or.inl (hw _ (List.mem_of_getElem? (i := 14) rfl))) (by decide) (t := .long) (t' := (.array .byte)) (by decide) (by decide)))
      have F_max_o0 := F_max_o0.other W128 (Or.inr (slot_ne (Or.inr (hw _ (List.mem_of_getElem? (i := 18) rfl))) (Or.inl (hw _ (List.mem_of_getElem? (i := 14) rfl))) (by decide) (t := .int) (t' := (.array .byte)) (by decide) (by decide)))
      have F_dataLength_o0 := F_dataLength_o0.other W128 (Or.inr (slot_ne (Or.inl (hw _ (List.mem_of_getElem? (i := 106) rfl))) (Or.inl (hw _ (List.mem_of_getElem? (i := 14) rfl))) (by decide) (t := .int) (t' := (.array .byte)) (by decide) (by decide)))
      have A_a_NONE := A_a_NONE.other W128 ne_a_NONE_o0
      have A_o1 := A_o1.other W128 ne_o1_o0
      have F_data_o0 : Fld Z h128 o0 "com/example/gatehook/gatehook/http/IncomingBody" "data" "[B" .null := F_data_o0.same W128
      have K128 := K124.wr W128 (Or.inl (List.mem_of_getElem? (i := 0) rfl))
      have N128 := Fr.snoc X128 N124 g_o0
      refine Ends.step st128 ?_
      show Ends p e below QQ (T128.setTop (mkF m 167 #[.val (.ref o0), .val (.ref o1), .val (.int (0 : Int32)), .val (.int (0 : Int32)), .val (.long (mx.toInt64 + (1 : Int64))), .second, .val (.int (0 : Int32))] []))
      refine Ends.step (fun _ k => XS.aloadN X128.here hx rfl (hb hby d10_167) rfl rfl k) ?_
      show Ends p e below QQ (T128.setTop (mkF m 168 #[.val (.ref o0), .val (.ref o1), .val (.int (0 : Int32)), .val (.int (0 : Int32)), .val (.long (mx.toInt64 + (1 : Int64))), .second, .val (.int (0 : Int32))] [(.ref o0)]))
      refine Ends.step (fun _ k => XT.iconstV X128.here hx rfl (1 : Int32) (hb hby d10_168) rfl k) ?_
      show Ends p e below QQ (T128.setTop (mkF m 169 #[.val (.ref o0), .val (.ref o1), .val (.int (0 : Int32)), .val (.int (0 : Int32)), .val (.long (mx.toInt64 + (1 : Int64))), .second, .val (.int (0 : Int32))] [(.int (1 : Int32)), (.ref o0)]))
      obtain ⟨T129, h129, X129, e129, W129, st129⟩ := putFN X128 hx hZ hown (hw _ (List.mem_of_getElem? (i := 90) rfl)) Via.refl e128 F_ended_o0 E_o0 (Or.inl (hw _ (List.mem_of_getElem? (i := 91) rfl))) (hw _ (List.mem_of_getElem? (i := 3) rfl)) (ty := .boolean) (v' := (.int (1 : Int32))) (by decide) rfl rfl (g := (mkF m 169 #[.val (.ref o0), .val (.ref o1), .val (.int (0 : Int32)), .val (.int (0 : Int32)), .val (.long (mx.toInt64 + (1 : Int64))), .second, .val (.int (0 : Int32))] [(.int (1 : Int32)), (.ref o0)])) rfl rfl (hb hby d10_169)
      have E_o0 := E_o0.wr W129
      have F_chunks_o0 := F_chunks_o0.other W129 (Or.inr (slot_ne (Or.inl (hw _ (List.mem_of_getElem? (i := 78) rfl))) (Or.inl (hw _ (List.mem_of_getElem? (i := 91) rfl))) (by decide) (t := (.object "com/example/gatehook/gatehook/http/ChunkedBody")) (t' := .boolean) (by decide) (by decide)))
      have F_length_o0 := F_length_o0.other W129 (Or.inr (slot_ne (Or.inr (hw _ (List.mem_of_getElem? (i := 16) rfl))) (Or.inl (hw _ (List.mem_of_getElem? (i := 91) rfl))) (by decide) (t := .long) (t' := .boolean) (by decide) (by decide)))
      have F_max_o0 := F_max_o0.other W129 (Or.inr (slot_ne (Or.inr (hw _ (List.mem_of_getElem? (i := 18) rfl))) (Or.inl (hw _ (List.mem_of_getElem? (i := 91) rfl))) (by decide) (t := .int) (t' := .boolean) (by decide) (by decide)))
      have F_data_o0 := F_data_o0.other W129 (Or.inr (slot_ne (Or.inl (hw _ (List.mem_of_getElem? (i := 14) rfl))) (Or.inl (hw _ (List.mem_of_getElem? (i := 91) rfl))) (by decide) (t := (.array .byte)) (t' := .boolean) (by decide) (by decide)))
      have F_dataLength_o0 := F_dataLength_o0.other W129 (Or.inr (slot_ne (Or.inl (hw _ (List.mem_of_getElem? (i := 106) rfl))) (Or.inl (hw _ (List.mem_of_getElem? (i := 91) rfl))) (by decide) (t := .int) (t' := .boolean) (by decide) (by decide)))
      have A_a_NONE := A_a_NONE.other W129 ne_a_NONE_o0
      have A_o1 := A_o1.other W129 ne_o1_o0
      have F_ended_o0 : Fld Z h129 o0 "com/example/gatehook/gatehook/http/IncomingBody" "ended" "Z" (.int (1 : Int32)) := F_ended_o0.same W129
      have K129 := K128.wr W129 (Or.inl (List.mem_of_getElem? (i := 0) rfl))
      have N129 := Fr.snoc X129 N128 g_o0
      refine Ends.step st129 ?_
      show Ends p e below QQ (T129.setTop (mkF m 172 #[.val (.ref o0), .val (.ref o1), .val (.int (0 : Int32)), .val (.int (0 : Int32)), .val (.long (mx.toInt64 + (1 : Int64))), .second, .val (.int (0 : Int32))] []))
      refine Ends.step (fun _ k => XS.goto X129.here hx rfl (pc0 := 172) (pc' := 197) rfl (hb hby d10_172) (by decide) (by decide) k) ?_
      show Ends p e below QQ (T129.setTop (mkF m 197 #[.val (.ref o0), .val (.ref o1), .val (.int (0 : Int32)), .val (.int (0 : Int32)), .val (.long (mx.toInt64 + (1 : Int64))), .second, .val (.int (0 : Int32))] []))
      refine Ends.step (fun _ k => XS.iload X129.here hx rfl (hb hby d10_197) rfl k) ?_
      show Ends p e below QQ (T129.setTop (mkF m 199 #[.val (.ref o0), .val (.ref o1), .val (.int (0 : Int32)), .val (.int (0 : Int32)), .val (.long (mx.toInt64 + (1 : Int64))), .second, .val (.int (0 : Int32))] [(.int (0 : Int32))]))
      exact Ends.fin (some (.int (0 : Int32))) X129 hQQ (fun h => by rw [Bd.returns] at h; cases h) Bd.notSynchronized (fun _ hr => retOut X129 hx (t := .int) Bd.returns rfl (Or.inl ⟨rfl, Or.inl rfl, _, rfl⟩) (hb hby d10_199) hr) e129 (by decide) (by decide) ⟨rfl, N129, K129, E_o0, F_length_o0⟩
    · refine Ends.step (fun _ k => XS.icmpYes X126.here hx rfl (pc0 := 159) (pc' := 175) rfl (hb hby d10_159) rfl (XT.ii_le_t hc159_127) (by decide) (by decide) k) ?_
      show Ends p e below QQ (T126.setTop (mkF m 175 #[.val (.ref o0), .val (.ref o1), .val (.int (0 : Int32)), .val (.int (0 : Int32)), .val (.long (mx.toInt64 + (1 : Int64))), .second, .val (.int (0 : Int32))] []))
      refine Ends.step (fun _ k => XS.aloadN X126.here hx rfl (hb hby d10_175) rfl rfl k) ?_
      show Ends p e below QQ (T126.setTop (mkF m 176 #[.val (.ref o0), .val (.ref o1), .val (.int (0 : Int32)), .val (.int (0 : Int32)), .val (.long (mx.toInt64 + (1 : Int64))), .second, .val (.int (0 : Int32))] [(.ref o0)]))
      refine Ends.step (fun _ k => XS.aloadN X126.here hx rfl (hb hby d10_176) rfl rfl k) ?_
      show Ends p e below QQ (T126.setTop (mkF m 177 #[.val (.ref o0), .val (.ref o1), .val (.int (0 : Int32)), .val (.int (0 : Int32)), .val (.long (mx.toInt64 + (1 : Int64))), .second, .val (.int (0 : Int32))] [(.ref o0), (.ref o0)]))
      obtain ⟨T130, X130, e130, st130⟩ := getF X126 hx hZ hown (host := "") (Or.inl (hw _ (List.mem_of_getElem? (i := 105) rfl))) Via.refl e126 F_dataLength_o0 (g := (mkF m 177 #[.val (.ref o0), .val (.ref o1), .val (.int (0 : Int32)), .val (.int (0 : Int32)), .val (.long (mx.toInt64 + (1 : Int64))), .second, .val (.int (0 : Int32))] [(.ref o0), (.ref o0)])) rfl rfl (hb hby d10_177)
      refine Ends.step st130 ?_
      show Ends p e below QQ (T130.setTop (mkF m 180 #[.val (.ref o0), .val (.ref o1), .val (.int (0 : Int32)), .val (.int (0 : Int32)), .val (.long (mx.toInt64 + (1 : Int64))), .second, .val (.int (0 : Int32))] [(.int (0 : Int32)), (.ref o0)]))
      refine Ends.step (fun _ k => XT.i2l X130.here hx rfl (hb hby d10_180) rfl k) ?_
      show Ends p e below QQ (T130.setTop (mkF m 181 #[.val (.ref o0), .val (.ref o1), .val (.int (0 : Int32)), .val (.int (0 : Int32)), .val (.long (mx.toInt64 + (1 : Int64))), .second, .val (.int (0 : Int32))] [(.long (0 : Int64)), (.ref o0)]))
      refine Ends.step (fun _ k => XS.aloadN X130.here hx rfl (hb hby d10_181) rfl rfl k) ?_
      show Ends p e below QQ (T130.setTop (mkF m 182 #[.val (.ref o0), .val (.ref o1), .val (.int (0 : Int32)), .val (.int (0 : Int32)), .val (.long (mx.toInt64 + (1 : Int64))), .second, .val (.int (0 : Int32))] [(.ref o0), (.long (0 : Int64)), (.ref o0)]))
      obtain ⟨T131, X131, e131, st131⟩ := getF X130 hx hZ hown (host := "") (Or.inl (hw _ (List.mem_of_getElem? (i := 15) rfl))) Via.refl e130 F_length_o0 (g := (mkF m 182 #[.val (.ref o0), .val (.ref o1), .val (.int (0 : Int32)), .val (.int (0 : Int32)), .val (.long (mx.toInt64 + (1 : Int64))), .second, .val (.int (0 : Int32))] [(.ref o0), (.long (0 : Int64)), (.ref o0)])) rfl rfl (hb hby d10_182)
      refine Ends.step st131 ?_
      show Ends p e below QQ (T131.setTop (mkF m 185 #[.val (.ref o0), .val (.ref o1), .val (.int (0 : Int32)), .val (.int (0 : Int32)), .val (.long (mx.toInt64 + (1 : Int64))), .second, .val (.int (0 : Int32))] [(.long u), (.long (0 : Int64)), (.ref o0)]))
      refine Ends.step (fun _ k => XT.lcmp X131.here hx rfl (hb hby d10_185) rfl k) ?_
      show Ends p e below QQ (T131.setTop (mkF m 186 #[.val (.ref o0), .val (.ref o1), .val (.int (0 : Int32)), .val (.int (0 : Int32)), .val (.long (mx.toInt64 + (1 : Int64))), .second, .val (.int (0 : Int32))] [(.int (XT.cmpL (0 : Int64) u)), (.ref o0)]))
      have J194_132 : (∀ (v194_1 : Int32) (hv194_1 : v194_1 = (if (0 : Int64) = u then (1 : Int32) else (0 : Int32))), Ends p e below QQ (T131.setTop (mkF m 194 #[.val (.ref o0), .val (.ref o1), .val (.int (0 : Int32)), .val (.int (0 : Int32)), .val (.long (mx.toInt64 + (1 : Int64))), .second, .val (.int (0 : Int32))] [(.int v194_1), (.ref o0)]))) → Ends p e below QQ (T131.setTop (mkF m 186 #[.val (.ref o0), .val (.ref o1), .val (.int (0 : Int32)), .val (.int (0 : Int32)), .val (.long (mx.toInt64 + (1 : Int64))), .second, .val (.int (0 : Int32))] [(.int (XT.cmpL (0 : Int64) u)), (.ref o0)])) := by
        intro hJ
        by_cases hc186_133 : (0 : Int64) = u
        · refine Ends.step (fun _ k => XS.ifNo X131.here hx rfl (hb hby d10_186) rfl (XT.ll_ne_f hc186_133) k) ?_
          show Ends p e below QQ (T131.setTop (mkF m 189 #[.val (.ref o0), .val (.ref o1), .val (.int (0 : Int32)), .val (.int (0 : Int32)), .val (.long (mx.toInt64 + (1 : Int64))), .second, .val (.int (0 : Int32))] [(.ref o0)]))
          refine Ends.step (fun _ k => XT.iconstV X131.here hx rfl (1 : Int32) (hb hby d10_189) rfl k) ?_
          show Ends p e below QQ (T131.setTop (mkF m 190 #[.val (.ref o0), .val (.ref o1), .val (.int (0 : Int32)), .val (.int (0 : Int32)), .val (.long (mx.toInt64 + (1 : Int64))), .second, .val (.int (0 : Int32))] [(.int (1 : Int32)), (.ref o0)]))
          refine Ends.step (fun _ k => XS.goto X131.here hx rfl (pc0 := 190) (pc' := 194) rfl (hb hby d10_190) (by decide) (by decide) k) ?_
          exact hJ _ (by simp only [if_pos hc186_133])
        · refine Ends.step (fun _ k => XS.ifYes X131.here hx rfl (pc0 := 186) (pc' := 193) rfl (hb hby d10_186) rfl (XT.ll_ne_t hc186_133) (by decide) (by decide) k) ?_
          show Ends p e below QQ (T131.setTop (mkF m 193 #[.val (.ref o0), .val (.ref o1), .val (.int (0 : Int32)), .val (.int (0 : Int32)), .val (.long (mx.toInt64 + (1 : Int64))), .second, .val (.int (0 : Int32))] [(.ref o0)]))
          refine Ends.step (fun _ k => XT.iconstV X131.here hx rfl (0 : Int32) (hb hby d10_193) rfl k) ?_
          exact hJ _ (by simp only [if_neg hc186_133])
      refine J194_132 fun v194_1 hv194_1 => ?_
      show Ends p e below QQ (T131.setTop (mkF m 194 #[.val (.ref o0), .val (.ref o1), .val (.int (0 : Int32)), .val (.int (0 : Int32)), .val (.long (mx.toInt64 + (1 : Int64))), .second, .val (.int (0 : Int32))] [(.int v194_1), (.ref o0)]))
      obtain ⟨T134, h134, X134, e134, W134, st134⟩ := putFN X131 hx hZ hown (hw _ (List.mem_of_getElem? (i := 90) rfl)) Via.refl e131 F_ended_o0 E_o0 (Or.inl (hw _ (List.mem_of_getElem? (i := 91) rfl))) (hw _ (List.mem_of_getElem? (i := 3) rfl)) (ty := .boolean) (v' := (.int (nar .boolean v194_1))) (by decide) rfl (fits_nar_bool _) (g := (mkF m 194 #[.val (.ref o0), .val (.ref o1), .val (.int (0 : Int32)), .val (.int (0 : Int32)), .val (.long (mx.toInt64 + (1 : Int64))), .second, .val (.int (0 : Int32))] [(.int v194_1), (.ref o0)])) rfl rfl (hb hby d10_194)
      have E_o0 := E_o0.wr W134
      have F_chunks_o0 := F_chunks_o0.other W134 (Or.inr (slot_ne (Or.inl (hw _ (List.mem_of_getElem? (i := 78) rfl))) (Or.inl (hw _ (List.mem_of_getElem? (i := 91) rfl))) (by decide) (t := (.object "com/example/gatehook/gatehook/http/ChunkedBody")) (t' := .boolean) (by decide) (by decide)))
      have F_length_o0 := F_length_o0.other W134 (Or.inr (slot_ne (Or.inr (hw _ (List.mem_of_getElem? (i := 16) rfl))) (Or.inl (hw _ (List.mem_of_getElem? (i := 91) rfl))) (by decide) (t := .long) (t' := .boolean) (by decide) (by decide)))
      have F_max_o0 := F_max_o0.other W134 (Or.inr (slot_ne (Or.inr (hw _ (List.mem_of_getElem? (i := 18) rfl))) (Or.inl (hw _ (List.mem_of_getElem? (i := 91) rfl))) (by decide) (t := .int) (t' := .boolean) (by decide) (by decide)))
      have F_data_o0 := F_data_o0.other W134 (Or.inr (slot_ne (Or.inl (hw _ (List.mem_of_getElem? (i := 14) rfl))) (Or.inl (hw _ (List.mem_of_getElem? (i := 91) rfl))) (by decide) (t := (.array .byte)) (t' := .boolean) (by decide) (by decide)))
      have F_dataLength_o0 := F_dataLength_o0.other W134 (Or.inr (slot_ne (Or.inl (hw _ (List.mem_of_getElem? (i := 106) rfl))) (Or.inl (hw _ (List.mem_of_getElem? (i := 91) rfl))) (by decide) (t := .int) (t' := .boolean) (by decide) (by decide)))
      have A_a_NONE := A_a_NONE.other W134 ne_a_NONE_o0
      have A_o1 := A_o1.other W134 ne_o1_o0
      have F_ended_o0 : Fld Z h134 o0 "com/example/gatehook/gatehook/http/IncomingBody" "ended" "Z" (.int (nar .boolean v194_1)) := F_ended_o0.same W134
      have K134 := K124.wr W134 (Or.inl (List.mem_of_getElem? (i := 0) rfl))
      have N134 := Fr.snoc X134 N124 g_o0
      refine Ends.step st134 ?_
      show Ends p e below QQ (T134.setTop (mkF m 197 #[.val (.ref o0), .val (.ref o1), .val (.int (0 : Int32)), .val (.int (0 : Int32)), .val (.long (mx.toInt64 + (1 : Int64))), .second, .val (.int (0 : Int32))] []))
      refine Ends.step (fun _ k => XS.iload X134.here hx rfl (hb hby d10_197) rfl k) ?_
      show Ends p e below QQ (T134.setTop (mkF m 199 #[.val (.ref o0), .val (.ref o1), .val (.int (0 : Int32)), .val (.int (0 : Int32)), .val (.long (mx.toInt64 + (1 : Int64))), .second, .val (.int (0 : Int32))] [(.int (0 : Int32))]))
      exact Ends.fin (some (.int (0 : Int32))) X134 hQQ (fun h => by rw [Bd.returns] at h; cases h) Bd.notSynchronized (fun _ hr => retOut X134 hx (t := .int) Bd.returns rfl (Or.inl ⟨rfl, Or.inl rfl, _, rfl⟩) (hb hby d10_199) hr) e134 (by decide) (by decide) ⟨rfl, N134, K134, E_o0, F_length_o0⟩
  · refine Ends.step (fun _ k => XS.ifYes X111.here hx rfl (pc0 := 70) (pc' := 83) rfl (hb hby d10_70) rfl (XT.ll_ne_t hc70_112) (by decide) (by decide) k) ?_
    show Ends p e below QQ (T111.setTop (mkF m 83 #[.val (.ref o0), .val (.ref o1), .val (.int (0 : Int32)), .val (.int (0 : Int32)), .unset, .unset, .unset] []))
    refine Ends.step (fun _ k => XS.aloadN X111.here hx rfl (hb hby d10_83) rfl rfl k) ?_
    show Ends p e below QQ (T111.setTop (mkF m 84 #[.val (.ref o0), .val (.ref o1), .val (.int (0 : Int32)), .val (.int (0 : Int32)), .unset, .unset, .unset] [(.ref o0)]))
    obtain ⟨T135, X135, e135, st135⟩ := getF X111 hx hZ hown (host := "") (Or.inl (hw _ (List.mem_of_getElem? (i := 15) rfl))) Via.refl e111 F_length_o0 (g := (mkF m 84 #[.val (.ref o0), .val (.ref o1), .val (.int (0 : Int32)), .val (.int (0 : Int32)), .unset, .unset, .unset] [(.ref o0)])) rfl rfl (hb hby d10_84)
    refine Ends.step st135 ?_
    show Ends p e below QQ (T135.setTop (mkF m 87 #[.val (.ref o0), .val (.ref o1), .val (.int (0 : Int32)), .val (.int (0 : Int32)), .unset, .unset, .unset] [(.long u)]))
    refine Ends.step (fun _ k => XT.lstore X135.here hx rfl (hb hby d10_87) rfl (l' := #[.val (.ref o0), .val (.ref o1), .val (.int (0 : Int32)), .val (.int (0 : Int32)), .val (.long u), .second, .unset]) rfl k) ?_
    show Ends p e below QQ (T135.setTop (mkF m 89 #[.val (.ref o0), .val (.ref o1), .val (.int (0 : Int32)), .val (.int (0 : Int32)), .val (.long u), .second, .unset] []))
    refine Ends.step (fun _ k => XS.iloadN X135.here hx rfl (hb hby d10_89) rfl k) ?_
    show Ends p e below QQ (T135.setTop (mkF m 90 #[.val (.ref o0), .val (.ref o1), .val (.int (0 : Int32)), .val (.int (0 : Int32)), .val (.long u), .second, .unset] [(.int (0 : Int32))]))
    refine Ends.step (fun _ k => XT.i2l X135.here hx rfl (hb hby d10_90) rfl k) ?_
    show Ends p e below QQ (T135.setTop (mkF m 91 #[.val (.ref o0), .val (.ref o1), .val (.int (0 : Int32)), .val (.int (0 : Int32)), .val (.long u), .second, .unset] [(.long (0 : Int64))]))
    refine Ends.step (fun _ k => XT.lload X135.here hx rfl (hb hby d10_91) rfl k) ?_
    show Ends p e below QQ (T135.setTop (mkF m 93 #[.val (.ref o0), .val (.ref o1), .val (.int (0 : Int32)), .val (.int (0 : Int32)), .val (.long u), .second, .unset] [(.long u), (.long (0 : Int64))]))
    refine Ends.step (fun _ k => XS.aloadN X135.here hx rfl (hb hby d10_93) rfl rfl k) ?_
    show Ends p e below QQ (T135.setTop (mkF m 94 #[.val (.ref o0), .val (.ref o1), .val (.int (0 : Int32)), .val (.int (0 : Int32)), .val (.long u), .second, .unset] [(.ref o0), (.long u), (.long (0 : Int64))]))
    obtain ⟨T136, X136, e136, st136⟩ := getF X135 hx hZ hown (host := "") (Or.inl (hw _ (List.mem_of_getElem? (i := 105) rfl))) Via.refl e135 F_dataLength_o0 (g := (mkF m 94 #[.val (.ref o0), .val (.ref o1), .val (.int (0 : Int32)), .val (.int (0 : Int32)), .val (.long u), .second, .unset] [(.ref o0), (.long u), (.long (0 : Int64))])) rfl rfl (hb hby d10_94)
    refine Ends.step st136 ?_
    show Ends p e below QQ (T136.setTop (mkF m 97 #[.val (.ref o0), .val (.ref o1), .val (.int (0 : Int32)), .val (.int (0 : Int32)), .val (.long u), .second, .unset] [(.int (0 : Int32)), (.long u), (.long (0 : Int64))]))
    refine Ends.step (fun _ k => XT.i2l X136.here hx rfl (hb hby d10_97) rfl k) ?_
    show Ends p e below QQ (T136.setTop (mkF m 98 #[.val (.ref o0), .val (.ref o1), .val (.int (0 : Int32)), .val (.int (0 : Int32)), .val (.long u), .second, .unset] [(.long (0 : Int64)), (.long u), (.long (0 : Int64))]))
    refine Ends.step (fun _ k => XT.lsub X136.here hx rfl (hb hby d10_98) rfl k) ?_
    show Ends p e below QQ (T136.setTop (mkF m 99 #[.val (.ref o0), .val (.ref o1), .val (.int (0 : Int32)), .val (.int (0 : Int32)), .val (.long u), .second, .unset] [(.long (u - (0 : Int64))), (.long (0 : Int64))]))
    obtain ⟨_, _, ⟨T137, L137, k137, n137⟩, -, X137, ⟨Lc137, hQ137, l137, y137, z137⟩, st137⟩ := Jvm.LawKit.callS X136 hx (y := (⟨"java/lang/Math", "min", "(JJ)J"⟩ : MethodName)) hown (mvT hZ (hw _ (List.mem_of_getElem? (i := 107) rfl))) (mvT hZ (hw _ (List.mem_of_getElem? (i := 108) rfl))) (mvT hZ (hw _ (List.mem_of_getElem? (i := 109) rfl))) (mvT hZ (hw _ (List.mem_of_getElem? (i := 110) rfl))) (by decide) (backOf (W := 0) (rmmna l Z a0 hw [] (0 : Int64) (u - (0 : Int64)) h0 n0 (Nat.le_trans Z0 (Keep.refl h0 [o0]).1) (own_lim0 (hu.resolve_left hc70_112))) hZ (hw _ (List.mem_of_getElem? (i := 110) rfl)) (hw _ (List.mem_of_getElem? (i := 109) rfl)) (by decide) (by decide)) (g := (mkF m 99 #[.val (.ref o0), .val (.ref o1), .val (.int (0 : Int32)), .val (.int (0 : Int32)), .val (.long u), .second, .unset] [(.long (u - (0 : Int64))), (.long (0 : Int64))])) rfl (by rw [hml]; rfl) (argsL := [(.long (0 : Int64)), (.long (u - (0 : Int64)))]) (rest := []) (lenOf pd_3 rfl) rfl (by show 2 * 0 + _ ≤ _; exact Nat.le_of_eq rfl) (hb hby d10_99) (fun _ _ => ⟨rfl, e136, (by decide : 0 + 0 ≤ _), (by decide : 0 + 0 ≤ _)⟩)
    dsimp only [Pt.U, Pt.locs, Pt.cells, Pt.slots] at X137 l137 y137 z137 st137 hQ137
    subst l137 y137 z137
    obtain ⟨rfl, Nq137, hh137⟩ := hQ137
    have N137 := Fr.app N0 Nq137
    refine Ends.step st137 ?_
    show Ends p e below QQ (T137.setTop (mkF m 102 #[.val (.ref o0), .val (.ref o1), .val (.int (0 : Int32)), .val (.int (0 : Int32)), .val (.long u), .second, .unset] [(.long (0 : Int64))]))
    refine Ends.step (fun _ k => XT.l2i X137.here hx rfl (hb hby d10_102) rfl k) ?_
    show Ends p e below QQ (T137.setTop (mkF m 103 #[.val (.ref o0), .val (.ref o1), .val (.int (0 : Int32)), .val (.int (0 : Int32)), .val (.long u), .second, .unset] [(.int (0 : Int32))]))
    refine Ends.step (fun _ k => XS.istore X137.here hx rfl (hb hby d10_103) rfl (l' := #[.val (.ref o0), .val (.ref o1), .val (.int (0 : Int32)), .val (.int (0 : Int32)), .val (.long u), .second, .val (.int (0 : Int32))]) rfl k) ?_
    show Ends p e below QQ (T137.setTop (mkF m 105 #[.val (.ref o0), .val (.ref o1), .val (.int (0 : Int32)), .val (.int (0 : Int32)), .val (.long u), .second, .val (.int (0 : Int32))] []))
    refine Ends.step (fun _ k => XS.aloadN X137.here hx rfl (hb hby d10_105) rfl rfl k) ?_
    show Ends p e below QQ (T137.setTop (mkF m 106 #[.val (.ref o0), .val (.ref o1), .val (.int (0 : Int32)), .val (.int (0 : Int32)), .val (.long u), .second, .val (.int (0 : Int32))] [(.ref o0)]))
    refine Ends.step (fun _ k => XS.aloadN X137.here hx rfl (hb hby d10_106) rfl rfl k) ?_
    show Ends p e below QQ (T137.setTop (mkF m 107 #[.val (.ref o0), .val (.ref o1), .val (.int (0 : Int32)), .val (.int (0 : Int32)), .val (.long u), .second, .val (.int (0 : Int32))] [(.ref o0), (.ref o0)]))
    obtain ⟨T138, X138, e138, st138⟩ := getF X137 hx hZ hown (host := "") (Or.inl (hw _ (List.mem_of_getElem? (i := 13) rfl))) Via.refl hh137 F_data_o0 (g := (mkF m 107 #[.val (.ref o0), .val (.ref o1), .val (.int (0 : Int32)), .val (.int (0 : Int32)), .val (.long u), .second, .val (.int (0 : Int32))] [(.ref o0), (.ref o0)])) rfl rfl (hb hby d10_107)
    refine Ends.step st138 ?_
    show Ends p e below QQ (T138.setTop (mkF m 110 #[.val (.ref o0), .val (.ref o1), .val (.int (0 : Int32)), .val (.int (0 : Int32)), .val (.long u), .second, .val (.int (0 : Int32))] [(.ref a_NONE), (.ref o0)]))
    refine Ends.step (fun _ k => XS.aloadN X138.here hx rfl (hb hby d10_110) rfl rfl k) ?_
    show Ends p e below QQ (T138.setTop (mkF m 111 #[.val (.ref o0), .val (.ref o1), .val (.int (0 : Int32)), .val (.int (0 : Int32)), .val (.long u), .second, .val (.int (0 : Int32))] [(.ref o0), (.ref a_NONE), (.ref o0)]))
    obtain ⟨T139, X139, e139, st139⟩ := getF X138 hx hZ hown (host := "") (Or.inl (hw _ (List.mem_of_getElem? (i := 105) rfl))) Via.refl e138 F_dataLength_o0 (g := (mkF m 111 #[.val (.ref o0), .val (.ref o1), .val (.int (0 : Int32)), .val (.int (0 : Int32)), .val (.long u), .second, .val (.int (0 : Int32))] [(.ref o0), (.ref a_NONE), (.ref o0)])) rfl rfl (hb hby d10_111)
    refine Ends.step st139 ?_
    show Ends p e below QQ (T139.setTop (mkF m 114 #[.val (.ref o0), .val (.ref o1), .val (.int (0 : Int32)), .val (.int (0 : Int32)), .val (.long u), .second, .val (.int (0 : Int32))] [(.int (0 : Int32)), (.ref a_NONE), (.ref o0)]))
    refine Ends.step (fun _ k => XS.iload X139.here hx rfl (hb hby d10_114) rfl k) ?_
    show Ends p e below QQ (T139.setTop (mkF m 116 #[.val (.ref o0), .val (.ref o1), .val (.int (0 : Int32)), .val (.int (0 : Int32)), .val (.long u), .second, .val (.int (0 : Int32))] [(.int (0 : Int32)), (.int (0 : Int32)), (.ref a_NONE), (.ref o0)]))
    refine Ends.step (fun _ k => XS.iadd X139.here hx rfl (hb hby d10_116) rfl k) ?_
    show Ends p e below QQ (T139.setTop (mkF m 117 #[.val (.ref o0), .val (.ref o1), .val (.int (0 : Int32)), .val (.int (0 : Int32)), .val (.long u), .second, .val (.int (0 : Int32))] [(.int (0 : Int32)), (.ref a_NONE), (.ref o0)]))
    refine Ends.step (fun _ k => XT.lload X139.here hx rfl (hb hby d10_117) rfl k) ?_
    show Ends p e below QQ (T139.setTop (mkF m 119 #[.val (.ref o0), .val (.ref o1), .val (.int (0 : Int32)), .val (.int (0 : Int32)), .val (.long u), .second, .val (.int (0 : Int32))] [(.long u), (.int (0 : Int32)), (.ref a_NONE), (.ref o0)]))
    obtain ⟨_, _, ⟨T140, L140, k140, n140⟩, -, X140, ⟨Lc140, hQ140, l140, y140, z140⟩, st140⟩ := Jvm.LawKit.callS X139 hx (y := (⟨"com/example/gatehook/gatehook/http/IncomingBody", "grown", "([BIJ)[B"⟩ : MethodName)) hown (mvT hZ (hw _ (List.mem_of_getElem? (i := 111) rfl))) (mvT hZ (hw _ (List.mem_of_getElem? (i := 112) rfl))) (mvT hZ (hw _ (List.mem_of_getElem? (i := 4) rfl))) (mvT hZ (hw _ (List.mem_of_getElem? (i := 113) rfl))) (by decide) (backOf (W := 1) (rmg0 l Z a0 hw [] a_NONE u kn h0 n0 (Nat.le_trans Z0 (Keep.refl h0 [o0]).1) A_a_NONE) hZ (hw _ (List.mem_of_getElem? (i := 113) rfl)) (hw _ (List.mem_of_getElem? (i := 4) rfl)) (by decide) (by decide)) (g := (mkF m 119 #[.val (.ref o0), .val (.ref o1), .val (.int (0 : Int32)), .val (.int (0 : Int32)), .val (.long u), .second, .val (.int (0 : Int32))] [(.long u), (.int (0 : Int32)), (.ref a_NONE), (.ref o0)])) rfl (by rw [hml]; rfl) (argsL := [(.ref a_NONE), (.int (0 : Int32)), (.long u)]) (rest := [(.ref o0)]) (lenOf pd_12 rfl) rfl (by show 2 * 0 + _ ≤ _; exact Nat.le_of_eq rfl) (hb hby d10_119) (fun _ _ => ⟨rfl, e139, (by decide : 0 + 0 ≤ _), (by decide : 0 + 0 ≤ _)⟩)
    dsimp only [Pt.U, Pt.locs, Pt.cells, Pt.slots] at X140 l140 y140 z140 st140 hQ140
    subst l140 y140 z140
    obtain ⟨rfl, Nq140, hh140⟩ := hQ140
    have N140 := Fr.app N137 Nq140
    refine Ends.step st140 ?_
    show Ends p e below QQ (T140.setTop (mkF m 122 #[.val (.ref o0), .val (.ref o1), .val (.int (0 : Int32)), .val (.int (0 : Int32)), .val (.long u), .second, .val (.int (0 : Int32))] [(.ref a_NONE), (.ref o0)]))
    obtain ⟨T141, h141, X141, e141, W141, st141⟩ := putF X140 hx hZ hown (host := "") (Or.inl (hw _ (List.mem_of_getElem? (i := 13) rfl))) Via.refl hh140 F_data_o0 E_o0 (Or.inl (hw _ (List.mem_of_getElem? (i := 14) rfl))) (hw _ (List.mem_of_getElem? (i := 3) rfl)) (ty := (.array .byte)) (by decide) rfl rfl (g := (mkF m 122 #[.val (.ref o0), .val (.ref o1), .val (.int (0 : Int32)), .val (.int (0 : Int32)), .val (.long u), .second, .val (.int (0 : Int32))] [(.ref a_NONE), (.ref o0)])) rfl rfl (hb hby d10_122)
    have E_o0 := E_o0.wr W141
    have F_ended_o0 := F_ended_o0.other W141 (Or.inr (slot_ne (Or.inl (hw _ (List.mem_of_getElem? (i := 91) rfl))) (Or.inl (hw _ (List.mem_of_getElem? (i := 14) rfl))) (by decide) (t := .boolean) (t' := (.array .byte)) (by decide) (by decide)))
    have F_chunks_o0 := F_chunks_o0.other W141 (Or.inr (slot_ne (Or.inl (hw _ (List.mem_of_getElem? (i := 78) rfl))) (Or.inl (hw _ (List.mem_of_getElem? (i := 14) rfl))) (by decide) (t := (.object "com/example/gatehook/gatehook/http/ChunkedBody")) (t' := (.array .byte)) (by decide) (by decide)))
    have F_length_o0 := F_length_o0.other W141 (Or.inr (slot_ne (Or.inr (hw _ (List.mem_of_getElem? (i := 16) rfl))) (Or.inl (hw _ (List.mem_of_getElem? (i := 14) rfl))) (by decide) (t := .long) (t' := (.array .byte)) (by decide) (by decide)))
    have F_max_o0 := F_max_o0.other W141 (Or.inr (slot_ne (Or.inr (hw _ (List.mem_of_getElem? (i := 18) rfl))) (Or.inl (hw _ (List.mem_of_getElem? (i := 14) rfl))) (by decide) (t := .int) (t' := (.array .byte)) (by decide) (by decide)))
    have F_dataLength_o0 := F_dataLength_o0.other W141 (Or.inr (slot_ne (Or.inl (hw _ (List.mem_of_getElem? (i := 106) rfl))) (Or.inl (hw _ (List.mem_of_getElem? (i := 14) rfl))) (by decide) (t := .int) (t' := (.array .byte)) (by decide) (by decide)))
    have A_a_NONE := A_a_NONE.other W141 ne_a_NONE_o0
    have A_o1 := A_o1.other W141 ne_o1_o0
    have F_data_o0 : Fld Z h141 o0 "com/example/gatehook/gatehook/http/IncomingBody" "data" "[B" (.ref a_NONE) := F_data_o0.same W141
    have K141 := (Keep.refl h0 [o0]).wr W141 (Or.inl (List.mem_of_getElem? (i := 0) rfl))
    have N141 := Fr.snoc X141 N140 g_o0
    refine Ends.step st141 ?_
    show Ends p e below QQ (T141.setTop (mkF m 125 #[.val (.ref o0), .val (.ref o1), .val (.int (0 : Int32)), .val (.int (0 : Int32)), .val (.long u), .second, .val (.int (0 : Int32))] []))
    refine Ends.step (fun _ k => XS.aloadN X141.here hx rfl (hb hby d10_125) rfl rfl k) ?_
    show Ends p e below QQ (T141.setTop (mkF m 126 #[.val (.ref o0), .val (.ref o1), .val (.int (0 : Int32)), .val (.int (0 : Int32)), .val (.long u), .second, .val (.int (0 : Int32))] [(.ref o1)]))
    refine Ends.step (fun _ k => XS.iloadN X141.here hx rfl (hb hby d10_126) rfl k) ?_
    show Ends p e below QQ (T141.setTop (mkF m 127 #[.val (.ref o0), .val (.ref o1), .val (.int (0 : Int32)), .val (.int (0 : Int32)), .val (.long u), .second, .val (.int (0 : Int32))] [(.int (0 : Int32)), (.ref o1)]))
    refine Ends.step (fun _ k => XS.aloadN X141.here hx rfl (hb hby d10_127) rfl rfl k) ?_
    show Ends p e below QQ (T141.setTop (mkF m 128 #[.val (.ref o0), .val (.ref o1), .val (.int (0 : Int32)), .val (.int (0 : Int32)), .val (.long u), .second, .val (.int (0 : Int32))] [(.ref o0), (.int (0 : Int32)), (.ref o1)]))
    obtain ⟨T142, X142, e142, st142⟩ := getF X141 hx hZ hown (host := "") (Or.inl (hw _ (List.mem_of_getElem? (i := 13) rfl))) Via.refl e141 F_data_o0 (g := (mkF m 128 #[.val (.ref o0), .val (.ref o1), .val (.int (0 : Int32)), .val (.int (0 : Int32)), .val (.long u), .second, .val (.int (0 : Int32))] [(.ref o0), (.int (0 : Int32)), (.ref o1)])) rfl rfl (hb hby d10_128)
    refine Ends.step st142 ?_
    show Ends p e below QQ (T142.setTop (mkF m 131 #[.val (.ref o0), .val (.ref o1), .val (.int (0 : Int32)), .val (.int (0 : Int32)), .val (.long u), .second, .val (.int (0 : Int32))] [(.ref a_NONE), (.int (0 : Int32)), (.ref o1)]))
    refine Ends.step (fun _ k => XS.aloadN X142.here hx rfl (hb hby d10_131) rfl rfl k) ?_
    show Ends p e below QQ (T142.setTop (mkF m 132 #[.val (.ref o0), .val (.ref o1), .val (.int (0 : Int32)), .val (.int (0 : Int32)), .val (.long u), .second, .val (.int (0 : Int32))] [(.ref o0), (.ref a_NONE), (.int (0 : Int32)), (.ref o1)]))
    obtain ⟨T143, X143, e143, st143⟩ := getF X142 hx hZ hown (host := "") (Or.inl (hw _ (List.mem_of_getElem? (i := 105) rfl))) Via.refl e142 F_dataLength_o0 (g := (mkF m 132 #[.val (.ref o0), .val (.ref o1), .val (.int (0 : Int32)), .val (.int (0 : Int32)), .val (.long u), .second, .val (.int (0 : Int32))] [(.ref o0), (.ref a_NONE), (.int (0 : Int32)), (.ref o1)])) rfl rfl (hb hby d10_132)
    refine Ends.step st143 ?_
    show Ends p e below QQ (T143.setTop (mkF m 135 #[.val (.ref o0), .val (.ref o1), .val (.int (0 : Int32)), .val (.int (0 : Int32)), .val (.long u), .second, .val (.int (0 : Int32))] [(.int (0 : Int32)), (.ref a_NONE), (.int (0 : Int32)), (.ref o1)]))
    refine Ends.step (fun _ k => XS.iload X143.here hx rfl (hb hby d10_135) rfl k) ?_
    show Ends p e below QQ (T143.setTop (mkF m 137 #[.val (.ref o0), .val (.ref o1), .val (.int (0 : Int32)), .val (.int (0 : Int32)), .val (.long u), .second, .val (.int (0 : Int32))] [(.int (0 : Int32)), (.int (0 : Int32)), (.ref a_NONE), (.int (0 : Int32)), (.ref o1)]))
    obtain ⟨T144, X144, e144, st144⟩ := own_cp0 X143 hx hZ hown (hw _ (List.mem_of_getElem? (i := 114) rfl)) (hw _ (List.mem_of_getElem? (i := 117) rfl)) (hw _ (List.mem_of_getElem? (i := 115) rfl)) (hw _ (List.mem_of_getElem? (i := 116) rfl)) e143 A_o1 A_a_NONE (by decide) (by decide) (g := (mkF m 137 #[.val (.ref o0), .val (.ref o1), .val (.int (0 : Int32)), .val (.int (0 : Int32)), .val (.long u), .second, .val (.int (0 : Int32))] [(.int (0 : Int32)), (.int (0 : Int32)), (.ref a_NONE), (.int (0 : Int32)), (.ref o1)])) rfl (by rw [hml]; rfl) rfl (hb hby d10_137) (by decide) (W := 0) (by show 2 * 0 + _ ≤ _; exact Nat.le_of_eq rfl) (by decide)
    refine Ends.step st144 ?_
    show Ends p e below QQ (T144.setTop (mkF m 140 #[.val (.ref o0), .val (.ref o1), .val (.int (0 : Int32)), .val (.int (0 : Int32)), .val (.long u), .second, .val (.int (0 : Int32))] []))
    refine Ends.step (fun _ k => XS.aloadN X144.here hx rfl (hb hby d10_140) rfl rfl k) ?_
    show Ends p e below QQ (T144.setTop (mkF m 141 #[.val (.ref o0), .val (.ref o1), .val (.int (0 : Int32)), .val (.int (0 : Int32)), .val (.long u), .second, .val (.int (0 : Int32))] [(.ref o0)]))
    refine Ends.step (fun _ k => XS.dup X144.here hx rfl (hb hby d10_141) rfl rfl k) ?_
    show Ends p e below QQ (T144.setTop (mkF m 142 #[.val (.ref o0), .val (.ref o1), .val (.int (0 : Int32)), .val (.int (0 : Int32)), .val (.long u), .second, .val (.int (0 : Int32))] [(.ref o0), (.ref o0)]))
    obtain ⟨T145, X145, e145, st145⟩ := getF X144 hx hZ hown (host := "") (Or.inl (hw _ (List.mem_of_getElem? (i := 105) rfl))) Via.refl e144 F_dataLength_o0 (g := (mkF m 142 #[.val (.ref o0), .val (.ref o1), .val (.int (0 : Int32)), .val (.int (0 : Int32)), .val (.long u), .second, .val (.int (0 : Int32))] [(.ref o0), (.ref o0)])) rfl rfl (hb hby d10_142)
    refine Ends.step st145 ?_
    show Ends p e below QQ (T145.setTop (mkF m 145 #[.val (.ref o0), .val (.ref o1), .val (.int (0 : Int32)), .val (.int (0 : Int32)), .val (.long u), .second, .val (.int (0 : Int32))] [(.int (0 : Int32)), (.ref o0)]))
    refine Ends.step (fun _ k => XS.iload X145.here hx rfl (hb hby d10_145) rfl k) ?_
    show Ends p e below QQ (T145.setTop (mkF m 147 #[.val (.ref o0), .val (.ref o1), .val (.int (0 : Int32)), .val (.int (0 : Int32)), .val (.long u), .second, .val (.int (0 : Int32))] [(.int (0 : Int32)), (.int (0 : Int32)), (.ref o0)]))
    refine Ends.step (fun _ k => XS.iadd X145.here hx rfl (hb hby d10_147) rfl k) ?_
    show Ends p e below QQ (T145.setTop (mkF m 148 #[.val (.ref o0), .val (.ref o1), .val (.int (0 : Int32)), .val (.int (0 : Int32)), .val (.long u), .second, .val (.int (0 : Int32))] [(.int (0 : Int32)), (.ref o0)]))
    obtain ⟨T146, h146, X146, e146, W146, st146⟩ := putF X145 hx hZ hown (host := "") (Or.inl (hw _ (List.mem_of_getElem? (i := 105) rfl))) Via.refl e145 F_dataLength_o0 E_o0 (Or.inl (hw _ (List.mem_of_getElem? (i := 106) rfl))) (hw _ (List.mem_of_getElem? (i := 3) rfl)) (ty := .int) (by decide) rfl rfl (g := (mkF m 148 #[.val (.ref o0), .val (.ref o1), .val (.int (0 : Int32)), .val (.int (0 : Int32)), .val (.long u), .second, .val (.int (0 : Int32))] [(.int (0 : Int32)), (.ref o0)])) rfl rfl (hb hby d10_148)
    have E_o0 := E_o0.wr W146
    have F_ended_o0 := F_ended_o0.other W146 (Or.inr (slot_ne (Or.inl (hw _ (List.mem_of_getElem? (i := 91) rfl))) (Or.inl (hw _ (List.mem_of_getElem? (i := 106) rfl))) (by decide) (t := .boolean) (t' := .int) (by decide) (by decide)))
    have F_chunks_o0 := F_chunks_o0.other W146 (Or.inr (slot_ne (Or.inl (hw _ (List.mem_of_getElem? (i := 78) rfl))) (Or.inl (hw _ (List.mem_of_getElem? (i := 106) rfl))) (by decide) (t := (.object "com/example/gatehook/gatehook/http/ChunkedBody")) (t' := .int) (by decide) (by decide)))
    have F_length_o0 := F_length_o0.other W146 (Or.inr (slot_ne (Or.inr (hw _ (List.mem_of_getElem? (i := 16) rfl))) (Or.inl (hw _ (List.mem_of_getElem? (i := 106) rfl))) (by decide) (t := .long) (t' := .int) (by decide) (by decide)))
    have F_max_o0 := F_max_o0.other W146 (Or.inr (slot_ne (Or.inr (hw _ (List.mem_of_getElem? (i := 18) rfl))) (Or.inl (hw _ (List.mem_of_getElem? (i := 106) rfl))) (by decide) (t := .int) (t' := .int) (by decide) (by decide)))
    have F_data_o0 := F_data_o0.other W146 (Or.inr (slot_ne (Or.inl (hw _ (List.mem_of_getElem? (i := 14) rfl))) (Or.inl (hw _ (List.mem_of_getElem? (i := 106) rfl))) (by decide) (t := (.array .byte)) (t' := .int) (by decide) (by decide)))
    have A_a_NONE := A_a_NONE.other W146 ne_a_NONE_o0
    have A_o1 := A_o1.other W146 ne_o1_o0
    have F_dataLength_o0 : Fld Z h146 o0 "com/example/gatehook/gatehook/http/IncomingBody" "dataLength" "I" (.int (0 : Int32)) := F_dataLength_o0.same W146
    have K146 := K141.wr W146 (Or.inl (List.mem_of_getElem? (i := 0) rfl))
    have N146 := Fr.snoc X146 N141 g_o0
    refine Ends.step st146 ?_
    show Ends p e below QQ (T146.setTop (mkF m 151 #[.val (.ref o0), .val (.ref o1), .val (.int (0 : Int32)), .val (.int (0 : Int32)), .val (.long u), .second, .val (.int (0 : Int32))] []))
    refine Ends.step (fun _ k => XS.aloadN X146.here hx rfl (hb hby d10_151) rfl rfl k) ?_
    show Ends p e below QQ (T146.setTop (mkF m 152 #[.val (.ref o0), .val (.ref o1), .val (.int (0 : Int32)), .val (.int (0 : Int32)), .val (.long u), .second, .val (.int (0 : Int32))] [(.ref o0)]))
    obtain ⟨T147, X147, e147, st147⟩ := getF X146 hx hZ hown (host := "") (Or.inl (hw _ (List.mem_of_getElem? (i := 105) rfl))) Via.refl e146 F_dataLength_o0 (g := (mkF m 152 #[.val (.ref o0), .val (.ref o1), .val (.int (0 : Int32)), .val (.int (0 : Int32)), .val (.long u), .second, .val (.int (0 : Int32))] [(.ref o0)])) rfl rfl (hb hby d10_152)
    refine Ends.step st147 ?_
    show Ends p e below QQ (T147.setTop (mkF m 155 #[.val (.ref o0), .val (.ref o1), .val (.int (0 : Int32)), .val (.int (0 : Int32)), .val (.long u), .second, .val (.int (0 : Int32))] [(.int (0 : Int32))]))
    refine Ends.step (fun _ k => XS.aloadN X147.here hx rfl (hb hby d10_155) rfl rfl k) ?_
    show Ends p e below QQ (T147.setTop (mkF m 156 #[.val (.ref o0), .val (.ref o1), .val (.int (0 : Int32)), .val (.int (0 : Int32)), .val (.long u), .second, .val (.int (0 : Int32))] [(.ref o0), (.int (0 : Int32))]))
    obtain ⟨T148, X148, e148, st148⟩ := getF X147 hx hZ hown (host := "") (Or.inl (hw _ (List.mem_of_getElem? (i := 17) rfl))) Via.refl e147 F_max_o0 (g := (mkF m 156 #[.val (.ref o0), .val (.ref o1), .val (.int (0 : Int32)), .val (.int (0 : Int32)), .val (.long u), .second, .val (.int (0 : Int32))] [(.ref o0), (.int (0 : Int32))])) rfl rfl (hb hby d10_156)
    refine Ends.step st148 ?_
    show Ends p e below QQ (T148.setTop (mkF m 159 #[.val (.ref o0), .val (.ref o1), .val (.int (0 : Int32)), .val (.int (0 : Int32)), .val (.long u), .second, .val (.int (0 : Int32))] [(.int mx), (.int (0 : Int32))]))
    by_cases hc159_149 : mx < (0 : Int32)
    · refine Ends.step (fun _ k => XS.icmpNo X148.here hx rfl (hb hby d10_159) rfl (XT.ii_le_f hc159_149) k) ?_
      show Ends p e below QQ (T148.setTop (mkF m 162 #[.val (.ref o0), .val (.ref o1), .val (.int (0 : Int32)), .val (.int (0 : Int32)), .val (.long u), .second, .val (.int (0 : Int32))] []))
      refine Ends.step (fun _ k => XS.aloadN X148.here hx rfl (hb hby d10_162) rfl rfl k) ?_
      show Ends p e below QQ (T148.setTop (mkF m 163 #[.val (.ref o0), .val (.ref o1), .val (.int (0 : Int32)), .val (.int (0 : Int32)), .val (.long u), .second, .val (.int (0 : Int32))] [(.ref o0)]))
      refine Ends.step (fun _ k => XS.aconstNull X148.here hx rfl (hb hby d10_163) k) ?_
      show Ends p e below QQ (T148.setTop (mkF m 164 #[.val (.ref o0), .val (.ref o1), .val (.int (0 : Int32)), .val (.int (0 : Int32)), .val (.long u), .second, .val (.int (0 : Int32))] [.null, (.ref o0)]))
      obtain ⟨T150, h150, X150, e150, W150, st150⟩ := putF X148 hx hZ hown (host := "") (Or.inl (hw _ (List.mem_of_getElem? (i := 13) rfl))) Via.refl e148 F_data_o0 E_o0 (Or.inl (hw _ (List.mem_of_getElem? (i := 14) rfl))) (hw _ (List.mem_of_getElem? (i := 3) rfl)) (ty := (.array .byte)) (by decide) rfl rfl (g := (mkF m 164 #[.val (.ref o0), .val (.ref o1), .val (.int (0 : Int32)), .val (.int (0 : Int32)), .val (.long u), .second, .val (.int (0 : Int32))] [.null, (.ref o0)])) rfl rfl (hb hby d10_164)
      have E_o0 := E_o0.wr W150
      have F_ended_o0 := F_ended_o0.other W150 (Or.inr (slot_ne (Or.inl (hw _ (List.mem_of_getElem? (i := 91) rfl))) (Or.inl (hw _ (List.mem_of_getElem? (i := 14) rfl))) (by decide) (t := .boolean) (t' := (.array .byte)) (by decide) (by decide)))
      have F_chunks_o0 := F_chunks_o0.other W150 (Or.inr (slot_ne (Or.inl (hw _ (List.mem_of_getElem? (i := 78) rfl))) (Or.inl (hw _ (List.mem_of_getElem? (i := 14) rfl))) (by decide) (t := (.object "com/example/gatehook/gatehook/http/ChunkedBody")) (t' := (.array .byte)) (by decide) (by decide)))
      have F_length_o0 := F_length_o0.other W150 (Or.inr (slot_ne (Or.inr (hw _ (List.mem_of_getElem? (i := 16) rfl))) (Or.inl (hw _ (List.mem_of_getElem? (i := 14) rfl))) (by decide) (t := .long) (t' := (.array .byte)) (by decide) (by decide)))
      have F_max_o0 := F_max_o0.other W150 (Or.inr (slot_ne (Or.inr (hw _ (List.mem_of_getElem? (i := 18) rfl))) (Or.inl (hw _ (List.mem_of_getElem? (i := 14) rfl))) (by decide) (t := .int) (t' := (.array .byte)) (by decide) (by decide)))
      have F_dataLength_o0 := F_dataLength_o0.other W150 (Or.inr (slot_ne (Or.inl (hw _ (List.mem_of_getElem? (i := 106) rfl))) (Or.inl (hw _ (List.mem_of_getElem? (i := 14) rfl))) (by decide) (t := .int) (t' := (.array .byte)) (by decide) (by decide)))
      have A_a_NONE := A_a_NONE.other W150 ne_a_NONE_o0
      have A_o1 := A_o1.other W150 ne_o1_o0
      have F_data_o0 : Fld Z h150 o0 "com/example/gatehook/gatehook/http/IncomingBody" "data" "[B" .null := F_data_o0.same W150
      have K150 := K146.wr W150 (Or.inl (List.mem_of_getElem? (i := 0) rfl))
      have N150 := Fr.snoc X150 N146 g_o0
      refine Ends.step st150 ?_
      show Ends p e below QQ (T150.setTop (mkF m 167 #[.val (.ref o0), .val (.ref o1), .val (.int (0 : Int32)), .val (.int (0 : Int32)), .val (.long u), .second, .val (.int (0 : Int32))] []))
      refine Ends.step (fun _ k => XS.aloadN X150.here hx rfl (hb hby d10_167) rfl rfl k) ?_
      show Ends p e below QQ (T150.setTop (mkF m 168 #[.val (.ref o0), .val (.ref o1), .val (.int (0 : Int32)), .val (.int (0 : Int32)), .val (.long u), .second, .val (.int (0 : Int32))] [(.ref o0)]))
      refine Ends.step (fun _ k => XT.iconstV X150.here hx rfl (1 : Int32) (hb hby d10_168) rfl k) ?_
      show Ends p e below QQ (T150.setTop (mkF m 169 #[.val (.ref o0), .val (.ref o1), .val (.int (0 : Int32)), .val (.int (0 : Int32)), .val (.long u), .second, .val (.int (0 : Int32))] [(.int (1 : Int32)), (.ref o0)]))
      obtain ⟨T151, h151, X151, e151, W151, st151⟩ := putFN X150 hx hZ hown (hw _ (List.mem_of_getElem? (i := 90) rfl)) Via.refl e150 F_ended_o0 E_o0 (Or.inl (hw _ (List.mem_of_getElem? (i := 91) rfl))) (hw _ (List.mem_of_getElem? (i := 3) rfl)) (ty := .boolean) (v' := (.int (1 : Int32))) (by decide) rfl rfl (g := (mkF m 169 #[.val (.ref o0), .val (.ref o1), .val (.int (0 : Int32)), .val (.int (0 : Int32)), .val (.long u), .second, .val (.int (0 : Int32))] [(.int (1 : Int32)), (.ref o0)])) rfl rfl (hb hby d10_169)
      have E_o0 := E_o0.wr W151
      have F_chunks_o0 := F_chunks_o0.other W151 (Or.inr (slot_ne (Or.inl (hw _ (List.mem_of_getElem? (i := 78) rfl))) (Or.inl (hw _ (List.mem_of_getElem? (i := 91) rfl))) (by decide) (t := (.object "com/example/gatehook/gatehook/http/ChunkedBody")) (t' := .boolean) (by decide) (by decide)))
      have F_length_o0 := F_length_o0.other W151 (Or.inr (slot_ne (Or.inr (hw _ (List.mem_of_getElem? (i := 16) rfl))) (Or.inl (hw _ (List.mem_of_getElem? (i := 91) rfl))) (by decide) (t := .long) (t' := .boolean) (by decide) (by decide)))
      have F_max_o0 := F_max_o0.other W151 (Or.inr (slot_ne (Or.inr (hw _ (List.mem_of_getElem? (i := 18) rfl))) (Or.inl (hw _ (List.mem_of_getElem? (i := 91) rfl))) (by decide) (t := .int) (t' := .boolean) (by decide) (by decide)))
      have F_data_o0 := F_data_o0.other W151 (Or.inr (slot_ne (Or.inl (hw _ (List.mem_of_getElem? (i := 14) rfl))) (Or.inl (hw _ (List.mem_of_getElem? (i := 91) rfl))) (by decide) (t := (.array .byte)) (t' := .boolean) (by decide) (by decide)))
      have F_dataLength_o0 := F_dataLength_o0.other W151 (Or.inr (slot_ne (Or.inl (hw _ (List.mem_of_getElem? (i := 106) rfl))) (Or.inl (hw _ (List.mem_of_getElem? (i := 91) rfl))) (by decide) (t := .int) (t' := .boolean) (by decide) (by decide)))
      have A_a_NONE := A_a_NONE.other W151 ne_a_NONE_o0
      have A_o1 := A_o1.other W151 ne_o1_o0
      have F_ended_o0 : Fld Z h151 o0 "com/example/gatehook/gatehook/http/IncomingBody" "ended" "Z" (.int (1 : Int32)) := F_ended_o0.same W151
      have K151 := K150.wr W151 (Or.inl (List.mem_of_getElem? (i := 0) rfl))
      have N151 := Fr.snoc X151 N150 g_o0
      refine Ends.step st151 ?_
      show Ends p e below QQ (T151.setTop (mkF m 172 #[.val (.ref o0), .val (.ref o1), .val (.int (0 : Int32)), .val (.int (0 : Int32)), .val (.long u), .second, .val (.int (0 : Int32))] []))
      refine Ends.step (fun _ k => XS.goto X151.here hx rfl (pc0 := 172) (pc' := 197) rfl (hb hby d10_172) (by decide) (by decide) k) ?_
      show Ends p e below QQ (T151.setTop (mkF m 197 #[.val (.ref o0), .val (.ref o1), .val (.int (0 : Int32)), .val (.int (0 : Int32)), .val (.long u), .second, .val (.int (0 : Int32))] []))
      refine Ends.step (fun _ k => XS.iload X151.here hx rfl (hb hby d10_197) rfl k) ?_
      show Ends p e below QQ (T151.setTop (mkF m 199 #[.val (.ref o0), .val (.ref o1), .val (.int (0 : Int32)), .val (.int (0 : Int32)), .val (.long u), .second, .val (.int (0 : Int32))] [(.int (0 : Int32))]))
      exact Ends.fin (some (.int (0 : Int32))) X151 hQQ (fun h => by rw [Bd.returns] at h; cases h) Bd.notSynchronized (fun _ hr => retOut X151 hx (t := .int) Bd.returns rfl (Or.inl ⟨rfl, Or.inl rfl, _, rfl⟩) (hb hby d10_199) hr) e151 (by decide) (by decide) ⟨rfl, N151, K151, E_o0, F_length_o0⟩
    · refine Ends.step (fun _ k => XS.icmpYes X148.here hx rfl (pc0 := 159) (pc' := 175) rfl (hb hby d10_159) rfl (XT.ii_le_t hc159_149) (by decide) (by decide) k) ?_
      show Ends p e below QQ (T148.setTop (mkF m 175 #[.val (.ref o0), .val (.ref o1), .val (.int (0 : Int32)), .val (.int (0 : Int32)), .val (.long u), .second, .val (.int (0 : Int32))] []))
      refine Ends.step (fun _ k => XS.aloadN X148.here hx rfl (hb hby d10_175) rfl rfl k) ?_
      show Ends p e below QQ (T148.setTop (mkF m 176 #[.val (.ref o0), .val (.ref o1), .val (.int (0 : Int32)), .val (.int (0 : Int32)), .val (.long u), .second, .val (.int (0 : Int32))] [(.ref o0)]))
      refine Ends.step (fun _ k => XS.aloadN X148.here hx rfl (hb hby d10_176) rfl rfl k) ?_
      show Ends p e below QQ (T148.setTop (mkF m 177 #[.val (.ref o0), .val (.ref o1), .val (.int (0 : Int32)), .val (.int (0 : Int32)), .val (.long u), .second, .val (.int (0 : Int32))] [(.ref o0), (.ref o0)]))
      obtain ⟨T152, X152, e152, st152⟩ := getF X148 hx hZ hown (host := "") (Or.inl (hw _ (List.mem_of_getElem? (i := 105) rfl))) Via.refl e148 F_dataLength_o0 (g := (mkF m 177 #[.val (.ref o0), .val (.ref o1), .val (.int (0 : Int32)), .val (.int (0 : Int32)), .val (.long u), .second, .val (.int (0 : Int32))] [(.ref o0), (.ref o0)])) rfl rfl (hb hby d10_177)
      refine Ends.step st152 ?_
      show Ends p e below QQ (T152.setTop (mkF m 180 #[.val (.ref o0), .val (.ref o1), .val (.int (0 : Int32)), .val (.int (0 : Int32)), .val (.long u), .second, .val (.int (0 : Int32))] [(.int (0 : Int32)), (.ref o0)]))
      refine Ends.step (fun _ k => XT.i2l X152.here hx rfl (hb hby d10_180) rfl k) ?_
      show Ends p e below QQ (T152.setTop (mkF m 181 #[.val (.ref o0), .val (.ref o1), .val (.int (0 : Int32)), .val (.int (0 : Int32)), .val (.long u), .second, .val (.int (0 : Int32))] [(.long (0 : Int64)), (.ref o0)]))
      refine Ends.step (fun _ k => XS.aloadN X152.here hx rfl (hb hby d10_181) rfl rfl k) ?_
      show Ends p e below QQ (T152.setTop (mkF m 182 #[.val (.ref o0), .val (.ref o1), .val (.int (0 : Int32)), .val (.int (0 : Int32)), .val (.long u), .second, .val (.int (0 : Int32))] [(.ref o0), (.long (0 : Int64)), (.ref o0)]))
      obtain ⟨T153, X153, e153, st153⟩ := getF X152 hx hZ hown (host := "") (Or.inl (hw _ (List.mem_of_getElem? (i := 15) rfl))) Via.refl e152 F_length_o0 (g := (mkF m 182 #[.val (.ref o0), .val (.ref o1), .val (.int (0 : Int32)), .val (.int (0 : Int32)), .val (.long u), .second, .val (.int (0 : Int32))] [(.ref o0), (.long (0 : Int64)), (.ref o0)])) rfl rfl (hb hby d10_182)
      refine Ends.step st153 ?_
      show Ends p e below QQ (T153.setTop (mkF m 185 #[.val (.ref o0), .val (.ref o1), .val (.int (0 : Int32)), .val (.int (0 : Int32)), .val (.long u), .second, .val (.int (0 : Int32))] [(.long u), (.long (0 : Int64)), (.ref o0)]))
      refine Ends.step (fun _ k => XT.lcmp X153.here hx rfl (hb hby d10_185) rfl k) ?_
      show Ends p e below QQ (T153.setTop (mkF m 186 #[.val (.ref o0), .val (.ref o1), .val (.int (0 : Int32)), .val (.int (0 : Int32)), .val (.long u), .second, .val (.int (0 : Int32))] [(.int (XT.cmpL (0 : Int64) u)), (.ref o0)]))
      have J194_154 : (∀ (v194_2 : Int32) (hv194_2 : v194_2 = (if (0 : Int64) = u then (1 : Int32) else (0 : Int32))), Ends p e below QQ (T153.setTop (mkF m 194 #[.val (.ref o0), .val (.ref o1), .val (.int (0 : Int32)), .val (.int (0 : Int32)), .val (.long u), .second, .val (.int (0 : Int32))] [(.int v194_2), (.ref o0)]))) → Ends p e below QQ (T153.setTop (mkF m 186 #[.val (.ref o0), .val (.ref o1), .val (.int (0 : Int32)), .val (.int (0 : Int32)), .val (.long u), .second, .val (.int (0 : Int32))] [(.int (XT.cmpL (0 : Int64) u)), (.ref o0)])) := by
        intro hJ
        by_cases hc186_155 : (0 : Int64) = u
        · refine Ends.step (fun _ k => XS.ifNo X153.here hx rfl (hb hby d10_186) rfl (XT.ll_ne_f hc186_155) k) ?_
          show Ends p e below QQ (T153.setTop (mkF m 189 #[.val (.ref o0), .val (.ref o1), .val (.int (0 : Int32)), .val (.int (0 : Int32)), .val (.long u), .second, .val (.int (0 : Int32))] [(.ref o0)]))
          refine Ends.step (fun _ k => XT.iconstV X153.here hx rfl (1 : Int32) (hb hby d10_189) rfl k) ?_
          show Ends p e below QQ (T153.setTop (mkF m 190 #[.val (.ref o0), .val (.ref o1), .val (.int (0 : Int32)), .val (.int (0 : Int32)), .val (.long u), .second, .val (.int (0 : Int32))] [(.int (1 : Int32)), (.ref o0)]))
          refine Ends.step (fun _ k => XS.goto X153.here hx rfl (pc0 := 190) (pc' := 194) rfl (hb hby d10_190) (by decide) (by decide) k) ?_
          exact hJ _ (by simp only [if_pos hc186_155])
        · refine Ends.step (fun _ k => XS.ifYes X153.here hx rfl (pc0 := 186) (pc' := 193) rfl (hb hby d10_186) rfl (XT.ll_ne_t hc186_155) (by decide) (by decide) k) ?_
          show Ends p e below QQ (T153.setTop (mkF m 193 #[.val (.ref o0), .val (.ref o1), .val (.int (0 : Int32)), .val (.int (0 : Int32)), .val (.long u), .second, .val (.int (0 : Int32))] [(.ref o0)]))
          refine Ends.step (fun _ k => XT.iconstV X153.here hx rfl (0 : Int32) (hb hby d10_193) rfl k) ?_
          exact hJ _ (by simp only [if_neg hc186_155])
      refine J194_154 fun v194_2 hv194_2 => ?_
      show Ends p e below QQ (T153.setTop (mkF m 194 #[.val (.ref o0), .val (.ref o1), .val (.int (0 : Int32)), .val (.int (0 : Int32)), .val (.long u), .second, .val (.int (0 : Int32))] [(.int v194_2), (.ref o0)]))
      obtain ⟨T156, h156, X156, e156, W156, st156⟩ := putFN X153 hx hZ hown (hw _ (List.mem_of_getElem? (i := 90) rfl)) Via.refl e153 F_ended_o0 E_o0 (Or.inl (hw _ (List.mem_of_getElem? (i := 91) rfl))) (hw _ (List.mem_of_getElem? (i := 3) rfl)) (ty := .boolean) (v' := (.int (nar .boolean v194_2))) (by decide) rfl (fits_nar_bool _) (g := (mkF m 194 #[.val (.ref o0), .val (.ref o1), .val (.int (0 : Int32)), .val (.int (0 : Int32)), .val (.long u), .second, .val (.int (0 : Int32))] [(.int v194_2), (.ref o0)])) rfl rfl (hb hby d10_194)
      have E_o0 := E_o0.wr W156
      have F_chunks_o0 := F_chunks_o0.other W156 (Or.inr (slot_ne (Or.inl (hw _ (List.mem_of_getElem? (i := 78) rfl))) (Or.inl (hw _ (List.mem_of_getElem? (i := 91) rfl))) (by decide) (t := (.object "com/example/gatehook/gatehook/http/ChunkedBody")) (t' := .boolean) (by decide) (by decide)))
      have F_length_o0 := F_length_o0.other W156 (Or.inr (slot_ne (Or.inr (hw _ (List.mem_of_getElem? (i := 16) rfl))) (Or.inl (hw _ (List.mem_of_getElem? (i := 91) rfl))) (by decide) (t := .long) (t' := .boolean) (by decide) (by decide)))
      have F_max_o0 := F_max_o0.other W156 (Or.inr (slot_ne (Or.inr (hw _ (List.mem_of_getElem? (i := 18) rfl))) (Or.inl (hw _ (List.mem_of_getElem? (i := 91) rfl))) (by decide) (t := .int) (t' := .boolean) (by decide) (by decide)))
      have F_data_o0 := F_data_o0.other W156 (Or.inr (slot_ne (Or.inl (hw _ (List.mem_of_getElem? (i := 14) rfl))) (Or.inl (hw _ (List.mem_of_getElem? (i := 91) rfl))) (by decide) (t := (.array .byte)) (t' := .boolean) (by decide) (by decide)))
      have F_dataLength_o0 := F_dataLength_o0.other W156 (Or.inr (slot_ne (Or.inl (hw _ (List.mem_of_getElem? (i := 106) rfl))) (Or.inl (hw _ (List.mem_of_getElem? (i := 91) rfl))) (by decide) (t := .int) (t' := .boolean) (by decide) (by decide)))
      have A_a_NONE := A_a_NONE.other W156 ne_a_NONE_o0
      have A_o1 := A_o1.other W156 ne_o1_o0
      have F_ended_o0 : Fld Z h156 o0 "com/example/gatehook/gatehook/http/IncomingBody" "ended" "Z" (.int (nar .boolean v194_2)) := F_ended_o0.same W156
      have K156 := K146.wr W156 (Or.inl (List.mem_of_getElem? (i := 0) rfl))
      have N156 := Fr.snoc X156 N146 g_o0
      refine Ends.step st156 ?_
      show Ends p e below QQ (T156.setTop (mkF m 197 #[.val (.ref o0), .val (.ref o1), .val (.int (0 : Int32)), .val (.int (0 : Int32)), .val (.long u), .second, .val (.int (0 : Int32))] []))
      refine Ends.step (fun _ k => XS.iload X156.here hx rfl (hb hby d10_197) rfl k) ?_
      show Ends p e below QQ (T156.setTop (mkF m 199 #[.val (.ref o0), .val (.ref o1), .val (.int (0 : Int32)), .val (.int (0 : Int32)), .val (.long u), .second, .val (.int (0 : Int32))] [(.int (0 : Int32))]))
      exact Ends.fin (some (.int (0 : Int32))) X156 hQQ (fun h => by rw [Bd.returns] at h; cases h) Bd.notSynchronized (fun _ hr => retOut X156 hx (t := .int) Bd.returns rfl (Or.inl ⟨rfl, Or.inl rfl, _, rfl⟩) (hb hby d10_199) hr) e156 (by decide) (by decide) ⟨rfl, N156, K156, E_o0, F_length_o0⟩
theorem ef_tp1 (m : MethodId) (x0 : Addr) (x1 : Addr) : entryFrame m #[(.ref x0), (.ref x1), (.int (0 : Int32)), (.int (1 : Int32))] 7 = mkF m 0 #[.val (.ref x0), .val (.ref x1), .val (.int (0 : Int32)), .val (.int (1 : Int32)), .unset, .unset, .unset] [] := by first | (simp [entryFrame, mkF, argsToLocals, Value.category]; done) | rfl
def Qtp1 (Z : State) (o0 : Addr) (o1 : Addr) (u : Int64) (mx : Int32) (a_NONE : Addr) (kn : ClassId) (ka : ClassId) (bv : Int32) (h0 : Heap) (n0 : Nat) (v : Option Value) (h : Heap) (L : List Loc) : Prop := (v = some (.int (1 : Int32))) ∧ (Fr n0 L) ∧ (Keep h0 h [o0]) ∧ (Exa Z h o0 "com/example/gatehook/gatehook/http/IncomingBody") ∧ (Fld Z h o0 "com/example/gatehook/gatehook/http/IncomingBody" "length" "J" (.long u))
set_option maxRecDepth 65536 in
set_option maxHeartbeats 40000000 in
theorem rmtp1 (l : Launch) (Z : State) (a0 : Array Value) (hw : ∀ d ∈ tables_1, d.before a0 Z = true) (ws : List Jvm.Cond) (o0 : Addr) (o1 : Addr) (u : Int64) (mx : Int32) (a_NONE : Addr) (kn : ClassId) (ka : ClassId) (bv : Int32) (h0 : Heap) (n0 : Nat) (Z0 : n0 ≤ h0.size) (E_o0 : Exa Z h0 o0 "com/example/gatehook/gatehook/http/IncomingBody") (F_ended_o0 : Fld Z h0 o0 "com/example/gatehook/gatehook/http/IncomingBody" "ended" "Z" (.int (0 : Int32))) (F_chunks_o0 : Fld Z h0 o0 "com/example/gatehook/gatehook/http/IncomingBody" "chunks" "Lcom/example/gatehook/gatehook/http/ChunkedBody;" .null) (F_length_o0 : Fld Z h0 o0 "com/example/gatehook/gatehook/http/IncomingBody" "length" "J" (.long u)) (F_max_o0 : Fld Z h0 o0 "com/example/gatehook/gatehook/http/IncomingBody" "max" "I" (.int mx)) (F_data_o0 : Fld Z h0 o0 "com/example/gatehook/gatehook/http/IncomingBody" "data" "[B" (.ref a_NONE)) (F_dataLength_o0 : Fld Z h0 o0 "com/example/gatehook/gatehook/http/IncomingBody" "dataLength" "I" (.int (0 : Int32))) (A_a_NONE : Arv Z h0 a_NONE kn .byte (0 : Int32) [] (.int (0 : Int32))) (g_o0 : n0 ≤ o0) (ne_a_NONE_o0 : a_NONE ≠ o0) (A_o1 : Arv Z h0 o1 ka .byte (1 : Int32) [(.int bv)] (.int (0 : Int32))) (ne_o1_o0 : o1 ≠ o0) (hu : u = (-1 : Int64) ∨ ¬ u < (1 : Int64)) (hx0 : ¬ mx < (0 : Int32)) :
    MetFree l (⟨"com/example/gatehook/gatehook/http/IncomingBody", "take", "([BII)I"⟩ : MethodName) (head1 (Jvm.Cond.code (⟨"com/example/gatehook/gatehook/http/IncomingBody", "take", "([BII)I"⟩ : MethodName) prog_42_method_2_code 7 (some .int) :: ws) ({ frames := 3, cells := 1, slots := 1, locals := 54 } : Room)) (fun a U => a = #[(.ref o0), (.ref o1), (.int (0 : Int32)), (.int (1 : Int32))] ∧ Z.Warmed39 U.vm ∧ U.heap = h0) (fun _ _ _ _ _ => True) (fun _ U o U' => ∃ v L, o = .returned v ∧ Qtp1 Z o0 o1 u mx a_NONE kn ka bv h0 n0 v U'.heap L ∧ FrameEnd U o U' L ({ frames := 3, cells := 1, slots := 1, locals := 54 } : Room).cells ({ frames := 3, cells := 1, slots := 1, locals := 54 } : Room).slots) := by
  refine MetFree.of_bodySF (plainFor_of_name pn_5) hisR ?_
  intro p e s m args below meth c s₁ Bd hml0 hP hK
  obtain ⟨rfl, hZ, hh⟩ := hP
  have hx := Bd.exec
  have hby := Bd.bytes
  have hml : c.maxLocals = 7 := hml0
  have hown : s.vm.findClass "com/example/gatehook/gatehook/http/IncomingBody" = some m.cls := findClass_of_methodNamed Bd.named
  have hnm := (name_of_methodNamed Bd.named Bd.method).1
  have X0 : Stand p l e ({ frames := 3, cells := 1, slots := 1, locals := 54 } : Room) s m #[(.ref o0), (.ref o1), (.int (0 : Int32)), (.int (1 : Int32))] below meth c s₁ [] 0 0 := Stand.of_body Bd
  have e0 : s₁.heap = h0 := by rw [← hh, Bd.state]; rfl
  have N0 := Fr.nil n0
  refine Ends.opn ?_
  intro QQ hQQ
  refine Ends.step (S' := s₁.setTop (mkF m 0 #[.val (.ref o0), .val (.ref o1), .val (.int (0 : Int32)), .val (.int (1 : Int32)), .unset, .unset, .unset] [])) (fun t k => castTop (ef_tp1 m o0 o1) k) ?_
  show Ends p e below QQ (s₁.setTop (mkF m 0 #[.val (.ref o0), .val (.ref o1), .val (.int (0 : Int32)), .val (.int (1 : Int32)), .unset, .unset, .unset] []))
  refine Ends.step (fun _ k => XS.aloadN X0.here hx rfl (hb hby d10_0) rfl rfl k) ?_
  show Ends p e below QQ (s₁.setTop (mkF m 1 #[.val (.ref o0), .val (.ref o1), .val (.int (0 : Int32)), .val (.int (1 : Int32)), .unset, .unset, .unset] [(.ref o0)]))
  obtain ⟨T157, X157, e157, st157⟩ := getF X0 hx hZ hown (host := "") (Or.inl (hw _ (List.mem_of_getElem? (i := 90) rfl))) Via.refl e0 F_ended_o0 (g := (mkF m 1 #[.val (.ref o0), .val (.ref o1), .val (.int (0 : Int32)), .val (.int (1 : Int32)), .unset, .unset, .unset] [(.ref o0)])) rfl rfl (hb hby d10_1)
  refine Ends.step st157 ?_
  show Ends p e below QQ (T157.setTop (mkF m 4 #[.val (.ref o0), .val (.ref o1), .val (.int (0 : Int32)), .val (.int (1 : Int32)), .unset, .unset, .unset] [(.int (0 : Int32))]))
  refine Ends.step (fun _ k => XS.ifYes X157.here hx rfl (pc0 := 4) (pc' := 9) rfl (hb hby d10_4) rfl (XT.i0_eq_t (by decide)) (by decide) (by decide) k) ?_
  show Ends p e below QQ (T157.setTop (mkF m 9 #[.val (.ref o0), .val (.ref o1), .val (.int (0 : Int32)), .val (.int (1 : Int32)), .unset, .unset, .unset] []))
  refine Ends.step (fun _ k => XS.aloadN X157.here hx rfl (hb hby d10_9) rfl rfl k) ?_
  show Ends p e below QQ (T157.setTop (mkF m 10 #[.val (.ref o0), .val (.ref o1), .val (.int (0 : Int32)), .val (.int (1 : Int32)), .unset, .unset, .unset] [(.ref o0)]))
  obtain ⟨T158, X158, e158, st158⟩ := getF X157 hx hZ hown (host := "") (Or.inl (hw _ (List.mem_of_getElem? (i := 77) rfl))) Via.refl e157 F_chunks_o0 (g := (mkF m 10 #[.val (.ref o0), .val (.ref o1), .val (.int (0 : Int32)), .val (.int (1 : Int32)), .unset, .unset, .unset] [(.ref o0)])) rfl rfl (hb hby d10_10)
  refine Ends.step st158 ?_
  show Ends p e below QQ (T158.setTop (mkF m 13 #[.val (.ref o0), .val (.ref o1), .val (.int (0 : Int32)), .val (.int (1 : Int32)), .unset, .unset, .unset] [.null]))
  refine Ends.step (fun _ k => XS.ifnullYes X158.here hx rfl (pc0 := 13) (pc' := 62) rfl (hb hby d10_13) rfl (by decide) (by decide) k) ?_
  show Ends p e below QQ (T158.setTop (mkF m 62 #[.val (.ref o0), .val (.ref o1), .val (.int (0 : Int32)), .val (.int (1 : Int32)), .unset, .unset, .unset] []))
  refine Ends.step (fun _ k => XS.aloadN X158.here hx rfl (hb hby d10_62) rfl rfl k) ?_
  show Ends p e below QQ (T158.setTop (mkF m 63 #[.val (.ref o0), .val (.ref o1), .val (.int (0 : Int32)), .val (.int (1 : Int32)), .unset, .unset, .unset] [(.ref o0)]))
  obtain ⟨T159, X159, e159, st159⟩ := getF X158 hx hZ hown (host := "") (Or.inl (hw _ (List.mem_of_getElem? (i := 15) rfl))) Via.refl e158 F_length_o0 (g := (mkF m 63 #[.val (.ref o0), .val (.ref o1), .val (.int (0 : Int32)), .val (.int (1 : Int32)), .unset, .unset, .unset] [(.ref o0)])) rfl rfl (hb hby d10_63)
  refine Ends.step st159 ?_
  show Ends p e below QQ (T159.setTop (mkF m 66 #[.val (.ref o0), .val (.ref o1), .val (.int (0 : Int32)), .val (.int (1 : Int32)), .unset, .unset, .unset] [(.long u)]))
  refine Ends.step (fun _ k => X159.ldc2J hx hown (mvT hZ (hw _ (List.mem_of_getElem? (i := 84) rfl))) (g := (mkF m 66 #[.val (.ref o0), .val (.ref o1), .val (.int (0 : Int32)), .val (.int (1 : Int32)), .unset, .unset, .unset] [(.long u)])) rfl (hb hby d10_66) k) ?_
  show Ends p e below QQ (T159.setTop (mkF m 69 #[.val (.ref o0), .val (.ref o1), .val (.int (0 : Int32)), .val (.int (1 : Int32)), .unset, .unset, .unset] [(.long (-1 : Int64)), (.long u)]))
  refine Ends.step (fun _ k => XT.lcmp X159.here hx rfl (hb hby d10_69) rfl k) ?_
  show Ends p e below QQ (T159.setTop (mkF m 70 #[.val (.ref o0), .val (.ref o1), .val (.int (0 : Int32)), .val (.int (1 : Int32)), .unset, .unset, .unset] [(.int (XT.cmpL u (-1 : Int64)))]))
  by_cases hc70_160 : u = (-1 : Int64)
  · refine Ends.step (fun _ k => XS.ifNo X159.here hx rfl (hb hby d10_70) rfl (XT.ll_ne_f hc70_160) k) ?_
    show Ends p e below QQ (T159.setTop (mkF m 73 #[.val (.ref o0), .val (.ref o1), .val (.int (0 : Int32)), .val (.int (1 : Int32)), .unset, .unset, .unset] []))
    refine Ends.step (fun _ k => XS.aloadN X159.here hx rfl (hb hby d10_73) rfl rfl k) ?_
    show Ends p e below QQ (T159.setTop (mkF m 74 #[.val (.ref o0), .val (.ref o1), .val (.int (0 : Int32)), .val (.int (1 : Int32)), .unset, .unset, .unset] [(.ref o0)]))
    obtain ⟨T161, X161, e161, st161⟩ := getF X159 hx hZ hown (host := "") (Or.inl (hw _ (List.mem_of_getElem? (i := 17) rfl))) Via.refl e159 F_max_o0 (g := (mkF m 74 #[.val (.ref o0), .val (.ref o1), .val (.int (0 : Int32)), .val (.int (1 : Int32)), .unset, .unset, .unset] [(.ref o0)])) rfl rfl (hb hby d10_74)
    refine Ends.step st161 ?_
    show Ends p e below QQ (T161.setTop (mkF m 77 #[.val (.ref o0), .val (.ref o1), .val (.int (0 : Int32)), .val (.int (1 : Int32)), .unset, .unset, .unset] [(.int mx)]))
    refine Ends.step (fun _ k => XT.i2l X161.here hx rfl (hb hby d10_77) rfl k) ?_
    show Ends p e below QQ (T161.setTop (mkF m 78 #[.val (.ref o0), .val (.ref o1), .val (.int (0 : Int32)), .val (.int (1 : Int32)), .unset, .unset, .unset] [(.long mx.toInt64)]))
    refine Ends.step (fun _ k => XT.lconstV X161.here hx rfl (1 : Int64) (hb hby d10_78) rfl k) ?_
    show Ends p e below QQ (T161.setTop (mkF m 79 #[.val (.ref o0), .val (.ref o1), .val (.int (0 : Int32)), .val (.int (1 : Int32)), .unset, .unset, .unset] [(.long (1 : Int64)), (.long mx.toInt64)]))
    refine Ends.step (fun _ k => XT.ladd X161.here hx rfl (hb hby d10_79) rfl k) ?_
    show Ends p e below QQ (T161.setTop (mkF m 80 #[.val (.ref o0), .val (.ref o1), .val (.int (0 : Int32)), .val (.int (1 : Int32)), .unset, .unset, .unset] [(.long (mx.toInt64 + (1 : Int64)))]))
    refine Ends.step (fun _ k => XS.goto X161.here hx rfl (pc0 := 80) (pc' := 87) rfl (hb hby d10_80) (by decide) (by decide) k) ?_
    show Ends p e below QQ (T161.setTop (mkF m 87 #[.val (.ref o0), .val (.ref o1), .val (.int (0 : Int32)), .val (.int (1 : Int32)), .unset, .unset, .unset] [(.long (mx.toInt64 + (1 : Int64)))]))
    refine Ends.step (fun _ k => XT.lstore X161.here hx rfl (hb hby d10_87) rfl (l' := #[.val (.ref o0), .val (.ref o1), .val (.int (0 : Int32)), .val (.int (1 : Int32)), .val (.long (mx.toInt64 + (1 : Int64))), .second, .unset]) rfl k) ?_
    show Ends p e below QQ (T161.setTop (mkF m 89 #[.val (.ref o0), .val (.ref o1), .val (.int (0 : Int32)), .val (.int (1 : Int32)), .val (.long (mx.toInt64 + (1 : Int64))), .second, .unset] []))
    refine Ends.step (fun _ k => XS.iloadN X161.here hx rfl (hb hby d10_89) rfl k) ?_
    show Ends p e below QQ (T161.setTop (mkF m 90 #[.val (.ref o0), .val (.ref o1), .val (.int (0 : Int32)), .val (.int (1 : Int32)), .val (.long (mx.toInt64 + (1 : Int64))), .second, .unset] [(.int (1 : Int32))]))
    refine Ends.step (fun _ k => XT.i2l X161.here hx rfl (hb hby d10_90) rfl k) ?_
    show Ends p e below QQ (T161.setTop (mkF m 91 #[.val (.ref o0), .val (.ref o1), .val (.int (0 : Int32)), .val (.int (1 : Int32)), .val (.long (mx.toInt64 + (1 : Int64))), .second, .unset] [(.long (1 : Int64))]))
    refine Ends.step (fun _ k => XT.lload X161.here hx rfl (hb hby d10_91) rfl k) ?_
    show Ends p e below QQ (T161.setTop (mkF m 93 #[.val (.ref o0), .val (.ref o1), .val (.int (0 : Int32)), .val (.int (1 : Int32)), .val (.long (mx.toInt64 + (1 : Int64))), .second, .unset] [(.long (mx.toInt64 + (1 : Int64))), (.long (1 : Int64))]))
    refine Ends.step (fun _ k => XS.aloadN X161.here hx rfl (hb hby d10_93) rfl rfl k) ?_
    show Ends p e below QQ (T161.setTop (mkF m 94 #[.val (.ref o0), .val (.ref o1), .val (.int (0 : Int32)), .val (.int (1 : Int32)), .val (.long (mx.toInt64 + (1 : Int64))), .second, .unset] [(.ref o0), (.long (mx.toInt64 + (1 : Int64))), (.long (1 : Int64))]))
    obtain ⟨T162, X162, e162, st162⟩ := getF X161 hx hZ hown (host := "") (Or.inl (hw _ (List.mem_of_getElem? (i := 105) rfl))) Via.refl e161 F_dataLength_o0 (g := (mkF m 94 #[.val (.ref o0), .val (.ref o1), .val (.int (0 : Int32)), .val (.int (1 : Int32)), .val (.long (mx.toInt64 + (1 : Int64))), .second, .unset] [(.ref o0), (.long (mx.toInt64 + (1 : Int64))), (.long (1 : Int64))])) rfl rfl (hb hby d10_94)
    refine Ends.step st162 ?_
    show Ends p e below QQ (T162.setTop (mkF m 97 #[.val (.ref o0), .val (.ref o1), .val (.int (0 : Int32)), .val (.int (1 : Int32)), .val (.long (mx.toInt64 + (1 : Int64))), .second, .unset] [(.int (0 : Int32)), (.long (mx.toInt64 + (1 : Int64))), (.long (1 : Int64))]))
    refine Ends.step (fun _ k => XT.i2l X162.here hx rfl (hb hby d10_97) rfl k) ?_
    show Ends p e below QQ (T162.setTop (mkF m 98 #[.val (.ref o0), .val (.ref o1), .val (.int (0 : Int32)), .val (.int (1 : Int32)), .val (.long (mx.toInt64 + (1 : Int64))), .second, .unset] [(.long (0 : Int64)), (.long (mx.toInt64 + (1 : Int64))), (.long (1 : Int64))]))
    refine Ends.step (fun _ k => XT.lsub X162.here hx rfl (hb hby d10_98) rfl k) ?_
    show Ends p e below QQ (T162.setTop (mkF m 99 #[.val (.ref o0), .val (.ref o1), .val (.int (0 : Int32)), .val (.int (1 : Int32)), .val (.long (mx.toInt64 + (1 : Int64))), .second, .unset] [(.long ((mx.toInt64 + (1 : Int64)) - (0 : Int64))), (.long (1 : Int64))]))
    obtain ⟨_, _, ⟨T163, L163, k163, n163⟩, -, X163, ⟨Lc163, hQ163, l163, y163, z163⟩, st163⟩ := Jvm.LawKit.callS X162 hx (y := (⟨"java/lang/Math", "min", "(JJ)J"⟩ : MethodName)) hown (mvT hZ (hw _ (List.mem_of_getElem? (i := 107) rfl))) (mvT hZ (hw _ (List.mem_of_getElem? (i := 108) rfl))) (mvT hZ (hw _ (List.mem_of_getElem? (i := 109) rfl))) (mvT hZ (hw _ (List.mem_of_getElem? (i := 110) rfl))) (by decide) (backOf (W := 0) (rmmna l Z a0 hw [] (1 : Int64) ((mx.toInt64 + (1 : Int64)) - (0 : Int64)) h0 n0 (Nat.le_trans Z0 (Keep.refl h0 [o0]).1) (own_lim1 (own_mx hx0))) hZ (hw _ (List.mem_of_getElem? (i := 110) rfl)) (hw _ (List.mem_of_getElem? (i := 109) rfl)) (by decide) (by decide)) (g := (mkF m 99 #[.val (.ref o0), .val (.ref o1), .val (.int (0 : Int32)), .val (.int (1 : Int32)), .val (.long (mx.toInt64 + (1 : Int64))), .second, .unset] [(.long ((mx.toInt64 + (1 : Int64)) - (0 : Int64))), (.long (1 : Int64))])) rfl (by rw [hml]; rfl) (argsL := [(.long (1 : Int64)), (.long ((mx.toInt64 + (1 : Int64)) - (0 : Int64)))]) (rest := []) (lenOf pd_3 rfl) rfl (by show 2 * 0 + _ ≤ _; exact Nat.le_of_eq rfl) (hb hby d10_99) (fun _ _ => ⟨rfl, e162, (by decide : 0 + 0 ≤ _), (by decide : 0 + 0 ≤ _)⟩)
    dsimp only [Pt.U, Pt.locs, Pt.cells, Pt.slots] at X163 l163 y163 z163 st163 hQ163
    subst l163 y163 z163
    obtain ⟨rfl, Nq163, hh163⟩ := hQ163
    have N163 := Fr.app N0 Nq163
    refine Ends.step st163 ?_
    show Ends p e below QQ (T163.setTop (mkF m 102 #[.val (.ref o0), .val (.ref o1), .val (.int (0 : Int32)), .val (.int (1 : Int32)), .val (.long (mx.toInt64 + (1 : Int64))), .second, .unset] [(.long (1 : Int64))]))
    refine Ends.step (fun _ k => XT.l2i X163.here hx rfl (hb hby d10_102) rfl k) ?_
    show Ends p e below QQ (T163.setTop (mkF m 103 #[.val (.ref o0), .val (.ref o1), .val (.int (0 : Int32)), .val (.int (1 : Int32)), .val (.long (mx.toInt64 + (1 : Int64))), .second, .unset] [(.int (1 : Int32))]))
    refine Ends.step (fun _ k => XS.istore X163.here hx rfl (hb hby d10_103) rfl (l' := #[.val (.ref o0), .val (.ref o1), .val (.int (0 : Int32)), .val (.int (1 : Int32)), .val (.long (mx.toInt64 + (1 : Int64))), .second, .val (.int (1 : Int32))]) rfl k) ?_
    show Ends p e below QQ (T163.setTop (mkF m 105 #[.val (.ref o0), .val (.ref o1), .val (.int (0 : Int32)), .val (.int (1 : Int32)), .val (.long (mx.toInt64 + (1 : Int64))), .second, .val (.int (1 : Int32))] []))
    refine Ends.step (fun _ k => XS.aloadN X163.here hx rfl (hb hby d10_105) rfl rfl k) ?_
    show Ends p e below QQ (T163.setTop (mkF m 106 #[.val (.ref o0), .val (.ref o1), .val (.int (0 : Int32)), .val (.int (1 : Int32)), .val (.long (mx.toInt64 + (1 : Int64))), .second, .val (.int (1 : Int32))] [(.ref o0)]))
    refine Ends.step (fun _ k => XS.aloadN X163.here hx rfl (hb hby d10_106) rfl rfl k) ?_
    show Ends p e below QQ (T163.setTop (mkF m 107 #[.val (.ref o0), .val (.ref o1), .val (.int (0 : Int32)), .val (.int (1 : Int32)), .val (.long (mx.toInt64 + (1 : Int64))), .second, .val (.int (1 : Int32))] [(.ref o0), (.ref o0)]))
    obtain ⟨T164, X164, e164, st164⟩ := getF X163 hx hZ hown (host := "") (Or.inl (hw _ (List.mem_of_getElem? (i := 13) rfl))) Via.refl hh163 F_data_o0 (g := (mkF m 107 #[.val (.ref o0), .val (.ref o1), .val (.int (0 : Int32)), .val (.int (1 : Int32)), .val (.long (mx.toInt64 + (1 : Int64))), .second, .val (.int (1 : Int32))] [(.ref o0), (.ref o0)])) rfl rfl (hb hby d10_107)
    refine Ends.step st164 ?_
    show Ends p e below QQ (T164.setTop (mkF m 110 #[.val (.ref o0), .val (.ref o1), .val (.int (0 : Int32)), .val (.int (1 : Int32)), .val (.long (mx.toInt64 + (1 : Int64))), .second, .val (.int (1 : Int32))] [(.ref a_NONE), (.ref o0)]))
    refine Ends.step (fun _ k => XS.aloadN X164.here hx rfl (hb hby d10_110) rfl rfl k) ?_
    show Ends p e below QQ (T164.setTop (mkF m 111 #[.val (.ref o0), .val (.ref o1), .val (.int (0 : Int32)), .val (.int (1 : Int32)), .val (.long (mx.toInt64 + (1 : Int64))), .second, .val (.int (1 : Int32))] [(.ref o0), (.ref a_NONE), (.ref o0)]))
    obtain ⟨T165, X165, e165, st165⟩ := getF X164 hx hZ hown (host := "") (Or.inl (hw _ (List.mem_of_getElem? (i := 105) rfl))) Via.refl e164 F_dataLength_o0 (g := (mkF m 111 #[.val (.ref o0), .val (.ref o1), .val (.int (0 : Int32)), .val (.int (1 : Int32)), .val (.long (mx.toInt64 + (1 : Int64))), .second, .val (.int (1 : Int32))] [(.ref o0), (.ref a_NONE), (.ref o0)])) rfl rfl (hb hby d10_111)
    refine Ends.step st165 ?_
    show Ends p e below QQ (T165.setTop (mkF m 114 #[.val (.ref o0), .val (.ref o1), .val (.int (0 : Int32)), .val (.int (1 : Int32)), .val (.long (mx.toInt64 + (1 : Int64))), .second, .val (.int (1 : Int32))] [(.int (0 : Int32)), (.ref a_NONE), (.ref o0)]))
    refine Ends.step (fun _ k => XS.iload X165.here hx rfl (hb hby d10_114) rfl k) ?_
    show Ends p e below QQ (T165.setTop (mkF m 116 #[.val (.ref o0), .val (.ref o1), .val (.int (0 : Int32)), .val (.int (1 : Int32)), .val (.long (mx.toInt64 + (1 : Int64))), .second, .val (.int (1 : Int32))] [(.int (1 : Int32)), (.int (0 : Int32)), (.ref a_NONE), (.ref o0)]))
    refine Ends.step (fun _ k => XS.iadd X165.here hx rfl (hb hby d10_116) rfl k) ?_
    show Ends p e below QQ (T165.setTop (mkF m 117 #[.val (.ref o0), .val (.ref o1), .val (.int (0 : Int32)), .val (.int (1 : Int32)), .val (.long (mx.toInt64 + (1 : Int64))), .second, .val (.int (1 : Int32))] [(.int (1 : Int32)), (.ref a_NONE), (.ref o0)]))
    refine Ends.step (fun _ k => XT.lload X165.here hx rfl (hb hby d10_117) rfl k) ?_
    show Ends p e below QQ (T165.setTop (mkF m 119 #[.val (.ref o0), .val (.ref o1), .val (.int (0 : Int32)), .val (.int (1 : Int32)), .val (.long (mx.toInt64 + (1 : Int64))), .second, .val (.int (1 : Int32))] [(.long (mx.toInt64 + (1 : Int64))), (.int (1 : Int32)), (.ref a_NONE), (.ref o0)]))
    obtain ⟨_, _, ⟨T166, L166, k166, n166⟩, -, X166, ⟨Lc166, hQ166, l166, y166, z166⟩, st166⟩ := Jvm.LawKit.callS X165 hx (y := (⟨"com/example/gatehook/gatehook/http/IncomingBody", "grown", "([BIJ)[B"⟩ : MethodName)) hown (mvT hZ (hw _ (List.mem_of_getElem? (i := 111) rfl))) (mvT hZ (hw _ (List.mem_of_getElem? (i := 112) rfl))) (mvT hZ (hw _ (List.mem_of_getElem? (i := 4) rfl))) (mvT hZ (hw _ (List.mem_of_getElem? (i := 113) rfl))) (by decide) (backOf (W := 1) (rmg1 l Z a0 hw [] a_NONE (mx.toInt64 + (1 : Int64)) kn h0 n0 (Nat.le_trans Z0 (Keep.refl h0 [o0]).1) A_a_NONE (own_mx hx0)) hZ (hw _ (List.mem_of_getElem? (i := 113) rfl)) (hw _ (List.mem_of_getElem? (i := 4) rfl)) (by decide) (by decide)) (g := (mkF m 119 #[.val (.ref o0), .val (.ref o1), .val (.int (0 : Int32)), .val (.int (1 : Int32)), .val (.long (mx.toInt64 + (1 : Int64))), .second, .val (.int (1 : Int32))] [(.long (mx.toInt64 + (1 : Int64))), (.int (1 : Int32)), (.ref a_NONE), (.ref o0)])) rfl (by rw [hml]; rfl) (argsL := [(.ref a_NONE), (.int (1 : Int32)), (.long (mx.toInt64 + (1 : Int64)))]) (rest := [(.ref o0)]) (lenOf pd_12 rfl) rfl (by show 2 * 0 + _ ≤ _; exact Nat.le_of_eq rfl) (hb hby d10_119) (fun _ _ => ⟨rfl, e165, (by decide : 0 + 1 ≤ _), (by decide : 0 + 1 ≤ _)⟩)
    dsimp only [Pt.U, Pt.locs, Pt.cells, Pt.slots] at X166 l166 y166 z166 st166 hQ166
    subst l166 y166 z166
    obtain ⟨b_166, kb_166, rfl, Nq166, Kq166, fq166_0, fq166_1, fq166_2⟩ := hQ166
    have N166 := Fr.app N163 Nq166
    have ne_o0_b_166 : o0 ≠ b_166 := Nat.ne_of_lt (Nat.lt_of_lt_of_le E_o0.lt fq166_0)
    have ne_a_NONE_b_166 : a_NONE ≠ b_166 := Nat.ne_of_lt (Nat.lt_of_lt_of_le A_a_NONE.lt fq166_0)
    have ne_o1_b_166 : o1 ≠ b_166 := Nat.ne_of_lt (Nat.lt_of_lt_of_le A_o1.lt fq166_0)
    have sz_b_166 := Nat.le_trans (Keep.refl h0 [o0]).1 fq166_0
    have E_o0 := E_o0.keep Kq166
    have F_ended_o0 := F_ended_o0.keep Kq166 nin0
    have F_chunks_o0 := F_chunks_o0.keep Kq166 nin0
    have F_length_o0 := F_length_o0.keep Kq166 nin0
    have F_max_o0 := F_max_o0.keep Kq166 nin0
    have F_data_o0 := F_data_o0.keep Kq166 nin0
    have F_dataLength_o0 := F_dataLength_o0.keep Kq166 nin0
    have A_a_NONE := A_a_NONE.keep Kq166 nin0
    have A_o1 := A_o1.keep Kq166 nin0
    have g_b_166 := fq166_1
    have A_b_166 := fq166_2
    have K166 := (Keep.refl h0 [o0]).trans Kq166 all0
    refine Ends.step st166 ?_
    show Ends p e below QQ (T166.setTop (mkF m 122 #[.val (.ref o0), .val (.ref o1), .val (.int (0 : Int32)), .val (.int (1 : Int32)), .val (.long (mx.toInt64 + (1 : Int64))), .second, .val (.int (1 : Int32))] [(.ref b_166), (.ref o0)]))
    obtain ⟨T167, h167, X167, e167, W167, st167⟩ := putF X166 hx hZ hown (host := "") (Or.inl (hw _ (List.mem_of_getElem? (i := 13) rfl))) Via.refl rfl F_data_o0 E_o0 (Or.inl (hw _ (List.mem_of_getElem? (i := 14) rfl))) (hw _ (List.mem_of_getElem? (i := 3) rfl)) (ty := (.array .byte)) (by decide) rfl rfl (g := (mkF m 122 #[.val (.ref o0), .val (.ref o1), .val (.int (0 : Int32)), .val (.int (1 : Int32)), .val (.long (mx.toInt64 + (1 : Int64))), .second, .val (.int (1 : Int32))] [(.ref b_166), (.ref o0)])) rfl rfl (hb hby d10_122)
    have E_o0 := E_o0.wr W167
    have F_ended_o0 := F_ended_o0.other W167 (Or.inr (slot_ne (Or.inl (hw _ (List.mem_of_getElem? (i := 91) rfl))) (Or.inl (hw _ (List.mem_of_getElem? (i := 14) rfl))) (by decide) (t := .boolean) (t' := (.array .byte)) (by decide) (by decide)))
    have F_chunks_o0 := F_chunks_o0.other W167 (Or.inr (slot_ne (Or.inl (hw _ (List.mem_of_getElem? (i := 78) rfl))) (Or.inl (hw _ (List.mem_of_getElem? (i := 14) rfl))) (by decide) (t := (.object "com/example/gatehook/gatehook/http/ChunkedBody")) (t' := (.array .byte)) (by decide) (by decide)))
    have F_length_o0 := F_length_o0.other W167 (Or.inr (slot_ne (Or.inr (hw _ (List.mem_of_getElem? (i := 16) rfl))) (Or.inl (hw _ (List.mem_of_getElem? (i := 14) rfl))) (by decide) (t := .long) (t' := (.array .byte)) (by decide) (by decide)))
    have F_max_o0 := F_max_o0.other W167 (Or.inr (slot_ne (Or.inr (hw _ (List.mem_of_getElem? (i := 18) rfl))) (Or.inl (hw _ (List.mem_of_getElem? (i := 14) rfl))) (by decide) (t := .int) (t' := (.array .byte)) (by decide) (by decide)))
    have F_dataLength_o0 := F_dataLength_o0.other W167 (Or.inr (slot_ne (Or.inl (hw _ (List.mem_of_getElem? (i := 106) rfl))) (Or.inl (hw _ (List.mem_of_getElem? (i := 14) rfl))) (by decide) (t := .int) (t' := (.array .byte)) (by decide) (by decide)))
    have A_a_NONE := A_a_NONE.other W167 ne_a_NONE_o0
    have A_o1 := A_o1.other W167 ne_o1_o0
    have A_b_166 := A_b_166.other W167 (Ne.symm ne_o0_b_166)
    have F_data_o0 : Fld Z h167 o0 "com/example/gatehook/gatehook/http/IncomingBody" "data" "[B" (.ref b_166) := F_data_o0.same W167
    have K167 := K166.wr W167 (Or.inl (List.mem_of_getElem? (i := 0) rfl))
    have N167 := Fr.snoc X167 N166 g_o0
    refine Ends.step st167 ?_
    show Ends p e below QQ (T167.setTop (mkF m 125 #[.val (.ref o0), .val (.ref o1), .val (.int (0 : Int32)), .val (.int (1 : Int32)), .val (.long (mx.toInt64 + (1 : Int64))), .second, .val (.int (1 : Int32))] []))
    refine Ends.step (fun _ k => XS.aloadN X167.here hx rfl (hb hby d10_125) rfl rfl k) ?_
    show Ends p e below QQ (T167.setTop (mkF m 126 #[.val (.ref o0), .val (.ref o1), .val (.int (0 : Int32)), .val (.int (1 : Int32)), .val (.long (mx.toInt64 + (1 : Int64))), .second, .val (.int (1 : Int32))] [(.ref o1)]))
    refine Ends.step (fun _ k => XS.iloadN X167.here hx rfl (hb hby d10_126) rfl k) ?_
    show Ends p e below QQ (T167.setTop (mkF m 127 #[.val (.ref o0), .val (.ref o1), .val (.int (0 : Int32)), .val (.int (1 : Int32)), .val (.long (mx.toInt64 + (1 : Int64))), .second, .val (.int (1 : Int32))] [(.int (0 : Int32)), (.ref o1)]))
    refine Ends.step (fun _ k => XS.aloadN X167.here hx rfl (hb hby d10_127) rfl rfl k) ?_
    show Ends p e below QQ (T167.setTop (mkF m 128 #[.val (.ref o0), .val (.ref o1), .val (.int (0 : Int32)), .val (.int (1 : Int32)), .val (.long (mx.toInt64 + (1 : Int64))), .second, .val (.int (1 : Int32))] [(.ref o0), (.int (0 : Int32)), (.ref o1)]))
    obtain ⟨T168, X168, e168, st168⟩ := getF X167 hx hZ hown (host := "") (Or.inl (hw _ (List.mem_of_getElem? (i := 13) rfl))) Via.refl e167 F_data_o0 (g := (mkF m 128 #[.val (.ref o0), .val (.ref o1), .val (.int (0 : Int32)), .val (.int (1 : Int32)), .val (.long (mx.toInt64 + (1 : Int64))), .second, .val (.int (1 : Int32))] [(.ref o0), (.int (0 : Int32)), (.ref o1)])) rfl rfl (hb hby d10_128)
    refine Ends.step st168 ?_
    show Ends p e below QQ (T168.setTop (mkF m 131 #[.val (.ref o0), .val (.ref o1), .val (.int (0 : Int32)), .val (.int (1 : Int32)), .val (.long (mx.toInt64 + (1 : Int64))), .second, .val (.int (1 : Int32))] [(.ref b_166), (.int (0 : Int32)), (.ref o1)]))
    refine Ends.step (fun _ k => XS.aloadN X168.here hx rfl (hb hby d10_131) rfl rfl k) ?_
    show Ends p e below QQ (T168.setTop (mkF m 132 #[.val (.ref o0), .val (.ref o1), .val (.int (0 : Int32)), .val (.int (1 : Int32)), .val (.long (mx.toInt64 + (1 : Int64))), .second, .val (.int (1 : Int32))] [(.ref o0), (.ref b_166), (.int (0 : Int32)), (.ref o1)]))
    obtain ⟨T169, X169, e169, st169⟩ := getF X168 hx hZ hown (host := "") (Or.inl (hw _ (List.mem_of_getElem? (i := 105) rfl))) Via.refl e168 F_dataLength_o0 (g := (mkF m 132 #[.val (.ref o0), .val (.ref o1), .val (.int (0 : Int32)), .val (.int (1 : Int32)), .val (.long (mx.toInt64 + (1 : Int64))), .second, .val (.int (1 : Int32))] [(.ref o0), (.ref b_166), (.int (0 : Int32)), (.ref o1)])) rfl rfl (hb hby d10_132)
    refine Ends.step st169 ?_
    show Ends p e below QQ (T169.setTop (mkF m 135 #[.val (.ref o0), .val (.ref o1), .val (.int (0 : Int32)), .val (.int (1 : Int32)), .val (.long (mx.toInt64 + (1 : Int64))), .second, .val (.int (1 : Int32))] [(.int (0 : Int32)), (.ref b_166), (.int (0 : Int32)), (.ref o1)]))
    refine Ends.step (fun _ k => XS.iload X169.here hx rfl (hb hby d10_135) rfl k) ?_
    show Ends p e below QQ (T169.setTop (mkF m 137 #[.val (.ref o0), .val (.ref o1), .val (.int (0 : Int32)), .val (.int (1 : Int32)), .val (.long (mx.toInt64 + (1 : Int64))), .second, .val (.int (1 : Int32))] [(.int (1 : Int32)), (.int (0 : Int32)), (.ref b_166), (.int (0 : Int32)), (.ref o1)]))
    obtain ⟨T170, h170, L170, X170, e170, N170, Kq170, AA170, st170⟩ := cpA X169 hx hZ hown (hw _ (List.mem_of_getElem? (i := 114) rfl)) (hw _ (List.mem_of_getElem? (i := 117) rfl)) (hw _ (List.mem_of_getElem? (i := 115) rfl)) (hw _ (List.mem_of_getElem? (i := 116) rfl)) e169 A_o1 A_b_166 (Or.inl ⟨rfl, rfl⟩) (by decide) (by decide) (by decide) (by decide) (by decide) (us := [(.int bv)]) (by rfl) (by decide) N167 g_b_166 (g := (mkF m 137 #[.val (.ref o0), .val (.ref o1), .val (.int (0 : Int32)), .val (.int (1 : Int32)), .val (.long (mx.toInt64 + (1 : Int64))), .second, .val (.int (1 : Int32))] [(.int (1 : Int32)), (.int (0 : Int32)), (.ref b_166), (.int (0 : Int32)), (.ref o1)])) rfl (by rw [hml]; rfl) rfl (hb hby d10_137) (by decide) (W := 0) (by show 2 * 0 + _ ≤ _; exact Nat.le_of_eq rfl) (by decide)
    have E_o0 := E_o0.keep Kq170
    have F_ended_o0 := F_ended_o0.keep Kq170 (ninS ne_o0_b_166 nin0)
    have F_chunks_o0 := F_chunks_o0.keep Kq170 (ninS ne_o0_b_166 nin0)
    have F_length_o0 := F_length_o0.keep Kq170 (ninS ne_o0_b_166 nin0)
    have F_max_o0 := F_max_o0.keep Kq170 (ninS ne_o0_b_166 nin0)
    have F_data_o0 := F_data_o0.keep Kq170 (ninS ne_o0_b_166 nin0)
    have F_dataLength_o0 := F_dataLength_o0.keep Kq170 (ninS ne_o0_b_166 nin0)
    have A_a_NONE := A_a_NONE.keep Kq170 (ninS ne_a_NONE_b_166 nin0)
    have A_o1 := A_o1.keep Kq170 (ninS ne_o1_b_166 nin0)
    have A_b_166 : Arv Z h170 b_166 kb_166 .byte (1 : Int32) [(.int bv)] (.int (0 : Int32)) := AA170
    have K170 := K167.trans Kq170 (allS (Or.inr sz_b_166) all0)
    refine Ends.step st170 ?_
    show Ends p e below QQ (T170.setTop (mkF m 140 #[.val (.ref o0), .val (.ref o1), .val (.int (0 : Int32)), .val (.int (1 : Int32)), .val (.long (mx.toInt64 + (1 : Int64))), .second, .val (.int (1 : Int32))] []))
    refine Ends.step (fun _ k => XS.aloadN X170.here hx rfl (hb hby d10_140) rfl rfl k) ?_
    show Ends p e below QQ (T170.setTop (mkF m 141 #[.val (.ref o0), .val (.ref o1), .val (.int (0 : Int32)), .val (.int (1 : Int32)), .val (.long (mx.toInt64 + (1 : Int64))), .second, .val (.int (1 : Int32))] [(.ref o0)]))
    refine Ends.step (fun _ k => XS.dup X170.here hx rfl (hb hby d10_141) rfl rfl k) ?_
    show Ends p e below QQ (T170.setTop (mkF m 142 #[.val (.ref o0), .val (.ref o1), .val (.int (0 : Int32)), .val (.int (1 : Int32)), .val (.long (mx.toInt64 + (1 : Int64))), .second, .val (.int (1 : Int32))] [(.ref o0), (.ref o0)]))
    obtain ⟨T171, X171, e171, st171⟩ := getF X170 hx hZ hown (host := "") (Or.inl (hw _ (List.mem_of_getElem? (i := 105) rfl))) Via.refl e170 F_dataLength_o0 (g := (mkF m 142 #[.val (.ref o0), .val (.ref o1), .val (.int (0 : Int32)), .val (.int (1 : Int32)), .val (.long (mx.toInt64 + (1 : Int64))), .second, .val (.int (1 : Int32))] [(.ref o0), (.ref o0)])) rfl rfl (hb hby d10_142)
    refine Ends.step st171 ?_
    show Ends p e below QQ (T171.setTop (mkF m 145 #[.val (.ref o0), .val (.ref o1), .val (.int (0 : Int32)), .val (.int (1 : Int32)), .val (.long (mx.toInt64 + (1 : Int64))), .second, .val (.int (1 : Int32))] [(.int (0 : Int32)), (.ref o0)]))
    refine Ends.step (fun _ k => XS.iload X171.here hx rfl (hb hby d10_145) rfl k) ?_
    show Ends p e below QQ (T171.setTop (mkF m 147 #[.val (.ref o0), .val (.ref o1), .val (.int (0 : Int32)), .val (.int (1 : Int32)), .val (.long (mx.toInt64 + (1 : Int64))), .second, .val (.int (1 : Int32))] [(.int (1 : Int32)), (.int (0 : Int32)), (.ref o0)]))
    refine Ends.step (fun _ k => XS.iadd X171.here hx rfl (hb hby d10_147) rfl k) ?_
    show Ends p e below QQ (T171.setTop (mkF m 148 #[.val (.ref o0), .val (.ref o1), .val (.int (0 : Int32)), .val (.int (1 : Int32)), .val (.long (mx.toInt64 + (1 : Int64))), .second, .val (.int (1 : Int32))] [(.int (1 : Int32)), (.ref o0)]))
    obtain ⟨T172, h172, X172, e172, W172, st172⟩ := putF X171 hx hZ hown (host := "") (Or.inl (hw _ (List.mem_of_getElem? (i := 105) rfl))) Via.refl e171 F_dataLength_o0 E_o0 (Or.inl (hw _ (List.mem_of_getElem? (i := 106) rfl))) (hw _ (List.mem_of_getElem? (i := 3) rfl)) (ty := .int) (by decide) rfl rfl (g := (mkF m 148 #[.val (.ref o0), .val (.ref o1), .val (.int (0 : Int32)), .val (.int (1 : Int32)), .val (.long (mx.toInt64 + (1 : Int64))), .second, .val (.int (1 : Int32))] [(.int (1 : Int32)), (.ref o0)])) rfl rfl (hb hby d10_148)
    have E_o0 := E_o0.wr W172
    have F_ended_o0 := F_ended_o0.other W172 (Or.inr (slot_ne (Or.inl (hw _ (List.mem_of_getElem? (i := 91) rfl))) (Or.inl (hw _ (List.mem_of_getElem? (i := 106) rfl))) (by decide) (t := .boolean) (t' := .int) (by decide) (by decide)))
    have F_chunks_o0 := F_chunks_o0.other W172 (Or.inr (slot_ne (Or.inl (hw _ (List.mem_of_getElem? (i := 78) rfl))) (Or.inl (hw _ (List.mem_of_getElem? (i := 106) rfl))) (by decide) (t := (.object "com/example/gatehook/gatehook/http/ChunkedBody")) (t' := .int) (by decide) (by decide)))
    have F_length_o0 := F_length_o0.other W172 (Or.inr (slot_ne (Or.inr (hw _ (List.mem_of_getElem? (i := 16) rfl))) (Or.inl (hw _ (List.mem_of_getElem? (i := 106) rfl))) (by decide) (t := .long) (t' := .int) (by decide) (by decide)))
    have F_max_o0 := F_max_o0.other W172 (Or.inr (slot_ne (Or.inr (hw _ (List.mem_of_getElem? (i := 18) rfl))) (Or.inl (hw _ (List.mem_of_getElem? (i := 106) rfl))) (by decide) (t := .int) (t' := .int) (by decide) (by decide)))
    have F_data_o0 := F_data_o0.other W172 (Or.inr (slot_ne (Or.inl (hw _ (List.mem_of_getElem? (i := 14) rfl))) (Or.inl (hw _ (List.mem_of_getElem? (i := 106) rfl))) (by decide) (t := (.array .byte)) (t' := .int) (by decide) (by decide)))
    have A_a_NONE := A_a_NONE.other W172 ne_a_NONE_o0
    have A_o1 := A_o1.other W172 ne_o1_o0
    have A_b_166 := A_b_166.other W172 (Ne.symm ne_o0_b_166)
    have F_dataLength_o0 : Fld Z h172 o0 "com/example/gatehook/gatehook/http/IncomingBody" "dataLength" "I" (.int (1 : Int32)) := F_dataLength_o0.same W172
    have K172 := K170.wr W172 (Or.inl (List.mem_of_getElem? (i := 0) rfl))
    have N172 := Fr.snoc X172 N170 g_o0
    refine Ends.step st172 ?_
    show Ends p e below QQ (T172.setTop (mkF m 151 #[.val (.ref o0), .val (.ref o1), .val (.int (0 : Int32)), .val (.int (1 : Int32)), .val (.long (mx.toInt64 + (1 : Int64))), .second, .val (.int (1 : Int32))] []))
    refine Ends.step (fun _ k => XS.aloadN X172.here hx rfl (hb hby d10_151) rfl rfl k) ?_
    show Ends p e below QQ (T172.setTop (mkF m 152 #[.val (.ref o0), .val (.ref o1), .val (.int (0 : Int32)), .val (.int (1 : Int32)), .val (.long (mx.toInt64 + (1 : Int64))), .second, .val (.int (1 : Int32))] [(.ref o0)]))
    obtain ⟨T173, X173, e173, st173⟩ := getF X172 hx hZ hown (host := "") (Or.inl (hw _ (List.mem_of_getElem? (i := 105) rfl))) Via.refl e172 F_dataLength_o0 (g := (mkF m 152 #[.val (.ref o0), .val (.ref o1), .val (.int (0 : Int32)), .val (.int (1 : Int32)), .val (.long (mx.toInt64 + (1 : Int64))), .second, .val (.int (1 : Int32))] [(.ref o0)])) rfl rfl (hb hby d10_152)
    refine Ends.step st173 ?_
    show Ends p e below QQ (T173.setTop (mkF m 155 #[.val (.ref o0), .val (.ref o1), .val (.int (0 : Int32)), .val (.int (1 : Int32)), .val (.long (mx.toInt64 + (1 : Int64))), .second, .val (.int (1 : Int32))] [(.int (1 : Int32))]))
    refine Ends.step (fun _ k => XS.aloadN X173.here hx rfl (hb hby d10_155) rfl rfl k) ?_
    show Ends p e below QQ (T173.setTop (mkF m 156 #[.val (.ref o0), .val (.ref o1), .val (.int (0 : Int32)), .val (.int (1 : Int32)), .val (.long (mx.toInt64 + (1 : Int64))), .second, .val (.int (1 : Int32))] [(.ref o0), (.int (1 : Int32))]))
    obtain ⟨T174, X174, e174, st174⟩ := getF X173 hx hZ hown (host := "") (Or.inl (hw _ (List.mem_of_getElem? (i := 17) rfl))) Via.refl e173 F_max_o0 (g := (mkF m 156 #[.val (.ref o0), .val (.ref o1), .val (.int (0 : Int32)), .val (.int (1 : Int32)), .val (.long (mx.toInt64 + (1 : Int64))), .second, .val (.int (1 : Int32))] [(.ref o0), (.int (1 : Int32))])) rfl rfl (hb hby d10_156)
    refine Ends.step st174 ?_
    show Ends p e below QQ (T174.setTop (mkF m 159 #[.val (.ref o0), .val (.ref o1), .val (.int (0 : Int32)), .val (.int (1 : Int32)), .val (.long (mx.toInt64 + (1 : Int64))), .second, .val (.int (1 : Int32))] [(.int mx), (.int (1 : Int32))]))
    by_cases hc159_175 : mx < (1 : Int32)
    · refine Ends.step (fun _ k => XS.icmpNo X174.here hx rfl (hb hby d10_159) rfl (XT.ii_le_f hc159_175) k) ?_
      show Ends p e below QQ (T174.setTop (mkF m 162 #[.val (.ref o0), .val (.ref o1), .val (.int (0 : Int32)), .val (.int (1 : Int32)), .val (.long (mx.toInt64 + (1 : Int64))), .second, .val (.int (1 : Int32))] []))
      refine Ends.step (fun _ k => XS.aloadN X174.here hx rfl (hb hby d10_162) rfl rfl k) ?_
      show Ends p e below QQ (T174.setTop (mkF m 163 #[.val (.ref o0), .val (.ref o1), .val (.int (0 : Int32)), .val (.int (1 : Int32)), .val (.long (mx.toInt64 + (1 : Int64))), .second, .val (.int (1 : Int32))] [(.ref o0)]))
      refine Ends.step (fun _ k => XS.aconstNull X174.here hx rfl (hb hby d10_163) k) ?_
      show Ends p e below QQ (T174.setTop (mkF m 164 #[.val (.ref o0), .val (.ref o1), .val (.int (0 : Int32)), .val (.int (1 : Int32)), .val (.long (mx.toInt64 + (1 : Int64))), .second, .val (.int (1 : Int32))] [.null, (.ref o0)]))
      obtain ⟨T176, h176, X176, e176, W176, st176⟩ := putF X174 hx hZ hown (host := "") (Or.inl (hw _ (List.mem_of_getElem? (i := 13) rfl))) Via.refl e174 F_data_o0 E_o0 (Or.inl (hw _ (List.mem_of_getElem? (i := 14) rfl))) (hw _ (List.mem_of_getElem? (i := 3) rfl)) (ty := (.array .byte)) (by decide) rfl rfl (g := (mkF m 164 #[.val (.ref o0), .val (.ref o1), .val (.int (0 : Int32)), .val (.int (1 : Int32)), .val (.long (mx.toInt64 + (1 : Int64))), .second, .val (.int (1 : Int32))] [.null, (.ref o0)])) rfl rfl (hb hby d10_164)
      have E_o0 := E_o0.wr W176
      have F_ended_o0 := F_ended_o0.other W176 (Or.inr (slot_ne (Or.inl (hw _ (List.mem_of_getElem? (i := 91) rfl))) (Or.inl (hw _ (List.mem_of_getElem? (i := 14) rfl))) (by decide) (t := .boolean) (t' := (.array .byte)) (by decide) (by decide)))
      have F_chunks_o0 := F_chunks_o0.other W176 (Or.inr (slot_ne (Or.inl (hw _ (List.mem_of_getElem? (i := 78) rfl))) (Or.inl (hw _ (List.mem_of_getElem? (i := 14) rfl))) (by decide) (t := (.object "com/example/gatehook/gatehook/http/ChunkedBody")) (t' := (.array .byte)) (by decide) (by decide)))
      have F_length_o0 := F_length_o0.other W176 (Or.inr (slot_ne (Or.inr (hw _ (List.mem_of_getElem? (i := 16) rfl))) (Or.inl (hw _ (List.mem_of_getElem? (i := 14) rfl))) (by decide) (t := .long) (t' := (.array .byte)) (by decide) (by decide)))
      have F_max_o0 := F_max_o0.other W176 (Or.inr (slot_ne (Or.inr (hw _ (List.mem_of_getElem? (i := 18) rfl))) (Or.inl (hw _ (List.mem_of_getElem? (i := 14) rfl))) (by decide) (t := .int) (t' := (.array .byte)) (by decide) (by decide)))
      have F_dataLength_o0 := F_dataLength_o0.other W176 (Or.inr (slot_ne (Or.inl (hw _ (List.mem_of_getElem? (i := 106) rfl))) (Or.inl (hw _ (List.mem_of_getElem? (i := 14) rfl))) (by decide) (t := .int) (t' := (.array .byte)) (by decide) (by decide)))
      have A_a_NONE := A_a_NONE.other W176 ne_a_NONE_o0
      have A_o1 := A_o1.other W176 ne_o1_o0
      have A_b_166 := A_b_166.other W176 (Ne.symm ne_o0_b_166)
      have F_data_o0 : Fld Z h176 o0 "com/example/gatehook/gatehook/http/IncomingBody" "data" "[B" .null := F_data_o0.same W176
      have K176 := K172.wr W176 (Or.inl (List.mem_of_getElem? (i := 0) rfl))
      have N176 := Fr.snoc X176 N172 g_o0
      refine Ends.step st176 ?_
      show Ends p e below QQ (T176.setTop (mkF m 167 #[.val (.ref o0), .val (.ref o1), .val (.int (0 : Int32)), .val (.int (1 : Int32)), .val (.long (mx.toInt64 + (1 : Int64))), .second, .val (.int (1 : Int32))] []))
      refine Ends.step (fun _ k => XS.aloadN X176.here hx rfl (hb hby d10_167) rfl rfl k) ?_
      show Ends p e below QQ (T176.setTop (mkF m 168 #[.val (.ref o0), .val (.ref o1), .val (.int (0 : Int32)), .val (.int (1 : Int32)), .val (.long (mx.toInt64 + (1 : Int64))), .second, .val (.int (1 : Int32))] [(.ref o0)]))
      refine Ends.step (fun _ k => XT.iconstV X176.here hx rfl (1 : Int32) (hb hby d10_168) rfl k) ?_
      show Ends p e below QQ (T176.setTop (mkF m 169 #[.val (.ref o0), .val (.ref o1), .val (.int (0 : Int32)), .val (.int (1 : Int32)), .val (.long (mx.toInt64 + (1 : Int64))), .second, .val (.int (1 : Int32))] [(.int (1 : Int32)), (.ref o0)]))
      obtain ⟨T177, h177, X177, e177, W177, st177⟩ := putFN X176 hx hZ hown (hw _ (List.mem_of_getElem? (i := 90) rfl)) Via.refl e176 F_ended_o0 E_o0 (Or.inl (hw _ (List.mem_of_getElem? (i := 91) rfl))) (hw _ (List.mem_of_getElem? (i := 3) rfl)) (ty := .boolean) (v' := (.int (1 : Int32))) (by decide) rfl rfl (g := (mkF m 169 #[.val (.ref o0), .val (.ref o1), .val (.int (0 : Int32)), .val (.int (1 : Int32)), .val (.long (mx.toInt64 + (1 : Int64))), .second, .val (.int (1 : Int32))] [(.int (1 : Int32)), (.ref o0)])) rfl rfl (hb hby d10_169)
      have E_o0 := E_o0.wr W177
      have F_chunks_o0 := F_chunks_o0.other W177 (Or.inr (slot_ne (Or.inl (hw _ (List.mem_of_getElem? (i := 78) rfl))) (Or.inl (hw _ (List.mem_of_getElem? (i := 91) rfl))) (by decide) (t := (.object "com/example/gatehook/gatehook/http/ChunkedBody")) (t' := .boolean) (by decide) (by decide)))
      have F_length_o0 := F_length_o0.other W177 (Or.inr (slot_ne (Or.inr (hw _ (List.mem_of_getElem? (i := 16) rfl))) (Or.inl (hw _ (List.mem_of_getElem? (i := 91) rfl))) (by decide) (t := .long) (t' := .boolean) (by decide) (by decide)))
      have F_max_o0 := F_max_o0.other W177 (Or.inr (slot_ne (Or.inr (hw _ (List.mem_of_getElem? (i := 18) rfl))) (Or.inl (hw _ (List.mem_of_getElem? (i := 91) rfl))) (by decide) (t := .int) (t' := .boolean) (by decide) (by decide)))
      have F_data_o0 := F_data_o0.other W177 (Or.inr (slot_ne (Or.inl (hw _ (List.mem_of_getElem? (i := 14) rfl))) (Or.inl (hw _ (List.mem_of_getElem? (i := 91) rfl))) (by decide) (t := (.array .byte)) (t' := .boolean) (by decide) (by decide)))
      have F_dataLength_o0 := F_dataLength_o0.other W177 (Or.inr (slot_ne (Or.inl (hw _ (List.mem_of_getElem? (i := 106) rfl))) (Or.inl (hw _ (List.mem_of_getElem? (i := 91) rfl))) (by decide) (t := .int) (t' := .boolean) (by decide) (by decide)))
      have A_a_NONE := A_a_NONE.other W177 ne_a_NONE_o0
      have A_o1 := A_o1.other W177 ne_o1_o0
      have A_b_166 := A_b_166.other W177 (Ne.symm ne_o0_b_166)
      have F_ended_o0 : Fld Z h177 o0 "com/example/gatehook/gatehook/http/IncomingBody" "ended" "Z" (.int (1 : Int32)) := F_ended_o0.same W177
      have K177 := K176.wr W177 (Or.inl (List.mem_of_getElem? (i := 0) rfl))
      have N177 := Fr.snoc X177 N176 g_o0
      refine Ends.step st177 ?_
      show Ends p e below QQ (T177.setTop (mkF m 172 #[.val (.ref o0), .val (.ref o1), .val (.int (0 : Int32)), .val (.int (1 : Int32)), .val (.long (mx.toInt64 + (1 : Int64))), .second, .val (.int (1 : Int32))] []))
      refine Ends.step (fun _ k => XS.goto X177.here hx rfl (pc0 := 172) (pc' := 197) rfl (hb hby d10_172) (by decide) (by decide) k) ?_
      show Ends p e below QQ (T177.setTop (mkF m 197 #[.val (.ref o0), .val (.ref o1), .val (.int (0 : Int32)), .val (.int (1 : Int32)), .val (.long (mx.toInt64 + (1 : Int64))), .second, .val (.int (1 : Int32))] []))
      refine Ends.step (fun _ k => XS.iload X177.here hx rfl (hb hby d10_197) rfl k) ?_
      show Ends p e below QQ (T177.setTop (mkF m 199 #[.val (.ref o0), .val (.ref o1), .val (.int (0 : Int32)), .val (.int (1 : Int32)), .val (.long (mx.toInt64 + (1 : Int64))), .second, .val (.int (1 : Int32))] [(.int (1 : Int32))]))
      exact Ends.fin (some (.int (1 : Int32))) X177 hQQ (fun h => by rw [Bd.returns] at h; cases h) Bd.notSynchronized (fun _ hr => retOut X177 hx (t := .int) Bd.returns rfl (Or.inl ⟨rfl, Or.inl rfl, _, rfl⟩) (hb hby d10_199) hr) e177 (by decide) (by decide) ⟨rfl, N177, K177, E_o0, F_length_o0⟩
    · refine Ends.step (fun _ k => XS.icmpYes X174.here hx rfl (pc0 := 159) (pc' := 175) rfl (hb hby d10_159) rfl (XT.ii_le_t hc159_175) (by decide) (by decide) k) ?_
      show Ends p e below QQ (T174.setTop (mkF m 175 #[.val (.ref o0), .val (.ref o1), .val (.int (0 : Int32)), .val (.int (1 : Int32)), .val (.long (mx.toInt64 + (1 : Int64))), .second, .val (.int (1 : Int32))] []))
      refine Ends.step (fun _ k => XS.aloadN X174.here hx rfl (hb hby d10_175) rfl rfl k) ?_
      show Ends p e below QQ (T174.setTop (mkF m 176 #[.val (.ref o0), .val (.ref o1), .val (.int (0 : Int32)), .val (.int (1 : Int32)), .val (.long (mx.toInt64 + (1 : Int64))), .second, .val (.int (1 : Int32))] [(.ref o0)]))
      refine Ends.step (fun _ k => XS.aloadN X174.here hx rfl (hb hby d10_176) rfl rfl k) ?_
      show Ends p e below QQ (T174.setTop (mkF m 177 #[.val (.ref o0), .val (.ref o1), .val (.int (0 : Int32)), .val (.int (1 : Int32)), .val (.long (mx.toInt64 + (1 : Int64))), .second, .val (.int (1 : Int32))] [(.ref o0), (.ref o0)]))
      obtain ⟨T178, X178, e178, st178⟩ := getF X174 hx hZ hown (host := "") (Or.inl (hw _ (List.mem_of_getElem? (i := 105) rfl))) Via.refl e174 F_dataLength_o0 (g := (mkF m 177 #[.val (.ref o0), .val (.ref o1), .val (.int (0 : Int32)), .val (.int (1 : Int32)), .val (.long (mx.toInt64 + (1 : Int64))), .second, .val (.int (1 : Int32))] [(.ref o0), (.ref o0)])) rfl rfl (hb hby d10_177)
      refine Ends.step st178 ?_
      show Ends p e below QQ (T178.setTop (mkF m 180 #[.val (.ref o0), .val (.ref o1), .val (.int (0 : Int32)), .val (.int (1 : Int32)), .val (.long (mx.toInt64 + (1 : Int64))), .second, .val (.int (1 : Int32))] [(.int (1 : Int32)), (.ref o0)]))
      refine Ends.step (fun _ k => XT.i2l X178.here hx rfl (hb hby d10_180) rfl k) ?_
      show Ends p e below QQ (T178.setTop (mkF m 181 #[.val (.ref o0), .val (.ref o1), .val (.int (0 : Int32)), .val (.int (1 : Int32)), .val (.long (mx.toInt64 + (1 : Int64))), .second, .val (.int (1 : Int32))] [(.long (1 : Int64)), (.ref o0)]))
      refine Ends.step (fun _ k => XS.aloadN X178.here hx rfl (hb hby d10_181) rfl rfl k) ?_
      show Ends p e below QQ (T178.setTop (mkF m 182 #[.val (.ref o0), .val (.ref o1), .val (.int (0 : Int32)), .val (.int (1 : Int32)), .val (.long (mx.toInt64 + (1 : Int64))), .second, .val (.int (1 : Int32))] [(.ref o0), (.long (1 : Int64)), (.ref o0)]))
      obtain ⟨T179, X179, e179, st179⟩ := getF X178 hx hZ hown (host := "") (Or.inl (hw _ (List.mem_of_getElem? (i := 15) rfl))) Via.refl e178 F_length_o0 (g := (mkF m 182 #[.val (.ref o0), .val (.ref o1), .val (.int (0 : Int32)), .val (.int (1 : Int32)), .val (.long (mx.toInt64 + (1 : Int64))), .second, .val (.int (1 : Int32))] [(.ref o0), (.long (1 : Int64)), (.ref o0)])) rfl rfl (hb hby d10_182)
      refine Ends.step st179 ?_
      show Ends p e below QQ (T179.setTop (mkF m 185 #[.val (.ref o0), .val (.ref o1), .val (.int (0 : Int32)), .val (.int (1 : Int32)), .val (.long (mx.toInt64 + (1 : Int64))), .second, .val (.int (1 : Int32))] [(.long u), (.long (1 : Int64)), (.ref o0)]))
      refine Ends.step (fun _ k => XT.lcmp X179.here hx rfl (hb hby d10_185) rfl k) ?_
      show Ends p e below QQ (T179.setTop (mkF m 186 #[.val (.ref o0), .val (.ref o1), .val (.int (0 : Int32)), .val (.int (1 : Int32)), .val (.long (mx.toInt64 + (1 : Int64))), .second, .val (.int (1 : Int32))] [(.int (XT.cmpL (1 : Int64) u)), (.ref o0)]))
      have J194_180 : (∀ (v194_1 : Int32) (hv194_1 : v194_1 = (if (1 : Int64) = u then (1 : Int32) else (0 : Int32))), Ends p e below QQ (T179.setTop (mkF m 194 #[.val (.ref o0), .val (.ref o1), .val (.int (0 : Int32)), .val (.int (1 : Int32)), .val (.long (mx.toInt64 + (1 : Int64))), .second, .val (.int (1 : Int32))] [(.int v194_1), (.ref o0)]))) → Ends p e below QQ (T179.setTop (mkF m 186 #[.val (.ref o0), .val (.ref o1), .val (.int (0 : Int32)), .val (.int (1 : Int32)), .val (.long (mx.toInt64 + (1 : Int64))), .second, .val (.int (1 : Int32))] [(.int (XT.cmpL (1 : Int64) u)), (.ref o0)])) := by
        intro hJ
        by_cases hc186_181 : (1 : Int64) = u
        · refine Ends.step (fun _ k => XS.ifNo X179.here hx rfl (hb hby d10_186) rfl (XT.ll_ne_f hc186_181) k) ?_
          show Ends p e below QQ (T179.setTop (mkF m 189 #[.val (.ref o0), .val (.ref o1), .val (.int (0 : Int32)), .val (.int (1 : Int32)), .val (.long (mx.toInt64 + (1 : Int64))), .second, .val (.int (1 : Int32))] [(.ref o0)]))
          refine Ends.step (fun _ k => XT.iconstV X179.here hx rfl (1 : Int32) (hb hby d10_189) rfl k) ?_
          show Ends p e below QQ (T179.setTop (mkF m 190 #[.val (.ref o0), .val (.ref o1), .val (.int (0 : Int32)), .val (.int (1 : Int32)), .val (.long (mx.toInt64 + (1 : Int64))), .second, .val (.int (1 : Int32))] [(.int (1 : Int32)), (.ref o0)]))
          refine Ends.step (fun _ k => XS.goto X179.here hx rfl (pc0 := 190) (pc' := 194) rfl (hb hby d10_190) (by decide) (by decide) k) ?_
          exact hJ _ (by simp only [if_pos hc186_181])
        · refine Ends.step (fun _ k => XS.ifYes X179.here hx rfl (pc0 := 186) (pc' := 193) rfl (hb hby d10_186) rfl (XT.ll_ne_t hc186_181) (by decide) (by decide) k) ?_
          show Ends p e below QQ (T179.setTop (mkF m 193 #[.val (.ref o0), .val (.ref o1), .val (.int (0 : Int32)), .val (.int (1 : Int32)), .val (.long (mx.toInt64 + (1 : Int64))), .second, .val (.int (1 : Int32))] [(.ref o0)]))
          refine Ends.step (fun _ k => XT.iconstV X179.here hx rfl (0 : Int32) (hb hby d10_193) rfl k) ?_
          exact hJ _ (by simp only [if_neg hc186_181])
      refine J194_180 fun v194_1 hv194_1 => ?_
      show Ends p e below QQ (T179.setTop (mkF m 194 #[.val (.ref o0), .val (.ref o1), .val (.int (0 : Int32)), .val (.int (1 : Int32)), .val (.long (mx.toInt64 + (1 : Int64))), .second, .val (.int (1 : Int32))] [(.int v194_1), (.ref o0)]))
      obtain ⟨T182, h182, X182, e182, W182, st182⟩ := putFN X179 hx hZ hown (hw _ (List.mem_of_getElem? (i := 90) rfl)) Via.refl e179 F_ended_o0 E_o0 (Or.inl (hw _ (List.mem_of_getElem? (i := 91) rfl))) (hw _ (List.mem_of_getElem? (i := 3) rfl)) (ty := .boolean) (v' := (.int (nar .boolean v194_1))) (by decide) rfl (fits_nar_bool _) (g := (mkF m 194 #[.val (.ref o0), .val (.ref o1), .val (.int (0 : Int32)), .val (.int (1 : Int32)), .val (.long (mx.toInt64 + (1 : Int64))), .second, .val (.int (1 : Int32))] [(.int v194_1), (.ref o0)])) rfl rfl (hb hby d10_194)
      have E_o0 := E_o0.wr W182
      have F_chunks_o0 := F_chunks_o0.other W182 (Or.inr (slot_ne (Or.inl (hw _ (List.mem_of_getElem? (i := 78) rfl))) (Or.inl (hw _ (List.mem_of_getElem? (i := 91) rfl))) (by decide) (t := (.object "com/example/gatehook/gatehook/http/ChunkedBody")) (t' := .boolean) (by decide) (by decide)))
      have F_length_o0 := F_length_o0.other W182 (Or.inr (slot_ne (Or.inr (hw _ (List.mem_of_getElem? (i := 16) rfl))) (Or.inl (hw _ (List.mem_of_getElem? (i := 91) rfl))) (by decide) (t := .long) (t' := .boolean) (by decide) (by decide)))
      have F_max_o0 := F_max_o0.other W182 (Or.inr (slot_ne (Or.inr (hw _ (List.mem_of_getElem? (i := 18) rfl))) (Or.inl (hw _ (List.mem_of_getElem? (i := 91) rfl))) (by decide) (t := .int) (t' := .boolean) (by decide) (by decide)))
      have F_data_o0 := F_data_o0.other W182 (Or.inr (slot_ne (Or.inl (hw _ (List.mem_of_getElem? (i := 14) rfl))) (Or.inl (hw _ (List.mem_of_getElem? (i := 91) rfl))) (by decide) (t := (.array .byte)) (t' := .boolean) (by decide) (by decide)))
      have F_dataLength_o0 := F_dataLength_o0.other W182 (Or.inr (slot_ne (Or.inl (hw _ (List.mem_of_getElem? (i := 106) rfl))) (Or.inl (hw _ (List.mem_of_getElem? (i := 91) rfl))) (by decide) (t := .int) (t' := .boolean) (by decide) (by decide)))
      have A_a_NONE := A_a_NONE.other W182 ne_a_NONE_o0
      have A_o1 := A_o1.other W182 ne_o1_o0
      have A_b_166 := A_b_166.other W182 (Ne.symm ne_o0_b_166)
      have F_ended_o0 : Fld Z h182 o0 "com/example/gatehook/gatehook/http/IncomingBody" "ended" "Z" (.int (nar .boolean v194_1)) := F_ended_o0.same W182
      have K182 := K172.wr W182 (Or.inl (List.mem_of_getElem? (i := 0) rfl))
      have N182 := Fr.snoc X182 N172 g_o0
      refine Ends.step st182 ?_
      show Ends p e below QQ (T182.setTop (mkF m 197 #[.val (.ref o0), .val (.ref o1), .val (.int (0 : Int32)), .val (.int (1 : Int32)), .val (.long (mx.toInt64 + (1 : Int64))), .second, .val (.int (1 : Int32))] []))
      refine Ends.step (fun _ k => XS.iload X182.here hx rfl (hb hby d10_197) rfl k) ?_
      show Ends p e below QQ (T182.setTop (mkF m 199 #[.val (.ref o0), .val (.ref o1), .val (.int (0 : Int32)), .val (.int (1 : Int32)), .val (.long (mx.toInt64 + (1 : Int64))), .second, .val (.int (1 : Int32))] [(.int (1 : Int32))]))
      exact Ends.fin (some (.int (1 : Int32))) X182 hQQ (fun h => by rw [Bd.returns] at h; cases h) Bd.notSynchronized (fun _ hr => retOut X182 hx (t := .int) Bd.returns rfl (Or.inl ⟨rfl, Or.inl rfl, _, rfl⟩) (hb hby d10_199) hr) e182 (by decide) (by decide) ⟨rfl, N182, K182, E_o0, F_length_o0⟩
  · refine Ends.step (fun _ k => XS.ifYes X159.here hx rfl (pc0 := 70) (pc' := 83) rfl (hb hby d10_70) rfl (XT.ll_ne_t hc70_160) (by decide) (by decide) k) ?_
    show Ends p e below QQ (T159.setTop (mkF m 83 #[.val (.ref o0), .val (.ref o1), .val (.int (0 : Int32)), .val (.int (1 : Int32)), .unset, .unset, .unset] []))
    refine Ends.step (fun _ k => XS.aloadN X159.here hx rfl (hb hby d10_83) rfl rfl k) ?_
    show Ends p e below QQ (T159.setTop (mkF m 84 #[.val (.ref o0), .val (.ref o1), .val (.int (0 : Int32)), .val (.int (1 : Int32)), .unset, .unset, .unset] [(.ref o0)]))
    obtain ⟨T183, X183, e183, st183⟩ := getF X159 hx hZ hown (host := "") (Or.inl (hw _ (List.mem_of_getElem? (i := 15) rfl))) Via.refl e159 F_length_o0 (g := (mkF m 84 #[.val (.ref o0), .val (.ref o1), .val (.int (0 : Int32)), .val (.int (1 : Int32)), .unset, .unset, .unset] [(.ref o0)])) rfl rfl (hb hby d10_84)
    refine Ends.step st183 ?_
    show Ends p e below QQ (T183.setTop (mkF m 87 #[.val (.ref o0), .val (.ref o1), .val (.int (0 : Int32)), .val (.int (1 : Int32)), .unset, .unset, .unset] [(.long u)]))
    refine Ends.step (fun _ k => XT.lstore X183.here hx rfl (hb hby d10_87) rfl (l' := #[.val (.ref o0), .val (.ref o1), .val (.int (0 : Int32)), .val (.int (1 : Int32)), .val (.long u), .second, .unset]) rfl k) ?_
    show Ends p e below QQ (T183.setTop (mkF m 89 #[.val (.ref o0), .val (.ref o1), .val (.int (0 : Int32)), .val (.int (1 : Int32)), .val (.long u), .second, .unset] []))
    refine Ends.step (fun _ k => XS.iloadN X183.here hx rfl (hb hby d10_89) rfl k) ?_
    show Ends p e below QQ (T183.setTop (mkF m 90 #[.val (.ref o0), .val (.ref o1), .val (.int (0 : Int32)), .val (.int (1 : Int32)), .val (.long u), .second, .unset] [(.int (1 : Int32))]))
    refine Ends.step (fun _ k => XT.i2l X183.here hx rfl (hb hby d10_90) rfl k) ?_
    show Ends p e below QQ (T183.setTop (mkF m 91 #[.val (.ref o0), .val (.ref o1), .val (.int (0 : Int32)), .val (.int (1 : Int32)), .val (.long u), .second, .unset] [(.long (1 : Int64))]))
    refine Ends.step (fun _ k => XT.lload X183.here hx rfl (hb hby d10_91) rfl k) ?_
    show Ends p e below QQ (T183.setTop (mkF m 93 #[.val (.ref o0), .val (.ref o1), .val (.int (0 : Int32)), .val (.int (1 : Int32)), .val (.long u), .second, .unset] [(.long u), (.long (1 : Int64))]))
    refine Ends.step (fun _ k => XS.aloadN X183.here hx rfl (hb hby d10_93) rfl rfl k) ?_
    show Ends p e below QQ (T183.setTop (mkF m 94 #[.val (.ref o0), .val (.ref o1), .val (.int (0 : Int32)), .val (.int (1 : Int32)), .val (.long u), .second, .unset] [(.ref o0), (.long u), (.long (1 : Int64))]))
    obtain ⟨T184, X184, e184, st184⟩ := getF X183 hx hZ hown (host := "") (Or.inl (hw _ (List.mem_of_getElem? (i := 105) rfl))) Via.refl e183 F_dataLength_o0 (g := (mkF m 94 #[.val (.ref o0), .val (.ref o1), .val (.int (0 : Int32)), .val (.int (1 : Int32)), .val (.long u), .second, .unset] [(.ref o0), (.long u), (.long (1 : Int64))])) rfl rfl (hb hby d10_94)
    refine Ends.step st184 ?_
    show Ends p e below QQ (T184.setTop (mkF m 97 #[.val (.ref o0), .val (.ref o1), .val (.int (0 : Int32)), .val (.int (1 : Int32)), .val (.long u), .second, .unset] [(.int (0 : Int32)), (.long u), (.long (1 : Int64))]))
    refine Ends.step (fun _ k => XT.i2l X184.here hx rfl (hb hby d10_97) rfl k) ?_
    show Ends p e below QQ (T184.setTop (mkF m 98 #[.val (.ref o0), .val (.ref o1), .val (.int (0 : Int32)), .val (.int (1 : Int32)), .val (.long u), .second, .unset] [(.long (0 : Int64)), (.long u), (.long (1 : Int64))]))
    refine Ends.step (fun _ k => XT.lsub X184.here hx rfl (hb hby d10_98) rfl k) ?_
    show Ends p e below QQ (T184.setTop (mkF m 99 #[.val (.ref o0), .val (.ref o1), .val (.int (0 : Int32)), .val (.int (1 : Int32)), .val (.long u), .second, .unset] [(.long (u - (0 : Int64))), (.long (1 : Int64))]))
    obtain ⟨_, _, ⟨T185, L185, k185, n185⟩, -, X185, ⟨Lc185, hQ185, l185, y185, z185⟩, st185⟩ := Jvm.LawKit.callS X184 hx (y := (⟨"java/lang/Math", "min", "(JJ)J"⟩ : MethodName)) hown (mvT hZ (hw _ (List.mem_of_getElem? (i := 107) rfl))) (mvT hZ (hw _ (List.mem_of_getElem? (i := 108) rfl))) (mvT hZ (hw _ (List.mem_of_getElem? (i := 109) rfl))) (mvT hZ (hw _ (List.mem_of_getElem? (i := 110) rfl))) (by decide) (backOf (W := 0) (rmmna l Z a0 hw [] (1 : Int64) (u - (0 : Int64)) h0 n0 (Nat.le_trans Z0 (Keep.refl h0 [o0]).1) (own_lim1 (hu.resolve_left hc70_160))) hZ (hw _ (List.mem_of_getElem? (i := 110) rfl)) (hw _ (List.mem_of_getElem? (i := 109) rfl)) (by decide) (by decide)) (g := (mkF m 99 #[.val (.ref o0), .val (.ref o1), .val (.int (0 : Int32)), .val (.int (1 : Int32)), .val (.long u), .second, .unset] [(.long (u - (0 : Int64))), (.long (1 : Int64))])) rfl (by rw [hml]; rfl) (argsL := [(.long (1 : Int64)), (.long (u - (0 : Int64)))]) (rest := []) (lenOf pd_3 rfl) rfl (by show 2 * 0 + _ ≤ _; exact Nat.le_of_eq rfl) (hb hby d10_99) (fun _ _ => ⟨rfl, e184, (by decide : 0 + 0 ≤ _), (by decide : 0 + 0 ≤ _)⟩)
    dsimp only [Pt.U, Pt.locs, Pt.cells, Pt.slots] at X185 l185 y185 z185 st185 hQ185
    subst l185 y185 z185
    obtain ⟨rfl, Nq185, hh185⟩ := hQ185
    have N185 := Fr.app N0 Nq185
    refine Ends.step st185 ?_
    show Ends p e below QQ (T185.setTop (mkF m 102 #[.val (.ref o0), .val (.ref o1), .val (.int (0 : Int32)), .val (.int (1 : Int32)), .val (.long u), .second, .unset] [(.long (1 : Int64))]))
    refine Ends.step (fun _ k => XT.l2i X185.here hx rfl (hb hby d10_102) rfl k) ?_
    show Ends p e below QQ (T185.setTop (mkF m 103 #[.val (.ref o0), .val (.ref o1), .val (.int (0 : Int32)), .val (.int (1 : Int32)), .val (.long u), .second, .unset] [(.int (1 : Int32))]))
    refine Ends.step (fun _ k => XS.istore X185.here hx rfl (hb hby d10_103) rfl (l' := #[.val (.ref o0), .val (.ref o1), .val (.int (0 : Int32)), .val (.int (1 : Int32)), .val (.long u), .second, .val (.int (1 : Int32))]) rfl k) ?_
    show Ends p e below QQ (T185.setTop (mkF m 105 #[.val (.ref o0), .val (.ref o1), .val (.int (0 : Int32)), .val (.int (1 : Int32)), .val (.long u), .second, .val (.int (1 : Int32))] []))
    refine Ends.step (fun _ k => XS.aloadN X185.here hx rfl (hb hby d10_105) rfl rfl k) ?_
    show Ends p e below QQ (T185.setTop (mkF m 106 #[.val (.ref o0), .val (.ref o1), .val (.int (0 : Int32)), .val (.int (1 : Int32)), .val (.long u), .second, .val (.int (1 : Int32))] [(.ref o0)]))
    refine Ends.step (fun _ k => XS.aloadN X185.here hx rfl (hb hby d10_106) rfl rfl k) ?_
    show Ends p e below QQ (T185.setTop (mkF m 107 #[.val (.ref o0), .val (.ref o1), .val (.int (0 : Int32)), .val (.int (1 : Int32)), .val (.long u), .second, .val (.int (1 : Int32))] [(.ref o0), (.ref o0)]))
    obtain ⟨T186, X186, e186, st186⟩ := getF X185 hx hZ hown (host := "") (Or.inl (hw _ (List.mem_of_getElem? (i := 13) rfl))) Via.refl hh185 F_data_o0 (g := (mkF m 107 #[.val (.ref o0), .val (.ref o1), .val (.int (0 : Int32)), .val (.int (1 : Int32)), .val (.long u), .second, .val (.int (1 : Int32))] [(.ref o0), (.ref o0)])) rfl rfl (hb hby d10_107)
    refine Ends.step st186 ?_
    show Ends p e below QQ (T186.setTop (mkF m 110 #[.val (.ref o0), .val (.ref o1), .val (.int (0 : Int32)), .val (.int (1 : Int32)), .val (.long u), .second, .val (.int (1 : Int32))] [(.ref a_NONE), (.ref o0)]))
    refine Ends.step (fun _ k => XS.aloadN X186.here hx rfl (hb hby d10_110) rfl rfl k) ?_
    show Ends p e below QQ (T186.setTop (mkF m 111 #[.val (.ref o0), .val (.ref o1), .val (.int (0 : Int32)), .val (.int (1 : Int32)), .val (.long u), .second, .val (.int (1 : Int32))] [(.ref o0), (.ref a_NONE), (.ref o0)]))
    obtain ⟨T187, X187, e187, st187⟩ := getF X186 hx hZ hown (host := "") (Or.inl (hw _ (List.mem_of_getElem? (i := 105) rfl))) Via.refl e186 F_dataLength_o0 (g := (mkF m 111 #[.val (.ref o0), .val (.ref o1), .val (.int (0 : Int32)), .val (.int (1 : Int32)), .val (.long u), .second, .val (.int (1 : Int32))] [(.ref o0), (.ref a_NONE), (.ref o0)])) rfl rfl (hb hby d10_111)
    refine Ends.step st187 ?_
    show Ends p e below QQ (T187.setTop (mkF m 114 #[.val (.ref o0), .val (.ref o1), .val (.int (0 : Int32)), .val (.int (1 : Int32)), .val (.long u), .second, .val (.int (1 : Int32))] [(.int (0 : Int32)), (.ref a_NONE), (.ref o0)]))
    refine Ends.step (fun _ k => XS.iload X187.here hx rfl (hb hby d10_114) rfl k) ?_
    show Ends p e below QQ (T187.setTop (mkF m 116 #[.val (.ref o0), .val (.ref o1), .val (.int (0 : Int32)), .val (.int (1 : Int32)), .val (.long u), .second, .val (.int (1 : Int32))] [(.int (1 : Int32)), (.int (0 : Int32)), (.ref a_NONE), (.ref o0)]))
    refine Ends.step (fun _ k => XS.iadd X187.here hx rfl (hb hby d10_116) rfl k) ?_
    show Ends p e below QQ (T187.setTop (mkF m 117 #[.val (.ref o0), .val (.ref o1), .val (.int (0 : Int32)), .val (.int (1 : Int32)), .val (.long u), .second, .val (.int (1 : Int32))] [(.int (1 : Int32)), (.ref a_NONE), (.ref o0)]))
    refine Ends.step (fun _ k => XT.lload X187.here hx rfl (hb hby d10_117) rfl k) ?_
    show Ends p e below QQ (T187.setTop (mkF m 119 #[.val (.ref o0), .val (.ref o1), .val (.int (0 : Int32)), .val (.int (1 : Int32)), .val (.long u), .second, .val (.int (1 : Int32))] [(.long u), (.int (1 : Int32)), (.ref a_NONE), (.ref o0)]))
    obtain ⟨_, _, ⟨T188, L188, k188, n188⟩, -, X188, ⟨Lc188, hQ188, l188, y188, z188⟩, st188⟩ := Jvm.LawKit.callS X187 hx (y := (⟨"com/example/gatehook/gatehook/http/IncomingBody", "grown", "([BIJ)[B"⟩ : MethodName)) hown (mvT hZ (hw _ (List.mem_of_getElem? (i := 111) rfl))) (mvT hZ (hw _ (List.mem_of_getElem? (i := 112) rfl))) (mvT hZ (hw _ (List.mem_of_getElem? (i := 4) rfl))) (mvT hZ (hw _ (List.mem_of_getElem? (i := 113) rfl))) (by decide) (backOf (W := 1) (rmg1 l Z a0 hw [] a_NONE u kn h0 n0 (Nat.le_trans Z0 (Keep.refl h0 [o0]).1) A_a_NONE (hu.resolve_left hc70_160)) hZ (hw _ (List.mem_of_getElem? (i := 113) rfl)) (hw _ (List.mem_of_getElem? (i := 4) rfl)) (by decide) (by decide)) (g := (mkF m 119 #[.val (.ref o0), .val (.ref o1), .val (.int (0 : Int32)), .val (.int (1 : Int32)), .val (.long u), .second, .val (.int (1 : Int32))] [(.long u), (.int (1 : Int32)), (.ref a_NONE), (.ref o0)])) rfl (by rw [hml]; rfl) (argsL := [(.ref a_NONE), (.int (1 : Int32)), (.long u)]) (rest := [(.ref o0)]) (lenOf pd_12 rfl) rfl (by show 2 * 0 + _ ≤ _; exact Nat.le_of_eq rfl) (hb hby d10_119) (fun _ _ => ⟨rfl, e187, (by decide : 0 + 1 ≤ _), (by decide : 0 + 1 ≤ _)⟩)
    dsimp only [Pt.U, Pt.locs, Pt.cells, Pt.slots] at X188 l188 y188 z188 st188 hQ188
    subst l188 y188 z188
    obtain ⟨b_188, kb_188, rfl, Nq188, Kq188, fq188_0, fq188_1, fq188_2⟩ := hQ188
    have N188 := Fr.app N185 Nq188
    have ne_o0_b_188 : o0 ≠ b_188 := Nat.ne_of_lt (Nat.lt_of_lt_of_le E_o0.lt fq188_0)
    have ne_a_NONE_b_188 : a_NONE ≠ b_188 := Nat.ne_of_lt (Nat.lt_of_lt_of_le A_a_NONE.lt fq188_0)
    have ne_o1_b_188 : o1 ≠ b_188 := Nat.ne_of_lt (Nat.lt_of_lt_of_le A_o1.lt fq188_0)
    have sz_b_188 := Nat.le_trans (Keep.refl h0 [o0]).1 fq188_0
    have E_o0 := E_o0.keep Kq188
    have F_ended_o0 := F_ended_o0.keep Kq188 nin0
    have F_chunks_o0 := F_chunks_o0.keep Kq188 nin0
    have F_length_o0 := F_length_o0.keep Kq188 nin0
    have F_max_o0 := F_max_o0.keep Kq188 nin0
    have F_data_o0 := F_data_o0.keep Kq188 nin0
    have F_dataLength_o0 := F_dataLength_o0.keep Kq188 nin0
    have A_a_NONE := A_a_NONE.keep Kq188 nin0
    have A_o1 := A_o1.keep Kq188 nin0
    have g_b_188 := fq188_1
    have A_b_188 := fq188_2
    have K188 := (Keep.refl h0 [o0]).trans Kq188 all0
    refine Ends.step st188 ?_
    show Ends p e below QQ (T188.setTop (mkF m 122 #[.val (.ref o0), .val (.ref o1), .val (.int (0 : Int32)), .val (.int (1 : Int32)), .val (.long u), .second, .val (.int (1 : Int32))] [(.ref b_188), (.ref o0)]))
    obtain ⟨T189, h189, X189, e189, W189, st189⟩ := putF X188 hx hZ hown (host := "") (Or.inl (hw _ (List.mem_of_getElem? (i := 13) rfl))) Via.refl rfl F_data_o0 E_o0 (Or.inl (hw _ (List.mem_of_getElem? (i := 14) rfl))) (hw _ (List.mem_of_getElem? (i := 3) rfl)) (ty := (.array .byte)) (by decide) rfl rfl (g := (mkF m 122 #[.val (.ref o0), .val (.ref o1), .val (.int (0 : Int32)), .val (.int (1 : Int32)), .val (.long u), .second, .val (.int (1 : Int32))] [(.ref b_188), (.ref o0)])) rfl rfl (hb hby d10_122)
    have E_o0 := E_o0.wr W189
    have F_ended_o0 := F_ended_o0.other W189 (Or.inr (slot_ne (Or.inl (hw _ (List.mem_of_getElem? (i := 91) rfl))) (Or.inl (hw _ (List.mem_of_getElem? (i := 14) rfl))) (by decide) (t := .boolean) (t' := (.array .byte)) (by decide) (by decide)))
    have F_chunks_o0 := F_chunks_o0.other W189 (Or.inr (slot_ne (Or.inl (hw _ (List.mem_of_getElem? (i := 78) rfl))) (Or.inl (hw _ (List.mem_of_getElem? (i := 14) rfl))) (by decide) (t := (.object "com/example/gatehook/gatehook/http/ChunkedBody")) (t' := (.array .byte)) (by decide) (by decide)))
    have F_length_o0 := F_length_o0.other W189 (Or.inr (slot_ne (Or.inr (hw _ (List.mem_of_getElem? (i := 16) rfl))) (Or.inl (hw _ (List.mem_of_getElem? (i := 14) rfl))) (by decide) (t := .long) (t' := (.array .byte)) (by decide) (by decide)))
    have F_max_o0 := F_max_o0.other W189 (Or.inr (slot_ne (Or.inr (hw _ (List.mem_of_getElem? (i := 18) rfl))) (Or.inl (hw _ (List.mem_of_getElem? (i := 14) rfl))) (by decide) (t := .int) (t' := (.array .byte)) (by decide) (by decide)))
    have F_dataLength_o0 := F_dataLength_o0.other W189 (Or.inr (slot_ne (Or.inl (hw _ (List.mem_of_getElem? (i := 106) rfl))) (Or.inl (hw _ (List.mem_of_getElem? (i := 14) rfl))) (by decide) (t := .int) (t' := (.array .byte)) (by decide) (by decide)))
    have A_a_NONE := A_a_NONE.other W189 ne_a_NONE_o0
    have A_o1 := A_o1.other W189 ne_o1_o0
    have A_b_188 := A_b_188.other W189 (Ne.symm ne_o0_b_188)
    have F_data_o0 : Fld Z h189 o0 "com/example/gatehook/gatehook/http/IncomingBody" "data" "[B" (.ref b_188) := F_data_o0.same W189
    have K189 := K188.wr W189 (Or.inl (List.mem_of_getElem? (i := 0) rfl))
    have N189 := Fr.snoc X189 N188 g_o0
    refine Ends.step st189 ?_
    show Ends p e below QQ (T189.setTop (mkF m 125 #[.val (.ref o0), .val (.ref o1), .val (.int (0 : Int32)), .val (.int (1 : Int32)), .val (.long u), .second, .val (.int (1 : Int32))] []))
    refine Ends.step (fun _ k => XS.aloadN X189.here hx rfl (hb hby d10_125) rfl rfl k) ?_
    show Ends p e below QQ (T189.setTop (mkF m 126 #[.val (.ref o0), .val (.ref o1), .val (.int (0 : Int32)), .val (.int (1 : Int32)), .val (.long u), .second, .val (.int (1 : Int32))] [(.ref o1)]))
    refine Ends.step (fun _ k => XS.iloadN X189.here hx rfl (hb hby d10_126) rfl k) ?_
    show Ends p e below QQ (T189.setTop (mkF m 127 #[.val (.ref o0), .val (.ref o1), .val (.int (0 : Int32)), .val (.int (1 : Int32)), .val (.long u), .second, .val (.int (1 : Int32))] [(.int (0 : Int32)), (.ref o1)]))
    refine Ends.step (fun _ k => XS.aloadN X189.here hx rfl (hb hby d10_127) rfl rfl k) ?_
    show Ends p e below QQ (T189.setTop (mkF m 128 #[.val (.ref o0), .val (.ref o1), .val (.int (0 : Int32)), .val (.int (1 : Int32)), .val (.long u), .second, .val (.int (1 : Int32))] [(.ref o0), (.int (0 : Int32)), (.ref o1)]))
    obtain ⟨T190, X190, e190, st190⟩ := getF X189 hx hZ hown (host := "") (Or.inl (hw _ (List.mem_of_getElem? (i := 13) rfl))) Via.refl e189 F_data_o0 (g := (mkF m 128 #[.val (.ref o0), .val (.ref o1), .val (.int (0 : Int32)), .val (.int (1 : Int32)), .val (.long u), .second, .val (.int (1 : Int32))] [(.ref o0), (.int (0 : Int32)), (.ref o1)])) rfl rfl (hb hby d10_128)
    refine Ends.step st190 ?_
    show Ends p e below QQ (T190.setTop (mkF m 131 #[.val (.ref o0), .val (.ref o1), .val (.int (0 : Int32)), .val (.int (1 : Int32)), .val (.long u), .second, .val (.int (1 : Int32))] [(.ref b_188), (.int (0 : Int32)), (.ref o1)]))
    refine Ends.step (fun _ k => XS.aloadN X190.here hx rfl (hb hby d10_131) rfl rfl k) ?_
    show Ends p e below QQ (T190.setTop (mkF m 132 #[.val (.ref o0), .val (.ref o1), .val (.int (0 : Int32)), .val (.int (1 : Int32)), .val (.long u), .second, .val (.int (1 : Int32))] [(.ref o0), (.ref b_188), (.int (0 : Int32)), (.ref o1)]))
    obtain ⟨T191, X191, e191, st191⟩ := getF X190 hx hZ hown (host := "") (Or.inl (hw _ (List.mem_of_getElem? (i := 105) rfl))) Via.refl e190 F_dataLength_o0 (g := (mkF m 132 #[.val (.ref o0), .val (.ref o1), .val (.int (0 : Int32)), .val (.int (1 : Int32)), .val (.long u), .second, .val (.int (1 : Int32))] [(.ref o0), (.ref b_188), (.int (0 : Int32)), (.ref o1)])) rfl rfl (hb hby d10_132)
    refine Ends.step st191 ?_
    show Ends p e below QQ (T191.setTop (mkF m 135 #[.val (.ref o0), .val (.ref o1), .val (.int (0 : Int32)), .val (.int (1 : Int32)), .val (.long u), .second, .val (.int (1 : Int32))] [(.int (0 : Int32)), (.ref b_188), (.int (0 : Int32)), (.ref o1)]))
    refine Ends.step (fun _ k => XS.iload X191.here hx rfl (hb hby d10_135) rfl k) ?_
    show Ends p e below QQ (T191.setTop (mkF m 137 #[.val (.ref o0), .val (.ref o1), .val (.int (0 : Int32)), .val (.int (1 : Int32)), .val (.long u), .second, .val (.int (1 : Int32))] [(.int (1 : Int32)), (.int (0 : Int32)), (.ref b_188), (.int (0 : Int32)), (.ref o1)]))
    obtain ⟨T192, h192, L192, X192, e192, N192, Kq192, AA192, st192⟩ := cpA X191 hx hZ hown (hw _ (List.mem_of_getElem? (i := 114) rfl)) (hw _ (List.mem_of_getElem? (i := 117) rfl)) (hw _ (List.mem_of_getElem? (i := 115) rfl)) (hw _ (List.mem_of_getElem? (i := 116) rfl)) e191 A_o1 A_b_188 (Or.inl ⟨rfl, rfl⟩) (by decide) (by decide) (by decide) (by decide) (by decide) (us := [(.int bv)]) (by rfl) (by decide) N189 g_b_188 (g := (mkF m 137 #[.val (.ref o0), .val (.ref o1), .val (.int (0 : Int32)), .val (.int (1 : Int32)), .val (.long u), .second, .val (.int (1 : Int32))] [(.int (1 : Int32)), (.int (0 : Int32)), (.ref b_188), (.int (0 : Int32)), (.ref o1)])) rfl (by rw [hml]; rfl) rfl (hb hby d10_137) (by decide) (W := 0) (by show 2 * 0 + _ ≤ _; exact Nat.le_of_eq rfl) (by decide)
    have E_o0 := E_o0.keep Kq192
    have F_ended_o0 := F_ended_o0.keep Kq192 (ninS ne_o0_b_188 nin0)
    have F_chunks_o0 := F_chunks_o0.keep Kq192 (ninS ne_o0_b_188 nin0)
    have F_length_o0 := F_length_o0.keep Kq192 (ninS ne_o0_b_188 nin0)
    have F_max_o0 := F_max_o0.keep Kq192 (ninS ne_o0_b_188 nin0)
    have F_data_o0 := F_data_o0.keep Kq192 (ninS ne_o0_b_188 nin0)
    have F_dataLength_o0 := F_dataLength_o0.keep Kq192 (ninS ne_o0_b_188 nin0)
    have A_a_NONE := A_a_NONE.keep Kq192 (ninS ne_a_NONE_b_188 nin0)
    have A_o1 := A_o1.keep Kq192 (ninS ne_o1_b_188 nin0)
    have A_b_188 : Arv Z h192 b_188 kb_188 .byte (1 : Int32) [(.int bv)] (.int (0 : Int32)) := AA192
    have K192 := K189.trans Kq192 (allS (Or.inr sz_b_188) all0)
    refine Ends.step st192 ?_
    show Ends p e below QQ (T192.setTop (mkF m 140 #[.val (.ref o0), .val (.ref o1), .val (.int (0 : Int32)), .val (.int (1 : Int32)), .val (.long u), .second, .val (.int (1 : Int32))] []))
    refine Ends.step (fun _ k => XS.aloadN X192.here hx rfl (hb hby d10_140) rfl rfl k) ?_
    show Ends p e below QQ (T192.setTop (mkF m 141 #[.val (.ref o0), .val (.ref o1), .val (.int (0 : Int32)), .val (.int (1 : Int32)), .val (.long u), .second, .val (.int (1 : Int32))] [(.ref o0)]))
    refine Ends.step (fun _ k => XS.dup X192.here hx rfl (hb hby d10_141) rfl rfl k) ?_
    show Ends p e below QQ (T192.setTop (mkF m 142 #[.val (.ref o0), .val (.ref o1), .val (.int (0 : Int32)), .val (.int (1 : Int32)), .val (.long u), .second, .val (.int (1 : Int32))] [(.ref o0), (.ref o0)]))
    obtain ⟨T193, X193, e193, st193⟩ := getF X192 hx hZ hown (host := "") (Or.inl (hw _ (List.mem_of_getElem? (i := 105) rfl))) Via.refl e192 F_dataLength_o0 (g := (mkF m 142 #[.val (.ref o0), .val (.ref o1), .val (.int (0 : Int32)), .val (.int (1 : Int32)), .val (.long u), .second, .val (.int (1 : Int32))] [(.ref o0), (.ref o0)])) rfl rfl (hb hby d10_142)
    refine Ends.step st193 ?_
    show Ends p e below QQ (T193.setTop (mkF m 145 #[.val (.ref o0), .val (.ref o1), .val (.int (0 : Int32)), .val (.int (1 : Int32)), .val (.long u), .second, .val (.int (1 : Int32))] [(.int (0 : Int32)), (.ref o0)]))
    refine Ends.step (fun _ k => XS.iload X193.here hx rfl (hb hby d10_145) rfl k) ?_
    show Ends p e below QQ (T193.setTop (mkF m 147 #[.val (.ref o0), .val (.ref o1), .val (.int (0 : Int32)), .val (.int (1 : Int32)), .val (.long u), .second, .val (.int (1 : Int32))] [(.int (1 : Int32)), (.int (0 : Int32)), (.ref o0)]))
    refine Ends.step (fun _ k => XS.iadd X193.here hx rfl (hb hby d10_147) rfl k) ?_
    show Ends p e below QQ (T193.setTop (mkF m 148 #[.val (.ref o0), .val (.ref o1), .val (.int (0 : Int32)), .val (.int (1 : Int32)), .val (.long u), .second, .val (.int (1 : Int32))] [(.int (1 : Int32)), (.ref o0)]))
    obtain ⟨T194, h194, X194, e194, W194, st194⟩ := putF X193 hx hZ hown (host := "") (Or.inl (hw _ (List.mem_of_getElem? (i := 105) rfl))) Via.refl e193 F_dataLength_o0 E_o0 (Or.inl (hw _ (List.mem_of_getElem? (i := 106) rfl))) (hw _ (List.mem_of_getElem? (i := 3) rfl)) (ty := .int) (by decide) rfl rfl (g := (mkF m 148 #[.val (.ref o0), .val (.ref o1), .val (.int (0 : Int32)), .val (.int (1 : Int32)), .val (.long u), .second, .val (.int (1 : Int32))] [(.int (1 : Int32)), (.ref o0)])) rfl rfl (hb hby d10_148)
    have E_o0 := E_o0.wr W194
    have F_ended_o0 := F_ended_o0.other W194 (Or.inr (slot_ne (Or.inl (hw _ (List.mem_of_getElem? (i := 91) rfl))) (Or.inl (hw _ (List.mem_of_getElem? (i := 106) rfl))) (by decide) (t := .boolean) (t' := .int) (by decide) (by decide)))
    have F_chunks_o0 := F_chunks_o0.other W194 (Or.inr (slot_ne (Or.inl (hw _ (List.mem_of_getElem? (i := 78) rfl))) (Or.inl (hw _ (List.mem_of_getElem? (i := 106) rfl))) (by decide) (t := (.object "com/example/gatehook/gatehook/http/ChunkedBody")) (t' := .int) (by decide) (by decide)))
    have F_length_o0 := F_length_o0.other W194 (Or.inr (slot_ne (Or.inr (hw _ (List.mem_of_getElem? (i := 16) rfl))) (Or.inl (hw _ (List.mem_of_getElem? (i := 106) rfl))) (by decide) (t := .long) (t' := .int) (by decide) (by decide)))
    have F_max_o0 := F_max_o0.other W194 (Or.inr (slot_ne (Or.inr (hw _ (List.mem_of_getElem? (i := 18) rfl))) (Or.inl (hw _ (List.mem_of_getElem? (i := 106) rfl))) (by decide) (t := .int) (t' := .int) (by decide) (by decide)))
    have F_data_o0 := F_data_o0.other W194 (Or.inr (slot_ne (Or.inl (hw _ (List.mem_of_getElem? (i := 14) rfl))) (Or.inl (hw _ (List.mem_of_getElem? (i := 106) rfl))) (by decide) (t := (.array .byte)) (t' := .int) (by decide) (by decide)))
    have A_a_NONE := A_a_NONE.other W194 ne_a_NONE_o0
    have A_o1 := A_o1.other W194 ne_o1_o0
    have A_b_188 := A_b_188.other W194 (Ne.symm ne_o0_b_188)
    have F_dataLength_o0 : Fld Z h194 o0 "com/example/gatehook/gatehook/http/IncomingBody" "dataLength" "I" (.int (1 : Int32)) := F_dataLength_o0.same W194
    have K194 := K192.wr W194 (Or.inl (List.mem_of_getElem? (i := 0) rfl))
    have N194 := Fr.snoc X194 N192 g_o0
    refine Ends.step st194 ?_
    show Ends p e below QQ (T194.setTop (mkF m 151 #[.val (.ref o0), .val (.ref o1), .val (.int (0 : Int32)), .val (.int (1 : Int32)), .val (.long u), .second, .val (.int (1 : Int32))] []))
    refine Ends.step (fun _ k => XS.aloadN X194.here hx rfl (hb hby d10_151) rfl rfl k) ?_
    show Ends p e below QQ (T194.setTop (mkF m 152 #[.val (.ref o0), .val (.ref o1), .val (.int (0 : Int32)), .val (.int (1 : Int32)), .val (.long u), .second, .val (.int (1 : Int32))] [(.ref o0)]))
    obtain ⟨T195, X195, e195, st195⟩ := getF X194 hx hZ hown (host := "") (Or.inl (hw _ (List.mem_of_getElem? (i := 105) rfl))) Via.refl e194 F_dataLength_o0 (g := (mkF m 152 #[.val (.ref o0), .val (.ref o1), .val (.int (0 : Int32)), .val (.int (1 : Int32)), .val (.long u), .second, .val (.int (1 : Int32))] [(.ref o0)])) rfl rfl (hb hby d10_152)
    refine Ends.step st195 ?_
    show Ends p e below QQ (T195.setTop (mkF m 155 #[.val (.ref o0), .val (.ref o1), .val (.int (0 : Int32)), .val (.int (1 : Int32)), .val (.long u), .second, .val (.int (1 : Int32))] [(.int (1 : Int32))]))
    refine Ends.step (fun _ k => XS.aloadN X195.here hx rfl (hb hby d10_155) rfl rfl k) ?_
    show Ends p e below QQ (T195.setTop (mkF m 156 #[.val (.ref o0), .val (.ref o1), .val (.int (0 : Int32)), .val (.int (1 : Int32)), .val (.long u), .second, .val (.int (1 : Int32))] [(.ref o0), (.int (1 : Int32))]))
    obtain ⟨T196, X196, e196, st196⟩ := getF X195 hx hZ hown (host := "") (Or.inl (hw _ (List.mem_of_getElem? (i := 17) rfl))) Via.refl e195 F_max_o0 (g := (mkF m 156 #[.val (.ref o0), .val (.ref o1), .val (.int (0 : Int32)), .val (.int (1 : Int32)), .val (.long u), .second, .val (.int (1 : Int32))] [(.ref o0), (.int (1 : Int32))])) rfl rfl (hb hby d10_156)
    refine Ends.step st196 ?_
    show Ends p e below QQ (T196.setTop (mkF m 159 #[.val (.ref o0), .val (.ref o1), .val (.int (0 : Int32)), .val (.int (1 : Int32)), .val (.long u), .second, .val (.int (1 : Int32))] [(.int mx), (.int (1 : Int32))]))
    by_cases hc159_197 : mx < (1 : Int32)
    · refine Ends.step (fun _ k => XS.icmpNo X196.here hx rfl (hb hby d10_159) rfl (XT.ii_le_f hc159_197) k) ?_
      show Ends p e below QQ (T196.setTop (mkF m 162 #[.val (.ref o0), .val (.ref o1), .val (.int (0 : Int32)), .val (.int (1 : Int32)), .val (.long u), .second, .val (.int (1 : Int32))] []))
      refine Ends.step (fun _ k => XS.aloadN X196.here hx rfl (hb hby d10_162) rfl rfl k) ?_
      show Ends p e below QQ (T196.setTop (mkF m 163 #[.val (.ref o0), .val (.ref o1), .val (.int (0 : Int32)), .val (.int (1 : Int32)), .val (.long u), .second, .val (.int (1 : Int32))] [(.ref o0)]))
      refine Ends.step (fun _ k => XS.aconstNull X196.here hx rfl (hb hby d10_163) k) ?_
      show Ends p e below QQ (T196.setTop (mkF m 164 #[.val (.ref o0), .val (.ref o1), .val (.int (0 : Int32)), .val (.int (1 : Int32)), .val (.long u), .second, .val (.int (1 : Int32))] [.null, (.ref o0)]))
      obtain ⟨T198, h198, X198, e198, W198, st198⟩ := putF X196 hx hZ hown (host := "") (Or.inl (hw _ (List.mem_of_getElem? (i := 13) rfl))) Via.refl e196 F_data_o0 E_o0 (Or.inl (hw _ (List.mem_of_getElem? (i := 14) rfl))) (hw _ (List.mem_of_getElem? (i := 3) rfl)) (ty := (.array .byte)) (by decide) rfl rfl (g := (mkF m 164 #[.val (.ref o0), .val (.ref o1), .val (.int (0 : Int32)), .val (.int (1 : Int32)), .val (.long u), .second, .val (.int (1 : Int32))] [.null, (.ref o0)])) rfl rfl (hb hby d10_164)
      have E_o0 := E_o0.wr W198
      have F_ended_o0 := F_ended_o0.other W198 (Or.inr (slot_ne (Or.inl (hw _ (List.mem_of_getElem? (i := 91) rfl))) (Or.inl (hw _ (List.mem_of_getElem? (i := 14) rfl))) (by decide) (t := .boolean) (t' := (.array .byte)) (by decide) (by decide)))
      have F_chunks_o0 := F_chunks_o0.other W198 (Or.inr (slot_ne (Or.inl (hw _ (List.mem_of_getElem? (i := 78) rfl))) (Or.inl (hw _ (List.mem_of_getElem? (i := 14) rfl))) (by decide) (t := (.object "com/example/gatehook/gatehook/http/ChunkedBody")) (t' := (.array .byte)) (by decide) (by decide)))
      have F_length_o0 := F_length_o0.other W198 (Or.inr (slot_ne (Or.inr (hw _ (List.mem_of_getElem? (i := 16) rfl))) (Or.inl (hw _ (List.mem_of_getElem? (i := 14) rfl))) (by decide) (t := .long) (t' := (.array .byte)) (by decide) (by decide)))
      have F_max_o0 := F_max_o0.other W198 (Or.inr (slot_ne (Or.inr (hw _ (List.mem_of_getElem? (i := 18) rfl))) (Or.inl (hw _ (List.mem_of_getElem? (i := 14) rfl))) (by decide) (t := .int) (t' := (.array .byte)) (by decide) (by decide)))
      have F_dataLength_o0 := F_dataLength_o0.other W198 (Or.inr (slot_ne (Or.inl (hw _ (List.mem_of_getElem? (i := 106) rfl))) (Or.inl (hw _ (List.mem_of_getElem? (i := 14) rfl))) (by decide) (t := .int) (t' := (.array .byte)) (by decide) (by decide)))
      have A_a_NONE := A_a_NONE.other W198 ne_a_NONE_o0
      have A_o1 := A_o1.other W198 ne_o1_o0
      have A_b_188 := A_b_188.other W198 (Ne.symm ne_o0_b_188)
      have F_data_o0 : Fld Z h198 o0 "com/example/gatehook/gatehook/http/IncomingBody" "data" "[B" .null := F_data_o0.same W198
      have K198 := K194.wr W198 (Or.inl (List.mem_of_getElem? (i := 0) rfl))
      have N198 := Fr.snoc X198 N194 g_o0
      refine Ends.step st198 ?_
      show Ends p e below QQ (T198.setTop (mkF m 167 #[.val (.ref o0), .val (.ref o1), .val (.int (0 : Int32)), .val (.int (1 : Int32)), .val (.long u), .second, .val (.int (1 : Int32))] []))
      refine Ends.step (fun _ k => XS.aloadN X198.here hx rfl (hb hby d10_167) rfl rfl k) ?_
      show Ends p e below QQ (T198.setTop (mkF m 168 #[.val (.ref o0), .val (.ref o1), .val (.int (0 : Int32)), .val (.int (1 : Int32)), .val (.long u), .second, .val (.int (1 : Int32))] [(.ref o0)]))
      refine Ends.step (fun _ k => XT.iconstV X198.here hx rfl (1 : Int32) (hb hby d10_168) rfl k) ?_
      show Ends p e below QQ (T198.setTop (mkF m 169 #[.val (.ref o0), .val (.ref o1), .val (.int (0 : Int32)), .val (.int (1 : Int32)), .val (.long u), .second, .val (.int (1 : Int32))] [(.int (1 : Int32)), (.ref o0)]))
      obtain ⟨T199, h199, X199, e199, W199, st199⟩ := putFN X198 hx hZ hown (hw _ (List.mem_of_getElem? (i := 90) rfl)) Via.refl e198 F_ended_o0 E_o0 (Or.inl (hw _ (List.mem_of_getElem? (i := 91) rfl))) (hw _ (List.mem_of_getElem? (i := 3) rfl)) (ty := .boolean) (v' := (.int (1 : Int32))) (by decide) rfl rfl (g := (mkF m 169 #[.val (.ref o0), .val (.ref o1), .val (.int (0 : Int32)), .val (.int (1 : Int32)), .val (.long u), .second, .val (.int (1 : Int32))] [(.int (1 : Int32)), (.ref o0)])) rfl rfl (hb hby d10_169)
      have E_o0 := E_o0.wr W199
      have F_chunks_o0 := F_chunks_o0.other W199 (Or.inr (slot_ne (Or.inl (hw _ (List.mem_of_getElem? (i := 78) rfl))) (Or.inl (hw _ (List.mem_of_getElem? (i := 91) rfl))) (by decide) (t := (.object "com/example/gatehook/gatehook/http/ChunkedBody")) (t' := .boolean) (by decide) (by decide)))
      have F_length_o0 := F_length_o0.other W199 (Or.inr (slot_ne (Or.inr (hw _ (List.mem_of_getElem? (i := 16) rfl))) (Or.inl (hw _ (List.mem_of_getElem? (i := 91) rfl))) (by decide) (t := .long) (t' := .boolean) (by decide) (by decide)))
      have F_max_o0 := F_max_o0.other W199 (Or.inr (slot_ne (Or.inr (hw _ (List.mem_of_getElem? (i := 18) rfl))) (Or.inl (hw _ (List.mem_of_getElem? (i := 91) rfl))) (by decide) (t := .int) (t' := .boolean) (by decide) (by decide)))
      have F_data_o0 := F_data_o0.other W199 (Or.inr (slot_ne (Or.inl (hw _ (List.mem_of_getElem? (i := 14) rfl))) (Or.inl (hw _ (List.mem_of_getElem? (i := 91) rfl))) (by decide) (t := (.array .byte)) (t' := .boolean) (by decide) (by decide)))
      have F_dataLength_o0 := F_dataLength_o0.other W199 (Or.inr (slot_ne (Or.inl (hw _ (List.mem_of_getElem? (i := 106) rfl))) (Or.inl (hw _ (List.mem_of_getElem? (i := 91) rfl))) (by decide) (t := .int) (t' := .boolean) (by decide) (by decide)))
      have A_a_NONE := A_a_NONE.other W199 ne_a_NONE_o0
      have A_o1 := A_o1.other W199 ne_o1_o0
      have A_b_188 := A_b_188.other W199 (Ne.symm ne_o0_b_188)
      have F_ended_o0 : Fld Z h199 o0 "com/example/gatehook/gatehook/http/IncomingBody" "ended" "Z" (.int (1 : Int32)) := F_ended_o0.same W199
      have K199 := K198.wr W199 (Or.inl (List.mem_of_getElem? (i := 0) rfl))
      have N199 := Fr.snoc X199 N198 g_o0
      refine Ends.step st199 ?_
      show Ends p e below QQ (T199.setTop (mkF m 172 #[.val (.ref o0), .val (.ref o1), .val (.int (0 : Int32)), .val (.int (1 : Int32)), .val (.long u), .second, .val (.int (1 : Int32))] []))
      refine Ends.step (fun _ k => XS.goto X199.here hx rfl (pc0 := 172) (pc' := 197) rfl (hb hby d10_172) (by decide) (by decide) k) ?_
      show Ends p e below QQ (T199.setTop (mkF m 197 #[.val (.ref o0), .val (.ref o1), .val (.int (0 : Int32)), .val (.int (1 : Int32)), .val (.long u), .second, .val (.int (1 : Int32))] []))
      refine Ends.step (fun _ k => XS.iload X199.here hx rfl (hb hby d10_197) rfl k) ?_
      show Ends p e below QQ (T199.setTop (mkF m 199 #[.val (.ref o0), .val (.ref o1), .val (.int (0 : Int32)), .val (.int (1 : Int32)), .val (.long u), .second, .val (.int (1 : Int32))] [(.int (1 : Int32))]))
      exact Ends.fin (some (.int (1 : Int32))) X199 hQQ (fun h => by rw [Bd.returns] at h; cases h) Bd.notSynchronized (fun _ hr => retOut X199 hx (t := .int) Bd.returns rfl (Or.inl ⟨rfl, Or.inl rfl, _, rfl⟩) (hb hby d10_199) hr) e199 (by decide) (by decide) ⟨rfl, N199, K199, E_o0, F_length_o0⟩
    · refine Ends.step (fun _ k => XS.icmpYes X196.here hx rfl (pc0 := 159) (pc' := 175) rfl (hb hby d10_159) rfl (XT.ii_le_t hc159_197) (by decide) (by decide) k) ?_
      show Ends p e below QQ (T196.setTop (mkF m 175 #[.val (.ref o0), .val (.ref o1), .val (.int (0 : Int32)), .val (.int (1 : Int32)), .val (.long u), .second, .val (.int (1 : Int32))] []))
      refine Ends.step (fun _ k => XS.aloadN X196.here hx rfl (hb hby d10_175) rfl rfl k) ?_
      show Ends p e below QQ (T196.setTop (mkF m 176 #[.val (.ref o0), .val (.ref o1), .val (.int (0 : Int32)), .val (.int (1 : Int32)), .val (.long u), .second, .val (.int (1 : Int32))] [(.ref o0)]))
      refine Ends.step (fun _ k => XS.aloadN X196.here hx rfl (hb hby d10_176) rfl rfl k) ?_
      show Ends p e below QQ (T196.setTop (mkF m 177 #[.val (.ref o0), .val (.ref o1), .val (.int (0 : Int32)), .val (.int (1 : Int32)), .val (.long u), .second, .val (.int (1 : Int32))] [(.ref o0), (.ref o0)]))
      obtain ⟨T200, X200, e200, st200⟩ := getF X196 hx hZ hown (host := "") (Or.inl (hw _ (List.mem_of_getElem? (i := 105) rfl))) Via.refl e196 F_dataLength_o0 (g := (mkF m 177 #[.val (.ref o0), .val (.ref o1), .val (.int (0 : Int32)), .val (.int (1 : Int32)), .val (.long u), .second, .val (.int (1 : Int32))] [(.ref o0), (.ref o0)])) rfl rfl (hb hby d10_177)
      refine Ends.step st200 ?_
      show Ends p e below QQ (T200.setTop (mkF m 180 #[.val (.ref o0), .val (.ref o1), .val (.int (0 : Int32)), .val (.int (1 : Int32)), .val (.long u), .second, .val (.int (1 : Int32))] [(.int (1 : Int32)), (.ref o0)]))
      refine Ends.step (fun _ k => XT.i2l X200.here hx rfl (hb hby d10_180) rfl k) ?_
      show Ends p e below QQ (T200.setTop (mkF m 181 #[.val (.ref o0), .val (.ref o1), .val (.int (0 : Int32)), .val (.int (1 : Int32)), .val (.long u), .second, .val (.int (1 : Int32))] [(.long (1 : Int64)), (.ref o0)]))
      refine Ends.step (fun _ k => XS.aloadN X200.here hx rfl (hb hby d10_181) rfl rfl k) ?_
      show Ends p e below QQ (T200.setTop (mkF m 182 #[.val (.ref o0), .val (.ref o1), .val (.int (0 : Int32)), .val (.int (1 : Int32)), .val (.long u), .second, .val (.int (1 : Int32))] [(.ref o0), (.long (1 : Int64)), (.ref o0)]))
      obtain ⟨T201, X201, e201, st201⟩ := getF X200 hx hZ hown (host := "") (Or.inl (hw _ (List.mem_of_getElem? (i := 15) rfl))) Via.refl e200 F_length_o0 (g := (mkF m 182 #[.val (.ref o0), .val (.ref o1), .val (.int (0 : Int32)), .val (.int (1 : Int32)), .val (.long u), .second, .val (.int (1 : Int32))] [(.ref o0), (.long (1 : Int64)), (.ref o0)])) rfl rfl (hb hby d10_182)
      refine Ends.step st201 ?_
      show Ends p e below QQ (T201.setTop (mkF m 185 #[.val (.ref o0), .val (.ref o1), .val (.int (0 : Int32)), .val (.int (1 : Int32)), .val (.long u), .second, .val (.int (1 : Int32))] [(.long u), (.long (1 : Int64)), (.ref o0)]))
      refine Ends.step (fun _ k => XT.lcmp X201.here hx rfl (hb hby d10_185) rfl k) ?_
      show Ends p e below QQ (T201.setTop (mkF m 186 #[.val (.ref o0), .val (.ref o1), .val (.int (0 : Int32)), .val (.int (1 : Int32)), .val (.long u), .second, .val (.int (1 : Int32))] [(.int (XT.cmpL (1 : Int64) u)), (.ref o0)]))
      have J194_202 : (∀ (v194_2 : Int32) (hv194_2 : v194_2 = (if (1 : Int64) = u then (1 : Int32) else (0 : Int32))), Ends p e below QQ (T201.setTop (mkF m 194 #[.val (.ref o0), .val (.ref o1), .val (.int (0 : Int32)), .val (.int (1 : Int32)), .val (.long u), .second, .val (.int (1 : Int32))] [(.int v194_2), (.ref o0)]))) → Ends p e below QQ (T201.setTop (mkF m 186 #[.val (.ref o0), .val (.ref o1), .val (.int (0 : Int32)), .val (.int (1 : Int32)), .val (.long u), .second, .val (.int (1 : Int32))] [(.int (XT.cmpL (1 : Int64) u)), (.ref o0)])) := by
        intro hJ
        by_cases hc186_203 : (1 : Int64) = u
        · refine Ends.step (fun _ k => XS.ifNo X201.here hx rfl (hb hby d10_186) rfl (XT.ll_ne_f hc186_203) k) ?_
          show Ends p e below QQ (T201.setTop (mkF m 189 #[.val (.ref o0), .val (.ref o1), .val (.int (0 : Int32)), .val (.int (1 : Int32)), .val (.long u), .second, .val (.int (1 : Int32))] [(.ref o0)]))
          refine Ends.step (fun _ k => XT.iconstV X201.here hx rfl (1 : Int32) (hb hby d10_189) rfl k) ?_
          show Ends p e below QQ (T201.setTop (mkF m 190 #[.val (.ref o0), .val (.ref o1), .val (.int (0 : Int32)), .val (.int (1 : Int32)), .val (.long u), .second, .val (.int (1 : Int32))] [(.int (1 : Int32)), (.ref o0)]))
          refine Ends.step (fun _ k => XS.goto X201.here hx rfl (pc0 := 190) (pc' := 194) rfl (hb hby d10_190) (by decide) (by decide) k) ?_
          exact hJ _ (by simp only [if_pos hc186_203])
        · refine Ends.step (fun _ k => XS.ifYes X201.here hx rfl (pc0 := 186) (pc' := 193) rfl (hb hby d10_186) rfl (XT.ll_ne_t hc186_203) (by decide) (by decide) k) ?_
          show Ends p e below QQ (T201.setTop (mkF m 193 #[.val (.ref o0), .val (.ref o1), .val (.int (0 : Int32)), .val (.int (1 : Int32)), .val (.long u), .second, .val (.int (1 : Int32))] [(.ref o0)]))
          refine Ends.step (fun _ k => XT.iconstV X201.here hx rfl (0 : Int32) (hb hby d10_193) rfl k) ?_
          exact hJ _ (by simp only [if_neg hc186_203])
      refine J194_202 fun v194_2 hv194_2 => ?_
      show Ends p e below QQ (T201.setTop (mkF m 194 #[.val (.ref o0), .val (.ref o1), .val (.int (0 : Int32)), .val (.int (1 : Int32)), .val (.long u), .second, .val (.int (1 : Int32))] [(.int v194_2), (.ref o0)]))
      obtain ⟨T204, h204, X204, e204, W204, st204⟩ := putFN X201 hx hZ hown (hw _ (List.mem_of_getElem? (i := 90) rfl)) Via.refl e201 F_ended_o0 E_o0 (Or.inl (hw _ (List.mem_of_getElem? (i := 91) rfl))) (hw _ (List.mem_of_getElem? (i := 3) rfl)) (ty := .boolean) (v' := (.int (nar .boolean v194_2))) (by decide) rfl (fits_nar_bool _) (g := (mkF m 194 #[.val (.ref o0), .val (.ref o1), .val (.int (0 : Int32)), .val (.int (1 : Int32)), .val (.long u), .second, .val (.int (1 : Int32))] [(.int v194_2), (.ref o0)])) rfl rfl (hb hby d10_194)
      have E_o0 := E_o0.wr W204
      have F_chunks_o0 := F_chunks_o0.other W204 (Or.inr (slot_ne (Or.inl (hw _ (List.mem_of_getElem? (i := 78) rfl))) (Or.inl (hw _ (List.mem_of_getElem? (i := 91) rfl))) (by decide) (t := (.object "com/example/gatehook/gatehook/http/ChunkedBody")) (t' := .boolean) (by decide) (by decide)))
      have F_length_o0 := F_length_o0.other W204 (Or.inr (slot_ne (Or.inr (hw _ (List.mem_of_getElem? (i := 16) rfl))) (Or.inl (hw _ (List.mem_of_getElem? (i := 91) rfl))) (by decide) (t := .long) (t' := .boolean) (by decide) (by decide)))
      have F_max_o0 := F_max_o0.other W204 (Or.inr (slot_ne (Or.inr (hw _ (List.mem_of_getElem? (i := 18) rfl))) (Or.inl (hw _ (List.mem_of_getElem? (i := 91) rfl))) (by decide) (t := .int) (t' := .boolean) (by decide) (by decide)))
      have F_data_o0 := F_data_o0.other W204 (Or.inr (slot_ne (Or.inl (hw _ (List.mem_of_getElem? (i := 14) rfl))) (Or.inl (hw _ (List.mem_of_getElem? (i := 91) rfl))) (by decide) (t := (.array .byte)) (t' := .boolean) (by decide) (by decide)))
      have F_dataLength_o0 := F_dataLength_o0.other W204 (Or.inr (slot_ne (Or.inl (hw _ (List.mem_of_getElem? (i := 106) rfl))) (Or.inl (hw _ (List.mem_of_getElem? (i := 91) rfl))) (by decide) (t := .int) (t' := .boolean) (by decide) (by decide)))
      have A_a_NONE := A_a_NONE.other W204 ne_a_NONE_o0
      have A_o1 := A_o1.other W204 ne_o1_o0
      have A_b_188 := A_b_188.other W204 (Ne.symm ne_o0_b_188)
      have F_ended_o0 : Fld Z h204 o0 "com/example/gatehook/gatehook/http/IncomingBody" "ended" "Z" (.int (nar .boolean v194_2)) := F_ended_o0.same W204
      have K204 := K194.wr W204 (Or.inl (List.mem_of_getElem? (i := 0) rfl))
      have N204 := Fr.snoc X204 N194 g_o0
      refine Ends.step st204 ?_
      show Ends p e below QQ (T204.setTop (mkF m 197 #[.val (.ref o0), .val (.ref o1), .val (.int (0 : Int32)), .val (.int (1 : Int32)), .val (.long u), .second, .val (.int (1 : Int32))] []))
      refine Ends.step (fun _ k => XS.iload X204.here hx rfl (hb hby d10_197) rfl k) ?_
      show Ends p e below QQ (T204.setTop (mkF m 199 #[.val (.ref o0), .val (.ref o1), .val (.int (0 : Int32)), .val (.int (1 : Int32)), .val (.long u), .second, .val (.int (1 : Int32))] [(.int (1 : Int32))]))
      exact Ends.fin (some (.int (1 : Int32))) X204 hQQ (fun h => by rw [Bd.returns] at h; cases h) Bd.notSynchronized (fun _ hr => retOut X204 hx (t := .int) Bd.returns rfl (Or.inl ⟨rfl, Or.inl rfl, _, rfl⟩) (hb hby d10_199) hr) e204 (by decide) (by decide) ⟨rfl, N204, K204, E_o0, F_length_o0⟩
theorem ef_0 (m : MethodId) (x0 : Int64) (x1 : Int32) (x2 : Int32) (x3 : Int32) : entryFrame m #[(.long x0), (.int x1), (.int x2), (.int x3)] maxLocals = mkF m 0 #[.val (.long x0), .second, .val (.int x1), .val (.int x2), .val (.int x3), .unset, .unset, .unset, .unset, .unset, .unset, .unset, .unset, .unset] [] := by first | (simp [entryFrame, mkF, argsToLocals, Value.category, maxLocals]; done) | rfl
def f0_v148_1 (q0 : Int64) (p1 : Int32) (p2 : Int32) (p3 : Int32) (cs : Int32) : Int32 := (if (fluc (-1 : Int64)) = (1 : Int32) then (1 : Int32) else (0 : Int32))
def f0_v148_2 (q0 : Int64) (p1 : Int32) (p2 : Int32) (p3 : Int32) (cs : Int32) : Int32 := (if (fluc (-1 : Int64)) = (1 : Int32) then (1 : Int32) else (0 : Int32))
def f0_v148_3 (q0 : Int64) (p1 : Int32) (p2 : Int32) (p3 : Int32) (cs : Int32) : Int32 := (if (fluc (-2 : Int64)) = (0 : Int32) then (1 : Int32) else (0 : Int32))
def f0_v148_4 (q0 : Int64) (p1 : Int32) (p2 : Int32) (p3 : Int32) (cs : Int32) : Int32 := (if (fluc (-2 : Int64)) = (0 : Int32) then (1 : Int32) else (0 : Int32))
def f0_v148_5 (q0 : Int64) (p1 : Int32) (p2 : Int32) (p3 : Int32) (cs : Int32) : Int32 := (if (fluc (q0 &&& (9223372036854775807 : Int64))) = (0 : Int32) then (1 : Int32) else (0 : Int32))
def f0_v148_6 (q0 : Int64) (p1 : Int32) (p2 : Int32) (p3 : Int32) (cs : Int32) : Int32 := (if (fluc (0 : Int64)) = (0 : Int32) then (1 : Int32) else (0 : Int32))
def f0_v148_7 (q0 : Int64) (p1 : Int32) (p2 : Int32) (p3 : Int32) (cs : Int32) : Int32 := (if (fluc (q0 &&& (9223372036854775807 : Int64))) = (0 : Int32) then (1 : Int32) else (0 : Int32))
def f0_v148_8 (q0 : Int64) (p1 : Int32) (p2 : Int32) (p3 : Int32) (cs : Int32) : Int32 := (if (fluc (q0 &&& (9223372036854775807 : Int64))) = (0 : Int32) then (1 : Int32) else (0 : Int32))
def f0 (q0 : Int64) (p1 : Int32) (p2 : Int32) (p3 : Int32) (cs : Int32) : Int32 := (if (p2 &&& (3 : Int32)) = (0 : Int32) then (if (((p3.toUInt32 >>> ((8 : Int32) &&& 31).toUInt32).toInt32) &&& (1 : Int32)) = (0 : Int32) then (f0_v148_1 q0 p1 p2 p3 cs) else (f0_v148_2 q0 p1 p2 p3 cs)) else (if (p2 &&& (3 : Int32)) = (1 : Int32) then (if (((p3.toUInt32 >>> ((8 : Int32) &&& 31).toUInt32).toInt32) &&& (1 : Int32)) = (0 : Int32) then (f0_v148_3 q0 p1 p2 p3 cs) else (f0_v148_4 q0 p1 p2 p3 cs)) else (if (p1 &&& (2147483647 : Int32)).toInt64 < (q0 &&& (9223372036854775807 : Int64)) then (f0_v148_5 q0 p1 p2 p3 cs) else (if (q0 &&& (9223372036854775807 : Int64)) = (0 : Int64) then (f0_v148_6 q0 p1 p2 p3 cs) else (if (((p3.toUInt32 >>> ((8 : Int32) &&& 31).toUInt32).toInt32) &&& (1 : Int32)) = (0 : Int32) then (f0_v148_7 q0 p1 p2 p3 cs) else (f0_v148_8 q0 p1 p2 p3 cs))))))
def Q0 (Z : State) (q0 : Int64) (p1 : Int32) (p2 : Int32) (p3 : Int32) (a_NONE : Addr) (a_SIZE_LINE : Addr) (a_ENDED : Addr) (a_DATA : Addr) (k_a_NONE : ClassId) (cs : Int32) (h0 : Heap) (n0 : Nat) (v : Option Value) (h : Heap) (L : List Loc) : Prop := (v = some (.int (f0 q0 p1 p2 p3 cs))) ∧ (Fr n0 L) ∧ (Keep h0 h [])
set_option maxRecDepth 65536 in
set_option maxHeartbeats 40000000 in
theorem rm0 (l : Launch) (Z : State) (a0 : Array Value) (hw : ∀ d ∈ tables_1, d.before a0 Z = true) (ws : List Jvm.Cond) (q0 : Int64) (p1 : Int32) (p2 : Int32) (p3 : Int32) (a_NONE : Addr) (a_SIZE_LINE : Addr) (a_ENDED : Addr) (a_DATA : Addr) (k_a_NONE : ClassId) (cs : Int32) (h0 : Heap) (n0 : Nat) (Z0 : n0 ≤ h0.size) (E_a_NONE : Exa Z h0 a_NONE "[B") (E_a_SIZE_LINE : Exa Z h0 a_SIZE_LINE "com/example/gatehook/gatehook/http/ChunkedBody$Part") (E_a_ENDED : Exa Z h0 a_ENDED "com/example/gatehook/gatehook/http/ChunkedBody$Part") (E_a_DATA : Exa Z h0 a_DATA "com/example/gatehook/gatehook/http/ChunkedBody$Part") (F_ordinal_a_SIZE_LINE : Fld Z h0 a_SIZE_LINE "java/lang/Enum" "ordinal" "I" (.int (0 : Int32))) (F_ordinal_a_ENDED : Fld Z h0 a_ENDED "java/lang/Enum" "ordinal" "I" (.int (4 : Int32))) (F_ordinal_a_DATA : Fld Z h0 a_DATA "java/lang/Enum" "ordinal" "I" (.int (1 : Int32))) (A_a_NONE : Arv Z h0 a_NONE k_a_NONE .byte (0 : Int32) [] (.int (0 : Int32))) (S_NONE : Sta Z h0 "com/example/gatehook/gatehook/http/IncomingBody" "NONE" "[B" (.ref a_NONE)) (S_SIZE_LINE : Sta Z h0 "com/example/gatehook/gatehook/http/ChunkedBody$Part" "SIZE_LINE" "Lcom/example/gatehook/gatehook/http/ChunkedBody$Part;" (.ref a_SIZE_LINE)) (S_ENDED : Sta Z h0 "com/example/gatehook/gatehook/http/ChunkedBody$Part" "ENDED" "Lcom/example/gatehook/gatehook/http/ChunkedBody$Part;" (.ref a_ENDED)) (S_DATA : Sta Z h0 "com/example/gatehook/gatehook/http/ChunkedBody$Part" "DATA" "Lcom/example/gatehook/gatehook/http/ChunkedBody$Part;" (.ref a_DATA)) (ne_a_SIZE_LINE_a_ENDED : a_SIZE_LINE ≠ a_ENDED) (ne_a_SIZE_LINE_a_DATA : a_SIZE_LINE ≠ a_DATA) (S_COMPACT_STRINGS : Sta Z h0 "java/lang/String" "COMPACT_STRINGS" "Z" (.int cs)) (hcs : ¬ cs = (0 : Int32)) :
    MetFree l x (head1 (Jvm.Cond.code x code maxLocals ret :: ws) room_1) (fun a U => a = #[(.long q0), (.int p1), (.int p2), (.int p3)] ∧ Z.Warmed39 U.vm ∧ U.heap = h0) (fun _ _ _ _ _ => True) (fun _ U o U' => ∃ v L, o = .returned v ∧ Q0 Z q0 p1 p2 p3 a_NONE a_SIZE_LINE a_ENDED a_DATA k_a_NONE cs h0 n0 v U'.heap L ∧ FrameEnd U o U' L room_1.cells room_1.slots) := by
  refine MetFree.of_bodySF (plainFor_of_name pn_9) hisR ?_
  intro p e s m args below meth c s₁ Bd hml0 hP hK
  obtain ⟨rfl, hZ, hh⟩ := hP
  have hx := Bd.exec
  have hby := Bd.bytes
  have hml : c.maxLocals = 14 := hml0
  have hown : s.vm.findClass "com/example/gatehook/gatehook/http/IncomingBodyLastsUntilClosePinLaw" = some m.cls := findClass_of_methodNamed Bd.named
  have hnm := (name_of_methodNamed Bd.named Bd.method).1
  have X0 : Stand p l e room_1 s m #[(.long q0), (.int p1), (.int p2), (.int p3)] below meth c s₁ [] 0 0 := Stand.of_body Bd
  have e0 : s₁.heap = h0 := by rw [← hh, Bd.state]; rfl
  have N0 := Fr.nil n0
  refine Ends.opn ?_
  intro QQ hQQ
  refine Ends.step (S' := s₁.setTop (mkF m 0 #[.val (.long q0), .second, .val (.int p1), .val (.int p2), .val (.int p3), .unset, .unset, .unset, .unset, .unset, .unset, .unset, .unset, .unset] [])) (fun t k => castTop (ef_0 m q0 p1 p2 p3) k) ?_
  show Ends p e below QQ (s₁.setTop (mkF m 0 #[.val (.long q0), .second, .val (.int p1), .val (.int p2), .val (.int p3), .unset, .unset, .unset, .unset, .unset, .unset, .unset, .unset, .unset] []))
  refine Ends.step (fun _ k => XS.iloadN X0.here hx rfl (hb hby at_0) rfl k) ?_
  show Ends p e below QQ (s₁.setTop (mkF m 1 #[.val (.long q0), .second, .val (.int p1), .val (.int p2), .val (.int p3), .unset, .unset, .unset, .unset, .unset, .unset, .unset, .unset, .unset] [(.int p2)]))
  refine Ends.step (fun _ k => XT.iconstV X0.here hx rfl (3 : Int32) (hb hby at_1) rfl k) ?_
  show Ends p e below QQ (s₁.setTop (mkF m 2 #[.val (.long q0), .second, .val (.int p1), .val (.int p2), .val (.int p3), .unset, .unset, .unset, .unset, .unset, .unset, .unset, .unset, .unset] [(.int (3 : Int32)), (.int p2)]))
  refine Ends.step (fun _ k => XS.iand X0.here hx rfl (hb hby at_2) rfl k) ?_
  show Ends p e below QQ (s₁.setTop (mkF m 3 #[.val (.long q0), .second, .val (.int p1), .val (.int p2), .val (.int p3), .unset, .unset, .unset, .unset, .unset, .unset, .unset, .unset, .unset] [(.int (p2 &&& (3 : Int32)))]))
  refine Ends.step (fun _ k => XS.istore X0.here hx rfl (hb hby at_3) rfl (l' := #[.val (.long q0), .second, .val (.int p1), .val (.int p2), .val (.int p3), .val (.int (p2 &&& (3 : Int32))), .unset, .unset, .unset, .unset, .unset, .unset, .unset, .unset]) rfl k) ?_
  show Ends p e below QQ (s₁.setTop (mkF m 5 #[.val (.long q0), .second, .val (.int p1), .val (.int p2), .val (.int p3), .val (.int (p2 &&& (3 : Int32))), .unset, .unset, .unset, .unset, .unset, .unset, .unset, .unset] []))
  refine Ends.step (fun _ k => XS.iload X0.here hx rfl (hb hby at_5) rfl k) ?_
  show Ends p e below QQ (s₁.setTop (mkF m 7 #[.val (.long q0), .second, .val (.int p1), .val (.int p2), .val (.int p3), .val (.int (p2 &&& (3 : Int32))), .unset, .unset, .unset, .unset, .unset, .unset, .unset, .unset] [(.int (p2 &&& (3 : Int32)))]))
  by_cases hc7_205 : (p2 &&& (3 : Int32)) = (0 : Int32)
  · refine Ends.step (fun _ k => XS.ifNo X0.here hx rfl (hb hby at_7) rfl (XT.i0_ne_f hc7_205) k) ?_
    show Ends p e below QQ (s₁.setTop (mkF m 10 #[.val (.long q0), .second, .val (.int p1), .val (.int p2), .val (.int p3), .val (.int (p2 &&& (3 : Int32))), .unset, .unset, .unset, .unset, .unset, .unset, .unset, .unset] []))
    refine Ends.step (fun _ k => X0.ldc2J hx hown (mvT hZ (hw _ (List.mem_of_getElem? (i := 168) rfl))) (g := (mkF m 10 #[.val (.long q0), .second, .val (.int p1), .val (.int p2), .val (.int p3), .val (.int (p2 &&& (3 : Int32))), .unset, .unset, .unset, .unset, .unset, .unset, .unset, .unset] [])) rfl (hb hby at_10) k) ?_
    show Ends p e below QQ (s₁.setTop (mkF m 13 #[.val (.long q0), .second, .val (.int p1), .val (.int p2), .val (.int p3), .val (.int (p2 &&& (3 : Int32))), .unset, .unset, .unset, .unset, .unset, .unset, .unset, .unset] [(.long (-1 : Int64))]))
    refine Ends.step (fun _ k => XT.lstore X0.here hx rfl (hb hby at_13) rfl (l' := #[.val (.long q0), .second, .val (.int p1), .val (.int p2), .val (.int p3), .val (.int (p2 &&& (3 : Int32))), .val (.long (-1 : Int64)), .second, .unset, .unset, .unset, .unset, .unset, .unset]) rfl k) ?_
    show Ends p e below QQ (s₁.setTop (mkF m 15 #[.val (.long q0), .second, .val (.int p1), .val (.int p2), .val (.int p3), .val (.int (p2 &&& (3 : Int32))), .val (.long (-1 : Int64)), .second, .unset, .unset, .unset, .unset, .unset, .unset] []))
    refine Ends.step (fun _ k => XS.goto X0.here hx rfl (pc0 := 15) (pc' := 39) rfl (hb hby at_15) (by decide) (by decide) k) ?_
    show Ends p e below QQ (s₁.setTop (mkF m 39 #[.val (.long q0), .second, .val (.int p1), .val (.int p2), .val (.int p3), .val (.int (p2 &&& (3 : Int32))), .val (.long (-1 : Int64)), .second, .unset, .unset, .unset, .unset, .unset, .unset] []))
    refine Ends.step (fun _ k => XS.iloadN X0.here hx rfl (hb hby at_39) rfl k) ?_
    show Ends p e below QQ (s₁.setTop (mkF m 40 #[.val (.long q0), .second, .val (.int p1), .val (.int p2), .val (.int p3), .val (.int (p2 &&& (3 : Int32))), .val (.long (-1 : Int64)), .second, .unset, .unset, .unset, .unset, .unset, .unset] [(.int p1)]))
    refine Ends.step (fun _ k => X0.ldcI hx hown (mvT hZ (hw _ (List.mem_of_getElem? (i := 1) rfl))) (g := (mkF m 40 #[.val (.long q0), .second, .val (.int p1), .val (.int p2), .val (.int p3), .val (.int (p2 &&& (3 : Int32))), .val (.long (-1 : Int64)), .second, .unset, .unset, .unset, .unset, .unset, .unset] [(.int p1)])) rfl (hb hby at_40) k) ?_
    show Ends p e below QQ (s₁.setTop (mkF m 42 #[.val (.long q0), .second, .val (.int p1), .val (.int p2), .val (.int p3), .val (.int (p2 &&& (3 : Int32))), .val (.long (-1 : Int64)), .second, .unset, .unset, .unset, .unset, .unset, .unset] [(.int (2147483647 : Int32)), (.int p1)]))
    refine Ends.step (fun _ k => XS.iand X0.here hx rfl (hb hby at_42) rfl k) ?_
    show Ends p e below QQ (s₁.setTop (mkF m 43 #[.val (.long q0), .second, .val (.int p1), .val (.int p2), .val (.int p3), .val (.int (p2 &&& (3 : Int32))), .val (.long (-1 : Int64)), .second, .unset, .unset, .unset, .unset, .unset, .unset] [(.int (p1 &&& (2147483647 : Int32)))]))
    refine Ends.step (fun _ k => XS.istore X0.here hx rfl (hb hby at_43) rfl (l' := #[.val (.long q0), .second, .val (.int p1), .val (.int p2), .val (.int p3), .val (.int (p2 &&& (3 : Int32))), .val (.long (-1 : Int64)), .second, .val (.int (p1 &&& (2147483647 : Int32))), .unset, .unset, .unset, .unset, .unset]) rfl k) ?_
    show Ends p e below QQ (s₁.setTop (mkF m 45 #[.val (.long q0), .second, .val (.int p1), .val (.int p2), .val (.int p3), .val (.int (p2 &&& (3 : Int32))), .val (.long (-1 : Int64)), .second, .val (.int (p1 &&& (2147483647 : Int32))), .unset, .unset, .unset, .unset, .unset] []))
    refine Ends.step (fun _ k => XT.lload X0.here hx rfl (hb hby at_45) rfl k) ?_
    show Ends p e below QQ (s₁.setTop (mkF m 47 #[.val (.long q0), .second, .val (.int p1), .val (.int p2), .val (.int p3), .val (.int (p2 &&& (3 : Int32))), .val (.long (-1 : Int64)), .second, .val (.int (p1 &&& (2147483647 : Int32))), .unset, .unset, .unset, .unset, .unset] [(.long (-1 : Int64))]))
    refine Ends.step (fun _ k => XT.lconstV X0.here hx rfl (0 : Int64) (hb hby at_47) rfl k) ?_
    show Ends p e below QQ (s₁.setTop (mkF m 48 #[.val (.long q0), .second, .val (.int p1), .val (.int p2), .val (.int p3), .val (.int (p2 &&& (3 : Int32))), .val (.long (-1 : Int64)), .second, .val (.int (p1 &&& (2147483647 : Int32))), .unset, .unset, .unset, .unset, .unset] [(.long (0 : Int64)), (.long (-1 : Int64))]))
    refine Ends.step (fun _ k => XT.lcmp X0.here hx rfl (hb hby at_48) rfl k) ?_
    show Ends p e below QQ (s₁.setTop (mkF m 49 #[.val (.long q0), .second, .val (.int p1), .val (.int p2), .val (.int p3), .val (.int (p2 &&& (3 : Int32))), .val (.long (-1 : Int64)), .second, .val (.int (p1 &&& (2147483647 : Int32))), .unset, .unset, .unset, .unset, .unset] [(.int (XT.cmpL (-1 : Int64) (0 : Int64)))]))
    refine Ends.step (fun _ k => XS.ifNo X0.here hx rfl (hb hby at_49) rfl (XT.ll_ge_f (by decide)) k) ?_
    show Ends p e below QQ (s₁.setTop (mkF m 52 #[.val (.long q0), .second, .val (.int p1), .val (.int p2), .val (.int p3), .val (.int (p2 &&& (3 : Int32))), .val (.long (-1 : Int64)), .second, .val (.int (p1 &&& (2147483647 : Int32))), .unset, .unset, .unset, .unset, .unset] []))
    refine Ends.step (fun _ k => XT.lload X0.here hx rfl (hb hby at_52) rfl k) ?_
    show Ends p e below QQ (s₁.setTop (mkF m 54 #[.val (.long q0), .second, .val (.int p1), .val (.int p2), .val (.int p3), .val (.int (p2 &&& (3 : Int32))), .val (.long (-1 : Int64)), .second, .val (.int (p1 &&& (2147483647 : Int32))), .unset, .unset, .unset, .unset, .unset] [(.long (-1 : Int64))]))
    refine Ends.step (fun _ k => X0.ldc2J hx hown (mvT hZ (hw _ (List.mem_of_getElem? (i := 0) rfl))) (g := (mkF m 54 #[.val (.long q0), .second, .val (.int p1), .val (.int p2), .val (.int p3), .val (.int (p2 &&& (3 : Int32))), .val (.long (-1 : Int64)), .second, .val (.int (p1 &&& (2147483647 : Int32))), .unset, .unset, .unset, .unset, .unset] [(.long (-1 : Int64))])) rfl (hb hby at_54) k) ?_
    show Ends p e below QQ (s₁.setTop (mkF m 57 #[.val (.long q0), .second, .val (.int p1), .val (.int p2), .val (.int p3), .val (.int (p2 &&& (3 : Int32))), .val (.long (-1 : Int64)), .second, .val (.int (p1 &&& (2147483647 : Int32))), .unset, .unset, .unset, .unset, .unset] [(.long (-2 : Int64)), (.long (-1 : Int64))]))
    refine Ends.step (fun _ k => XT.lcmp X0.here hx rfl (hb hby at_57) rfl k) ?_
    show Ends p e below QQ (s₁.setTop (mkF m 58 #[.val (.long q0), .second, .val (.int p1), .val (.int p2), .val (.int p3), .val (.int (p2 &&& (3 : Int32))), .val (.long (-1 : Int64)), .second, .val (.int (p1 &&& (2147483647 : Int32))), .unset, .unset, .unset, .unset, .unset] [(.int (XT.cmpL (-1 : Int64) (-2 : Int64)))]))
    refine Ends.step (fun _ k => XS.ifNo X0.here hx rfl (hb hby at_58) rfl (XT.ll_eq_f (by decide)) k) ?_
    show Ends p e below QQ (s₁.setTop (mkF m 61 #[.val (.long q0), .second, .val (.int p1), .val (.int p2), .val (.int p3), .val (.int (p2 &&& (3 : Int32))), .val (.long (-1 : Int64)), .second, .val (.int (p1 &&& (2147483647 : Int32))), .unset, .unset, .unset, .unset, .unset] []))
    refine Ends.step (fun _ k => XT.iconstV X0.here hx rfl (1 : Int32) (hb hby at_61) rfl k) ?_
    show Ends p e below QQ (s₁.setTop (mkF m 62 #[.val (.long q0), .second, .val (.int p1), .val (.int p2), .val (.int p3), .val (.int (p2 &&& (3 : Int32))), .val (.long (-1 : Int64)), .second, .val (.int (p1 &&& (2147483647 : Int32))), .unset, .unset, .unset, .unset, .unset] [(.int (1 : Int32))]))
    refine Ends.step (fun _ k => XS.goto X0.here hx rfl (pc0 := 62) (pc' := 66) rfl (hb hby at_62) (by decide) (by decide) k) ?_
    show Ends p e below QQ (s₁.setTop (mkF m 66 #[.val (.long q0), .second, .val (.int p1), .val (.int p2), .val (.int p3), .val (.int (p2 &&& (3 : Int32))), .val (.long (-1 : Int64)), .second, .val (.int (p1 &&& (2147483647 : Int32))), .unset, .unset, .unset, .unset, .unset] [(.int (1 : Int32))]))
    refine Ends.step (fun _ k => XS.istore X0.here hx rfl (hb hby at_66) rfl (l' := #[.val (.long q0), .second, .val (.int p1), .val (.int p2), .val (.int p3), .val (.int (p2 &&& (3 : Int32))), .val (.long (-1 : Int64)), .second, .val (.int (p1 &&& (2147483647 : Int32))), .val (.int (1 : Int32)), .unset, .unset, .unset, .unset]) rfl k) ?_
    show Ends p e below QQ (s₁.setTop (mkF m 68 #[.val (.long q0), .second, .val (.int p1), .val (.int p2), .val (.int p3), .val (.int (p2 &&& (3 : Int32))), .val (.long (-1 : Int64)), .second, .val (.int (p1 &&& (2147483647 : Int32))), .val (.int (1 : Int32)), .unset, .unset, .unset, .unset] []))
    obtain ⟨T206, h206, X206, e206, E206, A206, D206, U206, st206⟩ := newO X0 hx hZ hown (hw _ (List.mem_of_getElem? (i := 2) rfl)) (hw _ (List.mem_of_getElem? (i := 3) rfl)) (hw _ (List.mem_of_getElem? (i := 4) rfl)) e0 (g := (mkF m 68 #[.val (.long q0), .second, .val (.int p1), .val (.int p2), .val (.int p3), .val (.int (p2 &&& (3 : Int32))), .val (.long (-1 : Int64)), .second, .val (.int (p1 &&& (2147483647 : Int32))), .val (.int (1 : Int32)), .unset, .unset, .unset, .unset] [])) rfl (hb hby at_68) (by decide) (by decide)
    obtain ⟨b206, g206⟩ : ∃ z, z = h0.size := ⟨_, rfl⟩
    rw [← g206] at A206 D206 U206 st206
    have ne_a_NONE_b206 : a_NONE ≠ b206 := Nat.ne_of_lt (Nat.lt_of_lt_of_le E_a_NONE.lt (Nat.le_of_eq g206.symm))
    have ne_a_SIZE_LINE_b206 : a_SIZE_LINE ≠ b206 := Nat.ne_of_lt (Nat.lt_of_lt_of_le E_a_SIZE_LINE.lt (Nat.le_of_eq g206.symm))
    have ne_a_ENDED_b206 : a_ENDED ≠ b206 := Nat.ne_of_lt (Nat.lt_of_lt_of_le E_a_ENDED.lt (Nat.le_of_eq g206.symm))
    have ne_a_DATA_b206 : a_DATA ≠ b206 := Nat.ne_of_lt (Nat.lt_of_lt_of_le E_a_DATA.lt (Nat.le_of_eq g206.symm))
    have g_b206 : n0 ≤ b206 := Nat.le_trans Z0 (Nat.le_trans (Keep.refl h0 []).1 (Nat.le_of_eq g206.symm))
    have sz_b206 : h0.size ≤ b206 := Nat.le_trans (Keep.refl h0 []).1 (Nat.le_of_eq g206.symm)
    have E_a_NONE := E_a_NONE.ext E206
    have E_a_SIZE_LINE := E_a_SIZE_LINE.ext E206
    have E_a_ENDED := E_a_ENDED.ext E206
    have E_a_DATA := E_a_DATA.ext E206
    have F_ordinal_a_SIZE_LINE := F_ordinal_a_SIZE_LINE.ext E206
    have F_ordinal_a_ENDED := F_ordinal_a_ENDED.ext E206
    have F_ordinal_a_DATA := F_ordinal_a_DATA.ext E206
    have A_a_NONE := A_a_NONE.ext E206
    have S_NONE := S_NONE.ext E206
    have S_SIZE_LINE := S_SIZE_LINE.ext E206
    have S_ENDED := S_ENDED.ext E206
    have S_DATA := S_DATA.ext E206
    have S_COMPACT_STRINGS := S_COMPACT_STRINGS.ext E206
    have K206 := (Keep.refl h0 []).ext E206
    have E_b206 := A206
    have F_data_b206 : Fld Z h206 b206 "com/example/gatehook/gatehook/http/IncomingBody" "data" "[B" .null := D206 (Or.inl (hw _ (List.mem_of_getElem? (i := 14) rfl))) (ty := (.array .byte)) (by decide)
    have F_length_b206 : Fld Z h206 b206 "com/example/gatehook/gatehook/http/IncomingBody" "length" "J" (.long (0 : Int64)) := D206 (Or.inr (hw _ (List.mem_of_getElem? (i := 16) rfl))) (ty := .long) (by decide)
    have F_max_b206 : Fld Z h206 b206 "com/example/gatehook/gatehook/http/IncomingBody" "max" "I" (.int (0 : Int32)) := D206 (Or.inr (hw _ (List.mem_of_getElem? (i := 18) rfl))) (ty := .int) (by decide)
    have F_chunks_b206 : Fld Z h206 b206 "com/example/gatehook/gatehook/http/IncomingBody" "chunks" "Lcom/example/gatehook/gatehook/http/ChunkedBody;" .null := D206 (Or.inl (hw _ (List.mem_of_getElem? (i := 78) rfl))) (ty := (.object "com/example/gatehook/gatehook/http/ChunkedBody")) (by decide)
    have F_ended_b206 : Fld Z h206 b206 "com/example/gatehook/gatehook/http/IncomingBody" "ended" "Z" (.int (0 : Int32)) := D206 (Or.inl (hw _ (List.mem_of_getElem? (i := 91) rfl))) (ty := .boolean) (by decide)
    have F_dataLength_b206 : Fld Z h206 b206 "com/example/gatehook/gatehook/http/IncomingBody" "dataLength" "I" (.int (0 : Int32)) := D206 (Or.inl (hw _ (List.mem_of_getElem? (i := 106) rfl))) (ty := .int) (by decide)
    refine Ends.step st206 ?_
    show Ends p e below QQ (T206.setTop (mkF m 71 #[.val (.long q0), .second, .val (.int p1), .val (.int p2), .val (.int p3), .val (.int (p2 &&& (3 : Int32))), .val (.long (-1 : Int64)), .second, .val (.int (p1 &&& (2147483647 : Int32))), .val (.int (1 : Int32)), .unset, .unset, .unset, .unset] [(.ref b206)]))
    refine Ends.step (fun _ k => XS.dup X206.here hx rfl (hb hby at_71) rfl rfl k) ?_
    show Ends p e below QQ (T206.setTop (mkF m 72 #[.val (.long q0), .second, .val (.int p1), .val (.int p2), .val (.int p3), .val (.int (p2 &&& (3 : Int32))), .val (.long (-1 : Int64)), .second, .val (.int (p1 &&& (2147483647 : Int32))), .val (.int (1 : Int32)), .unset, .unset, .unset, .unset] [(.ref b206), (.ref b206)]))
    refine Ends.step (fun _ k => XT.lload X206.here hx rfl (hb hby at_72) rfl k) ?_
    show Ends p e below QQ (T206.setTop (mkF m 74 #[.val (.long q0), .second, .val (.int p1), .val (.int p2), .val (.int p3), .val (.int (p2 &&& (3 : Int32))), .val (.long (-1 : Int64)), .second, .val (.int (p1 &&& (2147483647 : Int32))), .val (.int (1 : Int32)), .unset, .unset, .unset, .unset] [(.long (-1 : Int64)), (.ref b206), (.ref b206)]))
    refine Ends.step (fun _ k => XS.iload X206.here hx rfl (hb hby at_74) rfl k) ?_
    show Ends p e below QQ (T206.setTop (mkF m 76 #[.val (.long q0), .second, .val (.int p1), .val (.int p2), .val (.int p3), .val (.int (p2 &&& (3 : Int32))), .val (.long (-1 : Int64)), .second, .val (.int (p1 &&& (2147483647 : Int32))), .val (.int (1 : Int32)), .unset, .unset, .unset, .unset] [(.int (p1 &&& (2147483647 : Int32))), (.long (-1 : Int64)), (.ref b206), (.ref b206)]))
    obtain ⟨_, _, ⟨T207, L207, k207, n207⟩, -, X207, ⟨Lc207, hQ207, l207, y207, z207⟩, st207⟩ := X206.specialBack hx (y := (⟨"com/example/gatehook/gatehook/http/IncomingBody", "<init>", "(JI)V"⟩ : MethodName)) rfl hown (mvT hZ (hw _ (List.mem_of_getElem? (i := 5) rfl))) (mvT hZ (hw _ (List.mem_of_getElem? (i := 6) rfl))) (mvT hZ (hw _ (List.mem_of_getElem? (i := 7) rfl))) (by decide) (backOf (W := 1) (rmid l Z a0 hw [] b206 (-1 : Int64) (p1 &&& (2147483647 : Int32)) a_NONE h206 n0 (Nat.le_trans Z0 K206.1) E_b206 F_data_b206 F_length_b206 F_max_b206 F_chunks_b206 F_ended_b206 F_dataLength_b206 g_b206 S_NONE (by decide) (own_pm1 p1) (by decide)) hZ (hw _ (List.mem_of_getElem? (i := 7) rfl)) (hw _ (List.mem_of_getElem? (i := 4) rfl)) (by decide) (by decide)) (g := (mkF m 76 #[.val (.long q0), .second, .val (.int p1), .val (.int p2), .val (.int p3), .val (.int (p2 &&& (3 : Int32))), .val (.long (-1 : Int64)), .second, .val (.int (p1 &&& (2147483647 : Int32))), .val (.int (1 : Int32)), .unset, .unset, .unset, .unset] [(.int (p1 &&& (2147483647 : Int32))), (.long (-1 : Int64)), (.ref b206), (.ref b206)])) rfl (by rw [hml]; rfl) (Steps.refl _) (a := b206) (argsL := [(.long (-1 : Int64)), (.int (p1 &&& (2147483647 : Int32)))]) (rest := [(.ref b206)]) (lenOf pd_13 rfl) rfl (by show 2 * 0 + _ ≤ _; exact Nat.le_of_eq rfl) (hb hby at_76) (fun _ _ => ⟨rfl, e206, (by decide : 1 + 0 ≤ _), (by decide : 6 + 0 ≤ _)⟩)
    dsimp only [Pt.U, Pt.locs, Pt.cells, Pt.slots] at X207 l207 y207 z207 st207 hQ207
    subst l207 y207 z207
    obtain ⟨rfl, Nq207, Kq207, fq207_0, fq207_1, fq207_2, fq207_3, fq207_4, fq207_5, fq207_6⟩ := hQ207
    have N207 := Fr.app N0 Nq207
    have S_NONE := own_sta_keep S_NONE Kq207 (allS E_b206.cell all0)
    have S_SIZE_LINE := own_sta_keep S_SIZE_LINE Kq207 (allS E_b206.cell all0)
    have S_ENDED := own_sta_keep S_ENDED Kq207 (allS E_b206.cell all0)
    have S_DATA := own_sta_keep S_DATA Kq207 (allS E_b206.cell all0)
    have S_COMPACT_STRINGS := own_sta_keep S_COMPACT_STRINGS Kq207 (allS E_b206.cell all0)
    have E_a_NONE := E_a_NONE.keep Kq207
    have E_a_SIZE_LINE := E_a_SIZE_LINE.keep Kq207
    have E_a_ENDED := E_a_ENDED.keep Kq207
    have E_a_DATA := E_a_DATA.keep Kq207
    have F_ordinal_a_SIZE_LINE := F_ordinal_a_SIZE_LINE.keep Kq207 (ninS ne_a_SIZE_LINE_b206 nin0)
    have F_ordinal_a_ENDED := F_ordinal_a_ENDED.keep Kq207 (ninS ne_a_ENDED_b206 nin0)
    have F_ordinal_a_DATA := F_ordinal_a_DATA.keep Kq207 (ninS ne_a_DATA_b206 nin0)
    have A_a_NONE := A_a_NONE.keep Kq207 (ninS ne_a_NONE_b206 nin0)
    have E_b206 := fq207_0
    have F_length_b206 := fq207_1
    have F_max_b206 := fq207_2
    have F_ended_b206 := fq207_3
    have F_chunks_b206 := fq207_4
    have F_dataLength_b206 := fq207_5
    have F_data_b206 := fq207_6
    have K207 := K206.trans Kq207 (allS (Or.inr sz_b206) all0)
    refine Ends.step (fun _ k => st207.trans k) ?_
    show Ends p e below QQ (T207.setTop (mkF m 79 #[.val (.long q0), .second, .val (.int p1), .val (.int p2), .val (.int p3), .val (.int (p2 &&& (3 : Int32))), .val (.long (-1 : Int64)), .second, .val (.int (p1 &&& (2147483647 : Int32))), .val (.int (1 : Int32)), .unset, .unset, .unset, .unset] [(.ref b206)]))
    refine Ends.step (fun _ k => XS.astore X207.here hx rfl (hb hby at_79) rfl rfl (l' := #[.val (.long q0), .second, .val (.int p1), .val (.int p2), .val (.int p3), .val (.int (p2 &&& (3 : Int32))), .val (.long (-1 : Int64)), .second, .val (.int (p1 &&& (2147483647 : Int32))), .val (.int (1 : Int32)), .val (.ref b206), .unset, .unset, .unset]) rfl k) ?_
    show Ends p e below QQ (T207.setTop (mkF m 81 #[.val (.long q0), .second, .val (.int p1), .val (.int p2), .val (.int p3), .val (.int (p2 &&& (3 : Int32))), .val (.long (-1 : Int64)), .second, .val (.int (p1 &&& (2147483647 : Int32))), .val (.int (1 : Int32)), .val (.ref b206), .unset, .unset, .unset] []))
    refine Ends.step (fun _ k => XS.aload X207.here hx rfl (hb hby at_81) rfl rfl k) ?_
    show Ends p e below QQ (T207.setTop (mkF m 83 #[.val (.long q0), .second, .val (.int p1), .val (.int p2), .val (.int p3), .val (.int (p2 &&& (3 : Int32))), .val (.long (-1 : Int64)), .second, .val (.int (p1 &&& (2147483647 : Int32))), .val (.int (1 : Int32)), .val (.ref b206), .unset, .unset, .unset] [(.ref b206)]))
    obtain ⟨cq208, kq208, q208a, q208b, q208c⟩ := isOf hZ rfl E_b206
    obtain ⟨_, _, ⟨T208, L208, k208, n208⟩, -, X208, ⟨Lc208, hQ208, l208, y208, z208⟩, st208⟩ := X207.virtualBack hx (y := (⟨"com/example/gatehook/gatehook/http/IncomingBody", "lastsUntilClose", "()Z"⟩ : MethodName)) (z := (⟨"com/example/gatehook/gatehook/http/IncomingBody", "lastsUntilClose", "()Z"⟩ : MethodName)) hown (mvT hZ (hw _ (List.mem_of_getElem? (i := 79) rfl))) (mvT hZ (hw _ (List.mem_of_getElem? (i := 80) rfl))) (notFace_of_selects (args := #[]) (mvT hZ (hw _ (List.mem_of_getElem? (i := 82) rfl)))) (mvT hZ (hw _ (List.mem_of_getElem? (i := 82) rfl))) (mvT hZ (hw _ (List.mem_of_getElem? (i := 81) rfl))) (by decide) (backOf (W := 0) (rmluc l Z a0 hw [] b206 (-1 : Int64) T207.heap n0 (Nat.le_trans Z0 K207.1) F_length_b206) hZ (hw _ (List.mem_of_getElem? (i := 83) rfl)) (hw _ (List.mem_of_getElem? (i := 4) rfl)) (by decide) (by decide)) q208a q208c (g := (mkF m 83 #[.val (.long q0), .second, .val (.int p1), .val (.int p2), .val (.int p3), .val (.int (p2 &&& (3 : Int32))), .val (.long (-1 : Int64)), .second, .val (.int (p1 &&& (2147483647 : Int32))), .val (.int (1 : Int32)), .val (.ref b206), .unset, .unset, .unset] [(.ref b206)])) rfl (by rw [hml]; rfl) (Steps.refl _) (argsL := []) (rest := []) (lenOf pd_6 rfl) rfl (by show 2 * 0 + _ ≤ _; exact Nat.le_of_eq rfl) (hb hby at_83) (fun _ _ => ⟨rfl, rfl, (by decide : 1 + 0 ≤ _), (by decide : 6 + 0 ≤ _)⟩)
    dsimp only [Pt.U, Pt.locs, Pt.cells, Pt.slots] at X208 l208 y208 z208 st208 hQ208
    subst l208 y208 z208
    obtain ⟨rfl, Nq208, hh208⟩ := hQ208
    have N208 := Fr.app N207 Nq208
    refine Ends.step (fun _ k => st208.trans k) ?_
    show Ends p e below QQ (T208.setTop (mkF m 86 #[.val (.long q0), .second, .val (.int p1), .val (.int p2), .val (.int p3), .val (.int (p2 &&& (3 : Int32))), .val (.long (-1 : Int64)), .second, .val (.int (p1 &&& (2147483647 : Int32))), .val (.int (1 : Int32)), .val (.ref b206), .unset, .unset, .unset] [(.int (fluc (-1 : Int64)))]))
    refine Ends.step (fun _ k => XS.istore X208.here hx rfl (hb hby at_86) rfl (l' := #[.val (.long q0), .second, .val (.int p1), .val (.int p2), .val (.int p3), .val (.int (p2 &&& (3 : Int32))), .val (.long (-1 : Int64)), .second, .val (.int (p1 &&& (2147483647 : Int32))), .val (.int (1 : Int32)), .val (.ref b206), .val (.int (fluc (-1 : Int64))), .unset, .unset]) rfl k) ?_
    show Ends p e below QQ (T208.setTop (mkF m 88 #[.val (.long q0), .second, .val (.int p1), .val (.int p2), .val (.int p3), .val (.int (p2 &&& (3 : Int32))), .val (.long (-1 : Int64)), .second, .val (.int (p1 &&& (2147483647 : Int32))), .val (.int (1 : Int32)), .val (.ref b206), .val (.int (fluc (-1 : Int64))), .unset, .unset] []))
    refine Ends.step (fun _ k => XT.iconstV X208.here hx rfl (1 : Int32) (hb hby at_88) rfl k) ?_
    show Ends p e below QQ (T208.setTop (mkF m 89 #[.val (.long q0), .second, .val (.int p1), .val (.int p2), .val (.int p3), .val (.int (p2 &&& (3 : Int32))), .val (.long (-1 : Int64)), .second, .val (.int (p1 &&& (2147483647 : Int32))), .val (.int (1 : Int32)), .val (.ref b206), .val (.int (fluc (-1 : Int64))), .unset, .unset] [(.int (1 : Int32))]))
    obtain ⟨T209, h209, k209, X209, e209, E209, A209, st209⟩ := newP X208 hx hZ (hw _ (List.mem_of_getElem? (i := 44) rfl)) hh208 (g := (mkF m 89 #[.val (.long q0), .second, .val (.int p1), .val (.int p2), .val (.int p3), .val (.int (p2 &&& (3 : Int32))), .val (.long (-1 : Int64)), .second, .val (.int (p1 &&& (2147483647 : Int32))), .val (.int (1 : Int32)), .val (.ref b206), .val (.int (fluc (-1 : Int64))), .unset, .unset] [(.int (1 : Int32))])) rfl (hb hby at_89) rfl (by decide) (cap := 1) (by decide) (by decide) (by decide) (by decide)
    obtain ⟨b209, g209⟩ : ∃ z, z = T207.heap.size := ⟨_, rfl⟩
    rw [← g209] at A209 st209
    have ne_a_NONE_b209 : a_NONE ≠ b209 := Nat.ne_of_lt (Nat.lt_of_lt_of_le E_a_NONE.lt (Nat.le_of_eq g209.symm))
    have ne_a_SIZE_LINE_b209 : a_SIZE_LINE ≠ b209 := Nat.ne_of_lt (Nat.lt_of_lt_of_le E_a_SIZE_LINE.lt (Nat.le_of_eq g209.symm))
    have ne_a_ENDED_b209 : a_ENDED ≠ b209 := Nat.ne_of_lt (Nat.lt_of_lt_of_le E_a_ENDED.lt (Nat.le_of_eq g209.symm))
    have ne_a_DATA_b209 : a_DATA ≠ b209 := Nat.ne_of_lt (Nat.lt_of_lt_of_le E_a_DATA.lt (Nat.le_of_eq g209.symm))
    have ne_b206_b209 : b206 ≠ b209 := Nat.ne_of_lt (Nat.lt_of_lt_of_le E_b206.lt (Nat.le_of_eq g209.symm))
    have g_b209 : n0 ≤ b209 := Nat.le_trans Z0 (Nat.le_trans K207.1 (Nat.le_of_eq g209.symm))
    have sz_b209 : h0.size ≤ b209 := Nat.le_trans K207.1 (Nat.le_of_eq g209.symm)
    have E_a_NONE := E_a_NONE.ext E209
    have E_a_SIZE_LINE := E_a_SIZE_LINE.ext E209
    have E_a_ENDED := E_a_ENDED.ext E209
    have E_a_DATA := E_a_DATA.ext E209
    have F_ordinal_a_SIZE_LINE := F_ordinal_a_SIZE_LINE.ext E209
    have F_ordinal_a_ENDED := F_ordinal_a_ENDED.ext E209
    have F_ordinal_a_DATA := F_ordinal_a_DATA.ext E209
    have A_a_NONE := A_a_NONE.ext E209
    have S_NONE := S_NONE.ext E209
    have S_SIZE_LINE := S_SIZE_LINE.ext E209
    have S_ENDED := S_ENDED.ext E209
    have S_DATA := S_DATA.ext E209
    have S_COMPACT_STRINGS := S_COMPACT_STRINGS.ext E209
    have E_b206 := E_b206.ext E209
    have F_data_b206 := F_data_b206.ext E209
    have F_length_b206 := F_length_b206.ext E209
    have F_max_b206 := F_max_b206.ext E209
    have F_chunks_b206 := F_chunks_b206.ext E209
    have F_ended_b206 := F_ended_b206.ext E209
    have F_dataLength_b206 := F_dataLength_b206.ext E209
    have K209 := K207.ext E209
    have A_b209 : Arv Z h209 b209 k209 .byte (1 : Int32) [(.int (0 : Int32))] (.int (0 : Int32)) := (Arv.new A209 (by decide)).pad (pad_rep [] (.int (0 : Int32)) 1)
    refine Ends.step st209 ?_
    show Ends p e below QQ (T209.setTop (mkF m 91 #[.val (.long q0), .second, .val (.int p1), .val (.int p2), .val (.int p3), .val (.int (p2 &&& (3 : Int32))), .val (.long (-1 : Int64)), .second, .val (.int (p1 &&& (2147483647 : Int32))), .val (.int (1 : Int32)), .val (.ref b206), .val (.int (fluc (-1 : Int64))), .unset, .unset] [(.ref b209)]))
    refine Ends.step (fun _ k => XS.astore X209.here hx rfl (hb hby at_91) rfl rfl (l' := #[.val (.long q0), .second, .val (.int p1), .val (.int p2), .val (.int p3), .val (.int (p2 &&& (3 : Int32))), .val (.long (-1 : Int64)), .second, .val (.int (p1 &&& (2147483647 : Int32))), .val (.int (1 : Int32)), .val (.ref b206), .val (.int (fluc (-1 : Int64))), .val (.ref b209), .unset]) rfl k) ?_
    show Ends p e below QQ (T209.setTop (mkF m 93 #[.val (.long q0), .second, .val (.int p1), .val (.int p2), .val (.int p3), .val (.int (p2 &&& (3 : Int32))), .val (.long (-1 : Int64)), .second, .val (.int (p1 &&& (2147483647 : Int32))), .val (.int (1 : Int32)), .val (.ref b206), .val (.int (fluc (-1 : Int64))), .val (.ref b209), .unset] []))
    refine Ends.step (fun _ k => XS.aload X209.here hx rfl (hb hby at_93) rfl rfl k) ?_
    show Ends p e below QQ (T209.setTop (mkF m 95 #[.val (.long q0), .second, .val (.int p1), .val (.int p2), .val (.int p3), .val (.int (p2 &&& (3 : Int32))), .val (.long (-1 : Int64)), .second, .val (.int (p1 &&& (2147483647 : Int32))), .val (.int (1 : Int32)), .val (.ref b206), .val (.int (fluc (-1 : Int64))), .val (.ref b209), .unset] [(.ref b209)]))
    refine Ends.step (fun _ k => XT.iconstV X209.here hx rfl (0 : Int32) (hb hby at_95) rfl k) ?_
    show Ends p e below QQ (T209.setTop (mkF m 96 #[.val (.long q0), .second, .val (.int p1), .val (.int p2), .val (.int p3), .val (.int (p2 &&& (3 : Int32))), .val (.long (-1 : Int64)), .second, .val (.int (p1 &&& (2147483647 : Int32))), .val (.int (1 : Int32)), .val (.ref b206), .val (.int (fluc (-1 : Int64))), .val (.ref b209), .unset] [(.int (0 : Int32)), (.ref b209)]))
    refine Ends.step (fun _ k => XS.iload X209.here hx rfl (hb hby at_96) rfl k) ?_
    show Ends p e below QQ (T209.setTop (mkF m 98 #[.val (.long q0), .second, .val (.int p1), .val (.int p2), .val (.int p3), .val (.int (p2 &&& (3 : Int32))), .val (.long (-1 : Int64)), .second, .val (.int (p1 &&& (2147483647 : Int32))), .val (.int (1 : Int32)), .val (.ref b206), .val (.int (fluc (-1 : Int64))), .val (.ref b209), .unset] [(.int p3), (.int (0 : Int32)), (.ref b209)]))
    refine Ends.step (fun _ k => XT.bipushV X209.here hx rfl (63 : Int32) (hb hby at_98) rfl k) ?_
    show Ends p e below QQ (T209.setTop (mkF m 100 #[.val (.long q0), .second, .val (.int p1), .val (.int p2), .val (.int p3), .val (.int (p2 &&& (3 : Int32))), .val (.long (-1 : Int64)), .second, .val (.int (p1 &&& (2147483647 : Int32))), .val (.int (1 : Int32)), .val (.ref b206), .val (.int (fluc (-1 : Int64))), .val (.ref b209), .unset] [(.int (63 : Int32)), (.int p3), (.int (0 : Int32)), (.ref b209)]))
    refine Ends.step (fun _ k => XS.iand X209.here hx rfl (hb hby at_100) rfl k) ?_
    show Ends p e below QQ (T209.setTop (mkF m 101 #[.val (.long q0), .second, .val (.int p1), .val (.int p2), .val (.int p3), .val (.int (p2 &&& (3 : Int32))), .val (.long (-1 : Int64)), .second, .val (.int (p1 &&& (2147483647 : Int32))), .val (.int (1 : Int32)), .val (.ref b206), .val (.int (fluc (-1 : Int64))), .val (.ref b209), .unset] [(.int (p3 &&& (63 : Int32))), (.int (0 : Int32)), (.ref b209)]))
    refine Ends.step (fun _ k => XT.bipushV X209.here hx rfl (64 : Int32) (hb hby at_101) rfl k) ?_
    show Ends p e below QQ (T209.setTop (mkF m 103 #[.val (.long q0), .second, .val (.int p1), .val (.int p2), .val (.int p3), .val (.int (p2 &&& (3 : Int32))), .val (.long (-1 : Int64)), .second, .val (.int (p1 &&& (2147483647 : Int32))), .val (.int (1 : Int32)), .val (.ref b206), .val (.int (fluc (-1 : Int64))), .val (.ref b209), .unset] [(.int (64 : Int32)), (.int (p3 &&& (63 : Int32))), (.int (0 : Int32)), (.ref b209)]))
    refine Ends.step (fun _ k => XS.iadd X209.here hx rfl (hb hby at_103) rfl k) ?_
    show Ends p e below QQ (T209.setTop (mkF m 104 #[.val (.long q0), .second, .val (.int p1), .val (.int p2), .val (.int p3), .val (.int (p2 &&& (3 : Int32))), .val (.long (-1 : Int64)), .second, .val (.int (p1 &&& (2147483647 : Int32))), .val (.int (1 : Int32)), .val (.ref b206), .val (.int (fluc (-1 : Int64))), .val (.ref b209), .unset] [(.int ((p3 &&& (63 : Int32)) + (64 : Int32))), (.int (0 : Int32)), (.ref b209)]))
    refine Ends.step (fun _ k => XT.i2b X209.here hx rfl (hb hby at_104) rfl k) ?_
    show Ends p e below QQ (T209.setTop (mkF m 105 #[.val (.long q0), .second, .val (.int p1), .val (.int p2), .val (.int p3), .val (.int (p2 &&& (3 : Int32))), .val (.long (-1 : Int64)), .second, .val (.int (p1 &&& (2147483647 : Int32))), .val (.int (1 : Int32)), .val (.ref b206), .val (.int (fluc (-1 : Int64))), .val (.ref b209), .unset] [(.int ((p3 &&& (63 : Int32)) + (64 : Int32)).toInt8.toInt32), (.int (0 : Int32)), (.ref b209)]))
    obtain ⟨cl210, Ar210, q210, S210, P210, H210, G210⟩ := id A_b209
    have hin210 : ¬ ((0 : Int32) < 0 ∨ cl210.slots.size ≤ ((0 : Int32)).toNatClampNeg) := inb_of S210 ⟨by decide, by decide⟩
    obtain ⟨T211, h211, X211, e211, W211, st211⟩ := stB X209 hx hZ e209 Ar210 (j := (0 : Int32)) hin210 (g := (mkF m 105 #[.val (.long q0), .second, .val (.int p1), .val (.int p2), .val (.int p3), .val (.int (p2 &&& (3 : Int32))), .val (.long (-1 : Int64)), .second, .val (.int (p1 &&& (2147483647 : Int32))), .val (.int (1 : Int32)), .val (.ref b206), .val (.int (fluc (-1 : Int64))), .val (.ref b209), .unset] [(.int ((p3 &&& (63 : Int32)) + (64 : Int32)).toInt8.toInt32), (.int (0 : Int32)), (.ref b209)])) rfl rfl (hb hby at_105)
    rw [own_narb] at W211
    have E_a_NONE := E_a_NONE.wr W211
    have E_a_SIZE_LINE := E_a_SIZE_LINE.wr W211
    have E_a_ENDED := E_a_ENDED.wr W211
    have E_a_DATA := E_a_DATA.wr W211
    have F_ordinal_a_SIZE_LINE := F_ordinal_a_SIZE_LINE.other W211 (Or.inl ne_a_SIZE_LINE_b209)
    have F_ordinal_a_ENDED := F_ordinal_a_ENDED.other W211 (Or.inl ne_a_ENDED_b209)
    have F_ordinal_a_DATA := F_ordinal_a_DATA.other W211 (Or.inl ne_a_DATA_b209)
    have A_a_NONE := A_a_NONE.other W211 ne_a_NONE_b209
    have S_NONE := S_NONE.wr W211
    have S_SIZE_LINE := S_SIZE_LINE.wr W211
    have S_ENDED := S_ENDED.wr W211
    have S_DATA := S_DATA.wr W211
    have S_COMPACT_STRINGS := S_COMPACT_STRINGS.wr W211
    have E_b206 := E_b206.wr W211
    have F_data_b206 := F_data_b206.other W211 (Or.inl ne_b206_b209)
    have F_length_b206 := F_length_b206.other W211 (Or.inl ne_b206_b209)
    have F_max_b206 := F_max_b206.other W211 (Or.inl ne_b206_b209)
    have F_chunks_b206 := F_chunks_b206.other W211 (Or.inl ne_b206_b209)
    have F_ended_b206 := F_ended_b206.other W211 (Or.inl ne_b206_b209)
    have F_dataLength_b206 := F_dataLength_b206.other W211 (Or.inl ne_b206_b209)
    have A_b209 : Arv Z h211 b209 k209 .byte (1 : Int32) [(.int ((p3 &&& (63 : Int32)) + (64 : Int32)).toInt8.toInt32)] (.int (0 : Int32)) := Arv.set Ar210 q210 S210 P210 H210 G210 (fits_nar_byte _) W211 0 rfl (Nat.le_of_ble_eq_true rfl)
    have K211 := K209.wr W211 (Or.inr sz_b209)
    have N211 := Fr.snoc X211 N208 g_b209
    refine Ends.step st211 ?_
    show Ends p e below QQ (T211.setTop (mkF m 106 #[.val (.long q0), .second, .val (.int p1), .val (.int p2), .val (.int p3), .val (.int (p2 &&& (3 : Int32))), .val (.long (-1 : Int64)), .second, .val (.int (p1 &&& (2147483647 : Int32))), .val (.int (1 : Int32)), .val (.ref b206), .val (.int (fluc (-1 : Int64))), .val (.ref b209), .unset] []))
    refine Ends.step (fun _ k => XS.aload X211.here hx rfl (hb hby at_106) rfl rfl k) ?_
    show Ends p e below QQ (T211.setTop (mkF m 108 #[.val (.long q0), .second, .val (.int p1), .val (.int p2), .val (.int p3), .val (.int (p2 &&& (3 : Int32))), .val (.long (-1 : Int64)), .second, .val (.int (p1 &&& (2147483647 : Int32))), .val (.int (1 : Int32)), .val (.ref b206), .val (.int (fluc (-1 : Int64))), .val (.ref b209), .unset] [(.ref b206)]))
    refine Ends.step (fun _ k => XS.aload X211.here hx rfl (hb hby at_108) rfl rfl k) ?_
    show Ends p e below QQ (T211.setTop (mkF m 110 #[.val (.long q0), .second, .val (.int p1), .val (.int p2), .val (.int p3), .val (.int (p2 &&& (3 : Int32))), .val (.long (-1 : Int64)), .second, .val (.int (p1 &&& (2147483647 : Int32))), .val (.int (1 : Int32)), .val (.ref b206), .val (.int (fluc (-1 : Int64))), .val (.ref b209), .unset] [(.ref b209), (.ref b206)]))
    refine Ends.step (fun _ k => XT.iconstV X211.here hx rfl (0 : Int32) (hb hby at_110) rfl k) ?_
    show Ends p e below QQ (T211.setTop (mkF m 111 #[.val (.long q0), .second, .val (.int p1), .val (.int p2), .val (.int p3), .val (.int (p2 &&& (3 : Int32))), .val (.long (-1 : Int64)), .second, .val (.int (p1 &&& (2147483647 : Int32))), .val (.int (1 : Int32)), .val (.ref b206), .val (.int (fluc (-1 : Int64))), .val (.ref b209), .unset] [(.int (0 : Int32)), (.ref b209), (.ref b206)]))
    refine Ends.step (fun _ k => XS.iload X211.here hx rfl (hb hby at_111) rfl k) ?_
    show Ends p e below QQ (T211.setTop (mkF m 113 #[.val (.long q0), .second, .val (.int p1), .val (.int p2), .val (.int p3), .val (.int (p2 &&& (3 : Int32))), .val (.long (-1 : Int64)), .second, .val (.int (p1 &&& (2147483647 : Int32))), .val (.int (1 : Int32)), .val (.ref b206), .val (.int (fluc (-1 : Int64))), .val (.ref b209), .unset] [(.int p3), (.int (0 : Int32)), (.ref b209), (.ref b206)]))
    refine Ends.step (fun _ k => XT.bipushV X211.here hx rfl (8 : Int32) (hb hby at_113) rfl k) ?_
    show Ends p e below QQ (T211.setTop (mkF m 115 #[.val (.long q0), .second, .val (.int p1), .val (.int p2), .val (.int p3), .val (.int (p2 &&& (3 : Int32))), .val (.long (-1 : Int64)), .second, .val (.int (p1 &&& (2147483647 : Int32))), .val (.int (1 : Int32)), .val (.ref b206), .val (.int (fluc (-1 : Int64))), .val (.ref b209), .unset] [(.int (8 : Int32)), (.int p3), (.int (0 : Int32)), (.ref b209), (.ref b206)]))
    refine Ends.step (fun _ k => XS.iushr X211.here hx rfl (hb hby at_115) rfl k) ?_
    show Ends p e below QQ (T211.setTop (mkF m 116 #[.val (.long q0), .second, .val (.int p1), .val (.int p2), .val (.int p3), .val (.int (p2 &&& (3 : Int32))), .val (.long (-1 : Int64)), .second, .val (.int (p1 &&& (2147483647 : Int32))), .val (.int (1 : Int32)), .val (.ref b206), .val (.int (fluc (-1 : Int64))), .val (.ref b209), .unset] [(.int ((p3.toUInt32 >>> ((8 : Int32) &&& 31).toUInt32).toInt32)), (.int (0 : Int32)), (.ref b209), (.ref b206)]))
    refine Ends.step (fun _ k => XT.iconstV X211.here hx rfl (1 : Int32) (hb hby at_116) rfl k) ?_
    show Ends p e below QQ (T211.setTop (mkF m 117 #[.val (.long q0), .second, .val (.int p1), .val (.int p2), .val (.int p3), .val (.int (p2 &&& (3 : Int32))), .val (.long (-1 : Int64)), .second, .val (.int (p1 &&& (2147483647 : Int32))), .val (.int (1 : Int32)), .val (.ref b206), .val (.int (fluc (-1 : Int64))), .val (.ref b209), .unset] [(.int (1 : Int32)), (.int ((p3.toUInt32 >>> ((8 : Int32) &&& 31).toUInt32).toInt32)), (.int (0 : Int32)), (.ref b209), (.ref b206)]))
    refine Ends.step (fun _ k => XS.iand X211.here hx rfl (hb hby at_117) rfl k) ?_
    by_cases hs118_212 : (((p3.toUInt32 >>> ((8 : Int32) &&& 31).toUInt32).toInt32) &&& (1 : Int32)) = (0 : Int32)
    · show Ends p e below QQ (T211.setTop (mkF m 118 #[.val (.long q0), .second, .val (.int p1), .val (.int p2), .val (.int p3), .val (.int (p2 &&& (3 : Int32))), .val (.long (-1 : Int64)), .second, .val (.int (p1 &&& (2147483647 : Int32))), .val (.int (1 : Int32)), .val (.ref b206), .val (.int (fluc (-1 : Int64))), .val (.ref b209), .unset] [(.int (((p3.toUInt32 >>> ((8 : Int32) &&& 31).toUInt32).toInt32) &&& (1 : Int32))), (.int (0 : Int32)), (.ref b209), (.ref b206)]))
      rw [hs118_212]
      show Ends p e below QQ (T211.setTop (mkF m 118 #[.val (.long q0), .second, .val (.int p1), .val (.int p2), .val (.int p3), .val (.int (p2 &&& (3 : Int32))), .val (.long (-1 : Int64)), .second, .val (.int (p1 &&& (2147483647 : Int32))), .val (.int (1 : Int32)), .val (.ref b206), .val (.int (fluc (-1 : Int64))), .val (.ref b209), .unset] [(.int (0 : Int32)), (.int (0 : Int32)), (.ref b209), (.ref b206)]))
      obtain ⟨cq213, kq213, q213a, q213b, q213c⟩ := isOf hZ e211 E_b206
      obtain ⟨_, _, ⟨T213, L213, k213, n213⟩, -, X213, ⟨Lc213, hQ213, l213, y213, z213⟩, st213⟩ := X211.virtualBack hx (y := (⟨"com/example/gatehook/gatehook/http/IncomingBody", "take", "([BII)I"⟩ : MethodName)) (z := (⟨"com/example/gatehook/gatehook/http/IncomingBody", "take", "([BII)I"⟩ : MethodName)) hown (mvT hZ (hw _ (List.mem_of_getElem? (i := 85) rfl))) (mvT hZ (hw _ (List.mem_of_getElem? (i := 86) rfl))) (notFace_of_selects (args := #[]) (mvT hZ (hw _ (List.mem_of_getElem? (i := 88) rfl)))) (mvT hZ (hw _ (List.mem_of_getElem? (i := 88) rfl))) (mvT hZ (hw _ (List.mem_of_getElem? (i := 87) rfl))) (by decide) (backOf (W := 0) (rmtp0 l Z a0 hw [] b206 b209 (-1 : Int64) (p1 &&& (2147483647 : Int32)) a_NONE k_a_NONE k209 (((p3 &&& (63 : Int32)) + (64 : Int32)).toInt8.toInt32) h211 n0 (Nat.le_trans Z0 K211.1) E_b206 F_ended_b206 F_chunks_b206 F_length_b206 F_max_b206 F_data_b206 F_dataLength_b206 A_a_NONE g_b206 ne_a_NONE_b206 A_b209 (Ne.symm ne_b206_b209) (Or.inl rfl) (own_pm p1)) hZ (hw _ (List.mem_of_getElem? (i := 89) rfl)) (hw _ (List.mem_of_getElem? (i := 4) rfl)) (by decide) (by decide)) q213a q213c (g := (mkF m 118 #[.val (.long q0), .second, .val (.int p1), .val (.int p2), .val (.int p3), .val (.int (p2 &&& (3 : Int32))), .val (.long (-1 : Int64)), .second, .val (.int (p1 &&& (2147483647 : Int32))), .val (.int (1 : Int32)), .val (.ref b206), .val (.int (fluc (-1 : Int64))), .val (.ref b209), .unset] [(.int (0 : Int32)), (.int (0 : Int32)), (.ref b209), (.ref b206)])) rfl (by rw [hml]; rfl) (Steps.refl _) (argsL := [(.ref b209), (.int (0 : Int32)), (.int (0 : Int32))]) (rest := []) (lenOf pd_11 rfl) rfl (by show 2 * 0 + _ ≤ _; exact Nat.le_of_eq rfl) (hb hby at_118) (fun _ _ => ⟨rfl, e211, (by decide : 2 + 0 ≤ _), (by decide : 7 + 0 ≤ _)⟩)
      dsimp only [Pt.U, Pt.locs, Pt.cells, Pt.slots] at X213 l213 y213 z213 st213 hQ213
      subst l213 y213 z213
      obtain ⟨rfl, Nq213, Kq213, fq213_0, fq213_1⟩ := hQ213
      have N213 := Fr.app N211 Nq213
      have S_NONE := own_sta_keep S_NONE Kq213 (allS E_b206.cell all0)
      have S_SIZE_LINE := own_sta_keep S_SIZE_LINE Kq213 (allS E_b206.cell all0)
      have S_ENDED := own_sta_keep S_ENDED Kq213 (allS E_b206.cell all0)
      have S_DATA := own_sta_keep S_DATA Kq213 (allS E_b206.cell all0)
      have S_COMPACT_STRINGS := own_sta_keep S_COMPACT_STRINGS Kq213 (allS E_b206.cell all0)
      have E_a_NONE := E_a_NONE.keep Kq213
      have E_a_SIZE_LINE := E_a_SIZE_LINE.keep Kq213
      have E_a_ENDED := E_a_ENDED.keep Kq213
      have E_a_DATA := E_a_DATA.keep Kq213
      have F_ordinal_a_SIZE_LINE := F_ordinal_a_SIZE_LINE.keep Kq213 (ninS ne_a_SIZE_LINE_b206 nin0)
      have F_ordinal_a_ENDED := F_ordinal_a_ENDED.keep Kq213 (ninS ne_a_ENDED_b206 nin0)
      have F_ordinal_a_DATA := F_ordinal_a_DATA.keep Kq213 (ninS ne_a_DATA_b206 nin0)
      have A_a_NONE := A_a_NONE.keep Kq213 (ninS ne_a_NONE_b206 nin0)
      have A_b209 := A_b209.keep Kq213 (ninS (Ne.symm ne_b206_b209) nin0)
      have E_b206 := fq213_0
      have F_length_b206 := fq213_1
      have K213 := K211.trans Kq213 (allS (Or.inr sz_b206) all0)
      refine Ends.step (fun _ k => st213.trans k) ?_
      show Ends p e below QQ (T213.setTop (mkF m 121 #[.val (.long q0), .second, .val (.int p1), .val (.int p2), .val (.int p3), .val (.int (p2 &&& (3 : Int32))), .val (.long (-1 : Int64)), .second, .val (.int (p1 &&& (2147483647 : Int32))), .val (.int (1 : Int32)), .val (.ref b206), .val (.int (fluc (-1 : Int64))), .val (.ref b209), .unset] [(.int (0 : Int32))]))
      refine Ends.step (fun _ k => XT.pop X213.here hx rfl (hb hby at_121) rfl rfl k) ?_
      show Ends p e below QQ (T213.setTop (mkF m 122 #[.val (.long q0), .second, .val (.int p1), .val (.int p2), .val (.int p3), .val (.int (p2 &&& (3 : Int32))), .val (.long (-1 : Int64)), .second, .val (.int (p1 &&& (2147483647 : Int32))), .val (.int (1 : Int32)), .val (.ref b206), .val (.int (fluc (-1 : Int64))), .val (.ref b209), .unset] []))
      refine Ends.step (fun _ k => XS.aload X213.here hx rfl (hb hby at_122) rfl rfl k) ?_
      show Ends p e below QQ (T213.setTop (mkF m 124 #[.val (.long q0), .second, .val (.int p1), .val (.int p2), .val (.int p3), .val (.int (p2 &&& (3 : Int32))), .val (.long (-1 : Int64)), .second, .val (.int (p1 &&& (2147483647 : Int32))), .val (.int (1 : Int32)), .val (.ref b206), .val (.int (fluc (-1 : Int64))), .val (.ref b209), .unset] [(.ref b206)]))
      obtain ⟨cq214, kq214, q214a, q214b, q214c⟩ := isOf hZ rfl E_b206
      obtain ⟨_, _, ⟨T214, L214, k214, n214⟩, -, X214, ⟨Lc214, hQ214, l214, y214, z214⟩, st214⟩ := X213.virtualBack hx (y := (⟨"com/example/gatehook/gatehook/http/IncomingBody", "lastsUntilClose", "()Z"⟩ : MethodName)) (z := (⟨"com/example/gatehook/gatehook/http/IncomingBody", "lastsUntilClose", "()Z"⟩ : MethodName)) hown (mvT hZ (hw _ (List.mem_of_getElem? (i := 79) rfl))) (mvT hZ (hw _ (List.mem_of_getElem? (i := 80) rfl))) (notFace_of_selects (args := #[]) (mvT hZ (hw _ (List.mem_of_getElem? (i := 82) rfl)))) (mvT hZ (hw _ (List.mem_of_getElem? (i := 82) rfl))) (mvT hZ (hw _ (List.mem_of_getElem? (i := 81) rfl))) (by decide) (backOf (W := 0) (rmluc l Z a0 hw [] b206 (-1 : Int64) T213.heap n0 (Nat.le_trans Z0 K213.1) F_length_b206) hZ (hw _ (List.mem_of_getElem? (i := 83) rfl)) (hw _ (List.mem_of_getElem? (i := 4) rfl)) (by decide) (by decide)) q214a q214c (g := (mkF m 124 #[.val (.long q0), .second, .val (.int p1), .val (.int p2), .val (.int p3), .val (.int (p2 &&& (3 : Int32))), .val (.long (-1 : Int64)), .second, .val (.int (p1 &&& (2147483647 : Int32))), .val (.int (1 : Int32)), .val (.ref b206), .val (.int (fluc (-1 : Int64))), .val (.ref b209), .unset] [(.ref b206)])) rfl (by rw [hml]; rfl) (Steps.refl _) (argsL := []) (rest := []) (lenOf pd_6 rfl) rfl (by show 2 * 0 + _ ≤ _; exact Nat.le_of_eq rfl) (hb hby at_124) (fun _ _ => ⟨rfl, rfl, (by decide : 2 + 0 ≤ _), (by decide : 7 + 0 ≤ _)⟩)
      dsimp only [Pt.U, Pt.locs, Pt.cells, Pt.slots] at X214 l214 y214 z214 st214 hQ214
      subst l214 y214 z214
      obtain ⟨rfl, Nq214, hh214⟩ := hQ214
      have N214 := Fr.app N213 Nq214
      refine Ends.step (fun _ k => st214.trans k) ?_
      show Ends p e below QQ (T214.setTop (mkF m 127 #[.val (.long q0), .second, .val (.int p1), .val (.int p2), .val (.int p3), .val (.int (p2 &&& (3 : Int32))), .val (.long (-1 : Int64)), .second, .val (.int (p1 &&& (2147483647 : Int32))), .val (.int (1 : Int32)), .val (.ref b206), .val (.int (fluc (-1 : Int64))), .val (.ref b209), .unset] [(.int (fluc (-1 : Int64)))]))
      refine Ends.step (fun _ k => XS.istore X214.here hx rfl (hb hby at_127) rfl (l' := #[.val (.long q0), .second, .val (.int p1), .val (.int p2), .val (.int p3), .val (.int (p2 &&& (3 : Int32))), .val (.long (-1 : Int64)), .second, .val (.int (p1 &&& (2147483647 : Int32))), .val (.int (1 : Int32)), .val (.ref b206), .val (.int (fluc (-1 : Int64))), .val (.ref b209), .val (.int (fluc (-1 : Int64)))]) rfl k) ?_
      show Ends p e below QQ (T214.setTop (mkF m 129 #[.val (.long q0), .second, .val (.int p1), .val (.int p2), .val (.int p3), .val (.int (p2 &&& (3 : Int32))), .val (.long (-1 : Int64)), .second, .val (.int (p1 &&& (2147483647 : Int32))), .val (.int (1 : Int32)), .val (.ref b206), .val (.int (fluc (-1 : Int64))), .val (.ref b209), .val (.int (fluc (-1 : Int64)))] []))
      refine Ends.step (fun _ k => XS.iload X214.here hx rfl (hb hby at_129) rfl k) ?_
      show Ends p e below QQ (T214.setTop (mkF m 131 #[.val (.long q0), .second, .val (.int p1), .val (.int p2), .val (.int p3), .val (.int (p2 &&& (3 : Int32))), .val (.long (-1 : Int64)), .second, .val (.int (p1 &&& (2147483647 : Int32))), .val (.int (1 : Int32)), .val (.ref b206), .val (.int (fluc (-1 : Int64))), .val (.ref b209), .val (.int (fluc (-1 : Int64)))] [(.int (fluc (-1 : Int64)))]))
      refine Ends.step (fun _ k => XS.iload X214.here hx rfl (hb hby at_131) rfl k) ?_
      show Ends p e below QQ (T214.setTop (mkF m 133 #[.val (.long q0), .second, .val (.int p1), .val (.int p2), .val (.int p3), .val (.int (p2 &&& (3 : Int32))), .val (.long (-1 : Int64)), .second, .val (.int (p1 &&& (2147483647 : Int32))), .val (.int (1 : Int32)), .val (.ref b206), .val (.int (fluc (-1 : Int64))), .val (.ref b209), .val (.int (fluc (-1 : Int64)))] [(.int (1 : Int32)), (.int (fluc (-1 : Int64)))]))
      have J148_215 : (∀ (v148_1 : Int32) (hv148_1 : v148_1 = (if (fluc (-1 : Int64)) = (1 : Int32) then (1 : Int32) else (0 : Int32))), Ends p e below QQ (T214.setTop (mkF m 148 #[.val (.long q0), .second, .val (.int p1), .val (.int p2), .val (.int p3), .val (.int (p2 &&& (3 : Int32))), .val (.long (-1 : Int64)), .second, .val (.int (p1 &&& (2147483647 : Int32))), .val (.int (1 : Int32)), .val (.ref b206), .val (.int (fluc (-1 : Int64))), .val (.ref b209), .val (.int (fluc (-1 : Int64)))] [(.int v148_1)]))) → Ends p e below QQ (T214.setTop (mkF m 133 #[.val (.long q0), .second, .val (.int p1), .val (.int p2), .val (.int p3), .val (.int (p2 &&& (3 : Int32))), .val (.long (-1 : Int64)), .second, .val (.int (p1 &&& (2147483647 : Int32))), .val (.int (1 : Int32)), .val (.ref b206), .val (.int (fluc (-1 : Int64))), .val (.ref b209), .val (.int (fluc (-1 : Int64)))] [(.int (1 : Int32)), (.int (fluc (-1 : Int64)))])) := by
        intro hJ
        by_cases hc133_216 : (fluc (-1 : Int64)) = (1 : Int32)
        · refine Ends.step (fun _ k => XS.icmpNo X214.here hx rfl (hb hby at_133) rfl (XT.ii_ne_f hc133_216) k) ?_
          show Ends p e below QQ (T214.setTop (mkF m 136 #[.val (.long q0), .second, .val (.int p1), .val (.int p2), .val (.int p3), .val (.int (p2 &&& (3 : Int32))), .val (.long (-1 : Int64)), .second, .val (.int (p1 &&& (2147483647 : Int32))), .val (.int (1 : Int32)), .val (.ref b206), .val (.int (fluc (-1 : Int64))), .val (.ref b209), .val (.int (fluc (-1 : Int64)))] []))
          refine Ends.step (fun _ k => XS.iload X214.here hx rfl (hb hby at_136) rfl k) ?_
          show Ends p e below QQ (T214.setTop (mkF m 138 #[.val (.long q0), .second, .val (.int p1), .val (.int p2), .val (.int p3), .val (.int (p2 &&& (3 : Int32))), .val (.long (-1 : Int64)), .second, .val (.int (p1 &&& (2147483647 : Int32))), .val (.int (1 : Int32)), .val (.ref b206), .val (.int (fluc (-1 : Int64))), .val (.ref b209), .val (.int (fluc (-1 : Int64)))] [(.int (fluc (-1 : Int64)))]))
          refine Ends.step (fun _ k => XS.iload X214.here hx rfl (hb hby at_138) rfl k) ?_
          show Ends p e below QQ (T214.setTop (mkF m 140 #[.val (.long q0), .second, .val (.int p1), .val (.int p2), .val (.int p3), .val (.int (p2 &&& (3 : Int32))), .val (.long (-1 : Int64)), .second, .val (.int (p1 &&& (2147483647 : Int32))), .val (.int (1 : Int32)), .val (.ref b206), .val (.int (fluc (-1 : Int64))), .val (.ref b209), .val (.int (fluc (-1 : Int64)))] [(.int (1 : Int32)), (.int (fluc (-1 : Int64)))]))
          refine Ends.step (fun _ k => XS.icmpNo X214.here hx rfl (hb hby at_140) rfl (XT.ii_ne_f hc133_216) k) ?_
          show Ends p e below QQ (T214.setTop (mkF m 143 #[.val (.long q0), .second, .val (.int p1), .val (.int p2), .val (.int p3), .val (.int (p2 &&& (3 : Int32))), .val (.long (-1 : Int64)), .second, .val (.int (p1 &&& (2147483647 : Int32))), .val (.int (1 : Int32)), .val (.ref b206), .val (.int (fluc (-1 : Int64))), .val (.ref b209), .val (.int (fluc (-1 : Int64)))] []))
          refine Ends.step (fun _ k => XT.iconstV X214.here hx rfl (1 : Int32) (hb hby at_143) rfl k) ?_
          show Ends p e below QQ (T214.setTop (mkF m 144 #[.val (.long q0), .second, .val (.int p1), .val (.int p2), .val (.int p3), .val (.int (p2 &&& (3 : Int32))), .val (.long (-1 : Int64)), .second, .val (.int (p1 &&& (2147483647 : Int32))), .val (.int (1 : Int32)), .val (.ref b206), .val (.int (fluc (-1 : Int64))), .val (.ref b209), .val (.int (fluc (-1 : Int64)))] [(.int (1 : Int32))]))
          refine Ends.step (fun _ k => XS.goto X214.here hx rfl (pc0 := 144) (pc' := 148) rfl (hb hby at_144) (by decide) (by decide) k) ?_
          exact hJ _ (by simp only [if_pos hc133_216])
        · refine Ends.step (fun _ k => XS.icmpYes X214.here hx rfl (pc0 := 133) (pc' := 147) rfl (hb hby at_133) rfl (XT.ii_ne_t hc133_216) (by decide) (by decide) k) ?_
          show Ends p e below QQ (T214.setTop (mkF m 147 #[.val (.long q0), .second, .val (.int p1), .val (.int p2), .val (.int p3), .val (.int (p2 &&& (3 : Int32))), .val (.long (-1 : Int64)), .second, .val (.int (p1 &&& (2147483647 : Int32))), .val (.int (1 : Int32)), .val (.ref b206), .val (.int (fluc (-1 : Int64))), .val (.ref b209), .val (.int (fluc (-1 : Int64)))] []))
          refine Ends.step (fun _ k => XT.iconstV X214.here hx rfl (0 : Int32) (hb hby at_147) rfl k) ?_
          exact hJ _ (by simp only [if_neg hc133_216])
      refine J148_215 fun v148_1 hv148_1 => ?_
      have dv148_1 : f0_v148_1 q0 p1 p2 p3 cs = v148_1 := by
        simp only [f0_v148_1]
        exact hv148_1.symm
      show Ends p e below QQ (T214.setTop (mkF m 148 #[.val (.long q0), .second, .val (.int p1), .val (.int p2), .val (.int p3), .val (.int (p2 &&& (3 : Int32))), .val (.long (-1 : Int64)), .second, .val (.int (p1 &&& (2147483647 : Int32))), .val (.int (1 : Int32)), .val (.ref b206), .val (.int (fluc (-1 : Int64))), .val (.ref b209), .val (.int (fluc (-1 : Int64)))] [(.int v148_1)]))
      exact Ends.fin (some (.int v148_1)) X214 hQQ (fun h => by rw [Bd.returns] at h; cases h) Bd.notSynchronized (fun _ hr => retOut X214 hx (t := .boolean) Bd.returns (by rw [hv148_1]; exact own_narB (by repeat' (first | exact Or.inl rfl | exact Or.inr rfl | apply own_01))) (Or.inl ⟨rfl, (by simp), _, rfl⟩) (hb hby at_148) hr) hh214 (by decide) (by decide) ⟨(by simp only [f0, dv148_1, if_pos hc7_205, if_pos hs118_212]), N214, K213⟩
    · show Ends p e below QQ (T211.setTop (mkF m 118 #[.val (.long q0), .second, .val (.int p1), .val (.int p2), .val (.int p3), .val (.int (p2 &&& (3 : Int32))), .val (.long (-1 : Int64)), .second, .val (.int (p1 &&& (2147483647 : Int32))), .val (.int (1 : Int32)), .val (.ref b206), .val (.int (fluc (-1 : Int64))), .val (.ref b209), .unset] [(.int (((p3.toUInt32 >>> ((8 : Int32) &&& 31).toUInt32).toInt32) &&& (1 : Int32))), (.int (0 : Int32)), (.ref b209), (.ref b206)]))
      by_cases hs118_217 : (((p3.toUInt32 >>> ((8 : Int32) &&& 31).toUInt32).toInt32) &&& (1 : Int32)) = (1 : Int32)
      · show Ends p e below QQ (T211.setTop (mkF m 118 #[.val (.long q0), .second, .val (.int p1), .val (.int p2), .val (.int p3), .val (.int (p2 &&& (3 : Int32))), .val (.long (-1 : Int64)), .second, .val (.int (p1 &&& (2147483647 : Int32))), .val (.int (1 : Int32)), .val (.ref b206), .val (.int (fluc (-1 : Int64))), .val (.ref b209), .unset] [(.int (((p3.toUInt32 >>> ((8 : Int32) &&& 31).toUInt32).toInt32) &&& (1 : Int32))), (.int (0 : Int32)), (.ref b209), (.ref b206)]))
        rw [hs118_217]
        show Ends p e below QQ (T211.setTop (mkF m 118 #[.val (.long q0), .second, .val (.int p1), .val (.int p2), .val (.int p3), .val (.int (p2 &&& (3 : Int32))), .val (.long (-1 : Int64)), .second, .val (.int (p1 &&& (2147483647 : Int32))), .val (.int (1 : Int32)), .val (.ref b206), .val (.int (fluc (-1 : Int64))), .val (.ref b209), .unset] [(.int (1 : Int32)), (.int (0 : Int32)), (.ref b209), (.ref b206)]))
        obtain ⟨cq218, kq218, q218a, q218b, q218c⟩ := isOf hZ e211 E_b206
        obtain ⟨_, _, ⟨T218, L218, k218, n218⟩, -, X218, ⟨Lc218, hQ218, l218, y218, z218⟩, st218⟩ := X211.virtualBack hx (y := (⟨"com/example/gatehook/gatehook/http/IncomingBody", "take", "([BII)I"⟩ : MethodName)) (z := (⟨"com/example/gatehook/gatehook/http/IncomingBody", "take", "([BII)I"⟩ : MethodName)) hown (mvT hZ (hw _ (List.mem_of_getElem? (i := 85) rfl))) (mvT hZ (hw _ (List.mem_of_getElem? (i := 86) rfl))) (notFace_of_selects (args := #[]) (mvT hZ (hw _ (List.mem_of_getElem? (i := 88) rfl)))) (mvT hZ (hw _ (List.mem_of_getElem? (i := 88) rfl))) (mvT hZ (hw _ (List.mem_of_getElem? (i := 87) rfl))) (by decide) (backOf (W := 0) (rmtp1 l Z a0 hw [] b206 b209 (-1 : Int64) (p1 &&& (2147483647 : Int32)) a_NONE k_a_NONE k209 (((p3 &&& (63 : Int32)) + (64 : Int32)).toInt8.toInt32) h211 n0 (Nat.le_trans Z0 K211.1) E_b206 F_ended_b206 F_chunks_b206 F_length_b206 F_max_b206 F_data_b206 F_dataLength_b206 A_a_NONE g_b206 ne_a_NONE_b206 A_b209 (Ne.symm ne_b206_b209) (Or.inl rfl) (own_pm p1)) hZ (hw _ (List.mem_of_getElem? (i := 89) rfl)) (hw _ (List.mem_of_getElem? (i := 4) rfl)) (by decide) (by decide)) q218a q218c (g := (mkF m 118 #[.val (.long q0), .second, .val (.int p1), .val (.int p2), .val (.int p3), .val (.int (p2 &&& (3 : Int32))), .val (.long (-1 : Int64)), .second, .val (.int (p1 &&& (2147483647 : Int32))), .val (.int (1 : Int32)), .val (.ref b206), .val (.int (fluc (-1 : Int64))), .val (.ref b209), .unset] [(.int (1 : Int32)), (.int (0 : Int32)), (.ref b209), (.ref b206)])) rfl (by rw [hml]; rfl) (Steps.refl _) (argsL := [(.ref b209), (.int (0 : Int32)), (.int (1 : Int32))]) (rest := []) (lenOf pd_11 rfl) rfl (by show 2 * 0 + _ ≤ _; exact Nat.le_of_eq rfl) (hb hby at_118) (fun _ _ => ⟨rfl, e211, (by decide : 2 + 1 ≤ _), (by decide : 7 + 1 ≤ _)⟩)
        dsimp only [Pt.U, Pt.locs, Pt.cells, Pt.slots] at X218 l218 y218 z218 st218 hQ218
        subst l218 y218 z218
        obtain ⟨rfl, Nq218, Kq218, fq218_0, fq218_1⟩ := hQ218
        have N218 := Fr.app N211 Nq218
        have S_NONE := own_sta_keep S_NONE Kq218 (allS E_b206.cell all0)
        have S_SIZE_LINE := own_sta_keep S_SIZE_LINE Kq218 (allS E_b206.cell all0)
        have S_ENDED := own_sta_keep S_ENDED Kq218 (allS E_b206.cell all0)
        have S_DATA := own_sta_keep S_DATA Kq218 (allS E_b206.cell all0)
        have S_COMPACT_STRINGS := own_sta_keep S_COMPACT_STRINGS Kq218 (allS E_b206.cell all0)
        have E_a_NONE := E_a_NONE.keep Kq218
        have E_a_SIZE_LINE := E_a_SIZE_LINE.keep Kq218
        have E_a_ENDED := E_a_ENDED.keep Kq218
        have E_a_DATA := E_a_DATA.keep Kq218
        have F_ordinal_a_SIZE_LINE := F_ordinal_a_SIZE_LINE.keep Kq218 (ninS ne_a_SIZE_LINE_b206 nin0)
        have F_ordinal_a_ENDED := F_ordinal_a_ENDED.keep Kq218 (ninS ne_a_ENDED_b206 nin0)
        have F_ordinal_a_DATA := F_ordinal_a_DATA.keep Kq218 (ninS ne_a_DATA_b206 nin0)
        have A_a_NONE := A_a_NONE.keep Kq218 (ninS ne_a_NONE_b206 nin0)
        have A_b209 := A_b209.keep Kq218 (ninS (Ne.symm ne_b206_b209) nin0)
        have E_b206 := fq218_0
        have F_length_b206 := fq218_1
        have K218 := K211.trans Kq218 (allS (Or.inr sz_b206) all0)
        refine Ends.step (fun _ k => st218.trans k) ?_
        show Ends p e below QQ (T218.setTop (mkF m 121 #[.val (.long q0), .second, .val (.int p1), .val (.int p2), .val (.int p3), .val (.int (p2 &&& (3 : Int32))), .val (.long (-1 : Int64)), .second, .val (.int (p1 &&& (2147483647 : Int32))), .val (.int (1 : Int32)), .val (.ref b206), .val (.int (fluc (-1 : Int64))), .val (.ref b209), .unset] [(.int (1 : Int32))]))
        refine Ends.step (fun _ k => XT.pop X218.here hx rfl (hb hby at_121) rfl rfl k) ?_
        show Ends p e below QQ (T218.setTop (mkF m 122 #[.val (.long q0), .second, .val (.int p1), .val (.int p2), .val (.int p3), .val (.int (p2 &&& (3 : Int32))), .val (.long (-1 : Int64)), .second, .val (.int (p1 &&& (2147483647 : Int32))), .val (.int (1 : Int32)), .val (.ref b206), .val (.int (fluc (-1 : Int64))), .val (.ref b209), .unset] []))
        refine Ends.step (fun _ k => XS.aload X218.here hx rfl (hb hby at_122) rfl rfl k) ?_
        show Ends p e below QQ (T218.setTop (mkF m 124 #[.val (.long q0), .second, .val (.int p1), .val (.int p2), .val (.int p3), .val (.int (p2 &&& (3 : Int32))), .val (.long (-1 : Int64)), .second, .val (.int (p1 &&& (2147483647 : Int32))), .val (.int (1 : Int32)), .val (.ref b206), .val (.int (fluc (-1 : Int64))), .val (.ref b209), .unset] [(.ref b206)]))
        obtain ⟨cq219, kq219, q219a, q219b, q219c⟩ := isOf hZ rfl E_b206
        obtain ⟨_, _, ⟨T219, L219, k219, n219⟩, -, X219, ⟨Lc219, hQ219, l219, y219, z219⟩, st219⟩ := X218.virtualBack hx (y := (⟨"com/example/gatehook/gatehook/http/IncomingBody", "lastsUntilClose", "()Z"⟩ : MethodName)) (z := (⟨"com/example/gatehook/gatehook/http/IncomingBody", "lastsUntilClose", "()Z"⟩ : MethodName)) hown (mvT hZ (hw _ (List.mem_of_getElem? (i := 79) rfl))) (mvT hZ (hw _ (List.mem_of_getElem? (i := 80) rfl))) (notFace_of_selects (args := #[]) (mvT hZ (hw _ (List.mem_of_getElem? (i := 82) rfl)))) (mvT hZ (hw _ (List.mem_of_getElem? (i := 82) rfl))) (mvT hZ (hw _ (List.mem_of_getElem? (i := 81) rfl))) (by decide) (backOf (W := 0) (rmluc l Z a0 hw [] b206 (-1 : Int64) T218.heap n0 (Nat.le_trans Z0 K218.1) F_length_b206) hZ (hw _ (List.mem_of_getElem? (i := 83) rfl)) (hw _ (List.mem_of_getElem? (i := 4) rfl)) (by decide) (by decide)) q219a q219c (g := (mkF m 124 #[.val (.long q0), .second, .val (.int p1), .val (.int p2), .val (.int p3), .val (.int (p2 &&& (3 : Int32))), .val (.long (-1 : Int64)), .second, .val (.int (p1 &&& (2147483647 : Int32))), .val (.int (1 : Int32)), .val (.ref b206), .val (.int (fluc (-1 : Int64))), .val (.ref b209), .unset] [(.ref b206)])) rfl (by rw [hml]; rfl) (Steps.refl _) (argsL := []) (rest := []) (lenOf pd_6 rfl) rfl (by show 2 * 0 + _ ≤ _; exact Nat.le_of_eq rfl) (hb hby at_124) (fun _ _ => ⟨rfl, rfl, (by decide : 3 + 0 ≤ _), (by decide : 8 + 0 ≤ _)⟩)
        dsimp only [Pt.U, Pt.locs, Pt.cells, Pt.slots] at X219 l219 y219 z219 st219 hQ219
        subst l219 y219 z219
        obtain ⟨rfl, Nq219, hh219⟩ := hQ219
        have N219 := Fr.app N218 Nq219
        refine Ends.step (fun _ k => st219.trans k) ?_
        show Ends p e below QQ (T219.setTop (mkF m 127 #[.val (.long q0), .second, .val (.int p1), .val (.int p2), .val (.int p3), .val (.int (p2 &&& (3 : Int32))), .val (.long (-1 : Int64)), .second, .val (.int (p1 &&& (2147483647 : Int32))), .val (.int (1 : Int32)), .val (.ref b206), .val (.int (fluc (-1 : Int64))), .val (.ref b209), .unset] [(.int (fluc (-1 : Int64)))]))
        refine Ends.step (fun _ k => XS.istore X219.here hx rfl (hb hby at_127) rfl (l' := #[.val (.long q0), .second, .val (.int p1), .val (.int p2), .val (.int p3), .val (.int (p2 &&& (3 : Int32))), .val (.long (-1 : Int64)), .second, .val (.int (p1 &&& (2147483647 : Int32))), .val (.int (1 : Int32)), .val (.ref b206), .val (.int (fluc (-1 : Int64))), .val (.ref b209), .val (.int (fluc (-1 : Int64)))]) rfl k) ?_
        show Ends p e below QQ (T219.setTop (mkF m 129 #[.val (.long q0), .second, .val (.int p1), .val (.int p2), .val (.int p3), .val (.int (p2 &&& (3 : Int32))), .val (.long (-1 : Int64)), .second, .val (.int (p1 &&& (2147483647 : Int32))), .val (.int (1 : Int32)), .val (.ref b206), .val (.int (fluc (-1 : Int64))), .val (.ref b209), .val (.int (fluc (-1 : Int64)))] []))
        refine Ends.step (fun _ k => XS.iload X219.here hx rfl (hb hby at_129) rfl k) ?_
        show Ends p e below QQ (T219.setTop (mkF m 131 #[.val (.long q0), .second, .val (.int p1), .val (.int p2), .val (.int p3), .val (.int (p2 &&& (3 : Int32))), .val (.long (-1 : Int64)), .second, .val (.int (p1 &&& (2147483647 : Int32))), .val (.int (1 : Int32)), .val (.ref b206), .val (.int (fluc (-1 : Int64))), .val (.ref b209), .val (.int (fluc (-1 : Int64)))] [(.int (fluc (-1 : Int64)))]))
        refine Ends.step (fun _ k => XS.iload X219.here hx rfl (hb hby at_131) rfl k) ?_
        show Ends p e below QQ (T219.setTop (mkF m 133 #[.val (.long q0), .second, .val (.int p1), .val (.int p2), .val (.int p3), .val (.int (p2 &&& (3 : Int32))), .val (.long (-1 : Int64)), .second, .val (.int (p1 &&& (2147483647 : Int32))), .val (.int (1 : Int32)), .val (.ref b206), .val (.int (fluc (-1 : Int64))), .val (.ref b209), .val (.int (fluc (-1 : Int64)))] [(.int (1 : Int32)), (.int (fluc (-1 : Int64)))]))
        have J148_220 : (∀ (v148_2 : Int32) (hv148_2 : v148_2 = (if (fluc (-1 : Int64)) = (1 : Int32) then (1 : Int32) else (0 : Int32))), Ends p e below QQ (T219.setTop (mkF m 148 #[.val (.long q0), .second, .val (.int p1), .val (.int p2), .val (.int p3), .val (.int (p2 &&& (3 : Int32))), .val (.long (-1 : Int64)), .second, .val (.int (p1 &&& (2147483647 : Int32))), .val (.int (1 : Int32)), .val (.ref b206), .val (.int (fluc (-1 : Int64))), .val (.ref b209), .val (.int (fluc (-1 : Int64)))] [(.int v148_2)]))) → Ends p e below QQ (T219.setTop (mkF m 133 #[.val (.long q0), .second, .val (.int p1), .val (.int p2), .val (.int p3), .val (.int (p2 &&& (3 : Int32))), .val (.long (-1 : Int64)), .second, .val (.int (p1 &&& (2147483647 : Int32))), .val (.int (1 : Int32)), .val (.ref b206), .val (.int (fluc (-1 : Int64))), .val (.ref b209), .val (.int (fluc (-1 : Int64)))] [(.int (1 : Int32)), (.int (fluc (-1 : Int64)))])) := by
          intro hJ
          by_cases hc133_221 : (fluc (-1 : Int64)) = (1 : Int32)
          · refine Ends.step (fun _ k => XS.icmpNo X219.here hx rfl (hb hby at_133) rfl (XT.ii_ne_f hc133_221) k) ?_
            show Ends p e below QQ (T219.setTop (mkF m 136 #[.val (.long q0), .second, .val (.int p1), .val (.int p2), .val (.int p3), .val (.int (p2 &&& (3 : Int32))), .val (.long (-1 : Int64)), .second, .val (.int (p1 &&& (2147483647 : Int32))), .val (.int (1 : Int32)), .val (.ref b206), .val (.int (fluc (-1 : Int64))), .val (.ref b209), .val (.int (fluc (-1 : Int64)))] []))
            refine Ends.step (fun _ k => XS.iload X219.here hx rfl (hb hby at_136) rfl k) ?_
            show Ends p e below QQ (T219.setTop (mkF m 138 #[.val (.long q0), .second, .val (.int p1), .val (.int p2), .val (.int p3), .val (.int (p2 &&& (3 : Int32))), .val (.long (-1 : Int64)), .second, .val (.int (p1 &&& (2147483647 : Int32))), .val (.int (1 : Int32)), .val (.ref b206), .val (.int (fluc (-1 : Int64))), .val (.ref b209), .val (.int (fluc (-1 : Int64)))] [(.int (fluc (-1 : Int64)))]))
            refine Ends.step (fun _ k => XS.iload X219.here hx rfl (hb hby at_138) rfl k) ?_
            show Ends p e below QQ (T219.setTop (mkF m 140 #[.val (.long q0), .second, .val (.int p1), .val (.int p2), .val (.int p3), .val (.int (p2 &&& (3 : Int32))), .val (.long (-1 : Int64)), .second, .val (.int (p1 &&& (2147483647 : Int32))), .val (.int (1 : Int32)), .val (.ref b206), .val (.int (fluc (-1 : Int64))), .val (.ref b209), .val (.int (fluc (-1 : Int64)))] [(.int (1 : Int32)), (.int (fluc (-1 : Int64)))]))
            refine Ends.step (fun _ k => XS.icmpNo X219.here hx rfl (hb hby at_140) rfl (XT.ii_ne_f hc133_221) k) ?_
            show Ends p e below QQ (T219.setTop (mkF m 143 #[.val (.long q0), .second, .val (.int p1), .val (.int p2), .val (.int p3), .val (.int (p2 &&& (3 : Int32))), .val (.long (-1 : Int64)), .second, .val (.int (p1 &&& (2147483647 : Int32))), .val (.int (1 : Int32)), .val (.ref b206), .val (.int (fluc (-1 : Int64))), .val (.ref b209), .val (.int (fluc (-1 : Int64)))] []))
            refine Ends.step (fun _ k => XT.iconstV X219.here hx rfl (1 : Int32) (hb hby at_143) rfl k) ?_
            show Ends p e below QQ (T219.setTop (mkF m 144 #[.val (.long q0), .second, .val (.int p1), .val (.int p2), .val (.int p3), .val (.int (p2 &&& (3 : Int32))), .val (.long (-1 : Int64)), .second, .val (.int (p1 &&& (2147483647 : Int32))), .val (.int (1 : Int32)), .val (.ref b206), .val (.int (fluc (-1 : Int64))), .val (.ref b209), .val (.int (fluc (-1 : Int64)))] [(.int (1 : Int32))]))
            refine Ends.step (fun _ k => XS.goto X219.here hx rfl (pc0 := 144) (pc' := 148) rfl (hb hby at_144) (by decide) (by decide) k) ?_
            exact hJ _ (by simp only [if_pos hc133_221])
          · refine Ends.step (fun _ k => XS.icmpYes X219.here hx rfl (pc0 := 133) (pc' := 147) rfl (hb hby at_133) rfl (XT.ii_ne_t hc133_221) (by decide) (by decide) k) ?_
            show Ends p e below QQ (T219.setTop (mkF m 147 #[.val (.long q0), .second, .val (.int p1), .val (.int p2), .val (.int p3), .val (.int (p2 &&& (3 : Int32))), .val (.long (-1 : Int64)), .second, .val (.int (p1 &&& (2147483647 : Int32))), .val (.int (1 : Int32)), .val (.ref b206), .val (.int (fluc (-1 : Int64))), .val (.ref b209), .val (.int (fluc (-1 : Int64)))] []))
            refine Ends.step (fun _ k => XT.iconstV X219.here hx rfl (0 : Int32) (hb hby at_147) rfl k) ?_
            exact hJ _ (by simp only [if_neg hc133_221])
        refine J148_220 fun v148_2 hv148_2 => ?_
        have dv148_2 : f0_v148_2 q0 p1 p2 p3 cs = v148_2 := by
          simp only [f0_v148_2]
          exact hv148_2.symm
        show Ends p e below QQ (T219.setTop (mkF m 148 #[.val (.long q0), .second, .val (.int p1), .val (.int p2), .val (.int p3), .val (.int (p2 &&& (3 : Int32))), .val (.long (-1 : Int64)), .second, .val (.int (p1 &&& (2147483647 : Int32))), .val (.int (1 : Int32)), .val (.ref b206), .val (.int (fluc (-1 : Int64))), .val (.ref b209), .val (.int (fluc (-1 : Int64)))] [(.int v148_2)]))
        exact Ends.fin (some (.int v148_2)) X219 hQQ (fun h => by rw [Bd.returns] at h; cases h) Bd.notSynchronized (fun _ hr => retOut X219 hx (t := .boolean) Bd.returns (by rw [hv148_2]; exact own_narB (by repeat' (first | exact Or.inl rfl | exact Or.inr rfl | apply own_01))) (Or.inl ⟨rfl, (by simp), _, rfl⟩) (hb hby at_148) hr) hh219 (by decide) (by decide) ⟨(by simp only [f0, dv148_2, if_pos hc7_205, if_neg hs118_212, if_pos hs118_217]), N219, K218⟩
      · show Ends p e below QQ (T211.setTop (mkF m 118 #[.val (.long q0), .second, .val (.int p1), .val (.int p2), .val (.int p3), .val (.int (p2 &&& (3 : Int32))), .val (.long (-1 : Int64)), .second, .val (.int (p1 &&& (2147483647 : Int32))), .val (.int (1 : Int32)), .val (.ref b206), .val (.int (fluc (-1 : Int64))), .val (.ref b209), .unset] [(.int (((p3.toUInt32 >>> ((8 : Int32) &&& 31).toUInt32).toInt32) &&& (1 : Int32))), (.int (0 : Int32)), (.ref b209), (.ref b206)]))
        exact (own_bit _ hs118_212 hs118_217).elim
  · refine Ends.step (fun _ k => XS.ifYes X0.here hx rfl (pc0 := 7) (pc' := 18) rfl (hb hby at_7) rfl (XT.i0_ne_t hc7_205) (by decide) (by decide) k) ?_
    show Ends p e below QQ (s₁.setTop (mkF m 18 #[.val (.long q0), .second, .val (.int p1), .val (.int p2), .val (.int p3), .val (.int (p2 &&& (3 : Int32))), .unset, .unset, .unset, .unset, .unset, .unset, .unset, .unset] []))
    refine Ends.step (fun _ k => XS.iload X0.here hx rfl (hb hby at_18) rfl k) ?_
    show Ends p e below QQ (s₁.setTop (mkF m 20 #[.val (.long q0), .second, .val (.int p1), .val (.int p2), .val (.int p3), .val (.int (p2 &&& (3 : Int32))), .unset, .unset, .unset, .unset, .unset, .unset, .unset, .unset] [(.int (p2 &&& (3 : Int32)))]))
    refine Ends.step (fun _ k => XT.iconstV X0.here hx rfl (1 : Int32) (hb hby at_20) rfl k) ?_
    show Ends p e below QQ (s₁.setTop (mkF m 21 #[.val (.long q0), .second, .val (.int p1), .val (.int p2), .val (.int p3), .val (.int (p2 &&& (3 : Int32))), .unset, .unset, .unset, .unset, .unset, .unset, .unset, .unset] [(.int (1 : Int32)), (.int (p2 &&& (3 : Int32)))]))
    by_cases hc21_222 : (p2 &&& (3 : Int32)) = (1 : Int32)
    · refine Ends.step (fun _ k => XS.icmpNo X0.here hx rfl (hb hby at_21) rfl (XT.ii_ne_f hc21_222) k) ?_
      show Ends p e below QQ (s₁.setTop (mkF m 24 #[.val (.long q0), .second, .val (.int p1), .val (.int p2), .val (.int p3), .val (.int (p2 &&& (3 : Int32))), .unset, .unset, .unset, .unset, .unset, .unset, .unset, .unset] []))
      refine Ends.step (fun _ k => X0.ldc2J hx hown (mvT hZ (hw _ (List.mem_of_getElem? (i := 0) rfl))) (g := (mkF m 24 #[.val (.long q0), .second, .val (.int p1), .val (.int p2), .val (.int p3), .val (.int (p2 &&& (3 : Int32))), .unset, .unset, .unset, .unset, .unset, .unset, .unset, .unset] [])) rfl (hb hby at_24) k) ?_
      show Ends p e below QQ (s₁.setTop (mkF m 27 #[.val (.long q0), .second, .val (.int p1), .val (.int p2), .val (.int p3), .val (.int (p2 &&& (3 : Int32))), .unset, .unset, .unset, .unset, .unset, .unset, .unset, .unset] [(.long (-2 : Int64))]))
      refine Ends.step (fun _ k => XT.lstore X0.here hx rfl (hb hby at_27) rfl (l' := #[.val (.long q0), .second, .val (.int p1), .val (.int p2), .val (.int p3), .val (.int (p2 &&& (3 : Int32))), .val (.long (-2 : Int64)), .second, .unset, .unset, .unset, .unset, .unset, .unset]) rfl k) ?_
      show Ends p e below QQ (s₁.setTop (mkF m 29 #[.val (.long q0), .second, .val (.int p1), .val (.int p2), .val (.int p3), .val (.int (p2 &&& (3 : Int32))), .val (.long (-2 : Int64)), .second, .unset, .unset, .unset, .unset, .unset, .unset] []))
      refine Ends.step (fun _ k => XS.goto X0.here hx rfl (pc0 := 29) (pc' := 39) rfl (hb hby at_29) (by decide) (by decide) k) ?_
      show Ends p e below QQ (s₁.setTop (mkF m 39 #[.val (.long q0), .second, .val (.int p1), .val (.int p2), .val (.int p3), .val (.int (p2 &&& (3 : Int32))), .val (.long (-2 : Int64)), .second, .unset, .unset, .unset, .unset, .unset, .unset] []))
      refine Ends.step (fun _ k => XS.iloadN X0.here hx rfl (hb hby at_39) rfl k) ?_
      show Ends p e below QQ (s₁.setTop (mkF m 40 #[.val (.long q0), .second, .val (.int p1), .val (.int p2), .val (.int p3), .val (.int (p2 &&& (3 : Int32))), .val (.long (-2 : Int64)), .second, .unset, .unset, .unset, .unset, .unset, .unset] [(.int p1)]))
      refine Ends.step (fun _ k => X0.ldcI hx hown (mvT hZ (hw _ (List.mem_of_getElem? (i := 1) rfl))) (g := (mkF m 40 #[.val (.long q0), .second, .val (.int p1), .val (.int p2), .val (.int p3), .val (.int (p2 &&& (3 : Int32))), .val (.long (-2 : Int64)), .second, .unset, .unset, .unset, .unset, .unset, .unset] [(.int p1)])) rfl (hb hby at_40) k) ?_
      show Ends p e below QQ (s₁.setTop (mkF m 42 #[.val (.long q0), .second, .val (.int p1), .val (.int p2), .val (.int p3), .val (.int (p2 &&& (3 : Int32))), .val (.long (-2 : Int64)), .second, .unset, .unset, .unset, .unset, .unset, .unset] [(.int (2147483647 : Int32)), (.int p1)]))
      refine Ends.step (fun _ k => XS.iand X0.here hx rfl (hb hby at_42) rfl k) ?_
      show Ends p e below QQ (s₁.setTop (mkF m 43 #[.val (.long q0), .second, .val (.int p1), .val (.int p2), .val (.int p3), .val (.int (p2 &&& (3 : Int32))), .val (.long (-2 : Int64)), .second, .unset, .unset, .unset, .unset, .unset, .unset] [(.int (p1 &&& (2147483647 : Int32)))]))
      refine Ends.step (fun _ k => XS.istore X0.here hx rfl (hb hby at_43) rfl (l' := #[.val (.long q0), .second, .val (.int p1), .val (.int p2), .val (.int p3), .val (.int (p2 &&& (3 : Int32))), .val (.long (-2 : Int64)), .second, .val (.int (p1 &&& (2147483647 : Int32))), .unset, .unset, .unset, .unset, .unset]) rfl k) ?_
      show Ends p e below QQ (s₁.setTop (mkF m 45 #[.val (.long q0), .second, .val (.int p1), .val (.int p2), .val (.int p3), .val (.int (p2 &&& (3 : Int32))), .val (.long (-2 : Int64)), .second, .val (.int (p1 &&& (2147483647 : Int32))), .unset, .unset, .unset, .unset, .unset] []))
      refine Ends.step (fun _ k => XT.lload X0.here hx rfl (hb hby at_45) rfl k) ?_
      show Ends p e below QQ (s₁.setTop (mkF m 47 #[.val (.long q0), .second, .val (.int p1), .val (.int p2), .val (.int p3), .val (.int (p2 &&& (3 : Int32))), .val (.long (-2 : Int64)), .second, .val (.int (p1 &&& (2147483647 : Int32))), .unset, .unset, .unset, .unset, .unset] [(.long (-2 : Int64))]))
      refine Ends.step (fun _ k => XT.lconstV X0.here hx rfl (0 : Int64) (hb hby at_47) rfl k) ?_
      show Ends p e below QQ (s₁.setTop (mkF m 48 #[.val (.long q0), .second, .val (.int p1), .val (.int p2), .val (.int p3), .val (.int (p2 &&& (3 : Int32))), .val (.long (-2 : Int64)), .second, .val (.int (p1 &&& (2147483647 : Int32))), .unset, .unset, .unset, .unset, .unset] [(.long (0 : Int64)), (.long (-2 : Int64))]))
      refine Ends.step (fun _ k => XT.lcmp X0.here hx rfl (hb hby at_48) rfl k) ?_
      show Ends p e below QQ (s₁.setTop (mkF m 49 #[.val (.long q0), .second, .val (.int p1), .val (.int p2), .val (.int p3), .val (.int (p2 &&& (3 : Int32))), .val (.long (-2 : Int64)), .second, .val (.int (p1 &&& (2147483647 : Int32))), .unset, .unset, .unset, .unset, .unset] [(.int (XT.cmpL (-2 : Int64) (0 : Int64)))]))
      refine Ends.step (fun _ k => XS.ifNo X0.here hx rfl (hb hby at_49) rfl (XT.ll_ge_f (by decide)) k) ?_
      show Ends p e below QQ (s₁.setTop (mkF m 52 #[.val (.long q0), .second, .val (.int p1), .val (.int p2), .val (.int p3), .val (.int (p2 &&& (3 : Int32))), .val (.long (-2 : Int64)), .second, .val (.int (p1 &&& (2147483647 : Int32))), .unset, .unset, .unset, .unset, .unset] []))
      refine Ends.step (fun _ k => XT.lload X0.here hx rfl (hb hby at_52) rfl k) ?_
      show Ends p e below QQ (s₁.setTop (mkF m 54 #[.val (.long q0), .second, .val (.int p1), .val (.int p2), .val (.int p3), .val (.int (p2 &&& (3 : Int32))), .val (.long (-2 : Int64)), .second, .val (.int (p1 &&& (2147483647 : Int32))), .unset, .unset, .unset, .unset, .unset] [(.long (-2 : Int64))]))
      refine Ends.step (fun _ k => X0.ldc2J hx hown (mvT hZ (hw _ (List.mem_of_getElem? (i := 0) rfl))) (g := (mkF m 54 #[.val (.long q0), .second, .val (.int p1), .val (.int p2), .val (.int p3), .val (.int (p2 &&& (3 : Int32))), .val (.long (-2 : Int64)), .second, .val (.int (p1 &&& (2147483647 : Int32))), .unset, .unset, .unset, .unset, .unset] [(.long (-2 : Int64))])) rfl (hb hby at_54) k) ?_
      show Ends p e below QQ (s₁.setTop (mkF m 57 #[.val (.long q0), .second, .val (.int p1), .val (.int p2), .val (.int p3), .val (.int (p2 &&& (3 : Int32))), .val (.long (-2 : Int64)), .second, .val (.int (p1 &&& (2147483647 : Int32))), .unset, .unset, .unset, .unset, .unset] [(.long (-2 : Int64)), (.long (-2 : Int64))]))
      refine Ends.step (fun _ k => XT.lcmp X0.here hx rfl (hb hby at_57) rfl k) ?_
      show Ends p e below QQ (s₁.setTop (mkF m 58 #[.val (.long q0), .second, .val (.int p1), .val (.int p2), .val (.int p3), .val (.int (p2 &&& (3 : Int32))), .val (.long (-2 : Int64)), .second, .val (.int (p1 &&& (2147483647 : Int32))), .unset, .unset, .unset, .unset, .unset] [(.int (XT.cmpL (-2 : Int64) (-2 : Int64)))]))
      refine Ends.step (fun _ k => XS.ifYes X0.here hx rfl (pc0 := 58) (pc' := 65) rfl (hb hby at_58) rfl (XT.ll_eq_t (by decide)) (by decide) (by decide) k) ?_
      show Ends p e below QQ (s₁.setTop (mkF m 65 #[.val (.long q0), .second, .val (.int p1), .val (.int p2), .val (.int p3), .val (.int (p2 &&& (3 : Int32))), .val (.long (-2 : Int64)), .second, .val (.int (p1 &&& (2147483647 : Int32))), .unset, .unset, .unset, .unset, .unset] []))
      refine Ends.step (fun _ k => XT.iconstV X0.here hx rfl (0 : Int32) (hb hby at_65) rfl k) ?_
      show Ends p e below QQ (s₁.setTop (mkF m 66 #[.val (.long q0), .second, .val (.int p1), .val (.int p2), .val (.int p3), .val (.int (p2 &&& (3 : Int32))), .val (.long (-2 : Int64)), .second, .val (.int (p1 &&& (2147483647 : Int32))), .unset, .unset, .unset, .unset, .unset] [(.int (0 : Int32))]))
      refine Ends.step (fun _ k => XS.istore X0.here hx rfl (hb hby at_66) rfl (l' := #[.val (.long q0), .second, .val (.int p1), .val (.int p2), .val (.int p3), .val (.int (p2 &&& (3 : Int32))), .val (.long (-2 : Int64)), .second, .val (.int (p1 &&& (2147483647 : Int32))), .val (.int (0 : Int32)), .unset, .unset, .unset, .unset]) rfl k) ?_
      show Ends p e below QQ (s₁.setTop (mkF m 68 #[.val (.long q0), .second, .val (.int p1), .val (.int p2), .val (.int p3), .val (.int (p2 &&& (3 : Int32))), .val (.long (-2 : Int64)), .second, .val (.int (p1 &&& (2147483647 : Int32))), .val (.int (0 : Int32)), .unset, .unset, .unset, .unset] []))
      obtain ⟨T223, h223, X223, e223, E223, A223, D223, U223, st223⟩ := newO X0 hx hZ hown (hw _ (List.mem_of_getElem? (i := 2) rfl)) (hw _ (List.mem_of_getElem? (i := 3) rfl)) (hw _ (List.mem_of_getElem? (i := 4) rfl)) e0 (g := (mkF m 68 #[.val (.long q0), .second, .val (.int p1), .val (.int p2), .val (.int p3), .val (.int (p2 &&& (3 : Int32))), .val (.long (-2 : Int64)), .second, .val (.int (p1 &&& (2147483647 : Int32))), .val (.int (0 : Int32)), .unset, .unset, .unset, .unset] [])) rfl (hb hby at_68) (by decide) (by decide)
      obtain ⟨b223, g223⟩ : ∃ z, z = h0.size := ⟨_, rfl⟩
      rw [← g223] at A223 D223 U223 st223
      have ne_a_NONE_b223 : a_NONE ≠ b223 := Nat.ne_of_lt (Nat.lt_of_lt_of_le E_a_NONE.lt (Nat.le_of_eq g223.symm))
      have ne_a_SIZE_LINE_b223 : a_SIZE_LINE ≠ b223 := Nat.ne_of_lt (Nat.lt_of_lt_of_le E_a_SIZE_LINE.lt (Nat.le_of_eq g223.symm))
      have ne_a_ENDED_b223 : a_ENDED ≠ b223 := Nat.ne_of_lt (Nat.lt_of_lt_of_le E_a_ENDED.lt (Nat.le_of_eq g223.symm))
      have ne_a_DATA_b223 : a_DATA ≠ b223 := Nat.ne_of_lt (Nat.lt_of_lt_of_le E_a_DATA.lt (Nat.le_of_eq g223.symm))
      have g_b223 : n0 ≤ b223 := Nat.le_trans Z0 (Nat.le_trans (Keep.refl h0 []).1 (Nat.le_of_eq g223.symm))
      have sz_b223 : h0.size ≤ b223 := Nat.le_trans (Keep.refl h0 []).1 (Nat.le_of_eq g223.symm)
      have E_a_NONE := E_a_NONE.ext E223
      have E_a_SIZE_LINE := E_a_SIZE_LINE.ext E223
      have E_a_ENDED := E_a_ENDED.ext E223
      have E_a_DATA := E_a_DATA.ext E223
      have F_ordinal_a_SIZE_LINE := F_ordinal_a_SIZE_LINE.ext E223
      have F_ordinal_a_ENDED := F_ordinal_a_ENDED.ext E223
      have F_ordinal_a_DATA := F_ordinal_a_DATA.ext E223
      have A_a_NONE := A_a_NONE.ext E223
      have S_NONE := S_NONE.ext E223
      have S_SIZE_LINE := S_SIZE_LINE.ext E223
      have S_ENDED := S_ENDED.ext E223
      have S_DATA := S_DATA.ext E223
      have S_COMPACT_STRINGS := S_COMPACT_STRINGS.ext E223
      have K223 := (Keep.refl h0 []).ext E223
      have E_b223 := A223
      have F_data_b223 : Fld Z h223 b223 "com/example/gatehook/gatehook/http/IncomingBody" "data" "[B" .null := D223 (Or.inl (hw _ (List.mem_of_getElem? (i := 14) rfl))) (ty := (.array .byte)) (by decide)
      have F_length_b223 : Fld Z h223 b223 "com/example/gatehook/gatehook/http/IncomingBody" "length" "J" (.long (0 : Int64)) := D223 (Or.inr (hw _ (List.mem_of_getElem? (i := 16) rfl))) (ty := .long) (by decide)
      have F_max_b223 : Fld Z h223 b223 "com/example/gatehook/gatehook/http/IncomingBody" "max" "I" (.int (0 : Int32)) := D223 (Or.inr (hw _ (List.mem_of_getElem? (i := 18) rfl))) (ty := .int) (by decide)
      have F_chunks_b223 : Fld Z h223 b223 "com/example/gatehook/gatehook/http/IncomingBody" "chunks" "Lcom/example/gatehook/gatehook/http/ChunkedBody;" .null := D223 (Or.inl (hw _ (List.mem_of_getElem? (i := 78) rfl))) (ty := (.object "com/example/gatehook/gatehook/http/ChunkedBody")) (by decide)
      have F_ended_b223 : Fld Z h223 b223 "com/example/gatehook/gatehook/http/IncomingBody" "ended" "Z" (.int (0 : Int32)) := D223 (Or.inl (hw _ (List.mem_of_getElem? (i := 91) rfl))) (ty := .boolean) (by decide)
      have F_dataLength_b223 : Fld Z h223 b223 "com/example/gatehook/gatehook/http/IncomingBody" "dataLength" "I" (.int (0 : Int32)) := D223 (Or.inl (hw _ (List.mem_of_getElem? (i := 106) rfl))) (ty := .int) (by decide)
      refine Ends.step st223 ?_
      show Ends p e below QQ (T223.setTop (mkF m 71 #[.val (.long q0), .second, .val (.int p1), .val (.int p2), .val (.int p3), .val (.int (p2 &&& (3 : Int32))), .val (.long (-2 : Int64)), .second, .val (.int (p1 &&& (2147483647 : Int32))), .val (.int (0 : Int32)), .unset, .unset, .unset, .unset] [(.ref b223)]))
      refine Ends.step (fun _ k => XS.dup X223.here hx rfl (hb hby at_71) rfl rfl k) ?_
      show Ends p e below QQ (T223.setTop (mkF m 72 #[.val (.long q0), .second, .val (.int p1), .val (.int p2), .val (.int p3), .val (.int (p2 &&& (3 : Int32))), .val (.long (-2 : Int64)), .second, .val (.int (p1 &&& (2147483647 : Int32))), .val (.int (0 : Int32)), .unset, .unset, .unset, .unset] [(.ref b223), (.ref b223)]))
      refine Ends.step (fun _ k => XT.lload X223.here hx rfl (hb hby at_72) rfl k) ?_
      show Ends p e below QQ (T223.setTop (mkF m 74 #[.val (.long q0), .second, .val (.int p1), .val (.int p2), .val (.int p3), .val (.int (p2 &&& (3 : Int32))), .val (.long (-2 : Int64)), .second, .val (.int (p1 &&& (2147483647 : Int32))), .val (.int (0 : Int32)), .unset, .unset, .unset, .unset] [(.long (-2 : Int64)), (.ref b223), (.ref b223)]))
      refine Ends.step (fun _ k => XS.iload X223.here hx rfl (hb hby at_74) rfl k) ?_
      show Ends p e below QQ (T223.setTop (mkF m 76 #[.val (.long q0), .second, .val (.int p1), .val (.int p2), .val (.int p3), .val (.int (p2 &&& (3 : Int32))), .val (.long (-2 : Int64)), .second, .val (.int (p1 &&& (2147483647 : Int32))), .val (.int (0 : Int32)), .unset, .unset, .unset, .unset] [(.int (p1 &&& (2147483647 : Int32))), (.long (-2 : Int64)), (.ref b223), (.ref b223)]))
      obtain ⟨_, _, ⟨T224, L224, k224, n224⟩, -, X224, ⟨Lc224, hQ224, l224, y224, z224⟩, st224⟩ := X223.specialBack hx (y := (⟨"com/example/gatehook/gatehook/http/IncomingBody", "<init>", "(JI)V"⟩ : MethodName)) rfl hown (mvT hZ (hw _ (List.mem_of_getElem? (i := 5) rfl))) (mvT hZ (hw _ (List.mem_of_getElem? (i := 6) rfl))) (mvT hZ (hw _ (List.mem_of_getElem? (i := 7) rfl))) (by decide) (backOf (W := 1) (rmia l Z a0 hw [] b223 (p1 &&& (2147483647 : Int32)) a_NONE a_SIZE_LINE cs h223 n0 (Nat.le_trans Z0 K223.1) E_b223 F_data_b223 F_length_b223 F_max_b223 F_chunks_b223 F_ended_b223 F_dataLength_b223 g_b223 S_NONE S_SIZE_LINE S_COMPACT_STRINGS hcs) hZ (hw _ (List.mem_of_getElem? (i := 7) rfl)) (hw _ (List.mem_of_getElem? (i := 4) rfl)) (by decide) (by decide)) (g := (mkF m 76 #[.val (.long q0), .second, .val (.int p1), .val (.int p2), .val (.int p3), .val (.int (p2 &&& (3 : Int32))), .val (.long (-2 : Int64)), .second, .val (.int (p1 &&& (2147483647 : Int32))), .val (.int (0 : Int32)), .unset, .unset, .unset, .unset] [(.int (p1 &&& (2147483647 : Int32))), (.long (-2 : Int64)), (.ref b223), (.ref b223)])) rfl (by rw [hml]; rfl) (Steps.refl _) (a := b223) (argsL := [(.long (-2 : Int64)), (.int (p1 &&& (2147483647 : Int32)))]) (rest := [(.ref b223)]) (lenOf pd_13 rfl) rfl (by show 2 * 0 + _ ≤ _; exact Nat.le_of_eq rfl) (hb hby at_76) (fun _ _ => ⟨rfl, e223, (by decide : 1 + 5 ≤ _), (by decide : 6 + 61 ≤ _)⟩)
      dsimp only [Pt.U, Pt.locs, Pt.cells, Pt.slots] at X224 l224 y224 z224 st224 hQ224
      subst l224 y224 z224
      obtain ⟨cc_224, sb_224, vb_224, kb_224, rfl, Nq224, Kq224, fq224_0, fq224_1, fq224_2, fq224_3, fq224_4, fq224_5, fq224_6, fq224_7, fq224_8, fq224_9, fq224_10, fq224_11, fq224_12, fq224_13, fq224_14, fq224_15, fq224_16, fq224_17, fq224_18, fq224_19⟩ := hQ224
      have N224 := Fr.app N0 Nq224
      have ne_a_NONE_cc_224 : a_NONE ≠ cc_224 := Nat.ne_of_lt (Nat.lt_of_lt_of_le E_a_NONE.lt fq224_0)
      have ne_a_SIZE_LINE_cc_224 : a_SIZE_LINE ≠ cc_224 := Nat.ne_of_lt (Nat.lt_of_lt_of_le E_a_SIZE_LINE.lt fq224_0)
      have ne_a_ENDED_cc_224 : a_ENDED ≠ cc_224 := Nat.ne_of_lt (Nat.lt_of_lt_of_le E_a_ENDED.lt fq224_0)
      have ne_a_DATA_cc_224 : a_DATA ≠ cc_224 := Nat.ne_of_lt (Nat.lt_of_lt_of_le E_a_DATA.lt fq224_0)
      have ne_b223_cc_224 : b223 ≠ cc_224 := Nat.ne_of_lt (Nat.lt_of_lt_of_le E_b223.lt fq224_0)
      have sz_cc_224 := Nat.le_trans K223.1 fq224_0
      have ne_a_NONE_sb_224 : a_NONE ≠ sb_224 := Nat.ne_of_lt (Nat.lt_of_lt_of_le E_a_NONE.lt fq224_1)
      have ne_a_SIZE_LINE_sb_224 : a_SIZE_LINE ≠ sb_224 := Nat.ne_of_lt (Nat.lt_of_lt_of_le E_a_SIZE_LINE.lt fq224_1)
      have ne_a_ENDED_sb_224 : a_ENDED ≠ sb_224 := Nat.ne_of_lt (Nat.lt_of_lt_of_le E_a_ENDED.lt fq224_1)
      have ne_a_DATA_sb_224 : a_DATA ≠ sb_224 := Nat.ne_of_lt (Nat.lt_of_lt_of_le E_a_DATA.lt fq224_1)
      have ne_b223_sb_224 : b223 ≠ sb_224 := Nat.ne_of_lt (Nat.lt_of_lt_of_le E_b223.lt fq224_1)
      have sz_sb_224 := Nat.le_trans K223.1 fq224_1
      have ne_a_NONE_vb_224 : a_NONE ≠ vb_224 := Nat.ne_of_lt (Nat.lt_of_lt_of_le E_a_NONE.lt fq224_2)
      have ne_a_SIZE_LINE_vb_224 : a_SIZE_LINE ≠ vb_224 := Nat.ne_of_lt (Nat.lt_of_lt_of_le E_a_SIZE_LINE.lt fq224_2)
      have ne_a_ENDED_vb_224 : a_ENDED ≠ vb_224 := Nat.ne_of_lt (Nat.lt_of_lt_of_le E_a_ENDED.lt fq224_2)
      have ne_a_DATA_vb_224 : a_DATA ≠ vb_224 := Nat.ne_of_lt (Nat.lt_of_lt_of_le E_a_DATA.lt fq224_2)
      have ne_b223_vb_224 : b223 ≠ vb_224 := Nat.ne_of_lt (Nat.lt_of_lt_of_le E_b223.lt fq224_2)
      have sz_vb_224 := Nat.le_trans K223.1 fq224_2
      have S_NONE := own_sta_keep S_NONE Kq224 (allS E_b223.cell all0)
      have S_SIZE_LINE := own_sta_keep S_SIZE_LINE Kq224 (allS E_b223.cell all0)
      have S_ENDED := own_sta_keep S_ENDED Kq224 (allS E_b223.cell all0)
      have S_DATA := own_sta_keep S_DATA Kq224 (allS E_b223.cell all0)
      have S_COMPACT_STRINGS := own_sta_keep S_COMPACT_STRINGS Kq224 (allS E_b223.cell all0)
      have E_a_NONE := E_a_NONE.keep Kq224
      have E_a_SIZE_LINE := E_a_SIZE_LINE.keep Kq224
      have E_a_ENDED := E_a_ENDED.keep Kq224
      have E_a_DATA := E_a_DATA.keep Kq224
      have F_ordinal_a_SIZE_LINE := F_ordinal_a_SIZE_LINE.keep Kq224 (ninS ne_a_SIZE_LINE_b223 nin0)
      have F_ordinal_a_ENDED := F_ordinal_a_ENDED.keep Kq224 (ninS ne_a_ENDED_b223 nin0)
      have F_ordinal_a_DATA := F_ordinal_a_DATA.keep Kq224 (ninS ne_a_DATA_b223 nin0)
      have A_a_NONE := A_a_NONE.keep Kq224 (ninS ne_a_NONE_b223 nin0)
      have E_b223 := fq224_3
      have F_length_b223 := fq224_4
      have F_ended_b223 := fq224_5
      have F_chunks_b223 := fq224_6
      have E_cc_224 := fq224_7
      have ne_cc_224_sb_224 := fq224_8
      have ne_cc_224_vb_224 := fq224_9
      have F_line_cc_224 := fq224_10
      have F_part_cc_224 := fq224_11
      have E_sb_224 := fq224_12
      have F_value_sb_224 := fq224_13
      have F_coder_sb_224 := fq224_14
      have F_count_sb_224 := fq224_15
      have A_vb_224 := fq224_16
      have g_sb_224 := fq224_17
      have g_vb_224 := fq224_18
      have ne_sb_224_vb_224 := fq224_19
      have K224 := K223.trans Kq224 (allS (Or.inr sz_b223) all0)
      refine Ends.step (fun _ k => st224.trans k) ?_
      show Ends p e below QQ (T224.setTop (mkF m 79 #[.val (.long q0), .second, .val (.int p1), .val (.int p2), .val (.int p3), .val (.int (p2 &&& (3 : Int32))), .val (.long (-2 : Int64)), .second, .val (.int (p1 &&& (2147483647 : Int32))), .val (.int (0 : Int32)), .unset, .unset, .unset, .unset] [(.ref b223)]))
      refine Ends.step (fun _ k => XS.astore X224.here hx rfl (hb hby at_79) rfl rfl (l' := #[.val (.long q0), .second, .val (.int p1), .val (.int p2), .val (.int p3), .val (.int (p2 &&& (3 : Int32))), .val (.long (-2 : Int64)), .second, .val (.int (p1 &&& (2147483647 : Int32))), .val (.int (0 : Int32)), .val (.ref b223), .unset, .unset, .unset]) rfl k) ?_
      show Ends p e below QQ (T224.setTop (mkF m 81 #[.val (.long q0), .second, .val (.int p1), .val (.int p2), .val (.int p3), .val (.int (p2 &&& (3 : Int32))), .val (.long (-2 : Int64)), .second, .val (.int (p1 &&& (2147483647 : Int32))), .val (.int (0 : Int32)), .val (.ref b223), .unset, .unset, .unset] []))
      refine Ends.step (fun _ k => XS.aload X224.here hx rfl (hb hby at_81) rfl rfl k) ?_
      show Ends p e below QQ (T224.setTop (mkF m 83 #[.val (.long q0), .second, .val (.int p1), .val (.int p2), .val (.int p3), .val (.int (p2 &&& (3 : Int32))), .val (.long (-2 : Int64)), .second, .val (.int (p1 &&& (2147483647 : Int32))), .val (.int (0 : Int32)), .val (.ref b223), .unset, .unset, .unset] [(.ref b223)]))
      obtain ⟨cq225, kq225, q225a, q225b, q225c⟩ := isOf hZ rfl E_b223
      obtain ⟨_, _, ⟨T225, L225, k225, n225⟩, -, X225, ⟨Lc225, hQ225, l225, y225, z225⟩, st225⟩ := X224.virtualBack hx (y := (⟨"com/example/gatehook/gatehook/http/IncomingBody", "lastsUntilClose", "()Z"⟩ : MethodName)) (z := (⟨"com/example/gatehook/gatehook/http/IncomingBody", "lastsUntilClose", "()Z"⟩ : MethodName)) hown (mvT hZ (hw _ (List.mem_of_getElem? (i := 79) rfl))) (mvT hZ (hw _ (List.mem_of_getElem? (i := 80) rfl))) (notFace_of_selects (args := #[]) (mvT hZ (hw _ (List.mem_of_getElem? (i := 82) rfl)))) (mvT hZ (hw _ (List.mem_of_getElem? (i := 82) rfl))) (mvT hZ (hw _ (List.mem_of_getElem? (i := 81) rfl))) (by decide) (backOf (W := 0) (rmluc l Z a0 hw [] b223 (-2 : Int64) T224.heap n0 (Nat.le_trans Z0 K224.1) F_length_b223) hZ (hw _ (List.mem_of_getElem? (i := 83) rfl)) (hw _ (List.mem_of_getElem? (i := 4) rfl)) (by decide) (by decide)) q225a q225c (g := (mkF m 83 #[.val (.long q0), .second, .val (.int p1), .val (.int p2), .val (.int p3), .val (.int (p2 &&& (3 : Int32))), .val (.long (-2 : Int64)), .second, .val (.int (p1 &&& (2147483647 : Int32))), .val (.int (0 : Int32)), .val (.ref b223), .unset, .unset, .unset] [(.ref b223)])) rfl (by rw [hml]; rfl) (Steps.refl _) (argsL := []) (rest := []) (lenOf pd_6 rfl) rfl (by show 2 * 0 + _ ≤ _; exact Nat.le_of_eq rfl) (hb hby at_83) (fun _ _ => ⟨rfl, rfl, (by decide : 6 + 0 ≤ _), (by decide : 67 + 0 ≤ _)⟩)
      dsimp only [Pt.U, Pt.locs, Pt.cells, Pt.slots] at X225 l225 y225 z225 st225 hQ225
      subst l225 y225 z225
      obtain ⟨rfl, Nq225, hh225⟩ := hQ225
      have N225 := Fr.app N224 Nq225
      refine Ends.step (fun _ k => st225.trans k) ?_
      show Ends p e below QQ (T225.setTop (mkF m 86 #[.val (.long q0), .second, .val (.int p1), .val (.int p2), .val (.int p3), .val (.int (p2 &&& (3 : Int32))), .val (.long (-2 : Int64)), .second, .val (.int (p1 &&& (2147483647 : Int32))), .val (.int (0 : Int32)), .val (.ref b223), .unset, .unset, .unset] [(.int (fluc (-2 : Int64)))]))
      refine Ends.step (fun _ k => XS.istore X225.here hx rfl (hb hby at_86) rfl (l' := #[.val (.long q0), .second, .val (.int p1), .val (.int p2), .val (.int p3), .val (.int (p2 &&& (3 : Int32))), .val (.long (-2 : Int64)), .second, .val (.int (p1 &&& (2147483647 : Int32))), .val (.int (0 : Int32)), .val (.ref b223), .val (.int (fluc (-2 : Int64))), .unset, .unset]) rfl k) ?_
      show Ends p e below QQ (T225.setTop (mkF m 88 #[.val (.long q0), .second, .val (.int p1), .val (.int p2), .val (.int p3), .val (.int (p2 &&& (3 : Int32))), .val (.long (-2 : Int64)), .second, .val (.int (p1 &&& (2147483647 : Int32))), .val (.int (0 : Int32)), .val (.ref b223), .val (.int (fluc (-2 : Int64))), .unset, .unset] []))
      refine Ends.step (fun _ k => XT.iconstV X225.here hx rfl (1 : Int32) (hb hby at_88) rfl k) ?_
      show Ends p e below QQ (T225.setTop (mkF m 89 #[.val (.long q0), .second, .val (.int p1), .val (.int p2), .val (.int p3), .val (.int (p2 &&& (3 : Int32))), .val (.long (-2 : Int64)), .second, .val (.int (p1 &&& (2147483647 : Int32))), .val (.int (0 : Int32)), .val (.ref b223), .val (.int (fluc (-2 : Int64))), .unset, .unset] [(.int (1 : Int32))]))
      obtain ⟨T226, h226, k226, X226, e226, E226, A226, st226⟩ := newP X225 hx hZ (hw _ (List.mem_of_getElem? (i := 44) rfl)) hh225 (g := (mkF m 89 #[.val (.long q0), .second, .val (.int p1), .val (.int p2), .val (.int p3), .val (.int (p2 &&& (3 : Int32))), .val (.long (-2 : Int64)), .second, .val (.int (p1 &&& (2147483647 : Int32))), .val (.int (0 : Int32)), .val (.ref b223), .val (.int (fluc (-2 : Int64))), .unset, .unset] [(.int (1 : Int32))])) rfl (hb hby at_89) rfl (by decide) (cap := 1) (by decide) (by decide) (by decide) (by decide)
      obtain ⟨b226, g226⟩ : ∃ z, z = T224.heap.size := ⟨_, rfl⟩
      rw [← g226] at A226 st226
      have ne_a_NONE_b226 : a_NONE ≠ b226 := Nat.ne_of_lt (Nat.lt_of_lt_of_le E_a_NONE.lt (Nat.le_of_eq g226.symm))
      have ne_a_SIZE_LINE_b226 : a_SIZE_LINE ≠ b226 := Nat.ne_of_lt (Nat.lt_of_lt_of_le E_a_SIZE_LINE.lt (Nat.le_of_eq g226.symm))
      have ne_a_ENDED_b226 : a_ENDED ≠ b226 := Nat.ne_of_lt (Nat.lt_of_lt_of_le E_a_ENDED.lt (Nat.le_of_eq g226.symm))
      have ne_a_DATA_b226 : a_DATA ≠ b226 := Nat.ne_of_lt (Nat.lt_of_lt_of_le E_a_DATA.lt (Nat.le_of_eq g226.symm))
      have ne_b223_b226 : b223 ≠ b226 := Nat.ne_of_lt (Nat.lt_of_lt_of_le E_b223.lt (Nat.le_of_eq g226.symm))
      have ne_cc_224_b226 : cc_224 ≠ b226 := Nat.ne_of_lt (Nat.lt_of_lt_of_le E_cc_224.lt (Nat.le_of_eq g226.symm))
      have ne_sb_224_b226 : sb_224 ≠ b226 := Nat.ne_of_lt (Nat.lt_of_lt_of_le E_sb_224.lt (Nat.le_of_eq g226.symm))
      have ne_vb_224_b226 : vb_224 ≠ b226 := Nat.ne_of_lt (Nat.lt_of_lt_of_le A_vb_224.lt (Nat.le_of_eq g226.symm))
      have g_b226 : n0 ≤ b226 := Nat.le_trans Z0 (Nat.le_trans K224.1 (Nat.le_of_eq g226.symm))
      have sz_b226 : h0.size ≤ b226 := Nat.le_trans K224.1 (Nat.le_of_eq g226.symm)
      have E_a_NONE := E_a_NONE.ext E226
      have E_a_SIZE_LINE := E_a_SIZE_LINE.ext E226
      have E_a_ENDED := E_a_ENDED.ext E226
      have E_a_DATA := E_a_DATA.ext E226
      have F_ordinal_a_SIZE_LINE := F_ordinal_a_SIZE_LINE.ext E226
      have F_ordinal_a_ENDED := F_ordinal_a_ENDED.ext E226
      have F_ordinal_a_DATA := F_ordinal_a_DATA.ext E226
      have A_a_NONE := A_a_NONE.ext E226
      have S_NONE := S_NONE.ext E226
      have S_SIZE_LINE := S_SIZE_LINE.ext E226
      have S_ENDED := S_ENDED.ext E226
      have S_DATA := S_DATA.ext E226
      have S_COMPACT_STRINGS := S_COMPACT_STRINGS.ext E226
      have E_b223 := E_b223.ext E226
      have F_length_b223 := F_length_b223.ext E226
      have F_chunks_b223 := F_chunks_b223.ext E226
      have F_ended_b223 := F_ended_b223.ext E226
      have E_cc_224 := E_cc_224.ext E226
      have F_line_cc_224 := F_line_cc_224.ext E226
      have F_part_cc_224 := F_part_cc_224.ext E226
      have E_sb_224 := E_sb_224.ext E226
      have F_value_sb_224 := F_value_sb_224.ext E226
      have F_coder_sb_224 := F_coder_sb_224.ext E226
      have F_count_sb_224 := F_count_sb_224.ext E226
      have A_vb_224 := A_vb_224.ext E226
      have K226 := K224.ext E226
      have A_b226 : Arv Z h226 b226 k226 .byte (1 : Int32) [(.int (0 : Int32))] (.int (0 : Int32)) := (Arv.new A226 (by decide)).pad (pad_rep [] (.int (0 : Int32)) 1)
      refine Ends.step st226 ?_
      show Ends p e below QQ (T226.setTop (mkF m 91 #[.val (.long q0), .second, .val (.int p1), .val (.int p2), .val (.int p3), .val (.int (p2 &&& (3 : Int32))), .val (.long (-2 : Int64)), .second, .val (.int (p1 &&& (2147483647 : Int32))), .val (.int (0 : Int32)), .val (.ref b223), .val (.int (fluc (-2 : Int64))), .unset, .unset] [(.ref b226)]))
      refine Ends.step (fun _ k => XS.astore X226.here hx rfl (hb hby at_91) rfl rfl (l' := #[.val (.long q0), .second, .val (.int p1), .val (.int p2), .val (.int p3), .val (.int (p2 &&& (3 : Int32))), .val (.long (-2 : Int64)), .second, .val (.int (p1 &&& (2147483647 : Int32))), .val (.int (0 : Int32)), .val (.ref b223), .val (.int (fluc (-2 : Int64))), .val (.ref b226), .unset]) rfl k) ?_
      show Ends p e below QQ (T226.setTop (mkF m 93 #[.val (.long q0), .second, .val (.int p1), .val (.int p2), .val (.int p3), .val (.int (p2 &&& (3 : Int32))), .val (.long (-2 : Int64)), .second, .val (.int (p1 &&& (2147483647 : Int32))), .val (.int (0 : Int32)), .val (.ref b223), .val (.int (fluc (-2 : Int64))), .val (.ref b226), .unset] []))
      refine Ends.step (fun _ k => XS.aload X226.here hx rfl (hb hby at_93) rfl rfl k) ?_
      show Ends p e below QQ (T226.setTop (mkF m 95 #[.val (.long q0), .second, .val (.int p1), .val (.int p2), .val (.int p3), .val (.int (p2 &&& (3 : Int32))), .val (.long (-2 : Int64)), .second, .val (.int (p1 &&& (2147483647 : Int32))), .val (.int (0 : Int32)), .val (.ref b223), .val (.int (fluc (-2 : Int64))), .val (.ref b226), .unset] [(.ref b226)]))
      refine Ends.step (fun _ k => XT.iconstV X226.here hx rfl (0 : Int32) (hb hby at_95) rfl k) ?_
      show Ends p e below QQ (T226.setTop (mkF m 96 #[.val (.long q0), .second, .val (.int p1), .val (.int p2), .val (.int p3), .val (.int (p2 &&& (3 : Int32))), .val (.long (-2 : Int64)), .second, .val (.int (p1 &&& (2147483647 : Int32))), .val (.int (0 : Int32)), .val (.ref b223), .val (.int (fluc (-2 : Int64))), .val (.ref b226), .unset] [(.int (0 : Int32)), (.ref b226)]))
      refine Ends.step (fun _ k => XS.iload X226.here hx rfl (hb hby at_96) rfl k) ?_
      show Ends p e below QQ (T226.setTop (mkF m 98 #[.val (.long q0), .second, .val (.int p1), .val (.int p2), .val (.int p3), .val (.int (p2 &&& (3 : Int32))), .val (.long (-2 : Int64)), .second, .val (.int (p1 &&& (2147483647 : Int32))), .val (.int (0 : Int32)), .val (.ref b223), .val (.int (fluc (-2 : Int64))), .val (.ref b226), .unset] [(.int p3), (.int (0 : Int32)), (.ref b226)]))
      refine Ends.step (fun _ k => XT.bipushV X226.here hx rfl (63 : Int32) (hb hby at_98) rfl k) ?_
      show Ends p e below QQ (T226.setTop (mkF m 100 #[.val (.long q0), .second, .val (.int p1), .val (.int p2), .val (.int p3), .val (.int (p2 &&& (3 : Int32))), .val (.long (-2 : Int64)), .second, .val (.int (p1 &&& (2147483647 : Int32))), .val (.int (0 : Int32)), .val (.ref b223), .val (.int (fluc (-2 : Int64))), .val (.ref b226), .unset] [(.int (63 : Int32)), (.int p3), (.int (0 : Int32)), (.ref b226)]))
      refine Ends.step (fun _ k => XS.iand X226.here hx rfl (hb hby at_100) rfl k) ?_
      show Ends p e below QQ (T226.setTop (mkF m 101 #[.val (.long q0), .second, .val (.int p1), .val (.int p2), .val (.int p3), .val (.int (p2 &&& (3 : Int32))), .val (.long (-2 : Int64)), .second, .val (.int (p1 &&& (2147483647 : Int32))), .val (.int (0 : Int32)), .val (.ref b223), .val (.int (fluc (-2 : Int64))), .val (.ref b226), .unset] [(.int (p3 &&& (63 : Int32))), (.int (0 : Int32)), (.ref b226)]))
      refine Ends.step (fun _ k => XT.bipushV X226.here hx rfl (64 : Int32) (hb hby at_101) rfl k) ?_
      show Ends p e below QQ (T226.setTop (mkF m 103 #[.val (.long q0), .second, .val (.int p1), .val (.int p2), .val (.int p3), .val (.int (p2 &&& (3 : Int32))), .val (.long (-2 : Int64)), .second, .val (.int (p1 &&& (2147483647 : Int32))), .val (.int (0 : Int32)), .val (.ref b223), .val (.int (fluc (-2 : Int64))), .val (.ref b226), .unset] [(.int (64 : Int32)), (.int (p3 &&& (63 : Int32))), (.int (0 : Int32)), (.ref b226)]))
      refine Ends.step (fun _ k => XS.iadd X226.here hx rfl (hb hby at_103) rfl k) ?_
      show Ends p e below QQ (T226.setTop (mkF m 104 #[.val (.long q0), .second, .val (.int p1), .val (.int p2), .val (.int p3), .val (.int (p2 &&& (3 : Int32))), .val (.long (-2 : Int64)), .second, .val (.int (p1 &&& (2147483647 : Int32))), .val (.int (0 : Int32)), .val (.ref b223), .val (.int (fluc (-2 : Int64))), .val (.ref b226), .unset] [(.int ((p3 &&& (63 : Int32)) + (64 : Int32))), (.int (0 : Int32)), (.ref b226)]))
      refine Ends.step (fun _ k => XT.i2b X226.here hx rfl (hb hby at_104) rfl k) ?_
      show Ends p e below QQ (T226.setTop (mkF m 105 #[.val (.long q0), .second, .val (.int p1), .val (.int p2), .val (.int p3), .val (.int (p2 &&& (3 : Int32))), .val (.long (-2 : Int64)), .second, .val (.int (p1 &&& (2147483647 : Int32))), .val (.int (0 : Int32)), .val (.ref b223), .val (.int (fluc (-2 : Int64))), .val (.ref b226), .unset] [(.int ((p3 &&& (63 : Int32)) + (64 : Int32)).toInt8.toInt32), (.int (0 : Int32)), (.ref b226)]))
      obtain ⟨cl227, Ar227, q227, S227, P227, H227, G227⟩ := id A_b226
      have hin227 : ¬ ((0 : Int32) < 0 ∨ cl227.slots.size ≤ ((0 : Int32)).toNatClampNeg) := inb_of S227 ⟨by decide, by decide⟩
      obtain ⟨T228, h228, X228, e228, W228, st228⟩ := stB X226 hx hZ e226 Ar227 (j := (0 : Int32)) hin227 (g := (mkF m 105 #[.val (.long q0), .second, .val (.int p1), .val (.int p2), .val (.int p3), .val (.int (p2 &&& (3 : Int32))), .val (.long (-2 : Int64)), .second, .val (.int (p1 &&& (2147483647 : Int32))), .val (.int (0 : Int32)), .val (.ref b223), .val (.int (fluc (-2 : Int64))), .val (.ref b226), .unset] [(.int ((p3 &&& (63 : Int32)) + (64 : Int32)).toInt8.toInt32), (.int (0 : Int32)), (.ref b226)])) rfl rfl (hb hby at_105)
      rw [own_narb] at W228
      have E_a_NONE := E_a_NONE.wr W228
      have E_a_SIZE_LINE := E_a_SIZE_LINE.wr W228
      have E_a_ENDED := E_a_ENDED.wr W228
      have E_a_DATA := E_a_DATA.wr W228
      have F_ordinal_a_SIZE_LINE := F_ordinal_a_SIZE_LINE.other W228 (Or.inl ne_a_SIZE_LINE_b226)
      have F_ordinal_a_ENDED := F_ordinal_a_ENDED.other W228 (Or.inl ne_a_ENDED_b226)
      have F_ordinal_a_DATA := F_ordinal_a_DATA.other W228 (Or.inl ne_a_DATA_b226)
      have A_a_NONE := A_a_NONE.other W228 ne_a_NONE_b226
      have S_NONE := S_NONE.wr W228
      have S_SIZE_LINE := S_SIZE_LINE.wr W228
      have S_ENDED := S_ENDED.wr W228
      have S_DATA := S_DATA.wr W228
      have S_COMPACT_STRINGS := S_COMPACT_STRINGS.wr W228
      have E_b223 := E_b223.wr W228
      have F_length_b223 := F_length_b223.other W228 (Or.inl ne_b223_b226)
      have F_chunks_b223 := F_chunks_b223.other W228 (Or.inl ne_b223_b226)
      have F_ended_b223 := F_ended_b223.other W228 (Or.inl ne_b223_b226)
      have E_cc_224 := E_cc_224.wr W228
      have F_line_cc_224 := F_line_cc_224.other W228 (Or.inl ne_cc_224_b226)
      have F_part_cc_224 := F_part_cc_224.other W228 (Or.inl ne_cc_224_b226)
      have E_sb_224 := E_sb_224.wr W228
      have F_value_sb_224 := F_value_sb_224.other W228 (Or.inl ne_sb_224_b226)
      have F_coder_sb_224 := F_coder_sb_224.other W228 (Or.inl ne_sb_224_b226)
      have F_count_sb_224 := F_count_sb_224.other W228 (Or.inl ne_sb_224_b226)
      have A_vb_224 := A_vb_224.other W228 ne_vb_224_b226
      have A_b226 : Arv Z h228 b226 k226 .byte (1 : Int32) [(.int ((p3 &&& (63 : Int32)) + (64 : Int32)).toInt8.toInt32)] (.int (0 : Int32)) := Arv.set Ar227 q227 S227 P227 H227 G227 (fits_nar_byte _) W228 0 rfl (Nat.le_of_ble_eq_true rfl)
      have K228 := K226.wr W228 (Or.inr sz_b226)
      have N228 := Fr.snoc X228 N225 g_b226
      refine Ends.step st228 ?_
      show Ends p e below QQ (T228.setTop (mkF m 106 #[.val (.long q0), .second, .val (.int p1), .val (.int p2), .val (.int p3), .val (.int (p2 &&& (3 : Int32))), .val (.long (-2 : Int64)), .second, .val (.int (p1 &&& (2147483647 : Int32))), .val (.int (0 : Int32)), .val (.ref b223), .val (.int (fluc (-2 : Int64))), .val (.ref b226), .unset] []))
      refine Ends.step (fun _ k => XS.aload X228.here hx rfl (hb hby at_106) rfl rfl k) ?_
      show Ends p e below QQ (T228.setTop (mkF m 108 #[.val (.long q0), .second, .val (.int p1), .val (.int p2), .val (.int p3), .val (.int (p2 &&& (3 : Int32))), .val (.long (-2 : Int64)), .second, .val (.int (p1 &&& (2147483647 : Int32))), .val (.int (0 : Int32)), .val (.ref b223), .val (.int (fluc (-2 : Int64))), .val (.ref b226), .unset] [(.ref b223)]))
      refine Ends.step (fun _ k => XS.aload X228.here hx rfl (hb hby at_108) rfl rfl k) ?_
      show Ends p e below QQ (T228.setTop (mkF m 110 #[.val (.long q0), .second, .val (.int p1), .val (.int p2), .val (.int p3), .val (.int (p2 &&& (3 : Int32))), .val (.long (-2 : Int64)), .second, .val (.int (p1 &&& (2147483647 : Int32))), .val (.int (0 : Int32)), .val (.ref b223), .val (.int (fluc (-2 : Int64))), .val (.ref b226), .unset] [(.ref b226), (.ref b223)]))
      refine Ends.step (fun _ k => XT.iconstV X228.here hx rfl (0 : Int32) (hb hby at_110) rfl k) ?_
      show Ends p e below QQ (T228.setTop (mkF m 111 #[.val (.long q0), .second, .val (.int p1), .val (.int p2), .val (.int p3), .val (.int (p2 &&& (3 : Int32))), .val (.long (-2 : Int64)), .second, .val (.int (p1 &&& (2147483647 : Int32))), .val (.int (0 : Int32)), .val (.ref b223), .val (.int (fluc (-2 : Int64))), .val (.ref b226), .unset] [(.int (0 : Int32)), (.ref b226), (.ref b223)]))
      refine Ends.step (fun _ k => XS.iload X228.here hx rfl (hb hby at_111) rfl k) ?_
      show Ends p e below QQ (T228.setTop (mkF m 113 #[.val (.long q0), .second, .val (.int p1), .val (.int p2), .val (.int p3), .val (.int (p2 &&& (3 : Int32))), .val (.long (-2 : Int64)), .second, .val (.int (p1 &&& (2147483647 : Int32))), .val (.int (0 : Int32)), .val (.ref b223), .val (.int (fluc (-2 : Int64))), .val (.ref b226), .unset] [(.int p3), (.int (0 : Int32)), (.ref b226), (.ref b223)]))
      refine Ends.step (fun _ k => XT.bipushV X228.here hx rfl (8 : Int32) (hb hby at_113) rfl k) ?_
      show Ends p e below QQ (T228.setTop (mkF m 115 #[.val (.long q0), .second, .val (.int p1), .val (.int p2), .val (.int p3), .val (.int (p2 &&& (3 : Int32))), .val (.long (-2 : Int64)), .second, .val (.int (p1 &&& (2147483647 : Int32))), .val (.int (0 : Int32)), .val (.ref b223), .val (.int (fluc (-2 : Int64))), .val (.ref b226), .unset] [(.int (8 : Int32)), (.int p3), (.int (0 : Int32)), (.ref b226), (.ref b223)]))
      refine Ends.step (fun _ k => XS.iushr X228.here hx rfl (hb hby at_115) rfl k) ?_
      show Ends p e below QQ (T228.setTop (mkF m 116 #[.val (.long q0), .second, .val (.int p1), .val (.int p2), .val (.int p3), .val (.int (p2 &&& (3 : Int32))), .val (.long (-2 : Int64)), .second, .val (.int (p1 &&& (2147483647 : Int32))), .val (.int (0 : Int32)), .val (.ref b223), .val (.int (fluc (-2 : Int64))), .val (.ref b226), .unset] [(.int ((p3.toUInt32 >>> ((8 : Int32) &&& 31).toUInt32).toInt32)), (.int (0 : Int32)), (.ref b226), (.ref b223)]))
      refine Ends.step (fun _ k => XT.iconstV X228.here hx rfl (1 : Int32) (hb hby at_116) rfl k) ?_
      show Ends p e below QQ (T228.setTop (mkF m 117 #[.val (.long q0), .second, .val (.int p1), .val (.int p2), .val (.int p3), .val (.int (p2 &&& (3 : Int32))), .val (.long (-2 : Int64)), .second, .val (.int (p1 &&& (2147483647 : Int32))), .val (.int (0 : Int32)), .val (.ref b223), .val (.int (fluc (-2 : Int64))), .val (.ref b226), .unset] [(.int (1 : Int32)), (.int ((p3.toUInt32 >>> ((8 : Int32) &&& 31).toUInt32).toInt32)), (.int (0 : Int32)), (.ref b226), (.ref b223)]))
      refine Ends.step (fun _ k => XS.iand X228.here hx rfl (hb hby at_117) rfl k) ?_
      by_cases hs118_229 : (((p3.toUInt32 >>> ((8 : Int32) &&& 31).toUInt32).toInt32) &&& (1 : Int32)) = (0 : Int32)
      · show Ends p e below QQ (T228.setTop (mkF m 118 #[.val (.long q0), .second, .val (.int p1), .val (.int p2), .val (.int p3), .val (.int (p2 &&& (3 : Int32))), .val (.long (-2 : Int64)), .second, .val (.int (p1 &&& (2147483647 : Int32))), .val (.int (0 : Int32)), .val (.ref b223), .val (.int (fluc (-2 : Int64))), .val (.ref b226), .unset] [(.int (((p3.toUInt32 >>> ((8 : Int32) &&& 31).toUInt32).toInt32) &&& (1 : Int32))), (.int (0 : Int32)), (.ref b226), (.ref b223)]))
        rw [hs118_229]
        show Ends p e below QQ (T228.setTop (mkF m 118 #[.val (.long q0), .second, .val (.int p1), .val (.int p2), .val (.int p3), .val (.int (p2 &&& (3 : Int32))), .val (.long (-2 : Int64)), .second, .val (.int (p1 &&& (2147483647 : Int32))), .val (.int (0 : Int32)), .val (.ref b223), .val (.int (fluc (-2 : Int64))), .val (.ref b226), .unset] [(.int (0 : Int32)), (.int (0 : Int32)), (.ref b226), (.ref b223)]))
        obtain ⟨cq230, kq230, q230a, q230b, q230c⟩ := isOf hZ e228 E_b223
        obtain ⟨_, _, ⟨T230, L230, k230, n230⟩, -, X230, ⟨Lc230, hQ230, l230, y230, z230⟩, st230⟩ := X228.virtualBack hx (y := (⟨"com/example/gatehook/gatehook/http/IncomingBody", "take", "([BII)I"⟩ : MethodName)) (z := (⟨"com/example/gatehook/gatehook/http/IncomingBody", "take", "([BII)I"⟩ : MethodName)) hown (mvT hZ (hw _ (List.mem_of_getElem? (i := 85) rfl))) (mvT hZ (hw _ (List.mem_of_getElem? (i := 86) rfl))) (notFace_of_selects (args := #[]) (mvT hZ (hw _ (List.mem_of_getElem? (i := 88) rfl)))) (mvT hZ (hw _ (List.mem_of_getElem? (i := 88) rfl))) (mvT hZ (hw _ (List.mem_of_getElem? (i := 87) rfl))) (by decide) (backOf (W := 0) (rmtc0 l Z a0 hw [] b223 b226 cc_224 sb_224 vb_224 kb_224 a_SIZE_LINE a_ENDED a_DATA cs h228 n0 (Nat.le_trans Z0 K228.1) E_b223 F_ended_b223 F_chunks_b223 E_cc_224 F_line_cc_224 F_part_cc_224 E_sb_224 F_value_sb_224 F_coder_sb_224 F_count_sb_224 A_vb_224 g_sb_224 g_vb_224 ne_sb_224_vb_224 F_ordinal_a_SIZE_LINE E_a_SIZE_LINE S_COMPACT_STRINGS hcs S_ENDED S_DATA ne_a_SIZE_LINE_a_ENDED ne_a_SIZE_LINE_a_DATA) hZ (hw _ (List.mem_of_getElem? (i := 89) rfl)) (hw _ (List.mem_of_getElem? (i := 4) rfl)) (by decide) (by decide)) q230a q230c (g := (mkF m 118 #[.val (.long q0), .second, .val (.int p1), .val (.int p2), .val (.int p3), .val (.int (p2 &&& (3 : Int32))), .val (.long (-2 : Int64)), .second, .val (.int (p1 &&& (2147483647 : Int32))), .val (.int (0 : Int32)), .val (.ref b223), .val (.int (fluc (-2 : Int64))), .val (.ref b226), .unset] [(.int (0 : Int32)), (.int (0 : Int32)), (.ref b226), (.ref b223)])) rfl (by rw [hml]; rfl) (Steps.refl _) (argsL := [(.ref b226), (.int (0 : Int32)), (.int (0 : Int32))]) (rest := []) (lenOf pd_11 rfl) rfl (by show 2 * 0 + _ ≤ _; exact Nat.le_of_eq rfl) (hb hby at_118) (fun _ _ => ⟨rfl, e228, (by decide : 7 + 0 ≤ _), (by decide : 68 + 0 ≤ _)⟩)
        dsimp only [Pt.U, Pt.locs, Pt.cells, Pt.slots] at X230 l230 y230 z230 st230 hQ230
        subst l230 y230 z230
        obtain ⟨rfl, Nq230, hh230⟩ := hQ230
        have N230 := Fr.app N228 Nq230
        refine Ends.step (fun _ k => st230.trans k) ?_
        show Ends p e below QQ (T230.setTop (mkF m 121 #[.val (.long q0), .second, .val (.int p1), .val (.int p2), .val (.int p3), .val (.int (p2 &&& (3 : Int32))), .val (.long (-2 : Int64)), .second, .val (.int (p1 &&& (2147483647 : Int32))), .val (.int (0 : Int32)), .val (.ref b223), .val (.int (fluc (-2 : Int64))), .val (.ref b226), .unset] [(.int (0 : Int32))]))
        refine Ends.step (fun _ k => XT.pop X230.here hx rfl (hb hby at_121) rfl rfl k) ?_
        show Ends p e below QQ (T230.setTop (mkF m 122 #[.val (.long q0), .second, .val (.int p1), .val (.int p2), .val (.int p3), .val (.int (p2 &&& (3 : Int32))), .val (.long (-2 : Int64)), .second, .val (.int (p1 &&& (2147483647 : Int32))), .val (.int (0 : Int32)), .val (.ref b223), .val (.int (fluc (-2 : Int64))), .val (.ref b226), .unset] []))
        refine Ends.step (fun _ k => XS.aload X230.here hx rfl (hb hby at_122) rfl rfl k) ?_
        show Ends p e below QQ (T230.setTop (mkF m 124 #[.val (.long q0), .second, .val (.int p1), .val (.int p2), .val (.int p3), .val (.int (p2 &&& (3 : Int32))), .val (.long (-2 : Int64)), .second, .val (.int (p1 &&& (2147483647 : Int32))), .val (.int (0 : Int32)), .val (.ref b223), .val (.int (fluc (-2 : Int64))), .val (.ref b226), .unset] [(.ref b223)]))
        obtain ⟨cq231, kq231, q231a, q231b, q231c⟩ := isOf hZ hh230 E_b223
        obtain ⟨_, _, ⟨T231, L231, k231, n231⟩, -, X231, ⟨Lc231, hQ231, l231, y231, z231⟩, st231⟩ := X230.virtualBack hx (y := (⟨"com/example/gatehook/gatehook/http/IncomingBody", "lastsUntilClose", "()Z"⟩ : MethodName)) (z := (⟨"com/example/gatehook/gatehook/http/IncomingBody", "lastsUntilClose", "()Z"⟩ : MethodName)) hown (mvT hZ (hw _ (List.mem_of_getElem? (i := 79) rfl))) (mvT hZ (hw _ (List.mem_of_getElem? (i := 80) rfl))) (notFace_of_selects (args := #[]) (mvT hZ (hw _ (List.mem_of_getElem? (i := 82) rfl)))) (mvT hZ (hw _ (List.mem_of_getElem? (i := 82) rfl))) (mvT hZ (hw _ (List.mem_of_getElem? (i := 81) rfl))) (by decide) (backOf (W := 0) (rmluc l Z a0 hw [] b223 (-2 : Int64) h228 n0 (Nat.le_trans Z0 K228.1) F_length_b223) hZ (hw _ (List.mem_of_getElem? (i := 83) rfl)) (hw _ (List.mem_of_getElem? (i := 4) rfl)) (by decide) (by decide)) q231a q231c (g := (mkF m 124 #[.val (.long q0), .second, .val (.int p1), .val (.int p2), .val (.int p3), .val (.int (p2 &&& (3 : Int32))), .val (.long (-2 : Int64)), .second, .val (.int (p1 &&& (2147483647 : Int32))), .val (.int (0 : Int32)), .val (.ref b223), .val (.int (fluc (-2 : Int64))), .val (.ref b226), .unset] [(.ref b223)])) rfl (by rw [hml]; rfl) (Steps.refl _) (argsL := []) (rest := []) (lenOf pd_6 rfl) rfl (by show 2 * 0 + _ ≤ _; exact Nat.le_of_eq rfl) (hb hby at_124) (fun _ _ => ⟨rfl, hh230, (by decide : 7 + 0 ≤ _), (by decide : 68 + 0 ≤ _)⟩)
        dsimp only [Pt.U, Pt.locs, Pt.cells, Pt.slots] at X231 l231 y231 z231 st231 hQ231
        subst l231 y231 z231
        obtain ⟨rfl, Nq231, hh231⟩ := hQ231
        have N231 := Fr.app N230 Nq231
        refine Ends.step (fun _ k => st231.trans k) ?_
        show Ends p e below QQ (T231.setTop (mkF m 127 #[.val (.long q0), .second, .val (.int p1), .val (.int p2), .val (.int p3), .val (.int (p2 &&& (3 : Int32))), .val (.long (-2 : Int64)), .second, .val (.int (p1 &&& (2147483647 : Int32))), .val (.int (0 : Int32)), .val (.ref b223), .val (.int (fluc (-2 : Int64))), .val (.ref b226), .unset] [(.int (fluc (-2 : Int64)))]))
        refine Ends.step (fun _ k => XS.istore X231.here hx rfl (hb hby at_127) rfl (l' := #[.val (.long q0), .second, .val (.int p1), .val (.int p2), .val (.int p3), .val (.int (p2 &&& (3 : Int32))), .val (.long (-2 : Int64)), .second, .val (.int (p1 &&& (2147483647 : Int32))), .val (.int (0 : Int32)), .val (.ref b223), .val (.int (fluc (-2 : Int64))), .val (.ref b226), .val (.int (fluc (-2 : Int64)))]) rfl k) ?_
        show Ends p e below QQ (T231.setTop (mkF m 129 #[.val (.long q0), .second, .val (.int p1), .val (.int p2), .val (.int p3), .val (.int (p2 &&& (3 : Int32))), .val (.long (-2 : Int64)), .second, .val (.int (p1 &&& (2147483647 : Int32))), .val (.int (0 : Int32)), .val (.ref b223), .val (.int (fluc (-2 : Int64))), .val (.ref b226), .val (.int (fluc (-2 : Int64)))] []))
        refine Ends.step (fun _ k => XS.iload X231.here hx rfl (hb hby at_129) rfl k) ?_
        show Ends p e below QQ (T231.setTop (mkF m 131 #[.val (.long q0), .second, .val (.int p1), .val (.int p2), .val (.int p3), .val (.int (p2 &&& (3 : Int32))), .val (.long (-2 : Int64)), .second, .val (.int (p1 &&& (2147483647 : Int32))), .val (.int (0 : Int32)), .val (.ref b223), .val (.int (fluc (-2 : Int64))), .val (.ref b226), .val (.int (fluc (-2 : Int64)))] [(.int (fluc (-2 : Int64)))]))
        refine Ends.step (fun _ k => XS.iload X231.here hx rfl (hb hby at_131) rfl k) ?_
        show Ends p e below QQ (T231.setTop (mkF m 133 #[.val (.long q0), .second, .val (.int p1), .val (.int p2), .val (.int p3), .val (.int (p2 &&& (3 : Int32))), .val (.long (-2 : Int64)), .second, .val (.int (p1 &&& (2147483647 : Int32))), .val (.int (0 : Int32)), .val (.ref b223), .val (.int (fluc (-2 : Int64))), .val (.ref b226), .val (.int (fluc (-2 : Int64)))] [(.int (0 : Int32)), (.int (fluc (-2 : Int64)))]))
        have J148_232 : (∀ (v148_3 : Int32) (hv148_3 : v148_3 = (if (fluc (-2 : Int64)) = (0 : Int32) then (1 : Int32) else (0 : Int32))), Ends p e below QQ (T231.setTop (mkF m 148 #[.val (.long q0), .second, .val (.int p1), .val (.int p2), .val (.int p3), .val (.int (p2 &&& (3 : Int32))), .val (.long (-2 : Int64)), .second, .val (.int (p1 &&& (2147483647 : Int32))), .val (.int (0 : Int32)), .val (.ref b223), .val (.int (fluc (-2 : Int64))), .val (.ref b226), .val (.int (fluc (-2 : Int64)))] [(.int v148_3)]))) → Ends p e below QQ (T231.setTop (mkF m 133 #[.val (.long q0), .second, .val (.int p1), .val (.int p2), .val (.int p3), .val (.int (p2 &&& (3 : Int32))), .val (.long (-2 : Int64)), .second, .val (.int (p1 &&& (2147483647 : Int32))), .val (.int (0 : Int32)), .val (.ref b223), .val (.int (fluc (-2 : Int64))), .val (.ref b226), .val (.int (fluc (-2 : Int64)))] [(.int (0 : Int32)), (.int (fluc (-2 : Int64)))])) := by
          intro hJ
          by_cases hc133_233 : (fluc (-2 : Int64)) = (0 : Int32)
          · refine Ends.step (fun _ k => XS.icmpNo X231.here hx rfl (hb hby at_133) rfl (XT.ii_ne_f hc133_233) k) ?_
            show Ends p e below QQ (T231.setTop (mkF m 136 #[.val (.long q0), .second, .val (.int p1), .val (.int p2), .val (.int p3), .val (.int (p2 &&& (3 : Int32))), .val (.long (-2 : Int64)), .second, .val (.int (p1 &&& (2147483647 : Int32))), .val (.int (0 : Int32)), .val (.ref b223), .val (.int (fluc (-2 : Int64))), .val (.ref b226), .val (.int (fluc (-2 : Int64)))] []))
            refine Ends.step (fun _ k => XS.iload X231.here hx rfl (hb hby at_136) rfl k) ?_
            show Ends p e below QQ (T231.setTop (mkF m 138 #[.val (.long q0), .second, .val (.int p1), .val (.int p2), .val (.int p3), .val (.int (p2 &&& (3 : Int32))), .val (.long (-2 : Int64)), .second, .val (.int (p1 &&& (2147483647 : Int32))), .val (.int (0 : Int32)), .val (.ref b223), .val (.int (fluc (-2 : Int64))), .val (.ref b226), .val (.int (fluc (-2 : Int64)))] [(.int (fluc (-2 : Int64)))]))
            refine Ends.step (fun _ k => XS.iload X231.here hx rfl (hb hby at_138) rfl k) ?_
            show Ends p e below QQ (T231.setTop (mkF m 140 #[.val (.long q0), .second, .val (.int p1), .val (.int p2), .val (.int p3), .val (.int (p2 &&& (3 : Int32))), .val (.long (-2 : Int64)), .second, .val (.int (p1 &&& (2147483647 : Int32))), .val (.int (0 : Int32)), .val (.ref b223), .val (.int (fluc (-2 : Int64))), .val (.ref b226), .val (.int (fluc (-2 : Int64)))] [(.int (0 : Int32)), (.int (fluc (-2 : Int64)))]))
            refine Ends.step (fun _ k => XS.icmpNo X231.here hx rfl (hb hby at_140) rfl (XT.ii_ne_f hc133_233) k) ?_
            show Ends p e below QQ (T231.setTop (mkF m 143 #[.val (.long q0), .second, .val (.int p1), .val (.int p2), .val (.int p3), .val (.int (p2 &&& (3 : Int32))), .val (.long (-2 : Int64)), .second, .val (.int (p1 &&& (2147483647 : Int32))), .val (.int (0 : Int32)), .val (.ref b223), .val (.int (fluc (-2 : Int64))), .val (.ref b226), .val (.int (fluc (-2 : Int64)))] []))
            refine Ends.step (fun _ k => XT.iconstV X231.here hx rfl (1 : Int32) (hb hby at_143) rfl k) ?_
            show Ends p e below QQ (T231.setTop (mkF m 144 #[.val (.long q0), .second, .val (.int p1), .val (.int p2), .val (.int p3), .val (.int (p2 &&& (3 : Int32))), .val (.long (-2 : Int64)), .second, .val (.int (p1 &&& (2147483647 : Int32))), .val (.int (0 : Int32)), .val (.ref b223), .val (.int (fluc (-2 : Int64))), .val (.ref b226), .val (.int (fluc (-2 : Int64)))] [(.int (1 : Int32))]))
            refine Ends.step (fun _ k => XS.goto X231.here hx rfl (pc0 := 144) (pc' := 148) rfl (hb hby at_144) (by decide) (by decide) k) ?_
            exact hJ _ (by simp only [if_pos hc133_233])
          · refine Ends.step (fun _ k => XS.icmpYes X231.here hx rfl (pc0 := 133) (pc' := 147) rfl (hb hby at_133) rfl (XT.ii_ne_t hc133_233) (by decide) (by decide) k) ?_
            show Ends p e below QQ (T231.setTop (mkF m 147 #[.val (.long q0), .second, .val (.int p1), .val (.int p2), .val (.int p3), .val (.int (p2 &&& (3 : Int32))), .val (.long (-2 : Int64)), .second, .val (.int (p1 &&& (2147483647 : Int32))), .val (.int (0 : Int32)), .val (.ref b223), .val (.int (fluc (-2 : Int64))), .val (.ref b226), .val (.int (fluc (-2 : Int64)))] []))
            refine Ends.step (fun _ k => XT.iconstV X231.here hx rfl (0 : Int32) (hb hby at_147) rfl k) ?_
            exact hJ _ (by simp only [if_neg hc133_233])
        refine J148_232 fun v148_3 hv148_3 => ?_
        have dv148_3 : f0_v148_3 q0 p1 p2 p3 cs = v148_3 := by
          simp only [f0_v148_3]
          exact hv148_3.symm
        show Ends p e below QQ (T231.setTop (mkF m 148 #[.val (.long q0), .second, .val (.int p1), .val (.int p2), .val (.int p3), .val (.int (p2 &&& (3 : Int32))), .val (.long (-2 : Int64)), .second, .val (.int (p1 &&& (2147483647 : Int32))), .val (.int (0 : Int32)), .val (.ref b223), .val (.int (fluc (-2 : Int64))), .val (.ref b226), .val (.int (fluc (-2 : Int64)))] [(.int v148_3)]))
        exact Ends.fin (some (.int v148_3)) X231 hQQ (fun h => by rw [Bd.returns] at h; cases h) Bd.notSynchronized (fun _ hr => retOut X231 hx (t := .boolean) Bd.returns (by rw [hv148_3]; exact own_narB (by repeat' (first | exact Or.inl rfl | exact Or.inr rfl | apply own_01))) (Or.inl ⟨rfl, (by simp), _, rfl⟩) (hb hby at_148) hr) hh231 (by decide) (by decide) ⟨(by simp only [f0, dv148_3, if_neg hc7_205, if_pos hc21_222, if_pos hs118_229]), N231, K228⟩
      · show Ends p e below QQ (T228.setTop (mkF m 118 #[.val (.long q0), .second, .val (.int p1), .val (.int p2), .val (.int p3), .val (.int (p2 &&& (3 : Int32))), .val (.long (-2 : Int64)), .second, .val (.int (p1 &&& (2147483647 : Int32))), .val (.int (0 : Int32)), .val (.ref b223), .val (.int (fluc (-2 : Int64))), .val (.ref b226), .unset] [(.int (((p3.toUInt32 >>> ((8 : Int32) &&& 31).toUInt32).toInt32) &&& (1 : Int32))), (.int (0 : Int32)), (.ref b226), (.ref b223)]))
        by_cases hs118_234 : (((p3.toUInt32 >>> ((8 : Int32) &&& 31).toUInt32).toInt32) &&& (1 : Int32)) = (1 : Int32)
        · show Ends p e below QQ (T228.setTop (mkF m 118 #[.val (.long q0), .second, .val (.int p1), .val (.int p2), .val (.int p3), .val (.int (p2 &&& (3 : Int32))), .val (.long (-2 : Int64)), .second, .val (.int (p1 &&& (2147483647 : Int32))), .val (.int (0 : Int32)), .val (.ref b223), .val (.int (fluc (-2 : Int64))), .val (.ref b226), .unset] [(.int (((p3.toUInt32 >>> ((8 : Int32) &&& 31).toUInt32).toInt32) &&& (1 : Int32))), (.int (0 : Int32)), (.ref b226), (.ref b223)]))
          rw [hs118_234]
          show Ends p e below QQ (T228.setTop (mkF m 118 #[.val (.long q0), .second, .val (.int p1), .val (.int p2), .val (.int p3), .val (.int (p2 &&& (3 : Int32))), .val (.long (-2 : Int64)), .second, .val (.int (p1 &&& (2147483647 : Int32))), .val (.int (0 : Int32)), .val (.ref b223), .val (.int (fluc (-2 : Int64))), .val (.ref b226), .unset] [(.int (1 : Int32)), (.int (0 : Int32)), (.ref b226), (.ref b223)]))
          obtain ⟨cq235, kq235, q235a, q235b, q235c⟩ := isOf hZ e228 E_b223
          obtain ⟨_, _, ⟨T235, L235, k235, n235⟩, -, X235, ⟨Lc235, hQ235, l235, y235, z235⟩, st235⟩ := X228.virtualBack hx (y := (⟨"com/example/gatehook/gatehook/http/IncomingBody", "take", "([BII)I"⟩ : MethodName)) (z := (⟨"com/example/gatehook/gatehook/http/IncomingBody", "take", "([BII)I"⟩ : MethodName)) hown (mvT hZ (hw _ (List.mem_of_getElem? (i := 85) rfl))) (mvT hZ (hw _ (List.mem_of_getElem? (i := 86) rfl))) (notFace_of_selects (args := #[]) (mvT hZ (hw _ (List.mem_of_getElem? (i := 88) rfl)))) (mvT hZ (hw _ (List.mem_of_getElem? (i := 88) rfl))) (mvT hZ (hw _ (List.mem_of_getElem? (i := 87) rfl))) (by decide) (backOf (W := 0) (rmtc1 l Z a0 hw [] b223 b226 cc_224 sb_224 vb_224 kb_224 a_SIZE_LINE a_ENDED a_DATA cs k226 (((p3 &&& (63 : Int32)) + (64 : Int32)).toInt8.toInt32) h228 n0 (Nat.le_trans Z0 K228.1) E_b223 F_ended_b223 F_chunks_b223 E_cc_224 F_line_cc_224 F_part_cc_224 E_sb_224 F_value_sb_224 F_coder_sb_224 F_count_sb_224 A_vb_224 g_sb_224 g_vb_224 ne_sb_224_vb_224 F_ordinal_a_SIZE_LINE E_a_SIZE_LINE S_COMPACT_STRINGS hcs S_ENDED S_DATA ne_a_SIZE_LINE_a_ENDED ne_a_SIZE_LINE_a_DATA A_b226 (Ne.symm ne_sb_224_b226) (Ne.symm ne_vb_224_b226) ne_cc_224_sb_224 ne_cc_224_vb_224 ne_b223_sb_224 ne_b223_vb_224 (own_h10 p3) (own_hc _)) hZ (hw _ (List.mem_of_getElem? (i := 89) rfl)) (hw _ (List.mem_of_getElem? (i := 4) rfl)) (by decide) (by decide)) q235a q235c (g := (mkF m 118 #[.val (.long q0), .second, .val (.int p1), .val (.int p2), .val (.int p3), .val (.int (p2 &&& (3 : Int32))), .val (.long (-2 : Int64)), .second, .val (.int (p1 &&& (2147483647 : Int32))), .val (.int (0 : Int32)), .val (.ref b223), .val (.int (fluc (-2 : Int64))), .val (.ref b226), .unset] [(.int (1 : Int32)), (.int (0 : Int32)), (.ref b226), (.ref b223)])) rfl (by rw [hml]; rfl) (Steps.refl _) (argsL := [(.ref b226), (.int (0 : Int32)), (.int (1 : Int32))]) (rest := []) (lenOf pd_11 rfl) rfl (by show 2 * 0 + _ ≤ _; exact Nat.le_of_eq rfl) (hb hby at_118) (fun _ _ => ⟨rfl, e228, (by decide : 7 + 0 ≤ _), (by decide : 68 + 0 ≤ _)⟩)
          dsimp only [Pt.U, Pt.locs, Pt.cells, Pt.slots] at X235 l235 y235 z235 st235 hQ235
          subst l235 y235 z235
          obtain ⟨rfl, Nq235, Kq235⟩ := hQ235
          have N235 := Fr.app N228 Nq235
          have S_NONE := own_sta_keep S_NONE Kq235 (allS E_sb_224.cell (allS (own_arv_cell A_vb_224) all0))
          have S_SIZE_LINE := own_sta_keep S_SIZE_LINE Kq235 (allS E_sb_224.cell (allS (own_arv_cell A_vb_224) all0))
          have S_ENDED := own_sta_keep S_ENDED Kq235 (allS E_sb_224.cell (allS (own_arv_cell A_vb_224) all0))
          have S_DATA := own_sta_keep S_DATA Kq235 (allS E_sb_224.cell (allS (own_arv_cell A_vb_224) all0))
          have S_COMPACT_STRINGS := own_sta_keep S_COMPACT_STRINGS Kq235 (allS E_sb_224.cell (allS (own_arv_cell A_vb_224) all0))
          have E_a_NONE := E_a_NONE.keep Kq235
          have E_a_SIZE_LINE := E_a_SIZE_LINE.keep Kq235
          have E_a_ENDED := E_a_ENDED.keep Kq235
          have E_a_DATA := E_a_DATA.keep Kq235
          have F_ordinal_a_SIZE_LINE := F_ordinal_a_SIZE_LINE.keep Kq235 (ninS ne_a_SIZE_LINE_sb_224 (ninS ne_a_SIZE_LINE_vb_224 nin0))
          have F_ordinal_a_ENDED := F_ordinal_a_ENDED.keep Kq235 (ninS ne_a_ENDED_sb_224 (ninS ne_a_ENDED_vb_224 nin0))
          have F_ordinal_a_DATA := F_ordinal_a_DATA.keep Kq235 (ninS ne_a_DATA_sb_224 (ninS ne_a_DATA_vb_224 nin0))
          have A_a_NONE := A_a_NONE.keep Kq235 (ninS ne_a_NONE_sb_224 (ninS ne_a_NONE_vb_224 nin0))
          have E_b223 := E_b223.keep Kq235
          have F_length_b223 := F_length_b223.keep Kq235 (ninS ne_b223_sb_224 (ninS ne_b223_vb_224 nin0))
          have F_chunks_b223 := F_chunks_b223.keep Kq235 (ninS ne_b223_sb_224 (ninS ne_b223_vb_224 nin0))
          have F_ended_b223 := F_ended_b223.keep Kq235 (ninS ne_b223_sb_224 (ninS ne_b223_vb_224 nin0))
          have E_cc_224 := E_cc_224.keep Kq235
          have F_line_cc_224 := F_line_cc_224.keep Kq235 (ninS ne_cc_224_sb_224 (ninS ne_cc_224_vb_224 nin0))
          have F_part_cc_224 := F_part_cc_224.keep Kq235 (ninS ne_cc_224_sb_224 (ninS ne_cc_224_vb_224 nin0))
          have E_sb_224 := E_sb_224.keep Kq235
          have A_b226 := A_b226.keep Kq235 (ninS (Ne.symm ne_sb_224_b226) (ninS (Ne.symm ne_vb_224_b226) nin0))
          have K235 := K228.trans Kq235 (allS (Or.inr sz_sb_224) (allS (Or.inr sz_vb_224) all0))
          refine Ends.step (fun _ k => st235.trans k) ?_
          show Ends p e below QQ (T235.setTop (mkF m 121 #[.val (.long q0), .second, .val (.int p1), .val (.int p2), .val (.int p3), .val (.int (p2 &&& (3 : Int32))), .val (.long (-2 : Int64)), .second, .val (.int (p1 &&& (2147483647 : Int32))), .val (.int (0 : Int32)), .val (.ref b223), .val (.int (fluc (-2 : Int64))), .val (.ref b226), .unset] [(.int (1 : Int32))]))
          refine Ends.step (fun _ k => XT.pop X235.here hx rfl (hb hby at_121) rfl rfl k) ?_
          show Ends p e below QQ (T235.setTop (mkF m 122 #[.val (.long q0), .second, .val (.int p1), .val (.int p2), .val (.int p3), .val (.int (p2 &&& (3 : Int32))), .val (.long (-2 : Int64)), .second, .val (.int (p1 &&& (2147483647 : Int32))), .val (.int (0 : Int32)), .val (.ref b223), .val (.int (fluc (-2 : Int64))), .val (.ref b226), .unset] []))
          refine Ends.step (fun _ k => XS.aload X235.here hx rfl (hb hby at_122) rfl rfl k) ?_
          show Ends p e below QQ (T235.setTop (mkF m 124 #[.val (.long q0), .second, .val (.int p1), .val (.int p2), .val (.int p3), .val (.int (p2 &&& (3 : Int32))), .val (.long (-2 : Int64)), .second, .val (.int (p1 &&& (2147483647 : Int32))), .val (.int (0 : Int32)), .val (.ref b223), .val (.int (fluc (-2 : Int64))), .val (.ref b226), .unset] [(.ref b223)]))
          obtain ⟨cq236, kq236, q236a, q236b, q236c⟩ := isOf hZ rfl E_b223
          obtain ⟨_, _, ⟨T236, L236, k236, n236⟩, -, X236, ⟨Lc236, hQ236, l236, y236, z236⟩, st236⟩ := X235.virtualBack hx (y := (⟨"com/example/gatehook/gatehook/http/IncomingBody", "lastsUntilClose", "()Z"⟩ : MethodName)) (z := (⟨"com/example/gatehook/gatehook/http/IncomingBody", "lastsUntilClose", "()Z"⟩ : MethodName)) hown (mvT hZ (hw _ (List.mem_of_getElem? (i := 79) rfl))) (mvT hZ (hw _ (List.mem_of_getElem? (i := 80) rfl))) (notFace_of_selects (args := #[]) (mvT hZ (hw _ (List.mem_of_getElem? (i := 82) rfl)))) (mvT hZ (hw _ (List.mem_of_getElem? (i := 82) rfl))) (mvT hZ (hw _ (List.mem_of_getElem? (i := 81) rfl))) (by decide) (backOf (W := 0) (rmluc l Z a0 hw [] b223 (-2 : Int64) T235.heap n0 (Nat.le_trans Z0 K235.1) F_length_b223) hZ (hw _ (List.mem_of_getElem? (i := 83) rfl)) (hw _ (List.mem_of_getElem? (i := 4) rfl)) (by decide) (by decide)) q236a q236c (g := (mkF m 124 #[.val (.long q0), .second, .val (.int p1), .val (.int p2), .val (.int p3), .val (.int (p2 &&& (3 : Int32))), .val (.long (-2 : Int64)), .second, .val (.int (p1 &&& (2147483647 : Int32))), .val (.int (0 : Int32)), .val (.ref b223), .val (.int (fluc (-2 : Int64))), .val (.ref b226), .unset] [(.ref b223)])) rfl (by rw [hml]; rfl) (Steps.refl _) (argsL := []) (rest := []) (lenOf pd_6 rfl) rfl (by show 2 * 0 + _ ≤ _; exact Nat.le_of_eq rfl) (hb hby at_124) (fun _ _ => ⟨rfl, rfl, (by decide : 7 + 0 ≤ _), (by decide : 68 + 0 ≤ _)⟩)
          dsimp only [Pt.U, Pt.locs, Pt.cells, Pt.slots] at X236 l236 y236 z236 st236 hQ236
          subst l236 y236 z236
          obtain ⟨rfl, Nq236, hh236⟩ := hQ236
          have N236 := Fr.app N235 Nq236
          refine Ends.step (fun _ k => st236.trans k) ?_
          show Ends p e below QQ (T236.setTop (mkF m 127 #[.val (.long q0), .second, .val (.int p1), .val (.int p2), .val (.int p3), .val (.int (p2 &&& (3 : Int32))), .val (.long (-2 : Int64)), .second, .val (.int (p1 &&& (2147483647 : Int32))), .val (.int (0 : Int32)), .val (.ref b223), .val (.int (fluc (-2 : Int64))), .val (.ref b226), .unset] [(.int (fluc (-2 : Int64)))]))
          refine Ends.step (fun _ k => XS.istore X236.here hx rfl (hb hby at_127) rfl (l' := #[.val (.long q0), .second, .val (.int p1), .val (.int p2), .val (.int p3), .val (.int (p2 &&& (3 : Int32))), .val (.long (-2 : Int64)), .second, .val (.int (p1 &&& (2147483647 : Int32))), .val (.int (0 : Int32)), .val (.ref b223), .val (.int (fluc (-2 : Int64))), .val (.ref b226), .val (.int (fluc (-2 : Int64)))]) rfl k) ?_
          show Ends p e below QQ (T236.setTop (mkF m 129 #[.val (.long q0), .second, .val (.int p1), .val (.int p2), .val (.int p3), .val (.int (p2 &&& (3 : Int32))), .val (.long (-2 : Int64)), .second, .val (.int (p1 &&& (2147483647 : Int32))), .val (.int (0 : Int32)), .val (.ref b223), .val (.int (fluc (-2 : Int64))), .val (.ref b226), .val (.int (fluc (-2 : Int64)))] []))
          refine Ends.step (fun _ k => XS.iload X236.here hx rfl (hb hby at_129) rfl k) ?_
          show Ends p e below QQ (T236.setTop (mkF m 131 #[.val (.long q0), .second, .val (.int p1), .val (.int p2), .val (.int p3), .val (.int (p2 &&& (3 : Int32))), .val (.long (-2 : Int64)), .second, .val (.int (p1 &&& (2147483647 : Int32))), .val (.int (0 : Int32)), .val (.ref b223), .val (.int (fluc (-2 : Int64))), .val (.ref b226), .val (.int (fluc (-2 : Int64)))] [(.int (fluc (-2 : Int64)))]))
          refine Ends.step (fun _ k => XS.iload X236.here hx rfl (hb hby at_131) rfl k) ?_
          show Ends p e below QQ (T236.setTop (mkF m 133 #[.val (.long q0), .second, .val (.int p1), .val (.int p2), .val (.int p3), .val (.int (p2 &&& (3 : Int32))), .val (.long (-2 : Int64)), .second, .val (.int (p1 &&& (2147483647 : Int32))), .val (.int (0 : Int32)), .val (.ref b223), .val (.int (fluc (-2 : Int64))), .val (.ref b226), .val (.int (fluc (-2 : Int64)))] [(.int (0 : Int32)), (.int (fluc (-2 : Int64)))]))
          have J148_237 : (∀ (v148_4 : Int32) (hv148_4 : v148_4 = (if (fluc (-2 : Int64)) = (0 : Int32) then (1 : Int32) else (0 : Int32))), Ends p e below QQ (T236.setTop (mkF m 148 #[.val (.long q0), .second, .val (.int p1), .val (.int p2), .val (.int p3), .val (.int (p2 &&& (3 : Int32))), .val (.long (-2 : Int64)), .second, .val (.int (p1 &&& (2147483647 : Int32))), .val (.int (0 : Int32)), .val (.ref b223), .val (.int (fluc (-2 : Int64))), .val (.ref b226), .val (.int (fluc (-2 : Int64)))] [(.int v148_4)]))) → Ends p e below QQ (T236.setTop (mkF m 133 #[.val (.long q0), .second, .val (.int p1), .val (.int p2), .val (.int p3), .val (.int (p2 &&& (3 : Int32))), .val (.long (-2 : Int64)), .second, .val (.int (p1 &&& (2147483647 : Int32))), .val (.int (0 : Int32)), .val (.ref b223), .val (.int (fluc (-2 : Int64))), .val (.ref b226), .val (.int (fluc (-2 : Int64)))] [(.int (0 : Int32)), (.int (fluc (-2 : Int64)))])) := by
            intro hJ
            by_cases hc133_238 : (fluc (-2 : Int64)) = (0 : Int32)
            · refine Ends.step (fun _ k => XS.icmpNo X236.here hx rfl (hb hby at_133) rfl (XT.ii_ne_f hc133_238) k) ?_
              show Ends p e below QQ (T236.setTop (mkF m 136 #[.val (.long q0), .second, .val (.int p1), .val (.int p2), .val (.int p3), .val (.int (p2 &&& (3 : Int32))), .val (.long (-2 : Int64)), .second, .val (.int (p1 &&& (2147483647 : Int32))), .val (.int (0 : Int32)), .val (.ref b223), .val (.int (fluc (-2 : Int64))), .val (.ref b226), .val (.int (fluc (-2 : Int64)))] []))
              refine Ends.step (fun _ k => XS.iload X236.here hx rfl (hb hby at_136) rfl k) ?_
              show Ends p e below QQ (T236.setTop (mkF m 138 #[.val (.long q0), .second, .val (.int p1), .val (.int p2), .val (.int p3), .val (.int (p2 &&& (3 : Int32))), .val (.long (-2 : Int64)), .second, .val (.int (p1 &&& (2147483647 : Int32))), .val (.int (0 : Int32)), .val (.ref b223), .val (.int (fluc (-2 : Int64))), .val (.ref b226), .val (.int (fluc (-2 : Int64)))] [(.int (fluc (-2 : Int64)))]))
              refine Ends.step (fun _ k => XS.iload X236.here hx rfl (hb hby at_138) rfl k) ?_
              show Ends p e below QQ (T236.setTop (mkF m 140 #[.val (.long q0), .second, .val (.int p1), .val (.int p2), .val (.int p3), .val (.int (p2 &&& (3 : Int32))), .val (.long (-2 : Int64)), .second, .val (.int (p1 &&& (2147483647 : Int32))), .val (.int (0 : Int32)), .val (.ref b223), .val (.int (fluc (-2 : Int64))), .val (.ref b226), .val (.int (fluc (-2 : Int64)))] [(.int (0 : Int32)), (.int (fluc (-2 : Int64)))]))
              refine Ends.step (fun _ k => XS.icmpNo X236.here hx rfl (hb hby at_140) rfl (XT.ii_ne_f hc133_238) k) ?_
              show Ends p e below QQ (T236.setTop (mkF m 143 #[.val (.long q0), .second, .val (.int p1), .val (.int p2), .val (.int p3), .val (.int (p2 &&& (3 : Int32))), .val (.long (-2 : Int64)), .second, .val (.int (p1 &&& (2147483647 : Int32))), .val (.int (0 : Int32)), .val (.ref b223), .val (.int (fluc (-2 : Int64))), .val (.ref b226), .val (.int (fluc (-2 : Int64)))] []))
              refine Ends.step (fun _ k => XT.iconstV X236.here hx rfl (1 : Int32) (hb hby at_143) rfl k) ?_
              show Ends p e below QQ (T236.setTop (mkF m 144 #[.val (.long q0), .second, .val (.int p1), .val (.int p2), .val (.int p3), .val (.int (p2 &&& (3 : Int32))), .val (.long (-2 : Int64)), .second, .val (.int (p1 &&& (2147483647 : Int32))), .val (.int (0 : Int32)), .val (.ref b223), .val (.int (fluc (-2 : Int64))), .val (.ref b226), .val (.int (fluc (-2 : Int64)))] [(.int (1 : Int32))]))
              refine Ends.step (fun _ k => XS.goto X236.here hx rfl (pc0 := 144) (pc' := 148) rfl (hb hby at_144) (by decide) (by decide) k) ?_
              exact hJ _ (by simp only [if_pos hc133_238])
            · refine Ends.step (fun _ k => XS.icmpYes X236.here hx rfl (pc0 := 133) (pc' := 147) rfl (hb hby at_133) rfl (XT.ii_ne_t hc133_238) (by decide) (by decide) k) ?_
              show Ends p e below QQ (T236.setTop (mkF m 147 #[.val (.long q0), .second, .val (.int p1), .val (.int p2), .val (.int p3), .val (.int (p2 &&& (3 : Int32))), .val (.long (-2 : Int64)), .second, .val (.int (p1 &&& (2147483647 : Int32))), .val (.int (0 : Int32)), .val (.ref b223), .val (.int (fluc (-2 : Int64))), .val (.ref b226), .val (.int (fluc (-2 : Int64)))] []))
              refine Ends.step (fun _ k => XT.iconstV X236.here hx rfl (0 : Int32) (hb hby at_147) rfl k) ?_
              exact hJ _ (by simp only [if_neg hc133_238])
          refine J148_237 fun v148_4 hv148_4 => ?_
          have dv148_4 : f0_v148_4 q0 p1 p2 p3 cs = v148_4 := by
            simp only [f0_v148_4]
            exact hv148_4.symm
          show Ends p e below QQ (T236.setTop (mkF m 148 #[.val (.long q0), .second, .val (.int p1), .val (.int p2), .val (.int p3), .val (.int (p2 &&& (3 : Int32))), .val (.long (-2 : Int64)), .second, .val (.int (p1 &&& (2147483647 : Int32))), .val (.int (0 : Int32)), .val (.ref b223), .val (.int (fluc (-2 : Int64))), .val (.ref b226), .val (.int (fluc (-2 : Int64)))] [(.int v148_4)]))
          exact Ends.fin (some (.int v148_4)) X236 hQQ (fun h => by rw [Bd.returns] at h; cases h) Bd.notSynchronized (fun _ hr => retOut X236 hx (t := .boolean) Bd.returns (by rw [hv148_4]; exact own_narB (by repeat' (first | exact Or.inl rfl | exact Or.inr rfl | apply own_01))) (Or.inl ⟨rfl, (by simp), _, rfl⟩) (hb hby at_148) hr) hh236 (by decide) (by decide) ⟨(by simp only [f0, dv148_4, if_neg hc7_205, if_pos hc21_222, if_neg hs118_229, if_pos hs118_234]), N236, K235⟩
        · show Ends p e below QQ (T228.setTop (mkF m 118 #[.val (.long q0), .second, .val (.int p1), .val (.int p2), .val (.int p3), .val (.int (p2 &&& (3 : Int32))), .val (.long (-2 : Int64)), .second, .val (.int (p1 &&& (2147483647 : Int32))), .val (.int (0 : Int32)), .val (.ref b223), .val (.int (fluc (-2 : Int64))), .val (.ref b226), .unset] [(.int (((p3.toUInt32 >>> ((8 : Int32) &&& 31).toUInt32).toInt32) &&& (1 : Int32))), (.int (0 : Int32)), (.ref b226), (.ref b223)]))
          exact (own_bit _ hs118_229 hs118_234).elim
    · refine Ends.step (fun _ k => XS.icmpYes X0.here hx rfl (pc0 := 21) (pc' := 32) rfl (hb hby at_21) rfl (XT.ii_ne_t hc21_222) (by decide) (by decide) k) ?_
      show Ends p e below QQ (s₁.setTop (mkF m 32 #[.val (.long q0), .second, .val (.int p1), .val (.int p2), .val (.int p3), .val (.int (p2 &&& (3 : Int32))), .unset, .unset, .unset, .unset, .unset, .unset, .unset, .unset] []))
      refine Ends.step (fun _ k => XT.lloadN X0.here hx rfl (hb hby at_32) rfl k) ?_
      show Ends p e below QQ (s₁.setTop (mkF m 33 #[.val (.long q0), .second, .val (.int p1), .val (.int p2), .val (.int p3), .val (.int (p2 &&& (3 : Int32))), .unset, .unset, .unset, .unset, .unset, .unset, .unset, .unset] [(.long q0)]))
      refine Ends.step (fun _ k => X0.ldc2J hx hown (mvT hZ (hw _ (List.mem_of_getElem? (i := 104) rfl))) (g := (mkF m 33 #[.val (.long q0), .second, .val (.int p1), .val (.int p2), .val (.int p3), .val (.int (p2 &&& (3 : Int32))), .unset, .unset, .unset, .unset, .unset, .unset, .unset, .unset] [(.long q0)])) rfl (hb hby at_33) k) ?_
      show Ends p e below QQ (s₁.setTop (mkF m 36 #[.val (.long q0), .second, .val (.int p1), .val (.int p2), .val (.int p3), .val (.int (p2 &&& (3 : Int32))), .unset, .unset, .unset, .unset, .unset, .unset, .unset, .unset] [(.long (9223372036854775807 : Int64)), (.long q0)]))
      refine Ends.step (fun _ k => XT.land X0.here hx rfl (hb hby at_36) rfl k) ?_
      show Ends p e below QQ (s₁.setTop (mkF m 37 #[.val (.long q0), .second, .val (.int p1), .val (.int p2), .val (.int p3), .val (.int (p2 &&& (3 : Int32))), .unset, .unset, .unset, .unset, .unset, .unset, .unset, .unset] [(.long (q0 &&& (9223372036854775807 : Int64)))]))
      refine Ends.step (fun _ k => XT.lstore X0.here hx rfl (hb hby at_37) rfl (l' := #[.val (.long q0), .second, .val (.int p1), .val (.int p2), .val (.int p3), .val (.int (p2 &&& (3 : Int32))), .val (.long (q0 &&& (9223372036854775807 : Int64))), .second, .unset, .unset, .unset, .unset, .unset, .unset]) rfl k) ?_
      show Ends p e below QQ (s₁.setTop (mkF m 39 #[.val (.long q0), .second, .val (.int p1), .val (.int p2), .val (.int p3), .val (.int (p2 &&& (3 : Int32))), .val (.long (q0 &&& (9223372036854775807 : Int64))), .second, .unset, .unset, .unset, .unset, .unset, .unset] []))
      refine Ends.step (fun _ k => XS.iloadN X0.here hx rfl (hb hby at_39) rfl k) ?_
      show Ends p e below QQ (s₁.setTop (mkF m 40 #[.val (.long q0), .second, .val (.int p1), .val (.int p2), .val (.int p3), .val (.int (p2 &&& (3 : Int32))), .val (.long (q0 &&& (9223372036854775807 : Int64))), .second, .unset, .unset, .unset, .unset, .unset, .unset] [(.int p1)]))
      refine Ends.step (fun _ k => X0.ldcI hx hown (mvT hZ (hw _ (List.mem_of_getElem? (i := 1) rfl))) (g := (mkF m 40 #[.val (.long q0), .second, .val (.int p1), .val (.int p2), .val (.int p3), .val (.int (p2 &&& (3 : Int32))), .val (.long (q0 &&& (9223372036854775807 : Int64))), .second, .unset, .unset, .unset, .unset, .unset, .unset] [(.int p1)])) rfl (hb hby at_40) k) ?_
      show Ends p e below QQ (s₁.setTop (mkF m 42 #[.val (.long q0), .second, .val (.int p1), .val (.int p2), .val (.int p3), .val (.int (p2 &&& (3 : Int32))), .val (.long (q0 &&& (9223372036854775807 : Int64))), .second, .unset, .unset, .unset, .unset, .unset, .unset] [(.int (2147483647 : Int32)), (.int p1)]))
      refine Ends.step (fun _ k => XS.iand X0.here hx rfl (hb hby at_42) rfl k) ?_
      show Ends p e below QQ (s₁.setTop (mkF m 43 #[.val (.long q0), .second, .val (.int p1), .val (.int p2), .val (.int p3), .val (.int (p2 &&& (3 : Int32))), .val (.long (q0 &&& (9223372036854775807 : Int64))), .second, .unset, .unset, .unset, .unset, .unset, .unset] [(.int (p1 &&& (2147483647 : Int32)))]))
      refine Ends.step (fun _ k => XS.istore X0.here hx rfl (hb hby at_43) rfl (l' := #[.val (.long q0), .second, .val (.int p1), .val (.int p2), .val (.int p3), .val (.int (p2 &&& (3 : Int32))), .val (.long (q0 &&& (9223372036854775807 : Int64))), .second, .val (.int (p1 &&& (2147483647 : Int32))), .unset, .unset, .unset, .unset, .unset]) rfl k) ?_
      show Ends p e below QQ (s₁.setTop (mkF m 45 #[.val (.long q0), .second, .val (.int p1), .val (.int p2), .val (.int p3), .val (.int (p2 &&& (3 : Int32))), .val (.long (q0 &&& (9223372036854775807 : Int64))), .second, .val (.int (p1 &&& (2147483647 : Int32))), .unset, .unset, .unset, .unset, .unset] []))
      refine Ends.step (fun _ k => XT.lload X0.here hx rfl (hb hby at_45) rfl k) ?_
      show Ends p e below QQ (s₁.setTop (mkF m 47 #[.val (.long q0), .second, .val (.int p1), .val (.int p2), .val (.int p3), .val (.int (p2 &&& (3 : Int32))), .val (.long (q0 &&& (9223372036854775807 : Int64))), .second, .val (.int (p1 &&& (2147483647 : Int32))), .unset, .unset, .unset, .unset, .unset] [(.long (q0 &&& (9223372036854775807 : Int64)))]))
      refine Ends.step (fun _ k => XT.lconstV X0.here hx rfl (0 : Int64) (hb hby at_47) rfl k) ?_
      show Ends p e below QQ (s₁.setTop (mkF m 48 #[.val (.long q0), .second, .val (.int p1), .val (.int p2), .val (.int p3), .val (.int (p2 &&& (3 : Int32))), .val (.long (q0 &&& (9223372036854775807 : Int64))), .second, .val (.int (p1 &&& (2147483647 : Int32))), .unset, .unset, .unset, .unset, .unset] [(.long (0 : Int64)), (.long (q0 &&& (9223372036854775807 : Int64)))]))
      refine Ends.step (fun _ k => XT.lcmp X0.here hx rfl (hb hby at_48) rfl k) ?_
      show Ends p e below QQ (s₁.setTop (mkF m 49 #[.val (.long q0), .second, .val (.int p1), .val (.int p2), .val (.int p3), .val (.int (p2 &&& (3 : Int32))), .val (.long (q0 &&& (9223372036854775807 : Int64))), .second, .val (.int (p1 &&& (2147483647 : Int32))), .unset, .unset, .unset, .unset, .unset] [(.int (XT.cmpL (q0 &&& (9223372036854775807 : Int64)) (0 : Int64)))]))
      have hc49 : ¬ ((q0 &&& (9223372036854775807 : Int64)) < (0 : Int64)) := (own_nn q0)
      refine Ends.step (fun _ k => XS.ifYes X0.here hx rfl (pc0 := 49) (pc' := 65) rfl (hb hby at_49) rfl (XT.ll_ge_t hc49) (by decide) (by decide) k) ?_
      show Ends p e below QQ (s₁.setTop (mkF m 65 #[.val (.long q0), .second, .val (.int p1), .val (.int p2), .val (.int p3), .val (.int (p2 &&& (3 : Int32))), .val (.long (q0 &&& (9223372036854775807 : Int64))), .second, .val (.int (p1 &&& (2147483647 : Int32))), .unset, .unset, .unset, .unset, .unset] []))
      refine Ends.step (fun _ k => XT.iconstV X0.here hx rfl (0 : Int32) (hb hby at_65) rfl k) ?_
      show Ends p e below QQ (s₁.setTop (mkF m 66 #[.val (.long q0), .second, .val (.int p1), .val (.int p2), .val (.int p3), .val (.int (p2 &&& (3 : Int32))), .val (.long (q0 &&& (9223372036854775807 : Int64))), .second, .val (.int (p1 &&& (2147483647 : Int32))), .unset, .unset, .unset, .unset, .unset] [(.int (0 : Int32))]))
      refine Ends.step (fun _ k => XS.istore X0.here hx rfl (hb hby at_66) rfl (l' := #[.val (.long q0), .second, .val (.int p1), .val (.int p2), .val (.int p3), .val (.int (p2 &&& (3 : Int32))), .val (.long (q0 &&& (9223372036854775807 : Int64))), .second, .val (.int (p1 &&& (2147483647 : Int32))), .val (.int (0 : Int32)), .unset, .unset, .unset, .unset]) rfl k) ?_
      by_cases hs68_239 : (p1 &&& (2147483647 : Int32)).toInt64 < (q0 &&& (9223372036854775807 : Int64))
      · show Ends p e below QQ (s₁.setTop (mkF m 68 #[.val (.long q0), .second, .val (.int p1), .val (.int p2), .val (.int p3), .val (.int (p2 &&& (3 : Int32))), .val (.long (q0 &&& (9223372036854775807 : Int64))), .second, .val (.int (p1 &&& (2147483647 : Int32))), .val (.int (0 : Int32)), .unset, .unset, .unset, .unset] []))
        show Ends p e below QQ (s₁.setTop (mkF m 68 #[.val (.long q0), .second, .val (.int p1), .val (.int p2), .val (.int p3), .val (.int (p2 &&& (3 : Int32))), .val (.long (q0 &&& (9223372036854775807 : Int64))), .second, .val (.int (p1 &&& (2147483647 : Int32))), .val (.int (0 : Int32)), .unset, .unset, .unset, .unset] []))
        obtain ⟨T240, h240, X240, e240, E240, A240, D240, U240, st240⟩ := newO X0 hx hZ hown (hw _ (List.mem_of_getElem? (i := 2) rfl)) (hw _ (List.mem_of_getElem? (i := 3) rfl)) (hw _ (List.mem_of_getElem? (i := 4) rfl)) e0 (g := (mkF m 68 #[.val (.long q0), .second, .val (.int p1), .val (.int p2), .val (.int p3), .val (.int (p2 &&& (3 : Int32))), .val (.long (q0 &&& (9223372036854775807 : Int64))), .second, .val (.int (p1 &&& (2147483647 : Int32))), .val (.int (0 : Int32)), .unset, .unset, .unset, .unset] [])) rfl (hb hby at_68) (by decide) (by decide)
        obtain ⟨b240, g240⟩ : ∃ z, z = h0.size := ⟨_, rfl⟩
        rw [← g240] at A240 D240 U240 st240
        have ne_a_NONE_b240 : a_NONE ≠ b240 := Nat.ne_of_lt (Nat.lt_of_lt_of_le E_a_NONE.lt (Nat.le_of_eq g240.symm))
        have ne_a_SIZE_LINE_b240 : a_SIZE_LINE ≠ b240 := Nat.ne_of_lt (Nat.lt_of_lt_of_le E_a_SIZE_LINE.lt (Nat.le_of_eq g240.symm))
        have ne_a_ENDED_b240 : a_ENDED ≠ b240 := Nat.ne_of_lt (Nat.lt_of_lt_of_le E_a_ENDED.lt (Nat.le_of_eq g240.symm))
        have ne_a_DATA_b240 : a_DATA ≠ b240 := Nat.ne_of_lt (Nat.lt_of_lt_of_le E_a_DATA.lt (Nat.le_of_eq g240.symm))
        have g_b240 : n0 ≤ b240 := Nat.le_trans Z0 (Nat.le_trans (Keep.refl h0 []).1 (Nat.le_of_eq g240.symm))
        have sz_b240 : h0.size ≤ b240 := Nat.le_trans (Keep.refl h0 []).1 (Nat.le_of_eq g240.symm)
        have E_a_NONE := E_a_NONE.ext E240
        have E_a_SIZE_LINE := E_a_SIZE_LINE.ext E240
        have E_a_ENDED := E_a_ENDED.ext E240
        have E_a_DATA := E_a_DATA.ext E240
        have F_ordinal_a_SIZE_LINE := F_ordinal_a_SIZE_LINE.ext E240
        have F_ordinal_a_ENDED := F_ordinal_a_ENDED.ext E240
        have F_ordinal_a_DATA := F_ordinal_a_DATA.ext E240
        have A_a_NONE := A_a_NONE.ext E240
        have S_NONE := S_NONE.ext E240
        have S_SIZE_LINE := S_SIZE_LINE.ext E240
        have S_ENDED := S_ENDED.ext E240
        have S_DATA := S_DATA.ext E240
        have S_COMPACT_STRINGS := S_COMPACT_STRINGS.ext E240
        have K240 := (Keep.refl h0 []).ext E240
        have E_b240 := A240
        have F_data_b240 : Fld Z h240 b240 "com/example/gatehook/gatehook/http/IncomingBody" "data" "[B" .null := D240 (Or.inl (hw _ (List.mem_of_getElem? (i := 14) rfl))) (ty := (.array .byte)) (by decide)
        have F_length_b240 : Fld Z h240 b240 "com/example/gatehook/gatehook/http/IncomingBody" "length" "J" (.long (0 : Int64)) := D240 (Or.inr (hw _ (List.mem_of_getElem? (i := 16) rfl))) (ty := .long) (by decide)
        have F_max_b240 : Fld Z h240 b240 "com/example/gatehook/gatehook/http/IncomingBody" "max" "I" (.int (0 : Int32)) := D240 (Or.inr (hw _ (List.mem_of_getElem? (i := 18) rfl))) (ty := .int) (by decide)
        have F_chunks_b240 : Fld Z h240 b240 "com/example/gatehook/gatehook/http/IncomingBody" "chunks" "Lcom/example/gatehook/gatehook/http/ChunkedBody;" .null := D240 (Or.inl (hw _ (List.mem_of_getElem? (i := 78) rfl))) (ty := (.object "com/example/gatehook/gatehook/http/ChunkedBody")) (by decide)
        have F_ended_b240 : Fld Z h240 b240 "com/example/gatehook/gatehook/http/IncomingBody" "ended" "Z" (.int (0 : Int32)) := D240 (Or.inl (hw _ (List.mem_of_getElem? (i := 91) rfl))) (ty := .boolean) (by decide)
        have F_dataLength_b240 : Fld Z h240 b240 "com/example/gatehook/gatehook/http/IncomingBody" "dataLength" "I" (.int (0 : Int32)) := D240 (Or.inl (hw _ (List.mem_of_getElem? (i := 106) rfl))) (ty := .int) (by decide)
        refine Ends.step st240 ?_
        show Ends p e below QQ (T240.setTop (mkF m 71 #[.val (.long q0), .second, .val (.int p1), .val (.int p2), .val (.int p3), .val (.int (p2 &&& (3 : Int32))), .val (.long (q0 &&& (9223372036854775807 : Int64))), .second, .val (.int (p1 &&& (2147483647 : Int32))), .val (.int (0 : Int32)), .unset, .unset, .unset, .unset] [(.ref b240)]))
        refine Ends.step (fun _ k => XS.dup X240.here hx rfl (hb hby at_71) rfl rfl k) ?_
        show Ends p e below QQ (T240.setTop (mkF m 72 #[.val (.long q0), .second, .val (.int p1), .val (.int p2), .val (.int p3), .val (.int (p2 &&& (3 : Int32))), .val (.long (q0 &&& (9223372036854775807 : Int64))), .second, .val (.int (p1 &&& (2147483647 : Int32))), .val (.int (0 : Int32)), .unset, .unset, .unset, .unset] [(.ref b240), (.ref b240)]))
        refine Ends.step (fun _ k => XT.lload X240.here hx rfl (hb hby at_72) rfl k) ?_
        show Ends p e below QQ (T240.setTop (mkF m 74 #[.val (.long q0), .second, .val (.int p1), .val (.int p2), .val (.int p3), .val (.int (p2 &&& (3 : Int32))), .val (.long (q0 &&& (9223372036854775807 : Int64))), .second, .val (.int (p1 &&& (2147483647 : Int32))), .val (.int (0 : Int32)), .unset, .unset, .unset, .unset] [(.long (q0 &&& (9223372036854775807 : Int64))), (.ref b240), (.ref b240)]))
        refine Ends.step (fun _ k => XS.iload X240.here hx rfl (hb hby at_74) rfl k) ?_
        show Ends p e below QQ (T240.setTop (mkF m 76 #[.val (.long q0), .second, .val (.int p1), .val (.int p2), .val (.int p3), .val (.int (p2 &&& (3 : Int32))), .val (.long (q0 &&& (9223372036854775807 : Int64))), .second, .val (.int (p1 &&& (2147483647 : Int32))), .val (.int (0 : Int32)), .unset, .unset, .unset, .unset] [(.int (p1 &&& (2147483647 : Int32))), (.long (q0 &&& (9223372036854775807 : Int64))), (.ref b240), (.ref b240)]))
        obtain ⟨_, _, ⟨T241, L241, k241, n241⟩, -, X241, ⟨Lc241, hQ241, l241, y241, z241⟩, st241⟩ := X240.specialBack hx (y := (⟨"com/example/gatehook/gatehook/http/IncomingBody", "<init>", "(JI)V"⟩ : MethodName)) rfl hown (mvT hZ (hw _ (List.mem_of_getElem? (i := 5) rfl))) (mvT hZ (hw _ (List.mem_of_getElem? (i := 6) rfl))) (mvT hZ (hw _ (List.mem_of_getElem? (i := 7) rfl))) (by decide) (backOf (W := 1) (rmib l Z a0 hw [] b240 (q0 &&& (9223372036854775807 : Int64)) (p1 &&& (2147483647 : Int32)) a_NONE h240 n0 (Nat.le_trans Z0 K240.1) E_b240 F_data_b240 F_length_b240 F_max_b240 F_chunks_b240 F_ended_b240 F_dataLength_b240 g_b240 S_NONE (own_nn2 q0) hs68_239) hZ (hw _ (List.mem_of_getElem? (i := 7) rfl)) (hw _ (List.mem_of_getElem? (i := 4) rfl)) (by decide) (by decide)) (g := (mkF m 76 #[.val (.long q0), .second, .val (.int p1), .val (.int p2), .val (.int p3), .val (.int (p2 &&& (3 : Int32))), .val (.long (q0 &&& (9223372036854775807 : Int64))), .second, .val (.int (p1 &&& (2147483647 : Int32))), .val (.int (0 : Int32)), .unset, .unset, .unset, .unset] [(.int (p1 &&& (2147483647 : Int32))), (.long (q0 &&& (9223372036854775807 : Int64))), (.ref b240), (.ref b240)])) rfl (by rw [hml]; rfl) (Steps.refl _) (a := b240) (argsL := [(.long (q0 &&& (9223372036854775807 : Int64))), (.int (p1 &&& (2147483647 : Int32)))]) (rest := [(.ref b240)]) (lenOf pd_13 rfl) rfl (by show 2 * 0 + _ ≤ _; exact Nat.le_of_eq rfl) (hb hby at_76) (fun _ _ => ⟨rfl, e240, (by decide : 1 + 0 ≤ _), (by decide : 6 + 0 ≤ _)⟩)
        dsimp only [Pt.U, Pt.locs, Pt.cells, Pt.slots] at X241 l241 y241 z241 st241 hQ241
        subst l241 y241 z241
        obtain ⟨rfl, Nq241, Kq241, fq241_0, fq241_1, fq241_2⟩ := hQ241
        have N241 := Fr.app N0 Nq241
        have S_NONE := own_sta_keep S_NONE Kq241 (allS E_b240.cell all0)
        have S_SIZE_LINE := own_sta_keep S_SIZE_LINE Kq241 (allS E_b240.cell all0)
        have S_ENDED := own_sta_keep S_ENDED Kq241 (allS E_b240.cell all0)
        have S_DATA := own_sta_keep S_DATA Kq241 (allS E_b240.cell all0)
        have S_COMPACT_STRINGS := own_sta_keep S_COMPACT_STRINGS Kq241 (allS E_b240.cell all0)
        have E_a_NONE := E_a_NONE.keep Kq241
        have E_a_SIZE_LINE := E_a_SIZE_LINE.keep Kq241
        have E_a_ENDED := E_a_ENDED.keep Kq241
        have E_a_DATA := E_a_DATA.keep Kq241
        have F_ordinal_a_SIZE_LINE := F_ordinal_a_SIZE_LINE.keep Kq241 (ninS ne_a_SIZE_LINE_b240 nin0)
        have F_ordinal_a_ENDED := F_ordinal_a_ENDED.keep Kq241 (ninS ne_a_ENDED_b240 nin0)
        have F_ordinal_a_DATA := F_ordinal_a_DATA.keep Kq241 (ninS ne_a_DATA_b240 nin0)
        have A_a_NONE := A_a_NONE.keep Kq241 (ninS ne_a_NONE_b240 nin0)
        have E_b240 := fq241_0
        have F_length_b240 := fq241_1
        have F_ended_b240 := fq241_2
        have K241 := K240.trans Kq241 (allS (Or.inr sz_b240) all0)
        refine Ends.step (fun _ k => st241.trans k) ?_
        show Ends p e below QQ (T241.setTop (mkF m 79 #[.val (.long q0), .second, .val (.int p1), .val (.int p2), .val (.int p3), .val (.int (p2 &&& (3 : Int32))), .val (.long (q0 &&& (9223372036854775807 : Int64))), .second, .val (.int (p1 &&& (2147483647 : Int32))), .val (.int (0 : Int32)), .unset, .unset, .unset, .unset] [(.ref b240)]))
        refine Ends.step (fun _ k => XS.astore X241.here hx rfl (hb hby at_79) rfl rfl (l' := #[.val (.long q0), .second, .val (.int p1), .val (.int p2), .val (.int p3), .val (.int (p2 &&& (3 : Int32))), .val (.long (q0 &&& (9223372036854775807 : Int64))), .second, .val (.int (p1 &&& (2147483647 : Int32))), .val (.int (0 : Int32)), .val (.ref b240), .unset, .unset, .unset]) rfl k) ?_
        show Ends p e below QQ (T241.setTop (mkF m 81 #[.val (.long q0), .second, .val (.int p1), .val (.int p2), .val (.int p3), .val (.int (p2 &&& (3 : Int32))), .val (.long (q0 &&& (9223372036854775807 : Int64))), .second, .val (.int (p1 &&& (2147483647 : Int32))), .val (.int (0 : Int32)), .val (.ref b240), .unset, .unset, .unset] []))
        refine Ends.step (fun _ k => XS.aload X241.here hx rfl (hb hby at_81) rfl rfl k) ?_
        show Ends p e below QQ (T241.setTop (mkF m 83 #[.val (.long q0), .second, .val (.int p1), .val (.int p2), .val (.int p3), .val (.int (p2 &&& (3 : Int32))), .val (.long (q0 &&& (9223372036854775807 : Int64))), .second, .val (.int (p1 &&& (2147483647 : Int32))), .val (.int (0 : Int32)), .val (.ref b240), .unset, .unset, .unset] [(.ref b240)]))
        obtain ⟨cq242, kq242, q242a, q242b, q242c⟩ := isOf hZ rfl E_b240
        obtain ⟨_, _, ⟨T242, L242, k242, n242⟩, -, X242, ⟨Lc242, hQ242, l242, y242, z242⟩, st242⟩ := X241.virtualBack hx (y := (⟨"com/example/gatehook/gatehook/http/IncomingBody", "lastsUntilClose", "()Z"⟩ : MethodName)) (z := (⟨"com/example/gatehook/gatehook/http/IncomingBody", "lastsUntilClose", "()Z"⟩ : MethodName)) hown (mvT hZ (hw _ (List.mem_of_getElem? (i := 79) rfl))) (mvT hZ (hw _ (List.mem_of_getElem? (i := 80) rfl))) (notFace_of_selects (args := #[]) (mvT hZ (hw _ (List.mem_of_getElem? (i := 82) rfl)))) (mvT hZ (hw _ (List.mem_of_getElem? (i := 82) rfl))) (mvT hZ (hw _ (List.mem_of_getElem? (i := 81) rfl))) (by decide) (backOf (W := 0) (rmluc l Z a0 hw [] b240 (q0 &&& (9223372036854775807 : Int64)) T241.heap n0 (Nat.le_trans Z0 K241.1) F_length_b240) hZ (hw _ (List.mem_of_getElem? (i := 83) rfl)) (hw _ (List.mem_of_getElem? (i := 4) rfl)) (by decide) (by decide)) q242a q242c (g := (mkF m 83 #[.val (.long q0), .second, .val (.int p1), .val (.int p2), .val (.int p3), .val (.int (p2 &&& (3 : Int32))), .val (.long (q0 &&& (9223372036854775807 : Int64))), .second, .val (.int (p1 &&& (2147483647 : Int32))), .val (.int (0 : Int32)), .val (.ref b240), .unset, .unset, .unset] [(.ref b240)])) rfl (by rw [hml]; rfl) (Steps.refl _) (argsL := []) (rest := []) (lenOf pd_6 rfl) rfl (by show 2 * 0 + _ ≤ _; exact Nat.le_of_eq rfl) (hb hby at_83) (fun _ _ => ⟨rfl, rfl, (by decide : 1 + 0 ≤ _), (by decide : 6 + 0 ≤ _)⟩)
        dsimp only [Pt.U, Pt.locs, Pt.cells, Pt.slots] at X242 l242 y242 z242 st242 hQ242
        subst l242 y242 z242
        obtain ⟨rfl, Nq242, hh242⟩ := hQ242
        have N242 := Fr.app N241 Nq242
        refine Ends.step (fun _ k => st242.trans k) ?_
        show Ends p e below QQ (T242.setTop (mkF m 86 #[.val (.long q0), .second, .val (.int p1), .val (.int p2), .val (.int p3), .val (.int (p2 &&& (3 : Int32))), .val (.long (q0 &&& (9223372036854775807 : Int64))), .second, .val (.int (p1 &&& (2147483647 : Int32))), .val (.int (0 : Int32)), .val (.ref b240), .unset, .unset, .unset] [(.int (fluc (q0 &&& (9223372036854775807 : Int64))))]))
        refine Ends.step (fun _ k => XS.istore X242.here hx rfl (hb hby at_86) rfl (l' := #[.val (.long q0), .second, .val (.int p1), .val (.int p2), .val (.int p3), .val (.int (p2 &&& (3 : Int32))), .val (.long (q0 &&& (9223372036854775807 : Int64))), .second, .val (.int (p1 &&& (2147483647 : Int32))), .val (.int (0 : Int32)), .val (.ref b240), .val (.int (fluc (q0 &&& (9223372036854775807 : Int64)))), .unset, .unset]) rfl k) ?_
        show Ends p e below QQ (T242.setTop (mkF m 88 #[.val (.long q0), .second, .val (.int p1), .val (.int p2), .val (.int p3), .val (.int (p2 &&& (3 : Int32))), .val (.long (q0 &&& (9223372036854775807 : Int64))), .second, .val (.int (p1 &&& (2147483647 : Int32))), .val (.int (0 : Int32)), .val (.ref b240), .val (.int (fluc (q0 &&& (9223372036854775807 : Int64)))), .unset, .unset] []))
        refine Ends.step (fun _ k => XT.iconstV X242.here hx rfl (1 : Int32) (hb hby at_88) rfl k) ?_
        show Ends p e below QQ (T242.setTop (mkF m 89 #[.val (.long q0), .second, .val (.int p1), .val (.int p2), .val (.int p3), .val (.int (p2 &&& (3 : Int32))), .val (.long (q0 &&& (9223372036854775807 : Int64))), .second, .val (.int (p1 &&& (2147483647 : Int32))), .val (.int (0 : Int32)), .val (.ref b240), .val (.int (fluc (q0 &&& (9223372036854775807 : Int64)))), .unset, .unset] [(.int (1 : Int32))]))
        obtain ⟨T243, h243, k243, X243, e243, E243, A243, st243⟩ := newP X242 hx hZ (hw _ (List.mem_of_getElem? (i := 44) rfl)) hh242 (g := (mkF m 89 #[.val (.long q0), .second, .val (.int p1), .val (.int p2), .val (.int p3), .val (.int (p2 &&& (3 : Int32))), .val (.long (q0 &&& (9223372036854775807 : Int64))), .second, .val (.int (p1 &&& (2147483647 : Int32))), .val (.int (0 : Int32)), .val (.ref b240), .val (.int (fluc (q0 &&& (9223372036854775807 : Int64)))), .unset, .unset] [(.int (1 : Int32))])) rfl (hb hby at_89) rfl (by decide) (cap := 1) (by decide) (by decide) (by decide) (by decide)
        obtain ⟨b243, g243⟩ : ∃ z, z = T241.heap.size := ⟨_, rfl⟩
        rw [← g243] at A243 st243
        have ne_a_NONE_b243 : a_NONE ≠ b243 := Nat.ne_of_lt (Nat.lt_of_lt_of_le E_a_NONE.lt (Nat.le_of_eq g243.symm))
        have ne_a_SIZE_LINE_b243 : a_SIZE_LINE ≠ b243 := Nat.ne_of_lt (Nat.lt_of_lt_of_le E_a_SIZE_LINE.lt (Nat.le_of_eq g243.symm))
        have ne_a_ENDED_b243 : a_ENDED ≠ b243 := Nat.ne_of_lt (Nat.lt_of_lt_of_le E_a_ENDED.lt (Nat.le_of_eq g243.symm))
        have ne_a_DATA_b243 : a_DATA ≠ b243 := Nat.ne_of_lt (Nat.lt_of_lt_of_le E_a_DATA.lt (Nat.le_of_eq g243.symm))
        have ne_b240_b243 : b240 ≠ b243 := Nat.ne_of_lt (Nat.lt_of_lt_of_le E_b240.lt (Nat.le_of_eq g243.symm))
        have g_b243 : n0 ≤ b243 := Nat.le_trans Z0 (Nat.le_trans K241.1 (Nat.le_of_eq g243.symm))
        have sz_b243 : h0.size ≤ b243 := Nat.le_trans K241.1 (Nat.le_of_eq g243.symm)
        have E_a_NONE := E_a_NONE.ext E243
        have E_a_SIZE_LINE := E_a_SIZE_LINE.ext E243
        have E_a_ENDED := E_a_ENDED.ext E243
        have E_a_DATA := E_a_DATA.ext E243
        have F_ordinal_a_SIZE_LINE := F_ordinal_a_SIZE_LINE.ext E243
        have F_ordinal_a_ENDED := F_ordinal_a_ENDED.ext E243
        have F_ordinal_a_DATA := F_ordinal_a_DATA.ext E243
        have A_a_NONE := A_a_NONE.ext E243
        have S_NONE := S_NONE.ext E243
        have S_SIZE_LINE := S_SIZE_LINE.ext E243
        have S_ENDED := S_ENDED.ext E243
        have S_DATA := S_DATA.ext E243
        have S_COMPACT_STRINGS := S_COMPACT_STRINGS.ext E243
        have E_b240 := E_b240.ext E243
        have F_length_b240 := F_length_b240.ext E243
        have F_ended_b240 := F_ended_b240.ext E243
        have K243 := K241.ext E243
        have A_b243 : Arv Z h243 b243 k243 .byte (1 : Int32) [(.int (0 : Int32))] (.int (0 : Int32)) := (Arv.new A243 (by decide)).pad (pad_rep [] (.int (0 : Int32)) 1)
        refine Ends.step st243 ?_
        show Ends p e below QQ (T243.setTop (mkF m 91 #[.val (.long q0), .second, .val (.int p1), .val (.int p2), .val (.int p3), .val (.int (p2 &&& (3 : Int32))), .val (.long (q0 &&& (9223372036854775807 : Int64))), .second, .val (.int (p1 &&& (2147483647 : Int32))), .val (.int (0 : Int32)), .val (.ref b240), .val (.int (fluc (q0 &&& (9223372036854775807 : Int64)))), .unset, .unset] [(.ref b243)]))
        refine Ends.step (fun _ k => XS.astore X243.here hx rfl (hb hby at_91) rfl rfl (l' := #[.val (.long q0), .second, .val (.int p1), .val (.int p2), .val (.int p3), .val (.int (p2 &&& (3 : Int32))), .val (.long (q0 &&& (9223372036854775807 : Int64))), .second, .val (.int (p1 &&& (2147483647 : Int32))), .val (.int (0 : Int32)), .val (.ref b240), .val (.int (fluc (q0 &&& (9223372036854775807 : Int64)))), .val (.ref b243), .unset]) rfl k) ?_
        show Ends p e below QQ (T243.setTop (mkF m 93 #[.val (.long q0), .second, .val (.int p1), .val (.int p2), .val (.int p3), .val (.int (p2 &&& (3 : Int32))), .val (.long (q0 &&& (9223372036854775807 : Int64))), .second, .val (.int (p1 &&& (2147483647 : Int32))), .val (.int (0 : Int32)), .val (.ref b240), .val (.int (fluc (q0 &&& (9223372036854775807 : Int64)))), .val (.ref b243), .unset] []))
        refine Ends.step (fun _ k => XS.aload X243.here hx rfl (hb hby at_93) rfl rfl k) ?_
        show Ends p e below QQ (T243.setTop (mkF m 95 #[.val (.long q0), .second, .val (.int p1), .val (.int p2), .val (.int p3), .val (.int (p2 &&& (3 : Int32))), .val (.long (q0 &&& (9223372036854775807 : Int64))), .second, .val (.int (p1 &&& (2147483647 : Int32))), .val (.int (0 : Int32)), .val (.ref b240), .val (.int (fluc (q0 &&& (9223372036854775807 : Int64)))), .val (.ref b243), .unset] [(.ref b243)]))
        refine Ends.step (fun _ k => XT.iconstV X243.here hx rfl (0 : Int32) (hb hby at_95) rfl k) ?_
        show Ends p e below QQ (T243.setTop (mkF m 96 #[.val (.long q0), .second, .val (.int p1), .val (.int p2), .val (.int p3), .val (.int (p2 &&& (3 : Int32))), .val (.long (q0 &&& (9223372036854775807 : Int64))), .second, .val (.int (p1 &&& (2147483647 : Int32))), .val (.int (0 : Int32)), .val (.ref b240), .val (.int (fluc (q0 &&& (9223372036854775807 : Int64)))), .val (.ref b243), .unset] [(.int (0 : Int32)), (.ref b243)]))
        refine Ends.step (fun _ k => XS.iload X243.here hx rfl (hb hby at_96) rfl k) ?_
        show Ends p e below QQ (T243.setTop (mkF m 98 #[.val (.long q0), .second, .val (.int p1), .val (.int p2), .val (.int p3), .val (.int (p2 &&& (3 : Int32))), .val (.long (q0 &&& (9223372036854775807 : Int64))), .second, .val (.int (p1 &&& (2147483647 : Int32))), .val (.int (0 : Int32)), .val (.ref b240), .val (.int (fluc (q0 &&& (9223372036854775807 : Int64)))), .val (.ref b243), .unset] [(.int p3), (.int (0 : Int32)), (.ref b243)]))
        refine Ends.step (fun _ k => XT.bipushV X243.here hx rfl (63 : Int32) (hb hby at_98) rfl k) ?_
        show Ends p e below QQ (T243.setTop (mkF m 100 #[.val (.long q0), .second, .val (.int p1), .val (.int p2), .val (.int p3), .val (.int (p2 &&& (3 : Int32))), .val (.long (q0 &&& (9223372036854775807 : Int64))), .second, .val (.int (p1 &&& (2147483647 : Int32))), .val (.int (0 : Int32)), .val (.ref b240), .val (.int (fluc (q0 &&& (9223372036854775807 : Int64)))), .val (.ref b243), .unset] [(.int (63 : Int32)), (.int p3), (.int (0 : Int32)), (.ref b243)]))
        refine Ends.step (fun _ k => XS.iand X243.here hx rfl (hb hby at_100) rfl k) ?_
        show Ends p e below QQ (T243.setTop (mkF m 101 #[.val (.long q0), .second, .val (.int p1), .val (.int p2), .val (.int p3), .val (.int (p2 &&& (3 : Int32))), .val (.long (q0 &&& (9223372036854775807 : Int64))), .second, .val (.int (p1 &&& (2147483647 : Int32))), .val (.int (0 : Int32)), .val (.ref b240), .val (.int (fluc (q0 &&& (9223372036854775807 : Int64)))), .val (.ref b243), .unset] [(.int (p3 &&& (63 : Int32))), (.int (0 : Int32)), (.ref b243)]))
        refine Ends.step (fun _ k => XT.bipushV X243.here hx rfl (64 : Int32) (hb hby at_101) rfl k) ?_
        show Ends p e below QQ (T243.setTop (mkF m 103 #[.val (.long q0), .second, .val (.int p1), .val (.int p2), .val (.int p3), .val (.int (p2 &&& (3 : Int32))), .val (.long (q0 &&& (9223372036854775807 : Int64))), .second, .val (.int (p1 &&& (2147483647 : Int32))), .val (.int (0 : Int32)), .val (.ref b240), .val (.int (fluc (q0 &&& (9223372036854775807 : Int64)))), .val (.ref b243), .unset] [(.int (64 : Int32)), (.int (p3 &&& (63 : Int32))), (.int (0 : Int32)), (.ref b243)]))
        refine Ends.step (fun _ k => XS.iadd X243.here hx rfl (hb hby at_103) rfl k) ?_
        show Ends p e below QQ (T243.setTop (mkF m 104 #[.val (.long q0), .second, .val (.int p1), .val (.int p2), .val (.int p3), .val (.int (p2 &&& (3 : Int32))), .val (.long (q0 &&& (9223372036854775807 : Int64))), .second, .val (.int (p1 &&& (2147483647 : Int32))), .val (.int (0 : Int32)), .val (.ref b240), .val (.int (fluc (q0 &&& (9223372036854775807 : Int64)))), .val (.ref b243), .unset] [(.int ((p3 &&& (63 : Int32)) + (64 : Int32))), (.int (0 : Int32)), (.ref b243)]))
        refine Ends.step (fun _ k => XT.i2b X243.here hx rfl (hb hby at_104) rfl k) ?_
        show Ends p e below QQ (T243.setTop (mkF m 105 #[.val (.long q0), .second, .val (.int p1), .val (.int p2), .val (.int p3), .val (.int (p2 &&& (3 : Int32))), .val (.long (q0 &&& (9223372036854775807 : Int64))), .second, .val (.int (p1 &&& (2147483647 : Int32))), .val (.int (0 : Int32)), .val (.ref b240), .val (.int (fluc (q0 &&& (9223372036854775807 : Int64)))), .val (.ref b243), .unset] [(.int ((p3 &&& (63 : Int32)) + (64 : Int32)).toInt8.toInt32), (.int (0 : Int32)), (.ref b243)]))
        obtain ⟨cl244, Ar244, q244, S244, P244, H244, G244⟩ := id A_b243
        have hin244 : ¬ ((0 : Int32) < 0 ∨ cl244.slots.size ≤ ((0 : Int32)).toNatClampNeg) := inb_of S244 ⟨by decide, by decide⟩
        obtain ⟨T245, h245, X245, e245, W245, st245⟩ := stB X243 hx hZ e243 Ar244 (j := (0 : Int32)) hin244 (g := (mkF m 105 #[.val (.long q0), .second, .val (.int p1), .val (.int p2), .val (.int p3), .val (.int (p2 &&& (3 : Int32))), .val (.long (q0 &&& (9223372036854775807 : Int64))), .second, .val (.int (p1 &&& (2147483647 : Int32))), .val (.int (0 : Int32)), .val (.ref b240), .val (.int (fluc (q0 &&& (9223372036854775807 : Int64)))), .val (.ref b243), .unset] [(.int ((p3 &&& (63 : Int32)) + (64 : Int32)).toInt8.toInt32), (.int (0 : Int32)), (.ref b243)])) rfl rfl (hb hby at_105)
        rw [own_narb] at W245
        have E_a_NONE := E_a_NONE.wr W245
        have E_a_SIZE_LINE := E_a_SIZE_LINE.wr W245
        have E_a_ENDED := E_a_ENDED.wr W245
        have E_a_DATA := E_a_DATA.wr W245
        have F_ordinal_a_SIZE_LINE := F_ordinal_a_SIZE_LINE.other W245 (Or.inl ne_a_SIZE_LINE_b243)
        have F_ordinal_a_ENDED := F_ordinal_a_ENDED.other W245 (Or.inl ne_a_ENDED_b243)
        have F_ordinal_a_DATA := F_ordinal_a_DATA.other W245 (Or.inl ne_a_DATA_b243)
        have A_a_NONE := A_a_NONE.other W245 ne_a_NONE_b243
        have S_NONE := S_NONE.wr W245
        have S_SIZE_LINE := S_SIZE_LINE.wr W245
        have S_ENDED := S_ENDED.wr W245
        have S_DATA := S_DATA.wr W245
        have S_COMPACT_STRINGS := S_COMPACT_STRINGS.wr W245
        have E_b240 := E_b240.wr W245
        have F_length_b240 := F_length_b240.other W245 (Or.inl ne_b240_b243)
        have F_ended_b240 := F_ended_b240.other W245 (Or.inl ne_b240_b243)
        have A_b243 : Arv Z h245 b243 k243 .byte (1 : Int32) [(.int ((p3 &&& (63 : Int32)) + (64 : Int32)).toInt8.toInt32)] (.int (0 : Int32)) := Arv.set Ar244 q244 S244 P244 H244 G244 (fits_nar_byte _) W245 0 rfl (Nat.le_of_ble_eq_true rfl)
        have K245 := K243.wr W245 (Or.inr sz_b243)
        have N245 := Fr.snoc X245 N242 g_b243
        refine Ends.step st245 ?_
        show Ends p e below QQ (T245.setTop (mkF m 106 #[.val (.long q0), .second, .val (.int p1), .val (.int p2), .val (.int p3), .val (.int (p2 &&& (3 : Int32))), .val (.long (q0 &&& (9223372036854775807 : Int64))), .second, .val (.int (p1 &&& (2147483647 : Int32))), .val (.int (0 : Int32)), .val (.ref b240), .val (.int (fluc (q0 &&& (9223372036854775807 : Int64)))), .val (.ref b243), .unset] []))
        refine Ends.step (fun _ k => XS.aload X245.here hx rfl (hb hby at_106) rfl rfl k) ?_
        show Ends p e below QQ (T245.setTop (mkF m 108 #[.val (.long q0), .second, .val (.int p1), .val (.int p2), .val (.int p3), .val (.int (p2 &&& (3 : Int32))), .val (.long (q0 &&& (9223372036854775807 : Int64))), .second, .val (.int (p1 &&& (2147483647 : Int32))), .val (.int (0 : Int32)), .val (.ref b240), .val (.int (fluc (q0 &&& (9223372036854775807 : Int64)))), .val (.ref b243), .unset] [(.ref b240)]))
        refine Ends.step (fun _ k => XS.aload X245.here hx rfl (hb hby at_108) rfl rfl k) ?_
        show Ends p e below QQ (T245.setTop (mkF m 110 #[.val (.long q0), .second, .val (.int p1), .val (.int p2), .val (.int p3), .val (.int (p2 &&& (3 : Int32))), .val (.long (q0 &&& (9223372036854775807 : Int64))), .second, .val (.int (p1 &&& (2147483647 : Int32))), .val (.int (0 : Int32)), .val (.ref b240), .val (.int (fluc (q0 &&& (9223372036854775807 : Int64)))), .val (.ref b243), .unset] [(.ref b243), (.ref b240)]))
        refine Ends.step (fun _ k => XT.iconstV X245.here hx rfl (0 : Int32) (hb hby at_110) rfl k) ?_
        show Ends p e below QQ (T245.setTop (mkF m 111 #[.val (.long q0), .second, .val (.int p1), .val (.int p2), .val (.int p3), .val (.int (p2 &&& (3 : Int32))), .val (.long (q0 &&& (9223372036854775807 : Int64))), .second, .val (.int (p1 &&& (2147483647 : Int32))), .val (.int (0 : Int32)), .val (.ref b240), .val (.int (fluc (q0 &&& (9223372036854775807 : Int64)))), .val (.ref b243), .unset] [(.int (0 : Int32)), (.ref b243), (.ref b240)]))
        refine Ends.step (fun _ k => XS.iload X245.here hx rfl (hb hby at_111) rfl k) ?_
        show Ends p e below QQ (T245.setTop (mkF m 113 #[.val (.long q0), .second, .val (.int p1), .val (.int p2), .val (.int p3), .val (.int (p2 &&& (3 : Int32))), .val (.long (q0 &&& (9223372036854775807 : Int64))), .second, .val (.int (p1 &&& (2147483647 : Int32))), .val (.int (0 : Int32)), .val (.ref b240), .val (.int (fluc (q0 &&& (9223372036854775807 : Int64)))), .val (.ref b243), .unset] [(.int p3), (.int (0 : Int32)), (.ref b243), (.ref b240)]))
        refine Ends.step (fun _ k => XT.bipushV X245.here hx rfl (8 : Int32) (hb hby at_113) rfl k) ?_
        show Ends p e below QQ (T245.setTop (mkF m 115 #[.val (.long q0), .second, .val (.int p1), .val (.int p2), .val (.int p3), .val (.int (p2 &&& (3 : Int32))), .val (.long (q0 &&& (9223372036854775807 : Int64))), .second, .val (.int (p1 &&& (2147483647 : Int32))), .val (.int (0 : Int32)), .val (.ref b240), .val (.int (fluc (q0 &&& (9223372036854775807 : Int64)))), .val (.ref b243), .unset] [(.int (8 : Int32)), (.int p3), (.int (0 : Int32)), (.ref b243), (.ref b240)]))
        refine Ends.step (fun _ k => XS.iushr X245.here hx rfl (hb hby at_115) rfl k) ?_
        show Ends p e below QQ (T245.setTop (mkF m 116 #[.val (.long q0), .second, .val (.int p1), .val (.int p2), .val (.int p3), .val (.int (p2 &&& (3 : Int32))), .val (.long (q0 &&& (9223372036854775807 : Int64))), .second, .val (.int (p1 &&& (2147483647 : Int32))), .val (.int (0 : Int32)), .val (.ref b240), .val (.int (fluc (q0 &&& (9223372036854775807 : Int64)))), .val (.ref b243), .unset] [(.int ((p3.toUInt32 >>> ((8 : Int32) &&& 31).toUInt32).toInt32)), (.int (0 : Int32)), (.ref b243), (.ref b240)]))
        refine Ends.step (fun _ k => XT.iconstV X245.here hx rfl (1 : Int32) (hb hby at_116) rfl k) ?_
        show Ends p e below QQ (T245.setTop (mkF m 117 #[.val (.long q0), .second, .val (.int p1), .val (.int p2), .val (.int p3), .val (.int (p2 &&& (3 : Int32))), .val (.long (q0 &&& (9223372036854775807 : Int64))), .second, .val (.int (p1 &&& (2147483647 : Int32))), .val (.int (0 : Int32)), .val (.ref b240), .val (.int (fluc (q0 &&& (9223372036854775807 : Int64)))), .val (.ref b243), .unset] [(.int (1 : Int32)), (.int ((p3.toUInt32 >>> ((8 : Int32) &&& 31).toUInt32).toInt32)), (.int (0 : Int32)), (.ref b243), (.ref b240)]))
        refine Ends.step (fun _ k => XS.iand X245.here hx rfl (hb hby at_117) rfl k) ?_
        show Ends p e below QQ (T245.setTop (mkF m 118 #[.val (.long q0), .second, .val (.int p1), .val (.int p2), .val (.int p3), .val (.int (p2 &&& (3 : Int32))), .val (.long (q0 &&& (9223372036854775807 : Int64))), .second, .val (.int (p1 &&& (2147483647 : Int32))), .val (.int (0 : Int32)), .val (.ref b240), .val (.int (fluc (q0 &&& (9223372036854775807 : Int64)))), .val (.ref b243), .unset] [(.int (((p3.toUInt32 >>> ((8 : Int32) &&& 31).toUInt32).toInt32) &&& (1 : Int32))), (.int (0 : Int32)), (.ref b243), (.ref b240)]))
        obtain ⟨cq246, kq246, q246a, q246b, q246c⟩ := isOf hZ e245 E_b240
        obtain ⟨_, _, ⟨T246, L246, k246, n246⟩, -, X246, ⟨Lc246, hQ246, l246, y246, z246⟩, st246⟩ := X245.virtualBack hx (y := (⟨"com/example/gatehook/gatehook/http/IncomingBody", "take", "([BII)I"⟩ : MethodName)) (z := (⟨"com/example/gatehook/gatehook/http/IncomingBody", "take", "([BII)I"⟩ : MethodName)) hown (mvT hZ (hw _ (List.mem_of_getElem? (i := 85) rfl))) (mvT hZ (hw _ (List.mem_of_getElem? (i := 86) rfl))) (notFace_of_selects (args := #[]) (mvT hZ (hw _ (List.mem_of_getElem? (i := 88) rfl)))) (mvT hZ (hw _ (List.mem_of_getElem? (i := 88) rfl))) (mvT hZ (hw _ (List.mem_of_getElem? (i := 87) rfl))) (by decide) (backOf (W := 0) (rmte l Z a0 hw [] b240 b243 (0 : Int32) (((p3.toUInt32 >>> ((8 : Int32) &&& 31).toUInt32).toInt32) &&& (1 : Int32)) h245 n0 (Nat.le_trans Z0 K245.1) F_ended_b240) hZ (hw _ (List.mem_of_getElem? (i := 89) rfl)) (hw _ (List.mem_of_getElem? (i := 4) rfl)) (by decide) (by decide)) q246a q246c (g := (mkF m 118 #[.val (.long q0), .second, .val (.int p1), .val (.int p2), .val (.int p3), .val (.int (p2 &&& (3 : Int32))), .val (.long (q0 &&& (9223372036854775807 : Int64))), .second, .val (.int (p1 &&& (2147483647 : Int32))), .val (.int (0 : Int32)), .val (.ref b240), .val (.int (fluc (q0 &&& (9223372036854775807 : Int64)))), .val (.ref b243), .unset] [(.int (((p3.toUInt32 >>> ((8 : Int32) &&& 31).toUInt32).toInt32) &&& (1 : Int32))), (.int (0 : Int32)), (.ref b243), (.ref b240)])) rfl (by rw [hml]; rfl) (Steps.refl _) (argsL := [(.ref b243), (.int (0 : Int32)), (.int (((p3.toUInt32 >>> ((8 : Int32) &&& 31).toUInt32).toInt32) &&& (1 : Int32)))]) (rest := []) (lenOf pd_11 rfl) rfl (by show 2 * 0 + _ ≤ _; exact Nat.le_of_eq rfl) (hb hby at_118) (fun _ _ => ⟨rfl, e245, (by decide : 2 + 0 ≤ _), (by decide : 7 + 0 ≤ _)⟩)
        dsimp only [Pt.U, Pt.locs, Pt.cells, Pt.slots] at X246 l246 y246 z246 st246 hQ246
        subst l246 y246 z246
        obtain ⟨rfl, Nq246, hh246⟩ := hQ246
        have N246 := Fr.app N245 Nq246
        refine Ends.step (fun _ k => st246.trans k) ?_
        show Ends p e below QQ (T246.setTop (mkF m 121 #[.val (.long q0), .second, .val (.int p1), .val (.int p2), .val (.int p3), .val (.int (p2 &&& (3 : Int32))), .val (.long (q0 &&& (9223372036854775807 : Int64))), .second, .val (.int (p1 &&& (2147483647 : Int32))), .val (.int (0 : Int32)), .val (.ref b240), .val (.int (fluc (q0 &&& (9223372036854775807 : Int64)))), .val (.ref b243), .unset] [(.int (0 : Int32))]))
        refine Ends.step (fun _ k => XT.pop X246.here hx rfl (hb hby at_121) rfl rfl k) ?_
        show Ends p e below QQ (T246.setTop (mkF m 122 #[.val (.long q0), .second, .val (.int p1), .val (.int p2), .val (.int p3), .val (.int (p2 &&& (3 : Int32))), .val (.long (q0 &&& (9223372036854775807 : Int64))), .second, .val (.int (p1 &&& (2147483647 : Int32))), .val (.int (0 : Int32)), .val (.ref b240), .val (.int (fluc (q0 &&& (9223372036854775807 : Int64)))), .val (.ref b243), .unset] []))
        refine Ends.step (fun _ k => XS.aload X246.here hx rfl (hb hby at_122) rfl rfl k) ?_
        show Ends p e below QQ (T246.setTop (mkF m 124 #[.val (.long q0), .second, .val (.int p1), .val (.int p2), .val (.int p3), .val (.int (p2 &&& (3 : Int32))), .val (.long (q0 &&& (9223372036854775807 : Int64))), .second, .val (.int (p1 &&& (2147483647 : Int32))), .val (.int (0 : Int32)), .val (.ref b240), .val (.int (fluc (q0 &&& (9223372036854775807 : Int64)))), .val (.ref b243), .unset] [(.ref b240)]))
        obtain ⟨cq247, kq247, q247a, q247b, q247c⟩ := isOf hZ hh246 E_b240
        obtain ⟨_, _, ⟨T247, L247, k247, n247⟩, -, X247, ⟨Lc247, hQ247, l247, y247, z247⟩, st247⟩ := X246.virtualBack hx (y := (⟨"com/example/gatehook/gatehook/http/IncomingBody", "lastsUntilClose", "()Z"⟩ : MethodName)) (z := (⟨"com/example/gatehook/gatehook/http/IncomingBody", "lastsUntilClose", "()Z"⟩ : MethodName)) hown (mvT hZ (hw _ (List.mem_of_getElem? (i := 79) rfl))) (mvT hZ (hw _ (List.mem_of_getElem? (i := 80) rfl))) (notFace_of_selects (args := #[]) (mvT hZ (hw _ (List.mem_of_getElem? (i := 82) rfl)))) (mvT hZ (hw _ (List.mem_of_getElem? (i := 82) rfl))) (mvT hZ (hw _ (List.mem_of_getElem? (i := 81) rfl))) (by decide) (backOf (W := 0) (rmluc l Z a0 hw [] b240 (q0 &&& (9223372036854775807 : Int64)) h245 n0 (Nat.le_trans Z0 K245.1) F_length_b240) hZ (hw _ (List.mem_of_getElem? (i := 83) rfl)) (hw _ (List.mem_of_getElem? (i := 4) rfl)) (by decide) (by decide)) q247a q247c (g := (mkF m 124 #[.val (.long q0), .second, .val (.int p1), .val (.int p2), .val (.int p3), .val (.int (p2 &&& (3 : Int32))), .val (.long (q0 &&& (9223372036854775807 : Int64))), .second, .val (.int (p1 &&& (2147483647 : Int32))), .val (.int (0 : Int32)), .val (.ref b240), .val (.int (fluc (q0 &&& (9223372036854775807 : Int64)))), .val (.ref b243), .unset] [(.ref b240)])) rfl (by rw [hml]; rfl) (Steps.refl _) (argsL := []) (rest := []) (lenOf pd_6 rfl) rfl (by show 2 * 0 + _ ≤ _; exact Nat.le_of_eq rfl) (hb hby at_124) (fun _ _ => ⟨rfl, hh246, (by decide : 2 + 0 ≤ _), (by decide : 7 + 0 ≤ _)⟩)
        dsimp only [Pt.U, Pt.locs, Pt.cells, Pt.slots] at X247 l247 y247 z247 st247 hQ247
        subst l247 y247 z247
        obtain ⟨rfl, Nq247, hh247⟩ := hQ247
        have N247 := Fr.app N246 Nq247
        refine Ends.step (fun _ k => st247.trans k) ?_
        show Ends p e below QQ (T247.setTop (mkF m 127 #[.val (.long q0), .second, .val (.int p1), .val (.int p2), .val (.int p3), .val (.int (p2 &&& (3 : Int32))), .val (.long (q0 &&& (9223372036854775807 : Int64))), .second, .val (.int (p1 &&& (2147483647 : Int32))), .val (.int (0 : Int32)), .val (.ref b240), .val (.int (fluc (q0 &&& (9223372036854775807 : Int64)))), .val (.ref b243), .unset] [(.int (fluc (q0 &&& (9223372036854775807 : Int64))))]))
        refine Ends.step (fun _ k => XS.istore X247.here hx rfl (hb hby at_127) rfl (l' := #[.val (.long q0), .second, .val (.int p1), .val (.int p2), .val (.int p3), .val (.int (p2 &&& (3 : Int32))), .val (.long (q0 &&& (9223372036854775807 : Int64))), .second, .val (.int (p1 &&& (2147483647 : Int32))), .val (.int (0 : Int32)), .val (.ref b240), .val (.int (fluc (q0 &&& (9223372036854775807 : Int64)))), .val (.ref b243), .val (.int (fluc (q0 &&& (9223372036854775807 : Int64))))]) rfl k) ?_
        show Ends p e below QQ (T247.setTop (mkF m 129 #[.val (.long q0), .second, .val (.int p1), .val (.int p2), .val (.int p3), .val (.int (p2 &&& (3 : Int32))), .val (.long (q0 &&& (9223372036854775807 : Int64))), .second, .val (.int (p1 &&& (2147483647 : Int32))), .val (.int (0 : Int32)), .val (.ref b240), .val (.int (fluc (q0 &&& (9223372036854775807 : Int64)))), .val (.ref b243), .val (.int (fluc (q0 &&& (9223372036854775807 : Int64))))] []))
        refine Ends.step (fun _ k => XS.iload X247.here hx rfl (hb hby at_129) rfl k) ?_
        show Ends p e below QQ (T247.setTop (mkF m 131 #[.val (.long q0), .second, .val (.int p1), .val (.int p2), .val (.int p3), .val (.int (p2 &&& (3 : Int32))), .val (.long (q0 &&& (9223372036854775807 : Int64))), .second, .val (.int (p1 &&& (2147483647 : Int32))), .val (.int (0 : Int32)), .val (.ref b240), .val (.int (fluc (q0 &&& (9223372036854775807 : Int64)))), .val (.ref b243), .val (.int (fluc (q0 &&& (9223372036854775807 : Int64))))] [(.int (fluc (q0 &&& (9223372036854775807 : Int64))))]))
        refine Ends.step (fun _ k => XS.iload X247.here hx rfl (hb hby at_131) rfl k) ?_
        show Ends p e below QQ (T247.setTop (mkF m 133 #[.val (.long q0), .second, .val (.int p1), .val (.int p2), .val (.int p3), .val (.int (p2 &&& (3 : Int32))), .val (.long (q0 &&& (9223372036854775807 : Int64))), .second, .val (.int (p1 &&& (2147483647 : Int32))), .val (.int (0 : Int32)), .val (.ref b240), .val (.int (fluc (q0 &&& (9223372036854775807 : Int64)))), .val (.ref b243), .val (.int (fluc (q0 &&& (9223372036854775807 : Int64))))] [(.int (0 : Int32)), (.int (fluc (q0 &&& (9223372036854775807 : Int64))))]))
        have J148_248 : (∀ (v148_5 : Int32) (hv148_5 : v148_5 = (if (fluc (q0 &&& (9223372036854775807 : Int64))) = (0 : Int32) then (1 : Int32) else (0 : Int32))), Ends p e below QQ (T247.setTop (mkF m 148 #[.val (.long q0), .second, .val (.int p1), .val (.int p2), .val (.int p3), .val (.int (p2 &&& (3 : Int32))), .val (.long (q0 &&& (9223372036854775807 : Int64))), .second, .val (.int (p1 &&& (2147483647 : Int32))), .val (.int (0 : Int32)), .val (.ref b240), .val (.int (fluc (q0 &&& (9223372036854775807 : Int64)))), .val (.ref b243), .val (.int (fluc (q0 &&& (9223372036854775807 : Int64))))] [(.int v148_5)]))) → Ends p e below QQ (T247.setTop (mkF m 133 #[.val (.long q0), .second, .val (.int p1), .val (.int p2), .val (.int p3), .val (.int (p2 &&& (3 : Int32))), .val (.long (q0 &&& (9223372036854775807 : Int64))), .second, .val (.int (p1 &&& (2147483647 : Int32))), .val (.int (0 : Int32)), .val (.ref b240), .val (.int (fluc (q0 &&& (9223372036854775807 : Int64)))), .val (.ref b243), .val (.int (fluc (q0 &&& (9223372036854775807 : Int64))))] [(.int (0 : Int32)), (.int (fluc (q0 &&& (9223372036854775807 : Int64))))])) := by
          intro hJ
          by_cases hc133_249 : (fluc (q0 &&& (9223372036854775807 : Int64))) = (0 : Int32)
          · refine Ends.step (fun _ k => XS.icmpNo X247.here hx rfl (hb hby at_133) rfl (XT.ii_ne_f hc133_249) k) ?_
            show Ends p e below QQ (T247.setTop (mkF m 136 #[.val (.long q0), .second, .val (.int p1), .val (.int p2), .val (.int p3), .val (.int (p2 &&& (3 : Int32))), .val (.long (q0 &&& (9223372036854775807 : Int64))), .second, .val (.int (p1 &&& (2147483647 : Int32))), .val (.int (0 : Int32)), .val (.ref b240), .val (.int (fluc (q0 &&& (9223372036854775807 : Int64)))), .val (.ref b243), .val (.int (fluc (q0 &&& (9223372036854775807 : Int64))))] []))
            refine Ends.step (fun _ k => XS.iload X247.here hx rfl (hb hby at_136) rfl k) ?_
            show Ends p e below QQ (T247.setTop (mkF m 138 #[.val (.long q0), .second, .val (.int p1), .val (.int p2), .val (.int p3), .val (.int (p2 &&& (3 : Int32))), .val (.long (q0 &&& (9223372036854775807 : Int64))), .second, .val (.int (p1 &&& (2147483647 : Int32))), .val (.int (0 : Int32)), .val (.ref b240), .val (.int (fluc (q0 &&& (9223372036854775807 : Int64)))), .val (.ref b243), .val (.int (fluc (q0 &&& (9223372036854775807 : Int64))))] [(.int (fluc (q0 &&& (9223372036854775807 : Int64))))]))
            refine Ends.step (fun _ k => XS.iload X247.here hx rfl (hb hby at_138) rfl k) ?_
            show Ends p e below QQ (T247.setTop (mkF m 140 #[.val (.long q0), .second, .val (.int p1), .val (.int p2), .val (.int p3), .val (.int (p2 &&& (3 : Int32))), .val (.long (q0 &&& (9223372036854775807 : Int64))), .second, .val (.int (p1 &&& (2147483647 : Int32))), .val (.int (0 : Int32)), .val (.ref b240), .val (.int (fluc (q0 &&& (9223372036854775807 : Int64)))), .val (.ref b243), .val (.int (fluc (q0 &&& (9223372036854775807 : Int64))))] [(.int (0 : Int32)), (.int (fluc (q0 &&& (9223372036854775807 : Int64))))]))
            refine Ends.step (fun _ k => XS.icmpNo X247.here hx rfl (hb hby at_140) rfl (XT.ii_ne_f hc133_249) k) ?_
            show Ends p e below QQ (T247.setTop (mkF m 143 #[.val (.long q0), .second, .val (.int p1), .val (.int p2), .val (.int p3), .val (.int (p2 &&& (3 : Int32))), .val (.long (q0 &&& (9223372036854775807 : Int64))), .second, .val (.int (p1 &&& (2147483647 : Int32))), .val (.int (0 : Int32)), .val (.ref b240), .val (.int (fluc (q0 &&& (9223372036854775807 : Int64)))), .val (.ref b243), .val (.int (fluc (q0 &&& (9223372036854775807 : Int64))))] []))
            refine Ends.step (fun _ k => XT.iconstV X247.here hx rfl (1 : Int32) (hb hby at_143) rfl k) ?_
            show Ends p e below QQ (T247.setTop (mkF m 144 #[.val (.long q0), .second, .val (.int p1), .val (.int p2), .val (.int p3), .val (.int (p2 &&& (3 : Int32))), .val (.long (q0 &&& (9223372036854775807 : Int64))), .second, .val (.int (p1 &&& (2147483647 : Int32))), .val (.int (0 : Int32)), .val (.ref b240), .val (.int (fluc (q0 &&& (9223372036854775807 : Int64)))), .val (.ref b243), .val (.int (fluc (q0 &&& (9223372036854775807 : Int64))))] [(.int (1 : Int32))]))
            refine Ends.step (fun _ k => XS.goto X247.here hx rfl (pc0 := 144) (pc' := 148) rfl (hb hby at_144) (by decide) (by decide) k) ?_
            exact hJ _ (by simp only [if_pos hc133_249])
          · refine Ends.step (fun _ k => XS.icmpYes X247.here hx rfl (pc0 := 133) (pc' := 147) rfl (hb hby at_133) rfl (XT.ii_ne_t hc133_249) (by decide) (by decide) k) ?_
            show Ends p e below QQ (T247.setTop (mkF m 147 #[.val (.long q0), .second, .val (.int p1), .val (.int p2), .val (.int p3), .val (.int (p2 &&& (3 : Int32))), .val (.long (q0 &&& (9223372036854775807 : Int64))), .second, .val (.int (p1 &&& (2147483647 : Int32))), .val (.int (0 : Int32)), .val (.ref b240), .val (.int (fluc (q0 &&& (9223372036854775807 : Int64)))), .val (.ref b243), .val (.int (fluc (q0 &&& (9223372036854775807 : Int64))))] []))
            refine Ends.step (fun _ k => XT.iconstV X247.here hx rfl (0 : Int32) (hb hby at_147) rfl k) ?_
            exact hJ _ (by simp only [if_neg hc133_249])
        refine J148_248 fun v148_5 hv148_5 => ?_
        have dv148_5 : f0_v148_5 q0 p1 p2 p3 cs = v148_5 := by
          simp only [f0_v148_5]
          exact hv148_5.symm
        show Ends p e below QQ (T247.setTop (mkF m 148 #[.val (.long q0), .second, .val (.int p1), .val (.int p2), .val (.int p3), .val (.int (p2 &&& (3 : Int32))), .val (.long (q0 &&& (9223372036854775807 : Int64))), .second, .val (.int (p1 &&& (2147483647 : Int32))), .val (.int (0 : Int32)), .val (.ref b240), .val (.int (fluc (q0 &&& (9223372036854775807 : Int64)))), .val (.ref b243), .val (.int (fluc (q0 &&& (9223372036854775807 : Int64))))] [(.int v148_5)]))
        exact Ends.fin (some (.int v148_5)) X247 hQQ (fun h => by rw [Bd.returns] at h; cases h) Bd.notSynchronized (fun _ hr => retOut X247 hx (t := .boolean) Bd.returns (by rw [hv148_5]; exact own_narB (by repeat' (first | exact Or.inl rfl | exact Or.inr rfl | apply own_01))) (Or.inl ⟨rfl, (by simp), _, rfl⟩) (hb hby at_148) hr) hh247 (by decide) (by decide) ⟨(by simp only [f0, dv148_5, if_neg hc7_205, if_neg hc21_222, if_neg hc49, if_pos hs68_239]), N247, K245⟩
      · show Ends p e below QQ (s₁.setTop (mkF m 68 #[.val (.long q0), .second, .val (.int p1), .val (.int p2), .val (.int p3), .val (.int (p2 &&& (3 : Int32))), .val (.long (q0 &&& (9223372036854775807 : Int64))), .second, .val (.int (p1 &&& (2147483647 : Int32))), .val (.int (0 : Int32)), .unset, .unset, .unset, .unset] []))
        by_cases hs68_250 : (q0 &&& (9223372036854775807 : Int64)) = (0 : Int64)
        · show Ends p e below QQ (s₁.setTop (mkF m 68 #[.val (.long q0), .second, .val (.int p1), .val (.int p2), .val (.int p3), .val (.int (p2 &&& (3 : Int32))), .val (.long (q0 &&& (9223372036854775807 : Int64))), .second, .val (.int (p1 &&& (2147483647 : Int32))), .val (.int (0 : Int32)), .unset, .unset, .unset, .unset] []))
          rw [hs68_250]
          show Ends p e below QQ (s₁.setTop (mkF m 68 #[.val (.long q0), .second, .val (.int p1), .val (.int p2), .val (.int p3), .val (.int (p2 &&& (3 : Int32))), .val (.long (0 : Int64)), .second, .val (.int (p1 &&& (2147483647 : Int32))), .val (.int (0 : Int32)), .unset, .unset, .unset, .unset] []))
          obtain ⟨T251, h251, X251, e251, E251, A251, D251, U251, st251⟩ := newO X0 hx hZ hown (hw _ (List.mem_of_getElem? (i := 2) rfl)) (hw _ (List.mem_of_getElem? (i := 3) rfl)) (hw _ (List.mem_of_getElem? (i := 4) rfl)) e0 (g := (mkF m 68 #[.val (.long q0), .second, .val (.int p1), .val (.int p2), .val (.int p3), .val (.int (p2 &&& (3 : Int32))), .val (.long (0 : Int64)), .second, .val (.int (p1 &&& (2147483647 : Int32))), .val (.int (0 : Int32)), .unset, .unset, .unset, .unset] [])) rfl (hb hby at_68) (by decide) (by decide)
          obtain ⟨b251, g251⟩ : ∃ z, z = h0.size := ⟨_, rfl⟩
          rw [← g251] at A251 D251 U251 st251
          have ne_a_NONE_b251 : a_NONE ≠ b251 := Nat.ne_of_lt (Nat.lt_of_lt_of_le E_a_NONE.lt (Nat.le_of_eq g251.symm))
          have ne_a_SIZE_LINE_b251 : a_SIZE_LINE ≠ b251 := Nat.ne_of_lt (Nat.lt_of_lt_of_le E_a_SIZE_LINE.lt (Nat.le_of_eq g251.symm))
          have ne_a_ENDED_b251 : a_ENDED ≠ b251 := Nat.ne_of_lt (Nat.lt_of_lt_of_le E_a_ENDED.lt (Nat.le_of_eq g251.symm))
          have ne_a_DATA_b251 : a_DATA ≠ b251 := Nat.ne_of_lt (Nat.lt_of_lt_of_le E_a_DATA.lt (Nat.le_of_eq g251.symm))
          have g_b251 : n0 ≤ b251 := Nat.le_trans Z0 (Nat.le_trans (Keep.refl h0 []).1 (Nat.le_of_eq g251.symm))
          have sz_b251 : h0.size ≤ b251 := Nat.le_trans (Keep.refl h0 []).1 (Nat.le_of_eq g251.symm)
          have E_a_NONE := E_a_NONE.ext E251
          have E_a_SIZE_LINE := E_a_SIZE_LINE.ext E251
          have E_a_ENDED := E_a_ENDED.ext E251
          have E_a_DATA := E_a_DATA.ext E251
          have F_ordinal_a_SIZE_LINE := F_ordinal_a_SIZE_LINE.ext E251
          have F_ordinal_a_ENDED := F_ordinal_a_ENDED.ext E251
          have F_ordinal_a_DATA := F_ordinal_a_DATA.ext E251
          have A_a_NONE := A_a_NONE.ext E251
          have S_NONE := S_NONE.ext E251
          have S_SIZE_LINE := S_SIZE_LINE.ext E251
          have S_ENDED := S_ENDED.ext E251
          have S_DATA := S_DATA.ext E251
          have S_COMPACT_STRINGS := S_COMPACT_STRINGS.ext E251
          have K251 := (Keep.refl h0 []).ext E251
          have E_b251 := A251
          have F_data_b251 : Fld Z h251 b251 "com/example/gatehook/gatehook/http/IncomingBody" "data" "[B" .null := D251 (Or.inl (hw _ (List.mem_of_getElem? (i := 14) rfl))) (ty := (.array .byte)) (by decide)
          have F_length_b251 : Fld Z h251 b251 "com/example/gatehook/gatehook/http/IncomingBody" "length" "J" (.long (0 : Int64)) := D251 (Or.inr (hw _ (List.mem_of_getElem? (i := 16) rfl))) (ty := .long) (by decide)
          have F_max_b251 : Fld Z h251 b251 "com/example/gatehook/gatehook/http/IncomingBody" "max" "I" (.int (0 : Int32)) := D251 (Or.inr (hw _ (List.mem_of_getElem? (i := 18) rfl))) (ty := .int) (by decide)
          have F_chunks_b251 : Fld Z h251 b251 "com/example/gatehook/gatehook/http/IncomingBody" "chunks" "Lcom/example/gatehook/gatehook/http/ChunkedBody;" .null := D251 (Or.inl (hw _ (List.mem_of_getElem? (i := 78) rfl))) (ty := (.object "com/example/gatehook/gatehook/http/ChunkedBody")) (by decide)
          have F_ended_b251 : Fld Z h251 b251 "com/example/gatehook/gatehook/http/IncomingBody" "ended" "Z" (.int (0 : Int32)) := D251 (Or.inl (hw _ (List.mem_of_getElem? (i := 91) rfl))) (ty := .boolean) (by decide)
          have F_dataLength_b251 : Fld Z h251 b251 "com/example/gatehook/gatehook/http/IncomingBody" "dataLength" "I" (.int (0 : Int32)) := D251 (Or.inl (hw _ (List.mem_of_getElem? (i := 106) rfl))) (ty := .int) (by decide)
          refine Ends.step st251 ?_
          show Ends p e below QQ (T251.setTop (mkF m 71 #[.val (.long q0), .second, .val (.int p1), .val (.int p2), .val (.int p3), .val (.int (p2 &&& (3 : Int32))), .val (.long (0 : Int64)), .second, .val (.int (p1 &&& (2147483647 : Int32))), .val (.int (0 : Int32)), .unset, .unset, .unset, .unset] [(.ref b251)]))
          refine Ends.step (fun _ k => XS.dup X251.here hx rfl (hb hby at_71) rfl rfl k) ?_
          show Ends p e below QQ (T251.setTop (mkF m 72 #[.val (.long q0), .second, .val (.int p1), .val (.int p2), .val (.int p3), .val (.int (p2 &&& (3 : Int32))), .val (.long (0 : Int64)), .second, .val (.int (p1 &&& (2147483647 : Int32))), .val (.int (0 : Int32)), .unset, .unset, .unset, .unset] [(.ref b251), (.ref b251)]))
          refine Ends.step (fun _ k => XT.lload X251.here hx rfl (hb hby at_72) rfl k) ?_
          show Ends p e below QQ (T251.setTop (mkF m 74 #[.val (.long q0), .second, .val (.int p1), .val (.int p2), .val (.int p3), .val (.int (p2 &&& (3 : Int32))), .val (.long (0 : Int64)), .second, .val (.int (p1 &&& (2147483647 : Int32))), .val (.int (0 : Int32)), .unset, .unset, .unset, .unset] [(.long (0 : Int64)), (.ref b251), (.ref b251)]))
          refine Ends.step (fun _ k => XS.iload X251.here hx rfl (hb hby at_74) rfl k) ?_
          show Ends p e below QQ (T251.setTop (mkF m 76 #[.val (.long q0), .second, .val (.int p1), .val (.int p2), .val (.int p3), .val (.int (p2 &&& (3 : Int32))), .val (.long (0 : Int64)), .second, .val (.int (p1 &&& (2147483647 : Int32))), .val (.int (0 : Int32)), .unset, .unset, .unset, .unset] [(.int (p1 &&& (2147483647 : Int32))), (.long (0 : Int64)), (.ref b251), (.ref b251)]))
          obtain ⟨_, _, ⟨T252, L252, k252, n252⟩, -, X252, ⟨Lc252, hQ252, l252, y252, z252⟩, st252⟩ := X251.specialBack hx (y := (⟨"com/example/gatehook/gatehook/http/IncomingBody", "<init>", "(JI)V"⟩ : MethodName)) rfl hown (mvT hZ (hw _ (List.mem_of_getElem? (i := 5) rfl))) (mvT hZ (hw _ (List.mem_of_getElem? (i := 6) rfl))) (mvT hZ (hw _ (List.mem_of_getElem? (i := 7) rfl))) (by decide) (backOf (W := 1) (rmic l Z a0 hw [] b251 (p1 &&& (2147483647 : Int32)) a_NONE h251 n0 (Nat.le_trans Z0 K251.1) E_b251 F_data_b251 F_length_b251 F_max_b251 F_chunks_b251 F_ended_b251 F_dataLength_b251 g_b251 S_NONE (own_pm0 p1)) hZ (hw _ (List.mem_of_getElem? (i := 7) rfl)) (hw _ (List.mem_of_getElem? (i := 4) rfl)) (by decide) (by decide)) (g := (mkF m 76 #[.val (.long q0), .second, .val (.int p1), .val (.int p2), .val (.int p3), .val (.int (p2 &&& (3 : Int32))), .val (.long (0 : Int64)), .second, .val (.int (p1 &&& (2147483647 : Int32))), .val (.int (0 : Int32)), .unset, .unset, .unset, .unset] [(.int (p1 &&& (2147483647 : Int32))), (.long (0 : Int64)), (.ref b251), (.ref b251)])) rfl (by rw [hml]; rfl) (Steps.refl _) (a := b251) (argsL := [(.long (0 : Int64)), (.int (p1 &&& (2147483647 : Int32)))]) (rest := [(.ref b251)]) (lenOf pd_13 rfl) rfl (by show 2 * 0 + _ ≤ _; exact Nat.le_of_eq rfl) (hb hby at_76) (fun _ _ => ⟨rfl, e251, (by decide : 1 + 0 ≤ _), (by decide : 6 + 0 ≤ _)⟩)
          dsimp only [Pt.U, Pt.locs, Pt.cells, Pt.slots] at X252 l252 y252 z252 st252 hQ252
          subst l252 y252 z252
          obtain ⟨rfl, Nq252, Kq252, fq252_0, fq252_1, fq252_2⟩ := hQ252
          have N252 := Fr.app N0 Nq252
          have S_NONE := own_sta_keep S_NONE Kq252 (allS E_b251.cell all0)
          have S_SIZE_LINE := own_sta_keep S_SIZE_LINE Kq252 (allS E_b251.cell all0)
          have S_ENDED := own_sta_keep S_ENDED Kq252 (allS E_b251.cell all0)
          have S_DATA := own_sta_keep S_DATA Kq252 (allS E_b251.cell all0)
          have S_COMPACT_STRINGS := own_sta_keep S_COMPACT_STRINGS Kq252 (allS E_b251.cell all0)
          have E_a_NONE := E_a_NONE.keep Kq252
          have E_a_SIZE_LINE := E_a_SIZE_LINE.keep Kq252
          have E_a_ENDED := E_a_ENDED.keep Kq252
          have E_a_DATA := E_a_DATA.keep Kq252
          have F_ordinal_a_SIZE_LINE := F_ordinal_a_SIZE_LINE.keep Kq252 (ninS ne_a_SIZE_LINE_b251 nin0)
          have F_ordinal_a_ENDED := F_ordinal_a_ENDED.keep Kq252 (ninS ne_a_ENDED_b251 nin0)
          have F_ordinal_a_DATA := F_ordinal_a_DATA.keep Kq252 (ninS ne_a_DATA_b251 nin0)
          have A_a_NONE := A_a_NONE.keep Kq252 (ninS ne_a_NONE_b251 nin0)
          have E_b251 := fq252_0
          have F_length_b251 := fq252_1
          have F_ended_b251 := fq252_2
          have K252 := K251.trans Kq252 (allS (Or.inr sz_b251) all0)
          refine Ends.step (fun _ k => st252.trans k) ?_
          show Ends p e below QQ (T252.setTop (mkF m 79 #[.val (.long q0), .second, .val (.int p1), .val (.int p2), .val (.int p3), .val (.int (p2 &&& (3 : Int32))), .val (.long (0 : Int64)), .second, .val (.int (p1 &&& (2147483647 : Int32))), .val (.int (0 : Int32)), .unset, .unset, .unset, .unset] [(.ref b251)]))
          refine Ends.step (fun _ k => XS.astore X252.here hx rfl (hb hby at_79) rfl rfl (l' := #[.val (.long q0), .second, .val (.int p1), .val (.int p2), .val (.int p3), .val (.int (p2 &&& (3 : Int32))), .val (.long (0 : Int64)), .second, .val (.int (p1 &&& (2147483647 : Int32))), .val (.int (0 : Int32)), .val (.ref b251), .unset, .unset, .unset]) rfl k) ?_
          show Ends p e below QQ (T252.setTop (mkF m 81 #[.val (.long q0), .second, .val (.int p1), .val (.int p2), .val (.int p3), .val (.int (p2 &&& (3 : Int32))), .val (.long (0 : Int64)), .second, .val (.int (p1 &&& (2147483647 : Int32))), .val (.int (0 : Int32)), .val (.ref b251), .unset, .unset, .unset] []))
          refine Ends.step (fun _ k => XS.aload X252.here hx rfl (hb hby at_81) rfl rfl k) ?_
          show Ends p e below QQ (T252.setTop (mkF m 83 #[.val (.long q0), .second, .val (.int p1), .val (.int p2), .val (.int p3), .val (.int (p2 &&& (3 : Int32))), .val (.long (0 : Int64)), .second, .val (.int (p1 &&& (2147483647 : Int32))), .val (.int (0 : Int32)), .val (.ref b251), .unset, .unset, .unset] [(.ref b251)]))
          obtain ⟨cq253, kq253, q253a, q253b, q253c⟩ := isOf hZ rfl E_b251
          obtain ⟨_, _, ⟨T253, L253, k253, n253⟩, -, X253, ⟨Lc253, hQ253, l253, y253, z253⟩, st253⟩ := X252.virtualBack hx (y := (⟨"com/example/gatehook/gatehook/http/IncomingBody", "lastsUntilClose", "()Z"⟩ : MethodName)) (z := (⟨"com/example/gatehook/gatehook/http/IncomingBody", "lastsUntilClose", "()Z"⟩ : MethodName)) hown (mvT hZ (hw _ (List.mem_of_getElem? (i := 79) rfl))) (mvT hZ (hw _ (List.mem_of_getElem? (i := 80) rfl))) (notFace_of_selects (args := #[]) (mvT hZ (hw _ (List.mem_of_getElem? (i := 82) rfl)))) (mvT hZ (hw _ (List.mem_of_getElem? (i := 82) rfl))) (mvT hZ (hw _ (List.mem_of_getElem? (i := 81) rfl))) (by decide) (backOf (W := 0) (rmluc l Z a0 hw [] b251 (0 : Int64) T252.heap n0 (Nat.le_trans Z0 K252.1) F_length_b251) hZ (hw _ (List.mem_of_getElem? (i := 83) rfl)) (hw _ (List.mem_of_getElem? (i := 4) rfl)) (by decide) (by decide)) q253a q253c (g := (mkF m 83 #[.val (.long q0), .second, .val (.int p1), .val (.int p2), .val (.int p3), .val (.int (p2 &&& (3 : Int32))), .val (.long (0 : Int64)), .second, .val (.int (p1 &&& (2147483647 : Int32))), .val (.int (0 : Int32)), .val (.ref b251), .unset, .unset, .unset] [(.ref b251)])) rfl (by rw [hml]; rfl) (Steps.refl _) (argsL := []) (rest := []) (lenOf pd_6 rfl) rfl (by show 2 * 0 + _ ≤ _; exact Nat.le_of_eq rfl) (hb hby at_83) (fun _ _ => ⟨rfl, rfl, (by decide : 1 + 0 ≤ _), (by decide : 6 + 0 ≤ _)⟩)
          dsimp only [Pt.U, Pt.locs, Pt.cells, Pt.slots] at X253 l253 y253 z253 st253 hQ253
          subst l253 y253 z253
          obtain ⟨rfl, Nq253, hh253⟩ := hQ253
          have N253 := Fr.app N252 Nq253
          refine Ends.step (fun _ k => st253.trans k) ?_
          show Ends p e below QQ (T253.setTop (mkF m 86 #[.val (.long q0), .second, .val (.int p1), .val (.int p2), .val (.int p3), .val (.int (p2 &&& (3 : Int32))), .val (.long (0 : Int64)), .second, .val (.int (p1 &&& (2147483647 : Int32))), .val (.int (0 : Int32)), .val (.ref b251), .unset, .unset, .unset] [(.int (fluc (0 : Int64)))]))
          refine Ends.step (fun _ k => XS.istore X253.here hx rfl (hb hby at_86) rfl (l' := #[.val (.long q0), .second, .val (.int p1), .val (.int p2), .val (.int p3), .val (.int (p2 &&& (3 : Int32))), .val (.long (0 : Int64)), .second, .val (.int (p1 &&& (2147483647 : Int32))), .val (.int (0 : Int32)), .val (.ref b251), .val (.int (fluc (0 : Int64))), .unset, .unset]) rfl k) ?_
          show Ends p e below QQ (T253.setTop (mkF m 88 #[.val (.long q0), .second, .val (.int p1), .val (.int p2), .val (.int p3), .val (.int (p2 &&& (3 : Int32))), .val (.long (0 : Int64)), .second, .val (.int (p1 &&& (2147483647 : Int32))), .val (.int (0 : Int32)), .val (.ref b251), .val (.int (fluc (0 : Int64))), .unset, .unset] []))
          refine Ends.step (fun _ k => XT.iconstV X253.here hx rfl (1 : Int32) (hb hby at_88) rfl k) ?_
          show Ends p e below QQ (T253.setTop (mkF m 89 #[.val (.long q0), .second, .val (.int p1), .val (.int p2), .val (.int p3), .val (.int (p2 &&& (3 : Int32))), .val (.long (0 : Int64)), .second, .val (.int (p1 &&& (2147483647 : Int32))), .val (.int (0 : Int32)), .val (.ref b251), .val (.int (fluc (0 : Int64))), .unset, .unset] [(.int (1 : Int32))]))
          obtain ⟨T254, h254, k254, X254, e254, E254, A254, st254⟩ := newP X253 hx hZ (hw _ (List.mem_of_getElem? (i := 44) rfl)) hh253 (g := (mkF m 89 #[.val (.long q0), .second, .val (.int p1), .val (.int p2), .val (.int p3), .val (.int (p2 &&& (3 : Int32))), .val (.long (0 : Int64)), .second, .val (.int (p1 &&& (2147483647 : Int32))), .val (.int (0 : Int32)), .val (.ref b251), .val (.int (fluc (0 : Int64))), .unset, .unset] [(.int (1 : Int32))])) rfl (hb hby at_89) rfl (by decide) (cap := 1) (by decide) (by decide) (by decide) (by decide)
          obtain ⟨b254, g254⟩ : ∃ z, z = T252.heap.size := ⟨_, rfl⟩
          rw [← g254] at A254 st254
          have ne_a_NONE_b254 : a_NONE ≠ b254 := Nat.ne_of_lt (Nat.lt_of_lt_of_le E_a_NONE.lt (Nat.le_of_eq g254.symm))
          have ne_a_SIZE_LINE_b254 : a_SIZE_LINE ≠ b254 := Nat.ne_of_lt (Nat.lt_of_lt_of_le E_a_SIZE_LINE.lt (Nat.le_of_eq g254.symm))
          have ne_a_ENDED_b254 : a_ENDED ≠ b254 := Nat.ne_of_lt (Nat.lt_of_lt_of_le E_a_ENDED.lt (Nat.le_of_eq g254.symm))
          have ne_a_DATA_b254 : a_DATA ≠ b254 := Nat.ne_of_lt (Nat.lt_of_lt_of_le E_a_DATA.lt (Nat.le_of_eq g254.symm))
          have ne_b251_b254 : b251 ≠ b254 := Nat.ne_of_lt (Nat.lt_of_lt_of_le E_b251.lt (Nat.le_of_eq g254.symm))
          have g_b254 : n0 ≤ b254 := Nat.le_trans Z0 (Nat.le_trans K252.1 (Nat.le_of_eq g254.symm))
          have sz_b254 : h0.size ≤ b254 := Nat.le_trans K252.1 (Nat.le_of_eq g254.symm)
          have E_a_NONE := E_a_NONE.ext E254
          have E_a_SIZE_LINE := E_a_SIZE_LINE.ext E254
          have E_a_ENDED := E_a_ENDED.ext E254
          have E_a_DATA := E_a_DATA.ext E254
          have F_ordinal_a_SIZE_LINE := F_ordinal_a_SIZE_LINE.ext E254
          have F_ordinal_a_ENDED := F_ordinal_a_ENDED.ext E254
          have F_ordinal_a_DATA := F_ordinal_a_DATA.ext E254
          have A_a_NONE := A_a_NONE.ext E254
          have S_NONE := S_NONE.ext E254
          have S_SIZE_LINE := S_SIZE_LINE.ext E254
          have S_ENDED := S_ENDED.ext E254
          have S_DATA := S_DATA.ext E254
          have S_COMPACT_STRINGS := S_COMPACT_STRINGS.ext E254
          have E_b251 := E_b251.ext E254
          have F_length_b251 := F_length_b251.ext E254
          have F_ended_b251 := F_ended_b251.ext E254
          have K254 := K252.ext E254
          have A_b254 : Arv Z h254 b254 k254 .byte (1 : Int32) [(.int (0 : Int32))] (.int (0 : Int32)) := (Arv.new A254 (by decide)).pad (pad_rep [] (.int (0 : Int32)) 1)
          refine Ends.step st254 ?_
          show Ends p e below QQ (T254.setTop (mkF m 91 #[.val (.long q0), .second, .val (.int p1), .val (.int p2), .val (.int p3), .val (.int (p2 &&& (3 : Int32))), .val (.long (0 : Int64)), .second, .val (.int (p1 &&& (2147483647 : Int32))), .val (.int (0 : Int32)), .val (.ref b251), .val (.int (fluc (0 : Int64))), .unset, .unset] [(.ref b254)]))
          refine Ends.step (fun _ k => XS.astore X254.here hx rfl (hb hby at_91) rfl rfl (l' := #[.val (.long q0), .second, .val (.int p1), .val (.int p2), .val (.int p3), .val (.int (p2 &&& (3 : Int32))), .val (.long (0 : Int64)), .second, .val (.int (p1 &&& (2147483647 : Int32))), .val (.int (0 : Int32)), .val (.ref b251), .val (.int (fluc (0 : Int64))), .val (.ref b254), .unset]) rfl k) ?_
          show Ends p e below QQ (T254.setTop (mkF m 93 #[.val (.long q0), .second, .val (.int p1), .val (.int p2), .val (.int p3), .val (.int (p2 &&& (3 : Int32))), .val (.long (0 : Int64)), .second, .val (.int (p1 &&& (2147483647 : Int32))), .val (.int (0 : Int32)), .val (.ref b251), .val (.int (fluc (0 : Int64))), .val (.ref b254), .unset] []))
          refine Ends.step (fun _ k => XS.aload X254.here hx rfl (hb hby at_93) rfl rfl k) ?_
          show Ends p e below QQ (T254.setTop (mkF m 95 #[.val (.long q0), .second, .val (.int p1), .val (.int p2), .val (.int p3), .val (.int (p2 &&& (3 : Int32))), .val (.long (0 : Int64)), .second, .val (.int (p1 &&& (2147483647 : Int32))), .val (.int (0 : Int32)), .val (.ref b251), .val (.int (fluc (0 : Int64))), .val (.ref b254), .unset] [(.ref b254)]))
          refine Ends.step (fun _ k => XT.iconstV X254.here hx rfl (0 : Int32) (hb hby at_95) rfl k) ?_
          show Ends p e below QQ (T254.setTop (mkF m 96 #[.val (.long q0), .second, .val (.int p1), .val (.int p2), .val (.int p3), .val (.int (p2 &&& (3 : Int32))), .val (.long (0 : Int64)), .second, .val (.int (p1 &&& (2147483647 : Int32))), .val (.int (0 : Int32)), .val (.ref b251), .val (.int (fluc (0 : Int64))), .val (.ref b254), .unset] [(.int (0 : Int32)), (.ref b254)]))
          refine Ends.step (fun _ k => XS.iload X254.here hx rfl (hb hby at_96) rfl k) ?_
          show Ends p e below QQ (T254.setTop (mkF m 98 #[.val (.long q0), .second, .val (.int p1), .val (.int p2), .val (.int p3), .val (.int (p2 &&& (3 : Int32))), .val (.long (0 : Int64)), .second, .val (.int (p1 &&& (2147483647 : Int32))), .val (.int (0 : Int32)), .val (.ref b251), .val (.int (fluc (0 : Int64))), .val (.ref b254), .unset] [(.int p3), (.int (0 : Int32)), (.ref b254)]))
          refine Ends.step (fun _ k => XT.bipushV X254.here hx rfl (63 : Int32) (hb hby at_98) rfl k) ?_
          show Ends p e below QQ (T254.setTop (mkF m 100 #[.val (.long q0), .second, .val (.int p1), .val (.int p2), .val (.int p3), .val (.int (p2 &&& (3 : Int32))), .val (.long (0 : Int64)), .second, .val (.int (p1 &&& (2147483647 : Int32))), .val (.int (0 : Int32)), .val (.ref b251), .val (.int (fluc (0 : Int64))), .val (.ref b254), .unset] [(.int (63 : Int32)), (.int p3), (.int (0 : Int32)), (.ref b254)]))
          refine Ends.step (fun _ k => XS.iand X254.here hx rfl (hb hby at_100) rfl k) ?_
          show Ends p e below QQ (T254.setTop (mkF m 101 #[.val (.long q0), .second, .val (.int p1), .val (.int p2), .val (.int p3), .val (.int (p2 &&& (3 : Int32))), .val (.long (0 : Int64)), .second, .val (.int (p1 &&& (2147483647 : Int32))), .val (.int (0 : Int32)), .val (.ref b251), .val (.int (fluc (0 : Int64))), .val (.ref b254), .unset] [(.int (p3 &&& (63 : Int32))), (.int (0 : Int32)), (.ref b254)]))
          refine Ends.step (fun _ k => XT.bipushV X254.here hx rfl (64 : Int32) (hb hby at_101) rfl k) ?_
          show Ends p e below QQ (T254.setTop (mkF m 103 #[.val (.long q0), .second, .val (.int p1), .val (.int p2), .val (.int p3), .val (.int (p2 &&& (3 : Int32))), .val (.long (0 : Int64)), .second, .val (.int (p1 &&& (2147483647 : Int32))), .val (.int (0 : Int32)), .val (.ref b251), .val (.int (fluc (0 : Int64))), .val (.ref b254), .unset] [(.int (64 : Int32)), (.int (p3 &&& (63 : Int32))), (.int (0 : Int32)), (.ref b254)]))
          refine Ends.step (fun _ k => XS.iadd X254.here hx rfl (hb hby at_103) rfl k) ?_
          show Ends p e below QQ (T254.setTop (mkF m 104 #[.val (.long q0), .second, .val (.int p1), .val (.int p2), .val (.int p3), .val (.int (p2 &&& (3 : Int32))), .val (.long (0 : Int64)), .second, .val (.int (p1 &&& (2147483647 : Int32))), .val (.int (0 : Int32)), .val (.ref b251), .val (.int (fluc (0 : Int64))), .val (.ref b254), .unset] [(.int ((p3 &&& (63 : Int32)) + (64 : Int32))), (.int (0 : Int32)), (.ref b254)]))
          refine Ends.step (fun _ k => XT.i2b X254.here hx rfl (hb hby at_104) rfl k) ?_
          show Ends p e below QQ (T254.setTop (mkF m 105 #[.val (.long q0), .second, .val (.int p1), .val (.int p2), .val (.int p3), .val (.int (p2 &&& (3 : Int32))), .val (.long (0 : Int64)), .second, .val (.int (p1 &&& (2147483647 : Int32))), .val (.int (0 : Int32)), .val (.ref b251), .val (.int (fluc (0 : Int64))), .val (.ref b254), .unset] [(.int ((p3 &&& (63 : Int32)) + (64 : Int32)).toInt8.toInt32), (.int (0 : Int32)), (.ref b254)]))
          obtain ⟨cl255, Ar255, q255, S255, P255, H255, G255⟩ := id A_b254
          have hin255 : ¬ ((0 : Int32) < 0 ∨ cl255.slots.size ≤ ((0 : Int32)).toNatClampNeg) := inb_of S255 ⟨by decide, by decide⟩
          obtain ⟨T256, h256, X256, e256, W256, st256⟩ := stB X254 hx hZ e254 Ar255 (j := (0 : Int32)) hin255 (g := (mkF m 105 #[.val (.long q0), .second, .val (.int p1), .val (.int p2), .val (.int p3), .val (.int (p2 &&& (3 : Int32))), .val (.long (0 : Int64)), .second, .val (.int (p1 &&& (2147483647 : Int32))), .val (.int (0 : Int32)), .val (.ref b251), .val (.int (fluc (0 : Int64))), .val (.ref b254), .unset] [(.int ((p3 &&& (63 : Int32)) + (64 : Int32)).toInt8.toInt32), (.int (0 : Int32)), (.ref b254)])) rfl rfl (hb hby at_105)
          rw [own_narb] at W256
          have E_a_NONE := E_a_NONE.wr W256
          have E_a_SIZE_LINE := E_a_SIZE_LINE.wr W256
          have E_a_ENDED := E_a_ENDED.wr W256
          have E_a_DATA := E_a_DATA.wr W256
          have F_ordinal_a_SIZE_LINE := F_ordinal_a_SIZE_LINE.other W256 (Or.inl ne_a_SIZE_LINE_b254)
          have F_ordinal_a_ENDED := F_ordinal_a_ENDED.other W256 (Or.inl ne_a_ENDED_b254)
          have F_ordinal_a_DATA := F_ordinal_a_DATA.other W256 (Or.inl ne_a_DATA_b254)
          have A_a_NONE := A_a_NONE.other W256 ne_a_NONE_b254
          have S_NONE := S_NONE.wr W256
          have S_SIZE_LINE := S_SIZE_LINE.wr W256
          have S_ENDED := S_ENDED.wr W256
          have S_DATA := S_DATA.wr W256
          have S_COMPACT_STRINGS := S_COMPACT_STRINGS.wr W256
          have E_b251 := E_b251.wr W256
          have F_length_b251 := F_length_b251.other W256 (Or.inl ne_b251_b254)
          have F_ended_b251 := F_ended_b251.other W256 (Or.inl ne_b251_b254)
          have A_b254 : Arv Z h256 b254 k254 .byte (1 : Int32) [(.int ((p3 &&& (63 : Int32)) + (64 : Int32)).toInt8.toInt32)] (.int (0 : Int32)) := Arv.set Ar255 q255 S255 P255 H255 G255 (fits_nar_byte _) W256 0 rfl (Nat.le_of_ble_eq_true rfl)
          have K256 := K254.wr W256 (Or.inr sz_b254)
          have N256 := Fr.snoc X256 N253 g_b254
          refine Ends.step st256 ?_
          show Ends p e below QQ (T256.setTop (mkF m 106 #[.val (.long q0), .second, .val (.int p1), .val (.int p2), .val (.int p3), .val (.int (p2 &&& (3 : Int32))), .val (.long (0 : Int64)), .second, .val (.int (p1 &&& (2147483647 : Int32))), .val (.int (0 : Int32)), .val (.ref b251), .val (.int (fluc (0 : Int64))), .val (.ref b254), .unset] []))
          refine Ends.step (fun _ k => XS.aload X256.here hx rfl (hb hby at_106) rfl rfl k) ?_
          show Ends p e below QQ (T256.setTop (mkF m 108 #[.val (.long q0), .second, .val (.int p1), .val (.int p2), .val (.int p3), .val (.int (p2 &&& (3 : Int32))), .val (.long (0 : Int64)), .second, .val (.int (p1 &&& (2147483647 : Int32))), .val (.int (0 : Int32)), .val (.ref b251), .val (.int (fluc (0 : Int64))), .val (.ref b254), .unset] [(.ref b251)]))
          refine Ends.step (fun _ k => XS.aload X256.here hx rfl (hb hby at_108) rfl rfl k) ?_
          show Ends p e below QQ (T256.setTop (mkF m 110 #[.val (.long q0), .second, .val (.int p1), .val (.int p2), .val (.int p3), .val (.int (p2 &&& (3 : Int32))), .val (.long (0 : Int64)), .second, .val (.int (p1 &&& (2147483647 : Int32))), .val (.int (0 : Int32)), .val (.ref b251), .val (.int (fluc (0 : Int64))), .val (.ref b254), .unset] [(.ref b254), (.ref b251)]))
          refine Ends.step (fun _ k => XT.iconstV X256.here hx rfl (0 : Int32) (hb hby at_110) rfl k) ?_
          show Ends p e below QQ (T256.setTop (mkF m 111 #[.val (.long q0), .second, .val (.int p1), .val (.int p2), .val (.int p3), .val (.int (p2 &&& (3 : Int32))), .val (.long (0 : Int64)), .second, .val (.int (p1 &&& (2147483647 : Int32))), .val (.int (0 : Int32)), .val (.ref b251), .val (.int (fluc (0 : Int64))), .val (.ref b254), .unset] [(.int (0 : Int32)), (.ref b254), (.ref b251)]))
          refine Ends.step (fun _ k => XS.iload X256.here hx rfl (hb hby at_111) rfl k) ?_
          show Ends p e below QQ (T256.setTop (mkF m 113 #[.val (.long q0), .second, .val (.int p1), .val (.int p2), .val (.int p3), .val (.int (p2 &&& (3 : Int32))), .val (.long (0 : Int64)), .second, .val (.int (p1 &&& (2147483647 : Int32))), .val (.int (0 : Int32)), .val (.ref b251), .val (.int (fluc (0 : Int64))), .val (.ref b254), .unset] [(.int p3), (.int (0 : Int32)), (.ref b254), (.ref b251)]))
          refine Ends.step (fun _ k => XT.bipushV X256.here hx rfl (8 : Int32) (hb hby at_113) rfl k) ?_
          show Ends p e below QQ (T256.setTop (mkF m 115 #[.val (.long q0), .second, .val (.int p1), .val (.int p2), .val (.int p3), .val (.int (p2 &&& (3 : Int32))), .val (.long (0 : Int64)), .second, .val (.int (p1 &&& (2147483647 : Int32))), .val (.int (0 : Int32)), .val (.ref b251), .val (.int (fluc (0 : Int64))), .val (.ref b254), .unset] [(.int (8 : Int32)), (.int p3), (.int (0 : Int32)), (.ref b254), (.ref b251)]))
          refine Ends.step (fun _ k => XS.iushr X256.here hx rfl (hb hby at_115) rfl k) ?_
          show Ends p e below QQ (T256.setTop (mkF m 116 #[.val (.long q0), .second, .val (.int p1), .val (.int p2), .val (.int p3), .val (.int (p2 &&& (3 : Int32))), .val (.long (0 : Int64)), .second, .val (.int (p1 &&& (2147483647 : Int32))), .val (.int (0 : Int32)), .val (.ref b251), .val (.int (fluc (0 : Int64))), .val (.ref b254), .unset] [(.int ((p3.toUInt32 >>> ((8 : Int32) &&& 31).toUInt32).toInt32)), (.int (0 : Int32)), (.ref b254), (.ref b251)]))
          refine Ends.step (fun _ k => XT.iconstV X256.here hx rfl (1 : Int32) (hb hby at_116) rfl k) ?_
          show Ends p e below QQ (T256.setTop (mkF m 117 #[.val (.long q0), .second, .val (.int p1), .val (.int p2), .val (.int p3), .val (.int (p2 &&& (3 : Int32))), .val (.long (0 : Int64)), .second, .val (.int (p1 &&& (2147483647 : Int32))), .val (.int (0 : Int32)), .val (.ref b251), .val (.int (fluc (0 : Int64))), .val (.ref b254), .unset] [(.int (1 : Int32)), (.int ((p3.toUInt32 >>> ((8 : Int32) &&& 31).toUInt32).toInt32)), (.int (0 : Int32)), (.ref b254), (.ref b251)]))
          refine Ends.step (fun _ k => XS.iand X256.here hx rfl (hb hby at_117) rfl k) ?_
          show Ends p e below QQ (T256.setTop (mkF m 118 #[.val (.long q0), .second, .val (.int p1), .val (.int p2), .val (.int p3), .val (.int (p2 &&& (3 : Int32))), .val (.long (0 : Int64)), .second, .val (.int (p1 &&& (2147483647 : Int32))), .val (.int (0 : Int32)), .val (.ref b251), .val (.int (fluc (0 : Int64))), .val (.ref b254), .unset] [(.int (((p3.toUInt32 >>> ((8 : Int32) &&& 31).toUInt32).toInt32) &&& (1 : Int32))), (.int (0 : Int32)), (.ref b254), (.ref b251)]))
          obtain ⟨cq257, kq257, q257a, q257b, q257c⟩ := isOf hZ e256 E_b251
          obtain ⟨_, _, ⟨T257, L257, k257, n257⟩, -, X257, ⟨Lc257, hQ257, l257, y257, z257⟩, st257⟩ := X256.virtualBack hx (y := (⟨"com/example/gatehook/gatehook/http/IncomingBody", "take", "([BII)I"⟩ : MethodName)) (z := (⟨"com/example/gatehook/gatehook/http/IncomingBody", "take", "([BII)I"⟩ : MethodName)) hown (mvT hZ (hw _ (List.mem_of_getElem? (i := 85) rfl))) (mvT hZ (hw _ (List.mem_of_getElem? (i := 86) rfl))) (notFace_of_selects (args := #[]) (mvT hZ (hw _ (List.mem_of_getElem? (i := 88) rfl)))) (mvT hZ (hw _ (List.mem_of_getElem? (i := 88) rfl))) (mvT hZ (hw _ (List.mem_of_getElem? (i := 87) rfl))) (by decide) (backOf (W := 0) (rmte l Z a0 hw [] b251 b254 (0 : Int32) (((p3.toUInt32 >>> ((8 : Int32) &&& 31).toUInt32).toInt32) &&& (1 : Int32)) h256 n0 (Nat.le_trans Z0 K256.1) F_ended_b251) hZ (hw _ (List.mem_of_getElem? (i := 89) rfl)) (hw _ (List.mem_of_getElem? (i := 4) rfl)) (by decide) (by decide)) q257a q257c (g := (mkF m 118 #[.val (.long q0), .second, .val (.int p1), .val (.int p2), .val (.int p3), .val (.int (p2 &&& (3 : Int32))), .val (.long (0 : Int64)), .second, .val (.int (p1 &&& (2147483647 : Int32))), .val (.int (0 : Int32)), .val (.ref b251), .val (.int (fluc (0 : Int64))), .val (.ref b254), .unset] [(.int (((p3.toUInt32 >>> ((8 : Int32) &&& 31).toUInt32).toInt32) &&& (1 : Int32))), (.int (0 : Int32)), (.ref b254), (.ref b251)])) rfl (by rw [hml]; rfl) (Steps.refl _) (argsL := [(.ref b254), (.int (0 : Int32)), (.int (((p3.toUInt32 >>> ((8 : Int32) &&& 31).toUInt32).toInt32) &&& (1 : Int32)))]) (rest := []) (lenOf pd_11 rfl) rfl (by show 2 * 0 + _ ≤ _; exact Nat.le_of_eq rfl) (hb hby at_118) (fun _ _ => ⟨rfl, e256, (by decide : 2 + 0 ≤ _), (by decide : 7 + 0 ≤ _)⟩)
          dsimp only [Pt.U, Pt.locs, Pt.cells, Pt.slots] at X257 l257 y257 z257 st257 hQ257
          subst l257 y257 z257
          obtain ⟨rfl, Nq257, hh257⟩ := hQ257
          have N257 := Fr.app N256 Nq257
          refine Ends.step (fun _ k => st257.trans k) ?_
          show Ends p e below QQ (T257.setTop (mkF m 121 #[.val (.long q0), .second, .val (.int p1), .val (.int p2), .val (.int p3), .val (.int (p2 &&& (3 : Int32))), .val (.long (0 : Int64)), .second, .val (.int (p1 &&& (2147483647 : Int32))), .val (.int (0 : Int32)), .val (.ref b251), .val (.int (fluc (0 : Int64))), .val (.ref b254), .unset] [(.int (0 : Int32))]))
          refine Ends.step (fun _ k => XT.pop X257.here hx rfl (hb hby at_121) rfl rfl k) ?_
          show Ends p e below QQ (T257.setTop (mkF m 122 #[.val (.long q0), .second, .val (.int p1), .val (.int p2), .val (.int p3), .val (.int (p2 &&& (3 : Int32))), .val (.long (0 : Int64)), .second, .val (.int (p1 &&& (2147483647 : Int32))), .val (.int (0 : Int32)), .val (.ref b251), .val (.int (fluc (0 : Int64))), .val (.ref b254), .unset] []))
          refine Ends.step (fun _ k => XS.aload X257.here hx rfl (hb hby at_122) rfl rfl k) ?_
          show Ends p e below QQ (T257.setTop (mkF m 124 #[.val (.long q0), .second, .val (.int p1), .val (.int p2), .val (.int p3), .val (.int (p2 &&& (3 : Int32))), .val (.long (0 : Int64)), .second, .val (.int (p1 &&& (2147483647 : Int32))), .val (.int (0 : Int32)), .val (.ref b251), .val (.int (fluc (0 : Int64))), .val (.ref b254), .unset] [(.ref b251)]))
          obtain ⟨cq258, kq258, q258a, q258b, q258c⟩ := isOf hZ hh257 E_b251
          obtain ⟨_, _, ⟨T258, L258, k258, n258⟩, -, X258, ⟨Lc258, hQ258, l258, y258, z258⟩, st258⟩ := X257.virtualBack hx (y := (⟨"com/example/gatehook/gatehook/http/IncomingBody", "lastsUntilClose", "()Z"⟩ : MethodName)) (z := (⟨"com/example/gatehook/gatehook/http/IncomingBody", "lastsUntilClose", "()Z"⟩ : MethodName)) hown (mvT hZ (hw _ (List.mem_of_getElem? (i := 79) rfl))) (mvT hZ (hw _ (List.mem_of_getElem? (i := 80) rfl))) (notFace_of_selects (args := #[]) (mvT hZ (hw _ (List.mem_of_getElem? (i := 82) rfl)))) (mvT hZ (hw _ (List.mem_of_getElem? (i := 82) rfl))) (mvT hZ (hw _ (List.mem_of_getElem? (i := 81) rfl))) (by decide) (backOf (W := 0) (rmluc l Z a0 hw [] b251 (0 : Int64) h256 n0 (Nat.le_trans Z0 K256.1) F_length_b251) hZ (hw _ (List.mem_of_getElem? (i := 83) rfl)) (hw _ (List.mem_of_getElem? (i := 4) rfl)) (by decide) (by decide)) q258a q258c (g := (mkF m 124 #[.val (.long q0), .second, .val (.int p1), .val (.int p2), .val (.int p3), .val (.int (p2 &&& (3 : Int32))), .val (.long (0 : Int64)), .second, .val (.int (p1 &&& (2147483647 : Int32))), .val (.int (0 : Int32)), .val (.ref b251), .val (.int (fluc (0 : Int64))), .val (.ref b254), .unset] [(.ref b251)])) rfl (by rw [hml]; rfl) (Steps.refl _) (argsL := []) (rest := []) (lenOf pd_6 rfl) rfl (by show 2 * 0 + _ ≤ _; exact Nat.le_of_eq rfl) (hb hby at_124) (fun _ _ => ⟨rfl, hh257, (by decide : 2 + 0 ≤ _), (by decide : 7 + 0 ≤ _)⟩)
          dsimp only [Pt.U, Pt.locs, Pt.cells, Pt.slots] at X258 l258 y258 z258 st258 hQ258
          subst l258 y258 z258
          obtain ⟨rfl, Nq258, hh258⟩ := hQ258
          have N258 := Fr.app N257 Nq258
          refine Ends.step (fun _ k => st258.trans k) ?_
          show Ends p e below QQ (T258.setTop (mkF m 127 #[.val (.long q0), .second, .val (.int p1), .val (.int p2), .val (.int p3), .val (.int (p2 &&& (3 : Int32))), .val (.long (0 : Int64)), .second, .val (.int (p1 &&& (2147483647 : Int32))), .val (.int (0 : Int32)), .val (.ref b251), .val (.int (fluc (0 : Int64))), .val (.ref b254), .unset] [(.int (fluc (0 : Int64)))]))
          refine Ends.step (fun _ k => XS.istore X258.here hx rfl (hb hby at_127) rfl (l' := #[.val (.long q0), .second, .val (.int p1), .val (.int p2), .val (.int p3), .val (.int (p2 &&& (3 : Int32))), .val (.long (0 : Int64)), .second, .val (.int (p1 &&& (2147483647 : Int32))), .val (.int (0 : Int32)), .val (.ref b251), .val (.int (fluc (0 : Int64))), .val (.ref b254), .val (.int (fluc (0 : Int64)))]) rfl k) ?_
          show Ends p e below QQ (T258.setTop (mkF m 129 #[.val (.long q0), .second, .val (.int p1), .val (.int p2), .val (.int p3), .val (.int (p2 &&& (3 : Int32))), .val (.long (0 : Int64)), .second, .val (.int (p1 &&& (2147483647 : Int32))), .val (.int (0 : Int32)), .val (.ref b251), .val (.int (fluc (0 : Int64))), .val (.ref b254), .val (.int (fluc (0 : Int64)))] []))
          refine Ends.step (fun _ k => XS.iload X258.here hx rfl (hb hby at_129) rfl k) ?_
          show Ends p e below QQ (T258.setTop (mkF m 131 #[.val (.long q0), .second, .val (.int p1), .val (.int p2), .val (.int p3), .val (.int (p2 &&& (3 : Int32))), .val (.long (0 : Int64)), .second, .val (.int (p1 &&& (2147483647 : Int32))), .val (.int (0 : Int32)), .val (.ref b251), .val (.int (fluc (0 : Int64))), .val (.ref b254), .val (.int (fluc (0 : Int64)))] [(.int (fluc (0 : Int64)))]))
          refine Ends.step (fun _ k => XS.iload X258.here hx rfl (hb hby at_131) rfl k) ?_
          show Ends p e below QQ (T258.setTop (mkF m 133 #[.val (.long q0), .second, .val (.int p1), .val (.int p2), .val (.int p3), .val (.int (p2 &&& (3 : Int32))), .val (.long (0 : Int64)), .second, .val (.int (p1 &&& (2147483647 : Int32))), .val (.int (0 : Int32)), .val (.ref b251), .val (.int (fluc (0 : Int64))), .val (.ref b254), .val (.int (fluc (0 : Int64)))] [(.int (0 : Int32)), (.int (fluc (0 : Int64)))]))
          have J148_259 : (∀ (v148_6 : Int32) (hv148_6 : v148_6 = (if (fluc (0 : Int64)) = (0 : Int32) then (1 : Int32) else (0 : Int32))), Ends p e below QQ (T258.setTop (mkF m 148 #[.val (.long q0), .second, .val (.int p1), .val (.int p2), .val (.int p3), .val (.int (p2 &&& (3 : Int32))), .val (.long (0 : Int64)), .second, .val (.int (p1 &&& (2147483647 : Int32))), .val (.int (0 : Int32)), .val (.ref b251), .val (.int (fluc (0 : Int64))), .val (.ref b254), .val (.int (fluc (0 : Int64)))] [(.int v148_6)]))) → Ends p e below QQ (T258.setTop (mkF m 133 #[.val (.long q0), .second, .val (.int p1), .val (.int p2), .val (.int p3), .val (.int (p2 &&& (3 : Int32))), .val (.long (0 : Int64)), .second, .val (.int (p1 &&& (2147483647 : Int32))), .val (.int (0 : Int32)), .val (.ref b251), .val (.int (fluc (0 : Int64))), .val (.ref b254), .val (.int (fluc (0 : Int64)))] [(.int (0 : Int32)), (.int (fluc (0 : Int64)))])) := by
            intro hJ
            by_cases hc133_260 : (fluc (0 : Int64)) = (0 : Int32)
            · refine Ends.step (fun _ k => XS.icmpNo X258.here hx rfl (hb hby at_133) rfl (XT.ii_ne_f hc133_260) k) ?_
              show Ends p e below QQ (T258.setTop (mkF m 136 #[.val (.long q0), .second, .val (.int p1), .val (.int p2), .val (.int p3), .val (.int (p2 &&& (3 : Int32))), .val (.long (0 : Int64)), .second, .val (.int (p1 &&& (2147483647 : Int32))), .val (.int (0 : Int32)), .val (.ref b251), .val (.int (fluc (0 : Int64))), .val (.ref b254), .val (.int (fluc (0 : Int64)))] []))
              refine Ends.step (fun _ k => XS.iload X258.here hx rfl (hb hby at_136) rfl k) ?_
              show Ends p e below QQ (T258.setTop (mkF m 138 #[.val (.long q0), .second, .val (.int p1), .val (.int p2), .val (.int p3), .val (.int (p2 &&& (3 : Int32))), .val (.long (0 : Int64)), .second, .val (.int (p1 &&& (2147483647 : Int32))), .val (.int (0 : Int32)), .val (.ref b251), .val (.int (fluc (0 : Int64))), .val (.ref b254), .val (.int (fluc (0 : Int64)))] [(.int (fluc (0 : Int64)))]))
              refine Ends.step (fun _ k => XS.iload X258.here hx rfl (hb hby at_138) rfl k) ?_
              show Ends p e below QQ (T258.setTop (mkF m 140 #[.val (.long q0), .second, .val (.int p1), .val (.int p2), .val (.int p3), .val (.int (p2 &&& (3 : Int32))), .val (.long (0 : Int64)), .second, .val (.int (p1 &&& (2147483647 : Int32))), .val (.int (0 : Int32)), .val (.ref b251), .val (.int (fluc (0 : Int64))), .val (.ref b254), .val (.int (fluc (0 : Int64)))] [(.int (0 : Int32)), (.int (fluc (0 : Int64)))]))
              refine Ends.step (fun _ k => XS.icmpNo X258.here hx rfl (hb hby at_140) rfl (XT.ii_ne_f hc133_260) k) ?_
              show Ends p e below QQ (T258.setTop (mkF m 143 #[.val (.long q0), .second, .val (.int p1), .val (.int p2), .val (.int p3), .val (.int (p2 &&& (3 : Int32))), .val (.long (0 : Int64)), .second, .val (.int (p1 &&& (2147483647 : Int32))), .val (.int (0 : Int32)), .val (.ref b251), .val (.int (fluc (0 : Int64))), .val (.ref b254), .val (.int (fluc (0 : Int64)))] []))
              refine Ends.step (fun _ k => XT.iconstV X258.here hx rfl (1 : Int32) (hb hby at_143) rfl k) ?_
              show Ends p e below QQ (T258.setTop (mkF m 144 #[.val (.long q0), .second, .val (.int p1), .val (.int p2), .val (.int p3), .val (.int (p2 &&& (3 : Int32))), .val (.long (0 : Int64)), .second, .val (.int (p1 &&& (2147483647 : Int32))), .val (.int (0 : Int32)), .val (.ref b251), .val (.int (fluc (0 : Int64))), .val (.ref b254), .val (.int (fluc (0 : Int64)))] [(.int (1 : Int32))]))
              refine Ends.step (fun _ k => XS.goto X258.here hx rfl (pc0 := 144) (pc' := 148) rfl (hb hby at_144) (by decide) (by decide) k) ?_
              exact hJ _ (by simp only [if_pos hc133_260])
            · refine Ends.step (fun _ k => XS.icmpYes X258.here hx rfl (pc0 := 133) (pc' := 147) rfl (hb hby at_133) rfl (XT.ii_ne_t hc133_260) (by decide) (by decide) k) ?_
              show Ends p e below QQ (T258.setTop (mkF m 147 #[.val (.long q0), .second, .val (.int p1), .val (.int p2), .val (.int p3), .val (.int (p2 &&& (3 : Int32))), .val (.long (0 : Int64)), .second, .val (.int (p1 &&& (2147483647 : Int32))), .val (.int (0 : Int32)), .val (.ref b251), .val (.int (fluc (0 : Int64))), .val (.ref b254), .val (.int (fluc (0 : Int64)))] []))
              refine Ends.step (fun _ k => XT.iconstV X258.here hx rfl (0 : Int32) (hb hby at_147) rfl k) ?_
              exact hJ _ (by simp only [if_neg hc133_260])
          refine J148_259 fun v148_6 hv148_6 => ?_
          have dv148_6 : f0_v148_6 q0 p1 p2 p3 cs = v148_6 := by
            simp only [f0_v148_6]
            exact hv148_6.symm
          show Ends p e below QQ (T258.setTop (mkF m 148 #[.val (.long q0), .second, .val (.int p1), .val (.int p2), .val (.int p3), .val (.int (p2 &&& (3 : Int32))), .val (.long (0 : Int64)), .second, .val (.int (p1 &&& (2147483647 : Int32))), .val (.int (0 : Int32)), .val (.ref b251), .val (.int (fluc (0 : Int64))), .val (.ref b254), .val (.int (fluc (0 : Int64)))] [(.int v148_6)]))
          exact Ends.fin (some (.int v148_6)) X258 hQQ (fun h => by rw [Bd.returns] at h; cases h) Bd.notSynchronized (fun _ hr => retOut X258 hx (t := .boolean) Bd.returns (by rw [hv148_6]; exact own_narB (by repeat' (first | exact Or.inl rfl | exact Or.inr rfl | apply own_01))) (Or.inl ⟨rfl, (by simp), _, rfl⟩) (hb hby at_148) hr) hh258 (by decide) (by decide) ⟨(by simp only [f0, dv148_6, if_neg hc7_205, if_neg hc21_222, if_neg hc49, if_neg hs68_239, if_pos hs68_250]), N258, K256⟩
        · show Ends p e below QQ (s₁.setTop (mkF m 68 #[.val (.long q0), .second, .val (.int p1), .val (.int p2), .val (.int p3), .val (.int (p2 &&& (3 : Int32))), .val (.long (q0 &&& (9223372036854775807 : Int64))), .second, .val (.int (p1 &&& (2147483647 : Int32))), .val (.int (0 : Int32)), .unset, .unset, .unset, .unset] []))
          show Ends p e below QQ (s₁.setTop (mkF m 68 #[.val (.long q0), .second, .val (.int p1), .val (.int p2), .val (.int p3), .val (.int (p2 &&& (3 : Int32))), .val (.long (q0 &&& (9223372036854775807 : Int64))), .second, .val (.int (p1 &&& (2147483647 : Int32))), .val (.int (0 : Int32)), .unset, .unset, .unset, .unset] []))
          obtain ⟨T261, h261, X261, e261, E261, A261, D261, U261, st261⟩ := newO X0 hx hZ hown (hw _ (List.mem_of_getElem? (i := 2) rfl)) (hw _ (List.mem_of_getElem? (i := 3) rfl)) (hw _ (List.mem_of_getElem? (i := 4) rfl)) e0 (g := (mkF m 68 #[.val (.long q0), .second, .val (.int p1), .val (.int p2), .val (.int p3), .val (.int (p2 &&& (3 : Int32))), .val (.long (q0 &&& (9223372036854775807 : Int64))), .second, .val (.int (p1 &&& (2147483647 : Int32))), .val (.int (0 : Int32)), .unset, .unset, .unset, .unset] [])) rfl (hb hby at_68) (by decide) (by decide)
          obtain ⟨b261, g261⟩ : ∃ z, z = h0.size := ⟨_, rfl⟩
          rw [← g261] at A261 D261 U261 st261
          have ne_a_NONE_b261 : a_NONE ≠ b261 := Nat.ne_of_lt (Nat.lt_of_lt_of_le E_a_NONE.lt (Nat.le_of_eq g261.symm))
          have ne_a_SIZE_LINE_b261 : a_SIZE_LINE ≠ b261 := Nat.ne_of_lt (Nat.lt_of_lt_of_le E_a_SIZE_LINE.lt (Nat.le_of_eq g261.symm))
          have ne_a_ENDED_b261 : a_ENDED ≠ b261 := Nat.ne_of_lt (Nat.lt_of_lt_of_le E_a_ENDED.lt (Nat.le_of_eq g261.symm))
          have ne_a_DATA_b261 : a_DATA ≠ b261 := Nat.ne_of_lt (Nat.lt_of_lt_of_le E_a_DATA.lt (Nat.le_of_eq g261.symm))
          have g_b261 : n0 ≤ b261 := Nat.le_trans Z0 (Nat.le_trans (Keep.refl h0 []).1 (Nat.le_of_eq g261.symm))
          have sz_b261 : h0.size ≤ b261 := Nat.le_trans (Keep.refl h0 []).1 (Nat.le_of_eq g261.symm)
          have E_a_NONE := E_a_NONE.ext E261
          have E_a_SIZE_LINE := E_a_SIZE_LINE.ext E261
          have E_a_ENDED := E_a_ENDED.ext E261
          have E_a_DATA := E_a_DATA.ext E261
          have F_ordinal_a_SIZE_LINE := F_ordinal_a_SIZE_LINE.ext E261
          have F_ordinal_a_ENDED := F_ordinal_a_ENDED.ext E261
          have F_ordinal_a_DATA := F_ordinal_a_DATA.ext E261
          have A_a_NONE := A_a_NONE.ext E261
          have S_NONE := S_NONE.ext E261
          have S_SIZE_LINE := S_SIZE_LINE.ext E261
          have S_ENDED := S_ENDED.ext E261
          have S_DATA := S_DATA.ext E261
          have S_COMPACT_STRINGS := S_COMPACT_STRINGS.ext E261
          have K261 := (Keep.refl h0 []).ext E261
          have E_b261 := A261
          have F_data_b261 : Fld Z h261 b261 "com/example/gatehook/gatehook/http/IncomingBody" "data" "[B" .null := D261 (Or.inl (hw _ (List.mem_of_getElem? (i := 14) rfl))) (ty := (.array .byte)) (by decide)
          have F_length_b261 : Fld Z h261 b261 "com/example/gatehook/gatehook/http/IncomingBody" "length" "J" (.long (0 : Int64)) := D261 (Or.inr (hw _ (List.mem_of_getElem? (i := 16) rfl))) (ty := .long) (by decide)
          have F_max_b261 : Fld Z h261 b261 "com/example/gatehook/gatehook/http/IncomingBody" "max" "I" (.int (0 : Int32)) := D261 (Or.inr (hw _ (List.mem_of_getElem? (i := 18) rfl))) (ty := .int) (by decide)
          have F_chunks_b261 : Fld Z h261 b261 "com/example/gatehook/gatehook/http/IncomingBody" "chunks" "Lcom/example/gatehook/gatehook/http/ChunkedBody;" .null := D261 (Or.inl (hw _ (List.mem_of_getElem? (i := 78) rfl))) (ty := (.object "com/example/gatehook/gatehook/http/ChunkedBody")) (by decide)
          have F_ended_b261 : Fld Z h261 b261 "com/example/gatehook/gatehook/http/IncomingBody" "ended" "Z" (.int (0 : Int32)) := D261 (Or.inl (hw _ (List.mem_of_getElem? (i := 91) rfl))) (ty := .boolean) (by decide)
          have F_dataLength_b261 : Fld Z h261 b261 "com/example/gatehook/gatehook/http/IncomingBody" "dataLength" "I" (.int (0 : Int32)) := D261 (Or.inl (hw _ (List.mem_of_getElem? (i := 106) rfl))) (ty := .int) (by decide)
          refine Ends.step st261 ?_
          show Ends p e below QQ (T261.setTop (mkF m 71 #[.val (.long q0), .second, .val (.int p1), .val (.int p2), .val (.int p3), .val (.int (p2 &&& (3 : Int32))), .val (.long (q0 &&& (9223372036854775807 : Int64))), .second, .val (.int (p1 &&& (2147483647 : Int32))), .val (.int (0 : Int32)), .unset, .unset, .unset, .unset] [(.ref b261)]))
          refine Ends.step (fun _ k => XS.dup X261.here hx rfl (hb hby at_71) rfl rfl k) ?_
          show Ends p e below QQ (T261.setTop (mkF m 72 #[.val (.long q0), .second, .val (.int p1), .val (.int p2), .val (.int p3), .val (.int (p2 &&& (3 : Int32))), .val (.long (q0 &&& (9223372036854775807 : Int64))), .second, .val (.int (p1 &&& (2147483647 : Int32))), .val (.int (0 : Int32)), .unset, .unset, .unset, .unset] [(.ref b261), (.ref b261)]))
          refine Ends.step (fun _ k => XT.lload X261.here hx rfl (hb hby at_72) rfl k) ?_
          show Ends p e below QQ (T261.setTop (mkF m 74 #[.val (.long q0), .second, .val (.int p1), .val (.int p2), .val (.int p3), .val (.int (p2 &&& (3 : Int32))), .val (.long (q0 &&& (9223372036854775807 : Int64))), .second, .val (.int (p1 &&& (2147483647 : Int32))), .val (.int (0 : Int32)), .unset, .unset, .unset, .unset] [(.long (q0 &&& (9223372036854775807 : Int64))), (.ref b261), (.ref b261)]))
          refine Ends.step (fun _ k => XS.iload X261.here hx rfl (hb hby at_74) rfl k) ?_
          show Ends p e below QQ (T261.setTop (mkF m 76 #[.val (.long q0), .second, .val (.int p1), .val (.int p2), .val (.int p3), .val (.int (p2 &&& (3 : Int32))), .val (.long (q0 &&& (9223372036854775807 : Int64))), .second, .val (.int (p1 &&& (2147483647 : Int32))), .val (.int (0 : Int32)), .unset, .unset, .unset, .unset] [(.int (p1 &&& (2147483647 : Int32))), (.long (q0 &&& (9223372036854775807 : Int64))), (.ref b261), (.ref b261)]))
          obtain ⟨_, _, ⟨T262, L262, k262, n262⟩, -, X262, ⟨Lc262, hQ262, l262, y262, z262⟩, st262⟩ := X261.specialBack hx (y := (⟨"com/example/gatehook/gatehook/http/IncomingBody", "<init>", "(JI)V"⟩ : MethodName)) rfl hown (mvT hZ (hw _ (List.mem_of_getElem? (i := 5) rfl))) (mvT hZ (hw _ (List.mem_of_getElem? (i := 6) rfl))) (mvT hZ (hw _ (List.mem_of_getElem? (i := 7) rfl))) (by decide) (backOf (W := 1) (rmid l Z a0 hw [] b261 (q0 &&& (9223372036854775807 : Int64)) (p1 &&& (2147483647 : Int32)) a_NONE h261 n0 (Nat.le_trans Z0 K261.1) E_b261 F_data_b261 F_length_b261 F_max_b261 F_chunks_b261 F_ended_b261 F_dataLength_b261 g_b261 S_NONE (own_nn2 q0) hs68_239 hs68_250) hZ (hw _ (List.mem_of_getElem? (i := 7) rfl)) (hw _ (List.mem_of_getElem? (i := 4) rfl)) (by decide) (by decide)) (g := (mkF m 76 #[.val (.long q0), .second, .val (.int p1), .val (.int p2), .val (.int p3), .val (.int (p2 &&& (3 : Int32))), .val (.long (q0 &&& (9223372036854775807 : Int64))), .second, .val (.int (p1 &&& (2147483647 : Int32))), .val (.int (0 : Int32)), .unset, .unset, .unset, .unset] [(.int (p1 &&& (2147483647 : Int32))), (.long (q0 &&& (9223372036854775807 : Int64))), (.ref b261), (.ref b261)])) rfl (by rw [hml]; rfl) (Steps.refl _) (a := b261) (argsL := [(.long (q0 &&& (9223372036854775807 : Int64))), (.int (p1 &&& (2147483647 : Int32)))]) (rest := [(.ref b261)]) (lenOf pd_13 rfl) rfl (by show 2 * 0 + _ ≤ _; exact Nat.le_of_eq rfl) (hb hby at_76) (fun _ _ => ⟨rfl, e261, (by decide : 1 + 0 ≤ _), (by decide : 6 + 0 ≤ _)⟩)
          dsimp only [Pt.U, Pt.locs, Pt.cells, Pt.slots] at X262 l262 y262 z262 st262 hQ262
          subst l262 y262 z262
          obtain ⟨rfl, Nq262, Kq262, fq262_0, fq262_1, fq262_2, fq262_3, fq262_4, fq262_5, fq262_6⟩ := hQ262
          have N262 := Fr.app N0 Nq262
          have S_NONE := own_sta_keep S_NONE Kq262 (allS E_b261.cell all0)
          have S_SIZE_LINE := own_sta_keep S_SIZE_LINE Kq262 (allS E_b261.cell all0)
          have S_ENDED := own_sta_keep S_ENDED Kq262 (allS E_b261.cell all0)
          have S_DATA := own_sta_keep S_DATA Kq262 (allS E_b261.cell all0)
          have S_COMPACT_STRINGS := own_sta_keep S_COMPACT_STRINGS Kq262 (allS E_b261.cell all0)
          have E_a_NONE := E_a_NONE.keep Kq262
          have E_a_SIZE_LINE := E_a_SIZE_LINE.keep Kq262
          have E_a_ENDED := E_a_ENDED.keep Kq262
          have E_a_DATA := E_a_DATA.keep Kq262
          have F_ordinal_a_SIZE_LINE := F_ordinal_a_SIZE_LINE.keep Kq262 (ninS ne_a_SIZE_LINE_b261 nin0)
          have F_ordinal_a_ENDED := F_ordinal_a_ENDED.keep Kq262 (ninS ne_a_ENDED_b261 nin0)
          have F_ordinal_a_DATA := F_ordinal_a_DATA.keep Kq262 (ninS ne_a_DATA_b261 nin0)
          have A_a_NONE := A_a_NONE.keep Kq262 (ninS ne_a_NONE_b261 nin0)
          have E_b261 := fq262_0
          have F_length_b261 := fq262_1
          have F_max_b261 := fq262_2
          have F_ended_b261 := fq262_3
          have F_chunks_b261 := fq262_4
          have F_dataLength_b261 := fq262_5
          have F_data_b261 := fq262_6
          have K262 := K261.trans Kq262 (allS (Or.inr sz_b261) all0)
          refine Ends.step (fun _ k => st262.trans k) ?_
          show Ends p e below QQ (T262.setTop (mkF m 79 #[.val (.long q0), .second, .val (.int p1), .val (.int p2), .val (.int p3), .val (.int (p2 &&& (3 : Int32))), .val (.long (q0 &&& (9223372036854775807 : Int64))), .second, .val (.int (p1 &&& (2147483647 : Int32))), .val (.int (0 : Int32)), .unset, .unset, .unset, .unset] [(.ref b261)]))
          refine Ends.step (fun _ k => XS.astore X262.here hx rfl (hb hby at_79) rfl rfl (l' := #[.val (.long q0), .second, .val (.int p1), .val (.int p2), .val (.int p3), .val (.int (p2 &&& (3 : Int32))), .val (.long (q0 &&& (9223372036854775807 : Int64))), .second, .val (.int (p1 &&& (2147483647 : Int32))), .val (.int (0 : Int32)), .val (.ref b261), .unset, .unset, .unset]) rfl k) ?_
          show Ends p e below QQ (T262.setTop (mkF m 81 #[.val (.long q0), .second, .val (.int p1), .val (.int p2), .val (.int p3), .val (.int (p2 &&& (3 : Int32))), .val (.long (q0 &&& (9223372036854775807 : Int64))), .second, .val (.int (p1 &&& (2147483647 : Int32))), .val (.int (0 : Int32)), .val (.ref b261), .unset, .unset, .unset] []))
          refine Ends.step (fun _ k => XS.aload X262.here hx rfl (hb hby at_81) rfl rfl k) ?_
          show Ends p e below QQ (T262.setTop (mkF m 83 #[.val (.long q0), .second, .val (.int p1), .val (.int p2), .val (.int p3), .val (.int (p2 &&& (3 : Int32))), .val (.long (q0 &&& (9223372036854775807 : Int64))), .second, .val (.int (p1 &&& (2147483647 : Int32))), .val (.int (0 : Int32)), .val (.ref b261), .unset, .unset, .unset] [(.ref b261)]))
          obtain ⟨cq263, kq263, q263a, q263b, q263c⟩ := isOf hZ rfl E_b261
          obtain ⟨_, _, ⟨T263, L263, k263, n263⟩, -, X263, ⟨Lc263, hQ263, l263, y263, z263⟩, st263⟩ := X262.virtualBack hx (y := (⟨"com/example/gatehook/gatehook/http/IncomingBody", "lastsUntilClose", "()Z"⟩ : MethodName)) (z := (⟨"com/example/gatehook/gatehook/http/IncomingBody", "lastsUntilClose", "()Z"⟩ : MethodName)) hown (mvT hZ (hw _ (List.mem_of_getElem? (i := 79) rfl))) (mvT hZ (hw _ (List.mem_of_getElem? (i := 80) rfl))) (notFace_of_selects (args := #[]) (mvT hZ (hw _ (List.mem_of_getElem? (i := 82) rfl)))) (mvT hZ (hw _ (List.mem_of_getElem? (i := 82) rfl))) (mvT hZ (hw _ (List.mem_of_getElem? (i := 81) rfl))) (by decide) (backOf (W := 0) (rmluc l Z a0 hw [] b261 (q0 &&& (9223372036854775807 : Int64)) T262.heap n0 (Nat.le_trans Z0 K262.1) F_length_b261) hZ (hw _ (List.mem_of_getElem? (i := 83) rfl)) (hw _ (List.mem_of_getElem? (i := 4) rfl)) (by decide) (by decide)) q263a q263c (g := (mkF m 83 #[.val (.long q0), .second, .val (.int p1), .val (.int p2), .val (.int p3), .val (.int (p2 &&& (3 : Int32))), .val (.long (q0 &&& (9223372036854775807 : Int64))), .second, .val (.int (p1 &&& (2147483647 : Int32))), .val (.int (0 : Int32)), .val (.ref b261), .unset, .unset, .unset] [(.ref b261)])) rfl (by rw [hml]; rfl) (Steps.refl _) (argsL := []) (rest := []) (lenOf pd_6 rfl) rfl (by show 2 * 0 + _ ≤ _; exact Nat.le_of_eq rfl) (hb hby at_83) (fun _ _ => ⟨rfl, rfl, (by decide : 1 + 0 ≤ _), (by decide : 6 + 0 ≤ _)⟩)
          dsimp only [Pt.U, Pt.locs, Pt.cells, Pt.slots] at X263 l263 y263 z263 st263 hQ263
          subst l263 y263 z263
          obtain ⟨rfl, Nq263, hh263⟩ := hQ263
          have N263 := Fr.app N262 Nq263
          refine Ends.step (fun _ k => st263.trans k) ?_
          show Ends p e below QQ (T263.setTop (mkF m 86 #[.val (.long q0), .second, .val (.int p1), .val (.int p2), .val (.int p3), .val (.int (p2 &&& (3 : Int32))), .val (.long (q0 &&& (9223372036854775807 : Int64))), .second, .val (.int (p1 &&& (2147483647 : Int32))), .val (.int (0 : Int32)), .val (.ref b261), .unset, .unset, .unset] [(.int (fluc (q0 &&& (9223372036854775807 : Int64))))]))
          refine Ends.step (fun _ k => XS.istore X263.here hx rfl (hb hby at_86) rfl (l' := #[.val (.long q0), .second, .val (.int p1), .val (.int p2), .val (.int p3), .val (.int (p2 &&& (3 : Int32))), .val (.long (q0 &&& (9223372036854775807 : Int64))), .second, .val (.int (p1 &&& (2147483647 : Int32))), .val (.int (0 : Int32)), .val (.ref b261), .val (.int (fluc (q0 &&& (9223372036854775807 : Int64)))), .unset, .unset]) rfl k) ?_
          show Ends p e below QQ (T263.setTop (mkF m 88 #[.val (.long q0), .second, .val (.int p1), .val (.int p2), .val (.int p3), .val (.int (p2 &&& (3 : Int32))), .val (.long (q0 &&& (9223372036854775807 : Int64))), .second, .val (.int (p1 &&& (2147483647 : Int32))), .val (.int (0 : Int32)), .val (.ref b261), .val (.int (fluc (q0 &&& (9223372036854775807 : Int64)))), .unset, .unset] []))
          refine Ends.step (fun _ k => XT.iconstV X263.here hx rfl (1 : Int32) (hb hby at_88) rfl k) ?_
          show Ends p e below QQ (T263.setTop (mkF m 89 #[.val (.long q0), .second, .val (.int p1), .val (.int p2), .val (.int p3), .val (.int (p2 &&& (3 : Int32))), .val (.long (q0 &&& (9223372036854775807 : Int64))), .second, .val (.int (p1 &&& (2147483647 : Int32))), .val (.int (0 : Int32)), .val (.ref b261), .val (.int (fluc (q0 &&& (9223372036854775807 : Int64)))), .unset, .unset] [(.int (1 : Int32))]))
          obtain ⟨T264, h264, k264, X264, e264, E264, A264, st264⟩ := newP X263 hx hZ (hw _ (List.mem_of_getElem? (i := 44) rfl)) hh263 (g := (mkF m 89 #[.val (.long q0), .second, .val (.int p1), .val (.int p2), .val (.int p3), .val (.int (p2 &&& (3 : Int32))), .val (.long (q0 &&& (9223372036854775807 : Int64))), .second, .val (.int (p1 &&& (2147483647 : Int32))), .val (.int (0 : Int32)), .val (.ref b261), .val (.int (fluc (q0 &&& (9223372036854775807 : Int64)))), .unset, .unset] [(.int (1 : Int32))])) rfl (hb hby at_89) rfl (by decide) (cap := 1) (by decide) (by decide) (by decide) (by decide)
          obtain ⟨b264, g264⟩ : ∃ z, z = T262.heap.size := ⟨_, rfl⟩
          rw [← g264] at A264 st264
          have ne_a_NONE_b264 : a_NONE ≠ b264 := Nat.ne_of_lt (Nat.lt_of_lt_of_le E_a_NONE.lt (Nat.le_of_eq g264.symm))
          have ne_a_SIZE_LINE_b264 : a_SIZE_LINE ≠ b264 := Nat.ne_of_lt (Nat.lt_of_lt_of_le E_a_SIZE_LINE.lt (Nat.le_of_eq g264.symm))
          have ne_a_ENDED_b264 : a_ENDED ≠ b264 := Nat.ne_of_lt (Nat.lt_of_lt_of_le E_a_ENDED.lt (Nat.le_of_eq g264.symm))
          have ne_a_DATA_b264 : a_DATA ≠ b264 := Nat.ne_of_lt (Nat.lt_of_lt_of_le E_a_DATA.lt (Nat.le_of_eq g264.symm))
          have ne_b261_b264 : b261 ≠ b264 := Nat.ne_of_lt (Nat.lt_of_lt_of_le E_b261.lt (Nat.le_of_eq g264.symm))
          have g_b264 : n0 ≤ b264 := Nat.le_trans Z0 (Nat.le_trans K262.1 (Nat.le_of_eq g264.symm))
          have sz_b264 : h0.size ≤ b264 := Nat.le_trans K262.1 (Nat.le_of_eq g264.symm)
          have E_a_NONE := E_a_NONE.ext E264
          have E_a_SIZE_LINE := E_a_SIZE_LINE.ext E264
          have E_a_ENDED := E_a_ENDED.ext E264
          have E_a_DATA := E_a_DATA.ext E264
          have F_ordinal_a_SIZE_LINE := F_ordinal_a_SIZE_LINE.ext E264
          have F_ordinal_a_ENDED := F_ordinal_a_ENDED.ext E264
          have F_ordinal_a_DATA := F_ordinal_a_DATA.ext E264
          have A_a_NONE := A_a_NONE.ext E264
          have S_NONE := S_NONE.ext E264
          have S_SIZE_LINE := S_SIZE_LINE.ext E264
          have S_ENDED := S_ENDED.ext E264
          have S_DATA := S_DATA.ext E264
          have S_COMPACT_STRINGS := S_COMPACT_STRINGS.ext E264
          have E_b261 := E_b261.ext E264
          have F_data_b261 := F_data_b261.ext E264
          have F_length_b261 := F_length_b261.ext E264
          have F_max_b261 := F_max_b261.ext E264
          have F_chunks_b261 := F_chunks_b261.ext E264
          have F_ended_b261 := F_ended_b261.ext E264
          have F_dataLength_b261 := F_dataLength_b261.ext E264
          have K264 := K262.ext E264
          have A_b264 : Arv Z h264 b264 k264 .byte (1 : Int32) [(.int (0 : Int32))] (.int (0 : Int32)) := (Arv.new A264 (by decide)).pad (pad_rep [] (.int (0 : Int32)) 1)
          refine Ends.step st264 ?_
          show Ends p e below QQ (T264.setTop (mkF m 91 #[.val (.long q0), .second, .val (.int p1), .val (.int p2), .val (.int p3), .val (.int (p2 &&& (3 : Int32))), .val (.long (q0 &&& (9223372036854775807 : Int64))), .second, .val (.int (p1 &&& (2147483647 : Int32))), .val (.int (0 : Int32)), .val (.ref b261), .val (.int (fluc (q0 &&& (9223372036854775807 : Int64)))), .unset, .unset] [(.ref b264)]))
          refine Ends.step (fun _ k => XS.astore X264.here hx rfl (hb hby at_91) rfl rfl (l' := #[.val (.long q0), .second, .val (.int p1), .val (.int p2), .val (.int p3), .val (.int (p2 &&& (3 : Int32))), .val (.long (q0 &&& (9223372036854775807 : Int64))), .second, .val (.int (p1 &&& (2147483647 : Int32))), .val (.int (0 : Int32)), .val (.ref b261), .val (.int (fluc (q0 &&& (9223372036854775807 : Int64)))), .val (.ref b264), .unset]) rfl k) ?_
          show Ends p e below QQ (T264.setTop (mkF m 93 #[.val (.long q0), .second, .val (.int p1), .val (.int p2), .val (.int p3), .val (.int (p2 &&& (3 : Int32))), .val (.long (q0 &&& (9223372036854775807 : Int64))), .second, .val (.int (p1 &&& (2147483647 : Int32))), .val (.int (0 : Int32)), .val (.ref b261), .val (.int (fluc (q0 &&& (9223372036854775807 : Int64)))), .val (.ref b264), .unset] []))
          refine Ends.step (fun _ k => XS.aload X264.here hx rfl (hb hby at_93) rfl rfl k) ?_
          show Ends p e below QQ (T264.setTop (mkF m 95 #[.val (.long q0), .second, .val (.int p1), .val (.int p2), .val (.int p3), .val (.int (p2 &&& (3 : Int32))), .val (.long (q0 &&& (9223372036854775807 : Int64))), .second, .val (.int (p1 &&& (2147483647 : Int32))), .val (.int (0 : Int32)), .val (.ref b261), .val (.int (fluc (q0 &&& (9223372036854775807 : Int64)))), .val (.ref b264), .unset] [(.ref b264)]))
          refine Ends.step (fun _ k => XT.iconstV X264.here hx rfl (0 : Int32) (hb hby at_95) rfl k) ?_
          show Ends p e below QQ (T264.setTop (mkF m 96 #[.val (.long q0), .second, .val (.int p1), .val (.int p2), .val (.int p3), .val (.int (p2 &&& (3 : Int32))), .val (.long (q0 &&& (9223372036854775807 : Int64))), .second, .val (.int (p1 &&& (2147483647 : Int32))), .val (.int (0 : Int32)), .val (.ref b261), .val (.int (fluc (q0 &&& (9223372036854775807 : Int64)))), .val (.ref b264), .unset] [(.int (0 : Int32)), (.ref b264)]))
          refine Ends.step (fun _ k => XS.iload X264.here hx rfl (hb hby at_96) rfl k) ?_
          show Ends p e below QQ (T264.setTop (mkF m 98 #[.val (.long q0), .second, .val (.int p1), .val (.int p2), .val (.int p3), .val (.int (p2 &&& (3 : Int32))), .val (.long (q0 &&& (9223372036854775807 : Int64))), .second, .val (.int (p1 &&& (2147483647 : Int32))), .val (.int (0 : Int32)), .val (.ref b261), .val (.int (fluc (q0 &&& (9223372036854775807 : Int64)))), .val (.ref b264), .unset] [(.int p3), (.int (0 : Int32)), (.ref b264)]))
          refine Ends.step (fun _ k => XT.bipushV X264.here hx rfl (63 : Int32) (hb hby at_98) rfl k) ?_
          show Ends p e below QQ (T264.setTop (mkF m 100 #[.val (.long q0), .second, .val (.int p1), .val (.int p2), .val (.int p3), .val (.int (p2 &&& (3 : Int32))), .val (.long (q0 &&& (9223372036854775807 : Int64))), .second, .val (.int (p1 &&& (2147483647 : Int32))), .val (.int (0 : Int32)), .val (.ref b261), .val (.int (fluc (q0 &&& (9223372036854775807 : Int64)))), .val (.ref b264), .unset] [(.int (63 : Int32)), (.int p3), (.int (0 : Int32)), (.ref b264)]))
          refine Ends.step (fun _ k => XS.iand X264.here hx rfl (hb hby at_100) rfl k) ?_
          show Ends p e below QQ (T264.setTop (mkF m 101 #[.val (.long q0), .second, .val (.int p1), .val (.int p2), .val (.int p3), .val (.int (p2 &&& (3 : Int32))), .val (.long (q0 &&& (9223372036854775807 : Int64))), .second, .val (.int (p1 &&& (2147483647 : Int32))), .val (.int (0 : Int32)), .val (.ref b261), .val (.int (fluc (q0 &&& (9223372036854775807 : Int64)))), .val (.ref b264), .unset] [(.int (p3 &&& (63 : Int32))), (.int (0 : Int32)), (.ref b264)]))
          refine Ends.step (fun _ k => XT.bipushV X264.here hx rfl (64 : Int32) (hb hby at_101) rfl k) ?_
          show Ends p e below QQ (T264.setTop (mkF m 103 #[.val (.long q0), .second, .val (.int p1), .val (.int p2), .val (.int p3), .val (.int (p2 &&& (3 : Int32))), .val (.long (q0 &&& (9223372036854775807 : Int64))), .second, .val (.int (p1 &&& (2147483647 : Int32))), .val (.int (0 : Int32)), .val (.ref b261), .val (.int (fluc (q0 &&& (9223372036854775807 : Int64)))), .val (.ref b264), .unset] [(.int (64 : Int32)), (.int (p3 &&& (63 : Int32))), (.int (0 : Int32)), (.ref b264)]))
          refine Ends.step (fun _ k => XS.iadd X264.here hx rfl (hb hby at_103) rfl k) ?_
          show Ends p e below QQ (T264.setTop (mkF m 104 #[.val (.long q0), .second, .val (.int p1), .val (.int p2), .val (.int p3), .val (.int (p2 &&& (3 : Int32))), .val (.long (q0 &&& (9223372036854775807 : Int64))), .second, .val (.int (p1 &&& (2147483647 : Int32))), .val (.int (0 : Int32)), .val (.ref b261), .val (.int (fluc (q0 &&& (9223372036854775807 : Int64)))), .val (.ref b264), .unset] [(.int ((p3 &&& (63 : Int32)) + (64 : Int32))), (.int (0 : Int32)), (.ref b264)]))
          refine Ends.step (fun _ k => XT.i2b X264.here hx rfl (hb hby at_104) rfl k) ?_
          show Ends p e below QQ (T264.setTop (mkF m 105 #[.val (.long q0), .second, .val (.int p1), .val (.int p2), .val (.int p3), .val (.int (p2 &&& (3 : Int32))), .val (.long (q0 &&& (9223372036854775807 : Int64))), .second, .val (.int (p1 &&& (2147483647 : Int32))), .val (.int (0 : Int32)), .val (.ref b261), .val (.int (fluc (q0 &&& (9223372036854775807 : Int64)))), .val (.ref b264), .unset] [(.int ((p3 &&& (63 : Int32)) + (64 : Int32)).toInt8.toInt32), (.int (0 : Int32)), (.ref b264)]))
          obtain ⟨cl265, Ar265, q265, S265, P265, H265, G265⟩ := id A_b264
          have hin265 : ¬ ((0 : Int32) < 0 ∨ cl265.slots.size ≤ ((0 : Int32)).toNatClampNeg) := inb_of S265 ⟨by decide, by decide⟩
          obtain ⟨T266, h266, X266, e266, W266, st266⟩ := stB X264 hx hZ e264 Ar265 (j := (0 : Int32)) hin265 (g := (mkF m 105 #[.val (.long q0), .second, .val (.int p1), .val (.int p2), .val (.int p3), .val (.int (p2 &&& (3 : Int32))), .val (.long (q0 &&& (9223372036854775807 : Int64))), .second, .val (.int (p1 &&& (2147483647 : Int32))), .val (.int (0 : Int32)), .val (.ref b261), .val (.int (fluc (q0 &&& (9223372036854775807 : Int64)))), .val (.ref b264), .unset] [(.int ((p3 &&& (63 : Int32)) + (64 : Int32)).toInt8.toInt32), (.int (0 : Int32)), (.ref b264)])) rfl rfl (hb hby at_105)
          rw [own_narb] at W266
          have E_a_NONE := E_a_NONE.wr W266
          have E_a_SIZE_LINE := E_a_SIZE_LINE.wr W266
          have E_a_ENDED := E_a_ENDED.wr W266
          have E_a_DATA := E_a_DATA.wr W266
          have F_ordinal_a_SIZE_LINE := F_ordinal_a_SIZE_LINE.other W266 (Or.inl ne_a_SIZE_LINE_b264)
          have F_ordinal_a_ENDED := F_ordinal_a_ENDED.other W266 (Or.inl ne_a_ENDED_b264)
          have F_ordinal_a_DATA := F_ordinal_a_DATA.other W266 (Or.inl ne_a_DATA_b264)
          have A_a_NONE := A_a_NONE.other W266 ne_a_NONE_b264
          have S_NONE := S_NONE.wr W266
          have S_SIZE_LINE := S_SIZE_LINE.wr W266
          have S_ENDED := S_ENDED.wr W266
          have S_DATA := S_DATA.wr W266
          have S_COMPACT_STRINGS := S_COMPACT_STRINGS.wr W266
          have E_b261 := E_b261.wr W266
          have F_data_b261 := F_data_b261.other W266 (Or.inl ne_b261_b264)
          have F_length_b261 := F_length_b261.other W266 (Or.inl ne_b261_b264)
          have F_max_b261 := F_max_b261.other W266 (Or.inl ne_b261_b264)
          have F_chunks_b261 := F_chunks_b261.other W266 (Or.inl ne_b261_b264)
          have F_ended_b261 := F_ended_b261.other W266 (Or.inl ne_b261_b264)
          have F_dataLength_b261 := F_dataLength_b261.other W266 (Or.inl ne_b261_b264)
          have A_b264 : Arv Z h266 b264 k264 .byte (1 : Int32) [(.int ((p3 &&& (63 : Int32)) + (64 : Int32)).toInt8.toInt32)] (.int (0 : Int32)) := Arv.set Ar265 q265 S265 P265 H265 G265 (fits_nar_byte _) W266 0 rfl (Nat.le_of_ble_eq_true rfl)
          have K266 := K264.wr W266 (Or.inr sz_b264)
          have N266 := Fr.snoc X266 N263 g_b264
          refine Ends.step st266 ?_
          show Ends p e below QQ (T266.setTop (mkF m 106 #[.val (.long q0), .second, .val (.int p1), .val (.int p2), .val (.int p3), .val (.int (p2 &&& (3 : Int32))), .val (.long (q0 &&& (9223372036854775807 : Int64))), .second, .val (.int (p1 &&& (2147483647 : Int32))), .val (.int (0 : Int32)), .val (.ref b261), .val (.int (fluc (q0 &&& (9223372036854775807 : Int64)))), .val (.ref b264), .unset] []))
          refine Ends.step (fun _ k => XS.aload X266.here hx rfl (hb hby at_106) rfl rfl k) ?_
          show Ends p e below QQ (T266.setTop (mkF m 108 #[.val (.long q0), .second, .val (.int p1), .val (.int p2), .val (.int p3), .val (.int (p2 &&& (3 : Int32))), .val (.long (q0 &&& (9223372036854775807 : Int64))), .second, .val (.int (p1 &&& (2147483647 : Int32))), .val (.int (0 : Int32)), .val (.ref b261), .val (.int (fluc (q0 &&& (9223372036854775807 : Int64)))), .val (.ref b264), .unset] [(.ref b261)]))
          refine Ends.step (fun _ k => XS.aload X266.here hx rfl (hb hby at_108) rfl rfl k) ?_
          show Ends p e below QQ (T266.setTop (mkF m 110 #[.val (.long q0), .second, .val (.int p1), .val (.int p2), .val (.int p3), .val (.int (p2 &&& (3 : Int32))), .val (.long (q0 &&& (9223372036854775807 : Int64))), .second, .val (.int (p1 &&& (2147483647 : Int32))), .val (.int (0 : Int32)), .val (.ref b261), .val (.int (fluc (q0 &&& (9223372036854775807 : Int64)))), .val (.ref b264), .unset] [(.ref b264), (.ref b261)]))
          refine Ends.step (fun _ k => XT.iconstV X266.here hx rfl (0 : Int32) (hb hby at_110) rfl k) ?_
          show Ends p e below QQ (T266.setTop (mkF m 111 #[.val (.long q0), .second, .val (.int p1), .val (.int p2), .val (.int p3), .val (.int (p2 &&& (3 : Int32))), .val (.long (q0 &&& (9223372036854775807 : Int64))), .second, .val (.int (p1 &&& (2147483647 : Int32))), .val (.int (0 : Int32)), .val (.ref b261), .val (.int (fluc (q0 &&& (9223372036854775807 : Int64)))), .val (.ref b264), .unset] [(.int (0 : Int32)), (.ref b264), (.ref b261)]))
          refine Ends.step (fun _ k => XS.iload X266.here hx rfl (hb hby at_111) rfl k) ?_
          show Ends p e below QQ (T266.setTop (mkF m 113 #[.val (.long q0), .second, .val (.int p1), .val (.int p2), .val (.int p3), .val (.int (p2 &&& (3 : Int32))), .val (.long (q0 &&& (9223372036854775807 : Int64))), .second, .val (.int (p1 &&& (2147483647 : Int32))), .val (.int (0 : Int32)), .val (.ref b261), .val (.int (fluc (q0 &&& (9223372036854775807 : Int64)))), .val (.ref b264), .unset] [(.int p3), (.int (0 : Int32)), (.ref b264), (.ref b261)]))
          refine Ends.step (fun _ k => XT.bipushV X266.here hx rfl (8 : Int32) (hb hby at_113) rfl k) ?_
          show Ends p e below QQ (T266.setTop (mkF m 115 #[.val (.long q0), .second, .val (.int p1), .val (.int p2), .val (.int p3), .val (.int (p2 &&& (3 : Int32))), .val (.long (q0 &&& (9223372036854775807 : Int64))), .second, .val (.int (p1 &&& (2147483647 : Int32))), .val (.int (0 : Int32)), .val (.ref b261), .val (.int (fluc (q0 &&& (9223372036854775807 : Int64)))), .val (.ref b264), .unset] [(.int (8 : Int32)), (.int p3), (.int (0 : Int32)), (.ref b264), (.ref b261)]))
          refine Ends.step (fun _ k => XS.iushr X266.here hx rfl (hb hby at_115) rfl k) ?_
          show Ends p e below QQ (T266.setTop (mkF m 116 #[.val (.long q0), .second, .val (.int p1), .val (.int p2), .val (.int p3), .val (.int (p2 &&& (3 : Int32))), .val (.long (q0 &&& (9223372036854775807 : Int64))), .second, .val (.int (p1 &&& (2147483647 : Int32))), .val (.int (0 : Int32)), .val (.ref b261), .val (.int (fluc (q0 &&& (9223372036854775807 : Int64)))), .val (.ref b264), .unset] [(.int ((p3.toUInt32 >>> ((8 : Int32) &&& 31).toUInt32).toInt32)), (.int (0 : Int32)), (.ref b264), (.ref b261)]))
          refine Ends.step (fun _ k => XT.iconstV X266.here hx rfl (1 : Int32) (hb hby at_116) rfl k) ?_
          show Ends p e below QQ (T266.setTop (mkF m 117 #[.val (.long q0), .second, .val (.int p1), .val (.int p2), .val (.int p3), .val (.int (p2 &&& (3 : Int32))), .val (.long (q0 &&& (9223372036854775807 : Int64))), .second, .val (.int (p1 &&& (2147483647 : Int32))), .val (.int (0 : Int32)), .val (.ref b261), .val (.int (fluc (q0 &&& (9223372036854775807 : Int64)))), .val (.ref b264), .unset] [(.int (1 : Int32)), (.int ((p3.toUInt32 >>> ((8 : Int32) &&& 31).toUInt32).toInt32)), (.int (0 : Int32)), (.ref b264), (.ref b261)]))
          refine Ends.step (fun _ k => XS.iand X266.here hx rfl (hb hby at_117) rfl k) ?_
          by_cases hs118_267 : (((p3.toUInt32 >>> ((8 : Int32) &&& 31).toUInt32).toInt32) &&& (1 : Int32)) = (0 : Int32)
          · show Ends p e below QQ (T266.setTop (mkF m 118 #[.val (.long q0), .second, .val (.int p1), .val (.int p2), .val (.int p3), .val (.int (p2 &&& (3 : Int32))), .val (.long (q0 &&& (9223372036854775807 : Int64))), .second, .val (.int (p1 &&& (2147483647 : Int32))), .val (.int (0 : Int32)), .val (.ref b261), .val (.int (fluc (q0 &&& (9223372036854775807 : Int64)))), .val (.ref b264), .unset] [(.int (((p3.toUInt32 >>> ((8 : Int32) &&& 31).toUInt32).toInt32) &&& (1 : Int32))), (.int (0 : Int32)), (.ref b264), (.ref b261)]))
            rw [hs118_267]
            show Ends p e below QQ (T266.setTop (mkF m 118 #[.val (.long q0), .second, .val (.int p1), .val (.int p2), .val (.int p3), .val (.int (p2 &&& (3 : Int32))), .val (.long (q0 &&& (9223372036854775807 : Int64))), .second, .val (.int (p1 &&& (2147483647 : Int32))), .val (.int (0 : Int32)), .val (.ref b261), .val (.int (fluc (q0 &&& (9223372036854775807 : Int64)))), .val (.ref b264), .unset] [(.int (0 : Int32)), (.int (0 : Int32)), (.ref b264), (.ref b261)]))
            obtain ⟨cq268, kq268, q268a, q268b, q268c⟩ := isOf hZ e266 E_b261
            obtain ⟨_, _, ⟨T268, L268, k268, n268⟩, -, X268, ⟨Lc268, hQ268, l268, y268, z268⟩, st268⟩ := X266.virtualBack hx (y := (⟨"com/example/gatehook/gatehook/http/IncomingBody", "take", "([BII)I"⟩ : MethodName)) (z := (⟨"com/example/gatehook/gatehook/http/IncomingBody", "take", "([BII)I"⟩ : MethodName)) hown (mvT hZ (hw _ (List.mem_of_getElem? (i := 85) rfl))) (mvT hZ (hw _ (List.mem_of_getElem? (i := 86) rfl))) (notFace_of_selects (args := #[]) (mvT hZ (hw _ (List.mem_of_getElem? (i := 88) rfl)))) (mvT hZ (hw _ (List.mem_of_getElem? (i := 88) rfl))) (mvT hZ (hw _ (List.mem_of_getElem? (i := 87) rfl))) (by decide) (backOf (W := 0) (rmtp0 l Z a0 hw [] b261 b264 (q0 &&& (9223372036854775807 : Int64)) (p1 &&& (2147483647 : Int32)) a_NONE k_a_NONE k264 (((p3 &&& (63 : Int32)) + (64 : Int32)).toInt8.toInt32) h266 n0 (Nat.le_trans Z0 K266.1) E_b261 F_ended_b261 F_chunks_b261 F_length_b261 F_max_b261 F_data_b261 F_dataLength_b261 A_a_NONE g_b261 ne_a_NONE_b261 A_b264 (Ne.symm ne_b261_b264) (Or.inr (own_lz hs68_250)) (own_pm p1)) hZ (hw _ (List.mem_of_getElem? (i := 89) rfl)) (hw _ (List.mem_of_getElem? (i := 4) rfl)) (by decide) (by decide)) q268a q268c (g := (mkF m 118 #[.val (.long q0), .second, .val (.int p1), .val (.int p2), .val (.int p3), .val (.int (p2 &&& (3 : Int32))), .val (.long (q0 &&& (9223372036854775807 : Int64))), .second, .val (.int (p1 &&& (2147483647 : Int32))), .val (.int (0 : Int32)), .val (.ref b261), .val (.int (fluc (q0 &&& (9223372036854775807 : Int64)))), .val (.ref b264), .unset] [(.int (0 : Int32)), (.int (0 : Int32)), (.ref b264), (.ref b261)])) rfl (by rw [hml]; rfl) (Steps.refl _) (argsL := [(.ref b264), (.int (0 : Int32)), (.int (0 : Int32))]) (rest := []) (lenOf pd_11 rfl) rfl (by show 2 * 0 + _ ≤ _; exact Nat.le_of_eq rfl) (hb hby at_118) (fun _ _ => ⟨rfl, e266, (by decide : 2 + 0 ≤ _), (by decide : 7 + 0 ≤ _)⟩)
            dsimp only [Pt.U, Pt.locs, Pt.cells, Pt.slots] at X268 l268 y268 z268 st268 hQ268
            subst l268 y268 z268
            obtain ⟨rfl, Nq268, Kq268, fq268_0, fq268_1⟩ := hQ268
            have N268 := Fr.app N266 Nq268
            have S_NONE := own_sta_keep S_NONE Kq268 (allS E_b261.cell all0)
            have S_SIZE_LINE := own_sta_keep S_SIZE_LINE Kq268 (allS E_b261.cell all0)
            have S_ENDED := own_sta_keep S_ENDED Kq268 (allS E_b261.cell all0)
            have S_DATA := own_sta_keep S_DATA Kq268 (allS E_b261.cell all0)
            have S_COMPACT_STRINGS := own_sta_keep S_COMPACT_STRINGS Kq268 (allS E_b261.cell all0)
            have E_a_NONE := E_a_NONE.keep Kq268
            have E_a_SIZE_LINE := E_a_SIZE_LINE.keep Kq268
            have E_a_ENDED := E_a_ENDED.keep Kq268
            have E_a_DATA := E_a_DATA.keep Kq268
            have F_ordinal_a_SIZE_LINE := F_ordinal_a_SIZE_LINE.keep Kq268 (ninS ne_a_SIZE_LINE_b261 nin0)
            have F_ordinal_a_ENDED := F_ordinal_a_ENDED.keep Kq268 (ninS ne_a_ENDED_b261 nin0)
            have F_ordinal_a_DATA := F_ordinal_a_DATA.keep Kq268 (ninS ne_a_DATA_b261 nin0)
            have A_a_NONE := A_a_NONE.keep Kq268 (ninS ne_a_NONE_b261 nin0)
            have A_b264 := A_b264.keep Kq268 (ninS (Ne.symm ne_b261_b264) nin0)
            have E_b261 := fq268_0
            have F_length_b261 := fq268_1
            have K268 := K266.trans Kq268 (allS (Or.inr sz_b261) all0)
            refine Ends.step (fun _ k => st268.trans k) ?_
            show Ends p e below QQ (T268.setTop (mkF m 121 #[.val (.long q0), .second, .val (.int p1), .val (.int p2), .val (.int p3), .val (.int (p2 &&& (3 : Int32))), .val (.long (q0 &&& (9223372036854775807 : Int64))), .second, .val (.int (p1 &&& (2147483647 : Int32))), .val (.int (0 : Int32)), .val (.ref b261), .val (.int (fluc (q0 &&& (9223372036854775807 : Int64)))), .val (.ref b264), .unset] [(.int (0 : Int32))]))
            refine Ends.step (fun _ k => XT.pop X268.here hx rfl (hb hby at_121) rfl rfl k) ?_
            show Ends p e below QQ (T268.setTop (mkF m 122 #[.val (.long q0), .second, .val (.int p1), .val (.int p2), .val (.int p3), .val (.int (p2 &&& (3 : Int32))), .val (.long (q0 &&& (9223372036854775807 : Int64))), .second, .val (.int (p1 &&& (2147483647 : Int32))), .val (.int (0 : Int32)), .val (.ref b261), .val (.int (fluc (q0 &&& (9223372036854775807 : Int64)))), .val (.ref b264), .unset] []))
            refine Ends.step (fun _ k => XS.aload X268.here hx rfl (hb hby at_122) rfl rfl k) ?_
            show Ends p e below QQ (T268.setTop (mkF m 124 #[.val (.long q0), .second, .val (.int p1), .val (.int p2), .val (.int p3), .val (.int (p2 &&& (3 : Int32))), .val (.long (q0 &&& (9223372036854775807 : Int64))), .second, .val (.int (p1 &&& (2147483647 : Int32))), .val (.int (0 : Int32)), .val (.ref b261), .val (.int (fluc (q0 &&& (9223372036854775807 : Int64)))), .val (.ref b264), .unset] [(.ref b261)]))
            obtain ⟨cq269, kq269, q269a, q269b, q269c⟩ := isOf hZ rfl E_b261
            obtain ⟨_, _, ⟨T269, L269, k269, n269⟩, -, X269, ⟨Lc269, hQ269, l269, y269, z269⟩, st269⟩ := X268.virtualBack hx (y := (⟨"com/example/gatehook/gatehook/http/IncomingBody", "lastsUntilClose", "()Z"⟩ : MethodName)) (z := (⟨"com/example/gatehook/gatehook/http/IncomingBody", "lastsUntilClose", "()Z"⟩ : MethodName)) hown (mvT hZ (hw _ (List.mem_of_getElem? (i := 79) rfl))) (mvT hZ (hw _ (List.mem_of_getElem? (i := 80) rfl))) (notFace_of_selects (args := #[]) (mvT hZ (hw _ (List.mem_of_getElem? (i := 82) rfl)))) (mvT hZ (hw _ (List.mem_of_getElem? (i := 82) rfl))) (mvT hZ (hw _ (List.mem_of_getElem? (i := 81) rfl))) (by decide) (backOf (W := 0) (rmluc l Z a0 hw [] b261 (q0 &&& (9223372036854775807 : Int64)) T268.heap n0 (Nat.le_trans Z0 K268.1) F_length_b261) hZ (hw _ (List.mem_of_getElem? (i := 83) rfl)) (hw _ (List.mem_of_getElem? (i := 4) rfl)) (by decide) (by decide)) q269a q269c (g := (mkF m 124 #[.val (.long q0), .second, .val (.int p1), .val (.int p2), .val (.int p3), .val (.int (p2 &&& (3 : Int32))), .val (.long (q0 &&& (9223372036854775807 : Int64))), .second, .val (.int (p1 &&& (2147483647 : Int32))), .val (.int (0 : Int32)), .val (.ref b261), .val (.int (fluc (q0 &&& (9223372036854775807 : Int64)))), .val (.ref b264), .unset] [(.ref b261)])) rfl (by rw [hml]; rfl) (Steps.refl _) (argsL := []) (rest := []) (lenOf pd_6 rfl) rfl (by show 2 * 0 + _ ≤ _; exact Nat.le_of_eq rfl) (hb hby at_124) (fun _ _ => ⟨rfl, rfl, (by decide : 2 + 0 ≤ _), (by decide : 7 + 0 ≤ _)⟩)
            dsimp only [Pt.U, Pt.locs, Pt.cells, Pt.slots] at X269 l269 y269 z269 st269 hQ269
            subst l269 y269 z269
            obtain ⟨rfl, Nq269, hh269⟩ := hQ269
            have N269 := Fr.app N268 Nq269
            refine Ends.step (fun _ k => st269.trans k) ?_
            show Ends p e below QQ (T269.setTop (mkF m 127 #[.val (.long q0), .second, .val (.int p1), .val (.int p2), .val (.int p3), .val (.int (p2 &&& (3 : Int32))), .val (.long (q0 &&& (9223372036854775807 : Int64))), .second, .val (.int (p1 &&& (2147483647 : Int32))), .val (.int (0 : Int32)), .val (.ref b261), .val (.int (fluc (q0 &&& (9223372036854775807 : Int64)))), .val (.ref b264), .unset] [(.int (fluc (q0 &&& (9223372036854775807 : Int64))))]))
            refine Ends.step (fun _ k => XS.istore X269.here hx rfl (hb hby at_127) rfl (l' := #[.val (.long q0), .second, .val (.int p1), .val (.int p2), .val (.int p3), .val (.int (p2 &&& (3 : Int32))), .val (.long (q0 &&& (9223372036854775807 : Int64))), .second, .val (.int (p1 &&& (2147483647 : Int32))), .val (.int (0 : Int32)), .val (.ref b261), .val (.int (fluc (q0 &&& (9223372036854775807 : Int64)))), .val (.ref b264), .val (.int (fluc (q0 &&& (9223372036854775807 : Int64))))]) rfl k) ?_
            show Ends p e below QQ (T269.setTop (mkF m 129 #[.val (.long q0), .second, .val (.int p1), .val (.int p2), .val (.int p3), .val (.int (p2 &&& (3 : Int32))), .val (.long (q0 &&& (9223372036854775807 : Int64))), .second, .val (.int (p1 &&& (2147483647 : Int32))), .val (.int (0 : Int32)), .val (.ref b261), .val (.int (fluc (q0 &&& (9223372036854775807 : Int64)))), .val (.ref b264), .val (.int (fluc (q0 &&& (9223372036854775807 : Int64))))] []))
            refine Ends.step (fun _ k => XS.iload X269.here hx rfl (hb hby at_129) rfl k) ?_
            show Ends p e below QQ (T269.setTop (mkF m 131 #[.val (.long q0), .second, .val (.int p1), .val (.int p2), .val (.int p3), .val (.int (p2 &&& (3 : Int32))), .val (.long (q0 &&& (9223372036854775807 : Int64))), .second, .val (.int (p1 &&& (2147483647 : Int32))), .val (.int (0 : Int32)), .val (.ref b261), .val (.int (fluc (q0 &&& (9223372036854775807 : Int64)))), .val (.ref b264), .val (.int (fluc (q0 &&& (9223372036854775807 : Int64))))] [(.int (fluc (q0 &&& (9223372036854775807 : Int64))))]))
            refine Ends.step (fun _ k => XS.iload X269.here hx rfl (hb hby at_131) rfl k) ?_
            show Ends p e below QQ (T269.setTop (mkF m 133 #[.val (.long q0), .second, .val (.int p1), .val (.int p2), .val (.int p3), .val (.int (p2 &&& (3 : Int32))), .val (.long (q0 &&& (9223372036854775807 : Int64))), .second, .val (.int (p1 &&& (2147483647 : Int32))), .val (.int (0 : Int32)), .val (.ref b261), .val (.int (fluc (q0 &&& (9223372036854775807 : Int64)))), .val (.ref b264), .val (.int (fluc (q0 &&& (9223372036854775807 : Int64))))] [(.int (0 : Int32)), (.int (fluc (q0 &&& (9223372036854775807 : Int64))))]))
            have J148_270 : (∀ (v148_7 : Int32) (hv148_7 : v148_7 = (if (fluc (q0 &&& (9223372036854775807 : Int64))) = (0 : Int32) then (1 : Int32) else (0 : Int32))), Ends p e below QQ (T269.setTop (mkF m 148 #[.val (.long q0), .second, .val (.int p1), .val (.int p2), .val (.int p3), .val (.int (p2 &&& (3 : Int32))), .val (.long (q0 &&& (9223372036854775807 : Int64))), .second, .val (.int (p1 &&& (2147483647 : Int32))), .val (.int (0 : Int32)), .val (.ref b261), .val (.int (fluc (q0 &&& (9223372036854775807 : Int64)))), .val (.ref b264), .val (.int (fluc (q0 &&& (9223372036854775807 : Int64))))] [(.int v148_7)]))) → Ends p e below QQ (T269.setTop (mkF m 133 #[.val (.long q0), .second, .val (.int p1), .val (.int p2), .val (.int p3), .val (.int (p2 &&& (3 : Int32))), .val (.long (q0 &&& (9223372036854775807 : Int64))), .second, .val (.int (p1 &&& (2147483647 : Int32))), .val (.int (0 : Int32)), .val (.ref b261), .val (.int (fluc (q0 &&& (9223372036854775807 : Int64)))), .val (.ref b264), .val (.int (fluc (q0 &&& (9223372036854775807 : Int64))))] [(.int (0 : Int32)), (.int (fluc (q0 &&& (9223372036854775807 : Int64))))])) := by
              intro hJ
              by_cases hc133_271 : (fluc (q0 &&& (9223372036854775807 : Int64))) = (0 : Int32)
              · refine Ends.step (fun _ k => XS.icmpNo X269.here hx rfl (hb hby at_133) rfl (XT.ii_ne_f hc133_271) k) ?_
                show Ends p e below QQ (T269.setTop (mkF m 136 #[.val (.long q0), .second, .val (.int p1), .val (.int p2), .val (.int p3), .val (.int (p2 &&& (3 : Int32))), .val (.long (q0 &&& (9223372036854775807 : Int64))), .second, .val (.int (p1 &&& (2147483647 : Int32))), .val (.int (0 : Int32)), .val (.ref b261), .val (.int (fluc (q0 &&& (9223372036854775807 : Int64)))), .val (.ref b264), .val (.int (fluc (q0 &&& (9223372036854775807 : Int64))))] []))
                refine Ends.step (fun _ k => XS.iload X269.here hx rfl (hb hby at_136) rfl k) ?_
                show Ends p e below QQ (T269.setTop (mkF m 138 #[.val (.long q0), .second, .val (.int p1), .val (.int p2), .val (.int p3), .val (.int (p2 &&& (3 : Int32))), .val (.long (q0 &&& (9223372036854775807 : Int64))), .second, .val (.int (p1 &&& (2147483647 : Int32))), .val (.int (0 : Int32)), .val (.ref b261), .val (.int (fluc (q0 &&& (9223372036854775807 : Int64)))), .val (.ref b264), .val (.int (fluc (q0 &&& (9223372036854775807 : Int64))))] [(.int (fluc (q0 &&& (9223372036854775807 : Int64))))]))
                refine Ends.step (fun _ k => XS.iload X269.here hx rfl (hb hby at_138) rfl k) ?_
                show Ends p e below QQ (T269.setTop (mkF m 140 #[.val (.long q0), .second, .val (.int p1), .val (.int p2), .val (.int p3), .val (.int (p2 &&& (3 : Int32))), .val (.long (q0 &&& (9223372036854775807 : Int64))), .second, .val (.int (p1 &&& (2147483647 : Int32))), .val (.int (0 : Int32)), .val (.ref b261), .val (.int (fluc (q0 &&& (9223372036854775807 : Int64)))), .val (.ref b264), .val (.int (fluc (q0 &&& (9223372036854775807 : Int64))))] [(.int (0 : Int32)), (.int (fluc (q0 &&& (9223372036854775807 : Int64))))]))
                refine Ends.step (fun _ k => XS.icmpNo X269.here hx rfl (hb hby at_140) rfl (XT.ii_ne_f hc133_271) k) ?_
                show Ends p e below QQ (T269.setTop (mkF m 143 #[.val (.long q0), .second, .val (.int p1), .val (.int p2), .val (.int p3), .val (.int (p2 &&& (3 : Int32))), .val (.long (q0 &&& (9223372036854775807 : Int64))), .second, .val (.int (p1 &&& (2147483647 : Int32))), .val (.int (0 : Int32)), .val (.ref b261), .val (.int (fluc (q0 &&& (9223372036854775807 : Int64)))), .val (.ref b264), .val (.int (fluc (q0 &&& (9223372036854775807 : Int64))))] []))
                refine Ends.step (fun _ k => XT.iconstV X269.here hx rfl (1 : Int32) (hb hby at_143) rfl k) ?_
                show Ends p e below QQ (T269.setTop (mkF m 144 #[.val (.long q0), .second, .val (.int p1), .val (.int p2), .val (.int p3), .val (.int (p2 &&& (3 : Int32))), .val (.long (q0 &&& (9223372036854775807 : Int64))), .second, .val (.int (p1 &&& (2147483647 : Int32))), .val (.int (0 : Int32)), .val (.ref b261), .val (.int (fluc (q0 &&& (9223372036854775807 : Int64)))), .val (.ref b264), .val (.int (fluc (q0 &&& (9223372036854775807 : Int64))))] [(.int (1 : Int32))]))
                refine Ends.step (fun _ k => XS.goto X269.here hx rfl (pc0 := 144) (pc' := 148) rfl (hb hby at_144) (by decide) (by decide) k) ?_
                exact hJ _ (by simp only [if_pos hc133_271])
              · refine Ends.step (fun _ k => XS.icmpYes X269.here hx rfl (pc0 := 133) (pc' := 147) rfl (hb hby at_133) rfl (XT.ii_ne_t hc133_271) (by decide) (by decide) k) ?_
                show Ends p e below QQ (T269.setTop (mkF m 147 #[.val (.long q0), .second, .val (.int p1), .val (.int p2), .val (.int p3), .val (.int (p2 &&& (3 : Int32))), .val (.long (q0 &&& (9223372036854775807 : Int64))), .second, .val (.int (p1 &&& (2147483647 : Int32))), .val (.int (0 : Int32)), .val (.ref b261), .val (.int (fluc (q0 &&& (9223372036854775807 : Int64)))), .val (.ref b264), .val (.int (fluc (q0 &&& (9223372036854775807 : Int64))))] []))
                refine Ends.step (fun _ k => XT.iconstV X269.here hx rfl (0 : Int32) (hb hby at_147) rfl k) ?_
                exact hJ _ (by simp only [if_neg hc133_271])
            refine J148_270 fun v148_7 hv148_7 => ?_
            have dv148_7 : f0_v148_7 q0 p1 p2 p3 cs = v148_7 := by
              simp only [f0_v148_7]
              exact hv148_7.symm
            show Ends p e below QQ (T269.setTop (mkF m 148 #[.val (.long q0), .second, .val (.int p1), .val (.int p2), .val (.int p3), .val (.int (p2 &&& (3 : Int32))), .val (.long (q0 &&& (9223372036854775807 : Int64))), .second, .val (.int (p1 &&& (2147483647 : Int32))), .val (.int (0 : Int32)), .val (.ref b261), .val (.int (fluc (q0 &&& (9223372036854775807 : Int64)))), .val (.ref b264), .val (.int (fluc (q0 &&& (9223372036854775807 : Int64))))] [(.int v148_7)]))
            exact Ends.fin (some (.int v148_7)) X269 hQQ (fun h => by rw [Bd.returns] at h; cases h) Bd.notSynchronized (fun _ hr => retOut X269 hx (t := .boolean) Bd.returns (by rw [hv148_7]; exact own_narB (by repeat' (first | exact Or.inl rfl | exact Or.inr rfl | apply own_01))) (Or.inl ⟨rfl, (by simp), _, rfl⟩) (hb hby at_148) hr) hh269 (by decide) (by decide) ⟨(by simp only [f0, dv148_7, if_neg hc7_205, if_neg hc21_222, if_neg hc49, if_neg hs68_239, if_neg hs68_250, if_pos hs118_267]), N269, K268⟩
          · show Ends p e below QQ (T266.setTop (mkF m 118 #[.val (.long q0), .second, .val (.int p1), .val (.int p2), .val (.int p3), .val (.int (p2 &&& (3 : Int32))), .val (.long (q0 &&& (9223372036854775807 : Int64))), .second, .val (.int (p1 &&& (2147483647 : Int32))), .val (.int (0 : Int32)), .val (.ref b261), .val (.int (fluc (q0 &&& (9223372036854775807 : Int64)))), .val (.ref b264), .unset] [(.int (((p3.toUInt32 >>> ((8 : Int32) &&& 31).toUInt32).toInt32) &&& (1 : Int32))), (.int (0 : Int32)), (.ref b264), (.ref b261)]))
            by_cases hs118_272 : (((p3.toUInt32 >>> ((8 : Int32) &&& 31).toUInt32).toInt32) &&& (1 : Int32)) = (1 : Int32)
            · show Ends p e below QQ (T266.setTop (mkF m 118 #[.val (.long q0), .second, .val (.int p1), .val (.int p2), .val (.int p3), .val (.int (p2 &&& (3 : Int32))), .val (.long (q0 &&& (9223372036854775807 : Int64))), .second, .val (.int (p1 &&& (2147483647 : Int32))), .val (.int (0 : Int32)), .val (.ref b261), .val (.int (fluc (q0 &&& (9223372036854775807 : Int64)))), .val (.ref b264), .unset] [(.int (((p3.toUInt32 >>> ((8 : Int32) &&& 31).toUInt32).toInt32) &&& (1 : Int32))), (.int (0 : Int32)), (.ref b264), (.ref b261)]))
              rw [hs118_272]
              show Ends p e below QQ (T266.setTop (mkF m 118 #[.val (.long q0), .second, .val (.int p1), .val (.int p2), .val (.int p3), .val (.int (p2 &&& (3 : Int32))), .val (.long (q0 &&& (9223372036854775807 : Int64))), .second, .val (.int (p1 &&& (2147483647 : Int32))), .val (.int (0 : Int32)), .val (.ref b261), .val (.int (fluc (q0 &&& (9223372036854775807 : Int64)))), .val (.ref b264), .unset] [(.int (1 : Int32)), (.int (0 : Int32)), (.ref b264), (.ref b261)]))
              obtain ⟨cq273, kq273, q273a, q273b, q273c⟩ := isOf hZ e266 E_b261
              obtain ⟨_, _, ⟨T273, L273, k273, n273⟩, -, X273, ⟨Lc273, hQ273, l273, y273, z273⟩, st273⟩ := X266.virtualBack hx (y := (⟨"com/example/gatehook/gatehook/http/IncomingBody", "take", "([BII)I"⟩ : MethodName)) (z := (⟨"com/example/gatehook/gatehook/http/IncomingBody", "take", "([BII)I"⟩ : MethodName)) hown (mvT hZ (hw _ (List.mem_of_getElem? (i := 85) rfl))) (mvT hZ (hw _ (List.mem_of_getElem? (i := 86) rfl))) (notFace_of_selects (args := #[]) (mvT hZ (hw _ (List.mem_of_getElem? (i := 88) rfl)))) (mvT hZ (hw _ (List.mem_of_getElem? (i := 88) rfl))) (mvT hZ (hw _ (List.mem_of_getElem? (i := 87) rfl))) (by decide) (backOf (W := 0) (rmtp1 l Z a0 hw [] b261 b264 (q0 &&& (9223372036854775807 : Int64)) (p1 &&& (2147483647 : Int32)) a_NONE k_a_NONE k264 (((p3 &&& (63 : Int32)) + (64 : Int32)).toInt8.toInt32) h266 n0 (Nat.le_trans Z0 K266.1) E_b261 F_ended_b261 F_chunks_b261 F_length_b261 F_max_b261 F_data_b261 F_dataLength_b261 A_a_NONE g_b261 ne_a_NONE_b261 A_b264 (Ne.symm ne_b261_b264) (Or.inr (own_lz hs68_250)) (own_pm p1)) hZ (hw _ (List.mem_of_getElem? (i := 89) rfl)) (hw _ (List.mem_of_getElem? (i := 4) rfl)) (by decide) (by decide)) q273a q273c (g := (mkF m 118 #[.val (.long q0), .second, .val (.int p1), .val (.int p2), .val (.int p3), .val (.int (p2 &&& (3 : Int32))), .val (.long (q0 &&& (9223372036854775807 : Int64))), .second, .val (.int (p1 &&& (2147483647 : Int32))), .val (.int (0 : Int32)), .val (.ref b261), .val (.int (fluc (q0 &&& (9223372036854775807 : Int64)))), .val (.ref b264), .unset] [(.int (1 : Int32)), (.int (0 : Int32)), (.ref b264), (.ref b261)])) rfl (by rw [hml]; rfl) (Steps.refl _) (argsL := [(.ref b264), (.int (0 : Int32)), (.int (1 : Int32))]) (rest := []) (lenOf pd_11 rfl) rfl (by show 2 * 0 + _ ≤ _; exact Nat.le_of_eq rfl) (hb hby at_118) (fun _ _ => ⟨rfl, e266, (by decide : 2 + 1 ≤ _), (by decide : 7 + 1 ≤ _)⟩)
              dsimp only [Pt.U, Pt.locs, Pt.cells, Pt.slots] at X273 l273 y273 z273 st273 hQ273
              subst l273 y273 z273
              obtain ⟨rfl, Nq273, Kq273, fq273_0, fq273_1⟩ := hQ273
              have N273 := Fr.app N266 Nq273
              have S_NONE := own_sta_keep S_NONE Kq273 (allS E_b261.cell all0)
              have S_SIZE_LINE := own_sta_keep S_SIZE_LINE Kq273 (allS E_b261.cell all0)
              have S_ENDED := own_sta_keep S_ENDED Kq273 (allS E_b261.cell all0)
              have S_DATA := own_sta_keep S_DATA Kq273 (allS E_b261.cell all0)
              have S_COMPACT_STRINGS := own_sta_keep S_COMPACT_STRINGS Kq273 (allS E_b261.cell all0)
              have E_a_NONE := E_a_NONE.keep Kq273
              have E_a_SIZE_LINE := E_a_SIZE_LINE.keep Kq273
              have E_a_ENDED := E_a_ENDED.keep Kq273
              have E_a_DATA := E_a_DATA.keep Kq273
              have F_ordinal_a_SIZE_LINE := F_ordinal_a_SIZE_LINE.keep Kq273 (ninS ne_a_SIZE_LINE_b261 nin0)
              have F_ordinal_a_ENDED := F_ordinal_a_ENDED.keep Kq273 (ninS ne_a_ENDED_b261 nin0)
              have F_ordinal_a_DATA := F_ordinal_a_DATA.keep Kq273 (ninS ne_a_DATA_b261 nin0)
              have A_a_NONE := A_a_NONE.keep Kq273 (ninS ne_a_NONE_b261 nin0)
              have A_b264 := A_b264.keep Kq273 (ninS (Ne.symm ne_b261_b264) nin0)
              have E_b261 := fq273_0
              have F_length_b261 := fq273_1
              have K273 := K266.trans Kq273 (allS (Or.inr sz_b261) all0)
              refine Ends.step (fun _ k => st273.trans k) ?_
              show Ends p e below QQ (T273.setTop (mkF m 121 #[.val (.long q0), .second, .val (.int p1), .val (.int p2), .val (.int p3), .val (.int (p2 &&& (3 : Int32))), .val (.long (q0 &&& (9223372036854775807 : Int64))), .second, .val (.int (p1 &&& (2147483647 : Int32))), .val (.int (0 : Int32)), .val (.ref b261), .val (.int (fluc (q0 &&& (9223372036854775807 : Int64)))), .val (.ref b264), .unset] [(.int (1 : Int32))]))
              refine Ends.step (fun _ k => XT.pop X273.here hx rfl (hb hby at_121) rfl rfl k) ?_
              show Ends p e below QQ (T273.setTop (mkF m 122 #[.val (.long q0), .second, .val (.int p1), .val (.int p2), .val (.int p3), .val (.int (p2 &&& (3 : Int32))), .val (.long (q0 &&& (9223372036854775807 : Int64))), .second, .val (.int (p1 &&& (2147483647 : Int32))), .val (.int (0 : Int32)), .val (.ref b261), .val (.int (fluc (q0 &&& (9223372036854775807 : Int64)))), .val (.ref b264), .unset] []))
              refine Ends.step (fun _ k => XS.aload X273.here hx rfl (hb hby at_122) rfl rfl k) ?_
              show Ends p e below QQ (T273.setTop (mkF m 124 #[.val (.long q0), .second, .val (.int p1), .val (.int p2), .val (.int p3), .val (.int (p2 &&& (3 : Int32))), .val (.long (q0 &&& (9223372036854775807 : Int64))), .second, .val (.int (p1 &&& (2147483647 : Int32))), .val (.int (0 : Int32)), .val (.ref b261), .val (.int (fluc (q0 &&& (9223372036854775807 : Int64)))), .val (.ref b264), .unset] [(.ref b261)]))
              obtain ⟨cq274, kq274, q274a, q274b, q274c⟩ := isOf hZ rfl E_b261
              obtain ⟨_, _, ⟨T274, L274, k274, n274⟩, -, X274, ⟨Lc274, hQ274, l274, y274, z274⟩, st274⟩ := X273.virtualBack hx (y := (⟨"com/example/gatehook/gatehook/http/IncomingBody", "lastsUntilClose", "()Z"⟩ : MethodName)) (z := (⟨"com/example/gatehook/gatehook/http/IncomingBody", "lastsUntilClose", "()Z"⟩ : MethodName)) hown (mvT hZ (hw _ (List.mem_of_getElem? (i := 79) rfl))) (mvT hZ (hw _ (List.mem_of_getElem? (i := 80) rfl))) (notFace_of_selects (args := #[]) (mvT hZ (hw _ (List.mem_of_getElem? (i := 82) rfl)))) (mvT hZ (hw _ (List.mem_of_getElem? (i := 82) rfl))) (mvT hZ (hw _ (List.mem_of_getElem? (i := 81) rfl))) (by decide) (backOf (W := 0) (rmluc l Z a0 hw [] b261 (q0 &&& (9223372036854775807 : Int64)) T273.heap n0 (Nat.le_trans Z0 K273.1) F_length_b261) hZ (hw _ (List.mem_of_getElem? (i := 83) rfl)) (hw _ (List.mem_of_getElem? (i := 4) rfl)) (by decide) (by decide)) q274a q274c (g := (mkF m 124 #[.val (.long q0), .second, .val (.int p1), .val (.int p2), .val (.int p3), .val (.int (p2 &&& (3 : Int32))), .val (.long (q0 &&& (9223372036854775807 : Int64))), .second, .val (.int (p1 &&& (2147483647 : Int32))), .val (.int (0 : Int32)), .val (.ref b261), .val (.int (fluc (q0 &&& (9223372036854775807 : Int64)))), .val (.ref b264), .unset] [(.ref b261)])) rfl (by rw [hml]; rfl) (Steps.refl _) (argsL := []) (rest := []) (lenOf pd_6 rfl) rfl (by show 2 * 0 + _ ≤ _; exact Nat.le_of_eq rfl) (hb hby at_124) (fun _ _ => ⟨rfl, rfl, (by decide : 3 + 0 ≤ _), (by decide : 8 + 0 ≤ _)⟩)
              dsimp only [Pt.U, Pt.locs, Pt.cells, Pt.slots] at X274 l274 y274 z274 st274 hQ274
              subst l274 y274 z274
              obtain ⟨rfl, Nq274, hh274⟩ := hQ274
              have N274 := Fr.app N273 Nq274
              refine Ends.step (fun _ k => st274.trans k) ?_
              show Ends p e below QQ (T274.setTop (mkF m 127 #[.val (.long q0), .second, .val (.int p1), .val (.int p2), .val (.int p3), .val (.int (p2 &&& (3 : Int32))), .val (.long (q0 &&& (9223372036854775807 : Int64))), .second, .val (.int (p1 &&& (2147483647 : Int32))), .val (.int (0 : Int32)), .val (.ref b261), .val (.int (fluc (q0 &&& (9223372036854775807 : Int64)))), .val (.ref b264), .unset] [(.int (fluc (q0 &&& (9223372036854775807 : Int64))))]))
              refine Ends.step (fun _ k => XS.istore X274.here hx rfl (hb hby at_127) rfl (l' := #[.val (.long q0), .second, .val (.int p1), .val (.int p2), .val (.int p3), .val (.int (p2 &&& (3 : Int32))), .val (.long (q0 &&& (9223372036854775807 : Int64))), .second, .val (.int (p1 &&& (2147483647 : Int32))), .val (.int (0 : Int32)), .val (.ref b261), .val (.int (fluc (q0 &&& (9223372036854775807 : Int64)))), .val (.ref b264), .val (.int (fluc (q0 &&& (9223372036854775807 : Int64))))]) rfl k) ?_
              show Ends p e below QQ (T274.setTop (mkF m 129 #[.val (.long q0), .second, .val (.int p1), .val (.int p2), .val (.int p3), .val (.int (p2 &&& (3 : Int32))), .val (.long (q0 &&& (9223372036854775807 : Int64))), .second, .val (.int (p1 &&& (2147483647 : Int32))), .val (.int (0 : Int32)), .val (.ref b261), .val (.int (fluc (q0 &&& (9223372036854775807 : Int64)))), .val (.ref b264), .val (.int (fluc (q0 &&& (9223372036854775807 : Int64))))] []))
              refine Ends.step (fun _ k => XS.iload X274.here hx rfl (hb hby at_129) rfl k) ?_
              show Ends p e below QQ (T274.setTop (mkF m 131 #[.val (.long q0), .second, .val (.int p1), .val (.int p2), .val (.int p3), .val (.int (p2 &&& (3 : Int32))), .val (.long (q0 &&& (9223372036854775807 : Int64))), .second, .val (.int (p1 &&& (2147483647 : Int32))), .val (.int (0 : Int32)), .val (.ref b261), .val (.int (fluc (q0 &&& (9223372036854775807 : Int64)))), .val (.ref b264), .val (.int (fluc (q0 &&& (9223372036854775807 : Int64))))] [(.int (fluc (q0 &&& (9223372036854775807 : Int64))))]))
              refine Ends.step (fun _ k => XS.iload X274.here hx rfl (hb hby at_131) rfl k) ?_
              show Ends p e below QQ (T274.setTop (mkF m 133 #[.val (.long q0), .second, .val (.int p1), .val (.int p2), .val (.int p3), .val (.int (p2 &&& (3 : Int32))), .val (.long (q0 &&& (9223372036854775807 : Int64))), .second, .val (.int (p1 &&& (2147483647 : Int32))), .val (.int (0 : Int32)), .val (.ref b261), .val (.int (fluc (q0 &&& (9223372036854775807 : Int64)))), .val (.ref b264), .val (.int (fluc (q0 &&& (9223372036854775807 : Int64))))] [(.int (0 : Int32)), (.int (fluc (q0 &&& (9223372036854775807 : Int64))))]))
              have J148_275 : (∀ (v148_8 : Int32) (hv148_8 : v148_8 = (if (fluc (q0 &&& (9223372036854775807 : Int64))) = (0 : Int32) then (1 : Int32) else (0 : Int32))), Ends p e below QQ (T274.setTop (mkF m 148 #[.val (.long q0), .second, .val (.int p1), .val (.int p2), .val (.int p3), .val (.int (p2 &&& (3 : Int32))), .val (.long (q0 &&& (9223372036854775807 : Int64))), .second, .val (.int (p1 &&& (2147483647 : Int32))), .val (.int (0 : Int32)), .val (.ref b261), .val (.int (fluc (q0 &&& (9223372036854775807 : Int64)))), .val (.ref b264), .val (.int (fluc (q0 &&& (9223372036854775807 : Int64))))] [(.int v148_8)]))) → Ends p e below QQ (T274.setTop (mkF m 133 #[.val (.long q0), .second, .val (.int p1), .val (.int p2), .val (.int p3), .val (.int (p2 &&& (3 : Int32))), .val (.long (q0 &&& (9223372036854775807 : Int64))), .second, .val (.int (p1 &&& (2147483647 : Int32))), .val (.int (0 : Int32)), .val (.ref b261), .val (.int (fluc (q0 &&& (9223372036854775807 : Int64)))), .val (.ref b264), .val (.int (fluc (q0 &&& (9223372036854775807 : Int64))))] [(.int (0 : Int32)), (.int (fluc (q0 &&& (9223372036854775807 : Int64))))])) := by
                intro hJ
                by_cases hc133_276 : (fluc (q0 &&& (9223372036854775807 : Int64))) = (0 : Int32)
                · refine Ends.step (fun _ k => XS.icmpNo X274.here hx rfl (hb hby at_133) rfl (XT.ii_ne_f hc133_276) k) ?_
                  show Ends p e below QQ (T274.setTop (mkF m 136 #[.val (.long q0), .second, .val (.int p1), .val (.int p2), .val (.int p3), .val (.int (p2 &&& (3 : Int32))), .val (.long (q0 &&& (9223372036854775807 : Int64))), .second, .val (.int (p1 &&& (2147483647 : Int32))), .val (.int (0 : Int32)), .val (.ref b261), .val (.int (fluc (q0 &&& (9223372036854775807 : Int64)))), .val (.ref b264), .val (.int (fluc (q0 &&& (9223372036854775807 : Int64))))] []))
                  refine Ends.step (fun _ k => XS.iload X274.here hx rfl (hb hby at_136) rfl k) ?_
                  show Ends p e below QQ (T274.setTop (mkF m 138 #[.val (.long q0), .second, .val (.int p1), .val (.int p2), .val (.int p3), .val (.int (p2 &&& (3 : Int32))), .val (.long (q0 &&& (9223372036854775807 : Int64))), .second, .val (.int (p1 &&& (2147483647 : Int32))), .val (.int (0 : Int32)), .val (.ref b261), .val (.int (fluc (q0 &&& (9223372036854775807 : Int64)))), .val (.ref b264), .val (.int (fluc (q0 &&& (9223372036854775807 : Int64))))] [(.int (fluc (q0 &&& (9223372036854775807 : Int64))))]))
                  refine Ends.step (fun _ k => XS.iload X274.here hx rfl (hb hby at_138) rfl k) ?_
                  show Ends p e below QQ (T274.setTop (mkF m 140 #[.val (.long q0), .second, .val (.int p1), .val (.int p2), .val (.int p3), .val (.int (p2 &&& (3 : Int32))), .val (.long (q0 &&& (9223372036854775807 : Int64))), .second, .val (.int (p1 &&& (2147483647 : Int32))), .val (.int (0 : Int32)), .val (.ref b261), .val (.int (fluc (q0 &&& (9223372036854775807 : Int64)))), .val (.ref b264), .val (.int (fluc (q0 &&& (9223372036854775807 : Int64))))] [(.int (0 : Int32)), (.int (fluc (q0 &&& (9223372036854775807 : Int64))))]))
                  refine Ends.step (fun _ k => XS.icmpNo X274.here hx rfl (hb hby at_140) rfl (XT.ii_ne_f hc133_276) k) ?_
                  show Ends p e below QQ (T274.setTop (mkF m 143 #[.val (.long q0), .second, .val (.int p1), .val (.int p2), .val (.int p3), .val (.int (p2 &&& (3 : Int32))), .val (.long (q0 &&& (9223372036854775807 : Int64))), .second, .val (.int (p1 &&& (2147483647 : Int32))), .val (.int (0 : Int32)), .val (.ref b261), .val (.int (fluc (q0 &&& (9223372036854775807 : Int64)))), .val (.ref b264), .val (.int (fluc (q0 &&& (9223372036854775807 : Int64))))] []))
                  refine Ends.step (fun _ k => XT.iconstV X274.here hx rfl (1 : Int32) (hb hby at_143) rfl k) ?_
                  show Ends p e below QQ (T274.setTop (mkF m 144 #[.val (.long q0), .second, .val (.int p1), .val (.int p2), .val (.int p3), .val (.int (p2 &&& (3 : Int32))), .val (.long (q0 &&& (9223372036854775807 : Int64))), .second, .val (.int (p1 &&& (2147483647 : Int32))), .val (.int (0 : Int32)), .val (.ref b261), .val (.int (fluc (q0 &&& (9223372036854775807 : Int64)))), .val (.ref b264), .val (.int (fluc (q0 &&& (9223372036854775807 : Int64))))] [(.int (1 : Int32))]))
                  refine Ends.step (fun _ k => XS.goto X274.here hx rfl (pc0 := 144) (pc' := 148) rfl (hb hby at_144) (by decide) (by decide) k) ?_
                  exact hJ _ (by simp only [if_pos hc133_276])
                · refine Ends.step (fun _ k => XS.icmpYes X274.here hx rfl (pc0 := 133) (pc' := 147) rfl (hb hby at_133) rfl (XT.ii_ne_t hc133_276) (by decide) (by decide) k) ?_
                  show Ends p e below QQ (T274.setTop (mkF m 147 #[.val (.long q0), .second, .val (.int p1), .val (.int p2), .val (.int p3), .val (.int (p2 &&& (3 : Int32))), .val (.long (q0 &&& (9223372036854775807 : Int64))), .second, .val (.int (p1 &&& (2147483647 : Int32))), .val (.int (0 : Int32)), .val (.ref b261), .val (.int (fluc (q0 &&& (9223372036854775807 : Int64)))), .val (.ref b264), .val (.int (fluc (q0 &&& (9223372036854775807 : Int64))))] []))
                  refine Ends.step (fun _ k => XT.iconstV X274.here hx rfl (0 : Int32) (hb hby at_147) rfl k) ?_
                  exact hJ _ (by simp only [if_neg hc133_276])
              refine J148_275 fun v148_8 hv148_8 => ?_
              have dv148_8 : f0_v148_8 q0 p1 p2 p3 cs = v148_8 := by
                simp only [f0_v148_8]
                exact hv148_8.symm
              show Ends p e below QQ (T274.setTop (mkF m 148 #[.val (.long q0), .second, .val (.int p1), .val (.int p2), .val (.int p3), .val (.int (p2 &&& (3 : Int32))), .val (.long (q0 &&& (9223372036854775807 : Int64))), .second, .val (.int (p1 &&& (2147483647 : Int32))), .val (.int (0 : Int32)), .val (.ref b261), .val (.int (fluc (q0 &&& (9223372036854775807 : Int64)))), .val (.ref b264), .val (.int (fluc (q0 &&& (9223372036854775807 : Int64))))] [(.int v148_8)]))
              exact Ends.fin (some (.int v148_8)) X274 hQQ (fun h => by rw [Bd.returns] at h; cases h) Bd.notSynchronized (fun _ hr => retOut X274 hx (t := .boolean) Bd.returns (by rw [hv148_8]; exact own_narB (by repeat' (first | exact Or.inl rfl | exact Or.inr rfl | apply own_01))) (Or.inl ⟨rfl, (by simp), _, rfl⟩) (hb hby at_148) hr) hh274 (by decide) (by decide) ⟨(by simp only [f0, dv148_8, if_neg hc7_205, if_neg hc21_222, if_neg hc49, if_neg hs68_239, if_neg hs68_250, if_neg hs118_267, if_pos hs118_272]), N274, K273⟩
            · show Ends p e below QQ (T266.setTop (mkF m 118 #[.val (.long q0), .second, .val (.int p1), .val (.int p2), .val (.int p3), .val (.int (p2 &&& (3 : Int32))), .val (.long (q0 &&& (9223372036854775807 : Int64))), .second, .val (.int (p1 &&& (2147483647 : Int32))), .val (.int (0 : Int32)), .val (.ref b261), .val (.int (fluc (q0 &&& (9223372036854775807 : Int64)))), .val (.ref b264), .unset] [(.int (((p3.toUInt32 >>> ((8 : Int32) &&& 31).toUInt32).toInt32) &&& (1 : Int32))), (.int (0 : Int32)), (.ref b264), (.ref b261)]))
              exact (own_bit _ hs118_267 hs118_272).elim
theorem own_law (q0 : Int64) (p1 p2 p3 cs : Int32) : f0 q0 p1 p2 p3 cs = 1 := by
  have hn : ¬ (q0 &&& (9223372036854775807 : Int64)) = (-1 : Int64) := fun q => own_nn q0 (by rw [q]; decide)
  have a : fluc (-1 : Int64) = (1 : Int32) := by decide
  have b : fluc (-2 : Int64) = (0 : Int32) := by decide
  have d : fluc (0 : Int64) = (0 : Int32) := by decide
  have g : fluc (q0 &&& (9223372036854775807 : Int64)) = (0 : Int32) := by
    unfold fluc fluc_v16_1
    exact if_neg hn
  unfold f0
  simp only [f0_v148_1, f0_v148_2, f0_v148_3, f0_v148_4, f0_v148_5, f0_v148_6, f0_v148_7, f0_v148_8, a, b, d, g, if_true, ite_self]
set_option maxRecDepth 65536 in
set_option maxHeartbeats 40000000 in
theorem comes_1 {Post : Tables → Env → Array Value → State → Outcome → State → Prop} (hpost : ∀ tb e args s v u, (limb_1_1.after args s (.returned v) u = true ∧ limb_1_2.after args s (.returned v) u = true ∧ True) → FrameEnd s (.returned v) u (Jvm.fieldLocs frame_1_writes args s ++ Jvm.arrayLocs frame_1_arrays args s ++ Jvm.staticLocs frame_1_statics s) 24 256 → Post tb e args s (.returned v) u) :
    ArmFor flags0 classFile x code maxLocals ret World_1 tables_1 room_1 Calls_1 rest_1 Pre_1 Post := by
  intro l hfl _ _ p e ha hc hk s m args below hf hA hF happ hP
  obtain ⟨hcalls, hrest, hpre⟩ := hP
  obtain ⟨-, -, -, hnamed, -, -, -, hat⟩ := (Spec.applies_iff hf).mp happ
  obtain ⟨hg, hn⟩ := and_e (Cond.before_iff.mp (show (Jvm.Cond.and given_1 narrow_1).before args s = true from hpre))
  obtain ⟨gl1, gr1⟩ := and_e hg
  obtain ⟨gl2, gr2⟩ := and_e gr1
  obtain ⟨gl3, gr3⟩ := and_e gr2
  obtain ⟨gl4, gr4⟩ := and_e gr3
  obtain ⟨w0, w1, w2, w3, rfl⟩ : ∃ w0 w1 w2 w3 : Value, args = #[w0, w1, w2, w3] := by
    have hs : args.size = 4 := by simpa [Cond.value, given_1] using gl1
    obtain ⟨L⟩ := args
    match L, hs with
    | [w0, w1, w2, w3], _ => exact ⟨w0, w1, w2, w3, rfl⟩
  have hw := fun d (hd : d ∈ tables_1) => atoms_spec (ws := Jvm.Cond.code x code maxLocals ret :: tables_1) hat d (List.mem_cons_of_mem _ hd)
  have hfit : Fit s := fun {y c} hc i hi => by
    obtain ⟨ha, rfl⟩ := Array.getElem?_eq_some_iff.mp hc
    have q := List.all_eq_true.mp ((Array.all_eq_true_iff_forall_mem.mp hF) _ (Array.getElem_mem ha)) i (List.mem_range.mpr hi)
    simpa [Array.getElem?_eq_getElem hi] using q
  obtain ⟨hsets, hown0⟩ := atoms_of _ (rest_1_c_eq ▸ (show rest_1_c.before _ s = true from hrest))
  have hr0 := Cond.before_iff.mp hown0
  obtain ⟨i0, ei0⟩ := isL_v gl2
  obtain rfl : w0 = (.long i0) := Option.some.inj ei0
  obtain ⟨i1, ei1⟩ := is_v gl3
  obtain rfl : w1 = (.int i1) := Option.some.inj ei1
  obtain ⟨i2, ei2⟩ := is_v gl4
  obtain rfl : w2 = (.int i2) := Option.some.inj ei2
  obtain ⟨i3, ei3⟩ := is_v gr4
  obtain rfl : w3 = (.int i3) := Option.some.inj ei3
  obtain ⟨nl1, nr1⟩ := and_e hn
  obtain ⟨nl2, nr2⟩ := and_e nr1
  obtain ⟨nl3, nr3⟩ := and_e nr2
  obtain ⟨nl4, nr4⟩ := and_e nr3
  obtain ⟨nl5, nr5⟩ := and_e nr4
  obtain ⟨nl6, nr6⟩ := and_e nr5
  obtain ⟨nl7, nr7⟩ := and_e nr6
  obtain ⟨nl8, nr8⟩ := and_e nr7
  obtain ⟨a_NONE, ev_a_NONE⟩ := arr_v nl1
  obtain ⟨cl_a_NONE, Ar_a_NONE⟩ := Arr.start ev_a_NONE nl1
  have E_a_NONE := Exa.start ev_a_NONE nl2
  obtain ⟨a_SIZE_LINE, ev_a_SIZE_LINE⟩ := exa_v nl4
  have E_a_SIZE_LINE := Exa.start ev_a_SIZE_LINE nl4
  obtain ⟨a_ENDED, ev_a_ENDED⟩ := exa_v nl5
  have E_a_ENDED := Exa.start ev_a_ENDED nl5
  obtain ⟨a_DATA, ev_a_DATA⟩ := exa_v nl8
  have E_a_DATA := Exa.start ev_a_DATA nl8
  obtain ⟨lt_a_NONE, sz_a_NONE⟩ := own_len nl3 ev_a_NONE Ar_a_NONE
  have F_ordinal_a_SIZE_LINE : Fld s s.heap a_SIZE_LINE "java/lang/Enum" "ordinal" "I" (.int (0 : Int32)) := own_fld nl6 ev_a_SIZE_LINE rfl
  have F_ordinal_a_ENDED : Fld s s.heap a_ENDED "java/lang/Enum" "ordinal" "I" (.int (4 : Int32)) := own_fld nl7 ev_a_ENDED rfl
  have F_ordinal_a_DATA : Fld s s.heap a_DATA "java/lang/Enum" "ordinal" "I" (.int (1 : Int32)) := own_fld nr8 ev_a_DATA rfl
  have A_a_NONE : Arv s s.heap a_NONE cl_a_NONE.cls .byte (0 : Int32) [] (.int (0 : Int32)) := Arv.start hfit Ar_a_NONE lt_a_NONE sz_a_NONE (by decide) rfl trivial
  have S_NONE := Sta.start ev_a_NONE (Or.inr ⟨(hw _ (List.mem_of_getElem? (i := 4) rfl)), (hw _ (List.mem_of_getElem? (i := 12) rfl))⟩)
  have S_SIZE_LINE := Sta.start ev_a_SIZE_LINE (Or.inr ⟨(hw _ (List.mem_of_getElem? (i := 71) rfl)), (hw _ (List.mem_of_getElem? (i := 72) rfl))⟩)
  have S_ENDED := Sta.start ev_a_ENDED (Or.inr ⟨(hw _ (List.mem_of_getElem? (i := 71) rfl)), (hw _ (List.mem_of_getElem? (i := 103) rfl))⟩)
  have S_DATA := Sta.start ev_a_DATA (Or.inr ⟨(hw _ (List.mem_of_getElem? (i := 71) rfl)), (hw _ (List.mem_of_getElem? (i := 119) rfl))⟩)
  have ne_a_SIZE_LINE_a_ENDED : a_SIZE_LINE ≠ a_ENDED := Fld.ne F_ordinal_a_SIZE_LINE F_ordinal_a_ENDED (by decide)
  have ne_a_SIZE_LINE_a_DATA : a_SIZE_LINE ≠ a_DATA := Fld.ne F_ordinal_a_SIZE_LINE F_ordinal_a_DATA (by decide)
  obtain ⟨cs, ev_cs⟩ := is_v (Cond.before_iff.mp (hsets _ (List.mem_of_getElem? (i := 1) rfl)))
  have hcs : ¬ cs = (0 : Int32) := own_nz (Cond.before_iff.mp (hsets _ (List.mem_of_getElem? (i := 2) rfl))) ev_cs
  have S_COMPACT_STRINGS := Sta.start ev_cs (Or.inl (hsets _ (List.mem_of_getElem? (i := 0) rfl)))
  obtain ⟨n, o, h1, h2, h3, _, L, rfl, hQ, hq⟩ := rm0 l s _ hw tables_1 i0 i1 i2 i3 a_NONE a_SIZE_LINE a_ENDED a_DATA cl_a_NONE.cls cs s.heap s.heap.size (Nat.le_refl _) E_a_NONE E_a_SIZE_LINE E_a_ENDED E_a_DATA F_ordinal_a_SIZE_LINE F_ordinal_a_ENDED F_ordinal_a_DATA A_a_NONE S_NONE S_SIZE_LINE S_ENDED S_DATA ne_a_SIZE_LINE_a_ENDED ne_a_SIZE_LINE_a_DATA S_COMPACT_STRINGS hcs p e ha hc hk s m _ below hf ((Spec.applies_iff_loose hf).mp happ).1 ⟨rfl, State.Warmed39.refl s, rfl⟩ trivial
  obtain ⟨hv, N, -⟩ := hQ
  have hlaw : (f0 i0 i1 i2 i3 cs) = 1 := own_law i0 i1 i2 i3 _
  rw [hlaw] at hv
  subst hv
  refine ⟨n, _, h1, h2, h3, hpost _ _ _ _ _ _ ⟨Cond.after_iff.mpr rfl, Cond.after_iff.mpr (eq_i res_at (Term.int_eval (1)) rfl), trivial⟩ ⟨hq.1, hq.2.1, (hq.2.2.sift fun y hy => Or.inr (N y hy)).mono (by decide) (by decide)⟩⟩
theorem main_1_1 : Claimed_1_1 := comes_1 fun _ _ _ _ _ _ h hF => ⟨h.1, hF⟩
theorem main_1_2 : Claimed_1_2 := comes_1 fun _ _ _ _ _ _ h hF => ⟨h.2.1, hF⟩
end Jvm.Pilot.@@N@@
namespace Jvm.Pilot.@@N@@
open Jvm Jvm.ClassFile Sem Op Lib Jvm.Free Jvm.Stand Jvm.Pilot.@@N@@.Jvm.D
/-! MADE BY PROGRAM (witnessworld.py) out of the Statement's table words and the real class files: 31 classes; the members and pool entries that the words name. The judged class is class 1, her method 1. -/
namespace start1
open Jvm.ClassFile
def u (s : String) : CpInfo := .utf8 (stringToUtf16 s)
/-- a pool by its gaps: so many unusable entries, then the entry; so many at the end -/
def gap : Nat → List CpInfo → List CpInfo
  | 0, r => r
  | n + 1, r => .unusable :: gap n r
def poolList (es : List (Nat × CpInfo)) (last : Nat) : List CpInfo := es.foldr (fun e r => gap e.1 (e.2 :: r)) (gap last [])
def pool (es : List (Nat × CpInfo)) (last : Nat) : Array CpInfo := ⟨poolList es last⟩
def fileOf (pool : Array CpInfo) (this : Nat) (attrs : Array Attribute := #[]) (ms : Array MethodInfo := #[]) (fl : Nat := 33) (sup : Nat := 0) (ifs : Array Nat := #[]) (fds : Array FieldInfo := #[]) : ClassFile where
  minorVersion := 0
  majorVersion := 65
  constantPool := pool
  accessFlags := fl
  thisClass := this
  superClass := sup
  interfaces := ifs
  fields := fds
  methods := ms
  attributes := attrs
def plain (name : String) (sup : Option ClassId) : Class where
  name := name
  kind := .ordinary
  loader := none
  accessFlags := 33
  super := sup
  interfaces := #[]
  cf := none
  fields := #[]
  methods := #[]
  instanceTypes := #[]
  staticTypes := #[]
  resolved := #[]
  callSites := []
  init := .initialized
  statics := none
  mirror := none

def pool0 : Array CpInfo := pool [(5, u "<init>"), (0, u "()V"), (1, .class_ 10), (1, u "java/lang/Object")] 113

def k0c0 : Code := { maxStack := 0, maxLocals := 1, code := object_method_1_code, exceptionTable := #[], attributes := #[] }
def k0m0 : Method := { name := "<init>", desc := "()V", sig := { parameters := [], returnType := none }, accessFlags := 1, code := some k0c0 }
/-- java/lang/Object -/
def k0 : Class := { plain "java/lang/Object" none with
  accessFlags := 33
  interfaces := #[]
  cf := some (fileOf pool0 8 #[] #[{ accessFlags := 1, nameIndex := 5, descriptorIndex := 6, attributes := #[] }] 33 0 #[] #[])
  fields := #[]
  methods := #[k0m0]
  instanceTypes := #[]
  staticTypes := #[]
  resolved := Array.replicate 124 none
  statics := none }

def pool1 : Array CpInfo := pool [(2, .class_ 4), (1, u "java/lang/Object"), (0, u "<init>"), (0, u "()V"), (0, .long 18446744073709551615), (1, .long 18446744073709551614), (3, .long 9223372036854775807), (1, .integer 2147483647), (0, .class_ 17), (0, u "com/example/gatehook/gatehook/http/IncomingBody"), (0, .methodref 16 19), (0, .nameAndType 5 20), (0, u "(JI)V"), (0, .methodref 16 22), (0, .nameAndType 23 24), (0, u "lastsUntilClose"), (0, u "()Z"), (0, .methodref 16 26), (0, .nameAndType 27 28), (0, u "take"), (0, u "([BII)I"), (0, .class_ 30), (0, u "com/example/gatehook/gatehook/http/IncomingBodyLastsUntilClosePinLaw"), (2, u "law"), (0, u "(JIII)Z")] 8

def k1m0 : Method := { name := "<init>", desc := "()V", sig := { parameters := [], returnType := none }, accessFlags := 2, code := none }
def k1c1 : Code := { maxStack := 5, maxLocals := 14, code := code, exceptionTable := #[], attributes := #[] }
def k1m1 : Method := { name := "law", desc := "(JIII)Z", sig := { parameters := [.long, .int, .int, .int], returnType := some .boolean }, accessFlags := 9, code := some k1c1 }
/-- com/example/gatehook/gatehook/http/IncomingBodyLastsUntilClosePinLaw -/
def k1 : Class := { plain "com/example/gatehook/gatehook/http/IncomingBodyLastsUntilClosePinLaw" (some 0) with
  accessFlags := 49
  interfaces := #[]
  cf := some (fileOf pool1 29 #[] #[{ accessFlags := 2, nameIndex := 5, descriptorIndex := 6, attributes := #[] }, { accessFlags := 9, nameIndex := 33, descriptorIndex := 34, attributes := #[] }] 49 2 #[] #[])
  fields := #[]
  methods := #[k1m0, k1m1]
  instanceTypes := #[]
  staticTypes := #[]
  resolved := Array.replicate 43 none
  statics := none }

def pool2 : Array CpInfo := pool [(1, .methodref 2 3), (0, .class_ 4), (0, .nameAndType 5 6), (0, u "java/lang/Object"), (0, u "<init>"), (0, u "()V"), (0, .fieldref 8 9), (0, .class_ 10), (0, .nameAndType 11 12), (0, u "com/example/gatehook/gatehook/http/IncomingBody"), (0, u "NONE"), (0, u "[B"), (0, .fieldref 8 14), (0, .nameAndType 15 12), (0, u "data"), (0, .fieldref 8 17), (0, .nameAndType 18 19), (0, u "length"), (0, u "J"), (0, .fieldref 8 21), (0, .nameAndType 22 23), (0, u "max"), (0, u "I"), (2, .long 18446744073709551614), (1, .class_ 29), (0, u "com/example/gatehook/gatehook/http/ChunkedBody"), (0, .methodref 28 31), (0, .nameAndType 5 32), (0, u "(I)V"), (0, .fieldref 8 34), (0, .nameAndType 35 36), (0, u "chunks"), (0, u "Lcom/example/gatehook/gatehook/http/ChunkedBody;"), (0, .fieldref 8 38), (0, .nameAndType 39 40), (0, u "ended"), (0, u "Z"), (0, .methodref 28 42), (0, .nameAndType 43 44), (0, u "take"), (0, u "([BII)I"), (0, .methodref 28 46), (0, .nameAndType 47 48), (0, u "isEnded"), (0, u "()Z"), (3, .long 18446744073709551615), (1, .fieldref 8 55), (0, .nameAndType 56 23), (0, u "dataLength"), (0, .methodref 58 59), (0, .class_ 60), (0, .nameAndType 61 62), (0, u "java/lang/Math"), (0, u "min"), (0, u "(JJ)J"), (0, .methodref 8 64), (0, .nameAndType 65 66), (0, u "grown"), (0, u "([BIJ)[B"), (0, .methodref 68 69), (0, .class_ 70), (0, .nameAndType 71 72), (0, u "java/lang/System"), (0, u "arraycopy"), (0, u "(Ljava/lang/Object;ILjava/lang/Object;II)V"), (7, .methodref 81 82), (0, .class_ 83), (0, .nameAndType 84 85), (0, u "java/util/Arrays"), (0, u "copyOf"), (0, u "([BI)[B"), (9, .long 2), (1, .methodref 58 98), (0, .nameAndType 22 62), (0, u "(JI)V"), (8, u "lastsUntilClose")] 3

def k2c0 : Code := { maxStack := 5, maxLocals := 4, code := prog_42_method_1_code, exceptionTable := #[], attributes := #[] }
def k2m0 : Method := { name := "<init>", desc := "(JI)V", sig := { parameters := [.long, .int], returnType := none }, accessFlags := 1, code := some k2c0 }
def k2c1 : Code := { maxStack := 6, maxLocals := 7, code := prog_42_method_2_code, exceptionTable := #[], attributes := #[] }
def k2m1 : Method := { name := "take", desc := "([BII)I", sig := { parameters := [(.array .byte), .int, .int], returnType := some .int }, accessFlags := 1, code := some k2c1 }
def k2c2 : Code := { maxStack := 4, maxLocals := 1, code := prog_42_method_5_code, exceptionTable := #[], attributes := #[] }
def k2m2 : Method := { name := "lastsUntilClose", desc := "()Z", sig := { parameters := [], returnType := some .boolean }, accessFlags := 1, code := some k2c2 }
def k2c3 : Code := { maxStack := 9, maxLocals := 4, code := prog_42_method_8_code, exceptionTable := #[], attributes := #[] }
def k2m3 : Method := { name := "grown", desc := "([BIJ)[B", sig := { parameters := [(.array .byte), .int, .long], returnType := some (.array .byte) }, accessFlags := 10, code := some k2c3 }
/-- com/example/gatehook/gatehook/http/IncomingBody -/
def k2 : Class := { plain "com/example/gatehook/gatehook/http/IncomingBody" (some 0) with
  accessFlags := 49
  interfaces := #[]
  cf := some (fileOf pool2 8 #[] #[{ accessFlags := 1, nameIndex := 5, descriptorIndex := 99, attributes := #[] }, { accessFlags := 1, nameIndex := 43, descriptorIndex := 44, attributes := #[] }, { accessFlags := 1, nameIndex := 108, descriptorIndex := 48, attributes := #[] }, { accessFlags := 10, nameIndex := 65, descriptorIndex := 66, attributes := #[] }] 49 2 #[] #[{ accessFlags := 26, nameIndex := 11, descriptorIndex := 12, attributes := #[] }, { accessFlags := 18, nameIndex := 18, descriptorIndex := 19, attributes := #[] }, { accessFlags := 18, nameIndex := 22, descriptorIndex := 23, attributes := #[] }, { accessFlags := 2, nameIndex := 15, descriptorIndex := 12, attributes := #[] }, { accessFlags := 2, nameIndex := 56, descriptorIndex := 23, attributes := #[] }, { accessFlags := 2, nameIndex := 35, descriptorIndex := 36, attributes := #[] }, { accessFlags := 2, nameIndex := 39, descriptorIndex := 40, attributes := #[] }])
  fields := #[{ name := "NONE", type := (.array .byte), accessFlags := 26, slot := 0, constantValue := 0 }, { name := "length", type := .long, accessFlags := 18, slot := 0, constantValue := 0 }, { name := "max", type := .int, accessFlags := 18, slot := 1, constantValue := 0 }, { name := "data", type := (.array .byte), accessFlags := 2, slot := 2, constantValue := 0 }, { name := "dataLength", type := .int, accessFlags := 2, slot := 3, constantValue := 0 }, { name := "chunks", type := (.object "com/example/gatehook/gatehook/http/ChunkedBody"), accessFlags := 2, slot := 4, constantValue := 0 }, { name := "ended", type := .boolean, accessFlags := 2, slot := 5, constantValue := 0 }]
  methods := #[k2m0, k2m1, k2m2, k2m3]
  instanceTypes := #[.long, .int, (.array .byte), .int, (.object "com/example/gatehook/gatehook/http/ChunkedBody"), .boolean]
  staticTypes := #[(.array .byte)]
  resolved := Array.replicate 112 none
  statics := some 0 }

def pool3 : Array CpInfo := pool [(1, .methodref 2 3), (0, .class_ 4), (0, .nameAndType 5 6), (0, u "java/lang/Object"), (0, u "<init>"), (0, u "()V"), (0, .class_ 8), (0, u "java/io/ByteArrayOutputStream"), (0, .methodref 7 3), (0, .fieldref 11 12), (0, .class_ 13), (0, .nameAndType 14 15), (0, u "com/example/gatehook/gatehook/http/ChunkedBody"), (0, u "data"), (0, u "Ljava/io/ByteArrayOutputStream;"), (0, .class_ 17), (0, u "java/lang/StringBuilder"), (0, .methodref 16 3), (0, .fieldref 11 20), (0, .nameAndType 21 22), (0, u "line"), (0, u "Ljava/lang/StringBuilder;"), (0, .fieldref 24 25), (0, .class_ 26), (0, .nameAndType 27 28), (0, u "com/example/gatehook/gatehook/http/ChunkedBody$Part"), (0, u "SIZE_LINE"), (0, u "Lcom/example/gatehook/gatehook/http/ChunkedBody$Part;"), (0, .fieldref 11 30), (0, .nameAndType 31 28), (0, u "part"), (0, .fieldref 11 33), (0, .nameAndType 34 35), (0, u "max"), (0, u "I"), (0, .fieldref 24 37), (0, .nameAndType 38 28), (0, u "ENDED"), (0, .fieldref 24 40), (0, .nameAndType 41 28), (0, u "DATA"), (0, .fieldref 11 43), (0, .nameAndType 44 45), (0, u "dataLeft"), (0, u "J"), (0, .methodref 47 48), (0, .class_ 49), (0, .nameAndType 50 51), (0, u "java/lang/Math"), (0, u "min"), (0, u "(JJ)J"), (7, .methodref 11 60), (0, .nameAndType 61 62), (0, u "lineByte"), (0, u "(B)V"), (3, u "()I"), (0, .methodref 16 68), (0, .nameAndType 69 66), (0, u "length"), (9, u "overLimit"), (0, u "Z"), (4, .methodref 24 86), (0, .nameAndType 87 66), (0, u "ordinal"), (0, .integer 65536), (0, .fieldref 11 90), (0, .nameAndType 91 35), (0, u "trailerBytes"), (5, .methodref 16 98), (0, .nameAndType 99 100), (0, u "append"), (0, u "(C)Ljava/lang/StringBuilder;"), (15, u "(I)V"), (8, u "()Z"), (42, u "MAX_CHUNK_LINE_BYTES"), (2, u "MAX_TRAILER_BYTES"), (2, u "take"), (0, u "([BII)I"), (2, u "isEnded")] 13

def k3c0 : Code := { maxStack := 3, maxLocals := 2, code := prog_38_method_1_code, exceptionTable := #[], attributes := #[] }
def k3m0 : Method := { name := "<init>", desc := "(I)V", sig := { parameters := [.int], returnType := none }, accessFlags := 1, code := some k3c0 }
def k3c1 : Code := { maxStack := 5, maxLocals := 7, code := prog_38_method_2_code, exceptionTable := #[], attributes := #[] }
def k3m1 : Method := { name := "take", desc := "([BII)I", sig := { parameters := [(.array .byte), .int, .int], returnType := some .int }, accessFlags := 1, code := some k3c1 }
def k3c2 : Code := { maxStack := 2, maxLocals := 1, code := prog_38_method_3_code, exceptionTable := #[], attributes := #[] }
def k3m2 : Method := { name := "isEnded", desc := "()Z", sig := { parameters := [], returnType := some .boolean }, accessFlags := 1, code := some k3c2 }
def k3c3 : Code := { maxStack := 4, maxLocals := 5, code := prog_38_method_6_code, exceptionTable := #[], attributes := #[] }
def k3m3 : Method := { name := "lineByte", desc := "(B)V", sig := { parameters := [.byte], returnType := none }, accessFlags := 2, code := some k3c3 }
/-- com/example/gatehook/gatehook/http/ChunkedBody -/
def k3 : Class := { plain "com/example/gatehook/gatehook/http/ChunkedBody" (some 0) with
  accessFlags := 49
  interfaces := #[]
  cf := some (fileOf pool3 11 #[.nestMembers #[24]] #[{ accessFlags := 1, nameIndex := 5, descriptorIndex := 116, attributes := #[] }, { accessFlags := 1, nameIndex := 174, descriptorIndex := 175, attributes := #[] }, { accessFlags := 1, nameIndex := 178, descriptorIndex := 125, attributes := #[] }, { accessFlags := 2, nameIndex := 61, descriptorIndex := 62, attributes := #[] }] 49 2 #[] #[{ accessFlags := 26, nameIndex := 168, descriptorIndex := 35, attributes := #[] }, { accessFlags := 26, nameIndex := 171, descriptorIndex := 35, attributes := #[] }, { accessFlags := 18, nameIndex := 34, descriptorIndex := 35, attributes := #[] }, { accessFlags := 18, nameIndex := 14, descriptorIndex := 15, attributes := #[] }, { accessFlags := 18, nameIndex := 21, descriptorIndex := 22, attributes := #[] }, { accessFlags := 2, nameIndex := 31, descriptorIndex := 28, attributes := #[] }, { accessFlags := 2, nameIndex := 44, descriptorIndex := 45, attributes := #[] }, { accessFlags := 2, nameIndex := 91, descriptorIndex := 35, attributes := #[] }, { accessFlags := 2, nameIndex := 79, descriptorIndex := 80, attributes := #[] }])
  fields := #[{ name := "MAX_CHUNK_LINE_BYTES", type := .int, accessFlags := 26, slot := 0, constantValue := 0 }, { name := "MAX_TRAILER_BYTES", type := .int, accessFlags := 26, slot := 1, constantValue := 0 }, { name := "max", type := .int, accessFlags := 18, slot := 0, constantValue := 0 }, { name := "data", type := (.object "java/io/ByteArrayOutputStream"), accessFlags := 18, slot := 1, constantValue := 0 }, { name := "line", type := (.object "java/lang/StringBuilder"), accessFlags := 18, slot := 2, constantValue := 0 }, { name := "part", type := (.object "com/example/gatehook/gatehook/http/ChunkedBody$Part"), accessFlags := 2, slot := 3, constantValue := 0 }, { name := "dataLeft", type := .long, accessFlags := 2, slot := 4, constantValue := 0 }, { name := "trailerBytes", type := .int, accessFlags := 2, slot := 5, constantValue := 0 }, { name := "overLimit", type := .boolean, accessFlags := 2, slot := 6, constantValue := 0 }]
  methods := #[k3m0, k3m1, k3m2, k3m3]
  instanceTypes := #[.int, (.object "java/io/ByteArrayOutputStream"), (.object "java/lang/StringBuilder"), (.object "com/example/gatehook/gatehook/http/ChunkedBody$Part"), .long, .int, .boolean]
  staticTypes := #[.int, .int]
  resolved := Array.replicate 192 none
  statics := none }

def pool4 : Array CpInfo := pool [(1, .class_ 2), (0, u "java/lang/AutoCloseable"), (0, .class_ 4), (0, u "java/lang/Object")] 7

/-- java/lang/AutoCloseable -/
def k4 : Class := { plain "java/lang/AutoCloseable" (some 0) with
  accessFlags := 1537
  interfaces := #[]
  cf := some (fileOf pool4 1 #[] #[] 1537 3 #[] #[])
  fields := #[]
  methods := #[]
  instanceTypes := #[]
  staticTypes := #[]
  resolved := Array.replicate 12 none
  statics := none }

def pool5 : Array CpInfo := pool [(1, .class_ 2), (0, u "java/io/Closeable"), (0, .class_ 4), (0, u "java/lang/Object"), (0, .class_ 6), (0, u "java/lang/AutoCloseable")] 7

/-- java/io/Closeable -/
def k5 : Class := { plain "java/io/Closeable" (some 0) with
  accessFlags := 1537
  interfaces := #[4]
  cf := some (fileOf pool5 1 #[] #[] 1537 3 #[5] #[])
  fields := #[]
  methods := #[]
  instanceTypes := #[]
  staticTypes := #[]
  resolved := Array.replicate 14 none
  statics := none }

def pool6 : Array CpInfo := pool [(1, .class_ 2), (0, u "java/io/Flushable"), (0, .class_ 4), (0, u "java/lang/Object")] 7

/-- java/io/Flushable -/
def k6 : Class := { plain "java/io/Flushable" (some 0) with
  accessFlags := 1537
  interfaces := #[]
  cf := some (fileOf pool6 1 #[] #[] 1537 3 #[] #[])
  fields := #[]
  methods := #[]
  instanceTypes := #[]
  staticTypes := #[]
  resolved := Array.replicate 12 none
  statics := none }

def pool7 : Array CpInfo := pool [(1, .methodref 2 3), (0, .class_ 4), (0, .nameAndType 5 6), (0, u "java/lang/Object"), (0, u "<init>"), (0, u "()V"), (0, .class_ 8), (0, u "java/io/OutputStream$1"), (2, .class_ 13), (1, u "java/io/OutputStream"), (11, .class_ 26), (0, u "java/io/Closeable"), (0, .class_ 28), (0, u "java/io/Flushable")] 24

def k7c0 : Code := { maxStack := 1, maxLocals := 1, code := jdk_2038_method_1_code, exceptionTable := #[], attributes := #[] }
def k7m0 : Method := { name := "<init>", desc := "()V", sig := { parameters := [], returnType := none }, accessFlags := 1, code := some k7c0 }
/-- java/io/OutputStream -/
def k7 : Class := { plain "java/io/OutputStream" (some 0) with
  accessFlags := 1057
  interfaces := #[5, 6]
  cf := some (fileOf pool7 11 #[.nestMembers #[7]] #[{ accessFlags := 1, nameIndex := 5, descriptorIndex := 6, attributes := #[] }] 1057 2 #[25, 27] #[])
  fields := #[]
  methods := #[k7m0]
  instanceTypes := #[]
  staticTypes := #[]
  resolved := Array.replicate 53 none
  statics := none }

def pool8 : Array CpInfo := pool [(1, .methodref 2 3), (0, .class_ 4), (0, .nameAndType 5 6), (0, u "java/io/ByteArrayOutputStream"), (0, u "<init>"), (0, u "(I)V"), (0, .methodref 8 9), (0, .class_ 10), (0, .nameAndType 5 11), (0, u "java/io/OutputStream"), (0, u "()V"), (21, .fieldref 2 34), (0, .nameAndType 35 36), (0, u "buf"), (0, u "[B"), (14, u "count"), (0, u "I")] 92

def k8c0 : Code := { maxStack := 2, maxLocals := 1, code := jdk_2005_method_1_code, exceptionTable := #[], attributes := #[] }
def k8m0 : Method := { name := "<init>", desc := "()V", sig := { parameters := [], returnType := none }, accessFlags := 1, code := some k8c0 }
def k8c1 : Code := { maxStack := 4, maxLocals := 2, code := jdk_2005_method_2_code, exceptionTable := #[], attributes := #[] }
def k8m1 : Method := { name := "<init>", desc := "(I)V", sig := { parameters := [.int], returnType := none }, accessFlags := 1, code := some k8c1 }
/-- java/io/ByteArrayOutputStream -/
def k8 : Class := { plain "java/io/ByteArrayOutputStream" (some 7) with
  accessFlags := 33
  interfaces := #[]
  cf := some (fileOf pool8 2 #[] #[{ accessFlags := 1, nameIndex := 5, descriptorIndex := 11, attributes := #[] }, { accessFlags := 1, nameIndex := 5, descriptorIndex := 6, attributes := #[] }] 33 8 #[] #[{ accessFlags := 4, nameIndex := 35, descriptorIndex := 36, attributes := #[] }, { accessFlags := 4, nameIndex := 51, descriptorIndex := 52, attributes := #[] }])
  fields := #[{ name := "buf", type := (.array .byte), accessFlags := 4, slot := 0, constantValue := 0 }, { name := "count", type := .int, accessFlags := 4, slot := 1, constantValue := 0 }]
  methods := #[k8m0, k8m1]
  instanceTypes := #[(.array .byte), .int]
  staticTypes := #[]
  resolved := Array.replicate 145 none
  statics := none }

def pool9 : Array CpInfo := pool [(1, .class_ 2), (0, u "java/lang/Appendable"), (0, .class_ 4), (0, u "java/lang/Object")] 9

/-- java/lang/Appendable -/
def k9 : Class := { plain "java/lang/Appendable" (some 0) with
  accessFlags := 1537
  interfaces := #[]
  cf := some (fileOf pool9 1 #[] #[] 1537 3 #[] #[])
  fields := #[]
  methods := #[]
  instanceTypes := #[]
  staticTypes := #[]
  resolved := Array.replicate 14 none
  statics := none }

def pool10 : Array CpInfo := pool [(2, .class_ 4), (1, u "java/lang/CharSequence"), (42, .class_ 48), (0, u "java/lang/CharSequence$1CodePointIterator"), (10, .class_ 60), (0, u "java/lang/CharSequence$1CharIterator"), (5, .class_ 67), (0, u "java/lang/Object")] 63

/-- java/lang/CharSequence -/
def k10 : Class := { plain "java/lang/CharSequence" (some 0) with
  accessFlags := 1537
  interfaces := #[]
  cf := some (fileOf pool10 2 #[.nestMembers #[47, 59]] #[] 1537 66 #[] #[])
  fields := #[]
  methods := #[]
  instanceTypes := #[]
  staticTypes := #[]
  resolved := Array.replicate 131 none
  statics := none }

def pool11 : Array CpInfo := pool [(1, .class_ 2), (0, u "java/lang/String"), (0, .methodref 4 5), (0, .class_ 6), (0, .nameAndType 7 8), (0, u "java/lang/Object"), (0, u "<init>"), (0, u "()V"), (1, .class_ 12), (1, u "java/lang/AbstractStringBuilder"), (0, u "EMPTYVALUE"), (0, u "[B"), (0, .fieldref 10 16), (0, .nameAndType 17 14), (0, u "value"), (0, .fieldref 1 19), (0, .nameAndType 20 21), (0, u "COMPACT_STRINGS"), (0, u "Z"), (0, .fieldref 10 23), (0, .nameAndType 24 25), (0, u "coder"), (0, u "B"), (8, u "length"), (0, u "()I"), (9, u "append"), (2, .class_ 49), (0, u "java/lang/CharSequence"), (25, u "maybeLatin1"), (3, .fieldref 10 80), (0, .nameAndType 81 82), (0, u "count"), (0, u "I"), (0, .methodref 10 84), (0, .nameAndType 85 86), (0, u "isLatin1"), (0, u "()Z"), (1, .class_ 90), (1, u "java/lang/StringLatin1"), (9, .methodref 10 101), (0, .nameAndType 102 103), (0, u "ensureCapacityInternal"), (0, u "(I)V"), (87, .methodref 88 192), (0, .nameAndType 193 194), (0, u "canEncode"), (0, u "(C)Z"), (97, u "(C)Ljava/lang/AbstractStringBuilder;"), (151, .class_ 445), (0, u "java/lang/Appendable")] 163

def k11m0 : Method := { name := "<init>", desc := "()V", sig := { parameters := [], returnType := none }, accessFlags := 0, code := none }
def k11c1 : Code := { maxStack := 2, maxLocals := 2, code := jdk_68_method_2_code, exceptionTable := #[], attributes := #[] }
def k11m1 : Method := { name := "<init>", desc := "(I)V", sig := { parameters := [.int], returnType := none }, accessFlags := 0, code := some k11c1 }
def k11c2 : Code := { maxStack := 1, maxLocals := 1, code := jdk_68_method_6_code, exceptionTable := #[], attributes := #[] }
def k11m2 : Method := { name := "length", desc := "()I", sig := { parameters := [], returnType := some .int }, accessFlags := 1, code := some k11c2 }
def k11c3 : Code := { maxStack := 4, maxLocals := 3, code := jdk_68_method_9_code, exceptionTable := #[], attributes := #[] }
def k11m3 : Method := { name := "ensureCapacityInternal", desc := "(I)V", sig := { parameters := [.int], returnType := none }, accessFlags := 2, code := some k11c3 }
def k11c4 : Code := { maxStack := 5, maxLocals := 2, code := jdk_68_method_31_code, exceptionTable := #[], attributes := #[] }
def k11m4 : Method := { name := "append", desc := "(C)Ljava/lang/AbstractStringBuilder;", sig := { parameters := [.char], returnType := some (.object "java/lang/AbstractStringBuilder") }, accessFlags := 1, code := some k11c4 }
def k11c5 : Code := { maxStack := 1, maxLocals := 1, code := jdk_68_method_68_code, exceptionTable := #[], attributes := #[] }
def k11m5 : Method := { name := "isLatin1", desc := "()Z", sig := { parameters := [], returnType := some .boolean }, accessFlags := 16, code := some k11c5 }
/-- java/lang/AbstractStringBuilder -/
def k11 : Class := { plain "java/lang/AbstractStringBuilder" (some 0) with
  accessFlags := 1056
  interfaces := #[9, 10]
  cf := some (fileOf pool11 10 #[] #[{ accessFlags := 0, nameIndex := 7, descriptorIndex := 8, attributes := #[] }, { accessFlags := 0, nameIndex := 7, descriptorIndex := 103, attributes := #[] }, { accessFlags := 1, nameIndex := 34, descriptorIndex := 35, attributes := #[] }, { accessFlags := 2, nameIndex := 102, descriptorIndex := 103, attributes := #[] }, { accessFlags := 1, nameIndex := 45, descriptorIndex := 292, attributes := #[] }, { accessFlags := 16, nameIndex := 85, descriptorIndex := 86, attributes := #[] }] 1056 4 #[444, 48] #[{ accessFlags := 0, nameIndex := 17, descriptorIndex := 14, attributes := #[] }, { accessFlags := 0, nameIndex := 24, descriptorIndex := 25, attributes := #[] }, { accessFlags := 0, nameIndex := 75, descriptorIndex := 21, attributes := #[] }, { accessFlags := 0, nameIndex := 81, descriptorIndex := 82, attributes := #[] }, { accessFlags := 26, nameIndex := 13, descriptorIndex := 14, attributes := #[] }])
  fields := #[{ name := "value", type := (.array .byte), accessFlags := 0, slot := 0, constantValue := 0 }, { name := "coder", type := .byte, accessFlags := 0, slot := 1, constantValue := 0 }, { name := "maybeLatin1", type := .boolean, accessFlags := 0, slot := 2, constantValue := 0 }, { name := "count", type := .int, accessFlags := 0, slot := 3, constantValue := 0 }, { name := "EMPTYVALUE", type := (.array .byte), accessFlags := 26, slot := 0, constantValue := 0 }]
  methods := #[k11m0, k11m1, k11m2, k11m3, k11m4, k11m5]
  instanceTypes := #[(.array .byte), .byte, .boolean, .int]
  staticTypes := #[(.array .byte)]
  resolved := Array.replicate 609 none
  statics := none }

def pool12 : Array CpInfo := pool [(1, .class_ 2), (0, u "java/io/Serializable"), (0, .class_ 4), (0, u "java/lang/Object")] 2

/-- java/io/Serializable -/
def k12 : Class := { plain "java/io/Serializable" (some 0) with
  accessFlags := 1537
  interfaces := #[]
  cf := some (fileOf pool12 1 #[] #[] 1537 3 #[] #[])
  fields := #[]
  methods := #[]
  instanceTypes := #[]
  staticTypes := #[]
  resolved := Array.replicate 7 none
  statics := none }

def pool13 : Array CpInfo := pool [(1, .class_ 2), (0, u "java/lang/Comparable"), (0, .class_ 4), (0, u "java/lang/Object")] 7

/-- java/lang/Comparable -/
def k13 : Class := { plain "java/lang/Comparable" (some 0) with
  accessFlags := 1537
  interfaces := #[]
  cf := some (fileOf pool13 1 #[] #[] 1537 3 #[] #[])
  fields := #[]
  methods := #[]
  instanceTypes := #[]
  staticTypes := #[]
  resolved := Array.replicate 12 none
  statics := none }

def pool14 : Array CpInfo := pool [(1, .methodref 2 3), (0, .class_ 4), (0, .nameAndType 5 6), (0, u "java/lang/AbstractStringBuilder"), (0, u "<init>"), (0, u "(I)V"), (17, .class_ 26), (1, u "java/lang/StringBuilder"), (0, u "append"), (22, .methodref 2 51), (0, .nameAndType 27 52), (0, u "(C)Ljava/lang/AbstractStringBuilder;"), (92, u "()V"), (10, u "()I"), (129, u "(C)Ljava/lang/StringBuilder;"), (56, .methodref 2 344), (0, .nameAndType 345 156), (0, u "length"), (3, .class_ 350), (0, u "java/lang/Appendable"), (0, .class_ 352), (0, u "java/io/Serializable"), (0, .class_ 354), (0, u "java/lang/Comparable"), (0, .class_ 356), (0, u "java/lang/CharSequence"), (0, u "serialVersionUID"), (0, u "J")] 63

def k14c0 : Code := { maxStack := 2, maxLocals := 1, code := jdk_67_method_1_code, exceptionTable := #[], attributes := #[] }
def k14m0 : Method := { name := "<init>", desc := "()V", sig := { parameters := [], returnType := none }, accessFlags := 1, code := some k14c0 }
def k14c1 : Code := { maxStack := 2, maxLocals := 2, code := jdk_67_method_14_code, exceptionTable := #[], attributes := #[] }
def k14m1 : Method := { name := "append", desc := "(C)Ljava/lang/StringBuilder;", sig := { parameters := [.char], returnType := some (.object "java/lang/StringBuilder") }, accessFlags := 1, code := some k14c1 }
def k14c2 : Code := { maxStack := 1, maxLocals := 1, code := jdk_67_method_93_code, exceptionTable := #[], attributes := #[] }
def k14m2 : Method := { name := "length", desc := "()I", sig := { parameters := [], returnType := some .int }, accessFlags := 4161, code := some k14c2 }
/-- java/lang/StringBuilder -/
def k14 : Class := { plain "java/lang/StringBuilder" (some 11) with
  accessFlags := 49
  interfaces := #[9, 12, 13, 10]
  cf := some (fileOf pool14 24 #[] #[{ accessFlags := 1, nameIndex := 5, descriptorIndex := 145, attributes := #[] }, { accessFlags := 1, nameIndex := 27, descriptorIndex := 286, attributes := #[] }, { accessFlags := 4161, nameIndex := 345, descriptorIndex := 156, attributes := #[] }] 49 2 #[349, 351, 353, 355] #[{ accessFlags := 24, nameIndex := 357, descriptorIndex := 358, attributes := #[] }])
  fields := #[{ name := "serialVersionUID", type := .long, accessFlags := 24, slot := 0, constantValue := 0 }]
  methods := #[k14m0, k14m1, k14m2]
  instanceTypes := #[(.array .byte), .byte, .boolean, .int]
  staticTypes := #[.long]
  resolved := Array.replicate 422 none
  statics := none }

def pool15 : Array CpInfo := pool [(1, .class_ 2), (0, u "java/lang/constant/Constable"), (0, .class_ 4), (0, u "java/lang/Object")] 6

/-- java/lang/constant/Constable -/
def k15 : Class := { plain "java/lang/constant/Constable" (some 0) with
  accessFlags := 1537
  interfaces := #[]
  cf := some (fileOf pool15 1 #[] #[] 1537 3 #[] #[])
  fields := #[]
  methods := #[]
  instanceTypes := #[]
  staticTypes := #[]
  resolved := Array.replicate 11 none
  statics := none }

def pool16 : Array CpInfo := pool [(1, .class_ 2), (0, u "java/lang/constant/ConstantDesc"), (0, .class_ 4), (0, u "java/lang/Object")] 32

/-- java/lang/constant/ConstantDesc -/
def k16 : Class := { plain "java/lang/constant/ConstantDesc" (some 0) with
  accessFlags := 1537
  interfaces := #[]
  cf := some (fileOf pool16 1 #[] #[] 1537 3 #[] #[])
  fields := #[]
  methods := #[]
  instanceTypes := #[]
  staticTypes := #[]
  resolved := Array.replicate 37 none
  statics := none }

def pool17 : Array CpInfo := pool [(2, .class_ 4), (1, u "java/lang/Object"), (0, u "<init>"), (0, u "()V"), (3, .class_ 12), (1, u "java/lang/String"), (0, u "value"), (0, u "[B"), (2, u "coder"), (0, u "B"), (2, u "hash"), (0, u "I"), (2, u "hashIsZero"), (0, u "Z"), (13, u "COMPACT_STRINGS"), (534, .class_ 576), (0, u "java/lang/CharSequence"), (22, u "CASE_INSENSITIVE_ORDER"), (0, u "Ljava/util/Comparator;"), (500, u "serialPersistentFields"), (0, u "[Ljava/io/ObjectStreamField;"), (0, .class_ 1104), (0, u "java/lang/String$CaseInsensitiveComparator"), (1, .class_ 1107), (0, u "java/io/Serializable"), (0, .class_ 1109), (0, u "java/lang/Comparable"), (0, .class_ 1111), (0, u "java/lang/constant/Constable"), (0, .class_ 1113), (0, u "java/lang/constant/ConstantDesc"), (2, u "serialVersionUID"), (0, u "J"), (3, u "REPL"), (0, u "C"), (2, u "LATIN1"), (1, u "UTF16")] 323

def k17m0 : Method := { name := "<init>", desc := "()V", sig := { parameters := [], returnType := none }, accessFlags := 1, code := none }
/-- java/lang/String -/
def k17 : Class := { plain "java/lang/String" (some 0) with
  accessFlags := 49
  interfaces := #[12, 13, 10, 15, 16]
  cf := some (fileOf pool17 10 #[.nestMembers #[1103]] #[{ accessFlags := 1, nameIndex := 5, descriptorIndex := 6, attributes := #[] }] 49 2 #[1106, 1108, 575, 1110, 1112] #[{ accessFlags := 18, nameIndex := 13, descriptorIndex := 14, attributes := #[] }, { accessFlags := 18, nameIndex := 17, descriptorIndex := 18, attributes := #[] }, { accessFlags := 2, nameIndex := 21, descriptorIndex := 22, attributes := #[] }, { accessFlags := 2, nameIndex := 25, descriptorIndex := 26, attributes := #[] }, { accessFlags := 26, nameIndex := 1116, descriptorIndex := 1117, attributes := #[] }, { accessFlags := 24, nameIndex := 40, descriptorIndex := 26, attributes := #[] }, { accessFlags := 26, nameIndex := 1101, descriptorIndex := 1102, attributes := #[] }, { accessFlags := 26, nameIndex := 1121, descriptorIndex := 1122, attributes := #[] }, { accessFlags := 25, nameIndex := 599, descriptorIndex := 600, attributes := #[] }, { accessFlags := 24, nameIndex := 1125, descriptorIndex := 18, attributes := #[] }, { accessFlags := 24, nameIndex := 1127, descriptorIndex := 18, attributes := #[] }])
  fields := #[{ name := "value", type := (.array .byte), accessFlags := 18, slot := 0, constantValue := 0 }, { name := "coder", type := .byte, accessFlags := 18, slot := 1, constantValue := 0 }, { name := "hash", type := .int, accessFlags := 2, slot := 2, constantValue := 0 }, { name := "hashIsZero", type := .boolean, accessFlags := 2, slot := 3, constantValue := 0 }, { name := "serialVersionUID", type := .long, accessFlags := 26, slot := 0, constantValue := 0 }, { name := "COMPACT_STRINGS", type := .boolean, accessFlags := 24, slot := 1, constantValue := 0 }, { name := "serialPersistentFields", type := (.array (.object "java/io/ObjectStreamField")), accessFlags := 26, slot := 2, constantValue := 0 }, { name := "REPL", type := .char, accessFlags := 26, slot := 3, constantValue := 0 }, { name := "CASE_INSENSITIVE_ORDER", type := (.object "java/util/Comparator"), accessFlags := 25, slot := 4, constantValue := 0 }, { name := "LATIN1", type := .byte, accessFlags := 24, slot := 5, constantValue := 0 }, { name := "UTF16", type := .byte, accessFlags := 24, slot := 6, constantValue := 0 }]
  methods := #[k17m0]
  instanceTypes := #[(.array .byte), .byte, .int, .boolean]
  staticTypes := #[.long, .boolean, (.array (.object "java/io/ObjectStreamField")), .char, (.object "java/util/Comparator"), .byte, .byte]
  resolved := Array.replicate 1451 none
  statics := some 1 }

def pool18 : Array CpInfo := pool [(2, .class_ 4), (1, u "java/lang/Enum"), (0, u "name"), (0, u "Ljava/lang/String;"), (0, .fieldref 2 8), (0, .nameAndType 9 10), (0, u "ordinal"), (0, u "I"), (1, .class_ 14), (1, u "java/lang/Object"), (4, u "hash"), (86, .class_ 108), (1, u "java/lang/Enum$EnumDesc"), (2, .class_ 112), (0, u "java/lang/constant/Constable"), (0, .class_ 114), (0, u "java/lang/Comparable"), (0, .class_ 116), (0, u "java/io/Serializable"), (9, u "()I")] 77

def k18c0 : Code := { maxStack := 1, maxLocals := 1, code := jdk_37_method_2_code, exceptionTable := #[], attributes := #[] }
def k18m0 : Method := { name := "ordinal", desc := "()I", sig := { parameters := [], returnType := some .int }, accessFlags := 17, code := some k18c0 }
/-- java/lang/Enum -/
def k18 : Class := { plain "java/lang/Enum" (some 0) with
  accessFlags := 1057
  interfaces := #[15, 13, 12]
  cf := some (fileOf pool18 2 #[.nestMembers #[106]] #[{ accessFlags := 17, nameIndex := 9, descriptorIndex := 126, attributes := #[] }] 1057 12 #[111, 113, 115] #[{ accessFlags := 18, nameIndex := 5, descriptorIndex := 6, attributes := #[] }, { accessFlags := 18, nameIndex := 9, descriptorIndex := 10, attributes := #[] }, { accessFlags := 2, nameIndex := 19, descriptorIndex := 10, attributes := #[] }])
  fields := #[{ name := "name", type := (.object "java/lang/String"), accessFlags := 18, slot := 0, constantValue := 0 }, { name := "ordinal", type := .int, accessFlags := 18, slot := 1, constantValue := 0 }, { name := "hash", type := .int, accessFlags := 2, slot := 2, constantValue := 0 }]
  methods := #[k18m0]
  instanceTypes := #[(.object "java/lang/String"), .int, .int]
  staticTypes := #[]
  resolved := Array.replicate 204 none
  statics := none }

def pool19 : Array CpInfo := pool [(1, .class_ 2), (0, u "com/example/gatehook/gatehook/http/ChunkedBody$Part"), (2, u "SIZE_LINE"), (0, u "Lcom/example/gatehook/gatehook/http/ChunkedBody$Part;"), (2, u "DATA"), (2, u "DATA_END"), (2, u "TRAILER"), (2, u "ENDED"), (2, u "$VALUES"), (0, u "[Lcom/example/gatehook/gatehook/http/ChunkedBody$Part;"), (6, .class_ 31), (1, u "java/lang/Enum"), (28, .class_ 61), (0, u "com/example/gatehook/gatehook/http/ChunkedBody")] 2

/-- com/example/gatehook/gatehook/http/ChunkedBody$Part -/
def k19 : Class := { plain "com/example/gatehook/gatehook/http/ChunkedBody$Part" (some 18) with
  accessFlags := 16432
  interfaces := #[]
  cf := some (fileOf pool19 1 #[.nestHost 60] #[] 16432 29 #[] #[{ accessFlags := 16409, nameIndex := 5, descriptorIndex := 6, attributes := #[] }, { accessFlags := 16409, nameIndex := 9, descriptorIndex := 6, attributes := #[] }, { accessFlags := 16409, nameIndex := 12, descriptorIndex := 6, attributes := #[] }, { accessFlags := 16409, nameIndex := 15, descriptorIndex := 6, attributes := #[] }, { accessFlags := 16409, nameIndex := 18, descriptorIndex := 6, attributes := #[] }, { accessFlags := 4122, nameIndex := 21, descriptorIndex := 22, attributes := #[] }])
  fields := #[{ name := "SIZE_LINE", type := (.object "com/example/gatehook/gatehook/http/ChunkedBody$Part"), accessFlags := 16409, slot := 0, constantValue := 0 }, { name := "DATA", type := (.object "com/example/gatehook/gatehook/http/ChunkedBody$Part"), accessFlags := 16409, slot := 1, constantValue := 0 }, { name := "DATA_END", type := (.object "com/example/gatehook/gatehook/http/ChunkedBody$Part"), accessFlags := 16409, slot := 2, constantValue := 0 }, { name := "TRAILER", type := (.object "com/example/gatehook/gatehook/http/ChunkedBody$Part"), accessFlags := 16409, slot := 3, constantValue := 0 }, { name := "ENDED", type := (.object "com/example/gatehook/gatehook/http/ChunkedBody$Part"), accessFlags := 16409, slot := 4, constantValue := 0 }, { name := "$VALUES", type := (.array (.object "com/example/gatehook/gatehook/http/ChunkedBody$Part")), accessFlags := 4122, slot := 5, constantValue := 0 }]
  methods := #[]
  instanceTypes := #[(.object "java/lang/String"), .int, .int]
  staticTypes := #[(.object "com/example/gatehook/gatehook/http/ChunkedBody$Part"), (.object "com/example/gatehook/gatehook/http/ChunkedBody$Part"), (.object "com/example/gatehook/gatehook/http/ChunkedBody$Part"), (.object "com/example/gatehook/gatehook/http/ChunkedBody$Part"), (.object "com/example/gatehook/gatehook/http/ChunkedBody$Part"), (.array (.object "com/example/gatehook/gatehook/http/ChunkedBody$Part"))]
  resolved := Array.replicate 64 none
  statics := some 2 }

def pool20 : Array CpInfo := pool [(1, .class_ 2), (0, u "java/lang/Math"), (1, .class_ 6), (1, u "java/lang/Object"), (0, u "<init>"), (0, u "()V"), (89, .class_ 100), (1, u "java/lang/Math$RandomNumberGeneratorHolder"), (20, u "(JJ)J"), (50, u "negativeZeroFloatBits"), (0, u "J"), (2, u "negativeZeroDoubleBits"), (21, u "max"), (2, u "min"), (43, u "$assertionsDisabled"), (0, u "Z"), (88, u "(II)I"), (2, u "twoToTheDoubleScaleDown"), (0, u "D"), (4, u "twoToTheDoubleScaleUp"), (9, u "E"), (3, u "PI"), (2, u "TAU"), (2, u "DEGREES_TO_RADIANS"), (0, u "RADIANS_TO_DEGREES")] 94

def k20m0 : Method := { name := "<init>", desc := "()V", sig := { parameters := [], returnType := none }, accessFlags := 2, code := none }
def k20c1 : Code := { maxStack := 4, maxLocals := 4, code := jdk_29_method_66_code, exceptionTable := #[], attributes := #[] }
def k20m1 : Method := { name := "max", desc := "(JJ)J", sig := { parameters := [.long, .long], returnType := some .long }, accessFlags := 9, code := some k20c1 }
def k20c2 : Code := { maxStack := 2, maxLocals := 2, code := jdk_29_method_69_code, exceptionTable := #[], attributes := #[] }
def k20m2 : Method := { name := "min", desc := "(II)I", sig := { parameters := [.int, .int], returnType := some .int }, accessFlags := 9, code := some k20c2 }
def k20c3 : Code := { maxStack := 4, maxLocals := 4, code := jdk_29_method_70_code, exceptionTable := #[], attributes := #[] }
def k20m3 : Method := { name := "min", desc := "(JJ)J", sig := { parameters := [.long, .long], returnType := some .long }, accessFlags := 9, code := some k20c3 }
/-- java/lang/Math -/
def k20 : Class := { plain "java/lang/Math" (some 0) with
  accessFlags := 49
  interfaces := #[]
  cf := some (fileOf pool20 1 #[.nestMembers #[98]] #[{ accessFlags := 2, nameIndex := 7, descriptorIndex := 8, attributes := #[] }, { accessFlags := 9, nameIndex := 198, descriptorIndex := 121, attributes := #[] }, { accessFlags := 9, nameIndex := 201, descriptorIndex := 335, attributes := #[] }, { accessFlags := 9, nameIndex := 201, descriptorIndex := 121, attributes := #[] }] 49 4 #[] #[{ accessFlags := 25, nameIndex := 354, descriptorIndex := 339, attributes := #[] }, { accessFlags := 25, nameIndex := 358, descriptorIndex := 339, attributes := #[] }, { accessFlags := 25, nameIndex := 361, descriptorIndex := 339, attributes := #[] }, { accessFlags := 26, nameIndex := 364, descriptorIndex := 339, attributes := #[] }, { accessFlags := 26, nameIndex := 365, descriptorIndex := 339, attributes := #[] }, { accessFlags := 26, nameIndex := 172, descriptorIndex := 173, attributes := #[] }, { accessFlags := 26, nameIndex := 176, descriptorIndex := 173, attributes := #[] }, { accessFlags := 8, nameIndex := 344, descriptorIndex := 339, attributes := #[] }, { accessFlags := 8, nameIndex := 338, descriptorIndex := 339, attributes := #[] }, { accessFlags := 4120, nameIndex := 245, descriptorIndex := 246, attributes := #[] }])
  fields := #[{ name := "E", type := .double, accessFlags := 25, slot := 0, constantValue := 0 }, { name := "PI", type := .double, accessFlags := 25, slot := 1, constantValue := 0 }, { name := "TAU", type := .double, accessFlags := 25, slot := 2, constantValue := 0 }, { name := "DEGREES_TO_RADIANS", type := .double, accessFlags := 26, slot := 3, constantValue := 0 }, { name := "RADIANS_TO_DEGREES", type := .double, accessFlags := 26, slot := 4, constantValue := 0 }, { name := "negativeZeroFloatBits", type := .long, accessFlags := 26, slot := 5, constantValue := 0 }, { name := "negativeZeroDoubleBits", type := .long, accessFlags := 26, slot := 6, constantValue := 0 }, { name := "twoToTheDoubleScaleUp", type := .double, accessFlags := 8, slot := 7, constantValue := 0 }, { name := "twoToTheDoubleScaleDown", type := .double, accessFlags := 8, slot := 8, constantValue := 0 }, { name := "$assertionsDisabled", type := .boolean, accessFlags := 4120, slot := 9, constantValue := 0 }]
  methods := #[k20m0, k20m1, k20m2, k20m3]
  instanceTypes := #[]
  staticTypes := #[.double, .double, .double, .double, .double, .long, .long, .double, .double, .boolean]
  resolved := Array.replicate 460 none
  statics := none }

def pool21 : Array CpInfo := pool [(2, .class_ 4), (1, u "java/lang/Object"), (0, u "<init>"), (0, u "()V"), (1, .class_ 10), (1, u "java/lang/System"), (0, u "allowSecurityManager"), (0, u "I"), (16, u "cons"), (0, u "Ljava/io/Console;"), (77, .class_ 110), (1, u "java/lang/System$CallersHolder"), (43, u "initialErrStream"), (0, u "Ljava/io/PrintStream;"), (19, u "security"), (0, u "Ljava/lang/SecurityManager;"), (31, .class_ 209), (0, u "java/lang/System$1"), (7, u "props"), (0, u "Ljava/util/Properties;"), (2, u "lineSeparator"), (0, u "Ljava/lang/String;"), (96, .class_ 321), (1, u "java/lang/System$LoggerFinder"), (5, .class_ 328), (0, u "java/lang/System$Logger"), (67, u "err"), (2, u "out"), (91, u "notSupportedJnuEncoding"), (15, u "in"), (17, u "initialIn"), (0, u "Ljava/io/InputStream;"), (35, u "bootLayer"), (0, u "Ljava/lang/ModuleLayer;"), (99, .class_ 664), (0, u "java/lang/System$2"), (9, u "NEVER"), (2, u "MAYBE"), (49, u "arraycopy"), (0, u "(Ljava/lang/Object;ILjava/lang/Object;II)V"), (72, .class_ 802), (0, u "java/lang/System$Logger$Level")] 31

def k21m0 : Method := { name := "<init>", desc := "()V", sig := { parameters := [], returnType := none }, accessFlags := 2, code := none }
def k21m1 : Method := { name := "arraycopy", desc := "(Ljava/lang/Object;ILjava/lang/Object;II)V", sig := { parameters := [(.object "java/lang/Object"), .int, (.object "java/lang/Object"), .int, .int], returnType := none }, accessFlags := 265, code := none }
/-- java/lang/System -/
def k21 : Class := { plain "java/lang/System" (some 0) with
  accessFlags := 49
  interfaces := #[]
  cf := some (fileOf pool21 8 #[.nestMembers #[319, 327, 801, 108, 663, 208]] #[{ accessFlags := 2, nameIndex := 5, descriptorIndex := 6, attributes := #[] }, { accessFlags := 265, nameIndex := 727, descriptorIndex := 728, attributes := #[] }] 49 2 #[] #[{ accessFlags := 25, nameIndex := 507, descriptorIndex := 526, attributes := #[] }, { accessFlags := 25, nameIndex := 399, descriptorIndex := 155, attributes := #[] }, { accessFlags := 25, nameIndex := 396, descriptorIndex := 155, attributes := #[] }, { accessFlags := 10, nameIndex := 525, descriptorIndex := 526, attributes := #[] }, { accessFlags := 26, nameIndex := 674, descriptorIndex := 12, attributes := #[] }, { accessFlags := 26, nameIndex := 677, descriptorIndex := 12, attributes := #[] }, { accessFlags := 10, nameIndex := 11, descriptorIndex := 12, attributes := #[] }, { accessFlags := 74, nameIndex := 175, descriptorIndex := 176, attributes := #[] }, { accessFlags := 10, nameIndex := 491, descriptorIndex := 222, attributes := #[] }, { accessFlags := 74, nameIndex := 29, descriptorIndex := 30, attributes := #[] }, { accessFlags := 74, nameIndex := 154, descriptorIndex := 155, attributes := #[] }, { accessFlags := 10, nameIndex := 217, descriptorIndex := 218, attributes := #[] }, { accessFlags := 10, nameIndex := 221, descriptorIndex := 222, attributes := #[] }, { accessFlags := 8, nameIndex := 562, descriptorIndex := 563, attributes := #[] }])
  fields := #[{ name := "in", type := (.object "java/io/InputStream"), accessFlags := 25, slot := 0, constantValue := 0 }, { name := "out", type := (.object "java/io/PrintStream"), accessFlags := 25, slot := 1, constantValue := 0 }, { name := "err", type := (.object "java/io/PrintStream"), accessFlags := 25, slot := 2, constantValue := 0 }, { name := "initialIn", type := (.object "java/io/InputStream"), accessFlags := 10, slot := 3, constantValue := 0 }, { name := "NEVER", type := .int, accessFlags := 26, slot := 4, constantValue := 0 }, { name := "MAYBE", type := .int, accessFlags := 26, slot := 5, constantValue := 0 }, { name := "allowSecurityManager", type := .int, accessFlags := 10, slot := 6, constantValue := 0 }, { name := "security", type := (.object "java/lang/SecurityManager"), accessFlags := 74, slot := 7, constantValue := 0 }, { name := "notSupportedJnuEncoding", type := (.object "java/lang/String"), accessFlags := 10, slot := 8, constantValue := 0 }, { name := "cons", type := (.object "java/io/Console"), accessFlags := 74, slot := 9, constantValue := 0 }, { name := "initialErrStream", type := (.object "java/io/PrintStream"), accessFlags := 74, slot := 10, constantValue := 0 }, { name := "props", type := (.object "java/util/Properties"), accessFlags := 10, slot := 11, constantValue := 0 }, { name := "lineSeparator", type := (.object "java/lang/String"), accessFlags := 10, slot := 12, constantValue := 0 }, { name := "bootLayer", type := (.object "java/lang/ModuleLayer"), accessFlags := 8, slot := 13, constantValue := 0 }]
  methods := #[k21m0, k21m1]
  instanceTypes := #[]
  staticTypes := #[(.object "java/io/InputStream"), (.object "java/io/PrintStream"), (.object "java/io/PrintStream"), (.object "java/io/InputStream"), .int, .int, .int, (.object "java/lang/SecurityManager"), (.object "java/lang/String"), (.object "java/io/Console"), (.object "java/io/PrintStream"), (.object "java/util/Properties"), (.object "java/lang/String"), (.object "java/lang/ModuleLayer")]
  resolved := Array.replicate 834 none
  statics := none }

def pool22 : Array CpInfo := pool [(4, .class_ 6), (1, u "java/lang/Object"), (0, u "<init>"), (0, u "()V"), (5, .class_ 16), (1, u "java/lang/StringLatin1"), (73, u "canEncode"), (14, u "(C)Z"), (15, u "$assertionsDisabled"), (0, u "Z"), (98, .class_ 223), (1, u "java/lang/StringLatin1$LinesSpliterator"), (166, .class_ 391), (0, u "java/lang/StringLatin1$CharsSpliterator")] 3

def k22m0 : Method := { name := "<init>", desc := "()V", sig := { parameters := [], returnType := none }, accessFlags := 0, code := none }
def k22c1 : Code := { maxStack := 2, maxLocals := 1, code := jdk_43_method_3_code, exceptionTable := #[], attributes := #[] }
def k22m1 : Method := { name := "canEncode", desc := "(C)Z", sig := { parameters := [.char], returnType := some .boolean }, accessFlags := 9, code := some k22c1 }
/-- java/lang/StringLatin1 -/
def k22 : Class := { plain "java/lang/StringLatin1" (some 0) with
  accessFlags := 48
  interfaces := #[]
  cf := some (fileOf pool22 14 #[.nestMembers #[390, 221]] #[{ accessFlags := 0, nameIndex := 7, descriptorIndex := 8, attributes := #[] }, { accessFlags := 9, nameIndex := 90, descriptorIndex := 105, attributes := #[] }] 48 4 #[] #[{ accessFlags := 4120, nameIndex := 121, descriptorIndex := 122, attributes := #[] }])
  fields := #[{ name := "$assertionsDisabled", type := .boolean, accessFlags := 4120, slot := 0, constantValue := 0 }]
  methods := #[k22m0, k22m1]
  instanceTypes := #[]
  staticTypes := #[.boolean]
  resolved := Array.replicate 395 none
  statics := none }

def pool23 : Array CpInfo := pool [(2, .class_ 4), (1, u "java/lang/Object"), (0, u "<init>"), (0, u "()V"), (7, .class_ 16), (1, u "java/util/Arrays"), (57, .class_ 76), (1, u "java/util/Arrays$NaturalOrder"), (36, .class_ 115), (1, u "java/util/Arrays$LegacyMergeSort"), (1, u "Z"), (32, .methodref 151 152), (0, .class_ 153), (0, .nameAndType 154 155), (0, u "java/lang/System"), (0, u "arraycopy"), (0, u "(Ljava/lang/Object;ILjava/lang/Object;II)V"), (146, u "copyOf"), (1, .methodref 305 306), (0, .class_ 307), (0, .nameAndType 308 309), (0, u "java/lang/Math"), (0, u "min"), (0, u "(II)I"), (65, .class_ 376), (0, u "java/util/Arrays$ArrayList"), (68, u "$assertionsDisabled"), (269, u "MIN_ARRAY_SORT_GRAN"), (0, u "I"), (2, u "INSERTIONSORT_THRESHOLD"), (149, u "([BI)[B"), (105, .class_ 976), (0, u "java/util/Arrays$ArrayItr")] 52

def k23m0 : Method := { name := "<init>", desc := "()V", sig := { parameters := [], returnType := none }, accessFlags := 2, code := none }
def k23c1 : Code := { maxStack := 6, maxLocals := 3, code := jdk_65_method_121_code, exceptionTable := #[], attributes := #[] }
def k23m1 : Method := { name := "copyOf", desc := "([BI)[B", sig := { parameters := [(.array .byte), .int], returnType := some (.array .byte) }, accessFlags := 9, code := some k23c1 }
/-- java/util/Arrays -/
def k23 : Class := { plain "java/util/Arrays" (some 0) with
  accessFlags := 49
  interfaces := #[]
  cf := some (fileOf pool23 14 #[.nestMembers #[975, 375, 113, 74]] #[{ accessFlags := 2, nameIndex := 5, descriptorIndex := 6, attributes := #[] }, { accessFlags := 9, nameIndex := 302, descriptorIndex := 869, attributes := #[] }] 49 2 #[] #[{ accessFlags := 26, nameIndex := 715, descriptorIndex := 716, attributes := #[] }, { accessFlags := 26, nameIndex := 719, descriptorIndex := 716, attributes := #[] }, { accessFlags := 4120, nameIndex := 445, descriptorIndex := 117, attributes := #[] }])
  fields := #[{ name := "MIN_ARRAY_SORT_GRAN", type := .int, accessFlags := 26, slot := 0, constantValue := 0 }, { name := "INSERTIONSORT_THRESHOLD", type := .int, accessFlags := 26, slot := 1, constantValue := 0 }, { name := "$assertionsDisabled", type := .boolean, accessFlags := 4120, slot := 2, constantValue := 0 }]
  methods := #[k23m0, k23m1]
  instanceTypes := #[]
  staticTypes := #[.int, .int, .boolean]
  resolved := Array.replicate 1029 none
  statics := none }

def pool24 : Array CpInfo := pool [(2, .class_ 4), (1, u "java/lang/Object"), (0, u "<init>"), (0, u "()V"), (17, .class_ 26), (1, u "jdk/internal/util/Preconditions"), (28, .class_ 56), (0, u "jdk/internal/util/Preconditions$4"), (57, .class_ 115), (0, u "jdk/internal/util/Preconditions$1"), (7, u "SIOOBE_FORMATTER"), (0, u "Ljava/util/function/BiFunction;"), (0, .class_ 126), (0, u "jdk/internal/util/Preconditions$2"), (3, u "AIOOBE_FORMATTER"), (0, .class_ 132), (0, u "jdk/internal/util/Preconditions$3"), (3, u "IOOBE_FORMATTER")] 57

def k24m0 : Method := { name := "<init>", desc := "()V", sig := { parameters := [], returnType := none }, accessFlags := 1, code := none }
/-- jdk/internal/util/Preconditions -/
def k24 : Class := { plain "jdk/internal/util/Preconditions" (some 0) with
  accessFlags := 33
  interfaces := #[]
  cf := some (fileOf pool24 24 #[.nestMembers #[55, 131, 125, 114]] #[{ accessFlags := 1, nameIndex := 5, descriptorIndex := 6, attributes := #[] }] 33 2 #[] #[{ accessFlags := 25, nameIndex := 123, descriptorIndex := 124, attributes := #[] }, { accessFlags := 25, nameIndex := 130, descriptorIndex := 124, attributes := #[] }, { accessFlags := 25, nameIndex := 136, descriptorIndex := 124, attributes := #[] }])
  fields := #[{ name := "SIOOBE_FORMATTER", type := (.object "java/util/function/BiFunction"), accessFlags := 25, slot := 0, constantValue := 0 }, { name := "AIOOBE_FORMATTER", type := (.object "java/util/function/BiFunction"), accessFlags := 25, slot := 1, constantValue := 0 }, { name := "IOOBE_FORMATTER", type := (.object "java/util/function/BiFunction"), accessFlags := 25, slot := 2, constantValue := 0 }]
  methods := #[k24m0]
  instanceTypes := #[]
  staticTypes := #[(.object "java/util/function/BiFunction"), (.object "java/util/function/BiFunction"), (.object "java/util/function/BiFunction")]
  resolved := Array.replicate 194 none
  statics := some 3 }

def pool25 : Array CpInfo := pool [(9, u "<init>"), (6, .class_ 18), (1, u "java/lang/Object"), (0, u "()V"), (1, .class_ 23), (1, u "jdk/internal/util/ArraysSupport"), (0, u "LOG2_ARRAY_LONG_INDEX_SCALE"), (0, u "I"), (2, u "U"), (0, u "Ljdk/internal/misc/Unsafe;"), (8, u "BIG_ENDIAN"), (0, u "Z"), (8, u "LOG2_BYTE_BIT_SIZE"), (4, u "LOG2_ARRAY_INT_INDEX_SCALE"), (54, u "JLA"), (0, u "Ljdk/internal/access/JavaLangAccess;"), (11, u "LOG2_ARRAY_BOOLEAN_INDEX_SCALE"), (9, u "LOG2_ARRAY_BYTE_INDEX_SCALE"), (5, u "LOG2_ARRAY_CHAR_INDEX_SCALE"), (5, u "LOG2_ARRAY_SHORT_INDEX_SCALE"), (18, u "LOG2_ARRAY_FLOAT_INDEX_SCALE"), (24, u "LOG2_ARRAY_DOUBLE_INDEX_SCALE"), (89, u "T_BOOLEAN"), (2, u "T_CHAR"), (1, u "T_FLOAT"), (1, u "T_DOUBLE"), (1, u "T_BYTE"), (1, u "T_SHORT"), (1, u "T_INT"), (1, u "T_LONG"), (1, u "SOFT_MAX_ARRAY_LENGTH")] 83

def k25m0 : Method := { name := "<init>", desc := "()V", sig := { parameters := [], returnType := none }, accessFlags := 2, code := none }
/-- jdk/internal/util/ArraysSupport -/
def k25 : Class := { plain "jdk/internal/util/ArraysSupport" (some 0) with
  accessFlags := 33
  interfaces := #[]
  cf := some (fileOf pool25 21 #[] #[{ accessFlags := 2, nameIndex := 9, descriptorIndex := 19, attributes := #[] }] 33 16 #[] #[{ accessFlags := 24, nameIndex := 28, descriptorIndex := 29, attributes := #[] }, { accessFlags := 26, nameIndex := 38, descriptorIndex := 39, attributes := #[] }, { accessFlags := 25, nameIndex := 121, descriptorIndex := 25, attributes := #[] }, { accessFlags := 25, nameIndex := 131, descriptorIndex := 25, attributes := #[] }, { accessFlags := 25, nameIndex := 137, descriptorIndex := 25, attributes := #[] }, { accessFlags := 25, nameIndex := 143, descriptorIndex := 25, attributes := #[] }, { accessFlags := 25, nameIndex := 53, descriptorIndex := 25, attributes := #[] }, { accessFlags := 25, nameIndex := 24, descriptorIndex := 25, attributes := #[] }, { accessFlags := 25, nameIndex := 162, descriptorIndex := 25, attributes := #[] }, { accessFlags := 25, nameIndex := 187, descriptorIndex := 25, attributes := #[] }, { accessFlags := 26, nameIndex := 48, descriptorIndex := 25, attributes := #[] }, { accessFlags := 25, nameIndex := 277, descriptorIndex := 25, attributes := #[] }, { accessFlags := 25, nameIndex := 280, descriptorIndex := 25, attributes := #[] }, { accessFlags := 25, nameIndex := 282, descriptorIndex := 25, attributes := #[] }, { accessFlags := 25, nameIndex := 284, descriptorIndex := 25, attributes := #[] }, { accessFlags := 25, nameIndex := 286, descriptorIndex := 25, attributes := #[] }, { accessFlags := 25, nameIndex := 288, descriptorIndex := 25, attributes := #[] }, { accessFlags := 25, nameIndex := 290, descriptorIndex := 25, attributes := #[] }, { accessFlags := 25, nameIndex := 292, descriptorIndex := 25, attributes := #[] }, { accessFlags := 26, nameIndex := 108, descriptorIndex := 109, attributes := #[] }, { accessFlags := 25, nameIndex := 294, descriptorIndex := 25, attributes := #[] }])
  fields := #[{ name := "U", type := (.object "jdk/internal/misc/Unsafe"), accessFlags := 24, slot := 0, constantValue := 0 }, { name := "BIG_ENDIAN", type := .boolean, accessFlags := 26, slot := 1, constantValue := 0 }, { name := "LOG2_ARRAY_BOOLEAN_INDEX_SCALE", type := .int, accessFlags := 25, slot := 2, constantValue := 0 }, { name := "LOG2_ARRAY_BYTE_INDEX_SCALE", type := .int, accessFlags := 25, slot := 3, constantValue := 0 }, { name := "LOG2_ARRAY_CHAR_INDEX_SCALE", type := .int, accessFlags := 25, slot := 4, constantValue := 0 }, { name := "LOG2_ARRAY_SHORT_INDEX_SCALE", type := .int, accessFlags := 25, slot := 5, constantValue := 0 }, { name := "LOG2_ARRAY_INT_INDEX_SCALE", type := .int, accessFlags := 25, slot := 6, constantValue := 0 }, { name := "LOG2_ARRAY_LONG_INDEX_SCALE", type := .int, accessFlags := 25, slot := 7, constantValue := 0 }, { name := "LOG2_ARRAY_FLOAT_INDEX_SCALE", type := .int, accessFlags := 25, slot := 8, constantValue := 0 }, { name := "LOG2_ARRAY_DOUBLE_INDEX_SCALE", type := .int, accessFlags := 25, slot := 9, constantValue := 0 }, { name := "LOG2_BYTE_BIT_SIZE", type := .int, accessFlags := 26, slot := 10, constantValue := 0 }, { name := "T_BOOLEAN", type := .int, accessFlags := 25, slot := 11, constantValue := 0 }, { name := "T_CHAR", type := .int, accessFlags := 25, slot := 12, constantValue := 0 }, { name := "T_FLOAT", type := .int, accessFlags := 25, slot := 13, constantValue := 0 }, { name := "T_DOUBLE", type := .int, accessFlags := 25, slot := 14, constantValue := 0 }, { name := "T_BYTE", type := .int, accessFlags := 25, slot := 15, constantValue := 0 }, { name := "T_SHORT", type := .int, accessFlags := 25, slot := 16, constantValue := 0 }, { name := "T_INT", type := .int, accessFlags := 25, slot := 17, constantValue := 0 }, { name := "T_LONG", type := .int, accessFlags := 25, slot := 18, constantValue := 0 }, { name := "JLA", type := (.object "jdk/internal/access/JavaLangAccess"), accessFlags := 26, slot := 19, constantValue := 0 }, { name := "SOFT_MAX_ARRAY_LENGTH", type := .int, accessFlags := 25, slot := 20, constantValue := 0 }]
  methods := #[k25m0]
  instanceTypes := #[]
  staticTypes := #[(.object "jdk/internal/misc/Unsafe"), .boolean, .int, .int, .int, .int, .int, .int, .int, .int, .int, .int, .int, .int, .int, .int, .int, .int, .int, (.object "jdk/internal/access/JavaLangAccess"), .int]
  resolved := Array.replicate 378 none
  statics := none }

def pool26 : Array CpInfo := pool [(1, u "java/lang/Cloneable"), (0, .class_ 1), (0, u "java/lang/Object"), (0, .class_ 3)] 3

/-- java/lang/Cloneable -/
def k26 : Class := { plain "java/lang/Cloneable" (some 0) with
  accessFlags := 1537
  interfaces := #[]
  cf := some (fileOf pool26 2 #[] #[] 1537 4 #[] #[])
  fields := #[]
  methods := #[]
  instanceTypes := #[]
  staticTypes := #[]
  resolved := Array.replicate 8 none
  statics := none }

/-- the primitive byte -/
def k27 : Class := { plain "byte" none with kind := .primitive 'B', accessFlags := 0x411 }
/-- [B -/
def k28 : Class := { plain "[B" (some 0) with kind := .array 27 .byte, interfaces := #[26, 12], accessFlags := 1041 }

/-- the primitive int -/
def k29 : Class := { plain "int" none with kind := .primitive 'I', accessFlags := 0x411 }
/-- [I -/
def k30 : Class := { plain "[I" (some 0) with kind := .array 29 .int, interfaces := #[26, 12], accessFlags := 1041 }

def heap : Heap := #[{ cls := 2, slots := #[.ref 4], vm := .statics 2 },
  { cls := 17, slots := #[.long 0, .int 1, .null, .int 0, .null, .int 0, .int 0], vm := .statics 17 },
  { cls := 19, slots := #[.ref 5, .ref 7, .null, .null, .ref 6, .null], vm := .statics 19 },
  { cls := 24, slots := #[.null, .null, .null], vm := .statics 24 },
  { cls := 28, slots := #[], vm := .none },
  { cls := 19, slots := #[.null, .int 0, .int 0], vm := .none },
  { cls := 19, slots := #[.null, .int 4, .int 0], vm := .none },
  { cls := 19, slots := #[.null, .int 1, .int 0], vm := .none }]
def classes : Array Class := #[k0, k1, k2, k3, k4, k5, k6, k7, k8, k9, k10, k11, k12, k13, k14, k15, k16, k17, k18, k19, k20, k21, k22, k23, k24, k25, k26, k27, k28, k29, k30]
def interned : List (Array UInt16 × Addr) := []
def slotsUsed : Nat := 26
def theMethod : MethodId := ⟨1, 1⟩
def args0 : Array Value := #[.long 5, .int 7, .int 3, .int 2]
def aboutOver (below : List Frame) : State where
  vm := { classes := classes, interned := interned.toArray }
  heap := heap
  slotsUsed := slotsUsed
  threads := #[{ frames := .invoking theMethod args0 :: below }]
def below0 : List Frame := [.native { method := ⟨0, 0⟩, args := #[] }]
def about1 : State := aboutOver below0
def p0 : Program := .bare "" "" ""
def e0 : Env := launch0.env 0 0 0
theorem w_frames : about1.frames = Frame.invoking theMethod args0 :: below0 := rfl
set_option maxRecDepth 65536 in
theorem w_args : argsFit about1.vm theMethod args0 = true := by decide +kernel
set_option maxRecDepth 65536 in
theorem w_heap : heapFits about1 = true := by decide +kernel
set_option maxRecDepth 65536 in
theorem w_runnable : about1.curStatus? = some .runnable := by decide +kernel
set_option maxRecDepth 65536 in
theorem w_alone : about1.alone = true := by decide +kernel
set_option maxRecDepth 65536 in
theorem w_named : about1.methodNamed? x = some theMethod := by decide +kernel
set_option maxRecDepth 65536 in
theorem w_hears : about1.hears theMethod below0 = true := by decide +kernel
set_option maxRecDepth 65536 in
theorem w_ripe : about1.ripe theMethod args0 below0 = true := by decide +kernel
theorem w_running : about1.status = .running := rfl
set_option maxRecDepth 65536 in
theorem w_room : about1.hasRoom e0.platform room_1 = true :=
  launch0.hasRoom_least _ room_1 (by decide +kernel) (by decide +kernel) (by decide +kernel) (by decide +kernel) (by decide +kernel) (by decide +kernel)
theorem allAtoms_all (ts : List Jvm.Cond) (a : Array Jvm.Value) (st : Jvm.State) : (allAtoms ts).before a st = ts.all (fun c => c.before a st) := by
  induction ts with
  | nil => rfl
  | cons c t ih =>
    show (Jvm.Cond.and c (allAtoms t)).before a st = _
    rw [Jvm.Cond.before_and, ih, List.all_cons]
def words1 : List Jvm.Cond := Jvm.Cond.code x code maxLocals ret :: tables_1
/-- a 'code' word, met by the world's own term for the bytes: nothing is compared byte by byte -/
theorem code_word {y : MethodName} {bytes : ByteArray} {mx : Nat} {rt : Option FieldType} {a : Array Value} {s : State} {m : MethodId} {meth : Method} {c : Code} (h1 : s.methodNamed? y = some m) (h2 : s.vm.method? m = some meth) (h3 : meth.code = some c) (h4 : c.code = bytes)
    (h5 : (c.maxLocals == mx && c.exceptionTable.isEmpty && decide (c.maxStack ≤ mostOperands) && decide (meth.sig.returnType = rt) && !meth.locks && decide (parseMethodDescriptor y.desc = some meth.sig)) = true) : (Jvm.Cond.code y bytes mx rt).before a s = true := by
  simp only [Bool.and_eq_true, beq_iff_eq, Bool.not_eq_true', decide_eq_true_eq] at h5
  obtain ⟨⟨⟨⟨⟨g1, g2⟩, g3⟩, g4⟩, g5⟩, g6⟩ := h5
  simp [Cond.before, Cond.holds, Cond.value, h1, h2, h3, h4, g1, g2, g3, g4, g5, g6]
def isCode : Jvm.Cond → Bool
  | .code _ _ _ _ => true
  | _ => false
theorem all_split {L : List Jvm.Cond} {P : Jvm.Cond → Bool} (h1 : L.all (fun c => isCode c || P c) = true) (h2 : ∀ c ∈ L.filter isCode, P c = true) : L.all P = true := by
  refine List.all_eq_true.mpr fun c hc => ?_
  have h := List.all_eq_true.mp h1 c hc
  rcases Bool.eq_false_or_eq_true (isCode c) with hi | hi
  · exact h2 c (List.mem_filter.mpr ⟨hc, hi⟩)
  · simpa [hi] using h
set_option maxRecDepth 65536 in
theorem w_c0 : (Jvm.Cond.code x code maxLocals ret).before args0 about1 = true := code_word (m := ⟨1, 1⟩) (meth := k1m1) (c := k1c1) (by decide +kernel) rfl rfl rfl (by decide +kernel)
set_option maxRecDepth 65536 in
theorem w_c1 : (Jvm.Cond.code ({ cls := "com/example/gatehook/gatehook/http/IncomingBody", name := "<init>", desc := "(JI)V" } : Jvm.MethodName) prog_42_method_1_code (4 : Nat) (Option.none : Option Jvm.ClassFile.FieldType)).before args0 about1 = true := code_word (m := ⟨2, 0⟩) (meth := k2m0) (c := k2c0) (by decide +kernel) rfl rfl rfl (by decide +kernel)
set_option maxRecDepth 65536 in
theorem w_c2 : (Jvm.Cond.code ({ cls := "java/lang/Object", name := "<init>", desc := "()V" } : Jvm.MethodName) object_method_1_code (1 : Nat) (Option.none : Option Jvm.ClassFile.FieldType)).before args0 about1 = true := code_word (m := ⟨0, 0⟩) (meth := k0m0) (c := k0c0) (by decide +kernel) rfl rfl rfl (by decide +kernel)
set_option maxRecDepth 65536 in
theorem w_c3 : (Jvm.Cond.code ({ cls := "com/example/gatehook/gatehook/http/ChunkedBody", name := "<init>", desc := "(I)V" } : Jvm.MethodName) prog_38_method_1_code (2 : Nat) (Option.none : Option Jvm.ClassFile.FieldType)).before args0 about1 = true := code_word (m := ⟨3, 0⟩) (meth := k3m0) (c := k3c0) (by decide +kernel) rfl rfl rfl (by decide +kernel)
set_option maxRecDepth 65536 in
theorem w_c4 : (Jvm.Cond.code ({ cls := "java/io/ByteArrayOutputStream", name := "<init>", desc := "()V" } : Jvm.MethodName) jdk_2005_method_1_code (1 : Nat) (Option.none : Option Jvm.ClassFile.FieldType)).before args0 about1 = true := code_word (m := ⟨8, 0⟩) (meth := k8m0) (c := k8c0) (by decide +kernel) rfl rfl rfl (by decide +kernel)
set_option maxRecDepth 65536 in
theorem w_c5 : (Jvm.Cond.code ({ cls := "java/io/ByteArrayOutputStream", name := "<init>", desc := "(I)V" } : Jvm.MethodName) jdk_2005_method_2_code (2 : Nat) (Option.none : Option Jvm.ClassFile.FieldType)).before args0 about1 = true := code_word (m := ⟨8, 1⟩) (meth := k8m1) (c := k8c1) (by decide +kernel) rfl rfl rfl (by decide +kernel)
set_option maxRecDepth 65536 in
theorem w_c6 : (Jvm.Cond.code ({ cls := "java/io/OutputStream", name := "<init>", desc := "()V" } : Jvm.MethodName) jdk_2038_method_1_code (1 : Nat) (Option.none : Option Jvm.ClassFile.FieldType)).before args0 about1 = true := code_word (m := ⟨7, 0⟩) (meth := k7m0) (c := k7c0) (by decide +kernel) rfl rfl rfl (by decide +kernel)
set_option maxRecDepth 65536 in
theorem w_c7 : (Jvm.Cond.code ({ cls := "java/lang/StringBuilder", name := "<init>", desc := "()V" } : Jvm.MethodName) jdk_67_method_1_code (1 : Nat) (Option.none : Option Jvm.ClassFile.FieldType)).before args0 about1 = true := code_word (m := ⟨14, 0⟩) (meth := k14m0) (c := k14c0) (by decide +kernel) rfl rfl rfl (by decide +kernel)
set_option maxRecDepth 65536 in
theorem w_c8 : (Jvm.Cond.code ({ cls := "java/lang/AbstractStringBuilder", name := "<init>", desc := "(I)V" } : Jvm.MethodName) jdk_68_method_2_code (2 : Nat) (Option.none : Option Jvm.ClassFile.FieldType)).before args0 about1 = true := code_word (m := ⟨11, 1⟩) (meth := k11m1) (c := k11c1) (by decide +kernel) rfl rfl rfl (by decide +kernel)
set_option maxRecDepth 65536 in
theorem w_c9 : (Jvm.Cond.code ({ cls := "com/example/gatehook/gatehook/http/IncomingBody", name := "lastsUntilClose", desc := "()Z" } : Jvm.MethodName) prog_42_method_5_code (1 : Nat) (Option.some Jvm.ClassFile.FieldType.boolean)).before args0 about1 = true := code_word (m := ⟨2, 2⟩) (meth := k2m2) (c := k2c2) (by decide +kernel) rfl rfl rfl (by decide +kernel)
set_option maxRecDepth 65536 in
theorem w_c10 : (Jvm.Cond.code ({ cls := "com/example/gatehook/gatehook/http/IncomingBody", name := "take", desc := "([BII)I" } : Jvm.MethodName) prog_42_method_2_code (7 : Nat) (Option.some Jvm.ClassFile.FieldType.int)).before args0 about1 = true := code_word (m := ⟨2, 1⟩) (meth := k2m1) (c := k2c1) (by decide +kernel) rfl rfl rfl (by decide +kernel)
set_option maxRecDepth 65536 in
theorem w_c11 : (Jvm.Cond.code ({ cls := "com/example/gatehook/gatehook/http/ChunkedBody", name := "take", desc := "([BII)I" } : Jvm.MethodName) prog_38_method_2_code (7 : Nat) (Option.some Jvm.ClassFile.FieldType.int)).before args0 about1 = true := code_word (m := ⟨3, 1⟩) (meth := k3m1) (c := k3c1) (by decide +kernel) rfl rfl rfl (by decide +kernel)
set_option maxRecDepth 65536 in
theorem w_c12 : (Jvm.Cond.code ({ cls := "com/example/gatehook/gatehook/http/ChunkedBody", name := "isEnded", desc := "()Z" } : Jvm.MethodName) prog_38_method_3_code (1 : Nat) (Option.some Jvm.ClassFile.FieldType.boolean)).before args0 about1 = true := code_word (m := ⟨3, 2⟩) (meth := k3m2) (c := k3c2) (by decide +kernel) rfl rfl rfl (by decide +kernel)
set_option maxRecDepth 65536 in
theorem w_c13 : (Jvm.Cond.code ({ cls := "java/lang/Math", name := "min", desc := "(JJ)J" } : Jvm.MethodName) jdk_29_method_70_code (4 : Nat) (Option.some Jvm.ClassFile.FieldType.long)).before args0 about1 = true := code_word (m := ⟨20, 3⟩) (meth := k20m3) (c := k20c3) (by decide +kernel) rfl rfl rfl (by decide +kernel)
set_option maxRecDepth 65536 in
theorem w_c14 : (Jvm.Cond.code ({ cls := "com/example/gatehook/gatehook/http/IncomingBody", name := "grown", desc := "([BIJ)[B" } : Jvm.MethodName) prog_42_method_8_code (4 : Nat) (Option.some (Jvm.ClassFile.FieldType.array Jvm.ClassFile.FieldType.byte))).before args0 about1 = true := code_word (m := ⟨2, 3⟩) (meth := k2m3) (c := k2c3) (by decide +kernel) rfl rfl rfl (by decide +kernel)
set_option maxRecDepth 65536 in
theorem w_c15 : (Jvm.Cond.code ({ cls := "com/example/gatehook/gatehook/http/ChunkedBody", name := "lineByte", desc := "(B)V" } : Jvm.MethodName) prog_38_method_6_code (5 : Nat) (Option.none : Option Jvm.ClassFile.FieldType)).before args0 about1 = true := code_word (m := ⟨3, 3⟩) (meth := k3m3) (c := k3c3) (by decide +kernel) rfl rfl rfl (by decide +kernel)
set_option maxRecDepth 65536 in
theorem w_c16 : (Jvm.Cond.code ({ cls := "java/lang/Enum", name := "ordinal", desc := "()I" } : Jvm.MethodName) jdk_37_method_2_code (1 : Nat) (Option.some Jvm.ClassFile.FieldType.int)).before args0 about1 = true := code_word (m := ⟨18, 0⟩) (meth := k18m0) (c := k18c0) (by decide +kernel) rfl rfl rfl (by decide +kernel)
set_option maxRecDepth 65536 in
theorem w_c17 : (Jvm.Cond.code ({ cls := "java/lang/StringBuilder", name := "length", desc := "()I" } : Jvm.MethodName) jdk_67_method_93_code (1 : Nat) (Option.some Jvm.ClassFile.FieldType.int)).before args0 about1 = true := code_word (m := ⟨14, 2⟩) (meth := k14m2) (c := k14c2) (by decide +kernel) rfl rfl rfl (by decide +kernel)
set_option maxRecDepth 65536 in
theorem w_c18 : (Jvm.Cond.code ({ cls := "java/lang/AbstractStringBuilder", name := "length", desc := "()I" } : Jvm.MethodName) jdk_68_method_6_code (1 : Nat) (Option.some Jvm.ClassFile.FieldType.int)).before args0 about1 = true := code_word (m := ⟨11, 2⟩) (meth := k11m2) (c := k11c2) (by decide +kernel) rfl rfl rfl (by decide +kernel)
set_option maxRecDepth 65536 in
theorem w_c19 : (Jvm.Cond.code ({ cls := "java/lang/StringBuilder", name := "append", desc := "(C)Ljava/lang/StringBuilder;" } : Jvm.MethodName) jdk_67_method_14_code (2 : Nat) (Option.some (Jvm.ClassFile.FieldType.object "java/lang/StringBuilder"))).before args0 about1 = true := code_word (m := ⟨14, 1⟩) (meth := k14m1) (c := k14c1) (by decide +kernel) rfl rfl rfl (by decide +kernel)
set_option maxRecDepth 65536 in
theorem w_c20 : (Jvm.Cond.code ({ cls := "java/lang/AbstractStringBuilder", name := "append", desc := "(C)Ljava/lang/AbstractStringBuilder;" } : Jvm.MethodName) jdk_68_method_31_code (2 : Nat) (Option.some (Jvm.ClassFile.FieldType.object "java/lang/AbstractStringBuilder"))).before args0 about1 = true := code_word (m := ⟨11, 4⟩) (meth := k11m4) (c := k11c4) (by decide +kernel) rfl rfl rfl (by decide +kernel)
set_option maxRecDepth 65536 in
theorem w_c21 : (Jvm.Cond.code ({ cls := "java/lang/AbstractStringBuilder", name := "ensureCapacityInternal", desc := "(I)V" } : Jvm.MethodName) jdk_68_method_9_code (3 : Nat) (Option.none : Option Jvm.ClassFile.FieldType)).before args0 about1 = true := code_word (m := ⟨11, 3⟩) (meth := k11m3) (c := k11c3) (by decide +kernel) rfl rfl rfl (by decide +kernel)
set_option maxRecDepth 65536 in
theorem w_c22 : (Jvm.Cond.code ({ cls := "java/lang/AbstractStringBuilder", name := "isLatin1", desc := "()Z" } : Jvm.MethodName) jdk_68_method_68_code (1 : Nat) (Option.some Jvm.ClassFile.FieldType.boolean)).before args0 about1 = true := code_word (m := ⟨11, 5⟩) (meth := k11m5) (c := k11c5) (by decide +kernel) rfl rfl rfl (by decide +kernel)
set_option maxRecDepth 65536 in
theorem w_c23 : (Jvm.Cond.code ({ cls := "java/lang/StringLatin1", name := "canEncode", desc := "(C)Z" } : Jvm.MethodName) jdk_43_method_3_code (1 : Nat) (Option.some Jvm.ClassFile.FieldType.boolean)).before args0 about1 = true := code_word (m := ⟨22, 1⟩) (meth := k22m1) (c := k22c1) (by decide +kernel) rfl rfl rfl (by decide +kernel)
set_option maxRecDepth 65536 in
theorem w_c24 : (Jvm.Cond.code ({ cls := "java/lang/Math", name := "max", desc := "(JJ)J" } : Jvm.MethodName) jdk_29_method_66_code (4 : Nat) (Option.some Jvm.ClassFile.FieldType.long)).before args0 about1 = true := code_word (m := ⟨20, 1⟩) (meth := k20m1) (c := k20c1) (by decide +kernel) rfl rfl rfl (by decide +kernel)
set_option maxRecDepth 65536 in
theorem w_c25 : (Jvm.Cond.code ({ cls := "java/util/Arrays", name := "copyOf", desc := "([BI)[B" } : Jvm.MethodName) jdk_65_method_121_code (3 : Nat) (Option.some (Jvm.ClassFile.FieldType.array Jvm.ClassFile.FieldType.byte))).before args0 about1 = true := code_word (m := ⟨23, 1⟩) (meth := k23m1) (c := k23c1) (by decide +kernel) rfl rfl rfl (by decide +kernel)
set_option maxRecDepth 65536 in
theorem w_c26 : (Jvm.Cond.code ({ cls := "java/lang/Math", name := "min", desc := "(II)I" } : Jvm.MethodName) jdk_29_method_69_code (2 : Nat) (Option.some Jvm.ClassFile.FieldType.int)).before args0 about1 = true := code_word (m := ⟨20, 2⟩) (meth := k20m2) (c := k20c2) (by decide +kernel) rfl rfl rfl (by decide +kernel)
def codes1 : List Jvm.Cond := [Jvm.Cond.code x code maxLocals ret, Jvm.Cond.code ({ cls := "com/example/gatehook/gatehook/http/IncomingBody", name := "<init>", desc := "(JI)V" } : Jvm.MethodName) prog_42_method_1_code (4 : Nat) (Option.none : Option Jvm.ClassFile.FieldType), Jvm.Cond.code ({ cls := "java/lang/Object", name := "<init>", desc := "()V" } : Jvm.MethodName) object_method_1_code (1 : Nat) (Option.none : Option Jvm.ClassFile.FieldType), Jvm.Cond.code ({ cls := "com/example/gatehook/gatehook/http/ChunkedBody", name := "<init>", desc := "(I)V" } : Jvm.MethodName) prog_38_method_1_code (2 : Nat) (Option.none : Option Jvm.ClassFile.FieldType), Jvm.Cond.code ({ cls := "java/io/ByteArrayOutputStream", name := "<init>", desc := "()V" } : Jvm.MethodName) jdk_2005_method_1_code (1 : Nat) (Option.none : Option Jvm.ClassFile.FieldType), Jvm.Cond.code ({ cls := "java/io/ByteArrayOutputStream", name := "<init>", desc := "(I)V" } : Jvm.MethodName) jdk_2005_method_2_code (2 : Nat) (Option.none : Option Jvm.ClassFile.FieldType), Jvm.Cond.code ({ cls := "java/io/OutputStream", name := "<init>", desc := "()V" } : Jvm.MethodName) jdk_2038_method_1_code (1 : Nat) (Option.none : Option Jvm.ClassFile.FieldType), Jvm.Cond.code ({ cls := "java/lang/StringBuilder", name := "<init>", desc := "()V" } : Jvm.MethodName) jdk_67_method_1_code (1 : Nat) (Option.none : Option Jvm.ClassFile.FieldType), Jvm.Cond.code ({ cls := "java/lang/AbstractStringBuilder", name := "<init>", desc := "(I)V" } : Jvm.MethodName) jdk_68_method_2_code (2 : Nat) (Option.none : Option Jvm.ClassFile.FieldType), Jvm.Cond.code ({ cls := "com/example/gatehook/gatehook/http/IncomingBody", name := "lastsUntilClose", desc := "()Z" } : Jvm.MethodName) prog_42_method_5_code (1 : Nat) (Option.some Jvm.ClassFile.FieldType.boolean), Jvm.Cond.code ({ cls := "com/example/gatehook/gatehook/http/IncomingBody", name := "take", desc := "([BII)I" } : Jvm.MethodName) prog_42_method_2_code (7 : Nat) (Option.some Jvm.ClassFile.FieldType.int), Jvm.Cond.code ({ cls := "com/example/gatehook/gatehook/http/ChunkedBody", name := "take", desc := "([BII)I" } : Jvm.MethodName) prog_38_method_2_code (7 : Nat) (Option.some Jvm.ClassFile.FieldType.int), Jvm.Cond.code ({ cls := "com/example/gatehook/gatehook/http/ChunkedBody", name := "isEnded", desc := "()Z" } : Jvm.MethodName) prog_38_method_3_code (1 : Nat) (Option.some Jvm.ClassFile.FieldType.boolean), Jvm.Cond.code ({ cls := "java/lang/Math", name := "min", desc := "(JJ)J" } : Jvm.MethodName) jdk_29_method_70_code (4 : Nat) (Option.some Jvm.ClassFile.FieldType.long), Jvm.Cond.code ({ cls := "com/example/gatehook/gatehook/http/IncomingBody", name := "grown", desc := "([BIJ)[B" } : Jvm.MethodName) prog_42_method_8_code (4 : Nat) (Option.some (Jvm.ClassFile.FieldType.array Jvm.ClassFile.FieldType.byte)), Jvm.Cond.code ({ cls := "com/example/gatehook/gatehook/http/ChunkedBody", name := "lineByte", desc := "(B)V" } : Jvm.MethodName) prog_38_method_6_code (5 : Nat) (Option.none : Option Jvm.ClassFile.FieldType), Jvm.Cond.code ({ cls := "java/lang/Enum", name := "ordinal", desc := "()I" } : Jvm.MethodName) jdk_37_method_2_code (1 : Nat) (Option.some Jvm.ClassFile.FieldType.int), Jvm.Cond.code ({ cls := "java/lang/StringBuilder", name := "length", desc := "()I" } : Jvm.MethodName) jdk_67_method_93_code (1 : Nat) (Option.some Jvm.ClassFile.FieldType.int), Jvm.Cond.code ({ cls := "java/lang/AbstractStringBuilder", name := "length", desc := "()I" } : Jvm.MethodName) jdk_68_method_6_code (1 : Nat) (Option.some Jvm.ClassFile.FieldType.int), Jvm.Cond.code ({ cls := "java/lang/StringBuilder", name := "append", desc := "(C)Ljava/lang/StringBuilder;" } : Jvm.MethodName) jdk_67_method_14_code (2 : Nat) (Option.some (Jvm.ClassFile.FieldType.object "java/lang/StringBuilder")), Jvm.Cond.code ({ cls := "java/lang/AbstractStringBuilder", name := "append", desc := "(C)Ljava/lang/AbstractStringBuilder;" } : Jvm.MethodName) jdk_68_method_31_code (2 : Nat) (Option.some (Jvm.ClassFile.FieldType.object "java/lang/AbstractStringBuilder")), Jvm.Cond.code ({ cls := "java/lang/AbstractStringBuilder", name := "ensureCapacityInternal", desc := "(I)V" } : Jvm.MethodName) jdk_68_method_9_code (3 : Nat) (Option.none : Option Jvm.ClassFile.FieldType), Jvm.Cond.code ({ cls := "java/lang/AbstractStringBuilder", name := "isLatin1", desc := "()Z" } : Jvm.MethodName) jdk_68_method_68_code (1 : Nat) (Option.some Jvm.ClassFile.FieldType.boolean), Jvm.Cond.code ({ cls := "java/lang/StringLatin1", name := "canEncode", desc := "(C)Z" } : Jvm.MethodName) jdk_43_method_3_code (1 : Nat) (Option.some Jvm.ClassFile.FieldType.boolean), Jvm.Cond.code ({ cls := "java/lang/Math", name := "max", desc := "(JJ)J" } : Jvm.MethodName) jdk_29_method_66_code (4 : Nat) (Option.some Jvm.ClassFile.FieldType.long), Jvm.Cond.code ({ cls := "java/util/Arrays", name := "copyOf", desc := "([BI)[B" } : Jvm.MethodName) jdk_65_method_121_code (3 : Nat) (Option.some (Jvm.ClassFile.FieldType.array Jvm.ClassFile.FieldType.byte)), Jvm.Cond.code ({ cls := "java/lang/Math", name := "min", desc := "(II)I" } : Jvm.MethodName) jdk_29_method_69_code (2 : Nat) (Option.some Jvm.ClassFile.FieldType.int)]
set_option maxRecDepth 65536 in
theorem codes_eq : words1.filter isCode = codes1 := rfl
theorem w_codes : ∀ c ∈ words1.filter isCode, c.before args0 about1 = true := by
  rw [codes_eq]
  intro c hc
  simp only [codes1, List.mem_cons, List.not_mem_nil, or_false] at hc
  rcases hc with rfl | rfl | rfl | rfl | rfl | rfl | rfl | rfl | rfl | rfl | rfl | rfl | rfl | rfl | rfl | rfl | rfl | rfl | rfl | rfl | rfl | rfl | rfl | rfl | rfl | rfl | rfl
  · exact w_c0
  · exact w_c1
  · exact w_c2
  · exact w_c3
  · exact w_c4
  · exact w_c5
  · exact w_c6
  · exact w_c7
  · exact w_c8
  · exact w_c9
  · exact w_c10
  · exact w_c11
  · exact w_c12
  · exact w_c13
  · exact w_c14
  · exact w_c15
  · exact w_c16
  · exact w_c17
  · exact w_c18
  · exact w_c19
  · exact w_c20
  · exact w_c21
  · exact w_c22
  · exact w_c23
  · exact w_c24
  · exact w_c25
  · exact w_c26
set_option maxRecDepth 65536 in
theorem w_t1 : (words1.take 24).all (fun c => isCode c || c.before args0 about1) = true := by decide +kernel
set_option maxRecDepth 65536 in
theorem w_t2 : ((words1.drop 24).take 24).all (fun c => isCode c || c.before args0 about1) = true := by decide +kernel
set_option maxRecDepth 65536 in
theorem w_t3 : (((words1.drop 24).drop 24).take 24).all (fun c => isCode c || c.before args0 about1) = true := by decide +kernel
set_option maxRecDepth 65536 in
theorem w_t4 : ((((words1.drop 24).drop 24).drop 24).take 24).all (fun c => isCode c || c.before args0 about1) = true := by decide +kernel
set_option maxRecDepth 65536 in
theorem w_t5 : (((((words1.drop 24).drop 24).drop 24).drop 24).take 24).all (fun c => isCode c || c.before args0 about1) = true := by decide +kernel
set_option maxRecDepth 65536 in
theorem w_t6 : ((((((words1.drop 24).drop 24).drop 24).drop 24).drop 24).take 24).all (fun c => isCode c || c.before args0 about1) = true := by decide +kernel
set_option maxRecDepth 65536 in
theorem w_t7 : (((((((words1.drop 24).drop 24).drop 24).drop 24).drop 24).drop 24).take 24).all (fun c => isCode c || c.before args0 about1) = true := by decide +kernel
set_option maxRecDepth 65536 in
theorem w_t8 : (((((((words1.drop 24).drop 24).drop 24).drop 24).drop 24).drop 24).drop 24).all (fun c => isCode c || c.before args0 about1) = true := by decide +kernel
theorem w_tables : (allAtoms (Jvm.Cond.code x code maxLocals ret :: tables_1)).before args0 about1 = true := by
  rw [allAtoms_all]
  show words1.all (fun c => c.before args0 about1) = true
  refine all_split ?_ w_codes
  rw [← List.take_append_drop 24 words1, List.all_append, w_t1, ← List.take_append_drop 24 (words1.drop 24), List.all_append, w_t2, ← List.take_append_drop 24 ((words1.drop 24).drop 24), List.all_append, w_t3, ← List.take_append_drop 24 (((words1.drop 24).drop 24).drop 24), List.all_append, w_t4, ← List.take_append_drop 24 ((((words1.drop 24).drop 24).drop 24).drop 24), List.all_append, w_t5, ← List.take_append_drop 24 (((((words1.drop 24).drop 24).drop 24).drop 24).drop 24), List.all_append, w_t6, ← List.take_append_drop 24 ((((((words1.drop 24).drop 24).drop 24).drop 24).drop 24).drop 24), List.all_append, w_t7, w_t8]
  rfl
set_option maxRecDepth 65536 in
theorem w_rest : rest_1_c.before args0 about1 = true := by decide +kernel
set_option maxRecDepth 65536 in
theorem w_case : (Jvm.Cond.and given_1 narrow_1).before args0 about1 = true := by decide +kernel
theorem w_applies : (headSpec (Jvm.Cond.code x code maxLocals ret :: tables_1) room_1).applies x e0.platform about1 = true :=
  (Spec.applies_iff w_frames).mpr ⟨w_running, w_runnable, w_alone, w_named, w_hears, w_ripe, w_room, w_tables⟩
theorem atStart : AtStart classFile x code maxLocals ret World_1 tables_1 room_1 Calls_1 rest_1 Pre_1 launch0 p0 e0 about1 theMethod args0 below0 :=
  ⟨lists_1, trivial, launch0.admits_env _ _ _, launch0.least_env, fairChoices_fair.cas, fairChoices_fair.clock, w_frames, w_args, w_heap, w_applies, trivial, w_rest, w_case⟩
end start1
theorem witness_1 : WitnessClaimed_1 := ⟨start1.p0, start1.e0, start1.about1, start1.theMethod, start1.args0, start1.below0, start1.atStart⟩
end Jvm.Pilot.@@N@@
