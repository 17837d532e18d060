import JvmDerived
import JvmDerived.Pilot.@@N@@Statement
import JvmDerived.Pilot.@@N@@Code
set_option linter.unusedVariables false
set_option linter.unusedSimpArgs false
namespace Jvm.Pilot.@@N@@
open Jvm Jvm.ClassFile Sem Op Lib Jvm.Free Jvm.Stand Jvm.LawKit Jvm.RoadKit Bundle Jvm.Pilot.@@N@@.Jvm.D
section Own
variable {p : Program} {l : Launch} {e : Env} {R : Room} {s : State} {m : MethodId} {args : Array Value} {below : List Frame} {meth : Method} {c : Code} {T : State} {locs : List Loc} {cells slots : Nat}
def Ends (p : Program) (e : Env) (below : List Frame) (Q : Outcome → State → Prop) (S : State) : Prop := ∃ s₂ o, Steps p.tables e below S s₂ ∧ s₂.status = .running ∧ Ended s₂ below o ∧ Q o s₂
theorem Ends.opn {Q : Outcome → State → Prop} {S : State} (h : ∀ QQ : Outcome → State → Prop, (∀ o t, Q o t → QQ o t) → Ends p e below QQ S) : ∃ s₂ o, Steps p.tables e below S s₂ ∧ s₂.status = .running ∧ Ended s₂ below o ∧ Q o s₂ := h Q fun _ _ q => q
theorem Ends.step {Q : Outcome → State → Prop} {S S' : State} (k : ∀ t, Steps p.tables e below S' t → Steps p.tables e below S t) (h : Ends p e below Q S') : Ends p e below Q S := by
  obtain ⟨a, o, h1, h2⟩ := h
  exact ⟨a, o, k _ h1, h2⟩
theorem Ends.fin {QQ : Outcome → State → Prop} {Q : Option Value → Heap → List Loc → Prop} {cl sl : Nat} {g : JFrame} {h : Heap} (v : Option Value) (X : Stand p l e R s m args below meth c T locs cells slots)
    (hQQ : ∀ o t, (∃ v L, o = .returned v ∧ Q v t.heap L ∧ FrameEnd s o t L cl sl) → QQ o t) (hv : meth.sig.returnType = none → v = none) (hlocks : meth.locks = false)
    (hstep : ∀ fs, (∀ (f : JFrame) (acts : List Action), f.method = m → f.locked = none → f.entered = [] → (doReturn e (T.setTop f) acts v).1 = T.setFrames fs) → Steps p.tables e below (T.setTop g) (T.setFrames fs))
    (eT : T.heap = h) (hc : cells ≤ cl) (hs : slots ≤ sl) (q : Q v h locs) : Ends p e below QQ (T.setTop g) := by
  obtain ⟨fs, hr, hrun, hended, hW, hsame⟩ := X.leave hv hlocks
  subst eT
  exact ⟨_, _, hstep fs hr, hrun, hended, hQQ _ _ ⟨v, locs, rfl, q, ⟨_, rfl⟩, hW, hsame.mono hc hs⟩⟩
theorem Ends.finW {QQ : Outcome → State → Prop} {Q : Option Value → Heap → List Loc → Prop} {cl sl : Nat} {g : JFrame} {h : Heap} {vm0 : Vm} {n : Nat} (v : Option Value) (X : Stand p l e R (s.setVm vm0) m args below meth c T locs cells slots) (hS : s.Since vm0 n) (hn : n ≤ h.size)
    (hQQ : ∀ o t, (∃ v L, o = .returned v ∧ Q v t.heap L ∧ ReturnedEndW s o t L cl sl) → QQ o t) (hv : meth.sig.returnType = none → v = none) (hlocks : meth.locks = false)
    (hstep : ∀ fs, (∀ (f : JFrame) (acts : List Action), f.method = m → f.locked = none → f.entered = [] → (doReturn e (T.setTop f) acts v).1 = T.setFrames fs) → Steps p.tables e below (T.setTop g) (T.setFrames fs))
    (eT : T.heap = h) (hc : cells ≤ cl) (hs : slots ≤ sl) (q : Q v h locs) : Ends p e below QQ (T.setTop g) := by
  subst eT
  obtain ⟨fs, hr, hrun, hended, hW⟩ := X.leaveW hS hn hv hlocks
  exact ⟨_, _, hstep fs hr, hrun, hended, hQQ _ _ ⟨v, locs, rfl, q, hW.1, hW.2.1, hW.2.2.1, hW.2.2.2.mono hc hs⟩⟩
theorem own_cp0 (X : Stand p l e R s m args below meth c T locs cells slots) (hx : p.tables.exec = Jvm.exec) {Z : State} (hZ : Z.Warmed39 s.vm) {a0 : Array Value} {own : String} {index : Nat} (hown : s.vm.findClass own = some m.cls)
    (w1 : (Jvm.Cond.methodLink own index Jvm.Stand.acN).before a0 Z = true) (w2 : (Jvm.Cond.native Jvm.Stand.acN).before a0 Z = true) (w3 : (Jvm.Cond.static Jvm.Stand.acN).before a0 Z = true) (w4 : (Jvm.Cond.initialized "java/lang/System").before a0 Z = true) {h : Heap} (eT : T.heap = h)
    {a b : Addr} {k k' : ClassId} {ty : FieldType} {z z' sp dp : Int32} {vs vd : List Value} {dv dd : Value} (A : Arv Z h a k ty z vs dv) (B : Arv Z h b k' ty z' vd dd) (h1 : sp = 0) (h2 : dp = 0)
    {g : JFrame} (hg : g.method = m) (hsize : g.locals.size = c.maxLocals) {rest : List Value} (hs : g.stack = .int 0 :: .int dp :: .ref b :: .int sp :: .ref a :: rest) (hd : decode c.code g.pc = .ok (.invokestatic index, 3))
    (hf : 1 ≤ R.frames) {W : Nat} (hW : 2 * g.monitorRoom + (rest.map fun v => v.category).sum ≤ W) (hlo : W + (nativeFrameWords "java/lang/System" "arraycopy" 5 + 11) ≤ R.locals) :
    ∃ T', Stand p l e R s m args below meth c T' locs cells slots ∧ T'.heap = h ∧ ∀ target, Steps p.tables e below (T'.setTop { g with pc := g.pc + 3, stack := rest }) target → Steps p.tables e below (T.setTop g) target := by
  subst h1 h2 eT
  obtain ⟨cs, As, -, Ss, -, Hs, Gs⟩ := A
  obtain ⟨cd, Ad, qd, Sd, Nd, Hd, Gd⟩ := B
  obtain ⟨os, ks, hks, sc, hsk⟩ := State.isArrayOf_alike hZ.alike As.2.1
  obtain ⟨od, kd, hkd, dc, hdk⟩ := State.isArrayOf_alike hZ.alike Ad.2.1
  obtain ⟨vm₁, hW₁, X', st⟩ := X.arraycopyK hx hown (mvT hZ w1) (mvT hZ w2) (mvT hZ w3) (mvT hZ w4) As.1 Ad.1 os od As.2.2 Ad.2.2 hks hkd hsk hdk (by cases refKind ty <;> simp) (by decide) (by decide) (by decide)
    (by show ¬ ((0 : Int) + 0 > _); omega) (by show ¬ ((0 : Int) + 0 > _); omega) (fun vm₁ hw i hi => absurd hi (by show ¬ i < 0; omega)) hg hsize hs hd hf (Nat.le_trans (Nat.add_le_add_right hW _) hlo)
  have hL : locs ++ copyLocs b (0 : Int32).toNatClampNeg (0 : Int32).toNatClampNeg = locs := by simp [copyLocs]
  rw [hL] at X'
  refine ⟨_, X', ?_, st⟩
  have hc : copied cs cd (0 : Int32) (0 : Int32) (0 : Int32) = cd := rfl
  show T.heap.setIfInBounds b (copied cs cd (0 : Int32) (0 : Int32) (0 : Int32)) = T.heap
  rw [hc]
  apply Array.ext_getElem?
  intro i
  by_cases q : b = i
  · subst q
    rw [Array.getElem?_setIfInBounds_self_of_lt (Array.getElem?_eq_some_iff.mp Ad.1).1, Ad.1]
  · rw [Array.getElem?_setIfInBounds_ne q]
theorem own_arv_cell {Z : State} {h : Heap} {a : Addr} {k : ClassId} {ty : FieldType} {z : Int32} {vs : List Value} {dv : Value} (F : Arv Z h a k ty z vs dv) : ∃ c : Cell, h[a]? = some c ∧ ∀ q, c.vm ≠ .statics q := by
  obtain ⟨c, A, -⟩ := F
  exact ⟨c, A.1, fun q e => by have := A.plain; rw [e] at this; cases this⟩
theorem own_same {Z : State} {a0 : Array Value} {y x : MethodName} {K : String} (w3 : (Jvm.Cond.instanceMethod y).before a0 Z = true) (hy : y.cls ≠ "java/lang/invoke/MethodHandle" ∧ y.cls ≠ "java/lang/invoke/VarHandle") (hsel : (Jvm.Cond.selects K x x).before a0 Z = true) (hc : x.cls = y.cls) : (Jvm.Cond.sameMethod y.cls y.cls y.name y.desc).before a0 Z = true := by
  obtain ⟨mk, methM, hn, hm, -, -⟩ := Cond.instanceMethod_spec w3
  have hf := State.methodFound?_of_named hn hy
  have h1 := findClass_of_methodNamed hn
  obtain ⟨c2, r2, m2, q1, q2, q3, q4, kP, hkP, hkPi⟩ := Cond.selects_spec hsel
  have h2 := findClass_of_methodNamed q3
  rw [hc] at h2
  have e := Option.some.inj (h1.symm.trans h2)
  rw [← e] at hkP
  simp [Cond.before, Cond.holds, Cond.value, h1, hf, hn, hkP, hkPi]
theorem own_decl {Z : State} {a0 : Array Value} {y : MethodName} {bytes : ByteArray} {maxL : Nat} {ret : Option FieldType} (w3 : (Jvm.Cond.instanceMethod y).before a0 Z = true) (wc : (Jvm.Cond.code y bytes maxL ret).before a0 Z = true) : (Jvm.Cond.declares y).before a0 Z = true := by
  obtain ⟨mk, methM, hn, hm, hs, -⟩ := Cond.instanceMethod_spec w3
  obtain ⟨m2, cM, q1, -, -, -, -, -, -, hsig⟩ := Cond.code_spec hn wc
  cases hm.symm.trans q1
  simp [Cond.before, Cond.holds, Cond.value, hn, hm, hs, hsig]
theorem own_selp {Z : State} {a0 : Array Value} {y : MethodName} {n : Nat} (w1 : (Jvm.Cond.instantiable y.cls n).before a0 Z = true) (w2 : (Jvm.Cond.privateMethod y).before a0 Z = true) (w3 : (Jvm.Cond.instanceMethod y).before a0 Z = true) (hy : y.cls ≠ "java/lang/invoke/MethodHandle" ∧ y.cls ≠ "java/lang/invoke/VarHandle") : (Jvm.Cond.selects y.cls y y).before a0 Z = true := by
  obtain ⟨c1, k1, hc1, hk1, -, hb1, -, -⟩ := Cond.instantiable_spec w1
  exact selects_self_of_private hc1 hk1 (by simp at hb1; exact hb1.1) (Cond.privateMethod_at w2) w3 hy
theorem own_selq {Z : State} {a0 : Array Value} {y x : MethodName} {K : String} (hsel : (Jvm.Cond.selects K x x).before a0 Z = true) (hc : x.cls = y.cls) (w2 : (Jvm.Cond.privateMethod y).before a0 Z = true) (w3 : (Jvm.Cond.instanceMethod y).before a0 Z = true) (hy : y.cls ≠ "java/lang/invoke/MethodHandle" ∧ y.cls ≠ "java/lang/invoke/VarHandle") : (Jvm.Cond.selects y.cls y y).before a0 Z = true := by
  obtain ⟨c2, r2, m2, q1, q2, q3, q4, kP, hkP, hkPi⟩ := Cond.selects_spec hsel
  have h2 := findClass_of_methodNamed q3
  rw [hc] at h2
  exact selects_self_of_private h2 hkP hkPi (Cond.privateMethod_at w2) w3 hy
theorem own_notface {args : Array Value} {s : State} {C : String} {x y : MethodName} (hsel : (Cond.selects C x x).before args s = true) (hc : x.cls = y.cls) : NotFace s y := fun r0 h0 => by
  obtain ⟨c2, r2, m2, q1, q2, q3, q4, kP, hkP, hkPi⟩ := Cond.selects_spec hsel
  have h1 := findClass_of_methodNamed h0
  have h2 := findClass_of_methodNamed q3
  rw [hc] at h2
  have e := Option.some.inj (h1.symm.trans h2)
  exact ⟨kP, by rw [e]; exact hkP, hkPi⟩
theorem own_narBy {x : Int32} (h : nar .byte x = x) : narrow .byte (.int x) = .int x := congrArg Value.int h
theorem own_iteN {c : Prop} [Decidable c] {a b : Int32} {t : FieldType} (ha : nar t a = a) (hb : nar t b = b) : nar t (if c then a else b) = if c then a else b := by
  split <;> assumption
theorem own_01 {c : Prop} [Decidable c] {a b : Int32} (ha : a = 0 ∨ a = 1) (hb : b = 0 ∨ b = 1) : (if c then a else b) = 0 ∨ (if c then a else b) = 1 := by
  split <;> assumption
theorem own_narB {x : Int32} (h : x = 0 ∨ x = 1) : narrow .boolean (.int x) = .int x := by rcases h with rfl | rfl <;> rfl
theorem own_narref {v : Value} {t : FieldType} (h : v.isRef = true) (ht : t.isReference = true) : narrow t v = v := by
  cases t <;> first | (cases ht; done) | (cases v <;> first | rfl | cases h)
theorem own_fitref {v : Value} {t : FieldType} (h : v.isRef = true) (ht : t.isReference = true) : fits t v = true := by
  cases t <;> first | (cases ht; done) | (cases v <;> first | rfl | cases h)
theorem own_nar255 (b : Int32) : narrow .char (.int (b &&& (255 : Int32))) = .int (b &&& (255 : Int32)) := by
  have h := XT.narrow_c (b &&& 255)
  rw [i2c_mask] at h
  exact h
theorem own_narb (x : Int32) : nar .byte x.toInt8.toInt32 = x.toInt8.toInt32 := by simp [nar]
theorem own_ins_keep {Z : State} {h h' : Heap} {a : Addr} {C : String} {b : Bool} {ws : List Addr} (F : Ins Z h a C b) (K : Keep h h' ws) : Ins Z h' a C b := by
  obtain ⟨cell, cT, h1, h2, h3⟩ := F
  obtain ⟨c', q1, q2, q3, -⟩ := K.2.2 _ _ h1
  exact ⟨c', cT, q1, h2, by rw [q2, q3]; exact h3⟩
theorem own_sta_keep {Z : State} {h h' : Heap} {C n d : String} {v : Value} {ws : List Addr} (F : Sta Z h C n d v) (K : Keep h h' ws) (q : ∀ x ∈ ws, ∃ c : Cell, h[x]? = some c ∧ ∀ q, c.vm ≠ .statics q) : Sta Z h' C n d v := by
  obtain ⟨cf, i, k, f, st, cell, h1, h2, h3, h4, h5, h6, h7⟩ := F
  refine ⟨cf, i, k, f, st, cell, h1, h2, h3, h4, K.2.1 _ _ h5 fun hm => ?_, h6, h7⟩
  obtain ⟨c, q1, q2⟩ := q _ hm
  cases h5.symm.trans q1
  cases hq : cell.vm <;> first | exact q2 _ hq | (rw [hq] at h6; cases h6)
theorem lremM {g : JFrame} {target : State} (X : Stand p l e R s m args below meth c T locs cells slots) (hx : p.tables.exec = Jvm.exec) (hg : g.method = m) {x y : Int64} {rest : List Value} (hd : decode c.code g.pc = .ok (.lrem, 1)) (hs : g.stack = .long y :: .long x :: rest) (hy : y ≠ 0)
    (hr : Steps p.tables e below (T.setTop { g with pc := g.pc + 1, stack := .long (x % y) :: rest }) target) : Steps p.tables e below (T.setTop g) target := by
  have q : x - x / y * y = x % y := lrem_mod x y
  exact XT.lrem X.here hx hg hd hs hy (by rw [q]; exact hr)
end Own
section Ops
variable {p : Program} {l : Launch} {e : Env} {R : Room} {s : State} {m : MethodId} {args : Array Value} {below : List Frame} {meth : Method} {c : Code} {T T' : State} {locs : List Loc} {cells slots : Nat} {Q : Outcome → State → Prop} {code : ByteArray} {pc : Nat} {L : Array Slot} {st S : List Value}
abbrev jv (x : Int64) : Slot := .val (.long x)
abbrev uu : Slot := .unset
abbrev ss : Slot := .second
theorem oA (X : Stand p l e R s m args below meth c T locs cells slots) (hy : p.tables.exec = Jvm.exec ∧ c.code = code) {k : Fin 4} {a : Addr} (d : decode code pc = .ok (.aload_n k, 1)) (pc' : Nat) (hl : L[k.val]? = some (.val (.ref a))) (h : Ends p e below Q (T.setTop (mkF m pc' L (.ref a :: st)))) (hp : pc + 1 = pc' := by exact rfl) : Ends p e below Q (T.setTop (mkF m pc L (st))) := by
  subst hp
  exact Ends.step (fun _ kk => XS.aloadN X.here hy.1 rfl (hb hy.2 d) hl rfl kk) h
theorem oB (X : Stand p l e R s m args below meth c T locs cells slots) (hy : p.tables.exec = Jvm.exec ∧ c.code = code) {k : Nat} {a : Addr} (d : decode code pc = .ok (.aload k, 2)) (pc' : Nat) (hl : L[k]? = some (.val (.ref a))) (h : Ends p e below Q (T.setTop (mkF m pc' L (.ref a :: st)))) (hp : pc + 2 = pc' := by exact rfl) : Ends p e below Q (T.setTop (mkF m pc L (st))) := by
  subst hp
  exact Ends.step (fun _ kk => XS.aload X.here hy.1 rfl (hb hy.2 d) hl rfl kk) h
theorem oC (X : Stand p l e R s m args below meth c T locs cells slots) (hy : p.tables.exec = Jvm.exec ∧ c.code = code) {k : Fin 4} {v : Int32} (d : decode code pc = .ok (.iload_n k, 1)) (pc' : Nat) (hl : L[k.val]? = some (.val (.int v))) (h : Ends p e below Q (T.setTop (mkF m pc' L (.int v :: st)))) (hp : pc + 1 = pc' := by exact rfl) : Ends p e below Q (T.setTop (mkF m pc L (st))) := by
  subst hp
  exact Ends.step (fun _ kk => XS.iloadN X.here hy.1 rfl (hb hy.2 d) hl kk) h
theorem oD (X : Stand p l e R s m args below meth c T locs cells slots) (hy : p.tables.exec = Jvm.exec ∧ c.code = code) {k : Nat} {v : Int32} (d : decode code pc = .ok (.iload k, 2)) (pc' : Nat) (hl : L[k]? = some (.val (.int v))) (h : Ends p e below Q (T.setTop (mkF m pc' L (.int v :: st)))) (hp : pc + 2 = pc' := by exact rfl) : Ends p e below Q (T.setTop (mkF m pc L (st))) := by
  subst hp
  exact Ends.step (fun _ kk => XS.iload X.here hy.1 rfl (hb hy.2 d) hl kk) h
theorem oE (X : Stand p l e R s m args below meth c T locs cells slots) (hy : p.tables.exec = Jvm.exec ∧ c.code = code) {k : Fin 4} {v : Int64} (d : decode code pc = .ok (.lload_n k, 1)) (pc' : Nat) (hl : L[k.val]? = some (.val (.long v))) (h : Ends p e below Q (T.setTop (mkF m pc' L (.long v :: st)))) (hp : pc + 1 = pc' := by exact rfl) : Ends p e below Q (T.setTop (mkF m pc L (st))) := by
  subst hp
  exact Ends.step (fun _ kk => XT.lloadN X.here hy.1 rfl (hb hy.2 d) hl kk) h
theorem oF (X : Stand p l e R s m args below meth c T locs cells slots) (hy : p.tables.exec = Jvm.exec ∧ c.code = code) {k : Nat} {v : Int64} (d : decode code pc = .ok (.lload k, 2)) (pc' : Nat) (hl : L[k]? = some (.val (.long v))) (h : Ends p e below Q (T.setTop (mkF m pc' L (.long v :: st)))) (hp : pc + 2 = pc' := by exact rfl) : Ends p e below Q (T.setTop (mkF m pc L (st))) := by
  subst hp
  exact Ends.step (fun _ kk => XT.lload X.here hy.1 rfl (hb hy.2 d) hl kk) h
theorem oG (X : Stand p l e R s m args below meth c T locs cells slots) (hy : p.tables.exec = Jvm.exec ∧ c.code = code) {i : Int} (d : decode code pc = .ok (.iconst i, 1)) (pc' : Nat) (v : Int32) (hv : Int32.ofInt i = v) (h : Ends p e below Q (T.setTop (mkF m pc' L (.int v :: st)))) (hp : pc + 1 = pc' := by exact rfl) : Ends p e below Q (T.setTop (mkF m pc L (st))) := by
  subst hp
  exact Ends.step (fun _ kk => XT.iconstV X.here hy.1 rfl v (hb hy.2 d) hv kk) h
theorem oH (X : Stand p l e R s m args below meth c T locs cells slots) (hy : p.tables.exec = Jvm.exec ∧ c.code = code) {i : Int} (d : decode code pc = .ok (.bipush i, 2)) (pc' : Nat) (v : Int32) (hv : (Int8.ofInt i).toInt32 = v) (h : Ends p e below Q (T.setTop (mkF m pc' L (.int v :: st)))) (hp : pc + 2 = pc' := by exact rfl) : Ends p e below Q (T.setTop (mkF m pc L (st))) := by
  subst hp
  exact Ends.step (fun _ kk => XT.bipushV X.here hy.1 rfl v (hb hy.2 d) hv kk) h
theorem oI (X : Stand p l e R s m args below meth c T locs cells slots) (hy : p.tables.exec = Jvm.exec ∧ c.code = code) {i : Int} (d : decode code pc = .ok (.sipush i, 3)) (pc' : Nat) (v : Int32) (hv : (Int16.ofInt i).toInt32 = v) (h : Ends p e below Q (T.setTop (mkF m pc' L (.int v :: st)))) (hp : pc + 3 = pc' := by exact rfl) : Ends p e below Q (T.setTop (mkF m pc L (st))) := by
  subst hp
  exact Ends.step (fun _ kk => XT.sipushV X.here hy.1 rfl v (hb hy.2 d) hv kk) h
theorem oJ (X : Stand p l e R s m args below meth c T locs cells slots) (hy : p.tables.exec = Jvm.exec ∧ c.code = code) {k : Fin 2} (d : decode code pc = .ok (.lconst k, 1)) (pc' : Nat) (v : Int64) (hv : Int64.ofNat k = v) (h : Ends p e below Q (T.setTop (mkF m pc' L (.long v :: st)))) (hp : pc + 1 = pc' := by exact rfl) : Ends p e below Q (T.setTop (mkF m pc L (st))) := by
  subst hp
  exact Ends.step (fun _ kk => XT.lconstV X.here hy.1 rfl v (hb hy.2 d) hv kk) h
theorem oK (X : Stand p l e R s m args below meth c T locs cells slots) (hy : p.tables.exec = Jvm.exec ∧ c.code = code) {x y : Int32} (d : decode code pc = .ok (.iadd, 1)) (pc' : Nat)  (h : Ends p e below Q (T.setTop (mkF m pc' L (.int (x + y) :: st)))) (hp : pc + 1 = pc' := by exact rfl) : Ends p e below Q (T.setTop (mkF m pc L (.int y :: .int x :: st))) := by
  subst hp
  exact Ends.step (fun _ kk => XS.iadd X.here hy.1 rfl (hb hy.2 d) rfl kk) h
theorem oL (X : Stand p l e R s m args below meth c T locs cells slots) (hy : p.tables.exec = Jvm.exec ∧ c.code = code) {x y : Int32} (d : decode code pc = .ok (.isub, 1)) (pc' : Nat)  (h : Ends p e below Q (T.setTop (mkF m pc' L (.int (x - y) :: st)))) (hp : pc + 1 = pc' := by exact rfl) : Ends p e below Q (T.setTop (mkF m pc L (.int y :: .int x :: st))) := by
  subst hp
  exact Ends.step (fun _ kk => XS.isub X.here hy.1 rfl (hb hy.2 d) rfl kk) h
theorem oM (X : Stand p l e R s m args below meth c T locs cells slots) (hy : p.tables.exec = Jvm.exec ∧ c.code = code) {x y : Int32} (d : decode code pc = .ok (.imul, 1)) (pc' : Nat)  (h : Ends p e below Q (T.setTop (mkF m pc' L (.int (x * y) :: st)))) (hp : pc + 1 = pc' := by exact rfl) : Ends p e below Q (T.setTop (mkF m pc L (.int y :: .int x :: st))) := by
  subst hp
  exact Ends.step (fun _ kk => XS.imul X.here hy.1 rfl (hb hy.2 d) rfl kk) h
theorem oN (X : Stand p l e R s m args below meth c T locs cells slots) (hy : p.tables.exec = Jvm.exec ∧ c.code = code) {x y : Int32} (d : decode code pc = .ok (.iand, 1)) (pc' : Nat)  (h : Ends p e below Q (T.setTop (mkF m pc' L (.int (x &&& y) :: st)))) (hp : pc + 1 = pc' := by exact rfl) : Ends p e below Q (T.setTop (mkF m pc L (.int y :: .int x :: st))) := by
  subst hp
  exact Ends.step (fun _ kk => XS.iand X.here hy.1 rfl (hb hy.2 d) rfl kk) h
theorem oO (X : Stand p l e R s m args below meth c T locs cells slots) (hy : p.tables.exec = Jvm.exec ∧ c.code = code) {x y : Int32} (d : decode code pc = .ok (.ishl, 1)) (pc' : Nat)  (h : Ends p e below Q (T.setTop (mkF m pc' L (.int (x <<< (y &&& 31)) :: st)))) (hp : pc + 1 = pc' := by exact rfl) : Ends p e below Q (T.setTop (mkF m pc L (.int y :: .int x :: st))) := by
  subst hp
  exact Ends.step (fun _ kk => XS.ishl X.here hy.1 rfl (hb hy.2 d) rfl kk) h
theorem oP (X : Stand p l e R s m args below meth c T locs cells slots) (hy : p.tables.exec = Jvm.exec ∧ c.code = code) {x y : Int32} (d : decode code pc = .ok (.ishr, 1)) (pc' : Nat)  (h : Ends p e below Q (T.setTop (mkF m pc' L (.int (x >>> (y &&& 31)) :: st)))) (hp : pc + 1 = pc' := by exact rfl) : Ends p e below Q (T.setTop (mkF m pc L (.int y :: .int x :: st))) := by
  subst hp
  exact Ends.step (fun _ kk => XS.ishr X.here hy.1 rfl (hb hy.2 d) rfl kk) h
theorem oQ (X : Stand p l e R s m args below meth c T locs cells slots) (hy : p.tables.exec = Jvm.exec ∧ c.code = code) {x : Int32} (d : decode code pc = .ok (.ineg, 1)) (pc' : Nat)  (h : Ends p e below Q (T.setTop (mkF m pc' L (.int (-x) :: st)))) (hp : pc + 1 = pc' := by exact rfl) : Ends p e below Q (T.setTop (mkF m pc L (.int x :: st))) := by
  subst hp
  exact Ends.step (fun _ kk => XS.ineg X.here hy.1 rfl (hb hy.2 d) rfl kk) h
theorem oR (X : Stand p l e R s m args below meth c T locs cells slots) (hy : p.tables.exec = Jvm.exec ∧ c.code = code) {x y : Int32} (d : decode code pc = .ok (.idiv, 1)) (pc' : Nat) (h0 : y ≠ 0) (h : Ends p e below Q (T.setTop (mkF m pc' L (.int (x / y) :: st)))) (hp : pc + 1 = pc' := by exact rfl) : Ends p e below Q (T.setTop (mkF m pc L (.int y :: .int x :: st))) := by
  subst hp
  exact Ends.step (fun _ kk => XS.idiv X.here hy.1 rfl (hb hy.2 d) rfl h0 kk) h
theorem oS (X : Stand p l e R s m args below meth c T locs cells slots) (hy : p.tables.exec = Jvm.exec ∧ c.code = code) {x y : Int64} (d : decode code pc = .ok (.ladd, 1)) (pc' : Nat)  (h : Ends p e below Q (T.setTop (mkF m pc' L (.long (x + y) :: st)))) (hp : pc + 1 = pc' := by exact rfl) : Ends p e below Q (T.setTop (mkF m pc L (.long y :: .long x :: st))) := by
  subst hp
  exact Ends.step (fun _ kk => XT.ladd X.here hy.1 rfl (hb hy.2 d) rfl kk) h
theorem oT (X : Stand p l e R s m args below meth c T locs cells slots) (hy : p.tables.exec = Jvm.exec ∧ c.code = code) {x y : Int64} (d : decode code pc = .ok (.lsub, 1)) (pc' : Nat)  (h : Ends p e below Q (T.setTop (mkF m pc' L (.long (x - y) :: st)))) (hp : pc + 1 = pc' := by exact rfl) : Ends p e below Q (T.setTop (mkF m pc L (.long y :: .long x :: st))) := by
  subst hp
  exact Ends.step (fun _ kk => XT.lsub X.here hy.1 rfl (hb hy.2 d) rfl kk) h
theorem oU (X : Stand p l e R s m args below meth c T locs cells slots) (hy : p.tables.exec = Jvm.exec ∧ c.code = code) {x y : Int64} (d : decode code pc = .ok (.lmul, 1)) (pc' : Nat)  (h : Ends p e below Q (T.setTop (mkF m pc' L (.long (x * y) :: st)))) (hp : pc + 1 = pc' := by exact rfl) : Ends p e below Q (T.setTop (mkF m pc L (.long y :: .long x :: st))) := by
  subst hp
  exact Ends.step (fun _ kk => XT.lmul X.here hy.1 rfl (hb hy.2 d) rfl kk) h
theorem oV (X : Stand p l e R s m args below meth c T locs cells slots) (hy : p.tables.exec = Jvm.exec ∧ c.code = code) {x y : Int64} (d : decode code pc = .ok (.land, 1)) (pc' : Nat)  (h : Ends p e below Q (T.setTop (mkF m pc' L (.long (x &&& y) :: st)))) (hp : pc + 1 = pc' := by exact rfl) : Ends p e below Q (T.setTop (mkF m pc L (.long y :: .long x :: st))) := by
  subst hp
  exact Ends.step (fun _ kk => XT.land X.here hy.1 rfl (hb hy.2 d) rfl kk) h
theorem oW (X : Stand p l e R s m args below meth c T locs cells slots) (hy : p.tables.exec = Jvm.exec ∧ c.code = code) {x y : Int64} (d : decode code pc = .ok (.ldiv, 1)) (pc' : Nat) (h0 : y ≠ 0) (h : Ends p e below Q (T.setTop (mkF m pc' L (.long (x / y) :: st)))) (hp : pc + 1 = pc' := by exact rfl) : Ends p e below Q (T.setTop (mkF m pc L (.long y :: .long x :: st))) := by
  subst hp
  exact Ends.step (fun _ kk => XT.ldiv X.here hy.1 rfl (hb hy.2 d) rfl h0 kk) h
theorem oX (X : Stand p l e R s m args below meth c T locs cells slots) (hy : p.tables.exec = Jvm.exec ∧ c.code = code) {x : Int64} (d : decode code pc = .ok (.lneg, 1)) (pc' : Nat)  (h : Ends p e below Q (T.setTop (mkF m pc' L (.long (-x) :: st)))) (hp : pc + 1 = pc' := by exact rfl) : Ends p e below Q (T.setTop (mkF m pc L (.long x :: st))) := by
  subst hp
  exact Ends.step (fun _ kk => XT.lneg X.here hy.1 rfl (hb hy.2 d) rfl kk) h
theorem oY (X : Stand p l e R s m args below meth c T locs cells slots) (hy : p.tables.exec = Jvm.exec ∧ c.code = code) {x y : Int64} (d : decode code pc = .ok (.lcmp, 1)) (pc' : Nat)  (h : Ends p e below Q (T.setTop (mkF m pc' L (.int (XT.cmpL x y) :: st)))) (hp : pc + 1 = pc' := by exact rfl) : Ends p e below Q (T.setTop (mkF m pc L (.long y :: .long x :: st))) := by
  subst hp
  exact Ends.step (fun _ kk => XT.lcmp X.here hy.1 rfl (hb hy.2 d) rfl kk) h
theorem oZ (X : Stand p l e R s m args below meth c T locs cells slots) (hy : p.tables.exec = Jvm.exec ∧ c.code = code) {x : Int64} (d : decode code pc = .ok (.l2i, 1)) (pc' : Nat)  (h : Ends p e below Q (T.setTop (mkF m pc' L (.int x.toInt32 :: st)))) (hp : pc + 1 = pc' := by exact rfl) : Ends p e below Q (T.setTop (mkF m pc L (.long x :: st))) := by
  subst hp
  exact Ends.step (fun _ kk => XT.l2i X.here hy.1 rfl (hb hy.2 d) rfl kk) h
theorem oxa (X : Stand p l e R s m args below meth c T locs cells slots) (hy : p.tables.exec = Jvm.exec ∧ c.code = code) {x : Int32} (d : decode code pc = .ok (.i2l, 1)) (pc' : Nat)  (h : Ends p e below Q (T.setTop (mkF m pc' L (.long x.toInt64 :: st)))) (hp : pc + 1 = pc' := by exact rfl) : Ends p e below Q (T.setTop (mkF m pc L (.int x :: st))) := by
  subst hp
  exact Ends.step (fun _ kk => XT.i2l X.here hy.1 rfl (hb hy.2 d) rfl kk) h
theorem oxb (X : Stand p l e R s m args below meth c T locs cells slots) (hy : p.tables.exec = Jvm.exec ∧ c.code = code) {x : Int32} (d : decode code pc = .ok (.i2b, 1)) (pc' : Nat)  (h : Ends p e below Q (T.setTop (mkF m pc' L (.int x.toInt8.toInt32 :: st)))) (hp : pc + 1 = pc' := by exact rfl) : Ends p e below Q (T.setTop (mkF m pc L (.int x :: st))) := by
  subst hp
  exact Ends.step (fun _ kk => XT.i2b X.here hy.1 rfl (hb hy.2 d) rfl kk) h
theorem oxc (X : Stand p l e R s m args below meth c T locs cells slots) (hy : p.tables.exec = Jvm.exec ∧ c.code = code) {x : Int32} (d : decode code pc = .ok (.i2c, 1)) (pc' : Nat)  (h : Ends p e below Q (T.setTop (mkF m pc' L (.int x.toUInt32.toUInt16.toUInt32.toInt32 :: st)))) (hp : pc + 1 = pc' := by exact rfl) : Ends p e below Q (T.setTop (mkF m pc L (.int x :: st))) := by
  subst hp
  exact Ends.step (fun _ kk => XT.i2c X.here hy.1 rfl (hb hy.2 d) rfl kk) h
theorem oxd (X : Stand p l e R s m args below meth c T locs cells slots) (hy : p.tables.exec = Jvm.exec ∧ c.code = code) {x : Value} (d : decode code pc = .ok (.dup, 1)) (pc' : Nat) (hc : x.category = 1) (h : Ends p e below Q (T.setTop (mkF m pc' L (x :: x :: st)))) (hp : pc + 1 = pc' := by exact rfl) : Ends p e below Q (T.setTop (mkF m pc L (x :: st))) := by
  subst hp
  exact Ends.step (fun _ kk => XS.dup X.here hy.1 rfl (hb hy.2 d) rfl hc kk) h
theorem oxe (X : Stand p l e R s m args below meth c T locs cells slots) (hy : p.tables.exec = Jvm.exec ∧ c.code = code) {x : Value} (d : decode code pc = .ok (.pop, 1)) (pc' : Nat) (hc : x.category = 1) (h : Ends p e below Q (T.setTop (mkF m pc' L (st)))) (hp : pc + 1 = pc' := by exact rfl) : Ends p e below Q (T.setTop (mkF m pc L (x :: st))) := by
  subst hp
  exact Ends.step (fun _ kk => XT.pop X.here hy.1 rfl (hb hy.2 d) rfl hc kk) h
theorem oxf (X : Stand p l e R s m args below meth c T locs cells slots) (hy : p.tables.exec = Jvm.exec ∧ c.code = code) {x y : Value} (d : decode code pc = .ok (.dup_x1, 1)) (pc' : Nat) (hc : x.category = 1) (hc' : y.category = 1) (h : Ends p e below Q (T.setTop (mkF m pc' L (x :: y :: x :: st)))) (hp : pc + 1 = pc' := by exact rfl) : Ends p e below Q (T.setTop (mkF m pc L (x :: y :: st))) := by
  subst hp
  exact Ends.step (fun _ kk => XT.dupX1 X.here hy.1 rfl (hb hy.2 d) rfl hc hc' kk) h
theorem oxg (X : Stand p l e R s m args below meth c T locs cells slots) (hy : p.tables.exec = Jvm.exec ∧ c.code = code)  (d : decode code pc = .ok (.aconst_null, 1)) (pc' : Nat)  (h : Ends p e below Q (T.setTop (mkF m pc' L (.null :: st)))) (hp : pc + 1 = pc' := by exact rfl) : Ends p e below Q (T.setTop (mkF m pc L (st))) := by
  subst hp
  exact Ends.step (fun _ kk => XS.aconstNull X.here hy.1 rfl (hb hy.2 d)  kk) h
theorem oxh (X : Stand p l e R s m args below meth c T locs cells slots) (hy : p.tables.exec = Jvm.exec ∧ c.code = code) {cd : ClassFile.Cond} {o : Int} {x : Int32} (d : decode code pc = .ok (.ifCond cd o, 3)) (pc' : Nat) (hc : ifCond.holds cd x = false) (h : Ends p e below Q (T.setTop (mkF m pc' L (st)))) (hp : pc + 3 = pc' := by exact rfl) : Ends p e below Q (T.setTop (mkF m pc L (.int x :: st))) := by
  subst hp
  exact Ends.step (fun _ kk => XS.ifNo X.here hy.1 rfl (hb hy.2 d) rfl hc kk) h
theorem oxi (X : Stand p l e R s m args below meth c T locs cells slots) (hy : p.tables.exec = Jvm.exec ∧ c.code = code) {cd : ClassFile.Cond} {o : Int} {x y : Int32} (d : decode code pc = .ok (.if_icmp cd o, 3)) (pc' : Nat) (hc : if_icmp.holds cd x y = false) (h : Ends p e below Q (T.setTop (mkF m pc' L (st)))) (hp : pc + 3 = pc' := by exact rfl) : Ends p e below Q (T.setTop (mkF m pc L (.int y :: .int x :: st))) := by
  subst hp
  exact Ends.step (fun _ kk => XS.icmpNo X.here hy.1 rfl (hb hy.2 d) rfl hc kk) h
theorem oxj (X : Stand p l e R s m args below meth c T locs cells slots) (hy : p.tables.exec = Jvm.exec ∧ c.code = code) {o : Int} {b : Addr} (d : decode code pc = .ok (.ifnull o, 3)) (pc' : Nat)  (h : Ends p e below Q (T.setTop (mkF m pc' L (st)))) (hp : pc + 3 = pc' := by exact rfl) : Ends p e below Q (T.setTop (mkF m pc L (.ref b :: st))) := by
  subst hp
  exact Ends.step (fun _ kk => XS.ifnullNo X.here hy.1 rfl (hb hy.2 d) rfl kk) h
theorem oxk (X : Stand p l e R s m args below meth c T locs cells slots) (hy : p.tables.exec = Jvm.exec ∧ c.code = code) {cd : ClassFile.Cond} {o : Int} {x : Int32} (d : decode code pc = .ok (.ifCond cd o, 3)) (pc' : Nat) (hc : ifCond.holds cd x = true) (h : Ends p e below Q (T.setTop (mkF m pc' L (st)))) (hp : (0 ≤ (pc : Int) + o) ∧ ((pc : Int) + o).toNat = pc' := by decide) : Ends p e below Q (T.setTop (mkF m pc L (.int x :: st))) :=
  Ends.step (fun _ kk => XS.ifYes X.here hy.1 rfl rfl (hb hy.2 d) rfl hc hp.1 hp.2 kk) h
theorem oxl (X : Stand p l e R s m args below meth c T locs cells slots) (hy : p.tables.exec = Jvm.exec ∧ c.code = code) {cd : ClassFile.Cond} {o : Int} {x y : Int32} (d : decode code pc = .ok (.if_icmp cd o, 3)) (pc' : Nat) (hc : if_icmp.holds cd x y = true) (h : Ends p e below Q (T.setTop (mkF m pc' L (st)))) (hp : (0 ≤ (pc : Int) + o) ∧ ((pc : Int) + o).toNat = pc' := by decide) : Ends p e below Q (T.setTop (mkF m pc L (.int y :: .int x :: st))) :=
  Ends.step (fun _ kk => XS.icmpYes X.here hy.1 rfl rfl (hb hy.2 d) rfl hc hp.1 hp.2 kk) h
theorem oxm (X : Stand p l e R s m args below meth c T locs cells slots) (hy : p.tables.exec = Jvm.exec ∧ c.code = code) {o : Int} (d : decode code pc = .ok (.goto o, 3)) (pc' : Nat)  (h : Ends p e below Q (T.setTop (mkF m pc' L (st)))) (hp : (0 ≤ (pc : Int) + o) ∧ ((pc : Int) + o).toNat = pc' := by decide) : Ends p e below Q (T.setTop (mkF m pc L (st))) :=
  Ends.step (fun _ kk => XS.goto X.here hy.1 rfl rfl (hb hy.2 d)  hp.1 hp.2 kk) h
theorem oxn (X : Stand p l e R s m args below meth c T locs cells slots) (hy : p.tables.exec = Jvm.exec ∧ c.code = code) {o : Int} {b : Addr} (d : decode code pc = .ok (.ifnonnull o, 3)) (pc' : Nat)  (h : Ends p e below Q (T.setTop (mkF m pc' L (st)))) (hp : (0 ≤ (pc : Int) + o) ∧ ((pc : Int) + o).toNat = pc' := by decide) : Ends p e below Q (T.setTop (mkF m pc L (.ref b :: st))) :=
  Ends.step (fun _ kk => XT.ifnonnullYes X.here hy.1 rfl rfl (hb hy.2 d) rfl hp.1 hp.2 kk) h
theorem oxo (X : Stand p l e R s m args below meth c T locs cells slots) (hy : p.tables.exec = Jvm.exec ∧ c.code = code) {k : Nat} {x : Int32} (d : decode code pc = .ok (.istore k, 2)) (pc' : Nat) (L' : Array Slot) (hl : storeLocals L k (.int x) = some L') (h : Ends p e below Q (T.setTop (mkF m pc' L' (st)))) (hp : pc + 2 = pc' := by exact rfl) : Ends p e below Q (T.setTop (mkF m pc L (.int x :: st))) := by
  subst hp
  exact Ends.step (fun _ kk => XS.istore X.here hy.1 rfl (hb hy.2 d) rfl hl kk) h
theorem oxp (X : Stand p l e R s m args below meth c T locs cells slots) (hy : p.tables.exec = Jvm.exec ∧ c.code = code) {k : Fin 4} {x : Int32} (d : decode code pc = .ok (.istore_n k, 1)) (pc' : Nat) (L' : Array Slot) (hl : storeLocals L k.val (.int x) = some L') (h : Ends p e below Q (T.setTop (mkF m pc' L' (st)))) (hp : pc + 1 = pc' := by exact rfl) : Ends p e below Q (T.setTop (mkF m pc L (.int x :: st))) := by
  subst hp
  exact Ends.step (fun _ kk => XS.istoreN X.here hy.1 rfl (hb hy.2 d) rfl hl kk) h
theorem oxq (X : Stand p l e R s m args below meth c T locs cells slots) (hy : p.tables.exec = Jvm.exec ∧ c.code = code) {k : Nat} {x : Int64} (d : decode code pc = .ok (.lstore k, 2)) (pc' : Nat) (L' : Array Slot) (hl : storeLocals L k (.long x) = some L') (h : Ends p e below Q (T.setTop (mkF m pc' L' (st)))) (hp : pc + 2 = pc' := by exact rfl) : Ends p e below Q (T.setTop (mkF m pc L (.long x :: st))) := by
  subst hp
  exact Ends.step (fun _ kk => XT.lstore X.here hy.1 rfl (hb hy.2 d) rfl hl kk) h
theorem oxr (X : Stand p l e R s m args below meth c T locs cells slots) (hy : p.tables.exec = Jvm.exec ∧ c.code = code) {k : Fin 4} {x : Int64} (d : decode code pc = .ok (.lstore_n k, 1)) (pc' : Nat) (L' : Array Slot) (hl : storeLocals L k.val (.long x) = some L') (h : Ends p e below Q (T.setTop (mkF m pc' L' (st)))) (hp : pc + 1 = pc' := by exact rfl) : Ends p e below Q (T.setTop (mkF m pc L (.long x :: st))) := by
  subst hp
  exact Ends.step (fun _ kk => XT.lstoreN X.here hy.1 rfl (hb hy.2 d) rfl hl kk) h
theorem oxs (X : Stand p l e R s m args below meth c T locs cells slots) (hy : p.tables.exec = Jvm.exec ∧ c.code = code) {k : Nat} {x : Addr} (d : decode code pc = .ok (.astore k, 2)) (pc' : Nat) (L' : Array Slot) (hl : storeLocals L k (.ref x) = some L') (h : Ends p e below Q (T.setTop (mkF m pc' L' (st)))) (hp : pc + 2 = pc' := by exact rfl) : Ends p e below Q (T.setTop (mkF m pc L (.ref x :: st))) := by
  subst hp
  exact Ends.step (fun _ kk => XS.astore X.here hy.1 rfl (hb hy.2 d) rfl rfl hl kk) h
theorem oxt (X : Stand p l e R s m args below meth c T locs cells slots) (hy : p.tables.exec = Jvm.exec ∧ c.code = code) {k : Fin 4} {x : Addr} (d : decode code pc = .ok (.astore_n k, 1)) (pc' : Nat) (L' : Array Slot) (hl : storeLocals L k.val (.ref x) = some L') (h : Ends p e below Q (T.setTop (mkF m pc' L' (st)))) (hp : pc + 1 = pc' := by exact rfl) : Ends p e below Q (T.setTop (mkF m pc L (.ref x :: st))) := by
  subst hp
  exact Ends.step (fun _ kk => XS.astoreN X.here hy.1 rfl (hb hy.2 d) rfl rfl hl kk) h
theorem oxz (X : Stand p l e R s m args below meth c T locs cells slots) (hy : p.tables.exec = Jvm.exec ∧ c.code = code) {k : Nat} {cst : Int} {x : Int32} (d : decode code pc = .ok (.iinc k cst, 3)) (pc' : Nat) (L' : Array Slot) (v : Int32) (hv : Int32.ofInt cst = v) (h1 : L[k]? = some (.val (.int x))) (hl : storeLocals L k (.int (x + v)) = some L') (h : Ends p e below Q (T.setTop (mkF m pc' L' (st)))) (hp : pc + 3 = pc' := by exact rfl) : Ends p e below Q (T.setTop (mkF m pc L (st))) := by
  subst hp
  exact Ends.step (fun _ kk => XT.iincV X.here hy.1 rfl v (hb hy.2 d) hv h1 hl kk) h
theorem Ends.j (pc' : Nat) (S' : List Value) (k : ∀ t, Steps p.tables e below (T'.setTop (mkF m pc' L S')) t → Steps p.tables e below (T.setTop (mkF m pc L S)) t) (h : Ends p e below Q (T'.setTop (mkF m pc' L S'))) : Ends p e below Q (T.setTop (mkF m pc L S)) := Ends.step k h
theorem Ends.i (L : Array Slot) {f : JFrame} (h : Ends p e below Q (T.setTop (mkF m 0 L []))) (k : f = mkF m 0 L [] := by first | (simp [entryFrame, argsToLocals, Value.category]; done) | rfl) : Ends p e below Q (T.setTop f) := by
  rw [k]
  exact h
theorem oJ2 (X : Stand p l e R s m args below meth c T locs cells slots) (hy : p.tables.exec = Jvm.exec ∧ c.code = code) {own : String} {index : Nat} {Z : State} {a0 : Array Value} (hown : s.vm.findClass own = some m.cls) (hZ : Z.Warmed39 s.vm) (hw : ∀ d ∈ tables_1, d.before a0 Z = true) (d : decode code pc = .ok (.ldc2_w index, 3)) (pc' : Nat) (v : Int64) (i : Nat) (hi : tables_1[i]? = some (.constantLong own index v)) (h : Ends p e below Q (T.setTop (mkF m pc' L (.long v :: st)))) (hp : pc + 3 = pc' := by exact rfl) : Ends p e below Q (T.setTop (mkF m pc L (st))) := by
  subst hp
  exact Ends.step (fun _ kk => X.ldc2J hy.1 hown (mvT hZ (hw _ (List.mem_of_getElem? hi))) rfl (hb hy.2 d) kk) h
theorem lremO (X : Stand p l e R s m args below meth c T locs cells slots) (hy : p.tables.exec = Jvm.exec ∧ c.code = code) {x y : Int64} (d : decode code pc = .ok (.lrem, 1)) (pc' : Nat) (h0 : y ≠ 0) (h : Ends p e below Q (T.setTop (mkF m pc' L (.long (x % y) :: st)))) (hp : pc + 1 = pc' := by exact rfl) : Ends p e below Q (T.setTop (mkF m pc L (.long y :: .long x :: st))) := by
  subst hp
  exact Ends.step (fun _ kk => lremM X hy.1 rfl (hb hy.2 d) rfl h0 kk) h
theorem tb {Z : State} {a0 : Array Value} (hw : ∀ d ∈ tables_1, d.before a0 Z = true) (i : Nat) {d : Jvm.Cond} (hi : tables_1[i]? = some d) : d.before a0 Z = true := hw _ (List.mem_of_getElem? hi)
abbrev rmm (f a b d : Nat) : Room := { frames := f, cells := a, slots := b, locals := d }
abbrev MF (l : Launch) (y : MethodName) (bytes : ByteArray) (maxL : Nat) (ret : Option FieldType) (ws : List Jvm.Cond) (rm : Room) (as' : Array Value) (Z : State) (h : Heap) (QC : Option Value → Heap → List Loc → Prop) : Prop :=
  MetFree l y (head1 (Jvm.Cond.code y bytes maxL ret :: ws) rm) (fun a U => a = as' ∧ Z.Warmed39 U.vm ∧ U.heap = h) (fun _ _ _ _ _ => True) (fun _ U o U' => ∃ v L, o = .returned v ∧ QC v U'.heap L ∧ FrameEnd U o U' L rm.cells rm.slots)
theorem Ends.v {v : Value} (h : Ends p e below Q (T.setTop (mkF m pc L (v :: st)))) : Ends p e below Q (T.setTop (mkF m pc L ((some v).toList ++ st))) := h
theorem Ends.u (h : Ends p e below Q (T.setTop (mkF m pc L st))) : Ends p e below Q (T.setTop (mkF m pc L ((none : Option Value).toList ++ st))) := h
theorem cS (X : Stand p l e R s m args below meth c T locs cells slots) (hy : p.tables.exec = Jvm.exec ∧ c.code = code) {ml : Nat} (hml : c.maxLocals = ml) {own : String} (hown : s.vm.findClass own = some m.cls) {Z : State} {a0 : Array Value} (hZ : Z.Warmed39 s.vm) (hw : ∀ d ∈ tables_1, d.before a0 Z = true)
    {index : Nat} {y : MethodName} {bytes : ByteArray} {maxL : Nat} {ret : Option FieldType} (d : decode code pc = .ok (.invokestatic index, 3)) (pc' W i1 i2 i3 i4 : Nat) (h1 : tables_1[i1]? = some (.methodLink own index y)) (h2 : tables_1[i2]? = some (.static y)) (h3 : tables_1[i3]? = some (.initialized y.cls)) (h4 : tables_1[i4]? = some (.code y bytes maxL ret))
    {rm : Room} {as' : Array Value} {QC : Option Value → Heap → List Loc → Prop} {h : Heap} (hM : MF l y bytes maxL ret [] rm as' Z h QC)
    (eT : T.heap = h) {ps : List FieldType} {r : Option FieldType} (hd : parseMethodDescriptor y.desc = some ⟨ps, r⟩)
    {argsL rest : List Value} (ha : as' = argsL.toArray) (hS : S = argsL.reverse ++ rest)
    (K : ∀ v T' Lc, Stand p l e R s m args below meth c T' (locs ++ Lc) (cells + rm.cells) (slots + rm.slots) → QC v T'.heap Lc → Ends p e below Q (T'.setTop (mkF m pc' L (v.toList ++ rest)))) (hn : y.cls ≠ "java/lang/invoke/MethodHandle" ∧ y.cls ≠ "java/lang/invoke/VarHandle" := by decide) (hr : rm.frames + 1 ≤ R.frames ∧ W + (maxL + 11) + rm.locals ≤ R.locals ∧ cells + rm.cells ≤ R.cells ∧ slots + rm.slots ≤ R.slots := by decide) (hl : argsL.length = ps.length := by exact rfl) (hW : (rest.map fun v => v.category).sum = W := by exact rfl) (hL : L.size = ml := by exact rfl) (hp : pc + 3 = pc' := by exact rfl) : Ends p e below Q (T.setTop (mkF m pc L S)) := by
  subst hp hS ha hW
  obtain ⟨v, _, ⟨T', L', k', n'⟩, -, X', ⟨Lc, hq, l1, y1, z1⟩, stp⟩ := Jvm.LawKit.callS X hy.1 hown (mvT hZ (tb hw i1 h1)) (mvT hZ (tb hw i2 h2)) (mvT hZ (tb hw i3 h3)) (mvT hZ (tb hw i4 h4)) hn (backOf (W := (rest.map fun v => v.category).sum) hM hZ (tb hw i4 h4) (tb hw i3 h3) hr.1 hr.2.1)
    (g := mkF m pc L (argsL.reverse ++ rest)) rfl (by rw [hml]; exact hL) (argsL := argsL) (rest := rest) (lenOf hd hl) rfl (by show 2 * 0 + _ ≤ _; omega) (hb hy.2 d) (fun _ _ => ⟨rfl, eT, hr.2.2⟩)
  dsimp only [Pt.U, Pt.locs, Pt.cells, Pt.slots] at X' l1 y1 z1 stp hq
  subst l1 y1 z1
  exact Ends.step stp (K v T' Lc X' hq)
theorem cV (X : Stand p l e R s m args below meth c T locs cells slots) (hy : p.tables.exec = Jvm.exec ∧ c.code = code) {ml : Nat} (hml : c.maxLocals = ml) {own C : String} (hown : s.vm.findClass own = some m.cls) {Z : State} {a0 : Array Value} (hZ : Z.Warmed39 s.vm) (hw : ∀ d ∈ tables_1, d.before a0 Z = true)
    {index : Nat} {y : MethodName} {bytes : ByteArray} {maxL : Nat} {ret : Option FieldType} (d : decode code pc = .ok (.invokevirtual index, 3)) (pc' W i1 i2 i3 i4 i5 i6 : Nat) (h1 : tables_1[i1]? = some (.methodLink own index y)) (h2 : tables_1[i2]? = some (.declares y)) (h3 : tables_1[i3]? = some (.selects C y y)) (h4 : tables_1[i4]? = some (.instanceMethod y)) (h5 : tables_1[i5]? = some (.code y bytes maxL ret)) (h6 : tables_1[i6]? = some (.initialized y.cls))
    {rm : Room} {as' : Array Value} {QC : Option Value → Heap → List Loc → Prop} {h : Heap} (hM : MF l y bytes maxL ret [] rm as' Z h QC)
    (eT : T.heap = h) {ps : List FieldType} {r : Option FieldType} (hd : parseMethodDescriptor y.desc = some ⟨ps, r⟩)
    {b : Addr} (E : Exa Z h b C) {argsL rest : List Value} (ha : as' = (Value.ref b :: argsL).toArray) (hS : S = argsL.reverse ++ .ref b :: rest)
    (K : ∀ v T' Lc, Stand p l e R s m args below meth c T' (locs ++ Lc) (cells + rm.cells) (slots + rm.slots) → QC v T'.heap Lc → Ends p e below Q (T'.setTop (mkF m pc' L (v.toList ++ rest)))) (hn : y.cls ≠ "java/lang/invoke/MethodHandle" ∧ y.cls ≠ "java/lang/invoke/VarHandle" := by decide) (hr : rm.frames + 1 ≤ R.frames ∧ W + (maxL + 11) + rm.locals ≤ R.locals ∧ cells + rm.cells ≤ R.cells ∧ slots + rm.slots ≤ R.slots := by decide) (hl : argsL.length = ps.length := by exact rfl) (hW : (rest.map fun v => v.category).sum = W := by exact rfl) (hL : L.size = ml := by exact rfl) (hp : pc + 3 = pc' := by exact rfl) : Ends p e below Q (T.setTop (mkF m pc L S)) := by
  subst hp hS ha hW
  obtain ⟨cq, kq, qa, qb, qc⟩ := isOf hZ eT E
  obtain ⟨v, _, ⟨T', L', k', n'⟩, -, X', ⟨Lc, hq, l1, y1, z1⟩, stp⟩ := X.virtualBack hy.1 (y := y) (z := y) hown (mvT hZ (tb hw i1 h1)) (mvT hZ (tb hw i2 h2)) (notFace_of_selects (args := #[]) (mvT hZ (tb hw i3 h3))) (mvT hZ (tb hw i3 h3)) (mvT hZ (tb hw i4 h4)) hn (backOf (W := (rest.map fun v => v.category).sum) hM hZ (tb hw i5 h5) (tb hw i6 h6) hr.1 hr.2.1) qa qc
    (g := mkF m pc L (argsL.reverse ++ .ref b :: rest)) rfl (by rw [hml]; exact hL) (Steps.refl _) (argsL := argsL) (rest := rest) (lenOf hd hl) rfl (by show 2 * 0 + _ ≤ _; omega) (hb hy.2 d) (fun _ _ => ⟨rfl, eT, hr.2.2⟩)
  dsimp only [Pt.U, Pt.locs, Pt.cells, Pt.slots] at X' l1 y1 z1 stp hq
  subst l1 y1 z1
  exact Ends.step (fun _ kk => stp.trans kk) (K v T' Lc X' hq)
theorem cP (X : Stand p l e R s m args below meth c T locs cells slots) (hy : p.tables.exec = Jvm.exec ∧ c.code = code) {ml : Nat} (hml : c.maxLocals = ml) {own C : String} (hown : s.vm.findClass own = some m.cls) {Z : State} {a0 : Array Value} (hZ : Z.Warmed39 s.vm) (hw : ∀ d ∈ tables_1, d.before a0 Z = true)
    {index : Nat} {y x : MethodName} {K' : String} {bytes : ByteArray} {maxL : Nat} {ret : Option FieldType} (d : decode code pc = .ok (.invokevirtual index, 3)) (pc' W i1 i2 i3 i4 i5 i6 : Nat) (h1 : tables_1[i1]? = some (.methodLink own index y)) (h2 : tables_1[i2]? = some (.instanceMethod y)) (h3 : tables_1[i3]? = some (.selects K' x x)) (h4 : tables_1[i4]? = some (.privateMethod y)) (h5 : tables_1[i5]? = some (.code y bytes maxL ret)) (h6 : tables_1[i6]? = some (.initialized y.cls)) (hxy : x.cls = y.cls)
    {rm : Room} {as' : Array Value} {QC : Option Value → Heap → List Loc → Prop} {h : Heap} (hM : MF l y bytes maxL ret [] rm as' Z h QC)
    (eT : T.heap = h) {ps : List FieldType} {r : Option FieldType} (hd : parseMethodDescriptor y.desc = some ⟨ps, r⟩)
    {b : Addr} (E : Exa Z h b C) {argsL rest : List Value} (ha : as' = (Value.ref b :: argsL).toArray) (hS : S = argsL.reverse ++ .ref b :: rest)
    (K : ∀ v T' Lc, Stand p l e R s m args below meth c T' (locs ++ Lc) (cells + rm.cells) (slots + rm.slots) → QC v T'.heap Lc → Ends p e below Q (T'.setTop (mkF m pc' L (v.toList ++ rest)))) (hn : y.cls ≠ "java/lang/invoke/MethodHandle" ∧ y.cls ≠ "java/lang/invoke/VarHandle" := by decide) (hr : rm.frames + 1 ≤ R.frames ∧ W + (maxL + 11) + rm.locals ≤ R.locals ∧ cells + rm.cells ≤ R.cells ∧ slots + rm.slots ≤ R.slots := by decide) (hl : argsL.length = ps.length := by exact rfl) (hW : (rest.map fun v => v.category).sum = W := by exact rfl) (hL : L.size = ml := by exact rfl) (hp : pc + 3 = pc' := by exact rfl) : Ends p e below Q (T.setTop (mkF m pc L S)) := by
  subst hp hS ha hW
  obtain ⟨cq, q1, q2⟩ := E.cell
  obtain ⟨v, _, ⟨T', L', k', n'⟩, -, X', ⟨Lc, hq, l1, y1, z1⟩, stp⟩ := X.privateBack hy.1 (y := y) hown (mvT hZ (tb hw i1 h1)) (mvT hZ (tb hw i2 h2)) (mvT hZ (own_selq (y := y) (tb hw i3 h3) hxy (tb hw i4 h4) (tb hw i2 h2) hn)) (Cond.privateMethod_at (mvP hZ (tb hw i4 h4) (args := #[]))) (mvT hZ (tb hw i5 h5)) hn (backOf (W := (rest.map fun v => v.category).sum) hM hZ (tb hw i5 h5) (tb hw i6 h6) hr.1 hr.2.1)
    (g := mkF m pc L (argsL.reverse ++ .ref b :: rest)) rfl (by rw [hml]; exact hL) (Steps.refl _) (a := b) (by rw [eT]; exact q1) q2 (argsL := argsL) (rest := rest) (lenOf hd hl) rfl (by show 2 * 0 + _ ≤ _; omega) (hb hy.2 d) (fun _ _ => ⟨rfl, eT, hr.2.2⟩)
  dsimp only [Pt.U, Pt.locs, Pt.cells, Pt.slots] at X' l1 y1 z1 stp hq
  subst l1 y1 z1
  exact Ends.step (fun _ kk => stp.trans kk) (K v T' Lc X' hq)
theorem cI (X : Stand p l e R s m args below meth c T locs cells slots) (hy : p.tables.exec = Jvm.exec ∧ c.code = code) {ml : Nat} (hml : c.maxLocals = ml) {own : String} (hown : s.vm.findClass own = some m.cls) {Z : State} {a0 : Array Value} (hZ : Z.Warmed39 s.vm) (hw : ∀ d ∈ tables_1, d.before a0 Z = true)
    {index : Nat} {y : MethodName} {bytes : ByteArray} {maxL : Nat} (d : decode code pc = .ok (.invokespecial index, 3)) (pc' W i1 i2 i3 i4 : Nat) (h1 : tables_1[i1]? = some (.methodLink own index y)) (h2 : tables_1[i2]? = some (.instanceMethod y)) (h3 : tables_1[i3]? = some (.code y bytes maxL none)) (h4 : tables_1[i4]? = some (.initialized y.cls)) (hi : y.name = "<init>")
    {rm : Room} {as' : Array Value} {QC : Option Value → Heap → List Loc → Prop} {h : Heap} (hM : MF l y bytes maxL none [] rm as' Z h QC)
    (eT : T.heap = h) {ps : List FieldType} {r : Option FieldType} (hd : parseMethodDescriptor y.desc = some ⟨ps, r⟩)
    {b : Addr} {argsL rest : List Value} (ha : as' = (Value.ref b :: argsL).toArray) (hS : S = argsL.reverse ++ .ref b :: rest)
    (K : ∀ v T' Lc, Stand p l e R s m args below meth c T' (locs ++ Lc) (cells + rm.cells) (slots + rm.slots) → QC v T'.heap Lc → Ends p e below Q (T'.setTop (mkF m pc' L (v.toList ++ rest)))) (hn : y.cls ≠ "java/lang/invoke/MethodHandle" ∧ y.cls ≠ "java/lang/invoke/VarHandle" := by decide) (hr : rm.frames + 1 ≤ R.frames ∧ W + (maxL + 11) + rm.locals ≤ R.locals ∧ cells + rm.cells ≤ R.cells ∧ slots + rm.slots ≤ R.slots := by decide) (hl : argsL.length = ps.length := by exact rfl) (hW : (rest.map fun v => v.category).sum = W := by exact rfl) (hL : L.size = ml := by exact rfl) (hp : pc + 3 = pc' := by exact rfl) : Ends p e below Q (T.setTop (mkF m pc L S)) := by
  subst hp hS ha hW
  obtain ⟨v, _, ⟨T', L', k', n'⟩, -, X', ⟨Lc, hq, l1, y1, z1⟩, stp⟩ := X.specialBack hy.1 (y := y) hi hown (mvT hZ (tb hw i1 h1)) (mvT hZ (tb hw i2 h2)) (mvT hZ (tb hw i3 h3)) hn (backOf (W := (rest.map fun v => v.category).sum) hM hZ (tb hw i3 h3) (tb hw i4 h4) hr.1 hr.2.1)
    (g := mkF m pc L (argsL.reverse ++ .ref b :: rest)) rfl (by rw [hml]; exact hL) (Steps.refl _) (a := b) (argsL := argsL) (rest := rest) (lenOf hd hl) rfl (by show 2 * 0 + _ ≤ _; omega) (hb hy.2 d) (fun _ _ => ⟨rfl, eT, hr.2.2⟩)
  dsimp only [Pt.U, Pt.locs, Pt.cells, Pt.slots] at X' l1 y1 z1 stp hq
  subst l1 y1 z1
  exact Ends.step (fun _ kk => stp.trans kk) (K v T' Lc X' hq)
theorem cU (X : Stand p l e R s m args below meth c T locs cells slots) (hy : p.tables.exec = Jvm.exec ∧ c.code = code) {ml : Nat} (hml : c.maxLocals = ml) {own C : String} (hown : s.vm.findClass own = some m.cls) {Z : State} {a0 : Array Value} (hZ : Z.Warmed39 s.vm) (hw : ∀ d ∈ tables_1, d.before a0 Z = true)
    {index : Nat} {y x : MethodName} {K' : String} {bytes : ByteArray} {maxL : Nat} {ret : Option FieldType} (d : decode code pc = .ok (.invokespecial index, 3)) (pc' W i1 i2 i3 i4 i5 i6 : Nat) (h1 : tables_1[i1]? = some (.methodLink own index y)) (h2 : tables_1[i2]? = some (.instanceMethod y)) (h3 : tables_1[i3]? = some (.selects K' x x)) (h4 : tables_1[i4]? = some (.superclass own y.cls)) (h5 : tables_1[i5]? = some (.code y bytes maxL ret)) (h6 : tables_1[i6]? = some (.initialized y.cls)) (hxy : x.cls = y.cls)
    {rm : Room} {as' : Array Value} {QC : Option Value → Heap → List Loc → Prop} {h : Heap} (hM : MF l y bytes maxL ret [] rm as' Z h QC)
    (eT : T.heap = h) {ps : List FieldType} {r : Option FieldType} (hd : parseMethodDescriptor y.desc = some ⟨ps, r⟩)
    {b : Addr} (E : Exa Z h b C) {argsL rest : List Value} (ha : as' = (Value.ref b :: argsL).toArray) (hS : S = argsL.reverse ++ .ref b :: rest)
    (K : ∀ v T' Lc, Stand p l e R s m args below meth c T' (locs ++ Lc) (cells + rm.cells) (slots + rm.slots) → QC v T'.heap Lc → Ends p e below Q (T'.setTop (mkF m pc' L (v.toList ++ rest)))) (hn : y.cls ≠ "java/lang/invoke/MethodHandle" ∧ y.cls ≠ "java/lang/invoke/VarHandle" := by decide) (hr : rm.frames + 1 ≤ R.frames ∧ W + (maxL + 11) + rm.locals ≤ R.locals ∧ cells + rm.cells ≤ R.cells ∧ slots + rm.slots ≤ R.slots := by decide) (hi : y.name ≠ "<init>" := by decide) (hl : argsL.length = ps.length := by exact rfl) (hW : (rest.map fun v => v.category).sum = W := by exact rfl) (hL : L.size = ml := by exact rfl) (hp : pc + 3 = pc' := by exact rfl) : Ends p e below Q (T.setTop (mkF m pc L S)) := by
  subst hp hS ha hW
  obtain ⟨v, _, ⟨T', L', k', n'⟩, -, X', ⟨Lc, hq, l1, y1, z1⟩, stp⟩ := superBack X hy.1 hZ (y := y) hown (tb hw i1 h1) (own_same (tb hw i2 h2) hn (tb hw i3 h3) hxy) (tb hw i2 h2) (tb hw i4 h4) hi (backOf (W := (rest.map fun v => v.category).sum) hM hZ (tb hw i5 h5) (tb hw i6 h6) hr.1 hr.2.1) eT (Ins.self E)
    (g := mkF m pc L (argsL.reverse ++ .ref b :: rest)) rfl (by rw [hml]; exact hL) (tb hw i5 h5) (argsL := argsL) (rest := rest) (lenOf hd hl) rfl (by show 2 * 0 + _ ≤ _; omega) (hb hy.2 d) (fun _ _ => ⟨rfl, eT, hr.2.2⟩)
  dsimp only [Pt.U, Pt.locs, Pt.cells, Pt.slots] at X' l1 y1 z1 stp hq
  subst l1 y1 z1
  exact Ends.step (fun _ kk => stp.trans kk) (K v T' Lc X' hq)
theorem MF.of {y : MethodName} {bytes : ByteArray} {maxL : Nat} {ret : Option FieldType} {ws : List Jvm.Cond} {rm : Room} {as' : Array Value} {Z : State} {h : Heap} {QC : Option Value → Heap → List Loc → Prop} (pl : plainFor y = true)
    (F : ∀ (p : Program) (e : Env) (s : State) (m : MethodId) (below : List Frame) (meth : Method) (c : Code) (T : State) (QQ : Outcome → State → Prop), (p.tables.exec = Jvm.exec ∧ c.code = bytes) → c.maxLocals = maxL → s.vm.findClass y.cls = some m.cls → Z.Warmed39 s.vm → Stand p l e rm s m as' below meth c T [] 0 0 → T.heap = h → meth.sig.returnType = ret → meth.locks = false → meth.name = y.name →
      (∀ o t, (∃ v L, o = .returned v ∧ QC v t.heap L ∧ FrameEnd s o t L rm.cells rm.slots) → QQ o t) → Ends p e below QQ (T.setTop (entryFrame m as' maxL))) : MF l y bytes maxL ret ws rm as' Z h QC := by
  refine MetFree.of_bodySF pl hisR ?_
  intro p e s m args below meth c s₁ Bd hml0 hP hK
  obtain ⟨rfl, hZ, hh⟩ := hP
  refine Ends.opn ?_
  intro QQ hQQ
  exact F p e s m below meth c s₁ QQ ⟨Bd.exec, Bd.bytes⟩ hml0 (findClass_of_methodNamed Bd.named) hZ (Stand.of_body Bd) (by rw [← hh, Bd.state]; rfl) Bd.returns Bd.notSynchronized (name_of_methodNamed Bd.named Bd.method).1 hQQ
theorem fI (X : Stand p l e R s m args below meth c T locs cells slots) (hy : p.tables.exec = Jvm.exec ∧ c.code = code) {t : FieldType} {x : Int32} {QC : Option Value → Heap → List Loc → Prop} {cl sl : Nat} {h : Heap} (hrt : meth.sig.returnType = some t) (hlk : meth.locks = false)
    (hQQ : ∀ o t, (∃ v L, o = .returned v ∧ QC v t.heap L ∧ FrameEnd s o t L cl sl) → Q o t) (d : decode code pc = .ok (.ireturn, 1)) (hn : narrow t (.int x) = .int x) (hi : t = .int ∨ t = .boolean ∨ t = .byte ∨ t = .char ∨ t = .short) (eT : T.heap = h) (hcs : cells ≤ cl ∧ slots ≤ sl) (q : QC (some (.int x)) h locs) : Ends p e below Q (T.setTop (mkF m pc L (.int x :: st))) :=
  Ends.fin (some (.int x)) X hQQ (fun h => by rw [hrt] at h; cases h) hlk (fun _ hr => retOut X hy.1 hrt hn (Or.inl ⟨rfl, hi, _, rfl⟩) (hb hy.2 d) hr) eT hcs.1 hcs.2 q
theorem fJ (X : Stand p l e R s m args below meth c T locs cells slots) (hy : p.tables.exec = Jvm.exec ∧ c.code = code) {x : Int64} {QC : Option Value → Heap → List Loc → Prop} {cl sl : Nat} {h : Heap} (hrt : meth.sig.returnType = some .long) (hlk : meth.locks = false)
    (hQQ : ∀ o t, (∃ v L, o = .returned v ∧ QC v t.heap L ∧ FrameEnd s o t L cl sl) → Q o t) (d : decode code pc = .ok (.lreturn, 1)) (eT : T.heap = h) (hcs : cells ≤ cl ∧ slots ≤ sl) (q : QC (some (.long x)) h locs) : Ends p e below Q (T.setTop (mkF m pc L (.long x :: st))) :=
  Ends.fin (some (.long x)) X hQQ (fun h => by rw [hrt] at h; cases h) hlk (fun _ hr => retOut X hy.1 hrt rfl (Or.inr (Or.inl ⟨rfl, rfl, _, rfl⟩)) (hb hy.2 d) hr) eT hcs.1 hcs.2 q
theorem fA (X : Stand p l e R s m args below meth c T locs cells slots) (hy : p.tables.exec = Jvm.exec ∧ c.code = code) {t : FieldType} {x : Addr} {QC : Option Value → Heap → List Loc → Prop} {cl sl : Nat} {h : Heap} (hrt : meth.sig.returnType = some t) (hlk : meth.locks = false)
    (hQQ : ∀ o t, (∃ v L, o = .returned v ∧ QC v t.heap L ∧ FrameEnd s o t L cl sl) → Q o t) (d : decode code pc = .ok (.areturn, 1)) (hn : narrow t (.ref x) = .ref x) (hi : t.isReference = true) (eT : T.heap = h) (hcs : cells ≤ cl ∧ slots ≤ sl) (q : QC (some (.ref x)) h locs) : Ends p e below Q (T.setTop (mkF m pc L (.ref x :: st))) :=
  Ends.fin (some (.ref x)) X hQQ (fun h => by rw [hrt] at h; cases h) hlk (fun _ hr => retOut X hy.1 hrt hn (Or.inr (Or.inr (Or.inr (Or.inr ⟨rfl, hi, rfl⟩)))) (hb hy.2 d) hr) eT hcs.1 hcs.2 q
theorem fV (X : Stand p l e R s m args below meth c T locs cells slots) (hy : p.tables.exec = Jvm.exec ∧ c.code = code) {QC : Option Value → Heap → List Loc → Prop} {cl sl : Nat} {h : Heap} (hrt : meth.sig.returnType = none) (hlk : meth.locks = false)
    (hQQ : ∀ o t, (∃ v L, o = .returned v ∧ QC v t.heap L ∧ FrameEnd s o t L cl sl) → Q o t) (d : decode code pc = .ok (.return_, 1)) (eT : T.heap = h) (hcs : cells ≤ cl ∧ slots ≤ sl) (q : QC none h locs) : Ends p e below Q (T.setTop (mkF m pc L [])) :=
  Ends.fin none X hQQ (fun _ => rfl) hlk (fun _ hr => X.returnOut hy.1 hrt (hb hy.2 d) hr) eT hcs.1 hcs.2 q
theorem gF (X : Stand p l e R s m args below meth c T locs cells slots) (hy : p.tables.exec = Jvm.exec ∧ c.code = code) {own O n dd : String} {index : Nat} {Z : State} {a0 : Array Value} {h : Heap} {a : Addr} {v : Value} (hown : s.vm.findClass own = some m.cls) (hZ : Z.Warmed39 s.vm) (hw : ∀ d ∈ tables_1, d.before a0 Z = true) (eT : T.heap = h) (F : Fld Z h a O n dd v)
    (d : decode code pc = .ok (.getfield index, 3)) (pc' i : Nat) (hi : tables_1[i]? = some (.fieldLink own index O n dd)) (K : ∀ T', Stand p l e R s m args below meth c T' locs cells slots → T'.heap = h → Ends p e below Q (T'.setTop (mkF m pc' L (v :: st)))) (hp : pc + 3 = pc' := by exact rfl) : Ends p e below Q (T.setTop (mkF m pc L (.ref a :: st))) := by
  subst hp
  obtain ⟨T', X', e', stp⟩ := getF X hy.1 hZ hown (host := "") (Or.inl (tb hw i hi)) Via.refl eT F (g := mkF m pc L (.ref a :: st)) rfl rfl (hb hy.2 d)
  exact Ends.step stp (K T' X' e')
theorem gS (X : Stand p l e R s m args below meth c T locs cells slots) (hy : p.tables.exec = Jvm.exec ∧ c.code = code) {own O n dd : String} {index : Nat} {Z : State} {a0 : Array Value} {h : Heap} {v : Value} (hown : s.vm.findClass own = some m.cls) (hZ : Z.Warmed39 s.vm) (hw : ∀ d ∈ tables_1, d.before a0 Z = true) (eT : T.heap = h) (F : Sta Z h O n dd v)
    (d : decode code pc = .ok (.getstatic index, 3)) (pc' i : Nat) (hi : tables_1[i]? = some (.fieldLink own index O n dd)) (K : ∀ T', Stand p l e R s m args below meth c T' locs cells slots → T'.heap = h → Ends p e below Q (T'.setTop (mkF m pc' L (v :: st)))) (hp : pc + 3 = pc' := by exact rfl) : Ends p e below Q (T.setTop (mkF m pc L st)) := by
  subst hp
  obtain ⟨T', X', e', stp⟩ := getS2 X hy.1 hZ hown (host := "") (Or.inl (tb hw i hi)) Via.refl eT F (g := mkF m pc L st) rfl (hb hy.2 d)
  exact Ends.step stp (K T' X' e')
section Arrs
variable {Z : State} {h : Heap} {a : Addr} {kk : ClassId} {z j : Int32} {vs : List Value} {dv : Value}
theorem aLB (X : Stand p l e R s m args below meth c T locs cells slots) (hy : p.tables.exec = Jvm.exec ∧ c.code = code) (hZ : Z.Warmed39 s.vm) (eT : T.heap = h) (A : Arv Z h a kk .byte z vs dv) (d : decode code pc = .ok (.baload, 1)) (pc' : Nat) (v : Value) (q : ¬ j < 0 ∧ j < z) (u : vs.getD j.toNatClampNeg dv = v) (hh : Ends p e below Q (T.setTop (mkF m pc' L (v :: st)))) (hp : pc + 1 = pc' := by exact rfl) : Ends p e below Q (T.setTop (mkF m pc L (.int j :: .ref a :: st))) := by
  subst hp
  obtain ⟨cl, Ar, -, S, P, H, -⟩ := A
  have hin := inb_of S q
  exact Ends.step (fun _ k => X.baloadBytes hy.1 (by rw [eT]; exact Ar.1) (State.isArrayOf_alike hZ.alike Ar.2.1) Ar.2.2 hin (H.at hin u) (g := mkF m pc L (.int j :: .ref a :: st)) rfl rfl (hb hy.2 d) _ k) hh
theorem aLJ (X : Stand p l e R s m args below meth c T locs cells slots) (hy : p.tables.exec = Jvm.exec ∧ c.code = code) (hZ : Z.Warmed39 s.vm) (eT : T.heap = h) (A : Arv Z h a kk .long z vs dv) (d : decode code pc = .ok (.laload, 1)) (pc' : Nat) (v : Value) (q : ¬ j < 0 ∧ j < z) (u : vs.getD j.toNatClampNeg dv = v) (hh : Ends p e below Q (T.setTop (mkF m pc' L (v :: st)))) (hp : pc + 1 = pc' := by exact rfl) : Ends p e below Q (T.setTop (mkF m pc L (.int j :: .ref a :: st))) := by
  subst hp
  obtain ⟨cl, Ar, -, S, P, H, -⟩ := A
  have hin := inb_of S q
  exact Ends.step (fun _ k => X.laload hy.1 (by rw [eT]; exact Ar.1) (State.isArrayOf_alike hZ.alike Ar.2.1) Ar.2.2 hin (H.at hin u) (g := mkF m pc L (.int j :: .ref a :: st)) rfl rfl (hb hy.2 d) _ k) hh
theorem aLC (X : Stand p l e R s m args below meth c T locs cells slots) (hy : p.tables.exec = Jvm.exec ∧ c.code = code) (hZ : Z.Warmed39 s.vm) (eT : T.heap = h) (A : Arv Z h a kk .char z vs dv) (d : decode code pc = .ok (.caload, 1)) (pc' : Nat) (v : Value) (q : ¬ j < 0 ∧ j < z) (u : vs.getD j.toNatClampNeg dv = v) (hh : Ends p e below Q (T.setTop (mkF m pc' L (v :: st)))) (hp : pc + 1 = pc' := by exact rfl) : Ends p e below Q (T.setTop (mkF m pc L (.int j :: .ref a :: st))) := by
  subst hp
  obtain ⟨cl, Ar, -, S, P, H, -⟩ := A
  have hin := inb_of S q
  exact Ends.step (fun _ k => X.caload hy.1 (by rw [eT]; exact Ar.1) (State.isArrayOf_alike hZ.alike Ar.2.1) Ar.2.2 hin (H.at hin u) (g := mkF m pc L (.int j :: .ref a :: st)) rfl rfl (hb hy.2 d) _ k) hh
theorem aLn {ty : FieldType} (X : Stand p l e R s m args below meth c T locs cells slots) (hy : p.tables.exec = Jvm.exec ∧ c.code = code) (hZ : Z.Warmed39 s.vm) (eT : T.heap = h) (A : Arv Z h a kk ty z vs dv) (d : decode code pc = .ok (.arraylength, 1)) (pc' : Nat) (hh : Ends p e below Q (T.setTop (mkF m pc' L (.int z :: st)))) (hp : pc + 1 = pc' := by exact rfl) : Ends p e below Q (T.setTop (mkF m pc L (.ref a :: st))) := by
  subst hp
  obtain ⟨cl, Ar, -, S, P, -, -⟩ := A
  exact Ends.step (S' := T.setTop (mkF m (pc + 1) L (.int z :: st))) (fun _ k => X.arraylength hy.1 (by rw [eT]; exact Ar.1) (State.isArrayOf_alike hZ.alike Ar.2.1) (g := mkF m pc L (.ref a :: st)) rfl rfl (hb hy.2 d) _ (by rw [len_of S P]; exact k)) hh
theorem aSB {x : Int32} (X : Stand p l e R s m args below meth c T locs cells slots) (hy : p.tables.exec = Jvm.exec ∧ c.code = code) (hZ : Z.Warmed39 s.vm) (eT : T.heap = h) (A : Arv Z h a kk .byte z vs dv) (d : decode code pc = .ok (.bastore, 1)) (pc' : Nat) (q : ¬ j < 0 ∧ j < z) (K : ∀ T' h', Stand p l e R s m args below meth c T' (locs ++ [⟨a, j.toNatClampNeg⟩]) cells slots → T'.heap = h' → Wr h h' a j.toNatClampNeg (.int (nar .byte x)) → Ends p e below Q (T'.setTop (mkF m pc' L st))) (hp : pc + 1 = pc' := by exact rfl) : Ends p e below Q (T.setTop (mkF m pc L (.int x :: .int j :: .ref a :: st))) := by
  subst hp
  obtain ⟨cl, Ar, -, S, P, H, -⟩ := A
  obtain ⟨T', h', X', e', W', stp⟩ := stB X hy.1 hZ eT Ar (j := j) (inb_of S q) (g := mkF m pc L (.int x :: .int j :: .ref a :: st)) rfl rfl (hb hy.2 d)
  exact Ends.step stp (K T' h' X' e' W')
theorem aSC {x : Int32} (X : Stand p l e R s m args below meth c T locs cells slots) (hy : p.tables.exec = Jvm.exec ∧ c.code = code) (hZ : Z.Warmed39 s.vm) (eT : T.heap = h) (A : Arv Z h a kk .char z vs dv) (d : decode code pc = .ok (.castore, 1)) (pc' : Nat) (q : ¬ j < 0 ∧ j < z) (K : ∀ T' h', Stand p l e R s m args below meth c T' (locs ++ [⟨a, j.toNatClampNeg⟩]) cells slots → T'.heap = h' → Wr h h' a j.toNatClampNeg (.int (nar .char x)) → Ends p e below Q (T'.setTop (mkF m pc' L st))) (hp : pc + 1 = pc' := by exact rfl) : Ends p e below Q (T.setTop (mkF m pc L (.int x :: .int j :: .ref a :: st))) := by
  subst hp
  obtain ⟨cl, Ar, -, S, P, H, -⟩ := A
  obtain ⟨T', h', X', e', W', stp⟩ := stC X hy.1 hZ eT Ar (j := j) (inb_of S q) (g := mkF m pc L (.int x :: .int j :: .ref a :: st)) rfl rfl (hb hy.2 d)
  exact Ends.step stp (K T' h' X' e' W')
theorem aSJ {x : Int64} (X : Stand p l e R s m args below meth c T locs cells slots) (hy : p.tables.exec = Jvm.exec ∧ c.code = code) (hZ : Z.Warmed39 s.vm) (eT : T.heap = h) (A : Arv Z h a kk .long z vs dv) (d : decode code pc = .ok (.lastore, 1)) (pc' : Nat) (q : ¬ j < 0 ∧ j < z) (K : ∀ T' h', Stand p l e R s m args below meth c T' (locs ++ [⟨a, j.toNatClampNeg⟩]) cells slots → T'.heap = h' → Wr h h' a j.toNatClampNeg (.long x) → Ends p e below Q (T'.setTop (mkF m pc' L st))) (hp : pc + 1 = pc' := by exact rfl) : Ends p e below Q (T.setTop (mkF m pc L (.long x :: .int j :: .ref a :: st))) := by
  subst hp
  obtain ⟨cl, Ar, -, S, P, H, -⟩ := A
  obtain ⟨T', h', X', e', W', stp⟩ := stJ X hy.1 hZ eT Ar (j := j) (inb_of S q) (g := mkF m pc L (.long x :: .int j :: .ref a :: st)) rfl rfl (hb hy.2 d)
  exact Ends.step stp (K T' h' X' e' W')
theorem As {ty : FieldType} {h' : Heap} {v : Value} (A : Arv Z h a kk ty z vs dv) (hv : fits ty v = true) (W : Wr h h' a j.toNatClampNeg v) (i : Nat) (hj : j.toNatClampNeg = i) (hi : i < vs.length) : Arv Z h' a kk ty z (vs.set i v) dv := by
  obtain ⟨c, A, q1, S, q3, H, G⟩ := A
  exact Arv.set A q1 S q3 H G hv W i hj hi
end Arrs
end Ops
abbrev mN0 : MethodName := ⟨"java/lang/AbstractStringBuilder", "ensureCapacityInternal", "(I)V"⟩
abbrev mN1 : MethodName := ⟨"java/lang/String", "getBytes", "([BIB)V"⟩
abbrev mN2 : MethodName := ⟨"java/lang/AbstractStringBuilder", "putStringAt", "(ILjava/lang/String;)V"⟩
abbrev mN3 : MethodName := ⟨"java/lang/AbstractStringBuilder", "append", "(Ljava/lang/String;)Ljava/lang/AbstractStringBuilder;"⟩
abbrev mN4 : MethodName := ⟨"java/lang/StringBuilder", "append", "(Ljava/lang/String;)Ljava/lang/StringBuilder;"⟩
abbrev mN5 : MethodName := ⟨"java/lang/Long", "stringSize", "(J)I"⟩
abbrev mN6 : MethodName := ⟨"java/lang/Long", "getChars", "(JI[B)I"⟩
abbrev mN7 : MethodName := ⟨"java/lang/Long", "toString", "(J)Ljava/lang/String;"⟩
abbrev mN8 : MethodName := ⟨"com/example/hiscore/hiscore/Load", "appendPlayer", "(Ljava/lang/StringBuilder;J)V"⟩
abbrev mN9 : MethodName := ⟨"com/example/hiscore/hiscore/Load", "player", "(J)Ljava/lang/String;"⟩
abbrev mN10 : MethodName := ⟨"java/lang/AbstractStringBuilder", "append", "(C)Ljava/lang/AbstractStringBuilder;"⟩
abbrev mN11 : MethodName := ⟨"java/lang/StringBuilder", "append", "(C)Ljava/lang/StringBuilder;"⟩
abbrev mN12 : MethodName := ⟨"java/lang/Math", "min", "(II)I"⟩
abbrev mN13 : MethodName := ⟨"java/util/Arrays", "copyOfRange", "([BII)[B"⟩
abbrev mN14 : MethodName := ⟨"java/lang/String", "<init>", "(Ljava/lang/AbstractStringBuilder;Ljava/lang/Void;)V"⟩
abbrev mN15 : MethodName := ⟨"java/lang/String", "<init>", "(Ljava/lang/StringBuilder;)V"⟩
abbrev mN16 : MethodName := ⟨"java/lang/StringBuilder", "toString", "()Ljava/lang/String;"⟩
abbrev mN17 : MethodName := ⟨"java/lang/AbstractStringBuilder", "length", "()I"⟩
abbrev mN18 : MethodName := ⟨"java/lang/StringBuilder", "length", "()I"⟩
abbrev mN19 : MethodName := ⟨"java/lang/Math", "max", "(II)I"⟩
abbrev mN20 : MethodName := ⟨"jdk/internal/util/ArraysSupport", "newLength", "(III)I"⟩
abbrev mN21 : MethodName := ⟨"java/lang/AbstractStringBuilder", "newCapacity", "(I)I"⟩
abbrev mN22 : MethodName := ⟨"java/util/Arrays", "copyOf", "([BI)[B"⟩
abbrev mN23 : MethodName := ⟨"java/util/Arrays", "checkLength", "(II)V"⟩
abbrev mN24 : MethodName := ⟨"java/util/Arrays", "copyOfRangeByte", "([BII)[B"⟩
abbrev mN25 : MethodName := ⟨"com/example/hiscore/hiscore/LoadPlayerPinLaw", "step", "(Ljava/lang/String;IJ)J"⟩
abbrev mN26 : MethodName := ⟨"java/lang/String", "coder", "()B"⟩
abbrev mN27 : MethodName := ⟨"java/lang/String", "length", "()I"⟩
abbrev mN28 : MethodName := ⟨"java/lang/String", "isLatin1", "()Z"⟩
abbrev mN29 : MethodName := ⟨"jdk/internal/util/Preconditions", "checkIndex", "(IILjava/util/function/BiFunction;)I"⟩
abbrev mN30 : MethodName := ⟨"java/lang/String", "checkIndex", "(II)V"⟩
abbrev mN31 : MethodName := ⟨"java/lang/StringLatin1", "charAt", "([BI)C"⟩
abbrev mN32 : MethodName := ⟨"java/lang/String", "charAt", "(I)C"⟩
abbrev mN33 : MethodName := ⟨"java/lang/AbstractStringBuilder", "isLatin1", "()Z"⟩
abbrev mN34 : MethodName := ⟨"java/lang/AbstractStringBuilder", "inflateIfNeededFor", "(Ljava/lang/String;)V"⟩
abbrev mN35 : MethodName := ⟨"java/lang/AbstractStringBuilder", "<init>", "(I)V"⟩
abbrev mN36 : MethodName := ⟨"java/lang/StringBuilder", "<init>", "(I)V"⟩
abbrev mN37 : MethodName := ⟨"java/lang/StringLatin1", "canEncode", "(C)Z"⟩
abbrev mN38 : MethodName := ⟨"java/lang/AbstractStringBuilder", "getValue", "()[B"⟩
abbrev mN39 : MethodName := ⟨"java/lang/String", "<init>", "([BB)V"⟩
abbrev mN40 : MethodName := ⟨"java/lang/Math", "max", "(JJ)J"⟩
abbrev mN41 : MethodName := ⟨"java/lang/Record", "<init>", "()V"⟩
abbrev mN42 : MethodName := ⟨"com/example/hiscore/hiscore/Load", "<init>", "(JJ)V"⟩
abbrev fAQ (Z : State) (h : Heap) (a : Addr) (v : Value) : Prop := Fld Z h a "java/lang/String" "coder" "B" v
abbrev fBQ (Z : State) (h : Heap) (a : Addr) (v : Value) : Prop := Fld Z h a "java/lang/String" "value" "[B" v
abbrev fCQ (Z : State) (h : Heap) (a : Addr) (v : Value) : Prop := Fld Z h a "java/lang/AbstractStringBuilder" "coder" "B" v
abbrev fDQ (Z : State) (h : Heap) (a : Addr) (v : Value) : Prop := Fld Z h a "java/lang/AbstractStringBuilder" "value" "[B" v
abbrev fEQ (Z : State) (h : Heap) (a : Addr) (v : Value) : Prop := Fld Z h a "java/lang/AbstractStringBuilder" "count" "I" v
abbrev fFQ (Z : State) (h : Heap) (a : Addr) (v : Value) : Prop := Fld Z h a "com/example/hiscore/hiscore/Load" "players" "J" v
abbrev fGQ (Z : State) (h : Heap) (a : Addr) (v : Value) : Prop := Fld Z h a "com/example/hiscore/hiscore/Load" "updates" "J" v
abbrev sHQ (Z : State) (h : Heap) (v : Value) : Prop := Sta Z h "java/lang/String" "COMPACT_STRINGS" "Z" v
abbrev sIQ (Z : State) (h : Heap) (v : Value) : Prop := Sta Z h "jdk/internal/util/Preconditions" "SIOOBE_FORMATTER" "Ljava/util/function/BiFunction;" v
abbrev sJQ (Z : State) (h : Heap) (v : Value) : Prop := Sta Z h "java/lang/Integer" "DigitOnes" "[B" v
abbrev sKQ (Z : State) (h : Heap) (v : Value) : Prop := Sta Z h "java/lang/Integer" "DigitTens" "[B" v
abbrev eAQ (Z : State) (h : Heap) (a : Addr) : Prop := Exa Z h a "java/lang/String"
abbrev eBQ (Z : State) (h : Heap) (a : Addr) : Prop := Exa Z h a "java/lang/StringBuilder"
abbrev eCQ (Z : State) (h : Heap) (a : Addr) : Prop := Exa Z h a "[B"
abbrev eDQ (Z : State) (h : Heap) (a : Addr) : Prop := Exa Z h a "com/example/hiscore/hiscore/Load"
abbrev cD0 := jdk_35_method_14_code
abbrev cD1 := prog_8_method_5_code
abbrev cD2 := jdk_35_method_15_code
abbrev cD3 := jdk_68_method_10_code
abbrev cD4 := method_3_code
abbrev cD5 := jdk_68_method_31_code
abbrev cD6 := jdk_68_method_22_code
abbrev cD7 := jdk_68_method_9_code
abbrev cD8 := jdk_65_method_133_code
abbrev cD9 := jdk_42_method_150_code
abbrev cD10 := prog_8_method_1_code
abbrev cD11 := jdk_35_method_12_code
abbrev cD12 := jdk_65_method_121_code
abbrev cD13 := jdk_42_method_147_code
abbrev cD14 := jdk_65_method_132_code
abbrev cD15 := jdk_48_method_27_code
abbrev cD16 := jdk_68_method_2_code
abbrev cD17 := prog_8_method_2_code
abbrev cD18 := jdk_43_method_2_code
abbrev cD19 := jdk_68_method_73_code
abbrev cD20 := jdk_42_method_151_code
abbrev cD21 := jdk_42_method_154_code
abbrev cD22 := jdk_42_method_56_code
abbrev cD23 := jdk_68_method_68_code
abbrev cD24 := jdk_68_method_71_code
abbrev cD25 := jdk_29_method_66_code
abbrev cD26 := jdk_42_method_54_code
abbrev cD27 := jdk_41_method_11_code
abbrev cD28 := jdk_29_method_69_code
abbrev cD29 := jdk_42_method_152_code
abbrev cD30 := jdk_42_method_155_code
abbrev cD31 := jdk_43_method_3_code
abbrev cD32 := jdk_67_method_14_code
abbrev cD33 := jdk_67_method_7_code
abbrev cD34 := jdk_29_method_65_code
abbrev cD35 := jdk_42_method_53_code
abbrev cD36 := jdk_67_method_42_code
abbrev cD37 := jdk_67_method_2_code
abbrev cD38 := jdk_65_method_131_code
theorem mm0 {α : Type} {a : α} {l : List α} : a ∈ a :: l := List.mem_of_getElem? (i := 0) rfl
theorem mm1 {α : Type} {a b : α} {l : List α} : b ∈ a :: b :: l := List.mem_of_getElem? (i := 1) rfl
abbrev TW (a0 : Array Value) (Z : State) : Prop := ∀ d ∈ tables_1, d.before a0 Z = true
abbrev QT := Option Value → Heap → List Loc → Prop
set_option maxRecDepth 65536
set_option maxHeartbeats 40000000
theorem pn_0 : plainName "java/lang/String" = true := by first | (simp [plainName, overriddenIn]; done) | decide +kernel
theorem pn_1 : plainName "jdk/internal/util/Preconditions" = true := by first | (simp [plainName, overriddenIn]; done) | decide +kernel
theorem pn_2 : plainName "java/lang/StringLatin1" = true := by first | (simp [plainName, overriddenIn]; done) | decide +kernel
theorem pn_3 : plainName "java/lang/AbstractStringBuilder" = true := by first | (simp [plainName, overriddenIn]; done) | decide +kernel
theorem pn_4 : plainName "java/lang/StringBuilder" = true := by first | (simp [plainName, overriddenIn]; done) | decide +kernel
theorem pn_5 : plainName "jdk/internal/util/ArraysSupport" = true := by first | (simp [plainName, overriddenIn]; done) | decide +kernel
theorem pn_6 : plainName "java/util/Arrays" = true := by first | (simp [plainName, overriddenIn]; done) | decide +kernel
theorem pn_7 : plainName "java/lang/Long" = true := by first | (simp [plainName, overriddenIn]; done) | decide +kernel
theorem pn_8 : plainName "java/lang/Record" = true := by first | (simp [plainName, overriddenIn]; done) | decide +kernel
theorem pn_9 : plainName "com/example/hiscore/hiscore/Load" = true := by first | (simp [plainName, overriddenIn]; done) | decide +kernel
theorem pn_10 : plainName "com/example/hiscore/hiscore/LoadPlayerPinLaw" = true := by first | (simp [plainName, overriddenIn]; done) | decide +kernel
theorem pd_0 : parseMethodDescriptor "()B" = some ⟨[], some .byte⟩ := by decide +kernel
theorem pd_1 : parseMethodDescriptor "(IILjava/util/function/BiFunction;)I" = some ⟨[.int, .int, (.object "java/util/function/BiFunction")], some .int⟩ := by decide +kernel
theorem pd_2 : parseMethodDescriptor "(II)V" = some ⟨[.int, .int], none⟩ := by decide +kernel
theorem pd_3 : parseMethodDescriptor "()Z" = some ⟨[], some .boolean⟩ := by decide +kernel
theorem pd_4 : parseMethodDescriptor "([BI)C" = some ⟨[(.array .byte), .int], some .char⟩ := by decide +kernel
theorem pd_5 : parseMethodDescriptor "(I)V" = some ⟨[.int], none⟩ := by decide +kernel
theorem pd_6 : parseMethodDescriptor "(C)Z" = some ⟨[.char], some .boolean⟩ := by decide +kernel
theorem pd_7 : parseMethodDescriptor "(C)Ljava/lang/AbstractStringBuilder;" = some ⟨[.char], some (.object "java/lang/AbstractStringBuilder")⟩ := by decide +kernel
theorem pd_8 : parseMethodDescriptor "(Ljava/lang/String;)V" = some ⟨[(.object "java/lang/String")], none⟩ := by decide +kernel
theorem pd_9 : parseMethodDescriptor "([BIB)V" = some ⟨[(.array .byte), .int, .byte], none⟩ := by decide +kernel
theorem pd_10 : parseMethodDescriptor "()I" = some ⟨[], some .int⟩ := by decide +kernel
theorem pd_11 : parseMethodDescriptor "(ILjava/lang/String;)V" = some ⟨[.int, (.object "java/lang/String")], none⟩ := by decide +kernel
theorem pd_12 : parseMethodDescriptor "(Ljava/lang/String;)Ljava/lang/AbstractStringBuilder;" = some ⟨[(.object "java/lang/String")], some (.object "java/lang/AbstractStringBuilder")⟩ := by decide +kernel
theorem pd_13 : parseMethodDescriptor "(II)I" = some ⟨[.int, .int], some .int⟩ := by decide +kernel
theorem pd_14 : parseMethodDescriptor "(III)I" = some ⟨[.int, .int, .int], some .int⟩ := by decide +kernel
theorem pd_15 : parseMethodDescriptor "(I)I" = some ⟨[.int], some .int⟩ := by decide +kernel
theorem pd_16 : parseMethodDescriptor "([BI)[B" = some ⟨[(.array .byte), .int], some (.array .byte)⟩ := by decide +kernel
theorem pd_17 : parseMethodDescriptor "()[B" = some ⟨[], some (.array .byte)⟩ := by decide +kernel
theorem pd_18 : parseMethodDescriptor "([BII)[B" = some ⟨[(.array .byte), .int, .int], some (.array .byte)⟩ := by decide +kernel
theorem pd_19 : parseMethodDescriptor "(Ljava/lang/AbstractStringBuilder;Ljava/lang/Void;)V" = some ⟨[(.object "java/lang/AbstractStringBuilder"), (.object "java/lang/Void")], none⟩ := by decide +kernel
theorem pd_20 : parseMethodDescriptor "(Ljava/lang/StringBuilder;)V" = some ⟨[(.object "java/lang/StringBuilder")], none⟩ := by decide +kernel
theorem pd_21 : parseMethodDescriptor "(J)I" = some ⟨[.long], some .int⟩ := by decide +kernel
theorem pd_22 : parseMethodDescriptor "(JI[B)I" = some ⟨[.long, .int, (.array .byte)], some .int⟩ := by decide +kernel
theorem pd_23 : parseMethodDescriptor "([BB)V" = some ⟨[(.array .byte), .byte], none⟩ := by decide +kernel
theorem pd_24 : parseMethodDescriptor "()V" = some ⟨[], none⟩ := by decide +kernel
theorem pd_25 : parseMethodDescriptor "(J)Ljava/lang/String;" = some ⟨[.long], some (.object "java/lang/String")⟩ := by decide +kernel
theorem pd_26 : parseMethodDescriptor "(C)Ljava/lang/StringBuilder;" = some ⟨[.char], some (.object "java/lang/StringBuilder")⟩ := by decide +kernel
theorem pd_27 : parseMethodDescriptor "(Ljava/lang/String;)Ljava/lang/StringBuilder;" = some ⟨[(.object "java/lang/String")], some (.object "java/lang/StringBuilder")⟩ := by decide +kernel
theorem pd_28 : parseMethodDescriptor "(Ljava/lang/StringBuilder;J)V" = some ⟨[(.object "java/lang/StringBuilder"), .long], none⟩ := by decide +kernel
theorem pd_29 : parseMethodDescriptor "()Ljava/lang/String;" = some ⟨[], some (.object "java/lang/String")⟩ := by decide +kernel
theorem pd_30 : parseMethodDescriptor "(I)C" = some ⟨[.int], some .char⟩ := by decide +kernel
theorem pd_31 : parseMethodDescriptor "(JJ)J" = some ⟨[.long, .long], some .long⟩ := by decide +kernel
theorem pd_32 : parseMethodDescriptor "(JJ)V" = some ⟨[.long, .long], none⟩ := by decide +kernel
theorem pd_33 : parseMethodDescriptor "(Ljava/lang/String;IJ)J" = some ⟨[(.object "java/lang/String"), .int, .long], some .long⟩ := by decide +kernel
theorem own_len {args : Array Value} {s : State} {t : Term} {n : Int32} {x : Addr} {cl : Cell} {ty : FieldType} (h : (Jvm.Cond.eq (Term.length t) (Term.int n)).value args s none s [] = some true) (ev : t.eval args s none [] s = some (.ref x)) (A : Arr s s.heap x cl ty) : cl.slots.size < 2 ^ 31 ∧ cl.slots.size.toInt32 = n := by
  obtain ⟨v, w, h1, h2, -, -⟩ := cmp_v (Or.inl h)
  have ha := A.fin (Vm.Alike.refl _)
  by_cases hl : cl.slots.size < 2 ^ 31
  · refine ⟨hl, ?_⟩
    have e := len_f ev ha hl (args := args) (first := s) (o := none) (idx := [])
    simp only [Cond.value, e, Term.int_eval] at h
    simpa using h
  · simp [Term.eval, ev, ha, hl] at h1
theorem own_elem {args : Array Value} {s : State} {t u : Term} {j : Int32} {x : Addr} {cl : Cell} {ty : FieldType} {v : Value} (h : (Jvm.Cond.eq (Term.elem t (Term.int j)) u).value args s none s [] = some true) (ev : t.eval args s none [] s = some (.ref x)) (A : Arr s s.heap x cl ty) (eu : u.eval args s none [] s = some v) : cl.slots[j.toNatClampNeg]? = some v := by
  obtain ⟨a, b, h1, h2, k1, k2⟩ := cmp_v (Or.inl h)
  cases eu.symm.trans h2
  have q := elem_in h1 ev (Term.int_eval j) A.1
  rw [q.2]
  simp only [Cond.value, h1, h2] at h
  cases a <;> cases v <;> simp_all [Kin, Value.isRef]
theorem own_elemJ {args : Array Value} {s : State} {t : Term} {j : Nat} {x : Addr} {cl : Cell} {ty : FieldType} {v : Int32} (h : (Jvm.Cond.eq (Term.elem t (Term.index 0)) (Term.int v)).value args s none s [j] = some true) (ev : t.eval args s none [j] s = some (.ref x)) (A : Arr s s.heap x cl ty) (hl : cl.slots.size < 2 ^ 31) (hj : j < cl.slots.size) : cl.slots[j]? = some (.int v) := by
  obtain ⟨a, b, h1, h2, k1, k2⟩ := cmp_v (Or.inl h)
  have q := elem_in h1 ev (Term.index_eval j) A.1
  have ej : j.toInt32.toNatClampNeg = j := by have := len_toInt (show j < 2 ^ 31 by omega); simp only [Int32.toNatClampNeg]; omega
  rw [ej] at q
  rw [q.2]
  cases (Term.int_eval v).symm.trans h2
  simp only [Cond.value, h1, h2] at h
  cases a <;> simp_all [Kin, Value.isRef]
theorem own_fld {args : Array Value} {s : State} {t u : Term} {x : Addr} {C f d : String} {v : Value} (h : (Jvm.Cond.eq (Term.field t C f d) u).value args s none s [] = some true) (ev : t.eval args s none [] s = some (.ref x)) (eu : u.eval args s none [] s = some v) : Fld s s.heap x C f d v := by
  obtain ⟨a, b, h1, h2, k1, k2⟩ := cmp_v (Or.inl h)
  cases eu.symm.trans h2
  have e : a = v := by
    simp only [Cond.value, h1, h2] at h
    cases a <;> cases v <;> simp_all [Kin, Value.isRef]
  subst e
  exact Fld.start ((fld_at ev).symm.trans h1)
theorem own_idx {args : Array Value} {s : State} {C n d : String} {v : Value} (ev : (Term.static C n d).eval args s none [] s = some v) (idx : List Nat := []) : (Term.static C n d).eval args s none idx s = some v := ev
theorem own_lt {k : Nat} {n : Int32} {j : Nat} (h : k.toInt32 = n) (h2 : k < 2 ^ 31) (h3 : (j : Int) < n.toInt) : j < k := by
  have := len_toInt h2
  rw [h] at this
  omega
theorem own_all3 {args : Array Value} {s : State} {t : Term} {a b v : Int32} {x : Addr} {cl : Cell} {ty : FieldType} (h : (Jvm.Cond.all t (.or (.lt (.index 0) (.int a)) (.or (.le (.int b) (.index 0)) (.eq (.elem t (.index 0)) (.int v))))).value args s none s [] = some true)
    (ev : ∀ idx, t.eval args s none idx s = some (.ref x)) (A : Arr s s.heap x cl ty) (hl : cl.slots.size < 2 ^ 31) (j : Nat) (hj : j < cl.slots.size) (h1 : a.toInt ≤ j) (h2 : (j : Int) < b.toInt) : cl.slots[j]? = some (.int v) := by
  have e := Cond.all_elim (ev []) (A.fin (Vm.Alike.refl _)) h j hj
  have ej : j.toInt32.toInt = j := len_toInt (by omega)
  have g1 : (Jvm.Cond.lt (.index 0) (.int a)).value args s none s [j] = some false := by
    simp only [Cond.value, Term.index_eval, Term.int_eval, Int32.lt_iff_toInt_lt, ej]; simp; omega
  have g2 : (Jvm.Cond.le (.int b) (.index 0)).value args s none s [j] = some false := by
    simp only [Cond.value, Term.index_eval, Term.int_eval, Int32.le_iff_toInt_le, ej]; simp; omega
  rw [Cond.or_of_right g1, Cond.or_of_right g2] at e
  exact own_elemJ e (ev [j]) A hl hj
theorem own_allH {args : Array Value} {s : State} {t : Term} {b v : Int32} {x : Addr} {cl : Cell} {ty : FieldType} (h : (Jvm.Cond.all t (.or (.le (.int b) (.index 0)) (.eq (.elem t (.index 0)) (.int v)))).value args s none s [] = some true)
    (ev : ∀ idx, t.eval args s none idx s = some (.ref x)) (A : Arr s s.heap x cl ty) (hl : cl.slots.size < 2 ^ 31) (j : Nat) (hj : j < cl.slots.size) (h2 : (j : Int) < b.toInt) : cl.slots[j]? = some (.int v) := by
  have e := Cond.all_elim (ev []) (A.fin (Vm.Alike.refl _)) h j hj
  have ej : j.toInt32.toInt = j := len_toInt (by omega)
  have g2 : (Jvm.Cond.le (.int b) (.index 0)).value args s none s [j] = some false := by
    simp only [Cond.value, Term.index_eval, Term.int_eval, Int32.le_iff_toInt_le, ej]; simp; omega
  rw [Cond.or_of_right g2] at e
  exact own_elemJ e (ev [j]) A hl hj
theorem own_nz {args : Array Value} {s : State} {t : Term} {x : Int32} (h : (Jvm.Cond.not (Jvm.Cond.eq t (Term.int 0))).value args s none s [] = some true) (ev : t.eval args s none [] s = some (.int x)) : ¬ x = (0 : Int32) := by
  simpa [Cond.value, ev, Term.eval] using h
theorem own_shr0 (n : Int32) : n >>> ((0 : Int32) &&& 31) = n := by
  apply Int32.toInt_inj.mp
  rw [c_ishr n 0 0 (by decide)]
  simp
def own_dg (N : Int) : Int32 := Int32.ofInt (48 + N % 10)
def own_ones : List Value := (List.range 100).map fun r => Value.int (Int32.ofNat (48 + r % 10))
def own_tens : List Value := (List.range 100).map fun r => Value.int (Int32.ofNat (48 + r / 10))
theorem own_dgi (N : Int) : (own_dg N).toInt = 48 + N % 10 := by
  unfold own_dg
  rw [Int32.toInt_ofInt, show Int32.size = 4294967296 from rfl, Int.bmod_eq_of_le (by omega) (by omega)]
theorem own_nardg (N : Int) : nar .byte (own_dg N) = own_dg N := by
  apply Int32.toInt_inj.mp
  have h := c_i2b (own_dg N)
  have e := own_dgi N
  show (own_dg N).toInt8.toInt32.toInt = _
  omega
theorem own_fitdg (N : Int) : fits .byte (.int (own_dg N)) = true := by
  have h := fits_nar_byte (own_dg N)
  have e : (own_dg N).toInt8.toInt32 = own_dg N := own_nardg N
  rw [e] at h
  exact h
theorem own_ofn (n : Nat) (h : n < 1000) : (Int32.ofNat n).toInt = n := by
  rw [Int32.toInt_ofNat', show Int32.size = 4294967296 from rfl, Int.bmod_eq_of_le (by omega) (by omega)]
theorem own_oneat {r : Int32} {N : Int} (h : r.toInt = N % 100) : own_ones.getD r.toNatClampNeg (.int 0) = .int (own_dg N) := by
  have key : ∀ j : Fin 100, own_ones.getD j.1 (Value.int 0) = .int (Int32.ofNat (48 + j.1 % 10)) := by decide +kernel
  have hj : r.toNatClampNeg < 100 := by simp only [Int32.toNatClampNeg]; omega
  rw [key ⟨_, hj⟩]
  congr 1
  apply Int32.toInt_inj.mp
  rw [own_ofn _ (by omega), own_dgi]
  simp only [Int32.toNatClampNeg]
  omega
theorem own_tenat {r : Int32} {N : Int} (h : r.toInt = N % 100) : own_tens.getD r.toNatClampNeg (.int 0) = .int (own_dg (N / 10)) := by
  have key : ∀ j : Fin 100, own_tens.getD j.1 (Value.int 0) = .int (Int32.ofNat (48 + j.1 / 10)) := by decide +kernel
  have hj : r.toNatClampNeg < 100 := by simp only [Int32.toNatClampNeg]; omega
  rw [key ⟨_, hj⟩]
  congr 1
  apply Int32.toInt_inj.mp
  rw [own_ofn _ (by omega), own_dgi]
  simp only [Int32.toNatClampNeg]
  omega
theorem own_in {r : Int32} {N : Int} (h : r.toInt = N % 100) : ¬ r < 0 ∧ r < (100 : Int32) := by
  simp only [Int32.lt_iff_toInt_lt, Int32.reduceToInt]
  omega
theorem own_q {x : Int32} {N : Int} (h : x.toInt = -N) (h0 : 0 ≤ N) : (x / (100 : Int32)).toInt = -(N / 100) := by
  have c := c_idiv x 100 100 (by decide) (by decide)
  by_cases z : x.toInt < 0
  · rw [c.2 z]; omega
  · rw [c.1 (by omega)]; omega
theorem own_r {x : Int32} {N : Int} (h : x.toInt = -N) (h0 : 0 ≤ N) : (((x / (100 : Int32)) * (100 : Int32)) - x).toInt = N % 100 := by
  have q := own_q h h0
  have c1 := c_imul (x / 100) 100
  have c2 := c_isub ((x / 100) * 100) x
  have b1 := Int32.toInt_lt ((x / 100) * 100 - x)
  have b2 := Int32.le_toInt ((x / 100) * 100 - x)
  have e : (100 : Int32).toInt = 100 := by decide
  have b3 := Int32.le_toInt x
  rw [q, e] at c1
  omega
theorem own_nr {x : Int32} {N : Int} (h : x.toInt = -N) (h0 : 0 ≤ N) (h1 : N < 100) : (-x).toInt = N % 100 := by
  have c := c_ineg x
  have b1 := Int32.toInt_lt (-x)
  have b2 := Int32.le_toInt (-x)
  omega
theorem own_i0 {q : Int64} (h0 : 0 ≤ q.toInt) (h1 : q.toInt < 1000000000) : (-q).toInt32.toInt = -q.toInt := by
  have c := c_lneg q
  have c2 := c_l2i (-q)
  have b1 := Int64.toInt_lt (-q)
  have b2 := Int64.le_toInt (-q)
  have b3 := Int32.toInt_lt (-q).toInt32
  have b4 := Int32.le_toInt (-q).toInt32
  omega
theorem own_cont {x : Int32} {N : Int} (h : x.toInt = -N) (h1 : 100 ≤ N) : ¬ (-100 : Int32) < x := by
  have e : (-100 : Int32).toInt = -100 := by decide
  rw [Int32.lt_iff_toInt_lt, e]
  omega
theorem own_exit {x : Int32} {N : Int} (h : x.toInt = -N) (h1 : N < 100) : (-100 : Int32) < x := by
  have e : (-100 : Int32).toInt = -100 := by decide
  rw [Int32.lt_iff_toInt_lt, e]
  omega
theorem own_two {x : Int32} {N : Int} (h : x.toInt = -N) (h1 : 10 ≤ N) : x < (-9 : Int32) := by
  have e : (-9 : Int32).toInt = -9 := by decide
  rw [Int32.lt_iff_toInt_lt, e]
  omega
theorem own_one {x : Int32} {N : Int} (h : x.toInt = -N) (h1 : N < 10) : ¬ x < (-9 : Int32) := by
  have e : (-9 : Int32).toInt = -9 := by decide
  rw [Int32.lt_iff_toInt_lt, e]
  omega
theorem own_ge0 {q : Int64} (h : 0 ≤ q.toInt) : ¬ q < (0 : Int64) := by
  have e : (0 : Int64).toInt = 0 := by decide
  rw [Int64.lt_iff_toInt_lt, e]
  omega
theorem own_ng {q p : Int64} {P : Int} (e : p.toInt = -P) (h0 : 0 ≤ q.toInt) (h : q.toInt < P) : p < (-q) := by
  have c := c_lneg q
  have b1 := Int64.toInt_lt (-q)
  have b2 := Int64.le_toInt (-q)
  have b3 := Int64.toInt_lt q
  rw [Int64.lt_iff_toInt_lt, e]
  omega
theorem own_nl {q p : Int64} {P : Int} (e : p.toInt = -P) (h0 : 0 ≤ q.toInt) (h : P ≤ q.toInt) : ¬ p < (-q) := by
  have c := c_lneg q
  have b1 := Int64.toInt_lt (-q)
  have b2 := Int64.le_toInt (-q)
  have b3 := Int64.toInt_lt q
  rw [Int64.lt_iff_toInt_lt, e]
  omega
theorem own_rm {x y : Int64} (hx : 0 ≤ x.toInt) (hy : 0 < y.toInt) : (x % y).toInt = x.toInt % y.toInt := by
  rw [Int64.toInt_mod, Int.tmod_eq_emod_of_nonneg hx]
theorem own_wn {K PL : Int64} (hk : 0 ≤ K.toInt) (h1 : 1 ≤ PL.toInt) (h2 : PL.toInt ≤ 1000000000) : (((K % PL) * (7919 : Int64)) % PL).toInt = (K.toInt % PL.toInt * 7919) % PL.toInt := by
  have a := own_rm hk (show 0 < PL.toInt by omega)
  have b1 := Int.emod_nonneg K.toInt (show PL.toInt ≠ 0 by omega)
  have b2 := Int.emod_lt_of_pos K.toInt (show 0 < PL.toInt by omega)
  have e : (7919 : Int64).toInt = 7919 := by decide
  have m : ((K % PL) * (7919 : Int64)).toInt = K.toInt % PL.toInt * 7919 := by
    rw [Int64.toInt_mul, a, e, Int.bmod_eq_of_le (by omega) (by omega)]
  rw [own_rm (by rw [m]; omega) (by omega), m]
theorem own_wl {K PL : Int64} (hk : 0 ≤ K.toInt) (h1 : 1 ≤ PL.toInt) (h2 : PL.toInt ≤ 1000000000) : (((K % PL) * ((7919 : Int64) % PL)) % PL) = (((K % PL) * (7919 : Int64)) % PL) := by
  apply Int64.toInt_inj.mp
  rw [own_wn hk h1 h2]
  have a := own_rm hk (show 0 < PL.toInt by omega)
  have b1 := Int.emod_nonneg K.toInt (show PL.toInt ≠ 0 by omega)
  have b2 := Int.emod_lt_of_pos K.toInt (show 0 < PL.toInt by omega)
  have e : (7919 : Int64).toInt = 7919 := by decide
  have d := own_rm (x := 7919) (y := PL) (by decide) (show 0 < PL.toInt by omega)
  rw [e] at d
  have d1 := Int.emod_nonneg 7919 (show PL.toInt ≠ 0 by omega)
  have d2 : (7919 : Int) % PL.toInt ≤ 7919 := by rw [Int.emod_def]; exact Int.sub_le_self _ (Int.mul_nonneg (by omega) (Int.ediv_nonneg (by decide) (by omega)))
  have m : ((K % PL) * ((7919 : Int64) % PL)).toInt = K.toInt % PL.toInt * (7919 % PL.toInt) := by
    have u : K.toInt % PL.toInt * (7919 % PL.toInt) ≤ 1000000000 * 7919 := Int.mul_le_mul (by omega) d2 d1 (by omega)
    have w : 0 ≤ K.toInt % PL.toInt * (7919 % PL.toInt) := Int.mul_nonneg b1 d1
    rw [Int64.toInt_mul, a, d, Int.bmod_eq_of_le (by omega) (by omega)]
  rw [own_rm (by rw [m]; exact Int.mul_nonneg b1 d1) (by omega), m]
  rw [Int.mul_emod (K.toInt % PL.toInt) (7919 % PL.toInt), Int.emod_emod_of_dvd 7919 (Int.dvd_refl _), ← Int.mul_emod]
theorem own_oi {M : Int} (h0 : 0 ≤ M) (h1 : M < 10000000000) : (Int64.ofInt M).toInt = M := by
  rw [Int64.toInt_ofInt, show Int64.size = 18446744073709551616 from rfl, Int.bmod_eq_of_le (by omega) (by omega)]
theorem own_dm (M : Int) : (own_dg M &&& (255 : Int32)) = own_dg M := by
  apply Int32.toInt_inj.mp
  have c := c_mask (own_dg M) 255 8 (by decide) (by decide)
  have e := own_dgi M
  omega
theorem own_step {M M' : Int} (h : M' = M / 10) (h0 : 0 ≤ M) (h1 : M < 1000000000) : ((Int64.ofInt M') * (10 : Int64)) + ((own_dg M &&& (255 : Int32)) - (48 : Int32)).toInt64 = Int64.ofInt M := by
  apply Int64.toInt_inj.mp
  rw [own_oi h0 (by omega), own_dm]
  have e := own_dgi M
  have c := c_isub (own_dg M) 48
  have b1 := Int32.toInt_lt (own_dg M - 48)
  have b2 := Int32.le_toInt (own_dg M - 48)
  have e48 : (48 : Int32).toInt = 48 := by decide
  have i := c_i2l (own_dg M - 48)
  have e10 : (10 : Int64).toInt = 10 := by decide
  have mm : ((Int64.ofInt M') * (10 : Int64)).toInt = M' * 10 := by
    rw [Int64.toInt_mul, own_oi (by omega) (by omega), e10, Int.bmod_eq_of_le (by omega) (by omega)]
  rw [Int64.toInt_add, mm, i, Int.bmod_eq_of_le (by omega) (by omega)]
  omega
theorem own_d1 (M : Int) : ¬ (own_dg M &&& (255 : Int32)) < (48 : Int32) := by
  rw [own_dm, Int32.lt_iff_toInt_lt, own_dgi]
  have e48 : (48 : Int32).toInt = 48 := by decide
  omega
theorem own_d2 (M : Int) : ¬ (57 : Int32) < (own_dg M &&& (255 : Int32)) := by
  rw [own_dm, Int32.lt_iff_toInt_lt, own_dgi]
  have e48 : (57 : Int32).toInt = 57 := by decide
  omega
theorem own_v0 {M : Int} (h0 : 0 ≤ M) (h1 : M < 1000000000) : ¬ Int64.ofInt M < (0 : Int64) := own_ge0 (by rw [own_oi h0 (by omega)]; exact h0)
theorem own_elemR {args : Array Value} {s : State} {t u : Term} {j : Nat} {x : Addr} {cl : Cell} {ty : FieldType} {v : Int32} (h : (Jvm.Cond.eq (Term.elem t (Term.index 0)) u).value args s none s [j] = some true) (ev : t.eval args s none [j] s = some (.ref x)) (A : Arr s s.heap x cl ty) (hl : cl.slots.size < 2 ^ 31) (hj : j < cl.slots.size) (eu : u.eval args s none [j] s = some (.int v)) : cl.slots[j]? = some (.int v) := by
  obtain ⟨a, b, h1, h2, k1, k2⟩ := cmp_v (Or.inl h)
  have q := elem_in h1 ev (Term.index_eval j) A.1
  have ej : j.toInt32.toNatClampNeg = j := by have := len_toInt (show j < 2 ^ 31 by omega); simp only [Int32.toNatClampNeg]; omega
  rw [ej] at q
  rw [q.2]
  cases eu.symm.trans h2
  simp only [Cond.value, h1, h2] at h
  cases a <;> simp_all [Kin, Value.isRef]
theorem own_dtab {args a0 : Array Value} {s : State} {nm : String} {rhs : Term} {F : Nat → Nat} (hx : (Jvm.Cond.exactly (.static "java/lang/Integer" nm "[B") "[B").before args s = true) (hl : (Jvm.Cond.eq (.length (.static "java/lang/Integer" nm "[B")) (.int 100)).before args s = true)
    (ha : (Jvm.Cond.all (.static "java/lang/Integer" nm "[B") (.eq (.elem (.static "java/lang/Integer" nm "[B") (.index 0)) rhs)).before args s = true) (harr : (Jvm.Cond.arrayClass .byte).before a0 s = true) (hr : ∀ r, r < 100 → rhs.eval args s none [r] s = some (.int (Int32.ofNat (F r)))) (hF : ∀ r, r < 100 → fits .byte (.int (Int32.ofNat (F r))) = true) :
    ∃ (d : Addr) (k : ClassId), (Term.static "java/lang/Integer" nm "[B").eval args s none [] s = some (.ref d) ∧ Arv s s.heap d k .byte 100 ((List.range 100).map fun r => Value.int (Int32.ofNat (F r))) (.int 0) := by
  obtain ⟨d, cB, D, kB, hev, hfcB, hcellD, hkB, hstatD, hclsD, -⟩ := Cond.exactly_spec hx
  obtain ⟨d', D', hev', harrAt, hlen⟩ := Term.length_spec (Cond.eq_int hl rfl)
  cases hev.symm.trans hev'
  obtain ⟨hcellD', hknD, -, -⟩ := State.arrayAt?_spec harrAt
  cases hcellD.symm.trans hcellD'
  obtain ⟨cB', kB', comp, hnameB, hkB', hkindB⟩ := Cond.arrayClass_spec harr
  rw [show ("[" ++ FieldType.toString .byte) = "[B" from by decide] at hnameB
  cases hfcB.symm.trans hnameB
  cases hkB.symm.trans hkB'
  have A : Arr s s.heap d D .byte := ⟨hcellD, ⟨(fun q h => by rw [h] at hstatD; cases hstatD), kB, (by rw [hclsD]; exact hkB), comp, hkindB⟩, hknD⟩
  obtain ⟨lt, sz⟩ := own_len (Cond.before_iff.mp hl) hev A
  have hsz : D.slots.size = 100 := by
    have q := len_toInt lt
    rw [sz] at q
    have e : (100 : Int32).toInt = 100 := by decide
    omega
  refine ⟨d, D.cls, hev, D, A, rfl, by rw [hsz]; rfl, by decide, ?_, ?_⟩
  · intro k hk
    have hk2 : k < 100 := by omega
    have e := Cond.all_elim hev (A.fin (Vm.Alike.refl _)) (Cond.before_iff.mp ha) k (by omega)
    rw [own_elemR e (own_idx hev [k]) A lt (by omega) (hr k hk2)]
    simp [List.getD, hk2]
  · intro i hi
    have hi2 : i < 100 := by omega
    have q := hF i hi2
    simpa [List.getD, hi2] using q
theorem own_onum : ∀ r, r < 100 → (48 : Int32) + Int32.ofNat r % 10 = Int32.ofNat (48 + r % 10) := by decide +kernel
theorem own_tnum : ∀ r, r < 100 → (48 : Int32) + Int32.ofNat r / 10 = Int32.ofNat (48 + r / 10) := by decide +kernel
theorem own_t1 {args a0 : Array Value} {s : State} (hx : (Jvm.Cond.exactly (.static "java/lang/Integer" "DigitOnes" "[B") "[B").before args s = true) (hl : (Jvm.Cond.eq (.length (.static "java/lang/Integer" "DigitOnes" "[B")) (.int 100)).before args s = true)
    (ha : (Jvm.Cond.all (.static "java/lang/Integer" "DigitOnes" "[B") (.eq (.elem (.static "java/lang/Integer" "DigitOnes" "[B") (.index 0)) (.add (.int 48) (.rem (.index 0) (.int 10))))).before args s = true) (harr : (Jvm.Cond.arrayClass .byte).before a0 s = true) :
    ∃ (d : Addr) (k : ClassId), (Term.static "java/lang/Integer" "DigitOnes" "[B").eval args s none [] s = some (.ref d) ∧ Arv s s.heap d k .byte 100 own_ones (.int 0) :=
  own_dtab (F := fun r => 48 + r % 10) hx hl ha harr (fun r hr => by rw [← own_onum r hr]; rfl) (by decide +kernel)
theorem own_t2 {args a0 : Array Value} {s : State} (hx : (Jvm.Cond.exactly (.static "java/lang/Integer" "DigitTens" "[B") "[B").before args s = true) (hl : (Jvm.Cond.eq (.length (.static "java/lang/Integer" "DigitTens" "[B")) (.int 100)).before args s = true)
    (ha : (Jvm.Cond.all (.static "java/lang/Integer" "DigitTens" "[B") (.eq (.elem (.static "java/lang/Integer" "DigitTens" "[B") (.index 0)) (.add (.int 48) (.div (.index 0) (.int 10))))).before args s = true) (harr : (Jvm.Cond.arrayClass .byte).before a0 s = true) :
    ∃ (d : Addr) (k : ClassId), (Term.static "java/lang/Integer" "DigitTens" "[B").eval args s none [] s = some (.ref d) ∧ Arv s s.heap d k .byte 100 own_tens (.int 0) :=
  own_dtab (F := fun r => 48 + r / 10) hx hl ha harr (fun r hr => by rw [← own_tnum r hr]; rfl) (by decide +kernel)
theorem own_step0 {M : Int} (h : M / 10 = 0) (h0 : 0 ≤ M) (h1 : M < 1000000000) : ((0 : Int64) * (10 : Int64)) + ((own_dg M &&& (255 : Int32)) - (48 : Int32)).toInt64 = Int64.ofInt M := by
  have q := own_step (M' := 0) h.symm h0 h1
  rw [show Int64.ofInt 0 = (0 : Int64) from by decide] at q
  exact q
theorem own_pl {q x : Int64} (h : (((q &&& (9223372036854775807 : Int64)) % (1000000000 : Int64)) + (1 : Int64)) = x) : 1 ≤ x.toInt ∧ x.toInt ≤ 1000000000 := by
  have a := c_maskL q 9223372036854775807 63 (by decide) (by decide)
  have e9 : (1000000000 : Int64).toInt = 1000000000 := by decide
  have e1 : (1 : Int64).toInt = 1 := by decide
  have r := own_rm (x := q &&& 9223372036854775807) (y := 1000000000) (by omega) (by rw [e9]; decide)
  rw [e9] at r
  rw [← h, Int64.toInt_add, r, e1, Int.bmod_eq_of_le (by omega) (by omega)]
  omega
theorem own_kk {q x : Int64} (h : (q &&& (9223372036854775807 : Int64)) = x) : 0 ≤ x.toInt := by
  have a := c_maskL q 9223372036854775807 63 (by decide) (by decide)
  rw [← h]
  omega
theorem own_w0 {K PL : Int64} (hk : 0 ≤ K.toInt) (h1 : 1 ≤ PL.toInt) (h2 : PL.toInt ≤ 1000000000) : 0 ≤ (((K % PL) * (7919 : Int64)) % PL).toInt ∧ (((K % PL) * (7919 : Int64)) % PL).toInt < 1000000000 := by
  rw [own_wn hk h1 h2]
  have b1 := Int.emod_nonneg (K.toInt % PL.toInt * 7919) (show PL.toInt ≠ 0 by omega)
  have b2 := Int.emod_lt_of_pos (K.toInt % PL.toInt * 7919) (show 0 < PL.toInt by omega)
  exact ⟨b1, by omega⟩
theorem own_h1 {x : Int64} (h : 1 ≤ x.toInt) : ¬ x < (1 : Int64) := by
  have e1 : (1 : Int64).toInt = 1 := by decide
  rw [Int64.lt_iff_toInt_lt, e1]
  omega
theorem own_h2 {x : Int64} (h : x.toInt ≤ 1000000000) : ¬ (1000000000 : Int64) < x := by
  have e1 : (1000000000 : Int64).toInt = 1000000000 := by decide
  rw [Int64.lt_iff_toInt_lt, e1]
  omega
theorem own_plnz {x : Int64} (h : 1 ≤ x.toInt) : x ≠ 0 := by
  intro q
  rw [q] at h
  exact absurd h (by decide)

theorem d19_0 : decode cD29 0 = .ok (.getstatic 38, 3) := by decide +kernel
theorem d19_3 : decode cD29 3 = .ok (.ifCond .eq 10, 3) := by decide +kernel
theorem d19_6 : decode cD29 6 = .ok (.aload_n 0, 1) := by decide +kernel
theorem d19_7 : decode cD29 7 = .ok (.getfield 15, 3) := by decide +kernel
theorem d19_10 : decode cD29 10 = .ok (.goto 4, 3) := by decide +kernel
theorem d19_14 : decode cD29 14 = .ok (.ireturn, 1) := by decide +kernel
def Qcod (Z : State) (o0 : Addr) (cs : Int32) (h0 : Heap) (n0 : Nat) : QT := fun v h L => (v = some (.int 0)) ∧ (Fr n0 L) ∧ (h = h0)
theorem rmcod (l : Launch) (Z : State) (a0 : Array Value) (hw : TW a0 Z) (ws : List Jvm.Cond) (o0 : Addr) (cs : Int32) (h0 : Heap) (n0 : Nat) (Z0 : n0 ≤ h0.size) (wa : sHQ Z h0 (.int cs)) (hcs : ¬ cs = (0 : Int32)) (wb : fAQ Z h0 o0 (.int 0)) :
  MF l mN26 jdk_42_method_152_code 1 (some .byte) ws (rmm 0 0 0 0) #[.ref o0] Z h0 (Qcod Z o0 cs h0 n0) := by
 refine MF.of (plainFor_of_name pn_0) ?_
 intro p e s m below meth c s₁ QQ hy hml hown hZ X0 e0 hrt hlk hnm hQQ
 have N0 := Fr.nil n0
 refine Ends.i #[rv o0] (gS X0 hy hown hZ hw e0 wa d19_0 3 117 rfl fun T1 X1 e1 => ?_)
 have hc3 : ¬ (cs = (0 : Int32)) := hcs
 refine oxh X1 hy d19_3 6 (XT.i0_eq_f hc3) (oA X1 hy d19_6 7 rfl (gF X1 hy hown hZ hw e1 wb d19_7 10 79 rfl fun T2 X2 e2 => oxm X2 hy d19_10 14 ?_))
 exact fI X2 hy hrt hlk hQQ d19_14 rfl (by simp) e2 (by decide) ⟨rfl, N0, rfl⟩
theorem d18_0 : decode cD26 0 = .ok (.aload_n 0, 1) := by decide +kernel
theorem d18_1 : decode cD26 1 = .ok (.getfield 9, 3) := by decide +kernel
theorem d18_4 : decode cD26 4 = .ok (.arraylength, 1) := by decide +kernel
theorem d18_5 : decode cD26 5 = .ok (.aload_n 0, 1) := by decide +kernel
theorem d18_6 : decode cD26 6 = .ok (.invokevirtual 335, 3) := by decide +kernel
theorem d18_9 : decode cD26 9 = .ok (.ishr, 1) := by decide +kernel
theorem d18_10 : decode cD26 10 = .ok (.ireturn, 1) := by decide +kernel
def Qlen (Z : State) (o0 t : Addr) (k : ClassId) (n : Int32) (vs : List Value) (cs : Int32) (h0 : Heap) (n0 : Nat) : QT := fun v h L => (v = some (.int n)) ∧ (Fr n0 L) ∧ (h = h0)
theorem rmlen (l : Launch) (Z : State) (a0 : Array Value) (hw : TW a0 Z) (ws : List Jvm.Cond) (o0 t : Addr) (k : ClassId) (n : Int32) (vs : List Value) (cs : Int32) (h0 : Heap) (n0 : Nat) (Z0 : n0 ≤ h0.size) (wh : eAQ Z h0 o0) (wd : fBQ Z h0 o0 (.ref t)) (A_t : Arv Z h0 t k .byte n vs (.int 0)) (wa : sHQ Z h0 (.int cs)) (hcs : ¬ cs = (0 : Int32)) (wb : fAQ Z h0 o0 (.int 0)) :
  MF l mN27 jdk_42_method_54_code 1 (some .int) ws (rmm 1 0 0 13) #[.ref o0] Z h0 (Qlen Z o0 t k n vs cs h0 n0) := by
 refine MF.of (plainFor_of_name pn_0) ?_
 intro p e s m below meth c s₁ QQ hy hml hown hZ X0 e0 hrt hlk hnm hQQ
 have N0 := Fr.nil n0
 refine Ends.i #[rv o0] (oA X0 hy d18_0 1 rfl (gF X0 hy hown hZ hw e0 wd d18_1 4 77 rfl fun T3 X3 e3 => aLn X3 hy hZ e3 A_t d18_4 5 (oA X3 hy d18_5 6 rfl ?_)))
 refine cV X3 hy hml hown hZ hw d18_6 9 1 112 113 115 114 116 44 rfl rfl rfl rfl rfl rfl (rmcod l Z a0 hw [] o0 cs h0 n0 Z0 wa hcs wb) e3 pd_0 wh rfl rfl fun _ T5 Lc5 X5 hQ5 => ?_
 obtain ⟨rfl, Nq5, hh5⟩ := hQ5
 have N5 := Fr.app N0 Nq5
 refine Ends.v (oP X5 hy d18_9 10 ?_)
 exact fI X5 hy hrt hlk hQQ d18_10 rfl (Or.inl rfl) hh5 (by decide) ⟨(by rw [own_shr0]), N5, rfl⟩
theorem d33_0 : decode cD21 0 = .ok (.getstatic 38, 3) := by decide +kernel
theorem d33_3 : decode cD21 3 = .ok (.ifCond .eq 14, 3) := by decide +kernel
theorem d33_6 : decode cD21 6 = .ok (.aload_n 0, 1) := by decide +kernel
theorem d33_7 : decode cD21 7 = .ok (.getfield 15, 3) := by decide +kernel
theorem d33_10 : decode cD21 10 = .ok (.ifCond .ne 7, 3) := by decide +kernel
theorem d33_13 : decode cD21 13 = .ok (.iconst 1, 1) := by decide +kernel
theorem d33_14 : decode cD21 14 = .ok (.goto 4, 3) := by decide +kernel
theorem d33_18 : decode cD21 18 = .ok (.ireturn, 1) := by decide +kernel
def Qlat (Z : State) (o0 : Addr) (cs : Int32) (h0 : Heap) (n0 : Nat) : QT := fun v h L => (v = some (.int 1)) ∧ (Fr n0 L) ∧ (h = h0)
theorem rmlat (l : Launch) (Z : State) (a0 : Array Value) (hw : TW a0 Z) (ws : List Jvm.Cond) (o0 : Addr) (cs : Int32) (h0 : Heap) (n0 : Nat) (Z0 : n0 ≤ h0.size) (wa : sHQ Z h0 (.int cs)) (hcs : ¬ cs = (0 : Int32)) (wb : fAQ Z h0 o0 (.int 0)) :
  MF l mN28 jdk_42_method_154_code 1 (some .boolean) ws (rmm 0 0 0 0) #[.ref o0] Z h0 (Qlat Z o0 cs h0 n0) := by
 refine MF.of (plainFor_of_name pn_0) ?_
 intro p e s m below meth c s₁ QQ hy hml hown hZ X0 e0 hrt hlk hnm hQQ
 have N0 := Fr.nil n0
 refine Ends.i #[rv o0] (gS X0 hy hown hZ hw e0 wa d33_0 3 117 rfl fun T6 X6 e6 => ?_)
 have hc3 : ¬ (cs = (0 : Int32)) := hcs
 refine oxh X6 hy d33_3 6 (XT.i0_eq_f hc3) (oA X6 hy d33_6 7 rfl (gF X6 hy hown hZ hw e6 wb d33_7 10 79 rfl fun T7 X7 e7 => oxh X7 hy d33_10 13 (XT.i0_ne_f (by decide)) (oG X7 hy d33_13 14 1 rfl (oxm X7 hy d33_14 18 ?_))))
 exact fI X7 hy hrt hlk hQQ d33_18 rfl (by simp) e7 (by decide) ⟨rfl, N0, rfl⟩
theorem d36_0 : decode cD27 0 = .ok (.iload_n 0, 1) := by decide +kernel
theorem d36_1 : decode cD27 1 = .ok (.ifCond .lt 8, 3) := by decide +kernel
theorem d36_4 : decode cD27 4 = .ok (.iload_n 0, 1) := by decide +kernel
theorem d36_5 : decode cD27 5 = .ok (.iload_n 1, 1) := by decide +kernel
theorem d36_6 : decode cD27 6 = .ok (.if_icmp .lt 10, 3) := by decide +kernel
theorem d36_16 : decode cD27 16 = .ok (.iload_n 0, 1) := by decide +kernel
theorem d36_17 : decode cD27 17 = .ok (.ireturn, 1) := by decide +kernel
theorem ef_pci (m : MethodId) (x0 : Int32) (x1 : Int32) (x2 : Value) (hx2 : x2.isRef = true) : entryFrame m #[.int x0, .int x1, x2] 3 = mkF m 0 #[.val (.int x0), .val (.int x1), .val x2] [] := by
  rcases XT.refc hx2 with rfl | ⟨_, rfl⟩ <;> rfl
def Qpci (Z : State) (p0 p1 : Int32) (r2 : Value) (h0 : Heap) (n0 : Nat) : QT := fun v h L => (v = some (.int p0)) ∧ (Fr n0 L) ∧ (h = h0)
theorem rmpci (l : Launch) (Z : State) (a0 : Array Value) (hw : TW a0 Z) (ws : List Jvm.Cond) (p0 p1 : Int32) (r2 : Value) (h0 : Heap) (n0 : Nat) (Z0 : n0 ≤ h0.size) (Gx : r2.isRef = true) (h1 : ¬ p0 < (0 : Int32)) (h2 : p0 < p1) :
  MF l mN29 jdk_41_method_11_code 3 (some .int) ws (rmm 0 0 0 0) #[.int p0, .int p1, r2] Z h0 (Qpci Z p0 p1 r2 h0 n0) := by
 refine MF.of (plainFor_of_name pn_1) ?_
 intro p e s m below meth c s₁ QQ hy hml hown hZ X0 e0 hrt hlk hnm hQQ
 have N0 := Fr.nil n0
 refine Ends.i #[iv p0, iv p1, .val r2] ?_ (ef_pci m p0 p1 r2 Gx)
 refine oC X0 hy d36_0 1 rfl ?_
 have hc1 : ¬ (p0 < (0 : Int32)) := h1
 refine oxh X0 hy d36_1 4 (XT.i0_lt_f hc1) (oC X0 hy d36_4 5 rfl (oC X0 hy d36_5 6 rfl ?_))
 have hc6 : p0 < p1 := h2
 refine oxl X0 hy d36_6 16 (XT.ii_lt_t hc6) (oC X0 hy d36_16 17 rfl ?_)
 exact fI X0 hy hrt hlk hQQ d36_17 rfl (Or.inl rfl) e0 (by decide) ⟨rfl, N0, rfl⟩
theorem d35_0 : decode cD30 0 = .ok (.iload_n 0, 1) := by decide +kernel
theorem d35_1 : decode cD30 1 = .ok (.iload_n 1, 1) := by decide +kernel
theorem d35_2 : decode cD30 2 = .ok (.getstatic 1053, 3) := by decide +kernel
theorem d35_5 : decode cD30 5 = .ok (.invokestatic 1059, 3) := by decide +kernel
theorem d35_8 : decode cD30 8 = .ok (.pop, 1) := by decide +kernel
theorem d35_9 : decode cD30 9 = .ok (.return_, 1) := by decide +kernel
def Qsci (Z : State) (p0 p1 : Int32) (sf : Value) (h0 : Heap) (n0 : Nat) : QT := fun v h L => (v = none) ∧ (Fr n0 L) ∧ (h = h0)
theorem rmsci (l : Launch) (Z : State) (a0 : Array Value) (hw : TW a0 Z) (ws : List Jvm.Cond) (p0 p1 : Int32) (sf : Value) (h0 : Heap) (n0 : Nat) (Z0 : n0 ≤ h0.size) (wi : sIQ Z h0 sf) (wz : sf.isRef = true) (h1 : ¬ p0 < (0 : Int32)) (h2 : p0 < p1) :
  MF l mN30 jdk_42_method_155_code 2 none ws (rmm 1 0 0 14) #[.int p0, .int p1] Z h0 (Qsci Z p0 p1 sf h0 n0) := by
 refine MF.of (plainFor_of_name pn_0) ?_
 intro p e s m below meth c s₁ QQ hy hml hown hZ X0 e0 hrt hlk hnm hQQ
 have N0 := Fr.nil n0
 refine Ends.i #[iv p0, iv p1] (oC X0 hy d35_0 1 rfl (oC X0 hy d35_1 2 rfl (gS X0 hy hown hZ hw e0 wi d35_2 5 207 rfl fun T8 X8 e8 => ?_)))
 refine cS X8 hy hml hown hZ hw d35_5 8 0 209 210 208 211 rfl rfl rfl rfl (rmpci l Z a0 hw [] p0 p1 sf h0 n0 Z0 wz h1 h2) e8 pd_1 rfl rfl fun _ T9 Lc9 X9 hQ9 => ?_
 obtain ⟨rfl, Nq9, hh9⟩ := hQ9
 have N9 := Fr.app N0 Nq9
 refine Ends.v (oxe X9 hy d35_8 9 rfl ?_)
 exact fV X9 hy hrt hlk hQQ d35_9 hh9 (by decide) ⟨rfl, N9, rfl⟩
theorem d34_0 : decode cD18 0 = .ok (.iload_n 1, 1) := by decide +kernel
theorem d34_1 : decode cD18 1 = .ok (.aload_n 0, 1) := by decide +kernel
theorem d34_2 : decode cD18 2 = .ok (.arraylength, 1) := by decide +kernel
theorem d34_3 : decode cD18 3 = .ok (.invokestatic 9, 3) := by decide +kernel
theorem d34_6 : decode cD18 6 = .ok (.aload_n 0, 1) := by decide +kernel
theorem d34_7 : decode cD18 7 = .ok (.iload_n 1, 1) := by decide +kernel
theorem d34_8 : decode cD18 8 = .ok (.baload, 1) := by decide +kernel
theorem d34_9 : decode cD18 9 = .ok (.sipush 255, 3) := by decide +kernel
theorem d34_12 : decode cD18 12 = .ok (.iand, 1) := by decide +kernel
theorem d34_13 : decode cD18 13 = .ok (.i2c, 1) := by decide +kernel
theorem d34_14 : decode cD18 14 = .ok (.ireturn, 1) := by decide +kernel
def Qlca (Z : State) (o0 : Addr) (p1 : Int32) (k : ClassId) (n : Int32) (vs : List Value) (b : Int32) (sf : Value) (h0 : Heap) (n0 : Nat) : QT := fun v h L => (v = some (.int (b &&& (255 : Int32)))) ∧ (Fr n0 L) ∧ (h = h0)
theorem rmlca (l : Launch) (Z : State) (a0 : Array Value) (hw : TW a0 Z) (ws : List Jvm.Cond) (o0 : Addr) (p1 : Int32) (k : ClassId) (n : Int32) (vs : List Value) (b : Int32) (sf : Value) (h0 : Heap) (n0 : Nat) (Z0 : n0 ≤ h0.size) (vF : Arv Z h0 o0 k .byte n vs (.int 0)) (wi : sIQ Z h0 sf) (wz : sf.isRef = true) (h1 : ¬ p1 < (0 : Int32)) (h2 : p1 < n) (hbt : vs.getD p1.toNatClampNeg (.int 0) = .int b) :
  MF l mN31 jdk_43_method_2_code 2 (some .char) ws (rmm 2 0 0 27) #[.ref o0, .int p1] Z h0 (Qlca Z o0 p1 k n vs b sf h0 n0) := by
 refine MF.of (plainFor_of_name pn_2) ?_
 intro p e s m below meth c s₁ QQ hy hml hown hZ X0 e0 hrt hlk hnm hQQ
 have N0 := Fr.nil n0
 refine Ends.i #[rv o0, iv p1] (oC X0 hy d34_0 1 rfl (oA X0 hy d34_1 2 rfl (aLn X0 hy hZ e0 vF d34_2 3 ?_)))
 refine cS X0 hy hml hown hZ hw d34_3 6 0 204 205 44 206 rfl rfl rfl rfl (rmsci l Z a0 hw [] p1 n sf h0 n0 Z0 wi wz h1 h2) e0 pd_2 rfl rfl fun _ T11 Lc11 X11 hQ11 => ?_
 obtain ⟨rfl, Nq11, hh11⟩ := hQ11
 have N11 := Fr.app N0 Nq11
 refine Ends.u (oA X11 hy d34_6 7 rfl (oC X11 hy d34_7 8 rfl (aLB X11 hy hZ hh11 vF d34_8 9 (.int b) ⟨h1, h2⟩ (hbt) (oI X11 hy d34_9 12 255 rfl (oN X11 hy d34_12 13 (oxc X11 hy d34_13 14 ?_))))))
 exact fI X11 hy hrt hlk hQQ d34_14 (XT.narrow_c _) (by simp) hh11 (by decide) ⟨(by rw [i2c_mask]), N11, rfl⟩
theorem d32_0 : decode cD22 0 = .ok (.aload_n 0, 1) := by decide +kernel
theorem d32_1 : decode cD22 1 = .ok (.invokevirtual 492, 3) := by decide +kernel
theorem d32_4 : decode cD22 4 = .ok (.ifCond .eq 12, 3) := by decide +kernel
theorem d32_7 : decode cD22 7 = .ok (.aload_n 0, 1) := by decide +kernel
theorem d32_8 : decode cD22 8 = .ok (.getfield 9, 3) := by decide +kernel
theorem d32_11 : decode cD22 11 = .ok (.iload_n 1, 1) := by decide +kernel
theorem d32_12 : decode cD22 12 = .ok (.invokestatic 495, 3) := by decide +kernel
theorem d32_15 : decode cD22 15 = .ok (.ireturn, 1) := by decide +kernel
def Qcha (Z : State) (o0 : Addr) (p1 : Int32) (t : Addr) (k : ClassId) (n : Int32) (vs : List Value) (b cs : Int32) (sf : Value) (h0 : Heap) (n0 : Nat) : QT := fun v h L => (v = some (.int (b &&& (255 : Int32)))) ∧ (Fr n0 L) ∧ (h = h0)
theorem rmcha (l : Launch) (Z : State) (a0 : Array Value) (hw : TW a0 Z) (ws : List Jvm.Cond) (o0 : Addr) (p1 : Int32) (t : Addr) (k : ClassId) (n : Int32) (vs : List Value) (b cs : Int32) (sf : Value) (h0 : Heap) (n0 : Nat) (Z0 : n0 ≤ h0.size) (wh : eAQ Z h0 o0) (wd : fBQ Z h0 o0 (.ref t)) (A_t : Arv Z h0 t k .byte n vs (.int 0)) (wa : sHQ Z h0 (.int cs)) (hcs : ¬ cs = (0 : Int32)) (wb : fAQ Z h0 o0 (.int 0)) (wi : sIQ Z h0 sf) (wz : sf.isRef = true) (h1 : ¬ p1 < (0 : Int32)) (h2 : p1 < n) (hbt : vs.getD p1.toNatClampNeg (.int 0) = .int b) :
  MF l mN32 jdk_42_method_56_code 2 (some .char) ws (rmm 3 0 0 40) #[.ref o0, .int p1] Z h0 (Qcha Z o0 p1 t k n vs b cs sf h0 n0) := by
 refine MF.of (plainFor_of_name pn_0) ?_
 intro p e s m below meth c s₁ QQ hy hml hown hZ X0 e0 hrt hlk hnm hQQ
 have N0 := Fr.nil n0
 refine Ends.i #[rv o0, iv p1] (oA X0 hy d32_0 1 rfl ?_)
 refine cV X0 hy hml hown hZ hw d32_1 4 0 196 197 199 198 200 44 rfl rfl rfl rfl rfl rfl (rmlat l Z a0 hw [] o0 cs h0 n0 Z0 wa hcs wb) e0 pd_3 wh rfl rfl fun _ T13 Lc13 X13 hQ13 => ?_
 obtain ⟨rfl, Nq13, hh13⟩ := hQ13
 have N13 := Fr.app N0 Nq13
 refine Ends.v (oxh X13 hy d32_4 7 (XT.i0_eq_f (by decide)) (oA X13 hy d32_7 8 rfl (gF X13 hy hown hZ hw hh13 wd d32_8 11 77 rfl fun T14 X14 e14 => oC X14 hy d32_11 12 rfl ?_)))
 refine cS X14 hy hml hown hZ hw d32_12 15 0 201 202 105 203 rfl rfl rfl rfl (rmlca l Z a0 hw [] t p1 k n vs b sf h0 n0 Z0 A_t wi wz h1 h2 hbt) e14 pd_4 rfl rfl fun _ T15 Lc15 X15 hQ15 => ?_
 obtain ⟨rfl, Nq15, hh15⟩ := hQ15
 have N15 := Fr.app N13 Nq15
 refine Ends.v ?_
 exact fI X15 hy hrt hlk hQQ d32_15 (own_nar255 b) (by simp) hh15 (by decide) ⟨rfl, N15, rfl⟩
theorem d16_0 : decode cD23 0 = .ok (.getstatic 18, 3) := by decide +kernel
theorem d16_3 : decode cD23 3 = .ok (.ifCond .eq 14, 3) := by decide +kernel
theorem d16_6 : decode cD23 6 = .ok (.aload_n 0, 1) := by decide +kernel
theorem d16_7 : decode cD23 7 = .ok (.getfield 22, 3) := by decide +kernel
theorem d16_10 : decode cD23 10 = .ok (.ifCond .ne 7, 3) := by decide +kernel
theorem d16_13 : decode cD23 13 = .ok (.iconst 1, 1) := by decide +kernel
theorem d16_14 : decode cD23 14 = .ok (.goto 4, 3) := by decide +kernel
theorem d16_18 : decode cD23 18 = .ok (.ireturn, 1) := by decide +kernel
def Qasi (Z : State) (o0 : Addr) (cs : Int32) (h0 : Heap) (n0 : Nat) : QT := fun v h L => (v = some (.int 1)) ∧ (Fr n0 L) ∧ (h = h0)
theorem rmasi (l : Launch) (Z : State) (a0 : Array Value) (hw : TW a0 Z) (ws : List Jvm.Cond) (o0 : Addr) (cs : Int32) (h0 : Heap) (n0 : Nat) (Z0 : n0 ≤ h0.size) (wa : sHQ Z h0 (.int cs)) (hcs : ¬ cs = (0 : Int32)) (wb : fCQ Z h0 o0 (.int 0)) :
  MF l mN33 jdk_68_method_68_code 1 (some .boolean) ws (rmm 0 0 0 0) #[.ref o0] Z h0 (Qasi Z o0 cs h0 n0) := by
 refine MF.of (plainFor_of_name pn_3) ?_
 intro p e s m below meth c s₁ QQ hy hml hown hZ X0 e0 hrt hlk hnm hQQ
 have N0 := Fr.nil n0
 refine Ends.i #[rv o0] (gS X0 hy hown hZ hw e0 wa d16_0 3 43 rfl fun T16 X16 e16 => ?_)
 have hc3 : ¬ (cs = (0 : Int32)) := hcs
 refine oxh X16 hy d16_3 6 (XT.i0_eq_f hc3) (oA X16 hy d16_6 7 rfl (gF X16 hy hown hZ hw e16 wb d16_7 10 48 rfl fun T17 X17 e17 => oxh X17 hy d16_10 13 (XT.i0_ne_f (by decide)) (oG X17 hy d16_13 14 1 rfl (oxm X17 hy d16_14 18 ?_))))
 exact fI X17 hy hrt hlk hQQ d16_18 rfl (by simp) e17 (by decide) ⟨rfl, N0, rfl⟩
theorem d23_0 : decode cD24 0 = .ok (.getstatic 18, 3) := by decide +kernel
theorem d23_3 : decode cD24 3 = .ok (.ifCond .eq 18, 3) := by decide +kernel
theorem d23_6 : decode cD24 6 = .ok (.aload_n 0, 1) := by decide +kernel
theorem d23_7 : decode cD24 7 = .ok (.getfield 22, 3) := by decide +kernel
theorem d23_10 : decode cD24 10 = .ok (.aload_n 1, 1) := by decide +kernel
theorem d23_11 : decode cD24 11 = .ok (.invokevirtual 40, 3) := by decide +kernel
theorem d23_14 : decode cD24 14 = .ok (.if_icmp .eq 7, 3) := by decide +kernel
theorem d23_21 : decode cD24 21 = .ok (.return_, 1) := by decide +kernel
def Qinf (Z : State) (o0 o1 : Addr) (cs : Int32) (h0 : Heap) (n0 : Nat) : QT := fun v h L => (v = none) ∧ (Fr n0 L) ∧ (h = h0)
theorem rminf (l : Launch) (Z : State) (a0 : Array Value) (hw : TW a0 Z) (ws : List Jvm.Cond) (o0 o1 : Addr) (cs : Int32) (h0 : Heap) (n0 : Nat) (Z0 : n0 ≤ h0.size) (wa : sHQ Z h0 (.int cs)) (hcs : ¬ cs = (0 : Int32)) (wb : fCQ Z h0 o0 (.int 0)) (wt : eAQ Z h0 o1) (wj : fAQ Z h0 o1 (.int 0)) :
  MF l mN34 jdk_68_method_71_code 2 none ws (rmm 1 0 0 13) #[.ref o0, .ref o1] Z h0 (Qinf Z o0 o1 cs h0 n0) := by
 refine MF.of (plainFor_of_name pn_3) ?_
 intro p e s m below meth c s₁ QQ hy hml hown hZ X0 e0 hrt hlk hnm hQQ
 have N0 := Fr.nil n0
 refine Ends.i #[rv o0, rv o1] (gS X0 hy hown hZ hw e0 wa d23_0 3 43 rfl fun T18 X18 e18 => ?_)
 have hc3 : ¬ (cs = (0 : Int32)) := hcs
 refine oxh X18 hy d23_3 6 (XT.i0_eq_f hc3) (oA X18 hy d23_6 7 rfl (gF X18 hy hown hZ hw e18 wb d23_7 10 48 rfl fun T19 X19 e19 => oA X19 hy d23_10 11 rfl ?_))
 refine cV X19 hy hml hown hZ hw d23_11 14 1 138 113 115 114 116 44 rfl rfl rfl rfl rfl rfl (rmcod l Z a0 hw [] o1 cs h0 n0 Z0 wa hcs wj) e19 pd_0 wt rfl rfl fun _ T20 Lc20 X20 hQ20 => ?_
 obtain ⟨rfl, Nq20, hh20⟩ := hQ20
 have N20 := Fr.app N0 Nq20
 refine Ends.v (oxl X20 hy d23_14 21 (XT.ii_eq_t (by decide)) ?_)
 exact fV X20 hy hrt hlk hQQ d23_21 hh20 (by decide) ⟨rfl, N20, rfl⟩
theorem d7_0 : decode cD16 0 = .ok (.aload_n 0, 1) := by decide +kernel
theorem d7_1 : decode cD16 1 = .ok (.invokespecial 3, 3) := by decide +kernel
theorem d7_4 : decode cD16 4 = .ok (.getstatic 18, 3) := by decide +kernel
theorem d7_7 : decode cD16 7 = .ok (.ifCond .eq 18, 3) := by decide +kernel
theorem d7_10 : decode cD16 10 = .ok (.aload_n 0, 1) := by decide +kernel
theorem d7_11 : decode cD16 11 = .ok (.iload_n 1, 1) := by decide +kernel
theorem d7_12 : decode cD16 12 = .ok (.newarray .byte, 2) := by decide +kernel
theorem d7_14 : decode cD16 14 = .ok (.putfield 15, 3) := by decide +kernel
theorem d7_17 : decode cD16 17 = .ok (.aload_n 0, 1) := by decide +kernel
theorem d7_18 : decode cD16 18 = .ok (.iconst 0, 1) := by decide +kernel
theorem d7_19 : decode cD16 19 = .ok (.putfield 22, 3) := by decide +kernel
theorem d7_22 : decode cD16 22 = .ok (.goto 16, 3) := by decide +kernel
theorem d7_38 : decode cD16 38 = .ok (.return_, 1) := by decide +kernel
def Qas (Z : State) (o0 : Addr) (u : Value) (w cs : Int32) (h0 : Heap) (n0 : Nat) : QT := fun v h L => ∃ (vb : Addr), ∃ (kb : ClassId), (v = none) ∧ (Fr n0 L) ∧ (Keep h0 h [o0]) ∧ (h0.size ≤ vb) ∧ (n0 ≤ vb) ∧ (eBQ Z h o0) ∧ (fDQ Z h o0 (.ref vb)) ∧ (fCQ Z h o0 (.int 0)) ∧ (fEQ Z h o0 (.int 0)) ∧ (eCQ Z h vb) ∧ (Arv Z h vb kb .byte 8 [.int 0, .int 0, .int 0, .int 0, .int 0, .int 0, .int 0, .int 0] (.int 0))
theorem rmas (l : Launch) (Z : State) (a0 : Array Value) (hw : TW a0 Z) (ws : List Jvm.Cond) (o0 : Addr) (u : Value) (w cs : Int32) (h0 : Heap) (n0 : Nat) (Z0 : n0 ≤ h0.size) (wh : eBQ Z h0 o0) (wd : fDQ Z h0 o0 u) (wb : fCQ Z h0 o0 (.int w)) (we : fEQ Z h0 o0 (.int 0)) (wy : n0 ≤ o0) (wa : sHQ Z h0 (.int cs)) (hcs : ¬ cs = (0 : Int32)) :
  MF l mN35 jdk_68_method_2_code 2 none ws (rmm 1 1 8 12) #[.ref o0, .int 8] Z h0 (Qas Z o0 u w cs h0 n0) := by
 refine MF.of (plainFor_of_name pn_3) ?_
 intro p e s m below meth c s₁ QQ hy hml hown hZ X0 e0 hrt hlk hnm hQQ
 have hx := hy.1
 have hby := hy.2
 have N0 := Fr.nil n0
 refine Ends.i #[rv o0, iv 8] (oA X0 hy d7_0 1 rfl ?_)
 obtain ⟨T21, X21, e21, st21⟩ := initO X0 hx hZ hown (tb hw 42 rfl) (tb hw 18 rfl) (tb hw 19 rfl) e0 (g := (mkF m 1 #[rv o0, iv 8] [.ref o0])) rfl (by rw [hml]; rfl) rfl (hb hby d7_1) (by decide) (W := 0) (by show 2 * 0 + _ ≤ _; exact Nat.le_of_eq rfl) (by decide)
 refine Ends.j 4 [] st21 ?_
 refine gS X21 hy hown hZ hw e21 wa d7_4 7 43 rfl fun T22 X22 e22 => ?_
 have hc7 : ¬ (cs = (0 : Int32)) := hcs
 refine oxh X22 hy d7_7 10 (XT.i0_eq_f hc7) (oA X22 hy d7_10 11 rfl (oC X22 hy d7_11 12 rfl ?_))
 obtain ⟨T23, h23, k23, X23, e23, E23, A23, Y23, st23⟩ := newPE X22 hx hZ (tb hw 45 rfl) e22 (g := (mkF m 12 #[rv o0, iv 8] [.int 8, .ref o0])) rfl (hb hby d7_12) rfl (by decide) (cap := 8) (by decide) (by decide) (by decide) (by decide) (ad := "[B") (by decide)
 obtain ⟨b23, g23⟩ : ∃ z, z = h0.size := ⟨_, rfl⟩
 rw [← g23] at A23 Y23 st23
 have WW : o0 ≠ b23 := Nat.ne_of_lt (Nat.lt_of_lt_of_le wh.lt (Nat.le_of_eq g23.symm))
 have Gy : n0 ≤ b23 := Nat.le_trans Z0 (Nat.le_trans (Keep.refl h0 [o0]).1 (Nat.le_of_eq g23.symm))
 have Gt : h0.size ≤ b23 := Nat.le_trans (Keep.refl h0 [o0]).1 (Nat.le_of_eq g23.symm)
 have wh := wh.ext E23
 have wd := wd.ext E23
 have wb := wb.ext E23
 have we := we.ext E23
 have K23 := (Keep.refl h0 [o0]).ext E23
 have Wf := Y23
 have Wg : Arv Z h23 b23 k23 .byte 8 [.int 0, .int 0, .int 0, .int 0, .int 0, .int 0, .int 0, .int 0] (.int 0) := (Arv.new A23 (by decide)).pad (pad_rep [] (.int 0) 8)
 refine Ends.j 14 [.ref b23, .ref o0] st23 ?_
 obtain ⟨T24, h24, X24, e24, W24, st24⟩ := putF X23 hx hZ hown (host := "") (Or.inl (tb hw 46 rfl)) Via.refl e23 wd wh (Or.inl (tb hw 47 rfl)) (tb hw 31 rfl) (ty := (.array .byte)) (by decide) rfl rfl (g := (mkF m 14 #[rv o0, iv 8] [.ref b23, .ref o0])) rfl rfl (hb hby d7_14)
 have wh := wh.wr W24
 have wb := wb.other W24 (Or.inr (slot_ne (Or.inl (tb hw 49 rfl)) (Or.inl (tb hw 47 rfl)) (by decide) (t := .byte) (t' := (.array .byte)) (by decide) (by decide)))
 have we := we.other W24 (Or.inr (slot_ne (Or.inl (tb hw 92 rfl)) (Or.inl (tb hw 47 rfl)) (by decide) (t := .int) (t' := (.array .byte)) (by decide) (by decide)))
 have Wf := Wf.wr W24
 have Wg := Wg.other W24 (Ne.symm WW)
 have wd : fDQ Z h24 o0 (.ref b23) := wd.same W24
 have K24 := K23.wr W24 (Or.inl mm0)
 have N24 := Fr.snoc X24 N0 wy
 refine Ends.j 17 [] st24 ?_
 refine oA X24 hy d7_17 18 rfl (oG X24 hy d7_18 19 0 rfl ?_)
 obtain ⟨T25, h25, X25, e25, W25, st25⟩ := putFN X24 hx hZ hown (tb hw 48 rfl) Via.refl e24 wb wh (Or.inl (tb hw 49 rfl)) (tb hw 31 rfl) (ty := .byte) (v' := (.int 0)) (by decide) rfl rfl (g := (mkF m 19 #[rv o0, iv 8] [.int 0, .ref o0])) rfl rfl (hb hby d7_19)
 have wh := wh.wr W25
 have wd := wd.other W25 (Or.inr (slot_ne (Or.inl (tb hw 47 rfl)) (Or.inl (tb hw 49 rfl)) (by decide) (t := (.array .byte)) (t' := .byte) (by decide) (by decide)))
 have we := we.other W25 (Or.inr (slot_ne (Or.inl (tb hw 92 rfl)) (Or.inl (tb hw 49 rfl)) (by decide) (t := .int) (t' := .byte) (by decide) (by decide)))
 have Wf := Wf.wr W25
 have Wg := Wg.other W25 (Ne.symm WW)
 have wb : fCQ Z h25 o0 (.int 0) := wb.same W25
 have K25 := K24.wr W25 (Or.inl mm0)
 have N25 := Fr.snoc X25 N24 wy
 refine Ends.j 22 [] st25 ?_
 refine oxm X25 hy d7_22 38 ?_
 exact fV X25 hy hrt hlk hQQ d7_38 e25 (by decide) ⟨b23, k23, rfl, N25, K25, Gt, Gy, wh, wd, wb, we, Wf, Wg⟩
theorem d6_0 : decode cD37 0 = .ok (.aload_n 0, 1) := by decide +kernel
theorem d6_1 : decode cD37 1 = .ok (.iload_n 1, 1) := by decide +kernel
theorem d6_2 : decode cD37 2 = .ok (.invokespecial 1, 3) := by decide +kernel
theorem d6_5 : decode cD37 5 = .ok (.return_, 1) := by decide +kernel
def Qsb (Z : State) (o0 : Addr) (u : Value) (w cs : Int32) (h0 : Heap) (n0 : Nat) : QT := fun v h L => ∃ (vb : Addr), ∃ (kb : ClassId), (v = none) ∧ (Fr n0 L) ∧ (Keep h0 h [o0]) ∧ (h0.size ≤ vb) ∧ (n0 ≤ vb) ∧ (eBQ Z h o0) ∧ (fDQ Z h o0 (.ref vb)) ∧ (fCQ Z h o0 (.int 0)) ∧ (fEQ Z h o0 (.int 0)) ∧ (eCQ Z h vb) ∧ (Arv Z h vb kb .byte 8 [.int 0, .int 0, .int 0, .int 0, .int 0, .int 0, .int 0, .int 0] (.int 0))
theorem rmsb (l : Launch) (Z : State) (a0 : Array Value) (hw : TW a0 Z) (ws : List Jvm.Cond) (o0 : Addr) (u : Value) (w cs : Int32) (h0 : Heap) (n0 : Nat) (Z0 : n0 ≤ h0.size) (wh : eBQ Z h0 o0) (wd : fDQ Z h0 o0 u) (wb : fCQ Z h0 o0 (.int w)) (we : fEQ Z h0 o0 (.int 0)) (wy : n0 ≤ o0) (wa : sHQ Z h0 (.int cs)) (hcs : ¬ cs = (0 : Int32)) :
  MF l mN36 jdk_67_method_2_code 2 none ws (rmm 2 1 8 25) #[.ref o0, .int 8] Z h0 (Qsb Z o0 u w cs h0 n0) := by
 refine MF.of (plainFor_of_name pn_4) ?_
 intro p e s m below meth c s₁ QQ hy hml hown hZ X0 e0 hrt hlk hnm hQQ
 have N0 := Fr.nil n0
 refine Ends.i #[rv o0, iv 8] (oA X0 hy d6_0 1 rfl (oC X0 hy d6_1 2 rfl ?_))
 refine cI X0 hy hml hown hZ hw d6_2 5 0 36 37 41 40 rfl rfl rfl rfl rfl (rmas l Z a0 hw [] o0 u w cs h0 n0 Z0 wh wd wb we wy wa hcs) e0 pd_5 rfl rfl fun _ T26 Lc26 X26 hQ26 => ?_
 obtain ⟨vb_26, kb_26, rfl, Nq26, Kq26, fq26_0, YL, wh, wd, wb, we, xv, xT⟩ := hQ26
 have N26 := Fr.app N0 Nq26
 have UO := Nat.le_trans (Keep.refl h0 [o0]).1 fq26_0
 have K26 := (Keep.refl h0 [o0]).trans Kq26 (allS (Or.inl mm0) all0)
 refine Ends.u ?_
 exact fV X26 hy hrt hlk hQQ d6_5 rfl (by decide) ⟨vb_26, kb_26, rfl, N26, K26, UO, YL, wh, wd, wb, we, xv, xT⟩
theorem d15_0 : decode cD7 0 = .ok (.aload_n 0, 1) := by decide +kernel
theorem d15_1 : decode cD7 1 = .ok (.getfield 15, 3) := by decide +kernel
theorem d15_4 : decode cD7 4 = .ok (.arraylength, 1) := by decide +kernel
theorem d15_5 : decode cD7 5 = .ok (.aload_n 0, 1) := by decide +kernel
theorem d15_6 : decode cD7 6 = .ok (.getfield 22, 3) := by decide +kernel
theorem d15_9 : decode cD7 9 = .ok (.ishr, 1) := by decide +kernel
theorem d15_10 : decode cD7 10 = .ok (.istore_n 2, 1) := by decide +kernel
theorem d15_11 : decode cD7 11 = .ok (.iload_n 1, 1) := by decide +kernel
theorem d15_12 : decode cD7 12 = .ok (.iload_n 2, 1) := by decide +kernel
theorem d15_13 : decode cD7 13 = .ok (.isub, 1) := by decide +kernel
theorem d15_14 : decode cD7 14 = .ok (.ifCond .le 24, 3) := by decide +kernel
theorem d15_38 : decode cD7 38 = .ok (.return_, 1) := by decide +kernel
def Qens1_8 (Z : State) (o0 vb : Addr) (kb : ClassId) (vs : List Value) (h0 : Heap) (n0 : Nat) : QT := fun v h L => (v = none) ∧ (Fr n0 L) ∧ (h = h0)
theorem rmens1_8 (l : Launch) (Z : State) (a0 : Array Value) (hw : TW a0 Z) (ws : List Jvm.Cond) (o0 vb : Addr) (kb : ClassId) (vs : List Value) (h0 : Heap) (n0 : Nat) (Z0 : n0 ≤ h0.size) (wd : fDQ Z h0 o0 (.ref vb)) (wb : fCQ Z h0 o0 (.int 0)) (wm : Arv Z h0 vb kb .byte 8 vs (.int 0)) :
  MF l mN0 jdk_68_method_9_code 3 none ws (rmm 0 0 0 0) #[.ref o0, .int 1] Z h0 (Qens1_8 Z o0 vb kb vs h0 n0) := by
 refine MF.of (plainFor_of_name pn_3) ?_
 intro p e s m below meth c s₁ QQ hy hml hown hZ X0 e0 hrt hlk hnm hQQ
 have N0 := Fr.nil n0
 refine Ends.i #[rv o0, iv 1, uu] (oA X0 hy d15_0 1 rfl (gF X0 hy hown hZ hw e0 wd d15_1 4 46 rfl fun T27 X27 e27 => aLn X27 hy hZ e27 wm d15_4 5 (oA X27 hy d15_5 6 rfl (gF X27 hy hown hZ hw e27 wb d15_6 9 48 rfl fun T29 X29 e29 => oP X29 hy d15_9 10 ?_))))
 show Ends p e below QQ (T29.setTop (mkF m 10 #[rv o0, iv 1, uu] [.int 8]))
 refine oxp X29 hy d15_10 11 #[rv o0, iv 1, iv 8] rfl (oC X29 hy d15_11 12 rfl (oC X29 hy d15_12 13 rfl (oL X29 hy d15_13 14 ?_)))
 show Ends p e below QQ (T29.setTop (mkF m 14 #[rv o0, iv 1, iv 8] [.int (-7)]))
 refine oxk X29 hy d15_14 38 (XT.i0_le_t (by decide)) ?_
 exact fV X29 hy hrt hlk hQQ d15_38 e29 (by decide) ⟨rfl, N0, rfl⟩
theorem d17_0 : decode cD31 0 = .ok (.iload_n 0, 1) := by decide +kernel
theorem d17_1 : decode cD31 1 = .ok (.sipush 255, 3) := by decide +kernel
theorem d17_4 : decode cD31 4 = .ok (.if_icmp .gt 7, 3) := by decide +kernel
theorem d17_7 : decode cD31 7 = .ok (.iconst 1, 1) := by decide +kernel
theorem d17_8 : decode cD31 8 = .ok (.goto 4, 3) := by decide +kernel
theorem d17_12 : decode cD31 12 = .ok (.ireturn, 1) := by decide +kernel
def Qcan (Z : State) (p0 : Int32) (h0 : Heap) (n0 : Nat) : QT := fun v h L => (v = some (.int 1)) ∧ (Fr n0 L) ∧ (h = h0)
theorem rmcan (l : Launch) (Z : State) (a0 : Array Value) (hw : TW a0 Z) (ws : List Jvm.Cond) (p0 : Int32) (h0 : Heap) (n0 : Nat) (Z0 : n0 ≤ h0.size) (hc : ¬ (255 : Int32) < p0) :
  MF l mN37 jdk_43_method_3_code 1 (some .boolean) ws (rmm 0 0 0 0) #[.int p0] Z h0 (Qcan Z p0 h0 n0) := by
 refine MF.of (plainFor_of_name pn_2) ?_
 intro p e s m below meth c s₁ QQ hy hml hown hZ X0 e0 hrt hlk hnm hQQ
 have N0 := Fr.nil n0
 refine Ends.i #[iv p0] (oC X0 hy d17_0 1 rfl (oI X0 hy d17_1 4 255 rfl ?_))
 have hc4 : ¬ ((255 : Int32) < p0) := hc
 refine oxi X0 hy d17_4 7 (XT.ii_gt_f hc4) (oG X0 hy d17_7 8 1 rfl (oxm X0 hy d17_8 12 ?_))
 exact fI X0 hy hrt hlk hQQ d17_12 rfl (by simp) e0 (by decide) ⟨rfl, N0, rfl⟩
theorem d14_0 : decode cD5 0 = .ok (.aload_n 0, 1) := by decide +kernel
theorem d14_1 : decode cD5 1 = .ok (.aload_n 0, 1) := by decide +kernel
theorem d14_2 : decode cD5 2 = .ok (.getfield 79, 3) := by decide +kernel
theorem d14_5 : decode cD5 5 = .ok (.iconst 1, 1) := by decide +kernel
theorem d14_6 : decode cD5 6 = .ok (.iadd, 1) := by decide +kernel
theorem d14_7 : decode cD5 7 = .ok (.invokevirtual 100, 3) := by decide +kernel
theorem d14_10 : decode cD5 10 = .ok (.aload_n 0, 1) := by decide +kernel
theorem d14_11 : decode cD5 11 = .ok (.invokevirtual 83, 3) := by decide +kernel
theorem d14_14 : decode cD5 14 = .ok (.ifCond .eq 31, 3) := by decide +kernel
theorem d14_17 : decode cD5 17 = .ok (.iload_n 1, 1) := by decide +kernel
theorem d14_18 : decode cD5 18 = .ok (.invokestatic 191, 3) := by decide +kernel
theorem d14_21 : decode cD5 21 = .ok (.ifCond .eq 24, 3) := by decide +kernel
theorem d14_24 : decode cD5 24 = .ok (.aload_n 0, 1) := by decide +kernel
theorem d14_25 : decode cD5 25 = .ok (.getfield 15, 3) := by decide +kernel
theorem d14_28 : decode cD5 28 = .ok (.aload_n 0, 1) := by decide +kernel
theorem d14_29 : decode cD5 29 = .ok (.dup, 1) := by decide +kernel
theorem d14_30 : decode cD5 30 = .ok (.getfield 79, 3) := by decide +kernel
theorem d14_33 : decode cD5 33 = .ok (.dup_x1, 1) := by decide +kernel
theorem d14_34 : decode cD5 34 = .ok (.iconst 1, 1) := by decide +kernel
theorem d14_35 : decode cD5 35 = .ok (.iadd, 1) := by decide +kernel
theorem d14_36 : decode cD5 36 = .ok (.putfield 79, 3) := by decide +kernel
theorem d14_39 : decode cD5 39 = .ok (.iload_n 1, 1) := by decide +kernel
theorem d14_40 : decode cD5 40 = .ok (.i2b, 1) := by decide +kernel
theorem d14_41 : decode cD5 41 = .ok (.bastore, 1) := by decide +kernel
theorem d14_42 : decode cD5 42 = .ok (.goto 33, 3) := by decide +kernel
theorem d14_75 : decode cD5 75 = .ok (.aload_n 0, 1) := by decide +kernel
theorem d14_76 : decode cD5 76 = .ok (.areturn, 1) := by decide +kernel
def Qasa0_112 (Z : State) (o0 vb : Addr) (kb : ClassId) (cs : Int32) (h0 : Heap) (n0 : Nat) : QT := fun v h L => (v = some (.ref o0)) ∧ (Fr n0 L) ∧ (Keep h0 h [o0, vb]) ∧ (eBQ Z h o0) ∧ (fDQ Z h o0 (.ref vb)) ∧ (fCQ Z h o0 (.int 0)) ∧ (fEQ Z h o0 (.int 1)) ∧ (Arv Z h vb kb .byte 8 [.int 112, .int 0, .int 0, .int 0, .int 0, .int 0, .int 0, .int 0] (.int 0))
theorem rmasa0_112 (l : Launch) (Z : State) (a0 : Array Value) (hw : TW a0 Z) (ws : List Jvm.Cond) (o0 vb : Addr) (kb : ClassId) (cs : Int32) (h0 : Heap) (n0 : Nat) (Z0 : n0 ≤ h0.size) (wh : eBQ Z h0 o0) (wd : fDQ Z h0 o0 (.ref vb)) (wb : fCQ Z h0 o0 (.int 0)) (we : fEQ Z h0 o0 (.int 0)) (wo : eCQ Z h0 vb) (wm : Arv Z h0 vb kb .byte 8 [.int 0, .int 0, .int 0, .int 0, .int 0, .int 0, .int 0, .int 0] (.int 0)) (wy : n0 ≤ o0) (ww : n0 ≤ vb) (wq : o0 ≠ vb) (wa : sHQ Z h0 (.int cs)) (hcs : ¬ cs = (0 : Int32)) :
  MF l mN10 jdk_68_method_31_code 2 (some (.object "java/lang/AbstractStringBuilder")) ws (rmm 1 0 0 14) #[.ref o0, .int 112] Z h0 (Qasa0_112 Z o0 vb kb cs h0 n0) := by
 refine MF.of (plainFor_of_name pn_3) ?_
 intro p e s m below meth c s₁ QQ hy hml hown hZ X0 e0 hrt hlk hnm hQQ
 have hx := hy.1
 have hby := hy.2
 have N0 := Fr.nil n0
 refine Ends.i #[rv o0, iv 112] (oA X0 hy d14_0 1 rfl (oA X0 hy d14_1 2 rfl (gF X0 hy hown hZ hw e0 we d14_2 5 91 rfl fun T30 X30 e30 => oG X30 hy d14_5 6 1 rfl (oK X30 hy d14_6 7 ?_))))
 show Ends p e below QQ (T30.setTop (mkF m 7 #[rv o0, iv 112] [.int 1, .ref o0]))
 refine cP X30 hy hml hown hZ hw d14_7 10 0 93 94 96 95 97 40 rfl rfl rfl rfl rfl rfl rfl (rmens1_8 l Z a0 hw [] o0 vb kb [.int 0, .int 0, .int 0, .int 0, .int 0, .int 0, .int 0, .int 0] h0 n0 Z0 wd wb wm) e30 pd_5 wh rfl rfl fun _ T31 Lc31 X31 hQ31 => ?_
 obtain ⟨rfl, Nq31, hh31⟩ := hQ31
 have N31 := Fr.app N0 Nq31
 refine Ends.u (oA X31 hy d14_10 11 rfl ?_)
 refine cV X31 hy hml hown hZ hw d14_11 14 0 98 99 101 100 102 40 rfl rfl rfl rfl rfl rfl (rmasi l Z a0 hw [] o0 cs h0 n0 Z0 wa hcs wb) hh31 pd_3 wh rfl rfl fun _ T32 Lc32 X32 hQ32 => ?_
 obtain ⟨rfl, Nq32, hh32⟩ := hQ32
 have N32 := Fr.app N31 Nq32
 refine Ends.v (oxh X32 hy d14_14 17 (XT.i0_eq_f (by decide)) (oC X32 hy d14_17 18 rfl ?_))
 refine cS X32 hy hml hown hZ hw d14_18 21 0 103 104 105 106 rfl rfl rfl rfl (rmcan l Z a0 hw [] (112 : Int32) h0 n0 Z0 (by decide)) hh32 pd_6 rfl rfl fun _ T33 Lc33 X33 hQ33 => ?_
 obtain ⟨rfl, Nq33, hh33⟩ := hQ33
 have N33 := Fr.app N32 Nq33
 refine Ends.v (oxh X33 hy d14_21 24 (XT.i0_eq_f (by decide)) (oA X33 hy d14_24 25 rfl (gF X33 hy hown hZ hw hh33 wd d14_25 28 46 rfl fun T34 X34 e34 => oA X34 hy d14_28 29 rfl (oxd X34 hy d14_29 30 rfl (gF X34 hy hown hZ hw e34 we d14_30 33 91 rfl fun T35 X35 e35 => oxf X35 hy d14_33 34 rfl rfl (oG X35 hy d14_34 35 1 rfl (oK X35 hy d14_35 36 ?_)))))))
 show Ends p e below QQ (T35.setTop (mkF m 36 #[rv o0, iv 112] [.int 1, .ref o0, .int 0, .ref vb]))
 obtain ⟨T36, h36, X36, e36, W36, st36⟩ := putF X35 hx hZ hown (host := "") (Or.inl (tb hw 91 rfl)) Via.refl e35 we wh (Or.inl (tb hw 92 rfl)) (tb hw 31 rfl) (ty := .int) (by decide) rfl rfl (g := (mkF m 36 #[rv o0, iv 112] [.int 1, .ref o0, .int 0, .ref vb])) rfl rfl (hb hby d14_36)
 have wh := wh.wr W36
 have wd := wd.other W36 (Or.inr (slot_ne (Or.inl (tb hw 47 rfl)) (Or.inl (tb hw 92 rfl)) (by decide) (t := (.array .byte)) (t' := .int) (by decide) (by decide)))
 have wb := wb.other W36 (Or.inr (slot_ne (Or.inl (tb hw 49 rfl)) (Or.inl (tb hw 92 rfl)) (by decide) (t := .byte) (t' := .int) (by decide) (by decide)))
 have wm := wm.other W36 (Ne.symm wq)
 have we : fEQ Z h36 o0 (.int 1) := we.same W36
 have K36 := (Keep.refl h0 [o0, vb]).wr W36 (Or.inl mm0)
 have N36 := Fr.snoc X36 N33 wy
 refine Ends.j 39 [.int 0, .ref vb] st36 ?_
 refine oC X36 hy d14_39 40 rfl (oxb X36 hy d14_40 41 ?_)
 show Ends p e below QQ (T36.setTop (mkF m 41 #[rv o0, iv 112] [.int 112, .int 0, .ref vb]))
 refine aSB X36 hy hZ e36 wm d14_41 42 ⟨by decide, by decide⟩ fun T38 h38 X38 e38 W38 => ?_
 have wh := wh.wr W38
 have wd := wd.other W38 (Or.inl wq)
 have wb := wb.other W38 (Or.inl wq)
 have we := we.other W38 (Or.inl wq)
 have wm : Arv Z h38 vb kb .byte 8 [.int 112, .int 0, .int 0, .int 0, .int 0, .int 0, .int 0, .int 0] (.int 0) := As wm (fits_nar_byte _) W38 0 rfl (Nat.le_of_ble_eq_true rfl)
 have K38 := K36.wr W38 (Or.inl mm1)
 have N38 := Fr.snoc X38 N36 ww
 refine oxm X38 hy d14_42 75 (oA X38 hy d14_75 76 rfl ?_)
 exact fA X38 hy hrt hlk hQQ d14_76 rfl rfl e38 (by decide) ⟨rfl, N38, K38, wh, wd, wb, we, wm⟩
theorem d13_0 : decode cD32 0 = .ok (.aload_n 0, 1) := by decide +kernel
theorem d13_1 : decode cD32 1 = .ok (.iload_n 1, 1) := by decide +kernel
theorem d13_2 : decode cD32 2 = .ok (.invokespecial 50, 3) := by decide +kernel
theorem d13_5 : decode cD32 5 = .ok (.pop, 1) := by decide +kernel
theorem d13_6 : decode cD32 6 = .ok (.aload_n 0, 1) := by decide +kernel
theorem d13_7 : decode cD32 7 = .ok (.areturn, 1) := by decide +kernel
def Qsba0_112 (Z : State) (o0 vb : Addr) (kb : ClassId) (cs : Int32) (h0 : Heap) (n0 : Nat) : QT := fun v h L => (v = some (.ref o0)) ∧ (Fr n0 L) ∧ (Keep h0 h [o0, vb]) ∧ (eBQ Z h o0) ∧ (fDQ Z h o0 (.ref vb)) ∧ (fCQ Z h o0 (.int 0)) ∧ (fEQ Z h o0 (.int 1)) ∧ (Arv Z h vb kb .byte 8 [.int 112, .int 0, .int 0, .int 0, .int 0, .int 0, .int 0, .int 0] (.int 0))
theorem rmsba0_112 (l : Launch) (Z : State) (a0 : Array Value) (hw : TW a0 Z) (ws : List Jvm.Cond) (o0 vb : Addr) (kb : ClassId) (cs : Int32) (h0 : Heap) (n0 : Nat) (Z0 : n0 ≤ h0.size) (wh : eBQ Z h0 o0) (wd : fDQ Z h0 o0 (.ref vb)) (wb : fCQ Z h0 o0 (.int 0)) (we : fEQ Z h0 o0 (.int 0)) (wo : eCQ Z h0 vb) (wm : Arv Z h0 vb kb .byte 8 [.int 0, .int 0, .int 0, .int 0, .int 0, .int 0, .int 0, .int 0] (.int 0)) (wy : n0 ≤ o0) (ww : n0 ≤ vb) (wq : o0 ≠ vb) (wa : sHQ Z h0 (.int cs)) (hcs : ¬ cs = (0 : Int32)) :
  MF l mN11 jdk_67_method_14_code 2 (some (.object "java/lang/StringBuilder")) ws (rmm 2 0 0 27) #[.ref o0, .int 112] Z h0 (Qsba0_112 Z o0 vb kb cs h0 n0) := by
 refine MF.of (plainFor_of_name pn_4) ?_
 intro p e s m below meth c s₁ QQ hy hml hown hZ X0 e0 hrt hlk hnm hQQ
 have N0 := Fr.nil n0
 refine Ends.i #[rv o0, iv 112] (oA X0 hy d13_0 1 rfl (oC X0 hy d13_1 2 rfl ?_))
 refine cU X0 hy hml hown hZ hw d13_2 5 0 86 87 96 88 90 40 rfl rfl rfl rfl rfl rfl rfl (rmasa0_112 l Z a0 hw [] o0 vb kb cs h0 n0 Z0 wh wd wb we wo wm wy ww wq wa hcs) e0 pd_7 wh rfl rfl fun _ T39 Lc39 X39 hQ39 => ?_
 obtain ⟨rfl, Nq39, Kq39, wh, wd, wb, we, wm⟩ := hQ39
 have N39 := Fr.app N0 Nq39
 have K39 := (Keep.refl h0 [o0, vb]).trans Kq39 (allS (Or.inl mm0) (allS (Or.inl mm1) all0))
 refine Ends.v (oxe X39 hy d13_5 6 rfl (oA X39 hy d13_6 7 rfl ?_))
 exact fA X39 hy hrt hlk hQQ d13_7 rfl rfl rfl (by decide) ⟨rfl, N39, K39, wh, wd, wb, we, wm⟩
def Qens2_8 (Z : State) (o0 vb : Addr) (kb : ClassId) (vs : List Value) (h0 : Heap) (n0 : Nat) : QT := fun v h L => (v = none) ∧ (Fr n0 L) ∧ (h = h0)
theorem rmens2_8 (l : Launch) (Z : State) (a0 : Array Value) (hw : TW a0 Z) (ws : List Jvm.Cond) (o0 vb : Addr) (kb : ClassId) (vs : List Value) (h0 : Heap) (n0 : Nat) (Z0 : n0 ≤ h0.size) (wd : fDQ Z h0 o0 (.ref vb)) (wb : fCQ Z h0 o0 (.int 0)) (wm : Arv Z h0 vb kb .byte 8 vs (.int 0)) :
  MF l mN0 jdk_68_method_9_code 3 none ws (rmm 0 0 0 0) #[.ref o0, .int 2] Z h0 (Qens2_8 Z o0 vb kb vs h0 n0) := by
 refine MF.of (plainFor_of_name pn_3) ?_
 intro p e s m below meth c s₁ QQ hy hml hown hZ X0 e0 hrt hlk hnm hQQ
 have N0 := Fr.nil n0
 refine Ends.i #[rv o0, iv 2, uu] (oA X0 hy d15_0 1 rfl (gF X0 hy hown hZ hw e0 wd d15_1 4 46 rfl fun T40 X40 e40 => aLn X40 hy hZ e40 wm d15_4 5 (oA X40 hy d15_5 6 rfl (gF X40 hy hown hZ hw e40 wb d15_6 9 48 rfl fun T42 X42 e42 => oP X42 hy d15_9 10 ?_))))
 show Ends p e below QQ (T42.setTop (mkF m 10 #[rv o0, iv 2, uu] [.int 8]))
 refine oxp X42 hy d15_10 11 #[rv o0, iv 2, iv 8] rfl (oC X42 hy d15_11 12 rfl (oC X42 hy d15_12 13 rfl (oL X42 hy d15_13 14 ?_)))
 show Ends p e below QQ (T42.setTop (mkF m 14 #[rv o0, iv 2, iv 8] [.int (-6)]))
 refine oxk X42 hy d15_14 38 (XT.i0_le_t (by decide)) ?_
 exact fV X42 hy hrt hlk hQQ d15_38 e42 (by decide) ⟨rfl, N0, rfl⟩
def Qasa1_48 (Z : State) (o0 vb : Addr) (kb : ClassId) (cs : Int32) (h0 : Heap) (n0 : Nat) : QT := fun v h L => (v = some (.ref o0)) ∧ (Fr n0 L) ∧ (Keep h0 h [o0, vb]) ∧ (eBQ Z h o0) ∧ (fDQ Z h o0 (.ref vb)) ∧ (fCQ Z h o0 (.int 0)) ∧ (fEQ Z h o0 (.int 2)) ∧ (Arv Z h vb kb .byte 8 [.int 112, .int 48, .int 0, .int 0, .int 0, .int 0, .int 0, .int 0] (.int 0))
theorem rmasa1_48 (l : Launch) (Z : State) (a0 : Array Value) (hw : TW a0 Z) (ws : List Jvm.Cond) (o0 vb : Addr) (kb : ClassId) (cs : Int32) (h0 : Heap) (n0 : Nat) (Z0 : n0 ≤ h0.size) (wh : eBQ Z h0 o0) (wd : fDQ Z h0 o0 (.ref vb)) (wb : fCQ Z h0 o0 (.int 0)) (we : fEQ Z h0 o0 (.int 1)) (wo : eCQ Z h0 vb) (wm : Arv Z h0 vb kb .byte 8 [.int 112, .int 0, .int 0, .int 0, .int 0, .int 0, .int 0, .int 0] (.int 0)) (wy : n0 ≤ o0) (ww : n0 ≤ vb) (wq : o0 ≠ vb) (wa : sHQ Z h0 (.int cs)) (hcs : ¬ cs = (0 : Int32)) :
  MF l mN10 jdk_68_method_31_code 2 (some (.object "java/lang/AbstractStringBuilder")) ws (rmm 1 0 0 14) #[.ref o0, .int 48] Z h0 (Qasa1_48 Z o0 vb kb cs h0 n0) := by
 refine MF.of (plainFor_of_name pn_3) ?_
 intro p e s m below meth c s₁ QQ hy hml hown hZ X0 e0 hrt hlk hnm hQQ
 have hx := hy.1
 have hby := hy.2
 have N0 := Fr.nil n0
 refine Ends.i #[rv o0, iv 48] (oA X0 hy d14_0 1 rfl (oA X0 hy d14_1 2 rfl (gF X0 hy hown hZ hw e0 we d14_2 5 91 rfl fun T43 X43 e43 => oG X43 hy d14_5 6 1 rfl (oK X43 hy d14_6 7 ?_))))
 show Ends p e below QQ (T43.setTop (mkF m 7 #[rv o0, iv 48] [.int 2, .ref o0]))
 refine cP X43 hy hml hown hZ hw d14_7 10 0 93 94 96 95 97 40 rfl rfl rfl rfl rfl rfl rfl (rmens2_8 l Z a0 hw [] o0 vb kb [.int 112, .int 0, .int 0, .int 0, .int 0, .int 0, .int 0, .int 0] h0 n0 Z0 wd wb wm) e43 pd_5 wh rfl rfl fun _ T44 Lc44 X44 hQ44 => ?_
 obtain ⟨rfl, Nq44, hh44⟩ := hQ44
 have N44 := Fr.app N0 Nq44
 refine Ends.u (oA X44 hy d14_10 11 rfl ?_)
 refine cV X44 hy hml hown hZ hw d14_11 14 0 98 99 101 100 102 40 rfl rfl rfl rfl rfl rfl (rmasi l Z a0 hw [] o0 cs h0 n0 Z0 wa hcs wb) hh44 pd_3 wh rfl rfl fun _ T45 Lc45 X45 hQ45 => ?_
 obtain ⟨rfl, Nq45, hh45⟩ := hQ45
 have N45 := Fr.app N44 Nq45
 refine Ends.v (oxh X45 hy d14_14 17 (XT.i0_eq_f (by decide)) (oC X45 hy d14_17 18 rfl ?_))
 refine cS X45 hy hml hown hZ hw d14_18 21 0 103 104 105 106 rfl rfl rfl rfl (rmcan l Z a0 hw [] (48 : Int32) h0 n0 Z0 (by decide)) hh45 pd_6 rfl rfl fun _ T46 Lc46 X46 hQ46 => ?_
 obtain ⟨rfl, Nq46, hh46⟩ := hQ46
 have N46 := Fr.app N45 Nq46
 refine Ends.v (oxh X46 hy d14_21 24 (XT.i0_eq_f (by decide)) (oA X46 hy d14_24 25 rfl (gF X46 hy hown hZ hw hh46 wd d14_25 28 46 rfl fun T47 X47 e47 => oA X47 hy d14_28 29 rfl (oxd X47 hy d14_29 30 rfl (gF X47 hy hown hZ hw e47 we d14_30 33 91 rfl fun T48 X48 e48 => oxf X48 hy d14_33 34 rfl rfl (oG X48 hy d14_34 35 1 rfl (oK X48 hy d14_35 36 ?_)))))))
 show Ends p e below QQ (T48.setTop (mkF m 36 #[rv o0, iv 48] [.int 2, .ref o0, .int 1, .ref vb]))
 obtain ⟨T49, h49, X49, e49, W49, st49⟩ := putF X48 hx hZ hown (host := "") (Or.inl (tb hw 91 rfl)) Via.refl e48 we wh (Or.inl (tb hw 92 rfl)) (tb hw 31 rfl) (ty := .int) (by decide) rfl rfl (g := (mkF m 36 #[rv o0, iv 48] [.int 2, .ref o0, .int 1, .ref vb])) rfl rfl (hb hby d14_36)
 have wh := wh.wr W49
 have wd := wd.other W49 (Or.inr (slot_ne (Or.inl (tb hw 47 rfl)) (Or.inl (tb hw 92 rfl)) (by decide) (t := (.array .byte)) (t' := .int) (by decide) (by decide)))
 have wb := wb.other W49 (Or.inr (slot_ne (Or.inl (tb hw 49 rfl)) (Or.inl (tb hw 92 rfl)) (by decide) (t := .byte) (t' := .int) (by decide) (by decide)))
 have wm := wm.other W49 (Ne.symm wq)
 have we : fEQ Z h49 o0 (.int 2) := we.same W49
 have K49 := (Keep.refl h0 [o0, vb]).wr W49 (Or.inl mm0)
 have N49 := Fr.snoc X49 N46 wy
 refine Ends.j 39 [.int 1, .ref vb] st49 ?_
 refine oC X49 hy d14_39 40 rfl (oxb X49 hy d14_40 41 ?_)
 show Ends p e below QQ (T49.setTop (mkF m 41 #[rv o0, iv 48] [.int 48, .int 1, .ref vb]))
 refine aSB X49 hy hZ e49 wm d14_41 42 ⟨by decide, by decide⟩ fun T51 h51 X51 e51 W51 => ?_
 have wh := wh.wr W51
 have wd := wd.other W51 (Or.inl wq)
 have wb := wb.other W51 (Or.inl wq)
 have we := we.other W51 (Or.inl wq)
 have wm : Arv Z h51 vb kb .byte 8 [.int 112, .int 48, .int 0, .int 0, .int 0, .int 0, .int 0, .int 0] (.int 0) := As wm (fits_nar_byte _) W51 1 rfl (Nat.le_of_ble_eq_true rfl)
 have K51 := K49.wr W51 (Or.inl mm1)
 have N51 := Fr.snoc X51 N49 ww
 refine oxm X51 hy d14_42 75 (oA X51 hy d14_75 76 rfl ?_)
 exact fA X51 hy hrt hlk hQQ d14_76 rfl rfl e51 (by decide) ⟨rfl, N51, K51, wh, wd, wb, we, wm⟩
def Qsba1_48 (Z : State) (o0 vb : Addr) (kb : ClassId) (cs : Int32) (h0 : Heap) (n0 : Nat) : QT := fun v h L => (v = some (.ref o0)) ∧ (Fr n0 L) ∧ (Keep h0 h [o0, vb]) ∧ (eBQ Z h o0) ∧ (fDQ Z h o0 (.ref vb)) ∧ (fCQ Z h o0 (.int 0)) ∧ (fEQ Z h o0 (.int 2)) ∧ (Arv Z h vb kb .byte 8 [.int 112, .int 48, .int 0, .int 0, .int 0, .int 0, .int 0, .int 0] (.int 0))
theorem rmsba1_48 (l : Launch) (Z : State) (a0 : Array Value) (hw : TW a0 Z) (ws : List Jvm.Cond) (o0 vb : Addr) (kb : ClassId) (cs : Int32) (h0 : Heap) (n0 : Nat) (Z0 : n0 ≤ h0.size) (wh : eBQ Z h0 o0) (wd : fDQ Z h0 o0 (.ref vb)) (wb : fCQ Z h0 o0 (.int 0)) (we : fEQ Z h0 o0 (.int 1)) (wo : eCQ Z h0 vb) (wm : Arv Z h0 vb kb .byte 8 [.int 112, .int 0, .int 0, .int 0, .int 0, .int 0, .int 0, .int 0] (.int 0)) (wy : n0 ≤ o0) (ww : n0 ≤ vb) (wq : o0 ≠ vb) (wa : sHQ Z h0 (.int cs)) (hcs : ¬ cs = (0 : Int32)) :
  MF l mN11 jdk_67_method_14_code 2 (some (.object "java/lang/StringBuilder")) ws (rmm 2 0 0 27) #[.ref o0, .int 48] Z h0 (Qsba1_48 Z o0 vb kb cs h0 n0) := by
 refine MF.of (plainFor_of_name pn_4) ?_
 intro p e s m below meth c s₁ QQ hy hml hown hZ X0 e0 hrt hlk hnm hQQ
 have N0 := Fr.nil n0
 refine Ends.i #[rv o0, iv 48] (oA X0 hy d13_0 1 rfl (oC X0 hy d13_1 2 rfl ?_))
 refine cU X0 hy hml hown hZ hw d13_2 5 0 86 87 96 88 90 40 rfl rfl rfl rfl rfl rfl rfl (rmasa1_48 l Z a0 hw [] o0 vb kb cs h0 n0 Z0 wh wd wb we wo wm wy ww wq wa hcs) e0 pd_7 wh rfl rfl fun _ T52 Lc52 X52 hQ52 => ?_
 obtain ⟨rfl, Nq52, Kq52, wh, wd, wb, we, wm⟩ := hQ52
 have N52 := Fr.app N0 Nq52
 have K52 := (Keep.refl h0 [o0, vb]).trans Kq52 (allS (Or.inl mm0) (allS (Or.inl mm1) all0))
 refine Ends.v (oxe X52 hy d13_5 6 rfl (oA X52 hy d13_6 7 rfl ?_))
 exact fA X52 hy hrt hlk hQQ d13_7 rfl rfl rfl (by decide) ⟨rfl, N52, K52, wh, wd, wb, we, wm⟩
def Qens3_8 (Z : State) (o0 vb : Addr) (kb : ClassId) (vs : List Value) (h0 : Heap) (n0 : Nat) : QT := fun v h L => (v = none) ∧ (Fr n0 L) ∧ (h = h0)
theorem rmens3_8 (l : Launch) (Z : State) (a0 : Array Value) (hw : TW a0 Z) (ws : List Jvm.Cond) (o0 vb : Addr) (kb : ClassId) (vs : List Value) (h0 : Heap) (n0 : Nat) (Z0 : n0 ≤ h0.size) (wd : fDQ Z h0 o0 (.ref vb)) (wb : fCQ Z h0 o0 (.int 0)) (wm : Arv Z h0 vb kb .byte 8 vs (.int 0)) :
  MF l mN0 jdk_68_method_9_code 3 none ws (rmm 0 0 0 0) #[.ref o0, .int 3] Z h0 (Qens3_8 Z o0 vb kb vs h0 n0) := by
 refine MF.of (plainFor_of_name pn_3) ?_
 intro p e s m below meth c s₁ QQ hy hml hown hZ X0 e0 hrt hlk hnm hQQ
 have N0 := Fr.nil n0
 refine Ends.i #[rv o0, iv 3, uu] (oA X0 hy d15_0 1 rfl (gF X0 hy hown hZ hw e0 wd d15_1 4 46 rfl fun T53 X53 e53 => aLn X53 hy hZ e53 wm d15_4 5 (oA X53 hy d15_5 6 rfl (gF X53 hy hown hZ hw e53 wb d15_6 9 48 rfl fun T55 X55 e55 => oP X55 hy d15_9 10 ?_))))
 show Ends p e below QQ (T55.setTop (mkF m 10 #[rv o0, iv 3, uu] [.int 8]))
 refine oxp X55 hy d15_10 11 #[rv o0, iv 3, iv 8] rfl (oC X55 hy d15_11 12 rfl (oC X55 hy d15_12 13 rfl (oL X55 hy d15_13 14 ?_)))
 show Ends p e below QQ (T55.setTop (mkF m 14 #[rv o0, iv 3, iv 8] [.int (-5)]))
 refine oxk X55 hy d15_14 38 (XT.i0_le_t (by decide)) ?_
 exact fV X55 hy hrt hlk hQQ d15_38 e55 (by decide) ⟨rfl, N0, rfl⟩
def Qasa2_48 (Z : State) (o0 vb : Addr) (kb : ClassId) (cs : Int32) (h0 : Heap) (n0 : Nat) : QT := fun v h L => (v = some (.ref o0)) ∧ (Fr n0 L) ∧ (Keep h0 h [o0, vb]) ∧ (eBQ Z h o0) ∧ (fDQ Z h o0 (.ref vb)) ∧ (fCQ Z h o0 (.int 0)) ∧ (fEQ Z h o0 (.int 3)) ∧ (Arv Z h vb kb .byte 8 [.int 112, .int 48, .int 48, .int 0, .int 0, .int 0, .int 0, .int 0] (.int 0))
theorem rmasa2_48 (l : Launch) (Z : State) (a0 : Array Value) (hw : TW a0 Z) (ws : List Jvm.Cond) (o0 vb : Addr) (kb : ClassId) (cs : Int32) (h0 : Heap) (n0 : Nat) (Z0 : n0 ≤ h0.size) (wh : eBQ Z h0 o0) (wd : fDQ Z h0 o0 (.ref vb)) (wb : fCQ Z h0 o0 (.int 0)) (we : fEQ Z h0 o0 (.int 2)) (wo : eCQ Z h0 vb) (wm : Arv Z h0 vb kb .byte 8 [.int 112, .int 48, .int 0, .int 0, .int 0, .int 0, .int 0, .int 0] (.int 0)) (wy : n0 ≤ o0) (ww : n0 ≤ vb) (wq : o0 ≠ vb) (wa : sHQ Z h0 (.int cs)) (hcs : ¬ cs = (0 : Int32)) :
  MF l mN10 jdk_68_method_31_code 2 (some (.object "java/lang/AbstractStringBuilder")) ws (rmm 1 0 0 14) #[.ref o0, .int 48] Z h0 (Qasa2_48 Z o0 vb kb cs h0 n0) := by
 refine MF.of (plainFor_of_name pn_3) ?_
 intro p e s m below meth c s₁ QQ hy hml hown hZ X0 e0 hrt hlk hnm hQQ
 have hx := hy.1
 have hby := hy.2
 have N0 := Fr.nil n0
 refine Ends.i #[rv o0, iv 48] (oA X0 hy d14_0 1 rfl (oA X0 hy d14_1 2 rfl (gF X0 hy hown hZ hw e0 we d14_2 5 91 rfl fun T56 X56 e56 => oG X56 hy d14_5 6 1 rfl (oK X56 hy d14_6 7 ?_))))
 show Ends p e below QQ (T56.setTop (mkF m 7 #[rv o0, iv 48] [.int 3, .ref o0]))
 refine cP X56 hy hml hown hZ hw d14_7 10 0 93 94 96 95 97 40 rfl rfl rfl rfl rfl rfl rfl (rmens3_8 l Z a0 hw [] o0 vb kb [.int 112, .int 48, .int 0, .int 0, .int 0, .int 0, .int 0, .int 0] h0 n0 Z0 wd wb wm) e56 pd_5 wh rfl rfl fun _ T57 Lc57 X57 hQ57 => ?_
 obtain ⟨rfl, Nq57, hh57⟩ := hQ57
 have N57 := Fr.app N0 Nq57
 refine Ends.u (oA X57 hy d14_10 11 rfl ?_)
 refine cV X57 hy hml hown hZ hw d14_11 14 0 98 99 101 100 102 40 rfl rfl rfl rfl rfl rfl (rmasi l Z a0 hw [] o0 cs h0 n0 Z0 wa hcs wb) hh57 pd_3 wh rfl rfl fun _ T58 Lc58 X58 hQ58 => ?_
 obtain ⟨rfl, Nq58, hh58⟩ := hQ58
 have N58 := Fr.app N57 Nq58
 refine Ends.v (oxh X58 hy d14_14 17 (XT.i0_eq_f (by decide)) (oC X58 hy d14_17 18 rfl ?_))
 refine cS X58 hy hml hown hZ hw d14_18 21 0 103 104 105 106 rfl rfl rfl rfl (rmcan l Z a0 hw [] (48 : Int32) h0 n0 Z0 (by decide)) hh58 pd_6 rfl rfl fun _ T59 Lc59 X59 hQ59 => ?_
 obtain ⟨rfl, Nq59, hh59⟩ := hQ59
 have N59 := Fr.app N58 Nq59
 refine Ends.v (oxh X59 hy d14_21 24 (XT.i0_eq_f (by decide)) (oA X59 hy d14_24 25 rfl (gF X59 hy hown hZ hw hh59 wd d14_25 28 46 rfl fun T60 X60 e60 => oA X60 hy d14_28 29 rfl (oxd X60 hy d14_29 30 rfl (gF X60 hy hown hZ hw e60 we d14_30 33 91 rfl fun T61 X61 e61 => oxf X61 hy d14_33 34 rfl rfl (oG X61 hy d14_34 35 1 rfl (oK X61 hy d14_35 36 ?_)))))))
 show Ends p e below QQ (T61.setTop (mkF m 36 #[rv o0, iv 48] [.int 3, .ref o0, .int 2, .ref vb]))
 obtain ⟨T62, h62, X62, e62, W62, st62⟩ := putF X61 hx hZ hown (host := "") (Or.inl (tb hw 91 rfl)) Via.refl e61 we wh (Or.inl (tb hw 92 rfl)) (tb hw 31 rfl) (ty := .int) (by decide) rfl rfl (g := (mkF m 36 #[rv o0, iv 48] [.int 3, .ref o0, .int 2, .ref vb])) rfl rfl (hb hby d14_36)
 have wh := wh.wr W62
 have wd := wd.other W62 (Or.inr (slot_ne (Or.inl (tb hw 47 rfl)) (Or.inl (tb hw 92 rfl)) (by decide) (t := (.array .byte)) (t' := .int) (by decide) (by decide)))
 have wb := wb.other W62 (Or.inr (slot_ne (Or.inl (tb hw 49 rfl)) (Or.inl (tb hw 92 rfl)) (by decide) (t := .byte) (t' := .int) (by decide) (by decide)))
 have wm := wm.other W62 (Ne.symm wq)
 have we : fEQ Z h62 o0 (.int 3) := we.same W62
 have K62 := (Keep.refl h0 [o0, vb]).wr W62 (Or.inl mm0)
 have N62 := Fr.snoc X62 N59 wy
 refine Ends.j 39 [.int 2, .ref vb] st62 ?_
 refine oC X62 hy d14_39 40 rfl (oxb X62 hy d14_40 41 ?_)
 show Ends p e below QQ (T62.setTop (mkF m 41 #[rv o0, iv 48] [.int 48, .int 2, .ref vb]))
 refine aSB X62 hy hZ e62 wm d14_41 42 ⟨by decide, by decide⟩ fun T64 h64 X64 e64 W64 => ?_
 have wh := wh.wr W64
 have wd := wd.other W64 (Or.inl wq)
 have wb := wb.other W64 (Or.inl wq)
 have we := we.other W64 (Or.inl wq)
 have wm : Arv Z h64 vb kb .byte 8 [.int 112, .int 48, .int 48, .int 0, .int 0, .int 0, .int 0, .int 0] (.int 0) := As wm (fits_nar_byte _) W64 2 rfl (Nat.le_of_ble_eq_true rfl)
 have K64 := K62.wr W64 (Or.inl mm1)
 have N64 := Fr.snoc X64 N62 ww
 refine oxm X64 hy d14_42 75 (oA X64 hy d14_75 76 rfl ?_)
 exact fA X64 hy hrt hlk hQQ d14_76 rfl rfl e64 (by decide) ⟨rfl, N64, K64, wh, wd, wb, we, wm⟩
def Qsba2_48 (Z : State) (o0 vb : Addr) (kb : ClassId) (cs : Int32) (h0 : Heap) (n0 : Nat) : QT := fun v h L => (v = some (.ref o0)) ∧ (Fr n0 L) ∧ (Keep h0 h [o0, vb]) ∧ (eBQ Z h o0) ∧ (fDQ Z h o0 (.ref vb)) ∧ (fCQ Z h o0 (.int 0)) ∧ (fEQ Z h o0 (.int 3)) ∧ (Arv Z h vb kb .byte 8 [.int 112, .int 48, .int 48, .int 0, .int 0, .int 0, .int 0, .int 0] (.int 0))
theorem rmsba2_48 (l : Launch) (Z : State) (a0 : Array Value) (hw : TW a0 Z) (ws : List Jvm.Cond) (o0 vb : Addr) (kb : ClassId) (cs : Int32) (h0 : Heap) (n0 : Nat) (Z0 : n0 ≤ h0.size) (wh : eBQ Z h0 o0) (wd : fDQ Z h0 o0 (.ref vb)) (wb : fCQ Z h0 o0 (.int 0)) (we : fEQ Z h0 o0 (.int 2)) (wo : eCQ Z h0 vb) (wm : Arv Z h0 vb kb .byte 8 [.int 112, .int 48, .int 0, .int 0, .int 0, .int 0, .int 0, .int 0] (.int 0)) (wy : n0 ≤ o0) (ww : n0 ≤ vb) (wq : o0 ≠ vb) (wa : sHQ Z h0 (.int cs)) (hcs : ¬ cs = (0 : Int32)) :
  MF l mN11 jdk_67_method_14_code 2 (some (.object "java/lang/StringBuilder")) ws (rmm 2 0 0 27) #[.ref o0, .int 48] Z h0 (Qsba2_48 Z o0 vb kb cs h0 n0) := by
 refine MF.of (plainFor_of_name pn_4) ?_
 intro p e s m below meth c s₁ QQ hy hml hown hZ X0 e0 hrt hlk hnm hQQ
 have N0 := Fr.nil n0
 refine Ends.i #[rv o0, iv 48] (oA X0 hy d13_0 1 rfl (oC X0 hy d13_1 2 rfl ?_))
 refine cU X0 hy hml hown hZ hw d13_2 5 0 86 87 96 88 90 40 rfl rfl rfl rfl rfl rfl rfl (rmasa2_48 l Z a0 hw [] o0 vb kb cs h0 n0 Z0 wh wd wb we wo wm wy ww wq wa hcs) e0 pd_7 wh rfl rfl fun _ T65 Lc65 X65 hQ65 => ?_
 obtain ⟨rfl, Nq65, Kq65, wh, wd, wb, we, wm⟩ := hQ65
 have N65 := Fr.app N0 Nq65
 have K65 := (Keep.refl h0 [o0, vb]).trans Kq65 (allS (Or.inl mm0) (allS (Or.inl mm1) all0))
 refine Ends.v (oxe X65 hy d13_5 6 rfl (oA X65 hy d13_6 7 rfl ?_))
 exact fA X65 hy hrt hlk hQQ d13_7 rfl rfl rfl (by decide) ⟨rfl, N65, K65, wh, wd, wb, we, wm⟩
def Qens4_8 (Z : State) (o0 vb : Addr) (kb : ClassId) (vs : List Value) (h0 : Heap) (n0 : Nat) : QT := fun v h L => (v = none) ∧ (Fr n0 L) ∧ (h = h0)
theorem rmens4_8 (l : Launch) (Z : State) (a0 : Array Value) (hw : TW a0 Z) (ws : List Jvm.Cond) (o0 vb : Addr) (kb : ClassId) (vs : List Value) (h0 : Heap) (n0 : Nat) (Z0 : n0 ≤ h0.size) (wd : fDQ Z h0 o0 (.ref vb)) (wb : fCQ Z h0 o0 (.int 0)) (wm : Arv Z h0 vb kb .byte 8 vs (.int 0)) :
  MF l mN0 jdk_68_method_9_code 3 none ws (rmm 0 0 0 0) #[.ref o0, .int 4] Z h0 (Qens4_8 Z o0 vb kb vs h0 n0) := by
 refine MF.of (plainFor_of_name pn_3) ?_
 intro p e s m below meth c s₁ QQ hy hml hown hZ X0 e0 hrt hlk hnm hQQ
 have N0 := Fr.nil n0
 refine Ends.i #[rv o0, iv 4, uu] (oA X0 hy d15_0 1 rfl (gF X0 hy hown hZ hw e0 wd d15_1 4 46 rfl fun T66 X66 e66 => aLn X66 hy hZ e66 wm d15_4 5 (oA X66 hy d15_5 6 rfl (gF X66 hy hown hZ hw e66 wb d15_6 9 48 rfl fun T68 X68 e68 => oP X68 hy d15_9 10 ?_))))
 show Ends p e below QQ (T68.setTop (mkF m 10 #[rv o0, iv 4, uu] [.int 8]))
 refine oxp X68 hy d15_10 11 #[rv o0, iv 4, iv 8] rfl (oC X68 hy d15_11 12 rfl (oC X68 hy d15_12 13 rfl (oL X68 hy d15_13 14 ?_)))
 show Ends p e below QQ (T68.setTop (mkF m 14 #[rv o0, iv 4, iv 8] [.int (-4)]))
 refine oxk X68 hy d15_14 38 (XT.i0_le_t (by decide)) ?_
 exact fV X68 hy hrt hlk hQQ d15_38 e68 (by decide) ⟨rfl, N0, rfl⟩
def Qasa3_48 (Z : State) (o0 vb : Addr) (kb : ClassId) (cs : Int32) (h0 : Heap) (n0 : Nat) : QT := fun v h L => (v = some (.ref o0)) ∧ (Fr n0 L) ∧ (Keep h0 h [o0, vb]) ∧ (eBQ Z h o0) ∧ (fDQ Z h o0 (.ref vb)) ∧ (fCQ Z h o0 (.int 0)) ∧ (fEQ Z h o0 (.int 4)) ∧ (Arv Z h vb kb .byte 8 [.int 112, .int 48, .int 48, .int 48, .int 0, .int 0, .int 0, .int 0] (.int 0))
theorem rmasa3_48 (l : Launch) (Z : State) (a0 : Array Value) (hw : TW a0 Z) (ws : List Jvm.Cond) (o0 vb : Addr) (kb : ClassId) (cs : Int32) (h0 : Heap) (n0 : Nat) (Z0 : n0 ≤ h0.size) (wh : eBQ Z h0 o0) (wd : fDQ Z h0 o0 (.ref vb)) (wb : fCQ Z h0 o0 (.int 0)) (we : fEQ Z h0 o0 (.int 3)) (wo : eCQ Z h0 vb) (wm : Arv Z h0 vb kb .byte 8 [.int 112, .int 48, .int 48, .int 0, .int 0, .int 0, .int 0, .int 0] (.int 0)) (wy : n0 ≤ o0) (ww : n0 ≤ vb) (wq : o0 ≠ vb) (wa : sHQ Z h0 (.int cs)) (hcs : ¬ cs = (0 : Int32)) :
  MF l mN10 jdk_68_method_31_code 2 (some (.object "java/lang/AbstractStringBuilder")) ws (rmm 1 0 0 14) #[.ref o0, .int 48] Z h0 (Qasa3_48 Z o0 vb kb cs h0 n0) := by
 refine MF.of (plainFor_of_name pn_3) ?_
 intro p e s m below meth c s₁ QQ hy hml hown hZ X0 e0 hrt hlk hnm hQQ
 have hx := hy.1
 have hby := hy.2
 have N0 := Fr.nil n0
 refine Ends.i #[rv o0, iv 48] (oA X0 hy d14_0 1 rfl (oA X0 hy d14_1 2 rfl (gF X0 hy hown hZ hw e0 we d14_2 5 91 rfl fun T69 X69 e69 => oG X69 hy d14_5 6 1 rfl (oK X69 hy d14_6 7 ?_))))
 show Ends p e below QQ (T69.setTop (mkF m 7 #[rv o0, iv 48] [.int 4, .ref o0]))
 refine cP X69 hy hml hown hZ hw d14_7 10 0 93 94 96 95 97 40 rfl rfl rfl rfl rfl rfl rfl (rmens4_8 l Z a0 hw [] o0 vb kb [.int 112, .int 48, .int 48, .int 0, .int 0, .int 0, .int 0, .int 0] h0 n0 Z0 wd wb wm) e69 pd_5 wh rfl rfl fun _ T70 Lc70 X70 hQ70 => ?_
 obtain ⟨rfl, Nq70, hh70⟩ := hQ70
 have N70 := Fr.app N0 Nq70
 refine Ends.u (oA X70 hy d14_10 11 rfl ?_)
 refine cV X70 hy hml hown hZ hw d14_11 14 0 98 99 101 100 102 40 rfl rfl rfl rfl rfl rfl (rmasi l Z a0 hw [] o0 cs h0 n0 Z0 wa hcs wb) hh70 pd_3 wh rfl rfl fun _ T71 Lc71 X71 hQ71 => ?_
 obtain ⟨rfl, Nq71, hh71⟩ := hQ71
 have N71 := Fr.app N70 Nq71
 refine Ends.v (oxh X71 hy d14_14 17 (XT.i0_eq_f (by decide)) (oC X71 hy d14_17 18 rfl ?_))
 refine cS X71 hy hml hown hZ hw d14_18 21 0 103 104 105 106 rfl rfl rfl rfl (rmcan l Z a0 hw [] (48 : Int32) h0 n0 Z0 (by decide)) hh71 pd_6 rfl rfl fun _ T72 Lc72 X72 hQ72 => ?_
 obtain ⟨rfl, Nq72, hh72⟩ := hQ72
 have N72 := Fr.app N71 Nq72
 refine Ends.v (oxh X72 hy d14_21 24 (XT.i0_eq_f (by decide)) (oA X72 hy d14_24 25 rfl (gF X72 hy hown hZ hw hh72 wd d14_25 28 46 rfl fun T73 X73 e73 => oA X73 hy d14_28 29 rfl (oxd X73 hy d14_29 30 rfl (gF X73 hy hown hZ hw e73 we d14_30 33 91 rfl fun T74 X74 e74 => oxf X74 hy d14_33 34 rfl rfl (oG X74 hy d14_34 35 1 rfl (oK X74 hy d14_35 36 ?_)))))))
 show Ends p e below QQ (T74.setTop (mkF m 36 #[rv o0, iv 48] [.int 4, .ref o0, .int 3, .ref vb]))
 obtain ⟨T75, h75, X75, e75, W75, st75⟩ := putF X74 hx hZ hown (host := "") (Or.inl (tb hw 91 rfl)) Via.refl e74 we wh (Or.inl (tb hw 92 rfl)) (tb hw 31 rfl) (ty := .int) (by decide) rfl rfl (g := (mkF m 36 #[rv o0, iv 48] [.int 4, .ref o0, .int 3, .ref vb])) rfl rfl (hb hby d14_36)
 have wh := wh.wr W75
 have wd := wd.other W75 (Or.inr (slot_ne (Or.inl (tb hw 47 rfl)) (Or.inl (tb hw 92 rfl)) (by decide) (t := (.array .byte)) (t' := .int) (by decide) (by decide)))
 have wb := wb.other W75 (Or.inr (slot_ne (Or.inl (tb hw 49 rfl)) (Or.inl (tb hw 92 rfl)) (by decide) (t := .byte) (t' := .int) (by decide) (by decide)))
 have wm := wm.other W75 (Ne.symm wq)
 have we : fEQ Z h75 o0 (.int 4) := we.same W75
 have K75 := (Keep.refl h0 [o0, vb]).wr W75 (Or.inl mm0)
 have N75 := Fr.snoc X75 N72 wy
 refine Ends.j 39 [.int 3, .ref vb] st75 ?_
 refine oC X75 hy d14_39 40 rfl (oxb X75 hy d14_40 41 ?_)
 show Ends p e below QQ (T75.setTop (mkF m 41 #[rv o0, iv 48] [.int 48, .int 3, .ref vb]))
 refine aSB X75 hy hZ e75 wm d14_41 42 ⟨by decide, by decide⟩ fun T77 h77 X77 e77 W77 => ?_
 have wh := wh.wr W77
 have wd := wd.other W77 (Or.inl wq)
 have wb := wb.other W77 (Or.inl wq)
 have we := we.other W77 (Or.inl wq)
 have wm : Arv Z h77 vb kb .byte 8 [.int 112, .int 48, .int 48, .int 48, .int 0, .int 0, .int 0, .int 0] (.int 0) := As wm (fits_nar_byte _) W77 3 rfl (Nat.le_of_ble_eq_true rfl)
 have K77 := K75.wr W77 (Or.inl mm1)
 have N77 := Fr.snoc X77 N75 ww
 refine oxm X77 hy d14_42 75 (oA X77 hy d14_75 76 rfl ?_)
 exact fA X77 hy hrt hlk hQQ d14_76 rfl rfl e77 (by decide) ⟨rfl, N77, K77, wh, wd, wb, we, wm⟩
def Qsba3_48 (Z : State) (o0 vb : Addr) (kb : ClassId) (cs : Int32) (h0 : Heap) (n0 : Nat) : QT := fun v h L => (v = some (.ref o0)) ∧ (Fr n0 L) ∧ (Keep h0 h [o0, vb]) ∧ (eBQ Z h o0) ∧ (fDQ Z h o0 (.ref vb)) ∧ (fCQ Z h o0 (.int 0)) ∧ (fEQ Z h o0 (.int 4)) ∧ (Arv Z h vb kb .byte 8 [.int 112, .int 48, .int 48, .int 48, .int 0, .int 0, .int 0, .int 0] (.int 0))
theorem rmsba3_48 (l : Launch) (Z : State) (a0 : Array Value) (hw : TW a0 Z) (ws : List Jvm.Cond) (o0 vb : Addr) (kb : ClassId) (cs : Int32) (h0 : Heap) (n0 : Nat) (Z0 : n0 ≤ h0.size) (wh : eBQ Z h0 o0) (wd : fDQ Z h0 o0 (.ref vb)) (wb : fCQ Z h0 o0 (.int 0)) (we : fEQ Z h0 o0 (.int 3)) (wo : eCQ Z h0 vb) (wm : Arv Z h0 vb kb .byte 8 [.int 112, .int 48, .int 48, .int 0, .int 0, .int 0, .int 0, .int 0] (.int 0)) (wy : n0 ≤ o0) (ww : n0 ≤ vb) (wq : o0 ≠ vb) (wa : sHQ Z h0 (.int cs)) (hcs : ¬ cs = (0 : Int32)) :
  MF l mN11 jdk_67_method_14_code 2 (some (.object "java/lang/StringBuilder")) ws (rmm 2 0 0 27) #[.ref o0, .int 48] Z h0 (Qsba3_48 Z o0 vb kb cs h0 n0) := by
 refine MF.of (plainFor_of_name pn_4) ?_
 intro p e s m below meth c s₁ QQ hy hml hown hZ X0 e0 hrt hlk hnm hQQ
 have N0 := Fr.nil n0
 refine Ends.i #[rv o0, iv 48] (oA X0 hy d13_0 1 rfl (oC X0 hy d13_1 2 rfl ?_))
 refine cU X0 hy hml hown hZ hw d13_2 5 0 86 87 96 88 90 40 rfl rfl rfl rfl rfl rfl rfl (rmasa3_48 l Z a0 hw [] o0 vb kb cs h0 n0 Z0 wh wd wb we wo wm wy ww wq wa hcs) e0 pd_7 wh rfl rfl fun _ T78 Lc78 X78 hQ78 => ?_
 obtain ⟨rfl, Nq78, Kq78, wh, wd, wb, we, wm⟩ := hQ78
 have N78 := Fr.app N0 Nq78
 have K78 := (Keep.refl h0 [o0, vb]).trans Kq78 (allS (Or.inl mm0) (allS (Or.inl mm1) all0))
 refine Ends.v (oxe X78 hy d13_5 6 rfl (oA X78 hy d13_6 7 rfl ?_))
 exact fA X78 hy hrt hlk hQQ d13_7 rfl rfl rfl (by decide) ⟨rfl, N78, K78, wh, wd, wb, we, wm⟩
def Qens5_8 (Z : State) (o0 vb : Addr) (kb : ClassId) (vs : List Value) (h0 : Heap) (n0 : Nat) : QT := fun v h L => (v = none) ∧ (Fr n0 L) ∧ (h = h0)
theorem rmens5_8 (l : Launch) (Z : State) (a0 : Array Value) (hw : TW a0 Z) (ws : List Jvm.Cond) (o0 vb : Addr) (kb : ClassId) (vs : List Value) (h0 : Heap) (n0 : Nat) (Z0 : n0 ≤ h0.size) (wd : fDQ Z h0 o0 (.ref vb)) (wb : fCQ Z h0 o0 (.int 0)) (wm : Arv Z h0 vb kb .byte 8 vs (.int 0)) :
  MF l mN0 jdk_68_method_9_code 3 none ws (rmm 0 0 0 0) #[.ref o0, .int 5] Z h0 (Qens5_8 Z o0 vb kb vs h0 n0) := by
 refine MF.of (plainFor_of_name pn_3) ?_
 intro p e s m below meth c s₁ QQ hy hml hown hZ X0 e0 hrt hlk hnm hQQ
 have N0 := Fr.nil n0
 refine Ends.i #[rv o0, iv 5, uu] (oA X0 hy d15_0 1 rfl (gF X0 hy hown hZ hw e0 wd d15_1 4 46 rfl fun T79 X79 e79 => aLn X79 hy hZ e79 wm d15_4 5 (oA X79 hy d15_5 6 rfl (gF X79 hy hown hZ hw e79 wb d15_6 9 48 rfl fun T81 X81 e81 => oP X81 hy d15_9 10 ?_))))
 show Ends p e below QQ (T81.setTop (mkF m 10 #[rv o0, iv 5, uu] [.int 8]))
 refine oxp X81 hy d15_10 11 #[rv o0, iv 5, iv 8] rfl (oC X81 hy d15_11 12 rfl (oC X81 hy d15_12 13 rfl (oL X81 hy d15_13 14 ?_)))
 show Ends p e below QQ (T81.setTop (mkF m 14 #[rv o0, iv 5, iv 8] [.int (-3)]))
 refine oxk X81 hy d15_14 38 (XT.i0_le_t (by decide)) ?_
 exact fV X81 hy hrt hlk hQQ d15_38 e81 (by decide) ⟨rfl, N0, rfl⟩
def Qasa4_48 (Z : State) (o0 vb : Addr) (kb : ClassId) (cs : Int32) (h0 : Heap) (n0 : Nat) : QT := fun v h L => (v = some (.ref o0)) ∧ (Fr n0 L) ∧ (Keep h0 h [o0, vb]) ∧ (eBQ Z h o0) ∧ (fDQ Z h o0 (.ref vb)) ∧ (fCQ Z h o0 (.int 0)) ∧ (fEQ Z h o0 (.int 5)) ∧ (Arv Z h vb kb .byte 8 [.int 112, .int 48, .int 48, .int 48, .int 48, .int 0, .int 0, .int 0] (.int 0))
theorem rmasa4_48 (l : Launch) (Z : State) (a0 : Array Value) (hw : TW a0 Z) (ws : List Jvm.Cond) (o0 vb : Addr) (kb : ClassId) (cs : Int32) (h0 : Heap) (n0 : Nat) (Z0 : n0 ≤ h0.size) (wh : eBQ Z h0 o0) (wd : fDQ Z h0 o0 (.ref vb)) (wb : fCQ Z h0 o0 (.int 0)) (we : fEQ Z h0 o0 (.int 4)) (wo : eCQ Z h0 vb) (wm : Arv Z h0 vb kb .byte 8 [.int 112, .int 48, .int 48, .int 48, .int 0, .int 0, .int 0, .int 0] (.int 0)) (wy : n0 ≤ o0) (ww : n0 ≤ vb) (wq : o0 ≠ vb) (wa : sHQ Z h0 (.int cs)) (hcs : ¬ cs = (0 : Int32)) :
  MF l mN10 jdk_68_method_31_code 2 (some (.object "java/lang/AbstractStringBuilder")) ws (rmm 1 0 0 14) #[.ref o0, .int 48] Z h0 (Qasa4_48 Z o0 vb kb cs h0 n0) := by
 refine MF.of (plainFor_of_name pn_3) ?_
 intro p e s m below meth c s₁ QQ hy hml hown hZ X0 e0 hrt hlk hnm hQQ
 have hx := hy.1
 have hby := hy.2
 have N0 := Fr.nil n0
 refine Ends.i #[rv o0, iv 48] (oA X0 hy d14_0 1 rfl (oA X0 hy d14_1 2 rfl (gF X0 hy hown hZ hw e0 we d14_2 5 91 rfl fun T82 X82 e82 => oG X82 hy d14_5 6 1 rfl (oK X82 hy d14_6 7 ?_))))
 show Ends p e below QQ (T82.setTop (mkF m 7 #[rv o0, iv 48] [.int 5, .ref o0]))
 refine cP X82 hy hml hown hZ hw d14_7 10 0 93 94 96 95 97 40 rfl rfl rfl rfl rfl rfl rfl (rmens5_8 l Z a0 hw [] o0 vb kb [.int 112, .int 48, .int 48, .int 48, .int 0, .int 0, .int 0, .int 0] h0 n0 Z0 wd wb wm) e82 pd_5 wh rfl rfl fun _ T83 Lc83 X83 hQ83 => ?_
 obtain ⟨rfl, Nq83, hh83⟩ := hQ83
 have N83 := Fr.app N0 Nq83
 refine Ends.u (oA X83 hy d14_10 11 rfl ?_)
 refine cV X83 hy hml hown hZ hw d14_11 14 0 98 99 101 100 102 40 rfl rfl rfl rfl rfl rfl (rmasi l Z a0 hw [] o0 cs h0 n0 Z0 wa hcs wb) hh83 pd_3 wh rfl rfl fun _ T84 Lc84 X84 hQ84 => ?_
 obtain ⟨rfl, Nq84, hh84⟩ := hQ84
 have N84 := Fr.app N83 Nq84
 refine Ends.v (oxh X84 hy d14_14 17 (XT.i0_eq_f (by decide)) (oC X84 hy d14_17 18 rfl ?_))
 refine cS X84 hy hml hown hZ hw d14_18 21 0 103 104 105 106 rfl rfl rfl rfl (rmcan l Z a0 hw [] (48 : Int32) h0 n0 Z0 (by decide)) hh84 pd_6 rfl rfl fun _ T85 Lc85 X85 hQ85 => ?_
 obtain ⟨rfl, Nq85, hh85⟩ := hQ85
 have N85 := Fr.app N84 Nq85
 refine Ends.v (oxh X85 hy d14_21 24 (XT.i0_eq_f (by decide)) (oA X85 hy d14_24 25 rfl (gF X85 hy hown hZ hw hh85 wd d14_25 28 46 rfl fun T86 X86 e86 => oA X86 hy d14_28 29 rfl (oxd X86 hy d14_29 30 rfl (gF X86 hy hown hZ hw e86 we d14_30 33 91 rfl fun T87 X87 e87 => oxf X87 hy d14_33 34 rfl rfl (oG X87 hy d14_34 35 1 rfl (oK X87 hy d14_35 36 ?_)))))))
 show Ends p e below QQ (T87.setTop (mkF m 36 #[rv o0, iv 48] [.int 5, .ref o0, .int 4, .ref vb]))
 obtain ⟨T88, h88, X88, e88, W88, st88⟩ := putF X87 hx hZ hown (host := "") (Or.inl (tb hw 91 rfl)) Via.refl e87 we wh (Or.inl (tb hw 92 rfl)) (tb hw 31 rfl) (ty := .int) (by decide) rfl rfl (g := (mkF m 36 #[rv o0, iv 48] [.int 5, .ref o0, .int 4, .ref vb])) rfl rfl (hb hby d14_36)
 have wh := wh.wr W88
 have wd := wd.other W88 (Or.inr (slot_ne (Or.inl (tb hw 47 rfl)) (Or.inl (tb hw 92 rfl)) (by decide) (t := (.array .byte)) (t' := .int) (by decide) (by decide)))
 have wb := wb.other W88 (Or.inr (slot_ne (Or.inl (tb hw 49 rfl)) (Or.inl (tb hw 92 rfl)) (by decide) (t := .byte) (t' := .int) (by decide) (by decide)))
 have wm := wm.other W88 (Ne.symm wq)
 have we : fEQ Z h88 o0 (.int 5) := we.same W88
 have K88 := (Keep.refl h0 [o0, vb]).wr W88 (Or.inl mm0)
 have N88 := Fr.snoc X88 N85 wy
 refine Ends.j 39 [.int 4, .ref vb] st88 ?_
 refine oC X88 hy d14_39 40 rfl (oxb X88 hy d14_40 41 ?_)
 show Ends p e below QQ (T88.setTop (mkF m 41 #[rv o0, iv 48] [.int 48, .int 4, .ref vb]))
 refine aSB X88 hy hZ e88 wm d14_41 42 ⟨by decide, by decide⟩ fun T90 h90 X90 e90 W90 => ?_
 have wh := wh.wr W90
 have wd := wd.other W90 (Or.inl wq)
 have wb := wb.other W90 (Or.inl wq)
 have we := we.other W90 (Or.inl wq)
 have wm : Arv Z h90 vb kb .byte 8 [.int 112, .int 48, .int 48, .int 48, .int 48, .int 0, .int 0, .int 0] (.int 0) := As wm (fits_nar_byte _) W90 4 rfl (Nat.le_of_ble_eq_true rfl)
 have K90 := K88.wr W90 (Or.inl mm1)
 have N90 := Fr.snoc X90 N88 ww
 refine oxm X90 hy d14_42 75 (oA X90 hy d14_75 76 rfl ?_)
 exact fA X90 hy hrt hlk hQQ d14_76 rfl rfl e90 (by decide) ⟨rfl, N90, K90, wh, wd, wb, we, wm⟩
def Qsba4_48 (Z : State) (o0 vb : Addr) (kb : ClassId) (cs : Int32) (h0 : Heap) (n0 : Nat) : QT := fun v h L => (v = some (.ref o0)) ∧ (Fr n0 L) ∧ (Keep h0 h [o0, vb]) ∧ (eBQ Z h o0) ∧ (fDQ Z h o0 (.ref vb)) ∧ (fCQ Z h o0 (.int 0)) ∧ (fEQ Z h o0 (.int 5)) ∧ (Arv Z h vb kb .byte 8 [.int 112, .int 48, .int 48, .int 48, .int 48, .int 0, .int 0, .int 0] (.int 0))
theorem rmsba4_48 (l : Launch) (Z : State) (a0 : Array Value) (hw : TW a0 Z) (ws : List Jvm.Cond) (o0 vb : Addr) (kb : ClassId) (cs : Int32) (h0 : Heap) (n0 : Nat) (Z0 : n0 ≤ h0.size) (wh : eBQ Z h0 o0) (wd : fDQ Z h0 o0 (.ref vb)) (wb : fCQ Z h0 o0 (.int 0)) (we : fEQ Z h0 o0 (.int 4)) (wo : eCQ Z h0 vb) (wm : Arv Z h0 vb kb .byte 8 [.int 112, .int 48, .int 48, .int 48, .int 0, .int 0, .int 0, .int 0] (.int 0)) (wy : n0 ≤ o0) (ww : n0 ≤ vb) (wq : o0 ≠ vb) (wa : sHQ Z h0 (.int cs)) (hcs : ¬ cs = (0 : Int32)) :
  MF l mN11 jdk_67_method_14_code 2 (some (.object "java/lang/StringBuilder")) ws (rmm 2 0 0 27) #[.ref o0, .int 48] Z h0 (Qsba4_48 Z o0 vb kb cs h0 n0) := by
 refine MF.of (plainFor_of_name pn_4) ?_
 intro p e s m below meth c s₁ QQ hy hml hown hZ X0 e0 hrt hlk hnm hQQ
 have N0 := Fr.nil n0
 refine Ends.i #[rv o0, iv 48] (oA X0 hy d13_0 1 rfl (oC X0 hy d13_1 2 rfl ?_))
 refine cU X0 hy hml hown hZ hw d13_2 5 0 86 87 96 88 90 40 rfl rfl rfl rfl rfl rfl rfl (rmasa4_48 l Z a0 hw [] o0 vb kb cs h0 n0 Z0 wh wd wb we wo wm wy ww wq wa hcs) e0 pd_7 wh rfl rfl fun _ T91 Lc91 X91 hQ91 => ?_
 obtain ⟨rfl, Nq91, Kq91, wh, wd, wb, we, wm⟩ := hQ91
 have N91 := Fr.app N0 Nq91
 have K91 := (Keep.refl h0 [o0, vb]).trans Kq91 (allS (Or.inl mm0) (allS (Or.inl mm1) all0))
 refine Ends.v (oxe X91 hy d13_5 6 rfl (oA X91 hy d13_6 7 rfl ?_))
 exact fA X91 hy hrt hlk hQQ d13_7 rfl rfl rfl (by decide) ⟨rfl, N91, K91, wh, wd, wb, we, wm⟩
def Qens6_8 (Z : State) (o0 vb : Addr) (kb : ClassId) (vs : List Value) (h0 : Heap) (n0 : Nat) : QT := fun v h L => (v = none) ∧ (Fr n0 L) ∧ (h = h0)
theorem rmens6_8 (l : Launch) (Z : State) (a0 : Array Value) (hw : TW a0 Z) (ws : List Jvm.Cond) (o0 vb : Addr) (kb : ClassId) (vs : List Value) (h0 : Heap) (n0 : Nat) (Z0 : n0 ≤ h0.size) (wd : fDQ Z h0 o0 (.ref vb)) (wb : fCQ Z h0 o0 (.int 0)) (wm : Arv Z h0 vb kb .byte 8 vs (.int 0)) :
  MF l mN0 jdk_68_method_9_code 3 none ws (rmm 0 0 0 0) #[.ref o0, .int 6] Z h0 (Qens6_8 Z o0 vb kb vs h0 n0) := by
 refine MF.of (plainFor_of_name pn_3) ?_
 intro p e s m below meth c s₁ QQ hy hml hown hZ X0 e0 hrt hlk hnm hQQ
 have N0 := Fr.nil n0
 refine Ends.i #[rv o0, iv 6, uu] (oA X0 hy d15_0 1 rfl (gF X0 hy hown hZ hw e0 wd d15_1 4 46 rfl fun T92 X92 e92 => aLn X92 hy hZ e92 wm d15_4 5 (oA X92 hy d15_5 6 rfl (gF X92 hy hown hZ hw e92 wb d15_6 9 48 rfl fun T94 X94 e94 => oP X94 hy d15_9 10 ?_))))
 show Ends p e below QQ (T94.setTop (mkF m 10 #[rv o0, iv 6, uu] [.int 8]))
 refine oxp X94 hy d15_10 11 #[rv o0, iv 6, iv 8] rfl (oC X94 hy d15_11 12 rfl (oC X94 hy d15_12 13 rfl (oL X94 hy d15_13 14 ?_)))
 show Ends p e below QQ (T94.setTop (mkF m 14 #[rv o0, iv 6, iv 8] [.int (-2)]))
 refine oxk X94 hy d15_14 38 (XT.i0_le_t (by decide)) ?_
 exact fV X94 hy hrt hlk hQQ d15_38 e94 (by decide) ⟨rfl, N0, rfl⟩
def Qasa5_48 (Z : State) (o0 vb : Addr) (kb : ClassId) (cs : Int32) (h0 : Heap) (n0 : Nat) : QT := fun v h L => (v = some (.ref o0)) ∧ (Fr n0 L) ∧ (Keep h0 h [o0, vb]) ∧ (eBQ Z h o0) ∧ (fDQ Z h o0 (.ref vb)) ∧ (fCQ Z h o0 (.int 0)) ∧ (fEQ Z h o0 (.int 6)) ∧ (Arv Z h vb kb .byte 8 [.int 112, .int 48, .int 48, .int 48, .int 48, .int 48, .int 0, .int 0] (.int 0))
theorem rmasa5_48 (l : Launch) (Z : State) (a0 : Array Value) (hw : TW a0 Z) (ws : List Jvm.Cond) (o0 vb : Addr) (kb : ClassId) (cs : Int32) (h0 : Heap) (n0 : Nat) (Z0 : n0 ≤ h0.size) (wh : eBQ Z h0 o0) (wd : fDQ Z h0 o0 (.ref vb)) (wb : fCQ Z h0 o0 (.int 0)) (we : fEQ Z h0 o0 (.int 5)) (wo : eCQ Z h0 vb) (wm : Arv Z h0 vb kb .byte 8 [.int 112, .int 48, .int 48, .int 48, .int 48, .int 0, .int 0, .int 0] (.int 0)) (wy : n0 ≤ o0) (ww : n0 ≤ vb) (wq : o0 ≠ vb) (wa : sHQ Z h0 (.int cs)) (hcs : ¬ cs = (0 : Int32)) :
  MF l mN10 jdk_68_method_31_code 2 (some (.object "java/lang/AbstractStringBuilder")) ws (rmm 1 0 0 14) #[.ref o0, .int 48] Z h0 (Qasa5_48 Z o0 vb kb cs h0 n0) := by
 refine MF.of (plainFor_of_name pn_3) ?_
 intro p e s m below meth c s₁ QQ hy hml hown hZ X0 e0 hrt hlk hnm hQQ
 have hx := hy.1
 have hby := hy.2
 have N0 := Fr.nil n0
 refine Ends.i #[rv o0, iv 48] (oA X0 hy d14_0 1 rfl (oA X0 hy d14_1 2 rfl (gF X0 hy hown hZ hw e0 we d14_2 5 91 rfl fun T95 X95 e95 => oG X95 hy d14_5 6 1 rfl (oK X95 hy d14_6 7 ?_))))
 show Ends p e below QQ (T95.setTop (mkF m 7 #[rv o0, iv 48] [.int 6, .ref o0]))
 refine cP X95 hy hml hown hZ hw d14_7 10 0 93 94 96 95 97 40 rfl rfl rfl rfl rfl rfl rfl (rmens6_8 l Z a0 hw [] o0 vb kb [.int 112, .int 48, .int 48, .int 48, .int 48, .int 0, .int 0, .int 0] h0 n0 Z0 wd wb wm) e95 pd_5 wh rfl rfl fun _ T96 Lc96 X96 hQ96 => ?_
 obtain ⟨rfl, Nq96, hh96⟩ := hQ96
 have N96 := Fr.app N0 Nq96
 refine Ends.u (oA X96 hy d14_10 11 rfl ?_)
 refine cV X96 hy hml hown hZ hw d14_11 14 0 98 99 101 100 102 40 rfl rfl rfl rfl rfl rfl (rmasi l Z a0 hw [] o0 cs h0 n0 Z0 wa hcs wb) hh96 pd_3 wh rfl rfl fun _ T97 Lc97 X97 hQ97 => ?_
 obtain ⟨rfl, Nq97, hh97⟩ := hQ97
 have N97 := Fr.app N96 Nq97
 refine Ends.v (oxh X97 hy d14_14 17 (XT.i0_eq_f (by decide)) (oC X97 hy d14_17 18 rfl ?_))
 refine cS X97 hy hml hown hZ hw d14_18 21 0 103 104 105 106 rfl rfl rfl rfl (rmcan l Z a0 hw [] (48 : Int32) h0 n0 Z0 (by decide)) hh97 pd_6 rfl rfl fun _ T98 Lc98 X98 hQ98 => ?_
 obtain ⟨rfl, Nq98, hh98⟩ := hQ98
 have N98 := Fr.app N97 Nq98
 refine Ends.v (oxh X98 hy d14_21 24 (XT.i0_eq_f (by decide)) (oA X98 hy d14_24 25 rfl (gF X98 hy hown hZ hw hh98 wd d14_25 28 46 rfl fun T99 X99 e99 => oA X99 hy d14_28 29 rfl (oxd X99 hy d14_29 30 rfl (gF X99 hy hown hZ hw e99 we d14_30 33 91 rfl fun T100 X100 e100 => oxf X100 hy d14_33 34 rfl rfl (oG X100 hy d14_34 35 1 rfl (oK X100 hy d14_35 36 ?_)))))))
 show Ends p e below QQ (T100.setTop (mkF m 36 #[rv o0, iv 48] [.int 6, .ref o0, .int 5, .ref vb]))
 obtain ⟨T101, h101, X101, e101, W101, st101⟩ := putF X100 hx hZ hown (host := "") (Or.inl (tb hw 91 rfl)) Via.refl e100 we wh (Or.inl (tb hw 92 rfl)) (tb hw 31 rfl) (ty := .int) (by decide) rfl rfl (g := (mkF m 36 #[rv o0, iv 48] [.int 6, .ref o0, .int 5, .ref vb])) rfl rfl (hb hby d14_36)
 have wh := wh.wr W101
 have wd := wd.other W101 (Or.inr (slot_ne (Or.inl (tb hw 47 rfl)) (Or.inl (tb hw 92 rfl)) (by decide) (t := (.array .byte)) (t' := .int) (by decide) (by decide)))
 have wb := wb.other W101 (Or.inr (slot_ne (Or.inl (tb hw 49 rfl)) (Or.inl (tb hw 92 rfl)) (by decide) (t := .byte) (t' := .int) (by decide) (by decide)))
 have wm := wm.other W101 (Ne.symm wq)
 have we : fEQ Z h101 o0 (.int 6) := we.same W101
 have K101 := (Keep.refl h0 [o0, vb]).wr W101 (Or.inl mm0)
 have N101 := Fr.snoc X101 N98 wy
 refine Ends.j 39 [.int 5, .ref vb] st101 ?_
 refine oC X101 hy d14_39 40 rfl (oxb X101 hy d14_40 41 ?_)
 show Ends p e below QQ (T101.setTop (mkF m 41 #[rv o0, iv 48] [.int 48, .int 5, .ref vb]))
 refine aSB X101 hy hZ e101 wm d14_41 42 ⟨by decide, by decide⟩ fun T103 h103 X103 e103 W103 => ?_
 have wh := wh.wr W103
 have wd := wd.other W103 (Or.inl wq)
 have wb := wb.other W103 (Or.inl wq)
 have we := we.other W103 (Or.inl wq)
 have wm : Arv Z h103 vb kb .byte 8 [.int 112, .int 48, .int 48, .int 48, .int 48, .int 48, .int 0, .int 0] (.int 0) := As wm (fits_nar_byte _) W103 5 rfl (Nat.le_of_ble_eq_true rfl)
 have K103 := K101.wr W103 (Or.inl mm1)
 have N103 := Fr.snoc X103 N101 ww
 refine oxm X103 hy d14_42 75 (oA X103 hy d14_75 76 rfl ?_)
 exact fA X103 hy hrt hlk hQQ d14_76 rfl rfl e103 (by decide) ⟨rfl, N103, K103, wh, wd, wb, we, wm⟩
def Qsba5_48 (Z : State) (o0 vb : Addr) (kb : ClassId) (cs : Int32) (h0 : Heap) (n0 : Nat) : QT := fun v h L => (v = some (.ref o0)) ∧ (Fr n0 L) ∧ (Keep h0 h [o0, vb]) ∧ (eBQ Z h o0) ∧ (fDQ Z h o0 (.ref vb)) ∧ (fCQ Z h o0 (.int 0)) ∧ (fEQ Z h o0 (.int 6)) ∧ (Arv Z h vb kb .byte 8 [.int 112, .int 48, .int 48, .int 48, .int 48, .int 48, .int 0, .int 0] (.int 0))
theorem rmsba5_48 (l : Launch) (Z : State) (a0 : Array Value) (hw : TW a0 Z) (ws : List Jvm.Cond) (o0 vb : Addr) (kb : ClassId) (cs : Int32) (h0 : Heap) (n0 : Nat) (Z0 : n0 ≤ h0.size) (wh : eBQ Z h0 o0) (wd : fDQ Z h0 o0 (.ref vb)) (wb : fCQ Z h0 o0 (.int 0)) (we : fEQ Z h0 o0 (.int 5)) (wo : eCQ Z h0 vb) (wm : Arv Z h0 vb kb .byte 8 [.int 112, .int 48, .int 48, .int 48, .int 48, .int 0, .int 0, .int 0] (.int 0)) (wy : n0 ≤ o0) (ww : n0 ≤ vb) (wq : o0 ≠ vb) (wa : sHQ Z h0 (.int cs)) (hcs : ¬ cs = (0 : Int32)) :
  MF l mN11 jdk_67_method_14_code 2 (some (.object "java/lang/StringBuilder")) ws (rmm 2 0 0 27) #[.ref o0, .int 48] Z h0 (Qsba5_48 Z o0 vb kb cs h0 n0) := by
 refine MF.of (plainFor_of_name pn_4) ?_
 intro p e s m below meth c s₁ QQ hy hml hown hZ X0 e0 hrt hlk hnm hQQ
 have N0 := Fr.nil n0
 refine Ends.i #[rv o0, iv 48] (oA X0 hy d13_0 1 rfl (oC X0 hy d13_1 2 rfl ?_))
 refine cU X0 hy hml hown hZ hw d13_2 5 0 86 87 96 88 90 40 rfl rfl rfl rfl rfl rfl rfl (rmasa5_48 l Z a0 hw [] o0 vb kb cs h0 n0 Z0 wh wd wb we wo wm wy ww wq wa hcs) e0 pd_7 wh rfl rfl fun _ T104 Lc104 X104 hQ104 => ?_
 obtain ⟨rfl, Nq104, Kq104, wh, wd, wb, we, wm⟩ := hQ104
 have N104 := Fr.app N0 Nq104
 have K104 := (Keep.refl h0 [o0, vb]).trans Kq104 (allS (Or.inl mm0) (allS (Or.inl mm1) all0))
 refine Ends.v (oxe X104 hy d13_5 6 rfl (oA X104 hy d13_6 7 rfl ?_))
 exact fA X104 hy hrt hlk hQQ d13_7 rfl rfl rfl (by decide) ⟨rfl, N104, K104, wh, wd, wb, we, wm⟩
def Qens7_8 (Z : State) (o0 vb : Addr) (kb : ClassId) (vs : List Value) (h0 : Heap) (n0 : Nat) : QT := fun v h L => (v = none) ∧ (Fr n0 L) ∧ (h = h0)
theorem rmens7_8 (l : Launch) (Z : State) (a0 : Array Value) (hw : TW a0 Z) (ws : List Jvm.Cond) (o0 vb : Addr) (kb : ClassId) (vs : List Value) (h0 : Heap) (n0 : Nat) (Z0 : n0 ≤ h0.size) (wd : fDQ Z h0 o0 (.ref vb)) (wb : fCQ Z h0 o0 (.int 0)) (wm : Arv Z h0 vb kb .byte 8 vs (.int 0)) :
  MF l mN0 jdk_68_method_9_code 3 none ws (rmm 0 0 0 0) #[.ref o0, .int 7] Z h0 (Qens7_8 Z o0 vb kb vs h0 n0) := by
 refine MF.of (plainFor_of_name pn_3) ?_
 intro p e s m below meth c s₁ QQ hy hml hown hZ X0 e0 hrt hlk hnm hQQ
 have N0 := Fr.nil n0
 refine Ends.i #[rv o0, iv 7, uu] (oA X0 hy d15_0 1 rfl (gF X0 hy hown hZ hw e0 wd d15_1 4 46 rfl fun T105 X105 e105 => aLn X105 hy hZ e105 wm d15_4 5 (oA X105 hy d15_5 6 rfl (gF X105 hy hown hZ hw e105 wb d15_6 9 48 rfl fun T107 X107 e107 => oP X107 hy d15_9 10 ?_))))
 show Ends p e below QQ (T107.setTop (mkF m 10 #[rv o0, iv 7, uu] [.int 8]))
 refine oxp X107 hy d15_10 11 #[rv o0, iv 7, iv 8] rfl (oC X107 hy d15_11 12 rfl (oC X107 hy d15_12 13 rfl (oL X107 hy d15_13 14 ?_)))
 show Ends p e below QQ (T107.setTop (mkF m 14 #[rv o0, iv 7, iv 8] [.int (-1)]))
 refine oxk X107 hy d15_14 38 (XT.i0_le_t (by decide)) ?_
 exact fV X107 hy hrt hlk hQQ d15_38 e107 (by decide) ⟨rfl, N0, rfl⟩
def Qasa6_48 (Z : State) (o0 vb : Addr) (kb : ClassId) (cs : Int32) (h0 : Heap) (n0 : Nat) : QT := fun v h L => (v = some (.ref o0)) ∧ (Fr n0 L) ∧ (Keep h0 h [o0, vb]) ∧ (eBQ Z h o0) ∧ (fDQ Z h o0 (.ref vb)) ∧ (fCQ Z h o0 (.int 0)) ∧ (fEQ Z h o0 (.int 7)) ∧ (Arv Z h vb kb .byte 8 [.int 112, .int 48, .int 48, .int 48, .int 48, .int 48, .int 48, .int 0] (.int 0))
theorem rmasa6_48 (l : Launch) (Z : State) (a0 : Array Value) (hw : TW a0 Z) (ws : List Jvm.Cond) (o0 vb : Addr) (kb : ClassId) (cs : Int32) (h0 : Heap) (n0 : Nat) (Z0 : n0 ≤ h0.size) (wh : eBQ Z h0 o0) (wd : fDQ Z h0 o0 (.ref vb)) (wb : fCQ Z h0 o0 (.int 0)) (we : fEQ Z h0 o0 (.int 6)) (wo : eCQ Z h0 vb) (wm : Arv Z h0 vb kb .byte 8 [.int 112, .int 48, .int 48, .int 48, .int 48, .int 48, .int 0, .int 0] (.int 0)) (wy : n0 ≤ o0) (ww : n0 ≤ vb) (wq : o0 ≠ vb) (wa : sHQ Z h0 (.int cs)) (hcs : ¬ cs = (0 : Int32)) :
  MF l mN10 jdk_68_method_31_code 2 (some (.object "java/lang/AbstractStringBuilder")) ws (rmm 1 0 0 14) #[.ref o0, .int 48] Z h0 (Qasa6_48 Z o0 vb kb cs h0 n0) := by
 refine MF.of (plainFor_of_name pn_3) ?_
 intro p e s m below meth c s₁ QQ hy hml hown hZ X0 e0 hrt hlk hnm hQQ
 have hx := hy.1
 have hby := hy.2
 have N0 := Fr.nil n0
 refine Ends.i #[rv o0, iv 48] (oA X0 hy d14_0 1 rfl (oA X0 hy d14_1 2 rfl (gF X0 hy hown hZ hw e0 we d14_2 5 91 rfl fun T108 X108 e108 => oG X108 hy d14_5 6 1 rfl (oK X108 hy d14_6 7 ?_))))
 show Ends p e below QQ (T108.setTop (mkF m 7 #[rv o0, iv 48] [.int 7, .ref o0]))
 refine cP X108 hy hml hown hZ hw d14_7 10 0 93 94 96 95 97 40 rfl rfl rfl rfl rfl rfl rfl (rmens7_8 l Z a0 hw [] o0 vb kb [.int 112, .int 48, .int 48, .int 48, .int 48, .int 48, .int 0, .int 0] h0 n0 Z0 wd wb wm) e108 pd_5 wh rfl rfl fun _ T109 Lc109 X109 hQ109 => ?_
 obtain ⟨rfl, Nq109, hh109⟩ := hQ109
 have N109 := Fr.app N0 Nq109
 refine Ends.u (oA X109 hy d14_10 11 rfl ?_)
 refine cV X109 hy hml hown hZ hw d14_11 14 0 98 99 101 100 102 40 rfl rfl rfl rfl rfl rfl (rmasi l Z a0 hw [] o0 cs h0 n0 Z0 wa hcs wb) hh109 pd_3 wh rfl rfl fun _ T110 Lc110 X110 hQ110 => ?_
 obtain ⟨rfl, Nq110, hh110⟩ := hQ110
 have N110 := Fr.app N109 Nq110
 refine Ends.v (oxh X110 hy d14_14 17 (XT.i0_eq_f (by decide)) (oC X110 hy d14_17 18 rfl ?_))
 refine cS X110 hy hml hown hZ hw d14_18 21 0 103 104 105 106 rfl rfl rfl rfl (rmcan l Z a0 hw [] (48 : Int32) h0 n0 Z0 (by decide)) hh110 pd_6 rfl rfl fun _ T111 Lc111 X111 hQ111 => ?_
 obtain ⟨rfl, Nq111, hh111⟩ := hQ111
 have N111 := Fr.app N110 Nq111
 refine Ends.v (oxh X111 hy d14_21 24 (XT.i0_eq_f (by decide)) (oA X111 hy d14_24 25 rfl (gF X111 hy hown hZ hw hh111 wd d14_25 28 46 rfl fun T112 X112 e112 => oA X112 hy d14_28 29 rfl (oxd X112 hy d14_29 30 rfl (gF X112 hy hown hZ hw e112 we d14_30 33 91 rfl fun T113 X113 e113 => oxf X113 hy d14_33 34 rfl rfl (oG X113 hy d14_34 35 1 rfl (oK X113 hy d14_35 36 ?_)))))))
 show Ends p e below QQ (T113.setTop (mkF m 36 #[rv o0, iv 48] [.int 7, .ref o0, .int 6, .ref vb]))
 obtain ⟨T114, h114, X114, e114, W114, st114⟩ := putF X113 hx hZ hown (host := "") (Or.inl (tb hw 91 rfl)) Via.refl e113 we wh (Or.inl (tb hw 92 rfl)) (tb hw 31 rfl) (ty := .int) (by decide) rfl rfl (g := (mkF m 36 #[rv o0, iv 48] [.int 7, .ref o0, .int 6, .ref vb])) rfl rfl (hb hby d14_36)
 have wh := wh.wr W114
 have wd := wd.other W114 (Or.inr (slot_ne (Or.inl (tb hw 47 rfl)) (Or.inl (tb hw 92 rfl)) (by decide) (t := (.array .byte)) (t' := .int) (by decide) (by decide)))
 have wb := wb.other W114 (Or.inr (slot_ne (Or.inl (tb hw 49 rfl)) (Or.inl (tb hw 92 rfl)) (by decide) (t := .byte) (t' := .int) (by decide) (by decide)))
 have wm := wm.other W114 (Ne.symm wq)
 have we : fEQ Z h114 o0 (.int 7) := we.same W114
 have K114 := (Keep.refl h0 [o0, vb]).wr W114 (Or.inl mm0)
 have N114 := Fr.snoc X114 N111 wy
 refine Ends.j 39 [.int 6, .ref vb] st114 ?_
 refine oC X114 hy d14_39 40 rfl (oxb X114 hy d14_40 41 ?_)
 show Ends p e below QQ (T114.setTop (mkF m 41 #[rv o0, iv 48] [.int 48, .int 6, .ref vb]))
 refine aSB X114 hy hZ e114 wm d14_41 42 ⟨by decide, by decide⟩ fun T116 h116 X116 e116 W116 => ?_
 have wh := wh.wr W116
 have wd := wd.other W116 (Or.inl wq)
 have wb := wb.other W116 (Or.inl wq)
 have we := we.other W116 (Or.inl wq)
 have wm : Arv Z h116 vb kb .byte 8 [.int 112, .int 48, .int 48, .int 48, .int 48, .int 48, .int 48, .int 0] (.int 0) := As wm (fits_nar_byte _) W116 6 rfl (Nat.le_of_ble_eq_true rfl)
 have K116 := K114.wr W116 (Or.inl mm1)
 have N116 := Fr.snoc X116 N114 ww
 refine oxm X116 hy d14_42 75 (oA X116 hy d14_75 76 rfl ?_)
 exact fA X116 hy hrt hlk hQQ d14_76 rfl rfl e116 (by decide) ⟨rfl, N116, K116, wh, wd, wb, we, wm⟩
def Qsba6_48 (Z : State) (o0 vb : Addr) (kb : ClassId) (cs : Int32) (h0 : Heap) (n0 : Nat) : QT := fun v h L => (v = some (.ref o0)) ∧ (Fr n0 L) ∧ (Keep h0 h [o0, vb]) ∧ (eBQ Z h o0) ∧ (fDQ Z h o0 (.ref vb)) ∧ (fCQ Z h o0 (.int 0)) ∧ (fEQ Z h o0 (.int 7)) ∧ (Arv Z h vb kb .byte 8 [.int 112, .int 48, .int 48, .int 48, .int 48, .int 48, .int 48, .int 0] (.int 0))
theorem rmsba6_48 (l : Launch) (Z : State) (a0 : Array Value) (hw : TW a0 Z) (ws : List Jvm.Cond) (o0 vb : Addr) (kb : ClassId) (cs : Int32) (h0 : Heap) (n0 : Nat) (Z0 : n0 ≤ h0.size) (wh : eBQ Z h0 o0) (wd : fDQ Z h0 o0 (.ref vb)) (wb : fCQ Z h0 o0 (.int 0)) (we : fEQ Z h0 o0 (.int 6)) (wo : eCQ Z h0 vb) (wm : Arv Z h0 vb kb .byte 8 [.int 112, .int 48, .int 48, .int 48, .int 48, .int 48, .int 0, .int 0] (.int 0)) (wy : n0 ≤ o0) (ww : n0 ≤ vb) (wq : o0 ≠ vb) (wa : sHQ Z h0 (.int cs)) (hcs : ¬ cs = (0 : Int32)) :
  MF l mN11 jdk_67_method_14_code 2 (some (.object "java/lang/StringBuilder")) ws (rmm 2 0 0 27) #[.ref o0, .int 48] Z h0 (Qsba6_48 Z o0 vb kb cs h0 n0) := by
 refine MF.of (plainFor_of_name pn_4) ?_
 intro p e s m below meth c s₁ QQ hy hml hown hZ X0 e0 hrt hlk hnm hQQ
 have N0 := Fr.nil n0
 refine Ends.i #[rv o0, iv 48] (oA X0 hy d13_0 1 rfl (oC X0 hy d13_1 2 rfl ?_))
 refine cU X0 hy hml hown hZ hw d13_2 5 0 86 87 96 88 90 40 rfl rfl rfl rfl rfl rfl rfl (rmasa6_48 l Z a0 hw [] o0 vb kb cs h0 n0 Z0 wh wd wb we wo wm wy ww wq wa hcs) e0 pd_7 wh rfl rfl fun _ T117 Lc117 X117 hQ117 => ?_
 obtain ⟨rfl, Nq117, Kq117, wh, wd, wb, we, wm⟩ := hQ117
 have N117 := Fr.app N0 Nq117
 have K117 := (Keep.refl h0 [o0, vb]).trans Kq117 (allS (Or.inl mm0) (allS (Or.inl mm1) all0))
 refine Ends.v (oxe X117 hy d13_5 6 rfl (oA X117 hy d13_6 7 rfl ?_))
 exact fA X117 hy hrt hlk hQQ d13_7 rfl rfl rfl (by decide) ⟨rfl, N117, K117, wh, wd, wb, we, wm⟩
def Qens8_8 (Z : State) (o0 vb : Addr) (kb : ClassId) (vs : List Value) (h0 : Heap) (n0 : Nat) : QT := fun v h L => (v = none) ∧ (Fr n0 L) ∧ (h = h0)
theorem rmens8_8 (l : Launch) (Z : State) (a0 : Array Value) (hw : TW a0 Z) (ws : List Jvm.Cond) (o0 vb : Addr) (kb : ClassId) (vs : List Value) (h0 : Heap) (n0 : Nat) (Z0 : n0 ≤ h0.size) (wd : fDQ Z h0 o0 (.ref vb)) (wb : fCQ Z h0 o0 (.int 0)) (wm : Arv Z h0 vb kb .byte 8 vs (.int 0)) :
  MF l mN0 jdk_68_method_9_code 3 none ws (rmm 0 0 0 0) #[.ref o0, .int 8] Z h0 (Qens8_8 Z o0 vb kb vs h0 n0) := by
 refine MF.of (plainFor_of_name pn_3) ?_
 intro p e s m below meth c s₁ QQ hy hml hown hZ X0 e0 hrt hlk hnm hQQ
 have N0 := Fr.nil n0
 refine Ends.i #[rv o0, iv 8, uu] (oA X0 hy d15_0 1 rfl (gF X0 hy hown hZ hw e0 wd d15_1 4 46 rfl fun T118 X118 e118 => aLn X118 hy hZ e118 wm d15_4 5 (oA X118 hy d15_5 6 rfl (gF X118 hy hown hZ hw e118 wb d15_6 9 48 rfl fun T120 X120 e120 => oP X120 hy d15_9 10 ?_))))
 show Ends p e below QQ (T120.setTop (mkF m 10 #[rv o0, iv 8, uu] [.int 8]))
 refine oxp X120 hy d15_10 11 #[rv o0, iv 8, iv 8] rfl (oC X120 hy d15_11 12 rfl (oC X120 hy d15_12 13 rfl (oL X120 hy d15_13 14 ?_)))
 show Ends p e below QQ (T120.setTop (mkF m 14 #[rv o0, iv 8, iv 8] [.int 0]))
 refine oxk X120 hy d15_14 38 (XT.i0_le_t (by decide)) ?_
 exact fV X120 hy hrt hlk hQQ d15_38 e120 (by decide) ⟨rfl, N0, rfl⟩
theorem d24_0 : decode cD13 0 = .ok (.aload_n 0, 1) := by decide +kernel
theorem d24_1 : decode cD13 1 = .ok (.invokevirtual 335, 3) := by decide +kernel
theorem d24_4 : decode cD13 4 = .ok (.iload_n 3, 1) := by decide +kernel
theorem d24_5 : decode cD13 5 = .ok (.if_icmp .ne 23, 3) := by decide +kernel
theorem d24_8 : decode cD13 8 = .ok (.aload_n 0, 1) := by decide +kernel
theorem d24_9 : decode cD13 9 = .ok (.getfield 9, 3) := by decide +kernel
theorem d24_12 : decode cD13 12 = .ok (.iconst 0, 1) := by decide +kernel
theorem d24_13 : decode cD13 13 = .ok (.aload_n 1, 1) := by decide +kernel
theorem d24_14 : decode cD13 14 = .ok (.iload_n 2, 1) := by decide +kernel
theorem d24_15 : decode cD13 15 = .ok (.iload_n 3, 1) := by decide +kernel
theorem d24_16 : decode cD13 16 = .ok (.ishl, 1) := by decide +kernel
theorem d24_17 : decode cD13 17 = .ok (.aload_n 0, 1) := by decide +kernel
theorem d24_18 : decode cD13 18 = .ok (.getfield 9, 3) := by decide +kernel
theorem d24_21 : decode cD13 21 = .ok (.arraylength, 1) := by decide +kernel
theorem d24_22 : decode cD13 22 = .ok (.invokestatic 212, 3) := by decide +kernel
theorem d24_25 : decode cD13 25 = .ok (.goto 18, 3) := by decide +kernel
theorem d24_43 : decode cD13 43 = .ok (.return_, 1) := by decide +kernel
def Qgb1 (Z : State) (o0 o1 : Addr) (kb : ClassId) (tt : Addr) (kt : ClassId) (cs y0 : Int32) (h0 : Heap) (n0 : Nat) : QT := fun v h L => (v = none) ∧ (Fr n0 L) ∧ (Keep h0 h [o1]) ∧ (Arv Z h o1 kb .byte 8 [.int 112, .int 48, .int 48, .int 48, .int 48, .int 48, .int 48, .int y0] (.int 0))
theorem rmgb1 (l : Launch) (Z : State) (a0 : Array Value) (hw : TW a0 Z) (ws : List Jvm.Cond) (o0 o1 : Addr) (kb : ClassId) (tt : Addr) (kt : ClassId) (cs y0 : Int32) (h0 : Heap) (n0 : Nat) (Z0 : n0 ≤ h0.size) (wh : eAQ Z h0 o0) (wd : fBQ Z h0 o0 (.ref tt)) (wb : fAQ Z h0 o0 (.int 0)) (wH : eCQ Z h0 tt) (wE : Arv Z h0 tt kt .byte 1 [.int y0] (.int 0)) (wG : o0 ≠ tt) (vD : Arv Z h0 o1 kb .byte 8 [.int 112, .int 48, .int 48, .int 48, .int 48, .int 48, .int 48, .int 0] (.int 0)) (wK : n0 ≤ o1) (wF : o1 ≠ tt) (kM : o1 ≠ o0) (wa : sHQ Z h0 (.int cs)) (hcs : ¬ cs = (0 : Int32)) :
  MF l mN1 jdk_42_method_147_code 4 none ws (rmm 1 0 0 24) #[.ref o0, .ref o1, .int 7, .int 0] Z h0 (Qgb1 Z o0 o1 kb tt kt cs y0 h0 n0) := by
 refine MF.of (plainFor_of_name pn_0) ?_
 intro p e s m below meth c s₁ QQ hy hml hown hZ X0 e0 hrt hlk hnm hQQ
 have hx := hy.1
 have hby := hy.2
 have N0 := Fr.nil n0
 refine Ends.i #[rv o0, rv o1, iv 7, iv 0] (oA X0 hy d24_0 1 rfl ?_)
 refine cV X0 hy hml hown hZ hw d24_1 4 0 112 113 115 114 116 44 rfl rfl rfl rfl rfl rfl (rmcod l Z a0 hw [] o0 cs h0 n0 Z0 wa hcs wb) e0 pd_0 wh rfl rfl fun _ T121 Lc121 X121 hQ121 => ?_
 obtain ⟨rfl, Nq121, hh121⟩ := hQ121
 have N121 := Fr.app N0 Nq121
 refine Ends.v (oC X121 hy d24_4 5 rfl (oxi X121 hy d24_5 8 (XT.ii_ne_f (by decide)) (oA X121 hy d24_8 9 rfl (gF X121 hy hown hZ hw hh121 wd d24_9 12 77 rfl fun T122 X122 e122 => oG X122 hy d24_12 13 0 rfl (oA X122 hy d24_13 14 rfl (oC X122 hy d24_14 15 rfl (oC X122 hy d24_15 16 rfl (oO X122 hy d24_16 17 ?_))))))))
 show Ends p e below QQ (T122.setTop (mkF m 17 #[rv o0, rv o1, iv 7, iv 0] [.int 7, .ref o1, .int 0, .ref tt]))
 refine oA X122 hy d24_17 18 rfl (gF X122 hy hown hZ hw e122 wd d24_18 21 77 rfl fun T123 X123 e123 => aLn X123 hy hZ e123 wE d24_21 22 ?_)
 obtain ⟨T125, h125, L125, X125, e125, N125, Kq125, AA125, st125⟩ := cpA X123 hx hZ hown (tb hw 144 rfl) (tb hw 147 rfl) (tb hw 145 rfl) (tb hw 146 rfl) e123 wE vD (Or.inl ⟨rfl, rfl⟩) (by decide) (by decide) (by decide) (by decide) (by decide) (us := [.int y0]) (by rfl) (by decide) N121 wK (g := (mkF m 22 #[rv o0, rv o1, iv 7, iv 0] [.int 1, .int 7, .ref o1, .int 0, .ref tt])) rfl (by rw [hml]; rfl) rfl (hb hby d24_22) (by decide) (W := 0) (by show 2 * 0 + _ ≤ _; exact Nat.le_of_eq rfl) (by decide)
 have vD : Arv Z h125 o1 kb .byte 8 [.int 112, .int 48, .int 48, .int 48, .int 48, .int 48, .int 48, .int y0] (.int 0) := AA125
 have K125 := (Keep.refl h0 [o1]).trans Kq125 (allS (Or.inl mm0) all0)
 refine Ends.j 25 [] st125 ?_
 refine oxm X125 hy d24_25 43 ?_
 exact fV X125 hy hrt hlk hQQ d24_43 e125 (by decide) ⟨rfl, N125, K125, vD⟩
theorem d22_0 : decode cD19 0 = .ok (.aload_n 0, 1) := by decide +kernel
theorem d22_1 : decode cD19 1 = .ok (.aload_n 2, 1) := by decide +kernel
theorem d22_2 : decode cD19 2 = .ok (.invokevirtual 397, 3) := by decide +kernel
theorem d22_5 : decode cD19 5 = .ok (.aload_n 2, 1) := by decide +kernel
theorem d22_6 : decode cD19 6 = .ok (.aload_n 0, 1) := by decide +kernel
theorem d22_7 : decode cD19 7 = .ok (.getfield 15, 3) := by decide +kernel
theorem d22_10 : decode cD19 10 = .ok (.iload_n 1, 1) := by decide +kernel
theorem d22_11 : decode cD19 11 = .ok (.aload_n 0, 1) := by decide +kernel
theorem d22_12 : decode cD19 12 = .ok (.getfield 22, 3) := by decide +kernel
theorem d22_15 : decode cD19 15 = .ok (.invokevirtual 399, 3) := by decide +kernel
theorem d22_18 : decode cD19 18 = .ok (.return_, 1) := by decide +kernel
def Qps1 (Z : State) (o0 o2 vb : Addr) (kb : ClassId) (tt : Addr) (kt : ClassId) (cs y0 : Int32) (h0 : Heap) (n0 : Nat) : QT := fun v h L => (v = none) ∧ (Fr n0 L) ∧ (Keep h0 h [vb]) ∧ (Arv Z h vb kb .byte 8 [.int 112, .int 48, .int 48, .int 48, .int 48, .int 48, .int 48, .int y0] (.int 0))
theorem rmps1 (l : Launch) (Z : State) (a0 : Array Value) (hw : TW a0 Z) (ws : List Jvm.Cond) (o0 o2 vb : Addr) (kb : ClassId) (tt : Addr) (kt : ClassId) (cs y0 : Int32) (h0 : Heap) (n0 : Nat) (Z0 : n0 ≤ h0.size) (wh : eBQ Z h0 o0) (wd : fDQ Z h0 o0 (.ref vb)) (wb : fCQ Z h0 o0 (.int 0)) (we : fEQ Z h0 o0 (.int 7)) (wo : eCQ Z h0 vb) (wm : Arv Z h0 vb kb .byte 8 [.int 112, .int 48, .int 48, .int 48, .int 48, .int 48, .int 48, .int 0] (.int 0)) (wy : n0 ≤ o0) (ww : n0 ≤ vb) (wq : o0 ≠ vb) (vC : eAQ Z h0 o2) (wU : fBQ Z h0 o2 (.ref tt)) (wJ : fAQ Z h0 o2 (.int 0)) (wH : eCQ Z h0 tt) (wE : Arv Z h0 tt kt .byte 1 [.int y0] (.int 0)) (vz : o2 ≠ tt) (wA : vb ≠ tt) (vy : vb ≠ o2) (wa : sHQ Z h0 (.int cs)) (hcs : ¬ cs = (0 : Int32)) :
  MF l mN2 jdk_68_method_73_code 3 none ws (rmm 2 0 0 39) #[.ref o0, .int 7, .ref o2] Z h0 (Qps1 Z o0 o2 vb kb tt kt cs y0 h0 n0) := by
 refine MF.of (plainFor_of_name pn_3) ?_
 intro p e s m below meth c s₁ QQ hy hml hown hZ X0 e0 hrt hlk hnm hQQ
 have N0 := Fr.nil n0
 refine Ends.i #[rv o0, iv 7, rv o2] (oA X0 hy d22_0 1 rfl (oA X0 hy d22_1 2 rfl ?_))
 refine cP X0 hy hml hown hZ hw d22_2 5 0 133 134 96 135 137 40 rfl rfl rfl rfl rfl rfl rfl (rminf l Z a0 hw [] o0 o2 cs h0 n0 Z0 wa hcs wb vC wJ) e0 pd_8 wh rfl rfl fun _ T126 Lc126 X126 hQ126 => ?_
 obtain ⟨rfl, Nq126, hh126⟩ := hQ126
 have N126 := Fr.app N0 Nq126
 refine Ends.u (oA X126 hy d22_5 6 rfl (oA X126 hy d22_6 7 rfl (gF X126 hy hown hZ hw hh126 wd d22_7 10 46 rfl fun T127 X127 e127 => oC X127 hy d22_10 11 rfl (oA X127 hy d22_11 12 rfl (gF X127 hy hown hZ hw e127 wb d22_12 15 48 rfl fun T128 X128 e128 => ?_)))))
 refine cV X128 hy hml hown hZ hw d22_15 18 0 139 140 142 141 143 44 rfl rfl rfl rfl rfl rfl (rmgb1 l Z a0 hw [] o2 vb kb tt kt cs y0 h0 n0 Z0 vC wU wJ wH wE vz wm ww wA vy wa hcs) e128 pd_9 vC rfl rfl fun _ T129 Lc129 X129 hQ129 => ?_
 obtain ⟨rfl, Nq129, Kq129, wm⟩ := hQ129
 have N129 := Fr.app N126 Nq129
 have K129 := (Keep.refl h0 [vb]).trans Kq129 (allS (Or.inl mm0) all0)
 refine Ends.u ?_
 exact fV X129 hy hrt hlk hQQ d22_18 rfl (by decide) ⟨rfl, N129, K129, wm⟩
theorem d21_0 : decode cD6 0 = .ok (.aload_n 1, 1) := by decide +kernel
theorem d21_1 : decode cD6 1 = .ok (.ifnonnull 8, 3) := by decide +kernel
theorem d21_9 : decode cD6 9 = .ok (.aload_n 1, 1) := by decide +kernel
theorem d21_10 : decode cD6 10 = .ok (.invokevirtual 32, 3) := by decide +kernel
theorem d21_13 : decode cD6 13 = .ok (.istore_n 2, 1) := by decide +kernel
theorem d21_14 : decode cD6 14 = .ok (.aload_n 0, 1) := by decide +kernel
theorem d21_15 : decode cD6 15 = .ok (.aload_n 0, 1) := by decide +kernel
theorem d21_16 : decode cD6 16 = .ok (.getfield 79, 3) := by decide +kernel
theorem d21_19 : decode cD6 19 = .ok (.iload_n 2, 1) := by decide +kernel
theorem d21_20 : decode cD6 20 = .ok (.iadd, 1) := by decide +kernel
theorem d21_21 : decode cD6 21 = .ok (.invokevirtual 100, 3) := by decide +kernel
theorem d21_24 : decode cD6 24 = .ok (.aload_n 0, 1) := by decide +kernel
theorem d21_25 : decode cD6 25 = .ok (.aload_n 0, 1) := by decide +kernel
theorem d21_26 : decode cD6 26 = .ok (.getfield 79, 3) := by decide +kernel
theorem d21_29 : decode cD6 29 = .ok (.aload_n 1, 1) := by decide +kernel
theorem d21_30 : decode cD6 30 = .ok (.invokevirtual 208, 3) := by decide +kernel
theorem d21_33 : decode cD6 33 = .ok (.aload_n 0, 1) := by decide +kernel
theorem d21_34 : decode cD6 34 = .ok (.dup, 1) := by decide +kernel
theorem d21_35 : decode cD6 35 = .ok (.getfield 79, 3) := by decide +kernel
theorem d21_38 : decode cD6 38 = .ok (.iload_n 2, 1) := by decide +kernel
theorem d21_39 : decode cD6 39 = .ok (.iadd, 1) := by decide +kernel
theorem d21_40 : decode cD6 40 = .ok (.putfield 79, 3) := by decide +kernel
theorem d21_43 : decode cD6 43 = .ok (.aload_n 0, 1) := by decide +kernel
theorem d21_44 : decode cD6 44 = .ok (.areturn, 1) := by decide +kernel
def Qaps1 (Z : State) (o0 o1 vb : Addr) (kb : ClassId) (tt : Addr) (kt : ClassId) (cs y0 : Int32) (h0 : Heap) (n0 : Nat) : QT := fun v h L => (v = some (.ref o0)) ∧ (Fr n0 L) ∧ (Keep h0 h [o0, vb]) ∧ (eBQ Z h o0) ∧ (fDQ Z h o0 (.ref vb)) ∧ (fCQ Z h o0 (.int 0)) ∧ (fEQ Z h o0 (.int 8)) ∧ (Arv Z h vb kb .byte 8 [.int 112, .int 48, .int 48, .int 48, .int 48, .int 48, .int 48, .int y0] (.int 0)) ∧ (eCQ Z h vb)
theorem rmaps1 (l : Launch) (Z : State) (a0 : Array Value) (hw : TW a0 Z) (ws : List Jvm.Cond) (o0 o1 vb : Addr) (kb : ClassId) (tt : Addr) (kt : ClassId) (cs y0 : Int32) (h0 : Heap) (n0 : Nat) (Z0 : n0 ≤ h0.size) (wh : eBQ Z h0 o0) (wd : fDQ Z h0 o0 (.ref vb)) (wb : fCQ Z h0 o0 (.int 0)) (we : fEQ Z h0 o0 (.int 7)) (wo : eCQ Z h0 vb) (wm : Arv Z h0 vb kb .byte 8 [.int 112, .int 48, .int 48, .int 48, .int 48, .int 48, .int 48, .int 0] (.int 0)) (wy : n0 ≤ o0) (ww : n0 ≤ vb) (wq : o0 ≠ vb) (wt : eAQ Z h0 o1) (wk : fBQ Z h0 o1 (.ref tt)) (wj : fAQ Z h0 o1 (.int 0)) (wH : eCQ Z h0 tt) (wE : Arv Z h0 tt kt .byte 1 [.int y0] (.int 0)) (wF : o1 ≠ tt) (wA : vb ≠ tt) (wG : o0 ≠ tt) (wD : o0 ≠ o1) (wI : vb ≠ o1) (wa : sHQ Z h0 (.int cs)) (hcs : ¬ cs = (0 : Int32)) :
  MF l mN3 jdk_68_method_22_code 3 (some (.object "java/lang/AbstractStringBuilder")) ws (rmm 3 0 0 53) #[.ref o0, .ref o1] Z h0 (Qaps1 Z o0 o1 vb kb tt kt cs y0 h0 n0) := by
 refine MF.of (plainFor_of_name pn_3) ?_
 intro p e s m below meth c s₁ QQ hy hml hown hZ X0 e0 hrt hlk hnm hQQ
 have hx := hy.1
 have hby := hy.2
 have N0 := Fr.nil n0
 refine Ends.i #[rv o0, rv o1, uu] (oA X0 hy d21_0 1 rfl (oxn X0 hy d21_1 9 (oA X0 hy d21_9 10 rfl ?_)))
 refine cV X0 hy hml hown hZ hw d21_10 13 0 127 108 110 109 111 44 rfl rfl rfl rfl rfl rfl (rmlen l Z a0 hw [] o1 tt kt (1 : Int32) [.int y0] cs h0 n0 Z0 wt wk wE wa hcs wj) e0 pd_10 wt rfl rfl fun _ T130 Lc130 X130 hQ130 => ?_
 obtain ⟨rfl, Nq130, hh130⟩ := hQ130
 have N130 := Fr.app N0 Nq130
 refine Ends.v (oxp X130 hy d21_13 14 #[rv o0, rv o1, iv 1] rfl (oA X130 hy d21_14 15 rfl (oA X130 hy d21_15 16 rfl (gF X130 hy hown hZ hw hh130 we d21_16 19 91 rfl fun T131 X131 e131 => oC X131 hy d21_19 20 rfl (oK X131 hy d21_20 21 ?_)))))
 show Ends p e below QQ (T131.setTop (mkF m 21 #[rv o0, rv o1, iv 1] [.int 8, .ref o0]))
 refine cP X131 hy hml hown hZ hw d21_21 24 0 93 94 96 95 97 40 rfl rfl rfl rfl rfl rfl rfl (rmens8_8 l Z a0 hw [] o0 vb kb [.int 112, .int 48, .int 48, .int 48, .int 48, .int 48, .int 48, .int 0] h0 n0 Z0 wd wb wm) e131 pd_5 wh rfl rfl fun _ T132 Lc132 X132 hQ132 => ?_
 obtain ⟨rfl, Nq132, hh132⟩ := hQ132
 have N132 := Fr.app N130 Nq132
 refine Ends.u (oA X132 hy d21_24 25 rfl (oA X132 hy d21_25 26 rfl (gF X132 hy hown hZ hw hh132 we d21_26 29 91 rfl fun T133 X133 e133 => oA X133 hy d21_29 30 rfl ?_)))
 refine cP X133 hy hml hown hZ hw d21_30 33 0 128 129 96 130 132 40 rfl rfl rfl rfl rfl rfl rfl (rmps1 l Z a0 hw [] o0 o1 vb kb tt kt cs y0 h0 n0 Z0 wh wd wb we wo wm wy ww wq wt wk wj wH wE wF wA wI wa hcs) e133 pd_11 wh rfl rfl fun _ T134 Lc134 X134 hQ134 => ?_
 obtain ⟨rfl, Nq134, Kq134, wm⟩ := hQ134
 have N134 := Fr.app N132 Nq134
 have wh := wh.keep Kq134
 have wd := wd.keep Kq134 (ninS wq nin0)
 have wb := wb.keep Kq134 (ninS wq nin0)
 have we := we.keep Kq134 (ninS wq nin0)
 have wo := wo.keep Kq134
 have K134 := (Keep.refl h0 [o0, vb]).trans Kq134 (allS (Or.inl mm1) all0)
 refine Ends.u (oA X134 hy d21_33 34 rfl (oxd X134 hy d21_34 35 rfl (gF X134 hy hown hZ hw rfl we d21_35 38 91 rfl fun T135 X135 e135 => oC X135 hy d21_38 39 rfl (oK X135 hy d21_39 40 ?_))))
 show Ends p e below QQ (T135.setTop (mkF m 40 #[rv o0, rv o1, iv 1] [.int 8, .ref o0]))
 obtain ⟨T136, h136, X136, e136, W136, st136⟩ := putF X135 hx hZ hown (host := "") (Or.inl (tb hw 91 rfl)) Via.refl e135 we wh (Or.inl (tb hw 92 rfl)) (tb hw 31 rfl) (ty := .int) (by decide) rfl rfl (g := (mkF m 40 #[rv o0, rv o1, iv 1] [.int 8, .ref o0])) rfl rfl (hb hby d21_40)
 have wh := wh.wr W136
 have wd := wd.other W136 (Or.inr (slot_ne (Or.inl (tb hw 47 rfl)) (Or.inl (tb hw 92 rfl)) (by decide) (t := (.array .byte)) (t' := .int) (by decide) (by decide)))
 have wb := wb.other W136 (Or.inr (slot_ne (Or.inl (tb hw 49 rfl)) (Or.inl (tb hw 92 rfl)) (by decide) (t := .byte) (t' := .int) (by decide) (by decide)))
 have wo := wo.wr W136
 have wm := wm.other W136 (Ne.symm wq)
 have we : fEQ Z h136 o0 (.int 8) := we.same W136
 have K136 := K134.wr W136 (Or.inl mm0)
 have N136 := Fr.snoc X136 N134 wy
 refine Ends.j 43 [] st136 ?_
 refine oA X136 hy d21_43 44 rfl ?_
 exact fA X136 hy hrt hlk hQQ d21_44 rfl rfl e136 (by decide) ⟨rfl, N136, K136, wh, wd, wb, we, wm, wo⟩
theorem d20_0 : decode cD33 0 = .ok (.aload_n 0, 1) := by decide +kernel
theorem d20_1 : decode cD33 1 = .ok (.aload_n 1, 1) := by decide +kernel
theorem d20_2 : decode cD33 2 = .ok (.invokespecial 29, 3) := by decide +kernel
theorem d20_5 : decode cD33 5 = .ok (.pop, 1) := by decide +kernel
theorem d20_6 : decode cD33 6 = .ok (.aload_n 0, 1) := by decide +kernel
theorem d20_7 : decode cD33 7 = .ok (.areturn, 1) := by decide +kernel
def Qsps1 (Z : State) (o0 o1 vb : Addr) (kb : ClassId) (tt : Addr) (kt : ClassId) (cs y0 : Int32) (h0 : Heap) (n0 : Nat) : QT := fun v h L => (v = some (.ref o0)) ∧ (Fr n0 L) ∧ (Keep h0 h [o0, vb]) ∧ (eBQ Z h o0) ∧ (fDQ Z h o0 (.ref vb)) ∧ (fCQ Z h o0 (.int 0)) ∧ (fEQ Z h o0 (.int 8)) ∧ (Arv Z h vb kb .byte 8 [.int 112, .int 48, .int 48, .int 48, .int 48, .int 48, .int 48, .int y0] (.int 0)) ∧ (eCQ Z h vb)
theorem rmsps1 (l : Launch) (Z : State) (a0 : Array Value) (hw : TW a0 Z) (ws : List Jvm.Cond) (o0 o1 vb : Addr) (kb : ClassId) (tt : Addr) (kt : ClassId) (cs y0 : Int32) (h0 : Heap) (n0 : Nat) (Z0 : n0 ≤ h0.size) (wh : eBQ Z h0 o0) (wd : fDQ Z h0 o0 (.ref vb)) (wb : fCQ Z h0 o0 (.int 0)) (we : fEQ Z h0 o0 (.int 7)) (wo : eCQ Z h0 vb) (wm : Arv Z h0 vb kb .byte 8 [.int 112, .int 48, .int 48, .int 48, .int 48, .int 48, .int 48, .int 0] (.int 0)) (wy : n0 ≤ o0) (ww : n0 ≤ vb) (wq : o0 ≠ vb) (wt : eAQ Z h0 o1) (wk : fBQ Z h0 o1 (.ref tt)) (wj : fAQ Z h0 o1 (.int 0)) (wH : eCQ Z h0 tt) (wE : Arv Z h0 tt kt .byte 1 [.int y0] (.int 0)) (wF : o1 ≠ tt) (wA : vb ≠ tt) (wG : o0 ≠ tt) (wD : o0 ≠ o1) (wI : vb ≠ o1) (wa : sHQ Z h0 (.int cs)) (hcs : ¬ cs = (0 : Int32)) :
  MF l mN4 jdk_67_method_7_code 2 (some (.object "java/lang/StringBuilder")) ws (rmm 4 0 0 67) #[.ref o0, .ref o1] Z h0 (Qsps1 Z o0 o1 vb kb tt kt cs y0 h0 n0) := by
 refine MF.of (plainFor_of_name pn_4) ?_
 intro p e s m below meth c s₁ QQ hy hml hown hZ X0 e0 hrt hlk hnm hQQ
 have N0 := Fr.nil n0
 refine Ends.i #[rv o0, rv o1] (oA X0 hy d20_0 1 rfl (oA X0 hy d20_1 2 rfl ?_))
 refine cU X0 hy hml hown hZ hw d20_2 5 0 123 124 96 88 126 40 rfl rfl rfl rfl rfl rfl rfl (rmaps1 l Z a0 hw [] o0 o1 vb kb tt kt cs y0 h0 n0 Z0 wh wd wb we wo wm wy ww wq wt wk wj wH wE wF wA wG wD wI wa hcs) e0 pd_12 wh rfl rfl fun _ T137 Lc137 X137 hQ137 => ?_
 obtain ⟨rfl, Nq137, Kq137, wh, wd, wb, we, wm, wo⟩ := hQ137
 have N137 := Fr.app N0 Nq137
 have K137 := (Keep.refl h0 [o0, vb]).trans Kq137 (allS (Or.inl mm0) (allS (Or.inl mm1) all0))
 refine Ends.v (oxe X137 hy d20_5 6 rfl (oA X137 hy d20_6 7 rfl ?_))
 exact fA X137 hy hrt hlk hQQ d20_7 rfl rfl rfl (by decide) ⟨rfl, N137, K137, wh, wd, wb, we, wm, wo⟩
def Qgb2 (Z : State) (o0 o1 : Addr) (kb : ClassId) (tt : Addr) (kt : ClassId) (cs y0 y1 : Int32) (h0 : Heap) (n0 : Nat) : QT := fun v h L => (v = none) ∧ (Fr n0 L) ∧ (Keep h0 h [o1]) ∧ (Arv Z h o1 kb .byte 8 [.int 112, .int 48, .int 48, .int 48, .int 48, .int 48, .int y0, .int y1] (.int 0))
theorem rmgb2 (l : Launch) (Z : State) (a0 : Array Value) (hw : TW a0 Z) (ws : List Jvm.Cond) (o0 o1 : Addr) (kb : ClassId) (tt : Addr) (kt : ClassId) (cs y0 y1 : Int32) (h0 : Heap) (n0 : Nat) (Z0 : n0 ≤ h0.size) (wh : eAQ Z h0 o0) (wd : fBQ Z h0 o0 (.ref tt)) (wb : fAQ Z h0 o0 (.int 0)) (wH : eCQ Z h0 tt) (wE : Arv Z h0 tt kt .byte 2 [.int y0, .int y1] (.int 0)) (wG : o0 ≠ tt) (vD : Arv Z h0 o1 kb .byte 8 [.int 112, .int 48, .int 48, .int 48, .int 48, .int 48, .int 0, .int 0] (.int 0)) (wK : n0 ≤ o1) (wF : o1 ≠ tt) (kM : o1 ≠ o0) (wa : sHQ Z h0 (.int cs)) (hcs : ¬ cs = (0 : Int32)) :
  MF l mN1 jdk_42_method_147_code 4 none ws (rmm 1 0 0 24) #[.ref o0, .ref o1, .int 6, .int 0] Z h0 (Qgb2 Z o0 o1 kb tt kt cs y0 y1 h0 n0) := by
 refine MF.of (plainFor_of_name pn_0) ?_
 intro p e s m below meth c s₁ QQ hy hml hown hZ X0 e0 hrt hlk hnm hQQ
 have hx := hy.1
 have hby := hy.2
 have N0 := Fr.nil n0
 refine Ends.i #[rv o0, rv o1, iv 6, iv 0] (oA X0 hy d24_0 1 rfl ?_)
 refine cV X0 hy hml hown hZ hw d24_1 4 0 112 113 115 114 116 44 rfl rfl rfl rfl rfl rfl (rmcod l Z a0 hw [] o0 cs h0 n0 Z0 wa hcs wb) e0 pd_0 wh rfl rfl fun _ T138 Lc138 X138 hQ138 => ?_
 obtain ⟨rfl, Nq138, hh138⟩ := hQ138
 have N138 := Fr.app N0 Nq138
 refine Ends.v (oC X138 hy d24_4 5 rfl (oxi X138 hy d24_5 8 (XT.ii_ne_f (by decide)) (oA X138 hy d24_8 9 rfl (gF X138 hy hown hZ hw hh138 wd d24_9 12 77 rfl fun T139 X139 e139 => oG X139 hy d24_12 13 0 rfl (oA X139 hy d24_13 14 rfl (oC X139 hy d24_14 15 rfl (oC X139 hy d24_15 16 rfl (oO X139 hy d24_16 17 ?_))))))))
 show Ends p e below QQ (T139.setTop (mkF m 17 #[rv o0, rv o1, iv 6, iv 0] [.int 6, .ref o1, .int 0, .ref tt]))
 refine oA X139 hy d24_17 18 rfl (gF X139 hy hown hZ hw e139 wd d24_18 21 77 rfl fun T140 X140 e140 => aLn X140 hy hZ e140 wE d24_21 22 ?_)
 obtain ⟨T142, h142, L142, X142, e142, N142, Kq142, AA142, st142⟩ := cpA X140 hx hZ hown (tb hw 144 rfl) (tb hw 147 rfl) (tb hw 145 rfl) (tb hw 146 rfl) e140 wE vD (Or.inl ⟨rfl, rfl⟩) (by decide) (by decide) (by decide) (by decide) (by decide) (us := [.int y0, .int y1]) (by rfl) (by decide) N138 wK (g := (mkF m 22 #[rv o0, rv o1, iv 6, iv 0] [.int 2, .int 6, .ref o1, .int 0, .ref tt])) rfl (by rw [hml]; rfl) rfl (hb hby d24_22) (by decide) (W := 0) (by show 2 * 0 + _ ≤ _; exact Nat.le_of_eq rfl) (by decide)
 have vD : Arv Z h142 o1 kb .byte 8 [.int 112, .int 48, .int 48, .int 48, .int 48, .int 48, .int y0, .int y1] (.int 0) := AA142
 have K142 := (Keep.refl h0 [o1]).trans Kq142 (allS (Or.inl mm0) all0)
 refine Ends.j 25 [] st142 ?_
 refine oxm X142 hy d24_25 43 ?_
 exact fV X142 hy hrt hlk hQQ d24_43 e142 (by decide) ⟨rfl, N142, K142, vD⟩
def Qps2 (Z : State) (o0 o2 vb : Addr) (kb : ClassId) (tt : Addr) (kt : ClassId) (cs y0 y1 : Int32) (h0 : Heap) (n0 : Nat) : QT := fun v h L => (v = none) ∧ (Fr n0 L) ∧ (Keep h0 h [vb]) ∧ (Arv Z h vb kb .byte 8 [.int 112, .int 48, .int 48, .int 48, .int 48, .int 48, .int y0, .int y1] (.int 0))
theorem rmps2 (l : Launch) (Z : State) (a0 : Array Value) (hw : TW a0 Z) (ws : List Jvm.Cond) (o0 o2 vb : Addr) (kb : ClassId) (tt : Addr) (kt : ClassId) (cs y0 y1 : Int32) (h0 : Heap) (n0 : Nat) (Z0 : n0 ≤ h0.size) (wh : eBQ Z h0 o0) (wd : fDQ Z h0 o0 (.ref vb)) (wb : fCQ Z h0 o0 (.int 0)) (we : fEQ Z h0 o0 (.int 6)) (wo : eCQ Z h0 vb) (wm : Arv Z h0 vb kb .byte 8 [.int 112, .int 48, .int 48, .int 48, .int 48, .int 48, .int 0, .int 0] (.int 0)) (wy : n0 ≤ o0) (ww : n0 ≤ vb) (wq : o0 ≠ vb) (vC : eAQ Z h0 o2) (wU : fBQ Z h0 o2 (.ref tt)) (wJ : fAQ Z h0 o2 (.int 0)) (wH : eCQ Z h0 tt) (wE : Arv Z h0 tt kt .byte 2 [.int y0, .int y1] (.int 0)) (vz : o2 ≠ tt) (wA : vb ≠ tt) (vy : vb ≠ o2) (wa : sHQ Z h0 (.int cs)) (hcs : ¬ cs = (0 : Int32)) :
  MF l mN2 jdk_68_method_73_code 3 none ws (rmm 2 0 0 39) #[.ref o0, .int 6, .ref o2] Z h0 (Qps2 Z o0 o2 vb kb tt kt cs y0 y1 h0 n0) := by
 refine MF.of (plainFor_of_name pn_3) ?_
 intro p e s m below meth c s₁ QQ hy hml hown hZ X0 e0 hrt hlk hnm hQQ
 have N0 := Fr.nil n0
 refine Ends.i #[rv o0, iv 6, rv o2] (oA X0 hy d22_0 1 rfl (oA X0 hy d22_1 2 rfl ?_))
 refine cP X0 hy hml hown hZ hw d22_2 5 0 133 134 96 135 137 40 rfl rfl rfl rfl rfl rfl rfl (rminf l Z a0 hw [] o0 o2 cs h0 n0 Z0 wa hcs wb vC wJ) e0 pd_8 wh rfl rfl fun _ T143 Lc143 X143 hQ143 => ?_
 obtain ⟨rfl, Nq143, hh143⟩ := hQ143
 have N143 := Fr.app N0 Nq143
 refine Ends.u (oA X143 hy d22_5 6 rfl (oA X143 hy d22_6 7 rfl (gF X143 hy hown hZ hw hh143 wd d22_7 10 46 rfl fun T144 X144 e144 => oC X144 hy d22_10 11 rfl (oA X144 hy d22_11 12 rfl (gF X144 hy hown hZ hw e144 wb d22_12 15 48 rfl fun T145 X145 e145 => ?_)))))
 refine cV X145 hy hml hown hZ hw d22_15 18 0 139 140 142 141 143 44 rfl rfl rfl rfl rfl rfl (rmgb2 l Z a0 hw [] o2 vb kb tt kt cs y0 y1 h0 n0 Z0 vC wU wJ wH wE vz wm ww wA vy wa hcs) e145 pd_9 vC rfl rfl fun _ T146 Lc146 X146 hQ146 => ?_
 obtain ⟨rfl, Nq146, Kq146, wm⟩ := hQ146
 have N146 := Fr.app N143 Nq146
 have K146 := (Keep.refl h0 [vb]).trans Kq146 (allS (Or.inl mm0) all0)
 refine Ends.u ?_
 exact fV X146 hy hrt hlk hQQ d22_18 rfl (by decide) ⟨rfl, N146, K146, wm⟩
def Qaps2 (Z : State) (o0 o1 vb : Addr) (kb : ClassId) (tt : Addr) (kt : ClassId) (cs y0 y1 : Int32) (h0 : Heap) (n0 : Nat) : QT := fun v h L => (v = some (.ref o0)) ∧ (Fr n0 L) ∧ (Keep h0 h [o0, vb]) ∧ (eBQ Z h o0) ∧ (fDQ Z h o0 (.ref vb)) ∧ (fCQ Z h o0 (.int 0)) ∧ (fEQ Z h o0 (.int 8)) ∧ (Arv Z h vb kb .byte 8 [.int 112, .int 48, .int 48, .int 48, .int 48, .int 48, .int y0, .int y1] (.int 0)) ∧ (eCQ Z h vb)
theorem rmaps2 (l : Launch) (Z : State) (a0 : Array Value) (hw : TW a0 Z) (ws : List Jvm.Cond) (o0 o1 vb : Addr) (kb : ClassId) (tt : Addr) (kt : ClassId) (cs y0 y1 : Int32) (h0 : Heap) (n0 : Nat) (Z0 : n0 ≤ h0.size) (wh : eBQ Z h0 o0) (wd : fDQ Z h0 o0 (.ref vb)) (wb : fCQ Z h0 o0 (.int 0)) (we : fEQ Z h0 o0 (.int 6)) (wo : eCQ Z h0 vb) (wm : Arv Z h0 vb kb .byte 8 [.int 112, .int 48, .int 48, .int 48, .int 48, .int 48, .int 0, .int 0] (.int 0)) (wy : n0 ≤ o0) (ww : n0 ≤ vb) (wq : o0 ≠ vb) (wt : eAQ Z h0 o1) (wk : fBQ Z h0 o1 (.ref tt)) (wj : fAQ Z h0 o1 (.int 0)) (wH : eCQ Z h0 tt) (wE : Arv Z h0 tt kt .byte 2 [.int y0, .int y1] (.int 0)) (wF : o1 ≠ tt) (wA : vb ≠ tt) (wG : o0 ≠ tt) (wD : o0 ≠ o1) (wI : vb ≠ o1) (wa : sHQ Z h0 (.int cs)) (hcs : ¬ cs = (0 : Int32)) :
  MF l mN3 jdk_68_method_22_code 3 (some (.object "java/lang/AbstractStringBuilder")) ws (rmm 3 0 0 53) #[.ref o0, .ref o1] Z h0 (Qaps2 Z o0 o1 vb kb tt kt cs y0 y1 h0 n0) := by
 refine MF.of (plainFor_of_name pn_3) ?_
 intro p e s m below meth c s₁ QQ hy hml hown hZ X0 e0 hrt hlk hnm hQQ
 have hx := hy.1
 have hby := hy.2
 have N0 := Fr.nil n0
 refine Ends.i #[rv o0, rv o1, uu] (oA X0 hy d21_0 1 rfl (oxn X0 hy d21_1 9 (oA X0 hy d21_9 10 rfl ?_)))
 refine cV X0 hy hml hown hZ hw d21_10 13 0 127 108 110 109 111 44 rfl rfl rfl rfl rfl rfl (rmlen l Z a0 hw [] o1 tt kt (2 : Int32) [.int y0, .int y1] cs h0 n0 Z0 wt wk wE wa hcs wj) e0 pd_10 wt rfl rfl fun _ T147 Lc147 X147 hQ147 => ?_
 obtain ⟨rfl, Nq147, hh147⟩ := hQ147
 have N147 := Fr.app N0 Nq147
 refine Ends.v (oxp X147 hy d21_13 14 #[rv o0, rv o1, iv 2] rfl (oA X147 hy d21_14 15 rfl (oA X147 hy d21_15 16 rfl (gF X147 hy hown hZ hw hh147 we d21_16 19 91 rfl fun T148 X148 e148 => oC X148 hy d21_19 20 rfl (oK X148 hy d21_20 21 ?_)))))
 show Ends p e below QQ (T148.setTop (mkF m 21 #[rv o0, rv o1, iv 2] [.int 8, .ref o0]))
 refine cP X148 hy hml hown hZ hw d21_21 24 0 93 94 96 95 97 40 rfl rfl rfl rfl rfl rfl rfl (rmens8_8 l Z a0 hw [] o0 vb kb [.int 112, .int 48, .int 48, .int 48, .int 48, .int 48, .int 0, .int 0] h0 n0 Z0 wd wb wm) e148 pd_5 wh rfl rfl fun _ T149 Lc149 X149 hQ149 => ?_
 obtain ⟨rfl, Nq149, hh149⟩ := hQ149
 have N149 := Fr.app N147 Nq149
 refine Ends.u (oA X149 hy d21_24 25 rfl (oA X149 hy d21_25 26 rfl (gF X149 hy hown hZ hw hh149 we d21_26 29 91 rfl fun T150 X150 e150 => oA X150 hy d21_29 30 rfl ?_)))
 refine cP X150 hy hml hown hZ hw d21_30 33 0 128 129 96 130 132 40 rfl rfl rfl rfl rfl rfl rfl (rmps2 l Z a0 hw [] o0 o1 vb kb tt kt cs y0 y1 h0 n0 Z0 wh wd wb we wo wm wy ww wq wt wk wj wH wE wF wA wI wa hcs) e150 pd_11 wh rfl rfl fun _ T151 Lc151 X151 hQ151 => ?_
 obtain ⟨rfl, Nq151, Kq151, wm⟩ := hQ151
 have N151 := Fr.app N149 Nq151
 have wh := wh.keep Kq151
 have wd := wd.keep Kq151 (ninS wq nin0)
 have wb := wb.keep Kq151 (ninS wq nin0)
 have we := we.keep Kq151 (ninS wq nin0)
 have wo := wo.keep Kq151
 have K151 := (Keep.refl h0 [o0, vb]).trans Kq151 (allS (Or.inl mm1) all0)
 refine Ends.u (oA X151 hy d21_33 34 rfl (oxd X151 hy d21_34 35 rfl (gF X151 hy hown hZ hw rfl we d21_35 38 91 rfl fun T152 X152 e152 => oC X152 hy d21_38 39 rfl (oK X152 hy d21_39 40 ?_))))
 show Ends p e below QQ (T152.setTop (mkF m 40 #[rv o0, rv o1, iv 2] [.int 8, .ref o0]))
 obtain ⟨T153, h153, X153, e153, W153, st153⟩ := putF X152 hx hZ hown (host := "") (Or.inl (tb hw 91 rfl)) Via.refl e152 we wh (Or.inl (tb hw 92 rfl)) (tb hw 31 rfl) (ty := .int) (by decide) rfl rfl (g := (mkF m 40 #[rv o0, rv o1, iv 2] [.int 8, .ref o0])) rfl rfl (hb hby d21_40)
 have wh := wh.wr W153
 have wd := wd.other W153 (Or.inr (slot_ne (Or.inl (tb hw 47 rfl)) (Or.inl (tb hw 92 rfl)) (by decide) (t := (.array .byte)) (t' := .int) (by decide) (by decide)))
 have wb := wb.other W153 (Or.inr (slot_ne (Or.inl (tb hw 49 rfl)) (Or.inl (tb hw 92 rfl)) (by decide) (t := .byte) (t' := .int) (by decide) (by decide)))
 have wo := wo.wr W153
 have wm := wm.other W153 (Ne.symm wq)
 have we : fEQ Z h153 o0 (.int 8) := we.same W153
 have K153 := K151.wr W153 (Or.inl mm0)
 have N153 := Fr.snoc X153 N151 wy
 refine Ends.j 43 [] st153 ?_
 refine oA X153 hy d21_43 44 rfl ?_
 exact fA X153 hy hrt hlk hQQ d21_44 rfl rfl e153 (by decide) ⟨rfl, N153, K153, wh, wd, wb, we, wm, wo⟩
def Qsps2 (Z : State) (o0 o1 vb : Addr) (kb : ClassId) (tt : Addr) (kt : ClassId) (cs y0 y1 : Int32) (h0 : Heap) (n0 : Nat) : QT := fun v h L => (v = some (.ref o0)) ∧ (Fr n0 L) ∧ (Keep h0 h [o0, vb]) ∧ (eBQ Z h o0) ∧ (fDQ Z h o0 (.ref vb)) ∧ (fCQ Z h o0 (.int 0)) ∧ (fEQ Z h o0 (.int 8)) ∧ (Arv Z h vb kb .byte 8 [.int 112, .int 48, .int 48, .int 48, .int 48, .int 48, .int y0, .int y1] (.int 0)) ∧ (eCQ Z h vb)
theorem rmsps2 (l : Launch) (Z : State) (a0 : Array Value) (hw : TW a0 Z) (ws : List Jvm.Cond) (o0 o1 vb : Addr) (kb : ClassId) (tt : Addr) (kt : ClassId) (cs y0 y1 : Int32) (h0 : Heap) (n0 : Nat) (Z0 : n0 ≤ h0.size) (wh : eBQ Z h0 o0) (wd : fDQ Z h0 o0 (.ref vb)) (wb : fCQ Z h0 o0 (.int 0)) (we : fEQ Z h0 o0 (.int 6)) (wo : eCQ Z h0 vb) (wm : Arv Z h0 vb kb .byte 8 [.int 112, .int 48, .int 48, .int 48, .int 48, .int 48, .int 0, .int 0] (.int 0)) (wy : n0 ≤ o0) (ww : n0 ≤ vb) (wq : o0 ≠ vb) (wt : eAQ Z h0 o1) (wk : fBQ Z h0 o1 (.ref tt)) (wj : fAQ Z h0 o1 (.int 0)) (wH : eCQ Z h0 tt) (wE : Arv Z h0 tt kt .byte 2 [.int y0, .int y1] (.int 0)) (wF : o1 ≠ tt) (wA : vb ≠ tt) (wG : o0 ≠ tt) (wD : o0 ≠ o1) (wI : vb ≠ o1) (wa : sHQ Z h0 (.int cs)) (hcs : ¬ cs = (0 : Int32)) :
  MF l mN4 jdk_67_method_7_code 2 (some (.object "java/lang/StringBuilder")) ws (rmm 4 0 0 67) #[.ref o0, .ref o1] Z h0 (Qsps2 Z o0 o1 vb kb tt kt cs y0 y1 h0 n0) := by
 refine MF.of (plainFor_of_name pn_4) ?_
 intro p e s m below meth c s₁ QQ hy hml hown hZ X0 e0 hrt hlk hnm hQQ
 have N0 := Fr.nil n0
 refine Ends.i #[rv o0, rv o1] (oA X0 hy d20_0 1 rfl (oA X0 hy d20_1 2 rfl ?_))
 refine cU X0 hy hml hown hZ hw d20_2 5 0 123 124 96 88 126 40 rfl rfl rfl rfl rfl rfl rfl (rmaps2 l Z a0 hw [] o0 o1 vb kb tt kt cs y0 y1 h0 n0 Z0 wh wd wb we wo wm wy ww wq wt wk wj wH wE wF wA wG wD wI wa hcs) e0 pd_12 wh rfl rfl fun _ T154 Lc154 X154 hQ154 => ?_
 obtain ⟨rfl, Nq154, Kq154, wh, wd, wb, we, wm, wo⟩ := hQ154
 have N154 := Fr.app N0 Nq154
 have K154 := (Keep.refl h0 [o0, vb]).trans Kq154 (allS (Or.inl mm0) (allS (Or.inl mm1) all0))
 refine Ends.v (oxe X154 hy d20_5 6 rfl (oA X154 hy d20_6 7 rfl ?_))
 exact fA X154 hy hrt hlk hQQ d20_7 rfl rfl rfl (by decide) ⟨rfl, N154, K154, wh, wd, wb, we, wm, wo⟩
def Qgb3 (Z : State) (o0 o1 : Addr) (kb : ClassId) (tt : Addr) (kt : ClassId) (cs y0 y1 y2 : Int32) (h0 : Heap) (n0 : Nat) : QT := fun v h L => (v = none) ∧ (Fr n0 L) ∧ (Keep h0 h [o1]) ∧ (Arv Z h o1 kb .byte 8 [.int 112, .int 48, .int 48, .int 48, .int 48, .int y0, .int y1, .int y2] (.int 0))
theorem rmgb3 (l : Launch) (Z : State) (a0 : Array Value) (hw : TW a0 Z) (ws : List Jvm.Cond) (o0 o1 : Addr) (kb : ClassId) (tt : Addr) (kt : ClassId) (cs y0 y1 y2 : Int32) (h0 : Heap) (n0 : Nat) (Z0 : n0 ≤ h0.size) (wh : eAQ Z h0 o0) (wd : fBQ Z h0 o0 (.ref tt)) (wb : fAQ Z h0 o0 (.int 0)) (wH : eCQ Z h0 tt) (wE : Arv Z h0 tt kt .byte 3 [.int y0, .int y1, .int y2] (.int 0)) (wG : o0 ≠ tt) (vD : Arv Z h0 o1 kb .byte 8 [.int 112, .int 48, .int 48, .int 48, .int 48, .int 0, .int 0, .int 0] (.int 0)) (wK : n0 ≤ o1) (wF : o1 ≠ tt) (kM : o1 ≠ o0) (wa : sHQ Z h0 (.int cs)) (hcs : ¬ cs = (0 : Int32)) :
  MF l mN1 jdk_42_method_147_code 4 none ws (rmm 1 0 0 24) #[.ref o0, .ref o1, .int 5, .int 0] Z h0 (Qgb3 Z o0 o1 kb tt kt cs y0 y1 y2 h0 n0) := by
 refine MF.of (plainFor_of_name pn_0) ?_
 intro p e s m below meth c s₁ QQ hy hml hown hZ X0 e0 hrt hlk hnm hQQ
 have hx := hy.1
 have hby := hy.2
 have N0 := Fr.nil n0
 refine Ends.i #[rv o0, rv o1, iv 5, iv 0] (oA X0 hy d24_0 1 rfl ?_)
 refine cV X0 hy hml hown hZ hw d24_1 4 0 112 113 115 114 116 44 rfl rfl rfl rfl rfl rfl (rmcod l Z a0 hw [] o0 cs h0 n0 Z0 wa hcs wb) e0 pd_0 wh rfl rfl fun _ T155 Lc155 X155 hQ155 => ?_
 obtain ⟨rfl, Nq155, hh155⟩ := hQ155
 have N155 := Fr.app N0 Nq155
 refine Ends.v (oC X155 hy d24_4 5 rfl (oxi X155 hy d24_5 8 (XT.ii_ne_f (by decide)) (oA X155 hy d24_8 9 rfl (gF X155 hy hown hZ hw hh155 wd d24_9 12 77 rfl fun T156 X156 e156 => oG X156 hy d24_12 13 0 rfl (oA X156 hy d24_13 14 rfl (oC X156 hy d24_14 15 rfl (oC X156 hy d24_15 16 rfl (oO X156 hy d24_16 17 ?_))))))))
 show Ends p e below QQ (T156.setTop (mkF m 17 #[rv o0, rv o1, iv 5, iv 0] [.int 5, .ref o1, .int 0, .ref tt]))
 refine oA X156 hy d24_17 18 rfl (gF X156 hy hown hZ hw e156 wd d24_18 21 77 rfl fun T157 X157 e157 => aLn X157 hy hZ e157 wE d24_21 22 ?_)
 obtain ⟨T159, h159, L159, X159, e159, N159, Kq159, AA159, st159⟩ := cpA X157 hx hZ hown (tb hw 144 rfl) (tb hw 147 rfl) (tb hw 145 rfl) (tb hw 146 rfl) e157 wE vD (Or.inl ⟨rfl, rfl⟩) (by decide) (by decide) (by decide) (by decide) (by decide) (us := [.int y0, .int y1, .int y2]) (by rfl) (by decide) N155 wK (g := (mkF m 22 #[rv o0, rv o1, iv 5, iv 0] [.int 3, .int 5, .ref o1, .int 0, .ref tt])) rfl (by rw [hml]; rfl) rfl (hb hby d24_22) (by decide) (W := 0) (by show 2 * 0 + _ ≤ _; exact Nat.le_of_eq rfl) (by decide)
 have vD : Arv Z h159 o1 kb .byte 8 [.int 112, .int 48, .int 48, .int 48, .int 48, .int y0, .int y1, .int y2] (.int 0) := AA159
 have K159 := (Keep.refl h0 [o1]).trans Kq159 (allS (Or.inl mm0) all0)
 refine Ends.j 25 [] st159 ?_
 refine oxm X159 hy d24_25 43 ?_
 exact fV X159 hy hrt hlk hQQ d24_43 e159 (by decide) ⟨rfl, N159, K159, vD⟩
def Qps3 (Z : State) (o0 o2 vb : Addr) (kb : ClassId) (tt : Addr) (kt : ClassId) (cs y0 y1 y2 : Int32) (h0 : Heap) (n0 : Nat) : QT := fun v h L => (v = none) ∧ (Fr n0 L) ∧ (Keep h0 h [vb]) ∧ (Arv Z h vb kb .byte 8 [.int 112, .int 48, .int 48, .int 48, .int 48, .int y0, .int y1, .int y2] (.int 0))
theorem rmps3 (l : Launch) (Z : State) (a0 : Array Value) (hw : TW a0 Z) (ws : List Jvm.Cond) (o0 o2 vb : Addr) (kb : ClassId) (tt : Addr) (kt : ClassId) (cs y0 y1 y2 : Int32) (h0 : Heap) (n0 : Nat) (Z0 : n0 ≤ h0.size) (wh : eBQ Z h0 o0) (wd : fDQ Z h0 o0 (.ref vb)) (wb : fCQ Z h0 o0 (.int 0)) (we : fEQ Z h0 o0 (.int 5)) (wo : eCQ Z h0 vb) (wm : Arv Z h0 vb kb .byte 8 [.int 112, .int 48, .int 48, .int 48, .int 48, .int 0, .int 0, .int 0] (.int 0)) (wy : n0 ≤ o0) (ww : n0 ≤ vb) (wq : o0 ≠ vb) (vC : eAQ Z h0 o2) (wU : fBQ Z h0 o2 (.ref tt)) (wJ : fAQ Z h0 o2 (.int 0)) (wH : eCQ Z h0 tt) (wE : Arv Z h0 tt kt .byte 3 [.int y0, .int y1, .int y2] (.int 0)) (vz : o2 ≠ tt) (wA : vb ≠ tt) (vy : vb ≠ o2) (wa : sHQ Z h0 (.int cs)) (hcs : ¬ cs = (0 : Int32)) :
  MF l mN2 jdk_68_method_73_code 3 none ws (rmm 2 0 0 39) #[.ref o0, .int 5, .ref o2] Z h0 (Qps3 Z o0 o2 vb kb tt kt cs y0 y1 y2 h0 n0) := by
 refine MF.of (plainFor_of_name pn_3) ?_
 intro p e s m below meth c s₁ QQ hy hml hown hZ X0 e0 hrt hlk hnm hQQ
 have N0 := Fr.nil n0
 refine Ends.i #[rv o0, iv 5, rv o2] (oA X0 hy d22_0 1 rfl (oA X0 hy d22_1 2 rfl ?_))
 refine cP X0 hy hml hown hZ hw d22_2 5 0 133 134 96 135 137 40 rfl rfl rfl rfl rfl rfl rfl (rminf l Z a0 hw [] o0 o2 cs h0 n0 Z0 wa hcs wb vC wJ) e0 pd_8 wh rfl rfl fun _ T160 Lc160 X160 hQ160 => ?_
 obtain ⟨rfl, Nq160, hh160⟩ := hQ160
 have N160 := Fr.app N0 Nq160
 refine Ends.u (oA X160 hy d22_5 6 rfl (oA X160 hy d22_6 7 rfl (gF X160 hy hown hZ hw hh160 wd d22_7 10 46 rfl fun T161 X161 e161 => oC X161 hy d22_10 11 rfl (oA X161 hy d22_11 12 rfl (gF X161 hy hown hZ hw e161 wb d22_12 15 48 rfl fun T162 X162 e162 => ?_)))))
 refine cV X162 hy hml hown hZ hw d22_15 18 0 139 140 142 141 143 44 rfl rfl rfl rfl rfl rfl (rmgb3 l Z a0 hw [] o2 vb kb tt kt cs y0 y1 y2 h0 n0 Z0 vC wU wJ wH wE vz wm ww wA vy wa hcs) e162 pd_9 vC rfl rfl fun _ T163 Lc163 X163 hQ163 => ?_
 obtain ⟨rfl, Nq163, Kq163, wm⟩ := hQ163
 have N163 := Fr.app N160 Nq163
 have K163 := (Keep.refl h0 [vb]).trans Kq163 (allS (Or.inl mm0) all0)
 refine Ends.u ?_
 exact fV X163 hy hrt hlk hQQ d22_18 rfl (by decide) ⟨rfl, N163, K163, wm⟩
def Qaps3 (Z : State) (o0 o1 vb : Addr) (kb : ClassId) (tt : Addr) (kt : ClassId) (cs y0 y1 y2 : Int32) (h0 : Heap) (n0 : Nat) : QT := fun v h L => (v = some (.ref o0)) ∧ (Fr n0 L) ∧ (Keep h0 h [o0, vb]) ∧ (eBQ Z h o0) ∧ (fDQ Z h o0 (.ref vb)) ∧ (fCQ Z h o0 (.int 0)) ∧ (fEQ Z h o0 (.int 8)) ∧ (Arv Z h vb kb .byte 8 [.int 112, .int 48, .int 48, .int 48, .int 48, .int y0, .int y1, .int y2] (.int 0)) ∧ (eCQ Z h vb)
theorem rmaps3 (l : Launch) (Z : State) (a0 : Array Value) (hw : TW a0 Z) (ws : List Jvm.Cond) (o0 o1 vb : Addr) (kb : ClassId) (tt : Addr) (kt : ClassId) (cs y0 y1 y2 : Int32) (h0 : Heap) (n0 : Nat) (Z0 : n0 ≤ h0.size) (wh : eBQ Z h0 o0) (wd : fDQ Z h0 o0 (.ref vb)) (wb : fCQ Z h0 o0 (.int 0)) (we : fEQ Z h0 o0 (.int 5)) (wo : eCQ Z h0 vb) (wm : Arv Z h0 vb kb .byte 8 [.int 112, .int 48, .int 48, .int 48, .int 48, .int 0, .int 0, .int 0] (.int 0)) (wy : n0 ≤ o0) (ww : n0 ≤ vb) (wq : o0 ≠ vb) (wt : eAQ Z h0 o1) (wk : fBQ Z h0 o1 (.ref tt)) (wj : fAQ Z h0 o1 (.int 0)) (wH : eCQ Z h0 tt) (wE : Arv Z h0 tt kt .byte 3 [.int y0, .int y1, .int y2] (.int 0)) (wF : o1 ≠ tt) (wA : vb ≠ tt) (wG : o0 ≠ tt) (wD : o0 ≠ o1) (wI : vb ≠ o1) (wa : sHQ Z h0 (.int cs)) (hcs : ¬ cs = (0 : Int32)) :
  MF l mN3 jdk_68_method_22_code 3 (some (.object "java/lang/AbstractStringBuilder")) ws (rmm 3 0 0 53) #[.ref o0, .ref o1] Z h0 (Qaps3 Z o0 o1 vb kb tt kt cs y0 y1 y2 h0 n0) := by
 refine MF.of (plainFor_of_name pn_3) ?_
 intro p e s m below meth c s₁ QQ hy hml hown hZ X0 e0 hrt hlk hnm hQQ
 have hx := hy.1
 have hby := hy.2
 have N0 := Fr.nil n0
 refine Ends.i #[rv o0, rv o1, uu] (oA X0 hy d21_0 1 rfl (oxn X0 hy d21_1 9 (oA X0 hy d21_9 10 rfl ?_)))
 refine cV X0 hy hml hown hZ hw d21_10 13 0 127 108 110 109 111 44 rfl rfl rfl rfl rfl rfl (rmlen l Z a0 hw [] o1 tt kt (3 : Int32) [.int y0, .int y1, .int y2] cs h0 n0 Z0 wt wk wE wa hcs wj) e0 pd_10 wt rfl rfl fun _ T164 Lc164 X164 hQ164 => ?_
 obtain ⟨rfl, Nq164, hh164⟩ := hQ164
 have N164 := Fr.app N0 Nq164
 refine Ends.v (oxp X164 hy d21_13 14 #[rv o0, rv o1, iv 3] rfl (oA X164 hy d21_14 15 rfl (oA X164 hy d21_15 16 rfl (gF X164 hy hown hZ hw hh164 we d21_16 19 91 rfl fun T165 X165 e165 => oC X165 hy d21_19 20 rfl (oK X165 hy d21_20 21 ?_)))))
 show Ends p e below QQ (T165.setTop (mkF m 21 #[rv o0, rv o1, iv 3] [.int 8, .ref o0]))
 refine cP X165 hy hml hown hZ hw d21_21 24 0 93 94 96 95 97 40 rfl rfl rfl rfl rfl rfl rfl (rmens8_8 l Z a0 hw [] o0 vb kb [.int 112, .int 48, .int 48, .int 48, .int 48, .int 0, .int 0, .int 0] h0 n0 Z0 wd wb wm) e165 pd_5 wh rfl rfl fun _ T166 Lc166 X166 hQ166 => ?_
 obtain ⟨rfl, Nq166, hh166⟩ := hQ166
 have N166 := Fr.app N164 Nq166
 refine Ends.u (oA X166 hy d21_24 25 rfl (oA X166 hy d21_25 26 rfl (gF X166 hy hown hZ hw hh166 we d21_26 29 91 rfl fun T167 X167 e167 => oA X167 hy d21_29 30 rfl ?_)))
 refine cP X167 hy hml hown hZ hw d21_30 33 0 128 129 96 130 132 40 rfl rfl rfl rfl rfl rfl rfl (rmps3 l Z a0 hw [] o0 o1 vb kb tt kt cs y0 y1 y2 h0 n0 Z0 wh wd wb we wo wm wy ww wq wt wk wj wH wE wF wA wI wa hcs) e167 pd_11 wh rfl rfl fun _ T168 Lc168 X168 hQ168 => ?_
 obtain ⟨rfl, Nq168, Kq168, wm⟩ := hQ168
 have N168 := Fr.app N166 Nq168
 have wh := wh.keep Kq168
 have wd := wd.keep Kq168 (ninS wq nin0)
 have wb := wb.keep Kq168 (ninS wq nin0)
 have we := we.keep Kq168 (ninS wq nin0)
 have wo := wo.keep Kq168
 have K168 := (Keep.refl h0 [o0, vb]).trans Kq168 (allS (Or.inl mm1) all0)
 refine Ends.u (oA X168 hy d21_33 34 rfl (oxd X168 hy d21_34 35 rfl (gF X168 hy hown hZ hw rfl we d21_35 38 91 rfl fun T169 X169 e169 => oC X169 hy d21_38 39 rfl (oK X169 hy d21_39 40 ?_))))
 show Ends p e below QQ (T169.setTop (mkF m 40 #[rv o0, rv o1, iv 3] [.int 8, .ref o0]))
 obtain ⟨T170, h170, X170, e170, W170, st170⟩ := putF X169 hx hZ hown (host := "") (Or.inl (tb hw 91 rfl)) Via.refl e169 we wh (Or.inl (tb hw 92 rfl)) (tb hw 31 rfl) (ty := .int) (by decide) rfl rfl (g := (mkF m 40 #[rv o0, rv o1, iv 3] [.int 8, .ref o0])) rfl rfl (hb hby d21_40)
 have wh := wh.wr W170
 have wd := wd.other W170 (Or.inr (slot_ne (Or.inl (tb hw 47 rfl)) (Or.inl (tb hw 92 rfl)) (by decide) (t := (.array .byte)) (t' := .int) (by decide) (by decide)))
 have wb := wb.other W170 (Or.inr (slot_ne (Or.inl (tb hw 49 rfl)) (Or.inl (tb hw 92 rfl)) (by decide) (t := .byte) (t' := .int) (by decide) (by decide)))
 have wo := wo.wr W170
 have wm := wm.other W170 (Ne.symm wq)
 have we : fEQ Z h170 o0 (.int 8) := we.same W170
 have K170 := K168.wr W170 (Or.inl mm0)
 have N170 := Fr.snoc X170 N168 wy
 refine Ends.j 43 [] st170 ?_
 refine oA X170 hy d21_43 44 rfl ?_
 exact fA X170 hy hrt hlk hQQ d21_44 rfl rfl e170 (by decide) ⟨rfl, N170, K170, wh, wd, wb, we, wm, wo⟩
def Qsps3 (Z : State) (o0 o1 vb : Addr) (kb : ClassId) (tt : Addr) (kt : ClassId) (cs y0 y1 y2 : Int32) (h0 : Heap) (n0 : Nat) : QT := fun v h L => (v = some (.ref o0)) ∧ (Fr n0 L) ∧ (Keep h0 h [o0, vb]) ∧ (eBQ Z h o0) ∧ (fDQ Z h o0 (.ref vb)) ∧ (fCQ Z h o0 (.int 0)) ∧ (fEQ Z h o0 (.int 8)) ∧ (Arv Z h vb kb .byte 8 [.int 112, .int 48, .int 48, .int 48, .int 48, .int y0, .int y1, .int y2] (.int 0)) ∧ (eCQ Z h vb)
theorem rmsps3 (l : Launch) (Z : State) (a0 : Array Value) (hw : TW a0 Z) (ws : List Jvm.Cond) (o0 o1 vb : Addr) (kb : ClassId) (tt : Addr) (kt : ClassId) (cs y0 y1 y2 : Int32) (h0 : Heap) (n0 : Nat) (Z0 : n0 ≤ h0.size) (wh : eBQ Z h0 o0) (wd : fDQ Z h0 o0 (.ref vb)) (wb : fCQ Z h0 o0 (.int 0)) (we : fEQ Z h0 o0 (.int 5)) (wo : eCQ Z h0 vb) (wm : Arv Z h0 vb kb .byte 8 [.int 112, .int 48, .int 48, .int 48, .int 48, .int 0, .int 0, .int 0] (.int 0)) (wy : n0 ≤ o0) (ww : n0 ≤ vb) (wq : o0 ≠ vb) (wt : eAQ Z h0 o1) (wk : fBQ Z h0 o1 (.ref tt)) (wj : fAQ Z h0 o1 (.int 0)) (wH : eCQ Z h0 tt) (wE : Arv Z h0 tt kt .byte 3 [.int y0, .int y1, .int y2] (.int 0)) (wF : o1 ≠ tt) (wA : vb ≠ tt) (wG : o0 ≠ tt) (wD : o0 ≠ o1) (wI : vb ≠ o1) (wa : sHQ Z h0 (.int cs)) (hcs : ¬ cs = (0 : Int32)) :
  MF l mN4 jdk_67_method_7_code 2 (some (.object "java/lang/StringBuilder")) ws (rmm 4 0 0 67) #[.ref o0, .ref o1] Z h0 (Qsps3 Z o0 o1 vb kb tt kt cs y0 y1 y2 h0 n0) := by
 refine MF.of (plainFor_of_name pn_4) ?_
 intro p e s m below meth c s₁ QQ hy hml hown hZ X0 e0 hrt hlk hnm hQQ
 have N0 := Fr.nil n0
 refine Ends.i #[rv o0, rv o1] (oA X0 hy d20_0 1 rfl (oA X0 hy d20_1 2 rfl ?_))
 refine cU X0 hy hml hown hZ hw d20_2 5 0 123 124 96 88 126 40 rfl rfl rfl rfl rfl rfl rfl (rmaps3 l Z a0 hw [] o0 o1 vb kb tt kt cs y0 y1 y2 h0 n0 Z0 wh wd wb we wo wm wy ww wq wt wk wj wH wE wF wA wG wD wI wa hcs) e0 pd_12 wh rfl rfl fun _ T171 Lc171 X171 hQ171 => ?_
 obtain ⟨rfl, Nq171, Kq171, wh, wd, wb, we, wm, wo⟩ := hQ171
 have N171 := Fr.app N0 Nq171
 have K171 := (Keep.refl h0 [o0, vb]).trans Kq171 (allS (Or.inl mm0) (allS (Or.inl mm1) all0))
 refine Ends.v (oxe X171 hy d20_5 6 rfl (oA X171 hy d20_6 7 rfl ?_))
 exact fA X171 hy hrt hlk hQQ d20_7 rfl rfl rfl (by decide) ⟨rfl, N171, K171, wh, wd, wb, we, wm, wo⟩
def Qgb4 (Z : State) (o0 o1 : Addr) (kb : ClassId) (tt : Addr) (kt : ClassId) (cs y0 y1 y2 y3 : Int32) (h0 : Heap) (n0 : Nat) : QT := fun v h L => (v = none) ∧ (Fr n0 L) ∧ (Keep h0 h [o1]) ∧ (Arv Z h o1 kb .byte 8 [.int 112, .int 48, .int 48, .int 48, .int y0, .int y1, .int y2, .int y3] (.int 0))
theorem rmgb4 (l : Launch) (Z : State) (a0 : Array Value) (hw : TW a0 Z) (ws : List Jvm.Cond) (o0 o1 : Addr) (kb : ClassId) (tt : Addr) (kt : ClassId) (cs y0 y1 y2 y3 : Int32) (h0 : Heap) (n0 : Nat) (Z0 : n0 ≤ h0.size) (wh : eAQ Z h0 o0) (wd : fBQ Z h0 o0 (.ref tt)) (wb : fAQ Z h0 o0 (.int 0)) (wH : eCQ Z h0 tt) (wE : Arv Z h0 tt kt .byte 4 [.int y0, .int y1, .int y2, .int y3] (.int 0)) (wG : o0 ≠ tt) (vD : Arv Z h0 o1 kb .byte 8 [.int 112, .int 48, .int 48, .int 48, .int 0, .int 0, .int 0, .int 0] (.int 0)) (wK : n0 ≤ o1) (wF : o1 ≠ tt) (kM : o1 ≠ o0) (wa : sHQ Z h0 (.int cs)) (hcs : ¬ cs = (0 : Int32)) :
  MF l mN1 jdk_42_method_147_code 4 none ws (rmm 1 0 0 24) #[.ref o0, .ref o1, .int 4, .int 0] Z h0 (Qgb4 Z o0 o1 kb tt kt cs y0 y1 y2 y3 h0 n0) := by
 refine MF.of (plainFor_of_name pn_0) ?_
 intro p e s m below meth c s₁ QQ hy hml hown hZ X0 e0 hrt hlk hnm hQQ
 have hx := hy.1
 have hby := hy.2
 have N0 := Fr.nil n0
 refine Ends.i #[rv o0, rv o1, iv 4, iv 0] (oA X0 hy d24_0 1 rfl ?_)
 refine cV X0 hy hml hown hZ hw d24_1 4 0 112 113 115 114 116 44 rfl rfl rfl rfl rfl rfl (rmcod l Z a0 hw [] o0 cs h0 n0 Z0 wa hcs wb) e0 pd_0 wh rfl rfl fun _ T172 Lc172 X172 hQ172 => ?_
 obtain ⟨rfl, Nq172, hh172⟩ := hQ172
 have N172 := Fr.app N0 Nq172
 refine Ends.v (oC X172 hy d24_4 5 rfl (oxi X172 hy d24_5 8 (XT.ii_ne_f (by decide)) (oA X172 hy d24_8 9 rfl (gF X172 hy hown hZ hw hh172 wd d24_9 12 77 rfl fun T173 X173 e173 => oG X173 hy d24_12 13 0 rfl (oA X173 hy d24_13 14 rfl (oC X173 hy d24_14 15 rfl (oC X173 hy d24_15 16 rfl (oO X173 hy d24_16 17 ?_))))))))
 show Ends p e below QQ (T173.setTop (mkF m 17 #[rv o0, rv o1, iv 4, iv 0] [.int 4, .ref o1, .int 0, .ref tt]))
 refine oA X173 hy d24_17 18 rfl (gF X173 hy hown hZ hw e173 wd d24_18 21 77 rfl fun T174 X174 e174 => aLn X174 hy hZ e174 wE d24_21 22 ?_)
 obtain ⟨T176, h176, L176, X176, e176, N176, Kq176, AA176, st176⟩ := cpA X174 hx hZ hown (tb hw 144 rfl) (tb hw 147 rfl) (tb hw 145 rfl) (tb hw 146 rfl) e174 wE vD (Or.inl ⟨rfl, rfl⟩) (by decide) (by decide) (by decide) (by decide) (by decide) (us := [.int y0, .int y1, .int y2, .int y3]) (by rfl) (by decide) N172 wK (g := (mkF m 22 #[rv o0, rv o1, iv 4, iv 0] [.int 4, .int 4, .ref o1, .int 0, .ref tt])) rfl (by rw [hml]; rfl) rfl (hb hby d24_22) (by decide) (W := 0) (by show 2 * 0 + _ ≤ _; exact Nat.le_of_eq rfl) (by decide)
 have vD : Arv Z h176 o1 kb .byte 8 [.int 112, .int 48, .int 48, .int 48, .int y0, .int y1, .int y2, .int y3] (.int 0) := AA176
 have K176 := (Keep.refl h0 [o1]).trans Kq176 (allS (Or.inl mm0) all0)
 refine Ends.j 25 [] st176 ?_
 refine oxm X176 hy d24_25 43 ?_
 exact fV X176 hy hrt hlk hQQ d24_43 e176 (by decide) ⟨rfl, N176, K176, vD⟩
def Qps4 (Z : State) (o0 o2 vb : Addr) (kb : ClassId) (tt : Addr) (kt : ClassId) (cs y0 y1 y2 y3 : Int32) (h0 : Heap) (n0 : Nat) : QT := fun v h L => (v = none) ∧ (Fr n0 L) ∧ (Keep h0 h [vb]) ∧ (Arv Z h vb kb .byte 8 [.int 112, .int 48, .int 48, .int 48, .int y0, .int y1, .int y2, .int y3] (.int 0))
theorem rmps4 (l : Launch) (Z : State) (a0 : Array Value) (hw : TW a0 Z) (ws : List Jvm.Cond) (o0 o2 vb : Addr) (kb : ClassId) (tt : Addr) (kt : ClassId) (cs y0 y1 y2 y3 : Int32) (h0 : Heap) (n0 : Nat) (Z0 : n0 ≤ h0.size) (wh : eBQ Z h0 o0) (wd : fDQ Z h0 o0 (.ref vb)) (wb : fCQ Z h0 o0 (.int 0)) (we : fEQ Z h0 o0 (.int 4)) (wo : eCQ Z h0 vb) (wm : Arv Z h0 vb kb .byte 8 [.int 112, .int 48, .int 48, .int 48, .int 0, .int 0, .int 0, .int 0] (.int 0)) (wy : n0 ≤ o0) (ww : n0 ≤ vb) (wq : o0 ≠ vb) (vC : eAQ Z h0 o2) (wU : fBQ Z h0 o2 (.ref tt)) (wJ : fAQ Z h0 o2 (.int 0)) (wH : eCQ Z h0 tt) (wE : Arv Z h0 tt kt .byte 4 [.int y0, .int y1, .int y2, .int y3] (.int 0)) (vz : o2 ≠ tt) (wA : vb ≠ tt) (vy : vb ≠ o2) (wa : sHQ Z h0 (.int cs)) (hcs : ¬ cs = (0 : Int32)) :
  MF l mN2 jdk_68_method_73_code 3 none ws (rmm 2 0 0 39) #[.ref o0, .int 4, .ref o2] Z h0 (Qps4 Z o0 o2 vb kb tt kt cs y0 y1 y2 y3 h0 n0) := by
 refine MF.of (plainFor_of_name pn_3) ?_
 intro p e s m below meth c s₁ QQ hy hml hown hZ X0 e0 hrt hlk hnm hQQ
 have N0 := Fr.nil n0
 refine Ends.i #[rv o0, iv 4, rv o2] (oA X0 hy d22_0 1 rfl (oA X0 hy d22_1 2 rfl ?_))
 refine cP X0 hy hml hown hZ hw d22_2 5 0 133 134 96 135 137 40 rfl rfl rfl rfl rfl rfl rfl (rminf l Z a0 hw [] o0 o2 cs h0 n0 Z0 wa hcs wb vC wJ) e0 pd_8 wh rfl rfl fun _ T177 Lc177 X177 hQ177 => ?_
 obtain ⟨rfl, Nq177, hh177⟩ := hQ177
 have N177 := Fr.app N0 Nq177
 refine Ends.u (oA X177 hy d22_5 6 rfl (oA X177 hy d22_6 7 rfl (gF X177 hy hown hZ hw hh177 wd d22_7 10 46 rfl fun T178 X178 e178 => oC X178 hy d22_10 11 rfl (oA X178 hy d22_11 12 rfl (gF X178 hy hown hZ hw e178 wb d22_12 15 48 rfl fun T179 X179 e179 => ?_)))))
 refine cV X179 hy hml hown hZ hw d22_15 18 0 139 140 142 141 143 44 rfl rfl rfl rfl rfl rfl (rmgb4 l Z a0 hw [] o2 vb kb tt kt cs y0 y1 y2 y3 h0 n0 Z0 vC wU wJ wH wE vz wm ww wA vy wa hcs) e179 pd_9 vC rfl rfl fun _ T180 Lc180 X180 hQ180 => ?_
 obtain ⟨rfl, Nq180, Kq180, wm⟩ := hQ180
 have N180 := Fr.app N177 Nq180
 have K180 := (Keep.refl h0 [vb]).trans Kq180 (allS (Or.inl mm0) all0)
 refine Ends.u ?_
 exact fV X180 hy hrt hlk hQQ d22_18 rfl (by decide) ⟨rfl, N180, K180, wm⟩
def Qaps4 (Z : State) (o0 o1 vb : Addr) (kb : ClassId) (tt : Addr) (kt : ClassId) (cs y0 y1 y2 y3 : Int32) (h0 : Heap) (n0 : Nat) : QT := fun v h L => (v = some (.ref o0)) ∧ (Fr n0 L) ∧ (Keep h0 h [o0, vb]) ∧ (eBQ Z h o0) ∧ (fDQ Z h o0 (.ref vb)) ∧ (fCQ Z h o0 (.int 0)) ∧ (fEQ Z h o0 (.int 8)) ∧ (Arv Z h vb kb .byte 8 [.int 112, .int 48, .int 48, .int 48, .int y0, .int y1, .int y2, .int y3] (.int 0)) ∧ (eCQ Z h vb)
theorem rmaps4 (l : Launch) (Z : State) (a0 : Array Value) (hw : TW a0 Z) (ws : List Jvm.Cond) (o0 o1 vb : Addr) (kb : ClassId) (tt : Addr) (kt : ClassId) (cs y0 y1 y2 y3 : Int32) (h0 : Heap) (n0 : Nat) (Z0 : n0 ≤ h0.size) (wh : eBQ Z h0 o0) (wd : fDQ Z h0 o0 (.ref vb)) (wb : fCQ Z h0 o0 (.int 0)) (we : fEQ Z h0 o0 (.int 4)) (wo : eCQ Z h0 vb) (wm : Arv Z h0 vb kb .byte 8 [.int 112, .int 48, .int 48, .int 48, .int 0, .int 0, .int 0, .int 0] (.int 0)) (wy : n0 ≤ o0) (ww : n0 ≤ vb) (wq : o0 ≠ vb) (wt : eAQ Z h0 o1) (wk : fBQ Z h0 o1 (.ref tt)) (wj : fAQ Z h0 o1 (.int 0)) (wH : eCQ Z h0 tt) (wE : Arv Z h0 tt kt .byte 4 [.int y0, .int y1, .int y2, .int y3] (.int 0)) (wF : o1 ≠ tt) (wA : vb ≠ tt) (wG : o0 ≠ tt) (wD : o0 ≠ o1) (wI : vb ≠ o1) (wa : sHQ Z h0 (.int cs)) (hcs : ¬ cs = (0 : Int32)) :
  MF l mN3 jdk_68_method_22_code 3 (some (.object "java/lang/AbstractStringBuilder")) ws (rmm 3 0 0 53) #[.ref o0, .ref o1] Z h0 (Qaps4 Z o0 o1 vb kb tt kt cs y0 y1 y2 y3 h0 n0) := by
 refine MF.of (plainFor_of_name pn_3) ?_
 intro p e s m below meth c s₁ QQ hy hml hown hZ X0 e0 hrt hlk hnm hQQ
 have hx := hy.1
 have hby := hy.2
 have N0 := Fr.nil n0
 refine Ends.i #[rv o0, rv o1, uu] (oA X0 hy d21_0 1 rfl (oxn X0 hy d21_1 9 (oA X0 hy d21_9 10 rfl ?_)))
 refine cV X0 hy hml hown hZ hw d21_10 13 0 127 108 110 109 111 44 rfl rfl rfl rfl rfl rfl (rmlen l Z a0 hw [] o1 tt kt (4 : Int32) [.int y0, .int y1, .int y2, .int y3] cs h0 n0 Z0 wt wk wE wa hcs wj) e0 pd_10 wt rfl rfl fun _ T181 Lc181 X181 hQ181 => ?_
 obtain ⟨rfl, Nq181, hh181⟩ := hQ181
 have N181 := Fr.app N0 Nq181
 refine Ends.v (oxp X181 hy d21_13 14 #[rv o0, rv o1, iv 4] rfl (oA X181 hy d21_14 15 rfl (oA X181 hy d21_15 16 rfl (gF X181 hy hown hZ hw hh181 we d21_16 19 91 rfl fun T182 X182 e182 => oC X182 hy d21_19 20 rfl (oK X182 hy d21_20 21 ?_)))))
 show Ends p e below QQ (T182.setTop (mkF m 21 #[rv o0, rv o1, iv 4] [.int 8, .ref o0]))
 refine cP X182 hy hml hown hZ hw d21_21 24 0 93 94 96 95 97 40 rfl rfl rfl rfl rfl rfl rfl (rmens8_8 l Z a0 hw [] o0 vb kb [.int 112, .int 48, .int 48, .int 48, .int 0, .int 0, .int 0, .int 0] h0 n0 Z0 wd wb wm) e182 pd_5 wh rfl rfl fun _ T183 Lc183 X183 hQ183 => ?_
 obtain ⟨rfl, Nq183, hh183⟩ := hQ183
 have N183 := Fr.app N181 Nq183
 refine Ends.u (oA X183 hy d21_24 25 rfl (oA X183 hy d21_25 26 rfl (gF X183 hy hown hZ hw hh183 we d21_26 29 91 rfl fun T184 X184 e184 => oA X184 hy d21_29 30 rfl ?_)))
 refine cP X184 hy hml hown hZ hw d21_30 33 0 128 129 96 130 132 40 rfl rfl rfl rfl rfl rfl rfl (rmps4 l Z a0 hw [] o0 o1 vb kb tt kt cs y0 y1 y2 y3 h0 n0 Z0 wh wd wb we wo wm wy ww wq wt wk wj wH wE wF wA wI wa hcs) e184 pd_11 wh rfl rfl fun _ T185 Lc185 X185 hQ185 => ?_
 obtain ⟨rfl, Nq185, Kq185, wm⟩ := hQ185
 have N185 := Fr.app N183 Nq185
 have wh := wh.keep Kq185
 have wd := wd.keep Kq185 (ninS wq nin0)
 have wb := wb.keep Kq185 (ninS wq nin0)
 have we := we.keep Kq185 (ninS wq nin0)
 have wo := wo.keep Kq185
 have K185 := (Keep.refl h0 [o0, vb]).trans Kq185 (allS (Or.inl mm1) all0)
 refine Ends.u (oA X185 hy d21_33 34 rfl (oxd X185 hy d21_34 35 rfl (gF X185 hy hown hZ hw rfl we d21_35 38 91 rfl fun T186 X186 e186 => oC X186 hy d21_38 39 rfl (oK X186 hy d21_39 40 ?_))))
 show Ends p e below QQ (T186.setTop (mkF m 40 #[rv o0, rv o1, iv 4] [.int 8, .ref o0]))
 obtain ⟨T187, h187, X187, e187, W187, st187⟩ := putF X186 hx hZ hown (host := "") (Or.inl (tb hw 91 rfl)) Via.refl e186 we wh (Or.inl (tb hw 92 rfl)) (tb hw 31 rfl) (ty := .int) (by decide) rfl rfl (g := (mkF m 40 #[rv o0, rv o1, iv 4] [.int 8, .ref o0])) rfl rfl (hb hby d21_40)
 have wh := wh.wr W187
 have wd := wd.other W187 (Or.inr (slot_ne (Or.inl (tb hw 47 rfl)) (Or.inl (tb hw 92 rfl)) (by decide) (t := (.array .byte)) (t' := .int) (by decide) (by decide)))
 have wb := wb.other W187 (Or.inr (slot_ne (Or.inl (tb hw 49 rfl)) (Or.inl (tb hw 92 rfl)) (by decide) (t := .byte) (t' := .int) (by decide) (by decide)))
 have wo := wo.wr W187
 have wm := wm.other W187 (Ne.symm wq)
 have we : fEQ Z h187 o0 (.int 8) := we.same W187
 have K187 := K185.wr W187 (Or.inl mm0)
 have N187 := Fr.snoc X187 N185 wy
 refine Ends.j 43 [] st187 ?_
 refine oA X187 hy d21_43 44 rfl ?_
 exact fA X187 hy hrt hlk hQQ d21_44 rfl rfl e187 (by decide) ⟨rfl, N187, K187, wh, wd, wb, we, wm, wo⟩
def Qsps4 (Z : State) (o0 o1 vb : Addr) (kb : ClassId) (tt : Addr) (kt : ClassId) (cs y0 y1 y2 y3 : Int32) (h0 : Heap) (n0 : Nat) : QT := fun v h L => (v = some (.ref o0)) ∧ (Fr n0 L) ∧ (Keep h0 h [o0, vb]) ∧ (eBQ Z h o0) ∧ (fDQ Z h o0 (.ref vb)) ∧ (fCQ Z h o0 (.int 0)) ∧ (fEQ Z h o0 (.int 8)) ∧ (Arv Z h vb kb .byte 8 [.int 112, .int 48, .int 48, .int 48, .int y0, .int y1, .int y2, .int y3] (.int 0)) ∧ (eCQ Z h vb)
theorem rmsps4 (l : Launch) (Z : State) (a0 : Array Value) (hw : TW a0 Z) (ws : List Jvm.Cond) (o0 o1 vb : Addr) (kb : ClassId) (tt : Addr) (kt : ClassId) (cs y0 y1 y2 y3 : Int32) (h0 : Heap) (n0 : Nat) (Z0 : n0 ≤ h0.size) (wh : eBQ Z h0 o0) (wd : fDQ Z h0 o0 (.ref vb)) (wb : fCQ Z h0 o0 (.int 0)) (we : fEQ Z h0 o0 (.int 4)) (wo : eCQ Z h0 vb) (wm : Arv Z h0 vb kb .byte 8 [.int 112, .int 48, .int 48, .int 48, .int 0, .int 0, .int 0, .int 0] (.int 0)) (wy : n0 ≤ o0) (ww : n0 ≤ vb) (wq : o0 ≠ vb) (wt : eAQ Z h0 o1) (wk : fBQ Z h0 o1 (.ref tt)) (wj : fAQ Z h0 o1 (.int 0)) (wH : eCQ Z h0 tt) (wE : Arv Z h0 tt kt .byte 4 [.int y0, .int y1, .int y2, .int y3] (.int 0)) (wF : o1 ≠ tt) (wA : vb ≠ tt) (wG : o0 ≠ tt) (wD : o0 ≠ o1) (wI : vb ≠ o1) (wa : sHQ Z h0 (.int cs)) (hcs : ¬ cs = (0 : Int32)) :
  MF l mN4 jdk_67_method_7_code 2 (some (.object "java/lang/StringBuilder")) ws (rmm 4 0 0 67) #[.ref o0, .ref o1] Z h0 (Qsps4 Z o0 o1 vb kb tt kt cs y0 y1 y2 y3 h0 n0) := by
 refine MF.of (plainFor_of_name pn_4) ?_
 intro p e s m below meth c s₁ QQ hy hml hown hZ X0 e0 hrt hlk hnm hQQ
 have N0 := Fr.nil n0
 refine Ends.i #[rv o0, rv o1] (oA X0 hy d20_0 1 rfl (oA X0 hy d20_1 2 rfl ?_))
 refine cU X0 hy hml hown hZ hw d20_2 5 0 123 124 96 88 126 40 rfl rfl rfl rfl rfl rfl rfl (rmaps4 l Z a0 hw [] o0 o1 vb kb tt kt cs y0 y1 y2 y3 h0 n0 Z0 wh wd wb we wo wm wy ww wq wt wk wj wH wE wF wA wG wD wI wa hcs) e0 pd_12 wh rfl rfl fun _ T188 Lc188 X188 hQ188 => ?_
 obtain ⟨rfl, Nq188, Kq188, wh, wd, wb, we, wm, wo⟩ := hQ188
 have N188 := Fr.app N0 Nq188
 have K188 := (Keep.refl h0 [o0, vb]).trans Kq188 (allS (Or.inl mm0) (allS (Or.inl mm1) all0))
 refine Ends.v (oxe X188 hy d20_5 6 rfl (oA X188 hy d20_6 7 rfl ?_))
 exact fA X188 hy hrt hlk hQQ d20_7 rfl rfl rfl (by decide) ⟨rfl, N188, K188, wh, wd, wb, we, wm, wo⟩
def Qgb5 (Z : State) (o0 o1 : Addr) (kb : ClassId) (tt : Addr) (kt : ClassId) (cs y0 y1 y2 y3 y4 : Int32) (h0 : Heap) (n0 : Nat) : QT := fun v h L => (v = none) ∧ (Fr n0 L) ∧ (Keep h0 h [o1]) ∧ (Arv Z h o1 kb .byte 8 [.int 112, .int 48, .int 48, .int y0, .int y1, .int y2, .int y3, .int y4] (.int 0))
theorem rmgb5 (l : Launch) (Z : State) (a0 : Array Value) (hw : TW a0 Z) (ws : List Jvm.Cond) (o0 o1 : Addr) (kb : ClassId) (tt : Addr) (kt : ClassId) (cs y0 y1 y2 y3 y4 : Int32) (h0 : Heap) (n0 : Nat) (Z0 : n0 ≤ h0.size) (wh : eAQ Z h0 o0) (wd : fBQ Z h0 o0 (.ref tt)) (wb : fAQ Z h0 o0 (.int 0)) (wH : eCQ Z h0 tt) (wE : Arv Z h0 tt kt .byte 5 [.int y0, .int y1, .int y2, .int y3, .int y4] (.int 0)) (wG : o0 ≠ tt) (vD : Arv Z h0 o1 kb .byte 8 [.int 112, .int 48, .int 48, .int 0, .int 0, .int 0, .int 0, .int 0] (.int 0)) (wK : n0 ≤ o1) (wF : o1 ≠ tt) (kM : o1 ≠ o0) (wa : sHQ Z h0 (.int cs)) (hcs : ¬ cs = (0 : Int32)) :
  MF l mN1 jdk_42_method_147_code 4 none ws (rmm 1 0 0 24) #[.ref o0, .ref o1, .int 3, .int 0] Z h0 (Qgb5 Z o0 o1 kb tt kt cs y0 y1 y2 y3 y4 h0 n0) := by
 refine MF.of (plainFor_of_name pn_0) ?_
 intro p e s m below meth c s₁ QQ hy hml hown hZ X0 e0 hrt hlk hnm hQQ
 have hx := hy.1
 have hby := hy.2
 have N0 := Fr.nil n0
 refine Ends.i #[rv o0, rv o1, iv 3, iv 0] (oA X0 hy d24_0 1 rfl ?_)
 refine cV X0 hy hml hown hZ hw d24_1 4 0 112 113 115 114 116 44 rfl rfl rfl rfl rfl rfl (rmcod l Z a0 hw [] o0 cs h0 n0 Z0 wa hcs wb) e0 pd_0 wh rfl rfl fun _ T189 Lc189 X189 hQ189 => ?_
 obtain ⟨rfl, Nq189, hh189⟩ := hQ189
 have N189 := Fr.app N0 Nq189
 refine Ends.v (oC X189 hy d24_4 5 rfl (oxi X189 hy d24_5 8 (XT.ii_ne_f (by decide)) (oA X189 hy d24_8 9 rfl (gF X189 hy hown hZ hw hh189 wd d24_9 12 77 rfl fun T190 X190 e190 => oG X190 hy d24_12 13 0 rfl (oA X190 hy d24_13 14 rfl (oC X190 hy d24_14 15 rfl (oC X190 hy d24_15 16 rfl (oO X190 hy d24_16 17 ?_))))))))
 show Ends p e below QQ (T190.setTop (mkF m 17 #[rv o0, rv o1, iv 3, iv 0] [.int 3, .ref o1, .int 0, .ref tt]))
 refine oA X190 hy d24_17 18 rfl (gF X190 hy hown hZ hw e190 wd d24_18 21 77 rfl fun T191 X191 e191 => aLn X191 hy hZ e191 wE d24_21 22 ?_)
 obtain ⟨T193, h193, L193, X193, e193, N193, Kq193, AA193, st193⟩ := cpA X191 hx hZ hown (tb hw 144 rfl) (tb hw 147 rfl) (tb hw 145 rfl) (tb hw 146 rfl) e191 wE vD (Or.inl ⟨rfl, rfl⟩) (by decide) (by decide) (by decide) (by decide) (by decide) (us := [.int y0, .int y1, .int y2, .int y3, .int y4]) (by rfl) (by decide) N189 wK (g := (mkF m 22 #[rv o0, rv o1, iv 3, iv 0] [.int 5, .int 3, .ref o1, .int 0, .ref tt])) rfl (by rw [hml]; rfl) rfl (hb hby d24_22) (by decide) (W := 0) (by show 2 * 0 + _ ≤ _; exact Nat.le_of_eq rfl) (by decide)
 have vD : Arv Z h193 o1 kb .byte 8 [.int 112, .int 48, .int 48, .int y0, .int y1, .int y2, .int y3, .int y4] (.int 0) := AA193
 have K193 := (Keep.refl h0 [o1]).trans Kq193 (allS (Or.inl mm0) all0)
 refine Ends.j 25 [] st193 ?_
 refine oxm X193 hy d24_25 43 ?_
 exact fV X193 hy hrt hlk hQQ d24_43 e193 (by decide) ⟨rfl, N193, K193, vD⟩
def Qps5 (Z : State) (o0 o2 vb : Addr) (kb : ClassId) (tt : Addr) (kt : ClassId) (cs y0 y1 y2 y3 y4 : Int32) (h0 : Heap) (n0 : Nat) : QT := fun v h L => (v = none) ∧ (Fr n0 L) ∧ (Keep h0 h [vb]) ∧ (Arv Z h vb kb .byte 8 [.int 112, .int 48, .int 48, .int y0, .int y1, .int y2, .int y3, .int y4] (.int 0))
theorem rmps5 (l : Launch) (Z : State) (a0 : Array Value) (hw : TW a0 Z) (ws : List Jvm.Cond) (o0 o2 vb : Addr) (kb : ClassId) (tt : Addr) (kt : ClassId) (cs y0 y1 y2 y3 y4 : Int32) (h0 : Heap) (n0 : Nat) (Z0 : n0 ≤ h0.size) (wh : eBQ Z h0 o0) (wd : fDQ Z h0 o0 (.ref vb)) (wb : fCQ Z h0 o0 (.int 0)) (we : fEQ Z h0 o0 (.int 3)) (wo : eCQ Z h0 vb) (wm : Arv Z h0 vb kb .byte 8 [.int 112, .int 48, .int 48, .int 0, .int 0, .int 0, .int 0, .int 0] (.int 0)) (wy : n0 ≤ o0) (ww : n0 ≤ vb) (wq : o0 ≠ vb) (vC : eAQ Z h0 o2) (wU : fBQ Z h0 o2 (.ref tt)) (wJ : fAQ Z h0 o2 (.int 0)) (wH : eCQ Z h0 tt) (wE : Arv Z h0 tt kt .byte 5 [.int y0, .int y1, .int y2, .int y3, .int y4] (.int 0)) (vz : o2 ≠ tt) (wA : vb ≠ tt) (vy : vb ≠ o2) (wa : sHQ Z h0 (.int cs)) (hcs : ¬ cs = (0 : Int32)) :
  MF l mN2 jdk_68_method_73_code 3 none ws (rmm 2 0 0 39) #[.ref o0, .int 3, .ref o2] Z h0 (Qps5 Z o0 o2 vb kb tt kt cs y0 y1 y2 y3 y4 h0 n0) := by
 refine MF.of (plainFor_of_name pn_3) ?_
 intro p e s m below meth c s₁ QQ hy hml hown hZ X0 e0 hrt hlk hnm hQQ
 have N0 := Fr.nil n0
 refine Ends.i #[rv o0, iv 3, rv o2] (oA X0 hy d22_0 1 rfl (oA X0 hy d22_1 2 rfl ?_))
 refine cP X0 hy hml hown hZ hw d22_2 5 0 133 134 96 135 137 40 rfl rfl rfl rfl rfl rfl rfl (rminf l Z a0 hw [] o0 o2 cs h0 n0 Z0 wa hcs wb vC wJ) e0 pd_8 wh rfl rfl fun _ T194 Lc194 X194 hQ194 => ?_
 obtain ⟨rfl, Nq194, hh194⟩ := hQ194
 have N194 := Fr.app N0 Nq194
 refine Ends.u (oA X194 hy d22_5 6 rfl (oA X194 hy d22_6 7 rfl (gF X194 hy hown hZ hw hh194 wd d22_7 10 46 rfl fun T195 X195 e195 => oC X195 hy d22_10 11 rfl (oA X195 hy d22_11 12 rfl (gF X195 hy hown hZ hw e195 wb d22_12 15 48 rfl fun T196 X196 e196 => ?_)))))
 refine cV X196 hy hml hown hZ hw d22_15 18 0 139 140 142 141 143 44 rfl rfl rfl rfl rfl rfl (rmgb5 l Z a0 hw [] o2 vb kb tt kt cs y0 y1 y2 y3 y4 h0 n0 Z0 vC wU wJ wH wE vz wm ww wA vy wa hcs) e196 pd_9 vC rfl rfl fun _ T197 Lc197 X197 hQ197 => ?_
 obtain ⟨rfl, Nq197, Kq197, wm⟩ := hQ197
 have N197 := Fr.app N194 Nq197
 have K197 := (Keep.refl h0 [vb]).trans Kq197 (allS (Or.inl mm0) all0)
 refine Ends.u ?_
 exact fV X197 hy hrt hlk hQQ d22_18 rfl (by decide) ⟨rfl, N197, K197, wm⟩
def Qaps5 (Z : State) (o0 o1 vb : Addr) (kb : ClassId) (tt : Addr) (kt : ClassId) (cs y0 y1 y2 y3 y4 : Int32) (h0 : Heap) (n0 : Nat) : QT := fun v h L => (v = some (.ref o0)) ∧ (Fr n0 L) ∧ (Keep h0 h [o0, vb]) ∧ (eBQ Z h o0) ∧ (fDQ Z h o0 (.ref vb)) ∧ (fCQ Z h o0 (.int 0)) ∧ (fEQ Z h o0 (.int 8)) ∧ (Arv Z h vb kb .byte 8 [.int 112, .int 48, .int 48, .int y0, .int y1, .int y2, .int y3, .int y4] (.int 0)) ∧ (eCQ Z h vb)
theorem rmaps5 (l : Launch) (Z : State) (a0 : Array Value) (hw : TW a0 Z) (ws : List Jvm.Cond) (o0 o1 vb : Addr) (kb : ClassId) (tt : Addr) (kt : ClassId) (cs y0 y1 y2 y3 y4 : Int32) (h0 : Heap) (n0 : Nat) (Z0 : n0 ≤ h0.size) (wh : eBQ Z h0 o0) (wd : fDQ Z h0 o0 (.ref vb)) (wb : fCQ Z h0 o0 (.int 0)) (we : fEQ Z h0 o0 (.int 3)) (wo : eCQ Z h0 vb) (wm : Arv Z h0 vb kb .byte 8 [.int 112, .int 48, .int 48, .int 0, .int 0, .int 0, .int 0, .int 0] (.int 0)) (wy : n0 ≤ o0) (ww : n0 ≤ vb) (wq : o0 ≠ vb) (wt : eAQ Z h0 o1) (wk : fBQ Z h0 o1 (.ref tt)) (wj : fAQ Z h0 o1 (.int 0)) (wH : eCQ Z h0 tt) (wE : Arv Z h0 tt kt .byte 5 [.int y0, .int y1, .int y2, .int y3, .int y4] (.int 0)) (wF : o1 ≠ tt) (wA : vb ≠ tt) (wG : o0 ≠ tt) (wD : o0 ≠ o1) (wI : vb ≠ o1) (wa : sHQ Z h0 (.int cs)) (hcs : ¬ cs = (0 : Int32)) :
  MF l mN3 jdk_68_method_22_code 3 (some (.object "java/lang/AbstractStringBuilder")) ws (rmm 3 0 0 53) #[.ref o0, .ref o1] Z h0 (Qaps5 Z o0 o1 vb kb tt kt cs y0 y1 y2 y3 y4 h0 n0) := by
 refine MF.of (plainFor_of_name pn_3) ?_
 intro p e s m below meth c s₁ QQ hy hml hown hZ X0 e0 hrt hlk hnm hQQ
 have hx := hy.1
 have hby := hy.2
 have N0 := Fr.nil n0
 refine Ends.i #[rv o0, rv o1, uu] (oA X0 hy d21_0 1 rfl (oxn X0 hy d21_1 9 (oA X0 hy d21_9 10 rfl ?_)))
 refine cV X0 hy hml hown hZ hw d21_10 13 0 127 108 110 109 111 44 rfl rfl rfl rfl rfl rfl (rmlen l Z a0 hw [] o1 tt kt (5 : Int32) [.int y0, .int y1, .int y2, .int y3, .int y4] cs h0 n0 Z0 wt wk wE wa hcs wj) e0 pd_10 wt rfl rfl fun _ T198 Lc198 X198 hQ198 => ?_
 obtain ⟨rfl, Nq198, hh198⟩ := hQ198
 have N198 := Fr.app N0 Nq198
 refine Ends.v (oxp X198 hy d21_13 14 #[rv o0, rv o1, iv 5] rfl (oA X198 hy d21_14 15 rfl (oA X198 hy d21_15 16 rfl (gF X198 hy hown hZ hw hh198 we d21_16 19 91 rfl fun T199 X199 e199 => oC X199 hy d21_19 20 rfl (oK X199 hy d21_20 21 ?_)))))
 show Ends p e below QQ (T199.setTop (mkF m 21 #[rv o0, rv o1, iv 5] [.int 8, .ref o0]))
 refine cP X199 hy hml hown hZ hw d21_21 24 0 93 94 96 95 97 40 rfl rfl rfl rfl rfl rfl rfl (rmens8_8 l Z a0 hw [] o0 vb kb [.int 112, .int 48, .int 48, .int 0, .int 0, .int 0, .int 0, .int 0] h0 n0 Z0 wd wb wm) e199 pd_5 wh rfl rfl fun _ T200 Lc200 X200 hQ200 => ?_
 obtain ⟨rfl, Nq200, hh200⟩ := hQ200
 have N200 := Fr.app N198 Nq200
 refine Ends.u (oA X200 hy d21_24 25 rfl (oA X200 hy d21_25 26 rfl (gF X200 hy hown hZ hw hh200 we d21_26 29 91 rfl fun T201 X201 e201 => oA X201 hy d21_29 30 rfl ?_)))
 refine cP X201 hy hml hown hZ hw d21_30 33 0 128 129 96 130 132 40 rfl rfl rfl rfl rfl rfl rfl (rmps5 l Z a0 hw [] o0 o1 vb kb tt kt cs y0 y1 y2 y3 y4 h0 n0 Z0 wh wd wb we wo wm wy ww wq wt wk wj wH wE wF wA wI wa hcs) e201 pd_11 wh rfl rfl fun _ T202 Lc202 X202 hQ202 => ?_
 obtain ⟨rfl, Nq202, Kq202, wm⟩ := hQ202
 have N202 := Fr.app N200 Nq202
 have wh := wh.keep Kq202
 have wd := wd.keep Kq202 (ninS wq nin0)
 have wb := wb.keep Kq202 (ninS wq nin0)
 have we := we.keep Kq202 (ninS wq nin0)
 have wo := wo.keep Kq202
 have K202 := (Keep.refl h0 [o0, vb]).trans Kq202 (allS (Or.inl mm1) all0)
 refine Ends.u (oA X202 hy d21_33 34 rfl (oxd X202 hy d21_34 35 rfl (gF X202 hy hown hZ hw rfl we d21_35 38 91 rfl fun T203 X203 e203 => oC X203 hy d21_38 39 rfl (oK X203 hy d21_39 40 ?_))))
 show Ends p e below QQ (T203.setTop (mkF m 40 #[rv o0, rv o1, iv 5] [.int 8, .ref o0]))
 obtain ⟨T204, h204, X204, e204, W204, st204⟩ := putF X203 hx hZ hown (host := "") (Or.inl (tb hw 91 rfl)) Via.refl e203 we wh (Or.inl (tb hw 92 rfl)) (tb hw 31 rfl) (ty := .int) (by decide) rfl rfl (g := (mkF m 40 #[rv o0, rv o1, iv 5] [.int 8, .ref o0])) rfl rfl (hb hby d21_40)
 have wh := wh.wr W204
 have wd := wd.other W204 (Or.inr (slot_ne (Or.inl (tb hw 47 rfl)) (Or.inl (tb hw 92 rfl)) (by decide) (t := (.array .byte)) (t' := .int) (by decide) (by decide)))
 have wb := wb.other W204 (Or.inr (slot_ne (Or.inl (tb hw 49 rfl)) (Or.inl (tb hw 92 rfl)) (by decide) (t := .byte) (t' := .int) (by decide) (by decide)))
 have wo := wo.wr W204
 have wm := wm.other W204 (Ne.symm wq)
 have we : fEQ Z h204 o0 (.int 8) := we.same W204
 have K204 := K202.wr W204 (Or.inl mm0)
 have N204 := Fr.snoc X204 N202 wy
 refine Ends.j 43 [] st204 ?_
 refine oA X204 hy d21_43 44 rfl ?_
 exact fA X204 hy hrt hlk hQQ d21_44 rfl rfl e204 (by decide) ⟨rfl, N204, K204, wh, wd, wb, we, wm, wo⟩
def Qsps5 (Z : State) (o0 o1 vb : Addr) (kb : ClassId) (tt : Addr) (kt : ClassId) (cs y0 y1 y2 y3 y4 : Int32) (h0 : Heap) (n0 : Nat) : QT := fun v h L => (v = some (.ref o0)) ∧ (Fr n0 L) ∧ (Keep h0 h [o0, vb]) ∧ (eBQ Z h o0) ∧ (fDQ Z h o0 (.ref vb)) ∧ (fCQ Z h o0 (.int 0)) ∧ (fEQ Z h o0 (.int 8)) ∧ (Arv Z h vb kb .byte 8 [.int 112, .int 48, .int 48, .int y0, .int y1, .int y2, .int y3, .int y4] (.int 0)) ∧ (eCQ Z h vb)
theorem rmsps5 (l : Launch) (Z : State) (a0 : Array Value) (hw : TW a0 Z) (ws : List Jvm.Cond) (o0 o1 vb : Addr) (kb : ClassId) (tt : Addr) (kt : ClassId) (cs y0 y1 y2 y3 y4 : Int32) (h0 : Heap) (n0 : Nat) (Z0 : n0 ≤ h0.size) (wh : eBQ Z h0 o0) (wd : fDQ Z h0 o0 (.ref vb)) (wb : fCQ Z h0 o0 (.int 0)) (we : fEQ Z h0 o0 (.int 3)) (wo : eCQ Z h0 vb) (wm : Arv Z h0 vb kb .byte 8 [.int 112, .int 48, .int 48, .int 0, .int 0, .int 0, .int 0, .int 0] (.int 0)) (wy : n0 ≤ o0) (ww : n0 ≤ vb) (wq : o0 ≠ vb) (wt : eAQ Z h0 o1) (wk : fBQ Z h0 o1 (.ref tt)) (wj : fAQ Z h0 o1 (.int 0)) (wH : eCQ Z h0 tt) (wE : Arv Z h0 tt kt .byte 5 [.int y0, .int y1, .int y2, .int y3, .int y4] (.int 0)) (wF : o1 ≠ tt) (wA : vb ≠ tt) (wG : o0 ≠ tt) (wD : o0 ≠ o1) (wI : vb ≠ o1) (wa : sHQ Z h0 (.int cs)) (hcs : ¬ cs = (0 : Int32)) :
  MF l mN4 jdk_67_method_7_code 2 (some (.object "java/lang/StringBuilder")) ws (rmm 4 0 0 67) #[.ref o0, .ref o1] Z h0 (Qsps5 Z o0 o1 vb kb tt kt cs y0 y1 y2 y3 y4 h0 n0) := by
 refine MF.of (plainFor_of_name pn_4) ?_
 intro p e s m below meth c s₁ QQ hy hml hown hZ X0 e0 hrt hlk hnm hQQ
 have N0 := Fr.nil n0
 refine Ends.i #[rv o0, rv o1] (oA X0 hy d20_0 1 rfl (oA X0 hy d20_1 2 rfl ?_))
 refine cU X0 hy hml hown hZ hw d20_2 5 0 123 124 96 88 126 40 rfl rfl rfl rfl rfl rfl rfl (rmaps5 l Z a0 hw [] o0 o1 vb kb tt kt cs y0 y1 y2 y3 y4 h0 n0 Z0 wh wd wb we wo wm wy ww wq wt wk wj wH wE wF wA wG wD wI wa hcs) e0 pd_12 wh rfl rfl fun _ T205 Lc205 X205 hQ205 => ?_
 obtain ⟨rfl, Nq205, Kq205, wh, wd, wb, we, wm, wo⟩ := hQ205
 have N205 := Fr.app N0 Nq205
 have K205 := (Keep.refl h0 [o0, vb]).trans Kq205 (allS (Or.inl mm0) (allS (Or.inl mm1) all0))
 refine Ends.v (oxe X205 hy d20_5 6 rfl (oA X205 hy d20_6 7 rfl ?_))
 exact fA X205 hy hrt hlk hQQ d20_7 rfl rfl rfl (by decide) ⟨rfl, N205, K205, wh, wd, wb, we, wm, wo⟩
def Qgb6 (Z : State) (o0 o1 : Addr) (kb : ClassId) (tt : Addr) (kt : ClassId) (cs y0 y1 y2 y3 y4 y5 : Int32) (h0 : Heap) (n0 : Nat) : QT := fun v h L => (v = none) ∧ (Fr n0 L) ∧ (Keep h0 h [o1]) ∧ (Arv Z h o1 kb .byte 8 [.int 112, .int 48, .int y0, .int y1, .int y2, .int y3, .int y4, .int y5] (.int 0))
theorem rmgb6 (l : Launch) (Z : State) (a0 : Array Value) (hw : TW a0 Z) (ws : List Jvm.Cond) (o0 o1 : Addr) (kb : ClassId) (tt : Addr) (kt : ClassId) (cs y0 y1 y2 y3 y4 y5 : Int32) (h0 : Heap) (n0 : Nat) (Z0 : n0 ≤ h0.size) (wh : eAQ Z h0 o0) (wd : fBQ Z h0 o0 (.ref tt)) (wb : fAQ Z h0 o0 (.int 0)) (wH : eCQ Z h0 tt) (wE : Arv Z h0 tt kt .byte 6 [.int y0, .int y1, .int y2, .int y3, .int y4, .int y5] (.int 0)) (wG : o0 ≠ tt) (vD : Arv Z h0 o1 kb .byte 8 [.int 112, .int 48, .int 0, .int 0, .int 0, .int 0, .int 0, .int 0] (.int 0)) (wK : n0 ≤ o1) (wF : o1 ≠ tt) (kM : o1 ≠ o0) (wa : sHQ Z h0 (.int cs)) (hcs : ¬ cs = (0 : Int32)) :
  MF l mN1 jdk_42_method_147_code 4 none ws (rmm 1 0 0 24) #[.ref o0, .ref o1, .int 2, .int 0] Z h0 (Qgb6 Z o0 o1 kb tt kt cs y0 y1 y2 y3 y4 y5 h0 n0) := by
 refine MF.of (plainFor_of_name pn_0) ?_
 intro p e s m below meth c s₁ QQ hy hml hown hZ X0 e0 hrt hlk hnm hQQ
 have hx := hy.1
 have hby := hy.2
 have N0 := Fr.nil n0
 refine Ends.i #[rv o0, rv o1, iv 2, iv 0] (oA X0 hy d24_0 1 rfl ?_)
 refine cV X0 hy hml hown hZ hw d24_1 4 0 112 113 115 114 116 44 rfl rfl rfl rfl rfl rfl (rmcod l Z a0 hw [] o0 cs h0 n0 Z0 wa hcs wb) e0 pd_0 wh rfl rfl fun _ T206 Lc206 X206 hQ206 => ?_
 obtain ⟨rfl, Nq206, hh206⟩ := hQ206
 have N206 := Fr.app N0 Nq206
 refine Ends.v (oC X206 hy d24_4 5 rfl (oxi X206 hy d24_5 8 (XT.ii_ne_f (by decide)) (oA X206 hy d24_8 9 rfl (gF X206 hy hown hZ hw hh206 wd d24_9 12 77 rfl fun T207 X207 e207 => oG X207 hy d24_12 13 0 rfl (oA X207 hy d24_13 14 rfl (oC X207 hy d24_14 15 rfl (oC X207 hy d24_15 16 rfl (oO X207 hy d24_16 17 ?_))))))))
 show Ends p e below QQ (T207.setTop (mkF m 17 #[rv o0, rv o1, iv 2, iv 0] [.int 2, .ref o1, .int 0, .ref tt]))
 refine oA X207 hy d24_17 18 rfl (gF X207 hy hown hZ hw e207 wd d24_18 21 77 rfl fun T208 X208 e208 => aLn X208 hy hZ e208 wE d24_21 22 ?_)
 obtain ⟨T210, h210, L210, X210, e210, N210, Kq210, AA210, st210⟩ := cpA X208 hx hZ hown (tb hw 144 rfl) (tb hw 147 rfl) (tb hw 145 rfl) (tb hw 146 rfl) e208 wE vD (Or.inl ⟨rfl, rfl⟩) (by decide) (by decide) (by decide) (by decide) (by decide) (us := [.int y0, .int y1, .int y2, .int y3, .int y4, .int y5]) (by rfl) (by decide) N206 wK (g := (mkF m 22 #[rv o0, rv o1, iv 2, iv 0] [.int 6, .int 2, .ref o1, .int 0, .ref tt])) rfl (by rw [hml]; rfl) rfl (hb hby d24_22) (by decide) (W := 0) (by show 2 * 0 + _ ≤ _; exact Nat.le_of_eq rfl) (by decide)
 have vD : Arv Z h210 o1 kb .byte 8 [.int 112, .int 48, .int y0, .int y1, .int y2, .int y3, .int y4, .int y5] (.int 0) := AA210
 have K210 := (Keep.refl h0 [o1]).trans Kq210 (allS (Or.inl mm0) all0)
 refine Ends.j 25 [] st210 ?_
 refine oxm X210 hy d24_25 43 ?_
 exact fV X210 hy hrt hlk hQQ d24_43 e210 (by decide) ⟨rfl, N210, K210, vD⟩
def Qps6 (Z : State) (o0 o2 vb : Addr) (kb : ClassId) (tt : Addr) (kt : ClassId) (cs y0 y1 y2 y3 y4 y5 : Int32) (h0 : Heap) (n0 : Nat) : QT := fun v h L => (v = none) ∧ (Fr n0 L) ∧ (Keep h0 h [vb]) ∧ (Arv Z h vb kb .byte 8 [.int 112, .int 48, .int y0, .int y1, .int y2, .int y3, .int y4, .int y5] (.int 0))
theorem rmps6 (l : Launch) (Z : State) (a0 : Array Value) (hw : TW a0 Z) (ws : List Jvm.Cond) (o0 o2 vb : Addr) (kb : ClassId) (tt : Addr) (kt : ClassId) (cs y0 y1 y2 y3 y4 y5 : Int32) (h0 : Heap) (n0 : Nat) (Z0 : n0 ≤ h0.size) (wh : eBQ Z h0 o0) (wd : fDQ Z h0 o0 (.ref vb)) (wb : fCQ Z h0 o0 (.int 0)) (we : fEQ Z h0 o0 (.int 2)) (wo : eCQ Z h0 vb) (wm : Arv Z h0 vb kb .byte 8 [.int 112, .int 48, .int 0, .int 0, .int 0, .int 0, .int 0, .int 0] (.int 0)) (wy : n0 ≤ o0) (ww : n0 ≤ vb) (wq : o0 ≠ vb) (vC : eAQ Z h0 o2) (wU : fBQ Z h0 o2 (.ref tt)) (wJ : fAQ Z h0 o2 (.int 0)) (wH : eCQ Z h0 tt) (wE : Arv Z h0 tt kt .byte 6 [.int y0, .int y1, .int y2, .int y3, .int y4, .int y5] (.int 0)) (vz : o2 ≠ tt) (wA : vb ≠ tt) (vy : vb ≠ o2) (wa : sHQ Z h0 (.int cs)) (hcs : ¬ cs = (0 : Int32)) :
  MF l mN2 jdk_68_method_73_code 3 none ws (rmm 2 0 0 39) #[.ref o0, .int 2, .ref o2] Z h0 (Qps6 Z o0 o2 vb kb tt kt cs y0 y1 y2 y3 y4 y5 h0 n0) := by
 refine MF.of (plainFor_of_name pn_3) ?_
 intro p e s m below meth c s₁ QQ hy hml hown hZ X0 e0 hrt hlk hnm hQQ
 have N0 := Fr.nil n0
 refine Ends.i #[rv o0, iv 2, rv o2] (oA X0 hy d22_0 1 rfl (oA X0 hy d22_1 2 rfl ?_))
 refine cP X0 hy hml hown hZ hw d22_2 5 0 133 134 96 135 137 40 rfl rfl rfl rfl rfl rfl rfl (rminf l Z a0 hw [] o0 o2 cs h0 n0 Z0 wa hcs wb vC wJ) e0 pd_8 wh rfl rfl fun _ T211 Lc211 X211 hQ211 => ?_
 obtain ⟨rfl, Nq211, hh211⟩ := hQ211
 have N211 := Fr.app N0 Nq211
 refine Ends.u (oA X211 hy d22_5 6 rfl (oA X211 hy d22_6 7 rfl (gF X211 hy hown hZ hw hh211 wd d22_7 10 46 rfl fun T212 X212 e212 => oC X212 hy d22_10 11 rfl (oA X212 hy d22_11 12 rfl (gF X212 hy hown hZ hw e212 wb d22_12 15 48 rfl fun T213 X213 e213 => ?_)))))
 refine cV X213 hy hml hown hZ hw d22_15 18 0 139 140 142 141 143 44 rfl rfl rfl rfl rfl rfl (rmgb6 l Z a0 hw [] o2 vb kb tt kt cs y0 y1 y2 y3 y4 y5 h0 n0 Z0 vC wU wJ wH wE vz wm ww wA vy wa hcs) e213 pd_9 vC rfl rfl fun _ T214 Lc214 X214 hQ214 => ?_
 obtain ⟨rfl, Nq214, Kq214, wm⟩ := hQ214
 have N214 := Fr.app N211 Nq214
 have K214 := (Keep.refl h0 [vb]).trans Kq214 (allS (Or.inl mm0) all0)
 refine Ends.u ?_
 exact fV X214 hy hrt hlk hQQ d22_18 rfl (by decide) ⟨rfl, N214, K214, wm⟩
def Qaps6 (Z : State) (o0 o1 vb : Addr) (kb : ClassId) (tt : Addr) (kt : ClassId) (cs y0 y1 y2 y3 y4 y5 : Int32) (h0 : Heap) (n0 : Nat) : QT := fun v h L => (v = some (.ref o0)) ∧ (Fr n0 L) ∧ (Keep h0 h [o0, vb]) ∧ (eBQ Z h o0) ∧ (fDQ Z h o0 (.ref vb)) ∧ (fCQ Z h o0 (.int 0)) ∧ (fEQ Z h o0 (.int 8)) ∧ (Arv Z h vb kb .byte 8 [.int 112, .int 48, .int y0, .int y1, .int y2, .int y3, .int y4, .int y5] (.int 0)) ∧ (eCQ Z h vb)
theorem rmaps6 (l : Launch) (Z : State) (a0 : Array Value) (hw : TW a0 Z) (ws : List Jvm.Cond) (o0 o1 vb : Addr) (kb : ClassId) (tt : Addr) (kt : ClassId) (cs y0 y1 y2 y3 y4 y5 : Int32) (h0 : Heap) (n0 : Nat) (Z0 : n0 ≤ h0.size) (wh : eBQ Z h0 o0) (wd : fDQ Z h0 o0 (.ref vb)) (wb : fCQ Z h0 o0 (.int 0)) (we : fEQ Z h0 o0 (.int 2)) (wo : eCQ Z h0 vb) (wm : Arv Z h0 vb kb .byte 8 [.int 112, .int 48, .int 0, .int 0, .int 0, .int 0, .int 0, .int 0] (.int 0)) (wy : n0 ≤ o0) (ww : n0 ≤ vb) (wq : o0 ≠ vb) (wt : eAQ Z h0 o1) (wk : fBQ Z h0 o1 (.ref tt)) (wj : fAQ Z h0 o1 (.int 0)) (wH : eCQ Z h0 tt) (wE : Arv Z h0 tt kt .byte 6 [.int y0, .int y1, .int y2, .int y3, .int y4, .int y5] (.int 0)) (wF : o1 ≠ tt) (wA : vb ≠ tt) (wG : o0 ≠ tt) (wD : o0 ≠ o1) (wI : vb ≠ o1) (wa : sHQ Z h0 (.int cs)) (hcs : ¬ cs = (0 : Int32)) :
  MF l mN3 jdk_68_method_22_code 3 (some (.object "java/lang/AbstractStringBuilder")) ws (rmm 3 0 0 53) #[.ref o0, .ref o1] Z h0 (Qaps6 Z o0 o1 vb kb tt kt cs y0 y1 y2 y3 y4 y5 h0 n0) := by
 refine MF.of (plainFor_of_name pn_3) ?_
 intro p e s m below meth c s₁ QQ hy hml hown hZ X0 e0 hrt hlk hnm hQQ
 have hx := hy.1
 have hby := hy.2
 have N0 := Fr.nil n0
 refine Ends.i #[rv o0, rv o1, uu] (oA X0 hy d21_0 1 rfl (oxn X0 hy d21_1 9 (oA X0 hy d21_9 10 rfl ?_)))
 refine cV X0 hy hml hown hZ hw d21_10 13 0 127 108 110 109 111 44 rfl rfl rfl rfl rfl rfl (rmlen l Z a0 hw [] o1 tt kt (6 : Int32) [.int y0, .int y1, .int y2, .int y3, .int y4, .int y5] cs h0 n0 Z0 wt wk wE wa hcs wj) e0 pd_10 wt rfl rfl fun _ T215 Lc215 X215 hQ215 => ?_
 obtain ⟨rfl, Nq215, hh215⟩ := hQ215
 have N215 := Fr.app N0 Nq215
 refine Ends.v (oxp X215 hy d21_13 14 #[rv o0, rv o1, iv 6] rfl (oA X215 hy d21_14 15 rfl (oA X215 hy d21_15 16 rfl (gF X215 hy hown hZ hw hh215 we d21_16 19 91 rfl fun T216 X216 e216 => oC X216 hy d21_19 20 rfl (oK X216 hy d21_20 21 ?_)))))
 show Ends p e below QQ (T216.setTop (mkF m 21 #[rv o0, rv o1, iv 6] [.int 8, .ref o0]))
 refine cP X216 hy hml hown hZ hw d21_21 24 0 93 94 96 95 97 40 rfl rfl rfl rfl rfl rfl rfl (rmens8_8 l Z a0 hw [] o0 vb kb [.int 112, .int 48, .int 0, .int 0, .int 0, .int 0, .int 0, .int 0] h0 n0 Z0 wd wb wm) e216 pd_5 wh rfl rfl fun _ T217 Lc217 X217 hQ217 => ?_
 obtain ⟨rfl, Nq217, hh217⟩ := hQ217
 have N217 := Fr.app N215 Nq217
 refine Ends.u (oA X217 hy d21_24 25 rfl (oA X217 hy d21_25 26 rfl (gF X217 hy hown hZ hw hh217 we d21_26 29 91 rfl fun T218 X218 e218 => oA X218 hy d21_29 30 rfl ?_)))
 refine cP X218 hy hml hown hZ hw d21_30 33 0 128 129 96 130 132 40 rfl rfl rfl rfl rfl rfl rfl (rmps6 l Z a0 hw [] o0 o1 vb kb tt kt cs y0 y1 y2 y3 y4 y5 h0 n0 Z0 wh wd wb we wo wm wy ww wq wt wk wj wH wE wF wA wI wa hcs) e218 pd_11 wh rfl rfl fun _ T219 Lc219 X219 hQ219 => ?_
 obtain ⟨rfl, Nq219, Kq219, wm⟩ := hQ219
 have N219 := Fr.app N217 Nq219
 have wh := wh.keep Kq219
 have wd := wd.keep Kq219 (ninS wq nin0)
 have wb := wb.keep Kq219 (ninS wq nin0)
 have we := we.keep Kq219 (ninS wq nin0)
 have wo := wo.keep Kq219
 have K219 := (Keep.refl h0 [o0, vb]).trans Kq219 (allS (Or.inl mm1) all0)
 refine Ends.u (oA X219 hy d21_33 34 rfl (oxd X219 hy d21_34 35 rfl (gF X219 hy hown hZ hw rfl we d21_35 38 91 rfl fun T220 X220 e220 => oC X220 hy d21_38 39 rfl (oK X220 hy d21_39 40 ?_))))
 show Ends p e below QQ (T220.setTop (mkF m 40 #[rv o0, rv o1, iv 6] [.int 8, .ref o0]))
 obtain ⟨T221, h221, X221, e221, W221, st221⟩ := putF X220 hx hZ hown (host := "") (Or.inl (tb hw 91 rfl)) Via.refl e220 we wh (Or.inl (tb hw 92 rfl)) (tb hw 31 rfl) (ty := .int) (by decide) rfl rfl (g := (mkF m 40 #[rv o0, rv o1, iv 6] [.int 8, .ref o0])) rfl rfl (hb hby d21_40)
 have wh := wh.wr W221
 have wd := wd.other W221 (Or.inr (slot_ne (Or.inl (tb hw 47 rfl)) (Or.inl (tb hw 92 rfl)) (by decide) (t := (.array .byte)) (t' := .int) (by decide) (by decide)))
 have wb := wb.other W221 (Or.inr (slot_ne (Or.inl (tb hw 49 rfl)) (Or.inl (tb hw 92 rfl)) (by decide) (t := .byte) (t' := .int) (by decide) (by decide)))
 have wo := wo.wr W221
 have wm := wm.other W221 (Ne.symm wq)
 have we : fEQ Z h221 o0 (.int 8) := we.same W221
 have K221 := K219.wr W221 (Or.inl mm0)
 have N221 := Fr.snoc X221 N219 wy
 refine Ends.j 43 [] st221 ?_
 refine oA X221 hy d21_43 44 rfl ?_
 exact fA X221 hy hrt hlk hQQ d21_44 rfl rfl e221 (by decide) ⟨rfl, N221, K221, wh, wd, wb, we, wm, wo⟩
def Qsps6 (Z : State) (o0 o1 vb : Addr) (kb : ClassId) (tt : Addr) (kt : ClassId) (cs y0 y1 y2 y3 y4 y5 : Int32) (h0 : Heap) (n0 : Nat) : QT := fun v h L => (v = some (.ref o0)) ∧ (Fr n0 L) ∧ (Keep h0 h [o0, vb]) ∧ (eBQ Z h o0) ∧ (fDQ Z h o0 (.ref vb)) ∧ (fCQ Z h o0 (.int 0)) ∧ (fEQ Z h o0 (.int 8)) ∧ (Arv Z h vb kb .byte 8 [.int 112, .int 48, .int y0, .int y1, .int y2, .int y3, .int y4, .int y5] (.int 0)) ∧ (eCQ Z h vb)
theorem rmsps6 (l : Launch) (Z : State) (a0 : Array Value) (hw : TW a0 Z) (ws : List Jvm.Cond) (o0 o1 vb : Addr) (kb : ClassId) (tt : Addr) (kt : ClassId) (cs y0 y1 y2 y3 y4 y5 : Int32) (h0 : Heap) (n0 : Nat) (Z0 : n0 ≤ h0.size) (wh : eBQ Z h0 o0) (wd : fDQ Z h0 o0 (.ref vb)) (wb : fCQ Z h0 o0 (.int 0)) (we : fEQ Z h0 o0 (.int 2)) (wo : eCQ Z h0 vb) (wm : Arv Z h0 vb kb .byte 8 [.int 112, .int 48, .int 0, .int 0, .int 0, .int 0, .int 0, .int 0] (.int 0)) (wy : n0 ≤ o0) (ww : n0 ≤ vb) (wq : o0 ≠ vb) (wt : eAQ Z h0 o1) (wk : fBQ Z h0 o1 (.ref tt)) (wj : fAQ Z h0 o1 (.int 0)) (wH : eCQ Z h0 tt) (wE : Arv Z h0 tt kt .byte 6 [.int y0, .int y1, .int y2, .int y3, .int y4, .int y5] (.int 0)) (wF : o1 ≠ tt) (wA : vb ≠ tt) (wG : o0 ≠ tt) (wD : o0 ≠ o1) (wI : vb ≠ o1) (wa : sHQ Z h0 (.int cs)) (hcs : ¬ cs = (0 : Int32)) :
  MF l mN4 jdk_67_method_7_code 2 (some (.object "java/lang/StringBuilder")) ws (rmm 4 0 0 67) #[.ref o0, .ref o1] Z h0 (Qsps6 Z o0 o1 vb kb tt kt cs y0 y1 y2 y3 y4 y5 h0 n0) := by
 refine MF.of (plainFor_of_name pn_4) ?_
 intro p e s m below meth c s₁ QQ hy hml hown hZ X0 e0 hrt hlk hnm hQQ
 have N0 := Fr.nil n0
 refine Ends.i #[rv o0, rv o1] (oA X0 hy d20_0 1 rfl (oA X0 hy d20_1 2 rfl ?_))
 refine cU X0 hy hml hown hZ hw d20_2 5 0 123 124 96 88 126 40 rfl rfl rfl rfl rfl rfl rfl (rmaps6 l Z a0 hw [] o0 o1 vb kb tt kt cs y0 y1 y2 y3 y4 y5 h0 n0 Z0 wh wd wb we wo wm wy ww wq wt wk wj wH wE wF wA wG wD wI wa hcs) e0 pd_12 wh rfl rfl fun _ T222 Lc222 X222 hQ222 => ?_
 obtain ⟨rfl, Nq222, Kq222, wh, wd, wb, we, wm, wo⟩ := hQ222
 have N222 := Fr.app N0 Nq222
 have K222 := (Keep.refl h0 [o0, vb]).trans Kq222 (allS (Or.inl mm0) (allS (Or.inl mm1) all0))
 refine Ends.v (oxe X222 hy d20_5 6 rfl (oA X222 hy d20_6 7 rfl ?_))
 exact fA X222 hy hrt hlk hQQ d20_7 rfl rfl rfl (by decide) ⟨rfl, N222, K222, wh, wd, wb, we, wm, wo⟩
def Qgb7 (Z : State) (o0 o1 : Addr) (kb : ClassId) (tt : Addr) (kt : ClassId) (cs y0 y1 y2 y3 y4 y5 y6 : Int32) (h0 : Heap) (n0 : Nat) : QT := fun v h L => (v = none) ∧ (Fr n0 L) ∧ (Keep h0 h [o1]) ∧ (Arv Z h o1 kb .byte 8 [.int 112, .int y0, .int y1, .int y2, .int y3, .int y4, .int y5, .int y6] (.int 0))
theorem rmgb7 (l : Launch) (Z : State) (a0 : Array Value) (hw : TW a0 Z) (ws : List Jvm.Cond) (o0 o1 : Addr) (kb : ClassId) (tt : Addr) (kt : ClassId) (cs y0 y1 y2 y3 y4 y5 y6 : Int32) (h0 : Heap) (n0 : Nat) (Z0 : n0 ≤ h0.size) (wh : eAQ Z h0 o0) (wd : fBQ Z h0 o0 (.ref tt)) (wb : fAQ Z h0 o0 (.int 0)) (wH : eCQ Z h0 tt) (wE : Arv Z h0 tt kt .byte 7 [.int y0, .int y1, .int y2, .int y3, .int y4, .int y5, .int y6] (.int 0)) (wG : o0 ≠ tt) (vD : Arv Z h0 o1 kb .byte 8 [.int 112, .int 0, .int 0, .int 0, .int 0, .int 0, .int 0, .int 0] (.int 0)) (wK : n0 ≤ o1) (wF : o1 ≠ tt) (kM : o1 ≠ o0) (wa : sHQ Z h0 (.int cs)) (hcs : ¬ cs = (0 : Int32)) :
  MF l mN1 jdk_42_method_147_code 4 none ws (rmm 1 0 0 24) #[.ref o0, .ref o1, .int 1, .int 0] Z h0 (Qgb7 Z o0 o1 kb tt kt cs y0 y1 y2 y3 y4 y5 y6 h0 n0) := by
 refine MF.of (plainFor_of_name pn_0) ?_
 intro p e s m below meth c s₁ QQ hy hml hown hZ X0 e0 hrt hlk hnm hQQ
 have hx := hy.1
 have hby := hy.2
 have N0 := Fr.nil n0
 refine Ends.i #[rv o0, rv o1, iv 1, iv 0] (oA X0 hy d24_0 1 rfl ?_)
 refine cV X0 hy hml hown hZ hw d24_1 4 0 112 113 115 114 116 44 rfl rfl rfl rfl rfl rfl (rmcod l Z a0 hw [] o0 cs h0 n0 Z0 wa hcs wb) e0 pd_0 wh rfl rfl fun _ T223 Lc223 X223 hQ223 => ?_
 obtain ⟨rfl, Nq223, hh223⟩ := hQ223
 have N223 := Fr.app N0 Nq223
 refine Ends.v (oC X223 hy d24_4 5 rfl (oxi X223 hy d24_5 8 (XT.ii_ne_f (by decide)) (oA X223 hy d24_8 9 rfl (gF X223 hy hown hZ hw hh223 wd d24_9 12 77 rfl fun T224 X224 e224 => oG X224 hy d24_12 13 0 rfl (oA X224 hy d24_13 14 rfl (oC X224 hy d24_14 15 rfl (oC X224 hy d24_15 16 rfl (oO X224 hy d24_16 17 ?_))))))))
 show Ends p e below QQ (T224.setTop (mkF m 17 #[rv o0, rv o1, iv 1, iv 0] [.int 1, .ref o1, .int 0, .ref tt]))
 refine oA X224 hy d24_17 18 rfl (gF X224 hy hown hZ hw e224 wd d24_18 21 77 rfl fun T225 X225 e225 => aLn X225 hy hZ e225 wE d24_21 22 ?_)
 obtain ⟨T227, h227, L227, X227, e227, N227, Kq227, AA227, st227⟩ := cpA X225 hx hZ hown (tb hw 144 rfl) (tb hw 147 rfl) (tb hw 145 rfl) (tb hw 146 rfl) e225 wE vD (Or.inl ⟨rfl, rfl⟩) (by decide) (by decide) (by decide) (by decide) (by decide) (us := [.int y0, .int y1, .int y2, .int y3, .int y4, .int y5, .int y6]) (by rfl) (by decide) N223 wK (g := (mkF m 22 #[rv o0, rv o1, iv 1, iv 0] [.int 7, .int 1, .ref o1, .int 0, .ref tt])) rfl (by rw [hml]; rfl) rfl (hb hby d24_22) (by decide) (W := 0) (by show 2 * 0 + _ ≤ _; exact Nat.le_of_eq rfl) (by decide)
 have vD : Arv Z h227 o1 kb .byte 8 [.int 112, .int y0, .int y1, .int y2, .int y3, .int y4, .int y5, .int y6] (.int 0) := AA227
 have K227 := (Keep.refl h0 [o1]).trans Kq227 (allS (Or.inl mm0) all0)
 refine Ends.j 25 [] st227 ?_
 refine oxm X227 hy d24_25 43 ?_
 exact fV X227 hy hrt hlk hQQ d24_43 e227 (by decide) ⟨rfl, N227, K227, vD⟩
def Qps7 (Z : State) (o0 o2 vb : Addr) (kb : ClassId) (tt : Addr) (kt : ClassId) (cs y0 y1 y2 y3 y4 y5 y6 : Int32) (h0 : Heap) (n0 : Nat) : QT := fun v h L => (v = none) ∧ (Fr n0 L) ∧ (Keep h0 h [vb]) ∧ (Arv Z h vb kb .byte 8 [.int 112, .int y0, .int y1, .int y2, .int y3, .int y4, .int y5, .int y6] (.int 0))
theorem rmps7 (l : Launch) (Z : State) (a0 : Array Value) (hw : TW a0 Z) (ws : List Jvm.Cond) (o0 o2 vb : Addr) (kb : ClassId) (tt : Addr) (kt : ClassId) (cs y0 y1 y2 y3 y4 y5 y6 : Int32) (h0 : Heap) (n0 : Nat) (Z0 : n0 ≤ h0.size) (wh : eBQ Z h0 o0) (wd : fDQ Z h0 o0 (.ref vb)) (wb : fCQ Z h0 o0 (.int 0)) (we : fEQ Z h0 o0 (.int 1)) (wo : eCQ Z h0 vb) (wm : Arv Z h0 vb kb .byte 8 [.int 112, .int 0, .int 0, .int 0, .int 0, .int 0, .int 0, .int 0] (.int 0)) (wy : n0 ≤ o0) (ww : n0 ≤ vb) (wq : o0 ≠ vb) (vC : eAQ Z h0 o2) (wU : fBQ Z h0 o2 (.ref tt)) (wJ : fAQ Z h0 o2 (.int 0)) (wH : eCQ Z h0 tt) (wE : Arv Z h0 tt kt .byte 7 [.int y0, .int y1, .int y2, .int y3, .int y4, .int y5, .int y6] (.int 0)) (vz : o2 ≠ tt) (wA : vb ≠ tt) (vy : vb ≠ o2) (wa : sHQ Z h0 (.int cs)) (hcs : ¬ cs = (0 : Int32)) :
  MF l mN2 jdk_68_method_73_code 3 none ws (rmm 2 0 0 39) #[.ref o0, .int 1, .ref o2] Z h0 (Qps7 Z o0 o2 vb kb tt kt cs y0 y1 y2 y3 y4 y5 y6 h0 n0) := by
 refine MF.of (plainFor_of_name pn_3) ?_
 intro p e s m below meth c s₁ QQ hy hml hown hZ X0 e0 hrt hlk hnm hQQ
 have N0 := Fr.nil n0
 refine Ends.i #[rv o0, iv 1, rv o2] (oA X0 hy d22_0 1 rfl (oA X0 hy d22_1 2 rfl ?_))
 refine cP X0 hy hml hown hZ hw d22_2 5 0 133 134 96 135 137 40 rfl rfl rfl rfl rfl rfl rfl (rminf l Z a0 hw [] o0 o2 cs h0 n0 Z0 wa hcs wb vC wJ) e0 pd_8 wh rfl rfl fun _ T228 Lc228 X228 hQ228 => ?_
 obtain ⟨rfl, Nq228, hh228⟩ := hQ228
 have N228 := Fr.app N0 Nq228
 refine Ends.u (oA X228 hy d22_5 6 rfl (oA X228 hy d22_6 7 rfl (gF X228 hy hown hZ hw hh228 wd d22_7 10 46 rfl fun T229 X229 e229 => oC X229 hy d22_10 11 rfl (oA X229 hy d22_11 12 rfl (gF X229 hy hown hZ hw e229 wb d22_12 15 48 rfl fun T230 X230 e230 => ?_)))))
 refine cV X230 hy hml hown hZ hw d22_15 18 0 139 140 142 141 143 44 rfl rfl rfl rfl rfl rfl (rmgb7 l Z a0 hw [] o2 vb kb tt kt cs y0 y1 y2 y3 y4 y5 y6 h0 n0 Z0 vC wU wJ wH wE vz wm ww wA vy wa hcs) e230 pd_9 vC rfl rfl fun _ T231 Lc231 X231 hQ231 => ?_
 obtain ⟨rfl, Nq231, Kq231, wm⟩ := hQ231
 have N231 := Fr.app N228 Nq231
 have K231 := (Keep.refl h0 [vb]).trans Kq231 (allS (Or.inl mm0) all0)
 refine Ends.u ?_
 exact fV X231 hy hrt hlk hQQ d22_18 rfl (by decide) ⟨rfl, N231, K231, wm⟩
def Qaps7 (Z : State) (o0 o1 vb : Addr) (kb : ClassId) (tt : Addr) (kt : ClassId) (cs y0 y1 y2 y3 y4 y5 y6 : Int32) (h0 : Heap) (n0 : Nat) : QT := fun v h L => (v = some (.ref o0)) ∧ (Fr n0 L) ∧ (Keep h0 h [o0, vb]) ∧ (eBQ Z h o0) ∧ (fDQ Z h o0 (.ref vb)) ∧ (fCQ Z h o0 (.int 0)) ∧ (fEQ Z h o0 (.int 8)) ∧ (Arv Z h vb kb .byte 8 [.int 112, .int y0, .int y1, .int y2, .int y3, .int y4, .int y5, .int y6] (.int 0)) ∧ (eCQ Z h vb)
theorem rmaps7 (l : Launch) (Z : State) (a0 : Array Value) (hw : TW a0 Z) (ws : List Jvm.Cond) (o0 o1 vb : Addr) (kb : ClassId) (tt : Addr) (kt : ClassId) (cs y0 y1 y2 y3 y4 y5 y6 : Int32) (h0 : Heap) (n0 : Nat) (Z0 : n0 ≤ h0.size) (wh : eBQ Z h0 o0) (wd : fDQ Z h0 o0 (.ref vb)) (wb : fCQ Z h0 o0 (.int 0)) (we : fEQ Z h0 o0 (.int 1)) (wo : eCQ Z h0 vb) (wm : Arv Z h0 vb kb .byte 8 [.int 112, .int 0, .int 0, .int 0, .int 0, .int 0, .int 0, .int 0] (.int 0)) (wy : n0 ≤ o0) (ww : n0 ≤ vb) (wq : o0 ≠ vb) (wt : eAQ Z h0 o1) (wk : fBQ Z h0 o1 (.ref tt)) (wj : fAQ Z h0 o1 (.int 0)) (wH : eCQ Z h0 tt) (wE : Arv Z h0 tt kt .byte 7 [.int y0, .int y1, .int y2, .int y3, .int y4, .int y5, .int y6] (.int 0)) (wF : o1 ≠ tt) (wA : vb ≠ tt) (wG : o0 ≠ tt) (wD : o0 ≠ o1) (wI : vb ≠ o1) (wa : sHQ Z h0 (.int cs)) (hcs : ¬ cs = (0 : Int32)) :
  MF l mN3 jdk_68_method_22_code 3 (some (.object "java/lang/AbstractStringBuilder")) ws (rmm 3 0 0 53) #[.ref o0, .ref o1] Z h0 (Qaps7 Z o0 o1 vb kb tt kt cs y0 y1 y2 y3 y4 y5 y6 h0 n0) := by
 refine MF.of (plainFor_of_name pn_3) ?_
 intro p e s m below meth c s₁ QQ hy hml hown hZ X0 e0 hrt hlk hnm hQQ
 have hx := hy.1
 have hby := hy.2
 have N0 := Fr.nil n0
 refine Ends.i #[rv o0, rv o1, uu] (oA X0 hy d21_0 1 rfl (oxn X0 hy d21_1 9 (oA X0 hy d21_9 10 rfl ?_)))
 refine cV X0 hy hml hown hZ hw d21_10 13 0 127 108 110 109 111 44 rfl rfl rfl rfl rfl rfl (rmlen l Z a0 hw [] o1 tt kt (7 : Int32) [.int y0, .int y1, .int y2, .int y3, .int y4, .int y5, .int y6] cs h0 n0 Z0 wt wk wE wa hcs wj) e0 pd_10 wt rfl rfl fun _ T232 Lc232 X232 hQ232 => ?_
 obtain ⟨rfl, Nq232, hh232⟩ := hQ232
 have N232 := Fr.app N0 Nq232
 refine Ends.v (oxp X232 hy d21_13 14 #[rv o0, rv o1, iv 7] rfl (oA X232 hy d21_14 15 rfl (oA X232 hy d21_15 16 rfl (gF X232 hy hown hZ hw hh232 we d21_16 19 91 rfl fun T233 X233 e233 => oC X233 hy d21_19 20 rfl (oK X233 hy d21_20 21 ?_)))))
 show Ends p e below QQ (T233.setTop (mkF m 21 #[rv o0, rv o1, iv 7] [.int 8, .ref o0]))
 refine cP X233 hy hml hown hZ hw d21_21 24 0 93 94 96 95 97 40 rfl rfl rfl rfl rfl rfl rfl (rmens8_8 l Z a0 hw [] o0 vb kb [.int 112, .int 0, .int 0, .int 0, .int 0, .int 0, .int 0, .int 0] h0 n0 Z0 wd wb wm) e233 pd_5 wh rfl rfl fun _ T234 Lc234 X234 hQ234 => ?_
 obtain ⟨rfl, Nq234, hh234⟩ := hQ234
 have N234 := Fr.app N232 Nq234
 refine Ends.u (oA X234 hy d21_24 25 rfl (oA X234 hy d21_25 26 rfl (gF X234 hy hown hZ hw hh234 we d21_26 29 91 rfl fun T235 X235 e235 => oA X235 hy d21_29 30 rfl ?_)))
 refine cP X235 hy hml hown hZ hw d21_30 33 0 128 129 96 130 132 40 rfl rfl rfl rfl rfl rfl rfl (rmps7 l Z a0 hw [] o0 o1 vb kb tt kt cs y0 y1 y2 y3 y4 y5 y6 h0 n0 Z0 wh wd wb we wo wm wy ww wq wt wk wj wH wE wF wA wI wa hcs) e235 pd_11 wh rfl rfl fun _ T236 Lc236 X236 hQ236 => ?_
 obtain ⟨rfl, Nq236, Kq236, wm⟩ := hQ236
 have N236 := Fr.app N234 Nq236
 have wh := wh.keep Kq236
 have wd := wd.keep Kq236 (ninS wq nin0)
 have wb := wb.keep Kq236 (ninS wq nin0)
 have we := we.keep Kq236 (ninS wq nin0)
 have wo := wo.keep Kq236
 have K236 := (Keep.refl h0 [o0, vb]).trans Kq236 (allS (Or.inl mm1) all0)
 refine Ends.u (oA X236 hy d21_33 34 rfl (oxd X236 hy d21_34 35 rfl (gF X236 hy hown hZ hw rfl we d21_35 38 91 rfl fun T237 X237 e237 => oC X237 hy d21_38 39 rfl (oK X237 hy d21_39 40 ?_))))
 show Ends p e below QQ (T237.setTop (mkF m 40 #[rv o0, rv o1, iv 7] [.int 8, .ref o0]))
 obtain ⟨T238, h238, X238, e238, W238, st238⟩ := putF X237 hx hZ hown (host := "") (Or.inl (tb hw 91 rfl)) Via.refl e237 we wh (Or.inl (tb hw 92 rfl)) (tb hw 31 rfl) (ty := .int) (by decide) rfl rfl (g := (mkF m 40 #[rv o0, rv o1, iv 7] [.int 8, .ref o0])) rfl rfl (hb hby d21_40)
 have wh := wh.wr W238
 have wd := wd.other W238 (Or.inr (slot_ne (Or.inl (tb hw 47 rfl)) (Or.inl (tb hw 92 rfl)) (by decide) (t := (.array .byte)) (t' := .int) (by decide) (by decide)))
 have wb := wb.other W238 (Or.inr (slot_ne (Or.inl (tb hw 49 rfl)) (Or.inl (tb hw 92 rfl)) (by decide) (t := .byte) (t' := .int) (by decide) (by decide)))
 have wo := wo.wr W238
 have wm := wm.other W238 (Ne.symm wq)
 have we : fEQ Z h238 o0 (.int 8) := we.same W238
 have K238 := K236.wr W238 (Or.inl mm0)
 have N238 := Fr.snoc X238 N236 wy
 refine Ends.j 43 [] st238 ?_
 refine oA X238 hy d21_43 44 rfl ?_
 exact fA X238 hy hrt hlk hQQ d21_44 rfl rfl e238 (by decide) ⟨rfl, N238, K238, wh, wd, wb, we, wm, wo⟩
def Qsps7 (Z : State) (o0 o1 vb : Addr) (kb : ClassId) (tt : Addr) (kt : ClassId) (cs y0 y1 y2 y3 y4 y5 y6 : Int32) (h0 : Heap) (n0 : Nat) : QT := fun v h L => (v = some (.ref o0)) ∧ (Fr n0 L) ∧ (Keep h0 h [o0, vb]) ∧ (eBQ Z h o0) ∧ (fDQ Z h o0 (.ref vb)) ∧ (fCQ Z h o0 (.int 0)) ∧ (fEQ Z h o0 (.int 8)) ∧ (Arv Z h vb kb .byte 8 [.int 112, .int y0, .int y1, .int y2, .int y3, .int y4, .int y5, .int y6] (.int 0)) ∧ (eCQ Z h vb)
theorem rmsps7 (l : Launch) (Z : State) (a0 : Array Value) (hw : TW a0 Z) (ws : List Jvm.Cond) (o0 o1 vb : Addr) (kb : ClassId) (tt : Addr) (kt : ClassId) (cs y0 y1 y2 y3 y4 y5 y6 : Int32) (h0 : Heap) (n0 : Nat) (Z0 : n0 ≤ h0.size) (wh : eBQ Z h0 o0) (wd : fDQ Z h0 o0 (.ref vb)) (wb : fCQ Z h0 o0 (.int 0)) (we : fEQ Z h0 o0 (.int 1)) (wo : eCQ Z h0 vb) (wm : Arv Z h0 vb kb .byte 8 [.int 112, .int 0, .int 0, .int 0, .int 0, .int 0, .int 0, .int 0] (.int 0)) (wy : n0 ≤ o0) (ww : n0 ≤ vb) (wq : o0 ≠ vb) (wt : eAQ Z h0 o1) (wk : fBQ Z h0 o1 (.ref tt)) (wj : fAQ Z h0 o1 (.int 0)) (wH : eCQ Z h0 tt) (wE : Arv Z h0 tt kt .byte 7 [.int y0, .int y1, .int y2, .int y3, .int y4, .int y5, .int y6] (.int 0)) (wF : o1 ≠ tt) (wA : vb ≠ tt) (wG : o0 ≠ tt) (wD : o0 ≠ o1) (wI : vb ≠ o1) (wa : sHQ Z h0 (.int cs)) (hcs : ¬ cs = (0 : Int32)) :
  MF l mN4 jdk_67_method_7_code 2 (some (.object "java/lang/StringBuilder")) ws (rmm 4 0 0 67) #[.ref o0, .ref o1] Z h0 (Qsps7 Z o0 o1 vb kb tt kt cs y0 y1 y2 y3 y4 y5 y6 h0 n0) := by
 refine MF.of (plainFor_of_name pn_4) ?_
 intro p e s m below meth c s₁ QQ hy hml hown hZ X0 e0 hrt hlk hnm hQQ
 have N0 := Fr.nil n0
 refine Ends.i #[rv o0, rv o1] (oA X0 hy d20_0 1 rfl (oA X0 hy d20_1 2 rfl ?_))
 refine cU X0 hy hml hown hZ hw d20_2 5 0 123 124 96 88 126 40 rfl rfl rfl rfl rfl rfl rfl (rmaps7 l Z a0 hw [] o0 o1 vb kb tt kt cs y0 y1 y2 y3 y4 y5 y6 h0 n0 Z0 wh wd wb we wo wm wy ww wq wt wk wj wH wE wF wA wG wD wI wa hcs) e0 pd_12 wh rfl rfl fun _ T239 Lc239 X239 hQ239 => ?_
 obtain ⟨rfl, Nq239, Kq239, wh, wd, wb, we, wm, wo⟩ := hQ239
 have N239 := Fr.app N0 Nq239
 have K239 := (Keep.refl h0 [o0, vb]).trans Kq239 (allS (Or.inl mm0) (allS (Or.inl mm1) all0))
 refine Ends.v (oxe X239 hy d20_5 6 rfl (oA X239 hy d20_6 7 rfl ?_))
 exact fA X239 hy hrt hlk hQQ d20_7 rfl rfl rfl (by decide) ⟨rfl, N239, K239, wh, wd, wb, we, wm, wo⟩
theorem d40_0 : decode cD34 0 = .ok (.iload_n 0, 1) := by decide +kernel
theorem d40_1 : decode cD34 1 = .ok (.iload_n 1, 1) := by decide +kernel
theorem d40_2 : decode cD34 2 = .ok (.if_icmp .lt 7, 3) := by decide +kernel
theorem d40_9 : decode cD34 9 = .ok (.iload_n 1, 1) := by decide +kernel
theorem d40_10 : decode cD34 10 = .ok (.ireturn, 1) := by decide +kernel
def Qmx9 (Z : State)  (h0 : Heap) (n0 : Nat) : QT := fun v h L => (v = some (.int 10)) ∧ (Fr n0 L) ∧ (h = h0)
theorem rmmx9 (l : Launch) (Z : State) (a0 : Array Value) (hw : TW a0 Z) (ws : List Jvm.Cond)  (h0 : Heap) (n0 : Nat) (Z0 : n0 ≤ h0.size) :
  MF l mN19 jdk_29_method_65_code 2 (some .int) ws (rmm 0 0 0 0) #[.int 1, .int 10] Z h0 (Qmx9 Z  h0 n0) := by
 refine MF.of (Jvm.Free.JP.mathPlain rfl (by decide +kernel)) ?_
 intro p e s m below meth c s₁ QQ hy hml hown hZ X0 e0 hrt hlk hnm hQQ
 have N0 := Fr.nil n0
 refine Ends.i #[iv 1, iv 10] (oC X0 hy d40_0 1 rfl (oC X0 hy d40_1 2 rfl (oxl X0 hy d40_2 9 (XT.ii_lt_t (by decide)) (oC X0 hy d40_9 10 rfl ?_))))
 exact fI X0 hy hrt hlk hQQ d40_10 rfl (Or.inl rfl) e0 (by decide) ⟨rfl, N0, rfl⟩
theorem d39_0 : decode cD15 0 = .ok (.iload_n 0, 1) := by decide +kernel
theorem d39_1 : decode cD15 1 = .ok (.iload_n 1, 1) := by decide +kernel
theorem d39_2 : decode cD15 2 = .ok (.iload_n 2, 1) := by decide +kernel
theorem d39_3 : decode cD15 3 = .ok (.invokestatic 194, 3) := by decide +kernel
theorem d39_6 : decode cD15 6 = .ok (.iadd, 1) := by decide +kernel
theorem d39_7 : decode cD15 7 = .ok (.istore_n 3, 1) := by decide +kernel
theorem d39_8 : decode cD15 8 = .ok (.iconst 0, 1) := by decide +kernel
theorem d39_9 : decode cD15 9 = .ok (.iload_n 3, 1) := by decide +kernel
theorem d39_10 : decode cD15 10 = .ok (.if_icmp .ge 11, 3) := by decide +kernel
theorem d39_13 : decode cD15 13 = .ok (.iload_n 3, 1) := by decide +kernel
theorem d39_14 : decode cD15 14 = .ok (.ldc 200, 2) := by decide +kernel
theorem d39_16 : decode cD15 16 = .ok (.if_icmp .gt 5, 3) := by decide +kernel
theorem d39_19 : decode cD15 19 = .ok (.iload_n 3, 1) := by decide +kernel
theorem d39_20 : decode cD15 20 = .ok (.ireturn, 1) := by decide +kernel
def Qnl9 (Z : State)  (h0 : Heap) (n0 : Nat) : QT := fun v h L => (v = some (.int 18)) ∧ (Fr n0 L) ∧ (h = h0)
theorem rmnl9 (l : Launch) (Z : State) (a0 : Array Value) (hw : TW a0 Z) (ws : List Jvm.Cond)  (h0 : Heap) (n0 : Nat) (Z0 : n0 ≤ h0.size) :
  MF l mN20 jdk_48_method_27_code 4 (some .int) ws (rmm 1 0 0 14) #[.int 8, .int 1, .int 10] Z h0 (Qnl9 Z  h0 n0) := by
 refine MF.of (plainFor_of_name pn_5) ?_
 intro p e s m below meth c s₁ QQ hy hml hown hZ X0 e0 hrt hlk hnm hQQ
 have hx := hy.1
 have hby := hy.2
 have N0 := Fr.nil n0
 refine Ends.i #[iv 8, iv 1, iv 10, uu] (oC X0 hy d39_0 1 rfl (oC X0 hy d39_1 2 rfl (oC X0 hy d39_2 3 rfl ?_)))
 refine cS X0 hy hml hown hZ hw d39_3 6 1 228 229 4 230 rfl rfl rfl rfl (rmmx9 l Z a0 hw []  h0 n0 Z0) e0 pd_13 rfl rfl fun _ T240 Lc240 X240 hQ240 => ?_
 obtain ⟨rfl, Nq240, hh240⟩ := hQ240
 have N240 := Fr.app N0 Nq240
 refine Ends.v (oK X240 hy d39_6 7 ?_)
 show Ends p e below QQ (T240.setTop (mkF m 7 #[iv 8, iv 1, iv 10, uu] [.int 18]))
 refine oxp X240 hy d39_7 8 #[iv 8, iv 1, iv 10, iv 18] rfl (oG X240 hy d39_8 9 0 rfl (oC X240 hy d39_9 10 rfl (oxi X240 hy d39_10 13 (XT.ii_ge_f (by decide)) (oC X240 hy d39_13 14 rfl ?_))))
 refine Ends.step (fun _ k => X240.ldcI hx hown (mvT hZ (tb hw 231 rfl)) (g := (mkF m 14 #[iv 8, iv 1, iv 10, iv 18] [.int 18])) rfl (hb hby d39_14) k) ?_
 show Ends p e below QQ (T240.setTop (mkF m 16 #[iv 8, iv 1, iv 10, iv 18] [.int 2147483639, .int 18]))
 refine oxi X240 hy d39_16 19 (XT.ii_gt_f (by decide)) (oC X240 hy d39_19 20 rfl ?_)
 exact fI X240 hy hrt hlk hQQ d39_20 rfl (Or.inl rfl) hh240 (by decide) ⟨rfl, N240, rfl⟩
theorem d38_0 : decode cD3 0 = .ok (.aload_n 0, 1) := by decide +kernel
theorem d38_1 : decode cD3 1 = .ok (.getfield 15, 3) := by decide +kernel
theorem d38_4 : decode cD3 4 = .ok (.arraylength, 1) := by decide +kernel
theorem d38_5 : decode cD3 5 = .ok (.istore_n 2, 1) := by decide +kernel
theorem d38_6 : decode cD3 6 = .ok (.iload_n 1, 1) := by decide +kernel
theorem d38_7 : decode cD3 7 = .ok (.aload_n 0, 1) := by decide +kernel
theorem d38_8 : decode cD3 8 = .ok (.getfield 22, 3) := by decide +kernel
theorem d38_11 : decode cD3 11 = .ok (.ishl, 1) := by decide +kernel
theorem d38_12 : decode cD3 12 = .ok (.istore_n 3, 1) := by decide +kernel
theorem d38_13 : decode cD3 13 = .ok (.iload_n 3, 1) := by decide +kernel
theorem d38_14 : decode cD3 14 = .ok (.iload_n 2, 1) := by decide +kernel
theorem d38_15 : decode cD3 15 = .ok (.isub, 1) := by decide +kernel
theorem d38_16 : decode cD3 16 = .ok (.istore 4, 2) := by decide +kernel
theorem d38_18 : decode cD3 18 = .ok (.iload_n 2, 1) := by decide +kernel
theorem d38_19 : decode cD3 19 = .ok (.iload 4, 2) := by decide +kernel
theorem d38_21 : decode cD3 21 = .ok (.iload_n 2, 1) := by decide +kernel
theorem d38_22 : decode cD3 22 = .ok (.iconst 2, 1) := by decide +kernel
theorem d38_23 : decode cD3 23 = .ok (.aload_n 0, 1) := by decide +kernel
theorem d38_24 : decode cD3 24 = .ok (.getfield 22, 3) := by decide +kernel
theorem d38_27 : decode cD3 27 = .ok (.ishl, 1) := by decide +kernel
theorem d38_28 : decode cD3 28 = .ok (.iadd, 1) := by decide +kernel
theorem d38_29 : decode cD3 29 = .ok (.invokestatic 114, 3) := by decide +kernel
theorem d38_32 : decode cD3 32 = .ok (.istore 5, 2) := by decide +kernel
theorem d38_34 : decode cD3 34 = .ok (.iload 5, 2) := by decide +kernel
theorem d38_36 : decode cD3 36 = .ok (.ldc 39, 2) := by decide +kernel
theorem d38_38 : decode cD3 38 = .ok (.if_icmp .ne 13, 3) := by decide +kernel
theorem d38_51 : decode cD3 51 = .ok (.iload 5, 2) := by decide +kernel
theorem d38_53 : decode cD3 53 = .ok (.aload_n 0, 1) := by decide +kernel
theorem d38_54 : decode cD3 54 = .ok (.getfield 22, 3) := by decide +kernel
theorem d38_57 : decode cD3 57 = .ok (.ishr, 1) := by decide +kernel
theorem d38_58 : decode cD3 58 = .ok (.ireturn, 1) := by decide +kernel
def Qnc9 (Z : State) (o0 vb : Addr) (kb : ClassId) (vs : List Value) (h0 : Heap) (n0 : Nat) : QT := fun v h L => (v = some (.int 18)) ∧ (Fr n0 L) ∧ (h = h0)
theorem rmnc9 (l : Launch) (Z : State) (a0 : Array Value) (hw : TW a0 Z) (ws : List Jvm.Cond) (o0 vb : Addr) (kb : ClassId) (vs : List Value) (h0 : Heap) (n0 : Nat) (Z0 : n0 ≤ h0.size) (wd : fDQ Z h0 o0 (.ref vb)) (wb : fCQ Z h0 o0 (.int 0)) (wm : Arv Z h0 vb kb .byte 8 vs (.int 0)) :
  MF l mN21 jdk_68_method_10_code 6 (some .int) ws (rmm 2 0 0 29) #[.ref o0, .int 9] Z h0 (Qnc9 Z o0 vb kb vs h0 n0) := by
 refine MF.of (plainFor_of_name pn_3) ?_
 intro p e s m below meth c s₁ QQ hy hml hown hZ X0 e0 hrt hlk hnm hQQ
 have hx := hy.1
 have hby := hy.2
 have N0 := Fr.nil n0
 refine Ends.i #[rv o0, iv 9, uu, uu, uu, uu] (oA X0 hy d38_0 1 rfl (gF X0 hy hown hZ hw e0 wd d38_1 4 46 rfl fun T241 X241 e241 => aLn X241 hy hZ e241 wm d38_4 5 (oxp X241 hy d38_5 6 #[rv o0, iv 9, iv 8, uu, uu, uu] rfl (oC X241 hy d38_6 7 rfl (oA X241 hy d38_7 8 rfl (gF X241 hy hown hZ hw e241 wb d38_8 11 48 rfl fun T243 X243 e243 => oO X243 hy d38_11 12 ?_))))))
 show Ends p e below QQ (T243.setTop (mkF m 12 #[rv o0, iv 9, iv 8, uu, uu, uu] [.int 9]))
 refine oxp X243 hy d38_12 13 #[rv o0, iv 9, iv 8, iv 9, uu, uu] rfl (oC X243 hy d38_13 14 rfl (oC X243 hy d38_14 15 rfl (oL X243 hy d38_15 16 ?_)))
 show Ends p e below QQ (T243.setTop (mkF m 16 #[rv o0, iv 9, iv 8, iv 9, uu, uu] [.int 1]))
 refine oxo X243 hy d38_16 18 #[rv o0, iv 9, iv 8, iv 9, iv 1, uu] rfl (oC X243 hy d38_18 19 rfl (oD X243 hy d38_19 21 rfl (oC X243 hy d38_21 22 rfl (oG X243 hy d38_22 23 2 rfl (oA X243 hy d38_23 24 rfl (gF X243 hy hown hZ hw e243 wb d38_24 27 48 rfl fun T244 X244 e244 => oO X244 hy d38_27 28 ?_))))))
 show Ends p e below QQ (T244.setTop (mkF m 28 #[rv o0, iv 9, iv 8, iv 9, iv 1, uu] [.int 2, .int 8, .int 1, .int 8]))
 refine oK X244 hy d38_28 29 ?_
 show Ends p e below QQ (T244.setTop (mkF m 29 #[rv o0, iv 9, iv 8, iv 9, iv 1, uu] [.int 10, .int 1, .int 8]))
 refine cS X244 hy hml hown hZ hw d38_29 32 0 224 225 226 227 rfl rfl rfl rfl (rmnl9 l Z a0 hw []  h0 n0 Z0) e244 pd_14 rfl rfl fun _ T245 Lc245 X245 hQ245 => ?_
 obtain ⟨rfl, Nq245, hh245⟩ := hQ245
 have N245 := Fr.app N0 Nq245
 refine Ends.v (oxo X245 hy d38_32 34 #[rv o0, iv 9, iv 8, iv 9, iv 1, iv 18] rfl (oD X245 hy d38_34 36 rfl ?_))
 refine Ends.step (fun _ k => X245.ldcI hx hown (mvT hZ (tb hw 232 rfl)) (g := (mkF m 36 #[rv o0, iv 9, iv 8, iv 9, iv 1, iv 18] [.int 18])) rfl (hb hby d38_36) k) ?_
 show Ends p e below QQ (T245.setTop (mkF m 38 #[rv o0, iv 9, iv 8, iv 9, iv 1, iv 18] [.int 2147483647, .int 18]))
 refine oxl X245 hy d38_38 51 (XT.ii_ne_t (by decide)) (oD X245 hy d38_51 53 rfl (oA X245 hy d38_53 54 rfl (gF X245 hy hown hZ hw hh245 wb d38_54 57 48 rfl fun T246 X246 e246 => oP X246 hy d38_57 58 ?_)))
 show Ends p e below QQ (T246.setTop (mkF m 58 #[rv o0, iv 9, iv 8, iv 9, iv 1, iv 18] [.int 18]))
 exact fI X246 hy hrt hlk hQQ d38_58 rfl (Or.inl rfl) e246 (by decide) ⟨rfl, N245, rfl⟩
theorem d42_0 : decode cD28 0 = .ok (.iload_n 0, 1) := by decide +kernel
theorem d42_1 : decode cD28 1 = .ok (.iload_n 1, 1) := by decide +kernel
theorem d42_2 : decode cD28 2 = .ok (.if_icmp .gt 7, 3) := by decide +kernel
theorem d42_5 : decode cD28 5 = .ok (.iload_n 0, 1) := by decide +kernel
theorem d42_6 : decode cD28 6 = .ok (.goto 4, 3) := by decide +kernel
theorem d42_10 : decode cD28 10 = .ok (.ireturn, 1) := by decide +kernel
def Qmn18 (Z : State)  (h0 : Heap) (n0 : Nat) : QT := fun v h L => (v = some (.int 8)) ∧ (Fr n0 L) ∧ (h = h0)
theorem rmmn18 (l : Launch) (Z : State) (a0 : Array Value) (hw : TW a0 Z) (ws : List Jvm.Cond)  (h0 : Heap) (n0 : Nat) (Z0 : n0 ≤ h0.size) :
  MF l mN12 jdk_29_method_69_code 2 (some .int) ws (rmm 0 0 0 0) #[.int 8, .int 18] Z h0 (Qmn18 Z  h0 n0) := by
 refine MF.of (Jvm.Free.JP.mathPlain rfl (by decide +kernel)) ?_
 intro p e s m below meth c s₁ QQ hy hml hown hZ X0 e0 hrt hlk hnm hQQ
 have N0 := Fr.nil n0
 refine Ends.i #[iv 8, iv 18] (oC X0 hy d42_0 1 rfl (oC X0 hy d42_1 2 rfl (oxi X0 hy d42_2 5 (XT.ii_gt_f (by decide)) (oC X0 hy d42_5 6 rfl (oxm X0 hy d42_6 10 ?_)))))
 exact fI X0 hy hrt hlk hQQ d42_10 rfl (Or.inl rfl) e0 (by decide) ⟨rfl, N0, rfl⟩
theorem d41_0 : decode cD12 0 = .ok (.iload_n 1, 1) := by decide +kernel
theorem d41_1 : decode cD12 1 = .ok (.aload_n 0, 1) := by decide +kernel
theorem d41_2 : decode cD12 2 = .ok (.arraylength, 1) := by decide +kernel
theorem d41_3 : decode cD12 3 = .ok (.if_icmp .ne 11, 3) := by decide +kernel
theorem d41_14 : decode cD12 14 = .ok (.iload_n 1, 1) := by decide +kernel
theorem d41_15 : decode cD12 15 = .ok (.newarray .byte, 2) := by decide +kernel
theorem d41_17 : decode cD12 17 = .ok (.astore_n 2, 1) := by decide +kernel
theorem d41_18 : decode cD12 18 = .ok (.aload_n 0, 1) := by decide +kernel
theorem d41_19 : decode cD12 19 = .ok (.iconst 0, 1) := by decide +kernel
theorem d41_20 : decode cD12 20 = .ok (.aload_n 2, 1) := by decide +kernel
theorem d41_21 : decode cD12 21 = .ok (.iconst 0, 1) := by decide +kernel
theorem d41_22 : decode cD12 22 = .ok (.aload_n 0, 1) := by decide +kernel
theorem d41_23 : decode cD12 23 = .ok (.arraylength, 1) := by decide +kernel
theorem d41_24 : decode cD12 24 = .ok (.iload_n 1, 1) := by decide +kernel
theorem d41_25 : decode cD12 25 = .ok (.invokestatic 304, 3) := by decide +kernel
theorem d41_28 : decode cD12 28 = .ok (.invokestatic 150, 3) := by decide +kernel
theorem d41_31 : decode cD12 31 = .ok (.aload_n 2, 1) := by decide +kernel
theorem d41_32 : decode cD12 32 = .ok (.areturn, 1) := by decide +kernel
def Qcpo9 (Z : State) (o0 : Addr) (k : ClassId) (h0 : Heap) (n0 : Nat) : QT := fun v h L => ∃ (b : Addr), ∃ (k2 : ClassId), (v = some (.ref b)) ∧ (Fr n0 L) ∧ (Keep h0 h []) ∧ (h0.size ≤ b) ∧ (n0 ≤ b) ∧ (eCQ Z h b) ∧ (Arv Z h b k2 .byte 18 [.int 112, .int 0, .int 0, .int 0, .int 0, .int 0, .int 0, .int 0, .int 0, .int 0, .int 0, .int 0, .int 0, .int 0, .int 0, .int 0, .int 0, .int 0] (.int 0))
theorem rmcpo9 (l : Launch) (Z : State) (a0 : Array Value) (hw : TW a0 Z) (ws : List Jvm.Cond) (o0 : Addr) (k : ClassId) (h0 : Heap) (n0 : Nat) (Z0 : n0 ≤ h0.size) (vF : Arv Z h0 o0 k .byte 8 [.int 112, .int 0, .int 0, .int 0, .int 0, .int 0, .int 0, .int 0] (.int 0)) :
  MF l mN22 jdk_65_method_121_code 3 (some (.array .byte)) ws (rmm 1 1 18 24) #[.ref o0, .int 18] Z h0 (Qcpo9 Z o0 k h0 n0) := by
 refine MF.of (plainFor_of_name pn_6) ?_
 intro p e s m below meth c s₁ QQ hy hml hown hZ X0 e0 hrt hlk hnm hQQ
 have hx := hy.1
 have hby := hy.2
 have N0 := Fr.nil n0
 refine Ends.i #[rv o0, iv 18, uu] (oC X0 hy d41_0 1 rfl (oA X0 hy d41_1 2 rfl (aLn X0 hy hZ e0 vF d41_2 3 (oxl X0 hy d41_3 14 (XT.ii_ne_t (by decide)) (oC X0 hy d41_14 15 rfl ?_)))))
 obtain ⟨T248, h248, k248, X248, e248, E248, A248, Y248, st248⟩ := newPE X0 hx hZ (tb hw 45 rfl) e0 (g := (mkF m 15 #[rv o0, iv 18, uu] [.int 18])) rfl (hb hby d41_15) rfl (by decide) (cap := 18) (by decide) (by decide) (by decide) (by decide) (ad := "[B") (by decide)
 obtain ⟨b248, g248⟩ : ∃ z, z = h0.size := ⟨_, rfl⟩
 rw [← g248] at A248 Y248 st248
 have UD : n0 ≤ b248 := Nat.le_trans Z0 (Nat.le_trans (Keep.refl h0 []).1 (Nat.le_of_eq g248.symm))
 have JB : h0.size ≤ b248 := Nat.le_trans (Keep.refl h0 []).1 (Nat.le_of_eq g248.symm)
 have vF := vF.ext E248
 have K248 := (Keep.refl h0 []).ext E248
 have KG := Y248
 have KK : Arv Z h248 b248 k248 .byte 18 [.int 0, .int 0, .int 0, .int 0, .int 0, .int 0, .int 0, .int 0, .int 0, .int 0, .int 0, .int 0, .int 0, .int 0, .int 0, .int 0, .int 0, .int 0] (.int 0) := (Arv.new A248 (by decide)).pad (pad_rep [] (.int 0) 18)
 refine Ends.j 17 [.ref b248] st248 ?_
 refine oxt X248 hy d41_17 18 #[rv o0, iv 18, rv b248] rfl (oA X248 hy d41_18 19 rfl (oG X248 hy d41_19 20 0 rfl (oA X248 hy d41_20 21 rfl (oG X248 hy d41_21 22 0 rfl (oA X248 hy d41_22 23 rfl (aLn X248 hy hZ e248 vF d41_23 24 (oC X248 hy d41_24 25 rfl ?_)))))))
 refine cS X248 hy hml hown hZ hw d41_25 28 4 236 237 4 238 rfl rfl rfl rfl (rmmn18 l Z a0 hw []  h248 n0 (Nat.le_trans Z0 K248.1)) e248 pd_13 rfl rfl fun _ T250 Lc250 X250 hQ250 => ?_
 obtain ⟨rfl, Nq250, hh250⟩ := hQ250
 have N250 := Fr.app N0 Nq250
 refine Ends.v ?_
 obtain ⟨T251, h251, L251, X251, e251, N251, Kq251, AA251, st251⟩ := cpA X250 hx hZ hown (tb hw 239 rfl) (tb hw 147 rfl) (tb hw 145 rfl) (tb hw 146 rfl) hh250 vF KK (Or.inl ⟨rfl, rfl⟩) (by decide) (by decide) (by decide) (by decide) (by decide) (us := [.int 112, .int 0, .int 0, .int 0, .int 0, .int 0, .int 0, .int 0]) (by rfl) (by decide) N250 UD (g := (mkF m 28 #[rv o0, iv 18, rv b248] [.int 8, .int 0, .ref b248, .int 0, .ref o0])) rfl (by rw [hml]; rfl) rfl (hb hby d41_28) (by decide) (W := 0) (by show 2 * 0 + _ ≤ _; exact Nat.le_of_eq rfl) (by decide)
 have KG := KG.keep Kq251
 have KK : Arv Z h251 b248 k248 .byte 18 [.int 112, .int 0, .int 0, .int 0, .int 0, .int 0, .int 0, .int 0, .int 0, .int 0, .int 0, .int 0, .int 0, .int 0, .int 0, .int 0, .int 0, .int 0] (.int 0) := AA251
 have K251 := K248.trans Kq251 (allS (Or.inr JB) all0)
 refine Ends.j 31 [] st251 ?_
 refine oA X251 hy d41_31 32 rfl ?_
 exact fA X251 hy hrt hlk hQQ d41_32 rfl rfl e251 (by decide) ⟨b248, k248, rfl, N251, K251, JB, UD, KG, KK⟩
theorem d15_17 : decode cD7 17 = .ok (.aload_n 0, 1) := by decide +kernel
theorem d15_18 : decode cD7 18 = .ok (.aload_n 0, 1) := by decide +kernel
theorem d15_19 : decode cD7 19 = .ok (.getfield 15, 3) := by decide +kernel
theorem d15_22 : decode cD7 22 = .ok (.aload_n 0, 1) := by decide +kernel
theorem d15_23 : decode cD7 23 = .ok (.iload_n 1, 1) := by decide +kernel
theorem d15_24 : decode cD7 24 = .ok (.invokevirtual 104, 3) := by decide +kernel
theorem d15_27 : decode cD7 27 = .ok (.aload_n 0, 1) := by decide +kernel
theorem d15_28 : decode cD7 28 = .ok (.getfield 22, 3) := by decide +kernel
theorem d15_31 : decode cD7 31 = .ok (.ishl, 1) := by decide +kernel
theorem d15_32 : decode cD7 32 = .ok (.invokestatic 108, 3) := by decide +kernel
theorem d15_35 : decode cD7 35 = .ok (.putfield 15, 3) := by decide +kernel
def Qeng9 (Z : State) (o0 vb : Addr) (kb : ClassId) (h0 : Heap) (n0 : Nat) : QT := fun v h L => ∃ (b : Addr), ∃ (k2 : ClassId), (v = none) ∧ (Fr n0 L) ∧ (Keep h0 h [o0]) ∧ (h0.size ≤ b) ∧ (n0 ≤ b) ∧ (eBQ Z h o0) ∧ (fDQ Z h o0 (.ref b)) ∧ (fCQ Z h o0 (.int 0)) ∧ (fEQ Z h o0 (.int 1)) ∧ (eCQ Z h b) ∧ (Arv Z h b k2 .byte 18 [.int 112, .int 0, .int 0, .int 0, .int 0, .int 0, .int 0, .int 0, .int 0, .int 0, .int 0, .int 0, .int 0, .int 0, .int 0, .int 0, .int 0, .int 0] (.int 0))
theorem rmeng9 (l : Launch) (Z : State) (a0 : Array Value) (hw : TW a0 Z) (ws : List Jvm.Cond) (o0 vb : Addr) (kb : ClassId) (h0 : Heap) (n0 : Nat) (Z0 : n0 ≤ h0.size) (wh : eBQ Z h0 o0) (wd : fDQ Z h0 o0 (.ref vb)) (wb : fCQ Z h0 o0 (.int 0)) (we : fEQ Z h0 o0 (.int 1)) (wy : n0 ≤ o0) (wm : Arv Z h0 vb kb .byte 8 [.int 112, .int 0, .int 0, .int 0, .int 0, .int 0, .int 0, .int 0] (.int 0)) (wq : o0 ≠ vb) :
  MF l mN0 jdk_68_method_9_code 3 none ws (rmm 3 1 18 48) #[.ref o0, .int 9] Z h0 (Qeng9 Z o0 vb kb h0 n0) := by
 refine MF.of (plainFor_of_name pn_3) ?_
 intro p e s m below meth c s₁ QQ hy hml hown hZ X0 e0 hrt hlk hnm hQQ
 have hx := hy.1
 have hby := hy.2
 have N0 := Fr.nil n0
 refine Ends.i #[rv o0, iv 9, uu] (oA X0 hy d15_0 1 rfl (gF X0 hy hown hZ hw e0 wd d15_1 4 46 rfl fun T252 X252 e252 => aLn X252 hy hZ e252 wm d15_4 5 (oA X252 hy d15_5 6 rfl (gF X252 hy hown hZ hw e252 wb d15_6 9 48 rfl fun T254 X254 e254 => oP X254 hy d15_9 10 ?_))))
 show Ends p e below QQ (T254.setTop (mkF m 10 #[rv o0, iv 9, uu] [.int 8]))
 refine oxp X254 hy d15_10 11 #[rv o0, iv 9, iv 8] rfl (oC X254 hy d15_11 12 rfl (oC X254 hy d15_12 13 rfl (oL X254 hy d15_13 14 ?_)))
 show Ends p e below QQ (T254.setTop (mkF m 14 #[rv o0, iv 9, iv 8] [.int 1]))
 refine oxh X254 hy d15_14 17 (XT.i0_le_f (by decide)) (oA X254 hy d15_17 18 rfl (oA X254 hy d15_18 19 rfl (gF X254 hy hown hZ hw e254 wd d15_19 22 46 rfl fun T255 X255 e255 => oA X255 hy d15_22 23 rfl (oC X255 hy d15_23 24 rfl ?_))))
 refine cP X255 hy hml hown hZ hw d15_24 27 2 219 220 96 221 223 40 rfl rfl rfl rfl rfl rfl rfl (rmnc9 l Z a0 hw [] o0 vb kb [.int 112, .int 0, .int 0, .int 0, .int 0, .int 0, .int 0, .int 0] h0 n0 Z0 wd wb wm) e255 pd_15 wh rfl rfl fun _ T256 Lc256 X256 hQ256 => ?_
 obtain ⟨rfl, Nq256, hh256⟩ := hQ256
 have N256 := Fr.app N0 Nq256
 refine Ends.v (oA X256 hy d15_27 28 rfl (gF X256 hy hown hZ hw hh256 wb d15_28 31 48 rfl fun T257 X257 e257 => oO X257 hy d15_31 32 ?_))
 show Ends p e below QQ (T257.setTop (mkF m 32 #[rv o0, iv 9, iv 8] [.int 18, .ref vb, .ref o0]))
 refine cS X257 hy hml hown hZ hw d15_32 35 1 233 234 176 235 rfl rfl rfl rfl (rmcpo9 l Z a0 hw [] vb kb h0 n0 Z0 wm) e257 pd_16 rfl rfl fun _ T258 Lc258 X258 hQ258 => ?_
 obtain ⟨b_258, k2_258, rfl, Nq258, Kq258, fq258_0, xl, WQ, WV⟩ := hQ258
 have N258 := Fr.app N256 Nq258
 have KT : o0 ≠ b_258 := Nat.ne_of_lt (Nat.lt_of_lt_of_le wh.lt fq258_0)
 have Yo := Nat.le_trans (Keep.refl h0 [o0]).1 fq258_0
 have wh := wh.keep Kq258
 have wd := wd.keep Kq258 nin0
 have wb := wb.keep Kq258 nin0
 have we := we.keep Kq258 nin0
 have K258 := (Keep.refl h0 [o0]).trans Kq258 all0
 refine Ends.v ?_
 obtain ⟨T259, h259, X259, e259, W259, st259⟩ := putF X258 hx hZ hown (host := "") (Or.inl (tb hw 46 rfl)) Via.refl rfl wd wh (Or.inl (tb hw 47 rfl)) (tb hw 31 rfl) (ty := (.array .byte)) (by decide) rfl rfl (g := (mkF m 35 #[rv o0, iv 9, iv 8] [.ref b_258, .ref o0])) rfl rfl (hb hby d15_35)
 have wh := wh.wr W259
 have wb := wb.other W259 (Or.inr (slot_ne (Or.inl (tb hw 49 rfl)) (Or.inl (tb hw 47 rfl)) (by decide) (t := .byte) (t' := (.array .byte)) (by decide) (by decide)))
 have we := we.other W259 (Or.inr (slot_ne (Or.inl (tb hw 92 rfl)) (Or.inl (tb hw 47 rfl)) (by decide) (t := .int) (t' := (.array .byte)) (by decide) (by decide)))
 have WQ := WQ.wr W259
 have WV := WV.other W259 (Ne.symm KT)
 have wd : fDQ Z h259 o0 (.ref b_258) := wd.same W259
 have K259 := K258.wr W259 (Or.inl mm0)
 have N259 := Fr.snoc X259 N258 wy
 refine Ends.j 38 [] st259 ?_
 exact fV X259 hy hrt hlk hQQ d15_38 e259 (by decide) ⟨b_258, k2_258, rfl, N259, K259, Yo, xl, wh, wd, wb, we, WQ, WV⟩
def Qgb8 (Z : State) (o0 o1 : Addr) (kb : ClassId) (tt : Addr) (kt : ClassId) (cs y0 y1 y2 y3 y4 y5 y6 y7 : Int32) (h0 : Heap) (n0 : Nat) : QT := fun v h L => (v = none) ∧ (Fr n0 L) ∧ (Keep h0 h [o1]) ∧ (Arv Z h o1 kb .byte 18 [.int 112, .int y0, .int y1, .int y2, .int y3, .int y4, .int y5, .int y6, .int y7, .int 0, .int 0, .int 0, .int 0, .int 0, .int 0, .int 0, .int 0, .int 0] (.int 0))
theorem rmgb8 (l : Launch) (Z : State) (a0 : Array Value) (hw : TW a0 Z) (ws : List Jvm.Cond) (o0 o1 : Addr) (kb : ClassId) (tt : Addr) (kt : ClassId) (cs y0 y1 y2 y3 y4 y5 y6 y7 : Int32) (h0 : Heap) (n0 : Nat) (Z0 : n0 ≤ h0.size) (wh : eAQ Z h0 o0) (wd : fBQ Z h0 o0 (.ref tt)) (wb : fAQ Z h0 o0 (.int 0)) (wH : eCQ Z h0 tt) (wE : Arv Z h0 tt kt .byte 8 [.int y0, .int y1, .int y2, .int y3, .int y4, .int y5, .int y6, .int y7] (.int 0)) (wG : o0 ≠ tt) (vD : Arv Z h0 o1 kb .byte 18 [.int 112, .int 0, .int 0, .int 0, .int 0, .int 0, .int 0, .int 0, .int 0, .int 0, .int 0, .int 0, .int 0, .int 0, .int 0, .int 0, .int 0, .int 0] (.int 0)) (wK : n0 ≤ o1) (wF : o1 ≠ tt) (kM : o1 ≠ o0) (wa : sHQ Z h0 (.int cs)) (hcs : ¬ cs = (0 : Int32)) :
  MF l mN1 jdk_42_method_147_code 4 none ws (rmm 1 0 0 24) #[.ref o0, .ref o1, .int 1, .int 0] Z h0 (Qgb8 Z o0 o1 kb tt kt cs y0 y1 y2 y3 y4 y5 y6 y7 h0 n0) := by
 refine MF.of (plainFor_of_name pn_0) ?_
 intro p e s m below meth c s₁ QQ hy hml hown hZ X0 e0 hrt hlk hnm hQQ
 have hx := hy.1
 have hby := hy.2
 have N0 := Fr.nil n0
 refine Ends.i #[rv o0, rv o1, iv 1, iv 0] (oA X0 hy d24_0 1 rfl ?_)
 refine cV X0 hy hml hown hZ hw d24_1 4 0 112 113 115 114 116 44 rfl rfl rfl rfl rfl rfl (rmcod l Z a0 hw [] o0 cs h0 n0 Z0 wa hcs wb) e0 pd_0 wh rfl rfl fun _ T260 Lc260 X260 hQ260 => ?_
 obtain ⟨rfl, Nq260, hh260⟩ := hQ260
 have N260 := Fr.app N0 Nq260
 refine Ends.v (oC X260 hy d24_4 5 rfl (oxi X260 hy d24_5 8 (XT.ii_ne_f (by decide)) (oA X260 hy d24_8 9 rfl (gF X260 hy hown hZ hw hh260 wd d24_9 12 77 rfl fun T261 X261 e261 => oG X261 hy d24_12 13 0 rfl (oA X261 hy d24_13 14 rfl (oC X261 hy d24_14 15 rfl (oC X261 hy d24_15 16 rfl (oO X261 hy d24_16 17 ?_))))))))
 show Ends p e below QQ (T261.setTop (mkF m 17 #[rv o0, rv o1, iv 1, iv 0] [.int 1, .ref o1, .int 0, .ref tt]))
 refine oA X261 hy d24_17 18 rfl (gF X261 hy hown hZ hw e261 wd d24_18 21 77 rfl fun T262 X262 e262 => aLn X262 hy hZ e262 wE d24_21 22 ?_)
 obtain ⟨T264, h264, L264, X264, e264, N264, Kq264, AA264, st264⟩ := cpA X262 hx hZ hown (tb hw 144 rfl) (tb hw 147 rfl) (tb hw 145 rfl) (tb hw 146 rfl) e262 wE vD (Or.inl ⟨rfl, rfl⟩) (by decide) (by decide) (by decide) (by decide) (by decide) (us := [.int y0, .int y1, .int y2, .int y3, .int y4, .int y5, .int y6, .int y7]) (by rfl) (by decide) N260 wK (g := (mkF m 22 #[rv o0, rv o1, iv 1, iv 0] [.int 8, .int 1, .ref o1, .int 0, .ref tt])) rfl (by rw [hml]; rfl) rfl (hb hby d24_22) (by decide) (W := 0) (by show 2 * 0 + _ ≤ _; exact Nat.le_of_eq rfl) (by decide)
 have vD : Arv Z h264 o1 kb .byte 18 [.int 112, .int y0, .int y1, .int y2, .int y3, .int y4, .int y5, .int y6, .int y7, .int 0, .int 0, .int 0, .int 0, .int 0, .int 0, .int 0, .int 0, .int 0] (.int 0) := AA264
 have K264 := (Keep.refl h0 [o1]).trans Kq264 (allS (Or.inl mm0) all0)
 refine Ends.j 25 [] st264 ?_
 refine oxm X264 hy d24_25 43 ?_
 exact fV X264 hy hrt hlk hQQ d24_43 e264 (by decide) ⟨rfl, N264, K264, vD⟩
def Qps8 (Z : State) (o0 o2 vb : Addr) (kb : ClassId) (tt : Addr) (kt : ClassId) (cs y0 y1 y2 y3 y4 y5 y6 y7 : Int32) (h0 : Heap) (n0 : Nat) : QT := fun v h L => (v = none) ∧ (Fr n0 L) ∧ (Keep h0 h [vb]) ∧ (Arv Z h vb kb .byte 18 [.int 112, .int y0, .int y1, .int y2, .int y3, .int y4, .int y5, .int y6, .int y7, .int 0, .int 0, .int 0, .int 0, .int 0, .int 0, .int 0, .int 0, .int 0] (.int 0))
theorem rmps8 (l : Launch) (Z : State) (a0 : Array Value) (hw : TW a0 Z) (ws : List Jvm.Cond) (o0 o2 vb : Addr) (kb : ClassId) (tt : Addr) (kt : ClassId) (cs y0 y1 y2 y3 y4 y5 y6 y7 : Int32) (h0 : Heap) (n0 : Nat) (Z0 : n0 ≤ h0.size) (wh : eBQ Z h0 o0) (wd : fDQ Z h0 o0 (.ref vb)) (wb : fCQ Z h0 o0 (.int 0)) (we : fEQ Z h0 o0 (.int 1)) (wo : eCQ Z h0 vb) (wm : Arv Z h0 vb kb .byte 18 [.int 112, .int 0, .int 0, .int 0, .int 0, .int 0, .int 0, .int 0, .int 0, .int 0, .int 0, .int 0, .int 0, .int 0, .int 0, .int 0, .int 0, .int 0] (.int 0)) (wy : n0 ≤ o0) (ww : n0 ≤ vb) (wq : o0 ≠ vb) (vC : eAQ Z h0 o2) (wU : fBQ Z h0 o2 (.ref tt)) (wJ : fAQ Z h0 o2 (.int 0)) (wH : eCQ Z h0 tt) (wE : Arv Z h0 tt kt .byte 8 [.int y0, .int y1, .int y2, .int y3, .int y4, .int y5, .int y6, .int y7] (.int 0)) (vz : o2 ≠ tt) (wA : vb ≠ tt) (vy : vb ≠ o2) (wa : sHQ Z h0 (.int cs)) (hcs : ¬ cs = (0 : Int32)) :
  MF l mN2 jdk_68_method_73_code 3 none ws (rmm 2 0 0 39) #[.ref o0, .int 1, .ref o2] Z h0 (Qps8 Z o0 o2 vb kb tt kt cs y0 y1 y2 y3 y4 y5 y6 y7 h0 n0) := by
 refine MF.of (plainFor_of_name pn_3) ?_
 intro p e s m below meth c s₁ QQ hy hml hown hZ X0 e0 hrt hlk hnm hQQ
 have N0 := Fr.nil n0
 refine Ends.i #[rv o0, iv 1, rv o2] (oA X0 hy d22_0 1 rfl (oA X0 hy d22_1 2 rfl ?_))
 refine cP X0 hy hml hown hZ hw d22_2 5 0 133 134 96 135 137 40 rfl rfl rfl rfl rfl rfl rfl (rminf l Z a0 hw [] o0 o2 cs h0 n0 Z0 wa hcs wb vC wJ) e0 pd_8 wh rfl rfl fun _ T265 Lc265 X265 hQ265 => ?_
 obtain ⟨rfl, Nq265, hh265⟩ := hQ265
 have N265 := Fr.app N0 Nq265
 refine Ends.u (oA X265 hy d22_5 6 rfl (oA X265 hy d22_6 7 rfl (gF X265 hy hown hZ hw hh265 wd d22_7 10 46 rfl fun T266 X266 e266 => oC X266 hy d22_10 11 rfl (oA X266 hy d22_11 12 rfl (gF X266 hy hown hZ hw e266 wb d22_12 15 48 rfl fun T267 X267 e267 => ?_)))))
 refine cV X267 hy hml hown hZ hw d22_15 18 0 139 140 142 141 143 44 rfl rfl rfl rfl rfl rfl (rmgb8 l Z a0 hw [] o2 vb kb tt kt cs y0 y1 y2 y3 y4 y5 y6 y7 h0 n0 Z0 vC wU wJ wH wE vz wm ww wA vy wa hcs) e267 pd_9 vC rfl rfl fun _ T268 Lc268 X268 hQ268 => ?_
 obtain ⟨rfl, Nq268, Kq268, wm⟩ := hQ268
 have N268 := Fr.app N265 Nq268
 have K268 := (Keep.refl h0 [vb]).trans Kq268 (allS (Or.inl mm0) all0)
 refine Ends.u ?_
 exact fV X268 hy hrt hlk hQQ d22_18 rfl (by decide) ⟨rfl, N268, K268, wm⟩
def Qaps8 (Z : State) (o0 o1 vb : Addr) (kb : ClassId) (tt : Addr) (kt : ClassId) (cs y0 y1 y2 y3 y4 y5 y6 y7 : Int32) (h0 : Heap) (n0 : Nat) : QT := fun v h L => ∃ (b : Addr), ∃ (k2 : ClassId), (v = some (.ref o0)) ∧ (Fr n0 L) ∧ (Keep h0 h [o0]) ∧ (eBQ Z h o0) ∧ (fDQ Z h o0 (.ref b)) ∧ (fCQ Z h o0 (.int 0)) ∧ (fEQ Z h o0 (.int 9)) ∧ (Arv Z h b k2 .byte 18 [.int 112, .int y0, .int y1, .int y2, .int y3, .int y4, .int y5, .int y6, .int y7, .int 0, .int 0, .int 0, .int 0, .int 0, .int 0, .int 0, .int 0, .int 0] (.int 0)) ∧ (eCQ Z h b) ∧ (h0.size ≤ b) ∧ (n0 ≤ b)
theorem rmaps8 (l : Launch) (Z : State) (a0 : Array Value) (hw : TW a0 Z) (ws : List Jvm.Cond) (o0 o1 vb : Addr) (kb : ClassId) (tt : Addr) (kt : ClassId) (cs y0 y1 y2 y3 y4 y5 y6 y7 : Int32) (h0 : Heap) (n0 : Nat) (Z0 : n0 ≤ h0.size) (wh : eBQ Z h0 o0) (wd : fDQ Z h0 o0 (.ref vb)) (wb : fCQ Z h0 o0 (.int 0)) (we : fEQ Z h0 o0 (.int 1)) (wo : eCQ Z h0 vb) (wm : Arv Z h0 vb kb .byte 8 [.int 112, .int 0, .int 0, .int 0, .int 0, .int 0, .int 0, .int 0] (.int 0)) (wy : n0 ≤ o0) (ww : n0 ≤ vb) (wq : o0 ≠ vb) (wt : eAQ Z h0 o1) (wk : fBQ Z h0 o1 (.ref tt)) (wj : fAQ Z h0 o1 (.int 0)) (wH : eCQ Z h0 tt) (wE : Arv Z h0 tt kt .byte 8 [.int y0, .int y1, .int y2, .int y3, .int y4, .int y5, .int y6, .int y7] (.int 0)) (wF : o1 ≠ tt) (wA : vb ≠ tt) (wG : o0 ≠ tt) (wD : o0 ≠ o1) (wI : vb ≠ o1) (wa : sHQ Z h0 (.int cs)) (hcs : ¬ cs = (0 : Int32)) :
  MF l mN3 jdk_68_method_22_code 3 (some (.object "java/lang/AbstractStringBuilder")) ws (rmm 4 1 18 62) #[.ref o0, .ref o1] Z h0 (Qaps8 Z o0 o1 vb kb tt kt cs y0 y1 y2 y3 y4 y5 y6 y7 h0 n0) := by
 refine MF.of (plainFor_of_name pn_3) ?_
 intro p e s m below meth c s₁ QQ hy hml hown hZ X0 e0 hrt hlk hnm hQQ
 have hx := hy.1
 have hby := hy.2
 have N0 := Fr.nil n0
 refine Ends.i #[rv o0, rv o1, uu] (oA X0 hy d21_0 1 rfl (oxn X0 hy d21_1 9 (oA X0 hy d21_9 10 rfl ?_)))
 refine cV X0 hy hml hown hZ hw d21_10 13 0 127 108 110 109 111 44 rfl rfl rfl rfl rfl rfl (rmlen l Z a0 hw [] o1 tt kt (8 : Int32) [.int y0, .int y1, .int y2, .int y3, .int y4, .int y5, .int y6, .int y7] cs h0 n0 Z0 wt wk wE wa hcs wj) e0 pd_10 wt rfl rfl fun _ T269 Lc269 X269 hQ269 => ?_
 obtain ⟨rfl, Nq269, hh269⟩ := hQ269
 have N269 := Fr.app N0 Nq269
 refine Ends.v (oxp X269 hy d21_13 14 #[rv o0, rv o1, iv 8] rfl (oA X269 hy d21_14 15 rfl (oA X269 hy d21_15 16 rfl (gF X269 hy hown hZ hw hh269 we d21_16 19 91 rfl fun T270 X270 e270 => oC X270 hy d21_19 20 rfl (oK X270 hy d21_20 21 ?_)))))
 show Ends p e below QQ (T270.setTop (mkF m 21 #[rv o0, rv o1, iv 8] [.int 9, .ref o0]))
 refine cP X270 hy hml hown hZ hw d21_21 24 0 93 94 96 95 97 40 rfl rfl rfl rfl rfl rfl rfl (rmeng9 l Z a0 hw [] o0 vb kb h0 n0 Z0 wh wd wb we wy wm wq) e270 pd_5 wh rfl rfl fun _ T271 Lc271 X271 hQ271 => ?_
 obtain ⟨b_271, k2_271, rfl, Nq271, Kq271, fq271_0, JD, fq271_2, wd, wb, we, jV, za⟩ := hQ271
 have N271 := Fr.app N269 Nq271
 have jF : o0 ≠ b_271 := Nat.ne_of_lt (Nat.lt_of_lt_of_le wh.lt fq271_0)
 have KO : o1 ≠ b_271 := Nat.ne_of_lt (Nat.lt_of_lt_of_le wt.lt fq271_0)
 have KM : tt ≠ b_271 := Nat.ne_of_lt (Nat.lt_of_lt_of_le wH.lt fq271_0)
 have Vw := Nat.le_trans (Keep.refl h0 [o0]).1 fq271_0
 have wa := own_sta_keep wa Kq271 (allS wh.cell all0)
 have wt := wt.keep Kq271
 have wk := wk.keep Kq271 (ninS (Ne.symm wD) nin0)
 have wj := wj.keep Kq271 (ninS (Ne.symm wD) nin0)
 have wH := wH.keep Kq271
 have wE := wE.keep Kq271 (ninS (Ne.symm wG) nin0)
 have wh := fq271_2
 have K271 := (Keep.refl h0 [o0]).trans Kq271 (allS (Or.inl mm0) all0)
 refine Ends.u (oA X271 hy d21_24 25 rfl (oA X271 hy d21_25 26 rfl (gF X271 hy hown hZ hw rfl we d21_26 29 91 rfl fun T272 X272 e272 => oA X272 hy d21_29 30 rfl ?_)))
 refine cP X272 hy hml hown hZ hw d21_30 33 0 128 129 96 130 132 40 rfl rfl rfl rfl rfl rfl rfl (rmps8 l Z a0 hw [] o0 o1 b_271 k2_271 tt kt cs y0 y1 y2 y3 y4 y5 y6 y7 T271.heap n0 (Nat.le_trans Z0 K271.1) wh wd wb we jV za wy JD jF wt wk wj wH wE wF (Ne.symm KM) (Ne.symm KO) wa hcs) e272 pd_11 wh rfl rfl fun _ T273 Lc273 X273 hQ273 => ?_
 obtain ⟨rfl, Nq273, Kq273, za⟩ := hQ273
 have N273 := Fr.app N271 Nq273
 have wh := wh.keep Kq273
 have wd := wd.keep Kq273 (ninS jF nin0)
 have wb := wb.keep Kq273 (ninS jF nin0)
 have we := we.keep Kq273 (ninS jF nin0)
 have jV := jV.keep Kq273
 have K273 := K271.trans Kq273 (allS (Or.inr Vw) all0)
 refine Ends.u (oA X273 hy d21_33 34 rfl (oxd X273 hy d21_34 35 rfl (gF X273 hy hown hZ hw rfl we d21_35 38 91 rfl fun T274 X274 e274 => oC X274 hy d21_38 39 rfl (oK X274 hy d21_39 40 ?_))))
 show Ends p e below QQ (T274.setTop (mkF m 40 #[rv o0, rv o1, iv 8] [.int 9, .ref o0]))
 obtain ⟨T275, h275, X275, e275, W275, st275⟩ := putF X274 hx hZ hown (host := "") (Or.inl (tb hw 91 rfl)) Via.refl e274 we wh (Or.inl (tb hw 92 rfl)) (tb hw 31 rfl) (ty := .int) (by decide) rfl rfl (g := (mkF m 40 #[rv o0, rv o1, iv 8] [.int 9, .ref o0])) rfl rfl (hb hby d21_40)
 have wh := wh.wr W275
 have wd := wd.other W275 (Or.inr (slot_ne (Or.inl (tb hw 47 rfl)) (Or.inl (tb hw 92 rfl)) (by decide) (t := (.array .byte)) (t' := .int) (by decide) (by decide)))
 have wb := wb.other W275 (Or.inr (slot_ne (Or.inl (tb hw 49 rfl)) (Or.inl (tb hw 92 rfl)) (by decide) (t := .byte) (t' := .int) (by decide) (by decide)))
 have jV := jV.wr W275
 have za := za.other W275 (Ne.symm jF)
 have we : fEQ Z h275 o0 (.int 9) := we.same W275
 have K275 := K273.wr W275 (Or.inl mm0)
 have N275 := Fr.snoc X275 N273 wy
 refine Ends.j 43 [] st275 ?_
 refine oA X275 hy d21_43 44 rfl ?_
 exact fA X275 hy hrt hlk hQQ d21_44 rfl rfl e275 (by decide) ⟨b_271, k2_271, rfl, N275, K275, wh, wd, wb, we, za, jV, Vw, JD⟩
def Qsps8 (Z : State) (o0 o1 vb : Addr) (kb : ClassId) (tt : Addr) (kt : ClassId) (cs y0 y1 y2 y3 y4 y5 y6 y7 : Int32) (h0 : Heap) (n0 : Nat) : QT := fun v h L => ∃ (b : Addr), ∃ (k2 : ClassId), (v = some (.ref o0)) ∧ (Fr n0 L) ∧ (Keep h0 h [o0]) ∧ (eBQ Z h o0) ∧ (fDQ Z h o0 (.ref b)) ∧ (fCQ Z h o0 (.int 0)) ∧ (fEQ Z h o0 (.int 9)) ∧ (Arv Z h b k2 .byte 18 [.int 112, .int y0, .int y1, .int y2, .int y3, .int y4, .int y5, .int y6, .int y7, .int 0, .int 0, .int 0, .int 0, .int 0, .int 0, .int 0, .int 0, .int 0] (.int 0)) ∧ (eCQ Z h b) ∧ (h0.size ≤ b) ∧ (n0 ≤ b)
theorem rmsps8 (l : Launch) (Z : State) (a0 : Array Value) (hw : TW a0 Z) (ws : List Jvm.Cond) (o0 o1 vb : Addr) (kb : ClassId) (tt : Addr) (kt : ClassId) (cs y0 y1 y2 y3 y4 y5 y6 y7 : Int32) (h0 : Heap) (n0 : Nat) (Z0 : n0 ≤ h0.size) (wh : eBQ Z h0 o0) (wd : fDQ Z h0 o0 (.ref vb)) (wb : fCQ Z h0 o0 (.int 0)) (we : fEQ Z h0 o0 (.int 1)) (wo : eCQ Z h0 vb) (wm : Arv Z h0 vb kb .byte 8 [.int 112, .int 0, .int 0, .int 0, .int 0, .int 0, .int 0, .int 0] (.int 0)) (wy : n0 ≤ o0) (ww : n0 ≤ vb) (wq : o0 ≠ vb) (wt : eAQ Z h0 o1) (wk : fBQ Z h0 o1 (.ref tt)) (wj : fAQ Z h0 o1 (.int 0)) (wH : eCQ Z h0 tt) (wE : Arv Z h0 tt kt .byte 8 [.int y0, .int y1, .int y2, .int y3, .int y4, .int y5, .int y6, .int y7] (.int 0)) (wF : o1 ≠ tt) (wA : vb ≠ tt) (wG : o0 ≠ tt) (wD : o0 ≠ o1) (wI : vb ≠ o1) (wa : sHQ Z h0 (.int cs)) (hcs : ¬ cs = (0 : Int32)) :
  MF l mN4 jdk_67_method_7_code 2 (some (.object "java/lang/StringBuilder")) ws (rmm 5 1 18 76) #[.ref o0, .ref o1] Z h0 (Qsps8 Z o0 o1 vb kb tt kt cs y0 y1 y2 y3 y4 y5 y6 y7 h0 n0) := by
 refine MF.of (plainFor_of_name pn_4) ?_
 intro p e s m below meth c s₁ QQ hy hml hown hZ X0 e0 hrt hlk hnm hQQ
 have N0 := Fr.nil n0
 refine Ends.i #[rv o0, rv o1] (oA X0 hy d20_0 1 rfl (oA X0 hy d20_1 2 rfl ?_))
 refine cU X0 hy hml hown hZ hw d20_2 5 0 123 124 96 88 126 40 rfl rfl rfl rfl rfl rfl rfl (rmaps8 l Z a0 hw [] o0 o1 vb kb tt kt cs y0 y1 y2 y3 y4 y5 y6 y7 h0 n0 Z0 wh wd wb we wo wm wy ww wq wt wk wj wH wE wF wA wG wD wI wa hcs) e0 pd_12 wh rfl rfl fun _ T276 Lc276 X276 hQ276 => ?_
 obtain ⟨b_276, k2_276, rfl, Nq276, Kq276, wh, wd, wb, we, Gr, xS, fq276_6, xk⟩ := hQ276
 have N276 := Fr.app N0 Nq276
 have Yn := Nat.le_trans (Keep.refl h0 [o0]).1 fq276_6
 have K276 := (Keep.refl h0 [o0]).trans Kq276 (allS (Or.inl mm0) all0)
 refine Ends.v (oxe X276 hy d20_5 6 rfl (oA X276 hy d20_6 7 rfl ?_))
 exact fA X276 hy hrt hlk hQQ d20_7 rfl rfl rfl (by decide) ⟨b_276, k2_276, rfl, N276, K276, wh, wd, wb, we, Gr, xS, Yn, xk⟩
def Qmx10 (Z : State)  (h0 : Heap) (n0 : Nat) : QT := fun v h L => (v = some (.int 10)) ∧ (Fr n0 L) ∧ (h = h0)
theorem rmmx10 (l : Launch) (Z : State) (a0 : Array Value) (hw : TW a0 Z) (ws : List Jvm.Cond)  (h0 : Heap) (n0 : Nat) (Z0 : n0 ≤ h0.size) :
  MF l mN19 jdk_29_method_65_code 2 (some .int) ws (rmm 0 0 0 0) #[.int 2, .int 10] Z h0 (Qmx10 Z  h0 n0) := by
 refine MF.of (Jvm.Free.JP.mathPlain rfl (by decide +kernel)) ?_
 intro p e s m below meth c s₁ QQ hy hml hown hZ X0 e0 hrt hlk hnm hQQ
 have N0 := Fr.nil n0
 refine Ends.i #[iv 2, iv 10] (oC X0 hy d40_0 1 rfl (oC X0 hy d40_1 2 rfl (oxl X0 hy d40_2 9 (XT.ii_lt_t (by decide)) (oC X0 hy d40_9 10 rfl ?_))))
 exact fI X0 hy hrt hlk hQQ d40_10 rfl (Or.inl rfl) e0 (by decide) ⟨rfl, N0, rfl⟩
def Qnl10 (Z : State)  (h0 : Heap) (n0 : Nat) : QT := fun v h L => (v = some (.int 18)) ∧ (Fr n0 L) ∧ (h = h0)
theorem rmnl10 (l : Launch) (Z : State) (a0 : Array Value) (hw : TW a0 Z) (ws : List Jvm.Cond)  (h0 : Heap) (n0 : Nat) (Z0 : n0 ≤ h0.size) :
  MF l mN20 jdk_48_method_27_code 4 (some .int) ws (rmm 1 0 0 14) #[.int 8, .int 2, .int 10] Z h0 (Qnl10 Z  h0 n0) := by
 refine MF.of (plainFor_of_name pn_5) ?_
 intro p e s m below meth c s₁ QQ hy hml hown hZ X0 e0 hrt hlk hnm hQQ
 have hx := hy.1
 have hby := hy.2
 have N0 := Fr.nil n0
 refine Ends.i #[iv 8, iv 2, iv 10, uu] (oC X0 hy d39_0 1 rfl (oC X0 hy d39_1 2 rfl (oC X0 hy d39_2 3 rfl ?_)))
 refine cS X0 hy hml hown hZ hw d39_3 6 1 228 229 4 230 rfl rfl rfl rfl (rmmx10 l Z a0 hw []  h0 n0 Z0) e0 pd_13 rfl rfl fun _ T277 Lc277 X277 hQ277 => ?_
 obtain ⟨rfl, Nq277, hh277⟩ := hQ277
 have N277 := Fr.app N0 Nq277
 refine Ends.v (oK X277 hy d39_6 7 ?_)
 show Ends p e below QQ (T277.setTop (mkF m 7 #[iv 8, iv 2, iv 10, uu] [.int 18]))
 refine oxp X277 hy d39_7 8 #[iv 8, iv 2, iv 10, iv 18] rfl (oG X277 hy d39_8 9 0 rfl (oC X277 hy d39_9 10 rfl (oxi X277 hy d39_10 13 (XT.ii_ge_f (by decide)) (oC X277 hy d39_13 14 rfl ?_))))
 refine Ends.step (fun _ k => X277.ldcI hx hown (mvT hZ (tb hw 231 rfl)) (g := (mkF m 14 #[iv 8, iv 2, iv 10, iv 18] [.int 18])) rfl (hb hby d39_14) k) ?_
 show Ends p e below QQ (T277.setTop (mkF m 16 #[iv 8, iv 2, iv 10, iv 18] [.int 2147483639, .int 18]))
 refine oxi X277 hy d39_16 19 (XT.ii_gt_f (by decide)) (oC X277 hy d39_19 20 rfl ?_)
 exact fI X277 hy hrt hlk hQQ d39_20 rfl (Or.inl rfl) hh277 (by decide) ⟨rfl, N277, rfl⟩
def Qnc10 (Z : State) (o0 vb : Addr) (kb : ClassId) (vs : List Value) (h0 : Heap) (n0 : Nat) : QT := fun v h L => (v = some (.int 18)) ∧ (Fr n0 L) ∧ (h = h0)
theorem rmnc10 (l : Launch) (Z : State) (a0 : Array Value) (hw : TW a0 Z) (ws : List Jvm.Cond) (o0 vb : Addr) (kb : ClassId) (vs : List Value) (h0 : Heap) (n0 : Nat) (Z0 : n0 ≤ h0.size) (wd : fDQ Z h0 o0 (.ref vb)) (wb : fCQ Z h0 o0 (.int 0)) (wm : Arv Z h0 vb kb .byte 8 vs (.int 0)) :
  MF l mN21 jdk_68_method_10_code 6 (some .int) ws (rmm 2 0 0 29) #[.ref o0, .int 10] Z h0 (Qnc10 Z o0 vb kb vs h0 n0) := by
 refine MF.of (plainFor_of_name pn_3) ?_
 intro p e s m below meth c s₁ QQ hy hml hown hZ X0 e0 hrt hlk hnm hQQ
 have hx := hy.1
 have hby := hy.2
 have N0 := Fr.nil n0
 refine Ends.i #[rv o0, iv 10, uu, uu, uu, uu] (oA X0 hy d38_0 1 rfl (gF X0 hy hown hZ hw e0 wd d38_1 4 46 rfl fun T278 X278 e278 => aLn X278 hy hZ e278 wm d38_4 5 (oxp X278 hy d38_5 6 #[rv o0, iv 10, iv 8, uu, uu, uu] rfl (oC X278 hy d38_6 7 rfl (oA X278 hy d38_7 8 rfl (gF X278 hy hown hZ hw e278 wb d38_8 11 48 rfl fun T280 X280 e280 => oO X280 hy d38_11 12 ?_))))))
 show Ends p e below QQ (T280.setTop (mkF m 12 #[rv o0, iv 10, iv 8, uu, uu, uu] [.int 10]))
 refine oxp X280 hy d38_12 13 #[rv o0, iv 10, iv 8, iv 10, uu, uu] rfl (oC X280 hy d38_13 14 rfl (oC X280 hy d38_14 15 rfl (oL X280 hy d38_15 16 ?_)))
 show Ends p e below QQ (T280.setTop (mkF m 16 #[rv o0, iv 10, iv 8, iv 10, uu, uu] [.int 2]))
 refine oxo X280 hy d38_16 18 #[rv o0, iv 10, iv 8, iv 10, iv 2, uu] rfl (oC X280 hy d38_18 19 rfl (oD X280 hy d38_19 21 rfl (oC X280 hy d38_21 22 rfl (oG X280 hy d38_22 23 2 rfl (oA X280 hy d38_23 24 rfl (gF X280 hy hown hZ hw e280 wb d38_24 27 48 rfl fun T281 X281 e281 => oO X281 hy d38_27 28 ?_))))))
 show Ends p e below QQ (T281.setTop (mkF m 28 #[rv o0, iv 10, iv 8, iv 10, iv 2, uu] [.int 2, .int 8, .int 2, .int 8]))
 refine oK X281 hy d38_28 29 ?_
 show Ends p e below QQ (T281.setTop (mkF m 29 #[rv o0, iv 10, iv 8, iv 10, iv 2, uu] [.int 10, .int 2, .int 8]))
 refine cS X281 hy hml hown hZ hw d38_29 32 0 224 225 226 227 rfl rfl rfl rfl (rmnl10 l Z a0 hw []  h0 n0 Z0) e281 pd_14 rfl rfl fun _ T282 Lc282 X282 hQ282 => ?_
 obtain ⟨rfl, Nq282, hh282⟩ := hQ282
 have N282 := Fr.app N0 Nq282
 refine Ends.v (oxo X282 hy d38_32 34 #[rv o0, iv 10, iv 8, iv 10, iv 2, iv 18] rfl (oD X282 hy d38_34 36 rfl ?_))
 refine Ends.step (fun _ k => X282.ldcI hx hown (mvT hZ (tb hw 232 rfl)) (g := (mkF m 36 #[rv o0, iv 10, iv 8, iv 10, iv 2, iv 18] [.int 18])) rfl (hb hby d38_36) k) ?_
 show Ends p e below QQ (T282.setTop (mkF m 38 #[rv o0, iv 10, iv 8, iv 10, iv 2, iv 18] [.int 2147483647, .int 18]))
 refine oxl X282 hy d38_38 51 (XT.ii_ne_t (by decide)) (oD X282 hy d38_51 53 rfl (oA X282 hy d38_53 54 rfl (gF X282 hy hown hZ hw hh282 wb d38_54 57 48 rfl fun T283 X283 e283 => oP X283 hy d38_57 58 ?_)))
 show Ends p e below QQ (T283.setTop (mkF m 58 #[rv o0, iv 10, iv 8, iv 10, iv 2, iv 18] [.int 18]))
 exact fI X283 hy hrt hlk hQQ d38_58 rfl (Or.inl rfl) e283 (by decide) ⟨rfl, N282, rfl⟩
def Qcpo10 (Z : State) (o0 : Addr) (k : ClassId) (h0 : Heap) (n0 : Nat) : QT := fun v h L => ∃ (b : Addr), ∃ (k2 : ClassId), (v = some (.ref b)) ∧ (Fr n0 L) ∧ (Keep h0 h []) ∧ (h0.size ≤ b) ∧ (n0 ≤ b) ∧ (eCQ Z h b) ∧ (Arv Z h b k2 .byte 18 [.int 112, .int 0, .int 0, .int 0, .int 0, .int 0, .int 0, .int 0, .int 0, .int 0, .int 0, .int 0, .int 0, .int 0, .int 0, .int 0, .int 0, .int 0] (.int 0))
theorem rmcpo10 (l : Launch) (Z : State) (a0 : Array Value) (hw : TW a0 Z) (ws : List Jvm.Cond) (o0 : Addr) (k : ClassId) (h0 : Heap) (n0 : Nat) (Z0 : n0 ≤ h0.size) (vF : Arv Z h0 o0 k .byte 8 [.int 112, .int 0, .int 0, .int 0, .int 0, .int 0, .int 0, .int 0] (.int 0)) :
  MF l mN22 jdk_65_method_121_code 3 (some (.array .byte)) ws (rmm 1 1 18 24) #[.ref o0, .int 18] Z h0 (Qcpo10 Z o0 k h0 n0) := by
 refine MF.of (plainFor_of_name pn_6) ?_
 intro p e s m below meth c s₁ QQ hy hml hown hZ X0 e0 hrt hlk hnm hQQ
 have hx := hy.1
 have hby := hy.2
 have N0 := Fr.nil n0
 refine Ends.i #[rv o0, iv 18, uu] (oC X0 hy d41_0 1 rfl (oA X0 hy d41_1 2 rfl (aLn X0 hy hZ e0 vF d41_2 3 (oxl X0 hy d41_3 14 (XT.ii_ne_t (by decide)) (oC X0 hy d41_14 15 rfl ?_)))))
 obtain ⟨T285, h285, k285, X285, e285, E285, A285, Y285, st285⟩ := newPE X0 hx hZ (tb hw 45 rfl) e0 (g := (mkF m 15 #[rv o0, iv 18, uu] [.int 18])) rfl (hb hby d41_15) rfl (by decide) (cap := 18) (by decide) (by decide) (by decide) (by decide) (ad := "[B") (by decide)
 obtain ⟨b285, g285⟩ : ∃ z, z = h0.size := ⟨_, rfl⟩
 rw [← g285] at A285 Y285 st285
 have UC : n0 ≤ b285 := Nat.le_trans Z0 (Nat.le_trans (Keep.refl h0 []).1 (Nat.le_of_eq g285.symm))
 have JA : h0.size ≤ b285 := Nat.le_trans (Keep.refl h0 []).1 (Nat.le_of_eq g285.symm)
 have vF := vF.ext E285
 have K285 := (Keep.refl h0 []).ext E285
 have KF := Y285
 have KJ : Arv Z h285 b285 k285 .byte 18 [.int 0, .int 0, .int 0, .int 0, .int 0, .int 0, .int 0, .int 0, .int 0, .int 0, .int 0, .int 0, .int 0, .int 0, .int 0, .int 0, .int 0, .int 0] (.int 0) := (Arv.new A285 (by decide)).pad (pad_rep [] (.int 0) 18)
 refine Ends.j 17 [.ref b285] st285 ?_
 refine oxt X285 hy d41_17 18 #[rv o0, iv 18, rv b285] rfl (oA X285 hy d41_18 19 rfl (oG X285 hy d41_19 20 0 rfl (oA X285 hy d41_20 21 rfl (oG X285 hy d41_21 22 0 rfl (oA X285 hy d41_22 23 rfl (aLn X285 hy hZ e285 vF d41_23 24 (oC X285 hy d41_24 25 rfl ?_)))))))
 refine cS X285 hy hml hown hZ hw d41_25 28 4 236 237 4 238 rfl rfl rfl rfl (rmmn18 l Z a0 hw []  h285 n0 (Nat.le_trans Z0 K285.1)) e285 pd_13 rfl rfl fun _ T287 Lc287 X287 hQ287 => ?_
 obtain ⟨rfl, Nq287, hh287⟩ := hQ287
 have N287 := Fr.app N0 Nq287
 refine Ends.v ?_
 obtain ⟨T288, h288, L288, X288, e288, N288, Kq288, AA288, st288⟩ := cpA X287 hx hZ hown (tb hw 239 rfl) (tb hw 147 rfl) (tb hw 145 rfl) (tb hw 146 rfl) hh287 vF KJ (Or.inl ⟨rfl, rfl⟩) (by decide) (by decide) (by decide) (by decide) (by decide) (us := [.int 112, .int 0, .int 0, .int 0, .int 0, .int 0, .int 0, .int 0]) (by rfl) (by decide) N287 UC (g := (mkF m 28 #[rv o0, iv 18, rv b285] [.int 8, .int 0, .ref b285, .int 0, .ref o0])) rfl (by rw [hml]; rfl) rfl (hb hby d41_28) (by decide) (W := 0) (by show 2 * 0 + _ ≤ _; exact Nat.le_of_eq rfl) (by decide)
 have KF := KF.keep Kq288
 have KJ : Arv Z h288 b285 k285 .byte 18 [.int 112, .int 0, .int 0, .int 0, .int 0, .int 0, .int 0, .int 0, .int 0, .int 0, .int 0, .int 0, .int 0, .int 0, .int 0, .int 0, .int 0, .int 0] (.int 0) := AA288
 have K288 := K285.trans Kq288 (allS (Or.inr JA) all0)
 refine Ends.j 31 [] st288 ?_
 refine oA X288 hy d41_31 32 rfl ?_
 exact fA X288 hy hrt hlk hQQ d41_32 rfl rfl e288 (by decide) ⟨b285, k285, rfl, N288, K288, JA, UC, KF, KJ⟩
def Qeng10 (Z : State) (o0 vb : Addr) (kb : ClassId) (h0 : Heap) (n0 : Nat) : QT := fun v h L => ∃ (b : Addr), ∃ (k2 : ClassId), (v = none) ∧ (Fr n0 L) ∧ (Keep h0 h [o0]) ∧ (h0.size ≤ b) ∧ (n0 ≤ b) ∧ (eBQ Z h o0) ∧ (fDQ Z h o0 (.ref b)) ∧ (fCQ Z h o0 (.int 0)) ∧ (fEQ Z h o0 (.int 1)) ∧ (eCQ Z h b) ∧ (Arv Z h b k2 .byte 18 [.int 112, .int 0, .int 0, .int 0, .int 0, .int 0, .int 0, .int 0, .int 0, .int 0, .int 0, .int 0, .int 0, .int 0, .int 0, .int 0, .int 0, .int 0] (.int 0))
theorem rmeng10 (l : Launch) (Z : State) (a0 : Array Value) (hw : TW a0 Z) (ws : List Jvm.Cond) (o0 vb : Addr) (kb : ClassId) (h0 : Heap) (n0 : Nat) (Z0 : n0 ≤ h0.size) (wh : eBQ Z h0 o0) (wd : fDQ Z h0 o0 (.ref vb)) (wb : fCQ Z h0 o0 (.int 0)) (we : fEQ Z h0 o0 (.int 1)) (wy : n0 ≤ o0) (wm : Arv Z h0 vb kb .byte 8 [.int 112, .int 0, .int 0, .int 0, .int 0, .int 0, .int 0, .int 0] (.int 0)) (wq : o0 ≠ vb) :
  MF l mN0 jdk_68_method_9_code 3 none ws (rmm 3 1 18 48) #[.ref o0, .int 10] Z h0 (Qeng10 Z o0 vb kb h0 n0) := by
 refine MF.of (plainFor_of_name pn_3) ?_
 intro p e s m below meth c s₁ QQ hy hml hown hZ X0 e0 hrt hlk hnm hQQ
 have hx := hy.1
 have hby := hy.2
 have N0 := Fr.nil n0
 refine Ends.i #[rv o0, iv 10, uu] (oA X0 hy d15_0 1 rfl (gF X0 hy hown hZ hw e0 wd d15_1 4 46 rfl fun T289 X289 e289 => aLn X289 hy hZ e289 wm d15_4 5 (oA X289 hy d15_5 6 rfl (gF X289 hy hown hZ hw e289 wb d15_6 9 48 rfl fun T291 X291 e291 => oP X291 hy d15_9 10 ?_))))
 show Ends p e below QQ (T291.setTop (mkF m 10 #[rv o0, iv 10, uu] [.int 8]))
 refine oxp X291 hy d15_10 11 #[rv o0, iv 10, iv 8] rfl (oC X291 hy d15_11 12 rfl (oC X291 hy d15_12 13 rfl (oL X291 hy d15_13 14 ?_)))
 show Ends p e below QQ (T291.setTop (mkF m 14 #[rv o0, iv 10, iv 8] [.int 2]))
 refine oxh X291 hy d15_14 17 (XT.i0_le_f (by decide)) (oA X291 hy d15_17 18 rfl (oA X291 hy d15_18 19 rfl (gF X291 hy hown hZ hw e291 wd d15_19 22 46 rfl fun T292 X292 e292 => oA X292 hy d15_22 23 rfl (oC X292 hy d15_23 24 rfl ?_))))
 refine cP X292 hy hml hown hZ hw d15_24 27 2 219 220 96 221 223 40 rfl rfl rfl rfl rfl rfl rfl (rmnc10 l Z a0 hw [] o0 vb kb [.int 112, .int 0, .int 0, .int 0, .int 0, .int 0, .int 0, .int 0] h0 n0 Z0 wd wb wm) e292 pd_15 wh rfl rfl fun _ T293 Lc293 X293 hQ293 => ?_
 obtain ⟨rfl, Nq293, hh293⟩ := hQ293
 have N293 := Fr.app N0 Nq293
 refine Ends.v (oA X293 hy d15_27 28 rfl (gF X293 hy hown hZ hw hh293 wb d15_28 31 48 rfl fun T294 X294 e294 => oO X294 hy d15_31 32 ?_))
 show Ends p e below QQ (T294.setTop (mkF m 32 #[rv o0, iv 10, iv 8] [.int 18, .ref vb, .ref o0]))
 refine cS X294 hy hml hown hZ hw d15_32 35 1 233 234 176 235 rfl rfl rfl rfl (rmcpo9 l Z a0 hw [] vb kb h0 n0 Z0 wm) e294 pd_16 rfl rfl fun _ T295 Lc295 X295 hQ295 => ?_
 obtain ⟨b_295, k2_295, rfl, Nq295, Kq295, fq295_0, xj, WP, WU⟩ := hQ295
 have N295 := Fr.app N293 Nq295
 have KS : o0 ≠ b_295 := Nat.ne_of_lt (Nat.lt_of_lt_of_le wh.lt fq295_0)
 have Ym := Nat.le_trans (Keep.refl h0 [o0]).1 fq295_0
 have wh := wh.keep Kq295
 have wd := wd.keep Kq295 nin0
 have wb := wb.keep Kq295 nin0
 have we := we.keep Kq295 nin0
 have K295 := (Keep.refl h0 [o0]).trans Kq295 all0
 refine Ends.v ?_
 obtain ⟨T296, h296, X296, e296, W296, st296⟩ := putF X295 hx hZ hown (host := "") (Or.inl (tb hw 46 rfl)) Via.refl rfl wd wh (Or.inl (tb hw 47 rfl)) (tb hw 31 rfl) (ty := (.array .byte)) (by decide) rfl rfl (g := (mkF m 35 #[rv o0, iv 10, iv 8] [.ref b_295, .ref o0])) rfl rfl (hb hby d15_35)
 have wh := wh.wr W296
 have wb := wb.other W296 (Or.inr (slot_ne (Or.inl (tb hw 49 rfl)) (Or.inl (tb hw 47 rfl)) (by decide) (t := .byte) (t' := (.array .byte)) (by decide) (by decide)))
 have we := we.other W296 (Or.inr (slot_ne (Or.inl (tb hw 92 rfl)) (Or.inl (tb hw 47 rfl)) (by decide) (t := .int) (t' := (.array .byte)) (by decide) (by decide)))
 have WP := WP.wr W296
 have WU := WU.other W296 (Ne.symm KS)
 have wd : fDQ Z h296 o0 (.ref b_295) := wd.same W296
 have K296 := K295.wr W296 (Or.inl mm0)
 have N296 := Fr.snoc X296 N295 wy
 refine Ends.j 38 [] st296 ?_
 exact fV X296 hy hrt hlk hQQ d15_38 e296 (by decide) ⟨b_295, k2_295, rfl, N296, K296, Ym, xj, wh, wd, wb, we, WP, WU⟩
def Qgb9 (Z : State) (o0 o1 : Addr) (kb : ClassId) (tt : Addr) (kt : ClassId) (cs y0 y1 y2 y3 y4 y5 y6 y7 y8 : Int32) (h0 : Heap) (n0 : Nat) : QT := fun v h L => (v = none) ∧ (Fr n0 L) ∧ (Keep h0 h [o1]) ∧ (Arv Z h o1 kb .byte 18 [.int 112, .int y0, .int y1, .int y2, .int y3, .int y4, .int y5, .int y6, .int y7, .int y8, .int 0, .int 0, .int 0, .int 0, .int 0, .int 0, .int 0, .int 0] (.int 0))
theorem rmgb9 (l : Launch) (Z : State) (a0 : Array Value) (hw : TW a0 Z) (ws : List Jvm.Cond) (o0 o1 : Addr) (kb : ClassId) (tt : Addr) (kt : ClassId) (cs y0 y1 y2 y3 y4 y5 y6 y7 y8 : Int32) (h0 : Heap) (n0 : Nat) (Z0 : n0 ≤ h0.size) (wh : eAQ Z h0 o0) (wd : fBQ Z h0 o0 (.ref tt)) (wb : fAQ Z h0 o0 (.int 0)) (wH : eCQ Z h0 tt) (wE : Arv Z h0 tt kt .byte 9 [.int y0, .int y1, .int y2, .int y3, .int y4, .int y5, .int y6, .int y7, .int y8] (.int 0)) (wG : o0 ≠ tt) (vD : Arv Z h0 o1 kb .byte 18 [.int 112, .int 0, .int 0, .int 0, .int 0, .int 0, .int 0, .int 0, .int 0, .int 0, .int 0, .int 0, .int 0, .int 0, .int 0, .int 0, .int 0, .int 0] (.int 0)) (wK : n0 ≤ o1) (wF : o1 ≠ tt) (kM : o1 ≠ o0) (wa : sHQ Z h0 (.int cs)) (hcs : ¬ cs = (0 : Int32)) :
  MF l mN1 jdk_42_method_147_code 4 none ws (rmm 1 0 0 24) #[.ref o0, .ref o1, .int 1, .int 0] Z h0 (Qgb9 Z o0 o1 kb tt kt cs y0 y1 y2 y3 y4 y5 y6 y7 y8 h0 n0) := by
 refine MF.of (plainFor_of_name pn_0) ?_
 intro p e s m below meth c s₁ QQ hy hml hown hZ X0 e0 hrt hlk hnm hQQ
 have hx := hy.1
 have hby := hy.2
 have N0 := Fr.nil n0
 refine Ends.i #[rv o0, rv o1, iv 1, iv 0] (oA X0 hy d24_0 1 rfl ?_)
 refine cV X0 hy hml hown hZ hw d24_1 4 0 112 113 115 114 116 44 rfl rfl rfl rfl rfl rfl (rmcod l Z a0 hw [] o0 cs h0 n0 Z0 wa hcs wb) e0 pd_0 wh rfl rfl fun _ T297 Lc297 X297 hQ297 => ?_
 obtain ⟨rfl, Nq297, hh297⟩ := hQ297
 have N297 := Fr.app N0 Nq297
 refine Ends.v (oC X297 hy d24_4 5 rfl (oxi X297 hy d24_5 8 (XT.ii_ne_f (by decide)) (oA X297 hy d24_8 9 rfl (gF X297 hy hown hZ hw hh297 wd d24_9 12 77 rfl fun T298 X298 e298 => oG X298 hy d24_12 13 0 rfl (oA X298 hy d24_13 14 rfl (oC X298 hy d24_14 15 rfl (oC X298 hy d24_15 16 rfl (oO X298 hy d24_16 17 ?_))))))))
 show Ends p e below QQ (T298.setTop (mkF m 17 #[rv o0, rv o1, iv 1, iv 0] [.int 1, .ref o1, .int 0, .ref tt]))
 refine oA X298 hy d24_17 18 rfl (gF X298 hy hown hZ hw e298 wd d24_18 21 77 rfl fun T299 X299 e299 => aLn X299 hy hZ e299 wE d24_21 22 ?_)
 obtain ⟨T301, h301, L301, X301, e301, N301, Kq301, AA301, st301⟩ := cpA X299 hx hZ hown (tb hw 144 rfl) (tb hw 147 rfl) (tb hw 145 rfl) (tb hw 146 rfl) e299 wE vD (Or.inl ⟨rfl, rfl⟩) (by decide) (by decide) (by decide) (by decide) (by decide) (us := [.int y0, .int y1, .int y2, .int y3, .int y4, .int y5, .int y6, .int y7, .int y8]) (by rfl) (by decide) N297 wK (g := (mkF m 22 #[rv o0, rv o1, iv 1, iv 0] [.int 9, .int 1, .ref o1, .int 0, .ref tt])) rfl (by rw [hml]; rfl) rfl (hb hby d24_22) (by decide) (W := 0) (by show 2 * 0 + _ ≤ _; exact Nat.le_of_eq rfl) (by decide)
 have vD : Arv Z h301 o1 kb .byte 18 [.int 112, .int y0, .int y1, .int y2, .int y3, .int y4, .int y5, .int y6, .int y7, .int y8, .int 0, .int 0, .int 0, .int 0, .int 0, .int 0, .int 0, .int 0] (.int 0) := AA301
 have K301 := (Keep.refl h0 [o1]).trans Kq301 (allS (Or.inl mm0) all0)
 refine Ends.j 25 [] st301 ?_
 refine oxm X301 hy d24_25 43 ?_
 exact fV X301 hy hrt hlk hQQ d24_43 e301 (by decide) ⟨rfl, N301, K301, vD⟩
def Qps9 (Z : State) (o0 o2 vb : Addr) (kb : ClassId) (tt : Addr) (kt : ClassId) (cs y0 y1 y2 y3 y4 y5 y6 y7 y8 : Int32) (h0 : Heap) (n0 : Nat) : QT := fun v h L => (v = none) ∧ (Fr n0 L) ∧ (Keep h0 h [vb]) ∧ (Arv Z h vb kb .byte 18 [.int 112, .int y0, .int y1, .int y2, .int y3, .int y4, .int y5, .int y6, .int y7, .int y8, .int 0, .int 0, .int 0, .int 0, .int 0, .int 0, .int 0, .int 0] (.int 0))
theorem rmps9 (l : Launch) (Z : State) (a0 : Array Value) (hw : TW a0 Z) (ws : List Jvm.Cond) (o0 o2 vb : Addr) (kb : ClassId) (tt : Addr) (kt : ClassId) (cs y0 y1 y2 y3 y4 y5 y6 y7 y8 : Int32) (h0 : Heap) (n0 : Nat) (Z0 : n0 ≤ h0.size) (wh : eBQ Z h0 o0) (wd : fDQ Z h0 o0 (.ref vb)) (wb : fCQ Z h0 o0 (.int 0)) (we : fEQ Z h0 o0 (.int 1)) (wo : eCQ Z h0 vb) (wm : Arv Z h0 vb kb .byte 18 [.int 112, .int 0, .int 0, .int 0, .int 0, .int 0, .int 0, .int 0, .int 0, .int 0, .int 0, .int 0, .int 0, .int 0, .int 0, .int 0, .int 0, .int 0] (.int 0)) (wy : n0 ≤ o0) (ww : n0 ≤ vb) (wq : o0 ≠ vb) (vC : eAQ Z h0 o2) (wU : fBQ Z h0 o2 (.ref tt)) (wJ : fAQ Z h0 o2 (.int 0)) (wH : eCQ Z h0 tt) (wE : Arv Z h0 tt kt .byte 9 [.int y0, .int y1, .int y2, .int y3, .int y4, .int y5, .int y6, .int y7, .int y8] (.int 0)) (vz : o2 ≠ tt) (wA : vb ≠ tt) (vy : vb ≠ o2) (wa : sHQ Z h0 (.int cs)) (hcs : ¬ cs = (0 : Int32)) :
  MF l mN2 jdk_68_method_73_code 3 none ws (rmm 2 0 0 39) #[.ref o0, .int 1, .ref o2] Z h0 (Qps9 Z o0 o2 vb kb tt kt cs y0 y1 y2 y3 y4 y5 y6 y7 y8 h0 n0) := by
 refine MF.of (plainFor_of_name pn_3) ?_
 intro p e s m below meth c s₁ QQ hy hml hown hZ X0 e0 hrt hlk hnm hQQ
 have N0 := Fr.nil n0
 refine Ends.i #[rv o0, iv 1, rv o2] (oA X0 hy d22_0 1 rfl (oA X0 hy d22_1 2 rfl ?_))
 refine cP X0 hy hml hown hZ hw d22_2 5 0 133 134 96 135 137 40 rfl rfl rfl rfl rfl rfl rfl (rminf l Z a0 hw [] o0 o2 cs h0 n0 Z0 wa hcs wb vC wJ) e0 pd_8 wh rfl rfl fun _ T302 Lc302 X302 hQ302 => ?_
 obtain ⟨rfl, Nq302, hh302⟩ := hQ302
 have N302 := Fr.app N0 Nq302
 refine Ends.u (oA X302 hy d22_5 6 rfl (oA X302 hy d22_6 7 rfl (gF X302 hy hown hZ hw hh302 wd d22_7 10 46 rfl fun T303 X303 e303 => oC X303 hy d22_10 11 rfl (oA X303 hy d22_11 12 rfl (gF X303 hy hown hZ hw e303 wb d22_12 15 48 rfl fun T304 X304 e304 => ?_)))))
 refine cV X304 hy hml hown hZ hw d22_15 18 0 139 140 142 141 143 44 rfl rfl rfl rfl rfl rfl (rmgb9 l Z a0 hw [] o2 vb kb tt kt cs y0 y1 y2 y3 y4 y5 y6 y7 y8 h0 n0 Z0 vC wU wJ wH wE vz wm ww wA vy wa hcs) e304 pd_9 vC rfl rfl fun _ T305 Lc305 X305 hQ305 => ?_
 obtain ⟨rfl, Nq305, Kq305, wm⟩ := hQ305
 have N305 := Fr.app N302 Nq305
 have K305 := (Keep.refl h0 [vb]).trans Kq305 (allS (Or.inl mm0) all0)
 refine Ends.u ?_
 exact fV X305 hy hrt hlk hQQ d22_18 rfl (by decide) ⟨rfl, N305, K305, wm⟩
def Qaps9 (Z : State) (o0 o1 vb : Addr) (kb : ClassId) (tt : Addr) (kt : ClassId) (cs y0 y1 y2 y3 y4 y5 y6 y7 y8 : Int32) (h0 : Heap) (n0 : Nat) : QT := fun v h L => ∃ (b : Addr), ∃ (k2 : ClassId), (v = some (.ref o0)) ∧ (Fr n0 L) ∧ (Keep h0 h [o0]) ∧ (eBQ Z h o0) ∧ (fDQ Z h o0 (.ref b)) ∧ (fCQ Z h o0 (.int 0)) ∧ (fEQ Z h o0 (.int 10)) ∧ (Arv Z h b k2 .byte 18 [.int 112, .int y0, .int y1, .int y2, .int y3, .int y4, .int y5, .int y6, .int y7, .int y8, .int 0, .int 0, .int 0, .int 0, .int 0, .int 0, .int 0, .int 0] (.int 0)) ∧ (eCQ Z h b) ∧ (h0.size ≤ b) ∧ (n0 ≤ b)
theorem rmaps9 (l : Launch) (Z : State) (a0 : Array Value) (hw : TW a0 Z) (ws : List Jvm.Cond) (o0 o1 vb : Addr) (kb : ClassId) (tt : Addr) (kt : ClassId) (cs y0 y1 y2 y3 y4 y5 y6 y7 y8 : Int32) (h0 : Heap) (n0 : Nat) (Z0 : n0 ≤ h0.size) (wh : eBQ Z h0 o0) (wd : fDQ Z h0 o0 (.ref vb)) (wb : fCQ Z h0 o0 (.int 0)) (we : fEQ Z h0 o0 (.int 1)) (wo : eCQ Z h0 vb) (wm : Arv Z h0 vb kb .byte 8 [.int 112, .int 0, .int 0, .int 0, .int 0, .int 0, .int 0, .int 0] (.int 0)) (wy : n0 ≤ o0) (ww : n0 ≤ vb) (wq : o0 ≠ vb) (wt : eAQ Z h0 o1) (wk : fBQ Z h0 o1 (.ref tt)) (wj : fAQ Z h0 o1 (.int 0)) (wH : eCQ Z h0 tt) (wE : Arv Z h0 tt kt .byte 9 [.int y0, .int y1, .int y2, .int y3, .int y4, .int y5, .int y6, .int y7, .int y8] (.int 0)) (wF : o1 ≠ tt) (wA : vb ≠ tt) (wG : o0 ≠ tt) (wD : o0 ≠ o1) (wI : vb ≠ o1) (wa : sHQ Z h0 (.int cs)) (hcs : ¬ cs = (0 : Int32)) :
  MF l mN3 jdk_68_method_22_code 3 (some (.object "java/lang/AbstractStringBuilder")) ws (rmm 4 1 18 62) #[.ref o0, .ref o1] Z h0 (Qaps9 Z o0 o1 vb kb tt kt cs y0 y1 y2 y3 y4 y5 y6 y7 y8 h0 n0) := by
 refine MF.of (plainFor_of_name pn_3) ?_
 intro p e s m below meth c s₁ QQ hy hml hown hZ X0 e0 hrt hlk hnm hQQ
 have hx := hy.1
 have hby := hy.2
 have N0 := Fr.nil n0
 refine Ends.i #[rv o0, rv o1, uu] (oA X0 hy d21_0 1 rfl (oxn X0 hy d21_1 9 (oA X0 hy d21_9 10 rfl ?_)))
 refine cV X0 hy hml hown hZ hw d21_10 13 0 127 108 110 109 111 44 rfl rfl rfl rfl rfl rfl (rmlen l Z a0 hw [] o1 tt kt (9 : Int32) [.int y0, .int y1, .int y2, .int y3, .int y4, .int y5, .int y6, .int y7, .int y8] cs h0 n0 Z0 wt wk wE wa hcs wj) e0 pd_10 wt rfl rfl fun _ T306 Lc306 X306 hQ306 => ?_
 obtain ⟨rfl, Nq306, hh306⟩ := hQ306
 have N306 := Fr.app N0 Nq306
 refine Ends.v (oxp X306 hy d21_13 14 #[rv o0, rv o1, iv 9] rfl (oA X306 hy d21_14 15 rfl (oA X306 hy d21_15 16 rfl (gF X306 hy hown hZ hw hh306 we d21_16 19 91 rfl fun T307 X307 e307 => oC X307 hy d21_19 20 rfl (oK X307 hy d21_20 21 ?_)))))
 show Ends p e below QQ (T307.setTop (mkF m 21 #[rv o0, rv o1, iv 9] [.int 10, .ref o0]))
 refine cP X307 hy hml hown hZ hw d21_21 24 0 93 94 96 95 97 40 rfl rfl rfl rfl rfl rfl rfl (rmeng10 l Z a0 hw [] o0 vb kb h0 n0 Z0 wh wd wb we wy wm wq) e307 pd_5 wh rfl rfl fun _ T308 Lc308 X308 hQ308 => ?_
 obtain ⟨b_308, k2_308, rfl, Nq308, Kq308, fq308_0, JC, fq308_2, wd, wb, we, jU, uZ⟩ := hQ308
 have N308 := Fr.app N306 Nq308
 have jE : o0 ≠ b_308 := Nat.ne_of_lt (Nat.lt_of_lt_of_le wh.lt fq308_0)
 have KN : o1 ≠ b_308 := Nat.ne_of_lt (Nat.lt_of_lt_of_le wt.lt fq308_0)
 have KL : tt ≠ b_308 := Nat.ne_of_lt (Nat.lt_of_lt_of_le wH.lt fq308_0)
 have Vv := Nat.le_trans (Keep.refl h0 [o0]).1 fq308_0
 have wa := own_sta_keep wa Kq308 (allS wh.cell all0)
 have wt := wt.keep Kq308
 have wk := wk.keep Kq308 (ninS (Ne.symm wD) nin0)
 have wj := wj.keep Kq308 (ninS (Ne.symm wD) nin0)
 have wH := wH.keep Kq308
 have wE := wE.keep Kq308 (ninS (Ne.symm wG) nin0)
 have wh := fq308_2
 have K308 := (Keep.refl h0 [o0]).trans Kq308 (allS (Or.inl mm0) all0)
 refine Ends.u (oA X308 hy d21_24 25 rfl (oA X308 hy d21_25 26 rfl (gF X308 hy hown hZ hw rfl we d21_26 29 91 rfl fun T309 X309 e309 => oA X309 hy d21_29 30 rfl ?_)))
 refine cP X309 hy hml hown hZ hw d21_30 33 0 128 129 96 130 132 40 rfl rfl rfl rfl rfl rfl rfl (rmps9 l Z a0 hw [] o0 o1 b_308 k2_308 tt kt cs y0 y1 y2 y3 y4 y5 y6 y7 y8 T308.heap n0 (Nat.le_trans Z0 K308.1) wh wd wb we jU uZ wy JC jE wt wk wj wH wE wF (Ne.symm KL) (Ne.symm KN) wa hcs) e309 pd_11 wh rfl rfl fun _ T310 Lc310 X310 hQ310 => ?_
 obtain ⟨rfl, Nq310, Kq310, uZ⟩ := hQ310
 have N310 := Fr.app N308 Nq310
 have wh := wh.keep Kq310
 have wd := wd.keep Kq310 (ninS jE nin0)
 have wb := wb.keep Kq310 (ninS jE nin0)
 have we := we.keep Kq310 (ninS jE nin0)
 have jU := jU.keep Kq310
 have K310 := K308.trans Kq310 (allS (Or.inr Vv) all0)
 refine Ends.u (oA X310 hy d21_33 34 rfl (oxd X310 hy d21_34 35 rfl (gF X310 hy hown hZ hw rfl we d21_35 38 91 rfl fun T311 X311 e311 => oC X311 hy d21_38 39 rfl (oK X311 hy d21_39 40 ?_))))
 show Ends p e below QQ (T311.setTop (mkF m 40 #[rv o0, rv o1, iv 9] [.int 10, .ref o0]))
 obtain ⟨T312, h312, X312, e312, W312, st312⟩ := putF X311 hx hZ hown (host := "") (Or.inl (tb hw 91 rfl)) Via.refl e311 we wh (Or.inl (tb hw 92 rfl)) (tb hw 31 rfl) (ty := .int) (by decide) rfl rfl (g := (mkF m 40 #[rv o0, rv o1, iv 9] [.int 10, .ref o0])) rfl rfl (hb hby d21_40)
 have wh := wh.wr W312
 have wd := wd.other W312 (Or.inr (slot_ne (Or.inl (tb hw 47 rfl)) (Or.inl (tb hw 92 rfl)) (by decide) (t := (.array .byte)) (t' := .int) (by decide) (by decide)))
 have wb := wb.other W312 (Or.inr (slot_ne (Or.inl (tb hw 49 rfl)) (Or.inl (tb hw 92 rfl)) (by decide) (t := .byte) (t' := .int) (by decide) (by decide)))
 have jU := jU.wr W312
 have uZ := uZ.other W312 (Ne.symm jE)
 have we : fEQ Z h312 o0 (.int 10) := we.same W312
 have K312 := K310.wr W312 (Or.inl mm0)
 have N312 := Fr.snoc X312 N310 wy
 refine Ends.j 43 [] st312 ?_
 refine oA X312 hy d21_43 44 rfl ?_
 exact fA X312 hy hrt hlk hQQ d21_44 rfl rfl e312 (by decide) ⟨b_308, k2_308, rfl, N312, K312, wh, wd, wb, we, uZ, jU, Vv, JC⟩
def Qsps9 (Z : State) (o0 o1 vb : Addr) (kb : ClassId) (tt : Addr) (kt : ClassId) (cs y0 y1 y2 y3 y4 y5 y6 y7 y8 : Int32) (h0 : Heap) (n0 : Nat) : QT := fun v h L => ∃ (b : Addr), ∃ (k2 : ClassId), (v = some (.ref o0)) ∧ (Fr n0 L) ∧ (Keep h0 h [o0]) ∧ (eBQ Z h o0) ∧ (fDQ Z h o0 (.ref b)) ∧ (fCQ Z h o0 (.int 0)) ∧ (fEQ Z h o0 (.int 10)) ∧ (Arv Z h b k2 .byte 18 [.int 112, .int y0, .int y1, .int y2, .int y3, .int y4, .int y5, .int y6, .int y7, .int y8, .int 0, .int 0, .int 0, .int 0, .int 0, .int 0, .int 0, .int 0] (.int 0)) ∧ (eCQ Z h b) ∧ (h0.size ≤ b) ∧ (n0 ≤ b)
theorem rmsps9 (l : Launch) (Z : State) (a0 : Array Value) (hw : TW a0 Z) (ws : List Jvm.Cond) (o0 o1 vb : Addr) (kb : ClassId) (tt : Addr) (kt : ClassId) (cs y0 y1 y2 y3 y4 y5 y6 y7 y8 : Int32) (h0 : Heap) (n0 : Nat) (Z0 : n0 ≤ h0.size) (wh : eBQ Z h0 o0) (wd : fDQ Z h0 o0 (.ref vb)) (wb : fCQ Z h0 o0 (.int 0)) (we : fEQ Z h0 o0 (.int 1)) (wo : eCQ Z h0 vb) (wm : Arv Z h0 vb kb .byte 8 [.int 112, .int 0, .int 0, .int 0, .int 0, .int 0, .int 0, .int 0] (.int 0)) (wy : n0 ≤ o0) (ww : n0 ≤ vb) (wq : o0 ≠ vb) (wt : eAQ Z h0 o1) (wk : fBQ Z h0 o1 (.ref tt)) (wj : fAQ Z h0 o1 (.int 0)) (wH : eCQ Z h0 tt) (wE : Arv Z h0 tt kt .byte 9 [.int y0, .int y1, .int y2, .int y3, .int y4, .int y5, .int y6, .int y7, .int y8] (.int 0)) (wF : o1 ≠ tt) (wA : vb ≠ tt) (wG : o0 ≠ tt) (wD : o0 ≠ o1) (wI : vb ≠ o1) (wa : sHQ Z h0 (.int cs)) (hcs : ¬ cs = (0 : Int32)) :
  MF l mN4 jdk_67_method_7_code 2 (some (.object "java/lang/StringBuilder")) ws (rmm 5 1 18 76) #[.ref o0, .ref o1] Z h0 (Qsps9 Z o0 o1 vb kb tt kt cs y0 y1 y2 y3 y4 y5 y6 y7 y8 h0 n0) := by
 refine MF.of (plainFor_of_name pn_4) ?_
 intro p e s m below meth c s₁ QQ hy hml hown hZ X0 e0 hrt hlk hnm hQQ
 have N0 := Fr.nil n0
 refine Ends.i #[rv o0, rv o1] (oA X0 hy d20_0 1 rfl (oA X0 hy d20_1 2 rfl ?_))
 refine cU X0 hy hml hown hZ hw d20_2 5 0 123 124 96 88 126 40 rfl rfl rfl rfl rfl rfl rfl (rmaps9 l Z a0 hw [] o0 o1 vb kb tt kt cs y0 y1 y2 y3 y4 y5 y6 y7 y8 h0 n0 Z0 wh wd wb we wo wm wy ww wq wt wk wj wH wE wF wA wG wD wI wa hcs) e0 pd_12 wh rfl rfl fun _ T313 Lc313 X313 hQ313 => ?_
 obtain ⟨b_313, k2_313, rfl, Nq313, Kq313, wh, wd, wb, we, Gq, xR, fq313_6, xi⟩ := hQ313
 have N313 := Fr.app N0 Nq313
 have Yl := Nat.le_trans (Keep.refl h0 [o0]).1 fq313_6
 have K313 := (Keep.refl h0 [o0]).trans Kq313 (allS (Or.inl mm0) all0)
 refine Ends.v (oxe X313 hy d20_5 6 rfl (oA X313 hy d20_6 7 rfl ?_))
 exact fA X313 hy hrt hlk hQQ d20_7 rfl rfl rfl (by decide) ⟨b_313, k2_313, rfl, N313, K313, wh, wd, wb, we, Gq, xR, Yl, xi⟩
theorem d28_0 : decode jdk_68_method_64_code 0 = .ok (.aload_n 0, 1) := by decide +kernel
theorem d28_1 : decode jdk_68_method_64_code 1 = .ok (.getfield 15, 3) := by decide +kernel
theorem d28_4 : decode jdk_68_method_64_code 4 = .ok (.areturn, 1) := by decide +kernel
def Qgv (Z : State) (o0 vb : Addr) (h0 : Heap) (n0 : Nat) : QT := fun v h L => (v = some (.ref vb)) ∧ (Fr n0 L) ∧ (h = h0)
theorem rmgv (l : Launch) (Z : State) (a0 : Array Value) (hw : TW a0 Z) (ws : List Jvm.Cond) (o0 vb : Addr) (h0 : Heap) (n0 : Nat) (Z0 : n0 ≤ h0.size) (wd : fDQ Z h0 o0 (.ref vb)) :
  MF l mN38 jdk_68_method_64_code 1 (some (.array .byte)) ws (rmm 0 0 0 0) #[.ref o0] Z h0 (Qgv Z o0 vb h0 n0) := by
 refine MF.of (plainFor_of_name pn_3) ?_
 intro p e s m below meth c s₁ QQ hy hml hown hZ X0 e0 hrt hlk hnm hQQ
 have N0 := Fr.nil n0
 refine Ends.i #[rv o0] (oA X0 hy d28_0 1 rfl (gF X0 hy hown hZ hw e0 wd d28_1 4 46 rfl fun T314 X314 e314 => ?_))
 exact fA X314 hy hrt hlk hQQ d28_4 rfl rfl e314 (by decide) ⟨rfl, N0, rfl⟩
theorem d30_0 : decode jdk_68_method_6_code 0 = .ok (.aload_n 0, 1) := by decide +kernel
theorem d30_1 : decode jdk_68_method_6_code 1 = .ok (.getfield 79, 3) := by decide +kernel
theorem d30_4 : decode jdk_68_method_6_code 4 = .ok (.ireturn, 1) := by decide +kernel
def Qasl (Z : State) (o0 : Addr) (u : Int32) (h0 : Heap) (n0 : Nat) : QT := fun v h L => (v = some (.int u)) ∧ (Fr n0 L) ∧ (h = h0)
theorem rmasl (l : Launch) (Z : State) (a0 : Array Value) (hw : TW a0 Z) (ws : List Jvm.Cond) (o0 : Addr) (u : Int32) (h0 : Heap) (n0 : Nat) (Z0 : n0 ≤ h0.size) (we : fEQ Z h0 o0 (.int u)) :
  MF l mN17 jdk_68_method_6_code 1 (some .int) ws (rmm 0 0 0 0) #[.ref o0] Z h0 (Qasl Z o0 u h0 n0) := by
 refine MF.of (plainFor_of_name pn_3) ?_
 intro p e s m below meth c s₁ QQ hy hml hown hZ X0 e0 hrt hlk hnm hQQ
 have N0 := Fr.nil n0
 refine Ends.i #[rv o0] (oA X0 hy d30_0 1 rfl (gF X0 hy hown hZ hw e0 we d30_1 4 91 rfl fun T315 X315 e315 => ?_))
 exact fI X315 hy hrt hlk hQQ d30_4 rfl (Or.inl rfl) e315 (by decide) ⟨rfl, N0, rfl⟩
theorem d29_0 : decode jdk_67_method_93_code 0 = .ok (.aload_n 0, 1) := by decide +kernel
theorem d29_1 : decode jdk_67_method_93_code 1 = .ok (.invokespecial 343, 3) := by decide +kernel
theorem d29_4 : decode jdk_67_method_93_code 4 = .ok (.ireturn, 1) := by decide +kernel
def Qsbl (Z : State) (o0 : Addr) (u : Int32) (h0 : Heap) (n0 : Nat) : QT := fun v h L => (v = some (.int u)) ∧ (Fr n0 L) ∧ (h = h0)
theorem rmsbl (l : Launch) (Z : State) (a0 : Array Value) (hw : TW a0 Z) (ws : List Jvm.Cond) (o0 : Addr) (u : Int32) (h0 : Heap) (n0 : Nat) (Z0 : n0 ≤ h0.size) (wh : eBQ Z h0 o0) (we : fEQ Z h0 o0 (.int u)) :
  MF l mN18 jdk_67_method_93_code 1 (some .int) ws (rmm 1 0 0 12) #[.ref o0] Z h0 (Qsbl Z o0 u h0 n0) := by
 refine MF.of (plainFor_of_name pn_4) ?_
 intro p e s m below meth c s₁ QQ hy hml hown hZ X0 e0 hrt hlk hnm hQQ
 have N0 := Fr.nil n0
 refine Ends.i #[rv o0] (oA X0 hy d29_0 1 rfl ?_)
 refine cU X0 hy hml hown hZ hw d29_1 4 0 171 167 96 88 172 40 rfl rfl rfl rfl rfl rfl rfl (rmasl l Z a0 hw [] o0 u h0 n0 Z0 we) e0 pd_10 wh rfl rfl fun _ T316 Lc316 X316 hQ316 => ?_
 obtain ⟨rfl, Nq316, hh316⟩ := hQ316
 have N316 := Fr.app N0 Nq316
 refine Ends.v ?_
 exact fI X316 hy hrt hlk hQQ d29_4 rfl (Or.inl rfl) hh316 (by decide) ⟨rfl, N316, rfl⟩
theorem d31_0 : decode cD14 0 = .ok (.iload_n 1, 1) := by decide +kernel
theorem d31_1 : decode cD14 1 = .ok (.ifCond .ne 9, 3) := by decide +kernel
theorem d31_4 : decode cD14 4 = .ok (.iload_n 2, 1) := by decide +kernel
theorem d31_5 : decode cD14 5 = .ok (.aload_n 0, 1) := by decide +kernel
theorem d31_6 : decode cD14 6 = .ok (.arraylength, 1) := by decide +kernel
theorem d31_7 : decode cD14 7 = .ok (.if_icmp .eq 10, 3) := by decide +kernel
theorem d31_17 : decode cD14 17 = .ok (.aload_n 0, 1) := by decide +kernel
theorem d31_18 : decode cD14 18 = .ok (.invokevirtual 310, 3) := by decide +kernel
theorem d31_21 : decode cD14 21 = .ok (.checkcast 311, 3) := by decide +kernel
theorem d31_24 : decode cD14 24 = .ok (.areturn, 1) := by decide +kernel
def Qcor8 (Z : State) (o0 : Addr) (kb : ClassId) (y0 y1 y2 y3 y4 y5 y6 y7 : Int32) (h0 : Heap) (n0 : Nat) : QT := fun v h L => ∃ (b : Addr), ∃ (k2 : ClassId), (v = some (.ref b)) ∧ (Fr n0 L) ∧ (Keep h0 h []) ∧ (h0.size ≤ b) ∧ (n0 ≤ b) ∧ (eCQ Z h b) ∧ (Arv Z h b k2 .byte 8 [.int y0, .int y1, .int y2, .int y3, .int y4, .int y5, .int y6, .int y7] (.int 0))
theorem rmcor8 (l : Launch) (Z : State) (a0 : Array Value) (hw : TW a0 Z) (ws : List Jvm.Cond) (o0 : Addr) (kb : ClassId) (y0 y1 y2 y3 y4 y5 y6 y7 : Int32) (h0 : Heap) (n0 : Nat) (Z0 : n0 ≤ h0.size) (vF : Arv Z h0 o0 kb .byte 8 [.int y0, .int y1, .int y2, .int y3, .int y4, .int y5, .int y6, .int y7] (.int 0)) (wh : eCQ Z h0 o0) :
  MF l mN13 jdk_65_method_132_code 3 (some (.array .byte)) ws (rmm 1 1 8 14) #[.ref o0, .int 0, .int 8] Z h0 (Qcor8 Z o0 kb y0 y1 y2 y3 y4 y5 y6 y7 h0 n0) := by
 refine MF.of (plainFor_of_name pn_6) ?_
 intro p e s m below meth c s₁ QQ hy hml hown hZ X0 e0 hrt hlk hnm hQQ
 have hx := hy.1
 have hby := hy.2
 have N0 := Fr.nil n0
 refine Ends.i #[rv o0, iv 0, iv 8] (oC X0 hy d31_0 1 rfl (oxh X0 hy d31_1 4 (XT.i0_ne_f (by decide)) (oC X0 hy d31_4 5 rfl (oA X0 hy d31_5 6 rfl (aLn X0 hy hZ e0 vF d31_6 7 (oxl X0 hy d31_7 17 (XT.ii_eq_t (by decide)) (oA X0 hy d31_17 18 rfl ?_)))))))
 obtain ⟨T318, h318, X318, e318, E318, A318, D318, st318⟩ := cloneH X0 hx hZ hown (tb hw 178 rfl) (tb hw 179 rfl) (tb hw 183 rfl) (tb hw 181 rfl) (tb hw 182 rfl) (tb hw 184 rfl) e0 (Arv.arh vF) wh (g := (mkF m 18 #[rv o0, iv 0, iv 8] [.ref o0])) rfl (by rw [hml]; rfl) rfl (hb hby d31_18) (by decide) (W := 0) (cap := 8) (by show 2 * 0 + _ ≤ _; exact Nat.le_of_eq rfl) (by decide) (by decide) (by decide) (by decide)
 obtain ⟨b318, g318⟩ : ∃ z, z = h0.size := ⟨_, rfl⟩
 rw [← g318] at A318 D318 st318
 have Gv : n0 ≤ b318 := Nat.le_trans Z0 (Nat.le_trans (Keep.refl h0 []).1 (Nat.le_of_eq g318.symm))
 have YB : h0.size ≤ b318 := Nat.le_trans (Keep.refl h0 []).1 (Nat.le_of_eq g318.symm)
 have K318 := (Keep.refl h0 []).ext E318
 have Gw : Arv Z h318 b318 kb .byte 8 [.int y0, .int y1, .int y2, .int y3, .int y4, .int y5, .int y6, .int y7] (.int 0) := A318
 have UE := D318
 refine Ends.j 21 [.ref b318] st318 ?_
 obtain ⟨T319, X319, e319, st319⟩ := castY X318 hx hZ hown (tb hw 185 rfl) e318 (Ins.self UE) (g := (mkF m 21 #[rv o0, iv 0, iv 8] [.ref b318])) rfl rfl (hb hby d31_21)
 refine Ends.j 24 [.ref b318] st319 ?_
 exact fA X319 hy hrt hlk hQQ d31_24 rfl rfl e319 (by decide) ⟨b318, kb, rfl, N0, K318, YB, Gv, UE, Gw⟩
theorem d27_0 : decode cD9 0 = .ok (.aload_n 0, 1) := by decide +kernel
theorem d27_1 : decode cD9 1 = .ok (.invokespecial 1, 3) := by decide +kernel
theorem d27_4 : decode cD9 4 = .ok (.aload_n 1, 1) := by decide +kernel
theorem d27_5 : decode cD9 5 = .ok (.invokevirtual 552, 3) := by decide +kernel
theorem d27_8 : decode cD9 8 = .ok (.astore_n 3, 1) := by decide +kernel
theorem d27_9 : decode cD9 9 = .ok (.aload_n 1, 1) := by decide +kernel
theorem d27_10 : decode cD9 10 = .ok (.invokevirtual 549, 3) := by decide +kernel
theorem d27_13 : decode cD9 13 = .ok (.istore 4, 2) := by decide +kernel
theorem d27_15 : decode cD9 15 = .ok (.aload_n 1, 1) := by decide +kernel
theorem d27_16 : decode cD9 16 = .ok (.invokevirtual 1047, 3) := by decide +kernel
theorem d27_19 : decode cD9 19 = .ok (.ifCond .eq 22, 3) := by decide +kernel
theorem d27_22 : decode cD9 22 = .ok (.aload_n 0, 1) := by decide +kernel
theorem d27_23 : decode cD9 23 = .ok (.iconst 0, 1) := by decide +kernel
theorem d27_24 : decode cD9 24 = .ok (.putfield 15, 3) := by decide +kernel
theorem d27_27 : decode cD9 27 = .ok (.aload_n 0, 1) := by decide +kernel
theorem d27_28 : decode cD9 28 = .ok (.aload_n 3, 1) := by decide +kernel
theorem d27_29 : decode cD9 29 = .ok (.iconst 0, 1) := by decide +kernel
theorem d27_30 : decode cD9 30 = .ok (.iload 4, 2) := by decide +kernel
theorem d27_32 : decode cD9 32 = .ok (.invokestatic 54, 3) := by decide +kernel
theorem d27_35 : decode cD9 35 = .ok (.putfield 9, 3) := by decide +kernel
theorem d27_38 : decode cD9 38 = .ok (.goto 59, 3) := by decide +kernel
theorem d27_97 : decode cD9 97 = .ok (.return_, 1) := by decide +kernel
theorem ef_sia8 (m : MethodId) (x0 : Addr) (x1 : Addr) : entryFrame m #[.ref x0, .ref x1, .null] 5 = mkF m 0 #[.val (.ref x0), .val (.ref x1), .val .null, .unset, .unset] [] := by first | (simp [entryFrame, mkF, argsToLocals, Value.category]; done) | rfl
def Qsia8 (Z : State) (o0 o1 : Addr) (u1 : Value) (u2 : Int32) (vb : Addr) (kb : ClassId) (cs y0 y1 y2 y3 y4 y5 y6 y7 : Int32) (h0 : Heap) (n0 : Nat) : QT := fun v h L => ∃ (b : Addr), ∃ (k2 : ClassId), (v = none) ∧ (Fr n0 L) ∧ (Keep h0 h [o0]) ∧ (h0.size ≤ b) ∧ (n0 ≤ b) ∧ (eAQ Z h o0) ∧ (fBQ Z h o0 (.ref b)) ∧ (fAQ Z h o0 (.int 0)) ∧ (eCQ Z h b) ∧ (Arv Z h b k2 .byte 8 [.int y0, .int y1, .int y2, .int y3, .int y4, .int y5, .int y6, .int y7] (.int 0))
theorem rmsia8 (l : Launch) (Z : State) (a0 : Array Value) (hw : TW a0 Z) (ws : List Jvm.Cond) (o0 o1 : Addr) (u1 : Value) (u2 : Int32) (vb : Addr) (kb : ClassId) (cs y0 y1 y2 y3 y4 y5 y6 y7 : Int32) (h0 : Heap) (n0 : Nat) (Z0 : n0 ≤ h0.size) (wh : eAQ Z h0 o0) (wd : fBQ Z h0 o0 u1) (wb : fAQ Z h0 o0 (.int u2)) (wy : n0 ≤ o0) (wD : o0 ≠ o1) (wq : o0 ≠ vb) (wt : eBQ Z h0 o1) (wk : fDQ Z h0 o1 (.ref vb)) (wj : fCQ Z h0 o1 (.int 0)) (wp : fEQ Z h0 o1 (.int 8)) (wo : eCQ Z h0 vb) (wm : Arv Z h0 vb kb .byte 8 [.int y0, .int y1, .int y2, .int y3, .int y4, .int y5, .int y6, .int y7] (.int 0)) (wx : o1 ≠ vb) (wa : sHQ Z h0 (.int cs)) (hcs : ¬ cs = (0 : Int32)) :
  MF l mN14 jdk_42_method_150_code 5 none ws (rmm 2 1 8 29) #[.ref o0, .ref o1, .null] Z h0 (Qsia8 Z o0 o1 u1 u2 vb kb cs y0 y1 y2 y3 y4 y5 y6 y7 h0 n0) := by
 refine MF.of (plainFor_of_name pn_0) ?_
 intro p e s m below meth c s₁ QQ hy hml hown hZ X0 e0 hrt hlk hnm hQQ
 have hx := hy.1
 have hby := hy.2
 have N0 := Fr.nil n0
 refine Ends.i #[rv o0, rv o1, .val .null, uu, uu] ?_ (ef_sia8 m o0 o1)
 refine oA X0 hy d27_0 1 rfl ?_
 obtain ⟨T320, X320, e320, st320⟩ := initO X0 hx hZ hown (tb hw 76 rfl) (tb hw 18 rfl) (tb hw 19 rfl) e0 (g := (mkF m 1 #[rv o0, rv o1, .val .null, uu, uu] [.ref o0])) rfl (by rw [hml]; rfl) rfl (hb hby d27_1) (by decide) (W := 0) (by show 2 * 0 + _ ≤ _; exact Nat.le_of_eq rfl) (by decide)
 refine Ends.j 4 [] st320 ?_
 refine oA X320 hy d27_4 5 rfl ?_
 refine cV X320 hy hml hown hZ hw d27_5 8 0 160 161 163 162 164 40 rfl rfl rfl rfl rfl rfl (rmgv l Z a0 hw [] o1 vb h0 n0 Z0 wk) e320 pd_17 wt rfl rfl fun _ T321 Lc321 X321 hQ321 => ?_
 obtain ⟨rfl, Nq321, hh321⟩ := hQ321
 have N321 := Fr.app N0 Nq321
 refine Ends.v (oxt X321 hy d27_8 9 #[rv o0, rv o1, .val .null, rv vb, uu] rfl (oA X321 hy d27_9 10 rfl ?_))
 obtain ⟨cq322, kq322, q322a, q322b, q322c⟩ := isOf hZ hh321 wt
 obtain ⟨_, _, ⟨T322, L322, k322, n322⟩, -, X322, ⟨Lc322, hQ322, l322, y322, z322⟩, st322⟩ := X321.virtualBack hx (y := mN17) (z := mN18) hown (mvT hZ (tb hw 165 rfl)) (mvT hZ (tb hw 166 rfl)) (own_notface (args := #[]) (mvT hZ (tb hw 96 rfl)) rfl) (mvT hZ (tb hw 168 rfl)) (mvT hZ (tb hw 169 rfl)) (by decide) (backOf (W := 0) (rmsbl l Z a0 hw [] o1 (8 : Int32) h0 n0 (Nat.le_trans Z0 (Keep.refl h0 [o0]).1) wt wp) hZ (tb hw 170 rfl) (tb hw 32 rfl) (by decide) (by decide)) q322a q322c (g := (mkF m 10 #[rv o0, rv o1, .val .null, rv vb, uu] [.ref o1])) rfl (by rw [hml]; rfl) (Steps.refl _) (argsL := []) (rest := []) (lenOf pd_10 rfl) rfl (by show 2 * 0 + _ ≤ _; exact Nat.le_of_eq rfl) (hb hby d27_10) (fun _ _ => ⟨rfl, hh321, (by decide : 0 + 0 ≤ _), (by decide : 0 + 0 ≤ _)⟩)
 dsimp only [Pt.U, Pt.locs, Pt.cells, Pt.slots] at X322 l322 y322 z322 st322 hQ322
 subst l322 y322 z322
 obtain ⟨rfl, Nq322, hh322⟩ := hQ322
 have N322 := Fr.app N321 Nq322
 refine Ends.j 13 [.int 8] (fun _ k => st322.trans k) ?_
 refine oxo X322 hy d27_13 15 #[rv o0, rv o1, .val .null, rv vb, iv 8] rfl (oA X322 hy d27_15 16 rfl ?_)
 refine cV X322 hy hml hown hZ hw d27_16 19 0 173 99 101 100 102 40 rfl rfl rfl rfl rfl rfl (rmasi l Z a0 hw [] o1 cs h0 n0 Z0 wa hcs wj) hh322 pd_3 wt rfl rfl fun _ T323 Lc323 X323 hQ323 => ?_
 obtain ⟨rfl, Nq323, hh323⟩ := hQ323
 have N323 := Fr.app N322 Nq323
 refine Ends.v (oxh X323 hy d27_19 22 (XT.i0_eq_f (by decide)) (oA X323 hy d27_22 23 rfl (oG X323 hy d27_23 24 0 rfl ?_)))
 obtain ⟨T324, h324, X324, e324, W324, st324⟩ := putFN X323 hx hZ hown (tb hw 79 rfl) Via.refl hh323 wb wh (Or.inr ⟨(tb hw 80 rfl), rfl, hnm⟩) (tb hw 71 rfl) (ty := .byte) (v' := (.int 0)) (by decide) rfl rfl (g := (mkF m 24 #[rv o0, rv o1, .val .null, rv vb, iv 8] [.int 0, .ref o0])) rfl rfl (hb hby d27_24)
 have wh := wh.wr W324
 have wd := wd.other W324 (Or.inr (slot_ne (Or.inr (tb hw 78 rfl)) (Or.inr (tb hw 80 rfl)) (by decide) (t := (.array .byte)) (t' := .byte) (by decide) (by decide)))
 have wo := wo.wr W324
 have wm := wm.other W324 (Ne.symm wq)
 have wb : fAQ Z h324 o0 (.int 0) := wb.same W324
 have K324 := (Keep.refl h0 [o0]).wr W324 (Or.inl mm0)
 have N324 := Fr.snoc X324 N323 wy
 refine Ends.j 27 [] st324 ?_
 refine oA X324 hy d27_27 28 rfl (oA X324 hy d27_28 29 rfl (oG X324 hy d27_29 30 0 rfl (oD X324 hy d27_30 32 rfl ?_)))
 refine cS X324 hy hml hown hZ hw d27_32 35 1 174 175 176 177 rfl rfl rfl rfl (rmcor8 l Z a0 hw [] vb kb y0 y1 y2 y3 y4 y5 y6 y7 h324 n0 (Nat.le_trans Z0 K324.1) wm wo) e324 pd_18 rfl rfl fun _ T325 Lc325 X325 hQ325 => ?_
 obtain ⟨b_325, k2_325, rfl, Nq325, Kq325, fq325_0, xh, WO, WT⟩ := hQ325
 have N325 := Fr.app N324 Nq325
 have KR : o0 ≠ b_325 := Nat.ne_of_lt (Nat.lt_of_lt_of_le wh.lt fq325_0)
 have Yk := Nat.le_trans K324.1 fq325_0
 have wh := wh.keep Kq325
 have wd := wd.keep Kq325 nin0
 have wb := wb.keep Kq325 nin0
 have K325 := K324.trans Kq325 all0
 refine Ends.v ?_
 obtain ⟨T326, h326, X326, e326, W326, st326⟩ := putF X325 hx hZ hown (host := "") (Or.inl (tb hw 77 rfl)) Via.refl rfl wd wh (Or.inr ⟨(tb hw 78 rfl), rfl, hnm⟩) (tb hw 71 rfl) (ty := (.array .byte)) (by decide) rfl rfl (g := (mkF m 35 #[rv o0, rv o1, .val .null, rv vb, iv 8] [.ref b_325, .ref o0])) rfl rfl (hb hby d27_35)
 have wh := wh.wr W326
 have wb := wb.other W326 (Or.inr (slot_ne (Or.inr (tb hw 80 rfl)) (Or.inr (tb hw 78 rfl)) (by decide) (t := .byte) (t' := (.array .byte)) (by decide) (by decide)))
 have WO := WO.wr W326
 have WT := WT.other W326 (Ne.symm KR)
 have wd : fBQ Z h326 o0 (.ref b_325) := wd.same W326
 have K326 := K325.wr W326 (Or.inl mm0)
 have N326 := Fr.snoc X326 N325 wy
 refine Ends.j 38 [] st326 ?_
 refine oxm X326 hy d27_38 97 ?_
 exact fV X326 hy hrt hlk hQQ d27_97 e326 (by decide) ⟨b_325, k2_325, rfl, N326, K326, Yk, xh, wh, wd, wb, WO, WT⟩
theorem d26_0 : decode cD35 0 = .ok (.aload_n 0, 1) := by decide +kernel
theorem d26_1 : decode cD35 1 = .ok (.aload_n 1, 1) := by decide +kernel
theorem d26_2 : decode cD35 2 = .ok (.aconst_null, 1) := by decide +kernel
theorem d26_3 : decode cD35 3 = .ok (.invokespecial 489, 3) := by decide +kernel
theorem d26_6 : decode cD35 6 = .ok (.return_, 1) := by decide +kernel
def Qsis8 (Z : State) (o0 o1 : Addr) (u1 : Value) (u2 : Int32) (vb : Addr) (kb : ClassId) (cs y0 y1 y2 y3 y4 y5 y6 y7 : Int32) (h0 : Heap) (n0 : Nat) : QT := fun v h L => ∃ (b : Addr), ∃ (k2 : ClassId), (v = none) ∧ (Fr n0 L) ∧ (Keep h0 h [o0]) ∧ (h0.size ≤ b) ∧ (n0 ≤ b) ∧ (eAQ Z h o0) ∧ (fBQ Z h o0 (.ref b)) ∧ (fAQ Z h o0 (.int 0)) ∧ (eCQ Z h b) ∧ (Arv Z h b k2 .byte 8 [.int y0, .int y1, .int y2, .int y3, .int y4, .int y5, .int y6, .int y7] (.int 0))
theorem rmsis8 (l : Launch) (Z : State) (a0 : Array Value) (hw : TW a0 Z) (ws : List Jvm.Cond) (o0 o1 : Addr) (u1 : Value) (u2 : Int32) (vb : Addr) (kb : ClassId) (cs y0 y1 y2 y3 y4 y5 y6 y7 : Int32) (h0 : Heap) (n0 : Nat) (Z0 : n0 ≤ h0.size) (wh : eAQ Z h0 o0) (wd : fBQ Z h0 o0 u1) (wb : fAQ Z h0 o0 (.int u2)) (wy : n0 ≤ o0) (wD : o0 ≠ o1) (wq : o0 ≠ vb) (wt : eBQ Z h0 o1) (wk : fDQ Z h0 o1 (.ref vb)) (wj : fCQ Z h0 o1 (.int 0)) (wp : fEQ Z h0 o1 (.int 8)) (wo : eCQ Z h0 vb) (wm : Arv Z h0 vb kb .byte 8 [.int y0, .int y1, .int y2, .int y3, .int y4, .int y5, .int y6, .int y7] (.int 0)) (wx : o1 ≠ vb) (wa : sHQ Z h0 (.int cs)) (hcs : ¬ cs = (0 : Int32)) :
  MF l mN15 jdk_42_method_53_code 2 none ws (rmm 3 1 8 45) #[.ref o0, .ref o1] Z h0 (Qsis8 Z o0 o1 u1 u2 vb kb cs y0 y1 y2 y3 y4 y5 y6 y7 h0 n0) := by
 refine MF.of (plainFor_of_name pn_0) ?_
 intro p e s m below meth c s₁ QQ hy hml hown hZ X0 e0 hrt hlk hnm hQQ
 have N0 := Fr.nil n0
 refine Ends.i #[rv o0, rv o1] (oA X0 hy d26_0 1 rfl (oA X0 hy d26_1 2 rfl (oxg X0 hy d26_2 3 ?_)))
 refine cI X0 hy hml hown hZ hw d26_3 6 0 157 158 159 44 rfl rfl rfl rfl rfl (rmsia8 l Z a0 hw [] o0 o1 u1 u2 vb kb cs y0 y1 y2 y3 y4 y5 y6 y7 h0 n0 Z0 wh wd wb wy wD wq wt wk wj wp wo wm wx wa hcs) e0 pd_19 rfl rfl fun _ T327 Lc327 X327 hQ327 => ?_
 obtain ⟨b_327, k2_327, rfl, Nq327, Kq327, fq327_0, xg, wh, wd, wb, xQ, Gp⟩ := hQ327
 have N327 := Fr.app N0 Nq327
 have Yj := Nat.le_trans (Keep.refl h0 [o0]).1 fq327_0
 have K327 := (Keep.refl h0 [o0]).trans Kq327 (allS (Or.inl mm0) all0)
 refine Ends.u ?_
 exact fV X327 hy hrt hlk hQQ d26_6 rfl (by decide) ⟨b_327, k2_327, rfl, N327, K327, Yj, xg, wh, wd, wb, xQ, Gp⟩
theorem d25_0 : decode cD36 0 = .ok (.new 18, 3) := by decide +kernel
theorem d25_3 : decode cD36 3 = .ok (.dup, 1) := by decide +kernel
theorem d25_4 : decode cD36 4 = .ok (.aload_n 0, 1) := by decide +kernel
theorem d25_5 : decode cD36 5 = .ok (.invokespecial 137, 3) := by decide +kernel
theorem d25_8 : decode cD36 8 = .ok (.areturn, 1) := by decide +kernel
def Qtos8 (Z : State) (o0 vb : Addr) (kb : ClassId) (cs y0 y1 y2 y3 y4 y5 y6 y7 : Int32) (h0 : Heap) (n0 : Nat) : QT := fun v h L => ∃ (x : Addr), ∃ (b : Addr), ∃ (k2 : ClassId), (v = some (.ref x)) ∧ (Fr n0 L) ∧ (Keep h0 h []) ∧ (h0.size ≤ x) ∧ (h0.size ≤ b) ∧ (n0 ≤ x) ∧ (n0 ≤ b) ∧ (eAQ Z h x) ∧ (fBQ Z h x (.ref b)) ∧ (fAQ Z h x (.int 0)) ∧ (eCQ Z h b) ∧ (Arv Z h b k2 .byte 8 [.int y0, .int y1, .int y2, .int y3, .int y4, .int y5, .int y6, .int y7] (.int 0)) ∧ (x ≠ b)
theorem rmtos8 (l : Launch) (Z : State) (a0 : Array Value) (hw : TW a0 Z) (ws : List Jvm.Cond) (o0 vb : Addr) (kb : ClassId) (cs y0 y1 y2 y3 y4 y5 y6 y7 : Int32) (h0 : Heap) (n0 : Nat) (Z0 : n0 ≤ h0.size) (wh : eBQ Z h0 o0) (wd : fDQ Z h0 o0 (.ref vb)) (wb : fCQ Z h0 o0 (.int 0)) (we : fEQ Z h0 o0 (.int 8)) (wo : eCQ Z h0 vb) (wm : Arv Z h0 vb kb .byte 8 [.int y0, .int y1, .int y2, .int y3, .int y4, .int y5, .int y6, .int y7] (.int 0)) (wq : o0 ≠ vb) (wa : sHQ Z h0 (.int cs)) (hcs : ¬ cs = (0 : Int32)) :
  MF l mN16 jdk_67_method_42_code 1 (some (.object "java/lang/String")) ws (rmm 4 2 12 59) #[.ref o0] Z h0 (Qtos8 Z o0 vb kb cs y0 y1 y2 y3 y4 y5 y6 y7 h0 n0) := by
 refine MF.of (plainFor_of_name pn_4) ?_
 intro p e s m below meth c s₁ QQ hy hml hown hZ X0 e0 hrt hlk hnm hQQ
 have hx := hy.1
 have hby := hy.2
 have N0 := Fr.nil n0
 refine Ends.i #[rv o0] ?_
 obtain ⟨T328, h328, X328, e328, E328, A328, D328, U328, st328⟩ := newO X0 hx hZ hown (tb hw 153 rfl) (tb hw 71 rfl) (tb hw 44 rfl) e0 (g := (mkF m 0 #[rv o0] [])) rfl (hb hby d25_0) (by decide) (by decide)
 obtain ⟨b328, g328⟩ : ∃ z, z = h0.size := ⟨_, rfl⟩
 rw [← g328] at A328 D328 U328 st328
 have JL : o0 ≠ b328 := Nat.ne_of_lt (Nat.lt_of_lt_of_le wh.lt (Nat.le_of_eq g328.symm))
 have JG : vb ≠ b328 := Nat.ne_of_lt (Nat.lt_of_lt_of_le wo.lt (Nat.le_of_eq g328.symm))
 have UB : n0 ≤ b328 := Nat.le_trans Z0 (Nat.le_trans (Keep.refl h0 []).1 (Nat.le_of_eq g328.symm))
 have Jz : h0.size ≤ b328 := Nat.le_trans (Keep.refl h0 []).1 (Nat.le_of_eq g328.symm)
 have wh := wh.ext E328
 have wd := wd.ext E328
 have wb := wb.ext E328
 have we := we.ext E328
 have wo := wo.ext E328
 have wm := wm.ext E328
 have wa := wa.ext E328
 have K328 := (Keep.refl h0 []).ext E328
 have We := A328
 have up : fBQ Z h328 b328 .null := D328 (Or.inr (tb hw 78 rfl)) (ty := (.array .byte)) (by decide)
 have uE : fAQ Z h328 b328 (.int 0) := D328 (Or.inr (tb hw 80 rfl)) (ty := .byte) (by decide)
 refine Ends.j 3 [.ref b328] st328 ?_
 refine oxd X328 hy d25_3 4 rfl (oA X328 hy d25_4 5 rfl ?_)
 refine cI X328 hy hml hown hZ hw d25_5 8 1 154 155 156 44 rfl rfl rfl rfl rfl (rmsis8 l Z a0 hw [] b328 o0 (.null : Value) (0 : Int32) vb kb cs y0 y1 y2 y3 y4 y5 y6 y7 h328 n0 (Nat.le_trans Z0 K328.1) We up uE UB (Ne.symm JL) (Ne.symm JG) wh wd wb we wo wm wq wa hcs) e328 pd_20 rfl rfl fun _ T329 Lc329 X329 hQ329 => ?_
 obtain ⟨b_329, k2_329, rfl, Nq329, Kq329, fq329_0, xf, fq329_2, up, uE, xP, Go⟩ := hQ329
 have N329 := Fr.app N0 Nq329
 have Vb : b328 ≠ b_329 := Nat.ne_of_lt (Nat.lt_of_lt_of_le We.lt fq329_0)
 have Yi := Nat.le_trans K328.1 fq329_0
 have We := fq329_2
 have K329 := K328.trans Kq329 (allS (Or.inr Jz) all0)
 refine Ends.u ?_
 exact fA X329 hy hrt hlk hQQ d25_8 rfl rfl rfl (by decide) ⟨b328, b_329, k2_329, rfl, N329, K329, Jz, Yi, UB, xf, We, up, uE, xP, Go, Vb⟩
theorem d44_0 : decode cD38 0 = .ok (.iload_n 1, 1) := by decide +kernel
theorem d44_1 : decode cD38 1 = .ok (.iload_n 0, 1) := by decide +kernel
theorem d44_2 : decode cD38 2 = .ok (.if_icmp .ge 35, 3) := by decide +kernel
theorem d44_37 : decode cD38 37 = .ok (.return_, 1) := by decide +kernel
def Qckl9 (Z : State)  (h0 : Heap) (n0 : Nat) : QT := fun v h L => (v = none) ∧ (Fr n0 L) ∧ (h = h0)
theorem rmckl9 (l : Launch) (Z : State) (a0 : Array Value) (hw : TW a0 Z) (ws : List Jvm.Cond)  (h0 : Heap) (n0 : Nat) (Z0 : n0 ≤ h0.size) :
  MF l mN23 jdk_65_method_131_code 2 none ws (rmm 0 0 0 0) #[.int 0, .int 9] Z h0 (Qckl9 Z  h0 n0) := by
 refine MF.of (plainFor_of_name pn_6) ?_
 intro p e s m below meth c s₁ QQ hy hml hown hZ X0 e0 hrt hlk hnm hQQ
 have N0 := Fr.nil n0
 refine Ends.i #[iv 0, iv 9] (oC X0 hy d44_0 1 rfl (oC X0 hy d44_1 2 rfl (oxl X0 hy d44_2 37 (XT.ii_ge_t (by decide)) ?_)))
 exact fV X0 hy hrt hlk hQQ d44_37 e0 (by decide) ⟨rfl, N0, rfl⟩
theorem d42_9 : decode cD28 9 = .ok (.iload_n 1, 1) := by decide +kernel
def Qmnt9 (Z : State)  (h0 : Heap) (n0 : Nat) : QT := fun v h L => (v = some (.int 9)) ∧ (Fr n0 L) ∧ (h = h0)
theorem rmmnt9 (l : Launch) (Z : State) (a0 : Array Value) (hw : TW a0 Z) (ws : List Jvm.Cond)  (h0 : Heap) (n0 : Nat) (Z0 : n0 ≤ h0.size) :
  MF l mN12 jdk_29_method_69_code 2 (some .int) ws (rmm 0 0 0 0) #[.int 18, .int 9] Z h0 (Qmnt9 Z  h0 n0) := by
 refine MF.of (Jvm.Free.JP.mathPlain rfl (by decide +kernel)) ?_
 intro p e s m below meth c s₁ QQ hy hml hown hZ X0 e0 hrt hlk hnm hQQ
 have N0 := Fr.nil n0
 refine Ends.i #[iv 18, iv 9] (oC X0 hy d42_0 1 rfl (oC X0 hy d42_1 2 rfl (oxl X0 hy d42_2 9 (XT.ii_gt_t (by decide)) (oC X0 hy d42_9 10 rfl ?_))))
 exact fI X0 hy hrt hlk hQQ d42_10 rfl (Or.inl rfl) e0 (by decide) ⟨rfl, N0, rfl⟩
theorem d43_0 : decode cD8 0 = .ok (.iload_n 1, 1) := by decide +kernel
theorem d43_1 : decode cD8 1 = .ok (.iload_n 2, 1) := by decide +kernel
theorem d43_2 : decode cD8 2 = .ok (.invokestatic 343, 3) := by decide +kernel
theorem d43_5 : decode cD8 5 = .ok (.iload_n 2, 1) := by decide +kernel
theorem d43_6 : decode cD8 6 = .ok (.iload_n 1, 1) := by decide +kernel
theorem d43_7 : decode cD8 7 = .ok (.isub, 1) := by decide +kernel
theorem d43_8 : decode cD8 8 = .ok (.istore_n 3, 1) := by decide +kernel
theorem d43_9 : decode cD8 9 = .ok (.iload_n 3, 1) := by decide +kernel
theorem d43_10 : decode cD8 10 = .ok (.newarray .byte, 2) := by decide +kernel
theorem d43_12 : decode cD8 12 = .ok (.astore 4, 2) := by decide +kernel
theorem d43_14 : decode cD8 14 = .ok (.aload_n 0, 1) := by decide +kernel
theorem d43_15 : decode cD8 15 = .ok (.iload_n 1, 1) := by decide +kernel
theorem d43_16 : decode cD8 16 = .ok (.aload 4, 2) := by decide +kernel
theorem d43_18 : decode cD8 18 = .ok (.iconst 0, 1) := by decide +kernel
theorem d43_19 : decode cD8 19 = .ok (.aload_n 0, 1) := by decide +kernel
theorem d43_20 : decode cD8 20 = .ok (.arraylength, 1) := by decide +kernel
theorem d43_21 : decode cD8 21 = .ok (.iload_n 1, 1) := by decide +kernel
theorem d43_22 : decode cD8 22 = .ok (.isub, 1) := by decide +kernel
theorem d43_23 : decode cD8 23 = .ok (.iload_n 3, 1) := by decide +kernel
theorem d43_24 : decode cD8 24 = .ok (.invokestatic 304, 3) := by decide +kernel
theorem d43_27 : decode cD8 27 = .ok (.invokestatic 150, 3) := by decide +kernel
theorem d43_30 : decode cD8 30 = .ok (.aload 4, 2) := by decide +kernel
theorem d43_32 : decode cD8 32 = .ok (.areturn, 1) := by decide +kernel
def Qcrb9 (Z : State) (o0 : Addr) (kb : ClassId) (y0 y1 y2 y3 y4 y5 y6 y7 y8 : Int32) (h0 : Heap) (n0 : Nat) : QT := fun v h L => ∃ (b : Addr), ∃ (k2 : ClassId), (v = some (.ref b)) ∧ (Fr n0 L) ∧ (Keep h0 h []) ∧ (h0.size ≤ b) ∧ (n0 ≤ b) ∧ (eCQ Z h b) ∧ (Arv Z h b k2 .byte 9 [.int y0, .int y1, .int y2, .int y3, .int y4, .int y5, .int y6, .int y7, .int y8] (.int 0))
theorem rmcrb9 (l : Launch) (Z : State) (a0 : Array Value) (hw : TW a0 Z) (ws : List Jvm.Cond) (o0 : Addr) (kb : ClassId) (y0 y1 y2 y3 y4 y5 y6 y7 y8 : Int32) (h0 : Heap) (n0 : Nat) (Z0 : n0 ≤ h0.size) (vF : Arv Z h0 o0 kb .byte 18 [.int y0, .int y1, .int y2, .int y3, .int y4, .int y5, .int y6, .int y7, .int y8, .int 0, .int 0, .int 0, .int 0, .int 0, .int 0, .int 0, .int 0, .int 0] (.int 0)) :
  MF l mN24 jdk_65_method_133_code 5 (some (.array .byte)) ws (rmm 1 1 9 24) #[.ref o0, .int 0, .int 9] Z h0 (Qcrb9 Z o0 kb y0 y1 y2 y3 y4 y5 y6 y7 y8 h0 n0) := by
 refine MF.of (plainFor_of_name pn_6) ?_
 intro p e s m below meth c s₁ QQ hy hml hown hZ X0 e0 hrt hlk hnm hQQ
 have hx := hy.1
 have hby := hy.2
 have N0 := Fr.nil n0
 refine Ends.i #[rv o0, iv 0, iv 9, uu, uu] (oC X0 hy d43_0 1 rfl (oC X0 hy d43_1 2 rfl ?_))
 refine cS X0 hy hml hown hZ hw d43_2 5 0 243 244 176 245 rfl rfl rfl rfl (rmckl9 l Z a0 hw []  h0 n0 Z0) e0 pd_2 rfl rfl fun _ T330 Lc330 X330 hQ330 => ?_
 obtain ⟨rfl, Nq330, hh330⟩ := hQ330
 have N330 := Fr.app N0 Nq330
 refine Ends.u (oC X330 hy d43_5 6 rfl (oC X330 hy d43_6 7 rfl (oL X330 hy d43_7 8 ?_)))
 show Ends p e below QQ (T330.setTop (mkF m 8 #[rv o0, iv 0, iv 9, uu, uu] [.int 9]))
 refine oxp X330 hy d43_8 9 #[rv o0, iv 0, iv 9, iv 9, uu] rfl (oC X330 hy d43_9 10 rfl ?_)
 obtain ⟨T331, h331, k331, X331, e331, E331, A331, Y331, st331⟩ := newPE X330 hx hZ (tb hw 45 rfl) hh330 (g := (mkF m 10 #[rv o0, iv 0, iv 9, iv 9, uu] [.int 9])) rfl (hb hby d43_10) rfl (by decide) (cap := 9) (by decide) (by decide) (by decide) (by decide) (ad := "[B") (by decide)
 obtain ⟨b331, g331⟩ : ∃ z, z = h0.size := ⟨_, rfl⟩
 rw [← g331] at A331 Y331 st331
 have UA : n0 ≤ b331 := Nat.le_trans Z0 (Nat.le_trans (Keep.refl h0 []).1 (Nat.le_of_eq g331.symm))
 have Jy : h0.size ≤ b331 := Nat.le_trans (Keep.refl h0 []).1 (Nat.le_of_eq g331.symm)
 have vF := vF.ext E331
 have K331 := (Keep.refl h0 []).ext E331
 have KE := Y331
 have KI : Arv Z h331 b331 k331 .byte 9 [.int 0, .int 0, .int 0, .int 0, .int 0, .int 0, .int 0, .int 0, .int 0] (.int 0) := (Arv.new A331 (by decide)).pad (pad_rep [] (.int 0) 9)
 refine Ends.j 12 [.ref b331] st331 ?_
 refine oxs X331 hy d43_12 14 #[rv o0, iv 0, iv 9, iv 9, rv b331] rfl (oA X331 hy d43_14 15 rfl (oC X331 hy d43_15 16 rfl (oB X331 hy d43_16 18 rfl (oG X331 hy d43_18 19 0 rfl (oA X331 hy d43_19 20 rfl (aLn X331 hy hZ e331 vF d43_20 21 (oC X331 hy d43_21 22 rfl (oL X331 hy d43_22 23 ?_))))))))
 show Ends p e below QQ (T331.setTop (mkF m 23 #[rv o0, iv 0, iv 9, iv 9, rv b331] [.int 18, .int 0, .ref b331, .int 0, .ref o0]))
 refine oC X331 hy d43_23 24 rfl ?_
 refine cS X331 hy hml hown hZ hw d43_24 27 4 236 237 4 238 rfl rfl rfl rfl (rmmnt9 l Z a0 hw []  h331 n0 (Nat.le_trans Z0 K331.1)) e331 pd_13 rfl rfl fun _ T333 Lc333 X333 hQ333 => ?_
 obtain ⟨rfl, Nq333, hh333⟩ := hQ333
 have N333 := Fr.app N330 Nq333
 refine Ends.v ?_
 obtain ⟨T334, h334, L334, X334, e334, N334, Kq334, AA334, st334⟩ := cpA X333 hx hZ hown (tb hw 239 rfl) (tb hw 147 rfl) (tb hw 145 rfl) (tb hw 146 rfl) hh333 vF KI (Or.inl ⟨rfl, rfl⟩) (by decide) (by decide) (by decide) (by decide) (by decide) (us := [.int y0, .int y1, .int y2, .int y3, .int y4, .int y5, .int y6, .int y7, .int y8]) (by rfl) (by decide) N333 UA (g := (mkF m 27 #[rv o0, iv 0, iv 9, iv 9, rv b331] [.int 9, .int 0, .ref b331, .int 0, .ref o0])) rfl (by rw [hml]; rfl) rfl (hb hby d43_27) (by decide) (W := 0) (by show 2 * 0 + _ ≤ _; exact Nat.le_of_eq rfl) (by decide)
 have KE := KE.keep Kq334
 have KI : Arv Z h334 b331 k331 .byte 9 [.int y0, .int y1, .int y2, .int y3, .int y4, .int y5, .int y6, .int y7, .int y8] (.int 0) := AA334
 have K334 := K331.trans Kq334 (allS (Or.inr Jy) all0)
 refine Ends.j 30 [] st334 ?_
 refine oB X334 hy d43_30 32 rfl ?_
 exact fA X334 hy hrt hlk hQQ d43_32 rfl rfl e334 (by decide) ⟨b331, k331, rfl, N334, K334, Jy, UA, KE, KI⟩
theorem d31_10 : decode cD14 10 = .ok (.aload_n 0, 1) := by decide +kernel
theorem d31_11 : decode cD14 11 = .ok (.iload_n 1, 1) := by decide +kernel
theorem d31_12 : decode cD14 12 = .ok (.iload_n 2, 1) := by decide +kernel
theorem d31_13 : decode cD14 13 = .ok (.invokestatic 339, 3) := by decide +kernel
theorem d31_16 : decode cD14 16 = .ok (.areturn, 1) := by decide +kernel
def Qcor9 (Z : State) (o0 : Addr) (kb : ClassId) (y0 y1 y2 y3 y4 y5 y6 y7 y8 : Int32) (h0 : Heap) (n0 : Nat) : QT := fun v h L => ∃ (b : Addr), ∃ (k2 : ClassId), (v = some (.ref b)) ∧ (Fr n0 L) ∧ (Keep h0 h []) ∧ (h0.size ≤ b) ∧ (n0 ≤ b) ∧ (eCQ Z h b) ∧ (Arv Z h b k2 .byte 9 [.int y0, .int y1, .int y2, .int y3, .int y4, .int y5, .int y6, .int y7, .int y8] (.int 0))
theorem rmcor9 (l : Launch) (Z : State) (a0 : Array Value) (hw : TW a0 Z) (ws : List Jvm.Cond) (o0 : Addr) (kb : ClassId) (y0 y1 y2 y3 y4 y5 y6 y7 y8 : Int32) (h0 : Heap) (n0 : Nat) (Z0 : n0 ≤ h0.size) (vF : Arv Z h0 o0 kb .byte 18 [.int y0, .int y1, .int y2, .int y3, .int y4, .int y5, .int y6, .int y7, .int y8, .int 0, .int 0, .int 0, .int 0, .int 0, .int 0, .int 0, .int 0, .int 0] (.int 0)) (wh : eCQ Z h0 o0) :
  MF l mN13 jdk_65_method_132_code 3 (some (.array .byte)) ws (rmm 2 1 9 40) #[.ref o0, .int 0, .int 9] Z h0 (Qcor9 Z o0 kb y0 y1 y2 y3 y4 y5 y6 y7 y8 h0 n0) := by
 refine MF.of (plainFor_of_name pn_6) ?_
 intro p e s m below meth c s₁ QQ hy hml hown hZ X0 e0 hrt hlk hnm hQQ
 have N0 := Fr.nil n0
 refine Ends.i #[rv o0, iv 0, iv 9] (oC X0 hy d31_0 1 rfl (oxh X0 hy d31_1 4 (XT.i0_ne_f (by decide)) (oC X0 hy d31_4 5 rfl (oA X0 hy d31_5 6 rfl (aLn X0 hy hZ e0 vF d31_6 7 (oxi X0 hy d31_7 10 (XT.ii_eq_f (by decide)) (oA X0 hy d31_10 11 rfl (oC X0 hy d31_11 12 rfl (oC X0 hy d31_12 13 rfl ?_)))))))))
 refine cS X0 hy hml hown hZ hw d31_13 16 0 240 241 176 242 rfl rfl rfl rfl (rmcrb9 l Z a0 hw [] o0 kb y0 y1 y2 y3 y4 y5 y6 y7 y8 h0 n0 Z0 vF) e0 pd_18 rfl rfl fun _ T336 Lc336 X336 hQ336 => ?_
 obtain ⟨b_336, k2_336, rfl, Nq336, Kq336, fq336_0, xe, xO, Gn⟩ := hQ336
 have N336 := Fr.app N0 Nq336
 have Yh := Nat.le_trans (Keep.refl h0 []).1 fq336_0
 have K336 := (Keep.refl h0 []).trans Kq336 all0
 refine Ends.v ?_
 exact fA X336 hy hrt hlk hQQ d31_16 rfl rfl rfl (by decide) ⟨b_336, k2_336, rfl, N336, K336, Yh, xe, xO, Gn⟩
theorem ef_sia9 (m : MethodId) (x0 : Addr) (x1 : Addr) : entryFrame m #[.ref x0, .ref x1, .null] 5 = mkF m 0 #[.val (.ref x0), .val (.ref x1), .val .null, .unset, .unset] [] := by first | (simp [entryFrame, mkF, argsToLocals, Value.category]; done) | rfl
def Qsia9 (Z : State) (o0 o1 : Addr) (u1 : Value) (u2 : Int32) (vb : Addr) (kb : ClassId) (cs y0 y1 y2 y3 y4 y5 y6 y7 y8 : Int32) (h0 : Heap) (n0 : Nat) : QT := fun v h L => ∃ (b : Addr), ∃ (k2 : ClassId), (v = none) ∧ (Fr n0 L) ∧ (Keep h0 h [o0]) ∧ (h0.size ≤ b) ∧ (n0 ≤ b) ∧ (eAQ Z h o0) ∧ (fBQ Z h o0 (.ref b)) ∧ (fAQ Z h o0 (.int 0)) ∧ (eCQ Z h b) ∧ (Arv Z h b k2 .byte 9 [.int y0, .int y1, .int y2, .int y3, .int y4, .int y5, .int y6, .int y7, .int y8] (.int 0))
theorem rmsia9 (l : Launch) (Z : State) (a0 : Array Value) (hw : TW a0 Z) (ws : List Jvm.Cond) (o0 o1 : Addr) (u1 : Value) (u2 : Int32) (vb : Addr) (kb : ClassId) (cs y0 y1 y2 y3 y4 y5 y6 y7 y8 : Int32) (h0 : Heap) (n0 : Nat) (Z0 : n0 ≤ h0.size) (wh : eAQ Z h0 o0) (wd : fBQ Z h0 o0 u1) (wb : fAQ Z h0 o0 (.int u2)) (wy : n0 ≤ o0) (wD : o0 ≠ o1) (wq : o0 ≠ vb) (wt : eBQ Z h0 o1) (wk : fDQ Z h0 o1 (.ref vb)) (wj : fCQ Z h0 o1 (.int 0)) (wp : fEQ Z h0 o1 (.int 9)) (wo : eCQ Z h0 vb) (wm : Arv Z h0 vb kb .byte 18 [.int y0, .int y1, .int y2, .int y3, .int y4, .int y5, .int y6, .int y7, .int y8, .int 0, .int 0, .int 0, .int 0, .int 0, .int 0, .int 0, .int 0, .int 0] (.int 0)) (wx : o1 ≠ vb) (wa : sHQ Z h0 (.int cs)) (hcs : ¬ cs = (0 : Int32)) :
  MF l mN14 jdk_42_method_150_code 5 none ws (rmm 3 1 9 55) #[.ref o0, .ref o1, .null] Z h0 (Qsia9 Z o0 o1 u1 u2 vb kb cs y0 y1 y2 y3 y4 y5 y6 y7 y8 h0 n0) := by
 refine MF.of (plainFor_of_name pn_0) ?_
 intro p e s m below meth c s₁ QQ hy hml hown hZ X0 e0 hrt hlk hnm hQQ
 have hx := hy.1
 have hby := hy.2
 have N0 := Fr.nil n0
 refine Ends.i #[rv o0, rv o1, .val .null, uu, uu] ?_ (ef_sia9 m o0 o1)
 refine oA X0 hy d27_0 1 rfl ?_
 obtain ⟨T337, X337, e337, st337⟩ := initO X0 hx hZ hown (tb hw 76 rfl) (tb hw 18 rfl) (tb hw 19 rfl) e0 (g := (mkF m 1 #[rv o0, rv o1, .val .null, uu, uu] [.ref o0])) rfl (by rw [hml]; rfl) rfl (hb hby d27_1) (by decide) (W := 0) (by show 2 * 0 + _ ≤ _; exact Nat.le_of_eq rfl) (by decide)
 refine Ends.j 4 [] st337 ?_
 refine oA X337 hy d27_4 5 rfl ?_
 refine cV X337 hy hml hown hZ hw d27_5 8 0 160 161 163 162 164 40 rfl rfl rfl rfl rfl rfl (rmgv l Z a0 hw [] o1 vb h0 n0 Z0 wk) e337 pd_17 wt rfl rfl fun _ T338 Lc338 X338 hQ338 => ?_
 obtain ⟨rfl, Nq338, hh338⟩ := hQ338
 have N338 := Fr.app N0 Nq338
 refine Ends.v (oxt X338 hy d27_8 9 #[rv o0, rv o1, .val .null, rv vb, uu] rfl (oA X338 hy d27_9 10 rfl ?_))
 obtain ⟨cq339, kq339, q339a, q339b, q339c⟩ := isOf hZ hh338 wt
 obtain ⟨_, _, ⟨T339, L339, k339, n339⟩, -, X339, ⟨Lc339, hQ339, l339, y339, z339⟩, st339⟩ := X338.virtualBack hx (y := mN17) (z := mN18) hown (mvT hZ (tb hw 165 rfl)) (mvT hZ (tb hw 166 rfl)) (own_notface (args := #[]) (mvT hZ (tb hw 96 rfl)) rfl) (mvT hZ (tb hw 168 rfl)) (mvT hZ (tb hw 169 rfl)) (by decide) (backOf (W := 0) (rmsbl l Z a0 hw [] o1 (9 : Int32) h0 n0 (Nat.le_trans Z0 (Keep.refl h0 [o0]).1) wt wp) hZ (tb hw 170 rfl) (tb hw 32 rfl) (by decide) (by decide)) q339a q339c (g := (mkF m 10 #[rv o0, rv o1, .val .null, rv vb, uu] [.ref o1])) rfl (by rw [hml]; rfl) (Steps.refl _) (argsL := []) (rest := []) (lenOf pd_10 rfl) rfl (by show 2 * 0 + _ ≤ _; exact Nat.le_of_eq rfl) (hb hby d27_10) (fun _ _ => ⟨rfl, hh338, (by decide : 0 + 0 ≤ _), (by decide : 0 + 0 ≤ _)⟩)
 dsimp only [Pt.U, Pt.locs, Pt.cells, Pt.slots] at X339 l339 y339 z339 st339 hQ339
 subst l339 y339 z339
 obtain ⟨rfl, Nq339, hh339⟩ := hQ339
 have N339 := Fr.app N338 Nq339
 refine Ends.j 13 [.int 9] (fun _ k => st339.trans k) ?_
 refine oxo X339 hy d27_13 15 #[rv o0, rv o1, .val .null, rv vb, iv 9] rfl (oA X339 hy d27_15 16 rfl ?_)
 refine cV X339 hy hml hown hZ hw d27_16 19 0 173 99 101 100 102 40 rfl rfl rfl rfl rfl rfl (rmasi l Z a0 hw [] o1 cs h0 n0 Z0 wa hcs wj) hh339 pd_3 wt rfl rfl fun _ T340 Lc340 X340 hQ340 => ?_
 obtain ⟨rfl, Nq340, hh340⟩ := hQ340
 have N340 := Fr.app N339 Nq340
 refine Ends.v (oxh X340 hy d27_19 22 (XT.i0_eq_f (by decide)) (oA X340 hy d27_22 23 rfl (oG X340 hy d27_23 24 0 rfl ?_)))
 obtain ⟨T341, h341, X341, e341, W341, st341⟩ := putFN X340 hx hZ hown (tb hw 79 rfl) Via.refl hh340 wb wh (Or.inr ⟨(tb hw 80 rfl), rfl, hnm⟩) (tb hw 71 rfl) (ty := .byte) (v' := (.int 0)) (by decide) rfl rfl (g := (mkF m 24 #[rv o0, rv o1, .val .null, rv vb, iv 9] [.int 0, .ref o0])) rfl rfl (hb hby d27_24)
 have wh := wh.wr W341
 have wd := wd.other W341 (Or.inr (slot_ne (Or.inr (tb hw 78 rfl)) (Or.inr (tb hw 80 rfl)) (by decide) (t := (.array .byte)) (t' := .byte) (by decide) (by decide)))
 have wo := wo.wr W341
 have wm := wm.other W341 (Ne.symm wq)
 have wb : fAQ Z h341 o0 (.int 0) := wb.same W341
 have K341 := (Keep.refl h0 [o0]).wr W341 (Or.inl mm0)
 have N341 := Fr.snoc X341 N340 wy
 refine Ends.j 27 [] st341 ?_
 refine oA X341 hy d27_27 28 rfl (oA X341 hy d27_28 29 rfl (oG X341 hy d27_29 30 0 rfl (oD X341 hy d27_30 32 rfl ?_)))
 refine cS X341 hy hml hown hZ hw d27_32 35 1 174 175 176 177 rfl rfl rfl rfl (rmcor9 l Z a0 hw [] vb kb y0 y1 y2 y3 y4 y5 y6 y7 y8 h341 n0 (Nat.le_trans Z0 K341.1) wm wo) e341 pd_18 rfl rfl fun _ T342 Lc342 X342 hQ342 => ?_
 obtain ⟨b_342, k2_342, rfl, Nq342, Kq342, fq342_0, xd, WN, WS⟩ := hQ342
 have N342 := Fr.app N341 Nq342
 have KQ : o0 ≠ b_342 := Nat.ne_of_lt (Nat.lt_of_lt_of_le wh.lt fq342_0)
 have Yg := Nat.le_trans K341.1 fq342_0
 have wh := wh.keep Kq342
 have wd := wd.keep Kq342 nin0
 have wb := wb.keep Kq342 nin0
 have K342 := K341.trans Kq342 all0
 refine Ends.v ?_
 obtain ⟨T343, h343, X343, e343, W343, st343⟩ := putF X342 hx hZ hown (host := "") (Or.inl (tb hw 77 rfl)) Via.refl rfl wd wh (Or.inr ⟨(tb hw 78 rfl), rfl, hnm⟩) (tb hw 71 rfl) (ty := (.array .byte)) (by decide) rfl rfl (g := (mkF m 35 #[rv o0, rv o1, .val .null, rv vb, iv 9] [.ref b_342, .ref o0])) rfl rfl (hb hby d27_35)
 have wh := wh.wr W343
 have wb := wb.other W343 (Or.inr (slot_ne (Or.inr (tb hw 80 rfl)) (Or.inr (tb hw 78 rfl)) (by decide) (t := .byte) (t' := (.array .byte)) (by decide) (by decide)))
 have WN := WN.wr W343
 have WS := WS.other W343 (Ne.symm KQ)
 have wd : fBQ Z h343 o0 (.ref b_342) := wd.same W343
 have K343 := K342.wr W343 (Or.inl mm0)
 have N343 := Fr.snoc X343 N342 wy
 refine Ends.j 38 [] st343 ?_
 refine oxm X343 hy d27_38 97 ?_
 exact fV X343 hy hrt hlk hQQ d27_97 e343 (by decide) ⟨b_342, k2_342, rfl, N343, K343, Yg, xd, wh, wd, wb, WN, WS⟩
def Qsis9 (Z : State) (o0 o1 : Addr) (u1 : Value) (u2 : Int32) (vb : Addr) (kb : ClassId) (cs y0 y1 y2 y3 y4 y5 y6 y7 y8 : Int32) (h0 : Heap) (n0 : Nat) : QT := fun v h L => ∃ (b : Addr), ∃ (k2 : ClassId), (v = none) ∧ (Fr n0 L) ∧ (Keep h0 h [o0]) ∧ (h0.size ≤ b) ∧ (n0 ≤ b) ∧ (eAQ Z h o0) ∧ (fBQ Z h o0 (.ref b)) ∧ (fAQ Z h o0 (.int 0)) ∧ (eCQ Z h b) ∧ (Arv Z h b k2 .byte 9 [.int y0, .int y1, .int y2, .int y3, .int y4, .int y5, .int y6, .int y7, .int y8] (.int 0))
theorem rmsis9 (l : Launch) (Z : State) (a0 : Array Value) (hw : TW a0 Z) (ws : List Jvm.Cond) (o0 o1 : Addr) (u1 : Value) (u2 : Int32) (vb : Addr) (kb : ClassId) (cs y0 y1 y2 y3 y4 y5 y6 y7 y8 : Int32) (h0 : Heap) (n0 : Nat) (Z0 : n0 ≤ h0.size) (wh : eAQ Z h0 o0) (wd : fBQ Z h0 o0 u1) (wb : fAQ Z h0 o0 (.int u2)) (wy : n0 ≤ o0) (wD : o0 ≠ o1) (wq : o0 ≠ vb) (wt : eBQ Z h0 o1) (wk : fDQ Z h0 o1 (.ref vb)) (wj : fCQ Z h0 o1 (.int 0)) (wp : fEQ Z h0 o1 (.int 9)) (wo : eCQ Z h0 vb) (wm : Arv Z h0 vb kb .byte 18 [.int y0, .int y1, .int y2, .int y3, .int y4, .int y5, .int y6, .int y7, .int y8, .int 0, .int 0, .int 0, .int 0, .int 0, .int 0, .int 0, .int 0, .int 0] (.int 0)) (wx : o1 ≠ vb) (wa : sHQ Z h0 (.int cs)) (hcs : ¬ cs = (0 : Int32)) :
  MF l mN15 jdk_42_method_53_code 2 none ws (rmm 4 1 9 71) #[.ref o0, .ref o1] Z h0 (Qsis9 Z o0 o1 u1 u2 vb kb cs y0 y1 y2 y3 y4 y5 y6 y7 y8 h0 n0) := by
 refine MF.of (plainFor_of_name pn_0) ?_
 intro p e s m below meth c s₁ QQ hy hml hown hZ X0 e0 hrt hlk hnm hQQ
 have N0 := Fr.nil n0
 refine Ends.i #[rv o0, rv o1] (oA X0 hy d26_0 1 rfl (oA X0 hy d26_1 2 rfl (oxg X0 hy d26_2 3 ?_)))
 refine cI X0 hy hml hown hZ hw d26_3 6 0 157 158 159 44 rfl rfl rfl rfl rfl (rmsia9 l Z a0 hw [] o0 o1 u1 u2 vb kb cs y0 y1 y2 y3 y4 y5 y6 y7 y8 h0 n0 Z0 wh wd wb wy wD wq wt wk wj wp wo wm wx wa hcs) e0 pd_19 rfl rfl fun _ T344 Lc344 X344 hQ344 => ?_
 obtain ⟨b_344, k2_344, rfl, Nq344, Kq344, fq344_0, xc, wh, wd, wb, xN, Gm⟩ := hQ344
 have N344 := Fr.app N0 Nq344
 have Yf := Nat.le_trans (Keep.refl h0 [o0]).1 fq344_0
 have K344 := (Keep.refl h0 [o0]).trans Kq344 (allS (Or.inl mm0) all0)
 refine Ends.u ?_
 exact fV X344 hy hrt hlk hQQ d26_6 rfl (by decide) ⟨b_344, k2_344, rfl, N344, K344, Yf, xc, wh, wd, wb, xN, Gm⟩
def Qtos9 (Z : State) (o0 vb : Addr) (kb : ClassId) (cs y0 y1 y2 y3 y4 y5 y6 y7 y8 : Int32) (h0 : Heap) (n0 : Nat) : QT := fun v h L => ∃ (x : Addr), ∃ (b : Addr), ∃ (k2 : ClassId), (v = some (.ref x)) ∧ (Fr n0 L) ∧ (Keep h0 h []) ∧ (h0.size ≤ x) ∧ (h0.size ≤ b) ∧ (n0 ≤ x) ∧ (n0 ≤ b) ∧ (eAQ Z h x) ∧ (fBQ Z h x (.ref b)) ∧ (fAQ Z h x (.int 0)) ∧ (eCQ Z h b) ∧ (Arv Z h b k2 .byte 9 [.int y0, .int y1, .int y2, .int y3, .int y4, .int y5, .int y6, .int y7, .int y8] (.int 0)) ∧ (x ≠ b)
theorem rmtos9 (l : Launch) (Z : State) (a0 : Array Value) (hw : TW a0 Z) (ws : List Jvm.Cond) (o0 vb : Addr) (kb : ClassId) (cs y0 y1 y2 y3 y4 y5 y6 y7 y8 : Int32) (h0 : Heap) (n0 : Nat) (Z0 : n0 ≤ h0.size) (wh : eBQ Z h0 o0) (wd : fDQ Z h0 o0 (.ref vb)) (wb : fCQ Z h0 o0 (.int 0)) (we : fEQ Z h0 o0 (.int 9)) (wo : eCQ Z h0 vb) (wm : Arv Z h0 vb kb .byte 18 [.int y0, .int y1, .int y2, .int y3, .int y4, .int y5, .int y6, .int y7, .int y8, .int 0, .int 0, .int 0, .int 0, .int 0, .int 0, .int 0, .int 0, .int 0] (.int 0)) (wq : o0 ≠ vb) (wa : sHQ Z h0 (.int cs)) (hcs : ¬ cs = (0 : Int32)) :
  MF l mN16 jdk_67_method_42_code 1 (some (.object "java/lang/String")) ws (rmm 5 2 13 85) #[.ref o0] Z h0 (Qtos9 Z o0 vb kb cs y0 y1 y2 y3 y4 y5 y6 y7 y8 h0 n0) := by
 refine MF.of (plainFor_of_name pn_4) ?_
 intro p e s m below meth c s₁ QQ hy hml hown hZ X0 e0 hrt hlk hnm hQQ
 have hx := hy.1
 have hby := hy.2
 have N0 := Fr.nil n0
 refine Ends.i #[rv o0] ?_
 obtain ⟨T345, h345, X345, e345, E345, A345, D345, U345, st345⟩ := newO X0 hx hZ hown (tb hw 153 rfl) (tb hw 71 rfl) (tb hw 44 rfl) e0 (g := (mkF m 0 #[rv o0] [])) rfl (hb hby d25_0) (by decide) (by decide)
 obtain ⟨b345, g345⟩ : ∃ z, z = h0.size := ⟨_, rfl⟩
 rw [← g345] at A345 D345 U345 st345
 have JK : o0 ≠ b345 := Nat.ne_of_lt (Nat.lt_of_lt_of_le wh.lt (Nat.le_of_eq g345.symm))
 have JF : vb ≠ b345 := Nat.ne_of_lt (Nat.lt_of_lt_of_le wo.lt (Nat.le_of_eq g345.symm))
 have Uz : n0 ≤ b345 := Nat.le_trans Z0 (Nat.le_trans (Keep.refl h0 []).1 (Nat.le_of_eq g345.symm))
 have Jx : h0.size ≤ b345 := Nat.le_trans (Keep.refl h0 []).1 (Nat.le_of_eq g345.symm)
 have wh := wh.ext E345
 have wd := wd.ext E345
 have wb := wb.ext E345
 have we := we.ext E345
 have wo := wo.ext E345
 have wm := wm.ext E345
 have wa := wa.ext E345
 have K345 := (Keep.refl h0 []).ext E345
 have Wd := A345
 have uo : fBQ Z h345 b345 .null := D345 (Or.inr (tb hw 78 rfl)) (ty := (.array .byte)) (by decide)
 have uD : fAQ Z h345 b345 (.int 0) := D345 (Or.inr (tb hw 80 rfl)) (ty := .byte) (by decide)
 refine Ends.j 3 [.ref b345] st345 ?_
 refine oxd X345 hy d25_3 4 rfl (oA X345 hy d25_4 5 rfl ?_)
 refine cI X345 hy hml hown hZ hw d25_5 8 1 154 155 156 44 rfl rfl rfl rfl rfl (rmsis9 l Z a0 hw [] b345 o0 (.null : Value) (0 : Int32) vb kb cs y0 y1 y2 y3 y4 y5 y6 y7 y8 h345 n0 (Nat.le_trans Z0 K345.1) Wd uo uD Uz (Ne.symm JK) (Ne.symm JF) wh wd wb we wo wm wq wa hcs) e345 pd_20 rfl rfl fun _ T346 Lc346 X346 hQ346 => ?_
 obtain ⟨b_346, k2_346, rfl, Nq346, Kq346, fq346_0, xb, fq346_2, uo, uD, xM, Gl⟩ := hQ346
 have N346 := Fr.app N0 Nq346
 have Va : b345 ≠ b_346 := Nat.ne_of_lt (Nat.lt_of_lt_of_le Wd.lt fq346_0)
 have Ye := Nat.le_trans K345.1 fq346_0
 have Wd := fq346_2
 have K346 := K345.trans Kq346 (allS (Or.inr Jx) all0)
 refine Ends.u ?_
 exact fA X346 hy hrt hlk hQQ d25_8 rfl rfl rfl (by decide) ⟨b345, b_346, k2_346, rfl, N346, K346, Jx, Ye, Uz, xb, Wd, uo, uD, xM, Gl, Va⟩
def Qckl10 (Z : State)  (h0 : Heap) (n0 : Nat) : QT := fun v h L => (v = none) ∧ (Fr n0 L) ∧ (h = h0)
theorem rmckl10 (l : Launch) (Z : State) (a0 : Array Value) (hw : TW a0 Z) (ws : List Jvm.Cond)  (h0 : Heap) (n0 : Nat) (Z0 : n0 ≤ h0.size) :
  MF l mN23 jdk_65_method_131_code 2 none ws (rmm 0 0 0 0) #[.int 0, .int 10] Z h0 (Qckl10 Z  h0 n0) := by
 refine MF.of (plainFor_of_name pn_6) ?_
 intro p e s m below meth c s₁ QQ hy hml hown hZ X0 e0 hrt hlk hnm hQQ
 have N0 := Fr.nil n0
 refine Ends.i #[iv 0, iv 10] (oC X0 hy d44_0 1 rfl (oC X0 hy d44_1 2 rfl (oxl X0 hy d44_2 37 (XT.ii_ge_t (by decide)) ?_)))
 exact fV X0 hy hrt hlk hQQ d44_37 e0 (by decide) ⟨rfl, N0, rfl⟩
def Qmnt10 (Z : State)  (h0 : Heap) (n0 : Nat) : QT := fun v h L => (v = some (.int 10)) ∧ (Fr n0 L) ∧ (h = h0)
theorem rmmnt10 (l : Launch) (Z : State) (a0 : Array Value) (hw : TW a0 Z) (ws : List Jvm.Cond)  (h0 : Heap) (n0 : Nat) (Z0 : n0 ≤ h0.size) :
  MF l mN12 jdk_29_method_69_code 2 (some .int) ws (rmm 0 0 0 0) #[.int 18, .int 10] Z h0 (Qmnt10 Z  h0 n0) := by
 refine MF.of (Jvm.Free.JP.mathPlain rfl (by decide +kernel)) ?_
 intro p e s m below meth c s₁ QQ hy hml hown hZ X0 e0 hrt hlk hnm hQQ
 have N0 := Fr.nil n0
 refine Ends.i #[iv 18, iv 10] (oC X0 hy d42_0 1 rfl (oC X0 hy d42_1 2 rfl (oxl X0 hy d42_2 9 (XT.ii_gt_t (by decide)) (oC X0 hy d42_9 10 rfl ?_))))
 exact fI X0 hy hrt hlk hQQ d42_10 rfl (Or.inl rfl) e0 (by decide) ⟨rfl, N0, rfl⟩
def Qcrb10 (Z : State) (o0 : Addr) (kb : ClassId) (y0 y1 y2 y3 y4 y5 y6 y7 y8 y9 : Int32) (h0 : Heap) (n0 : Nat) : QT := fun v h L => ∃ (b : Addr), ∃ (k2 : ClassId), (v = some (.ref b)) ∧ (Fr n0 L) ∧ (Keep h0 h []) ∧ (h0.size ≤ b) ∧ (n0 ≤ b) ∧ (eCQ Z h b) ∧ (Arv Z h b k2 .byte 10 [.int y0, .int y1, .int y2, .int y3, .int y4, .int y5, .int y6, .int y7, .int y8, .int y9] (.int 0))
theorem rmcrb10 (l : Launch) (Z : State) (a0 : Array Value) (hw : TW a0 Z) (ws : List Jvm.Cond) (o0 : Addr) (kb : ClassId) (y0 y1 y2 y3 y4 y5 y6 y7 y8 y9 : Int32) (h0 : Heap) (n0 : Nat) (Z0 : n0 ≤ h0.size) (vF : Arv Z h0 o0 kb .byte 18 [.int y0, .int y1, .int y2, .int y3, .int y4, .int y5, .int y6, .int y7, .int y8, .int y9, .int 0, .int 0, .int 0, .int 0, .int 0, .int 0, .int 0, .int 0] (.int 0)) :
  MF l mN24 jdk_65_method_133_code 5 (some (.array .byte)) ws (rmm 1 1 10 24) #[.ref o0, .int 0, .int 10] Z h0 (Qcrb10 Z o0 kb y0 y1 y2 y3 y4 y5 y6 y7 y8 y9 h0 n0) := by
 refine MF.of (plainFor_of_name pn_6) ?_
 intro p e s m below meth c s₁ QQ hy hml hown hZ X0 e0 hrt hlk hnm hQQ
 have hx := hy.1
 have hby := hy.2
 have N0 := Fr.nil n0
 refine Ends.i #[rv o0, iv 0, iv 10, uu, uu] (oC X0 hy d43_0 1 rfl (oC X0 hy d43_1 2 rfl ?_))
 refine cS X0 hy hml hown hZ hw d43_2 5 0 243 244 176 245 rfl rfl rfl rfl (rmckl10 l Z a0 hw []  h0 n0 Z0) e0 pd_2 rfl rfl fun _ T347 Lc347 X347 hQ347 => ?_
 obtain ⟨rfl, Nq347, hh347⟩ := hQ347
 have N347 := Fr.app N0 Nq347
 refine Ends.u (oC X347 hy d43_5 6 rfl (oC X347 hy d43_6 7 rfl (oL X347 hy d43_7 8 ?_)))
 show Ends p e below QQ (T347.setTop (mkF m 8 #[rv o0, iv 0, iv 10, uu, uu] [.int 10]))
 refine oxp X347 hy d43_8 9 #[rv o0, iv 0, iv 10, iv 10, uu] rfl (oC X347 hy d43_9 10 rfl ?_)
 obtain ⟨T348, h348, k348, X348, e348, E348, A348, Y348, st348⟩ := newPE X347 hx hZ (tb hw 45 rfl) hh347 (g := (mkF m 10 #[rv o0, iv 0, iv 10, iv 10, uu] [.int 10])) rfl (hb hby d43_10) rfl (by decide) (cap := 10) (by decide) (by decide) (by decide) (by decide) (ad := "[B") (by decide)
 obtain ⟨b348, g348⟩ : ∃ z, z = h0.size := ⟨_, rfl⟩
 rw [← g348] at A348 Y348 st348
 have Uy : n0 ≤ b348 := Nat.le_trans Z0 (Nat.le_trans (Keep.refl h0 []).1 (Nat.le_of_eq g348.symm))
 have Jw : h0.size ≤ b348 := Nat.le_trans (Keep.refl h0 []).1 (Nat.le_of_eq g348.symm)
 have vF := vF.ext E348
 have K348 := (Keep.refl h0 []).ext E348
 have KD := Y348
 have KH : Arv Z h348 b348 k348 .byte 10 [.int 0, .int 0, .int 0, .int 0, .int 0, .int 0, .int 0, .int 0, .int 0, .int 0] (.int 0) := (Arv.new A348 (by decide)).pad (pad_rep [] (.int 0) 10)
 refine Ends.j 12 [.ref b348] st348 ?_
 refine oxs X348 hy d43_12 14 #[rv o0, iv 0, iv 10, iv 10, rv b348] rfl (oA X348 hy d43_14 15 rfl (oC X348 hy d43_15 16 rfl (oB X348 hy d43_16 18 rfl (oG X348 hy d43_18 19 0 rfl (oA X348 hy d43_19 20 rfl (aLn X348 hy hZ e348 vF d43_20 21 (oC X348 hy d43_21 22 rfl (oL X348 hy d43_22 23 ?_))))))))
 show Ends p e below QQ (T348.setTop (mkF m 23 #[rv o0, iv 0, iv 10, iv 10, rv b348] [.int 18, .int 0, .ref b348, .int 0, .ref o0]))
 refine oC X348 hy d43_23 24 rfl ?_
 refine cS X348 hy hml hown hZ hw d43_24 27 4 236 237 4 238 rfl rfl rfl rfl (rmmnt10 l Z a0 hw []  h348 n0 (Nat.le_trans Z0 K348.1)) e348 pd_13 rfl rfl fun _ T350 Lc350 X350 hQ350 => ?_
 obtain ⟨rfl, Nq350, hh350⟩ := hQ350
 have N350 := Fr.app N347 Nq350
 refine Ends.v ?_
 obtain ⟨T351, h351, L351, X351, e351, N351, Kq351, AA351, st351⟩ := cpA X350 hx hZ hown (tb hw 239 rfl) (tb hw 147 rfl) (tb hw 145 rfl) (tb hw 146 rfl) hh350 vF KH (Or.inl ⟨rfl, rfl⟩) (by decide) (by decide) (by decide) (by decide) (by decide) (us := [.int y0, .int y1, .int y2, .int y3, .int y4, .int y5, .int y6, .int y7, .int y8, .int y9]) (by rfl) (by decide) N350 Uy (g := (mkF m 27 #[rv o0, iv 0, iv 10, iv 10, rv b348] [.int 10, .int 0, .ref b348, .int 0, .ref o0])) rfl (by rw [hml]; rfl) rfl (hb hby d43_27) (by decide) (W := 0) (by show 2 * 0 + _ ≤ _; exact Nat.le_of_eq rfl) (by decide)
 have KD := KD.keep Kq351
 have KH : Arv Z h351 b348 k348 .byte 10 [.int y0, .int y1, .int y2, .int y3, .int y4, .int y5, .int y6, .int y7, .int y8, .int y9] (.int 0) := AA351
 have K351 := K348.trans Kq351 (allS (Or.inr Jw) all0)
 refine Ends.j 30 [] st351 ?_
 refine oB X351 hy d43_30 32 rfl ?_
 exact fA X351 hy hrt hlk hQQ d43_32 rfl rfl e351 (by decide) ⟨b348, k348, rfl, N351, K351, Jw, Uy, KD, KH⟩
def Qcor10 (Z : State) (o0 : Addr) (kb : ClassId) (y0 y1 y2 y3 y4 y5 y6 y7 y8 y9 : Int32) (h0 : Heap) (n0 : Nat) : QT := fun v h L => ∃ (b : Addr), ∃ (k2 : ClassId), (v = some (.ref b)) ∧ (Fr n0 L) ∧ (Keep h0 h []) ∧ (h0.size ≤ b) ∧ (n0 ≤ b) ∧ (eCQ Z h b) ∧ (Arv Z h b k2 .byte 10 [.int y0, .int y1, .int y2, .int y3, .int y4, .int y5, .int y6, .int y7, .int y8, .int y9] (.int 0))
theorem rmcor10 (l : Launch) (Z : State) (a0 : Array Value) (hw : TW a0 Z) (ws : List Jvm.Cond) (o0 : Addr) (kb : ClassId) (y0 y1 y2 y3 y4 y5 y6 y7 y8 y9 : Int32) (h0 : Heap) (n0 : Nat) (Z0 : n0 ≤ h0.size) (vF : Arv Z h0 o0 kb .byte 18 [.int y0, .int y1, .int y2, .int y3, .int y4, .int y5, .int y6, .int y7, .int y8, .int y9, .int 0, .int 0, .int 0, .int 0, .int 0, .int 0, .int 0, .int 0] (.int 0)) (wh : eCQ Z h0 o0) :
  MF l mN13 jdk_65_method_132_code 3 (some (.array .byte)) ws (rmm 2 1 10 40) #[.ref o0, .int 0, .int 10] Z h0 (Qcor10 Z o0 kb y0 y1 y2 y3 y4 y5 y6 y7 y8 y9 h0 n0) := by
 refine MF.of (plainFor_of_name pn_6) ?_
 intro p e s m below meth c s₁ QQ hy hml hown hZ X0 e0 hrt hlk hnm hQQ
 have N0 := Fr.nil n0
 refine Ends.i #[rv o0, iv 0, iv 10] (oC X0 hy d31_0 1 rfl (oxh X0 hy d31_1 4 (XT.i0_ne_f (by decide)) (oC X0 hy d31_4 5 rfl (oA X0 hy d31_5 6 rfl (aLn X0 hy hZ e0 vF d31_6 7 (oxi X0 hy d31_7 10 (XT.ii_eq_f (by decide)) (oA X0 hy d31_10 11 rfl (oC X0 hy d31_11 12 rfl (oC X0 hy d31_12 13 rfl ?_)))))))))
 refine cS X0 hy hml hown hZ hw d31_13 16 0 240 241 176 242 rfl rfl rfl rfl (rmcrb10 l Z a0 hw [] o0 kb y0 y1 y2 y3 y4 y5 y6 y7 y8 y9 h0 n0 Z0 vF) e0 pd_18 rfl rfl fun _ T353 Lc353 X353 hQ353 => ?_
 obtain ⟨b_353, k2_353, rfl, Nq353, Kq353, fq353_0, xa, xL, Gk⟩ := hQ353
 have N353 := Fr.app N0 Nq353
 have Yd := Nat.le_trans (Keep.refl h0 []).1 fq353_0
 have K353 := (Keep.refl h0 []).trans Kq353 all0
 refine Ends.v ?_
 exact fA X353 hy hrt hlk hQQ d31_16 rfl rfl rfl (by decide) ⟨b_353, k2_353, rfl, N353, K353, Yd, xa, xL, Gk⟩
theorem ef_sia10 (m : MethodId) (x0 : Addr) (x1 : Addr) : entryFrame m #[.ref x0, .ref x1, .null] 5 = mkF m 0 #[.val (.ref x0), .val (.ref x1), .val .null, .unset, .unset] [] := by first | (simp [entryFrame, mkF, argsToLocals, Value.category]; done) | rfl
def Qsia10 (Z : State) (o0 o1 : Addr) (u1 : Value) (u2 : Int32) (vb : Addr) (kb : ClassId) (cs y0 y1 y2 y3 y4 y5 y6 y7 y8 y9 : Int32) (h0 : Heap) (n0 : Nat) : QT := fun v h L => ∃ (b : Addr), ∃ (k2 : ClassId), (v = none) ∧ (Fr n0 L) ∧ (Keep h0 h [o0]) ∧ (h0.size ≤ b) ∧ (n0 ≤ b) ∧ (eAQ Z h o0) ∧ (fBQ Z h o0 (.ref b)) ∧ (fAQ Z h o0 (.int 0)) ∧ (eCQ Z h b) ∧ (Arv Z h b k2 .byte 10 [.int y0, .int y1, .int y2, .int y3, .int y4, .int y5, .int y6, .int y7, .int y8, .int y9] (.int 0))
theorem rmsia10 (l : Launch) (Z : State) (a0 : Array Value) (hw : TW a0 Z) (ws : List Jvm.Cond) (o0 o1 : Addr) (u1 : Value) (u2 : Int32) (vb : Addr) (kb : ClassId) (cs y0 y1 y2 y3 y4 y5 y6 y7 y8 y9 : Int32) (h0 : Heap) (n0 : Nat) (Z0 : n0 ≤ h0.size) (wh : eAQ Z h0 o0) (wd : fBQ Z h0 o0 u1) (wb : fAQ Z h0 o0 (.int u2)) (wy : n0 ≤ o0) (wD : o0 ≠ o1) (wq : o0 ≠ vb) (wt : eBQ Z h0 o1) (wk : fDQ Z h0 o1 (.ref vb)) (wj : fCQ Z h0 o1 (.int 0)) (wp : fEQ Z h0 o1 (.int 10)) (wo : eCQ Z h0 vb) (wm : Arv Z h0 vb kb .byte 18 [.int y0, .int y1, .int y2, .int y3, .int y4, .int y5, .int y6, .int y7, .int y8, .int y9, .int 0, .int 0, .int 0, .int 0, .int 0, .int 0, .int 0, .int 0] (.int 0)) (wx : o1 ≠ vb) (wa : sHQ Z h0 (.int cs)) (hcs : ¬ cs = (0 : Int32)) :
  MF l mN14 jdk_42_method_150_code 5 none ws (rmm 3 1 10 55) #[.ref o0, .ref o1, .null] Z h0 (Qsia10 Z o0 o1 u1 u2 vb kb cs y0 y1 y2 y3 y4 y5 y6 y7 y8 y9 h0 n0) := by
 refine MF.of (plainFor_of_name pn_0) ?_
 intro p e s m below meth c s₁ QQ hy hml hown hZ X0 e0 hrt hlk hnm hQQ
 have hx := hy.1
 have hby := hy.2
 have N0 := Fr.nil n0
 refine Ends.i #[rv o0, rv o1, .val .null, uu, uu] ?_ (ef_sia10 m o0 o1)
 refine oA X0 hy d27_0 1 rfl ?_
 obtain ⟨T354, X354, e354, st354⟩ := initO X0 hx hZ hown (tb hw 76 rfl) (tb hw 18 rfl) (tb hw 19 rfl) e0 (g := (mkF m 1 #[rv o0, rv o1, .val .null, uu, uu] [.ref o0])) rfl (by rw [hml]; rfl) rfl (hb hby d27_1) (by decide) (W := 0) (by show 2 * 0 + _ ≤ _; exact Nat.le_of_eq rfl) (by decide)
 refine Ends.j 4 [] st354 ?_
 refine oA X354 hy d27_4 5 rfl ?_
 refine cV X354 hy hml hown hZ hw d27_5 8 0 160 161 163 162 164 40 rfl rfl rfl rfl rfl rfl (rmgv l Z a0 hw [] o1 vb h0 n0 Z0 wk) e354 pd_17 wt rfl rfl fun _ T355 Lc355 X355 hQ355 => ?_
 obtain ⟨rfl, Nq355, hh355⟩ := hQ355
 have N355 := Fr.app N0 Nq355
 refine Ends.v (oxt X355 hy d27_8 9 #[rv o0, rv o1, .val .null, rv vb, uu] rfl (oA X355 hy d27_9 10 rfl ?_))
 obtain ⟨cq356, kq356, q356a, q356b, q356c⟩ := isOf hZ hh355 wt
 obtain ⟨_, _, ⟨T356, L356, k356, n356⟩, -, X356, ⟨Lc356, hQ356, l356, y356, z356⟩, st356⟩ := X355.virtualBack hx (y := mN17) (z := mN18) hown (mvT hZ (tb hw 165 rfl)) (mvT hZ (tb hw 166 rfl)) (own_notface (args := #[]) (mvT hZ (tb hw 96 rfl)) rfl) (mvT hZ (tb hw 168 rfl)) (mvT hZ (tb hw 169 rfl)) (by decide) (backOf (W := 0) (rmsbl l Z a0 hw [] o1 (10 : Int32) h0 n0 (Nat.le_trans Z0 (Keep.refl h0 [o0]).1) wt wp) hZ (tb hw 170 rfl) (tb hw 32 rfl) (by decide) (by decide)) q356a q356c (g := (mkF m 10 #[rv o0, rv o1, .val .null, rv vb, uu] [.ref o1])) rfl (by rw [hml]; rfl) (Steps.refl _) (argsL := []) (rest := []) (lenOf pd_10 rfl) rfl (by show 2 * 0 + _ ≤ _; exact Nat.le_of_eq rfl) (hb hby d27_10) (fun _ _ => ⟨rfl, hh355, (by decide : 0 + 0 ≤ _), (by decide : 0 + 0 ≤ _)⟩)
 dsimp only [Pt.U, Pt.locs, Pt.cells, Pt.slots] at X356 l356 y356 z356 st356 hQ356
 subst l356 y356 z356
 obtain ⟨rfl, Nq356, hh356⟩ := hQ356
 have N356 := Fr.app N355 Nq356
 refine Ends.j 13 [.int 10] (fun _ k => st356.trans k) ?_
 refine oxo X356 hy d27_13 15 #[rv o0, rv o1, .val .null, rv vb, iv 10] rfl (oA X356 hy d27_15 16 rfl ?_)
 refine cV X356 hy hml hown hZ hw d27_16 19 0 173 99 101 100 102 40 rfl rfl rfl rfl rfl rfl (rmasi l Z a0 hw [] o1 cs h0 n0 Z0 wa hcs wj) hh356 pd_3 wt rfl rfl fun _ T357 Lc357 X357 hQ357 => ?_
 obtain ⟨rfl, Nq357, hh357⟩ := hQ357
 have N357 := Fr.app N356 Nq357
 refine Ends.v (oxh X357 hy d27_19 22 (XT.i0_eq_f (by decide)) (oA X357 hy d27_22 23 rfl (oG X357 hy d27_23 24 0 rfl ?_)))
 obtain ⟨T358, h358, X358, e358, W358, st358⟩ := putFN X357 hx hZ hown (tb hw 79 rfl) Via.refl hh357 wb wh (Or.inr ⟨(tb hw 80 rfl), rfl, hnm⟩) (tb hw 71 rfl) (ty := .byte) (v' := (.int 0)) (by decide) rfl rfl (g := (mkF m 24 #[rv o0, rv o1, .val .null, rv vb, iv 10] [.int 0, .ref o0])) rfl rfl (hb hby d27_24)
 have wh := wh.wr W358
 have wd := wd.other W358 (Or.inr (slot_ne (Or.inr (tb hw 78 rfl)) (Or.inr (tb hw 80 rfl)) (by decide) (t := (.array .byte)) (t' := .byte) (by decide) (by decide)))
 have wo := wo.wr W358
 have wm := wm.other W358 (Ne.symm wq)
 have wb : fAQ Z h358 o0 (.int 0) := wb.same W358
 have K358 := (Keep.refl h0 [o0]).wr W358 (Or.inl mm0)
 have N358 := Fr.snoc X358 N357 wy
 refine Ends.j 27 [] st358 ?_
 refine oA X358 hy d27_27 28 rfl (oA X358 hy d27_28 29 rfl (oG X358 hy d27_29 30 0 rfl (oD X358 hy d27_30 32 rfl ?_)))
 refine cS X358 hy hml hown hZ hw d27_32 35 1 174 175 176 177 rfl rfl rfl rfl (rmcor10 l Z a0 hw [] vb kb y0 y1 y2 y3 y4 y5 y6 y7 y8 y9 h358 n0 (Nat.le_trans Z0 K358.1) wm wo) e358 pd_18 rfl rfl fun _ T359 Lc359 X359 hQ359 => ?_
 obtain ⟨b_359, k2_359, rfl, Nq359, Kq359, fq359_0, YZ, WM, WR⟩ := hQ359
 have N359 := Fr.app N358 Nq359
 have KP : o0 ≠ b_359 := Nat.ne_of_lt (Nat.lt_of_lt_of_le wh.lt fq359_0)
 have Yc := Nat.le_trans K358.1 fq359_0
 have wh := wh.keep Kq359
 have wd := wd.keep Kq359 nin0
 have wb := wb.keep Kq359 nin0
 have K359 := K358.trans Kq359 all0
 refine Ends.v ?_
 obtain ⟨T360, h360, X360, e360, W360, st360⟩ := putF X359 hx hZ hown (host := "") (Or.inl (tb hw 77 rfl)) Via.refl rfl wd wh (Or.inr ⟨(tb hw 78 rfl), rfl, hnm⟩) (tb hw 71 rfl) (ty := (.array .byte)) (by decide) rfl rfl (g := (mkF m 35 #[rv o0, rv o1, .val .null, rv vb, iv 10] [.ref b_359, .ref o0])) rfl rfl (hb hby d27_35)
 have wh := wh.wr W360
 have wb := wb.other W360 (Or.inr (slot_ne (Or.inr (tb hw 80 rfl)) (Or.inr (tb hw 78 rfl)) (by decide) (t := .byte) (t' := (.array .byte)) (by decide) (by decide)))
 have WM := WM.wr W360
 have WR := WR.other W360 (Ne.symm KP)
 have wd : fBQ Z h360 o0 (.ref b_359) := wd.same W360
 have K360 := K359.wr W360 (Or.inl mm0)
 have N360 := Fr.snoc X360 N359 wy
 refine Ends.j 38 [] st360 ?_
 refine oxm X360 hy d27_38 97 ?_
 exact fV X360 hy hrt hlk hQQ d27_97 e360 (by decide) ⟨b_359, k2_359, rfl, N360, K360, Yc, YZ, wh, wd, wb, WM, WR⟩
def Qsis10 (Z : State) (o0 o1 : Addr) (u1 : Value) (u2 : Int32) (vb : Addr) (kb : ClassId) (cs y0 y1 y2 y3 y4 y5 y6 y7 y8 y9 : Int32) (h0 : Heap) (n0 : Nat) : QT := fun v h L => ∃ (b : Addr), ∃ (k2 : ClassId), (v = none) ∧ (Fr n0 L) ∧ (Keep h0 h [o0]) ∧ (h0.size ≤ b) ∧ (n0 ≤ b) ∧ (eAQ Z h o0) ∧ (fBQ Z h o0 (.ref b)) ∧ (fAQ Z h o0 (.int 0)) ∧ (eCQ Z h b) ∧ (Arv Z h b k2 .byte 10 [.int y0, .int y1, .int y2, .int y3, .int y4, .int y5, .int y6, .int y7, .int y8, .int y9] (.int 0))
theorem rmsis10 (l : Launch) (Z : State) (a0 : Array Value) (hw : TW a0 Z) (ws : List Jvm.Cond) (o0 o1 : Addr) (u1 : Value) (u2 : Int32) (vb : Addr) (kb : ClassId) (cs y0 y1 y2 y3 y4 y5 y6 y7 y8 y9 : Int32) (h0 : Heap) (n0 : Nat) (Z0 : n0 ≤ h0.size) (wh : eAQ Z h0 o0) (wd : fBQ Z h0 o0 u1) (wb : fAQ Z h0 o0 (.int u2)) (wy : n0 ≤ o0) (wD : o0 ≠ o1) (wq : o0 ≠ vb) (wt : eBQ Z h0 o1) (wk : fDQ Z h0 o1 (.ref vb)) (wj : fCQ Z h0 o1 (.int 0)) (wp : fEQ Z h0 o1 (.int 10)) (wo : eCQ Z h0 vb) (wm : Arv Z h0 vb kb .byte 18 [.int y0, .int y1, .int y2, .int y3, .int y4, .int y5, .int y6, .int y7, .int y8, .int y9, .int 0, .int 0, .int 0, .int 0, .int 0, .int 0, .int 0, .int 0] (.int 0)) (wx : o1 ≠ vb) (wa : sHQ Z h0 (.int cs)) (hcs : ¬ cs = (0 : Int32)) :
  MF l mN15 jdk_42_method_53_code 2 none ws (rmm 4 1 10 71) #[.ref o0, .ref o1] Z h0 (Qsis10 Z o0 o1 u1 u2 vb kb cs y0 y1 y2 y3 y4 y5 y6 y7 y8 y9 h0 n0) := by
 refine MF.of (plainFor_of_name pn_0) ?_
 intro p e s m below meth c s₁ QQ hy hml hown hZ X0 e0 hrt hlk hnm hQQ
 have N0 := Fr.nil n0
 refine Ends.i #[rv o0, rv o1] (oA X0 hy d26_0 1 rfl (oA X0 hy d26_1 2 rfl (oxg X0 hy d26_2 3 ?_)))
 refine cI X0 hy hml hown hZ hw d26_3 6 0 157 158 159 44 rfl rfl rfl rfl rfl (rmsia10 l Z a0 hw [] o0 o1 u1 u2 vb kb cs y0 y1 y2 y3 y4 y5 y6 y7 y8 y9 h0 n0 Z0 wh wd wb wy wD wq wt wk wj wp wo wm wx wa hcs) e0 pd_19 rfl rfl fun _ T361 Lc361 X361 hQ361 => ?_
 obtain ⟨b_361, k2_361, rfl, Nq361, Kq361, fq361_0, YY, wh, wd, wb, xK, Gj⟩ := hQ361
 have N361 := Fr.app N0 Nq361
 have Yb := Nat.le_trans (Keep.refl h0 [o0]).1 fq361_0
 have K361 := (Keep.refl h0 [o0]).trans Kq361 (allS (Or.inl mm0) all0)
 refine Ends.u ?_
 exact fV X361 hy hrt hlk hQQ d26_6 rfl (by decide) ⟨b_361, k2_361, rfl, N361, K361, Yb, YY, wh, wd, wb, xK, Gj⟩
def Qtos10 (Z : State) (o0 vb : Addr) (kb : ClassId) (cs y0 y1 y2 y3 y4 y5 y6 y7 y8 y9 : Int32) (h0 : Heap) (n0 : Nat) : QT := fun v h L => ∃ (x : Addr), ∃ (b : Addr), ∃ (k2 : ClassId), (v = some (.ref x)) ∧ (Fr n0 L) ∧ (Keep h0 h []) ∧ (h0.size ≤ x) ∧ (h0.size ≤ b) ∧ (n0 ≤ x) ∧ (n0 ≤ b) ∧ (eAQ Z h x) ∧ (fBQ Z h x (.ref b)) ∧ (fAQ Z h x (.int 0)) ∧ (eCQ Z h b) ∧ (Arv Z h b k2 .byte 10 [.int y0, .int y1, .int y2, .int y3, .int y4, .int y5, .int y6, .int y7, .int y8, .int y9] (.int 0)) ∧ (x ≠ b)
theorem rmtos10 (l : Launch) (Z : State) (a0 : Array Value) (hw : TW a0 Z) (ws : List Jvm.Cond) (o0 vb : Addr) (kb : ClassId) (cs y0 y1 y2 y3 y4 y5 y6 y7 y8 y9 : Int32) (h0 : Heap) (n0 : Nat) (Z0 : n0 ≤ h0.size) (wh : eBQ Z h0 o0) (wd : fDQ Z h0 o0 (.ref vb)) (wb : fCQ Z h0 o0 (.int 0)) (we : fEQ Z h0 o0 (.int 10)) (wo : eCQ Z h0 vb) (wm : Arv Z h0 vb kb .byte 18 [.int y0, .int y1, .int y2, .int y3, .int y4, .int y5, .int y6, .int y7, .int y8, .int y9, .int 0, .int 0, .int 0, .int 0, .int 0, .int 0, .int 0, .int 0] (.int 0)) (wq : o0 ≠ vb) (wa : sHQ Z h0 (.int cs)) (hcs : ¬ cs = (0 : Int32)) :
  MF l mN16 jdk_67_method_42_code 1 (some (.object "java/lang/String")) ws (rmm 5 2 14 85) #[.ref o0] Z h0 (Qtos10 Z o0 vb kb cs y0 y1 y2 y3 y4 y5 y6 y7 y8 y9 h0 n0) := by
 refine MF.of (plainFor_of_name pn_4) ?_
 intro p e s m below meth c s₁ QQ hy hml hown hZ X0 e0 hrt hlk hnm hQQ
 have hx := hy.1
 have hby := hy.2
 have N0 := Fr.nil n0
 refine Ends.i #[rv o0] ?_
 obtain ⟨T362, h362, X362, e362, E362, A362, D362, U362, st362⟩ := newO X0 hx hZ hown (tb hw 153 rfl) (tb hw 71 rfl) (tb hw 44 rfl) e0 (g := (mkF m 0 #[rv o0] [])) rfl (hb hby d25_0) (by decide) (by decide)
 obtain ⟨b362, g362⟩ : ∃ z, z = h0.size := ⟨_, rfl⟩
 rw [← g362] at A362 D362 U362 st362
 have JH : o0 ≠ b362 := Nat.ne_of_lt (Nat.lt_of_lt_of_le wh.lt (Nat.le_of_eq g362.symm))
 have JE : vb ≠ b362 := Nat.ne_of_lt (Nat.lt_of_lt_of_le wo.lt (Nat.le_of_eq g362.symm))
 have Ux : n0 ≤ b362 := Nat.le_trans Z0 (Nat.le_trans (Keep.refl h0 []).1 (Nat.le_of_eq g362.symm))
 have Jv : h0.size ≤ b362 := Nat.le_trans (Keep.refl h0 []).1 (Nat.le_of_eq g362.symm)
 have wh := wh.ext E362
 have wd := wd.ext E362
 have wb := wb.ext E362
 have we := we.ext E362
 have wo := wo.ext E362
 have wm := wm.ext E362
 have wa := wa.ext E362
 have K362 := (Keep.refl h0 []).ext E362
 have Wc := A362
 have un : fBQ Z h362 b362 .null := D362 (Or.inr (tb hw 78 rfl)) (ty := (.array .byte)) (by decide)
 have uC : fAQ Z h362 b362 (.int 0) := D362 (Or.inr (tb hw 80 rfl)) (ty := .byte) (by decide)
 refine Ends.j 3 [.ref b362] st362 ?_
 refine oxd X362 hy d25_3 4 rfl (oA X362 hy d25_4 5 rfl ?_)
 refine cI X362 hy hml hown hZ hw d25_5 8 1 154 155 156 44 rfl rfl rfl rfl rfl (rmsis10 l Z a0 hw [] b362 o0 (.null : Value) (0 : Int32) vb kb cs y0 y1 y2 y3 y4 y5 y6 y7 y8 y9 h362 n0 (Nat.le_trans Z0 K362.1) Wc un uC Ux (Ne.symm JH) (Ne.symm JE) wh wd wb we wo wm wq wa hcs) e362 pd_20 rfl rfl fun _ T363 Lc363 X363 hQ363 => ?_
 obtain ⟨b_363, k2_363, rfl, Nq363, Kq363, fq363_0, YX, fq363_2, un, uC, xJ, Gi⟩ := hQ363
 have N363 := Fr.app N0 Nq363
 have WZ : b362 ≠ b_363 := Nat.ne_of_lt (Nat.lt_of_lt_of_le Wc.lt fq363_0)
 have Ya := Nat.le_trans K362.1 fq363_0
 have Wc := fq363_2
 have K363 := K362.trans Kq363 (allS (Or.inr Jv) all0)
 refine Ends.u ?_
 exact fA X363 hy hrt hlk hQQ d25_8 rfl rfl rfl (by decide) ⟨b362, b_363, k2_363, rfl, N363, K363, Jv, Ya, Ux, YX, Wc, un, uC, xJ, Gi, WZ⟩
theorem d10_0 : decode cD2 0 = .ok (.iconst 1, 1) := by decide +kernel
theorem d10_1 : decode cD2 1 = .ok (.istore_n 2, 1) := by decide +kernel
theorem d10_2 : decode cD2 2 = .ok (.lload_n 0, 1) := by decide +kernel
theorem d10_3 : decode cD2 3 = .ok (.lconst 0, 1) := by decide +kernel
theorem d10_4 : decode cD2 4 = .ok (.lcmp, 1) := by decide +kernel
theorem d10_5 : decode cD2 5 = .ok (.ifCond .lt 8, 3) := by decide +kernel
theorem d10_8 : decode cD2 8 = .ok (.iconst 0, 1) := by decide +kernel
theorem d10_9 : decode cD2 9 = .ok (.istore_n 2, 1) := by decide +kernel
theorem d10_10 : decode cD2 10 = .ok (.lload_n 0, 1) := by decide +kernel
theorem d10_11 : decode cD2 11 = .ok (.lneg, 1) := by decide +kernel
theorem d10_12 : decode cD2 12 = .ok (.lstore_n 0, 1) := by decide +kernel
theorem d10_13 : decode cD2 13 = .ok (.ldc2_w 140, 3) := by decide +kernel
theorem d10_16 : decode cD2 16 = .ok (.lstore_n 3, 1) := by decide +kernel
theorem d10_17 : decode cD2 17 = .ok (.iconst 1, 1) := by decide +kernel
theorem d10_18 : decode cD2 18 = .ok (.istore 5, 2) := by decide +kernel
theorem d10_20 : decode cD2 20 = .ok (.iload 5, 2) := by decide +kernel
theorem d10_22 : decode cD2 22 = .ok (.bipush 19, 2) := by decide +kernel
theorem d10_24 : decode cD2 24 = .ok (.if_icmp .ge 26, 3) := by decide +kernel
theorem d10_27 : decode cD2 27 = .ok (.lload_n 0, 1) := by decide +kernel
theorem d10_28 : decode cD2 28 = .ok (.lload_n 3, 1) := by decide +kernel
theorem d10_29 : decode cD2 29 = .ok (.lcmp, 1) := by decide +kernel
theorem d10_30 : decode cD2 30 = .ok (.ifCond .le 8, 3) := by decide +kernel
theorem d10_33 : decode cD2 33 = .ok (.iload 5, 2) := by decide +kernel
theorem d10_35 : decode cD2 35 = .ok (.iload_n 2, 1) := by decide +kernel
theorem d10_36 : decode cD2 36 = .ok (.iadd, 1) := by decide +kernel
theorem d10_37 : decode cD2 37 = .ok (.ireturn, 1) := by decide +kernel
def Qss1 (Z : State) (q0 : Int64) (h0 : Heap) (n0 : Nat) : QT := fun v h L => (v = some (.int 1)) ∧ (Fr n0 L) ∧ (h = h0)
theorem rmss1 (l : Launch) (Z : State) (a0 : Array Value) (hw : TW a0 Z) (ws : List Jvm.Cond) (q0 : Int64) (h0 : Heap) (n0 : Nat) (Z0 : n0 ≤ h0.size) (g1 : (q0).toInt < 10) (g2 : 0 ≤ (q0).toInt) :
  MF l mN5 jdk_35_method_15_code 6 (some .int) ws (rmm 0 0 0 0) #[.long q0] Z h0 (Qss1 Z q0 h0 n0) := by
 refine MF.of (plainFor_of_name pn_7) ?_
 intro p e s m below meth c s₁ QQ hy hml hown hZ X0 e0 hrt hlk hnm hQQ
 have N0 := Fr.nil n0
 refine Ends.i #[jv q0, ss, uu, uu, uu, uu] (oG X0 hy d10_0 1 1 rfl (oxp X0 hy d10_1 2 #[jv q0, ss, iv 1, uu, uu, uu] rfl (oE X0 hy d10_2 3 rfl (oJ X0 hy d10_3 4 0 rfl (oY X0 hy d10_4 5 ?_)))))
 have hc5 : ¬ (q0 < (0 : Int64)) := (own_ge0 (by omega))
 refine oxh X0 hy d10_5 8 (XT.ll_lt_f hc5) (oG X0 hy d10_8 9 0 rfl (oxp X0 hy d10_9 10 #[jv q0, ss, iv 0, uu, uu, uu] rfl (oE X0 hy d10_10 11 rfl (oX X0 hy d10_11 12 (oxr X0 hy d10_12 13 #[jv (-q0), ss, iv 0, uu, uu, uu] rfl (oJ2 X0 hy hown hZ hw d10_13 16 (-10) 62 rfl (oxr X0 hy d10_16 17 #[jv (-q0), ss, iv 0, jv (-10), ss, uu] rfl (oG X0 hy d10_17 18 1 rfl (oxo X0 hy d10_18 20 #[jv (-q0), ss, iv 0, jv (-10), ss, iv 1] rfl ?_)))))))))
 refine oD X0 hy d10_20 22 rfl (oH X0 hy d10_22 24 19 rfl (oxi X0 hy d10_24 27 (XT.ii_ge_f (by decide)) (oE X0 hy d10_27 28 rfl (oE X0 hy d10_28 29 rfl (oY X0 hy d10_29 30 ?_)))))
 have hc30 : (-10 : Int64) < (-q0) := (own_ng (P := 10) (by decide) (by omega) (by omega))
 refine oxh X0 hy d10_30 33 (XT.ll_le_f hc30) (oD X0 hy d10_33 35 rfl (oC X0 hy d10_35 36 rfl (oK X0 hy d10_36 37 ?_)))
 show Ends p e below QQ (s₁.setTop (mkF m 37 #[jv (-q0), ss, iv 0, jv (-10), ss, iv 1] [.int 1]))
 exact fI X0 hy hrt hlk hQQ d10_37 rfl (Or.inl rfl) e0 (by decide) ⟨rfl, N0, rfl⟩
theorem d10_38 : decode cD2 38 = .ok (.ldc2_w 53, 3) := by decide +kernel
theorem d10_41 : decode cD2 41 = .ok (.lload_n 3, 1) := by decide +kernel
theorem d10_42 : decode cD2 42 = .ok (.lmul, 1) := by decide +kernel
theorem d10_43 : decode cD2 43 = .ok (.lstore_n 3, 1) := by decide +kernel
theorem d10_44 : decode cD2 44 = .ok (.iinc 5 1, 3) := by decide +kernel
theorem d10_47 : decode cD2 47 = .ok (.goto (-27), 3) := by decide +kernel
def Qss2 (Z : State) (q0 : Int64) (h0 : Heap) (n0 : Nat) : QT := fun v h L => (v = some (.int 2)) ∧ (Fr n0 L) ∧ (h = h0)
theorem rmss2 (l : Launch) (Z : State) (a0 : Array Value) (hw : TW a0 Z) (ws : List Jvm.Cond) (q0 : Int64) (h0 : Heap) (n0 : Nat) (Z0 : n0 ≤ h0.size) (g1 : (q0).toInt < 100) (g2 : 10 ≤ (q0).toInt) :
  MF l mN5 jdk_35_method_15_code 6 (some .int) ws (rmm 0 0 0 0) #[.long q0] Z h0 (Qss2 Z q0 h0 n0) := by
 refine MF.of (plainFor_of_name pn_7) ?_
 intro p e s m below meth c s₁ QQ hy hml hown hZ X0 e0 hrt hlk hnm hQQ
 have N0 := Fr.nil n0
 refine Ends.i #[jv q0, ss, uu, uu, uu, uu] (oG X0 hy d10_0 1 1 rfl (oxp X0 hy d10_1 2 #[jv q0, ss, iv 1, uu, uu, uu] rfl (oE X0 hy d10_2 3 rfl (oJ X0 hy d10_3 4 0 rfl (oY X0 hy d10_4 5 ?_)))))
 have hc5 : ¬ (q0 < (0 : Int64)) := (own_ge0 (by omega))
 refine oxh X0 hy d10_5 8 (XT.ll_lt_f hc5) (oG X0 hy d10_8 9 0 rfl (oxp X0 hy d10_9 10 #[jv q0, ss, iv 0, uu, uu, uu] rfl (oE X0 hy d10_10 11 rfl (oX X0 hy d10_11 12 (oxr X0 hy d10_12 13 #[jv (-q0), ss, iv 0, uu, uu, uu] rfl (oJ2 X0 hy hown hZ hw d10_13 16 (-10) 62 rfl (oxr X0 hy d10_16 17 #[jv (-q0), ss, iv 0, jv (-10), ss, uu] rfl (oG X0 hy d10_17 18 1 rfl (oxo X0 hy d10_18 20 #[jv (-q0), ss, iv 0, jv (-10), ss, iv 1] rfl ?_)))))))))
 refine oD X0 hy d10_20 22 rfl (oH X0 hy d10_22 24 19 rfl (oxi X0 hy d10_24 27 (XT.ii_ge_f (by decide)) (oE X0 hy d10_27 28 rfl (oE X0 hy d10_28 29 rfl (oY X0 hy d10_29 30 ?_)))))
 have hc30 : ¬ ((-10 : Int64) < (-q0)) := (own_nl (P := 10) (by decide) (by omega) (by omega))
 refine oxk X0 hy d10_30 38 (XT.ll_le_t hc30) (oJ2 X0 hy hown hZ hw d10_38 41 10 217 rfl (oE X0 hy d10_41 42 rfl (oU X0 hy d10_42 43 ?_)))
 show Ends p e below QQ (s₁.setTop (mkF m 43 #[jv (-q0), ss, iv 0, jv (-10), ss, iv 1] [.long (-100)]))
 refine oxr X0 hy d10_43 44 #[jv (-q0), ss, iv 0, jv (-100), ss, iv 1] rfl (oxz X0 hy d10_44 47 #[jv (-q0), ss, iv 0, jv (-100), ss, iv 2] 1 rfl rfl rfl (oxm X0 hy d10_47 20 (oD X0 hy d10_20 22 rfl (oH X0 hy d10_22 24 19 rfl (oxi X0 hy d10_24 27 (XT.ii_ge_f (by decide)) (oE X0 hy d10_27 28 rfl (oE X0 hy d10_28 29 rfl (oY X0 hy d10_29 30 ?_))))))))
 have hc30 : (-100 : Int64) < (-q0) := (own_ng (P := 100) (by decide) (by omega) (by omega))
 refine oxh X0 hy d10_30 33 (XT.ll_le_f hc30) (oD X0 hy d10_33 35 rfl (oC X0 hy d10_35 36 rfl (oK X0 hy d10_36 37 ?_)))
 show Ends p e below QQ (s₁.setTop (mkF m 37 #[jv (-q0), ss, iv 0, jv (-100), ss, iv 2] [.int 2]))
 exact fI X0 hy hrt hlk hQQ d10_37 rfl (Or.inl rfl) e0 (by decide) ⟨rfl, N0, rfl⟩
def Qss3 (Z : State) (q0 : Int64) (h0 : Heap) (n0 : Nat) : QT := fun v h L => (v = some (.int 3)) ∧ (Fr n0 L) ∧ (h = h0)
theorem rmss3 (l : Launch) (Z : State) (a0 : Array Value) (hw : TW a0 Z) (ws : List Jvm.Cond) (q0 : Int64) (h0 : Heap) (n0 : Nat) (Z0 : n0 ≤ h0.size) (g1 : (q0).toInt < 1000) (g2 : 100 ≤ (q0).toInt) :
  MF l mN5 jdk_35_method_15_code 6 (some .int) ws (rmm 0 0 0 0) #[.long q0] Z h0 (Qss3 Z q0 h0 n0) := by
 refine MF.of (plainFor_of_name pn_7) ?_
 intro p e s m below meth c s₁ QQ hy hml hown hZ X0 e0 hrt hlk hnm hQQ
 have N0 := Fr.nil n0
 refine Ends.i #[jv q0, ss, uu, uu, uu, uu] (oG X0 hy d10_0 1 1 rfl (oxp X0 hy d10_1 2 #[jv q0, ss, iv 1, uu, uu, uu] rfl (oE X0 hy d10_2 3 rfl (oJ X0 hy d10_3 4 0 rfl (oY X0 hy d10_4 5 ?_)))))
 have hc5 : ¬ (q0 < (0 : Int64)) := (own_ge0 (by omega))
 refine oxh X0 hy d10_5 8 (XT.ll_lt_f hc5) (oG X0 hy d10_8 9 0 rfl (oxp X0 hy d10_9 10 #[jv q0, ss, iv 0, uu, uu, uu] rfl (oE X0 hy d10_10 11 rfl (oX X0 hy d10_11 12 (oxr X0 hy d10_12 13 #[jv (-q0), ss, iv 0, uu, uu, uu] rfl (oJ2 X0 hy hown hZ hw d10_13 16 (-10) 62 rfl (oxr X0 hy d10_16 17 #[jv (-q0), ss, iv 0, jv (-10), ss, uu] rfl (oG X0 hy d10_17 18 1 rfl (oxo X0 hy d10_18 20 #[jv (-q0), ss, iv 0, jv (-10), ss, iv 1] rfl ?_)))))))))
 refine oD X0 hy d10_20 22 rfl (oH X0 hy d10_22 24 19 rfl (oxi X0 hy d10_24 27 (XT.ii_ge_f (by decide)) (oE X0 hy d10_27 28 rfl (oE X0 hy d10_28 29 rfl (oY X0 hy d10_29 30 ?_)))))
 have hc30 : ¬ ((-10 : Int64) < (-q0)) := (own_nl (P := 10) (by decide) (by omega) (by omega))
 refine oxk X0 hy d10_30 38 (XT.ll_le_t hc30) (oJ2 X0 hy hown hZ hw d10_38 41 10 217 rfl (oE X0 hy d10_41 42 rfl (oU X0 hy d10_42 43 ?_)))
 show Ends p e below QQ (s₁.setTop (mkF m 43 #[jv (-q0), ss, iv 0, jv (-10), ss, iv 1] [.long (-100)]))
 refine oxr X0 hy d10_43 44 #[jv (-q0), ss, iv 0, jv (-100), ss, iv 1] rfl (oxz X0 hy d10_44 47 #[jv (-q0), ss, iv 0, jv (-100), ss, iv 2] 1 rfl rfl rfl (oxm X0 hy d10_47 20 (oD X0 hy d10_20 22 rfl (oH X0 hy d10_22 24 19 rfl (oxi X0 hy d10_24 27 (XT.ii_ge_f (by decide)) (oE X0 hy d10_27 28 rfl (oE X0 hy d10_28 29 rfl (oY X0 hy d10_29 30 ?_))))))))
 have hc30 : ¬ ((-100 : Int64) < (-q0)) := (own_nl (P := 100) (by decide) (by omega) (by omega))
 refine oxk X0 hy d10_30 38 (XT.ll_le_t hc30) (oJ2 X0 hy hown hZ hw d10_38 41 10 217 rfl (oE X0 hy d10_41 42 rfl (oU X0 hy d10_42 43 ?_)))
 show Ends p e below QQ (s₁.setTop (mkF m 43 #[jv (-q0), ss, iv 0, jv (-100), ss, iv 2] [.long (-1000)]))
 refine oxr X0 hy d10_43 44 #[jv (-q0), ss, iv 0, jv (-1000), ss, iv 2] rfl (oxz X0 hy d10_44 47 #[jv (-q0), ss, iv 0, jv (-1000), ss, iv 3] 1 rfl rfl rfl (oxm X0 hy d10_47 20 (oD X0 hy d10_20 22 rfl (oH X0 hy d10_22 24 19 rfl (oxi X0 hy d10_24 27 (XT.ii_ge_f (by decide)) (oE X0 hy d10_27 28 rfl (oE X0 hy d10_28 29 rfl (oY X0 hy d10_29 30 ?_))))))))
 have hc30 : (-1000 : Int64) < (-q0) := (own_ng (P := 1000) (by decide) (by omega) (by omega))
 refine oxh X0 hy d10_30 33 (XT.ll_le_f hc30) (oD X0 hy d10_33 35 rfl (oC X0 hy d10_35 36 rfl (oK X0 hy d10_36 37 ?_)))
 show Ends p e below QQ (s₁.setTop (mkF m 37 #[jv (-q0), ss, iv 0, jv (-1000), ss, iv 3] [.int 3]))
 exact fI X0 hy hrt hlk hQQ d10_37 rfl (Or.inl rfl) e0 (by decide) ⟨rfl, N0, rfl⟩
def Qss4 (Z : State) (q0 : Int64) (h0 : Heap) (n0 : Nat) : QT := fun v h L => (v = some (.int 4)) ∧ (Fr n0 L) ∧ (h = h0)
theorem rmss4 (l : Launch) (Z : State) (a0 : Array Value) (hw : TW a0 Z) (ws : List Jvm.Cond) (q0 : Int64) (h0 : Heap) (n0 : Nat) (Z0 : n0 ≤ h0.size) (g1 : (q0).toInt < 10000) (g2 : 1000 ≤ (q0).toInt) :
  MF l mN5 jdk_35_method_15_code 6 (some .int) ws (rmm 0 0 0 0) #[.long q0] Z h0 (Qss4 Z q0 h0 n0) := by
 refine MF.of (plainFor_of_name pn_7) ?_
 intro p e s m below meth c s₁ QQ hy hml hown hZ X0 e0 hrt hlk hnm hQQ
 have N0 := Fr.nil n0
 refine Ends.i #[jv q0, ss, uu, uu, uu, uu] (oG X0 hy d10_0 1 1 rfl (oxp X0 hy d10_1 2 #[jv q0, ss, iv 1, uu, uu, uu] rfl (oE X0 hy d10_2 3 rfl (oJ X0 hy d10_3 4 0 rfl (oY X0 hy d10_4 5 ?_)))))
 have hc5 : ¬ (q0 < (0 : Int64)) := (own_ge0 (by omega))
 refine oxh X0 hy d10_5 8 (XT.ll_lt_f hc5) (oG X0 hy d10_8 9 0 rfl (oxp X0 hy d10_9 10 #[jv q0, ss, iv 0, uu, uu, uu] rfl (oE X0 hy d10_10 11 rfl (oX X0 hy d10_11 12 (oxr X0 hy d10_12 13 #[jv (-q0), ss, iv 0, uu, uu, uu] rfl (oJ2 X0 hy hown hZ hw d10_13 16 (-10) 62 rfl (oxr X0 hy d10_16 17 #[jv (-q0), ss, iv 0, jv (-10), ss, uu] rfl (oG X0 hy d10_17 18 1 rfl (oxo X0 hy d10_18 20 #[jv (-q0), ss, iv 0, jv (-10), ss, iv 1] rfl ?_)))))))))
 refine oD X0 hy d10_20 22 rfl (oH X0 hy d10_22 24 19 rfl (oxi X0 hy d10_24 27 (XT.ii_ge_f (by decide)) (oE X0 hy d10_27 28 rfl (oE X0 hy d10_28 29 rfl (oY X0 hy d10_29 30 ?_)))))
 have hc30 : ¬ ((-10 : Int64) < (-q0)) := (own_nl (P := 10) (by decide) (by omega) (by omega))
 refine oxk X0 hy d10_30 38 (XT.ll_le_t hc30) (oJ2 X0 hy hown hZ hw d10_38 41 10 217 rfl (oE X0 hy d10_41 42 rfl (oU X0 hy d10_42 43 ?_)))
 show Ends p e below QQ (s₁.setTop (mkF m 43 #[jv (-q0), ss, iv 0, jv (-10), ss, iv 1] [.long (-100)]))
 refine oxr X0 hy d10_43 44 #[jv (-q0), ss, iv 0, jv (-100), ss, iv 1] rfl (oxz X0 hy d10_44 47 #[jv (-q0), ss, iv 0, jv (-100), ss, iv 2] 1 rfl rfl rfl (oxm X0 hy d10_47 20 (oD X0 hy d10_20 22 rfl (oH X0 hy d10_22 24 19 rfl (oxi X0 hy d10_24 27 (XT.ii_ge_f (by decide)) (oE X0 hy d10_27 28 rfl (oE X0 hy d10_28 29 rfl (oY X0 hy d10_29 30 ?_))))))))
 have hc30 : ¬ ((-100 : Int64) < (-q0)) := (own_nl (P := 100) (by decide) (by omega) (by omega))
 refine oxk X0 hy d10_30 38 (XT.ll_le_t hc30) (oJ2 X0 hy hown hZ hw d10_38 41 10 217 rfl (oE X0 hy d10_41 42 rfl (oU X0 hy d10_42 43 ?_)))
 show Ends p e below QQ (s₁.setTop (mkF m 43 #[jv (-q0), ss, iv 0, jv (-100), ss, iv 2] [.long (-1000)]))
 refine oxr X0 hy d10_43 44 #[jv (-q0), ss, iv 0, jv (-1000), ss, iv 2] rfl (oxz X0 hy d10_44 47 #[jv (-q0), ss, iv 0, jv (-1000), ss, iv 3] 1 rfl rfl rfl (oxm X0 hy d10_47 20 (oD X0 hy d10_20 22 rfl (oH X0 hy d10_22 24 19 rfl (oxi X0 hy d10_24 27 (XT.ii_ge_f (by decide)) (oE X0 hy d10_27 28 rfl (oE X0 hy d10_28 29 rfl (oY X0 hy d10_29 30 ?_))))))))
 have hc30 : ¬ ((-1000 : Int64) < (-q0)) := (own_nl (P := 1000) (by decide) (by omega) (by omega))
 refine oxk X0 hy d10_30 38 (XT.ll_le_t hc30) (oJ2 X0 hy hown hZ hw d10_38 41 10 217 rfl (oE X0 hy d10_41 42 rfl (oU X0 hy d10_42 43 ?_)))
 show Ends p e below QQ (s₁.setTop (mkF m 43 #[jv (-q0), ss, iv 0, jv (-1000), ss, iv 3] [.long (-10000)]))
 refine oxr X0 hy d10_43 44 #[jv (-q0), ss, iv 0, jv (-10000), ss, iv 3] rfl (oxz X0 hy d10_44 47 #[jv (-q0), ss, iv 0, jv (-10000), ss, iv 4] 1 rfl rfl rfl (oxm X0 hy d10_47 20 (oD X0 hy d10_20 22 rfl (oH X0 hy d10_22 24 19 rfl (oxi X0 hy d10_24 27 (XT.ii_ge_f (by decide)) (oE X0 hy d10_27 28 rfl (oE X0 hy d10_28 29 rfl (oY X0 hy d10_29 30 ?_))))))))
 have hc30 : (-10000 : Int64) < (-q0) := (own_ng (P := 10000) (by decide) (by omega) (by omega))
 refine oxh X0 hy d10_30 33 (XT.ll_le_f hc30) (oD X0 hy d10_33 35 rfl (oC X0 hy d10_35 36 rfl (oK X0 hy d10_36 37 ?_)))
 show Ends p e below QQ (s₁.setTop (mkF m 37 #[jv (-q0), ss, iv 0, jv (-10000), ss, iv 4] [.int 4]))
 exact fI X0 hy hrt hlk hQQ d10_37 rfl (Or.inl rfl) e0 (by decide) ⟨rfl, N0, rfl⟩
def Qss5 (Z : State) (q0 : Int64) (h0 : Heap) (n0 : Nat) : QT := fun v h L => (v = some (.int 5)) ∧ (Fr n0 L) ∧ (h = h0)
theorem rmss5 (l : Launch) (Z : State) (a0 : Array Value) (hw : TW a0 Z) (ws : List Jvm.Cond) (q0 : Int64) (h0 : Heap) (n0 : Nat) (Z0 : n0 ≤ h0.size) (g1 : (q0).toInt < 100000) (g2 : 10000 ≤ (q0).toInt) :
  MF l mN5 jdk_35_method_15_code 6 (some .int) ws (rmm 0 0 0 0) #[.long q0] Z h0 (Qss5 Z q0 h0 n0) := by
 refine MF.of (plainFor_of_name pn_7) ?_
 intro p e s m below meth c s₁ QQ hy hml hown hZ X0 e0 hrt hlk hnm hQQ
 have N0 := Fr.nil n0
 refine Ends.i #[jv q0, ss, uu, uu, uu, uu] (oG X0 hy d10_0 1 1 rfl (oxp X0 hy d10_1 2 #[jv q0, ss, iv 1, uu, uu, uu] rfl (oE X0 hy d10_2 3 rfl (oJ X0 hy d10_3 4 0 rfl (oY X0 hy d10_4 5 ?_)))))
 have hc5 : ¬ (q0 < (0 : Int64)) := (own_ge0 (by omega))
 refine oxh X0 hy d10_5 8 (XT.ll_lt_f hc5) (oG X0 hy d10_8 9 0 rfl (oxp X0 hy d10_9 10 #[jv q0, ss, iv 0, uu, uu, uu] rfl (oE X0 hy d10_10 11 rfl (oX X0 hy d10_11 12 (oxr X0 hy d10_12 13 #[jv (-q0), ss, iv 0, uu, uu, uu] rfl (oJ2 X0 hy hown hZ hw d10_13 16 (-10) 62 rfl (oxr X0 hy d10_16 17 #[jv (-q0), ss, iv 0, jv (-10), ss, uu] rfl (oG X0 hy d10_17 18 1 rfl (oxo X0 hy d10_18 20 #[jv (-q0), ss, iv 0, jv (-10), ss, iv 1] rfl ?_)))))))))
 refine oD X0 hy d10_20 22 rfl (oH X0 hy d10_22 24 19 rfl (oxi X0 hy d10_24 27 (XT.ii_ge_f (by decide)) (oE X0 hy d10_27 28 rfl (oE X0 hy d10_28 29 rfl (oY X0 hy d10_29 30 ?_)))))
 have hc30 : ¬ ((-10 : Int64) < (-q0)) := (own_nl (P := 10) (by decide) (by omega) (by omega))
 refine oxk X0 hy d10_30 38 (XT.ll_le_t hc30) (oJ2 X0 hy hown hZ hw d10_38 41 10 217 rfl (oE X0 hy d10_41 42 rfl (oU X0 hy d10_42 43 ?_)))
 show Ends p e below QQ (s₁.setTop (mkF m 43 #[jv (-q0), ss, iv 0, jv (-10), ss, iv 1] [.long (-100)]))
 refine oxr X0 hy d10_43 44 #[jv (-q0), ss, iv 0, jv (-100), ss, iv 1] rfl (oxz X0 hy d10_44 47 #[jv (-q0), ss, iv 0, jv (-100), ss, iv 2] 1 rfl rfl rfl (oxm X0 hy d10_47 20 (oD X0 hy d10_20 22 rfl (oH X0 hy d10_22 24 19 rfl (oxi X0 hy d10_24 27 (XT.ii_ge_f (by decide)) (oE X0 hy d10_27 28 rfl (oE X0 hy d10_28 29 rfl (oY X0 hy d10_29 30 ?_))))))))
 have hc30 : ¬ ((-100 : Int64) < (-q0)) := (own_nl (P := 100) (by decide) (by omega) (by omega))
 refine oxk X0 hy d10_30 38 (XT.ll_le_t hc30) (oJ2 X0 hy hown hZ hw d10_38 41 10 217 rfl (oE X0 hy d10_41 42 rfl (oU X0 hy d10_42 43 ?_)))
 show Ends p e below QQ (s₁.setTop (mkF m 43 #[jv (-q0), ss, iv 0, jv (-100), ss, iv 2] [.long (-1000)]))
 refine oxr X0 hy d10_43 44 #[jv (-q0), ss, iv 0, jv (-1000), ss, iv 2] rfl (oxz X0 hy d10_44 47 #[jv (-q0), ss, iv 0, jv (-1000), ss, iv 3] 1 rfl rfl rfl (oxm X0 hy d10_47 20 (oD X0 hy d10_20 22 rfl (oH X0 hy d10_22 24 19 rfl (oxi X0 hy d10_24 27 (XT.ii_ge_f (by decide)) (oE X0 hy d10_27 28 rfl (oE X0 hy d10_28 29 rfl (oY X0 hy d10_29 30 ?_))))))))
 have hc30 : ¬ ((-1000 : Int64) < (-q0)) := (own_nl (P := 1000) (by decide) (by omega) (by omega))
 refine oxk X0 hy d10_30 38 (XT.ll_le_t hc30) (oJ2 X0 hy hown hZ hw d10_38 41 10 217 rfl (oE X0 hy d10_41 42 rfl (oU X0 hy d10_42 43 ?_)))
 show Ends p e below QQ (s₁.setTop (mkF m 43 #[jv (-q0), ss, iv 0, jv (-1000), ss, iv 3] [.long (-10000)]))
 refine oxr X0 hy d10_43 44 #[jv (-q0), ss, iv 0, jv (-10000), ss, iv 3] rfl (oxz X0 hy d10_44 47 #[jv (-q0), ss, iv 0, jv (-10000), ss, iv 4] 1 rfl rfl rfl (oxm X0 hy d10_47 20 (oD X0 hy d10_20 22 rfl (oH X0 hy d10_22 24 19 rfl (oxi X0 hy d10_24 27 (XT.ii_ge_f (by decide)) (oE X0 hy d10_27 28 rfl (oE X0 hy d10_28 29 rfl (oY X0 hy d10_29 30 ?_))))))))
 have hc30 : ¬ ((-10000 : Int64) < (-q0)) := (own_nl (P := 10000) (by decide) (by omega) (by omega))
 refine oxk X0 hy d10_30 38 (XT.ll_le_t hc30) (oJ2 X0 hy hown hZ hw d10_38 41 10 217 rfl (oE X0 hy d10_41 42 rfl (oU X0 hy d10_42 43 ?_)))
 show Ends p e below QQ (s₁.setTop (mkF m 43 #[jv (-q0), ss, iv 0, jv (-10000), ss, iv 4] [.long (-100000)]))
 refine oxr X0 hy d10_43 44 #[jv (-q0), ss, iv 0, jv (-100000), ss, iv 4] rfl (oxz X0 hy d10_44 47 #[jv (-q0), ss, iv 0, jv (-100000), ss, iv 5] 1 rfl rfl rfl (oxm X0 hy d10_47 20 (oD X0 hy d10_20 22 rfl (oH X0 hy d10_22 24 19 rfl (oxi X0 hy d10_24 27 (XT.ii_ge_f (by decide)) (oE X0 hy d10_27 28 rfl (oE X0 hy d10_28 29 rfl (oY X0 hy d10_29 30 ?_))))))))
 have hc30 : (-100000 : Int64) < (-q0) := (own_ng (P := 100000) (by decide) (by omega) (by omega))
 refine oxh X0 hy d10_30 33 (XT.ll_le_f hc30) (oD X0 hy d10_33 35 rfl (oC X0 hy d10_35 36 rfl (oK X0 hy d10_36 37 ?_)))
 show Ends p e below QQ (s₁.setTop (mkF m 37 #[jv (-q0), ss, iv 0, jv (-100000), ss, iv 5] [.int 5]))
 exact fI X0 hy hrt hlk hQQ d10_37 rfl (Or.inl rfl) e0 (by decide) ⟨rfl, N0, rfl⟩
def Qss6 (Z : State) (q0 : Int64) (h0 : Heap) (n0 : Nat) : QT := fun v h L => (v = some (.int 6)) ∧ (Fr n0 L) ∧ (h = h0)
theorem rmss6 (l : Launch) (Z : State) (a0 : Array Value) (hw : TW a0 Z) (ws : List Jvm.Cond) (q0 : Int64) (h0 : Heap) (n0 : Nat) (Z0 : n0 ≤ h0.size) (g1 : (q0).toInt < 1000000) (g2 : 100000 ≤ (q0).toInt) :
  MF l mN5 jdk_35_method_15_code 6 (some .int) ws (rmm 0 0 0 0) #[.long q0] Z h0 (Qss6 Z q0 h0 n0) := by
 refine MF.of (plainFor_of_name pn_7) ?_
 intro p e s m below meth c s₁ QQ hy hml hown hZ X0 e0 hrt hlk hnm hQQ
 have N0 := Fr.nil n0
 refine Ends.i #[jv q0, ss, uu, uu, uu, uu] (oG X0 hy d10_0 1 1 rfl (oxp X0 hy d10_1 2 #[jv q0, ss, iv 1, uu, uu, uu] rfl (oE X0 hy d10_2 3 rfl (oJ X0 hy d10_3 4 0 rfl (oY X0 hy d10_4 5 ?_)))))
 have hc5 : ¬ (q0 < (0 : Int64)) := (own_ge0 (by omega))
 refine oxh X0 hy d10_5 8 (XT.ll_lt_f hc5) (oG X0 hy d10_8 9 0 rfl (oxp X0 hy d10_9 10 #[jv q0, ss, iv 0, uu, uu, uu] rfl (oE X0 hy d10_10 11 rfl (oX X0 hy d10_11 12 (oxr X0 hy d10_12 13 #[jv (-q0), ss, iv 0, uu, uu, uu] rfl (oJ2 X0 hy hown hZ hw d10_13 16 (-10) 62 rfl (oxr X0 hy d10_16 17 #[jv (-q0), ss, iv 0, jv (-10), ss, uu] rfl (oG X0 hy d10_17 18 1 rfl (oxo X0 hy d10_18 20 #[jv (-q0), ss, iv 0, jv (-10), ss, iv 1] rfl ?_)))))))))
 refine oD X0 hy d10_20 22 rfl (oH X0 hy d10_22 24 19 rfl (oxi X0 hy d10_24 27 (XT.ii_ge_f (by decide)) (oE X0 hy d10_27 28 rfl (oE X0 hy d10_28 29 rfl (oY X0 hy d10_29 30 ?_)))))
 have hc30 : ¬ ((-10 : Int64) < (-q0)) := (own_nl (P := 10) (by decide) (by omega) (by omega))
 refine oxk X0 hy d10_30 38 (XT.ll_le_t hc30) (oJ2 X0 hy hown hZ hw d10_38 41 10 217 rfl (oE X0 hy d10_41 42 rfl (oU X0 hy d10_42 43 ?_)))
 show Ends p e below QQ (s₁.setTop (mkF m 43 #[jv (-q0), ss, iv 0, jv (-10), ss, iv 1] [.long (-100)]))
 refine oxr X0 hy d10_43 44 #[jv (-q0), ss, iv 0, jv (-100), ss, iv 1] rfl (oxz X0 hy d10_44 47 #[jv (-q0), ss, iv 0, jv (-100), ss, iv 2] 1 rfl rfl rfl (oxm X0 hy d10_47 20 (oD X0 hy d10_20 22 rfl (oH X0 hy d10_22 24 19 rfl (oxi X0 hy d10_24 27 (XT.ii_ge_f (by decide)) (oE X0 hy d10_27 28 rfl (oE X0 hy d10_28 29 rfl (oY X0 hy d10_29 30 ?_))))))))
 have hc30 : ¬ ((-100 : Int64) < (-q0)) := (own_nl (P := 100) (by decide) (by omega) (by omega))
 refine oxk X0 hy d10_30 38 (XT.ll_le_t hc30) (oJ2 X0 hy hown hZ hw d10_38 41 10 217 rfl (oE X0 hy d10_41 42 rfl (oU X0 hy d10_42 43 ?_)))
 show Ends p e below QQ (s₁.setTop (mkF m 43 #[jv (-q0), ss, iv 0, jv (-100), ss, iv 2] [.long (-1000)]))
 refine oxr X0 hy d10_43 44 #[jv (-q0), ss, iv 0, jv (-1000), ss, iv 2] rfl (oxz X0 hy d10_44 47 #[jv (-q0), ss, iv 0, jv (-1000), ss, iv 3] 1 rfl rfl rfl (oxm X0 hy d10_47 20 (oD X0 hy d10_20 22 rfl (oH X0 hy d10_22 24 19 rfl (oxi X0 hy d10_24 27 (XT.ii_ge_f (by decide)) (oE X0 hy d10_27 28 rfl (oE X0 hy d10_28 29 rfl (oY X0 hy d10_29 30 ?_))))))))
 have hc30 : ¬ ((-1000 : Int64) < (-q0)) := (own_nl (P := 1000) (by decide) (by omega) (by omega))
 refine oxk X0 hy d10_30 38 (XT.ll_le_t hc30) (oJ2 X0 hy hown hZ hw d10_38 41 10 217 rfl (oE X0 hy d10_41 42 rfl (oU X0 hy d10_42 43 ?_)))
 show Ends p e below QQ (s₁.setTop (mkF m 43 #[jv (-q0), ss, iv 0, jv (-1000), ss, iv 3] [.long (-10000)]))
 refine oxr X0 hy d10_43 44 #[jv (-q0), ss, iv 0, jv (-10000), ss, iv 3] rfl (oxz X0 hy d10_44 47 #[jv (-q0), ss, iv 0, jv (-10000), ss, iv 4] 1 rfl rfl rfl (oxm X0 hy d10_47 20 (oD X0 hy d10_20 22 rfl (oH X0 hy d10_22 24 19 rfl (oxi X0 hy d10_24 27 (XT.ii_ge_f (by decide)) (oE X0 hy d10_27 28 rfl (oE X0 hy d10_28 29 rfl (oY X0 hy d10_29 30 ?_))))))))
 have hc30 : ¬ ((-10000 : Int64) < (-q0)) := (own_nl (P := 10000) (by decide) (by omega) (by omega))
 refine oxk X0 hy d10_30 38 (XT.ll_le_t hc30) (oJ2 X0 hy hown hZ hw d10_38 41 10 217 rfl (oE X0 hy d10_41 42 rfl (oU X0 hy d10_42 43 ?_)))
 show Ends p e below QQ (s₁.setTop (mkF m 43 #[jv (-q0), ss, iv 0, jv (-10000), ss, iv 4] [.long (-100000)]))
 refine oxr X0 hy d10_43 44 #[jv (-q0), ss, iv 0, jv (-100000), ss, iv 4] rfl (oxz X0 hy d10_44 47 #[jv (-q0), ss, iv 0, jv (-100000), ss, iv 5] 1 rfl rfl rfl (oxm X0 hy d10_47 20 (oD X0 hy d10_20 22 rfl (oH X0 hy d10_22 24 19 rfl (oxi X0 hy d10_24 27 (XT.ii_ge_f (by decide)) (oE X0 hy d10_27 28 rfl (oE X0 hy d10_28 29 rfl (oY X0 hy d10_29 30 ?_))))))))
 have hc30 : ¬ ((-100000 : Int64) < (-q0)) := (own_nl (P := 100000) (by decide) (by omega) (by omega))
 refine oxk X0 hy d10_30 38 (XT.ll_le_t hc30) (oJ2 X0 hy hown hZ hw d10_38 41 10 217 rfl (oE X0 hy d10_41 42 rfl (oU X0 hy d10_42 43 ?_)))
 show Ends p e below QQ (s₁.setTop (mkF m 43 #[jv (-q0), ss, iv 0, jv (-100000), ss, iv 5] [.long (-1000000)]))
 refine oxr X0 hy d10_43 44 #[jv (-q0), ss, iv 0, jv (-1000000), ss, iv 5] rfl (oxz X0 hy d10_44 47 #[jv (-q0), ss, iv 0, jv (-1000000), ss, iv 6] 1 rfl rfl rfl (oxm X0 hy d10_47 20 (oD X0 hy d10_20 22 rfl (oH X0 hy d10_22 24 19 rfl (oxi X0 hy d10_24 27 (XT.ii_ge_f (by decide)) (oE X0 hy d10_27 28 rfl (oE X0 hy d10_28 29 rfl (oY X0 hy d10_29 30 ?_))))))))
 have hc30 : (-1000000 : Int64) < (-q0) := (own_ng (P := 1000000) (by decide) (by omega) (by omega))
 refine oxh X0 hy d10_30 33 (XT.ll_le_f hc30) (oD X0 hy d10_33 35 rfl (oC X0 hy d10_35 36 rfl (oK X0 hy d10_36 37 ?_)))
 show Ends p e below QQ (s₁.setTop (mkF m 37 #[jv (-q0), ss, iv 0, jv (-1000000), ss, iv 6] [.int 6]))
 exact fI X0 hy hrt hlk hQQ d10_37 rfl (Or.inl rfl) e0 (by decide) ⟨rfl, N0, rfl⟩
def Qss7 (Z : State) (q0 : Int64) (h0 : Heap) (n0 : Nat) : QT := fun v h L => (v = some (.int 7)) ∧ (Fr n0 L) ∧ (h = h0)
theorem rmss7 (l : Launch) (Z : State) (a0 : Array Value) (hw : TW a0 Z) (ws : List Jvm.Cond) (q0 : Int64) (h0 : Heap) (n0 : Nat) (Z0 : n0 ≤ h0.size) (g1 : (q0).toInt < 10000000) (g2 : 1000000 ≤ (q0).toInt) :
  MF l mN5 jdk_35_method_15_code 6 (some .int) ws (rmm 0 0 0 0) #[.long q0] Z h0 (Qss7 Z q0 h0 n0) := by
 refine MF.of (plainFor_of_name pn_7) ?_
 intro p e s m below meth c s₁ QQ hy hml hown hZ X0 e0 hrt hlk hnm hQQ
 have N0 := Fr.nil n0
 refine Ends.i #[jv q0, ss, uu, uu, uu, uu] (oG X0 hy d10_0 1 1 rfl (oxp X0 hy d10_1 2 #[jv q0, ss, iv 1, uu, uu, uu] rfl (oE X0 hy d10_2 3 rfl (oJ X0 hy d10_3 4 0 rfl (oY X0 hy d10_4 5 ?_)))))
 have hc5 : ¬ (q0 < (0 : Int64)) := (own_ge0 (by omega))
 refine oxh X0 hy d10_5 8 (XT.ll_lt_f hc5) (oG X0 hy d10_8 9 0 rfl (oxp X0 hy d10_9 10 #[jv q0, ss, iv 0, uu, uu, uu] rfl (oE X0 hy d10_10 11 rfl (oX X0 hy d10_11 12 (oxr X0 hy d10_12 13 #[jv (-q0), ss, iv 0, uu, uu, uu] rfl (oJ2 X0 hy hown hZ hw d10_13 16 (-10) 62 rfl (oxr X0 hy d10_16 17 #[jv (-q0), ss, iv 0, jv (-10), ss, uu] rfl (oG X0 hy d10_17 18 1 rfl (oxo X0 hy d10_18 20 #[jv (-q0), ss, iv 0, jv (-10), ss, iv 1] rfl ?_)))))))))
 refine oD X0 hy d10_20 22 rfl (oH X0 hy d10_22 24 19 rfl (oxi X0 hy d10_24 27 (XT.ii_ge_f (by decide)) (oE X0 hy d10_27 28 rfl (oE X0 hy d10_28 29 rfl (oY X0 hy d10_29 30 ?_)))))
 have hc30 : ¬ ((-10 : Int64) < (-q0)) := (own_nl (P := 10) (by decide) (by omega) (by omega))
 refine oxk X0 hy d10_30 38 (XT.ll_le_t hc30) (oJ2 X0 hy hown hZ hw d10_38 41 10 217 rfl (oE X0 hy d10_41 42 rfl (oU X0 hy d10_42 43 ?_)))
 show Ends p e below QQ (s₁.setTop (mkF m 43 #[jv (-q0), ss, iv 0, jv (-10), ss, iv 1] [.long (-100)]))
 refine oxr X0 hy d10_43 44 #[jv (-q0), ss, iv 0, jv (-100), ss, iv 1] rfl (oxz X0 hy d10_44 47 #[jv (-q0), ss, iv 0, jv (-100), ss, iv 2] 1 rfl rfl rfl (oxm X0 hy d10_47 20 (oD X0 hy d10_20 22 rfl (oH X0 hy d10_22 24 19 rfl (oxi X0 hy d10_24 27 (XT.ii_ge_f (by decide)) (oE X0 hy d10_27 28 rfl (oE X0 hy d10_28 29 rfl (oY X0 hy d10_29 30 ?_))))))))
 have hc30 : ¬ ((-100 : Int64) < (-q0)) := (own_nl (P := 100) (by decide) (by omega) (by omega))
 refine oxk X0 hy d10_30 38 (XT.ll_le_t hc30) (oJ2 X0 hy hown hZ hw d10_38 41 10 217 rfl (oE X0 hy d10_41 42 rfl (oU X0 hy d10_42 43 ?_)))
 show Ends p e below QQ (s₁.setTop (mkF m 43 #[jv (-q0), ss, iv 0, jv (-100), ss, iv 2] [.long (-1000)]))
 refine oxr X0 hy d10_43 44 #[jv (-q0), ss, iv 0, jv (-1000), ss, iv 2] rfl (oxz X0 hy d10_44 47 #[jv (-q0), ss, iv 0, jv (-1000), ss, iv 3] 1 rfl rfl rfl (oxm X0 hy d10_47 20 (oD X0 hy d10_20 22 rfl (oH X0 hy d10_22 24 19 rfl (oxi X0 hy d10_24 27 (XT.ii_ge_f (by decide)) (oE X0 hy d10_27 28 rfl (oE X0 hy d10_28 29 rfl (oY X0 hy d10_29 30 ?_))))))))
 have hc30 : ¬ ((-1000 : Int64) < (-q0)) := (own_nl (P := 1000) (by decide) (by omega) (by omega))
 refine oxk X0 hy d10_30 38 (XT.ll_le_t hc30) (oJ2 X0 hy hown hZ hw d10_38 41 10 217 rfl (oE X0 hy d10_41 42 rfl (oU X0 hy d10_42 43 ?_)))
 show Ends p e below QQ (s₁.setTop (mkF m 43 #[jv (-q0), ss, iv 0, jv (-1000), ss, iv 3] [.long (-10000)]))
 refine oxr X0 hy d10_43 44 #[jv (-q0), ss, iv 0, jv (-10000), ss, iv 3] rfl (oxz X0 hy d10_44 47 #[jv (-q0), ss, iv 0, jv (-10000), ss, iv 4] 1 rfl rfl rfl (oxm X0 hy d10_47 20 (oD X0 hy d10_20 22 rfl (oH X0 hy d10_22 24 19 rfl (oxi X0 hy d10_24 27 (XT.ii_ge_f (by decide)) (oE X0 hy d10_27 28 rfl (oE X0 hy d10_28 29 rfl (oY X0 hy d10_29 30 ?_))))))))
 have hc30 : ¬ ((-10000 : Int64) < (-q0)) := (own_nl (P := 10000) (by decide) (by omega) (by omega))
 refine oxk X0 hy d10_30 38 (XT.ll_le_t hc30) (oJ2 X0 hy hown hZ hw d10_38 41 10 217 rfl (oE X0 hy d10_41 42 rfl (oU X0 hy d10_42 43 ?_)))
 show Ends p e below QQ (s₁.setTop (mkF m 43 #[jv (-q0), ss, iv 0, jv (-10000), ss, iv 4] [.long (-100000)]))
 refine oxr X0 hy d10_43 44 #[jv (-q0), ss, iv 0, jv (-100000), ss, iv 4] rfl (oxz X0 hy d10_44 47 #[jv (-q0), ss, iv 0, jv (-100000), ss, iv 5] 1 rfl rfl rfl (oxm X0 hy d10_47 20 (oD X0 hy d10_20 22 rfl (oH X0 hy d10_22 24 19 rfl (oxi X0 hy d10_24 27 (XT.ii_ge_f (by decide)) (oE X0 hy d10_27 28 rfl (oE X0 hy d10_28 29 rfl (oY X0 hy d10_29 30 ?_))))))))
 have hc30 : ¬ ((-100000 : Int64) < (-q0)) := (own_nl (P := 100000) (by decide) (by omega) (by omega))
 refine oxk X0 hy d10_30 38 (XT.ll_le_t hc30) (oJ2 X0 hy hown hZ hw d10_38 41 10 217 rfl (oE X0 hy d10_41 42 rfl (oU X0 hy d10_42 43 ?_)))
 show Ends p e below QQ (s₁.setTop (mkF m 43 #[jv (-q0), ss, iv 0, jv (-100000), ss, iv 5] [.long (-1000000)]))
 refine oxr X0 hy d10_43 44 #[jv (-q0), ss, iv 0, jv (-1000000), ss, iv 5] rfl (oxz X0 hy d10_44 47 #[jv (-q0), ss, iv 0, jv (-1000000), ss, iv 6] 1 rfl rfl rfl (oxm X0 hy d10_47 20 (oD X0 hy d10_20 22 rfl (oH X0 hy d10_22 24 19 rfl (oxi X0 hy d10_24 27 (XT.ii_ge_f (by decide)) (oE X0 hy d10_27 28 rfl (oE X0 hy d10_28 29 rfl (oY X0 hy d10_29 30 ?_))))))))
 have hc30 : ¬ ((-1000000 : Int64) < (-q0)) := (own_nl (P := 1000000) (by decide) (by omega) (by omega))
 refine oxk X0 hy d10_30 38 (XT.ll_le_t hc30) (oJ2 X0 hy hown hZ hw d10_38 41 10 217 rfl (oE X0 hy d10_41 42 rfl (oU X0 hy d10_42 43 ?_)))
 show Ends p e below QQ (s₁.setTop (mkF m 43 #[jv (-q0), ss, iv 0, jv (-1000000), ss, iv 6] [.long (-10000000)]))
 refine oxr X0 hy d10_43 44 #[jv (-q0), ss, iv 0, jv (-10000000), ss, iv 6] rfl (oxz X0 hy d10_44 47 #[jv (-q0), ss, iv 0, jv (-10000000), ss, iv 7] 1 rfl rfl rfl (oxm X0 hy d10_47 20 (oD X0 hy d10_20 22 rfl (oH X0 hy d10_22 24 19 rfl (oxi X0 hy d10_24 27 (XT.ii_ge_f (by decide)) (oE X0 hy d10_27 28 rfl (oE X0 hy d10_28 29 rfl (oY X0 hy d10_29 30 ?_))))))))
 have hc30 : (-10000000 : Int64) < (-q0) := (own_ng (P := 10000000) (by decide) (by omega) (by omega))
 refine oxh X0 hy d10_30 33 (XT.ll_le_f hc30) (oD X0 hy d10_33 35 rfl (oC X0 hy d10_35 36 rfl (oK X0 hy d10_36 37 ?_)))
 show Ends p e below QQ (s₁.setTop (mkF m 37 #[jv (-q0), ss, iv 0, jv (-10000000), ss, iv 7] [.int 7]))
 exact fI X0 hy hrt hlk hQQ d10_37 rfl (Or.inl rfl) e0 (by decide) ⟨rfl, N0, rfl⟩
def Qss8 (Z : State) (q0 : Int64) (h0 : Heap) (n0 : Nat) : QT := fun v h L => (v = some (.int 8)) ∧ (Fr n0 L) ∧ (h = h0)
theorem rmss8 (l : Launch) (Z : State) (a0 : Array Value) (hw : TW a0 Z) (ws : List Jvm.Cond) (q0 : Int64) (h0 : Heap) (n0 : Nat) (Z0 : n0 ≤ h0.size) (g1 : (q0).toInt < 100000000) (g2 : 10000000 ≤ (q0).toInt) :
  MF l mN5 jdk_35_method_15_code 6 (some .int) ws (rmm 0 0 0 0) #[.long q0] Z h0 (Qss8 Z q0 h0 n0) := by
 refine MF.of (plainFor_of_name pn_7) ?_
 intro p e s m below meth c s₁ QQ hy hml hown hZ X0 e0 hrt hlk hnm hQQ
 have N0 := Fr.nil n0
 refine Ends.i #[jv q0, ss, uu, uu, uu, uu] (oG X0 hy d10_0 1 1 rfl (oxp X0 hy d10_1 2 #[jv q0, ss, iv 1, uu, uu, uu] rfl (oE X0 hy d10_2 3 rfl (oJ X0 hy d10_3 4 0 rfl (oY X0 hy d10_4 5 ?_)))))
 have hc5 : ¬ (q0 < (0 : Int64)) := (own_ge0 (by omega))
 refine oxh X0 hy d10_5 8 (XT.ll_lt_f hc5) (oG X0 hy d10_8 9 0 rfl (oxp X0 hy d10_9 10 #[jv q0, ss, iv 0, uu, uu, uu] rfl (oE X0 hy d10_10 11 rfl (oX X0 hy d10_11 12 (oxr X0 hy d10_12 13 #[jv (-q0), ss, iv 0, uu, uu, uu] rfl (oJ2 X0 hy hown hZ hw d10_13 16 (-10) 62 rfl (oxr X0 hy d10_16 17 #[jv (-q0), ss, iv 0, jv (-10), ss, uu] rfl (oG X0 hy d10_17 18 1 rfl (oxo X0 hy d10_18 20 #[jv (-q0), ss, iv 0, jv (-10), ss, iv 1] rfl ?_)))))))))
 refine oD X0 hy d10_20 22 rfl (oH X0 hy d10_22 24 19 rfl (oxi X0 hy d10_24 27 (XT.ii_ge_f (by decide)) (oE X0 hy d10_27 28 rfl (oE X0 hy d10_28 29 rfl (oY X0 hy d10_29 30 ?_)))))
 have hc30 : ¬ ((-10 : Int64) < (-q0)) := (own_nl (P := 10) (by decide) (by omega) (by omega))
 refine oxk X0 hy d10_30 38 (XT.ll_le_t hc30) (oJ2 X0 hy hown hZ hw d10_38 41 10 217 rfl (oE X0 hy d10_41 42 rfl (oU X0 hy d10_42 43 ?_)))
 show Ends p e below QQ (s₁.setTop (mkF m 43 #[jv (-q0), ss, iv 0, jv (-10), ss, iv 1] [.long (-100)]))
 refine oxr X0 hy d10_43 44 #[jv (-q0), ss, iv 0, jv (-100), ss, iv 1] rfl (oxz X0 hy d10_44 47 #[jv (-q0), ss, iv 0, jv (-100), ss, iv 2] 1 rfl rfl rfl (oxm X0 hy d10_47 20 (oD X0 hy d10_20 22 rfl (oH X0 hy d10_22 24 19 rfl (oxi X0 hy d10_24 27 (XT.ii_ge_f (by decide)) (oE X0 hy d10_27 28 rfl (oE X0 hy d10_28 29 rfl (oY X0 hy d10_29 30 ?_))))))))
 have hc30 : ¬ ((-100 : Int64) < (-q0)) := (own_nl (P := 100) (by decide) (by omega) (by omega))
 refine oxk X0 hy d10_30 38 (XT.ll_le_t hc30) (oJ2 X0 hy hown hZ hw d10_38 41 10 217 rfl (oE X0 hy d10_41 42 rfl (oU X0 hy d10_42 43 ?_)))
 show Ends p e below QQ (s₁.setTop (mkF m 43 #[jv (-q0), ss, iv 0, jv (-100), ss, iv 2] [.long (-1000)]))
 refine oxr X0 hy d10_43 44 #[jv (-q0), ss, iv 0, jv (-1000), ss, iv 2] rfl (oxz X0 hy d10_44 47 #[jv (-q0), ss, iv 0, jv (-1000), ss, iv 3] 1 rfl rfl rfl (oxm X0 hy d10_47 20 (oD X0 hy d10_20 22 rfl (oH X0 hy d10_22 24 19 rfl (oxi X0 hy d10_24 27 (XT.ii_ge_f (by decide)) (oE X0 hy d10_27 28 rfl (oE X0 hy d10_28 29 rfl (oY X0 hy d10_29 30 ?_))))))))
 have hc30 : ¬ ((-1000 : Int64) < (-q0)) := (own_nl (P := 1000) (by decide) (by omega) (by omega))
 refine oxk X0 hy d10_30 38 (XT.ll_le_t hc30) (oJ2 X0 hy hown hZ hw d10_38 41 10 217 rfl (oE X0 hy d10_41 42 rfl (oU X0 hy d10_42 43 ?_)))
 show Ends p e below QQ (s₁.setTop (mkF m 43 #[jv (-q0), ss, iv 0, jv (-1000), ss, iv 3] [.long (-10000)]))
 refine oxr X0 hy d10_43 44 #[jv (-q0), ss, iv 0, jv (-10000), ss, iv 3] rfl (oxz X0 hy d10_44 47 #[jv (-q0), ss, iv 0, jv (-10000), ss, iv 4] 1 rfl rfl rfl (oxm X0 hy d10_47 20 (oD X0 hy d10_20 22 rfl (oH X0 hy d10_22 24 19 rfl (oxi X0 hy d10_24 27 (XT.ii_ge_f (by decide)) (oE X0 hy d10_27 28 rfl (oE X0 hy d10_28 29 rfl (oY X0 hy d10_29 30 ?_))))))))
 have hc30 : ¬ ((-10000 : Int64) < (-q0)) := (own_nl (P := 10000) (by decide) (by omega) (by omega))
 refine oxk X0 hy d10_30 38 (XT.ll_le_t hc30) (oJ2 X0 hy hown hZ hw d10_38 41 10 217 rfl (oE X0 hy d10_41 42 rfl (oU X0 hy d10_42 43 ?_)))
 show Ends p e below QQ (s₁.setTop (mkF m 43 #[jv (-q0), ss, iv 0, jv (-10000), ss, iv 4] [.long (-100000)]))
 refine oxr X0 hy d10_43 44 #[jv (-q0), ss, iv 0, jv (-100000), ss, iv 4] rfl (oxz X0 hy d10_44 47 #[jv (-q0), ss, iv 0, jv (-100000), ss, iv 5] 1 rfl rfl rfl (oxm X0 hy d10_47 20 (oD X0 hy d10_20 22 rfl (oH X0 hy d10_22 24 19 rfl (oxi X0 hy d10_24 27 (XT.ii_ge_f (by decide)) (oE X0 hy d10_27 28 rfl (oE X0 hy d10_28 29 rfl (oY X0 hy d10_29 30 ?_))))))))
 have hc30 : ¬ ((-100000 : Int64) < (-q0)) := (own_nl (P := 100000) (by decide) (by omega) (by omega))
 refine oxk X0 hy d10_30 38 (XT.ll_le_t hc30) (oJ2 X0 hy hown hZ hw d10_38 41 10 217 rfl (oE X0 hy d10_41 42 rfl (oU X0 hy d10_42 43 ?_)))
 show Ends p e below QQ (s₁.setTop (mkF m 43 #[jv (-q0), ss, iv 0, jv (-100000), ss, iv 5] [.long (-1000000)]))
 refine oxr X0 hy d10_43 44 #[jv (-q0), ss, iv 0, jv (-1000000), ss, iv 5] rfl (oxz X0 hy d10_44 47 #[jv (-q0), ss, iv 0, jv (-1000000), ss, iv 6] 1 rfl rfl rfl (oxm X0 hy d10_47 20 (oD X0 hy d10_20 22 rfl (oH X0 hy d10_22 24 19 rfl (oxi X0 hy d10_24 27 (XT.ii_ge_f (by decide)) (oE X0 hy d10_27 28 rfl (oE X0 hy d10_28 29 rfl (oY X0 hy d10_29 30 ?_))))))))
 have hc30 : ¬ ((-1000000 : Int64) < (-q0)) := (own_nl (P := 1000000) (by decide) (by omega) (by omega))
 refine oxk X0 hy d10_30 38 (XT.ll_le_t hc30) (oJ2 X0 hy hown hZ hw d10_38 41 10 217 rfl (oE X0 hy d10_41 42 rfl (oU X0 hy d10_42 43 ?_)))
 show Ends p e below QQ (s₁.setTop (mkF m 43 #[jv (-q0), ss, iv 0, jv (-1000000), ss, iv 6] [.long (-10000000)]))
 refine oxr X0 hy d10_43 44 #[jv (-q0), ss, iv 0, jv (-10000000), ss, iv 6] rfl (oxz X0 hy d10_44 47 #[jv (-q0), ss, iv 0, jv (-10000000), ss, iv 7] 1 rfl rfl rfl (oxm X0 hy d10_47 20 (oD X0 hy d10_20 22 rfl (oH X0 hy d10_22 24 19 rfl (oxi X0 hy d10_24 27 (XT.ii_ge_f (by decide)) (oE X0 hy d10_27 28 rfl (oE X0 hy d10_28 29 rfl (oY X0 hy d10_29 30 ?_))))))))
 have hc30 : ¬ ((-10000000 : Int64) < (-q0)) := (own_nl (P := 10000000) (by decide) (by omega) (by omega))
 refine oxk X0 hy d10_30 38 (XT.ll_le_t hc30) (oJ2 X0 hy hown hZ hw d10_38 41 10 217 rfl (oE X0 hy d10_41 42 rfl (oU X0 hy d10_42 43 ?_)))
 show Ends p e below QQ (s₁.setTop (mkF m 43 #[jv (-q0), ss, iv 0, jv (-10000000), ss, iv 7] [.long (-100000000)]))
 refine oxr X0 hy d10_43 44 #[jv (-q0), ss, iv 0, jv (-100000000), ss, iv 7] rfl (oxz X0 hy d10_44 47 #[jv (-q0), ss, iv 0, jv (-100000000), ss, iv 8] 1 rfl rfl rfl (oxm X0 hy d10_47 20 (oD X0 hy d10_20 22 rfl (oH X0 hy d10_22 24 19 rfl (oxi X0 hy d10_24 27 (XT.ii_ge_f (by decide)) (oE X0 hy d10_27 28 rfl (oE X0 hy d10_28 29 rfl (oY X0 hy d10_29 30 ?_))))))))
 have hc30 : (-100000000 : Int64) < (-q0) := (own_ng (P := 100000000) (by decide) (by omega) (by omega))
 refine oxh X0 hy d10_30 33 (XT.ll_le_f hc30) (oD X0 hy d10_33 35 rfl (oC X0 hy d10_35 36 rfl (oK X0 hy d10_36 37 ?_)))
 show Ends p e below QQ (s₁.setTop (mkF m 37 #[jv (-q0), ss, iv 0, jv (-100000000), ss, iv 8] [.int 8]))
 exact fI X0 hy hrt hlk hQQ d10_37 rfl (Or.inl rfl) e0 (by decide) ⟨rfl, N0, rfl⟩
def Qss9 (Z : State) (q0 : Int64) (h0 : Heap) (n0 : Nat) : QT := fun v h L => (v = some (.int 9)) ∧ (Fr n0 L) ∧ (h = h0)
theorem rmss9 (l : Launch) (Z : State) (a0 : Array Value) (hw : TW a0 Z) (ws : List Jvm.Cond) (q0 : Int64) (h0 : Heap) (n0 : Nat) (Z0 : n0 ≤ h0.size) (g1 : (q0).toInt < 1000000000) (g2 : 100000000 ≤ (q0).toInt) :
  MF l mN5 jdk_35_method_15_code 6 (some .int) ws (rmm 0 0 0 0) #[.long q0] Z h0 (Qss9 Z q0 h0 n0) := by
 refine MF.of (plainFor_of_name pn_7) ?_
 intro p e s m below meth c s₁ QQ hy hml hown hZ X0 e0 hrt hlk hnm hQQ
 have N0 := Fr.nil n0
 refine Ends.i #[jv q0, ss, uu, uu, uu, uu] (oG X0 hy d10_0 1 1 rfl (oxp X0 hy d10_1 2 #[jv q0, ss, iv 1, uu, uu, uu] rfl (oE X0 hy d10_2 3 rfl (oJ X0 hy d10_3 4 0 rfl (oY X0 hy d10_4 5 ?_)))))
 have hc5 : ¬ (q0 < (0 : Int64)) := (own_ge0 (by omega))
 refine oxh X0 hy d10_5 8 (XT.ll_lt_f hc5) (oG X0 hy d10_8 9 0 rfl (oxp X0 hy d10_9 10 #[jv q0, ss, iv 0, uu, uu, uu] rfl (oE X0 hy d10_10 11 rfl (oX X0 hy d10_11 12 (oxr X0 hy d10_12 13 #[jv (-q0), ss, iv 0, uu, uu, uu] rfl (oJ2 X0 hy hown hZ hw d10_13 16 (-10) 62 rfl (oxr X0 hy d10_16 17 #[jv (-q0), ss, iv 0, jv (-10), ss, uu] rfl (oG X0 hy d10_17 18 1 rfl (oxo X0 hy d10_18 20 #[jv (-q0), ss, iv 0, jv (-10), ss, iv 1] rfl ?_)))))))))
 refine oD X0 hy d10_20 22 rfl (oH X0 hy d10_22 24 19 rfl (oxi X0 hy d10_24 27 (XT.ii_ge_f (by decide)) (oE X0 hy d10_27 28 rfl (oE X0 hy d10_28 29 rfl (oY X0 hy d10_29 30 ?_)))))
 have hc30 : ¬ ((-10 : Int64) < (-q0)) := (own_nl (P := 10) (by decide) (by omega) (by omega))
 refine oxk X0 hy d10_30 38 (XT.ll_le_t hc30) (oJ2 X0 hy hown hZ hw d10_38 41 10 217 rfl (oE X0 hy d10_41 42 rfl (oU X0 hy d10_42 43 ?_)))
 show Ends p e below QQ (s₁.setTop (mkF m 43 #[jv (-q0), ss, iv 0, jv (-10), ss, iv 1] [.long (-100)]))
 refine oxr X0 hy d10_43 44 #[jv (-q0), ss, iv 0, jv (-100), ss, iv 1] rfl (oxz X0 hy d10_44 47 #[jv (-q0), ss, iv 0, jv (-100), ss, iv 2] 1 rfl rfl rfl (oxm X0 hy d10_47 20 (oD X0 hy d10_20 22 rfl (oH X0 hy d10_22 24 19 rfl (oxi X0 hy d10_24 27 (XT.ii_ge_f (by decide)) (oE X0 hy d10_27 28 rfl (oE X0 hy d10_28 29 rfl (oY X0 hy d10_29 30 ?_))))))))
 have hc30 : ¬ ((-100 : Int64) < (-q0)) := (own_nl (P := 100) (by decide) (by omega) (by omega))
 refine oxk X0 hy d10_30 38 (XT.ll_le_t hc30) (oJ2 X0 hy hown hZ hw d10_38 41 10 217 rfl (oE X0 hy d10_41 42 rfl (oU X0 hy d10_42 43 ?_)))
 show Ends p e below QQ (s₁.setTop (mkF m 43 #[jv (-q0), ss, iv 0, jv (-100), ss, iv 2] [.long (-1000)]))
 refine oxr X0 hy d10_43 44 #[jv (-q0), ss, iv 0, jv (-1000), ss, iv 2] rfl (oxz X0 hy d10_44 47 #[jv (-q0), ss, iv 0, jv (-1000), ss, iv 3] 1 rfl rfl rfl (oxm X0 hy d10_47 20 (oD X0 hy d10_20 22 rfl (oH X0 hy d10_22 24 19 rfl (oxi X0 hy d10_24 27 (XT.ii_ge_f (by decide)) (oE X0 hy d10_27 28 rfl (oE X0 hy d10_28 29 rfl (oY X0 hy d10_29 30 ?_))))))))
 have hc30 : ¬ ((-1000 : Int64) < (-q0)) := (own_nl (P := 1000) (by decide) (by omega) (by omega))
 refine oxk X0 hy d10_30 38 (XT.ll_le_t hc30) (oJ2 X0 hy hown hZ hw d10_38 41 10 217 rfl (oE X0 hy d10_41 42 rfl (oU X0 hy d10_42 43 ?_)))
 show Ends p e below QQ (s₁.setTop (mkF m 43 #[jv (-q0), ss, iv 0, jv (-1000), ss, iv 3] [.long (-10000)]))
 refine oxr X0 hy d10_43 44 #[jv (-q0), ss, iv 0, jv (-10000), ss, iv 3] rfl (oxz X0 hy d10_44 47 #[jv (-q0), ss, iv 0, jv (-10000), ss, iv 4] 1 rfl rfl rfl (oxm X0 hy d10_47 20 (oD X0 hy d10_20 22 rfl (oH X0 hy d10_22 24 19 rfl (oxi X0 hy d10_24 27 (XT.ii_ge_f (by decide)) (oE X0 hy d10_27 28 rfl (oE X0 hy d10_28 29 rfl (oY X0 hy d10_29 30 ?_))))))))
 have hc30 : ¬ ((-10000 : Int64) < (-q0)) := (own_nl (P := 10000) (by decide) (by omega) (by omega))
 refine oxk X0 hy d10_30 38 (XT.ll_le_t hc30) (oJ2 X0 hy hown hZ hw d10_38 41 10 217 rfl (oE X0 hy d10_41 42 rfl (oU X0 hy d10_42 43 ?_)))
 show Ends p e below QQ (s₁.setTop (mkF m 43 #[jv (-q0), ss, iv 0, jv (-10000), ss, iv 4] [.long (-100000)]))
 refine oxr X0 hy d10_43 44 #[jv (-q0), ss, iv 0, jv (-100000), ss, iv 4] rfl (oxz X0 hy d10_44 47 #[jv (-q0), ss, iv 0, jv (-100000), ss, iv 5] 1 rfl rfl rfl (oxm X0 hy d10_47 20 (oD X0 hy d10_20 22 rfl (oH X0 hy d10_22 24 19 rfl (oxi X0 hy d10_24 27 (XT.ii_ge_f (by decide)) (oE X0 hy d10_27 28 rfl (oE X0 hy d10_28 29 rfl (oY X0 hy d10_29 30 ?_))))))))
 have hc30 : ¬ ((-100000 : Int64) < (-q0)) := (own_nl (P := 100000) (by decide) (by omega) (by omega))
 refine oxk X0 hy d10_30 38 (XT.ll_le_t hc30) (oJ2 X0 hy hown hZ hw d10_38 41 10 217 rfl (oE X0 hy d10_41 42 rfl (oU X0 hy d10_42 43 ?_)))
 show Ends p e below QQ (s₁.setTop (mkF m 43 #[jv (-q0), ss, iv 0, jv (-100000), ss, iv 5] [.long (-1000000)]))
 refine oxr X0 hy d10_43 44 #[jv (-q0), ss, iv 0, jv (-1000000), ss, iv 5] rfl (oxz X0 hy d10_44 47 #[jv (-q0), ss, iv 0, jv (-1000000), ss, iv 6] 1 rfl rfl rfl (oxm X0 hy d10_47 20 (oD X0 hy d10_20 22 rfl (oH X0 hy d10_22 24 19 rfl (oxi X0 hy d10_24 27 (XT.ii_ge_f (by decide)) (oE X0 hy d10_27 28 rfl (oE X0 hy d10_28 29 rfl (oY X0 hy d10_29 30 ?_))))))))
 have hc30 : ¬ ((-1000000 : Int64) < (-q0)) := (own_nl (P := 1000000) (by decide) (by omega) (by omega))
 refine oxk X0 hy d10_30 38 (XT.ll_le_t hc30) (oJ2 X0 hy hown hZ hw d10_38 41 10 217 rfl (oE X0 hy d10_41 42 rfl (oU X0 hy d10_42 43 ?_)))
 show Ends p e below QQ (s₁.setTop (mkF m 43 #[jv (-q0), ss, iv 0, jv (-1000000), ss, iv 6] [.long (-10000000)]))
 refine oxr X0 hy d10_43 44 #[jv (-q0), ss, iv 0, jv (-10000000), ss, iv 6] rfl (oxz X0 hy d10_44 47 #[jv (-q0), ss, iv 0, jv (-10000000), ss, iv 7] 1 rfl rfl rfl (oxm X0 hy d10_47 20 (oD X0 hy d10_20 22 rfl (oH X0 hy d10_22 24 19 rfl (oxi X0 hy d10_24 27 (XT.ii_ge_f (by decide)) (oE X0 hy d10_27 28 rfl (oE X0 hy d10_28 29 rfl (oY X0 hy d10_29 30 ?_))))))))
 have hc30 : ¬ ((-10000000 : Int64) < (-q0)) := (own_nl (P := 10000000) (by decide) (by omega) (by omega))
 refine oxk X0 hy d10_30 38 (XT.ll_le_t hc30) (oJ2 X0 hy hown hZ hw d10_38 41 10 217 rfl (oE X0 hy d10_41 42 rfl (oU X0 hy d10_42 43 ?_)))
 show Ends p e below QQ (s₁.setTop (mkF m 43 #[jv (-q0), ss, iv 0, jv (-10000000), ss, iv 7] [.long (-100000000)]))
 refine oxr X0 hy d10_43 44 #[jv (-q0), ss, iv 0, jv (-100000000), ss, iv 7] rfl (oxz X0 hy d10_44 47 #[jv (-q0), ss, iv 0, jv (-100000000), ss, iv 8] 1 rfl rfl rfl (oxm X0 hy d10_47 20 (oD X0 hy d10_20 22 rfl (oH X0 hy d10_22 24 19 rfl (oxi X0 hy d10_24 27 (XT.ii_ge_f (by decide)) (oE X0 hy d10_27 28 rfl (oE X0 hy d10_28 29 rfl (oY X0 hy d10_29 30 ?_))))))))
 have hc30 : ¬ ((-100000000 : Int64) < (-q0)) := (own_nl (P := 100000000) (by decide) (by omega) (by omega))
 refine oxk X0 hy d10_30 38 (XT.ll_le_t hc30) (oJ2 X0 hy hown hZ hw d10_38 41 10 217 rfl (oE X0 hy d10_41 42 rfl (oU X0 hy d10_42 43 ?_)))
 show Ends p e below QQ (s₁.setTop (mkF m 43 #[jv (-q0), ss, iv 0, jv (-100000000), ss, iv 8] [.long (-1000000000)]))
 refine oxr X0 hy d10_43 44 #[jv (-q0), ss, iv 0, jv (-1000000000), ss, iv 8] rfl (oxz X0 hy d10_44 47 #[jv (-q0), ss, iv 0, jv (-1000000000), ss, iv 9] 1 rfl rfl rfl (oxm X0 hy d10_47 20 (oD X0 hy d10_20 22 rfl (oH X0 hy d10_22 24 19 rfl (oxi X0 hy d10_24 27 (XT.ii_ge_f (by decide)) (oE X0 hy d10_27 28 rfl (oE X0 hy d10_28 29 rfl (oY X0 hy d10_29 30 ?_))))))))
 have hc30 : (-1000000000 : Int64) < (-q0) := (own_ng (P := 1000000000) (by decide) (by omega) (by omega))
 refine oxh X0 hy d10_30 33 (XT.ll_le_f hc30) (oD X0 hy d10_33 35 rfl (oC X0 hy d10_35 36 rfl (oK X0 hy d10_36 37 ?_)))
 show Ends p e below QQ (s₁.setTop (mkF m 37 #[jv (-q0), ss, iv 0, jv (-1000000000), ss, iv 9] [.int 9]))
 exact fI X0 hy hrt hlk hQQ d10_37 rfl (Or.inl rfl) e0 (by decide) ⟨rfl, N0, rfl⟩
theorem d11_0 : decode cD0 0 = .ok (.iload_n 2, 1) := by decide +kernel
theorem d11_1 : decode cD0 1 = .ok (.istore 7, 2) := by decide +kernel
theorem d11_3 : decode cD0 3 = .ok (.lload_n 0, 1) := by decide +kernel
theorem d11_4 : decode cD0 4 = .ok (.lconst 0, 1) := by decide +kernel
theorem d11_5 : decode cD0 5 = .ok (.lcmp, 1) := by decide +kernel
theorem d11_6 : decode cD0 6 = .ok (.ifCond .ge 7, 3) := by decide +kernel
theorem d11_13 : decode cD0 13 = .ok (.iconst 0, 1) := by decide +kernel
theorem d11_14 : decode cD0 14 = .ok (.istore 8, 2) := by decide +kernel
theorem d11_16 : decode cD0 16 = .ok (.iload 8, 2) := by decide +kernel
theorem d11_18 : decode cD0 18 = .ok (.ifCond .ne 6, 3) := by decide +kernel
theorem d11_21 : decode cD0 21 = .ok (.lload_n 0, 1) := by decide +kernel
theorem d11_22 : decode cD0 22 = .ok (.lneg, 1) := by decide +kernel
theorem d11_23 : decode cD0 23 = .ok (.lstore_n 0, 1) := by decide +kernel
theorem d11_24 : decode cD0 24 = .ok (.lload_n 0, 1) := by decide +kernel
theorem d11_25 : decode cD0 25 = .ok (.ldc2_w 129, 3) := by decide +kernel
theorem d11_28 : decode cD0 28 = .ok (.lcmp, 1) := by decide +kernel
theorem d11_29 : decode cD0 29 = .ok (.ifCond .gt 53, 3) := by decide +kernel
theorem d11_82 : decode cD0 82 = .ok (.lload_n 0, 1) := by decide +kernel
theorem d11_83 : decode cD0 83 = .ok (.l2i, 1) := by decide +kernel
theorem d11_84 : decode cD0 84 = .ok (.istore 10, 2) := by decide +kernel
theorem d11_86 : decode cD0 86 = .ok (.iload 10, 2) := by decide +kernel
theorem d11_88 : decode cD0 88 = .ok (.bipush (-100), 2) := by decide +kernel
theorem d11_90 : decode cD0 90 = .ok (.if_icmp .gt 53, 3) := by decide +kernel
theorem d11_143 : decode cD0 143 = .ok (.aload_n 3, 1) := by decide +kernel
theorem d11_144 : decode cD0 144 = .ok (.iinc 7 (-1), 3) := by decide +kernel
theorem d11_147 : decode cD0 147 = .ok (.iload 7, 2) := by decide +kernel
theorem d11_149 : decode cD0 149 = .ok (.getstatic 133, 3) := by decide +kernel
theorem d11_152 : decode cD0 152 = .ok (.iload 10, 2) := by decide +kernel
theorem d11_154 : decode cD0 154 = .ok (.ineg, 1) := by decide +kernel
theorem d11_155 : decode cD0 155 = .ok (.baload, 1) := by decide +kernel
theorem d11_156 : decode cD0 156 = .ok (.bastore, 1) := by decide +kernel
theorem d11_157 : decode cD0 157 = .ok (.iload 10, 2) := by decide +kernel
theorem d11_159 : decode cD0 159 = .ok (.bipush (-9), 2) := by decide +kernel
theorem d11_161 : decode cD0 161 = .ok (.if_icmp .ge 17, 3) := by decide +kernel
theorem d11_178 : decode cD0 178 = .ok (.iload 8, 2) := by decide +kernel
theorem d11_180 : decode cD0 180 = .ok (.ifCond .eq 12, 3) := by decide +kernel
theorem d11_192 : decode cD0 192 = .ok (.iload 7, 2) := by decide +kernel
theorem d11_194 : decode cD0 194 = .ok (.ireturn, 1) := by decide +kernel
def Qgc1 (Z : State) (q0 : Int64) (o2 : Addr) (kb : ClassId) (a_D1 : Addr) (k_a_D1 : ClassId) (a_D2 : Addr) (k_a_D2 : ClassId) (h0 : Heap) (n0 : Nat) : QT := fun v h L => (v = some (.int 0)) ∧ (Fr n0 L) ∧ (Keep h0 h [o2]) ∧ (Arv Z h o2 kb .byte 1 [(.int (own_dg ((q0).toInt)))] (.int 0))
theorem rmgc1 (l : Launch) (Z : State) (a0 : Array Value) (hw : TW a0 Z) (ws : List Jvm.Cond) (q0 : Int64) (o2 : Addr) (kb : ClassId) (a_D1 : Addr) (k_a_D1 : ClassId) (a_D2 : Addr) (k_a_D2 : ClassId) (h0 : Heap) (n0 : Nat) (Z0 : n0 ≤ h0.size) (wv : Arv Z h0 o2 kb .byte 1 [.int 0] (.int 0)) (wN : n0 ≤ o2) (wC : o2 ≠ a_D1) (wB : o2 ≠ a_D2) (wl : Arv Z h0 a_D1 k_a_D1 .byte 100 own_ones (.int 0)) (wf : sJQ Z h0 (.ref a_D1)) (wn : Arv Z h0 a_D2 k_a_D2 .byte 100 own_tens (.int 0)) (wg : sKQ Z h0 (.ref a_D2)) (g1 : (q0).toInt < 10) (g2 : 0 ≤ (q0).toInt) :
  MF l mN6 jdk_35_method_14_code 11 (some .int) ws (rmm 0 0 0 0) #[.long q0, .int 1, .ref o2] Z h0 (Qgc1 Z q0 o2 kb a_D1 k_a_D1 a_D2 k_a_D2 h0 n0) := by
 refine MF.of (plainFor_of_name pn_7) ?_
 intro p e s m below meth c s₁ QQ hy hml hown hZ X0 e0 hrt hlk hnm hQQ
 have N0 := Fr.nil n0
 refine Ends.i #[jv q0, ss, iv 1, rv o2, uu, uu, uu, uu, uu, uu, uu] (oC X0 hy d11_0 1 rfl (oxo X0 hy d11_1 3 #[jv q0, ss, iv 1, rv o2, uu, uu, uu, iv 1, uu, uu, uu] rfl (oE X0 hy d11_3 4 rfl (oJ X0 hy d11_4 5 0 rfl (oY X0 hy d11_5 6 ?_)))))
 have hc6 : ¬ (q0 < (0 : Int64)) := (own_ge0 (by omega))
 refine oxk X0 hy d11_6 13 (XT.ll_ge_t hc6) (oG X0 hy d11_13 14 0 rfl (oxo X0 hy d11_14 16 #[jv q0, ss, iv 1, rv o2, uu, uu, uu, iv 1, iv 0, uu, uu] rfl (oD X0 hy d11_16 18 rfl (oxh X0 hy d11_18 21 (XT.i0_ne_f (by decide)) (oE X0 hy d11_21 22 rfl (oX X0 hy d11_22 23 (oxr X0 hy d11_23 24 #[jv (-q0), ss, iv 1, rv o2, uu, uu, uu, iv 1, iv 0, uu, uu] rfl (oE X0 hy d11_24 25 rfl (oJ2 X0 hy hown hZ hw d11_25 28 (-2147483648) 67 rfl ?_)))))))))
 refine oY X0 hy d11_28 29 ?_
 have hc29 : (-2147483648 : Int64) < (-q0) := (own_ng (P := 2147483648) (by decide) (by omega) (by omega))
 refine oxk X0 hy d11_29 82 (XT.ll_gt_t hc29) (oE X0 hy d11_82 83 rfl (oZ X0 hy d11_83 84 (oxo X0 hy d11_84 86 #[jv (-q0), ss, iv 1, rv o2, uu, uu, uu, iv 1, iv 0, uu, iv (-q0).toInt32] rfl ?_)))
 generalize hv10_1 : (-q0).toInt32 = x10_1
 have hI0 : x10_1.toInt = -((q0).toInt) := by rw [← hv10_1]; exact own_i0 (by omega) (by omega)
 refine oD X0 hy d11_86 88 rfl (oH X0 hy d11_88 90 (-100) rfl ?_)
 have hc90 : (-100 : Int32) < x10_1 := (own_exit hI0 (by omega))
 refine oxl X0 hy d11_90 143 (XT.ii_gt_t hc90) (oA X0 hy d11_143 144 rfl (oxz X0 hy d11_144 147 #[jv (-q0), ss, iv 1, rv o2, uu, uu, uu, iv 0, iv 0, uu, iv x10_1] (-1) rfl rfl rfl (oD X0 hy d11_147 149 rfl (gS X0 hy hown hZ hw e0 wf d11_149 152 68 rfl fun T364 X364 e364 => oD X364 hy d11_152 154 rfl (oQ X364 hy d11_154 155 ?_)))))
 have hr0_0 : ((-x10_1)).toInt = ((q0).toInt) % 100 := own_nr hI0 (by omega) (by omega)
 refine aLB X364 hy hZ e364 wl d11_155 156 (.int (own_dg ((q0).toInt))) (own_in hr0_0) (own_oneat hr0_0) ?_
 refine aSB X364 hy hZ e364 wv d11_156 157 ⟨by decide, by decide⟩ fun T367 h367 X367 e367 W367 => ?_
 rw [own_nardg] at W367
 have wv : Arv Z h367 o2 kb .byte 1 [(.int (own_dg ((q0).toInt)))] (.int 0) := As wv (own_fitdg _) W367 0 rfl (Nat.le_of_ble_eq_true rfl)
 have K367 := (Keep.refl h0 [o2]).wr W367 (Or.inl mm0)
 have N367 := Fr.snoc X367 N0 wN
 refine oD X367 hy d11_157 159 rfl (oH X367 hy d11_159 161 (-9) rfl ?_)
 have hc161 : ¬ (x10_1 < (-9 : Int32)) := (own_one hI0 (by omega))
 refine oxl X367 hy d11_161 178 (XT.ii_ge_t hc161) (oD X367 hy d11_178 180 rfl (oxk X367 hy d11_180 192 (XT.i0_eq_t (by decide)) (oD X367 hy d11_192 194 rfl ?_)))
 exact fI X367 hy hrt hlk hQQ d11_194 rfl (Or.inl rfl) e367 (by decide) ⟨rfl, N367, K367, wv⟩
theorem d11_164 : decode cD0 164 = .ok (.aload_n 3, 1) := by decide +kernel
theorem d11_165 : decode cD0 165 = .ok (.iinc 7 (-1), 3) := by decide +kernel
theorem d11_168 : decode cD0 168 = .ok (.iload 7, 2) := by decide +kernel
theorem d11_170 : decode cD0 170 = .ok (.getstatic 137, 3) := by decide +kernel
theorem d11_173 : decode cD0 173 = .ok (.iload 10, 2) := by decide +kernel
theorem d11_175 : decode cD0 175 = .ok (.ineg, 1) := by decide +kernel
theorem d11_176 : decode cD0 176 = .ok (.baload, 1) := by decide +kernel
theorem d11_177 : decode cD0 177 = .ok (.bastore, 1) := by decide +kernel
def Qgc2 (Z : State) (q0 : Int64) (o2 : Addr) (kb : ClassId) (a_D1 : Addr) (k_a_D1 : ClassId) (a_D2 : Addr) (k_a_D2 : ClassId) (h0 : Heap) (n0 : Nat) : QT := fun v h L => (v = some (.int 0)) ∧ (Fr n0 L) ∧ (Keep h0 h [o2]) ∧ (Arv Z h o2 kb .byte 2 [(.int (own_dg ((q0).toInt / 10))), (.int (own_dg ((q0).toInt)))] (.int 0))
theorem rmgc2 (l : Launch) (Z : State) (a0 : Array Value) (hw : TW a0 Z) (ws : List Jvm.Cond) (q0 : Int64) (o2 : Addr) (kb : ClassId) (a_D1 : Addr) (k_a_D1 : ClassId) (a_D2 : Addr) (k_a_D2 : ClassId) (h0 : Heap) (n0 : Nat) (Z0 : n0 ≤ h0.size) (wv : Arv Z h0 o2 kb .byte 2 [.int 0, .int 0] (.int 0)) (wN : n0 ≤ o2) (wC : o2 ≠ a_D1) (wB : o2 ≠ a_D2) (wl : Arv Z h0 a_D1 k_a_D1 .byte 100 own_ones (.int 0)) (wf : sJQ Z h0 (.ref a_D1)) (wn : Arv Z h0 a_D2 k_a_D2 .byte 100 own_tens (.int 0)) (wg : sKQ Z h0 (.ref a_D2)) (g1 : (q0).toInt < 100) (g2 : 10 ≤ (q0).toInt) :
  MF l mN6 jdk_35_method_14_code 11 (some .int) ws (rmm 0 0 0 0) #[.long q0, .int 2, .ref o2] Z h0 (Qgc2 Z q0 o2 kb a_D1 k_a_D1 a_D2 k_a_D2 h0 n0) := by
 refine MF.of (plainFor_of_name pn_7) ?_
 intro p e s m below meth c s₁ QQ hy hml hown hZ X0 e0 hrt hlk hnm hQQ
 have N0 := Fr.nil n0
 refine Ends.i #[jv q0, ss, iv 2, rv o2, uu, uu, uu, uu, uu, uu, uu] (oC X0 hy d11_0 1 rfl (oxo X0 hy d11_1 3 #[jv q0, ss, iv 2, rv o2, uu, uu, uu, iv 2, uu, uu, uu] rfl (oE X0 hy d11_3 4 rfl (oJ X0 hy d11_4 5 0 rfl (oY X0 hy d11_5 6 ?_)))))
 have hc6 : ¬ (q0 < (0 : Int64)) := (own_ge0 (by omega))
 refine oxk X0 hy d11_6 13 (XT.ll_ge_t hc6) (oG X0 hy d11_13 14 0 rfl (oxo X0 hy d11_14 16 #[jv q0, ss, iv 2, rv o2, uu, uu, uu, iv 2, iv 0, uu, uu] rfl (oD X0 hy d11_16 18 rfl (oxh X0 hy d11_18 21 (XT.i0_ne_f (by decide)) (oE X0 hy d11_21 22 rfl (oX X0 hy d11_22 23 (oxr X0 hy d11_23 24 #[jv (-q0), ss, iv 2, rv o2, uu, uu, uu, iv 2, iv 0, uu, uu] rfl (oE X0 hy d11_24 25 rfl (oJ2 X0 hy hown hZ hw d11_25 28 (-2147483648) 67 rfl ?_)))))))))
 refine oY X0 hy d11_28 29 ?_
 have hc29 : (-2147483648 : Int64) < (-q0) := (own_ng (P := 2147483648) (by decide) (by omega) (by omega))
 refine oxk X0 hy d11_29 82 (XT.ll_gt_t hc29) (oE X0 hy d11_82 83 rfl (oZ X0 hy d11_83 84 (oxo X0 hy d11_84 86 #[jv (-q0), ss, iv 2, rv o2, uu, uu, uu, iv 2, iv 0, uu, iv (-q0).toInt32] rfl ?_)))
 generalize hv10_1 : (-q0).toInt32 = x10_1
 have hI0 : x10_1.toInt = -((q0).toInt) := by rw [← hv10_1]; exact own_i0 (by omega) (by omega)
 refine oD X0 hy d11_86 88 rfl (oH X0 hy d11_88 90 (-100) rfl ?_)
 have hc90 : (-100 : Int32) < x10_1 := (own_exit hI0 (by omega))
 refine oxl X0 hy d11_90 143 (XT.ii_gt_t hc90) (oA X0 hy d11_143 144 rfl (oxz X0 hy d11_144 147 #[jv (-q0), ss, iv 2, rv o2, uu, uu, uu, iv 1, iv 0, uu, iv x10_1] (-1) rfl rfl rfl (oD X0 hy d11_147 149 rfl (gS X0 hy hown hZ hw e0 wf d11_149 152 68 rfl fun T368 X368 e368 => oD X368 hy d11_152 154 rfl (oQ X368 hy d11_154 155 ?_)))))
 have hr0_0 : ((-x10_1)).toInt = ((q0).toInt) % 100 := own_nr hI0 (by omega) (by omega)
 refine aLB X368 hy hZ e368 wl d11_155 156 (.int (own_dg ((q0).toInt))) (own_in hr0_0) (own_oneat hr0_0) ?_
 refine aSB X368 hy hZ e368 wv d11_156 157 ⟨by decide, by decide⟩ fun T371 h371 X371 e371 W371 => ?_
 rw [own_nardg] at W371
 have wn := wn.other W371 (Ne.symm wB)
 have wg := wg.wr W371
 have wv : Arv Z h371 o2 kb .byte 2 [.int 0, (.int (own_dg ((q0).toInt)))] (.int 0) := As wv (own_fitdg _) W371 1 rfl (Nat.le_of_ble_eq_true rfl)
 have K371 := (Keep.refl h0 [o2]).wr W371 (Or.inl mm0)
 have N371 := Fr.snoc X371 N0 wN
 refine oD X371 hy d11_157 159 rfl (oH X371 hy d11_159 161 (-9) rfl ?_)
 have hc161 : x10_1 < (-9 : Int32) := (own_two hI0 (by omega))
 refine oxi X371 hy d11_161 164 (XT.ii_ge_f hc161) (oA X371 hy d11_164 165 rfl (oxz X371 hy d11_165 168 #[jv (-q0), ss, iv 2, rv o2, uu, uu, uu, iv 0, iv 0, uu, iv x10_1] (-1) rfl rfl rfl (oD X371 hy d11_168 170 rfl (gS X371 hy hown hZ hw e371 wg d11_170 173 218 rfl fun T372 X372 e372 => oD X372 hy d11_173 175 rfl (oQ X372 hy d11_175 176 ?_)))))
 have hr0_1 : ((-x10_1)).toInt = ((q0).toInt) % 100 := own_nr hI0 (by omega) (by omega)
 refine aLB X372 hy hZ e372 wn d11_176 177 (.int (own_dg ((q0).toInt / 10))) (own_in hr0_1) (own_tenat hr0_1) ?_
 refine aSB X372 hy hZ e372 wv d11_177 178 ⟨by decide, by decide⟩ fun T375 h375 X375 e375 W375 => ?_
 rw [own_nardg] at W375
 have wv : Arv Z h375 o2 kb .byte 2 [(.int (own_dg ((q0).toInt / 10))), (.int (own_dg ((q0).toInt)))] (.int 0) := As wv (own_fitdg _) W375 0 rfl (Nat.le_of_ble_eq_true rfl)
 have K375 := K371.wr W375 (Or.inl mm0)
 have N375 := Fr.snoc X375 N371 wN
 refine oD X375 hy d11_178 180 rfl (oxk X375 hy d11_180 192 (XT.i0_eq_t (by decide)) (oD X375 hy d11_192 194 rfl ?_))
 exact fI X375 hy hrt hlk hQQ d11_194 rfl (Or.inl rfl) e375 (by decide) ⟨rfl, N375, K375, wv⟩
theorem d11_93 : decode cD0 93 = .ok (.iload 10, 2) := by decide +kernel
theorem d11_95 : decode cD0 95 = .ok (.bipush 100, 2) := by decide +kernel
theorem d11_97 : decode cD0 97 = .ok (.idiv, 1) := by decide +kernel
theorem d11_98 : decode cD0 98 = .ok (.istore 9, 2) := by decide +kernel
theorem d11_100 : decode cD0 100 = .ok (.iload 9, 2) := by decide +kernel
theorem d11_102 : decode cD0 102 = .ok (.bipush 100, 2) := by decide +kernel
theorem d11_104 : decode cD0 104 = .ok (.imul, 1) := by decide +kernel
theorem d11_105 : decode cD0 105 = .ok (.iload 10, 2) := by decide +kernel
theorem d11_107 : decode cD0 107 = .ok (.isub, 1) := by decide +kernel
theorem d11_108 : decode cD0 108 = .ok (.istore 6, 2) := by decide +kernel
theorem d11_110 : decode cD0 110 = .ok (.iload 9, 2) := by decide +kernel
theorem d11_112 : decode cD0 112 = .ok (.istore 10, 2) := by decide +kernel
theorem d11_114 : decode cD0 114 = .ok (.aload_n 3, 1) := by decide +kernel
theorem d11_115 : decode cD0 115 = .ok (.iinc 7 (-1), 3) := by decide +kernel
theorem d11_118 : decode cD0 118 = .ok (.iload 7, 2) := by decide +kernel
theorem d11_120 : decode cD0 120 = .ok (.getstatic 133, 3) := by decide +kernel
theorem d11_123 : decode cD0 123 = .ok (.iload 6, 2) := by decide +kernel
theorem d11_125 : decode cD0 125 = .ok (.baload, 1) := by decide +kernel
theorem d11_126 : decode cD0 126 = .ok (.bastore, 1) := by decide +kernel
theorem d11_127 : decode cD0 127 = .ok (.aload_n 3, 1) := by decide +kernel
theorem d11_128 : decode cD0 128 = .ok (.iinc 7 (-1), 3) := by decide +kernel
theorem d11_131 : decode cD0 131 = .ok (.iload 7, 2) := by decide +kernel
theorem d11_133 : decode cD0 133 = .ok (.getstatic 137, 3) := by decide +kernel
theorem d11_136 : decode cD0 136 = .ok (.iload 6, 2) := by decide +kernel
theorem d11_138 : decode cD0 138 = .ok (.baload, 1) := by decide +kernel
theorem d11_139 : decode cD0 139 = .ok (.bastore, 1) := by decide +kernel
theorem d11_140 : decode cD0 140 = .ok (.goto (-54), 3) := by decide +kernel
def Qgc3 (Z : State) (q0 : Int64) (o2 : Addr) (kb : ClassId) (a_D1 : Addr) (k_a_D1 : ClassId) (a_D2 : Addr) (k_a_D2 : ClassId) (h0 : Heap) (n0 : Nat) : QT := fun v h L => (v = some (.int 0)) ∧ (Fr n0 L) ∧ (Keep h0 h [o2]) ∧ (Arv Z h o2 kb .byte 3 [(.int (own_dg ((q0).toInt / 100))), (.int (own_dg ((q0).toInt / 10))), (.int (own_dg ((q0).toInt)))] (.int 0))
theorem rmgc3 (l : Launch) (Z : State) (a0 : Array Value) (hw : TW a0 Z) (ws : List Jvm.Cond) (q0 : Int64) (o2 : Addr) (kb : ClassId) (a_D1 : Addr) (k_a_D1 : ClassId) (a_D2 : Addr) (k_a_D2 : ClassId) (h0 : Heap) (n0 : Nat) (Z0 : n0 ≤ h0.size) (wv : Arv Z h0 o2 kb .byte 3 [.int 0, .int 0, .int 0] (.int 0)) (wN : n0 ≤ o2) (wC : o2 ≠ a_D1) (wB : o2 ≠ a_D2) (wl : Arv Z h0 a_D1 k_a_D1 .byte 100 own_ones (.int 0)) (wf : sJQ Z h0 (.ref a_D1)) (wn : Arv Z h0 a_D2 k_a_D2 .byte 100 own_tens (.int 0)) (wg : sKQ Z h0 (.ref a_D2)) (g1 : (q0).toInt < 1000) (g2 : 100 ≤ (q0).toInt) :
  MF l mN6 jdk_35_method_14_code 11 (some .int) ws (rmm 0 0 0 0) #[.long q0, .int 3, .ref o2] Z h0 (Qgc3 Z q0 o2 kb a_D1 k_a_D1 a_D2 k_a_D2 h0 n0) := by
 refine MF.of (plainFor_of_name pn_7) ?_
 intro p e s m below meth c s₁ QQ hy hml hown hZ X0 e0 hrt hlk hnm hQQ
 have N0 := Fr.nil n0
 refine Ends.i #[jv q0, ss, iv 3, rv o2, uu, uu, uu, uu, uu, uu, uu] (oC X0 hy d11_0 1 rfl (oxo X0 hy d11_1 3 #[jv q0, ss, iv 3, rv o2, uu, uu, uu, iv 3, uu, uu, uu] rfl (oE X0 hy d11_3 4 rfl (oJ X0 hy d11_4 5 0 rfl (oY X0 hy d11_5 6 ?_)))))
 have hc6 : ¬ (q0 < (0 : Int64)) := (own_ge0 (by omega))
 refine oxk X0 hy d11_6 13 (XT.ll_ge_t hc6) (oG X0 hy d11_13 14 0 rfl (oxo X0 hy d11_14 16 #[jv q0, ss, iv 3, rv o2, uu, uu, uu, iv 3, iv 0, uu, uu] rfl (oD X0 hy d11_16 18 rfl (oxh X0 hy d11_18 21 (XT.i0_ne_f (by decide)) (oE X0 hy d11_21 22 rfl (oX X0 hy d11_22 23 (oxr X0 hy d11_23 24 #[jv (-q0), ss, iv 3, rv o2, uu, uu, uu, iv 3, iv 0, uu, uu] rfl (oE X0 hy d11_24 25 rfl (oJ2 X0 hy hown hZ hw d11_25 28 (-2147483648) 67 rfl ?_)))))))))
 refine oY X0 hy d11_28 29 ?_
 have hc29 : (-2147483648 : Int64) < (-q0) := (own_ng (P := 2147483648) (by decide) (by omega) (by omega))
 refine oxk X0 hy d11_29 82 (XT.ll_gt_t hc29) (oE X0 hy d11_82 83 rfl (oZ X0 hy d11_83 84 (oxo X0 hy d11_84 86 #[jv (-q0), ss, iv 3, rv o2, uu, uu, uu, iv 3, iv 0, uu, iv (-q0).toInt32] rfl ?_)))
 generalize hv10_1 : (-q0).toInt32 = x10_1
 have hI0 : x10_1.toInt = -((q0).toInt) := by rw [← hv10_1]; exact own_i0 (by omega) (by omega)
 refine oD X0 hy d11_86 88 rfl (oH X0 hy d11_88 90 (-100) rfl ?_)
 have hc90 : ¬ ((-100 : Int32) < x10_1) := (own_cont hI0 (by omega))
 refine oxi X0 hy d11_90 93 (XT.ii_gt_f hc90) (oD X0 hy d11_93 95 rfl (oH X0 hy d11_95 97 100 rfl (oR X0 hy d11_97 98 (by decide) (oxo X0 hy d11_98 100 #[jv (-q0), ss, iv 3, rv o2, uu, uu, uu, iv 3, iv 0, iv (x10_1 / (100 : Int32)), iv x10_1] rfl ?_))))
 generalize hv9_2 : (x10_1 / (100 : Int32)) = x9_2
 refine oD X0 hy d11_100 102 rfl (oH X0 hy d11_102 104 100 rfl (oM X0 hy d11_104 105 (oD X0 hy d11_105 107 rfl (oL X0 hy d11_107 108 (oxo X0 hy d11_108 110 #[jv (-q0), ss, iv 3, rv o2, uu, uu, iv ((x9_2 * (100 : Int32)) - x10_1), iv 3, iv 0, iv x9_2, iv x10_1] rfl ?_)))))
 generalize hv6_3 : ((x9_2 * (100 : Int32)) - x10_1) = x6_3
 refine oD X0 hy d11_110 112 rfl (oxo X0 hy d11_112 114 #[jv (-q0), ss, iv 3, rv o2, uu, uu, iv x6_3, iv 3, iv 0, iv x9_2, iv x9_2] rfl (oA X0 hy d11_114 115 rfl (oxz X0 hy d11_115 118 #[jv (-q0), ss, iv 3, rv o2, uu, uu, iv x6_3, iv 2, iv 0, iv x9_2, iv x9_2] (-1) rfl rfl rfl (oD X0 hy d11_118 120 rfl (gS X0 hy hown hZ hw e0 wf d11_120 123 68 rfl fun T376 X376 e376 => oD X376 hy d11_123 125 rfl ?_)))))
 have hr0_0 : (x6_3).toInt = ((q0).toInt) % 100 := by rw [← hv6_3, ← hv9_2]; exact own_r hI0 (by omega)
 refine aLB X376 hy hZ e376 wl d11_125 126 (.int (own_dg ((q0).toInt))) (own_in hr0_0) (own_oneat hr0_0) ?_
 refine aSB X376 hy hZ e376 wv d11_126 127 ⟨by decide, by decide⟩ fun T379 h379 X379 e379 W379 => ?_
 rw [own_nardg] at W379
 have wl := wl.other W379 (Ne.symm wC)
 have wf := wf.wr W379
 have wn := wn.other W379 (Ne.symm wB)
 have wg := wg.wr W379
 have wv : Arv Z h379 o2 kb .byte 3 [.int 0, .int 0, (.int (own_dg ((q0).toInt)))] (.int 0) := As wv (own_fitdg _) W379 2 rfl (Nat.le_of_ble_eq_true rfl)
 have K379 := (Keep.refl h0 [o2]).wr W379 (Or.inl mm0)
 have N379 := Fr.snoc X379 N0 wN
 refine oA X379 hy d11_127 128 rfl (oxz X379 hy d11_128 131 #[jv (-q0), ss, iv 3, rv o2, uu, uu, iv x6_3, iv 1, iv 0, iv x9_2, iv x9_2] (-1) rfl rfl rfl (oD X379 hy d11_131 133 rfl (gS X379 hy hown hZ hw e379 wg d11_133 136 218 rfl fun T380 X380 e380 => oD X380 hy d11_136 138 rfl ?_)))
 have hr0_1 : (x6_3).toInt = ((q0).toInt) % 100 := by rw [← hv6_3, ← hv9_2]; exact own_r hI0 (by omega)
 refine aLB X380 hy hZ e380 wn d11_138 139 (.int (own_dg ((q0).toInt / 10))) (own_in hr0_1) (own_tenat hr0_1) ?_
 refine aSB X380 hy hZ e380 wv d11_139 140 ⟨by decide, by decide⟩ fun T383 h383 X383 e383 W383 => ?_
 rw [own_nardg] at W383
 have wl := wl.other W383 (Ne.symm wC)
 have wf := wf.wr W383
 have wv : Arv Z h383 o2 kb .byte 3 [.int 0, (.int (own_dg ((q0).toInt / 10))), (.int (own_dg ((q0).toInt)))] (.int 0) := As wv (own_fitdg _) W383 1 rfl (Nat.le_of_ble_eq_true rfl)
 have K383 := K379.wr W383 (Or.inl mm0)
 have N383 := Fr.snoc X383 N379 wN
 refine oxm X383 hy d11_140 86 ?_
 have hI1 : x9_2.toInt = -((q0).toInt / 100) := by rw [← hv9_2]; exact own_q hI0 (by omega)
 show Ends p e below QQ (T383.setTop (mkF m 86 #[jv (-q0), ss, iv 3, rv o2, uu, uu, iv x6_3, iv 1, iv 0, iv x9_2, iv x9_2] []))
 refine oD X383 hy d11_86 88 rfl (oH X383 hy d11_88 90 (-100) rfl ?_)
 have hc90 : (-100 : Int32) < x9_2 := (own_exit hI1 (by omega))
 refine oxl X383 hy d11_90 143 (XT.ii_gt_t hc90) (oA X383 hy d11_143 144 rfl (oxz X383 hy d11_144 147 #[jv (-q0), ss, iv 3, rv o2, uu, uu, iv x6_3, iv 0, iv 0, iv x9_2, iv x9_2] (-1) rfl rfl rfl (oD X383 hy d11_147 149 rfl (gS X383 hy hown hZ hw e383 wf d11_149 152 68 rfl fun T384 X384 e384 => oD X384 hy d11_152 154 rfl (oQ X384 hy d11_154 155 ?_)))))
 have hr1_0 : ((-x9_2)).toInt = ((q0).toInt / 100) % 100 := own_nr hI1 (by omega) (by omega)
 refine aLB X384 hy hZ e384 wl d11_155 156 (.int (own_dg ((q0).toInt / 100))) (own_in hr1_0) (own_oneat hr1_0) ?_
 refine aSB X384 hy hZ e384 wv d11_156 157 ⟨by decide, by decide⟩ fun T387 h387 X387 e387 W387 => ?_
 rw [own_nardg] at W387
 have wv : Arv Z h387 o2 kb .byte 3 [(.int (own_dg ((q0).toInt / 100))), (.int (own_dg ((q0).toInt / 10))), (.int (own_dg ((q0).toInt)))] (.int 0) := As wv (own_fitdg _) W387 0 rfl (Nat.le_of_ble_eq_true rfl)
 have K387 := K383.wr W387 (Or.inl mm0)
 have N387 := Fr.snoc X387 N383 wN
 refine oD X387 hy d11_157 159 rfl (oH X387 hy d11_159 161 (-9) rfl ?_)
 have hc161 : ¬ (x9_2 < (-9 : Int32)) := (own_one hI1 (by omega))
 refine oxl X387 hy d11_161 178 (XT.ii_ge_t hc161) (oD X387 hy d11_178 180 rfl (oxk X387 hy d11_180 192 (XT.i0_eq_t (by decide)) (oD X387 hy d11_192 194 rfl ?_)))
 exact fI X387 hy hrt hlk hQQ d11_194 rfl (Or.inl rfl) e387 (by decide) ⟨rfl, N387, K387, wv⟩
def Qgc4 (Z : State) (q0 : Int64) (o2 : Addr) (kb : ClassId) (a_D1 : Addr) (k_a_D1 : ClassId) (a_D2 : Addr) (k_a_D2 : ClassId) (h0 : Heap) (n0 : Nat) : QT := fun v h L => (v = some (.int 0)) ∧ (Fr n0 L) ∧ (Keep h0 h [o2]) ∧ (Arv Z h o2 kb .byte 4 [(.int (own_dg ((q0).toInt / 100 / 10))), (.int (own_dg ((q0).toInt / 100))), (.int (own_dg ((q0).toInt / 10))), (.int (own_dg ((q0).toInt)))] (.int 0))
theorem rmgc4 (l : Launch) (Z : State) (a0 : Array Value) (hw : TW a0 Z) (ws : List Jvm.Cond) (q0 : Int64) (o2 : Addr) (kb : ClassId) (a_D1 : Addr) (k_a_D1 : ClassId) (a_D2 : Addr) (k_a_D2 : ClassId) (h0 : Heap) (n0 : Nat) (Z0 : n0 ≤ h0.size) (wv : Arv Z h0 o2 kb .byte 4 [.int 0, .int 0, .int 0, .int 0] (.int 0)) (wN : n0 ≤ o2) (wC : o2 ≠ a_D1) (wB : o2 ≠ a_D2) (wl : Arv Z h0 a_D1 k_a_D1 .byte 100 own_ones (.int 0)) (wf : sJQ Z h0 (.ref a_D1)) (wn : Arv Z h0 a_D2 k_a_D2 .byte 100 own_tens (.int 0)) (wg : sKQ Z h0 (.ref a_D2)) (g1 : (q0).toInt < 10000) (g2 : 1000 ≤ (q0).toInt) :
  MF l mN6 jdk_35_method_14_code 11 (some .int) ws (rmm 0 0 0 0) #[.long q0, .int 4, .ref o2] Z h0 (Qgc4 Z q0 o2 kb a_D1 k_a_D1 a_D2 k_a_D2 h0 n0) := by
 refine MF.of (plainFor_of_name pn_7) ?_
 intro p e s m below meth c s₁ QQ hy hml hown hZ X0 e0 hrt hlk hnm hQQ
 have N0 := Fr.nil n0
 refine Ends.i #[jv q0, ss, iv 4, rv o2, uu, uu, uu, uu, uu, uu, uu] (oC X0 hy d11_0 1 rfl (oxo X0 hy d11_1 3 #[jv q0, ss, iv 4, rv o2, uu, uu, uu, iv 4, uu, uu, uu] rfl (oE X0 hy d11_3 4 rfl (oJ X0 hy d11_4 5 0 rfl (oY X0 hy d11_5 6 ?_)))))
 have hc6 : ¬ (q0 < (0 : Int64)) := (own_ge0 (by omega))
 refine oxk X0 hy d11_6 13 (XT.ll_ge_t hc6) (oG X0 hy d11_13 14 0 rfl (oxo X0 hy d11_14 16 #[jv q0, ss, iv 4, rv o2, uu, uu, uu, iv 4, iv 0, uu, uu] rfl (oD X0 hy d11_16 18 rfl (oxh X0 hy d11_18 21 (XT.i0_ne_f (by decide)) (oE X0 hy d11_21 22 rfl (oX X0 hy d11_22 23 (oxr X0 hy d11_23 24 #[jv (-q0), ss, iv 4, rv o2, uu, uu, uu, iv 4, iv 0, uu, uu] rfl (oE X0 hy d11_24 25 rfl (oJ2 X0 hy hown hZ hw d11_25 28 (-2147483648) 67 rfl ?_)))))))))
 refine oY X0 hy d11_28 29 ?_
 have hc29 : (-2147483648 : Int64) < (-q0) := (own_ng (P := 2147483648) (by decide) (by omega) (by omega))
 refine oxk X0 hy d11_29 82 (XT.ll_gt_t hc29) (oE X0 hy d11_82 83 rfl (oZ X0 hy d11_83 84 (oxo X0 hy d11_84 86 #[jv (-q0), ss, iv 4, rv o2, uu, uu, uu, iv 4, iv 0, uu, iv (-q0).toInt32] rfl ?_)))
 generalize hv10_1 : (-q0).toInt32 = x10_1
 have hI0 : x10_1.toInt = -((q0).toInt) := by rw [← hv10_1]; exact own_i0 (by omega) (by omega)
 refine oD X0 hy d11_86 88 rfl (oH X0 hy d11_88 90 (-100) rfl ?_)
 have hc90 : ¬ ((-100 : Int32) < x10_1) := (own_cont hI0 (by omega))
 refine oxi X0 hy d11_90 93 (XT.ii_gt_f hc90) (oD X0 hy d11_93 95 rfl (oH X0 hy d11_95 97 100 rfl (oR X0 hy d11_97 98 (by decide) (oxo X0 hy d11_98 100 #[jv (-q0), ss, iv 4, rv o2, uu, uu, uu, iv 4, iv 0, iv (x10_1 / (100 : Int32)), iv x10_1] rfl ?_))))
 generalize hv9_2 : (x10_1 / (100 : Int32)) = x9_2
 refine oD X0 hy d11_100 102 rfl (oH X0 hy d11_102 104 100 rfl (oM X0 hy d11_104 105 (oD X0 hy d11_105 107 rfl (oL X0 hy d11_107 108 (oxo X0 hy d11_108 110 #[jv (-q0), ss, iv 4, rv o2, uu, uu, iv ((x9_2 * (100 : Int32)) - x10_1), iv 4, iv 0, iv x9_2, iv x10_1] rfl ?_)))))
 generalize hv6_3 : ((x9_2 * (100 : Int32)) - x10_1) = x6_3
 refine oD X0 hy d11_110 112 rfl (oxo X0 hy d11_112 114 #[jv (-q0), ss, iv 4, rv o2, uu, uu, iv x6_3, iv 4, iv 0, iv x9_2, iv x9_2] rfl (oA X0 hy d11_114 115 rfl (oxz X0 hy d11_115 118 #[jv (-q0), ss, iv 4, rv o2, uu, uu, iv x6_3, iv 3, iv 0, iv x9_2, iv x9_2] (-1) rfl rfl rfl (oD X0 hy d11_118 120 rfl (gS X0 hy hown hZ hw e0 wf d11_120 123 68 rfl fun T388 X388 e388 => oD X388 hy d11_123 125 rfl ?_)))))
 have hr0_0 : (x6_3).toInt = ((q0).toInt) % 100 := by rw [← hv6_3, ← hv9_2]; exact own_r hI0 (by omega)
 refine aLB X388 hy hZ e388 wl d11_125 126 (.int (own_dg ((q0).toInt))) (own_in hr0_0) (own_oneat hr0_0) ?_
 refine aSB X388 hy hZ e388 wv d11_126 127 ⟨by decide, by decide⟩ fun T391 h391 X391 e391 W391 => ?_
 rw [own_nardg] at W391
 have wl := wl.other W391 (Ne.symm wC)
 have wf := wf.wr W391
 have wn := wn.other W391 (Ne.symm wB)
 have wg := wg.wr W391
 have wv : Arv Z h391 o2 kb .byte 4 [.int 0, .int 0, .int 0, (.int (own_dg ((q0).toInt)))] (.int 0) := As wv (own_fitdg _) W391 3 rfl (Nat.le_of_ble_eq_true rfl)
 have K391 := (Keep.refl h0 [o2]).wr W391 (Or.inl mm0)
 have N391 := Fr.snoc X391 N0 wN
 refine oA X391 hy d11_127 128 rfl (oxz X391 hy d11_128 131 #[jv (-q0), ss, iv 4, rv o2, uu, uu, iv x6_3, iv 2, iv 0, iv x9_2, iv x9_2] (-1) rfl rfl rfl (oD X391 hy d11_131 133 rfl (gS X391 hy hown hZ hw e391 wg d11_133 136 218 rfl fun T392 X392 e392 => oD X392 hy d11_136 138 rfl ?_)))
 have hr0_1 : (x6_3).toInt = ((q0).toInt) % 100 := by rw [← hv6_3, ← hv9_2]; exact own_r hI0 (by omega)
 refine aLB X392 hy hZ e392 wn d11_138 139 (.int (own_dg ((q0).toInt / 10))) (own_in hr0_1) (own_tenat hr0_1) ?_
 refine aSB X392 hy hZ e392 wv d11_139 140 ⟨by decide, by decide⟩ fun T395 h395 X395 e395 W395 => ?_
 rw [own_nardg] at W395
 have wl := wl.other W395 (Ne.symm wC)
 have wf := wf.wr W395
 have wn := wn.other W395 (Ne.symm wB)
 have wg := wg.wr W395
 have wv : Arv Z h395 o2 kb .byte 4 [.int 0, .int 0, (.int (own_dg ((q0).toInt / 10))), (.int (own_dg ((q0).toInt)))] (.int 0) := As wv (own_fitdg _) W395 2 rfl (Nat.le_of_ble_eq_true rfl)
 have K395 := K391.wr W395 (Or.inl mm0)
 have N395 := Fr.snoc X395 N391 wN
 refine oxm X395 hy d11_140 86 ?_
 have hI1 : x9_2.toInt = -((q0).toInt / 100) := by rw [← hv9_2]; exact own_q hI0 (by omega)
 show Ends p e below QQ (T395.setTop (mkF m 86 #[jv (-q0), ss, iv 4, rv o2, uu, uu, iv x6_3, iv 2, iv 0, iv x9_2, iv x9_2] []))
 refine oD X395 hy d11_86 88 rfl (oH X395 hy d11_88 90 (-100) rfl ?_)
 have hc90 : (-100 : Int32) < x9_2 := (own_exit hI1 (by omega))
 refine oxl X395 hy d11_90 143 (XT.ii_gt_t hc90) (oA X395 hy d11_143 144 rfl (oxz X395 hy d11_144 147 #[jv (-q0), ss, iv 4, rv o2, uu, uu, iv x6_3, iv 1, iv 0, iv x9_2, iv x9_2] (-1) rfl rfl rfl (oD X395 hy d11_147 149 rfl (gS X395 hy hown hZ hw e395 wf d11_149 152 68 rfl fun T396 X396 e396 => oD X396 hy d11_152 154 rfl (oQ X396 hy d11_154 155 ?_)))))
 have hr1_0 : ((-x9_2)).toInt = ((q0).toInt / 100) % 100 := own_nr hI1 (by omega) (by omega)
 refine aLB X396 hy hZ e396 wl d11_155 156 (.int (own_dg ((q0).toInt / 100))) (own_in hr1_0) (own_oneat hr1_0) ?_
 refine aSB X396 hy hZ e396 wv d11_156 157 ⟨by decide, by decide⟩ fun T399 h399 X399 e399 W399 => ?_
 rw [own_nardg] at W399
 have wn := wn.other W399 (Ne.symm wB)
 have wg := wg.wr W399
 have wv : Arv Z h399 o2 kb .byte 4 [.int 0, (.int (own_dg ((q0).toInt / 100))), (.int (own_dg ((q0).toInt / 10))), (.int (own_dg ((q0).toInt)))] (.int 0) := As wv (own_fitdg _) W399 1 rfl (Nat.le_of_ble_eq_true rfl)
 have K399 := K395.wr W399 (Or.inl mm0)
 have N399 := Fr.snoc X399 N395 wN
 refine oD X399 hy d11_157 159 rfl (oH X399 hy d11_159 161 (-9) rfl ?_)
 have hc161 : x9_2 < (-9 : Int32) := (own_two hI1 (by omega))
 refine oxi X399 hy d11_161 164 (XT.ii_ge_f hc161) (oA X399 hy d11_164 165 rfl (oxz X399 hy d11_165 168 #[jv (-q0), ss, iv 4, rv o2, uu, uu, iv x6_3, iv 0, iv 0, iv x9_2, iv x9_2] (-1) rfl rfl rfl (oD X399 hy d11_168 170 rfl (gS X399 hy hown hZ hw e399 wg d11_170 173 218 rfl fun T400 X400 e400 => oD X400 hy d11_173 175 rfl (oQ X400 hy d11_175 176 ?_)))))
 have hr1_1 : ((-x9_2)).toInt = ((q0).toInt / 100) % 100 := own_nr hI1 (by omega) (by omega)
 refine aLB X400 hy hZ e400 wn d11_176 177 (.int (own_dg ((q0).toInt / 100 / 10))) (own_in hr1_1) (own_tenat hr1_1) ?_
 refine aSB X400 hy hZ e400 wv d11_177 178 ⟨by decide, by decide⟩ fun T403 h403 X403 e403 W403 => ?_
 rw [own_nardg] at W403
 have wv : Arv Z h403 o2 kb .byte 4 [(.int (own_dg ((q0).toInt / 100 / 10))), (.int (own_dg ((q0).toInt / 100))), (.int (own_dg ((q0).toInt / 10))), (.int (own_dg ((q0).toInt)))] (.int 0) := As wv (own_fitdg _) W403 0 rfl (Nat.le_of_ble_eq_true rfl)
 have K403 := K399.wr W403 (Or.inl mm0)
 have N403 := Fr.snoc X403 N399 wN
 refine oD X403 hy d11_178 180 rfl (oxk X403 hy d11_180 192 (XT.i0_eq_t (by decide)) (oD X403 hy d11_192 194 rfl ?_))
 exact fI X403 hy hrt hlk hQQ d11_194 rfl (Or.inl rfl) e403 (by decide) ⟨rfl, N403, K403, wv⟩
def Qgc5 (Z : State) (q0 : Int64) (o2 : Addr) (kb : ClassId) (a_D1 : Addr) (k_a_D1 : ClassId) (a_D2 : Addr) (k_a_D2 : ClassId) (h0 : Heap) (n0 : Nat) : QT := fun v h L => (v = some (.int 0)) ∧ (Fr n0 L) ∧ (Keep h0 h [o2]) ∧ (Arv Z h o2 kb .byte 5 [(.int (own_dg ((q0).toInt / 100 / 100))), (.int (own_dg ((q0).toInt / 100 / 10))), (.int (own_dg ((q0).toInt / 100))), (.int (own_dg ((q0).toInt / 10))), (.int (own_dg ((q0).toInt)))] (.int 0))
theorem rmgc5 (l : Launch) (Z : State) (a0 : Array Value) (hw : TW a0 Z) (ws : List Jvm.Cond) (q0 : Int64) (o2 : Addr) (kb : ClassId) (a_D1 : Addr) (k_a_D1 : ClassId) (a_D2 : Addr) (k_a_D2 : ClassId) (h0 : Heap) (n0 : Nat) (Z0 : n0 ≤ h0.size) (wv : Arv Z h0 o2 kb .byte 5 [.int 0, .int 0, .int 0, .int 0, .int 0] (.int 0)) (wN : n0 ≤ o2) (wC : o2 ≠ a_D1) (wB : o2 ≠ a_D2) (wl : Arv Z h0 a_D1 k_a_D1 .byte 100 own_ones (.int 0)) (wf : sJQ Z h0 (.ref a_D1)) (wn : Arv Z h0 a_D2 k_a_D2 .byte 100 own_tens (.int 0)) (wg : sKQ Z h0 (.ref a_D2)) (g1 : (q0).toInt < 100000) (g2 : 10000 ≤ (q0).toInt) :
  MF l mN6 jdk_35_method_14_code 11 (some .int) ws (rmm 0 0 0 0) #[.long q0, .int 5, .ref o2] Z h0 (Qgc5 Z q0 o2 kb a_D1 k_a_D1 a_D2 k_a_D2 h0 n0) := by
 refine MF.of (plainFor_of_name pn_7) ?_
 intro p e s m below meth c s₁ QQ hy hml hown hZ X0 e0 hrt hlk hnm hQQ
 have N0 := Fr.nil n0
 refine Ends.i #[jv q0, ss, iv 5, rv o2, uu, uu, uu, uu, uu, uu, uu] (oC X0 hy d11_0 1 rfl (oxo X0 hy d11_1 3 #[jv q0, ss, iv 5, rv o2, uu, uu, uu, iv 5, uu, uu, uu] rfl (oE X0 hy d11_3 4 rfl (oJ X0 hy d11_4 5 0 rfl (oY X0 hy d11_5 6 ?_)))))
 have hc6 : ¬ (q0 < (0 : Int64)) := (own_ge0 (by omega))
 refine oxk X0 hy d11_6 13 (XT.ll_ge_t hc6) (oG X0 hy d11_13 14 0 rfl (oxo X0 hy d11_14 16 #[jv q0, ss, iv 5, rv o2, uu, uu, uu, iv 5, iv 0, uu, uu] rfl (oD X0 hy d11_16 18 rfl (oxh X0 hy d11_18 21 (XT.i0_ne_f (by decide)) (oE X0 hy d11_21 22 rfl (oX X0 hy d11_22 23 (oxr X0 hy d11_23 24 #[jv (-q0), ss, iv 5, rv o2, uu, uu, uu, iv 5, iv 0, uu, uu] rfl (oE X0 hy d11_24 25 rfl (oJ2 X0 hy hown hZ hw d11_25 28 (-2147483648) 67 rfl ?_)))))))))
 refine oY X0 hy d11_28 29 ?_
 have hc29 : (-2147483648 : Int64) < (-q0) := (own_ng (P := 2147483648) (by decide) (by omega) (by omega))
 refine oxk X0 hy d11_29 82 (XT.ll_gt_t hc29) (oE X0 hy d11_82 83 rfl (oZ X0 hy d11_83 84 (oxo X0 hy d11_84 86 #[jv (-q0), ss, iv 5, rv o2, uu, uu, uu, iv 5, iv 0, uu, iv (-q0).toInt32] rfl ?_)))
 generalize hv10_1 : (-q0).toInt32 = x10_1
 have hI0 : x10_1.toInt = -((q0).toInt) := by rw [← hv10_1]; exact own_i0 (by omega) (by omega)
 refine oD X0 hy d11_86 88 rfl (oH X0 hy d11_88 90 (-100) rfl ?_)
 have hc90 : ¬ ((-100 : Int32) < x10_1) := (own_cont hI0 (by omega))
 refine oxi X0 hy d11_90 93 (XT.ii_gt_f hc90) (oD X0 hy d11_93 95 rfl (oH X0 hy d11_95 97 100 rfl (oR X0 hy d11_97 98 (by decide) (oxo X0 hy d11_98 100 #[jv (-q0), ss, iv 5, rv o2, uu, uu, uu, iv 5, iv 0, iv (x10_1 / (100 : Int32)), iv x10_1] rfl ?_))))
 generalize hv9_2 : (x10_1 / (100 : Int32)) = x9_2
 refine oD X0 hy d11_100 102 rfl (oH X0 hy d11_102 104 100 rfl (oM X0 hy d11_104 105 (oD X0 hy d11_105 107 rfl (oL X0 hy d11_107 108 (oxo X0 hy d11_108 110 #[jv (-q0), ss, iv 5, rv o2, uu, uu, iv ((x9_2 * (100 : Int32)) - x10_1), iv 5, iv 0, iv x9_2, iv x10_1] rfl ?_)))))
 generalize hv6_3 : ((x9_2 * (100 : Int32)) - x10_1) = x6_3
 refine oD X0 hy d11_110 112 rfl (oxo X0 hy d11_112 114 #[jv (-q0), ss, iv 5, rv o2, uu, uu, iv x6_3, iv 5, iv 0, iv x9_2, iv x9_2] rfl (oA X0 hy d11_114 115 rfl (oxz X0 hy d11_115 118 #[jv (-q0), ss, iv 5, rv o2, uu, uu, iv x6_3, iv 4, iv 0, iv x9_2, iv x9_2] (-1) rfl rfl rfl (oD X0 hy d11_118 120 rfl (gS X0 hy hown hZ hw e0 wf d11_120 123 68 rfl fun T404 X404 e404 => oD X404 hy d11_123 125 rfl ?_)))))
 have hr0_0 : (x6_3).toInt = ((q0).toInt) % 100 := by rw [← hv6_3, ← hv9_2]; exact own_r hI0 (by omega)
 refine aLB X404 hy hZ e404 wl d11_125 126 (.int (own_dg ((q0).toInt))) (own_in hr0_0) (own_oneat hr0_0) ?_
 refine aSB X404 hy hZ e404 wv d11_126 127 ⟨by decide, by decide⟩ fun T407 h407 X407 e407 W407 => ?_
 rw [own_nardg] at W407
 have wl := wl.other W407 (Ne.symm wC)
 have wf := wf.wr W407
 have wn := wn.other W407 (Ne.symm wB)
 have wg := wg.wr W407
 have wv : Arv Z h407 o2 kb .byte 5 [.int 0, .int 0, .int 0, .int 0, (.int (own_dg ((q0).toInt)))] (.int 0) := As wv (own_fitdg _) W407 4 rfl (Nat.le_of_ble_eq_true rfl)
 have K407 := (Keep.refl h0 [o2]).wr W407 (Or.inl mm0)
 have N407 := Fr.snoc X407 N0 wN
 refine oA X407 hy d11_127 128 rfl (oxz X407 hy d11_128 131 #[jv (-q0), ss, iv 5, rv o2, uu, uu, iv x6_3, iv 3, iv 0, iv x9_2, iv x9_2] (-1) rfl rfl rfl (oD X407 hy d11_131 133 rfl (gS X407 hy hown hZ hw e407 wg d11_133 136 218 rfl fun T408 X408 e408 => oD X408 hy d11_136 138 rfl ?_)))
 have hr0_1 : (x6_3).toInt = ((q0).toInt) % 100 := by rw [← hv6_3, ← hv9_2]; exact own_r hI0 (by omega)
 refine aLB X408 hy hZ e408 wn d11_138 139 (.int (own_dg ((q0).toInt / 10))) (own_in hr0_1) (own_tenat hr0_1) ?_
 refine aSB X408 hy hZ e408 wv d11_139 140 ⟨by decide, by decide⟩ fun T411 h411 X411 e411 W411 => ?_
 rw [own_nardg] at W411
 have wl := wl.other W411 (Ne.symm wC)
 have wf := wf.wr W411
 have wn := wn.other W411 (Ne.symm wB)
 have wg := wg.wr W411
 have wv : Arv Z h411 o2 kb .byte 5 [.int 0, .int 0, .int 0, (.int (own_dg ((q0).toInt / 10))), (.int (own_dg ((q0).toInt)))] (.int 0) := As wv (own_fitdg _) W411 3 rfl (Nat.le_of_ble_eq_true rfl)
 have K411 := K407.wr W411 (Or.inl mm0)
 have N411 := Fr.snoc X411 N407 wN
 refine oxm X411 hy d11_140 86 ?_
 have hI1 : x9_2.toInt = -((q0).toInt / 100) := by rw [← hv9_2]; exact own_q hI0 (by omega)
 show Ends p e below QQ (T411.setTop (mkF m 86 #[jv (-q0), ss, iv 5, rv o2, uu, uu, iv x6_3, iv 3, iv 0, iv x9_2, iv x9_2] []))
 refine oD X411 hy d11_86 88 rfl (oH X411 hy d11_88 90 (-100) rfl ?_)
 have hc90 : ¬ ((-100 : Int32) < x9_2) := (own_cont hI1 (by omega))
 refine oxi X411 hy d11_90 93 (XT.ii_gt_f hc90) (oD X411 hy d11_93 95 rfl (oH X411 hy d11_95 97 100 rfl (oR X411 hy d11_97 98 (by decide) (oxo X411 hy d11_98 100 #[jv (-q0), ss, iv 5, rv o2, uu, uu, iv x6_3, iv 3, iv 0, iv (x9_2 / (100 : Int32)), iv x9_2] rfl ?_))))
 generalize hv9_4 : (x9_2 / (100 : Int32)) = x9_4
 refine oD X411 hy d11_100 102 rfl (oH X411 hy d11_102 104 100 rfl (oM X411 hy d11_104 105 (oD X411 hy d11_105 107 rfl (oL X411 hy d11_107 108 (oxo X411 hy d11_108 110 #[jv (-q0), ss, iv 5, rv o2, uu, uu, iv ((x9_4 * (100 : Int32)) - x9_2), iv 3, iv 0, iv x9_4, iv x9_2] rfl ?_)))))
 generalize hv6_5 : ((x9_4 * (100 : Int32)) - x9_2) = x6_5
 refine oD X411 hy d11_110 112 rfl (oxo X411 hy d11_112 114 #[jv (-q0), ss, iv 5, rv o2, uu, uu, iv x6_5, iv 3, iv 0, iv x9_4, iv x9_4] rfl (oA X411 hy d11_114 115 rfl (oxz X411 hy d11_115 118 #[jv (-q0), ss, iv 5, rv o2, uu, uu, iv x6_5, iv 2, iv 0, iv x9_4, iv x9_4] (-1) rfl rfl rfl (oD X411 hy d11_118 120 rfl (gS X411 hy hown hZ hw e411 wf d11_120 123 68 rfl fun T412 X412 e412 => oD X412 hy d11_123 125 rfl ?_)))))
 have hr1_0 : (x6_5).toInt = ((q0).toInt / 100) % 100 := by rw [← hv6_5, ← hv9_4]; exact own_r hI1 (by omega)
 refine aLB X412 hy hZ e412 wl d11_125 126 (.int (own_dg ((q0).toInt / 100))) (own_in hr1_0) (own_oneat hr1_0) ?_
 refine aSB X412 hy hZ e412 wv d11_126 127 ⟨by decide, by decide⟩ fun T415 h415 X415 e415 W415 => ?_
 rw [own_nardg] at W415
 have wl := wl.other W415 (Ne.symm wC)
 have wf := wf.wr W415
 have wn := wn.other W415 (Ne.symm wB)
 have wg := wg.wr W415
 have wv : Arv Z h415 o2 kb .byte 5 [.int 0, .int 0, (.int (own_dg ((q0).toInt / 100))), (.int (own_dg ((q0).toInt / 10))), (.int (own_dg ((q0).toInt)))] (.int 0) := As wv (own_fitdg _) W415 2 rfl (Nat.le_of_ble_eq_true rfl)
 have K415 := K411.wr W415 (Or.inl mm0)
 have N415 := Fr.snoc X415 N411 wN
 refine oA X415 hy d11_127 128 rfl (oxz X415 hy d11_128 131 #[jv (-q0), ss, iv 5, rv o2, uu, uu, iv x6_5, iv 1, iv 0, iv x9_4, iv x9_4] (-1) rfl rfl rfl (oD X415 hy d11_131 133 rfl (gS X415 hy hown hZ hw e415 wg d11_133 136 218 rfl fun T416 X416 e416 => oD X416 hy d11_136 138 rfl ?_)))
 have hr1_1 : (x6_5).toInt = ((q0).toInt / 100) % 100 := by rw [← hv6_5, ← hv9_4]; exact own_r hI1 (by omega)
 refine aLB X416 hy hZ e416 wn d11_138 139 (.int (own_dg ((q0).toInt / 100 / 10))) (own_in hr1_1) (own_tenat hr1_1) ?_
 refine aSB X416 hy hZ e416 wv d11_139 140 ⟨by decide, by decide⟩ fun T419 h419 X419 e419 W419 => ?_
 rw [own_nardg] at W419
 have wl := wl.other W419 (Ne.symm wC)
 have wf := wf.wr W419
 have wv : Arv Z h419 o2 kb .byte 5 [.int 0, (.int (own_dg ((q0).toInt / 100 / 10))), (.int (own_dg ((q0).toInt / 100))), (.int (own_dg ((q0).toInt / 10))), (.int (own_dg ((q0).toInt)))] (.int 0) := As wv (own_fitdg _) W419 1 rfl (Nat.le_of_ble_eq_true rfl)
 have K419 := K415.wr W419 (Or.inl mm0)
 have N419 := Fr.snoc X419 N415 wN
 refine oxm X419 hy d11_140 86 ?_
 have hI2 : x9_4.toInt = -((q0).toInt / 100 / 100) := by rw [← hv9_4]; exact own_q hI1 (by omega)
 show Ends p e below QQ (T419.setTop (mkF m 86 #[jv (-q0), ss, iv 5, rv o2, uu, uu, iv x6_5, iv 1, iv 0, iv x9_4, iv x9_4] []))
 refine oD X419 hy d11_86 88 rfl (oH X419 hy d11_88 90 (-100) rfl ?_)
 have hc90 : (-100 : Int32) < x9_4 := (own_exit hI2 (by omega))
 refine oxl X419 hy d11_90 143 (XT.ii_gt_t hc90) (oA X419 hy d11_143 144 rfl (oxz X419 hy d11_144 147 #[jv (-q0), ss, iv 5, rv o2, uu, uu, iv x6_5, iv 0, iv 0, iv x9_4, iv x9_4] (-1) rfl rfl rfl (oD X419 hy d11_147 149 rfl (gS X419 hy hown hZ hw e419 wf d11_149 152 68 rfl fun T420 X420 e420 => oD X420 hy d11_152 154 rfl (oQ X420 hy d11_154 155 ?_)))))
 have hr2_0 : ((-x9_4)).toInt = ((q0).toInt / 100 / 100) % 100 := own_nr hI2 (by omega) (by omega)
 refine aLB X420 hy hZ e420 wl d11_155 156 (.int (own_dg ((q0).toInt / 100 / 100))) (own_in hr2_0) (own_oneat hr2_0) ?_
 refine aSB X420 hy hZ e420 wv d11_156 157 ⟨by decide, by decide⟩ fun T423 h423 X423 e423 W423 => ?_
 rw [own_nardg] at W423
 have wv : Arv Z h423 o2 kb .byte 5 [(.int (own_dg ((q0).toInt / 100 / 100))), (.int (own_dg ((q0).toInt / 100 / 10))), (.int (own_dg ((q0).toInt / 100))), (.int (own_dg ((q0).toInt / 10))), (.int (own_dg ((q0).toInt)))] (.int 0) := As wv (own_fitdg _) W423 0 rfl (Nat.le_of_ble_eq_true rfl)
 have K423 := K419.wr W423 (Or.inl mm0)
 have N423 := Fr.snoc X423 N419 wN
 refine oD X423 hy d11_157 159 rfl (oH X423 hy d11_159 161 (-9) rfl ?_)
 have hc161 : ¬ (x9_4 < (-9 : Int32)) := (own_one hI2 (by omega))
 refine oxl X423 hy d11_161 178 (XT.ii_ge_t hc161) (oD X423 hy d11_178 180 rfl (oxk X423 hy d11_180 192 (XT.i0_eq_t (by decide)) (oD X423 hy d11_192 194 rfl ?_)))
 exact fI X423 hy hrt hlk hQQ d11_194 rfl (Or.inl rfl) e423 (by decide) ⟨rfl, N423, K423, wv⟩
def Qgc6 (Z : State) (q0 : Int64) (o2 : Addr) (kb : ClassId) (a_D1 : Addr) (k_a_D1 : ClassId) (a_D2 : Addr) (k_a_D2 : ClassId) (h0 : Heap) (n0 : Nat) : QT := fun v h L => (v = some (.int 0)) ∧ (Fr n0 L) ∧ (Keep h0 h [o2]) ∧ (Arv Z h o2 kb .byte 6 [(.int (own_dg ((q0).toInt / 100 / 100 / 10))), (.int (own_dg ((q0).toInt / 100 / 100))), (.int (own_dg ((q0).toInt / 100 / 10))), (.int (own_dg ((q0).toInt / 100))), (.int (own_dg ((q0).toInt / 10))), (.int (own_dg ((q0).toInt)))] (.int 0))
theorem rmgc6 (l : Launch) (Z : State) (a0 : Array Value) (hw : TW a0 Z) (ws : List Jvm.Cond) (q0 : Int64) (o2 : Addr) (kb : ClassId) (a_D1 : Addr) (k_a_D1 : ClassId) (a_D2 : Addr) (k_a_D2 : ClassId) (h0 : Heap) (n0 : Nat) (Z0 : n0 ≤ h0.size) (wv : Arv Z h0 o2 kb .byte 6 [.int 0, .int 0, .int 0, .int 0, .int 0, .int 0] (.int 0)) (wN : n0 ≤ o2) (wC : o2 ≠ a_D1) (wB : o2 ≠ a_D2) (wl : Arv Z h0 a_D1 k_a_D1 .byte 100 own_ones (.int 0)) (wf : sJQ Z h0 (.ref a_D1)) (wn : Arv Z h0 a_D2 k_a_D2 .byte 100 own_tens (.int 0)) (wg : sKQ Z h0 (.ref a_D2)) (g1 : (q0).toInt < 1000000) (g2 : 100000 ≤ (q0).toInt) :
  MF l mN6 jdk_35_method_14_code 11 (some .int) ws (rmm 0 0 0 0) #[.long q0, .int 6, .ref o2] Z h0 (Qgc6 Z q0 o2 kb a_D1 k_a_D1 a_D2 k_a_D2 h0 n0) := by
 refine MF.of (plainFor_of_name pn_7) ?_
 intro p e s m below meth c s₁ QQ hy hml hown hZ X0 e0 hrt hlk hnm hQQ
 have N0 := Fr.nil n0
 refine Ends.i #[jv q0, ss, iv 6, rv o2, uu, uu, uu, uu, uu, uu, uu] (oC X0 hy d11_0 1 rfl (oxo X0 hy d11_1 3 #[jv q0, ss, iv 6, rv o2, uu, uu, uu, iv 6, uu, uu, uu] rfl (oE X0 hy d11_3 4 rfl (oJ X0 hy d11_4 5 0 rfl (oY X0 hy d11_5 6 ?_)))))
 have hc6 : ¬ (q0 < (0 : Int64)) := (own_ge0 (by omega))
 refine oxk X0 hy d11_6 13 (XT.ll_ge_t hc6) (oG X0 hy d11_13 14 0 rfl (oxo X0 hy d11_14 16 #[jv q0, ss, iv 6, rv o2, uu, uu, uu, iv 6, iv 0, uu, uu] rfl (oD X0 hy d11_16 18 rfl (oxh X0 hy d11_18 21 (XT.i0_ne_f (by decide)) (oE X0 hy d11_21 22 rfl (oX X0 hy d11_22 23 (oxr X0 hy d11_23 24 #[jv (-q0), ss, iv 6, rv o2, uu, uu, uu, iv 6, iv 0, uu, uu] rfl (oE X0 hy d11_24 25 rfl (oJ2 X0 hy hown hZ hw d11_25 28 (-2147483648) 67 rfl ?_)))))))))
 refine oY X0 hy d11_28 29 ?_
 have hc29 : (-2147483648 : Int64) < (-q0) := (own_ng (P := 2147483648) (by decide) (by omega) (by omega))
 refine oxk X0 hy d11_29 82 (XT.ll_gt_t hc29) (oE X0 hy d11_82 83 rfl (oZ X0 hy d11_83 84 (oxo X0 hy d11_84 86 #[jv (-q0), ss, iv 6, rv o2, uu, uu, uu, iv 6, iv 0, uu, iv (-q0).toInt32] rfl ?_)))
 generalize hv10_1 : (-q0).toInt32 = x10_1
 have hI0 : x10_1.toInt = -((q0).toInt) := by rw [← hv10_1]; exact own_i0 (by omega) (by omega)
 refine oD X0 hy d11_86 88 rfl (oH X0 hy d11_88 90 (-100) rfl ?_)
 have hc90 : ¬ ((-100 : Int32) < x10_1) := (own_cont hI0 (by omega))
 refine oxi X0 hy d11_90 93 (XT.ii_gt_f hc90) (oD X0 hy d11_93 95 rfl (oH X0 hy d11_95 97 100 rfl (oR X0 hy d11_97 98 (by decide) (oxo X0 hy d11_98 100 #[jv (-q0), ss, iv 6, rv o2, uu, uu, uu, iv 6, iv 0, iv (x10_1 / (100 : Int32)), iv x10_1] rfl ?_))))
 generalize hv9_2 : (x10_1 / (100 : Int32)) = x9_2
 refine oD X0 hy d11_100 102 rfl (oH X0 hy d11_102 104 100 rfl (oM X0 hy d11_104 105 (oD X0 hy d11_105 107 rfl (oL X0 hy d11_107 108 (oxo X0 hy d11_108 110 #[jv (-q0), ss, iv 6, rv o2, uu, uu, iv ((x9_2 * (100 : Int32)) - x10_1), iv 6, iv 0, iv x9_2, iv x10_1] rfl ?_)))))
 generalize hv6_3 : ((x9_2 * (100 : Int32)) - x10_1) = x6_3
 refine oD X0 hy d11_110 112 rfl (oxo X0 hy d11_112 114 #[jv (-q0), ss, iv 6, rv o2, uu, uu, iv x6_3, iv 6, iv 0, iv x9_2, iv x9_2] rfl (oA X0 hy d11_114 115 rfl (oxz X0 hy d11_115 118 #[jv (-q0), ss, iv 6, rv o2, uu, uu, iv x6_3, iv 5, iv 0, iv x9_2, iv x9_2] (-1) rfl rfl rfl (oD X0 hy d11_118 120 rfl (gS X0 hy hown hZ hw e0 wf d11_120 123 68 rfl fun T424 X424 e424 => oD X424 hy d11_123 125 rfl ?_)))))
 have hr0_0 : (x6_3).toInt = ((q0).toInt) % 100 := by rw [← hv6_3, ← hv9_2]; exact own_r hI0 (by omega)
 refine aLB X424 hy hZ e424 wl d11_125 126 (.int (own_dg ((q0).toInt))) (own_in hr0_0) (own_oneat hr0_0) ?_
 refine aSB X424 hy hZ e424 wv d11_126 127 ⟨by decide, by decide⟩ fun T427 h427 X427 e427 W427 => ?_
 rw [own_nardg] at W427
 have wl := wl.other W427 (Ne.symm wC)
 have wf := wf.wr W427
 have wn := wn.other W427 (Ne.symm wB)
 have wg := wg.wr W427
 have wv : Arv Z h427 o2 kb .byte 6 [.int 0, .int 0, .int 0, .int 0, .int 0, (.int (own_dg ((q0).toInt)))] (.int 0) := As wv (own_fitdg _) W427 5 rfl (Nat.le_of_ble_eq_true rfl)
 have K427 := (Keep.refl h0 [o2]).wr W427 (Or.inl mm0)
 have N427 := Fr.snoc X427 N0 wN
 refine oA X427 hy d11_127 128 rfl (oxz X427 hy d11_128 131 #[jv (-q0), ss, iv 6, rv o2, uu, uu, iv x6_3, iv 4, iv 0, iv x9_2, iv x9_2] (-1) rfl rfl rfl (oD X427 hy d11_131 133 rfl (gS X427 hy hown hZ hw e427 wg d11_133 136 218 rfl fun T428 X428 e428 => oD X428 hy d11_136 138 rfl ?_)))
 have hr0_1 : (x6_3).toInt = ((q0).toInt) % 100 := by rw [← hv6_3, ← hv9_2]; exact own_r hI0 (by omega)
 refine aLB X428 hy hZ e428 wn d11_138 139 (.int (own_dg ((q0).toInt / 10))) (own_in hr0_1) (own_tenat hr0_1) ?_
 refine aSB X428 hy hZ e428 wv d11_139 140 ⟨by decide, by decide⟩ fun T431 h431 X431 e431 W431 => ?_
 rw [own_nardg] at W431
 have wl := wl.other W431 (Ne.symm wC)
 have wf := wf.wr W431
 have wn := wn.other W431 (Ne.symm wB)
 have wg := wg.wr W431
 have wv : Arv Z h431 o2 kb .byte 6 [.int 0, .int 0, .int 0, .int 0, (.int (own_dg ((q0).toInt / 10))), (.int (own_dg ((q0).toInt)))] (.int 0) := As wv (own_fitdg _) W431 4 rfl (Nat.le_of_ble_eq_true rfl)
 have K431 := K427.wr W431 (Or.inl mm0)
 have N431 := Fr.snoc X431 N427 wN
 refine oxm X431 hy d11_140 86 ?_
 have hI1 : x9_2.toInt = -((q0).toInt / 100) := by rw [← hv9_2]; exact own_q hI0 (by omega)
 show Ends p e below QQ (T431.setTop (mkF m 86 #[jv (-q0), ss, iv 6, rv o2, uu, uu, iv x6_3, iv 4, iv 0, iv x9_2, iv x9_2] []))
 refine oD X431 hy d11_86 88 rfl (oH X431 hy d11_88 90 (-100) rfl ?_)
 have hc90 : ¬ ((-100 : Int32) < x9_2) := (own_cont hI1 (by omega))
 refine oxi X431 hy d11_90 93 (XT.ii_gt_f hc90) (oD X431 hy d11_93 95 rfl (oH X431 hy d11_95 97 100 rfl (oR X431 hy d11_97 98 (by decide) (oxo X431 hy d11_98 100 #[jv (-q0), ss, iv 6, rv o2, uu, uu, iv x6_3, iv 4, iv 0, iv (x9_2 / (100 : Int32)), iv x9_2] rfl ?_))))
 generalize hv9_4 : (x9_2 / (100 : Int32)) = x9_4
 refine oD X431 hy d11_100 102 rfl (oH X431 hy d11_102 104 100 rfl (oM X431 hy d11_104 105 (oD X431 hy d11_105 107 rfl (oL X431 hy d11_107 108 (oxo X431 hy d11_108 110 #[jv (-q0), ss, iv 6, rv o2, uu, uu, iv ((x9_4 * (100 : Int32)) - x9_2), iv 4, iv 0, iv x9_4, iv x9_2] rfl ?_)))))
 generalize hv6_5 : ((x9_4 * (100 : Int32)) - x9_2) = x6_5
 refine oD X431 hy d11_110 112 rfl (oxo X431 hy d11_112 114 #[jv (-q0), ss, iv 6, rv o2, uu, uu, iv x6_5, iv 4, iv 0, iv x9_4, iv x9_4] rfl (oA X431 hy d11_114 115 rfl (oxz X431 hy d11_115 118 #[jv (-q0), ss, iv 6, rv o2, uu, uu, iv x6_5, iv 3, iv 0, iv x9_4, iv x9_4] (-1) rfl rfl rfl (oD X431 hy d11_118 120 rfl (gS X431 hy hown hZ hw e431 wf d11_120 123 68 rfl fun T432 X432 e432 => oD X432 hy d11_123 125 rfl ?_)))))
 have hr1_0 : (x6_5).toInt = ((q0).toInt / 100) % 100 := by rw [← hv6_5, ← hv9_4]; exact own_r hI1 (by omega)
 refine aLB X432 hy hZ e432 wl d11_125 126 (.int (own_dg ((q0).toInt / 100))) (own_in hr1_0) (own_oneat hr1_0) ?_
 refine aSB X432 hy hZ e432 wv d11_126 127 ⟨by decide, by decide⟩ fun T435 h435 X435 e435 W435 => ?_
 rw [own_nardg] at W435
 have wl := wl.other W435 (Ne.symm wC)
 have wf := wf.wr W435
 have wn := wn.other W435 (Ne.symm wB)
 have wg := wg.wr W435
 have wv : Arv Z h435 o2 kb .byte 6 [.int 0, .int 0, .int 0, (.int (own_dg ((q0).toInt / 100))), (.int (own_dg ((q0).toInt / 10))), (.int (own_dg ((q0).toInt)))] (.int 0) := As wv (own_fitdg _) W435 3 rfl (Nat.le_of_ble_eq_true rfl)
 have K435 := K431.wr W435 (Or.inl mm0)
 have N435 := Fr.snoc X435 N431 wN
 refine oA X435 hy d11_127 128 rfl (oxz X435 hy d11_128 131 #[jv (-q0), ss, iv 6, rv o2, uu, uu, iv x6_5, iv 2, iv 0, iv x9_4, iv x9_4] (-1) rfl rfl rfl (oD X435 hy d11_131 133 rfl (gS X435 hy hown hZ hw e435 wg d11_133 136 218 rfl fun T436 X436 e436 => oD X436 hy d11_136 138 rfl ?_)))
 have hr1_1 : (x6_5).toInt = ((q0).toInt / 100) % 100 := by rw [← hv6_5, ← hv9_4]; exact own_r hI1 (by omega)
 refine aLB X436 hy hZ e436 wn d11_138 139 (.int (own_dg ((q0).toInt / 100 / 10))) (own_in hr1_1) (own_tenat hr1_1) ?_
 refine aSB X436 hy hZ e436 wv d11_139 140 ⟨by decide, by decide⟩ fun T439 h439 X439 e439 W439 => ?_
 rw [own_nardg] at W439
 have wl := wl.other W439 (Ne.symm wC)
 have wf := wf.wr W439
 have wn := wn.other W439 (Ne.symm wB)
 have wg := wg.wr W439
 have wv : Arv Z h439 o2 kb .byte 6 [.int 0, .int 0, (.int (own_dg ((q0).toInt / 100 / 10))), (.int (own_dg ((q0).toInt / 100))), (.int (own_dg ((q0).toInt / 10))), (.int (own_dg ((q0).toInt)))] (.int 0) := As wv (own_fitdg _) W439 2 rfl (Nat.le_of_ble_eq_true rfl)
 have K439 := K435.wr W439 (Or.inl mm0)
 have N439 := Fr.snoc X439 N435 wN
 refine oxm X439 hy d11_140 86 ?_
 have hI2 : x9_4.toInt = -((q0).toInt / 100 / 100) := by rw [← hv9_4]; exact own_q hI1 (by omega)
 show Ends p e below QQ (T439.setTop (mkF m 86 #[jv (-q0), ss, iv 6, rv o2, uu, uu, iv x6_5, iv 2, iv 0, iv x9_4, iv x9_4] []))
 refine oD X439 hy d11_86 88 rfl (oH X439 hy d11_88 90 (-100) rfl ?_)
 have hc90 : (-100 : Int32) < x9_4 := (own_exit hI2 (by omega))
 refine oxl X439 hy d11_90 143 (XT.ii_gt_t hc90) (oA X439 hy d11_143 144 rfl (oxz X439 hy d11_144 147 #[jv (-q0), ss, iv 6, rv o2, uu, uu, iv x6_5, iv 1, iv 0, iv x9_4, iv x9_4] (-1) rfl rfl rfl (oD X439 hy d11_147 149 rfl (gS X439 hy hown hZ hw e439 wf d11_149 152 68 rfl fun T440 X440 e440 => oD X440 hy d11_152 154 rfl (oQ X440 hy d11_154 155 ?_)))))
 have hr2_0 : ((-x9_4)).toInt = ((q0).toInt / 100 / 100) % 100 := own_nr hI2 (by omega) (by omega)
 refine aLB X440 hy hZ e440 wl d11_155 156 (.int (own_dg ((q0).toInt / 100 / 100))) (own_in hr2_0) (own_oneat hr2_0) ?_
 refine aSB X440 hy hZ e440 wv d11_156 157 ⟨by decide, by decide⟩ fun T443 h443 X443 e443 W443 => ?_
 rw [own_nardg] at W443
 have wn := wn.other W443 (Ne.symm wB)
 have wg := wg.wr W443
 have wv : Arv Z h443 o2 kb .byte 6 [.int 0, (.int (own_dg ((q0).toInt / 100 / 100))), (.int (own_dg ((q0).toInt / 100 / 10))), (.int (own_dg ((q0).toInt / 100))), (.int (own_dg ((q0).toInt / 10))), (.int (own_dg ((q0).toInt)))] (.int 0) := As wv (own_fitdg _) W443 1 rfl (Nat.le_of_ble_eq_true rfl)
 have K443 := K439.wr W443 (Or.inl mm0)
 have N443 := Fr.snoc X443 N439 wN
 refine oD X443 hy d11_157 159 rfl (oH X443 hy d11_159 161 (-9) rfl ?_)
 have hc161 : x9_4 < (-9 : Int32) := (own_two hI2 (by omega))
 refine oxi X443 hy d11_161 164 (XT.ii_ge_f hc161) (oA X443 hy d11_164 165 rfl (oxz X443 hy d11_165 168 #[jv (-q0), ss, iv 6, rv o2, uu, uu, iv x6_5, iv 0, iv 0, iv x9_4, iv x9_4] (-1) rfl rfl rfl (oD X443 hy d11_168 170 rfl (gS X443 hy hown hZ hw e443 wg d11_170 173 218 rfl fun T444 X444 e444 => oD X444 hy d11_173 175 rfl (oQ X444 hy d11_175 176 ?_)))))
 have hr2_1 : ((-x9_4)).toInt = ((q0).toInt / 100 / 100) % 100 := own_nr hI2 (by omega) (by omega)
 refine aLB X444 hy hZ e444 wn d11_176 177 (.int (own_dg ((q0).toInt / 100 / 100 / 10))) (own_in hr2_1) (own_tenat hr2_1) ?_
 refine aSB X444 hy hZ e444 wv d11_177 178 ⟨by decide, by decide⟩ fun T447 h447 X447 e447 W447 => ?_
 rw [own_nardg] at W447
 have wv : Arv Z h447 o2 kb .byte 6 [(.int (own_dg ((q0).toInt / 100 / 100 / 10))), (.int (own_dg ((q0).toInt / 100 / 100))), (.int (own_dg ((q0).toInt / 100 / 10))), (.int (own_dg ((q0).toInt / 100))), (.int (own_dg ((q0).toInt / 10))), (.int (own_dg ((q0).toInt)))] (.int 0) := As wv (own_fitdg _) W447 0 rfl (Nat.le_of_ble_eq_true rfl)
 have K447 := K443.wr W447 (Or.inl mm0)
 have N447 := Fr.snoc X447 N443 wN
 refine oD X447 hy d11_178 180 rfl (oxk X447 hy d11_180 192 (XT.i0_eq_t (by decide)) (oD X447 hy d11_192 194 rfl ?_))
 exact fI X447 hy hrt hlk hQQ d11_194 rfl (Or.inl rfl) e447 (by decide) ⟨rfl, N447, K447, wv⟩
def Qgc7 (Z : State) (q0 : Int64) (o2 : Addr) (kb : ClassId) (a_D1 : Addr) (k_a_D1 : ClassId) (a_D2 : Addr) (k_a_D2 : ClassId) (h0 : Heap) (n0 : Nat) : QT := fun v h L => (v = some (.int 0)) ∧ (Fr n0 L) ∧ (Keep h0 h [o2]) ∧ (Arv Z h o2 kb .byte 7 [(.int (own_dg ((q0).toInt / 100 / 100 / 100))), (.int (own_dg ((q0).toInt / 100 / 100 / 10))), (.int (own_dg ((q0).toInt / 100 / 100))), (.int (own_dg ((q0).toInt / 100 / 10))), (.int (own_dg ((q0).toInt / 100))), (.int (own_dg ((q0).toInt / 10))), (.int (own_dg ((q0).toInt)))] (.int 0))
theorem rmgc7 (l : Launch) (Z : State) (a0 : Array Value) (hw : TW a0 Z) (ws : List Jvm.Cond) (q0 : Int64) (o2 : Addr) (kb : ClassId) (a_D1 : Addr) (k_a_D1 : ClassId) (a_D2 : Addr) (k_a_D2 : ClassId) (h0 : Heap) (n0 : Nat) (Z0 : n0 ≤ h0.size) (wv : Arv Z h0 o2 kb .byte 7 [.int 0, .int 0, .int 0, .int 0, .int 0, .int 0, .int 0] (.int 0)) (wN : n0 ≤ o2) (wC : o2 ≠ a_D1) (wB : o2 ≠ a_D2) (wl : Arv Z h0 a_D1 k_a_D1 .byte 100 own_ones (.int 0)) (wf : sJQ Z h0 (.ref a_D1)) (wn : Arv Z h0 a_D2 k_a_D2 .byte 100 own_tens (.int 0)) (wg : sKQ Z h0 (.ref a_D2)) (g1 : (q0).toInt < 10000000) (g2 : 1000000 ≤ (q0).toInt) :
  MF l mN6 jdk_35_method_14_code 11 (some .int) ws (rmm 0 0 0 0) #[.long q0, .int 7, .ref o2] Z h0 (Qgc7 Z q0 o2 kb a_D1 k_a_D1 a_D2 k_a_D2 h0 n0) := by
 refine MF.of (plainFor_of_name pn_7) ?_
 intro p e s m below meth c s₁ QQ hy hml hown hZ X0 e0 hrt hlk hnm hQQ
 have N0 := Fr.nil n0
 refine Ends.i #[jv q0, ss, iv 7, rv o2, uu, uu, uu, uu, uu, uu, uu] (oC X0 hy d11_0 1 rfl (oxo X0 hy d11_1 3 #[jv q0, ss, iv 7, rv o2, uu, uu, uu, iv 7, uu, uu, uu] rfl (oE X0 hy d11_3 4 rfl (oJ X0 hy d11_4 5 0 rfl (oY X0 hy d11_5 6 ?_)))))
 have hc6 : ¬ (q0 < (0 : Int64)) := (own_ge0 (by omega))
 refine oxk X0 hy d11_6 13 (XT.ll_ge_t hc6) (oG X0 hy d11_13 14 0 rfl (oxo X0 hy d11_14 16 #[jv q0, ss, iv 7, rv o2, uu, uu, uu, iv 7, iv 0, uu, uu] rfl (oD X0 hy d11_16 18 rfl (oxh X0 hy d11_18 21 (XT.i0_ne_f (by decide)) (oE X0 hy d11_21 22 rfl (oX X0 hy d11_22 23 (oxr X0 hy d11_23 24 #[jv (-q0), ss, iv 7, rv o2, uu, uu, uu, iv 7, iv 0, uu, uu] rfl (oE X0 hy d11_24 25 rfl (oJ2 X0 hy hown hZ hw d11_25 28 (-2147483648) 67 rfl ?_)))))))))
 refine oY X0 hy d11_28 29 ?_
 have hc29 : (-2147483648 : Int64) < (-q0) := (own_ng (P := 2147483648) (by decide) (by omega) (by omega))
 refine oxk X0 hy d11_29 82 (XT.ll_gt_t hc29) (oE X0 hy d11_82 83 rfl (oZ X0 hy d11_83 84 (oxo X0 hy d11_84 86 #[jv (-q0), ss, iv 7, rv o2, uu, uu, uu, iv 7, iv 0, uu, iv (-q0).toInt32] rfl ?_)))
 generalize hv10_1 : (-q0).toInt32 = x10_1
 have hI0 : x10_1.toInt = -((q0).toInt) := by rw [← hv10_1]; exact own_i0 (by omega) (by omega)
 refine oD X0 hy d11_86 88 rfl (oH X0 hy d11_88 90 (-100) rfl ?_)
 have hc90 : ¬ ((-100 : Int32) < x10_1) := (own_cont hI0 (by omega))
 refine oxi X0 hy d11_90 93 (XT.ii_gt_f hc90) (oD X0 hy d11_93 95 rfl (oH X0 hy d11_95 97 100 rfl (oR X0 hy d11_97 98 (by decide) (oxo X0 hy d11_98 100 #[jv (-q0), ss, iv 7, rv o2, uu, uu, uu, iv 7, iv 0, iv (x10_1 / (100 : Int32)), iv x10_1] rfl ?_))))
 generalize hv9_2 : (x10_1 / (100 : Int32)) = x9_2
 refine oD X0 hy d11_100 102 rfl (oH X0 hy d11_102 104 100 rfl (oM X0 hy d11_104 105 (oD X0 hy d11_105 107 rfl (oL X0 hy d11_107 108 (oxo X0 hy d11_108 110 #[jv (-q0), ss, iv 7, rv o2, uu, uu, iv ((x9_2 * (100 : Int32)) - x10_1), iv 7, iv 0, iv x9_2, iv x10_1] rfl ?_)))))
 generalize hv6_3 : ((x9_2 * (100 : Int32)) - x10_1) = x6_3
 refine oD X0 hy d11_110 112 rfl (oxo X0 hy d11_112 114 #[jv (-q0), ss, iv 7, rv o2, uu, uu, iv x6_3, iv 7, iv 0, iv x9_2, iv x9_2] rfl (oA X0 hy d11_114 115 rfl (oxz X0 hy d11_115 118 #[jv (-q0), ss, iv 7, rv o2, uu, uu, iv x6_3, iv 6, iv 0, iv x9_2, iv x9_2] (-1) rfl rfl rfl (oD X0 hy d11_118 120 rfl (gS X0 hy hown hZ hw e0 wf d11_120 123 68 rfl fun T448 X448 e448 => oD X448 hy d11_123 125 rfl ?_)))))
 have hr0_0 : (x6_3).toInt = ((q0).toInt) % 100 := by rw [← hv6_3, ← hv9_2]; exact own_r hI0 (by omega)
 refine aLB X448 hy hZ e448 wl d11_125 126 (.int (own_dg ((q0).toInt))) (own_in hr0_0) (own_oneat hr0_0) ?_
 refine aSB X448 hy hZ e448 wv d11_126 127 ⟨by decide, by decide⟩ fun T451 h451 X451 e451 W451 => ?_
 rw [own_nardg] at W451
 have wl := wl.other W451 (Ne.symm wC)
 have wf := wf.wr W451
 have wn := wn.other W451 (Ne.symm wB)
 have wg := wg.wr W451
 have wv : Arv Z h451 o2 kb .byte 7 [.int 0, .int 0, .int 0, .int 0, .int 0, .int 0, (.int (own_dg ((q0).toInt)))] (.int 0) := As wv (own_fitdg _) W451 6 rfl (Nat.le_of_ble_eq_true rfl)
 have K451 := (Keep.refl h0 [o2]).wr W451 (Or.inl mm0)
 have N451 := Fr.snoc X451 N0 wN
 refine oA X451 hy d11_127 128 rfl (oxz X451 hy d11_128 131 #[jv (-q0), ss, iv 7, rv o2, uu, uu, iv x6_3, iv 5, iv 0, iv x9_2, iv x9_2] (-1) rfl rfl rfl (oD X451 hy d11_131 133 rfl (gS X451 hy hown hZ hw e451 wg d11_133 136 218 rfl fun T452 X452 e452 => oD X452 hy d11_136 138 rfl ?_)))
 have hr0_1 : (x6_3).toInt = ((q0).toInt) % 100 := by rw [← hv6_3, ← hv9_2]; exact own_r hI0 (by omega)
 refine aLB X452 hy hZ e452 wn d11_138 139 (.int (own_dg ((q0).toInt / 10))) (own_in hr0_1) (own_tenat hr0_1) ?_
 refine aSB X452 hy hZ e452 wv d11_139 140 ⟨by decide, by decide⟩ fun T455 h455 X455 e455 W455 => ?_
 rw [own_nardg] at W455
 have wl := wl.other W455 (Ne.symm wC)
 have wf := wf.wr W455
 have wn := wn.other W455 (Ne.symm wB)
 have wg := wg.wr W455
 have wv : Arv Z h455 o2 kb .byte 7 [.int 0, .int 0, .int 0, .int 0, .int 0, (.int (own_dg ((q0).toInt / 10))), (.int (own_dg ((q0).toInt)))] (.int 0) := As wv (own_fitdg _) W455 5 rfl (Nat.le_of_ble_eq_true rfl)
 have K455 := K451.wr W455 (Or.inl mm0)
 have N455 := Fr.snoc X455 N451 wN
 refine oxm X455 hy d11_140 86 ?_
 have hI1 : x9_2.toInt = -((q0).toInt / 100) := by rw [← hv9_2]; exact own_q hI0 (by omega)
 show Ends p e below QQ (T455.setTop (mkF m 86 #[jv (-q0), ss, iv 7, rv o2, uu, uu, iv x6_3, iv 5, iv 0, iv x9_2, iv x9_2] []))
 refine oD X455 hy d11_86 88 rfl (oH X455 hy d11_88 90 (-100) rfl ?_)
 have hc90 : ¬ ((-100 : Int32) < x9_2) := (own_cont hI1 (by omega))
 refine oxi X455 hy d11_90 93 (XT.ii_gt_f hc90) (oD X455 hy d11_93 95 rfl (oH X455 hy d11_95 97 100 rfl (oR X455 hy d11_97 98 (by decide) (oxo X455 hy d11_98 100 #[jv (-q0), ss, iv 7, rv o2, uu, uu, iv x6_3, iv 5, iv 0, iv (x9_2 / (100 : Int32)), iv x9_2] rfl ?_))))
 generalize hv9_4 : (x9_2 / (100 : Int32)) = x9_4
 refine oD X455 hy d11_100 102 rfl (oH X455 hy d11_102 104 100 rfl (oM X455 hy d11_104 105 (oD X455 hy d11_105 107 rfl (oL X455 hy d11_107 108 (oxo X455 hy d11_108 110 #[jv (-q0), ss, iv 7, rv o2, uu, uu, iv ((x9_4 * (100 : Int32)) - x9_2), iv 5, iv 0, iv x9_4, iv x9_2] rfl ?_)))))
 generalize hv6_5 : ((x9_4 * (100 : Int32)) - x9_2) = x6_5
 refine oD X455 hy d11_110 112 rfl (oxo X455 hy d11_112 114 #[jv (-q0), ss, iv 7, rv o2, uu, uu, iv x6_5, iv 5, iv 0, iv x9_4, iv x9_4] rfl (oA X455 hy d11_114 115 rfl (oxz X455 hy d11_115 118 #[jv (-q0), ss, iv 7, rv o2, uu, uu, iv x6_5, iv 4, iv 0, iv x9_4, iv x9_4] (-1) rfl rfl rfl (oD X455 hy d11_118 120 rfl (gS X455 hy hown hZ hw e455 wf d11_120 123 68 rfl fun T456 X456 e456 => oD X456 hy d11_123 125 rfl ?_)))))
 have hr1_0 : (x6_5).toInt = ((q0).toInt / 100) % 100 := by rw [← hv6_5, ← hv9_4]; exact own_r hI1 (by omega)
 refine aLB X456 hy hZ e456 wl d11_125 126 (.int (own_dg ((q0).toInt / 100))) (own_in hr1_0) (own_oneat hr1_0) ?_
 refine aSB X456 hy hZ e456 wv d11_126 127 ⟨by decide, by decide⟩ fun T459 h459 X459 e459 W459 => ?_
 rw [own_nardg] at W459
 have wl := wl.other W459 (Ne.symm wC)
 have wf := wf.wr W459
 have wn := wn.other W459 (Ne.symm wB)
 have wg := wg.wr W459
 have wv : Arv Z h459 o2 kb .byte 7 [.int 0, .int 0, .int 0, .int 0, (.int (own_dg ((q0).toInt / 100))), (.int (own_dg ((q0).toInt / 10))), (.int (own_dg ((q0).toInt)))] (.int 0) := As wv (own_fitdg _) W459 4 rfl (Nat.le_of_ble_eq_true rfl)
 have K459 := K455.wr W459 (Or.inl mm0)
 have N459 := Fr.snoc X459 N455 wN
 refine oA X459 hy d11_127 128 rfl (oxz X459 hy d11_128 131 #[jv (-q0), ss, iv 7, rv o2, uu, uu, iv x6_5, iv 3, iv 0, iv x9_4, iv x9_4] (-1) rfl rfl rfl (oD X459 hy d11_131 133 rfl (gS X459 hy hown hZ hw e459 wg d11_133 136 218 rfl fun T460 X460 e460 => oD X460 hy d11_136 138 rfl ?_)))
 have hr1_1 : (x6_5).toInt = ((q0).toInt / 100) % 100 := by rw [← hv6_5, ← hv9_4]; exact own_r hI1 (by omega)
 refine aLB X460 hy hZ e460 wn d11_138 139 (.int (own_dg ((q0).toInt / 100 / 10))) (own_in hr1_1) (own_tenat hr1_1) ?_
 refine aSB X460 hy hZ e460 wv d11_139 140 ⟨by decide, by decide⟩ fun T463 h463 X463 e463 W463 => ?_
 rw [own_nardg] at W463
 have wl := wl.other W463 (Ne.symm wC)
 have wf := wf.wr W463
 have wn := wn.other W463 (Ne.symm wB)
 have wg := wg.wr W463
 have wv : Arv Z h463 o2 kb .byte 7 [.int 0, .int 0, .int 0, (.int (own_dg ((q0).toInt / 100 / 10))), (.int (own_dg ((q0).toInt / 100))), (.int (own_dg ((q0).toInt / 10))), (.int (own_dg ((q0).toInt)))] (.int 0) := As wv (own_fitdg _) W463 3 rfl (Nat.le_of_ble_eq_true rfl)
 have K463 := K459.wr W463 (Or.inl mm0)
 have N463 := Fr.snoc X463 N459 wN
 refine oxm X463 hy d11_140 86 ?_
 have hI2 : x9_4.toInt = -((q0).toInt / 100 / 100) := by rw [← hv9_4]; exact own_q hI1 (by omega)
 show Ends p e below QQ (T463.setTop (mkF m 86 #[jv (-q0), ss, iv 7, rv o2, uu, uu, iv x6_5, iv 3, iv 0, iv x9_4, iv x9_4] []))
 refine oD X463 hy d11_86 88 rfl (oH X463 hy d11_88 90 (-100) rfl ?_)
 have hc90 : ¬ ((-100 : Int32) < x9_4) := (own_cont hI2 (by omega))
 refine oxi X463 hy d11_90 93 (XT.ii_gt_f hc90) (oD X463 hy d11_93 95 rfl (oH X463 hy d11_95 97 100 rfl (oR X463 hy d11_97 98 (by decide) (oxo X463 hy d11_98 100 #[jv (-q0), ss, iv 7, rv o2, uu, uu, iv x6_5, iv 3, iv 0, iv (x9_4 / (100 : Int32)), iv x9_4] rfl ?_))))
 generalize hv9_6 : (x9_4 / (100 : Int32)) = x9_6
 refine oD X463 hy d11_100 102 rfl (oH X463 hy d11_102 104 100 rfl (oM X463 hy d11_104 105 (oD X463 hy d11_105 107 rfl (oL X463 hy d11_107 108 (oxo X463 hy d11_108 110 #[jv (-q0), ss, iv 7, rv o2, uu, uu, iv ((x9_6 * (100 : Int32)) - x9_4), iv 3, iv 0, iv x9_6, iv x9_4] rfl ?_)))))
 generalize hv6_7 : ((x9_6 * (100 : Int32)) - x9_4) = x6_7
 refine oD X463 hy d11_110 112 rfl (oxo X463 hy d11_112 114 #[jv (-q0), ss, iv 7, rv o2, uu, uu, iv x6_7, iv 3, iv 0, iv x9_6, iv x9_6] rfl (oA X463 hy d11_114 115 rfl (oxz X463 hy d11_115 118 #[jv (-q0), ss, iv 7, rv o2, uu, uu, iv x6_7, iv 2, iv 0, iv x9_6, iv x9_6] (-1) rfl rfl rfl (oD X463 hy d11_118 120 rfl (gS X463 hy hown hZ hw e463 wf d11_120 123 68 rfl fun T464 X464 e464 => oD X464 hy d11_123 125 rfl ?_)))))
 have hr2_0 : (x6_7).toInt = ((q0).toInt / 100 / 100) % 100 := by rw [← hv6_7, ← hv9_6]; exact own_r hI2 (by omega)
 refine aLB X464 hy hZ e464 wl d11_125 126 (.int (own_dg ((q0).toInt / 100 / 100))) (own_in hr2_0) (own_oneat hr2_0) ?_
 refine aSB X464 hy hZ e464 wv d11_126 127 ⟨by decide, by decide⟩ fun T467 h467 X467 e467 W467 => ?_
 rw [own_nardg] at W467
 have wl := wl.other W467 (Ne.symm wC)
 have wf := wf.wr W467
 have wn := wn.other W467 (Ne.symm wB)
 have wg := wg.wr W467
 have wv : Arv Z h467 o2 kb .byte 7 [.int 0, .int 0, (.int (own_dg ((q0).toInt / 100 / 100))), (.int (own_dg ((q0).toInt / 100 / 10))), (.int (own_dg ((q0).toInt / 100))), (.int (own_dg ((q0).toInt / 10))), (.int (own_dg ((q0).toInt)))] (.int 0) := As wv (own_fitdg _) W467 2 rfl (Nat.le_of_ble_eq_true rfl)
 have K467 := K463.wr W467 (Or.inl mm0)
 have N467 := Fr.snoc X467 N463 wN
 refine oA X467 hy d11_127 128 rfl (oxz X467 hy d11_128 131 #[jv (-q0), ss, iv 7, rv o2, uu, uu, iv x6_7, iv 1, iv 0, iv x9_6, iv x9_6] (-1) rfl rfl rfl (oD X467 hy d11_131 133 rfl (gS X467 hy hown hZ hw e467 wg d11_133 136 218 rfl fun T468 X468 e468 => oD X468 hy d11_136 138 rfl ?_)))
 have hr2_1 : (x6_7).toInt = ((q0).toInt / 100 / 100) % 100 := by rw [← hv6_7, ← hv9_6]; exact own_r hI2 (by omega)
 refine aLB X468 hy hZ e468 wn d11_138 139 (.int (own_dg ((q0).toInt / 100 / 100 / 10))) (own_in hr2_1) (own_tenat hr2_1) ?_
 refine aSB X468 hy hZ e468 wv d11_139 140 ⟨by decide, by decide⟩ fun T471 h471 X471 e471 W471 => ?_
 rw [own_nardg] at W471
 have wl := wl.other W471 (Ne.symm wC)
 have wf := wf.wr W471
 have wv : Arv Z h471 o2 kb .byte 7 [.int 0, (.int (own_dg ((q0).toInt / 100 / 100 / 10))), (.int (own_dg ((q0).toInt / 100 / 100))), (.int (own_dg ((q0).toInt / 100 / 10))), (.int (own_dg ((q0).toInt / 100))), (.int (own_dg ((q0).toInt / 10))), (.int (own_dg ((q0).toInt)))] (.int 0) := As wv (own_fitdg _) W471 1 rfl (Nat.le_of_ble_eq_true rfl)
 have K471 := K467.wr W471 (Or.inl mm0)
 have N471 := Fr.snoc X471 N467 wN
 refine oxm X471 hy d11_140 86 ?_
 have hI3 : x9_6.toInt = -((q0).toInt / 100 / 100 / 100) := by rw [← hv9_6]; exact own_q hI2 (by omega)
 show Ends p e below QQ (T471.setTop (mkF m 86 #[jv (-q0), ss, iv 7, rv o2, uu, uu, iv x6_7, iv 1, iv 0, iv x9_6, iv x9_6] []))
 refine oD X471 hy d11_86 88 rfl (oH X471 hy d11_88 90 (-100) rfl ?_)
 have hc90 : (-100 : Int32) < x9_6 := (own_exit hI3 (by omega))
 refine oxl X471 hy d11_90 143 (XT.ii_gt_t hc90) (oA X471 hy d11_143 144 rfl (oxz X471 hy d11_144 147 #[jv (-q0), ss, iv 7, rv o2, uu, uu, iv x6_7, iv 0, iv 0, iv x9_6, iv x9_6] (-1) rfl rfl rfl (oD X471 hy d11_147 149 rfl (gS X471 hy hown hZ hw e471 wf d11_149 152 68 rfl fun T472 X472 e472 => oD X472 hy d11_152 154 rfl (oQ X472 hy d11_154 155 ?_)))))
 have hr3_0 : ((-x9_6)).toInt = ((q0).toInt / 100 / 100 / 100) % 100 := own_nr hI3 (by omega) (by omega)
 refine aLB X472 hy hZ e472 wl d11_155 156 (.int (own_dg ((q0).toInt / 100 / 100 / 100))) (own_in hr3_0) (own_oneat hr3_0) ?_
 refine aSB X472 hy hZ e472 wv d11_156 157 ⟨by decide, by decide⟩ fun T475 h475 X475 e475 W475 => ?_
 rw [own_nardg] at W475
 have wv : Arv Z h475 o2 kb .byte 7 [(.int (own_dg ((q0).toInt / 100 / 100 / 100))), (.int (own_dg ((q0).toInt / 100 / 100 / 10))), (.int (own_dg ((q0).toInt / 100 / 100))), (.int (own_dg ((q0).toInt / 100 / 10))), (.int (own_dg ((q0).toInt / 100))), (.int (own_dg ((q0).toInt / 10))), (.int (own_dg ((q0).toInt)))] (.int 0) := As wv (own_fitdg _) W475 0 rfl (Nat.le_of_ble_eq_true rfl)
 have K475 := K471.wr W475 (Or.inl mm0)
 have N475 := Fr.snoc X475 N471 wN
 refine oD X475 hy d11_157 159 rfl (oH X475 hy d11_159 161 (-9) rfl ?_)
 have hc161 : ¬ (x9_6 < (-9 : Int32)) := (own_one hI3 (by omega))
 refine oxl X475 hy d11_161 178 (XT.ii_ge_t hc161) (oD X475 hy d11_178 180 rfl (oxk X475 hy d11_180 192 (XT.i0_eq_t (by decide)) (oD X475 hy d11_192 194 rfl ?_)))
 exact fI X475 hy hrt hlk hQQ d11_194 rfl (Or.inl rfl) e475 (by decide) ⟨rfl, N475, K475, wv⟩
def Qgc8 (Z : State) (q0 : Int64) (o2 : Addr) (kb : ClassId) (a_D1 : Addr) (k_a_D1 : ClassId) (a_D2 : Addr) (k_a_D2 : ClassId) (h0 : Heap) (n0 : Nat) : QT := fun v h L => (v = some (.int 0)) ∧ (Fr n0 L) ∧ (Keep h0 h [o2]) ∧ (Arv Z h o2 kb .byte 8 [(.int (own_dg ((q0).toInt / 100 / 100 / 100 / 10))), (.int (own_dg ((q0).toInt / 100 / 100 / 100))), (.int (own_dg ((q0).toInt / 100 / 100 / 10))), (.int (own_dg ((q0).toInt / 100 / 100))), (.int (own_dg ((q0).toInt / 100 / 10))), (.int (own_dg ((q0).toInt / 100))), (.int (own_dg ((q0).toInt / 10))), (.int (own_dg ((q0).toInt)))] (.int 0))
theorem rmgc8 (l : Launch) (Z : State) (a0 : Array Value) (hw : TW a0 Z) (ws : List Jvm.Cond) (q0 : Int64) (o2 : Addr) (kb : ClassId) (a_D1 : Addr) (k_a_D1 : ClassId) (a_D2 : Addr) (k_a_D2 : ClassId) (h0 : Heap) (n0 : Nat) (Z0 : n0 ≤ h0.size) (wv : Arv Z h0 o2 kb .byte 8 [.int 0, .int 0, .int 0, .int 0, .int 0, .int 0, .int 0, .int 0] (.int 0)) (wN : n0 ≤ o2) (wC : o2 ≠ a_D1) (wB : o2 ≠ a_D2) (wl : Arv Z h0 a_D1 k_a_D1 .byte 100 own_ones (.int 0)) (wf : sJQ Z h0 (.ref a_D1)) (wn : Arv Z h0 a_D2 k_a_D2 .byte 100 own_tens (.int 0)) (wg : sKQ Z h0 (.ref a_D2)) (g1 : (q0).toInt < 100000000) (g2 : 10000000 ≤ (q0).toInt) :
  MF l mN6 jdk_35_method_14_code 11 (some .int) ws (rmm 0 0 0 0) #[.long q0, .int 8, .ref o2] Z h0 (Qgc8 Z q0 o2 kb a_D1 k_a_D1 a_D2 k_a_D2 h0 n0) := by
 refine MF.of (plainFor_of_name pn_7) ?_
 intro p e s m below meth c s₁ QQ hy hml hown hZ X0 e0 hrt hlk hnm hQQ
 have N0 := Fr.nil n0
 refine Ends.i #[jv q0, ss, iv 8, rv o2, uu, uu, uu, uu, uu, uu, uu] (oC X0 hy d11_0 1 rfl (oxo X0 hy d11_1 3 #[jv q0, ss, iv 8, rv o2, uu, uu, uu, iv 8, uu, uu, uu] rfl (oE X0 hy d11_3 4 rfl (oJ X0 hy d11_4 5 0 rfl (oY X0 hy d11_5 6 ?_)))))
 have hc6 : ¬ (q0 < (0 : Int64)) := (own_ge0 (by omega))
 refine oxk X0 hy d11_6 13 (XT.ll_ge_t hc6) (oG X0 hy d11_13 14 0 rfl (oxo X0 hy d11_14 16 #[jv q0, ss, iv 8, rv o2, uu, uu, uu, iv 8, iv 0, uu, uu] rfl (oD X0 hy d11_16 18 rfl (oxh X0 hy d11_18 21 (XT.i0_ne_f (by decide)) (oE X0 hy d11_21 22 rfl (oX X0 hy d11_22 23 (oxr X0 hy d11_23 24 #[jv (-q0), ss, iv 8, rv o2, uu, uu, uu, iv 8, iv 0, uu, uu] rfl (oE X0 hy d11_24 25 rfl (oJ2 X0 hy hown hZ hw d11_25 28 (-2147483648) 67 rfl ?_)))))))))
 refine oY X0 hy d11_28 29 ?_
 have hc29 : (-2147483648 : Int64) < (-q0) := (own_ng (P := 2147483648) (by decide) (by omega) (by omega))
 refine oxk X0 hy d11_29 82 (XT.ll_gt_t hc29) (oE X0 hy d11_82 83 rfl (oZ X0 hy d11_83 84 (oxo X0 hy d11_84 86 #[jv (-q0), ss, iv 8, rv o2, uu, uu, uu, iv 8, iv 0, uu, iv (-q0).toInt32] rfl ?_)))
 generalize hv10_1 : (-q0).toInt32 = x10_1
 have hI0 : x10_1.toInt = -((q0).toInt) := by rw [← hv10_1]; exact own_i0 (by omega) (by omega)
 refine oD X0 hy d11_86 88 rfl (oH X0 hy d11_88 90 (-100) rfl ?_)
 have hc90 : ¬ ((-100 : Int32) < x10_1) := (own_cont hI0 (by omega))
 refine oxi X0 hy d11_90 93 (XT.ii_gt_f hc90) (oD X0 hy d11_93 95 rfl (oH X0 hy d11_95 97 100 rfl (oR X0 hy d11_97 98 (by decide) (oxo X0 hy d11_98 100 #[jv (-q0), ss, iv 8, rv o2, uu, uu, uu, iv 8, iv 0, iv (x10_1 / (100 : Int32)), iv x10_1] rfl ?_))))
 generalize hv9_2 : (x10_1 / (100 : Int32)) = x9_2
 refine oD X0 hy d11_100 102 rfl (oH X0 hy d11_102 104 100 rfl (oM X0 hy d11_104 105 (oD X0 hy d11_105 107 rfl (oL X0 hy d11_107 108 (oxo X0 hy d11_108 110 #[jv (-q0), ss, iv 8, rv o2, uu, uu, iv ((x9_2 * (100 : Int32)) - x10_1), iv 8, iv 0, iv x9_2, iv x10_1] rfl ?_)))))
 generalize hv6_3 : ((x9_2 * (100 : Int32)) - x10_1) = x6_3
 refine oD X0 hy d11_110 112 rfl (oxo X0 hy d11_112 114 #[jv (-q0), ss, iv 8, rv o2, uu, uu, iv x6_3, iv 8, iv 0, iv x9_2, iv x9_2] rfl (oA X0 hy d11_114 115 rfl (oxz X0 hy d11_115 118 #[jv (-q0), ss, iv 8, rv o2, uu, uu, iv x6_3, iv 7, iv 0, iv x9_2, iv x9_2] (-1) rfl rfl rfl (oD X0 hy d11_118 120 rfl (gS X0 hy hown hZ hw e0 wf d11_120 123 68 rfl fun T476 X476 e476 => oD X476 hy d11_123 125 rfl ?_)))))
 have hr0_0 : (x6_3).toInt = ((q0).toInt) % 100 := by rw [← hv6_3, ← hv9_2]; exact own_r hI0 (by omega)
 refine aLB X476 hy hZ e476 wl d11_125 126 (.int (own_dg ((q0).toInt))) (own_in hr0_0) (own_oneat hr0_0) ?_
 refine aSB X476 hy hZ e476 wv d11_126 127 ⟨by decide, by decide⟩ fun T479 h479 X479 e479 W479 => ?_
 rw [own_nardg] at W479
 have wl := wl.other W479 (Ne.symm wC)
 have wf := wf.wr W479
 have wn := wn.other W479 (Ne.symm wB)
 have wg := wg.wr W479
 have wv : Arv Z h479 o2 kb .byte 8 [.int 0, .int 0, .int 0, .int 0, .int 0, .int 0, .int 0, (.int (own_dg ((q0).toInt)))] (.int 0) := As wv (own_fitdg _) W479 7 rfl (Nat.le_of_ble_eq_true rfl)
 have K479 := (Keep.refl h0 [o2]).wr W479 (Or.inl mm0)
 have N479 := Fr.snoc X479 N0 wN
 refine oA X479 hy d11_127 128 rfl (oxz X479 hy d11_128 131 #[jv (-q0), ss, iv 8, rv o2, uu, uu, iv x6_3, iv 6, iv 0, iv x9_2, iv x9_2] (-1) rfl rfl rfl (oD X479 hy d11_131 133 rfl (gS X479 hy hown hZ hw e479 wg d11_133 136 218 rfl fun T480 X480 e480 => oD X480 hy d11_136 138 rfl ?_)))
 have hr0_1 : (x6_3).toInt = ((q0).toInt) % 100 := by rw [← hv6_3, ← hv9_2]; exact own_r hI0 (by omega)
 refine aLB X480 hy hZ e480 wn d11_138 139 (.int (own_dg ((q0).toInt / 10))) (own_in hr0_1) (own_tenat hr0_1) ?_
 refine aSB X480 hy hZ e480 wv d11_139 140 ⟨by decide, by decide⟩ fun T483 h483 X483 e483 W483 => ?_
 rw [own_nardg] at W483
 have wl := wl.other W483 (Ne.symm wC)
 have wf := wf.wr W483
 have wn := wn.other W483 (Ne.symm wB)
 have wg := wg.wr W483
 have wv : Arv Z h483 o2 kb .byte 8 [.int 0, .int 0, .int 0, .int 0, .int 0, .int 0, (.int (own_dg ((q0).toInt / 10))), (.int (own_dg ((q0).toInt)))] (.int 0) := As wv (own_fitdg _) W483 6 rfl (Nat.le_of_ble_eq_true rfl)
 have K483 := K479.wr W483 (Or.inl mm0)
 have N483 := Fr.snoc X483 N479 wN
 refine oxm X483 hy d11_140 86 ?_
 have hI1 : x9_2.toInt = -((q0).toInt / 100) := by rw [← hv9_2]; exact own_q hI0 (by omega)
 show Ends p e below QQ (T483.setTop (mkF m 86 #[jv (-q0), ss, iv 8, rv o2, uu, uu, iv x6_3, iv 6, iv 0, iv x9_2, iv x9_2] []))
 refine oD X483 hy d11_86 88 rfl (oH X483 hy d11_88 90 (-100) rfl ?_)
 have hc90 : ¬ ((-100 : Int32) < x9_2) := (own_cont hI1 (by omega))
 refine oxi X483 hy d11_90 93 (XT.ii_gt_f hc90) (oD X483 hy d11_93 95 rfl (oH X483 hy d11_95 97 100 rfl (oR X483 hy d11_97 98 (by decide) (oxo X483 hy d11_98 100 #[jv (-q0), ss, iv 8, rv o2, uu, uu, iv x6_3, iv 6, iv 0, iv (x9_2 / (100 : Int32)), iv x9_2] rfl ?_))))
 generalize hv9_4 : (x9_2 / (100 : Int32)) = x9_4
 refine oD X483 hy d11_100 102 rfl (oH X483 hy d11_102 104 100 rfl (oM X483 hy d11_104 105 (oD X483 hy d11_105 107 rfl (oL X483 hy d11_107 108 (oxo X483 hy d11_108 110 #[jv (-q0), ss, iv 8, rv o2, uu, uu, iv ((x9_4 * (100 : Int32)) - x9_2), iv 6, iv 0, iv x9_4, iv x9_2] rfl ?_)))))
 generalize hv6_5 : ((x9_4 * (100 : Int32)) - x9_2) = x6_5
 refine oD X483 hy d11_110 112 rfl (oxo X483 hy d11_112 114 #[jv (-q0), ss, iv 8, rv o2, uu, uu, iv x6_5, iv 6, iv 0, iv x9_4, iv x9_4] rfl (oA X483 hy d11_114 115 rfl (oxz X483 hy d11_115 118 #[jv (-q0), ss, iv 8, rv o2, uu, uu, iv x6_5, iv 5, iv 0, iv x9_4, iv x9_4] (-1) rfl rfl rfl (oD X483 hy d11_118 120 rfl (gS X483 hy hown hZ hw e483 wf d11_120 123 68 rfl fun T484 X484 e484 => oD X484 hy d11_123 125 rfl ?_)))))
 have hr1_0 : (x6_5).toInt = ((q0).toInt / 100) % 100 := by rw [← hv6_5, ← hv9_4]; exact own_r hI1 (by omega)
 refine aLB X484 hy hZ e484 wl d11_125 126 (.int (own_dg ((q0).toInt / 100))) (own_in hr1_0) (own_oneat hr1_0) ?_
 refine aSB X484 hy hZ e484 wv d11_126 127 ⟨by decide, by decide⟩ fun T487 h487 X487 e487 W487 => ?_
 rw [own_nardg] at W487
 have wl := wl.other W487 (Ne.symm wC)
 have wf := wf.wr W487
 have wn := wn.other W487 (Ne.symm wB)
 have wg := wg.wr W487
 have wv : Arv Z h487 o2 kb .byte 8 [.int 0, .int 0, .int 0, .int 0, .int 0, (.int (own_dg ((q0).toInt / 100))), (.int (own_dg ((q0).toInt / 10))), (.int (own_dg ((q0).toInt)))] (.int 0) := As wv (own_fitdg _) W487 5 rfl (Nat.le_of_ble_eq_true rfl)
 have K487 := K483.wr W487 (Or.inl mm0)
 have N487 := Fr.snoc X487 N483 wN
 refine oA X487 hy d11_127 128 rfl (oxz X487 hy d11_128 131 #[jv (-q0), ss, iv 8, rv o2, uu, uu, iv x6_5, iv 4, iv 0, iv x9_4, iv x9_4] (-1) rfl rfl rfl (oD X487 hy d11_131 133 rfl (gS X487 hy hown hZ hw e487 wg d11_133 136 218 rfl fun T488 X488 e488 => oD X488 hy d11_136 138 rfl ?_)))
 have hr1_1 : (x6_5).toInt = ((q0).toInt / 100) % 100 := by rw [← hv6_5, ← hv9_4]; exact own_r hI1 (by omega)
 refine aLB X488 hy hZ e488 wn d11_138 139 (.int (own_dg ((q0).toInt / 100 / 10))) (own_in hr1_1) (own_tenat hr1_1) ?_
 refine aSB X488 hy hZ e488 wv d11_139 140 ⟨by decide, by decide⟩ fun T491 h491 X491 e491 W491 => ?_
 rw [own_nardg] at W491
 have wl := wl.other W491 (Ne.symm wC)
 have wf := wf.wr W491
 have wn := wn.other W491 (Ne.symm wB)
 have wg := wg.wr W491
 have wv : Arv Z h491 o2 kb .byte 8 [.int 0, .int 0, .int 0, .int 0, (.int (own_dg ((q0).toInt / 100 / 10))), (.int (own_dg ((q0).toInt / 100))), (.int (own_dg ((q0).toInt / 10))), (.int (own_dg ((q0).toInt)))] (.int 0) := As wv (own_fitdg _) W491 4 rfl (Nat.le_of_ble_eq_true rfl)
 have K491 := K487.wr W491 (Or.inl mm0)
 have N491 := Fr.snoc X491 N487 wN
 refine oxm X491 hy d11_140 86 ?_
 have hI2 : x9_4.toInt = -((q0).toInt / 100 / 100) := by rw [← hv9_4]; exact own_q hI1 (by omega)
 show Ends p e below QQ (T491.setTop (mkF m 86 #[jv (-q0), ss, iv 8, rv o2, uu, uu, iv x6_5, iv 4, iv 0, iv x9_4, iv x9_4] []))
 refine oD X491 hy d11_86 88 rfl (oH X491 hy d11_88 90 (-100) rfl ?_)
 have hc90 : ¬ ((-100 : Int32) < x9_4) := (own_cont hI2 (by omega))
 refine oxi X491 hy d11_90 93 (XT.ii_gt_f hc90) (oD X491 hy d11_93 95 rfl (oH X491 hy d11_95 97 100 rfl (oR X491 hy d11_97 98 (by decide) (oxo X491 hy d11_98 100 #[jv (-q0), ss, iv 8, rv o2, uu, uu, iv x6_5, iv 4, iv 0, iv (x9_4 / (100 : Int32)), iv x9_4] rfl ?_))))
 generalize hv9_6 : (x9_4 / (100 : Int32)) = x9_6
 refine oD X491 hy d11_100 102 rfl (oH X491 hy d11_102 104 100 rfl (oM X491 hy d11_104 105 (oD X491 hy d11_105 107 rfl (oL X491 hy d11_107 108 (oxo X491 hy d11_108 110 #[jv (-q0), ss, iv 8, rv o2, uu, uu, iv ((x9_6 * (100 : Int32)) - x9_4), iv 4, iv 0, iv x9_6, iv x9_4] rfl ?_)))))
 generalize hv6_7 : ((x9_6 * (100 : Int32)) - x9_4) = x6_7
 refine oD X491 hy d11_110 112 rfl (oxo X491 hy d11_112 114 #[jv (-q0), ss, iv 8, rv o2, uu, uu, iv x6_7, iv 4, iv 0, iv x9_6, iv x9_6] rfl (oA X491 hy d11_114 115 rfl (oxz X491 hy d11_115 118 #[jv (-q0), ss, iv 8, rv o2, uu, uu, iv x6_7, iv 3, iv 0, iv x9_6, iv x9_6] (-1) rfl rfl rfl (oD X491 hy d11_118 120 rfl (gS X491 hy hown hZ hw e491 wf d11_120 123 68 rfl fun T492 X492 e492 => oD X492 hy d11_123 125 rfl ?_)))))
 have hr2_0 : (x6_7).toInt = ((q0).toInt / 100 / 100) % 100 := by rw [← hv6_7, ← hv9_6]; exact own_r hI2 (by omega)
 refine aLB X492 hy hZ e492 wl d11_125 126 (.int (own_dg ((q0).toInt / 100 / 100))) (own_in hr2_0) (own_oneat hr2_0) ?_
 refine aSB X492 hy hZ e492 wv d11_126 127 ⟨by decide, by decide⟩ fun T495 h495 X495 e495 W495 => ?_
 rw [own_nardg] at W495
 have wl := wl.other W495 (Ne.symm wC)
 have wf := wf.wr W495
 have wn := wn.other W495 (Ne.symm wB)
 have wg := wg.wr W495
 have wv : Arv Z h495 o2 kb .byte 8 [.int 0, .int 0, .int 0, (.int (own_dg ((q0).toInt / 100 / 100))), (.int (own_dg ((q0).toInt / 100 / 10))), (.int (own_dg ((q0).toInt / 100))), (.int (own_dg ((q0).toInt / 10))), (.int (own_dg ((q0).toInt)))] (.int 0) := As wv (own_fitdg _) W495 3 rfl (Nat.le_of_ble_eq_true rfl)
 have K495 := K491.wr W495 (Or.inl mm0)
 have N495 := Fr.snoc X495 N491 wN
 refine oA X495 hy d11_127 128 rfl (oxz X495 hy d11_128 131 #[jv (-q0), ss, iv 8, rv o2, uu, uu, iv x6_7, iv 2, iv 0, iv x9_6, iv x9_6] (-1) rfl rfl rfl (oD X495 hy d11_131 133 rfl (gS X495 hy hown hZ hw e495 wg d11_133 136 218 rfl fun T496 X496 e496 => oD X496 hy d11_136 138 rfl ?_)))
 have hr2_1 : (x6_7).toInt = ((q0).toInt / 100 / 100) % 100 := by rw [← hv6_7, ← hv9_6]; exact own_r hI2 (by omega)
 refine aLB X496 hy hZ e496 wn d11_138 139 (.int (own_dg ((q0).toInt / 100 / 100 / 10))) (own_in hr2_1) (own_tenat hr2_1) ?_
 refine aSB X496 hy hZ e496 wv d11_139 140 ⟨by decide, by decide⟩ fun T499 h499 X499 e499 W499 => ?_
 rw [own_nardg] at W499
 have wl := wl.other W499 (Ne.symm wC)
 have wf := wf.wr W499
 have wn := wn.other W499 (Ne.symm wB)
 have wg := wg.wr W499
 have wv : Arv Z h499 o2 kb .byte 8 [.int 0, .int 0, (.int (own_dg ((q0).toInt / 100 / 100 / 10))), (.int (own_dg ((q0).toInt / 100 / 100))), (.int (own_dg ((q0).toInt / 100 / 10))), (.int (own_dg ((q0).toInt / 100))), (.int (own_dg ((q0).toInt / 10))), (.int (own_dg ((q0).toInt)))] (.int 0) := As wv (own_fitdg _) W499 2 rfl (Nat.le_of_ble_eq_true rfl)
 have K499 := K495.wr W499 (Or.inl mm0)
 have N499 := Fr.snoc X499 N495 wN
 refine oxm X499 hy d11_140 86 ?_
 have hI3 : x9_6.toInt = -((q0).toInt / 100 / 100 / 100) := by rw [← hv9_6]; exact own_q hI2 (by omega)
 show Ends p e below QQ (T499.setTop (mkF m 86 #[jv (-q0), ss, iv 8, rv o2, uu, uu, iv x6_7, iv 2, iv 0, iv x9_6, iv x9_6] []))
 refine oD X499 hy d11_86 88 rfl (oH X499 hy d11_88 90 (-100) rfl ?_)
 have hc90 : (-100 : Int32) < x9_6 := (own_exit hI3 (by omega))
 refine oxl X499 hy d11_90 143 (XT.ii_gt_t hc90) (oA X499 hy d11_143 144 rfl (oxz X499 hy d11_144 147 #[jv (-q0), ss, iv 8, rv o2, uu, uu, iv x6_7, iv 1, iv 0, iv x9_6, iv x9_6] (-1) rfl rfl rfl (oD X499 hy d11_147 149 rfl (gS X499 hy hown hZ hw e499 wf d11_149 152 68 rfl fun T500 X500 e500 => oD X500 hy d11_152 154 rfl (oQ X500 hy d11_154 155 ?_)))))
 have hr3_0 : ((-x9_6)).toInt = ((q0).toInt / 100 / 100 / 100) % 100 := own_nr hI3 (by omega) (by omega)
 refine aLB X500 hy hZ e500 wl d11_155 156 (.int (own_dg ((q0).toInt / 100 / 100 / 100))) (own_in hr3_0) (own_oneat hr3_0) ?_
 refine aSB X500 hy hZ e500 wv d11_156 157 ⟨by decide, by decide⟩ fun T503 h503 X503 e503 W503 => ?_
 rw [own_nardg] at W503
 have wn := wn.other W503 (Ne.symm wB)
 have wg := wg.wr W503
 have wv : Arv Z h503 o2 kb .byte 8 [.int 0, (.int (own_dg ((q0).toInt / 100 / 100 / 100))), (.int (own_dg ((q0).toInt / 100 / 100 / 10))), (.int (own_dg ((q0).toInt / 100 / 100))), (.int (own_dg ((q0).toInt / 100 / 10))), (.int (own_dg ((q0).toInt / 100))), (.int (own_dg ((q0).toInt / 10))), (.int (own_dg ((q0).toInt)))] (.int 0) := As wv (own_fitdg _) W503 1 rfl (Nat.le_of_ble_eq_true rfl)
 have K503 := K499.wr W503 (Or.inl mm0)
 have N503 := Fr.snoc X503 N499 wN
 refine oD X503 hy d11_157 159 rfl (oH X503 hy d11_159 161 (-9) rfl ?_)
 have hc161 : x9_6 < (-9 : Int32) := (own_two hI3 (by omega))
 refine oxi X503 hy d11_161 164 (XT.ii_ge_f hc161) (oA X503 hy d11_164 165 rfl (oxz X503 hy d11_165 168 #[jv (-q0), ss, iv 8, rv o2, uu, uu, iv x6_7, iv 0, iv 0, iv x9_6, iv x9_6] (-1) rfl rfl rfl (oD X503 hy d11_168 170 rfl (gS X503 hy hown hZ hw e503 wg d11_170 173 218 rfl fun T504 X504 e504 => oD X504 hy d11_173 175 rfl (oQ X504 hy d11_175 176 ?_)))))
 have hr3_1 : ((-x9_6)).toInt = ((q0).toInt / 100 / 100 / 100) % 100 := own_nr hI3 (by omega) (by omega)
 refine aLB X504 hy hZ e504 wn d11_176 177 (.int (own_dg ((q0).toInt / 100 / 100 / 100 / 10))) (own_in hr3_1) (own_tenat hr3_1) ?_
 refine aSB X504 hy hZ e504 wv d11_177 178 ⟨by decide, by decide⟩ fun T507 h507 X507 e507 W507 => ?_
 rw [own_nardg] at W507
 have wv : Arv Z h507 o2 kb .byte 8 [(.int (own_dg ((q0).toInt / 100 / 100 / 100 / 10))), (.int (own_dg ((q0).toInt / 100 / 100 / 100))), (.int (own_dg ((q0).toInt / 100 / 100 / 10))), (.int (own_dg ((q0).toInt / 100 / 100))), (.int (own_dg ((q0).toInt / 100 / 10))), (.int (own_dg ((q0).toInt / 100))), (.int (own_dg ((q0).toInt / 10))), (.int (own_dg ((q0).toInt)))] (.int 0) := As wv (own_fitdg _) W507 0 rfl (Nat.le_of_ble_eq_true rfl)
 have K507 := K503.wr W507 (Or.inl mm0)
 have N507 := Fr.snoc X507 N503 wN
 refine oD X507 hy d11_178 180 rfl (oxk X507 hy d11_180 192 (XT.i0_eq_t (by decide)) (oD X507 hy d11_192 194 rfl ?_))
 exact fI X507 hy hrt hlk hQQ d11_194 rfl (Or.inl rfl) e507 (by decide) ⟨rfl, N507, K507, wv⟩
def Qgc9 (Z : State) (q0 : Int64) (o2 : Addr) (kb : ClassId) (a_D1 : Addr) (k_a_D1 : ClassId) (a_D2 : Addr) (k_a_D2 : ClassId) (h0 : Heap) (n0 : Nat) : QT := fun v h L => (v = some (.int 0)) ∧ (Fr n0 L) ∧ (Keep h0 h [o2]) ∧ (Arv Z h o2 kb .byte 9 [(.int (own_dg ((q0).toInt / 100 / 100 / 100 / 100))), (.int (own_dg ((q0).toInt / 100 / 100 / 100 / 10))), (.int (own_dg ((q0).toInt / 100 / 100 / 100))), (.int (own_dg ((q0).toInt / 100 / 100 / 10))), (.int (own_dg ((q0).toInt / 100 / 100))), (.int (own_dg ((q0).toInt / 100 / 10))), (.int (own_dg ((q0).toInt / 100))), (.int (own_dg ((q0).toInt / 10))), (.int (own_dg ((q0).toInt)))] (.int 0))
theorem rmgc9 (l : Launch) (Z : State) (a0 : Array Value) (hw : TW a0 Z) (ws : List Jvm.Cond) (q0 : Int64) (o2 : Addr) (kb : ClassId) (a_D1 : Addr) (k_a_D1 : ClassId) (a_D2 : Addr) (k_a_D2 : ClassId) (h0 : Heap) (n0 : Nat) (Z0 : n0 ≤ h0.size) (wv : Arv Z h0 o2 kb .byte 9 [.int 0, .int 0, .int 0, .int 0, .int 0, .int 0, .int 0, .int 0, .int 0] (.int 0)) (wN : n0 ≤ o2) (wC : o2 ≠ a_D1) (wB : o2 ≠ a_D2) (wl : Arv Z h0 a_D1 k_a_D1 .byte 100 own_ones (.int 0)) (wf : sJQ Z h0 (.ref a_D1)) (wn : Arv Z h0 a_D2 k_a_D2 .byte 100 own_tens (.int 0)) (wg : sKQ Z h0 (.ref a_D2)) (g1 : (q0).toInt < 1000000000) (g2 : 100000000 ≤ (q0).toInt) :
  MF l mN6 jdk_35_method_14_code 11 (some .int) ws (rmm 0 0 0 0) #[.long q0, .int 9, .ref o2] Z h0 (Qgc9 Z q0 o2 kb a_D1 k_a_D1 a_D2 k_a_D2 h0 n0) := by
 refine MF.of (plainFor_of_name pn_7) ?_
 intro p e s m below meth c s₁ QQ hy hml hown hZ X0 e0 hrt hlk hnm hQQ
 have N0 := Fr.nil n0
 refine Ends.i #[jv q0, ss, iv 9, rv o2, uu, uu, uu, uu, uu, uu, uu] (oC X0 hy d11_0 1 rfl (oxo X0 hy d11_1 3 #[jv q0, ss, iv 9, rv o2, uu, uu, uu, iv 9, uu, uu, uu] rfl (oE X0 hy d11_3 4 rfl (oJ X0 hy d11_4 5 0 rfl (oY X0 hy d11_5 6 ?_)))))
 have hc6 : ¬ (q0 < (0 : Int64)) := (own_ge0 (by omega))
 refine oxk X0 hy d11_6 13 (XT.ll_ge_t hc6) (oG X0 hy d11_13 14 0 rfl (oxo X0 hy d11_14 16 #[jv q0, ss, iv 9, rv o2, uu, uu, uu, iv 9, iv 0, uu, uu] rfl (oD X0 hy d11_16 18 rfl (oxh X0 hy d11_18 21 (XT.i0_ne_f (by decide)) (oE X0 hy d11_21 22 rfl (oX X0 hy d11_22 23 (oxr X0 hy d11_23 24 #[jv (-q0), ss, iv 9, rv o2, uu, uu, uu, iv 9, iv 0, uu, uu] rfl (oE X0 hy d11_24 25 rfl (oJ2 X0 hy hown hZ hw d11_25 28 (-2147483648) 67 rfl ?_)))))))))
 refine oY X0 hy d11_28 29 ?_
 have hc29 : (-2147483648 : Int64) < (-q0) := (own_ng (P := 2147483648) (by decide) (by omega) (by omega))
 refine oxk X0 hy d11_29 82 (XT.ll_gt_t hc29) (oE X0 hy d11_82 83 rfl (oZ X0 hy d11_83 84 (oxo X0 hy d11_84 86 #[jv (-q0), ss, iv 9, rv o2, uu, uu, uu, iv 9, iv 0, uu, iv (-q0).toInt32] rfl ?_)))
 generalize hv10_1 : (-q0).toInt32 = x10_1
 have hI0 : x10_1.toInt = -((q0).toInt) := by rw [← hv10_1]; exact own_i0 (by omega) (by omega)
 refine oD X0 hy d11_86 88 rfl (oH X0 hy d11_88 90 (-100) rfl ?_)
 have hc90 : ¬ ((-100 : Int32) < x10_1) := (own_cont hI0 (by omega))
 refine oxi X0 hy d11_90 93 (XT.ii_gt_f hc90) (oD X0 hy d11_93 95 rfl (oH X0 hy d11_95 97 100 rfl (oR X0 hy d11_97 98 (by decide) (oxo X0 hy d11_98 100 #[jv (-q0), ss, iv 9, rv o2, uu, uu, uu, iv 9, iv 0, iv (x10_1 / (100 : Int32)), iv x10_1] rfl ?_))))
 generalize hv9_2 : (x10_1 / (100 : Int32)) = x9_2
 refine oD X0 hy d11_100 102 rfl (oH X0 hy d11_102 104 100 rfl (oM X0 hy d11_104 105 (oD X0 hy d11_105 107 rfl (oL X0 hy d11_107 108 (oxo X0 hy d11_108 110 #[jv (-q0), ss, iv 9, rv o2, uu, uu, iv ((x9_2 * (100 : Int32)) - x10_1), iv 9, iv 0, iv x9_2, iv x10_1] rfl ?_)))))
 generalize hv6_3 : ((x9_2 * (100 : Int32)) - x10_1) = x6_3
 refine oD X0 hy d11_110 112 rfl (oxo X0 hy d11_112 114 #[jv (-q0), ss, iv 9, rv o2, uu, uu, iv x6_3, iv 9, iv 0, iv x9_2, iv x9_2] rfl (oA X0 hy d11_114 115 rfl (oxz X0 hy d11_115 118 #[jv (-q0), ss, iv 9, rv o2, uu, uu, iv x6_3, iv 8, iv 0, iv x9_2, iv x9_2] (-1) rfl rfl rfl (oD X0 hy d11_118 120 rfl (gS X0 hy hown hZ hw e0 wf d11_120 123 68 rfl fun T508 X508 e508 => oD X508 hy d11_123 125 rfl ?_)))))
 have hr0_0 : (x6_3).toInt = ((q0).toInt) % 100 := by rw [← hv6_3, ← hv9_2]; exact own_r hI0 (by omega)
 refine aLB X508 hy hZ e508 wl d11_125 126 (.int (own_dg ((q0).toInt))) (own_in hr0_0) (own_oneat hr0_0) ?_
 refine aSB X508 hy hZ e508 wv d11_126 127 ⟨by decide, by decide⟩ fun T511 h511 X511 e511 W511 => ?_
 rw [own_nardg] at W511
 have wl := wl.other W511 (Ne.symm wC)
 have wf := wf.wr W511
 have wn := wn.other W511 (Ne.symm wB)
 have wg := wg.wr W511
 have wv : Arv Z h511 o2 kb .byte 9 [.int 0, .int 0, .int 0, .int 0, .int 0, .int 0, .int 0, .int 0, (.int (own_dg ((q0).toInt)))] (.int 0) := As wv (own_fitdg _) W511 8 rfl (Nat.le_of_ble_eq_true rfl)
 have K511 := (Keep.refl h0 [o2]).wr W511 (Or.inl mm0)
 have N511 := Fr.snoc X511 N0 wN
 refine oA X511 hy d11_127 128 rfl (oxz X511 hy d11_128 131 #[jv (-q0), ss, iv 9, rv o2, uu, uu, iv x6_3, iv 7, iv 0, iv x9_2, iv x9_2] (-1) rfl rfl rfl (oD X511 hy d11_131 133 rfl (gS X511 hy hown hZ hw e511 wg d11_133 136 218 rfl fun T512 X512 e512 => oD X512 hy d11_136 138 rfl ?_)))
 have hr0_1 : (x6_3).toInt = ((q0).toInt) % 100 := by rw [← hv6_3, ← hv9_2]; exact own_r hI0 (by omega)
 refine aLB X512 hy hZ e512 wn d11_138 139 (.int (own_dg ((q0).toInt / 10))) (own_in hr0_1) (own_tenat hr0_1) ?_
 refine aSB X512 hy hZ e512 wv d11_139 140 ⟨by decide, by decide⟩ fun T515 h515 X515 e515 W515 => ?_
 rw [own_nardg] at W515
 have wl := wl.other W515 (Ne.symm wC)
 have wf := wf.wr W515
 have wn := wn.other W515 (Ne.symm wB)
 have wg := wg.wr W515
 have wv : Arv Z h515 o2 kb .byte 9 [.int 0, .int 0, .int 0, .int 0, .int 0, .int 0, .int 0, (.int (own_dg ((q0).toInt / 10))), (.int (own_dg ((q0).toInt)))] (.int 0) := As wv (own_fitdg _) W515 7 rfl (Nat.le_of_ble_eq_true rfl)
 have K515 := K511.wr W515 (Or.inl mm0)
 have N515 := Fr.snoc X515 N511 wN
 refine oxm X515 hy d11_140 86 ?_
 have hI1 : x9_2.toInt = -((q0).toInt / 100) := by rw [← hv9_2]; exact own_q hI0 (by omega)
 show Ends p e below QQ (T515.setTop (mkF m 86 #[jv (-q0), ss, iv 9, rv o2, uu, uu, iv x6_3, iv 7, iv 0, iv x9_2, iv x9_2] []))
 refine oD X515 hy d11_86 88 rfl (oH X515 hy d11_88 90 (-100) rfl ?_)
 have hc90 : ¬ ((-100 : Int32) < x9_2) := (own_cont hI1 (by omega))
 refine oxi X515 hy d11_90 93 (XT.ii_gt_f hc90) (oD X515 hy d11_93 95 rfl (oH X515 hy d11_95 97 100 rfl (oR X515 hy d11_97 98 (by decide) (oxo X515 hy d11_98 100 #[jv (-q0), ss, iv 9, rv o2, uu, uu, iv x6_3, iv 7, iv 0, iv (x9_2 / (100 : Int32)), iv x9_2] rfl ?_))))
 generalize hv9_4 : (x9_2 / (100 : Int32)) = x9_4
 refine oD X515 hy d11_100 102 rfl (oH X515 hy d11_102 104 100 rfl (oM X515 hy d11_104 105 (oD X515 hy d11_105 107 rfl (oL X515 hy d11_107 108 (oxo X515 hy d11_108 110 #[jv (-q0), ss, iv 9, rv o2, uu, uu, iv ((x9_4 * (100 : Int32)) - x9_2), iv 7, iv 0, iv x9_4, iv x9_2] rfl ?_)))))
 generalize hv6_5 : ((x9_4 * (100 : Int32)) - x9_2) = x6_5
 refine oD X515 hy d11_110 112 rfl (oxo X515 hy d11_112 114 #[jv (-q0), ss, iv 9, rv o2, uu, uu, iv x6_5, iv 7, iv 0, iv x9_4, iv x9_4] rfl (oA X515 hy d11_114 115 rfl (oxz X515 hy d11_115 118 #[jv (-q0), ss, iv 9, rv o2, uu, uu, iv x6_5, iv 6, iv 0, iv x9_4, iv x9_4] (-1) rfl rfl rfl (oD X515 hy d11_118 120 rfl (gS X515 hy hown hZ hw e515 wf d11_120 123 68 rfl fun T516 X516 e516 => oD X516 hy d11_123 125 rfl ?_)))))
 have hr1_0 : (x6_5).toInt = ((q0).toInt / 100) % 100 := by rw [← hv6_5, ← hv9_4]; exact own_r hI1 (by omega)
 refine aLB X516 hy hZ e516 wl d11_125 126 (.int (own_dg ((q0).toInt / 100))) (own_in hr1_0) (own_oneat hr1_0) ?_
 refine aSB X516 hy hZ e516 wv d11_126 127 ⟨by decide, by decide⟩ fun T519 h519 X519 e519 W519 => ?_
 rw [own_nardg] at W519
 have wl := wl.other W519 (Ne.symm wC)
 have wf := wf.wr W519
 have wn := wn.other W519 (Ne.symm wB)
 have wg := wg.wr W519
 have wv : Arv Z h519 o2 kb .byte 9 [.int 0, .int 0, .int 0, .int 0, .int 0, .int 0, (.int (own_dg ((q0).toInt / 100))), (.int (own_dg ((q0).toInt / 10))), (.int (own_dg ((q0).toInt)))] (.int 0) := As wv (own_fitdg _) W519 6 rfl (Nat.le_of_ble_eq_true rfl)
 have K519 := K515.wr W519 (Or.inl mm0)
 have N519 := Fr.snoc X519 N515 wN
 refine oA X519 hy d11_127 128 rfl (oxz X519 hy d11_128 131 #[jv (-q0), ss, iv 9, rv o2, uu, uu, iv x6_5, iv 5, iv 0, iv x9_4, iv x9_4] (-1) rfl rfl rfl (oD X519 hy d11_131 133 rfl (gS X519 hy hown hZ hw e519 wg d11_133 136 218 rfl fun T520 X520 e520 => oD X520 hy d11_136 138 rfl ?_)))
 have hr1_1 : (x6_5).toInt = ((q0).toInt / 100) % 100 := by rw [← hv6_5, ← hv9_4]; exact own_r hI1 (by omega)
 refine aLB X520 hy hZ e520 wn d11_138 139 (.int (own_dg ((q0).toInt / 100 / 10))) (own_in hr1_1) (own_tenat hr1_1) ?_
 refine aSB X520 hy hZ e520 wv d11_139 140 ⟨by decide, by decide⟩ fun T523 h523 X523 e523 W523 => ?_
 rw [own_nardg] at W523
 have wl := wl.other W523 (Ne.symm wC)
 have wf := wf.wr W523
 have wn := wn.other W523 (Ne.symm wB)
 have wg := wg.wr W523
 have wv : Arv Z h523 o2 kb .byte 9 [.int 0, .int 0, .int 0, .int 0, .int 0, (.int (own_dg ((q0).toInt / 100 / 10))), (.int (own_dg ((q0).toInt / 100))), (.int (own_dg ((q0).toInt / 10))), (.int (own_dg ((q0).toInt)))] (.int 0) := As wv (own_fitdg _) W523 5 rfl (Nat.le_of_ble_eq_true rfl)
 have K523 := K519.wr W523 (Or.inl mm0)
 have N523 := Fr.snoc X523 N519 wN
 refine oxm X523 hy d11_140 86 ?_
 have hI2 : x9_4.toInt = -((q0).toInt / 100 / 100) := by rw [← hv9_4]; exact own_q hI1 (by omega)
 show Ends p e below QQ (T523.setTop (mkF m 86 #[jv (-q0), ss, iv 9, rv o2, uu, uu, iv x6_5, iv 5, iv 0, iv x9_4, iv x9_4] []))
 refine oD X523 hy d11_86 88 rfl (oH X523 hy d11_88 90 (-100) rfl ?_)
 have hc90 : ¬ ((-100 : Int32) < x9_4) := (own_cont hI2 (by omega))
 refine oxi X523 hy d11_90 93 (XT.ii_gt_f hc90) (oD X523 hy d11_93 95 rfl (oH X523 hy d11_95 97 100 rfl (oR X523 hy d11_97 98 (by decide) (oxo X523 hy d11_98 100 #[jv (-q0), ss, iv 9, rv o2, uu, uu, iv x6_5, iv 5, iv 0, iv (x9_4 / (100 : Int32)), iv x9_4] rfl ?_))))
 generalize hv9_6 : (x9_4 / (100 : Int32)) = x9_6
 refine oD X523 hy d11_100 102 rfl (oH X523 hy d11_102 104 100 rfl (oM X523 hy d11_104 105 (oD X523 hy d11_105 107 rfl (oL X523 hy d11_107 108 (oxo X523 hy d11_108 110 #[jv (-q0), ss, iv 9, rv o2, uu, uu, iv ((x9_6 * (100 : Int32)) - x9_4), iv 5, iv 0, iv x9_6, iv x9_4] rfl ?_)))))
 generalize hv6_7 : ((x9_6 * (100 : Int32)) - x9_4) = x6_7
 refine oD X523 hy d11_110 112 rfl (oxo X523 hy d11_112 114 #[jv (-q0), ss, iv 9, rv o2, uu, uu, iv x6_7, iv 5, iv 0, iv x9_6, iv x9_6] rfl (oA X523 hy d11_114 115 rfl (oxz X523 hy d11_115 118 #[jv (-q0), ss, iv 9, rv o2, uu, uu, iv x6_7, iv 4, iv 0, iv x9_6, iv x9_6] (-1) rfl rfl rfl (oD X523 hy d11_118 120 rfl (gS X523 hy hown hZ hw e523 wf d11_120 123 68 rfl fun T524 X524 e524 => oD X524 hy d11_123 125 rfl ?_)))))
 have hr2_0 : (x6_7).toInt = ((q0).toInt / 100 / 100) % 100 := by rw [← hv6_7, ← hv9_6]; exact own_r hI2 (by omega)
 refine aLB X524 hy hZ e524 wl d11_125 126 (.int (own_dg ((q0).toInt / 100 / 100))) (own_in hr2_0) (own_oneat hr2_0) ?_
 refine aSB X524 hy hZ e524 wv d11_126 127 ⟨by decide, by decide⟩ fun T527 h527 X527 e527 W527 => ?_
 rw [own_nardg] at W527
 have wl := wl.other W527 (Ne.symm wC)
 have wf := wf.wr W527
 have wn := wn.other W527 (Ne.symm wB)
 have wg := wg.wr W527
 have wv : Arv Z h527 o2 kb .byte 9 [.int 0, .int 0, .int 0, .int 0, (.int (own_dg ((q0).toInt / 100 / 100))), (.int (own_dg ((q0).toInt / 100 / 10))), (.int (own_dg ((q0).toInt / 100))), (.int (own_dg ((q0).toInt / 10))), (.int (own_dg ((q0).toInt)))] (.int 0) := As wv (own_fitdg _) W527 4 rfl (Nat.le_of_ble_eq_true rfl)
 have K527 := K523.wr W527 (Or.inl mm0)
 have N527 := Fr.snoc X527 N523 wN
 refine oA X527 hy d11_127 128 rfl (oxz X527 hy d11_128 131 #[jv (-q0), ss, iv 9, rv o2, uu, uu, iv x6_7, iv 3, iv 0, iv x9_6, iv x9_6] (-1) rfl rfl rfl (oD X527 hy d11_131 133 rfl (gS X527 hy hown hZ hw e527 wg d11_133 136 218 rfl fun T528 X528 e528 => oD X528 hy d11_136 138 rfl ?_)))
 have hr2_1 : (x6_7).toInt = ((q0).toInt / 100 / 100) % 100 := by rw [← hv6_7, ← hv9_6]; exact own_r hI2 (by omega)
 refine aLB X528 hy hZ e528 wn d11_138 139 (.int (own_dg ((q0).toInt / 100 / 100 / 10))) (own_in hr2_1) (own_tenat hr2_1) ?_
 refine aSB X528 hy hZ e528 wv d11_139 140 ⟨by decide, by decide⟩ fun T531 h531 X531 e531 W531 => ?_
 rw [own_nardg] at W531
 have wl := wl.other W531 (Ne.symm wC)
 have wf := wf.wr W531
 have wn := wn.other W531 (Ne.symm wB)
 have wg := wg.wr W531
 have wv : Arv Z h531 o2 kb .byte 9 [.int 0, .int 0, .int 0, (.int (own_dg ((q0).toInt / 100 / 100 / 10))), (.int (own_dg ((q0).toInt / 100 / 100))), (.int (own_dg ((q0).toInt / 100 / 10))), (.int (own_dg ((q0).toInt / 100))), (.int (own_dg ((q0).toInt / 10))), (.int (own_dg ((q0).toInt)))] (.int 0) := As wv (own_fitdg _) W531 3 rfl (Nat.le_of_ble_eq_true rfl)
 have K531 := K527.wr W531 (Or.inl mm0)
 have N531 := Fr.snoc X531 N527 wN
 refine oxm X531 hy d11_140 86 ?_
 have hI3 : x9_6.toInt = -((q0).toInt / 100 / 100 / 100) := by rw [← hv9_6]; exact own_q hI2 (by omega)
 show Ends p e below QQ (T531.setTop (mkF m 86 #[jv (-q0), ss, iv 9, rv o2, uu, uu, iv x6_7, iv 3, iv 0, iv x9_6, iv x9_6] []))
 refine oD X531 hy d11_86 88 rfl (oH X531 hy d11_88 90 (-100) rfl ?_)
 have hc90 : ¬ ((-100 : Int32) < x9_6) := (own_cont hI3 (by omega))
 refine oxi X531 hy d11_90 93 (XT.ii_gt_f hc90) (oD X531 hy d11_93 95 rfl (oH X531 hy d11_95 97 100 rfl (oR X531 hy d11_97 98 (by decide) (oxo X531 hy d11_98 100 #[jv (-q0), ss, iv 9, rv o2, uu, uu, iv x6_7, iv 3, iv 0, iv (x9_6 / (100 : Int32)), iv x9_6] rfl ?_))))
 generalize hv9_8 : (x9_6 / (100 : Int32)) = x9_8
 refine oD X531 hy d11_100 102 rfl (oH X531 hy d11_102 104 100 rfl (oM X531 hy d11_104 105 (oD X531 hy d11_105 107 rfl (oL X531 hy d11_107 108 (oxo X531 hy d11_108 110 #[jv (-q0), ss, iv 9, rv o2, uu, uu, iv ((x9_8 * (100 : Int32)) - x9_6), iv 3, iv 0, iv x9_8, iv x9_6] rfl ?_)))))
 generalize hv6_9 : ((x9_8 * (100 : Int32)) - x9_6) = x6_9
 refine oD X531 hy d11_110 112 rfl (oxo X531 hy d11_112 114 #[jv (-q0), ss, iv 9, rv o2, uu, uu, iv x6_9, iv 3, iv 0, iv x9_8, iv x9_8] rfl (oA X531 hy d11_114 115 rfl (oxz X531 hy d11_115 118 #[jv (-q0), ss, iv 9, rv o2, uu, uu, iv x6_9, iv 2, iv 0, iv x9_8, iv x9_8] (-1) rfl rfl rfl (oD X531 hy d11_118 120 rfl (gS X531 hy hown hZ hw e531 wf d11_120 123 68 rfl fun T532 X532 e532 => oD X532 hy d11_123 125 rfl ?_)))))
 have hr3_0 : (x6_9).toInt = ((q0).toInt / 100 / 100 / 100) % 100 := by rw [← hv6_9, ← hv9_8]; exact own_r hI3 (by omega)
 refine aLB X532 hy hZ e532 wl d11_125 126 (.int (own_dg ((q0).toInt / 100 / 100 / 100))) (own_in hr3_0) (own_oneat hr3_0) ?_
 refine aSB X532 hy hZ e532 wv d11_126 127 ⟨by decide, by decide⟩ fun T535 h535 X535 e535 W535 => ?_
 rw [own_nardg] at W535
 have wl := wl.other W535 (Ne.symm wC)
 have wf := wf.wr W535
 have wn := wn.other W535 (Ne.symm wB)
 have wg := wg.wr W535
 have wv : Arv Z h535 o2 kb .byte 9 [.int 0, .int 0, (.int (own_dg ((q0).toInt / 100 / 100 / 100))), (.int (own_dg ((q0).toInt / 100 / 100 / 10))), (.int (own_dg ((q0).toInt / 100 / 100))), (.int (own_dg ((q0).toInt / 100 / 10))), (.int (own_dg ((q0).toInt / 100))), (.int (own_dg ((q0).toInt / 10))), (.int (own_dg ((q0).toInt)))] (.int 0) := As wv (own_fitdg _) W535 2 rfl (Nat.le_of_ble_eq_true rfl)
 have K535 := K531.wr W535 (Or.inl mm0)
 have N535 := Fr.snoc X535 N531 wN
 refine oA X535 hy d11_127 128 rfl (oxz X535 hy d11_128 131 #[jv (-q0), ss, iv 9, rv o2, uu, uu, iv x6_9, iv 1, iv 0, iv x9_8, iv x9_8] (-1) rfl rfl rfl (oD X535 hy d11_131 133 rfl (gS X535 hy hown hZ hw e535 wg d11_133 136 218 rfl fun T536 X536 e536 => oD X536 hy d11_136 138 rfl ?_)))
 have hr3_1 : (x6_9).toInt = ((q0).toInt / 100 / 100 / 100) % 100 := by rw [← hv6_9, ← hv9_8]; exact own_r hI3 (by omega)
 refine aLB X536 hy hZ e536 wn d11_138 139 (.int (own_dg ((q0).toInt / 100 / 100 / 100 / 10))) (own_in hr3_1) (own_tenat hr3_1) ?_
 refine aSB X536 hy hZ e536 wv d11_139 140 ⟨by decide, by decide⟩ fun T539 h539 X539 e539 W539 => ?_
 rw [own_nardg] at W539
 have wl := wl.other W539 (Ne.symm wC)
 have wf := wf.wr W539
 have wv : Arv Z h539 o2 kb .byte 9 [.int 0, (.int (own_dg ((q0).toInt / 100 / 100 / 100 / 10))), (.int (own_dg ((q0).toInt / 100 / 100 / 100))), (.int (own_dg ((q0).toInt / 100 / 100 / 10))), (.int (own_dg ((q0).toInt / 100 / 100))), (.int (own_dg ((q0).toInt / 100 / 10))), (.int (own_dg ((q0).toInt / 100))), (.int (own_dg ((q0).toInt / 10))), (.int (own_dg ((q0).toInt)))] (.int 0) := As wv (own_fitdg _) W539 1 rfl (Nat.le_of_ble_eq_true rfl)
 have K539 := K535.wr W539 (Or.inl mm0)
 have N539 := Fr.snoc X539 N535 wN
 refine oxm X539 hy d11_140 86 ?_
 have hI4 : x9_8.toInt = -((q0).toInt / 100 / 100 / 100 / 100) := by rw [← hv9_8]; exact own_q hI3 (by omega)
 show Ends p e below QQ (T539.setTop (mkF m 86 #[jv (-q0), ss, iv 9, rv o2, uu, uu, iv x6_9, iv 1, iv 0, iv x9_8, iv x9_8] []))
 refine oD X539 hy d11_86 88 rfl (oH X539 hy d11_88 90 (-100) rfl ?_)
 have hc90 : (-100 : Int32) < x9_8 := (own_exit hI4 (by omega))
 refine oxl X539 hy d11_90 143 (XT.ii_gt_t hc90) (oA X539 hy d11_143 144 rfl (oxz X539 hy d11_144 147 #[jv (-q0), ss, iv 9, rv o2, uu, uu, iv x6_9, iv 0, iv 0, iv x9_8, iv x9_8] (-1) rfl rfl rfl (oD X539 hy d11_147 149 rfl (gS X539 hy hown hZ hw e539 wf d11_149 152 68 rfl fun T540 X540 e540 => oD X540 hy d11_152 154 rfl (oQ X540 hy d11_154 155 ?_)))))
 have hr4_0 : ((-x9_8)).toInt = ((q0).toInt / 100 / 100 / 100 / 100) % 100 := own_nr hI4 (by omega) (by omega)
 refine aLB X540 hy hZ e540 wl d11_155 156 (.int (own_dg ((q0).toInt / 100 / 100 / 100 / 100))) (own_in hr4_0) (own_oneat hr4_0) ?_
 refine aSB X540 hy hZ e540 wv d11_156 157 ⟨by decide, by decide⟩ fun T543 h543 X543 e543 W543 => ?_
 rw [own_nardg] at W543
 have wv : Arv Z h543 o2 kb .byte 9 [(.int (own_dg ((q0).toInt / 100 / 100 / 100 / 100))), (.int (own_dg ((q0).toInt / 100 / 100 / 100 / 10))), (.int (own_dg ((q0).toInt / 100 / 100 / 100))), (.int (own_dg ((q0).toInt / 100 / 100 / 10))), (.int (own_dg ((q0).toInt / 100 / 100))), (.int (own_dg ((q0).toInt / 100 / 10))), (.int (own_dg ((q0).toInt / 100))), (.int (own_dg ((q0).toInt / 10))), (.int (own_dg ((q0).toInt)))] (.int 0) := As wv (own_fitdg _) W543 0 rfl (Nat.le_of_ble_eq_true rfl)
 have K543 := K539.wr W543 (Or.inl mm0)
 have N543 := Fr.snoc X543 N539 wN
 refine oD X543 hy d11_157 159 rfl (oH X543 hy d11_159 161 (-9) rfl ?_)
 have hc161 : ¬ (x9_8 < (-9 : Int32)) := (own_one hI4 (by omega))
 refine oxl X543 hy d11_161 178 (XT.ii_ge_t hc161) (oD X543 hy d11_178 180 rfl (oxk X543 hy d11_180 192 (XT.i0_eq_t (by decide)) (oD X543 hy d11_192 194 rfl ?_)))
 exact fI X543 hy hrt hlk hQQ d11_194 rfl (Or.inl rfl) e543 (by decide) ⟨rfl, N543, K543, wv⟩
theorem d12_0 : decode cD20 0 = .ok (.aload_n 0, 1) := by decide +kernel
theorem d12_1 : decode cD20 1 = .ok (.invokespecial 1, 3) := by decide +kernel
theorem d12_4 : decode cD20 4 = .ok (.aload_n 0, 1) := by decide +kernel
theorem d12_5 : decode cD20 5 = .ok (.aload_n 1, 1) := by decide +kernel
theorem d12_6 : decode cD20 6 = .ok (.putfield 9, 3) := by decide +kernel
theorem d12_9 : decode cD20 9 = .ok (.aload_n 0, 1) := by decide +kernel
theorem d12_10 : decode cD20 10 = .ok (.iload_n 2, 1) := by decide +kernel
theorem d12_11 : decode cD20 11 = .ok (.putfield 15, 3) := by decide +kernel
theorem d12_14 : decode cD20 14 = .ok (.return_, 1) := by decide +kernel
def Qsib (Z : State) (o0 o1 : Addr) (u1 : Value) (u2 : Int32) (h0 : Heap) (n0 : Nat) : QT := fun v h L => (v = none) ∧ (Fr n0 L) ∧ (Keep h0 h [o0]) ∧ (eAQ Z h o0) ∧ (fBQ Z h o0 (.ref o1)) ∧ (fAQ Z h o0 (.int 0))
theorem rmsib (l : Launch) (Z : State) (a0 : Array Value) (hw : TW a0 Z) (ws : List Jvm.Cond) (o0 o1 : Addr) (u1 : Value) (u2 : Int32) (h0 : Heap) (n0 : Nat) (Z0 : n0 ≤ h0.size) (wh : eAQ Z h0 o0) (wd : fBQ Z h0 o0 u1) (wb : fAQ Z h0 o0 (.int u2)) (wy : n0 ≤ o0) :
  MF l mN39 jdk_42_method_151_code 3 none ws (rmm 1 0 0 12) #[.ref o0, .ref o1, .int 0] Z h0 (Qsib Z o0 o1 u1 u2 h0 n0) := by
 refine MF.of (plainFor_of_name pn_0) ?_
 intro p e s m below meth c s₁ QQ hy hml hown hZ X0 e0 hrt hlk hnm hQQ
 have hx := hy.1
 have hby := hy.2
 have N0 := Fr.nil n0
 refine Ends.i #[rv o0, rv o1, iv 0] (oA X0 hy d12_0 1 rfl ?_)
 obtain ⟨T544, X544, e544, st544⟩ := initO X0 hx hZ hown (tb hw 76 rfl) (tb hw 18 rfl) (tb hw 19 rfl) e0 (g := (mkF m 1 #[rv o0, rv o1, iv 0] [.ref o0])) rfl (by rw [hml]; rfl) rfl (hb hby d12_1) (by decide) (W := 0) (by show 2 * 0 + _ ≤ _; exact Nat.le_of_eq rfl) (by decide)
 refine Ends.j 4 [] st544 ?_
 refine oA X544 hy d12_4 5 rfl (oA X544 hy d12_5 6 rfl ?_)
 obtain ⟨T545, h545, X545, e545, W545, st545⟩ := putF X544 hx hZ hown (host := "") (Or.inl (tb hw 77 rfl)) Via.refl e544 wd wh (Or.inr ⟨(tb hw 78 rfl), rfl, hnm⟩) (tb hw 71 rfl) (ty := (.array .byte)) (by decide) rfl rfl (g := (mkF m 6 #[rv o0, rv o1, iv 0] [.ref o1, .ref o0])) rfl rfl (hb hby d12_6)
 have wh := wh.wr W545
 have wb := wb.other W545 (Or.inr (slot_ne (Or.inr (tb hw 80 rfl)) (Or.inr (tb hw 78 rfl)) (by decide) (t := .byte) (t' := (.array .byte)) (by decide) (by decide)))
 have wd : fBQ Z h545 o0 (.ref o1) := wd.same W545
 have K545 := (Keep.refl h0 [o0]).wr W545 (Or.inl mm0)
 have N545 := Fr.snoc X545 N0 wy
 refine Ends.j 9 [] st545 ?_
 refine oA X545 hy d12_9 10 rfl (oC X545 hy d12_10 11 rfl ?_)
 obtain ⟨T546, h546, X546, e546, W546, st546⟩ := putFN X545 hx hZ hown (tb hw 79 rfl) Via.refl e545 wb wh (Or.inr ⟨(tb hw 80 rfl), rfl, hnm⟩) (tb hw 71 rfl) (ty := .byte) (v' := (.int 0)) (by decide) rfl rfl (g := (mkF m 11 #[rv o0, rv o1, iv 0] [.int 0, .ref o0])) rfl rfl (hb hby d12_11)
 have wh := wh.wr W546
 have wd := wd.other W546 (Or.inr (slot_ne (Or.inr (tb hw 78 rfl)) (Or.inr (tb hw 80 rfl)) (by decide) (t := (.array .byte)) (t' := .byte) (by decide) (by decide)))
 have wb : fAQ Z h546 o0 (.int 0) := wb.same W546
 have K546 := K545.wr W546 (Or.inl mm0)
 have N546 := Fr.snoc X546 N545 wy
 refine Ends.j 14 [] st546 ?_
 exact fV X546 hy hrt hlk hQQ d12_14 e546 (by decide) ⟨rfl, N546, K546, wh, wd, wb⟩
theorem d9_0 : decode cD11 0 = .ok (.lload_n 0, 1) := by decide +kernel
theorem d9_1 : decode cD11 1 = .ok (.invokestatic 118, 3) := by decide +kernel
theorem d9_4 : decode cD11 4 = .ok (.istore_n 2, 1) := by decide +kernel
theorem d9_5 : decode cD11 5 = .ok (.getstatic 13, 3) := by decide +kernel
theorem d9_8 : decode cD11 8 = .ok (.ifCond .eq 24, 3) := by decide +kernel
theorem d9_11 : decode cD11 11 = .ok (.iload_n 2, 1) := by decide +kernel
theorem d9_12 : decode cD11 12 = .ok (.newarray .byte, 2) := by decide +kernel
theorem d9_14 : decode cD11 14 = .ok (.astore_n 3, 1) := by decide +kernel
theorem d9_15 : decode cD11 15 = .ok (.lload_n 0, 1) := by decide +kernel
theorem d9_16 : decode cD11 16 = .ok (.iload_n 2, 1) := by decide +kernel
theorem d9_17 : decode cD11 17 = .ok (.aload_n 3, 1) := by decide +kernel
theorem d9_18 : decode cD11 18 = .ok (.invokestatic 121, 3) := by decide +kernel
theorem d9_21 : decode cD11 21 = .ok (.pop, 1) := by decide +kernel
theorem d9_22 : decode cD11 22 = .ok (.new 5, 3) := by decide +kernel
theorem d9_25 : decode cD11 25 = .ok (.dup, 1) := by decide +kernel
theorem d9_26 : decode cD11 26 = .ok (.aload_n 3, 1) := by decide +kernel
theorem d9_27 : decode cD11 27 = .ok (.iconst 0, 1) := by decide +kernel
theorem d9_28 : decode cD11 28 = .ok (.invokespecial 112, 3) := by decide +kernel
theorem d9_31 : decode cD11 31 = .ok (.areturn, 1) := by decide +kernel
def Qts1 (Z : State) (q0 : Int64) (cs : Int32) (a_D1 : Addr) (k_a_D1 : ClassId) (a_D2 : Addr) (k_a_D2 : ClassId) (h0 : Heap) (n0 : Nat) : QT := fun v h L => ∃ (sx : Addr), ∃ (sa : Addr), ∃ (sk : ClassId), (v = some (.ref sx)) ∧ (Fr n0 L) ∧ (Keep h0 h []) ∧ (h0.size ≤ sx) ∧ (h0.size ≤ sa) ∧ (n0 ≤ sx) ∧ (n0 ≤ sa) ∧ (eAQ Z h sx) ∧ (fBQ Z h sx (.ref sa)) ∧ (fAQ Z h sx (.int 0)) ∧ (eCQ Z h sa) ∧ (Arv Z h sa sk .byte 1 [(.int (own_dg ((q0).toInt)))] (.int 0)) ∧ (sx ≠ sa)
theorem rmts1 (l : Launch) (Z : State) (a0 : Array Value) (hw : TW a0 Z) (ws : List Jvm.Cond) (q0 : Int64) (cs : Int32) (a_D1 : Addr) (k_a_D1 : ClassId) (a_D2 : Addr) (k_a_D2 : ClassId) (h0 : Heap) (n0 : Nat) (Z0 : n0 ≤ h0.size) (wa : sHQ Z h0 (.int cs)) (hcs : ¬ cs = (0 : Int32)) (wl : Arv Z h0 a_D1 k_a_D1 .byte 100 own_ones (.int 0)) (wf : sJQ Z h0 (.ref a_D1)) (wn : Arv Z h0 a_D2 k_a_D2 .byte 100 own_tens (.int 0)) (wg : sKQ Z h0 (.ref a_D2)) (g1 : (q0).toInt < 10) (g2 : 0 ≤ (q0).toInt) :
  MF l mN7 jdk_35_method_12_code 4 (some (.object "java/lang/String")) ws (rmm 2 2 5 27) #[.long q0] Z h0 (Qts1 Z q0 cs a_D1 k_a_D1 a_D2 k_a_D2 h0 n0) := by
 refine MF.of (plainFor_of_name pn_7) ?_
 intro p e s m below meth c s₁ QQ hy hml hown hZ X0 e0 hrt hlk hnm hQQ
 have hx := hy.1
 have hby := hy.2
 have N0 := Fr.nil n0
 refine Ends.i #[jv q0, ss, uu, uu] (oE X0 hy d9_0 1 rfl ?_)
 refine cS X0 hy hml hown hZ hw d9_1 4 0 59 60 57 61 rfl rfl rfl rfl (rmss1 l Z a0 hw [] q0 h0 n0 Z0 g1 g2) e0 pd_21 rfl rfl fun _ T547 Lc547 X547 hQ547 => ?_
 obtain ⟨rfl, Nq547, hh547⟩ := hQ547
 have N547 := Fr.app N0 Nq547
 refine Ends.v (oxp X547 hy d9_4 5 #[jv q0, ss, iv 1, uu] rfl (gS X547 hy hown hZ hw hh547 wa d9_5 8 63 rfl fun T548 X548 e548 => ?_))
 have hc8 : ¬ (cs = (0 : Int32)) := hcs
 refine oxh X548 hy d9_8 11 (XT.i0_eq_f hc8) (oC X548 hy d9_11 12 rfl ?_)
 obtain ⟨T549, h549, k549, X549, e549, E549, A549, Y549, st549⟩ := newPE X548 hx hZ (tb hw 45 rfl) e548 (g := (mkF m 12 #[jv q0, ss, iv 1, uu] [.int 1])) rfl (hb hby d9_12) rfl (by decide) (cap := 1) (by decide) (by decide) (by decide) (by decide) (ad := "[B") (by decide)
 obtain ⟨b549, g549⟩ : ∃ z, z = h0.size := ⟨_, rfl⟩
 rw [← g549] at A549 Y549 st549
 have Kr : a_D1 ≠ b549 := Nat.ne_of_lt (Nat.lt_of_lt_of_le wl.lt (Nat.le_of_eq g549.symm))
 have VY : a_D2 ≠ b549 := Nat.ne_of_lt (Nat.lt_of_lt_of_le wn.lt (Nat.le_of_eq g549.symm))
 have Uw : n0 ≤ b549 := Nat.le_trans Z0 (Nat.le_trans (Keep.refl h0 []).1 (Nat.le_of_eq g549.symm))
 have Ju : h0.size ≤ b549 := Nat.le_trans (Keep.refl h0 []).1 (Nat.le_of_eq g549.symm)
 have wl := wl.ext E549
 have wf := wf.ext E549
 have wn := wn.ext E549
 have wg := wg.ext E549
 have K549 := (Keep.refl h0 []).ext E549
 have jT := Y549
 have uR : Arv Z h549 b549 k549 .byte 1 [.int 0] (.int 0) := (Arv.new A549 (by decide)).pad (pad_rep [] (.int 0) 1)
 refine Ends.j 14 [.ref b549] st549 ?_
 refine oxt X549 hy d9_14 15 #[jv q0, ss, iv 1, rv b549] rfl (oE X549 hy d9_15 16 rfl (oC X549 hy d9_16 17 rfl (oA X549 hy d9_17 18 rfl ?_)))
 refine cS X549 hy hml hown hZ hw d9_18 21 0 64 65 57 66 rfl rfl rfl rfl (rmgc1 l Z a0 hw [] q0 b549 k549 a_D1 k_a_D1 a_D2 k_a_D2 h549 n0 (Nat.le_trans Z0 K549.1) uR Uw (Ne.symm Kr) (Ne.symm VY) wl wf wn wg g1 g2) e549 pd_22 rfl rfl fun _ T550 Lc550 X550 hQ550 => ?_
 obtain ⟨rfl, Nq550, Kq550, uR⟩ := hQ550
 have N550 := Fr.app N547 Nq550
 have jT := jT.keep Kq550
 have K550 := K549.trans Kq550 (allS (Or.inr Ju) all0)
 refine Ends.v (oxe X550 hy d9_21 22 rfl ?_)
 obtain ⟨T551, h551, X551, e551, E551, A551, D551, U551, st551⟩ := newO X550 hx hZ hown (tb hw 70 rfl) (tb hw 71 rfl) (tb hw 44 rfl) rfl (g := (mkF m 22 #[jv q0, ss, iv 1, rv b549] [])) rfl (hb hby d9_22) (by decide) (by decide)
 obtain ⟨b551, g551⟩ : ∃ z, z = T550.heap.size := ⟨_, rfl⟩
 rw [← g551] at A551 D551 U551 st551
 have zz : b549 ≠ b551 := Nat.ne_of_lt (Nat.lt_of_lt_of_le jT.lt (Nat.le_of_eq g551.symm))
 have Uv : n0 ≤ b551 := Nat.le_trans Z0 (Nat.le_trans K550.1 (Nat.le_of_eq g551.symm))
 have Jt : h0.size ≤ b551 := Nat.le_trans K550.1 (Nat.le_of_eq g551.symm)
 have jT := jT.ext E551
 have uR := uR.ext E551
 have K551 := K550.ext E551
 have KC := A551
 have um : fBQ Z h551 b551 .null := D551 (Or.inr (tb hw 78 rfl)) (ty := (.array .byte)) (by decide)
 have uB : fAQ Z h551 b551 (.int 0) := D551 (Or.inr (tb hw 80 rfl)) (ty := .byte) (by decide)
 refine Ends.j 25 [.ref b551] st551 ?_
 refine oxd X551 hy d9_25 26 rfl (oA X551 hy d9_26 27 rfl (oG X551 hy d9_27 28 0 rfl ?_))
 refine cI X551 hy hml hown hZ hw d9_28 31 1 72 73 75 44 rfl rfl rfl rfl rfl (rmsib l Z a0 hw [] b551 b549 (.null : Value) (0 : Int32) h551 n0 (Nat.le_trans Z0 K551.1) KC um uB Uv) e551 pd_23 rfl rfl fun _ T552 Lc552 X552 hQ552 => ?_
 obtain ⟨rfl, Nq552, Kq552, KC, um, uB⟩ := hQ552
 have N552 := Fr.app N550 Nq552
 have jT := jT.keep Kq552
 have uR := uR.keep Kq552 (ninS zz nin0)
 have K552 := K551.trans Kq552 (allS (Or.inr Jt) all0)
 refine Ends.u ?_
 exact fA X552 hy hrt hlk hQQ d9_31 rfl rfl rfl (by decide) ⟨b551, b549, k549, rfl, N552, K552, Jt, Ju, Uv, Uw, KC, um, uB, jT, uR, (Ne.symm zz)⟩
def Qts2 (Z : State) (q0 : Int64) (cs : Int32) (a_D1 : Addr) (k_a_D1 : ClassId) (a_D2 : Addr) (k_a_D2 : ClassId) (h0 : Heap) (n0 : Nat) : QT := fun v h L => ∃ (sx : Addr), ∃ (sa : Addr), ∃ (sk : ClassId), (v = some (.ref sx)) ∧ (Fr n0 L) ∧ (Keep h0 h []) ∧ (h0.size ≤ sx) ∧ (h0.size ≤ sa) ∧ (n0 ≤ sx) ∧ (n0 ≤ sa) ∧ (eAQ Z h sx) ∧ (fBQ Z h sx (.ref sa)) ∧ (fAQ Z h sx (.int 0)) ∧ (eCQ Z h sa) ∧ (Arv Z h sa sk .byte 2 [(.int (own_dg ((q0).toInt / 10))), (.int (own_dg ((q0).toInt)))] (.int 0)) ∧ (sx ≠ sa)
theorem rmts2 (l : Launch) (Z : State) (a0 : Array Value) (hw : TW a0 Z) (ws : List Jvm.Cond) (q0 : Int64) (cs : Int32) (a_D1 : Addr) (k_a_D1 : ClassId) (a_D2 : Addr) (k_a_D2 : ClassId) (h0 : Heap) (n0 : Nat) (Z0 : n0 ≤ h0.size) (wa : sHQ Z h0 (.int cs)) (hcs : ¬ cs = (0 : Int32)) (wl : Arv Z h0 a_D1 k_a_D1 .byte 100 own_ones (.int 0)) (wf : sJQ Z h0 (.ref a_D1)) (wn : Arv Z h0 a_D2 k_a_D2 .byte 100 own_tens (.int 0)) (wg : sKQ Z h0 (.ref a_D2)) (g1 : (q0).toInt < 100) (g2 : 10 ≤ (q0).toInt) :
  MF l mN7 jdk_35_method_12_code 4 (some (.object "java/lang/String")) ws (rmm 2 2 6 27) #[.long q0] Z h0 (Qts2 Z q0 cs a_D1 k_a_D1 a_D2 k_a_D2 h0 n0) := by
 refine MF.of (plainFor_of_name pn_7) ?_
 intro p e s m below meth c s₁ QQ hy hml hown hZ X0 e0 hrt hlk hnm hQQ
 have hx := hy.1
 have hby := hy.2
 have N0 := Fr.nil n0
 refine Ends.i #[jv q0, ss, uu, uu] (oE X0 hy d9_0 1 rfl ?_)
 refine cS X0 hy hml hown hZ hw d9_1 4 0 59 60 57 61 rfl rfl rfl rfl (rmss2 l Z a0 hw [] q0 h0 n0 Z0 g1 g2) e0 pd_21 rfl rfl fun _ T553 Lc553 X553 hQ553 => ?_
 obtain ⟨rfl, Nq553, hh553⟩ := hQ553
 have N553 := Fr.app N0 Nq553
 refine Ends.v (oxp X553 hy d9_4 5 #[jv q0, ss, iv 2, uu] rfl (gS X553 hy hown hZ hw hh553 wa d9_5 8 63 rfl fun T554 X554 e554 => ?_))
 have hc8 : ¬ (cs = (0 : Int32)) := hcs
 refine oxh X554 hy d9_8 11 (XT.i0_eq_f hc8) (oC X554 hy d9_11 12 rfl ?_)
 obtain ⟨T555, h555, k555, X555, e555, E555, A555, Y555, st555⟩ := newPE X554 hx hZ (tb hw 45 rfl) e554 (g := (mkF m 12 #[jv q0, ss, iv 2, uu] [.int 2])) rfl (hb hby d9_12) rfl (by decide) (cap := 2) (by decide) (by decide) (by decide) (by decide) (ad := "[B") (by decide)
 obtain ⟨b555, g555⟩ : ∃ z, z = h0.size := ⟨_, rfl⟩
 rw [← g555] at A555 Y555 st555
 have Kq : a_D1 ≠ b555 := Nat.ne_of_lt (Nat.lt_of_lt_of_le wl.lt (Nat.le_of_eq g555.symm))
 have VX : a_D2 ≠ b555 := Nat.ne_of_lt (Nat.lt_of_lt_of_le wn.lt (Nat.le_of_eq g555.symm))
 have Uu : n0 ≤ b555 := Nat.le_trans Z0 (Nat.le_trans (Keep.refl h0 []).1 (Nat.le_of_eq g555.symm))
 have Js : h0.size ≤ b555 := Nat.le_trans (Keep.refl h0 []).1 (Nat.le_of_eq g555.symm)
 have wl := wl.ext E555
 have wf := wf.ext E555
 have wn := wn.ext E555
 have wg := wg.ext E555
 have K555 := (Keep.refl h0 []).ext E555
 have jS := Y555
 have uQ : Arv Z h555 b555 k555 .byte 2 [.int 0, .int 0] (.int 0) := (Arv.new A555 (by decide)).pad (pad_rep [] (.int 0) 2)
 refine Ends.j 14 [.ref b555] st555 ?_
 refine oxt X555 hy d9_14 15 #[jv q0, ss, iv 2, rv b555] rfl (oE X555 hy d9_15 16 rfl (oC X555 hy d9_16 17 rfl (oA X555 hy d9_17 18 rfl ?_)))
 refine cS X555 hy hml hown hZ hw d9_18 21 0 64 65 57 66 rfl rfl rfl rfl (rmgc2 l Z a0 hw [] q0 b555 k555 a_D1 k_a_D1 a_D2 k_a_D2 h555 n0 (Nat.le_trans Z0 K555.1) uQ Uu (Ne.symm Kq) (Ne.symm VX) wl wf wn wg g1 g2) e555 pd_22 rfl rfl fun _ T556 Lc556 X556 hQ556 => ?_
 obtain ⟨rfl, Nq556, Kq556, uQ⟩ := hQ556
 have N556 := Fr.app N553 Nq556
 have jS := jS.keep Kq556
 have K556 := K555.trans Kq556 (allS (Or.inr Js) all0)
 refine Ends.v (oxe X556 hy d9_21 22 rfl ?_)
 obtain ⟨T557, h557, X557, e557, E557, A557, D557, U557, st557⟩ := newO X556 hx hZ hown (tb hw 70 rfl) (tb hw 71 rfl) (tb hw 44 rfl) rfl (g := (mkF m 22 #[jv q0, ss, iv 2, rv b555] [])) rfl (hb hby d9_22) (by decide) (by decide)
 obtain ⟨b557, g557⟩ : ∃ z, z = T556.heap.size := ⟨_, rfl⟩
 rw [← g557] at A557 D557 U557 st557
 have zy : b555 ≠ b557 := Nat.ne_of_lt (Nat.lt_of_lt_of_le jS.lt (Nat.le_of_eq g557.symm))
 have Ut : n0 ≤ b557 := Nat.le_trans Z0 (Nat.le_trans K556.1 (Nat.le_of_eq g557.symm))
 have Jr : h0.size ≤ b557 := Nat.le_trans K556.1 (Nat.le_of_eq g557.symm)
 have jS := jS.ext E557
 have uQ := uQ.ext E557
 have K557 := K556.ext E557
 have KB := A557
 have ul : fBQ Z h557 b557 .null := D557 (Or.inr (tb hw 78 rfl)) (ty := (.array .byte)) (by decide)
 have uA : fAQ Z h557 b557 (.int 0) := D557 (Or.inr (tb hw 80 rfl)) (ty := .byte) (by decide)
 refine Ends.j 25 [.ref b557] st557 ?_
 refine oxd X557 hy d9_25 26 rfl (oA X557 hy d9_26 27 rfl (oG X557 hy d9_27 28 0 rfl ?_))
 refine cI X557 hy hml hown hZ hw d9_28 31 1 72 73 75 44 rfl rfl rfl rfl rfl (rmsib l Z a0 hw [] b557 b555 (.null : Value) (0 : Int32) h557 n0 (Nat.le_trans Z0 K557.1) KB ul uA Ut) e557 pd_23 rfl rfl fun _ T558 Lc558 X558 hQ558 => ?_
 obtain ⟨rfl, Nq558, Kq558, KB, ul, uA⟩ := hQ558
 have N558 := Fr.app N556 Nq558
 have jS := jS.keep Kq558
 have uQ := uQ.keep Kq558 (ninS zy nin0)
 have K558 := K557.trans Kq558 (allS (Or.inr Jr) all0)
 refine Ends.u ?_
 exact fA X558 hy hrt hlk hQQ d9_31 rfl rfl rfl (by decide) ⟨b557, b555, k555, rfl, N558, K558, Jr, Js, Ut, Uu, KB, ul, uA, jS, uQ, (Ne.symm zy)⟩
def Qts3 (Z : State) (q0 : Int64) (cs : Int32) (a_D1 : Addr) (k_a_D1 : ClassId) (a_D2 : Addr) (k_a_D2 : ClassId) (h0 : Heap) (n0 : Nat) : QT := fun v h L => ∃ (sx : Addr), ∃ (sa : Addr), ∃ (sk : ClassId), (v = some (.ref sx)) ∧ (Fr n0 L) ∧ (Keep h0 h []) ∧ (h0.size ≤ sx) ∧ (h0.size ≤ sa) ∧ (n0 ≤ sx) ∧ (n0 ≤ sa) ∧ (eAQ Z h sx) ∧ (fBQ Z h sx (.ref sa)) ∧ (fAQ Z h sx (.int 0)) ∧ (eCQ Z h sa) ∧ (Arv Z h sa sk .byte 3 [(.int (own_dg ((q0).toInt / 100))), (.int (own_dg ((q0).toInt / 10))), (.int (own_dg ((q0).toInt)))] (.int 0)) ∧ (sx ≠ sa)
theorem rmts3 (l : Launch) (Z : State) (a0 : Array Value) (hw : TW a0 Z) (ws : List Jvm.Cond) (q0 : Int64) (cs : Int32) (a_D1 : Addr) (k_a_D1 : ClassId) (a_D2 : Addr) (k_a_D2 : ClassId) (h0 : Heap) (n0 : Nat) (Z0 : n0 ≤ h0.size) (wa : sHQ Z h0 (.int cs)) (hcs : ¬ cs = (0 : Int32)) (wl : Arv Z h0 a_D1 k_a_D1 .byte 100 own_ones (.int 0)) (wf : sJQ Z h0 (.ref a_D1)) (wn : Arv Z h0 a_D2 k_a_D2 .byte 100 own_tens (.int 0)) (wg : sKQ Z h0 (.ref a_D2)) (g1 : (q0).toInt < 1000) (g2 : 100 ≤ (q0).toInt) :
  MF l mN7 jdk_35_method_12_code 4 (some (.object "java/lang/String")) ws (rmm 2 2 7 27) #[.long q0] Z h0 (Qts3 Z q0 cs a_D1 k_a_D1 a_D2 k_a_D2 h0 n0) := by
 refine MF.of (plainFor_of_name pn_7) ?_
 intro p e s m below meth c s₁ QQ hy hml hown hZ X0 e0 hrt hlk hnm hQQ
 have hx := hy.1
 have hby := hy.2
 have N0 := Fr.nil n0
 refine Ends.i #[jv q0, ss, uu, uu] (oE X0 hy d9_0 1 rfl ?_)
 refine cS X0 hy hml hown hZ hw d9_1 4 0 59 60 57 61 rfl rfl rfl rfl (rmss3 l Z a0 hw [] q0 h0 n0 Z0 g1 g2) e0 pd_21 rfl rfl fun _ T559 Lc559 X559 hQ559 => ?_
 obtain ⟨rfl, Nq559, hh559⟩ := hQ559
 have N559 := Fr.app N0 Nq559
 refine Ends.v (oxp X559 hy d9_4 5 #[jv q0, ss, iv 3, uu] rfl (gS X559 hy hown hZ hw hh559 wa d9_5 8 63 rfl fun T560 X560 e560 => ?_))
 have hc8 : ¬ (cs = (0 : Int32)) := hcs
 refine oxh X560 hy d9_8 11 (XT.i0_eq_f hc8) (oC X560 hy d9_11 12 rfl ?_)
 obtain ⟨T561, h561, k561, X561, e561, E561, A561, Y561, st561⟩ := newPE X560 hx hZ (tb hw 45 rfl) e560 (g := (mkF m 12 #[jv q0, ss, iv 3, uu] [.int 3])) rfl (hb hby d9_12) rfl (by decide) (cap := 3) (by decide) (by decide) (by decide) (by decide) (ad := "[B") (by decide)
 obtain ⟨b561, g561⟩ : ∃ z, z = h0.size := ⟨_, rfl⟩
 rw [← g561] at A561 Y561 st561
 have Kp : a_D1 ≠ b561 := Nat.ne_of_lt (Nat.lt_of_lt_of_le wl.lt (Nat.le_of_eq g561.symm))
 have VW : a_D2 ≠ b561 := Nat.ne_of_lt (Nat.lt_of_lt_of_le wn.lt (Nat.le_of_eq g561.symm))
 have Us : n0 ≤ b561 := Nat.le_trans Z0 (Nat.le_trans (Keep.refl h0 []).1 (Nat.le_of_eq g561.symm))
 have Jq : h0.size ≤ b561 := Nat.le_trans (Keep.refl h0 []).1 (Nat.le_of_eq g561.symm)
 have wl := wl.ext E561
 have wf := wf.ext E561
 have wn := wn.ext E561
 have wg := wg.ext E561
 have K561 := (Keep.refl h0 []).ext E561
 have jR := Y561
 have uP : Arv Z h561 b561 k561 .byte 3 [.int 0, .int 0, .int 0] (.int 0) := (Arv.new A561 (by decide)).pad (pad_rep [] (.int 0) 3)
 refine Ends.j 14 [.ref b561] st561 ?_
 refine oxt X561 hy d9_14 15 #[jv q0, ss, iv 3, rv b561] rfl (oE X561 hy d9_15 16 rfl (oC X561 hy d9_16 17 rfl (oA X561 hy d9_17 18 rfl ?_)))
 refine cS X561 hy hml hown hZ hw d9_18 21 0 64 65 57 66 rfl rfl rfl rfl (rmgc3 l Z a0 hw [] q0 b561 k561 a_D1 k_a_D1 a_D2 k_a_D2 h561 n0 (Nat.le_trans Z0 K561.1) uP Us (Ne.symm Kp) (Ne.symm VW) wl wf wn wg g1 g2) e561 pd_22 rfl rfl fun _ T562 Lc562 X562 hQ562 => ?_
 obtain ⟨rfl, Nq562, Kq562, uP⟩ := hQ562
 have N562 := Fr.app N559 Nq562
 have jR := jR.keep Kq562
 have K562 := K561.trans Kq562 (allS (Or.inr Jq) all0)
 refine Ends.v (oxe X562 hy d9_21 22 rfl ?_)
 obtain ⟨T563, h563, X563, e563, E563, A563, D563, U563, st563⟩ := newO X562 hx hZ hown (tb hw 70 rfl) (tb hw 71 rfl) (tb hw 44 rfl) rfl (g := (mkF m 22 #[jv q0, ss, iv 3, rv b561] [])) rfl (hb hby d9_22) (by decide) (by decide)
 obtain ⟨b563, g563⟩ : ∃ z, z = T562.heap.size := ⟨_, rfl⟩
 rw [← g563] at A563 D563 U563 st563
 have zx : b561 ≠ b563 := Nat.ne_of_lt (Nat.lt_of_lt_of_le jR.lt (Nat.le_of_eq g563.symm))
 have Ur : n0 ≤ b563 := Nat.le_trans Z0 (Nat.le_trans K562.1 (Nat.le_of_eq g563.symm))
 have Jp : h0.size ≤ b563 := Nat.le_trans K562.1 (Nat.le_of_eq g563.symm)
 have jR := jR.ext E563
 have uP := uP.ext E563
 have K563 := K562.ext E563
 have KA := A563
 have uk : fBQ Z h563 b563 .null := D563 (Or.inr (tb hw 78 rfl)) (ty := (.array .byte)) (by decide)
 have uz : fAQ Z h563 b563 (.int 0) := D563 (Or.inr (tb hw 80 rfl)) (ty := .byte) (by decide)
 refine Ends.j 25 [.ref b563] st563 ?_
 refine oxd X563 hy d9_25 26 rfl (oA X563 hy d9_26 27 rfl (oG X563 hy d9_27 28 0 rfl ?_))
 refine cI X563 hy hml hown hZ hw d9_28 31 1 72 73 75 44 rfl rfl rfl rfl rfl (rmsib l Z a0 hw [] b563 b561 (.null : Value) (0 : Int32) h563 n0 (Nat.le_trans Z0 K563.1) KA uk uz Ur) e563 pd_23 rfl rfl fun _ T564 Lc564 X564 hQ564 => ?_
 obtain ⟨rfl, Nq564, Kq564, KA, uk, uz⟩ := hQ564
 have N564 := Fr.app N562 Nq564
 have jR := jR.keep Kq564
 have uP := uP.keep Kq564 (ninS zx nin0)
 have K564 := K563.trans Kq564 (allS (Or.inr Jp) all0)
 refine Ends.u ?_
 exact fA X564 hy hrt hlk hQQ d9_31 rfl rfl rfl (by decide) ⟨b563, b561, k561, rfl, N564, K564, Jp, Jq, Ur, Us, KA, uk, uz, jR, uP, (Ne.symm zx)⟩
def Qts4 (Z : State) (q0 : Int64) (cs : Int32) (a_D1 : Addr) (k_a_D1 : ClassId) (a_D2 : Addr) (k_a_D2 : ClassId) (h0 : Heap) (n0 : Nat) : QT := fun v h L => ∃ (sx : Addr), ∃ (sa : Addr), ∃ (sk : ClassId), (v = some (.ref sx)) ∧ (Fr n0 L) ∧ (Keep h0 h []) ∧ (h0.size ≤ sx) ∧ (h0.size ≤ sa) ∧ (n0 ≤ sx) ∧ (n0 ≤ sa) ∧ (eAQ Z h sx) ∧ (fBQ Z h sx (.ref sa)) ∧ (fAQ Z h sx (.int 0)) ∧ (eCQ Z h sa) ∧ (Arv Z h sa sk .byte 4 [(.int (own_dg ((q0).toInt / 100 / 10))), (.int (own_dg ((q0).toInt / 100))), (.int (own_dg ((q0).toInt / 10))), (.int (own_dg ((q0).toInt)))] (.int 0)) ∧ (sx ≠ sa)
theorem rmts4 (l : Launch) (Z : State) (a0 : Array Value) (hw : TW a0 Z) (ws : List Jvm.Cond) (q0 : Int64) (cs : Int32) (a_D1 : Addr) (k_a_D1 : ClassId) (a_D2 : Addr) (k_a_D2 : ClassId) (h0 : Heap) (n0 : Nat) (Z0 : n0 ≤ h0.size) (wa : sHQ Z h0 (.int cs)) (hcs : ¬ cs = (0 : Int32)) (wl : Arv Z h0 a_D1 k_a_D1 .byte 100 own_ones (.int 0)) (wf : sJQ Z h0 (.ref a_D1)) (wn : Arv Z h0 a_D2 k_a_D2 .byte 100 own_tens (.int 0)) (wg : sKQ Z h0 (.ref a_D2)) (g1 : (q0).toInt < 10000) (g2 : 1000 ≤ (q0).toInt) :
  MF l mN7 jdk_35_method_12_code 4 (some (.object "java/lang/String")) ws (rmm 2 2 8 27) #[.long q0] Z h0 (Qts4 Z q0 cs a_D1 k_a_D1 a_D2 k_a_D2 h0 n0) := by
 refine MF.of (plainFor_of_name pn_7) ?_
 intro p e s m below meth c s₁ QQ hy hml hown hZ X0 e0 hrt hlk hnm hQQ
 have hx := hy.1
 have hby := hy.2
 have N0 := Fr.nil n0
 refine Ends.i #[jv q0, ss, uu, uu] (oE X0 hy d9_0 1 rfl ?_)
 refine cS X0 hy hml hown hZ hw d9_1 4 0 59 60 57 61 rfl rfl rfl rfl (rmss4 l Z a0 hw [] q0 h0 n0 Z0 g1 g2) e0 pd_21 rfl rfl fun _ T565 Lc565 X565 hQ565 => ?_
 obtain ⟨rfl, Nq565, hh565⟩ := hQ565
 have N565 := Fr.app N0 Nq565
 refine Ends.v (oxp X565 hy d9_4 5 #[jv q0, ss, iv 4, uu] rfl (gS X565 hy hown hZ hw hh565 wa d9_5 8 63 rfl fun T566 X566 e566 => ?_))
 have hc8 : ¬ (cs = (0 : Int32)) := hcs
 refine oxh X566 hy d9_8 11 (XT.i0_eq_f hc8) (oC X566 hy d9_11 12 rfl ?_)
 obtain ⟨T567, h567, k567, X567, e567, E567, A567, Y567, st567⟩ := newPE X566 hx hZ (tb hw 45 rfl) e566 (g := (mkF m 12 #[jv q0, ss, iv 4, uu] [.int 4])) rfl (hb hby d9_12) rfl (by decide) (cap := 4) (by decide) (by decide) (by decide) (by decide) (ad := "[B") (by decide)
 obtain ⟨b567, g567⟩ : ∃ z, z = h0.size := ⟨_, rfl⟩
 rw [← g567] at A567 Y567 st567
 have Ko : a_D1 ≠ b567 := Nat.ne_of_lt (Nat.lt_of_lt_of_le wl.lt (Nat.le_of_eq g567.symm))
 have VV : a_D2 ≠ b567 := Nat.ne_of_lt (Nat.lt_of_lt_of_le wn.lt (Nat.le_of_eq g567.symm))
 have Uq : n0 ≤ b567 := Nat.le_trans Z0 (Nat.le_trans (Keep.refl h0 []).1 (Nat.le_of_eq g567.symm))
 have Jo : h0.size ≤ b567 := Nat.le_trans (Keep.refl h0 []).1 (Nat.le_of_eq g567.symm)
 have wl := wl.ext E567
 have wf := wf.ext E567
 have wn := wn.ext E567
 have wg := wg.ext E567
 have K567 := (Keep.refl h0 []).ext E567
 have jQ := Y567
 have uO : Arv Z h567 b567 k567 .byte 4 [.int 0, .int 0, .int 0, .int 0] (.int 0) := (Arv.new A567 (by decide)).pad (pad_rep [] (.int 0) 4)
 refine Ends.j 14 [.ref b567] st567 ?_
 refine oxt X567 hy d9_14 15 #[jv q0, ss, iv 4, rv b567] rfl (oE X567 hy d9_15 16 rfl (oC X567 hy d9_16 17 rfl (oA X567 hy d9_17 18 rfl ?_)))
 refine cS X567 hy hml hown hZ hw d9_18 21 0 64 65 57 66 rfl rfl rfl rfl (rmgc4 l Z a0 hw [] q0 b567 k567 a_D1 k_a_D1 a_D2 k_a_D2 h567 n0 (Nat.le_trans Z0 K567.1) uO Uq (Ne.symm Ko) (Ne.symm VV) wl wf wn wg g1 g2) e567 pd_22 rfl rfl fun _ T568 Lc568 X568 hQ568 => ?_
 obtain ⟨rfl, Nq568, Kq568, uO⟩ := hQ568
 have N568 := Fr.app N565 Nq568
 have jQ := jQ.keep Kq568
 have K568 := K567.trans Kq568 (allS (Or.inr Jo) all0)
 refine Ends.v (oxe X568 hy d9_21 22 rfl ?_)
 obtain ⟨T569, h569, X569, e569, E569, A569, D569, U569, st569⟩ := newO X568 hx hZ hown (tb hw 70 rfl) (tb hw 71 rfl) (tb hw 44 rfl) rfl (g := (mkF m 22 #[jv q0, ss, iv 4, rv b567] [])) rfl (hb hby d9_22) (by decide) (by decide)
 obtain ⟨b569, g569⟩ : ∃ z, z = T568.heap.size := ⟨_, rfl⟩
 rw [← g569] at A569 D569 U569 st569
 have zw : b567 ≠ b569 := Nat.ne_of_lt (Nat.lt_of_lt_of_le jQ.lt (Nat.le_of_eq g569.symm))
 have Up : n0 ≤ b569 := Nat.le_trans Z0 (Nat.le_trans K568.1 (Nat.le_of_eq g569.symm))
 have Jn : h0.size ≤ b569 := Nat.le_trans K568.1 (Nat.le_of_eq g569.symm)
 have jQ := jQ.ext E569
 have uO := uO.ext E569
 have K569 := K568.ext E569
 have Kz := A569
 have uj : fBQ Z h569 b569 .null := D569 (Or.inr (tb hw 78 rfl)) (ty := (.array .byte)) (by decide)
 have uy : fAQ Z h569 b569 (.int 0) := D569 (Or.inr (tb hw 80 rfl)) (ty := .byte) (by decide)
 refine Ends.j 25 [.ref b569] st569 ?_
 refine oxd X569 hy d9_25 26 rfl (oA X569 hy d9_26 27 rfl (oG X569 hy d9_27 28 0 rfl ?_))
 refine cI X569 hy hml hown hZ hw d9_28 31 1 72 73 75 44 rfl rfl rfl rfl rfl (rmsib l Z a0 hw [] b569 b567 (.null : Value) (0 : Int32) h569 n0 (Nat.le_trans Z0 K569.1) Kz uj uy Up) e569 pd_23 rfl rfl fun _ T570 Lc570 X570 hQ570 => ?_
 obtain ⟨rfl, Nq570, Kq570, Kz, uj, uy⟩ := hQ570
 have N570 := Fr.app N568 Nq570
 have jQ := jQ.keep Kq570
 have uO := uO.keep Kq570 (ninS zw nin0)
 have K570 := K569.trans Kq570 (allS (Or.inr Jn) all0)
 refine Ends.u ?_
 exact fA X570 hy hrt hlk hQQ d9_31 rfl rfl rfl (by decide) ⟨b569, b567, k567, rfl, N570, K570, Jn, Jo, Up, Uq, Kz, uj, uy, jQ, uO, (Ne.symm zw)⟩
def Qts5 (Z : State) (q0 : Int64) (cs : Int32) (a_D1 : Addr) (k_a_D1 : ClassId) (a_D2 : Addr) (k_a_D2 : ClassId) (h0 : Heap) (n0 : Nat) : QT := fun v h L => ∃ (sx : Addr), ∃ (sa : Addr), ∃ (sk : ClassId), (v = some (.ref sx)) ∧ (Fr n0 L) ∧ (Keep h0 h []) ∧ (h0.size ≤ sx) ∧ (h0.size ≤ sa) ∧ (n0 ≤ sx) ∧ (n0 ≤ sa) ∧ (eAQ Z h sx) ∧ (fBQ Z h sx (.ref sa)) ∧ (fAQ Z h sx (.int 0)) ∧ (eCQ Z h sa) ∧ (Arv Z h sa sk .byte 5 [(.int (own_dg ((q0).toInt / 100 / 100))), (.int (own_dg ((q0).toInt / 100 / 10))), (.int (own_dg ((q0).toInt / 100))), (.int (own_dg ((q0).toInt / 10))), (.int (own_dg ((q0).toInt)))] (.int 0)) ∧ (sx ≠ sa)
theorem rmts5 (l : Launch) (Z : State) (a0 : Array Value) (hw : TW a0 Z) (ws : List Jvm.Cond) (q0 : Int64) (cs : Int32) (a_D1 : Addr) (k_a_D1 : ClassId) (a_D2 : Addr) (k_a_D2 : ClassId) (h0 : Heap) (n0 : Nat) (Z0 : n0 ≤ h0.size) (wa : sHQ Z h0 (.int cs)) (hcs : ¬ cs = (0 : Int32)) (wl : Arv Z h0 a_D1 k_a_D1 .byte 100 own_ones (.int 0)) (wf : sJQ Z h0 (.ref a_D1)) (wn : Arv Z h0 a_D2 k_a_D2 .byte 100 own_tens (.int 0)) (wg : sKQ Z h0 (.ref a_D2)) (g1 : (q0).toInt < 100000) (g2 : 10000 ≤ (q0).toInt) :
  MF l mN7 jdk_35_method_12_code 4 (some (.object "java/lang/String")) ws (rmm 2 2 9 27) #[.long q0] Z h0 (Qts5 Z q0 cs a_D1 k_a_D1 a_D2 k_a_D2 h0 n0) := by
 refine MF.of (plainFor_of_name pn_7) ?_
 intro p e s m below meth c s₁ QQ hy hml hown hZ X0 e0 hrt hlk hnm hQQ
 have hx := hy.1
 have hby := hy.2
 have N0 := Fr.nil n0
 refine Ends.i #[jv q0, ss, uu, uu] (oE X0 hy d9_0 1 rfl ?_)
 refine cS X0 hy hml hown hZ hw d9_1 4 0 59 60 57 61 rfl rfl rfl rfl (rmss5 l Z a0 hw [] q0 h0 n0 Z0 g1 g2) e0 pd_21 rfl rfl fun _ T571 Lc571 X571 hQ571 => ?_
 obtain ⟨rfl, Nq571, hh571⟩ := hQ571
 have N571 := Fr.app N0 Nq571
 refine Ends.v (oxp X571 hy d9_4 5 #[jv q0, ss, iv 5, uu] rfl (gS X571 hy hown hZ hw hh571 wa d9_5 8 63 rfl fun T572 X572 e572 => ?_))
 have hc8 : ¬ (cs = (0 : Int32)) := hcs
 refine oxh X572 hy d9_8 11 (XT.i0_eq_f hc8) (oC X572 hy d9_11 12 rfl ?_)
 obtain ⟨T573, h573, k573, X573, e573, E573, A573, Y573, st573⟩ := newPE X572 hx hZ (tb hw 45 rfl) e572 (g := (mkF m 12 #[jv q0, ss, iv 5, uu] [.int 5])) rfl (hb hby d9_12) rfl (by decide) (cap := 5) (by decide) (by decide) (by decide) (by decide) (ad := "[B") (by decide)
 obtain ⟨b573, g573⟩ : ∃ z, z = h0.size := ⟨_, rfl⟩
 rw [← g573] at A573 Y573 st573
 have Kn : a_D1 ≠ b573 := Nat.ne_of_lt (Nat.lt_of_lt_of_le wl.lt (Nat.le_of_eq g573.symm))
 have VU : a_D2 ≠ b573 := Nat.ne_of_lt (Nat.lt_of_lt_of_le wn.lt (Nat.le_of_eq g573.symm))
 have Uo : n0 ≤ b573 := Nat.le_trans Z0 (Nat.le_trans (Keep.refl h0 []).1 (Nat.le_of_eq g573.symm))
 have Jm : h0.size ≤ b573 := Nat.le_trans (Keep.refl h0 []).1 (Nat.le_of_eq g573.symm)
 have wl := wl.ext E573
 have wf := wf.ext E573
 have wn := wn.ext E573
 have wg := wg.ext E573
 have K573 := (Keep.refl h0 []).ext E573
 have jP := Y573
 have uN : Arv Z h573 b573 k573 .byte 5 [.int 0, .int 0, .int 0, .int 0, .int 0] (.int 0) := (Arv.new A573 (by decide)).pad (pad_rep [] (.int 0) 5)
 refine Ends.j 14 [.ref b573] st573 ?_
 refine oxt X573 hy d9_14 15 #[jv q0, ss, iv 5, rv b573] rfl (oE X573 hy d9_15 16 rfl (oC X573 hy d9_16 17 rfl (oA X573 hy d9_17 18 rfl ?_)))
 refine cS X573 hy hml hown hZ hw d9_18 21 0 64 65 57 66 rfl rfl rfl rfl (rmgc5 l Z a0 hw [] q0 b573 k573 a_D1 k_a_D1 a_D2 k_a_D2 h573 n0 (Nat.le_trans Z0 K573.1) uN Uo (Ne.symm Kn) (Ne.symm VU) wl wf wn wg g1 g2) e573 pd_22 rfl rfl fun _ T574 Lc574 X574 hQ574 => ?_
 obtain ⟨rfl, Nq574, Kq574, uN⟩ := hQ574
 have N574 := Fr.app N571 Nq574
 have jP := jP.keep Kq574
 have K574 := K573.trans Kq574 (allS (Or.inr Jm) all0)
 refine Ends.v (oxe X574 hy d9_21 22 rfl ?_)
 obtain ⟨T575, h575, X575, e575, E575, A575, D575, U575, st575⟩ := newO X574 hx hZ hown (tb hw 70 rfl) (tb hw 71 rfl) (tb hw 44 rfl) rfl (g := (mkF m 22 #[jv q0, ss, iv 5, rv b573] [])) rfl (hb hby d9_22) (by decide) (by decide)
 obtain ⟨b575, g575⟩ : ∃ z, z = T574.heap.size := ⟨_, rfl⟩
 rw [← g575] at A575 D575 U575 st575
 have zv : b573 ≠ b575 := Nat.ne_of_lt (Nat.lt_of_lt_of_le jP.lt (Nat.le_of_eq g575.symm))
 have Un : n0 ≤ b575 := Nat.le_trans Z0 (Nat.le_trans K574.1 (Nat.le_of_eq g575.symm))
 have Jl : h0.size ≤ b575 := Nat.le_trans K574.1 (Nat.le_of_eq g575.symm)
 have jP := jP.ext E575
 have uN := uN.ext E575
 have K575 := K574.ext E575
 have Ky := A575
 have ui : fBQ Z h575 b575 .null := D575 (Or.inr (tb hw 78 rfl)) (ty := (.array .byte)) (by decide)
 have ux : fAQ Z h575 b575 (.int 0) := D575 (Or.inr (tb hw 80 rfl)) (ty := .byte) (by decide)
 refine Ends.j 25 [.ref b575] st575 ?_
 refine oxd X575 hy d9_25 26 rfl (oA X575 hy d9_26 27 rfl (oG X575 hy d9_27 28 0 rfl ?_))
 refine cI X575 hy hml hown hZ hw d9_28 31 1 72 73 75 44 rfl rfl rfl rfl rfl (rmsib l Z a0 hw [] b575 b573 (.null : Value) (0 : Int32) h575 n0 (Nat.le_trans Z0 K575.1) Ky ui ux Un) e575 pd_23 rfl rfl fun _ T576 Lc576 X576 hQ576 => ?_
 obtain ⟨rfl, Nq576, Kq576, Ky, ui, ux⟩ := hQ576
 have N576 := Fr.app N574 Nq576
 have jP := jP.keep Kq576
 have uN := uN.keep Kq576 (ninS zv nin0)
 have K576 := K575.trans Kq576 (allS (Or.inr Jl) all0)
 refine Ends.u ?_
 exact fA X576 hy hrt hlk hQQ d9_31 rfl rfl rfl (by decide) ⟨b575, b573, k573, rfl, N576, K576, Jl, Jm, Un, Uo, Ky, ui, ux, jP, uN, (Ne.symm zv)⟩
def Qts6 (Z : State) (q0 : Int64) (cs : Int32) (a_D1 : Addr) (k_a_D1 : ClassId) (a_D2 : Addr) (k_a_D2 : ClassId) (h0 : Heap) (n0 : Nat) : QT := fun v h L => ∃ (sx : Addr), ∃ (sa : Addr), ∃ (sk : ClassId), (v = some (.ref sx)) ∧ (Fr n0 L) ∧ (Keep h0 h []) ∧ (h0.size ≤ sx) ∧ (h0.size ≤ sa) ∧ (n0 ≤ sx) ∧ (n0 ≤ sa) ∧ (eAQ Z h sx) ∧ (fBQ Z h sx (.ref sa)) ∧ (fAQ Z h sx (.int 0)) ∧ (eCQ Z h sa) ∧ (Arv Z h sa sk .byte 6 [(.int (own_dg ((q0).toInt / 100 / 100 / 10))), (.int (own_dg ((q0).toInt / 100 / 100))), (.int (own_dg ((q0).toInt / 100 / 10))), (.int (own_dg ((q0).toInt / 100))), (.int (own_dg ((q0).toInt / 10))), (.int (own_dg ((q0).toInt)))] (.int 0)) ∧ (sx ≠ sa)
theorem rmts6 (l : Launch) (Z : State) (a0 : Array Value) (hw : TW a0 Z) (ws : List Jvm.Cond) (q0 : Int64) (cs : Int32) (a_D1 : Addr) (k_a_D1 : ClassId) (a_D2 : Addr) (k_a_D2 : ClassId) (h0 : Heap) (n0 : Nat) (Z0 : n0 ≤ h0.size) (wa : sHQ Z h0 (.int cs)) (hcs : ¬ cs = (0 : Int32)) (wl : Arv Z h0 a_D1 k_a_D1 .byte 100 own_ones (.int 0)) (wf : sJQ Z h0 (.ref a_D1)) (wn : Arv Z h0 a_D2 k_a_D2 .byte 100 own_tens (.int 0)) (wg : sKQ Z h0 (.ref a_D2)) (g1 : (q0).toInt < 1000000) (g2 : 100000 ≤ (q0).toInt) :
  MF l mN7 jdk_35_method_12_code 4 (some (.object "java/lang/String")) ws (rmm 2 2 10 27) #[.long q0] Z h0 (Qts6 Z q0 cs a_D1 k_a_D1 a_D2 k_a_D2 h0 n0) := by
 refine MF.of (plainFor_of_name pn_7) ?_
 intro p e s m below meth c s₁ QQ hy hml hown hZ X0 e0 hrt hlk hnm hQQ
 have hx := hy.1
 have hby := hy.2
 have N0 := Fr.nil n0
 refine Ends.i #[jv q0, ss, uu, uu] (oE X0 hy d9_0 1 rfl ?_)
 refine cS X0 hy hml hown hZ hw d9_1 4 0 59 60 57 61 rfl rfl rfl rfl (rmss6 l Z a0 hw [] q0 h0 n0 Z0 g1 g2) e0 pd_21 rfl rfl fun _ T577 Lc577 X577 hQ577 => ?_
 obtain ⟨rfl, Nq577, hh577⟩ := hQ577
 have N577 := Fr.app N0 Nq577
 refine Ends.v (oxp X577 hy d9_4 5 #[jv q0, ss, iv 6, uu] rfl (gS X577 hy hown hZ hw hh577 wa d9_5 8 63 rfl fun T578 X578 e578 => ?_))
 have hc8 : ¬ (cs = (0 : Int32)) := hcs
 refine oxh X578 hy d9_8 11 (XT.i0_eq_f hc8) (oC X578 hy d9_11 12 rfl ?_)
 obtain ⟨T579, h579, k579, X579, e579, E579, A579, Y579, st579⟩ := newPE X578 hx hZ (tb hw 45 rfl) e578 (g := (mkF m 12 #[jv q0, ss, iv 6, uu] [.int 6])) rfl (hb hby d9_12) rfl (by decide) (cap := 6) (by decide) (by decide) (by decide) (by decide) (ad := "[B") (by decide)
 obtain ⟨b579, g579⟩ : ∃ z, z = h0.size := ⟨_, rfl⟩
 rw [← g579] at A579 Y579 st579
 have Km : a_D1 ≠ b579 := Nat.ne_of_lt (Nat.lt_of_lt_of_le wl.lt (Nat.le_of_eq g579.symm))
 have VT : a_D2 ≠ b579 := Nat.ne_of_lt (Nat.lt_of_lt_of_le wn.lt (Nat.le_of_eq g579.symm))
 have Um : n0 ≤ b579 := Nat.le_trans Z0 (Nat.le_trans (Keep.refl h0 []).1 (Nat.le_of_eq g579.symm))
 have Jk : h0.size ≤ b579 := Nat.le_trans (Keep.refl h0 []).1 (Nat.le_of_eq g579.symm)
 have wl := wl.ext E579
 have wf := wf.ext E579
 have wn := wn.ext E579
 have wg := wg.ext E579
 have K579 := (Keep.refl h0 []).ext E579
 have jO := Y579
 have uM : Arv Z h579 b579 k579 .byte 6 [.int 0, .int 0, .int 0, .int 0, .int 0, .int 0] (.int 0) := (Arv.new A579 (by decide)).pad (pad_rep [] (.int 0) 6)
 refine Ends.j 14 [.ref b579] st579 ?_
 refine oxt X579 hy d9_14 15 #[jv q0, ss, iv 6, rv b579] rfl (oE X579 hy d9_15 16 rfl (oC X579 hy d9_16 17 rfl (oA X579 hy d9_17 18 rfl ?_)))
 refine cS X579 hy hml hown hZ hw d9_18 21 0 64 65 57 66 rfl rfl rfl rfl (rmgc6 l Z a0 hw [] q0 b579 k579 a_D1 k_a_D1 a_D2 k_a_D2 h579 n0 (Nat.le_trans Z0 K579.1) uM Um (Ne.symm Km) (Ne.symm VT) wl wf wn wg g1 g2) e579 pd_22 rfl rfl fun _ T580 Lc580 X580 hQ580 => ?_
 obtain ⟨rfl, Nq580, Kq580, uM⟩ := hQ580
 have N580 := Fr.app N577 Nq580
 have jO := jO.keep Kq580
 have K580 := K579.trans Kq580 (allS (Or.inr Jk) all0)
 refine Ends.v (oxe X580 hy d9_21 22 rfl ?_)
 obtain ⟨T581, h581, X581, e581, E581, A581, D581, U581, st581⟩ := newO X580 hx hZ hown (tb hw 70 rfl) (tb hw 71 rfl) (tb hw 44 rfl) rfl (g := (mkF m 22 #[jv q0, ss, iv 6, rv b579] [])) rfl (hb hby d9_22) (by decide) (by decide)
 obtain ⟨b581, g581⟩ : ∃ z, z = T580.heap.size := ⟨_, rfl⟩
 rw [← g581] at A581 D581 U581 st581
 have zu : b579 ≠ b581 := Nat.ne_of_lt (Nat.lt_of_lt_of_le jO.lt (Nat.le_of_eq g581.symm))
 have Ul : n0 ≤ b581 := Nat.le_trans Z0 (Nat.le_trans K580.1 (Nat.le_of_eq g581.symm))
 have Jj : h0.size ≤ b581 := Nat.le_trans K580.1 (Nat.le_of_eq g581.symm)
 have jO := jO.ext E581
 have uM := uM.ext E581
 have K581 := K580.ext E581
 have Kx := A581
 have uh : fBQ Z h581 b581 .null := D581 (Or.inr (tb hw 78 rfl)) (ty := (.array .byte)) (by decide)
 have uw : fAQ Z h581 b581 (.int 0) := D581 (Or.inr (tb hw 80 rfl)) (ty := .byte) (by decide)
 refine Ends.j 25 [.ref b581] st581 ?_
 refine oxd X581 hy d9_25 26 rfl (oA X581 hy d9_26 27 rfl (oG X581 hy d9_27 28 0 rfl ?_))
 refine cI X581 hy hml hown hZ hw d9_28 31 1 72 73 75 44 rfl rfl rfl rfl rfl (rmsib l Z a0 hw [] b581 b579 (.null : Value) (0 : Int32) h581 n0 (Nat.le_trans Z0 K581.1) Kx uh uw Ul) e581 pd_23 rfl rfl fun _ T582 Lc582 X582 hQ582 => ?_
 obtain ⟨rfl, Nq582, Kq582, Kx, uh, uw⟩ := hQ582
 have N582 := Fr.app N580 Nq582
 have jO := jO.keep Kq582
 have uM := uM.keep Kq582 (ninS zu nin0)
 have K582 := K581.trans Kq582 (allS (Or.inr Jj) all0)
 refine Ends.u ?_
 exact fA X582 hy hrt hlk hQQ d9_31 rfl rfl rfl (by decide) ⟨b581, b579, k579, rfl, N582, K582, Jj, Jk, Ul, Um, Kx, uh, uw, jO, uM, (Ne.symm zu)⟩
def Qts7 (Z : State) (q0 : Int64) (cs : Int32) (a_D1 : Addr) (k_a_D1 : ClassId) (a_D2 : Addr) (k_a_D2 : ClassId) (h0 : Heap) (n0 : Nat) : QT := fun v h L => ∃ (sx : Addr), ∃ (sa : Addr), ∃ (sk : ClassId), (v = some (.ref sx)) ∧ (Fr n0 L) ∧ (Keep h0 h []) ∧ (h0.size ≤ sx) ∧ (h0.size ≤ sa) ∧ (n0 ≤ sx) ∧ (n0 ≤ sa) ∧ (eAQ Z h sx) ∧ (fBQ Z h sx (.ref sa)) ∧ (fAQ Z h sx (.int 0)) ∧ (eCQ Z h sa) ∧ (Arv Z h sa sk .byte 7 [(.int (own_dg ((q0).toInt / 100 / 100 / 100))), (.int (own_dg ((q0).toInt / 100 / 100 / 10))), (.int (own_dg ((q0).toInt / 100 / 100))), (.int (own_dg ((q0).toInt / 100 / 10))), (.int (own_dg ((q0).toInt / 100))), (.int (own_dg ((q0).toInt / 10))), (.int (own_dg ((q0).toInt)))] (.int 0)) ∧ (sx ≠ sa)
theorem rmts7 (l : Launch) (Z : State) (a0 : Array Value) (hw : TW a0 Z) (ws : List Jvm.Cond) (q0 : Int64) (cs : Int32) (a_D1 : Addr) (k_a_D1 : ClassId) (a_D2 : Addr) (k_a_D2 : ClassId) (h0 : Heap) (n0 : Nat) (Z0 : n0 ≤ h0.size) (wa : sHQ Z h0 (.int cs)) (hcs : ¬ cs = (0 : Int32)) (wl : Arv Z h0 a_D1 k_a_D1 .byte 100 own_ones (.int 0)) (wf : sJQ Z h0 (.ref a_D1)) (wn : Arv Z h0 a_D2 k_a_D2 .byte 100 own_tens (.int 0)) (wg : sKQ Z h0 (.ref a_D2)) (g1 : (q0).toInt < 10000000) (g2 : 1000000 ≤ (q0).toInt) :
  MF l mN7 jdk_35_method_12_code 4 (some (.object "java/lang/String")) ws (rmm 2 2 11 27) #[.long q0] Z h0 (Qts7 Z q0 cs a_D1 k_a_D1 a_D2 k_a_D2 h0 n0) := by
 refine MF.of (plainFor_of_name pn_7) ?_
 intro p e s m below meth c s₁ QQ hy hml hown hZ X0 e0 hrt hlk hnm hQQ
 have hx := hy.1
 have hby := hy.2
 have N0 := Fr.nil n0
 refine Ends.i #[jv q0, ss, uu, uu] (oE X0 hy d9_0 1 rfl ?_)
 refine cS X0 hy hml hown hZ hw d9_1 4 0 59 60 57 61 rfl rfl rfl rfl (rmss7 l Z a0 hw [] q0 h0 n0 Z0 g1 g2) e0 pd_21 rfl rfl fun _ T583 Lc583 X583 hQ583 => ?_
 obtain ⟨rfl, Nq583, hh583⟩ := hQ583
 have N583 := Fr.app N0 Nq583
 refine Ends.v (oxp X583 hy d9_4 5 #[jv q0, ss, iv 7, uu] rfl (gS X583 hy hown hZ hw hh583 wa d9_5 8 63 rfl fun T584 X584 e584 => ?_))
 have hc8 : ¬ (cs = (0 : Int32)) := hcs
 refine oxh X584 hy d9_8 11 (XT.i0_eq_f hc8) (oC X584 hy d9_11 12 rfl ?_)
 obtain ⟨T585, h585, k585, X585, e585, E585, A585, Y585, st585⟩ := newPE X584 hx hZ (tb hw 45 rfl) e584 (g := (mkF m 12 #[jv q0, ss, iv 7, uu] [.int 7])) rfl (hb hby d9_12) rfl (by decide) (cap := 7) (by decide) (by decide) (by decide) (by decide) (ad := "[B") (by decide)
 obtain ⟨b585, g585⟩ : ∃ z, z = h0.size := ⟨_, rfl⟩
 rw [← g585] at A585 Y585 st585
 have Kl : a_D1 ≠ b585 := Nat.ne_of_lt (Nat.lt_of_lt_of_le wl.lt (Nat.le_of_eq g585.symm))
 have VS : a_D2 ≠ b585 := Nat.ne_of_lt (Nat.lt_of_lt_of_le wn.lt (Nat.le_of_eq g585.symm))
 have Uk : n0 ≤ b585 := Nat.le_trans Z0 (Nat.le_trans (Keep.refl h0 []).1 (Nat.le_of_eq g585.symm))
 have Ji : h0.size ≤ b585 := Nat.le_trans (Keep.refl h0 []).1 (Nat.le_of_eq g585.symm)
 have wl := wl.ext E585
 have wf := wf.ext E585
 have wn := wn.ext E585
 have wg := wg.ext E585
 have K585 := (Keep.refl h0 []).ext E585
 have jN := Y585
 have uL : Arv Z h585 b585 k585 .byte 7 [.int 0, .int 0, .int 0, .int 0, .int 0, .int 0, .int 0] (.int 0) := (Arv.new A585 (by decide)).pad (pad_rep [] (.int 0) 7)
 refine Ends.j 14 [.ref b585] st585 ?_
 refine oxt X585 hy d9_14 15 #[jv q0, ss, iv 7, rv b585] rfl (oE X585 hy d9_15 16 rfl (oC X585 hy d9_16 17 rfl (oA X585 hy d9_17 18 rfl ?_)))
 refine cS X585 hy hml hown hZ hw d9_18 21 0 64 65 57 66 rfl rfl rfl rfl (rmgc7 l Z a0 hw [] q0 b585 k585 a_D1 k_a_D1 a_D2 k_a_D2 h585 n0 (Nat.le_trans Z0 K585.1) uL Uk (Ne.symm Kl) (Ne.symm VS) wl wf wn wg g1 g2) e585 pd_22 rfl rfl fun _ T586 Lc586 X586 hQ586 => ?_
 obtain ⟨rfl, Nq586, Kq586, uL⟩ := hQ586
 have N586 := Fr.app N583 Nq586
 have jN := jN.keep Kq586
 have K586 := K585.trans Kq586 (allS (Or.inr Ji) all0)
 refine Ends.v (oxe X586 hy d9_21 22 rfl ?_)
 obtain ⟨T587, h587, X587, e587, E587, A587, D587, U587, st587⟩ := newO X586 hx hZ hown (tb hw 70 rfl) (tb hw 71 rfl) (tb hw 44 rfl) rfl (g := (mkF m 22 #[jv q0, ss, iv 7, rv b585] [])) rfl (hb hby d9_22) (by decide) (by decide)
 obtain ⟨b587, g587⟩ : ∃ z, z = T586.heap.size := ⟨_, rfl⟩
 rw [← g587] at A587 D587 U587 st587
 have zt : b585 ≠ b587 := Nat.ne_of_lt (Nat.lt_of_lt_of_le jN.lt (Nat.le_of_eq g587.symm))
 have Uj : n0 ≤ b587 := Nat.le_trans Z0 (Nat.le_trans K586.1 (Nat.le_of_eq g587.symm))
 have Jh : h0.size ≤ b587 := Nat.le_trans K586.1 (Nat.le_of_eq g587.symm)
 have jN := jN.ext E587
 have uL := uL.ext E587
 have K587 := K586.ext E587
 have Kw := A587
 have ug : fBQ Z h587 b587 .null := D587 (Or.inr (tb hw 78 rfl)) (ty := (.array .byte)) (by decide)
 have uv : fAQ Z h587 b587 (.int 0) := D587 (Or.inr (tb hw 80 rfl)) (ty := .byte) (by decide)
 refine Ends.j 25 [.ref b587] st587 ?_
 refine oxd X587 hy d9_25 26 rfl (oA X587 hy d9_26 27 rfl (oG X587 hy d9_27 28 0 rfl ?_))
 refine cI X587 hy hml hown hZ hw d9_28 31 1 72 73 75 44 rfl rfl rfl rfl rfl (rmsib l Z a0 hw [] b587 b585 (.null : Value) (0 : Int32) h587 n0 (Nat.le_trans Z0 K587.1) Kw ug uv Uj) e587 pd_23 rfl rfl fun _ T588 Lc588 X588 hQ588 => ?_
 obtain ⟨rfl, Nq588, Kq588, Kw, ug, uv⟩ := hQ588
 have N588 := Fr.app N586 Nq588
 have jN := jN.keep Kq588
 have uL := uL.keep Kq588 (ninS zt nin0)
 have K588 := K587.trans Kq588 (allS (Or.inr Jh) all0)
 refine Ends.u ?_
 exact fA X588 hy hrt hlk hQQ d9_31 rfl rfl rfl (by decide) ⟨b587, b585, k585, rfl, N588, K588, Jh, Ji, Uj, Uk, Kw, ug, uv, jN, uL, (Ne.symm zt)⟩
def Qts8 (Z : State) (q0 : Int64) (cs : Int32) (a_D1 : Addr) (k_a_D1 : ClassId) (a_D2 : Addr) (k_a_D2 : ClassId) (h0 : Heap) (n0 : Nat) : QT := fun v h L => ∃ (sx : Addr), ∃ (sa : Addr), ∃ (sk : ClassId), (v = some (.ref sx)) ∧ (Fr n0 L) ∧ (Keep h0 h []) ∧ (h0.size ≤ sx) ∧ (h0.size ≤ sa) ∧ (n0 ≤ sx) ∧ (n0 ≤ sa) ∧ (eAQ Z h sx) ∧ (fBQ Z h sx (.ref sa)) ∧ (fAQ Z h sx (.int 0)) ∧ (eCQ Z h sa) ∧ (Arv Z h sa sk .byte 8 [(.int (own_dg ((q0).toInt / 100 / 100 / 100 / 10))), (.int (own_dg ((q0).toInt / 100 / 100 / 100))), (.int (own_dg ((q0).toInt / 100 / 100 / 10))), (.int (own_dg ((q0).toInt / 100 / 100))), (.int (own_dg ((q0).toInt / 100 / 10))), (.int (own_dg ((q0).toInt / 100))), (.int (own_dg ((q0).toInt / 10))), (.int (own_dg ((q0).toInt)))] (.int 0)) ∧ (sx ≠ sa)
theorem rmts8 (l : Launch) (Z : State) (a0 : Array Value) (hw : TW a0 Z) (ws : List Jvm.Cond) (q0 : Int64) (cs : Int32) (a_D1 : Addr) (k_a_D1 : ClassId) (a_D2 : Addr) (k_a_D2 : ClassId) (h0 : Heap) (n0 : Nat) (Z0 : n0 ≤ h0.size) (wa : sHQ Z h0 (.int cs)) (hcs : ¬ cs = (0 : Int32)) (wl : Arv Z h0 a_D1 k_a_D1 .byte 100 own_ones (.int 0)) (wf : sJQ Z h0 (.ref a_D1)) (wn : Arv Z h0 a_D2 k_a_D2 .byte 100 own_tens (.int 0)) (wg : sKQ Z h0 (.ref a_D2)) (g1 : (q0).toInt < 100000000) (g2 : 10000000 ≤ (q0).toInt) :
  MF l mN7 jdk_35_method_12_code 4 (some (.object "java/lang/String")) ws (rmm 2 2 12 27) #[.long q0] Z h0 (Qts8 Z q0 cs a_D1 k_a_D1 a_D2 k_a_D2 h0 n0) := by
 refine MF.of (plainFor_of_name pn_7) ?_
 intro p e s m below meth c s₁ QQ hy hml hown hZ X0 e0 hrt hlk hnm hQQ
 have hx := hy.1
 have hby := hy.2
 have N0 := Fr.nil n0
 refine Ends.i #[jv q0, ss, uu, uu] (oE X0 hy d9_0 1 rfl ?_)
 refine cS X0 hy hml hown hZ hw d9_1 4 0 59 60 57 61 rfl rfl rfl rfl (rmss8 l Z a0 hw [] q0 h0 n0 Z0 g1 g2) e0 pd_21 rfl rfl fun _ T589 Lc589 X589 hQ589 => ?_
 obtain ⟨rfl, Nq589, hh589⟩ := hQ589
 have N589 := Fr.app N0 Nq589
 refine Ends.v (oxp X589 hy d9_4 5 #[jv q0, ss, iv 8, uu] rfl (gS X589 hy hown hZ hw hh589 wa d9_5 8 63 rfl fun T590 X590 e590 => ?_))
 have hc8 : ¬ (cs = (0 : Int32)) := hcs
 refine oxh X590 hy d9_8 11 (XT.i0_eq_f hc8) (oC X590 hy d9_11 12 rfl ?_)
 obtain ⟨T591, h591, k591, X591, e591, E591, A591, Y591, st591⟩ := newPE X590 hx hZ (tb hw 45 rfl) e590 (g := (mkF m 12 #[jv q0, ss, iv 8, uu] [.int 8])) rfl (hb hby d9_12) rfl (by decide) (cap := 8) (by decide) (by decide) (by decide) (by decide) (ad := "[B") (by decide)
 obtain ⟨b591, g591⟩ : ∃ z, z = h0.size := ⟨_, rfl⟩
 rw [← g591] at A591 Y591 st591
 have Kk : a_D1 ≠ b591 := Nat.ne_of_lt (Nat.lt_of_lt_of_le wl.lt (Nat.le_of_eq g591.symm))
 have VR : a_D2 ≠ b591 := Nat.ne_of_lt (Nat.lt_of_lt_of_le wn.lt (Nat.le_of_eq g591.symm))
 have Ui : n0 ≤ b591 := Nat.le_trans Z0 (Nat.le_trans (Keep.refl h0 []).1 (Nat.le_of_eq g591.symm))
 have Jg : h0.size ≤ b591 := Nat.le_trans (Keep.refl h0 []).1 (Nat.le_of_eq g591.symm)
 have wl := wl.ext E591
 have wf := wf.ext E591
 have wn := wn.ext E591
 have wg := wg.ext E591
 have K591 := (Keep.refl h0 []).ext E591
 have jM := Y591
 have uK : Arv Z h591 b591 k591 .byte 8 [.int 0, .int 0, .int 0, .int 0, .int 0, .int 0, .int 0, .int 0] (.int 0) := (Arv.new A591 (by decide)).pad (pad_rep [] (.int 0) 8)
 refine Ends.j 14 [.ref b591] st591 ?_
 refine oxt X591 hy d9_14 15 #[jv q0, ss, iv 8, rv b591] rfl (oE X591 hy d9_15 16 rfl (oC X591 hy d9_16 17 rfl (oA X591 hy d9_17 18 rfl ?_)))
 refine cS X591 hy hml hown hZ hw d9_18 21 0 64 65 57 66 rfl rfl rfl rfl (rmgc8 l Z a0 hw [] q0 b591 k591 a_D1 k_a_D1 a_D2 k_a_D2 h591 n0 (Nat.le_trans Z0 K591.1) uK Ui (Ne.symm Kk) (Ne.symm VR) wl wf wn wg g1 g2) e591 pd_22 rfl rfl fun _ T592 Lc592 X592 hQ592 => ?_
 obtain ⟨rfl, Nq592, Kq592, uK⟩ := hQ592
 have N592 := Fr.app N589 Nq592
 have jM := jM.keep Kq592
 have K592 := K591.trans Kq592 (allS (Or.inr Jg) all0)
 refine Ends.v (oxe X592 hy d9_21 22 rfl ?_)
 obtain ⟨T593, h593, X593, e593, E593, A593, D593, U593, st593⟩ := newO X592 hx hZ hown (tb hw 70 rfl) (tb hw 71 rfl) (tb hw 44 rfl) rfl (g := (mkF m 22 #[jv q0, ss, iv 8, rv b591] [])) rfl (hb hby d9_22) (by decide) (by decide)
 obtain ⟨b593, g593⟩ : ∃ z, z = T592.heap.size := ⟨_, rfl⟩
 rw [← g593] at A593 D593 U593 st593
 have zs : b591 ≠ b593 := Nat.ne_of_lt (Nat.lt_of_lt_of_le jM.lt (Nat.le_of_eq g593.symm))
 have Uh : n0 ≤ b593 := Nat.le_trans Z0 (Nat.le_trans K592.1 (Nat.le_of_eq g593.symm))
 have Jf : h0.size ≤ b593 := Nat.le_trans K592.1 (Nat.le_of_eq g593.symm)
 have jM := jM.ext E593
 have uK := uK.ext E593
 have K593 := K592.ext E593
 have Kv := A593
 have uf : fBQ Z h593 b593 .null := D593 (Or.inr (tb hw 78 rfl)) (ty := (.array .byte)) (by decide)
 have ut : fAQ Z h593 b593 (.int 0) := D593 (Or.inr (tb hw 80 rfl)) (ty := .byte) (by decide)
 refine Ends.j 25 [.ref b593] st593 ?_
 refine oxd X593 hy d9_25 26 rfl (oA X593 hy d9_26 27 rfl (oG X593 hy d9_27 28 0 rfl ?_))
 refine cI X593 hy hml hown hZ hw d9_28 31 1 72 73 75 44 rfl rfl rfl rfl rfl (rmsib l Z a0 hw [] b593 b591 (.null : Value) (0 : Int32) h593 n0 (Nat.le_trans Z0 K593.1) Kv uf ut Uh) e593 pd_23 rfl rfl fun _ T594 Lc594 X594 hQ594 => ?_
 obtain ⟨rfl, Nq594, Kq594, Kv, uf, ut⟩ := hQ594
 have N594 := Fr.app N592 Nq594
 have jM := jM.keep Kq594
 have uK := uK.keep Kq594 (ninS zs nin0)
 have K594 := K593.trans Kq594 (allS (Or.inr Jf) all0)
 refine Ends.u ?_
 exact fA X594 hy hrt hlk hQQ d9_31 rfl rfl rfl (by decide) ⟨b593, b591, k591, rfl, N594, K594, Jf, Jg, Uh, Ui, Kv, uf, ut, jM, uK, (Ne.symm zs)⟩
def Qts9 (Z : State) (q0 : Int64) (cs : Int32) (a_D1 : Addr) (k_a_D1 : ClassId) (a_D2 : Addr) (k_a_D2 : ClassId) (h0 : Heap) (n0 : Nat) : QT := fun v h L => ∃ (sx : Addr), ∃ (sa : Addr), ∃ (sk : ClassId), (v = some (.ref sx)) ∧ (Fr n0 L) ∧ (Keep h0 h []) ∧ (h0.size ≤ sx) ∧ (h0.size ≤ sa) ∧ (n0 ≤ sx) ∧ (n0 ≤ sa) ∧ (eAQ Z h sx) ∧ (fBQ Z h sx (.ref sa)) ∧ (fAQ Z h sx (.int 0)) ∧ (eCQ Z h sa) ∧ (Arv Z h sa sk .byte 9 [(.int (own_dg ((q0).toInt / 100 / 100 / 100 / 100))), (.int (own_dg ((q0).toInt / 100 / 100 / 100 / 10))), (.int (own_dg ((q0).toInt / 100 / 100 / 100))), (.int (own_dg ((q0).toInt / 100 / 100 / 10))), (.int (own_dg ((q0).toInt / 100 / 100))), (.int (own_dg ((q0).toInt / 100 / 10))), (.int (own_dg ((q0).toInt / 100))), (.int (own_dg ((q0).toInt / 10))), (.int (own_dg ((q0).toInt)))] (.int 0)) ∧ (sx ≠ sa)
theorem rmts9 (l : Launch) (Z : State) (a0 : Array Value) (hw : TW a0 Z) (ws : List Jvm.Cond) (q0 : Int64) (cs : Int32) (a_D1 : Addr) (k_a_D1 : ClassId) (a_D2 : Addr) (k_a_D2 : ClassId) (h0 : Heap) (n0 : Nat) (Z0 : n0 ≤ h0.size) (wa : sHQ Z h0 (.int cs)) (hcs : ¬ cs = (0 : Int32)) (wl : Arv Z h0 a_D1 k_a_D1 .byte 100 own_ones (.int 0)) (wf : sJQ Z h0 (.ref a_D1)) (wn : Arv Z h0 a_D2 k_a_D2 .byte 100 own_tens (.int 0)) (wg : sKQ Z h0 (.ref a_D2)) (g1 : (q0).toInt < 1000000000) (g2 : 100000000 ≤ (q0).toInt) :
  MF l mN7 jdk_35_method_12_code 4 (some (.object "java/lang/String")) ws (rmm 2 2 13 27) #[.long q0] Z h0 (Qts9 Z q0 cs a_D1 k_a_D1 a_D2 k_a_D2 h0 n0) := by
 refine MF.of (plainFor_of_name pn_7) ?_
 intro p e s m below meth c s₁ QQ hy hml hown hZ X0 e0 hrt hlk hnm hQQ
 have hx := hy.1
 have hby := hy.2
 have N0 := Fr.nil n0
 refine Ends.i #[jv q0, ss, uu, uu] (oE X0 hy d9_0 1 rfl ?_)
 refine cS X0 hy hml hown hZ hw d9_1 4 0 59 60 57 61 rfl rfl rfl rfl (rmss9 l Z a0 hw [] q0 h0 n0 Z0 g1 g2) e0 pd_21 rfl rfl fun _ T595 Lc595 X595 hQ595 => ?_
 obtain ⟨rfl, Nq595, hh595⟩ := hQ595
 have N595 := Fr.app N0 Nq595
 refine Ends.v (oxp X595 hy d9_4 5 #[jv q0, ss, iv 9, uu] rfl (gS X595 hy hown hZ hw hh595 wa d9_5 8 63 rfl fun T596 X596 e596 => ?_))
 have hc8 : ¬ (cs = (0 : Int32)) := hcs
 refine oxh X596 hy d9_8 11 (XT.i0_eq_f hc8) (oC X596 hy d9_11 12 rfl ?_)
 obtain ⟨T597, h597, k597, X597, e597, E597, A597, Y597, st597⟩ := newPE X596 hx hZ (tb hw 45 rfl) e596 (g := (mkF m 12 #[jv q0, ss, iv 9, uu] [.int 9])) rfl (hb hby d9_12) rfl (by decide) (cap := 9) (by decide) (by decide) (by decide) (by decide) (ad := "[B") (by decide)
 obtain ⟨b597, g597⟩ : ∃ z, z = h0.size := ⟨_, rfl⟩
 rw [← g597] at A597 Y597 st597
 have Kj : a_D1 ≠ b597 := Nat.ne_of_lt (Nat.lt_of_lt_of_le wl.lt (Nat.le_of_eq g597.symm))
 have VQ : a_D2 ≠ b597 := Nat.ne_of_lt (Nat.lt_of_lt_of_le wn.lt (Nat.le_of_eq g597.symm))
 have Ug : n0 ≤ b597 := Nat.le_trans Z0 (Nat.le_trans (Keep.refl h0 []).1 (Nat.le_of_eq g597.symm))
 have Je : h0.size ≤ b597 := Nat.le_trans (Keep.refl h0 []).1 (Nat.le_of_eq g597.symm)
 have wl := wl.ext E597
 have wf := wf.ext E597
 have wn := wn.ext E597
 have wg := wg.ext E597
 have K597 := (Keep.refl h0 []).ext E597
 have jL := Y597
 have uJ : Arv Z h597 b597 k597 .byte 9 [.int 0, .int 0, .int 0, .int 0, .int 0, .int 0, .int 0, .int 0, .int 0] (.int 0) := (Arv.new A597 (by decide)).pad (pad_rep [] (.int 0) 9)
 refine Ends.j 14 [.ref b597] st597 ?_
 refine oxt X597 hy d9_14 15 #[jv q0, ss, iv 9, rv b597] rfl (oE X597 hy d9_15 16 rfl (oC X597 hy d9_16 17 rfl (oA X597 hy d9_17 18 rfl ?_)))
 refine cS X597 hy hml hown hZ hw d9_18 21 0 64 65 57 66 rfl rfl rfl rfl (rmgc9 l Z a0 hw [] q0 b597 k597 a_D1 k_a_D1 a_D2 k_a_D2 h597 n0 (Nat.le_trans Z0 K597.1) uJ Ug (Ne.symm Kj) (Ne.symm VQ) wl wf wn wg g1 g2) e597 pd_22 rfl rfl fun _ T598 Lc598 X598 hQ598 => ?_
 obtain ⟨rfl, Nq598, Kq598, uJ⟩ := hQ598
 have N598 := Fr.app N595 Nq598
 have jL := jL.keep Kq598
 have K598 := K597.trans Kq598 (allS (Or.inr Je) all0)
 refine Ends.v (oxe X598 hy d9_21 22 rfl ?_)
 obtain ⟨T599, h599, X599, e599, E599, A599, D599, U599, st599⟩ := newO X598 hx hZ hown (tb hw 70 rfl) (tb hw 71 rfl) (tb hw 44 rfl) rfl (g := (mkF m 22 #[jv q0, ss, iv 9, rv b597] [])) rfl (hb hby d9_22) (by decide) (by decide)
 obtain ⟨b599, g599⟩ : ∃ z, z = T598.heap.size := ⟨_, rfl⟩
 rw [← g599] at A599 D599 U599 st599
 have zr : b597 ≠ b599 := Nat.ne_of_lt (Nat.lt_of_lt_of_le jL.lt (Nat.le_of_eq g599.symm))
 have Uf : n0 ≤ b599 := Nat.le_trans Z0 (Nat.le_trans K598.1 (Nat.le_of_eq g599.symm))
 have Jd : h0.size ≤ b599 := Nat.le_trans K598.1 (Nat.le_of_eq g599.symm)
 have jL := jL.ext E599
 have uJ := uJ.ext E599
 have K599 := K598.ext E599
 have Ku := A599
 have ue : fBQ Z h599 b599 .null := D599 (Or.inr (tb hw 78 rfl)) (ty := (.array .byte)) (by decide)
 have ur : fAQ Z h599 b599 (.int 0) := D599 (Or.inr (tb hw 80 rfl)) (ty := .byte) (by decide)
 refine Ends.j 25 [.ref b599] st599 ?_
 refine oxd X599 hy d9_25 26 rfl (oA X599 hy d9_26 27 rfl (oG X599 hy d9_27 28 0 rfl ?_))
 refine cI X599 hy hml hown hZ hw d9_28 31 1 72 73 75 44 rfl rfl rfl rfl rfl (rmsib l Z a0 hw [] b599 b597 (.null : Value) (0 : Int32) h599 n0 (Nat.le_trans Z0 K599.1) Ku ue ur Uf) e599 pd_23 rfl rfl fun _ T600 Lc600 X600 hQ600 => ?_
 obtain ⟨rfl, Nq600, Kq600, Ku, ue, ur⟩ := hQ600
 have N600 := Fr.app N598 Nq600
 have jL := jL.keep Kq600
 have uJ := uJ.keep Kq600 (ninS zr nin0)
 have K600 := K599.trans Kq600 (allS (Or.inr Jd) all0)
 refine Ends.u ?_
 exact fA X600 hy hrt hlk hQQ d9_31 rfl rfl rfl (by decide) ⟨b599, b597, k597, rfl, N600, K600, Jd, Je, Uf, Ug, Ku, ue, ur, jL, uJ, (Ne.symm zr)⟩
theorem d1_0 : decode cD25 0 = .ok (.lload_n 0, 1) := by decide +kernel
theorem d1_1 : decode cD25 1 = .ok (.lload_n 2, 1) := by decide +kernel
theorem d1_2 : decode cD25 2 = .ok (.lcmp, 1) := by decide +kernel
theorem d1_3 : decode cD25 3 = .ok (.ifCond .lt 7, 3) := by decide +kernel
theorem d1_6 : decode cD25 6 = .ok (.lload_n 0, 1) := by decide +kernel
theorem d1_7 : decode cD25 7 = .ok (.goto 4, 3) := by decide +kernel
theorem d1_10 : decode cD25 10 = .ok (.lload_n 2, 1) := by decide +kernel
theorem d1_11 : decode cD25 11 = .ok (.lreturn, 1) := by decide +kernel
def fmxj_v11_1 (q0 q1 : Int64) : Int64 := (if q0 < q1 then q1 else q0)
def fmxj (q0 q1 : Int64) : Int64 := (fmxj_v11_1 q0 q1)
def Qmxj (Z : State) (q0 q1 : Int64) (h0 : Heap) (n0 : Nat) : QT := fun v h L => (v = some (.long (fmxj q0 q1))) ∧ (Fr n0 L) ∧ (h = h0)
theorem rmmxj (l : Launch) (Z : State) (a0 : Array Value) (hw : TW a0 Z) (ws : List Jvm.Cond) (q0 q1 : Int64) (h0 : Heap) (n0 : Nat) (Z0 : n0 ≤ h0.size) :
  MF l mN40 jdk_29_method_66_code 4 (some .long) ws (rmm 0 0 0 0) #[.long q0, .long q1] Z h0 (Qmxj Z q0 q1 h0 n0) := by
 refine MF.of (Jvm.Free.JP.mathPlain rfl (by decide +kernel)) ?_
 intro p e s m below meth c s₁ QQ hy hml hown hZ X0 e0 hrt hlk hnm hQQ
 have N0 := Fr.nil n0
 refine Ends.i #[jv q0, ss, jv q1, ss] (oE X0 hy d1_0 1 rfl (oE X0 hy d1_1 2 rfl (oY X0 hy d1_2 3 ?_)))
 have J11_601 : (∀ (v11_1 : Int64) (hv11_1 : v11_1 = (if q0 < q1 then q1 else q0)), Ends p e below QQ (s₁.setTop (mkF m 11 #[jv q0, ss, jv q1, ss] [.long v11_1]))) → Ends p e below QQ (s₁.setTop (mkF m 3 #[jv q0, ss, jv q1, ss] [.int (XT.cmpL q0 q1)])) := by
  intro hJ
  by_cases hc3_602 : q0 < q1
  ·refine oxk X0 hy d1_3 10 (XT.ll_lt_t hc3_602) (oE X0 hy d1_10 11 rfl ?_)
   exact hJ _ (by simp only [if_pos hc3_602])
  ·refine oxh X0 hy d1_3 6 (XT.ll_lt_f hc3_602) (oE X0 hy d1_6 7 rfl (oxm X0 hy d1_7 11 ?_))
   exact hJ _ (by simp only [if_neg hc3_602])
 refine J11_601 fun v11_1 hv11_1 => ?_
 have dv11_1 : fmxj_v11_1 q0 q1 = v11_1 := by
  simp only [fmxj_v11_1]
  exact hv11_1.symm
 show Ends p e below QQ (s₁.setTop (mkF m 11 #[jv q0, ss, jv q1, ss] [.long v11_1]))
 exact fJ X0 hy hrt hlk hQQ d1_11 e0 (by decide) ⟨(by simp only [fmxj, dv11_1]), N0, rfl⟩
theorem d3_0 : decode jdk_30_method_1_code 0 = .ok (.aload_n 0, 1) := by decide +kernel
theorem d3_1 : decode jdk_30_method_1_code 1 = .ok (.invokespecial 1, 3) := by decide +kernel
theorem d3_4 : decode jdk_30_method_1_code 4 = .ok (.return_, 1) := by decide +kernel
def Qrec (Z : State) (o0 : Addr) (h0 : Heap) (n0 : Nat) : QT := fun v h L => (v = none) ∧ (Fr n0 L) ∧ (h = h0)
theorem rmrec (l : Launch) (Z : State) (a0 : Array Value) (hw : TW a0 Z) (ws : List Jvm.Cond) (o0 : Addr) (h0 : Heap) (n0 : Nat) (Z0 : n0 ≤ h0.size) :
  MF l mN41 jdk_30_method_1_code 1 none ws (rmm 1 0 0 12) #[.ref o0] Z h0 (Qrec Z o0 h0 n0) := by
 refine MF.of (plainFor_of_name pn_8) ?_
 intro p e s m below meth c s₁ QQ hy hml hown hZ X0 e0 hrt hlk hnm hQQ
 have hx := hy.1
 have hby := hy.2
 have N0 := Fr.nil n0
 refine Ends.i #[rv o0] (oA X0 hy d3_0 1 rfl ?_)
 obtain ⟨T603, X603, e603, st603⟩ := initO X0 hx hZ hown (tb hw 17 rfl) (tb hw 18 rfl) (tb hw 19 rfl) e0 (g := (mkF m 1 #[rv o0] [.ref o0])) rfl (by rw [hml]; rfl) rfl (hb hby d3_1) (by decide) (W := 0) (by show 2 * 0 + _ ≤ _; exact Nat.le_of_eq rfl) (by decide)
 refine Ends.j 4 [] st603 ?_
 exact fV X603 hy hrt hlk hQQ d3_4 e603 (by decide) ⟨rfl, N0, rfl⟩
theorem d2_0 : decode cD10 0 = .ok (.aload_n 0, 1) := by decide +kernel
theorem d2_1 : decode cD10 1 = .ok (.invokespecial 1, 3) := by decide +kernel
theorem d2_4 : decode cD10 4 = .ok (.lload_n 1, 1) := by decide +kernel
theorem d2_5 : decode cD10 5 = .ok (.lconst 1, 1) := by decide +kernel
theorem d2_6 : decode cD10 6 = .ok (.lcmp, 1) := by decide +kernel
theorem d2_7 : decode cD10 7 = .ok (.ifCond .lt 11, 3) := by decide +kernel
theorem d2_10 : decode cD10 10 = .ok (.lload_n 1, 1) := by decide +kernel
theorem d2_11 : decode cD10 11 = .ok (.ldc2_w 9, 3) := by decide +kernel
theorem d2_14 : decode cD10 14 = .ok (.lcmp, 1) := by decide +kernel
theorem d2_15 : decode cD10 15 = .ok (.ifCond .le 13, 3) := by decide +kernel
theorem d2_28 : decode cD10 28 = .ok (.lload_n 3, 1) := by decide +kernel
theorem d2_29 : decode cD10 29 = .ok (.lconst 1, 1) := by decide +kernel
theorem d2_30 : decode cD10 30 = .ok (.lcmp, 1) := by decide +kernel
theorem d2_31 : decode cD10 31 = .ok (.ifCond .ge 13, 3) := by decide +kernel
theorem d2_44 : decode cD10 44 = .ok (.aload_n 0, 1) := by decide +kernel
theorem d2_45 : decode cD10 45 = .ok (.lload_n 1, 1) := by decide +kernel
theorem d2_46 : decode cD10 46 = .ok (.putfield 20, 3) := by decide +kernel
theorem d2_49 : decode cD10 49 = .ok (.aload_n 0, 1) := by decide +kernel
theorem d2_50 : decode cD10 50 = .ok (.lload_n 3, 1) := by decide +kernel
theorem d2_51 : decode cD10 51 = .ok (.putfield 24, 3) := by decide +kernel
theorem d2_54 : decode cD10 54 = .ok (.return_, 1) := by decide +kernel
theorem own_mxj (x : Int64) : ¬ (fmxj (1 : Int64) x) < (1 : Int64) := by
  unfold fmxj
  try unfold fmxj_v11_1
  split
  · first | assumption | exact fun q => absurd q (by decide) | (intro q; rename_i z; rw [Int64.lt_iff_toInt_lt] at z q; omega)
  · first | assumption | exact fun q => absurd q (by decide) | (intro q; rename_i z; rw [Int64.lt_iff_toInt_lt] at z q; omega)
def Qldi (Z : State) (o0 : Addr) (q1 q2 u1 u2 : Int64) (h0 : Heap) (n0 : Nat) : QT := fun v h L => (v = none) ∧ (Fr n0 L) ∧ (Keep h0 h [o0]) ∧ (eDQ Z h o0) ∧ (fFQ Z h o0 (.long q1))
theorem rmldi (l : Launch) (Z : State) (a0 : Array Value) (hw : TW a0 Z) (ws : List Jvm.Cond) (o0 : Addr) (q1 q2 u1 u2 : Int64) (h0 : Heap) (n0 : Nat) (Z0 : n0 ≤ h0.size) (wh : eDQ Z h0 o0) (wu : fFQ Z h0 o0 (.long u1)) (uq : fGQ Z h0 o0 (.long u2)) (wy : n0 ≤ o0) (h1 : ¬ q1 < (1 : Int64)) (h2 : ¬ (1000000000 : Int64) < q1) (h3 : ¬ q2 < (1 : Int64)) :
  MF l mN42 prog_8_method_1_code 5 none ws (rmm 2 0 0 24) #[.ref o0, .long q1, .long q2] Z h0 (Qldi Z o0 q1 q2 u1 u2 h0 n0) := by
 refine MF.of (plainFor_of_name pn_9) ?_
 intro p e s m below meth c s₁ QQ hy hml hown hZ X0 e0 hrt hlk hnm hQQ
 have hx := hy.1
 have hby := hy.2
 have N0 := Fr.nil n0
 refine Ends.i #[rv o0, jv q1, ss, jv q2, ss] (oA X0 hy d2_0 1 rfl ?_)
 refine cI X0 hy hml hown hZ hw d2_1 4 0 12 13 16 15 rfl rfl rfl rfl rfl (rmrec l Z a0 hw [] o0 h0 n0 Z0) e0 pd_24 rfl rfl fun _ T604 Lc604 X604 hQ604 => ?_
 obtain ⟨rfl, Nq604, hh604⟩ := hQ604
 have N604 := Fr.app N0 Nq604
 refine Ends.u (oE X604 hy d2_4 5 rfl (oJ X604 hy d2_5 6 1 rfl (oY X604 hy d2_6 7 ?_)))
 have hc7 : ¬ (q1 < (1 : Int64)) := h1
 refine oxh X604 hy d2_7 10 (XT.ll_lt_f hc7) (oE X604 hy d2_10 11 rfl (oJ2 X604 hy hown hZ hw d2_11 14 1000000000 20 rfl (oY X604 hy d2_14 15 ?_)))
 have hc15 : ¬ ((1000000000 : Int64) < q1) := h2
 refine oxk X604 hy d2_15 28 (XT.ll_le_t hc15) (oE X604 hy d2_28 29 rfl (oJ X604 hy d2_29 30 1 rfl (oY X604 hy d2_30 31 ?_)))
 have hc31 : ¬ (q2 < (1 : Int64)) := h3
 refine oxk X604 hy d2_31 44 (XT.ll_ge_t hc31) (oA X604 hy d2_44 45 rfl (oE X604 hy d2_45 46 rfl ?_))
 obtain ⟨T605, h605, X605, e605, W605, st605⟩ := putF X604 hx hZ hown (host := "") (Or.inl (tb hw 21 rfl)) Via.refl hh604 wu wh (Or.inr ⟨(tb hw 22 rfl), rfl, hnm⟩) (tb hw 7 rfl) (ty := .long) (by decide) rfl rfl (g := (mkF m 46 #[rv o0, jv q1, ss, jv q2, ss] [.long q1, .ref o0])) rfl rfl (hb hby d2_46)
 have wh := wh.wr W605
 have uq := uq.other W605 (Or.inr (slot_ne (Or.inr (tb hw 24 rfl)) (Or.inr (tb hw 22 rfl)) (by decide) (t := .long) (t' := .long) (by decide) (by decide)))
 have wu : fFQ Z h605 o0 (.long q1) := wu.same W605
 have K605 := (Keep.refl h0 [o0]).wr W605 (Or.inl mm0)
 have N605 := Fr.snoc X605 N604 wy
 refine Ends.j 49 [] st605 ?_
 refine oA X605 hy d2_49 50 rfl (oE X605 hy d2_50 51 rfl ?_)
 obtain ⟨T606, h606, X606, e606, W606, st606⟩ := putF X605 hx hZ hown (host := "") (Or.inl (tb hw 23 rfl)) Via.refl e605 uq wh (Or.inr ⟨(tb hw 24 rfl), rfl, hnm⟩) (tb hw 7 rfl) (ty := .long) (by decide) rfl rfl (g := (mkF m 51 #[rv o0, jv q1, ss, jv q2, ss] [.long q2, .ref o0])) rfl rfl (hb hby d2_51)
 have wh := wh.wr W606
 have wu := wu.other W606 (Or.inr (slot_ne (Or.inr (tb hw 22 rfl)) (Or.inr (tb hw 24 rfl)) (by decide) (t := .long) (t' := .long) (by decide) (by decide)))
 have K606 := K605.wr W606 (Or.inl mm0)
 have N606 := Fr.snoc X606 N605 wy
 refine Ends.j 54 [] st606 ?_
 exact fV X606 hy hrt hlk hQQ d2_54 e606 (by decide) ⟨rfl, N606, K606, wh, wu⟩
theorem d8_0 : decode cD1 0 = .ok (.lload_n 2, 1) := by decide +kernel
theorem d8_1 : decode cD1 1 = .ok (.lconst 0, 1) := by decide +kernel
theorem d8_2 : decode cD1 2 = .ok (.lcmp, 1) := by decide +kernel
theorem d8_3 : decode cD1 3 = .ok (.ifCond .ge 13, 3) := by decide +kernel
theorem d8_16 : decode cD1 16 = .ok (.lload_n 2, 1) := by decide +kernel
theorem d8_17 : decode cD1 17 = .ok (.aload_n 0, 1) := by decide +kernel
theorem d8_18 : decode cD1 18 = .ok (.getfield 20, 3) := by decide +kernel
theorem d8_21 : decode cD1 21 = .ok (.lrem, 1) := by decide +kernel
theorem d8_22 : decode cD1 22 = .ok (.ldc2_w 75, 3) := by decide +kernel
theorem d8_25 : decode cD1 25 = .ok (.lmul, 1) := by decide +kernel
theorem d8_26 : decode cD1 26 = .ok (.aload_n 0, 1) := by decide +kernel
theorem d8_27 : decode cD1 27 = .ok (.getfield 20, 3) := by decide +kernel
theorem d8_30 : decode cD1 30 = .ok (.lrem, 1) := by decide +kernel
theorem d8_31 : decode cD1 31 = .ok (.invokestatic 77, 3) := by decide +kernel
theorem d8_34 : decode cD1 34 = .ok (.astore 4, 2) := by decide +kernel
theorem d8_36 : decode cD1 36 = .ok (.aload_n 1, 1) := by decide +kernel
theorem d8_37 : decode cD1 37 = .ok (.bipush 112, 2) := by decide +kernel
theorem d8_39 : decode cD1 39 = .ok (.invokevirtual 82, 3) := by decide +kernel
theorem d8_42 : decode cD1 42 = .ok (.pop, 1) := by decide +kernel
theorem d8_43 : decode cD1 43 = .ok (.aload 4, 2) := by decide +kernel
theorem d8_45 : decode cD1 45 = .ok (.invokevirtual 85, 3) := by decide +kernel
theorem d8_48 : decode cD1 48 = .ok (.istore 5, 2) := by decide +kernel
theorem d8_50 : decode cD1 50 = .ok (.iload 5, 2) := by decide +kernel
theorem d8_52 : decode cD1 52 = .ok (.bipush 7, 2) := by decide +kernel
theorem d8_54 : decode cD1 54 = .ok (.if_icmp .ge 16, 3) := by decide +kernel
theorem d8_57 : decode cD1 57 = .ok (.aload_n 1, 1) := by decide +kernel
theorem d8_58 : decode cD1 58 = .ok (.bipush 48, 2) := by decide +kernel
theorem d8_60 : decode cD1 60 = .ok (.invokevirtual 82, 3) := by decide +kernel
theorem d8_63 : decode cD1 63 = .ok (.pop, 1) := by decide +kernel
theorem d8_64 : decode cD1 64 = .ok (.iinc 5 1, 3) := by decide +kernel
theorem d8_67 : decode cD1 67 = .ok (.goto (-17), 3) := by decide +kernel
theorem d8_70 : decode cD1 70 = .ok (.aload_n 1, 1) := by decide +kernel
theorem d8_71 : decode cD1 71 = .ok (.aload 4, 2) := by decide +kernel
theorem d8_73 : decode cD1 73 = .ok (.invokevirtual 48, 3) := by decide +kernel
theorem d8_76 : decode cD1 76 = .ok (.pop, 1) := by decide +kernel
theorem d8_77 : decode cD1 77 = .ok (.return_, 1) := by decide +kernel
def Qap1 (Z : State) (o0 o1 : Addr) (q2 pl : Int64) (vb : Addr) (kb : ClassId) (cs : Int32) (a_D1 : Addr) (k_a_D1 : ClassId) (a_D2 : Addr) (k_a_D2 : ClassId) (h0 : Heap) (n0 : Nat) : QT := fun v h L => (v = none) ∧ (Fr n0 L) ∧ (Keep h0 h [o1, vb]) ∧ (eBQ Z h o1) ∧ (fDQ Z h o1 (.ref vb)) ∧ (fCQ Z h o1 (.int 0)) ∧ (fEQ Z h o1 (.int 8)) ∧ (eCQ Z h vb) ∧ (Arv Z h vb kb .byte 8 [.int 112, .int 48, .int 48, .int 48, .int 48, .int 48, .int 48, (.int (own_dg (((((q2 % pl) * (7919 : Int64)) % pl)).toInt)))] (.int 0))
theorem rmap1 (l : Launch) (Z : State) (a0 : Array Value) (hw : TW a0 Z) (ws : List Jvm.Cond) (o0 o1 : Addr) (q2 pl : Int64) (vb : Addr) (kb : ClassId) (cs : Int32) (a_D1 : Addr) (k_a_D1 : ClassId) (a_D2 : Addr) (k_a_D2 : ClassId) (h0 : Heap) (n0 : Nat) (Z0 : n0 ≤ h0.size) (wh : eDQ Z h0 o0) (wu : fFQ Z h0 o0 (.long pl)) (wt : eBQ Z h0 o1) (wk : fDQ Z h0 o1 (.ref vb)) (wj : fCQ Z h0 o1 (.int 0)) (wp : fEQ Z h0 o1 (.int 0)) (wo : eCQ Z h0 vb) (wm : Arv Z h0 vb kb .byte 8 [.int 0, .int 0, .int 0, .int 0, .int 0, .int 0, .int 0, .int 0] (.int 0)) (wK : n0 ≤ o1) (ww : n0 ≤ vb) (wx : o1 ≠ vb) (wa : sHQ Z h0 (.int cs)) (hcs : ¬ cs = (0 : Int32)) (wl : Arv Z h0 a_D1 k_a_D1 .byte 100 own_ones (.int 0)) (wf : sJQ Z h0 (.ref a_D1)) (wn : Arv Z h0 a_D2 k_a_D2 .byte 100 own_tens (.int 0)) (wg : sKQ Z h0 (.ref a_D2)) (wD : o0 ≠ o1) (wq : o0 ≠ vb) (kz : a_D1 ≠ vb) (ky : a_D2 ≠ vb) (h0q : ¬ q2 < (0 : Int64)) (hpl : pl ≠ 0) (g1 : ((((q2 % pl) * (7919 : Int64)) % pl)).toInt < 10) (g2 : 0 ≤ ((((q2 % pl) * (7919 : Int64)) % pl)).toInt) :
  MF l mN8 prog_8_method_5_code 6 none ws (rmm 5 2 5 80) #[.ref o0, .ref o1, .long q2] Z h0 (Qap1 Z o0 o1 q2 pl vb kb cs a_D1 k_a_D1 a_D2 k_a_D2 h0 n0) := by
 refine MF.of (plainFor_of_name pn_9) ?_
 intro p e s m below meth c s₁ QQ hy hml hown hZ X0 e0 hrt hlk hnm hQQ
 have N0 := Fr.nil n0
 refine Ends.i #[rv o0, rv o1, jv q2, ss, uu, uu] (oE X0 hy d8_0 1 rfl (oJ X0 hy d8_1 2 0 rfl (oY X0 hy d8_2 3 ?_)))
 have hc3 : ¬ (q2 < (0 : Int64)) := h0q
 refine oxk X0 hy d8_3 16 (XT.ll_ge_t hc3) (oE X0 hy d8_16 17 rfl (oA X0 hy d8_17 18 rfl (gF X0 hy hown hZ hw e0 wu d8_18 21 21 rfl fun T607 X607 e607 => lremO X607 hy d8_21 22 hpl (oJ2 X607 hy hown hZ hw d8_22 25 7919 54 rfl (oU X607 hy d8_25 26 (oA X607 hy d8_26 27 rfl (gF X607 hy hown hZ hw e607 wu d8_27 30 21 rfl fun T608 X608 e608 => lremO X608 hy d8_30 31 hpl ?_)))))))
 refine cS X608 hy hml hown hZ hw d8_31 34 0 55 56 57 58 rfl rfl rfl rfl (rmts1 l Z a0 hw [] (((q2 % pl) * (7919 : Int64)) % pl) cs a_D1 k_a_D1 a_D2 k_a_D2 h0 n0 Z0 wa hcs wl wf wn wg g1 g2) e608 pd_25 rfl rfl fun _ T609 Lc609 X609 hQ609 => ?_
 obtain ⟨sx_609, sa_609, sk_609, rfl, Nq609, Kq609, fq609_0, fq609_1, g_sx_609, g_sa_609, vB, wL, wM, vH, vE, zI⟩ := hQ609
 have N609 := Fr.app N0 Nq609
 have wR : o1 ≠ sx_609 := Nat.ne_of_lt (Nat.lt_of_lt_of_le wt.lt fq609_0)
 have wQ : vb ≠ sx_609 := Nat.ne_of_lt (Nat.lt_of_lt_of_le wo.lt fq609_0)
 have vZ : o1 ≠ sa_609 := Nat.ne_of_lt (Nat.lt_of_lt_of_le wt.lt fq609_1)
 have vY : vb ≠ sa_609 := Nat.ne_of_lt (Nat.lt_of_lt_of_le wo.lt fq609_1)
 have wa := own_sta_keep wa Kq609 all0
 have wt := wt.keep Kq609
 have wk := wk.keep Kq609 nin0
 have wj := wj.keep Kq609 nin0
 have wp := wp.keep Kq609 nin0
 have wo := wo.keep Kq609
 have wm := wm.keep Kq609 nin0
 have K609 := (Keep.refl h0 [o1, vb]).trans Kq609 all0
 refine Ends.v (oxs X609 hy d8_34 36 #[rv o0, rv o1, jv q2, ss, rv sx_609, uu] rfl (oA X609 hy d8_36 37 rfl (oH X609 hy d8_37 39 112 rfl ?_)))
 refine cV X609 hy hml hown hZ hw d8_39 42 0 81 82 84 83 85 32 rfl rfl rfl rfl rfl rfl (rmsba0_112 l Z a0 hw [] o1 vb kb cs T609.heap n0 (Nat.le_trans Z0 K609.1) wt wk wj wp wo wm wK ww wx wa hcs) rfl pd_26 wt rfl rfl fun _ T610 Lc610 X610 hQ610 => ?_
 obtain ⟨rfl, Nq610, Kq610, fq610_0, wk, wj, wp, wm⟩ := hQ610
 have N610 := Fr.app N609 Nq610
 have wa := own_sta_keep wa Kq610 (allS wt.cell (allS wo.cell all0))
 have wo := wo.keep Kq610
 have vB := vB.keep Kq610
 have wL := wL.keep Kq610 (ninS (Ne.symm wR) (ninS (Ne.symm wQ) nin0))
 have wM := wM.keep Kq610 (ninS (Ne.symm wR) (ninS (Ne.symm wQ) nin0))
 have vH := vH.keep Kq610
 have vE := vE.keep Kq610 (ninS (Ne.symm vZ) (ninS (Ne.symm vY) nin0))
 have wt := fq610_0
 have K610 := K609.trans Kq610 (allS (Or.inl mm0) (allS (Or.inl mm1) all0))
 refine Ends.v (oxe X610 hy d8_42 43 rfl (oB X610 hy d8_43 45 rfl ?_))
 refine cV X610 hy hml hown hZ hw d8_45 48 0 107 108 110 109 111 44 rfl rfl rfl rfl rfl rfl (rmlen l Z a0 hw [] sx_609 sa_609 sk_609 (1 : Int32) [(.int (own_dg (((((q2 % pl) * (7919 : Int64)) % pl)).toInt)))] cs T610.heap n0 (Nat.le_trans Z0 K610.1) vB wL vE wa hcs wM) rfl pd_10 vB rfl rfl fun _ T611 Lc611 X611 hQ611 => ?_
 obtain ⟨rfl, Nq611, hh611⟩ := hQ611
 have N611 := Fr.app N610 Nq611
 refine Ends.v (oxo X611 hy d8_48 50 #[rv o0, rv o1, jv q2, ss, rv sx_609, iv 1] rfl (oD X611 hy d8_50 52 rfl (oH X611 hy d8_52 54 7 rfl (oxi X611 hy d8_54 57 (XT.ii_ge_f (by decide)) (oA X611 hy d8_57 58 rfl (oH X611 hy d8_58 60 48 rfl ?_))))))
 refine cV X611 hy hml hown hZ hw d8_60 63 0 81 82 84 83 85 32 rfl rfl rfl rfl rfl rfl (rmsba1_48 l Z a0 hw [] o1 vb kb cs T610.heap n0 (Nat.le_trans Z0 K610.1) wt wk wj wp wo wm wK ww wx wa hcs) hh611 pd_26 wt rfl rfl fun _ T612 Lc612 X612 hQ612 => ?_
 obtain ⟨rfl, Nq612, Kq612, fq612_0, wk, wj, wp, wm⟩ := hQ612
 have N612 := Fr.app N611 Nq612
 have wa := own_sta_keep wa Kq612 (allS wt.cell (allS wo.cell all0))
 have wo := wo.keep Kq612
 have vB := vB.keep Kq612
 have wL := wL.keep Kq612 (ninS (Ne.symm wR) (ninS (Ne.symm wQ) nin0))
 have wM := wM.keep Kq612 (ninS (Ne.symm wR) (ninS (Ne.symm wQ) nin0))
 have vH := vH.keep Kq612
 have vE := vE.keep Kq612 (ninS (Ne.symm vZ) (ninS (Ne.symm vY) nin0))
 have wt := fq612_0
 have K612 := K610.trans Kq612 (allS (Or.inl mm0) (allS (Or.inl mm1) all0))
 refine Ends.v (oxe X612 hy d8_63 64 rfl (oxz X612 hy d8_64 67 #[rv o0, rv o1, jv q2, ss, rv sx_609, iv 2] 1 rfl rfl rfl (oxm X612 hy d8_67 50 (oD X612 hy d8_50 52 rfl (oH X612 hy d8_52 54 7 rfl (oxi X612 hy d8_54 57 (XT.ii_ge_f (by decide)) (oA X612 hy d8_57 58 rfl (oH X612 hy d8_58 60 48 rfl ?_))))))))
 refine cV X612 hy hml hown hZ hw d8_60 63 0 81 82 84 83 85 32 rfl rfl rfl rfl rfl rfl (rmsba2_48 l Z a0 hw [] o1 vb kb cs T612.heap n0 (Nat.le_trans Z0 K612.1) wt wk wj wp wo wm wK ww wx wa hcs) rfl pd_26 wt rfl rfl fun _ T613 Lc613 X613 hQ613 => ?_
 obtain ⟨rfl, Nq613, Kq613, fq613_0, wk, wj, wp, wm⟩ := hQ613
 have N613 := Fr.app N612 Nq613
 have wa := own_sta_keep wa Kq613 (allS wt.cell (allS wo.cell all0))
 have wo := wo.keep Kq613
 have vB := vB.keep Kq613
 have wL := wL.keep Kq613 (ninS (Ne.symm wR) (ninS (Ne.symm wQ) nin0))
 have wM := wM.keep Kq613 (ninS (Ne.symm wR) (ninS (Ne.symm wQ) nin0))
 have vH := vH.keep Kq613
 have vE := vE.keep Kq613 (ninS (Ne.symm vZ) (ninS (Ne.symm vY) nin0))
 have wt := fq613_0
 have K613 := K612.trans Kq613 (allS (Or.inl mm0) (allS (Or.inl mm1) all0))
 refine Ends.v (oxe X613 hy d8_63 64 rfl (oxz X613 hy d8_64 67 #[rv o0, rv o1, jv q2, ss, rv sx_609, iv 3] 1 rfl rfl rfl (oxm X613 hy d8_67 50 (oD X613 hy d8_50 52 rfl (oH X613 hy d8_52 54 7 rfl (oxi X613 hy d8_54 57 (XT.ii_ge_f (by decide)) (oA X613 hy d8_57 58 rfl (oH X613 hy d8_58 60 48 rfl ?_))))))))
 refine cV X613 hy hml hown hZ hw d8_60 63 0 81 82 84 83 85 32 rfl rfl rfl rfl rfl rfl (rmsba3_48 l Z a0 hw [] o1 vb kb cs T613.heap n0 (Nat.le_trans Z0 K613.1) wt wk wj wp wo wm wK ww wx wa hcs) rfl pd_26 wt rfl rfl fun _ T614 Lc614 X614 hQ614 => ?_
 obtain ⟨rfl, Nq614, Kq614, fq614_0, wk, wj, wp, wm⟩ := hQ614
 have N614 := Fr.app N613 Nq614
 have wa := own_sta_keep wa Kq614 (allS wt.cell (allS wo.cell all0))
 have wo := wo.keep Kq614
 have vB := vB.keep Kq614
 have wL := wL.keep Kq614 (ninS (Ne.symm wR) (ninS (Ne.symm wQ) nin0))
 have wM := wM.keep Kq614 (ninS (Ne.symm wR) (ninS (Ne.symm wQ) nin0))
 have vH := vH.keep Kq614
 have vE := vE.keep Kq614 (ninS (Ne.symm vZ) (ninS (Ne.symm vY) nin0))
 have wt := fq614_0
 have K614 := K613.trans Kq614 (allS (Or.inl mm0) (allS (Or.inl mm1) all0))
 refine Ends.v (oxe X614 hy d8_63 64 rfl (oxz X614 hy d8_64 67 #[rv o0, rv o1, jv q2, ss, rv sx_609, iv 4] 1 rfl rfl rfl (oxm X614 hy d8_67 50 (oD X614 hy d8_50 52 rfl (oH X614 hy d8_52 54 7 rfl (oxi X614 hy d8_54 57 (XT.ii_ge_f (by decide)) (oA X614 hy d8_57 58 rfl (oH X614 hy d8_58 60 48 rfl ?_))))))))
 refine cV X614 hy hml hown hZ hw d8_60 63 0 81 82 84 83 85 32 rfl rfl rfl rfl rfl rfl (rmsba4_48 l Z a0 hw [] o1 vb kb cs T614.heap n0 (Nat.le_trans Z0 K614.1) wt wk wj wp wo wm wK ww wx wa hcs) rfl pd_26 wt rfl rfl fun _ T615 Lc615 X615 hQ615 => ?_
 obtain ⟨rfl, Nq615, Kq615, fq615_0, wk, wj, wp, wm⟩ := hQ615
 have N615 := Fr.app N614 Nq615
 have wa := own_sta_keep wa Kq615 (allS wt.cell (allS wo.cell all0))
 have wo := wo.keep Kq615
 have vB := vB.keep Kq615
 have wL := wL.keep Kq615 (ninS (Ne.symm wR) (ninS (Ne.symm wQ) nin0))
 have wM := wM.keep Kq615 (ninS (Ne.symm wR) (ninS (Ne.symm wQ) nin0))
 have vH := vH.keep Kq615
 have vE := vE.keep Kq615 (ninS (Ne.symm vZ) (ninS (Ne.symm vY) nin0))
 have wt := fq615_0
 have K615 := K614.trans Kq615 (allS (Or.inl mm0) (allS (Or.inl mm1) all0))
 refine Ends.v (oxe X615 hy d8_63 64 rfl (oxz X615 hy d8_64 67 #[rv o0, rv o1, jv q2, ss, rv sx_609, iv 5] 1 rfl rfl rfl (oxm X615 hy d8_67 50 (oD X615 hy d8_50 52 rfl (oH X615 hy d8_52 54 7 rfl (oxi X615 hy d8_54 57 (XT.ii_ge_f (by decide)) (oA X615 hy d8_57 58 rfl (oH X615 hy d8_58 60 48 rfl ?_))))))))
 refine cV X615 hy hml hown hZ hw d8_60 63 0 81 82 84 83 85 32 rfl rfl rfl rfl rfl rfl (rmsba5_48 l Z a0 hw [] o1 vb kb cs T615.heap n0 (Nat.le_trans Z0 K615.1) wt wk wj wp wo wm wK ww wx wa hcs) rfl pd_26 wt rfl rfl fun _ T616 Lc616 X616 hQ616 => ?_
 obtain ⟨rfl, Nq616, Kq616, fq616_0, wk, wj, wp, wm⟩ := hQ616
 have N616 := Fr.app N615 Nq616
 have wa := own_sta_keep wa Kq616 (allS wt.cell (allS wo.cell all0))
 have wo := wo.keep Kq616
 have vB := vB.keep Kq616
 have wL := wL.keep Kq616 (ninS (Ne.symm wR) (ninS (Ne.symm wQ) nin0))
 have wM := wM.keep Kq616 (ninS (Ne.symm wR) (ninS (Ne.symm wQ) nin0))
 have vH := vH.keep Kq616
 have vE := vE.keep Kq616 (ninS (Ne.symm vZ) (ninS (Ne.symm vY) nin0))
 have wt := fq616_0
 have K616 := K615.trans Kq616 (allS (Or.inl mm0) (allS (Or.inl mm1) all0))
 refine Ends.v (oxe X616 hy d8_63 64 rfl (oxz X616 hy d8_64 67 #[rv o0, rv o1, jv q2, ss, rv sx_609, iv 6] 1 rfl rfl rfl (oxm X616 hy d8_67 50 (oD X616 hy d8_50 52 rfl (oH X616 hy d8_52 54 7 rfl (oxi X616 hy d8_54 57 (XT.ii_ge_f (by decide)) (oA X616 hy d8_57 58 rfl (oH X616 hy d8_58 60 48 rfl ?_))))))))
 refine cV X616 hy hml hown hZ hw d8_60 63 0 81 82 84 83 85 32 rfl rfl rfl rfl rfl rfl (rmsba6_48 l Z a0 hw [] o1 vb kb cs T616.heap n0 (Nat.le_trans Z0 K616.1) wt wk wj wp wo wm wK ww wx wa hcs) rfl pd_26 wt rfl rfl fun _ T617 Lc617 X617 hQ617 => ?_
 obtain ⟨rfl, Nq617, Kq617, fq617_0, wk, wj, wp, wm⟩ := hQ617
 have N617 := Fr.app N616 Nq617
 have wa := own_sta_keep wa Kq617 (allS wt.cell (allS wo.cell all0))
 have wo := wo.keep Kq617
 have vB := vB.keep Kq617
 have wL := wL.keep Kq617 (ninS (Ne.symm wR) (ninS (Ne.symm wQ) nin0))
 have wM := wM.keep Kq617 (ninS (Ne.symm wR) (ninS (Ne.symm wQ) nin0))
 have vH := vH.keep Kq617
 have vE := vE.keep Kq617 (ninS (Ne.symm vZ) (ninS (Ne.symm vY) nin0))
 have wt := fq617_0
 have K617 := K616.trans Kq617 (allS (Or.inl mm0) (allS (Or.inl mm1) all0))
 refine Ends.v (oxe X617 hy d8_63 64 rfl (oxz X617 hy d8_64 67 #[rv o0, rv o1, jv q2, ss, rv sx_609, iv 7] 1 rfl rfl rfl (oxm X617 hy d8_67 50 (oD X617 hy d8_50 52 rfl (oH X617 hy d8_52 54 7 rfl (oxl X617 hy d8_54 70 (XT.ii_ge_t (by decide)) (oA X617 hy d8_70 71 rfl (oB X617 hy d8_71 73 rfl ?_))))))))
 refine cV X617 hy hml hown hZ hw d8_73 76 0 118 119 121 120 122 32 rfl rfl rfl rfl rfl rfl (rmsps1 l Z a0 hw [] o1 sx_609 vb kb sa_609 sk_609 cs (own_dg (((((q2 % pl) * (7919 : Int64)) % pl)).toInt)) T617.heap n0 (Nat.le_trans Z0 K617.1) wt wk wj wp wo wm wK ww wx vB wL wM vH vE zI vY vZ wR wQ wa hcs) rfl pd_27 wt rfl rfl fun _ T618 Lc618 X618 hQ618 => ?_
 obtain ⟨rfl, Nq618, Kq618, wt, wk, wj, wp, wm, wo⟩ := hQ618
 have N618 := Fr.app N617 Nq618
 have K618 := K617.trans Kq618 (allS (Or.inl mm0) (allS (Or.inl mm1) all0))
 refine Ends.v (oxe X618 hy d8_76 77 rfl ?_)
 exact fV X618 hy hrt hlk hQQ d8_77 rfl (by decide) ⟨rfl, N618, K618, wt, wk, wj, wp, wo, wm⟩
theorem d5_0 : decode cD17 0 = .ok (.new 27, 3) := by decide +kernel
theorem d5_3 : decode cD17 3 = .ok (.dup, 1) := by decide +kernel
theorem d5_4 : decode cD17 4 = .ok (.bipush 8, 2) := by decide +kernel
theorem d5_6 : decode cD17 6 = .ok (.invokespecial 29, 3) := by decide +kernel
theorem d5_9 : decode cD17 9 = .ok (.astore_n 3, 1) := by decide +kernel
theorem d5_10 : decode cD17 10 = .ok (.aload_n 0, 1) := by decide +kernel
theorem d5_11 : decode cD17 11 = .ok (.aload_n 3, 1) := by decide +kernel
theorem d5_12 : decode cD17 12 = .ok (.lload_n 1, 1) := by decide +kernel
theorem d5_13 : decode cD17 13 = .ok (.invokevirtual 32, 3) := by decide +kernel
theorem d5_16 : decode cD17 16 = .ok (.aload_n 3, 1) := by decide +kernel
theorem d5_17 : decode cD17 17 = .ok (.invokevirtual 36, 3) := by decide +kernel
theorem d5_20 : decode cD17 20 = .ok (.areturn, 1) := by decide +kernel
def Qpl1 (Z : State) (o0 : Addr) (q1 pl : Int64) (cs : Int32) (a_D1 : Addr) (k_a_D1 : ClassId) (a_D2 : Addr) (k_a_D2 : ClassId) (h0 : Heap) (n0 : Nat) : QT := fun v h L => ∃ (sx : Addr), ∃ (sa : Addr), ∃ (sk : ClassId), (v = some (.ref sx)) ∧ (Fr n0 L) ∧ (Keep h0 h []) ∧ (h0.size ≤ sx) ∧ (h0.size ≤ sa) ∧ (n0 ≤ sx) ∧ (n0 ≤ sa) ∧ (eAQ Z h sx) ∧ (fBQ Z h sx (.ref sa)) ∧ (fAQ Z h sx (.int 0)) ∧ (eCQ Z h sa) ∧ (Arv Z h sa sk .byte 8 [.int 112, .int 48, .int 48, .int 48, .int 48, .int 48, .int 48, (.int (own_dg (((((q1 % pl) * (7919 : Int64)) % pl)).toInt)))] (.int 0)) ∧ (sx ≠ sa)
theorem rmpl1 (l : Launch) (Z : State) (a0 : Array Value) (hw : TW a0 Z) (ws : List Jvm.Cond) (o0 : Addr) (q1 pl : Int64) (cs : Int32) (a_D1 : Addr) (k_a_D1 : ClassId) (a_D2 : Addr) (k_a_D2 : ClassId) (h0 : Heap) (n0 : Nat) (Z0 : n0 ≤ h0.size) (wh : eDQ Z h0 o0) (wu : fFQ Z h0 o0 (.long pl)) (wa : sHQ Z h0 (.int cs)) (hcs : ¬ cs = (0 : Int32)) (wl : Arv Z h0 a_D1 k_a_D1 .byte 100 own_ones (.int 0)) (wf : sJQ Z h0 (.ref a_D1)) (wn : Arv Z h0 a_D2 k_a_D2 .byte 100 own_tens (.int 0)) (wg : sKQ Z h0 (.ref a_D2)) (h0q : ¬ q1 < (0 : Int64)) (hpl : pl ≠ 0) (g1 : ((((q1 % pl) * (7919 : Int64)) % pl)).toInt < 10) (g2 : 0 ≤ ((((q1 % pl) * (7919 : Int64)) % pl)).toInt) :
  MF l mN9 prog_8_method_2_code 4 (some (.object "java/lang/String")) ws (rmm 6 6 29 97) #[.ref o0, .long q1] Z h0 (Qpl1 Z o0 q1 pl cs a_D1 k_a_D1 a_D2 k_a_D2 h0 n0) := by
 refine MF.of (plainFor_of_name pn_9) ?_
 intro p e s m below meth c s₁ QQ hy hml hown hZ X0 e0 hrt hlk hnm hQQ
 have hx := hy.1
 have hby := hy.2
 have N0 := Fr.nil n0
 refine Ends.i #[rv o0, jv q1, ss, uu] ?_
 obtain ⟨T619, h619, X619, e619, E619, A619, D619, U619, st619⟩ := newO X0 hx hZ hown (tb hw 30 rfl) (tb hw 31 rfl) (tb hw 32 rfl) e0 (g := (mkF m 0 #[rv o0, jv q1, ss, uu] [])) rfl (hb hby d5_0) (by decide) (by decide)
 obtain ⟨b619, g619⟩ : ∃ z, z = h0.size := ⟨_, rfl⟩
 rw [← g619] at A619 D619 U619 st619
 have Wb : o0 ≠ b619 := Nat.ne_of_lt (Nat.lt_of_lt_of_le wh.lt (Nat.le_of_eq g619.symm))
 have Ki : a_D1 ≠ b619 := Nat.ne_of_lt (Nat.lt_of_lt_of_le wl.lt (Nat.le_of_eq g619.symm))
 have VP : a_D2 ≠ b619 := Nat.ne_of_lt (Nat.lt_of_lt_of_le wn.lt (Nat.le_of_eq g619.symm))
 have Ue : n0 ≤ b619 := Nat.le_trans Z0 (Nat.le_trans (Keep.refl h0 []).1 (Nat.le_of_eq g619.symm))
 have Jc : h0.size ≤ b619 := Nat.le_trans (Keep.refl h0 []).1 (Nat.le_of_eq g619.symm)
 have wh := wh.ext E619
 have wu := wu.ext E619
 have wa := wa.ext E619
 have wl := wl.ext E619
 have wf := wf.ext E619
 have wn := wn.ext E619
 have wg := wg.ext E619
 have K619 := (Keep.refl h0 []).ext E619
 have jw := A619
 have kW : fDQ Z h619 b619 .null := D619 (Or.inl (tb hw 47 rfl)) (ty := (.array .byte)) (by decide)
 have jo : fCQ Z h619 b619 (.int 0) := D619 (Or.inl (tb hw 49 rfl)) (ty := .byte) (by decide)
 have jf : fEQ Z h619 b619 (.int 0) := D619 (Or.inl (tb hw 92 rfl)) (ty := .int) (by decide)
 refine Ends.j 3 [.ref b619] st619 ?_
 refine oxd X619 hy d5_3 4 rfl (oH X619 hy d5_4 6 8 rfl ?_)
 refine cI X619 hy hml hown hZ hw d5_6 9 1 33 34 35 32 rfl rfl rfl rfl rfl (rmsb l Z a0 hw [] b619 (.null : Value) (0 : Int32) cs h619 n0 (Nat.le_trans Z0 K619.1) jw kW jo jf Ue wa hcs) e619 pd_5 rfl rfl fun _ T620 Lc620 X620 hQ620 => ?_
 obtain ⟨vb_620, kb_620, rfl, Nq620, Kq620, fq620_0, Yx, fq620_2, kW, jo, jf, zh, zS⟩ := hQ620
 have N620 := Fr.app N0 Nq620
 have VF : o0 ≠ vb_620 := Nat.ne_of_lt (Nat.lt_of_lt_of_le wh.lt fq620_0)
 have WK : a_D1 ≠ vb_620 := Nat.ne_of_lt (Nat.lt_of_lt_of_le wl.lt fq620_0)
 have WB : a_D2 ≠ vb_620 := Nat.ne_of_lt (Nat.lt_of_lt_of_le wn.lt fq620_0)
 have uY : b619 ≠ vb_620 := Nat.ne_of_lt (Nat.lt_of_lt_of_le jw.lt fq620_0)
 have JV := Nat.le_trans K619.1 fq620_0
 have wa := own_sta_keep wa Kq620 (allS jw.cell all0)
 have wf := own_sta_keep wf Kq620 (allS jw.cell all0)
 have wg := own_sta_keep wg Kq620 (allS jw.cell all0)
 have wh := wh.keep Kq620
 have wu := wu.keep Kq620 (ninS Wb nin0)
 have wl := wl.keep Kq620 (ninS Ki nin0)
 have wn := wn.keep Kq620 (ninS VP nin0)
 have jw := fq620_2
 have K620 := K619.trans Kq620 (allS (Or.inr Jc) all0)
 refine Ends.u (oxt X620 hy d5_9 10 #[rv o0, jv q1, ss, rv b619] rfl (oA X620 hy d5_10 11 rfl (oA X620 hy d5_11 12 rfl (oE X620 hy d5_12 13 rfl ?_))))
 refine cP X620 hy hml hown hZ hw d5_13 16 0 50 51 28 52 53 8 rfl rfl rfl rfl rfl rfl rfl (rmap1 l Z a0 hw [] o0 b619 q1 pl vb_620 kb_620 cs a_D1 k_a_D1 a_D2 k_a_D2 T620.heap n0 (Nat.le_trans Z0 K620.1) wh wu jw kW jo jf zh zS Ue Yx uY wa hcs wl wf wn wg Wb VF WK WB h0q hpl g1 g2) rfl pd_28 wh rfl rfl fun _ T621 Lc621 X621 hQ621 => ?_
 obtain ⟨rfl, Nq621, Kq621, fq621_0, kW, jo, jf, fq621_4, zS⟩ := hQ621
 have N621 := Fr.app N620 Nq621
 have wa := own_sta_keep wa Kq621 (allS jw.cell (allS zh.cell all0))
 have jw := fq621_0
 have zh := fq621_4
 have K621 := K620.trans Kq621 (allS (Or.inr Jc) (allS (Or.inr JV) all0))
 refine Ends.u (oA X621 hy d5_16 17 rfl ?_)
 refine cV X621 hy hml hown hZ hw d5_17 20 0 148 149 151 150 152 32 rfl rfl rfl rfl rfl rfl (rmtos8 l Z a0 hw [] b619 vb_620 kb_620 cs (112 : Int32) (48 : Int32) (48 : Int32) (48 : Int32) (48 : Int32) (48 : Int32) (48 : Int32) (own_dg (((((q1 % pl) * (7919 : Int64)) % pl)).toInt)) T621.heap n0 (Nat.le_trans Z0 K621.1) jw kW jo jf zh zS uY wa hcs) rfl pd_29 jw rfl rfl fun _ T622 Lc622 X622 hQ622 => ?_
 obtain ⟨x_622, b_622, k2_622, rfl, Nq622, Kq622, fq622_0, fq622_1, YK, YW, xu, Vk, Vu, xI, Gh, Wp⟩ := hQ622
 have N622 := Fr.app N621 Nq622
 have UN := Nat.le_trans K621.1 fq622_0
 have UZ := Nat.le_trans K621.1 fq622_1
 have K622 := K621.trans Kq622 all0
 refine Ends.v ?_
 exact fA X622 hy hrt hlk hQQ d5_20 rfl rfl rfl (by decide) ⟨x_622, b_622, k2_622, rfl, N622, K622, UN, UZ, YK, YW, xu, Vk, Vu, xI, Gh, Wp⟩
def Qap2 (Z : State) (o0 o1 : Addr) (q2 pl : Int64) (vb : Addr) (kb : ClassId) (cs : Int32) (a_D1 : Addr) (k_a_D1 : ClassId) (a_D2 : Addr) (k_a_D2 : ClassId) (h0 : Heap) (n0 : Nat) : QT := fun v h L => (v = none) ∧ (Fr n0 L) ∧ (Keep h0 h [o1, vb]) ∧ (eBQ Z h o1) ∧ (fDQ Z h o1 (.ref vb)) ∧ (fCQ Z h o1 (.int 0)) ∧ (fEQ Z h o1 (.int 8)) ∧ (eCQ Z h vb) ∧ (Arv Z h vb kb .byte 8 [.int 112, .int 48, .int 48, .int 48, .int 48, .int 48, (.int (own_dg (((((q2 % pl) * (7919 : Int64)) % pl)).toInt / 10))), (.int (own_dg (((((q2 % pl) * (7919 : Int64)) % pl)).toInt)))] (.int 0))
theorem rmap2 (l : Launch) (Z : State) (a0 : Array Value) (hw : TW a0 Z) (ws : List Jvm.Cond) (o0 o1 : Addr) (q2 pl : Int64) (vb : Addr) (kb : ClassId) (cs : Int32) (a_D1 : Addr) (k_a_D1 : ClassId) (a_D2 : Addr) (k_a_D2 : ClassId) (h0 : Heap) (n0 : Nat) (Z0 : n0 ≤ h0.size) (wh : eDQ Z h0 o0) (wu : fFQ Z h0 o0 (.long pl)) (wt : eBQ Z h0 o1) (wk : fDQ Z h0 o1 (.ref vb)) (wj : fCQ Z h0 o1 (.int 0)) (wp : fEQ Z h0 o1 (.int 0)) (wo : eCQ Z h0 vb) (wm : Arv Z h0 vb kb .byte 8 [.int 0, .int 0, .int 0, .int 0, .int 0, .int 0, .int 0, .int 0] (.int 0)) (wK : n0 ≤ o1) (ww : n0 ≤ vb) (wx : o1 ≠ vb) (wa : sHQ Z h0 (.int cs)) (hcs : ¬ cs = (0 : Int32)) (wl : Arv Z h0 a_D1 k_a_D1 .byte 100 own_ones (.int 0)) (wf : sJQ Z h0 (.ref a_D1)) (wn : Arv Z h0 a_D2 k_a_D2 .byte 100 own_tens (.int 0)) (wg : sKQ Z h0 (.ref a_D2)) (wD : o0 ≠ o1) (wq : o0 ≠ vb) (kz : a_D1 ≠ vb) (ky : a_D2 ≠ vb) (h0q : ¬ q2 < (0 : Int64)) (hpl : pl ≠ 0) (g1 : ((((q2 % pl) * (7919 : Int64)) % pl)).toInt < 100) (g2 : 10 ≤ ((((q2 % pl) * (7919 : Int64)) % pl)).toInt) :
  MF l mN8 prog_8_method_5_code 6 none ws (rmm 5 2 6 80) #[.ref o0, .ref o1, .long q2] Z h0 (Qap2 Z o0 o1 q2 pl vb kb cs a_D1 k_a_D1 a_D2 k_a_D2 h0 n0) := by
 refine MF.of (plainFor_of_name pn_9) ?_
 intro p e s m below meth c s₁ QQ hy hml hown hZ X0 e0 hrt hlk hnm hQQ
 have N0 := Fr.nil n0
 refine Ends.i #[rv o0, rv o1, jv q2, ss, uu, uu] (oE X0 hy d8_0 1 rfl (oJ X0 hy d8_1 2 0 rfl (oY X0 hy d8_2 3 ?_)))
 have hc3 : ¬ (q2 < (0 : Int64)) := h0q
 refine oxk X0 hy d8_3 16 (XT.ll_ge_t hc3) (oE X0 hy d8_16 17 rfl (oA X0 hy d8_17 18 rfl (gF X0 hy hown hZ hw e0 wu d8_18 21 21 rfl fun T623 X623 e623 => lremO X623 hy d8_21 22 hpl (oJ2 X623 hy hown hZ hw d8_22 25 7919 54 rfl (oU X623 hy d8_25 26 (oA X623 hy d8_26 27 rfl (gF X623 hy hown hZ hw e623 wu d8_27 30 21 rfl fun T624 X624 e624 => lremO X624 hy d8_30 31 hpl ?_)))))))
 refine cS X624 hy hml hown hZ hw d8_31 34 0 55 56 57 58 rfl rfl rfl rfl (rmts2 l Z a0 hw [] (((q2 % pl) * (7919 : Int64)) % pl) cs a_D1 k_a_D1 a_D2 k_a_D2 h0 n0 Z0 wa hcs wl wf wn wg g1 g2) e624 pd_25 rfl rfl fun _ T625 Lc625 X625 hQ625 => ?_
 obtain ⟨sx_625, sa_625, sk_625, rfl, Nq625, Kq625, fq625_0, fq625_1, g_sx_625, g_sa_625, vG, wO, wP, vX, vM, zH⟩ := hQ625
 have N625 := Fr.app N0 Nq625
 have wW : o1 ≠ sx_625 := Nat.ne_of_lt (Nat.lt_of_lt_of_le wt.lt fq625_0)
 have wV : vb ≠ sx_625 := Nat.ne_of_lt (Nat.lt_of_lt_of_le wo.lt fq625_0)
 have ki : o1 ≠ sa_625 := Nat.ne_of_lt (Nat.lt_of_lt_of_le wt.lt fq625_1)
 have kg : vb ≠ sa_625 := Nat.ne_of_lt (Nat.lt_of_lt_of_le wo.lt fq625_1)
 have wa := own_sta_keep wa Kq625 all0
 have wt := wt.keep Kq625
 have wk := wk.keep Kq625 nin0
 have wj := wj.keep Kq625 nin0
 have wp := wp.keep Kq625 nin0
 have wo := wo.keep Kq625
 have wm := wm.keep Kq625 nin0
 have K625 := (Keep.refl h0 [o1, vb]).trans Kq625 all0
 refine Ends.v (oxs X625 hy d8_34 36 #[rv o0, rv o1, jv q2, ss, rv sx_625, uu] rfl (oA X625 hy d8_36 37 rfl (oH X625 hy d8_37 39 112 rfl ?_)))
 refine cV X625 hy hml hown hZ hw d8_39 42 0 81 82 84 83 85 32 rfl rfl rfl rfl rfl rfl (rmsba0_112 l Z a0 hw [] o1 vb kb cs T625.heap n0 (Nat.le_trans Z0 K625.1) wt wk wj wp wo wm wK ww wx wa hcs) rfl pd_26 wt rfl rfl fun _ T626 Lc626 X626 hQ626 => ?_
 obtain ⟨rfl, Nq626, Kq626, fq626_0, wk, wj, wp, wm⟩ := hQ626
 have N626 := Fr.app N625 Nq626
 have wa := own_sta_keep wa Kq626 (allS wt.cell (allS wo.cell all0))
 have wo := wo.keep Kq626
 have vG := vG.keep Kq626
 have wO := wO.keep Kq626 (ninS (Ne.symm wW) (ninS (Ne.symm wV) nin0))
 have wP := wP.keep Kq626 (ninS (Ne.symm wW) (ninS (Ne.symm wV) nin0))
 have vX := vX.keep Kq626
 have vM := vM.keep Kq626 (ninS (Ne.symm ki) (ninS (Ne.symm kg) nin0))
 have wt := fq626_0
 have K626 := K625.trans Kq626 (allS (Or.inl mm0) (allS (Or.inl mm1) all0))
 refine Ends.v (oxe X626 hy d8_42 43 rfl (oB X626 hy d8_43 45 rfl ?_))
 refine cV X626 hy hml hown hZ hw d8_45 48 0 107 108 110 109 111 44 rfl rfl rfl rfl rfl rfl (rmlen l Z a0 hw [] sx_625 sa_625 sk_625 (2 : Int32) [(.int (own_dg (((((q2 % pl) * (7919 : Int64)) % pl)).toInt / 10))), (.int (own_dg (((((q2 % pl) * (7919 : Int64)) % pl)).toInt)))] cs T626.heap n0 (Nat.le_trans Z0 K626.1) vG wO vM wa hcs wP) rfl pd_10 vG rfl rfl fun _ T627 Lc627 X627 hQ627 => ?_
 obtain ⟨rfl, Nq627, hh627⟩ := hQ627
 have N627 := Fr.app N626 Nq627
 refine Ends.v (oxo X627 hy d8_48 50 #[rv o0, rv o1, jv q2, ss, rv sx_625, iv 2] rfl (oD X627 hy d8_50 52 rfl (oH X627 hy d8_52 54 7 rfl (oxi X627 hy d8_54 57 (XT.ii_ge_f (by decide)) (oA X627 hy d8_57 58 rfl (oH X627 hy d8_58 60 48 rfl ?_))))))
 refine cV X627 hy hml hown hZ hw d8_60 63 0 81 82 84 83 85 32 rfl rfl rfl rfl rfl rfl (rmsba1_48 l Z a0 hw [] o1 vb kb cs T626.heap n0 (Nat.le_trans Z0 K626.1) wt wk wj wp wo wm wK ww wx wa hcs) hh627 pd_26 wt rfl rfl fun _ T628 Lc628 X628 hQ628 => ?_
 obtain ⟨rfl, Nq628, Kq628, fq628_0, wk, wj, wp, wm⟩ := hQ628
 have N628 := Fr.app N627 Nq628
 have wa := own_sta_keep wa Kq628 (allS wt.cell (allS wo.cell all0))
 have wo := wo.keep Kq628
 have vG := vG.keep Kq628
 have wO := wO.keep Kq628 (ninS (Ne.symm wW) (ninS (Ne.symm wV) nin0))
 have wP := wP.keep Kq628 (ninS (Ne.symm wW) (ninS (Ne.symm wV) nin0))
 have vX := vX.keep Kq628
 have vM := vM.keep Kq628 (ninS (Ne.symm ki) (ninS (Ne.symm kg) nin0))
 have wt := fq628_0
 have K628 := K626.trans Kq628 (allS (Or.inl mm0) (allS (Or.inl mm1) all0))
 refine Ends.v (oxe X628 hy d8_63 64 rfl (oxz X628 hy d8_64 67 #[rv o0, rv o1, jv q2, ss, rv sx_625, iv 3] 1 rfl rfl rfl (oxm X628 hy d8_67 50 (oD X628 hy d8_50 52 rfl (oH X628 hy d8_52 54 7 rfl (oxi X628 hy d8_54 57 (XT.ii_ge_f (by decide)) (oA X628 hy d8_57 58 rfl (oH X628 hy d8_58 60 48 rfl ?_))))))))
 refine cV X628 hy hml hown hZ hw d8_60 63 0 81 82 84 83 85 32 rfl rfl rfl rfl rfl rfl (rmsba2_48 l Z a0 hw [] o1 vb kb cs T628.heap n0 (Nat.le_trans Z0 K628.1) wt wk wj wp wo wm wK ww wx wa hcs) rfl pd_26 wt rfl rfl fun _ T629 Lc629 X629 hQ629 => ?_
 obtain ⟨rfl, Nq629, Kq629, fq629_0, wk, wj, wp, wm⟩ := hQ629
 have N629 := Fr.app N628 Nq629
 have wa := own_sta_keep wa Kq629 (allS wt.cell (allS wo.cell all0))
 have wo := wo.keep Kq629
 have vG := vG.keep Kq629
 have wO := wO.keep Kq629 (ninS (Ne.symm wW) (ninS (Ne.symm wV) nin0))
 have wP := wP.keep Kq629 (ninS (Ne.symm wW) (ninS (Ne.symm wV) nin0))
 have vX := vX.keep Kq629
 have vM := vM.keep Kq629 (ninS (Ne.symm ki) (ninS (Ne.symm kg) nin0))
 have wt := fq629_0
 have K629 := K628.trans Kq629 (allS (Or.inl mm0) (allS (Or.inl mm1) all0))
 refine Ends.v (oxe X629 hy d8_63 64 rfl (oxz X629 hy d8_64 67 #[rv o0, rv o1, jv q2, ss, rv sx_625, iv 4] 1 rfl rfl rfl (oxm X629 hy d8_67 50 (oD X629 hy d8_50 52 rfl (oH X629 hy d8_52 54 7 rfl (oxi X629 hy d8_54 57 (XT.ii_ge_f (by decide)) (oA X629 hy d8_57 58 rfl (oH X629 hy d8_58 60 48 rfl ?_))))))))
 refine cV X629 hy hml hown hZ hw d8_60 63 0 81 82 84 83 85 32 rfl rfl rfl rfl rfl rfl (rmsba3_48 l Z a0 hw [] o1 vb kb cs T629.heap n0 (Nat.le_trans Z0 K629.1) wt wk wj wp wo wm wK ww wx wa hcs) rfl pd_26 wt rfl rfl fun _ T630 Lc630 X630 hQ630 => ?_
 obtain ⟨rfl, Nq630, Kq630, fq630_0, wk, wj, wp, wm⟩ := hQ630
 have N630 := Fr.app N629 Nq630
 have wa := own_sta_keep wa Kq630 (allS wt.cell (allS wo.cell all0))
 have wo := wo.keep Kq630
 have vG := vG.keep Kq630
 have wO := wO.keep Kq630 (ninS (Ne.symm wW) (ninS (Ne.symm wV) nin0))
 have wP := wP.keep Kq630 (ninS (Ne.symm wW) (ninS (Ne.symm wV) nin0))
 have vX := vX.keep Kq630
 have vM := vM.keep Kq630 (ninS (Ne.symm ki) (ninS (Ne.symm kg) nin0))
 have wt := fq630_0
 have K630 := K629.trans Kq630 (allS (Or.inl mm0) (allS (Or.inl mm1) all0))
 refine Ends.v (oxe X630 hy d8_63 64 rfl (oxz X630 hy d8_64 67 #[rv o0, rv o1, jv q2, ss, rv sx_625, iv 5] 1 rfl rfl rfl (oxm X630 hy d8_67 50 (oD X630 hy d8_50 52 rfl (oH X630 hy d8_52 54 7 rfl (oxi X630 hy d8_54 57 (XT.ii_ge_f (by decide)) (oA X630 hy d8_57 58 rfl (oH X630 hy d8_58 60 48 rfl ?_))))))))
 refine cV X630 hy hml hown hZ hw d8_60 63 0 81 82 84 83 85 32 rfl rfl rfl rfl rfl rfl (rmsba4_48 l Z a0 hw [] o1 vb kb cs T630.heap n0 (Nat.le_trans Z0 K630.1) wt wk wj wp wo wm wK ww wx wa hcs) rfl pd_26 wt rfl rfl fun _ T631 Lc631 X631 hQ631 => ?_
 obtain ⟨rfl, Nq631, Kq631, fq631_0, wk, wj, wp, wm⟩ := hQ631
 have N631 := Fr.app N630 Nq631
 have wa := own_sta_keep wa Kq631 (allS wt.cell (allS wo.cell all0))
 have wo := wo.keep Kq631
 have vG := vG.keep Kq631
 have wO := wO.keep Kq631 (ninS (Ne.symm wW) (ninS (Ne.symm wV) nin0))
 have wP := wP.keep Kq631 (ninS (Ne.symm wW) (ninS (Ne.symm wV) nin0))
 have vX := vX.keep Kq631
 have vM := vM.keep Kq631 (ninS (Ne.symm ki) (ninS (Ne.symm kg) nin0))
 have wt := fq631_0
 have K631 := K630.trans Kq631 (allS (Or.inl mm0) (allS (Or.inl mm1) all0))
 refine Ends.v (oxe X631 hy d8_63 64 rfl (oxz X631 hy d8_64 67 #[rv o0, rv o1, jv q2, ss, rv sx_625, iv 6] 1 rfl rfl rfl (oxm X631 hy d8_67 50 (oD X631 hy d8_50 52 rfl (oH X631 hy d8_52 54 7 rfl (oxi X631 hy d8_54 57 (XT.ii_ge_f (by decide)) (oA X631 hy d8_57 58 rfl (oH X631 hy d8_58 60 48 rfl ?_))))))))
 refine cV X631 hy hml hown hZ hw d8_60 63 0 81 82 84 83 85 32 rfl rfl rfl rfl rfl rfl (rmsba5_48 l Z a0 hw [] o1 vb kb cs T631.heap n0 (Nat.le_trans Z0 K631.1) wt wk wj wp wo wm wK ww wx wa hcs) rfl pd_26 wt rfl rfl fun _ T632 Lc632 X632 hQ632 => ?_
 obtain ⟨rfl, Nq632, Kq632, fq632_0, wk, wj, wp, wm⟩ := hQ632
 have N632 := Fr.app N631 Nq632
 have wa := own_sta_keep wa Kq632 (allS wt.cell (allS wo.cell all0))
 have wo := wo.keep Kq632
 have vG := vG.keep Kq632
 have wO := wO.keep Kq632 (ninS (Ne.symm wW) (ninS (Ne.symm wV) nin0))
 have wP := wP.keep Kq632 (ninS (Ne.symm wW) (ninS (Ne.symm wV) nin0))
 have vX := vX.keep Kq632
 have vM := vM.keep Kq632 (ninS (Ne.symm ki) (ninS (Ne.symm kg) nin0))
 have wt := fq632_0
 have K632 := K631.trans Kq632 (allS (Or.inl mm0) (allS (Or.inl mm1) all0))
 refine Ends.v (oxe X632 hy d8_63 64 rfl (oxz X632 hy d8_64 67 #[rv o0, rv o1, jv q2, ss, rv sx_625, iv 7] 1 rfl rfl rfl (oxm X632 hy d8_67 50 (oD X632 hy d8_50 52 rfl (oH X632 hy d8_52 54 7 rfl (oxl X632 hy d8_54 70 (XT.ii_ge_t (by decide)) (oA X632 hy d8_70 71 rfl (oB X632 hy d8_71 73 rfl ?_))))))))
 refine cV X632 hy hml hown hZ hw d8_73 76 0 118 119 121 120 122 32 rfl rfl rfl rfl rfl rfl (rmsps2 l Z a0 hw [] o1 sx_625 vb kb sa_625 sk_625 cs (own_dg (((((q2 % pl) * (7919 : Int64)) % pl)).toInt / 10)) (own_dg (((((q2 % pl) * (7919 : Int64)) % pl)).toInt)) T632.heap n0 (Nat.le_trans Z0 K632.1) wt wk wj wp wo wm wK ww wx vG wO wP vX vM zH kg ki wW wV wa hcs) rfl pd_27 wt rfl rfl fun _ T633 Lc633 X633 hQ633 => ?_
 obtain ⟨rfl, Nq633, Kq633, wt, wk, wj, wp, wm, wo⟩ := hQ633
 have N633 := Fr.app N632 Nq633
 have K633 := K632.trans Kq633 (allS (Or.inl mm0) (allS (Or.inl mm1) all0))
 refine Ends.v (oxe X633 hy d8_76 77 rfl ?_)
 exact fV X633 hy hrt hlk hQQ d8_77 rfl (by decide) ⟨rfl, N633, K633, wt, wk, wj, wp, wo, wm⟩
def Qpl2 (Z : State) (o0 : Addr) (q1 pl : Int64) (cs : Int32) (a_D1 : Addr) (k_a_D1 : ClassId) (a_D2 : Addr) (k_a_D2 : ClassId) (h0 : Heap) (n0 : Nat) : QT := fun v h L => ∃ (sx : Addr), ∃ (sa : Addr), ∃ (sk : ClassId), (v = some (.ref sx)) ∧ (Fr n0 L) ∧ (Keep h0 h []) ∧ (h0.size ≤ sx) ∧ (h0.size ≤ sa) ∧ (n0 ≤ sx) ∧ (n0 ≤ sa) ∧ (eAQ Z h sx) ∧ (fBQ Z h sx (.ref sa)) ∧ (fAQ Z h sx (.int 0)) ∧ (eCQ Z h sa) ∧ (Arv Z h sa sk .byte 8 [.int 112, .int 48, .int 48, .int 48, .int 48, .int 48, (.int (own_dg (((((q1 % pl) * (7919 : Int64)) % pl)).toInt / 10))), (.int (own_dg (((((q1 % pl) * (7919 : Int64)) % pl)).toInt)))] (.int 0)) ∧ (sx ≠ sa)
theorem rmpl2 (l : Launch) (Z : State) (a0 : Array Value) (hw : TW a0 Z) (ws : List Jvm.Cond) (o0 : Addr) (q1 pl : Int64) (cs : Int32) (a_D1 : Addr) (k_a_D1 : ClassId) (a_D2 : Addr) (k_a_D2 : ClassId) (h0 : Heap) (n0 : Nat) (Z0 : n0 ≤ h0.size) (wh : eDQ Z h0 o0) (wu : fFQ Z h0 o0 (.long pl)) (wa : sHQ Z h0 (.int cs)) (hcs : ¬ cs = (0 : Int32)) (wl : Arv Z h0 a_D1 k_a_D1 .byte 100 own_ones (.int 0)) (wf : sJQ Z h0 (.ref a_D1)) (wn : Arv Z h0 a_D2 k_a_D2 .byte 100 own_tens (.int 0)) (wg : sKQ Z h0 (.ref a_D2)) (h0q : ¬ q1 < (0 : Int64)) (hpl : pl ≠ 0) (g1 : ((((q1 % pl) * (7919 : Int64)) % pl)).toInt < 100) (g2 : 10 ≤ ((((q1 % pl) * (7919 : Int64)) % pl)).toInt) :
  MF l mN9 prog_8_method_2_code 4 (some (.object "java/lang/String")) ws (rmm 6 6 30 97) #[.ref o0, .long q1] Z h0 (Qpl2 Z o0 q1 pl cs a_D1 k_a_D1 a_D2 k_a_D2 h0 n0) := by
 refine MF.of (plainFor_of_name pn_9) ?_
 intro p e s m below meth c s₁ QQ hy hml hown hZ X0 e0 hrt hlk hnm hQQ
 have hx := hy.1
 have hby := hy.2
 have N0 := Fr.nil n0
 refine Ends.i #[rv o0, jv q1, ss, uu] ?_
 obtain ⟨T634, h634, X634, e634, E634, A634, D634, U634, st634⟩ := newO X0 hx hZ hown (tb hw 30 rfl) (tb hw 31 rfl) (tb hw 32 rfl) e0 (g := (mkF m 0 #[rv o0, jv q1, ss, uu] [])) rfl (hb hby d5_0) (by decide) (by decide)
 obtain ⟨b634, g634⟩ : ∃ z, z = h0.size := ⟨_, rfl⟩
 rw [← g634] at A634 D634 U634 st634
 have Wa : o0 ≠ b634 := Nat.ne_of_lt (Nat.lt_of_lt_of_le wh.lt (Nat.le_of_eq g634.symm))
 have Kh : a_D1 ≠ b634 := Nat.ne_of_lt (Nat.lt_of_lt_of_le wl.lt (Nat.le_of_eq g634.symm))
 have VO : a_D2 ≠ b634 := Nat.ne_of_lt (Nat.lt_of_lt_of_le wn.lt (Nat.le_of_eq g634.symm))
 have Ud : n0 ≤ b634 := Nat.le_trans Z0 (Nat.le_trans (Keep.refl h0 []).1 (Nat.le_of_eq g634.symm))
 have Jb : h0.size ≤ b634 := Nat.le_trans (Keep.refl h0 []).1 (Nat.le_of_eq g634.symm)
 have wh := wh.ext E634
 have wu := wu.ext E634
 have wa := wa.ext E634
 have wl := wl.ext E634
 have wf := wf.ext E634
 have wn := wn.ext E634
 have wg := wg.ext E634
 have K634 := (Keep.refl h0 []).ext E634
 have ju := A634
 have kV : fDQ Z h634 b634 .null := D634 (Or.inl (tb hw 47 rfl)) (ty := (.array .byte)) (by decide)
 have jn : fCQ Z h634 b634 (.int 0) := D634 (Or.inl (tb hw 49 rfl)) (ty := .byte) (by decide)
 have je : fEQ Z h634 b634 (.int 0) := D634 (Or.inl (tb hw 92 rfl)) (ty := .int) (by decide)
 refine Ends.j 3 [.ref b634] st634 ?_
 refine oxd X634 hy d5_3 4 rfl (oH X634 hy d5_4 6 8 rfl ?_)
 refine cI X634 hy hml hown hZ hw d5_6 9 1 33 34 35 32 rfl rfl rfl rfl rfl (rmsb l Z a0 hw [] b634 (.null : Value) (0 : Int32) cs h634 n0 (Nat.le_trans Z0 K634.1) ju kV jn je Ud wa hcs) e634 pd_5 rfl rfl fun _ T635 Lc635 X635 hQ635 => ?_
 obtain ⟨vb_635, kb_635, rfl, Nq635, Kq635, fq635_0, Yw, fq635_2, kV, jn, je, zg, zR⟩ := hQ635
 have N635 := Fr.app N0 Nq635
 have VE : o0 ≠ vb_635 := Nat.ne_of_lt (Nat.lt_of_lt_of_le wh.lt fq635_0)
 have WJ : a_D1 ≠ vb_635 := Nat.ne_of_lt (Nat.lt_of_lt_of_le wl.lt fq635_0)
 have WA : a_D2 ≠ vb_635 := Nat.ne_of_lt (Nat.lt_of_lt_of_le wn.lt fq635_0)
 have uX : b634 ≠ vb_635 := Nat.ne_of_lt (Nat.lt_of_lt_of_le ju.lt fq635_0)
 have JU := Nat.le_trans K634.1 fq635_0
 have wa := own_sta_keep wa Kq635 (allS ju.cell all0)
 have wf := own_sta_keep wf Kq635 (allS ju.cell all0)
 have wg := own_sta_keep wg Kq635 (allS ju.cell all0)
 have wh := wh.keep Kq635
 have wu := wu.keep Kq635 (ninS Wa nin0)
 have wl := wl.keep Kq635 (ninS Kh nin0)
 have wn := wn.keep Kq635 (ninS VO nin0)
 have ju := fq635_2
 have K635 := K634.trans Kq635 (allS (Or.inr Jb) all0)
 refine Ends.u (oxt X635 hy d5_9 10 #[rv o0, jv q1, ss, rv b634] rfl (oA X635 hy d5_10 11 rfl (oA X635 hy d5_11 12 rfl (oE X635 hy d5_12 13 rfl ?_))))
 refine cP X635 hy hml hown hZ hw d5_13 16 0 50 51 28 52 53 8 rfl rfl rfl rfl rfl rfl rfl (rmap2 l Z a0 hw [] o0 b634 q1 pl vb_635 kb_635 cs a_D1 k_a_D1 a_D2 k_a_D2 T635.heap n0 (Nat.le_trans Z0 K635.1) wh wu ju kV jn je zg zR Ud Yw uX wa hcs wl wf wn wg Wa VE WJ WA h0q hpl g1 g2) rfl pd_28 wh rfl rfl fun _ T636 Lc636 X636 hQ636 => ?_
 obtain ⟨rfl, Nq636, Kq636, fq636_0, kV, jn, je, fq636_4, zR⟩ := hQ636
 have N636 := Fr.app N635 Nq636
 have wa := own_sta_keep wa Kq636 (allS ju.cell (allS zg.cell all0))
 have ju := fq636_0
 have zg := fq636_4
 have K636 := K635.trans Kq636 (allS (Or.inr Jb) (allS (Or.inr JU) all0))
 refine Ends.u (oA X636 hy d5_16 17 rfl ?_)
 refine cV X636 hy hml hown hZ hw d5_17 20 0 148 149 151 150 152 32 rfl rfl rfl rfl rfl rfl (rmtos8 l Z a0 hw [] b634 vb_635 kb_635 cs (112 : Int32) (48 : Int32) (48 : Int32) (48 : Int32) (48 : Int32) (48 : Int32) (own_dg (((((q1 % pl) * (7919 : Int64)) % pl)).toInt / 10)) (own_dg (((((q1 % pl) * (7919 : Int64)) % pl)).toInt)) T636.heap n0 (Nat.le_trans Z0 K636.1) ju kV jn je zg zR uX wa hcs) rfl pd_29 ju rfl rfl fun _ T637 Lc637 X637 hQ637 => ?_
 obtain ⟨x_637, b_637, k2_637, rfl, Nq637, Kq637, fq637_0, fq637_1, YJ, YV, xt, Vj, Vt, xH, Gg, Wo⟩ := hQ637
 have N637 := Fr.app N636 Nq637
 have UM := Nat.le_trans K636.1 fq637_0
 have UY := Nat.le_trans K636.1 fq637_1
 have K637 := K636.trans Kq637 all0
 refine Ends.v ?_
 exact fA X637 hy hrt hlk hQQ d5_20 rfl rfl rfl (by decide) ⟨x_637, b_637, k2_637, rfl, N637, K637, UM, UY, YJ, YV, xt, Vj, Vt, xH, Gg, Wo⟩
def Qap3 (Z : State) (o0 o1 : Addr) (q2 pl : Int64) (vb : Addr) (kb : ClassId) (cs : Int32) (a_D1 : Addr) (k_a_D1 : ClassId) (a_D2 : Addr) (k_a_D2 : ClassId) (h0 : Heap) (n0 : Nat) : QT := fun v h L => (v = none) ∧ (Fr n0 L) ∧ (Keep h0 h [o1, vb]) ∧ (eBQ Z h o1) ∧ (fDQ Z h o1 (.ref vb)) ∧ (fCQ Z h o1 (.int 0)) ∧ (fEQ Z h o1 (.int 8)) ∧ (eCQ Z h vb) ∧ (Arv Z h vb kb .byte 8 [.int 112, .int 48, .int 48, .int 48, .int 48, (.int (own_dg (((((q2 % pl) * (7919 : Int64)) % pl)).toInt / 100))), (.int (own_dg (((((q2 % pl) * (7919 : Int64)) % pl)).toInt / 10))), (.int (own_dg (((((q2 % pl) * (7919 : Int64)) % pl)).toInt)))] (.int 0))
theorem rmap3 (l : Launch) (Z : State) (a0 : Array Value) (hw : TW a0 Z) (ws : List Jvm.Cond) (o0 o1 : Addr) (q2 pl : Int64) (vb : Addr) (kb : ClassId) (cs : Int32) (a_D1 : Addr) (k_a_D1 : ClassId) (a_D2 : Addr) (k_a_D2 : ClassId) (h0 : Heap) (n0 : Nat) (Z0 : n0 ≤ h0.size) (wh : eDQ Z h0 o0) (wu : fFQ Z h0 o0 (.long pl)) (wt : eBQ Z h0 o1) (wk : fDQ Z h0 o1 (.ref vb)) (wj : fCQ Z h0 o1 (.int 0)) (wp : fEQ Z h0 o1 (.int 0)) (wo : eCQ Z h0 vb) (wm : Arv Z h0 vb kb .byte 8 [.int 0, .int 0, .int 0, .int 0, .int 0, .int 0, .int 0, .int 0] (.int 0)) (wK : n0 ≤ o1) (ww : n0 ≤ vb) (wx : o1 ≠ vb) (wa : sHQ Z h0 (.int cs)) (hcs : ¬ cs = (0 : Int32)) (wl : Arv Z h0 a_D1 k_a_D1 .byte 100 own_ones (.int 0)) (wf : sJQ Z h0 (.ref a_D1)) (wn : Arv Z h0 a_D2 k_a_D2 .byte 100 own_tens (.int 0)) (wg : sKQ Z h0 (.ref a_D2)) (wD : o0 ≠ o1) (wq : o0 ≠ vb) (kz : a_D1 ≠ vb) (ky : a_D2 ≠ vb) (h0q : ¬ q2 < (0 : Int64)) (hpl : pl ≠ 0) (g1 : ((((q2 % pl) * (7919 : Int64)) % pl)).toInt < 1000) (g2 : 100 ≤ ((((q2 % pl) * (7919 : Int64)) % pl)).toInt) :
  MF l mN8 prog_8_method_5_code 6 none ws (rmm 5 2 7 80) #[.ref o0, .ref o1, .long q2] Z h0 (Qap3 Z o0 o1 q2 pl vb kb cs a_D1 k_a_D1 a_D2 k_a_D2 h0 n0) := by
 refine MF.of (plainFor_of_name pn_9) ?_
 intro p e s m below meth c s₁ QQ hy hml hown hZ X0 e0 hrt hlk hnm hQQ
 have N0 := Fr.nil n0
 refine Ends.i #[rv o0, rv o1, jv q2, ss, uu, uu] (oE X0 hy d8_0 1 rfl (oJ X0 hy d8_1 2 0 rfl (oY X0 hy d8_2 3 ?_)))
 have hc3 : ¬ (q2 < (0 : Int64)) := h0q
 refine oxk X0 hy d8_3 16 (XT.ll_ge_t hc3) (oE X0 hy d8_16 17 rfl (oA X0 hy d8_17 18 rfl (gF X0 hy hown hZ hw e0 wu d8_18 21 21 rfl fun T638 X638 e638 => lremO X638 hy d8_21 22 hpl (oJ2 X638 hy hown hZ hw d8_22 25 7919 54 rfl (oU X638 hy d8_25 26 (oA X638 hy d8_26 27 rfl (gF X638 hy hown hZ hw e638 wu d8_27 30 21 rfl fun T639 X639 e639 => lremO X639 hy d8_30 31 hpl ?_)))))))
 refine cS X639 hy hml hown hZ hw d8_31 34 0 55 56 57 58 rfl rfl rfl rfl (rmts3 l Z a0 hw [] (((q2 % pl) * (7919 : Int64)) % pl) cs a_D1 k_a_D1 a_D2 k_a_D2 h0 n0 Z0 wa hcs wl wf wn wg g1 g2) e639 pd_25 rfl rfl fun _ T640 Lc640 X640 hQ640 => ?_
 obtain ⟨sx_640, sa_640, sk_640, rfl, Nq640, Kq640, fq640_0, fq640_1, g_sx_640, g_sa_640, vW, wS, wT, kl, ka, zG⟩ := hQ640
 have N640 := Fr.app N0 Nq640
 have vA : o1 ≠ sx_640 := Nat.ne_of_lt (Nat.lt_of_lt_of_le wt.lt fq640_0)
 have vx : vb ≠ sx_640 := Nat.ne_of_lt (Nat.lt_of_lt_of_le wo.lt fq640_0)
 have kD : o1 ≠ sa_640 := Nat.ne_of_lt (Nat.lt_of_lt_of_le wt.lt fq640_1)
 have kC : vb ≠ sa_640 := Nat.ne_of_lt (Nat.lt_of_lt_of_le wo.lt fq640_1)
 have wa := own_sta_keep wa Kq640 all0
 have wt := wt.keep Kq640
 have wk := wk.keep Kq640 nin0
 have wj := wj.keep Kq640 nin0
 have wp := wp.keep Kq640 nin0
 have wo := wo.keep Kq640
 have wm := wm.keep Kq640 nin0
 have K640 := (Keep.refl h0 [o1, vb]).trans Kq640 all0
 refine Ends.v (oxs X640 hy d8_34 36 #[rv o0, rv o1, jv q2, ss, rv sx_640, uu] rfl (oA X640 hy d8_36 37 rfl (oH X640 hy d8_37 39 112 rfl ?_)))
 refine cV X640 hy hml hown hZ hw d8_39 42 0 81 82 84 83 85 32 rfl rfl rfl rfl rfl rfl (rmsba0_112 l Z a0 hw [] o1 vb kb cs T640.heap n0 (Nat.le_trans Z0 K640.1) wt wk wj wp wo wm wK ww wx wa hcs) rfl pd_26 wt rfl rfl fun _ T641 Lc641 X641 hQ641 => ?_
 obtain ⟨rfl, Nq641, Kq641, fq641_0, wk, wj, wp, wm⟩ := hQ641
 have N641 := Fr.app N640 Nq641
 have wa := own_sta_keep wa Kq641 (allS wt.cell (allS wo.cell all0))
 have wo := wo.keep Kq641
 have vW := vW.keep Kq641
 have wS := wS.keep Kq641 (ninS (Ne.symm vA) (ninS (Ne.symm vx) nin0))
 have wT := wT.keep Kq641 (ninS (Ne.symm vA) (ninS (Ne.symm vx) nin0))
 have kl := kl.keep Kq641
 have ka := ka.keep Kq641 (ninS (Ne.symm kD) (ninS (Ne.symm kC) nin0))
 have wt := fq641_0
 have K641 := K640.trans Kq641 (allS (Or.inl mm0) (allS (Or.inl mm1) all0))
 refine Ends.v (oxe X641 hy d8_42 43 rfl (oB X641 hy d8_43 45 rfl ?_))
 refine cV X641 hy hml hown hZ hw d8_45 48 0 107 108 110 109 111 44 rfl rfl rfl rfl rfl rfl (rmlen l Z a0 hw [] sx_640 sa_640 sk_640 (3 : Int32) [(.int (own_dg (((((q2 % pl) * (7919 : Int64)) % pl)).toInt / 100))), (.int (own_dg (((((q2 % pl) * (7919 : Int64)) % pl)).toInt / 10))), (.int (own_dg (((((q2 % pl) * (7919 : Int64)) % pl)).toInt)))] cs T641.heap n0 (Nat.le_trans Z0 K641.1) vW wS ka wa hcs wT) rfl pd_10 vW rfl rfl fun _ T642 Lc642 X642 hQ642 => ?_
 obtain ⟨rfl, Nq642, hh642⟩ := hQ642
 have N642 := Fr.app N641 Nq642
 refine Ends.v (oxo X642 hy d8_48 50 #[rv o0, rv o1, jv q2, ss, rv sx_640, iv 3] rfl (oD X642 hy d8_50 52 rfl (oH X642 hy d8_52 54 7 rfl (oxi X642 hy d8_54 57 (XT.ii_ge_f (by decide)) (oA X642 hy d8_57 58 rfl (oH X642 hy d8_58 60 48 rfl ?_))))))
 refine cV X642 hy hml hown hZ hw d8_60 63 0 81 82 84 83 85 32 rfl rfl rfl rfl rfl rfl (rmsba1_48 l Z a0 hw [] o1 vb kb cs T641.heap n0 (Nat.le_trans Z0 K641.1) wt wk wj wp wo wm wK ww wx wa hcs) hh642 pd_26 wt rfl rfl fun _ T643 Lc643 X643 hQ643 => ?_
 obtain ⟨rfl, Nq643, Kq643, fq643_0, wk, wj, wp, wm⟩ := hQ643
 have N643 := Fr.app N642 Nq643
 have wa := own_sta_keep wa Kq643 (allS wt.cell (allS wo.cell all0))
 have wo := wo.keep Kq643
 have vW := vW.keep Kq643
 have wS := wS.keep Kq643 (ninS (Ne.symm vA) (ninS (Ne.symm vx) nin0))
 have wT := wT.keep Kq643 (ninS (Ne.symm vA) (ninS (Ne.symm vx) nin0))
 have kl := kl.keep Kq643
 have ka := ka.keep Kq643 (ninS (Ne.symm kD) (ninS (Ne.symm kC) nin0))
 have wt := fq643_0
 have K643 := K641.trans Kq643 (allS (Or.inl mm0) (allS (Or.inl mm1) all0))
 refine Ends.v (oxe X643 hy d8_63 64 rfl (oxz X643 hy d8_64 67 #[rv o0, rv o1, jv q2, ss, rv sx_640, iv 4] 1 rfl rfl rfl (oxm X643 hy d8_67 50 (oD X643 hy d8_50 52 rfl (oH X643 hy d8_52 54 7 rfl (oxi X643 hy d8_54 57 (XT.ii_ge_f (by decide)) (oA X643 hy d8_57 58 rfl (oH X643 hy d8_58 60 48 rfl ?_))))))))
 refine cV X643 hy hml hown hZ hw d8_60 63 0 81 82 84 83 85 32 rfl rfl rfl rfl rfl rfl (rmsba2_48 l Z a0 hw [] o1 vb kb cs T643.heap n0 (Nat.le_trans Z0 K643.1) wt wk wj wp wo wm wK ww wx wa hcs) rfl pd_26 wt rfl rfl fun _ T644 Lc644 X644 hQ644 => ?_
 obtain ⟨rfl, Nq644, Kq644, fq644_0, wk, wj, wp, wm⟩ := hQ644
 have N644 := Fr.app N643 Nq644
 have wa := own_sta_keep wa Kq644 (allS wt.cell (allS wo.cell all0))
 have wo := wo.keep Kq644
 have vW := vW.keep Kq644
 have wS := wS.keep Kq644 (ninS (Ne.symm vA) (ninS (Ne.symm vx) nin0))
 have wT := wT.keep Kq644 (ninS (Ne.symm vA) (ninS (Ne.symm vx) nin0))
 have kl := kl.keep Kq644
 have ka := ka.keep Kq644 (ninS (Ne.symm kD) (ninS (Ne.symm kC) nin0))
 have wt := fq644_0
 have K644 := K643.trans Kq644 (allS (Or.inl mm0) (allS (Or.inl mm1) all0))
 refine Ends.v (oxe X644 hy d8_63 64 rfl (oxz X644 hy d8_64 67 #[rv o0, rv o1, jv q2, ss, rv sx_640, iv 5] 1 rfl rfl rfl (oxm X644 hy d8_67 50 (oD X644 hy d8_50 52 rfl (oH X644 hy d8_52 54 7 rfl (oxi X644 hy d8_54 57 (XT.ii_ge_f (by decide)) (oA X644 hy d8_57 58 rfl (oH X644 hy d8_58 60 48 rfl ?_))))))))
 refine cV X644 hy hml hown hZ hw d8_60 63 0 81 82 84 83 85 32 rfl rfl rfl rfl rfl rfl (rmsba3_48 l Z a0 hw [] o1 vb kb cs T644.heap n0 (Nat.le_trans Z0 K644.1) wt wk wj wp wo wm wK ww wx wa hcs) rfl pd_26 wt rfl rfl fun _ T645 Lc645 X645 hQ645 => ?_
 obtain ⟨rfl, Nq645, Kq645, fq645_0, wk, wj, wp, wm⟩ := hQ645
 have N645 := Fr.app N644 Nq645
 have wa := own_sta_keep wa Kq645 (allS wt.cell (allS wo.cell all0))
 have wo := wo.keep Kq645
 have vW := vW.keep Kq645
 have wS := wS.keep Kq645 (ninS (Ne.symm vA) (ninS (Ne.symm vx) nin0))
 have wT := wT.keep Kq645 (ninS (Ne.symm vA) (ninS (Ne.symm vx) nin0))
 have kl := kl.keep Kq645
 have ka := ka.keep Kq645 (ninS (Ne.symm kD) (ninS (Ne.symm kC) nin0))
 have wt := fq645_0
 have K645 := K644.trans Kq645 (allS (Or.inl mm0) (allS (Or.inl mm1) all0))
 refine Ends.v (oxe X645 hy d8_63 64 rfl (oxz X645 hy d8_64 67 #[rv o0, rv o1, jv q2, ss, rv sx_640, iv 6] 1 rfl rfl rfl (oxm X645 hy d8_67 50 (oD X645 hy d8_50 52 rfl (oH X645 hy d8_52 54 7 rfl (oxi X645 hy d8_54 57 (XT.ii_ge_f (by decide)) (oA X645 hy d8_57 58 rfl (oH X645 hy d8_58 60 48 rfl ?_))))))))
 refine cV X645 hy hml hown hZ hw d8_60 63 0 81 82 84 83 85 32 rfl rfl rfl rfl rfl rfl (rmsba4_48 l Z a0 hw [] o1 vb kb cs T645.heap n0 (Nat.le_trans Z0 K645.1) wt wk wj wp wo wm wK ww wx wa hcs) rfl pd_26 wt rfl rfl fun _ T646 Lc646 X646 hQ646 => ?_
 obtain ⟨rfl, Nq646, Kq646, fq646_0, wk, wj, wp, wm⟩ := hQ646
 have N646 := Fr.app N645 Nq646
 have wa := own_sta_keep wa Kq646 (allS wt.cell (allS wo.cell all0))
 have wo := wo.keep Kq646
 have vW := vW.keep Kq646
 have wS := wS.keep Kq646 (ninS (Ne.symm vA) (ninS (Ne.symm vx) nin0))
 have wT := wT.keep Kq646 (ninS (Ne.symm vA) (ninS (Ne.symm vx) nin0))
 have kl := kl.keep Kq646
 have ka := ka.keep Kq646 (ninS (Ne.symm kD) (ninS (Ne.symm kC) nin0))
 have wt := fq646_0
 have K646 := K645.trans Kq646 (allS (Or.inl mm0) (allS (Or.inl mm1) all0))
 refine Ends.v (oxe X646 hy d8_63 64 rfl (oxz X646 hy d8_64 67 #[rv o0, rv o1, jv q2, ss, rv sx_640, iv 7] 1 rfl rfl rfl (oxm X646 hy d8_67 50 (oD X646 hy d8_50 52 rfl (oH X646 hy d8_52 54 7 rfl (oxl X646 hy d8_54 70 (XT.ii_ge_t (by decide)) (oA X646 hy d8_70 71 rfl (oB X646 hy d8_71 73 rfl ?_))))))))
 refine cV X646 hy hml hown hZ hw d8_73 76 0 118 119 121 120 122 32 rfl rfl rfl rfl rfl rfl (rmsps3 l Z a0 hw [] o1 sx_640 vb kb sa_640 sk_640 cs (own_dg (((((q2 % pl) * (7919 : Int64)) % pl)).toInt / 100)) (own_dg (((((q2 % pl) * (7919 : Int64)) % pl)).toInt / 10)) (own_dg (((((q2 % pl) * (7919 : Int64)) % pl)).toInt)) T646.heap n0 (Nat.le_trans Z0 K646.1) wt wk wj wp wo wm wK ww wx vW wS wT kl ka zG kC kD vA vx wa hcs) rfl pd_27 wt rfl rfl fun _ T647 Lc647 X647 hQ647 => ?_
 obtain ⟨rfl, Nq647, Kq647, wt, wk, wj, wp, wm, wo⟩ := hQ647
 have N647 := Fr.app N646 Nq647
 have K647 := K646.trans Kq647 (allS (Or.inl mm0) (allS (Or.inl mm1) all0))
 refine Ends.v (oxe X647 hy d8_76 77 rfl ?_)
 exact fV X647 hy hrt hlk hQQ d8_77 rfl (by decide) ⟨rfl, N647, K647, wt, wk, wj, wp, wo, wm⟩
def Qpl3 (Z : State) (o0 : Addr) (q1 pl : Int64) (cs : Int32) (a_D1 : Addr) (k_a_D1 : ClassId) (a_D2 : Addr) (k_a_D2 : ClassId) (h0 : Heap) (n0 : Nat) : QT := fun v h L => ∃ (sx : Addr), ∃ (sa : Addr), ∃ (sk : ClassId), (v = some (.ref sx)) ∧ (Fr n0 L) ∧ (Keep h0 h []) ∧ (h0.size ≤ sx) ∧ (h0.size ≤ sa) ∧ (n0 ≤ sx) ∧ (n0 ≤ sa) ∧ (eAQ Z h sx) ∧ (fBQ Z h sx (.ref sa)) ∧ (fAQ Z h sx (.int 0)) ∧ (eCQ Z h sa) ∧ (Arv Z h sa sk .byte 8 [.int 112, .int 48, .int 48, .int 48, .int 48, (.int (own_dg (((((q1 % pl) * (7919 : Int64)) % pl)).toInt / 100))), (.int (own_dg (((((q1 % pl) * (7919 : Int64)) % pl)).toInt / 10))), (.int (own_dg (((((q1 % pl) * (7919 : Int64)) % pl)).toInt)))] (.int 0)) ∧ (sx ≠ sa)
theorem rmpl3 (l : Launch) (Z : State) (a0 : Array Value) (hw : TW a0 Z) (ws : List Jvm.Cond) (o0 : Addr) (q1 pl : Int64) (cs : Int32) (a_D1 : Addr) (k_a_D1 : ClassId) (a_D2 : Addr) (k_a_D2 : ClassId) (h0 : Heap) (n0 : Nat) (Z0 : n0 ≤ h0.size) (wh : eDQ Z h0 o0) (wu : fFQ Z h0 o0 (.long pl)) (wa : sHQ Z h0 (.int cs)) (hcs : ¬ cs = (0 : Int32)) (wl : Arv Z h0 a_D1 k_a_D1 .byte 100 own_ones (.int 0)) (wf : sJQ Z h0 (.ref a_D1)) (wn : Arv Z h0 a_D2 k_a_D2 .byte 100 own_tens (.int 0)) (wg : sKQ Z h0 (.ref a_D2)) (h0q : ¬ q1 < (0 : Int64)) (hpl : pl ≠ 0) (g1 : ((((q1 % pl) * (7919 : Int64)) % pl)).toInt < 1000) (g2 : 100 ≤ ((((q1 % pl) * (7919 : Int64)) % pl)).toInt) :
  MF l mN9 prog_8_method_2_code 4 (some (.object "java/lang/String")) ws (rmm 6 6 31 97) #[.ref o0, .long q1] Z h0 (Qpl3 Z o0 q1 pl cs a_D1 k_a_D1 a_D2 k_a_D2 h0 n0) := by
 refine MF.of (plainFor_of_name pn_9) ?_
 intro p e s m below meth c s₁ QQ hy hml hown hZ X0 e0 hrt hlk hnm hQQ
 have hx := hy.1
 have hby := hy.2
 have N0 := Fr.nil n0
 refine Ends.i #[rv o0, jv q1, ss, uu] ?_
 obtain ⟨T648, h648, X648, e648, E648, A648, D648, U648, st648⟩ := newO X0 hx hZ hown (tb hw 30 rfl) (tb hw 31 rfl) (tb hw 32 rfl) e0 (g := (mkF m 0 #[rv o0, jv q1, ss, uu] [])) rfl (hb hby d5_0) (by decide) (by decide)
 obtain ⟨b648, g648⟩ : ∃ z, z = h0.size := ⟨_, rfl⟩
 rw [← g648] at A648 D648 U648 st648
 have zZ : o0 ≠ b648 := Nat.ne_of_lt (Nat.lt_of_lt_of_le wh.lt (Nat.le_of_eq g648.symm))
 have Kg : a_D1 ≠ b648 := Nat.ne_of_lt (Nat.lt_of_lt_of_le wl.lt (Nat.le_of_eq g648.symm))
 have VN : a_D2 ≠ b648 := Nat.ne_of_lt (Nat.lt_of_lt_of_le wn.lt (Nat.le_of_eq g648.symm))
 have Uc : n0 ≤ b648 := Nat.le_trans Z0 (Nat.le_trans (Keep.refl h0 []).1 (Nat.le_of_eq g648.symm))
 have Ja : h0.size ≤ b648 := Nat.le_trans (Keep.refl h0 []).1 (Nat.le_of_eq g648.symm)
 have wh := wh.ext E648
 have wu := wu.ext E648
 have wa := wa.ext E648
 have wl := wl.ext E648
 have wf := wf.ext E648
 have wn := wn.ext E648
 have wg := wg.ext E648
 have K648 := (Keep.refl h0 []).ext E648
 have jt := A648
 have kU : fDQ Z h648 b648 .null := D648 (Or.inl (tb hw 47 rfl)) (ty := (.array .byte)) (by decide)
 have jm : fCQ Z h648 b648 (.int 0) := D648 (Or.inl (tb hw 49 rfl)) (ty := .byte) (by decide)
 have jd : fEQ Z h648 b648 (.int 0) := D648 (Or.inl (tb hw 92 rfl)) (ty := .int) (by decide)
 refine Ends.j 3 [.ref b648] st648 ?_
 refine oxd X648 hy d5_3 4 rfl (oH X648 hy d5_4 6 8 rfl ?_)
 refine cI X648 hy hml hown hZ hw d5_6 9 1 33 34 35 32 rfl rfl rfl rfl rfl (rmsb l Z a0 hw [] b648 (.null : Value) (0 : Int32) cs h648 n0 (Nat.le_trans Z0 K648.1) jt kU jm jd Uc wa hcs) e648 pd_5 rfl rfl fun _ T649 Lc649 X649 hQ649 => ?_
 obtain ⟨vb_649, kb_649, rfl, Nq649, Kq649, fq649_0, Yv, fq649_2, kU, jm, jd, zf, zQ⟩ := hQ649
 have N649 := Fr.app N0 Nq649
 have VD : o0 ≠ vb_649 := Nat.ne_of_lt (Nat.lt_of_lt_of_le wh.lt fq649_0)
 have WI : a_D1 ≠ vb_649 := Nat.ne_of_lt (Nat.lt_of_lt_of_le wl.lt fq649_0)
 have Wz : a_D2 ≠ vb_649 := Nat.ne_of_lt (Nat.lt_of_lt_of_le wn.lt fq649_0)
 have uW : b648 ≠ vb_649 := Nat.ne_of_lt (Nat.lt_of_lt_of_le jt.lt fq649_0)
 have JT := Nat.le_trans K648.1 fq649_0
 have wa := own_sta_keep wa Kq649 (allS jt.cell all0)
 have wf := own_sta_keep wf Kq649 (allS jt.cell all0)
 have wg := own_sta_keep wg Kq649 (allS jt.cell all0)
 have wh := wh.keep Kq649
 have wu := wu.keep Kq649 (ninS zZ nin0)
 have wl := wl.keep Kq649 (ninS Kg nin0)
 have wn := wn.keep Kq649 (ninS VN nin0)
 have jt := fq649_2
 have K649 := K648.trans Kq649 (allS (Or.inr Ja) all0)
 refine Ends.u (oxt X649 hy d5_9 10 #[rv o0, jv q1, ss, rv b648] rfl (oA X649 hy d5_10 11 rfl (oA X649 hy d5_11 12 rfl (oE X649 hy d5_12 13 rfl ?_))))
 refine cP X649 hy hml hown hZ hw d5_13 16 0 50 51 28 52 53 8 rfl rfl rfl rfl rfl rfl rfl (rmap3 l Z a0 hw [] o0 b648 q1 pl vb_649 kb_649 cs a_D1 k_a_D1 a_D2 k_a_D2 T649.heap n0 (Nat.le_trans Z0 K649.1) wh wu jt kU jm jd zf zQ Uc Yv uW wa hcs wl wf wn wg zZ VD WI Wz h0q hpl g1 g2) rfl pd_28 wh rfl rfl fun _ T650 Lc650 X650 hQ650 => ?_
 obtain ⟨rfl, Nq650, Kq650, fq650_0, kU, jm, jd, fq650_4, zQ⟩ := hQ650
 have N650 := Fr.app N649 Nq650
 have wa := own_sta_keep wa Kq650 (allS jt.cell (allS zf.cell all0))
 have jt := fq650_0
 have zf := fq650_4
 have K650 := K649.trans Kq650 (allS (Or.inr Ja) (allS (Or.inr JT) all0))
 refine Ends.u (oA X650 hy d5_16 17 rfl ?_)
 refine cV X650 hy hml hown hZ hw d5_17 20 0 148 149 151 150 152 32 rfl rfl rfl rfl rfl rfl (rmtos8 l Z a0 hw [] b648 vb_649 kb_649 cs (112 : Int32) (48 : Int32) (48 : Int32) (48 : Int32) (48 : Int32) (own_dg (((((q1 % pl) * (7919 : Int64)) % pl)).toInt / 100)) (own_dg (((((q1 % pl) * (7919 : Int64)) % pl)).toInt / 10)) (own_dg (((((q1 % pl) * (7919 : Int64)) % pl)).toInt)) T650.heap n0 (Nat.le_trans Z0 K650.1) jt kU jm jd zf zQ uW wa hcs) rfl pd_29 jt rfl rfl fun _ T651 Lc651 X651 hQ651 => ?_
 obtain ⟨x_651, b_651, k2_651, rfl, Nq651, Kq651, fq651_0, fq651_1, YI, YU, xs, Vi, Vs, xG, Gf, Wn⟩ := hQ651
 have N651 := Fr.app N650 Nq651
 have UL := Nat.le_trans K650.1 fq651_0
 have UX := Nat.le_trans K650.1 fq651_1
 have K651 := K650.trans Kq651 all0
 refine Ends.v ?_
 exact fA X651 hy hrt hlk hQQ d5_20 rfl rfl rfl (by decide) ⟨x_651, b_651, k2_651, rfl, N651, K651, UL, UX, YI, YU, xs, Vi, Vs, xG, Gf, Wn⟩
def Qap4 (Z : State) (o0 o1 : Addr) (q2 pl : Int64) (vb : Addr) (kb : ClassId) (cs : Int32) (a_D1 : Addr) (k_a_D1 : ClassId) (a_D2 : Addr) (k_a_D2 : ClassId) (h0 : Heap) (n0 : Nat) : QT := fun v h L => (v = none) ∧ (Fr n0 L) ∧ (Keep h0 h [o1, vb]) ∧ (eBQ Z h o1) ∧ (fDQ Z h o1 (.ref vb)) ∧ (fCQ Z h o1 (.int 0)) ∧ (fEQ Z h o1 (.int 8)) ∧ (eCQ Z h vb) ∧ (Arv Z h vb kb .byte 8 [.int 112, .int 48, .int 48, .int 48, (.int (own_dg (((((q2 % pl) * (7919 : Int64)) % pl)).toInt / 100 / 10))), (.int (own_dg (((((q2 % pl) * (7919 : Int64)) % pl)).toInt / 100))), (.int (own_dg (((((q2 % pl) * (7919 : Int64)) % pl)).toInt / 10))), (.int (own_dg (((((q2 % pl) * (7919 : Int64)) % pl)).toInt)))] (.int 0))
theorem rmap4 (l : Launch) (Z : State) (a0 : Array Value) (hw : TW a0 Z) (ws : List Jvm.Cond) (o0 o1 : Addr) (q2 pl : Int64) (vb : Addr) (kb : ClassId) (cs : Int32) (a_D1 : Addr) (k_a_D1 : ClassId) (a_D2 : Addr) (k_a_D2 : ClassId) (h0 : Heap) (n0 : Nat) (Z0 : n0 ≤ h0.size) (wh : eDQ Z h0 o0) (wu : fFQ Z h0 o0 (.long pl)) (wt : eBQ Z h0 o1) (wk : fDQ Z h0 o1 (.ref vb)) (wj : fCQ Z h0 o1 (.int 0)) (wp : fEQ Z h0 o1 (.int 0)) (wo : eCQ Z h0 vb) (wm : Arv Z h0 vb kb .byte 8 [.int 0, .int 0, .int 0, .int 0, .int 0, .int 0, .int 0, .int 0] (.int 0)) (wK : n0 ≤ o1) (ww : n0 ≤ vb) (wx : o1 ≠ vb) (wa : sHQ Z h0 (.int cs)) (hcs : ¬ cs = (0 : Int32)) (wl : Arv Z h0 a_D1 k_a_D1 .byte 100 own_ones (.int 0)) (wf : sJQ Z h0 (.ref a_D1)) (wn : Arv Z h0 a_D2 k_a_D2 .byte 100 own_tens (.int 0)) (wg : sKQ Z h0 (.ref a_D2)) (wD : o0 ≠ o1) (wq : o0 ≠ vb) (kz : a_D1 ≠ vb) (ky : a_D2 ≠ vb) (h0q : ¬ q2 < (0 : Int64)) (hpl : pl ≠ 0) (g1 : ((((q2 % pl) * (7919 : Int64)) % pl)).toInt < 10000) (g2 : 1000 ≤ ((((q2 % pl) * (7919 : Int64)) % pl)).toInt) :
  MF l mN8 prog_8_method_5_code 6 none ws (rmm 5 2 8 80) #[.ref o0, .ref o1, .long q2] Z h0 (Qap4 Z o0 o1 q2 pl vb kb cs a_D1 k_a_D1 a_D2 k_a_D2 h0 n0) := by
 refine MF.of (plainFor_of_name pn_9) ?_
 intro p e s m below meth c s₁ QQ hy hml hown hZ X0 e0 hrt hlk hnm hQQ
 have N0 := Fr.nil n0
 refine Ends.i #[rv o0, rv o1, jv q2, ss, uu, uu] (oE X0 hy d8_0 1 rfl (oJ X0 hy d8_1 2 0 rfl (oY X0 hy d8_2 3 ?_)))
 have hc3 : ¬ (q2 < (0 : Int64)) := h0q
 refine oxk X0 hy d8_3 16 (XT.ll_ge_t hc3) (oE X0 hy d8_16 17 rfl (oA X0 hy d8_17 18 rfl (gF X0 hy hown hZ hw e0 wu d8_18 21 21 rfl fun T652 X652 e652 => lremO X652 hy d8_21 22 hpl (oJ2 X652 hy hown hZ hw d8_22 25 7919 54 rfl (oU X652 hy d8_25 26 (oA X652 hy d8_26 27 rfl (gF X652 hy hown hZ hw e652 wu d8_27 30 21 rfl fun T653 X653 e653 => lremO X653 hy d8_30 31 hpl ?_)))))))
 refine cS X653 hy hml hown hZ hw d8_31 34 0 55 56 57 58 rfl rfl rfl rfl (rmts4 l Z a0 hw [] (((q2 % pl) * (7919 : Int64)) % pl) cs a_D1 k_a_D1 a_D2 k_a_D2 h0 n0 Z0 wa hcs wl wf wn wg g1 g2) e653 pd_25 rfl rfl fun _ T654 Lc654 X654 hQ654 => ?_
 obtain ⟨sx_654, sa_654, sk_654, rfl, Nq654, Kq654, fq654_0, fq654_1, g_sx_654, g_sa_654, kj, vu, vv, kF, kA, zF⟩ := hQ654
 have N654 := Fr.app N0 Nq654
 have vL : o1 ≠ sx_654 := Nat.ne_of_lt (Nat.lt_of_lt_of_le wt.lt fq654_0)
 have vK : vb ≠ sx_654 := Nat.ne_of_lt (Nat.lt_of_lt_of_le wo.lt fq654_0)
 have kL : o1 ≠ sa_654 := Nat.ne_of_lt (Nat.lt_of_lt_of_le wt.lt fq654_1)
 have kJ : vb ≠ sa_654 := Nat.ne_of_lt (Nat.lt_of_lt_of_le wo.lt fq654_1)
 have wa := own_sta_keep wa Kq654 all0
 have wt := wt.keep Kq654
 have wk := wk.keep Kq654 nin0
 have wj := wj.keep Kq654 nin0
 have wp := wp.keep Kq654 nin0
 have wo := wo.keep Kq654
 have wm := wm.keep Kq654 nin0
 have K654 := (Keep.refl h0 [o1, vb]).trans Kq654 all0
 refine Ends.v (oxs X654 hy d8_34 36 #[rv o0, rv o1, jv q2, ss, rv sx_654, uu] rfl (oA X654 hy d8_36 37 rfl (oH X654 hy d8_37 39 112 rfl ?_)))
 refine cV X654 hy hml hown hZ hw d8_39 42 0 81 82 84 83 85 32 rfl rfl rfl rfl rfl rfl (rmsba0_112 l Z a0 hw [] o1 vb kb cs T654.heap n0 (Nat.le_trans Z0 K654.1) wt wk wj wp wo wm wK ww wx wa hcs) rfl pd_26 wt rfl rfl fun _ T655 Lc655 X655 hQ655 => ?_
 obtain ⟨rfl, Nq655, Kq655, fq655_0, wk, wj, wp, wm⟩ := hQ655
 have N655 := Fr.app N654 Nq655
 have wa := own_sta_keep wa Kq655 (allS wt.cell (allS wo.cell all0))
 have wo := wo.keep Kq655
 have kj := kj.keep Kq655
 have vu := vu.keep Kq655 (ninS (Ne.symm vL) (ninS (Ne.symm vK) nin0))
 have vv := vv.keep Kq655 (ninS (Ne.symm vL) (ninS (Ne.symm vK) nin0))
 have kF := kF.keep Kq655
 have kA := kA.keep Kq655 (ninS (Ne.symm kL) (ninS (Ne.symm kJ) nin0))
 have wt := fq655_0
 have K655 := K654.trans Kq655 (allS (Or.inl mm0) (allS (Or.inl mm1) all0))
 refine Ends.v (oxe X655 hy d8_42 43 rfl (oB X655 hy d8_43 45 rfl ?_))
 refine cV X655 hy hml hown hZ hw d8_45 48 0 107 108 110 109 111 44 rfl rfl rfl rfl rfl rfl (rmlen l Z a0 hw [] sx_654 sa_654 sk_654 (4 : Int32) [(.int (own_dg (((((q2 % pl) * (7919 : Int64)) % pl)).toInt / 100 / 10))), (.int (own_dg (((((q2 % pl) * (7919 : Int64)) % pl)).toInt / 100))), (.int (own_dg (((((q2 % pl) * (7919 : Int64)) % pl)).toInt / 10))), (.int (own_dg (((((q2 % pl) * (7919 : Int64)) % pl)).toInt)))] cs T655.heap n0 (Nat.le_trans Z0 K655.1) kj vu kA wa hcs vv) rfl pd_10 kj rfl rfl fun _ T656 Lc656 X656 hQ656 => ?_
 obtain ⟨rfl, Nq656, hh656⟩ := hQ656
 have N656 := Fr.app N655 Nq656
 refine Ends.v (oxo X656 hy d8_48 50 #[rv o0, rv o1, jv q2, ss, rv sx_654, iv 4] rfl (oD X656 hy d8_50 52 rfl (oH X656 hy d8_52 54 7 rfl (oxi X656 hy d8_54 57 (XT.ii_ge_f (by decide)) (oA X656 hy d8_57 58 rfl (oH X656 hy d8_58 60 48 rfl ?_))))))
 refine cV X656 hy hml hown hZ hw d8_60 63 0 81 82 84 83 85 32 rfl rfl rfl rfl rfl rfl (rmsba1_48 l Z a0 hw [] o1 vb kb cs T655.heap n0 (Nat.le_trans Z0 K655.1) wt wk wj wp wo wm wK ww wx wa hcs) hh656 pd_26 wt rfl rfl fun _ T657 Lc657 X657 hQ657 => ?_
 obtain ⟨rfl, Nq657, Kq657, fq657_0, wk, wj, wp, wm⟩ := hQ657
 have N657 := Fr.app N656 Nq657
 have wa := own_sta_keep wa Kq657 (allS wt.cell (allS wo.cell all0))
 have wo := wo.keep Kq657
 have kj := kj.keep Kq657
 have vu := vu.keep Kq657 (ninS (Ne.symm vL) (ninS (Ne.symm vK) nin0))
 have vv := vv.keep Kq657 (ninS (Ne.symm vL) (ninS (Ne.symm vK) nin0))
 have kF := kF.keep Kq657
 have kA := kA.keep Kq657 (ninS (Ne.symm kL) (ninS (Ne.symm kJ) nin0))
 have wt := fq657_0
 have K657 := K655.trans Kq657 (allS (Or.inl mm0) (allS (Or.inl mm1) all0))
 refine Ends.v (oxe X657 hy d8_63 64 rfl (oxz X657 hy d8_64 67 #[rv o0, rv o1, jv q2, ss, rv sx_654, iv 5] 1 rfl rfl rfl (oxm X657 hy d8_67 50 (oD X657 hy d8_50 52 rfl (oH X657 hy d8_52 54 7 rfl (oxi X657 hy d8_54 57 (XT.ii_ge_f (by decide)) (oA X657 hy d8_57 58 rfl (oH X657 hy d8_58 60 48 rfl ?_))))))))
 refine cV X657 hy hml hown hZ hw d8_60 63 0 81 82 84 83 85 32 rfl rfl rfl rfl rfl rfl (rmsba2_48 l Z a0 hw [] o1 vb kb cs T657.heap n0 (Nat.le_trans Z0 K657.1) wt wk wj wp wo wm wK ww wx wa hcs) rfl pd_26 wt rfl rfl fun _ T658 Lc658 X658 hQ658 => ?_
 obtain ⟨rfl, Nq658, Kq658, fq658_0, wk, wj, wp, wm⟩ := hQ658
 have N658 := Fr.app N657 Nq658
 have wa := own_sta_keep wa Kq658 (allS wt.cell (allS wo.cell all0))
 have wo := wo.keep Kq658
 have kj := kj.keep Kq658
 have vu := vu.keep Kq658 (ninS (Ne.symm vL) (ninS (Ne.symm vK) nin0))
 have vv := vv.keep Kq658 (ninS (Ne.symm vL) (ninS (Ne.symm vK) nin0))
 have kF := kF.keep Kq658
 have kA := kA.keep Kq658 (ninS (Ne.symm kL) (ninS (Ne.symm kJ) nin0))
 have wt := fq658_0
 have K658 := K657.trans Kq658 (allS (Or.inl mm0) (allS (Or.inl mm1) all0))
 refine Ends.v (oxe X658 hy d8_63 64 rfl (oxz X658 hy d8_64 67 #[rv o0, rv o1, jv q2, ss, rv sx_654, iv 6] 1 rfl rfl rfl (oxm X658 hy d8_67 50 (oD X658 hy d8_50 52 rfl (oH X658 hy d8_52 54 7 rfl (oxi X658 hy d8_54 57 (XT.ii_ge_f (by decide)) (oA X658 hy d8_57 58 rfl (oH X658 hy d8_58 60 48 rfl ?_))))))))
 refine cV X658 hy hml hown hZ hw d8_60 63 0 81 82 84 83 85 32 rfl rfl rfl rfl rfl rfl (rmsba3_48 l Z a0 hw [] o1 vb kb cs T658.heap n0 (Nat.le_trans Z0 K658.1) wt wk wj wp wo wm wK ww wx wa hcs) rfl pd_26 wt rfl rfl fun _ T659 Lc659 X659 hQ659 => ?_
 obtain ⟨rfl, Nq659, Kq659, fq659_0, wk, wj, wp, wm⟩ := hQ659
 have N659 := Fr.app N658 Nq659
 have wa := own_sta_keep wa Kq659 (allS wt.cell (allS wo.cell all0))
 have wo := wo.keep Kq659
 have kj := kj.keep Kq659
 have vu := vu.keep Kq659 (ninS (Ne.symm vL) (ninS (Ne.symm vK) nin0))
 have vv := vv.keep Kq659 (ninS (Ne.symm vL) (ninS (Ne.symm vK) nin0))
 have kF := kF.keep Kq659
 have kA := kA.keep Kq659 (ninS (Ne.symm kL) (ninS (Ne.symm kJ) nin0))
 have wt := fq659_0
 have K659 := K658.trans Kq659 (allS (Or.inl mm0) (allS (Or.inl mm1) all0))
 refine Ends.v (oxe X659 hy d8_63 64 rfl (oxz X659 hy d8_64 67 #[rv o0, rv o1, jv q2, ss, rv sx_654, iv 7] 1 rfl rfl rfl (oxm X659 hy d8_67 50 (oD X659 hy d8_50 52 rfl (oH X659 hy d8_52 54 7 rfl (oxl X659 hy d8_54 70 (XT.ii_ge_t (by decide)) (oA X659 hy d8_70 71 rfl (oB X659 hy d8_71 73 rfl ?_))))))))
 refine cV X659 hy hml hown hZ hw d8_73 76 0 118 119 121 120 122 32 rfl rfl rfl rfl rfl rfl (rmsps4 l Z a0 hw [] o1 sx_654 vb kb sa_654 sk_654 cs (own_dg (((((q2 % pl) * (7919 : Int64)) % pl)).toInt / 100 / 10)) (own_dg (((((q2 % pl) * (7919 : Int64)) % pl)).toInt / 100)) (own_dg (((((q2 % pl) * (7919 : Int64)) % pl)).toInt / 10)) (own_dg (((((q2 % pl) * (7919 : Int64)) % pl)).toInt)) T659.heap n0 (Nat.le_trans Z0 K659.1) wt wk wj wp wo wm wK ww wx kj vu vv kF kA zF kJ kL vL vK wa hcs) rfl pd_27 wt rfl rfl fun _ T660 Lc660 X660 hQ660 => ?_
 obtain ⟨rfl, Nq660, Kq660, wt, wk, wj, wp, wm, wo⟩ := hQ660
 have N660 := Fr.app N659 Nq660
 have K660 := K659.trans Kq660 (allS (Or.inl mm0) (allS (Or.inl mm1) all0))
 refine Ends.v (oxe X660 hy d8_76 77 rfl ?_)
 exact fV X660 hy hrt hlk hQQ d8_77 rfl (by decide) ⟨rfl, N660, K660, wt, wk, wj, wp, wo, wm⟩
def Qpl4 (Z : State) (o0 : Addr) (q1 pl : Int64) (cs : Int32) (a_D1 : Addr) (k_a_D1 : ClassId) (a_D2 : Addr) (k_a_D2 : ClassId) (h0 : Heap) (n0 : Nat) : QT := fun v h L => ∃ (sx : Addr), ∃ (sa : Addr), ∃ (sk : ClassId), (v = some (.ref sx)) ∧ (Fr n0 L) ∧ (Keep h0 h []) ∧ (h0.size ≤ sx) ∧ (h0.size ≤ sa) ∧ (n0 ≤ sx) ∧ (n0 ≤ sa) ∧ (eAQ Z h sx) ∧ (fBQ Z h sx (.ref sa)) ∧ (fAQ Z h sx (.int 0)) ∧ (eCQ Z h sa) ∧ (Arv Z h sa sk .byte 8 [.int 112, .int 48, .int 48, .int 48, (.int (own_dg (((((q1 % pl) * (7919 : Int64)) % pl)).toInt / 100 / 10))), (.int (own_dg (((((q1 % pl) * (7919 : Int64)) % pl)).toInt / 100))), (.int (own_dg (((((q1 % pl) * (7919 : Int64)) % pl)).toInt / 10))), (.int (own_dg (((((q1 % pl) * (7919 : Int64)) % pl)).toInt)))] (.int 0)) ∧ (sx ≠ sa)
theorem rmpl4 (l : Launch) (Z : State) (a0 : Array Value) (hw : TW a0 Z) (ws : List Jvm.Cond) (o0 : Addr) (q1 pl : Int64) (cs : Int32) (a_D1 : Addr) (k_a_D1 : ClassId) (a_D2 : Addr) (k_a_D2 : ClassId) (h0 : Heap) (n0 : Nat) (Z0 : n0 ≤ h0.size) (wh : eDQ Z h0 o0) (wu : fFQ Z h0 o0 (.long pl)) (wa : sHQ Z h0 (.int cs)) (hcs : ¬ cs = (0 : Int32)) (wl : Arv Z h0 a_D1 k_a_D1 .byte 100 own_ones (.int 0)) (wf : sJQ Z h0 (.ref a_D1)) (wn : Arv Z h0 a_D2 k_a_D2 .byte 100 own_tens (.int 0)) (wg : sKQ Z h0 (.ref a_D2)) (h0q : ¬ q1 < (0 : Int64)) (hpl : pl ≠ 0) (g1 : ((((q1 % pl) * (7919 : Int64)) % pl)).toInt < 10000) (g2 : 1000 ≤ ((((q1 % pl) * (7919 : Int64)) % pl)).toInt) :
  MF l mN9 prog_8_method_2_code 4 (some (.object "java/lang/String")) ws (rmm 6 6 32 97) #[.ref o0, .long q1] Z h0 (Qpl4 Z o0 q1 pl cs a_D1 k_a_D1 a_D2 k_a_D2 h0 n0) := by
 refine MF.of (plainFor_of_name pn_9) ?_
 intro p e s m below meth c s₁ QQ hy hml hown hZ X0 e0 hrt hlk hnm hQQ
 have hx := hy.1
 have hby := hy.2
 have N0 := Fr.nil n0
 refine Ends.i #[rv o0, jv q1, ss, uu] ?_
 obtain ⟨T661, h661, X661, e661, E661, A661, D661, U661, st661⟩ := newO X0 hx hZ hown (tb hw 30 rfl) (tb hw 31 rfl) (tb hw 32 rfl) e0 (g := (mkF m 0 #[rv o0, jv q1, ss, uu] [])) rfl (hb hby d5_0) (by decide) (by decide)
 obtain ⟨b661, g661⟩ : ∃ z, z = h0.size := ⟨_, rfl⟩
 rw [← g661] at A661 D661 U661 st661
 have zY : o0 ≠ b661 := Nat.ne_of_lt (Nat.lt_of_lt_of_le wh.lt (Nat.le_of_eq g661.symm))
 have Kf : a_D1 ≠ b661 := Nat.ne_of_lt (Nat.lt_of_lt_of_le wl.lt (Nat.le_of_eq g661.symm))
 have VM : a_D2 ≠ b661 := Nat.ne_of_lt (Nat.lt_of_lt_of_le wn.lt (Nat.le_of_eq g661.symm))
 have Ub : n0 ≤ b661 := Nat.le_trans Z0 (Nat.le_trans (Keep.refl h0 []).1 (Nat.le_of_eq g661.symm))
 have KZ : h0.size ≤ b661 := Nat.le_trans (Keep.refl h0 []).1 (Nat.le_of_eq g661.symm)
 have wh := wh.ext E661
 have wu := wu.ext E661
 have wa := wa.ext E661
 have wl := wl.ext E661
 have wf := wf.ext E661
 have wn := wn.ext E661
 have wg := wg.ext E661
 have K661 := (Keep.refl h0 []).ext E661
 have js := A661
 have kT : fDQ Z h661 b661 .null := D661 (Or.inl (tb hw 47 rfl)) (ty := (.array .byte)) (by decide)
 have jl : fCQ Z h661 b661 (.int 0) := D661 (Or.inl (tb hw 49 rfl)) (ty := .byte) (by decide)
 have jc : fEQ Z h661 b661 (.int 0) := D661 (Or.inl (tb hw 92 rfl)) (ty := .int) (by decide)
 refine Ends.j 3 [.ref b661] st661 ?_
 refine oxd X661 hy d5_3 4 rfl (oH X661 hy d5_4 6 8 rfl ?_)
 refine cI X661 hy hml hown hZ hw d5_6 9 1 33 34 35 32 rfl rfl rfl rfl rfl (rmsb l Z a0 hw [] b661 (.null : Value) (0 : Int32) cs h661 n0 (Nat.le_trans Z0 K661.1) js kT jl jc Ub wa hcs) e661 pd_5 rfl rfl fun _ T662 Lc662 X662 hQ662 => ?_
 obtain ⟨vb_662, kb_662, rfl, Nq662, Kq662, fq662_0, Yu, fq662_2, kT, jl, jc, ze, zP⟩ := hQ662
 have N662 := Fr.app N0 Nq662
 have VC : o0 ≠ vb_662 := Nat.ne_of_lt (Nat.lt_of_lt_of_le wh.lt fq662_0)
 have WH : a_D1 ≠ vb_662 := Nat.ne_of_lt (Nat.lt_of_lt_of_le wl.lt fq662_0)
 have Wy : a_D2 ≠ vb_662 := Nat.ne_of_lt (Nat.lt_of_lt_of_le wn.lt fq662_0)
 have uV : b661 ≠ vb_662 := Nat.ne_of_lt (Nat.lt_of_lt_of_le js.lt fq662_0)
 have JS := Nat.le_trans K661.1 fq662_0
 have wa := own_sta_keep wa Kq662 (allS js.cell all0)
 have wf := own_sta_keep wf Kq662 (allS js.cell all0)
 have wg := own_sta_keep wg Kq662 (allS js.cell all0)
 have wh := wh.keep Kq662
 have wu := wu.keep Kq662 (ninS zY nin0)
 have wl := wl.keep Kq662 (ninS Kf nin0)
 have wn := wn.keep Kq662 (ninS VM nin0)
 have js := fq662_2
 have K662 := K661.trans Kq662 (allS (Or.inr KZ) all0)
 refine Ends.u (oxt X662 hy d5_9 10 #[rv o0, jv q1, ss, rv b661] rfl (oA X662 hy d5_10 11 rfl (oA X662 hy d5_11 12 rfl (oE X662 hy d5_12 13 rfl ?_))))
 refine cP X662 hy hml hown hZ hw d5_13 16 0 50 51 28 52 53 8 rfl rfl rfl rfl rfl rfl rfl (rmap4 l Z a0 hw [] o0 b661 q1 pl vb_662 kb_662 cs a_D1 k_a_D1 a_D2 k_a_D2 T662.heap n0 (Nat.le_trans Z0 K662.1) wh wu js kT jl jc ze zP Ub Yu uV wa hcs wl wf wn wg zY VC WH Wy h0q hpl g1 g2) rfl pd_28 wh rfl rfl fun _ T663 Lc663 X663 hQ663 => ?_
 obtain ⟨rfl, Nq663, Kq663, fq663_0, kT, jl, jc, fq663_4, zP⟩ := hQ663
 have N663 := Fr.app N662 Nq663
 have wa := own_sta_keep wa Kq663 (allS js.cell (allS ze.cell all0))
 have js := fq663_0
 have ze := fq663_4
 have K663 := K662.trans Kq663 (allS (Or.inr KZ) (allS (Or.inr JS) all0))
 refine Ends.u (oA X663 hy d5_16 17 rfl ?_)
 refine cV X663 hy hml hown hZ hw d5_17 20 0 148 149 151 150 152 32 rfl rfl rfl rfl rfl rfl (rmtos8 l Z a0 hw [] b661 vb_662 kb_662 cs (112 : Int32) (48 : Int32) (48 : Int32) (48 : Int32) (own_dg (((((q1 % pl) * (7919 : Int64)) % pl)).toInt / 100 / 10)) (own_dg (((((q1 % pl) * (7919 : Int64)) % pl)).toInt / 100)) (own_dg (((((q1 % pl) * (7919 : Int64)) % pl)).toInt / 10)) (own_dg (((((q1 % pl) * (7919 : Int64)) % pl)).toInt)) T663.heap n0 (Nat.le_trans Z0 K663.1) js kT jl jc ze zP uV wa hcs) rfl pd_29 js rfl rfl fun _ T664 Lc664 X664 hQ664 => ?_
 obtain ⟨x_664, b_664, k2_664, rfl, Nq664, Kq664, fq664_0, fq664_1, YH, YT, xr, Vh, Vr, xF, Ge, Wm⟩ := hQ664
 have N664 := Fr.app N663 Nq664
 have UK := Nat.le_trans K663.1 fq664_0
 have UW := Nat.le_trans K663.1 fq664_1
 have K664 := K663.trans Kq664 all0
 refine Ends.v ?_
 exact fA X664 hy hrt hlk hQQ d5_20 rfl rfl rfl (by decide) ⟨x_664, b_664, k2_664, rfl, N664, K664, UK, UW, YH, YT, xr, Vh, Vr, xF, Ge, Wm⟩
def Qap5 (Z : State) (o0 o1 : Addr) (q2 pl : Int64) (vb : Addr) (kb : ClassId) (cs : Int32) (a_D1 : Addr) (k_a_D1 : ClassId) (a_D2 : Addr) (k_a_D2 : ClassId) (h0 : Heap) (n0 : Nat) : QT := fun v h L => (v = none) ∧ (Fr n0 L) ∧ (Keep h0 h [o1, vb]) ∧ (eBQ Z h o1) ∧ (fDQ Z h o1 (.ref vb)) ∧ (fCQ Z h o1 (.int 0)) ∧ (fEQ Z h o1 (.int 8)) ∧ (eCQ Z h vb) ∧ (Arv Z h vb kb .byte 8 [.int 112, .int 48, .int 48, (.int (own_dg (((((q2 % pl) * (7919 : Int64)) % pl)).toInt / 100 / 100))), (.int (own_dg (((((q2 % pl) * (7919 : Int64)) % pl)).toInt / 100 / 10))), (.int (own_dg (((((q2 % pl) * (7919 : Int64)) % pl)).toInt / 100))), (.int (own_dg (((((q2 % pl) * (7919 : Int64)) % pl)).toInt / 10))), (.int (own_dg (((((q2 % pl) * (7919 : Int64)) % pl)).toInt)))] (.int 0))
theorem rmap5 (l : Launch) (Z : State) (a0 : Array Value) (hw : TW a0 Z) (ws : List Jvm.Cond) (o0 o1 : Addr) (q2 pl : Int64) (vb : Addr) (kb : ClassId) (cs : Int32) (a_D1 : Addr) (k_a_D1 : ClassId) (a_D2 : Addr) (k_a_D2 : ClassId) (h0 : Heap) (n0 : Nat) (Z0 : n0 ≤ h0.size) (wh : eDQ Z h0 o0) (wu : fFQ Z h0 o0 (.long pl)) (wt : eBQ Z h0 o1) (wk : fDQ Z h0 o1 (.ref vb)) (wj : fCQ Z h0 o1 (.int 0)) (wp : fEQ Z h0 o1 (.int 0)) (wo : eCQ Z h0 vb) (wm : Arv Z h0 vb kb .byte 8 [.int 0, .int 0, .int 0, .int 0, .int 0, .int 0, .int 0, .int 0] (.int 0)) (wK : n0 ≤ o1) (ww : n0 ≤ vb) (wx : o1 ≠ vb) (wa : sHQ Z h0 (.int cs)) (hcs : ¬ cs = (0 : Int32)) (wl : Arv Z h0 a_D1 k_a_D1 .byte 100 own_ones (.int 0)) (wf : sJQ Z h0 (.ref a_D1)) (wn : Arv Z h0 a_D2 k_a_D2 .byte 100 own_tens (.int 0)) (wg : sKQ Z h0 (.ref a_D2)) (wD : o0 ≠ o1) (wq : o0 ≠ vb) (kz : a_D1 ≠ vb) (ky : a_D2 ≠ vb) (h0q : ¬ q2 < (0 : Int64)) (hpl : pl ≠ 0) (g1 : ((((q2 % pl) * (7919 : Int64)) % pl)).toInt < 100000) (g2 : 10000 ≤ ((((q2 % pl) * (7919 : Int64)) % pl)).toInt) :
  MF l mN8 prog_8_method_5_code 6 none ws (rmm 5 2 9 80) #[.ref o0, .ref o1, .long q2] Z h0 (Qap5 Z o0 o1 q2 pl vb kb cs a_D1 k_a_D1 a_D2 k_a_D2 h0 n0) := by
 refine MF.of (plainFor_of_name pn_9) ?_
 intro p e s m below meth c s₁ QQ hy hml hown hZ X0 e0 hrt hlk hnm hQQ
 have N0 := Fr.nil n0
 refine Ends.i #[rv o0, rv o1, jv q2, ss, uu, uu] (oE X0 hy d8_0 1 rfl (oJ X0 hy d8_1 2 0 rfl (oY X0 hy d8_2 3 ?_)))
 have hc3 : ¬ (q2 < (0 : Int64)) := h0q
 refine oxk X0 hy d8_3 16 (XT.ll_ge_t hc3) (oE X0 hy d8_16 17 rfl (oA X0 hy d8_17 18 rfl (gF X0 hy hown hZ hw e0 wu d8_18 21 21 rfl fun T665 X665 e665 => lremO X665 hy d8_21 22 hpl (oJ2 X665 hy hown hZ hw d8_22 25 7919 54 rfl (oU X665 hy d8_25 26 (oA X665 hy d8_26 27 rfl (gF X665 hy hown hZ hw e665 wu d8_27 30 21 rfl fun T666 X666 e666 => lremO X666 hy d8_30 31 hpl ?_)))))))
 refine cS X666 hy hml hown hZ hw d8_31 34 0 55 56 57 58 rfl rfl rfl rfl (rmts5 l Z a0 hw [] (((q2 % pl) * (7919 : Int64)) % pl) cs a_D1 k_a_D1 a_D2 k_a_D2 h0 n0 Z0 wa hcs wl wf wn wg g1 g2) e666 pd_25 rfl rfl fun _ T667 Lc667 X667 hQ667 => ?_
 obtain ⟨sx_667, sa_667, sk_667, rfl, Nq667, Kq667, fq667_0, fq667_1, g_sx_667, g_sa_667, kE, vI, vJ, jH, jx, zE⟩ := hQ667
 have N667 := Fr.app N0 Nq667
 have kh : o1 ≠ sx_667 := Nat.ne_of_lt (Nat.lt_of_lt_of_le wt.lt fq667_0)
 have kf : vb ≠ sx_667 := Nat.ne_of_lt (Nat.lt_of_lt_of_le wo.lt fq667_0)
 have jJ : o1 ≠ sa_667 := Nat.ne_of_lt (Nat.lt_of_lt_of_le wt.lt fq667_1)
 have jI : vb ≠ sa_667 := Nat.ne_of_lt (Nat.lt_of_lt_of_le wo.lt fq667_1)
 have wa := own_sta_keep wa Kq667 all0
 have wt := wt.keep Kq667
 have wk := wk.keep Kq667 nin0
 have wj := wj.keep Kq667 nin0
 have wp := wp.keep Kq667 nin0
 have wo := wo.keep Kq667
 have wm := wm.keep Kq667 nin0
 have K667 := (Keep.refl h0 [o1, vb]).trans Kq667 all0
 refine Ends.v (oxs X667 hy d8_34 36 #[rv o0, rv o1, jv q2, ss, rv sx_667, uu] rfl (oA X667 hy d8_36 37 rfl (oH X667 hy d8_37 39 112 rfl ?_)))
 refine cV X667 hy hml hown hZ hw d8_39 42 0 81 82 84 83 85 32 rfl rfl rfl rfl rfl rfl (rmsba0_112 l Z a0 hw [] o1 vb kb cs T667.heap n0 (Nat.le_trans Z0 K667.1) wt wk wj wp wo wm wK ww wx wa hcs) rfl pd_26 wt rfl rfl fun _ T668 Lc668 X668 hQ668 => ?_
 obtain ⟨rfl, Nq668, Kq668, fq668_0, wk, wj, wp, wm⟩ := hQ668
 have N668 := Fr.app N667 Nq668
 have wa := own_sta_keep wa Kq668 (allS wt.cell (allS wo.cell all0))
 have wo := wo.keep Kq668
 have kE := kE.keep Kq668
 have vI := vI.keep Kq668 (ninS (Ne.symm kh) (ninS (Ne.symm kf) nin0))
 have vJ := vJ.keep Kq668 (ninS (Ne.symm kh) (ninS (Ne.symm kf) nin0))
 have jH := jH.keep Kq668
 have jx := jx.keep Kq668 (ninS (Ne.symm jJ) (ninS (Ne.symm jI) nin0))
 have wt := fq668_0
 have K668 := K667.trans Kq668 (allS (Or.inl mm0) (allS (Or.inl mm1) all0))
 refine Ends.v (oxe X668 hy d8_42 43 rfl (oB X668 hy d8_43 45 rfl ?_))
 refine cV X668 hy hml hown hZ hw d8_45 48 0 107 108 110 109 111 44 rfl rfl rfl rfl rfl rfl (rmlen l Z a0 hw [] sx_667 sa_667 sk_667 (5 : Int32) [(.int (own_dg (((((q2 % pl) * (7919 : Int64)) % pl)).toInt / 100 / 100))), (.int (own_dg (((((q2 % pl) * (7919 : Int64)) % pl)).toInt / 100 / 10))), (.int (own_dg (((((q2 % pl) * (7919 : Int64)) % pl)).toInt / 100))), (.int (own_dg (((((q2 % pl) * (7919 : Int64)) % pl)).toInt / 10))), (.int (own_dg (((((q2 % pl) * (7919 : Int64)) % pl)).toInt)))] cs T668.heap n0 (Nat.le_trans Z0 K668.1) kE vI jx wa hcs vJ) rfl pd_10 kE rfl rfl fun _ T669 Lc669 X669 hQ669 => ?_
 obtain ⟨rfl, Nq669, hh669⟩ := hQ669
 have N669 := Fr.app N668 Nq669
 refine Ends.v (oxo X669 hy d8_48 50 #[rv o0, rv o1, jv q2, ss, rv sx_667, iv 5] rfl (oD X669 hy d8_50 52 rfl (oH X669 hy d8_52 54 7 rfl (oxi X669 hy d8_54 57 (XT.ii_ge_f (by decide)) (oA X669 hy d8_57 58 rfl (oH X669 hy d8_58 60 48 rfl ?_))))))
 refine cV X669 hy hml hown hZ hw d8_60 63 0 81 82 84 83 85 32 rfl rfl rfl rfl rfl rfl (rmsba1_48 l Z a0 hw [] o1 vb kb cs T668.heap n0 (Nat.le_trans Z0 K668.1) wt wk wj wp wo wm wK ww wx wa hcs) hh669 pd_26 wt rfl rfl fun _ T670 Lc670 X670 hQ670 => ?_
 obtain ⟨rfl, Nq670, Kq670, fq670_0, wk, wj, wp, wm⟩ := hQ670
 have N670 := Fr.app N669 Nq670
 have wa := own_sta_keep wa Kq670 (allS wt.cell (allS wo.cell all0))
 have wo := wo.keep Kq670
 have kE := kE.keep Kq670
 have vI := vI.keep Kq670 (ninS (Ne.symm kh) (ninS (Ne.symm kf) nin0))
 have vJ := vJ.keep Kq670 (ninS (Ne.symm kh) (ninS (Ne.symm kf) nin0))
 have jH := jH.keep Kq670
 have jx := jx.keep Kq670 (ninS (Ne.symm jJ) (ninS (Ne.symm jI) nin0))
 have wt := fq670_0
 have K670 := K668.trans Kq670 (allS (Or.inl mm0) (allS (Or.inl mm1) all0))
 refine Ends.v (oxe X670 hy d8_63 64 rfl (oxz X670 hy d8_64 67 #[rv o0, rv o1, jv q2, ss, rv sx_667, iv 6] 1 rfl rfl rfl (oxm X670 hy d8_67 50 (oD X670 hy d8_50 52 rfl (oH X670 hy d8_52 54 7 rfl (oxi X670 hy d8_54 57 (XT.ii_ge_f (by decide)) (oA X670 hy d8_57 58 rfl (oH X670 hy d8_58 60 48 rfl ?_))))))))
 refine cV X670 hy hml hown hZ hw d8_60 63 0 81 82 84 83 85 32 rfl rfl rfl rfl rfl rfl (rmsba2_48 l Z a0 hw [] o1 vb kb cs T670.heap n0 (Nat.le_trans Z0 K670.1) wt wk wj wp wo wm wK ww wx wa hcs) rfl pd_26 wt rfl rfl fun _ T671 Lc671 X671 hQ671 => ?_
 obtain ⟨rfl, Nq671, Kq671, fq671_0, wk, wj, wp, wm⟩ := hQ671
 have N671 := Fr.app N670 Nq671
 have wa := own_sta_keep wa Kq671 (allS wt.cell (allS wo.cell all0))
 have wo := wo.keep Kq671
 have kE := kE.keep Kq671
 have vI := vI.keep Kq671 (ninS (Ne.symm kh) (ninS (Ne.symm kf) nin0))
 have vJ := vJ.keep Kq671 (ninS (Ne.symm kh) (ninS (Ne.symm kf) nin0))
 have jH := jH.keep Kq671
 have jx := jx.keep Kq671 (ninS (Ne.symm jJ) (ninS (Ne.symm jI) nin0))
 have wt := fq671_0
 have K671 := K670.trans Kq671 (allS (Or.inl mm0) (allS (Or.inl mm1) all0))
 refine Ends.v (oxe X671 hy d8_63 64 rfl (oxz X671 hy d8_64 67 #[rv o0, rv o1, jv q2, ss, rv sx_667, iv 7] 1 rfl rfl rfl (oxm X671 hy d8_67 50 (oD X671 hy d8_50 52 rfl (oH X671 hy d8_52 54 7 rfl (oxl X671 hy d8_54 70 (XT.ii_ge_t (by decide)) (oA X671 hy d8_70 71 rfl (oB X671 hy d8_71 73 rfl ?_))))))))
 refine cV X671 hy hml hown hZ hw d8_73 76 0 118 119 121 120 122 32 rfl rfl rfl rfl rfl rfl (rmsps5 l Z a0 hw [] o1 sx_667 vb kb sa_667 sk_667 cs (own_dg (((((q2 % pl) * (7919 : Int64)) % pl)).toInt / 100 / 100)) (own_dg (((((q2 % pl) * (7919 : Int64)) % pl)).toInt / 100 / 10)) (own_dg (((((q2 % pl) * (7919 : Int64)) % pl)).toInt / 100)) (own_dg (((((q2 % pl) * (7919 : Int64)) % pl)).toInt / 10)) (own_dg (((((q2 % pl) * (7919 : Int64)) % pl)).toInt)) T671.heap n0 (Nat.le_trans Z0 K671.1) wt wk wj wp wo wm wK ww wx kE vI vJ jH jx zE jI jJ kh kf wa hcs) rfl pd_27 wt rfl rfl fun _ T672 Lc672 X672 hQ672 => ?_
 obtain ⟨rfl, Nq672, Kq672, wt, wk, wj, wp, wm, wo⟩ := hQ672
 have N672 := Fr.app N671 Nq672
 have K672 := K671.trans Kq672 (allS (Or.inl mm0) (allS (Or.inl mm1) all0))
 refine Ends.v (oxe X672 hy d8_76 77 rfl ?_)
 exact fV X672 hy hrt hlk hQQ d8_77 rfl (by decide) ⟨rfl, N672, K672, wt, wk, wj, wp, wo, wm⟩
def Qpl5 (Z : State) (o0 : Addr) (q1 pl : Int64) (cs : Int32) (a_D1 : Addr) (k_a_D1 : ClassId) (a_D2 : Addr) (k_a_D2 : ClassId) (h0 : Heap) (n0 : Nat) : QT := fun v h L => ∃ (sx : Addr), ∃ (sa : Addr), ∃ (sk : ClassId), (v = some (.ref sx)) ∧ (Fr n0 L) ∧ (Keep h0 h []) ∧ (h0.size ≤ sx) ∧ (h0.size ≤ sa) ∧ (n0 ≤ sx) ∧ (n0 ≤ sa) ∧ (eAQ Z h sx) ∧ (fBQ Z h sx (.ref sa)) ∧ (fAQ Z h sx (.int 0)) ∧ (eCQ Z h sa) ∧ (Arv Z h sa sk .byte 8 [.int 112, .int 48, .int 48, (.int (own_dg (((((q1 % pl) * (7919 : Int64)) % pl)).toInt / 100 / 100))), (.int (own_dg (((((q1 % pl) * (7919 : Int64)) % pl)).toInt / 100 / 10))), (.int (own_dg (((((q1 % pl) * (7919 : Int64)) % pl)).toInt / 100))), (.int (own_dg (((((q1 % pl) * (7919 : Int64)) % pl)).toInt / 10))), (.int (own_dg (((((q1 % pl) * (7919 : Int64)) % pl)).toInt)))] (.int 0)) ∧ (sx ≠ sa)
theorem rmpl5 (l : Launch) (Z : State) (a0 : Array Value) (hw : TW a0 Z) (ws : List Jvm.Cond) (o0 : Addr) (q1 pl : Int64) (cs : Int32) (a_D1 : Addr) (k_a_D1 : ClassId) (a_D2 : Addr) (k_a_D2 : ClassId) (h0 : Heap) (n0 : Nat) (Z0 : n0 ≤ h0.size) (wh : eDQ Z h0 o0) (wu : fFQ Z h0 o0 (.long pl)) (wa : sHQ Z h0 (.int cs)) (hcs : ¬ cs = (0 : Int32)) (wl : Arv Z h0 a_D1 k_a_D1 .byte 100 own_ones (.int 0)) (wf : sJQ Z h0 (.ref a_D1)) (wn : Arv Z h0 a_D2 k_a_D2 .byte 100 own_tens (.int 0)) (wg : sKQ Z h0 (.ref a_D2)) (h0q : ¬ q1 < (0 : Int64)) (hpl : pl ≠ 0) (g1 : ((((q1 % pl) * (7919 : Int64)) % pl)).toInt < 100000) (g2 : 10000 ≤ ((((q1 % pl) * (7919 : Int64)) % pl)).toInt) :
  MF l mN9 prog_8_method_2_code 4 (some (.object "java/lang/String")) ws (rmm 6 6 33 97) #[.ref o0, .long q1] Z h0 (Qpl5 Z o0 q1 pl cs a_D1 k_a_D1 a_D2 k_a_D2 h0 n0) := by
 refine MF.of (plainFor_of_name pn_9) ?_
 intro p e s m below meth c s₁ QQ hy hml hown hZ X0 e0 hrt hlk hnm hQQ
 have hx := hy.1
 have hby := hy.2
 have N0 := Fr.nil n0
 refine Ends.i #[rv o0, jv q1, ss, uu] ?_
 obtain ⟨T673, h673, X673, e673, E673, A673, D673, U673, st673⟩ := newO X0 hx hZ hown (tb hw 30 rfl) (tb hw 31 rfl) (tb hw 32 rfl) e0 (g := (mkF m 0 #[rv o0, jv q1, ss, uu] [])) rfl (hb hby d5_0) (by decide) (by decide)
 obtain ⟨b673, g673⟩ : ∃ z, z = h0.size := ⟨_, rfl⟩
 rw [← g673] at A673 D673 U673 st673
 have zX : o0 ≠ b673 := Nat.ne_of_lt (Nat.lt_of_lt_of_le wh.lt (Nat.le_of_eq g673.symm))
 have Ke : a_D1 ≠ b673 := Nat.ne_of_lt (Nat.lt_of_lt_of_le wl.lt (Nat.le_of_eq g673.symm))
 have VL : a_D2 ≠ b673 := Nat.ne_of_lt (Nat.lt_of_lt_of_le wn.lt (Nat.le_of_eq g673.symm))
 have Ua : n0 ≤ b673 := Nat.le_trans Z0 (Nat.le_trans (Keep.refl h0 []).1 (Nat.le_of_eq g673.symm))
 have KY : h0.size ≤ b673 := Nat.le_trans (Keep.refl h0 []).1 (Nat.le_of_eq g673.symm)
 have wh := wh.ext E673
 have wu := wu.ext E673
 have wa := wa.ext E673
 have wl := wl.ext E673
 have wf := wf.ext E673
 have wn := wn.ext E673
 have wg := wg.ext E673
 have K673 := (Keep.refl h0 []).ext E673
 have jr := A673
 have kS : fDQ Z h673 b673 .null := D673 (Or.inl (tb hw 47 rfl)) (ty := (.array .byte)) (by decide)
 have jk : fCQ Z h673 b673 (.int 0) := D673 (Or.inl (tb hw 49 rfl)) (ty := .byte) (by decide)
 have jb : fEQ Z h673 b673 (.int 0) := D673 (Or.inl (tb hw 92 rfl)) (ty := .int) (by decide)
 refine Ends.j 3 [.ref b673] st673 ?_
 refine oxd X673 hy d5_3 4 rfl (oH X673 hy d5_4 6 8 rfl ?_)
 refine cI X673 hy hml hown hZ hw d5_6 9 1 33 34 35 32 rfl rfl rfl rfl rfl (rmsb l Z a0 hw [] b673 (.null : Value) (0 : Int32) cs h673 n0 (Nat.le_trans Z0 K673.1) jr kS jk jb Ua wa hcs) e673 pd_5 rfl rfl fun _ T674 Lc674 X674 hQ674 => ?_
 obtain ⟨vb_674, kb_674, rfl, Nq674, Kq674, fq674_0, Yt, fq674_2, kS, jk, jb, zd, zO⟩ := hQ674
 have N674 := Fr.app N0 Nq674
 have VB : o0 ≠ vb_674 := Nat.ne_of_lt (Nat.lt_of_lt_of_le wh.lt fq674_0)
 have WG : a_D1 ≠ vb_674 := Nat.ne_of_lt (Nat.lt_of_lt_of_le wl.lt fq674_0)
 have Wx : a_D2 ≠ vb_674 := Nat.ne_of_lt (Nat.lt_of_lt_of_le wn.lt fq674_0)
 have uU : b673 ≠ vb_674 := Nat.ne_of_lt (Nat.lt_of_lt_of_le jr.lt fq674_0)
 have JR := Nat.le_trans K673.1 fq674_0
 have wa := own_sta_keep wa Kq674 (allS jr.cell all0)
 have wf := own_sta_keep wf Kq674 (allS jr.cell all0)
 have wg := own_sta_keep wg Kq674 (allS jr.cell all0)
 have wh := wh.keep Kq674
 have wu := wu.keep Kq674 (ninS zX nin0)
 have wl := wl.keep Kq674 (ninS Ke nin0)
 have wn := wn.keep Kq674 (ninS VL nin0)
 have jr := fq674_2
 have K674 := K673.trans Kq674 (allS (Or.inr KY) all0)
 refine Ends.u (oxt X674 hy d5_9 10 #[rv o0, jv q1, ss, rv b673] rfl (oA X674 hy d5_10 11 rfl (oA X674 hy d5_11 12 rfl (oE X674 hy d5_12 13 rfl ?_))))
 refine cP X674 hy hml hown hZ hw d5_13 16 0 50 51 28 52 53 8 rfl rfl rfl rfl rfl rfl rfl (rmap5 l Z a0 hw [] o0 b673 q1 pl vb_674 kb_674 cs a_D1 k_a_D1 a_D2 k_a_D2 T674.heap n0 (Nat.le_trans Z0 K674.1) wh wu jr kS jk jb zd zO Ua Yt uU wa hcs wl wf wn wg zX VB WG Wx h0q hpl g1 g2) rfl pd_28 wh rfl rfl fun _ T675 Lc675 X675 hQ675 => ?_
 obtain ⟨rfl, Nq675, Kq675, fq675_0, kS, jk, jb, fq675_4, zO⟩ := hQ675
 have N675 := Fr.app N674 Nq675
 have wa := own_sta_keep wa Kq675 (allS jr.cell (allS zd.cell all0))
 have jr := fq675_0
 have zd := fq675_4
 have K675 := K674.trans Kq675 (allS (Or.inr KY) (allS (Or.inr JR) all0))
 refine Ends.u (oA X675 hy d5_16 17 rfl ?_)
 refine cV X675 hy hml hown hZ hw d5_17 20 0 148 149 151 150 152 32 rfl rfl rfl rfl rfl rfl (rmtos8 l Z a0 hw [] b673 vb_674 kb_674 cs (112 : Int32) (48 : Int32) (48 : Int32) (own_dg (((((q1 % pl) * (7919 : Int64)) % pl)).toInt / 100 / 100)) (own_dg (((((q1 % pl) * (7919 : Int64)) % pl)).toInt / 100 / 10)) (own_dg (((((q1 % pl) * (7919 : Int64)) % pl)).toInt / 100)) (own_dg (((((q1 % pl) * (7919 : Int64)) % pl)).toInt / 10)) (own_dg (((((q1 % pl) * (7919 : Int64)) % pl)).toInt)) T675.heap n0 (Nat.le_trans Z0 K675.1) jr kS jk jb zd zO uU wa hcs) rfl pd_29 jr rfl rfl fun _ T676 Lc676 X676 hQ676 => ?_
 obtain ⟨x_676, b_676, k2_676, rfl, Nq676, Kq676, fq676_0, fq676_1, YG, YS, xq, Vg, Vq, xE, Gc, Wl⟩ := hQ676
 have N676 := Fr.app N675 Nq676
 have UJ := Nat.le_trans K675.1 fq676_0
 have UV := Nat.le_trans K675.1 fq676_1
 have K676 := K675.trans Kq676 all0
 refine Ends.v ?_
 exact fA X676 hy hrt hlk hQQ d5_20 rfl rfl rfl (by decide) ⟨x_676, b_676, k2_676, rfl, N676, K676, UJ, UV, YG, YS, xq, Vg, Vq, xE, Gc, Wl⟩
def Qap6 (Z : State) (o0 o1 : Addr) (q2 pl : Int64) (vb : Addr) (kb : ClassId) (cs : Int32) (a_D1 : Addr) (k_a_D1 : ClassId) (a_D2 : Addr) (k_a_D2 : ClassId) (h0 : Heap) (n0 : Nat) : QT := fun v h L => (v = none) ∧ (Fr n0 L) ∧ (Keep h0 h [o1, vb]) ∧ (eBQ Z h o1) ∧ (fDQ Z h o1 (.ref vb)) ∧ (fCQ Z h o1 (.int 0)) ∧ (fEQ Z h o1 (.int 8)) ∧ (eCQ Z h vb) ∧ (Arv Z h vb kb .byte 8 [.int 112, .int 48, (.int (own_dg (((((q2 % pl) * (7919 : Int64)) % pl)).toInt / 100 / 100 / 10))), (.int (own_dg (((((q2 % pl) * (7919 : Int64)) % pl)).toInt / 100 / 100))), (.int (own_dg (((((q2 % pl) * (7919 : Int64)) % pl)).toInt / 100 / 10))), (.int (own_dg (((((q2 % pl) * (7919 : Int64)) % pl)).toInt / 100))), (.int (own_dg (((((q2 % pl) * (7919 : Int64)) % pl)).toInt / 10))), (.int (own_dg (((((q2 % pl) * (7919 : Int64)) % pl)).toInt)))] (.int 0))
theorem rmap6 (l : Launch) (Z : State) (a0 : Array Value) (hw : TW a0 Z) (ws : List Jvm.Cond) (o0 o1 : Addr) (q2 pl : Int64) (vb : Addr) (kb : ClassId) (cs : Int32) (a_D1 : Addr) (k_a_D1 : ClassId) (a_D2 : Addr) (k_a_D2 : ClassId) (h0 : Heap) (n0 : Nat) (Z0 : n0 ≤ h0.size) (wh : eDQ Z h0 o0) (wu : fFQ Z h0 o0 (.long pl)) (wt : eBQ Z h0 o1) (wk : fDQ Z h0 o1 (.ref vb)) (wj : fCQ Z h0 o1 (.int 0)) (wp : fEQ Z h0 o1 (.int 0)) (wo : eCQ Z h0 vb) (wm : Arv Z h0 vb kb .byte 8 [.int 0, .int 0, .int 0, .int 0, .int 0, .int 0, .int 0, .int 0] (.int 0)) (wK : n0 ≤ o1) (ww : n0 ≤ vb) (wx : o1 ≠ vb) (wa : sHQ Z h0 (.int cs)) (hcs : ¬ cs = (0 : Int32)) (wl : Arv Z h0 a_D1 k_a_D1 .byte 100 own_ones (.int 0)) (wf : sJQ Z h0 (.ref a_D1)) (wn : Arv Z h0 a_D2 k_a_D2 .byte 100 own_tens (.int 0)) (wg : sKQ Z h0 (.ref a_D2)) (wD : o0 ≠ o1) (wq : o0 ≠ vb) (kz : a_D1 ≠ vb) (ky : a_D2 ≠ vb) (h0q : ¬ q2 < (0 : Int64)) (hpl : pl ≠ 0) (g1 : ((((q2 % pl) * (7919 : Int64)) % pl)).toInt < 1000000) (g2 : 100000 ≤ ((((q2 % pl) * (7919 : Int64)) % pl)).toInt) :
  MF l mN8 prog_8_method_5_code 6 none ws (rmm 5 2 10 80) #[.ref o0, .ref o1, .long q2] Z h0 (Qap6 Z o0 o1 q2 pl vb kb cs a_D1 k_a_D1 a_D2 k_a_D2 h0 n0) := by
 refine MF.of (plainFor_of_name pn_9) ?_
 intro p e s m below meth c s₁ QQ hy hml hown hZ X0 e0 hrt hlk hnm hQQ
 have N0 := Fr.nil n0
 refine Ends.i #[rv o0, rv o1, jv q2, ss, uu, uu] (oE X0 hy d8_0 1 rfl (oJ X0 hy d8_1 2 0 rfl (oY X0 hy d8_2 3 ?_)))
 have hc3 : ¬ (q2 < (0 : Int64)) := h0q
 refine oxk X0 hy d8_3 16 (XT.ll_ge_t hc3) (oE X0 hy d8_16 17 rfl (oA X0 hy d8_17 18 rfl (gF X0 hy hown hZ hw e0 wu d8_18 21 21 rfl fun T677 X677 e677 => lremO X677 hy d8_21 22 hpl (oJ2 X677 hy hown hZ hw d8_22 25 7919 54 rfl (oU X677 hy d8_25 26 (oA X677 hy d8_26 27 rfl (gF X677 hy hown hZ hw e677 wu d8_27 30 21 rfl fun T678 X678 e678 => lremO X678 hy d8_30 31 hpl ?_)))))))
 refine cS X678 hy hml hown hZ hw d8_31 34 0 55 56 57 58 rfl rfl rfl rfl (rmts6 l Z a0 hw [] (((q2 % pl) * (7919 : Int64)) % pl) cs a_D1 k_a_D1 a_D2 k_a_D2 h0 n0 Z0 wa hcs wl wf wn wg g1 g2) e678 pd_25 rfl rfl fun _ T679 Lc679 X679 hQ679 => ?_
 obtain ⟨sx_679, sa_679, sk_679, rfl, Nq679, Kq679, fq679_0, fq679_1, g_sx_679, g_sa_679, jG, kc, ke, uI, jK, zD⟩ := hQ679
 have N679 := Fr.app N0 Nq679
 have kK : o1 ≠ sx_679 := Nat.ne_of_lt (Nat.lt_of_lt_of_le wt.lt fq679_0)
 have kI : vb ≠ sx_679 := Nat.ne_of_lt (Nat.lt_of_lt_of_le wo.lt fq679_0)
 have ud : o1 ≠ sa_679 := Nat.ne_of_lt (Nat.lt_of_lt_of_le wt.lt fq679_1)
 have jZ : vb ≠ sa_679 := Nat.ne_of_lt (Nat.lt_of_lt_of_le wo.lt fq679_1)
 have wa := own_sta_keep wa Kq679 all0
 have wt := wt.keep Kq679
 have wk := wk.keep Kq679 nin0
 have wj := wj.keep Kq679 nin0
 have wp := wp.keep Kq679 nin0
 have wo := wo.keep Kq679
 have wm := wm.keep Kq679 nin0
 have K679 := (Keep.refl h0 [o1, vb]).trans Kq679 all0
 refine Ends.v (oxs X679 hy d8_34 36 #[rv o0, rv o1, jv q2, ss, rv sx_679, uu] rfl (oA X679 hy d8_36 37 rfl (oH X679 hy d8_37 39 112 rfl ?_)))
 refine cV X679 hy hml hown hZ hw d8_39 42 0 81 82 84 83 85 32 rfl rfl rfl rfl rfl rfl (rmsba0_112 l Z a0 hw [] o1 vb kb cs T679.heap n0 (Nat.le_trans Z0 K679.1) wt wk wj wp wo wm wK ww wx wa hcs) rfl pd_26 wt rfl rfl fun _ T680 Lc680 X680 hQ680 => ?_
 obtain ⟨rfl, Nq680, Kq680, fq680_0, wk, wj, wp, wm⟩ := hQ680
 have N680 := Fr.app N679 Nq680
 have wa := own_sta_keep wa Kq680 (allS wt.cell (allS wo.cell all0))
 have wo := wo.keep Kq680
 have jG := jG.keep Kq680
 have kc := kc.keep Kq680 (ninS (Ne.symm kK) (ninS (Ne.symm kI) nin0))
 have ke := ke.keep Kq680 (ninS (Ne.symm kK) (ninS (Ne.symm kI) nin0))
 have uI := uI.keep Kq680
 have jK := jK.keep Kq680 (ninS (Ne.symm ud) (ninS (Ne.symm jZ) nin0))
 have wt := fq680_0
 have K680 := K679.trans Kq680 (allS (Or.inl mm0) (allS (Or.inl mm1) all0))
 refine Ends.v (oxe X680 hy d8_42 43 rfl (oB X680 hy d8_43 45 rfl ?_))
 refine cV X680 hy hml hown hZ hw d8_45 48 0 107 108 110 109 111 44 rfl rfl rfl rfl rfl rfl (rmlen l Z a0 hw [] sx_679 sa_679 sk_679 (6 : Int32) [(.int (own_dg (((((q2 % pl) * (7919 : Int64)) % pl)).toInt / 100 / 100 / 10))), (.int (own_dg (((((q2 % pl) * (7919 : Int64)) % pl)).toInt / 100 / 100))), (.int (own_dg (((((q2 % pl) * (7919 : Int64)) % pl)).toInt / 100 / 10))), (.int (own_dg (((((q2 % pl) * (7919 : Int64)) % pl)).toInt / 100))), (.int (own_dg (((((q2 % pl) * (7919 : Int64)) % pl)).toInt / 10))), (.int (own_dg (((((q2 % pl) * (7919 : Int64)) % pl)).toInt)))] cs T680.heap n0 (Nat.le_trans Z0 K680.1) jG kc jK wa hcs ke) rfl pd_10 jG rfl rfl fun _ T681 Lc681 X681 hQ681 => ?_
 obtain ⟨rfl, Nq681, hh681⟩ := hQ681
 have N681 := Fr.app N680 Nq681
 refine Ends.v (oxo X681 hy d8_48 50 #[rv o0, rv o1, jv q2, ss, rv sx_679, iv 6] rfl (oD X681 hy d8_50 52 rfl (oH X681 hy d8_52 54 7 rfl (oxi X681 hy d8_54 57 (XT.ii_ge_f (by decide)) (oA X681 hy d8_57 58 rfl (oH X681 hy d8_58 60 48 rfl ?_))))))
 refine cV X681 hy hml hown hZ hw d8_60 63 0 81 82 84 83 85 32 rfl rfl rfl rfl rfl rfl (rmsba1_48 l Z a0 hw [] o1 vb kb cs T680.heap n0 (Nat.le_trans Z0 K680.1) wt wk wj wp wo wm wK ww wx wa hcs) hh681 pd_26 wt rfl rfl fun _ T682 Lc682 X682 hQ682 => ?_
 obtain ⟨rfl, Nq682, Kq682, fq682_0, wk, wj, wp, wm⟩ := hQ682
 have N682 := Fr.app N681 Nq682
 have wa := own_sta_keep wa Kq682 (allS wt.cell (allS wo.cell all0))
 have wo := wo.keep Kq682
 have jG := jG.keep Kq682
 have kc := kc.keep Kq682 (ninS (Ne.symm kK) (ninS (Ne.symm kI) nin0))
 have ke := ke.keep Kq682 (ninS (Ne.symm kK) (ninS (Ne.symm kI) nin0))
 have uI := uI.keep Kq682
 have jK := jK.keep Kq682 (ninS (Ne.symm ud) (ninS (Ne.symm jZ) nin0))
 have wt := fq682_0
 have K682 := K680.trans Kq682 (allS (Or.inl mm0) (allS (Or.inl mm1) all0))
 refine Ends.v (oxe X682 hy d8_63 64 rfl (oxz X682 hy d8_64 67 #[rv o0, rv o1, jv q2, ss, rv sx_679, iv 7] 1 rfl rfl rfl (oxm X682 hy d8_67 50 (oD X682 hy d8_50 52 rfl (oH X682 hy d8_52 54 7 rfl (oxl X682 hy d8_54 70 (XT.ii_ge_t (by decide)) (oA X682 hy d8_70 71 rfl (oB X682 hy d8_71 73 rfl ?_))))))))
 refine cV X682 hy hml hown hZ hw d8_73 76 0 118 119 121 120 122 32 rfl rfl rfl rfl rfl rfl (rmsps6 l Z a0 hw [] o1 sx_679 vb kb sa_679 sk_679 cs (own_dg (((((q2 % pl) * (7919 : Int64)) % pl)).toInt / 100 / 100 / 10)) (own_dg (((((q2 % pl) * (7919 : Int64)) % pl)).toInt / 100 / 100)) (own_dg (((((q2 % pl) * (7919 : Int64)) % pl)).toInt / 100 / 10)) (own_dg (((((q2 % pl) * (7919 : Int64)) % pl)).toInt / 100)) (own_dg (((((q2 % pl) * (7919 : Int64)) % pl)).toInt / 10)) (own_dg (((((q2 % pl) * (7919 : Int64)) % pl)).toInt)) T682.heap n0 (Nat.le_trans Z0 K682.1) wt wk wj wp wo wm wK ww wx jG kc ke uI jK zD jZ ud kK kI wa hcs) rfl pd_27 wt rfl rfl fun _ T683 Lc683 X683 hQ683 => ?_
 obtain ⟨rfl, Nq683, Kq683, wt, wk, wj, wp, wm, wo⟩ := hQ683
 have N683 := Fr.app N682 Nq683
 have K683 := K682.trans Kq683 (allS (Or.inl mm0) (allS (Or.inl mm1) all0))
 refine Ends.v (oxe X683 hy d8_76 77 rfl ?_)
 exact fV X683 hy hrt hlk hQQ d8_77 rfl (by decide) ⟨rfl, N683, K683, wt, wk, wj, wp, wo, wm⟩
def Qpl6 (Z : State) (o0 : Addr) (q1 pl : Int64) (cs : Int32) (a_D1 : Addr) (k_a_D1 : ClassId) (a_D2 : Addr) (k_a_D2 : ClassId) (h0 : Heap) (n0 : Nat) : QT := fun v h L => ∃ (sx : Addr), ∃ (sa : Addr), ∃ (sk : ClassId), (v = some (.ref sx)) ∧ (Fr n0 L) ∧ (Keep h0 h []) ∧ (h0.size ≤ sx) ∧ (h0.size ≤ sa) ∧ (n0 ≤ sx) ∧ (n0 ≤ sa) ∧ (eAQ Z h sx) ∧ (fBQ Z h sx (.ref sa)) ∧ (fAQ Z h sx (.int 0)) ∧ (eCQ Z h sa) ∧ (Arv Z h sa sk .byte 8 [.int 112, .int 48, (.int (own_dg (((((q1 % pl) * (7919 : Int64)) % pl)).toInt / 100 / 100 / 10))), (.int (own_dg (((((q1 % pl) * (7919 : Int64)) % pl)).toInt / 100 / 100))), (.int (own_dg (((((q1 % pl) * (7919 : Int64)) % pl)).toInt / 100 / 10))), (.int (own_dg (((((q1 % pl) * (7919 : Int64)) % pl)).toInt / 100))), (.int (own_dg (((((q1 % pl) * (7919 : Int64)) % pl)).toInt / 10))), (.int (own_dg (((((q1 % pl) * (7919 : Int64)) % pl)).toInt)))] (.int 0)) ∧ (sx ≠ sa)
theorem rmpl6 (l : Launch) (Z : State) (a0 : Array Value) (hw : TW a0 Z) (ws : List Jvm.Cond) (o0 : Addr) (q1 pl : Int64) (cs : Int32) (a_D1 : Addr) (k_a_D1 : ClassId) (a_D2 : Addr) (k_a_D2 : ClassId) (h0 : Heap) (n0 : Nat) (Z0 : n0 ≤ h0.size) (wh : eDQ Z h0 o0) (wu : fFQ Z h0 o0 (.long pl)) (wa : sHQ Z h0 (.int cs)) (hcs : ¬ cs = (0 : Int32)) (wl : Arv Z h0 a_D1 k_a_D1 .byte 100 own_ones (.int 0)) (wf : sJQ Z h0 (.ref a_D1)) (wn : Arv Z h0 a_D2 k_a_D2 .byte 100 own_tens (.int 0)) (wg : sKQ Z h0 (.ref a_D2)) (h0q : ¬ q1 < (0 : Int64)) (hpl : pl ≠ 0) (g1 : ((((q1 % pl) * (7919 : Int64)) % pl)).toInt < 1000000) (g2 : 100000 ≤ ((((q1 % pl) * (7919 : Int64)) % pl)).toInt) :
  MF l mN9 prog_8_method_2_code 4 (some (.object "java/lang/String")) ws (rmm 6 6 34 97) #[.ref o0, .long q1] Z h0 (Qpl6 Z o0 q1 pl cs a_D1 k_a_D1 a_D2 k_a_D2 h0 n0) := by
 refine MF.of (plainFor_of_name pn_9) ?_
 intro p e s m below meth c s₁ QQ hy hml hown hZ X0 e0 hrt hlk hnm hQQ
 have hx := hy.1
 have hby := hy.2
 have N0 := Fr.nil n0
 refine Ends.i #[rv o0, jv q1, ss, uu] ?_
 obtain ⟨T684, h684, X684, e684, E684, A684, D684, U684, st684⟩ := newO X0 hx hZ hown (tb hw 30 rfl) (tb hw 31 rfl) (tb hw 32 rfl) e0 (g := (mkF m 0 #[rv o0, jv q1, ss, uu] [])) rfl (hb hby d5_0) (by decide) (by decide)
 obtain ⟨b684, g684⟩ : ∃ z, z = h0.size := ⟨_, rfl⟩
 rw [← g684] at A684 D684 U684 st684
 have zW : o0 ≠ b684 := Nat.ne_of_lt (Nat.lt_of_lt_of_le wh.lt (Nat.le_of_eq g684.symm))
 have Kd : a_D1 ≠ b684 := Nat.ne_of_lt (Nat.lt_of_lt_of_le wl.lt (Nat.le_of_eq g684.symm))
 have VK : a_D2 ≠ b684 := Nat.ne_of_lt (Nat.lt_of_lt_of_le wn.lt (Nat.le_of_eq g684.symm))
 have JZ : n0 ≤ b684 := Nat.le_trans Z0 (Nat.le_trans (Keep.refl h0 []).1 (Nat.le_of_eq g684.symm))
 have KX : h0.size ≤ b684 := Nat.le_trans (Keep.refl h0 []).1 (Nat.le_of_eq g684.symm)
 have wh := wh.ext E684
 have wu := wu.ext E684
 have wa := wa.ext E684
 have wl := wl.ext E684
 have wf := wf.ext E684
 have wn := wn.ext E684
 have wg := wg.ext E684
 have K684 := (Keep.refl h0 []).ext E684
 have jq := A684
 have kR : fDQ Z h684 b684 .null := D684 (Or.inl (tb hw 47 rfl)) (ty := (.array .byte)) (by decide)
 have jj : fCQ Z h684 b684 (.int 0) := D684 (Or.inl (tb hw 49 rfl)) (ty := .byte) (by decide)
 have ja : fEQ Z h684 b684 (.int 0) := D684 (Or.inl (tb hw 92 rfl)) (ty := .int) (by decide)
 refine Ends.j 3 [.ref b684] st684 ?_
 refine oxd X684 hy d5_3 4 rfl (oH X684 hy d5_4 6 8 rfl ?_)
 refine cI X684 hy hml hown hZ hw d5_6 9 1 33 34 35 32 rfl rfl rfl rfl rfl (rmsb l Z a0 hw [] b684 (.null : Value) (0 : Int32) cs h684 n0 (Nat.le_trans Z0 K684.1) jq kR jj ja JZ wa hcs) e684 pd_5 rfl rfl fun _ T685 Lc685 X685 hQ685 => ?_
 obtain ⟨vb_685, kb_685, rfl, Nq685, Kq685, fq685_0, Ys, fq685_2, kR, jj, ja, zc, zN⟩ := hQ685
 have N685 := Fr.app N0 Nq685
 have VA : o0 ≠ vb_685 := Nat.ne_of_lt (Nat.lt_of_lt_of_le wh.lt fq685_0)
 have WF : a_D1 ≠ vb_685 := Nat.ne_of_lt (Nat.lt_of_lt_of_le wl.lt fq685_0)
 have Ww : a_D2 ≠ vb_685 := Nat.ne_of_lt (Nat.lt_of_lt_of_le wn.lt fq685_0)
 have uT : b684 ≠ vb_685 := Nat.ne_of_lt (Nat.lt_of_lt_of_le jq.lt fq685_0)
 have JQ := Nat.le_trans K684.1 fq685_0
 have wa := own_sta_keep wa Kq685 (allS jq.cell all0)
 have wf := own_sta_keep wf Kq685 (allS jq.cell all0)
 have wg := own_sta_keep wg Kq685 (allS jq.cell all0)
 have wh := wh.keep Kq685
 have wu := wu.keep Kq685 (ninS zW nin0)
 have wl := wl.keep Kq685 (ninS Kd nin0)
 have wn := wn.keep Kq685 (ninS VK nin0)
 have jq := fq685_2
 have K685 := K684.trans Kq685 (allS (Or.inr KX) all0)
 refine Ends.u (oxt X685 hy d5_9 10 #[rv o0, jv q1, ss, rv b684] rfl (oA X685 hy d5_10 11 rfl (oA X685 hy d5_11 12 rfl (oE X685 hy d5_12 13 rfl ?_))))
 refine cP X685 hy hml hown hZ hw d5_13 16 0 50 51 28 52 53 8 rfl rfl rfl rfl rfl rfl rfl (rmap6 l Z a0 hw [] o0 b684 q1 pl vb_685 kb_685 cs a_D1 k_a_D1 a_D2 k_a_D2 T685.heap n0 (Nat.le_trans Z0 K685.1) wh wu jq kR jj ja zc zN JZ Ys uT wa hcs wl wf wn wg zW VA WF Ww h0q hpl g1 g2) rfl pd_28 wh rfl rfl fun _ T686 Lc686 X686 hQ686 => ?_
 obtain ⟨rfl, Nq686, Kq686, fq686_0, kR, jj, ja, fq686_4, zN⟩ := hQ686
 have N686 := Fr.app N685 Nq686
 have wa := own_sta_keep wa Kq686 (allS jq.cell (allS zc.cell all0))
 have jq := fq686_0
 have zc := fq686_4
 have K686 := K685.trans Kq686 (allS (Or.inr KX) (allS (Or.inr JQ) all0))
 refine Ends.u (oA X686 hy d5_16 17 rfl ?_)
 refine cV X686 hy hml hown hZ hw d5_17 20 0 148 149 151 150 152 32 rfl rfl rfl rfl rfl rfl (rmtos8 l Z a0 hw [] b684 vb_685 kb_685 cs (112 : Int32) (48 : Int32) (own_dg (((((q1 % pl) * (7919 : Int64)) % pl)).toInt / 100 / 100 / 10)) (own_dg (((((q1 % pl) * (7919 : Int64)) % pl)).toInt / 100 / 100)) (own_dg (((((q1 % pl) * (7919 : Int64)) % pl)).toInt / 100 / 10)) (own_dg (((((q1 % pl) * (7919 : Int64)) % pl)).toInt / 100)) (own_dg (((((q1 % pl) * (7919 : Int64)) % pl)).toInt / 10)) (own_dg (((((q1 % pl) * (7919 : Int64)) % pl)).toInt)) T686.heap n0 (Nat.le_trans Z0 K686.1) jq kR jj ja zc zN uT wa hcs) rfl pd_29 jq rfl rfl fun _ T687 Lc687 X687 hQ687 => ?_
 obtain ⟨x_687, b_687, k2_687, rfl, Nq687, Kq687, fq687_0, fq687_1, YF, YR, xp, Vf, Vp, xD, Gb, Wk⟩ := hQ687
 have N687 := Fr.app N686 Nq687
 have UI := Nat.le_trans K686.1 fq687_0
 have UU := Nat.le_trans K686.1 fq687_1
 have K687 := K686.trans Kq687 all0
 refine Ends.v ?_
 exact fA X687 hy hrt hlk hQQ d5_20 rfl rfl rfl (by decide) ⟨x_687, b_687, k2_687, rfl, N687, K687, UI, UU, YF, YR, xp, Vf, Vp, xD, Gb, Wk⟩
def Qap7 (Z : State) (o0 o1 : Addr) (q2 pl : Int64) (vb : Addr) (kb : ClassId) (cs : Int32) (a_D1 : Addr) (k_a_D1 : ClassId) (a_D2 : Addr) (k_a_D2 : ClassId) (h0 : Heap) (n0 : Nat) : QT := fun v h L => (v = none) ∧ (Fr n0 L) ∧ (Keep h0 h [o1, vb]) ∧ (eBQ Z h o1) ∧ (fDQ Z h o1 (.ref vb)) ∧ (fCQ Z h o1 (.int 0)) ∧ (fEQ Z h o1 (.int 8)) ∧ (eCQ Z h vb) ∧ (Arv Z h vb kb .byte 8 [.int 112, (.int (own_dg (((((q2 % pl) * (7919 : Int64)) % pl)).toInt / 100 / 100 / 100))), (.int (own_dg (((((q2 % pl) * (7919 : Int64)) % pl)).toInt / 100 / 100 / 10))), (.int (own_dg (((((q2 % pl) * (7919 : Int64)) % pl)).toInt / 100 / 100))), (.int (own_dg (((((q2 % pl) * (7919 : Int64)) % pl)).toInt / 100 / 10))), (.int (own_dg (((((q2 % pl) * (7919 : Int64)) % pl)).toInt / 100))), (.int (own_dg (((((q2 % pl) * (7919 : Int64)) % pl)).toInt / 10))), (.int (own_dg (((((q2 % pl) * (7919 : Int64)) % pl)).toInt)))] (.int 0))
theorem rmap7 (l : Launch) (Z : State) (a0 : Array Value) (hw : TW a0 Z) (ws : List Jvm.Cond) (o0 o1 : Addr) (q2 pl : Int64) (vb : Addr) (kb : ClassId) (cs : Int32) (a_D1 : Addr) (k_a_D1 : ClassId) (a_D2 : Addr) (k_a_D2 : ClassId) (h0 : Heap) (n0 : Nat) (Z0 : n0 ≤ h0.size) (wh : eDQ Z h0 o0) (wu : fFQ Z h0 o0 (.long pl)) (wt : eBQ Z h0 o1) (wk : fDQ Z h0 o1 (.ref vb)) (wj : fCQ Z h0 o1 (.int 0)) (wp : fEQ Z h0 o1 (.int 0)) (wo : eCQ Z h0 vb) (wm : Arv Z h0 vb kb .byte 8 [.int 0, .int 0, .int 0, .int 0, .int 0, .int 0, .int 0, .int 0] (.int 0)) (wK : n0 ≤ o1) (ww : n0 ≤ vb) (wx : o1 ≠ vb) (wa : sHQ Z h0 (.int cs)) (hcs : ¬ cs = (0 : Int32)) (wl : Arv Z h0 a_D1 k_a_D1 .byte 100 own_ones (.int 0)) (wf : sJQ Z h0 (.ref a_D1)) (wn : Arv Z h0 a_D2 k_a_D2 .byte 100 own_tens (.int 0)) (wg : sKQ Z h0 (.ref a_D2)) (wD : o0 ≠ o1) (wq : o0 ≠ vb) (kz : a_D1 ≠ vb) (ky : a_D2 ≠ vb) (h0q : ¬ q2 < (0 : Int64)) (hpl : pl ≠ 0) (g1 : ((((q2 % pl) * (7919 : Int64)) % pl)).toInt < 10000000) (g2 : 1000000 ≤ ((((q2 % pl) * (7919 : Int64)) % pl)).toInt) :
  MF l mN8 prog_8_method_5_code 6 none ws (rmm 5 2 11 80) #[.ref o0, .ref o1, .long q2] Z h0 (Qap7 Z o0 o1 q2 pl vb kb cs a_D1 k_a_D1 a_D2 k_a_D2 h0 n0) := by
 refine MF.of (plainFor_of_name pn_9) ?_
 intro p e s m below meth c s₁ QQ hy hml hown hZ X0 e0 hrt hlk hnm hQQ
 have N0 := Fr.nil n0
 refine Ends.i #[rv o0, rv o1, jv q2, ss, uu, uu] (oE X0 hy d8_0 1 rfl (oJ X0 hy d8_1 2 0 rfl (oY X0 hy d8_2 3 ?_)))
 have hc3 : ¬ (q2 < (0 : Int64)) := h0q
 refine oxk X0 hy d8_3 16 (XT.ll_ge_t hc3) (oE X0 hy d8_16 17 rfl (oA X0 hy d8_17 18 rfl (gF X0 hy hown hZ hw e0 wu d8_18 21 21 rfl fun T688 X688 e688 => lremO X688 hy d8_21 22 hpl (oJ2 X688 hy hown hZ hw d8_22 25 7919 54 rfl (oU X688 hy d8_25 26 (oA X688 hy d8_26 27 rfl (gF X688 hy hown hZ hw e688 wu d8_27 30 21 rfl fun T689 X689 e689 => lremO X689 hy d8_30 31 hpl ?_)))))))
 refine cS X689 hy hml hown hZ hw d8_31 34 0 55 56 57 58 rfl rfl rfl rfl (rmts7 l Z a0 hw [] (((q2 % pl) * (7919 : Int64)) % pl) cs a_D1 k_a_D1 a_D2 k_a_D2 h0 n0 Z0 wa hcs wl wf wn wg g1 g2) e689 pd_25 rfl rfl fun _ T690 Lc690 X690 hQ690 => ?_
 obtain ⟨sx_690, sa_690, sk_690, rfl, Nq690, Kq690, fq690_0, fq690_1, g_sx_690, g_sa_690, uH, jA, jD, zL, zk, zC⟩ := hQ690
 have N690 := Fr.app N0 Nq690
 have uc : o1 ≠ sx_690 := Nat.ne_of_lt (Nat.lt_of_lt_of_le wt.lt fq690_0)
 have jY : vb ≠ sx_690 := Nat.ne_of_lt (Nat.lt_of_lt_of_le wo.lt fq690_0)
 have zq : o1 ≠ sa_690 := Nat.ne_of_lt (Nat.lt_of_lt_of_le wt.lt fq690_1)
 have zn : vb ≠ sa_690 := Nat.ne_of_lt (Nat.lt_of_lt_of_le wo.lt fq690_1)
 have wa := own_sta_keep wa Kq690 all0
 have wt := wt.keep Kq690
 have wk := wk.keep Kq690 nin0
 have wj := wj.keep Kq690 nin0
 have wp := wp.keep Kq690 nin0
 have wo := wo.keep Kq690
 have wm := wm.keep Kq690 nin0
 have K690 := (Keep.refl h0 [o1, vb]).trans Kq690 all0
 refine Ends.v (oxs X690 hy d8_34 36 #[rv o0, rv o1, jv q2, ss, rv sx_690, uu] rfl (oA X690 hy d8_36 37 rfl (oH X690 hy d8_37 39 112 rfl ?_)))
 refine cV X690 hy hml hown hZ hw d8_39 42 0 81 82 84 83 85 32 rfl rfl rfl rfl rfl rfl (rmsba0_112 l Z a0 hw [] o1 vb kb cs T690.heap n0 (Nat.le_trans Z0 K690.1) wt wk wj wp wo wm wK ww wx wa hcs) rfl pd_26 wt rfl rfl fun _ T691 Lc691 X691 hQ691 => ?_
 obtain ⟨rfl, Nq691, Kq691, fq691_0, wk, wj, wp, wm⟩ := hQ691
 have N691 := Fr.app N690 Nq691
 have wa := own_sta_keep wa Kq691 (allS wt.cell (allS wo.cell all0))
 have wo := wo.keep Kq691
 have uH := uH.keep Kq691
 have jA := jA.keep Kq691 (ninS (Ne.symm uc) (ninS (Ne.symm jY) nin0))
 have jD := jD.keep Kq691 (ninS (Ne.symm uc) (ninS (Ne.symm jY) nin0))
 have zL := zL.keep Kq691
 have zk := zk.keep Kq691 (ninS (Ne.symm zq) (ninS (Ne.symm zn) nin0))
 have wt := fq691_0
 have K691 := K690.trans Kq691 (allS (Or.inl mm0) (allS (Or.inl mm1) all0))
 refine Ends.v (oxe X691 hy d8_42 43 rfl (oB X691 hy d8_43 45 rfl ?_))
 refine cV X691 hy hml hown hZ hw d8_45 48 0 107 108 110 109 111 44 rfl rfl rfl rfl rfl rfl (rmlen l Z a0 hw [] sx_690 sa_690 sk_690 (7 : Int32) [(.int (own_dg (((((q2 % pl) * (7919 : Int64)) % pl)).toInt / 100 / 100 / 100))), (.int (own_dg (((((q2 % pl) * (7919 : Int64)) % pl)).toInt / 100 / 100 / 10))), (.int (own_dg (((((q2 % pl) * (7919 : Int64)) % pl)).toInt / 100 / 100))), (.int (own_dg (((((q2 % pl) * (7919 : Int64)) % pl)).toInt / 100 / 10))), (.int (own_dg (((((q2 % pl) * (7919 : Int64)) % pl)).toInt / 100))), (.int (own_dg (((((q2 % pl) * (7919 : Int64)) % pl)).toInt / 10))), (.int (own_dg (((((q2 % pl) * (7919 : Int64)) % pl)).toInt)))] cs T691.heap n0 (Nat.le_trans Z0 K691.1) uH jA zk wa hcs jD) rfl pd_10 uH rfl rfl fun _ T692 Lc692 X692 hQ692 => ?_
 obtain ⟨rfl, Nq692, hh692⟩ := hQ692
 have N692 := Fr.app N691 Nq692
 refine Ends.v (oxo X692 hy d8_48 50 #[rv o0, rv o1, jv q2, ss, rv sx_690, iv 7] rfl (oD X692 hy d8_50 52 rfl (oH X692 hy d8_52 54 7 rfl (oxl X692 hy d8_54 70 (XT.ii_ge_t (by decide)) (oA X692 hy d8_70 71 rfl (oB X692 hy d8_71 73 rfl ?_))))))
 refine cV X692 hy hml hown hZ hw d8_73 76 0 118 119 121 120 122 32 rfl rfl rfl rfl rfl rfl (rmsps7 l Z a0 hw [] o1 sx_690 vb kb sa_690 sk_690 cs (own_dg (((((q2 % pl) * (7919 : Int64)) % pl)).toInt / 100 / 100 / 100)) (own_dg (((((q2 % pl) * (7919 : Int64)) % pl)).toInt / 100 / 100 / 10)) (own_dg (((((q2 % pl) * (7919 : Int64)) % pl)).toInt / 100 / 100)) (own_dg (((((q2 % pl) * (7919 : Int64)) % pl)).toInt / 100 / 10)) (own_dg (((((q2 % pl) * (7919 : Int64)) % pl)).toInt / 100)) (own_dg (((((q2 % pl) * (7919 : Int64)) % pl)).toInt / 10)) (own_dg (((((q2 % pl) * (7919 : Int64)) % pl)).toInt)) T691.heap n0 (Nat.le_trans Z0 K691.1) wt wk wj wp wo wm wK ww wx uH jA jD zL zk zC zn zq uc jY wa hcs) hh692 pd_27 wt rfl rfl fun _ T693 Lc693 X693 hQ693 => ?_
 obtain ⟨rfl, Nq693, Kq693, wt, wk, wj, wp, wm, wo⟩ := hQ693
 have N693 := Fr.app N692 Nq693
 have K693 := K691.trans Kq693 (allS (Or.inl mm0) (allS (Or.inl mm1) all0))
 refine Ends.v (oxe X693 hy d8_76 77 rfl ?_)
 exact fV X693 hy hrt hlk hQQ d8_77 rfl (by decide) ⟨rfl, N693, K693, wt, wk, wj, wp, wo, wm⟩
def Qpl7 (Z : State) (o0 : Addr) (q1 pl : Int64) (cs : Int32) (a_D1 : Addr) (k_a_D1 : ClassId) (a_D2 : Addr) (k_a_D2 : ClassId) (h0 : Heap) (n0 : Nat) : QT := fun v h L => ∃ (sx : Addr), ∃ (sa : Addr), ∃ (sk : ClassId), (v = some (.ref sx)) ∧ (Fr n0 L) ∧ (Keep h0 h []) ∧ (h0.size ≤ sx) ∧ (h0.size ≤ sa) ∧ (n0 ≤ sx) ∧ (n0 ≤ sa) ∧ (eAQ Z h sx) ∧ (fBQ Z h sx (.ref sa)) ∧ (fAQ Z h sx (.int 0)) ∧ (eCQ Z h sa) ∧ (Arv Z h sa sk .byte 8 [.int 112, (.int (own_dg (((((q1 % pl) * (7919 : Int64)) % pl)).toInt / 100 / 100 / 100))), (.int (own_dg (((((q1 % pl) * (7919 : Int64)) % pl)).toInt / 100 / 100 / 10))), (.int (own_dg (((((q1 % pl) * (7919 : Int64)) % pl)).toInt / 100 / 100))), (.int (own_dg (((((q1 % pl) * (7919 : Int64)) % pl)).toInt / 100 / 10))), (.int (own_dg (((((q1 % pl) * (7919 : Int64)) % pl)).toInt / 100))), (.int (own_dg (((((q1 % pl) * (7919 : Int64)) % pl)).toInt / 10))), (.int (own_dg (((((q1 % pl) * (7919 : Int64)) % pl)).toInt)))] (.int 0)) ∧ (sx ≠ sa)
theorem rmpl7 (l : Launch) (Z : State) (a0 : Array Value) (hw : TW a0 Z) (ws : List Jvm.Cond) (o0 : Addr) (q1 pl : Int64) (cs : Int32) (a_D1 : Addr) (k_a_D1 : ClassId) (a_D2 : Addr) (k_a_D2 : ClassId) (h0 : Heap) (n0 : Nat) (Z0 : n0 ≤ h0.size) (wh : eDQ Z h0 o0) (wu : fFQ Z h0 o0 (.long pl)) (wa : sHQ Z h0 (.int cs)) (hcs : ¬ cs = (0 : Int32)) (wl : Arv Z h0 a_D1 k_a_D1 .byte 100 own_ones (.int 0)) (wf : sJQ Z h0 (.ref a_D1)) (wn : Arv Z h0 a_D2 k_a_D2 .byte 100 own_tens (.int 0)) (wg : sKQ Z h0 (.ref a_D2)) (h0q : ¬ q1 < (0 : Int64)) (hpl : pl ≠ 0) (g1 : ((((q1 % pl) * (7919 : Int64)) % pl)).toInt < 10000000) (g2 : 1000000 ≤ ((((q1 % pl) * (7919 : Int64)) % pl)).toInt) :
  MF l mN9 prog_8_method_2_code 4 (some (.object "java/lang/String")) ws (rmm 6 6 35 97) #[.ref o0, .long q1] Z h0 (Qpl7 Z o0 q1 pl cs a_D1 k_a_D1 a_D2 k_a_D2 h0 n0) := by
 refine MF.of (plainFor_of_name pn_9) ?_
 intro p e s m below meth c s₁ QQ hy hml hown hZ X0 e0 hrt hlk hnm hQQ
 have hx := hy.1
 have hby := hy.2
 have N0 := Fr.nil n0
 refine Ends.i #[rv o0, jv q1, ss, uu] ?_
 obtain ⟨T694, h694, X694, e694, E694, A694, D694, U694, st694⟩ := newO X0 hx hZ hown (tb hw 30 rfl) (tb hw 31 rfl) (tb hw 32 rfl) e0 (g := (mkF m 0 #[rv o0, jv q1, ss, uu] [])) rfl (hb hby d5_0) (by decide) (by decide)
 obtain ⟨b694, g694⟩ : ∃ z, z = h0.size := ⟨_, rfl⟩
 rw [← g694] at A694 D694 U694 st694
 have zV : o0 ≠ b694 := Nat.ne_of_lt (Nat.lt_of_lt_of_le wh.lt (Nat.le_of_eq g694.symm))
 have Kc : a_D1 ≠ b694 := Nat.ne_of_lt (Nat.lt_of_lt_of_le wl.lt (Nat.le_of_eq g694.symm))
 have VJ : a_D2 ≠ b694 := Nat.ne_of_lt (Nat.lt_of_lt_of_le wn.lt (Nat.le_of_eq g694.symm))
 have JY : n0 ≤ b694 := Nat.le_trans Z0 (Nat.le_trans (Keep.refl h0 []).1 (Nat.le_of_eq g694.symm))
 have KW : h0.size ≤ b694 := Nat.le_trans (Keep.refl h0 []).1 (Nat.le_of_eq g694.symm)
 have wh := wh.ext E694
 have wu := wu.ext E694
 have wa := wa.ext E694
 have wl := wl.ext E694
 have wf := wf.ext E694
 have wn := wn.ext E694
 have wg := wg.ext E694
 have K694 := (Keep.refl h0 []).ext E694
 have jp := A694
 have kQ : fDQ Z h694 b694 .null := D694 (Or.inl (tb hw 47 rfl)) (ty := (.array .byte)) (by decide)
 have ji : fCQ Z h694 b694 (.int 0) := D694 (Or.inl (tb hw 49 rfl)) (ty := .byte) (by decide)
 have kZ : fEQ Z h694 b694 (.int 0) := D694 (Or.inl (tb hw 92 rfl)) (ty := .int) (by decide)
 refine Ends.j 3 [.ref b694] st694 ?_
 refine oxd X694 hy d5_3 4 rfl (oH X694 hy d5_4 6 8 rfl ?_)
 refine cI X694 hy hml hown hZ hw d5_6 9 1 33 34 35 32 rfl rfl rfl rfl rfl (rmsb l Z a0 hw [] b694 (.null : Value) (0 : Int32) cs h694 n0 (Nat.le_trans Z0 K694.1) jp kQ ji kZ JY wa hcs) e694 pd_5 rfl rfl fun _ T695 Lc695 X695 hQ695 => ?_
 obtain ⟨vb_695, kb_695, rfl, Nq695, Kq695, fq695_0, Yr, fq695_2, kQ, ji, kZ, zb, zM⟩ := hQ695
 have N695 := Fr.app N0 Nq695
 have Vz : o0 ≠ vb_695 := Nat.ne_of_lt (Nat.lt_of_lt_of_le wh.lt fq695_0)
 have WE : a_D1 ≠ vb_695 := Nat.ne_of_lt (Nat.lt_of_lt_of_le wl.lt fq695_0)
 have Wv : a_D2 ≠ vb_695 := Nat.ne_of_lt (Nat.lt_of_lt_of_le wn.lt fq695_0)
 have uS : b694 ≠ vb_695 := Nat.ne_of_lt (Nat.lt_of_lt_of_le jp.lt fq695_0)
 have JO := Nat.le_trans K694.1 fq695_0
 have wa := own_sta_keep wa Kq695 (allS jp.cell all0)
 have wf := own_sta_keep wf Kq695 (allS jp.cell all0)
 have wg := own_sta_keep wg Kq695 (allS jp.cell all0)
 have wh := wh.keep Kq695
 have wu := wu.keep Kq695 (ninS zV nin0)
 have wl := wl.keep Kq695 (ninS Kc nin0)
 have wn := wn.keep Kq695 (ninS VJ nin0)
 have jp := fq695_2
 have K695 := K694.trans Kq695 (allS (Or.inr KW) all0)
 refine Ends.u (oxt X695 hy d5_9 10 #[rv o0, jv q1, ss, rv b694] rfl (oA X695 hy d5_10 11 rfl (oA X695 hy d5_11 12 rfl (oE X695 hy d5_12 13 rfl ?_))))
 refine cP X695 hy hml hown hZ hw d5_13 16 0 50 51 28 52 53 8 rfl rfl rfl rfl rfl rfl rfl (rmap7 l Z a0 hw [] o0 b694 q1 pl vb_695 kb_695 cs a_D1 k_a_D1 a_D2 k_a_D2 T695.heap n0 (Nat.le_trans Z0 K695.1) wh wu jp kQ ji kZ zb zM JY Yr uS wa hcs wl wf wn wg zV Vz WE Wv h0q hpl g1 g2) rfl pd_28 wh rfl rfl fun _ T696 Lc696 X696 hQ696 => ?_
 obtain ⟨rfl, Nq696, Kq696, fq696_0, kQ, ji, kZ, fq696_4, zM⟩ := hQ696
 have N696 := Fr.app N695 Nq696
 have wa := own_sta_keep wa Kq696 (allS jp.cell (allS zb.cell all0))
 have jp := fq696_0
 have zb := fq696_4
 have K696 := K695.trans Kq696 (allS (Or.inr KW) (allS (Or.inr JO) all0))
 refine Ends.u (oA X696 hy d5_16 17 rfl ?_)
 refine cV X696 hy hml hown hZ hw d5_17 20 0 148 149 151 150 152 32 rfl rfl rfl rfl rfl rfl (rmtos8 l Z a0 hw [] b694 vb_695 kb_695 cs (112 : Int32) (own_dg (((((q1 % pl) * (7919 : Int64)) % pl)).toInt / 100 / 100 / 100)) (own_dg (((((q1 % pl) * (7919 : Int64)) % pl)).toInt / 100 / 100 / 10)) (own_dg (((((q1 % pl) * (7919 : Int64)) % pl)).toInt / 100 / 100)) (own_dg (((((q1 % pl) * (7919 : Int64)) % pl)).toInt / 100 / 10)) (own_dg (((((q1 % pl) * (7919 : Int64)) % pl)).toInt / 100)) (own_dg (((((q1 % pl) * (7919 : Int64)) % pl)).toInt / 10)) (own_dg (((((q1 % pl) * (7919 : Int64)) % pl)).toInt)) T696.heap n0 (Nat.le_trans Z0 K696.1) jp kQ ji kZ zb zM uS wa hcs) rfl pd_29 jp rfl rfl fun _ T697 Lc697 X697 hQ697 => ?_
 obtain ⟨x_697, b_697, k2_697, rfl, Nq697, Kq697, fq697_0, fq697_1, YE, YQ, xo, Ve, Vo, xC, Ga, Wj⟩ := hQ697
 have N697 := Fr.app N696 Nq697
 have UH := Nat.le_trans K696.1 fq697_0
 have UT := Nat.le_trans K696.1 fq697_1
 have K697 := K696.trans Kq697 all0
 refine Ends.v ?_
 exact fA X697 hy hrt hlk hQQ d5_20 rfl rfl rfl (by decide) ⟨x_697, b_697, k2_697, rfl, N697, K697, UH, UT, YE, YQ, xo, Ve, Vo, xC, Ga, Wj⟩
def Qap8 (Z : State) (o0 o1 : Addr) (q2 pl : Int64) (vb : Addr) (kb : ClassId) (cs : Int32) (a_D1 : Addr) (k_a_D1 : ClassId) (a_D2 : Addr) (k_a_D2 : ClassId) (h0 : Heap) (n0 : Nat) : QT := fun v h L => ∃ (b : Addr), ∃ (k2 : ClassId), (v = none) ∧ (Fr n0 L) ∧ (Keep h0 h [o1, vb]) ∧ (eBQ Z h o1) ∧ (fDQ Z h o1 (.ref b)) ∧ (fCQ Z h o1 (.int 0)) ∧ (fEQ Z h o1 (.int 9)) ∧ (eCQ Z h b) ∧ (Arv Z h b k2 .byte 18 [.int 112, (.int (own_dg (((((q2 % pl) * (7919 : Int64)) % pl)).toInt / 100 / 100 / 100 / 10))), (.int (own_dg (((((q2 % pl) * (7919 : Int64)) % pl)).toInt / 100 / 100 / 100))), (.int (own_dg (((((q2 % pl) * (7919 : Int64)) % pl)).toInt / 100 / 100 / 10))), (.int (own_dg (((((q2 % pl) * (7919 : Int64)) % pl)).toInt / 100 / 100))), (.int (own_dg (((((q2 % pl) * (7919 : Int64)) % pl)).toInt / 100 / 10))), (.int (own_dg (((((q2 % pl) * (7919 : Int64)) % pl)).toInt / 100))), (.int (own_dg (((((q2 % pl) * (7919 : Int64)) % pl)).toInt / 10))), (.int (own_dg (((((q2 % pl) * (7919 : Int64)) % pl)).toInt))), .int 0, .int 0, .int 0, .int 0, .int 0, .int 0, .int 0, .int 0, .int 0] (.int 0)) ∧ (h0.size ≤ b) ∧ (n0 ≤ b)
theorem rmap8 (l : Launch) (Z : State) (a0 : Array Value) (hw : TW a0 Z) (ws : List Jvm.Cond) (o0 o1 : Addr) (q2 pl : Int64) (vb : Addr) (kb : ClassId) (cs : Int32) (a_D1 : Addr) (k_a_D1 : ClassId) (a_D2 : Addr) (k_a_D2 : ClassId) (h0 : Heap) (n0 : Nat) (Z0 : n0 ≤ h0.size) (wh : eDQ Z h0 o0) (wu : fFQ Z h0 o0 (.long pl)) (wt : eBQ Z h0 o1) (wk : fDQ Z h0 o1 (.ref vb)) (wj : fCQ Z h0 o1 (.int 0)) (wp : fEQ Z h0 o1 (.int 0)) (wo : eCQ Z h0 vb) (wm : Arv Z h0 vb kb .byte 8 [.int 0, .int 0, .int 0, .int 0, .int 0, .int 0, .int 0, .int 0] (.int 0)) (wK : n0 ≤ o1) (ww : n0 ≤ vb) (wx : o1 ≠ vb) (wa : sHQ Z h0 (.int cs)) (hcs : ¬ cs = (0 : Int32)) (wl : Arv Z h0 a_D1 k_a_D1 .byte 100 own_ones (.int 0)) (wf : sJQ Z h0 (.ref a_D1)) (wn : Arv Z h0 a_D2 k_a_D2 .byte 100 own_tens (.int 0)) (wg : sKQ Z h0 (.ref a_D2)) (wD : o0 ≠ o1) (wq : o0 ≠ vb) (kz : a_D1 ≠ vb) (ky : a_D2 ≠ vb) (h0q : ¬ q2 < (0 : Int64)) (hpl : pl ≠ 0) (g1 : ((((q2 % pl) * (7919 : Int64)) % pl)).toInt < 100000000) (g2 : 10000000 ≤ ((((q2 % pl) * (7919 : Int64)) % pl)).toInt) :
  MF l mN8 prog_8_method_5_code 6 none ws (rmm 6 3 30 89) #[.ref o0, .ref o1, .long q2] Z h0 (Qap8 Z o0 o1 q2 pl vb kb cs a_D1 k_a_D1 a_D2 k_a_D2 h0 n0) := by
 refine MF.of (plainFor_of_name pn_9) ?_
 intro p e s m below meth c s₁ QQ hy hml hown hZ X0 e0 hrt hlk hnm hQQ
 have N0 := Fr.nil n0
 refine Ends.i #[rv o0, rv o1, jv q2, ss, uu, uu] (oE X0 hy d8_0 1 rfl (oJ X0 hy d8_1 2 0 rfl (oY X0 hy d8_2 3 ?_)))
 have hc3 : ¬ (q2 < (0 : Int64)) := h0q
 refine oxk X0 hy d8_3 16 (XT.ll_ge_t hc3) (oE X0 hy d8_16 17 rfl (oA X0 hy d8_17 18 rfl (gF X0 hy hown hZ hw e0 wu d8_18 21 21 rfl fun T698 X698 e698 => lremO X698 hy d8_21 22 hpl (oJ2 X698 hy hown hZ hw d8_22 25 7919 54 rfl (oU X698 hy d8_25 26 (oA X698 hy d8_26 27 rfl (gF X698 hy hown hZ hw e698 wu d8_27 30 21 rfl fun T699 X699 e699 => lremO X699 hy d8_30 31 hpl ?_)))))))
 refine cS X699 hy hml hown hZ hw d8_31 34 0 55 56 57 58 rfl rfl rfl rfl (rmts8 l Z a0 hw [] (((q2 % pl) * (7919 : Int64)) % pl) cs a_D1 k_a_D1 a_D2 k_a_D2 h0 n0 Z0 wa hcs wl wf wn wg g1 g2) e699 pd_25 rfl rfl fun _ T700 Lc700 X700 hQ700 => ?_
 obtain ⟨sx_700, sa_700, sk_700, rfl, Nq700, Kq700, fq700_0, fq700_1, g_sx_700, g_sa_700, uG, jz, jC, zK, zj, zB⟩ := hQ700
 have N700 := Fr.app N0 Nq700
 have ub : o1 ≠ sx_700 := Nat.ne_of_lt (Nat.lt_of_lt_of_le wt.lt fq700_0)
 have jX : vb ≠ sx_700 := Nat.ne_of_lt (Nat.lt_of_lt_of_le wo.lt fq700_0)
 have zp : o1 ≠ sa_700 := Nat.ne_of_lt (Nat.lt_of_lt_of_le wt.lt fq700_1)
 have zm : vb ≠ sa_700 := Nat.ne_of_lt (Nat.lt_of_lt_of_le wo.lt fq700_1)
 have wa := own_sta_keep wa Kq700 all0
 have wt := wt.keep Kq700
 have wk := wk.keep Kq700 nin0
 have wj := wj.keep Kq700 nin0
 have wp := wp.keep Kq700 nin0
 have wo := wo.keep Kq700
 have wm := wm.keep Kq700 nin0
 have K700 := (Keep.refl h0 [o1, vb]).trans Kq700 all0
 refine Ends.v (oxs X700 hy d8_34 36 #[rv o0, rv o1, jv q2, ss, rv sx_700, uu] rfl (oA X700 hy d8_36 37 rfl (oH X700 hy d8_37 39 112 rfl ?_)))
 refine cV X700 hy hml hown hZ hw d8_39 42 0 81 82 84 83 85 32 rfl rfl rfl rfl rfl rfl (rmsba0_112 l Z a0 hw [] o1 vb kb cs T700.heap n0 (Nat.le_trans Z0 K700.1) wt wk wj wp wo wm wK ww wx wa hcs) rfl pd_26 wt rfl rfl fun _ T701 Lc701 X701 hQ701 => ?_
 obtain ⟨rfl, Nq701, Kq701, fq701_0, wk, wj, wp, wm⟩ := hQ701
 have N701 := Fr.app N700 Nq701
 have wa := own_sta_keep wa Kq701 (allS wt.cell (allS wo.cell all0))
 have wo := wo.keep Kq701
 have uG := uG.keep Kq701
 have jz := jz.keep Kq701 (ninS (Ne.symm ub) (ninS (Ne.symm jX) nin0))
 have jC := jC.keep Kq701 (ninS (Ne.symm ub) (ninS (Ne.symm jX) nin0))
 have zK := zK.keep Kq701
 have zj := zj.keep Kq701 (ninS (Ne.symm zp) (ninS (Ne.symm zm) nin0))
 have wt := fq701_0
 have K701 := K700.trans Kq701 (allS (Or.inl mm0) (allS (Or.inl mm1) all0))
 refine Ends.v (oxe X701 hy d8_42 43 rfl (oB X701 hy d8_43 45 rfl ?_))
 refine cV X701 hy hml hown hZ hw d8_45 48 0 107 108 110 109 111 44 rfl rfl rfl rfl rfl rfl (rmlen l Z a0 hw [] sx_700 sa_700 sk_700 (8 : Int32) [(.int (own_dg (((((q2 % pl) * (7919 : Int64)) % pl)).toInt / 100 / 100 / 100 / 10))), (.int (own_dg (((((q2 % pl) * (7919 : Int64)) % pl)).toInt / 100 / 100 / 100))), (.int (own_dg (((((q2 % pl) * (7919 : Int64)) % pl)).toInt / 100 / 100 / 10))), (.int (own_dg (((((q2 % pl) * (7919 : Int64)) % pl)).toInt / 100 / 100))), (.int (own_dg (((((q2 % pl) * (7919 : Int64)) % pl)).toInt / 100 / 10))), (.int (own_dg (((((q2 % pl) * (7919 : Int64)) % pl)).toInt / 100))), (.int (own_dg (((((q2 % pl) * (7919 : Int64)) % pl)).toInt / 10))), (.int (own_dg (((((q2 % pl) * (7919 : Int64)) % pl)).toInt)))] cs T701.heap n0 (Nat.le_trans Z0 K701.1) uG jz zj wa hcs jC) rfl pd_10 uG rfl rfl fun _ T702 Lc702 X702 hQ702 => ?_
 obtain ⟨rfl, Nq702, hh702⟩ := hQ702
 have N702 := Fr.app N701 Nq702
 refine Ends.v (oxo X702 hy d8_48 50 #[rv o0, rv o1, jv q2, ss, rv sx_700, iv 8] rfl (oD X702 hy d8_50 52 rfl (oH X702 hy d8_52 54 7 rfl (oxl X702 hy d8_54 70 (XT.ii_ge_t (by decide)) (oA X702 hy d8_70 71 rfl (oB X702 hy d8_71 73 rfl ?_))))))
 refine cV X702 hy hml hown hZ hw d8_73 76 0 118 119 121 120 122 32 rfl rfl rfl rfl rfl rfl (rmsps8 l Z a0 hw [] o1 sx_700 vb kb sa_700 sk_700 cs (own_dg (((((q2 % pl) * (7919 : Int64)) % pl)).toInt / 100 / 100 / 100 / 10)) (own_dg (((((q2 % pl) * (7919 : Int64)) % pl)).toInt / 100 / 100 / 100)) (own_dg (((((q2 % pl) * (7919 : Int64)) % pl)).toInt / 100 / 100 / 10)) (own_dg (((((q2 % pl) * (7919 : Int64)) % pl)).toInt / 100 / 100)) (own_dg (((((q2 % pl) * (7919 : Int64)) % pl)).toInt / 100 / 10)) (own_dg (((((q2 % pl) * (7919 : Int64)) % pl)).toInt / 100)) (own_dg (((((q2 % pl) * (7919 : Int64)) % pl)).toInt / 10)) (own_dg (((((q2 % pl) * (7919 : Int64)) % pl)).toInt)) T701.heap n0 (Nat.le_trans Z0 K701.1) wt wk wj wp wo wm wK ww wx uG jz jC zK zj zB zm zp ub jX wa hcs) hh702 pd_27 wt rfl rfl fun _ T703 Lc703 X703 hQ703 => ?_
 obtain ⟨b_703, k2_703, rfl, Nq703, Kq703, wt, wk, wj, wp, xZ, xB, fq703_6, YP⟩ := hQ703
 have N703 := Fr.app N702 Nq703
 have US := Nat.le_trans K701.1 fq703_6
 have K703 := K701.trans Kq703 (allS (Or.inl mm0) all0)
 refine Ends.v (oxe X703 hy d8_76 77 rfl ?_)
 exact fV X703 hy hrt hlk hQQ d8_77 rfl (by decide) ⟨b_703, k2_703, rfl, N703, K703, wt, wk, wj, wp, xB, xZ, US, YP⟩
def Qpl8 (Z : State) (o0 : Addr) (q1 pl : Int64) (cs : Int32) (a_D1 : Addr) (k_a_D1 : ClassId) (a_D2 : Addr) (k_a_D2 : ClassId) (h0 : Heap) (n0 : Nat) : QT := fun v h L => ∃ (sx : Addr), ∃ (sa : Addr), ∃ (sk : ClassId), (v = some (.ref sx)) ∧ (Fr n0 L) ∧ (Keep h0 h []) ∧ (h0.size ≤ sx) ∧ (h0.size ≤ sa) ∧ (n0 ≤ sx) ∧ (n0 ≤ sa) ∧ (eAQ Z h sx) ∧ (fBQ Z h sx (.ref sa)) ∧ (fAQ Z h sx (.int 0)) ∧ (eCQ Z h sa) ∧ (Arv Z h sa sk .byte 9 [.int 112, (.int (own_dg (((((q1 % pl) * (7919 : Int64)) % pl)).toInt / 100 / 100 / 100 / 10))), (.int (own_dg (((((q1 % pl) * (7919 : Int64)) % pl)).toInt / 100 / 100 / 100))), (.int (own_dg (((((q1 % pl) * (7919 : Int64)) % pl)).toInt / 100 / 100 / 10))), (.int (own_dg (((((q1 % pl) * (7919 : Int64)) % pl)).toInt / 100 / 100))), (.int (own_dg (((((q1 % pl) * (7919 : Int64)) % pl)).toInt / 100 / 10))), (.int (own_dg (((((q1 % pl) * (7919 : Int64)) % pl)).toInt / 100))), (.int (own_dg (((((q1 % pl) * (7919 : Int64)) % pl)).toInt / 10))), (.int (own_dg (((((q1 % pl) * (7919 : Int64)) % pl)).toInt)))] (.int 0)) ∧ (sx ≠ sa)
theorem rmpl8 (l : Launch) (Z : State) (a0 : Array Value) (hw : TW a0 Z) (ws : List Jvm.Cond) (o0 : Addr) (q1 pl : Int64) (cs : Int32) (a_D1 : Addr) (k_a_D1 : ClassId) (a_D2 : Addr) (k_a_D2 : ClassId) (h0 : Heap) (n0 : Nat) (Z0 : n0 ≤ h0.size) (wh : eDQ Z h0 o0) (wu : fFQ Z h0 o0 (.long pl)) (wa : sHQ Z h0 (.int cs)) (hcs : ¬ cs = (0 : Int32)) (wl : Arv Z h0 a_D1 k_a_D1 .byte 100 own_ones (.int 0)) (wf : sJQ Z h0 (.ref a_D1)) (wn : Arv Z h0 a_D2 k_a_D2 .byte 100 own_tens (.int 0)) (wg : sKQ Z h0 (.ref a_D2)) (h0q : ¬ q1 < (0 : Int64)) (hpl : pl ≠ 0) (g1 : ((((q1 % pl) * (7919 : Int64)) % pl)).toInt < 100000000) (g2 : 10000000 ≤ ((((q1 % pl) * (7919 : Int64)) % pl)).toInt) :
  MF l mN9 prog_8_method_2_code 4 (some (.object "java/lang/String")) ws (rmm 7 7 55 106) #[.ref o0, .long q1] Z h0 (Qpl8 Z o0 q1 pl cs a_D1 k_a_D1 a_D2 k_a_D2 h0 n0) := by
 refine MF.of (plainFor_of_name pn_9) ?_
 intro p e s m below meth c s₁ QQ hy hml hown hZ X0 e0 hrt hlk hnm hQQ
 have hx := hy.1
 have hby := hy.2
 have N0 := Fr.nil n0
 refine Ends.i #[rv o0, jv q1, ss, uu] ?_
 obtain ⟨T704, h704, X704, e704, E704, A704, D704, U704, st704⟩ := newO X0 hx hZ hown (tb hw 30 rfl) (tb hw 31 rfl) (tb hw 32 rfl) e0 (g := (mkF m 0 #[rv o0, jv q1, ss, uu] [])) rfl (hb hby d5_0) (by decide) (by decide)
 obtain ⟨b704, g704⟩ : ∃ z, z = h0.size := ⟨_, rfl⟩
 rw [← g704] at A704 D704 U704 st704
 have zU : o0 ≠ b704 := Nat.ne_of_lt (Nat.lt_of_lt_of_le wh.lt (Nat.le_of_eq g704.symm))
 have Kb : a_D1 ≠ b704 := Nat.ne_of_lt (Nat.lt_of_lt_of_le wl.lt (Nat.le_of_eq g704.symm))
 have VI : a_D2 ≠ b704 := Nat.ne_of_lt (Nat.lt_of_lt_of_le wn.lt (Nat.le_of_eq g704.symm))
 have JX : n0 ≤ b704 := Nat.le_trans Z0 (Nat.le_trans (Keep.refl h0 []).1 (Nat.le_of_eq g704.symm))
 have KV : h0.size ≤ b704 := Nat.le_trans (Keep.refl h0 []).1 (Nat.le_of_eq g704.symm)
 have wh := wh.ext E704
 have wu := wu.ext E704
 have wa := wa.ext E704
 have wl := wl.ext E704
 have wf := wf.ext E704
 have wn := wn.ext E704
 have wg := wg.ext E704
 have K704 := (Keep.refl h0 []).ext E704
 have kH := A704
 have kO : fDQ Z h704 b704 .null := D704 (Or.inl (tb hw 47 rfl)) (ty := (.array .byte)) (by decide)
 have jh : fCQ Z h704 b704 (.int 0) := D704 (Or.inl (tb hw 49 rfl)) (ty := .byte) (by decide)
 have kY : fEQ Z h704 b704 (.int 0) := D704 (Or.inl (tb hw 92 rfl)) (ty := .int) (by decide)
 refine Ends.j 3 [.ref b704] st704 ?_
 refine oxd X704 hy d5_3 4 rfl (oH X704 hy d5_4 6 8 rfl ?_)
 refine cI X704 hy hml hown hZ hw d5_6 9 1 33 34 35 32 rfl rfl rfl rfl rfl (rmsb l Z a0 hw [] b704 (.null : Value) (0 : Int32) cs h704 n0 (Nat.le_trans Z0 K704.1) kH kO jh kY JX wa hcs) e704 pd_5 rfl rfl fun _ T705 Lc705 X705 hQ705 => ?_
 obtain ⟨vb_705, kb_705, rfl, Nq705, Kq705, fq705_0, Yq, fq705_2, kO, jh, kY, Kt, Yz⟩ := hQ705
 have N705 := Fr.app N0 Nq705
 have Vy : o0 ≠ vb_705 := Nat.ne_of_lt (Nat.lt_of_lt_of_le wh.lt fq705_0)
 have WD : a_D1 ≠ vb_705 := Nat.ne_of_lt (Nat.lt_of_lt_of_le wl.lt fq705_0)
 have Wu : a_D2 ≠ vb_705 := Nat.ne_of_lt (Nat.lt_of_lt_of_le wn.lt fq705_0)
 have Ws : b704 ≠ vb_705 := Nat.ne_of_lt (Nat.lt_of_lt_of_le kH.lt fq705_0)
 have JN := Nat.le_trans K704.1 fq705_0
 have wa := own_sta_keep wa Kq705 (allS kH.cell all0)
 have wf := own_sta_keep wf Kq705 (allS kH.cell all0)
 have wg := own_sta_keep wg Kq705 (allS kH.cell all0)
 have wh := wh.keep Kq705
 have wu := wu.keep Kq705 (ninS zU nin0)
 have wl := wl.keep Kq705 (ninS Kb nin0)
 have wn := wn.keep Kq705 (ninS VI nin0)
 have kH := fq705_2
 have K705 := K704.trans Kq705 (allS (Or.inr KV) all0)
 refine Ends.u (oxt X705 hy d5_9 10 #[rv o0, jv q1, ss, rv b704] rfl (oA X705 hy d5_10 11 rfl (oA X705 hy d5_11 12 rfl (oE X705 hy d5_12 13 rfl ?_))))
 refine cP X705 hy hml hown hZ hw d5_13 16 0 50 51 28 52 53 8 rfl rfl rfl rfl rfl rfl rfl (rmap8 l Z a0 hw [] o0 b704 q1 pl vb_705 kb_705 cs a_D1 k_a_D1 a_D2 k_a_D2 T705.heap n0 (Nat.le_trans Z0 K705.1) wh wu kH kO jh kY Kt Yz JX Yq Ws wa hcs wl wf wn wg zU Vy WD Wu h0q hpl g1 g2) rfl pd_28 wh rfl rfl fun _ T706 Lc706 X706 hQ706 => ?_
 obtain ⟨b_706, k2_706, rfl, Nq706, Kq706, fq706_0, kO, jh, kY, xA, xY, fq706_6, g_b_706⟩ := hQ706
 have N706 := Fr.app N705 Nq706
 have WY : b704 ≠ b_706 := Nat.ne_of_lt (Nat.lt_of_lt_of_le kH.lt fq706_6)
 have wa := own_sta_keep wa Kq706 (allS kH.cell (allS Kt.cell all0))
 have kH := fq706_0
 have K706 := K705.trans Kq706 (allS (Or.inr KV) (allS (Or.inr JN) all0))
 refine Ends.u (oA X706 hy d5_16 17 rfl ?_)
 refine cV X706 hy hml hown hZ hw d5_17 20 0 148 149 151 150 152 32 rfl rfl rfl rfl rfl rfl (rmtos9 l Z a0 hw [] b704 b_706 k2_706 cs (112 : Int32) (own_dg (((((q1 % pl) * (7919 : Int64)) % pl)).toInt / 100 / 100 / 100 / 10)) (own_dg (((((q1 % pl) * (7919 : Int64)) % pl)).toInt / 100 / 100 / 100)) (own_dg (((((q1 % pl) * (7919 : Int64)) % pl)).toInt / 100 / 100 / 10)) (own_dg (((((q1 % pl) * (7919 : Int64)) % pl)).toInt / 100 / 100)) (own_dg (((((q1 % pl) * (7919 : Int64)) % pl)).toInt / 100 / 10)) (own_dg (((((q1 % pl) * (7919 : Int64)) % pl)).toInt / 100)) (own_dg (((((q1 % pl) * (7919 : Int64)) % pl)).toInt / 10)) (own_dg (((((q1 % pl) * (7919 : Int64)) % pl)).toInt)) T706.heap n0 (Nat.le_trans Z0 K706.1) kH kO jh kY xA xY WY wa hcs) rfl pd_29 kH rfl rfl fun _ T707 Lc707 X707 hQ707 => ?_
 obtain ⟨x_707, b_707, k2_707, rfl, Nq707, Kq707, fq707_0, fq707_1, YD, YO, xn, Vd, Vn, xz, xX, Wi⟩ := hQ707
 have N707 := Fr.app N706 Nq707
 have UG := Nat.le_trans K706.1 fq707_0
 have UR := Nat.le_trans K706.1 fq707_1
 have K707 := K706.trans Kq707 all0
 refine Ends.v ?_
 exact fA X707 hy hrt hlk hQQ d5_20 rfl rfl rfl (by decide) ⟨x_707, b_707, k2_707, rfl, N707, K707, UG, UR, YD, YO, xn, Vd, Vn, xz, xX, Wi⟩
def Qap9 (Z : State) (o0 o1 : Addr) (q2 pl : Int64) (vb : Addr) (kb : ClassId) (cs : Int32) (a_D1 : Addr) (k_a_D1 : ClassId) (a_D2 : Addr) (k_a_D2 : ClassId) (h0 : Heap) (n0 : Nat) : QT := fun v h L => ∃ (b : Addr), ∃ (k2 : ClassId), (v = none) ∧ (Fr n0 L) ∧ (Keep h0 h [o1, vb]) ∧ (eBQ Z h o1) ∧ (fDQ Z h o1 (.ref b)) ∧ (fCQ Z h o1 (.int 0)) ∧ (fEQ Z h o1 (.int 10)) ∧ (eCQ Z h b) ∧ (Arv Z h b k2 .byte 18 [.int 112, (.int (own_dg (((((q2 % pl) * (7919 : Int64)) % pl)).toInt / 100 / 100 / 100 / 100))), (.int (own_dg (((((q2 % pl) * (7919 : Int64)) % pl)).toInt / 100 / 100 / 100 / 10))), (.int (own_dg (((((q2 % pl) * (7919 : Int64)) % pl)).toInt / 100 / 100 / 100))), (.int (own_dg (((((q2 % pl) * (7919 : Int64)) % pl)).toInt / 100 / 100 / 10))), (.int (own_dg (((((q2 % pl) * (7919 : Int64)) % pl)).toInt / 100 / 100))), (.int (own_dg (((((q2 % pl) * (7919 : Int64)) % pl)).toInt / 100 / 10))), (.int (own_dg (((((q2 % pl) * (7919 : Int64)) % pl)).toInt / 100))), (.int (own_dg (((((q2 % pl) * (7919 : Int64)) % pl)).toInt / 10))), (.int (own_dg (((((q2 % pl) * (7919 : Int64)) % pl)).toInt))), .int 0, .int 0, .int 0, .int 0, .int 0, .int 0, .int 0, .int 0] (.int 0)) ∧ (h0.size ≤ b) ∧ (n0 ≤ b)
theorem rmap9 (l : Launch) (Z : State) (a0 : Array Value) (hw : TW a0 Z) (ws : List Jvm.Cond) (o0 o1 : Addr) (q2 pl : Int64) (vb : Addr) (kb : ClassId) (cs : Int32) (a_D1 : Addr) (k_a_D1 : ClassId) (a_D2 : Addr) (k_a_D2 : ClassId) (h0 : Heap) (n0 : Nat) (Z0 : n0 ≤ h0.size) (wh : eDQ Z h0 o0) (wu : fFQ Z h0 o0 (.long pl)) (wt : eBQ Z h0 o1) (wk : fDQ Z h0 o1 (.ref vb)) (wj : fCQ Z h0 o1 (.int 0)) (wp : fEQ Z h0 o1 (.int 0)) (wo : eCQ Z h0 vb) (wm : Arv Z h0 vb kb .byte 8 [.int 0, .int 0, .int 0, .int 0, .int 0, .int 0, .int 0, .int 0] (.int 0)) (wK : n0 ≤ o1) (ww : n0 ≤ vb) (wx : o1 ≠ vb) (wa : sHQ Z h0 (.int cs)) (hcs : ¬ cs = (0 : Int32)) (wl : Arv Z h0 a_D1 k_a_D1 .byte 100 own_ones (.int 0)) (wf : sJQ Z h0 (.ref a_D1)) (wn : Arv Z h0 a_D2 k_a_D2 .byte 100 own_tens (.int 0)) (wg : sKQ Z h0 (.ref a_D2)) (wD : o0 ≠ o1) (wq : o0 ≠ vb) (kz : a_D1 ≠ vb) (ky : a_D2 ≠ vb) (h0q : ¬ q2 < (0 : Int64)) (hpl : pl ≠ 0) (g1 : ((((q2 % pl) * (7919 : Int64)) % pl)).toInt < 1000000000) (g2 : 100000000 ≤ ((((q2 % pl) * (7919 : Int64)) % pl)).toInt) :
  MF l mN8 prog_8_method_5_code 6 none ws (rmm 6 3 31 89) #[.ref o0, .ref o1, .long q2] Z h0 (Qap9 Z o0 o1 q2 pl vb kb cs a_D1 k_a_D1 a_D2 k_a_D2 h0 n0) := by
 refine MF.of (plainFor_of_name pn_9) ?_
 intro p e s m below meth c s₁ QQ hy hml hown hZ X0 e0 hrt hlk hnm hQQ
 have N0 := Fr.nil n0
 refine Ends.i #[rv o0, rv o1, jv q2, ss, uu, uu] (oE X0 hy d8_0 1 rfl (oJ X0 hy d8_1 2 0 rfl (oY X0 hy d8_2 3 ?_)))
 have hc3 : ¬ (q2 < (0 : Int64)) := h0q
 refine oxk X0 hy d8_3 16 (XT.ll_ge_t hc3) (oE X0 hy d8_16 17 rfl (oA X0 hy d8_17 18 rfl (gF X0 hy hown hZ hw e0 wu d8_18 21 21 rfl fun T708 X708 e708 => lremO X708 hy d8_21 22 hpl (oJ2 X708 hy hown hZ hw d8_22 25 7919 54 rfl (oU X708 hy d8_25 26 (oA X708 hy d8_26 27 rfl (gF X708 hy hown hZ hw e708 wu d8_27 30 21 rfl fun T709 X709 e709 => lremO X709 hy d8_30 31 hpl ?_)))))))
 refine cS X709 hy hml hown hZ hw d8_31 34 0 55 56 57 58 rfl rfl rfl rfl (rmts9 l Z a0 hw [] (((q2 % pl) * (7919 : Int64)) % pl) cs a_D1 k_a_D1 a_D2 k_a_D2 h0 n0 Z0 wa hcs wl wf wn wg g1 g2) e709 pd_25 rfl rfl fun _ T710 Lc710 X710 hQ710 => ?_
 obtain ⟨sx_710, sa_710, sk_710, rfl, Nq710, Kq710, fq710_0, fq710_1, g_sx_710, g_sa_710, uF, jy, jB, zJ, zi, zA⟩ := hQ710
 have N710 := Fr.app N0 Nq710
 have ua : o1 ≠ sx_710 := Nat.ne_of_lt (Nat.lt_of_lt_of_le wt.lt fq710_0)
 have jW : vb ≠ sx_710 := Nat.ne_of_lt (Nat.lt_of_lt_of_le wo.lt fq710_0)
 have zo : o1 ≠ sa_710 := Nat.ne_of_lt (Nat.lt_of_lt_of_le wt.lt fq710_1)
 have zl : vb ≠ sa_710 := Nat.ne_of_lt (Nat.lt_of_lt_of_le wo.lt fq710_1)
 have wa := own_sta_keep wa Kq710 all0
 have wt := wt.keep Kq710
 have wk := wk.keep Kq710 nin0
 have wj := wj.keep Kq710 nin0
 have wp := wp.keep Kq710 nin0
 have wo := wo.keep Kq710
 have wm := wm.keep Kq710 nin0
 have K710 := (Keep.refl h0 [o1, vb]).trans Kq710 all0
 refine Ends.v (oxs X710 hy d8_34 36 #[rv o0, rv o1, jv q2, ss, rv sx_710, uu] rfl (oA X710 hy d8_36 37 rfl (oH X710 hy d8_37 39 112 rfl ?_)))
 refine cV X710 hy hml hown hZ hw d8_39 42 0 81 82 84 83 85 32 rfl rfl rfl rfl rfl rfl (rmsba0_112 l Z a0 hw [] o1 vb kb cs T710.heap n0 (Nat.le_trans Z0 K710.1) wt wk wj wp wo wm wK ww wx wa hcs) rfl pd_26 wt rfl rfl fun _ T711 Lc711 X711 hQ711 => ?_
 obtain ⟨rfl, Nq711, Kq711, fq711_0, wk, wj, wp, wm⟩ := hQ711
 have N711 := Fr.app N710 Nq711
 have wa := own_sta_keep wa Kq711 (allS wt.cell (allS wo.cell all0))
 have wo := wo.keep Kq711
 have uF := uF.keep Kq711
 have jy := jy.keep Kq711 (ninS (Ne.symm ua) (ninS (Ne.symm jW) nin0))
 have jB := jB.keep Kq711 (ninS (Ne.symm ua) (ninS (Ne.symm jW) nin0))
 have zJ := zJ.keep Kq711
 have zi := zi.keep Kq711 (ninS (Ne.symm zo) (ninS (Ne.symm zl) nin0))
 have wt := fq711_0
 have K711 := K710.trans Kq711 (allS (Or.inl mm0) (allS (Or.inl mm1) all0))
 refine Ends.v (oxe X711 hy d8_42 43 rfl (oB X711 hy d8_43 45 rfl ?_))
 refine cV X711 hy hml hown hZ hw d8_45 48 0 107 108 110 109 111 44 rfl rfl rfl rfl rfl rfl (rmlen l Z a0 hw [] sx_710 sa_710 sk_710 (9 : Int32) [(.int (own_dg (((((q2 % pl) * (7919 : Int64)) % pl)).toInt / 100 / 100 / 100 / 100))), (.int (own_dg (((((q2 % pl) * (7919 : Int64)) % pl)).toInt / 100 / 100 / 100 / 10))), (.int (own_dg (((((q2 % pl) * (7919 : Int64)) % pl)).toInt / 100 / 100 / 100))), (.int (own_dg (((((q2 % pl) * (7919 : Int64)) % pl)).toInt / 100 / 100 / 10))), (.int (own_dg (((((q2 % pl) * (7919 : Int64)) % pl)).toInt / 100 / 100))), (.int (own_dg (((((q2 % pl) * (7919 : Int64)) % pl)).toInt / 100 / 10))), (.int (own_dg (((((q2 % pl) * (7919 : Int64)) % pl)).toInt / 100))), (.int (own_dg (((((q2 % pl) * (7919 : Int64)) % pl)).toInt / 10))), (.int (own_dg (((((q2 % pl) * (7919 : Int64)) % pl)).toInt)))] cs T711.heap n0 (Nat.le_trans Z0 K711.1) uF jy zi wa hcs jB) rfl pd_10 uF rfl rfl fun _ T712 Lc712 X712 hQ712 => ?_
 obtain ⟨rfl, Nq712, hh712⟩ := hQ712
 have N712 := Fr.app N711 Nq712
 refine Ends.v (oxo X712 hy d8_48 50 #[rv o0, rv o1, jv q2, ss, rv sx_710, iv 9] rfl (oD X712 hy d8_50 52 rfl (oH X712 hy d8_52 54 7 rfl (oxl X712 hy d8_54 70 (XT.ii_ge_t (by decide)) (oA X712 hy d8_70 71 rfl (oB X712 hy d8_71 73 rfl ?_))))))
 refine cV X712 hy hml hown hZ hw d8_73 76 0 118 119 121 120 122 32 rfl rfl rfl rfl rfl rfl (rmsps9 l Z a0 hw [] o1 sx_710 vb kb sa_710 sk_710 cs (own_dg (((((q2 % pl) * (7919 : Int64)) % pl)).toInt / 100 / 100 / 100 / 100)) (own_dg (((((q2 % pl) * (7919 : Int64)) % pl)).toInt / 100 / 100 / 100 / 10)) (own_dg (((((q2 % pl) * (7919 : Int64)) % pl)).toInt / 100 / 100 / 100)) (own_dg (((((q2 % pl) * (7919 : Int64)) % pl)).toInt / 100 / 100 / 10)) (own_dg (((((q2 % pl) * (7919 : Int64)) % pl)).toInt / 100 / 100)) (own_dg (((((q2 % pl) * (7919 : Int64)) % pl)).toInt / 100 / 10)) (own_dg (((((q2 % pl) * (7919 : Int64)) % pl)).toInt / 100)) (own_dg (((((q2 % pl) * (7919 : Int64)) % pl)).toInt / 10)) (own_dg (((((q2 % pl) * (7919 : Int64)) % pl)).toInt)) T711.heap n0 (Nat.le_trans Z0 K711.1) wt wk wj wp wo wm wK ww wx uF jy jB zJ zi zA zl zo ua jW wa hcs) hh712 pd_27 wt rfl rfl fun _ T713 Lc713 X713 hQ713 => ?_
 obtain ⟨b_713, k2_713, rfl, Nq713, Kq713, wt, wk, wj, wp, xW, xy, fq713_6, YN⟩ := hQ713
 have N713 := Fr.app N712 Nq713
 have UQ := Nat.le_trans K711.1 fq713_6
 have K713 := K711.trans Kq713 (allS (Or.inl mm0) all0)
 refine Ends.v (oxe X713 hy d8_76 77 rfl ?_)
 exact fV X713 hy hrt hlk hQQ d8_77 rfl (by decide) ⟨b_713, k2_713, rfl, N713, K713, wt, wk, wj, wp, xy, xW, UQ, YN⟩
def Qpl9 (Z : State) (o0 : Addr) (q1 pl : Int64) (cs : Int32) (a_D1 : Addr) (k_a_D1 : ClassId) (a_D2 : Addr) (k_a_D2 : ClassId) (h0 : Heap) (n0 : Nat) : QT := fun v h L => ∃ (sx : Addr), ∃ (sa : Addr), ∃ (sk : ClassId), (v = some (.ref sx)) ∧ (Fr n0 L) ∧ (Keep h0 h []) ∧ (h0.size ≤ sx) ∧ (h0.size ≤ sa) ∧ (n0 ≤ sx) ∧ (n0 ≤ sa) ∧ (eAQ Z h sx) ∧ (fBQ Z h sx (.ref sa)) ∧ (fAQ Z h sx (.int 0)) ∧ (eCQ Z h sa) ∧ (Arv Z h sa sk .byte 10 [.int 112, (.int (own_dg (((((q1 % pl) * (7919 : Int64)) % pl)).toInt / 100 / 100 / 100 / 100))), (.int (own_dg (((((q1 % pl) * (7919 : Int64)) % pl)).toInt / 100 / 100 / 100 / 10))), (.int (own_dg (((((q1 % pl) * (7919 : Int64)) % pl)).toInt / 100 / 100 / 100))), (.int (own_dg (((((q1 % pl) * (7919 : Int64)) % pl)).toInt / 100 / 100 / 10))), (.int (own_dg (((((q1 % pl) * (7919 : Int64)) % pl)).toInt / 100 / 100))), (.int (own_dg (((((q1 % pl) * (7919 : Int64)) % pl)).toInt / 100 / 10))), (.int (own_dg (((((q1 % pl) * (7919 : Int64)) % pl)).toInt / 100))), (.int (own_dg (((((q1 % pl) * (7919 : Int64)) % pl)).toInt / 10))), (.int (own_dg (((((q1 % pl) * (7919 : Int64)) % pl)).toInt)))] (.int 0)) ∧ (sx ≠ sa)
theorem rmpl9 (l : Launch) (Z : State) (a0 : Array Value) (hw : TW a0 Z) (ws : List Jvm.Cond) (o0 : Addr) (q1 pl : Int64) (cs : Int32) (a_D1 : Addr) (k_a_D1 : ClassId) (a_D2 : Addr) (k_a_D2 : ClassId) (h0 : Heap) (n0 : Nat) (Z0 : n0 ≤ h0.size) (wh : eDQ Z h0 o0) (wu : fFQ Z h0 o0 (.long pl)) (wa : sHQ Z h0 (.int cs)) (hcs : ¬ cs = (0 : Int32)) (wl : Arv Z h0 a_D1 k_a_D1 .byte 100 own_ones (.int 0)) (wf : sJQ Z h0 (.ref a_D1)) (wn : Arv Z h0 a_D2 k_a_D2 .byte 100 own_tens (.int 0)) (wg : sKQ Z h0 (.ref a_D2)) (h0q : ¬ q1 < (0 : Int64)) (hpl : pl ≠ 0) (g1 : ((((q1 % pl) * (7919 : Int64)) % pl)).toInt < 1000000000) (g2 : 100000000 ≤ ((((q1 % pl) * (7919 : Int64)) % pl)).toInt) :
  MF l mN9 prog_8_method_2_code 4 (some (.object "java/lang/String")) ws (rmm 7 7 57 106) #[.ref o0, .long q1] Z h0 (Qpl9 Z o0 q1 pl cs a_D1 k_a_D1 a_D2 k_a_D2 h0 n0) := by
 refine MF.of (plainFor_of_name pn_9) ?_
 intro p e s m below meth c s₁ QQ hy hml hown hZ X0 e0 hrt hlk hnm hQQ
 have hx := hy.1
 have hby := hy.2
 have N0 := Fr.nil n0
 refine Ends.i #[rv o0, jv q1, ss, uu] ?_
 obtain ⟨T714, h714, X714, e714, E714, A714, D714, U714, st714⟩ := newO X0 hx hZ hown (tb hw 30 rfl) (tb hw 31 rfl) (tb hw 32 rfl) e0 (g := (mkF m 0 #[rv o0, jv q1, ss, uu] [])) rfl (hb hby d5_0) (by decide) (by decide)
 obtain ⟨b714, g714⟩ : ∃ z, z = h0.size := ⟨_, rfl⟩
 rw [← g714] at A714 D714 U714 st714
 have zT : o0 ≠ b714 := Nat.ne_of_lt (Nat.lt_of_lt_of_le wh.lt (Nat.le_of_eq g714.symm))
 have Ka : a_D1 ≠ b714 := Nat.ne_of_lt (Nat.lt_of_lt_of_le wl.lt (Nat.le_of_eq g714.symm))
 have VH : a_D2 ≠ b714 := Nat.ne_of_lt (Nat.lt_of_lt_of_le wn.lt (Nat.le_of_eq g714.symm))
 have JW : n0 ≤ b714 := Nat.le_trans Z0 (Nat.le_trans (Keep.refl h0 []).1 (Nat.le_of_eq g714.symm))
 have KU : h0.size ≤ b714 := Nat.le_trans (Keep.refl h0 []).1 (Nat.le_of_eq g714.symm)
 have wh := wh.ext E714
 have wu := wu.ext E714
 have wa := wa.ext E714
 have wl := wl.ext E714
 have wf := wf.ext E714
 have wn := wn.ext E714
 have wg := wg.ext E714
 have K714 := (Keep.refl h0 []).ext E714
 have kG := A714
 have kN : fDQ Z h714 b714 .null := D714 (Or.inl (tb hw 47 rfl)) (ty := (.array .byte)) (by decide)
 have jg : fCQ Z h714 b714 (.int 0) := D714 (Or.inl (tb hw 49 rfl)) (ty := .byte) (by decide)
 have kX : fEQ Z h714 b714 (.int 0) := D714 (Or.inl (tb hw 92 rfl)) (ty := .int) (by decide)
 refine Ends.j 3 [.ref b714] st714 ?_
 refine oxd X714 hy d5_3 4 rfl (oH X714 hy d5_4 6 8 rfl ?_)
 refine cI X714 hy hml hown hZ hw d5_6 9 1 33 34 35 32 rfl rfl rfl rfl rfl (rmsb l Z a0 hw [] b714 (.null : Value) (0 : Int32) cs h714 n0 (Nat.le_trans Z0 K714.1) kG kN jg kX JW wa hcs) e714 pd_5 rfl rfl fun _ T715 Lc715 X715 hQ715 => ?_
 obtain ⟨vb_715, kb_715, rfl, Nq715, Kq715, fq715_0, Yp, fq715_2, kN, jg, kX, Ks, Yy⟩ := hQ715
 have N715 := Fr.app N0 Nq715
 have Vx : o0 ≠ vb_715 := Nat.ne_of_lt (Nat.lt_of_lt_of_le wh.lt fq715_0)
 have WC : a_D1 ≠ vb_715 := Nat.ne_of_lt (Nat.lt_of_lt_of_le wl.lt fq715_0)
 have Wt : a_D2 ≠ vb_715 := Nat.ne_of_lt (Nat.lt_of_lt_of_le wn.lt fq715_0)
 have Wq : b714 ≠ vb_715 := Nat.ne_of_lt (Nat.lt_of_lt_of_le kG.lt fq715_0)
 have JM := Nat.le_trans K714.1 fq715_0
 have wa := own_sta_keep wa Kq715 (allS kG.cell all0)
 have wf := own_sta_keep wf Kq715 (allS kG.cell all0)
 have wg := own_sta_keep wg Kq715 (allS kG.cell all0)
 have wh := wh.keep Kq715
 have wu := wu.keep Kq715 (ninS zT nin0)
 have wl := wl.keep Kq715 (ninS Ka nin0)
 have wn := wn.keep Kq715 (ninS VH nin0)
 have kG := fq715_2
 have K715 := K714.trans Kq715 (allS (Or.inr KU) all0)
 refine Ends.u (oxt X715 hy d5_9 10 #[rv o0, jv q1, ss, rv b714] rfl (oA X715 hy d5_10 11 rfl (oA X715 hy d5_11 12 rfl (oE X715 hy d5_12 13 rfl ?_))))
 refine cP X715 hy hml hown hZ hw d5_13 16 0 50 51 28 52 53 8 rfl rfl rfl rfl rfl rfl rfl (rmap9 l Z a0 hw [] o0 b714 q1 pl vb_715 kb_715 cs a_D1 k_a_D1 a_D2 k_a_D2 T715.heap n0 (Nat.le_trans Z0 K715.1) wh wu kG kN jg kX Ks Yy JW Yp Wq wa hcs wl wf wn wg zT Vx WC Wt h0q hpl g1 g2) rfl pd_28 wh rfl rfl fun _ T716 Lc716 X716 hQ716 => ?_
 obtain ⟨b_716, k2_716, rfl, Nq716, Kq716, fq716_0, kN, jg, kX, xx, xV, fq716_6, g_b_716⟩ := hQ716
 have N716 := Fr.app N715 Nq716
 have WX : b714 ≠ b_716 := Nat.ne_of_lt (Nat.lt_of_lt_of_le kG.lt fq716_6)
 have wa := own_sta_keep wa Kq716 (allS kG.cell (allS Ks.cell all0))
 have kG := fq716_0
 have K716 := K715.trans Kq716 (allS (Or.inr KU) (allS (Or.inr JM) all0))
 refine Ends.u (oA X716 hy d5_16 17 rfl ?_)
 refine cV X716 hy hml hown hZ hw d5_17 20 0 148 149 151 150 152 32 rfl rfl rfl rfl rfl rfl (rmtos10 l Z a0 hw [] b714 b_716 k2_716 cs (112 : Int32) (own_dg (((((q1 % pl) * (7919 : Int64)) % pl)).toInt / 100 / 100 / 100 / 100)) (own_dg (((((q1 % pl) * (7919 : Int64)) % pl)).toInt / 100 / 100 / 100 / 10)) (own_dg (((((q1 % pl) * (7919 : Int64)) % pl)).toInt / 100 / 100 / 100)) (own_dg (((((q1 % pl) * (7919 : Int64)) % pl)).toInt / 100 / 100 / 10)) (own_dg (((((q1 % pl) * (7919 : Int64)) % pl)).toInt / 100 / 100)) (own_dg (((((q1 % pl) * (7919 : Int64)) % pl)).toInt / 100 / 10)) (own_dg (((((q1 % pl) * (7919 : Int64)) % pl)).toInt / 100)) (own_dg (((((q1 % pl) * (7919 : Int64)) % pl)).toInt / 10)) (own_dg (((((q1 % pl) * (7919 : Int64)) % pl)).toInt)) T716.heap n0 (Nat.le_trans Z0 K716.1) kG kN jg kX xx xV WX wa hcs) rfl pd_29 kG rfl rfl fun _ T717 Lc717 X717 hQ717 => ?_
 obtain ⟨x_717, b_717, k2_717, rfl, Nq717, Kq717, fq717_0, fq717_1, YC, YM, xm, Vc, Vl, xw, xU, Wh⟩ := hQ717
 have N717 := Fr.app N716 Nq717
 have UF := Nat.le_trans K716.1 fq717_0
 have UP := Nat.le_trans K716.1 fq717_1
 have K717 := K716.trans Kq717 all0
 refine Ends.v ?_
 exact fA X717 hy hrt hlk hQQ d5_20 rfl rfl rfl (by decide) ⟨x_717, b_717, k2_717, rfl, N717, K717, UF, UP, YC, YM, xm, Vc, Vl, xw, xU, Wh⟩
theorem d37_0 : decode cD4 0 = .ok (.lload_n 2, 1) := by decide +kernel
theorem d37_1 : decode cD4 1 = .ok (.lconst 0, 1) := by decide +kernel
theorem d37_2 : decode cD4 2 = .ok (.lcmp, 1) := by decide +kernel
theorem d37_3 : decode cD4 3 = .ok (.ifCond .ge 5, 3) := by decide +kernel
theorem d37_8 : decode cD4 8 = .ok (.iload_n 1, 1) := by decide +kernel
theorem d37_9 : decode cD4 9 = .ok (.aload_n 0, 1) := by decide +kernel
theorem d37_10 : decode cD4 10 = .ok (.invokevirtual 34, 3) := by decide +kernel
theorem d37_13 : decode cD4 13 = .ok (.if_icmp .lt 5, 3) := by decide +kernel
theorem d37_16 : decode cD4 16 = .ok (.lload_n 2, 1) := by decide +kernel
theorem d37_17 : decode cD4 17 = .ok (.lreturn, 1) := by decide +kernel
def Qstx (Z : State) (o0 : Addr) (p1 : Int32) (q2 : Int64) (t : Addr) (k : ClassId) (n : Int32) (vs : List Value) (cs : Int32) (h0 : Heap) (n0 : Nat) : QT := fun v h L => (v = some (.long q2)) ∧ (Fr n0 L) ∧ (h = h0)
theorem rmstx (l : Launch) (Z : State) (a0 : Array Value) (hw : TW a0 Z) (ws : List Jvm.Cond) (o0 : Addr) (p1 : Int32) (q2 : Int64) (t : Addr) (k : ClassId) (n : Int32) (vs : List Value) (cs : Int32) (h0 : Heap) (n0 : Nat) (Z0 : n0 ≤ h0.size) (wh : eAQ Z h0 o0) (wd : fBQ Z h0 o0 (.ref t)) (A_t : Arv Z h0 t k .byte n vs (.int 0)) (wa : sHQ Z h0 (.int cs)) (hcs : ¬ cs = (0 : Int32)) (wb : fAQ Z h0 o0 (.int 0)) (h0v : ¬ q2 < (0 : Int64)) (hge : ¬ p1 < n) :
  MF l mN25 method_3_code 5 (some .long) ws (rmm 2 0 0 26) #[.ref o0, .int p1, .long q2] Z h0 (Qstx Z o0 p1 q2 t k n vs cs h0 n0) := by
 refine MF.of (plainFor_of_name pn_10) ?_
 intro p e s m below meth c s₁ QQ hy hml hown hZ X0 e0 hrt hlk hnm hQQ
 have N0 := Fr.nil n0
 refine Ends.i #[rv o0, iv p1, jv q2, ss, uu] (oE X0 hy d37_0 1 rfl (oJ X0 hy d37_1 2 0 rfl (oY X0 hy d37_2 3 ?_)))
 have hc3 : ¬ (q2 < (0 : Int64)) := h0v
 refine oxk X0 hy d37_3 8 (XT.ll_ge_t hc3) (oC X0 hy d37_8 9 rfl (oA X0 hy d37_9 10 rfl ?_))
 refine cV X0 hy hml hown hZ hw d37_10 13 1 190 108 110 109 111 44 rfl rfl rfl rfl rfl rfl (rmlen l Z a0 hw [] o0 t k n vs cs h0 n0 Z0 wh wd A_t wa hcs wb) e0 pd_10 wh rfl rfl fun _ T718 Lc718 X718 hQ718 => ?_
 obtain ⟨rfl, Nq718, hh718⟩ := hQ718
 have N718 := Fr.app N0 Nq718
 refine Ends.v ?_
 have hc13 : ¬ (p1 < n) := hge
 refine oxi X718 hy d37_13 16 (XT.ii_lt_f hc13) (oE X718 hy d37_16 17 rfl ?_)
 exact fJ X718 hy hrt hlk hQQ d37_17 hh718 (by decide) ⟨rfl, N718, rfl⟩
theorem d37_18 : decode cD4 18 = .ok (.aload_n 0, 1) := by decide +kernel
theorem d37_19 : decode cD4 19 = .ok (.iload_n 1, 1) := by decide +kernel
theorem d37_20 : decode cD4 20 = .ok (.invokevirtual 40, 3) := by decide +kernel
theorem d37_23 : decode cD4 23 = .ok (.istore 4, 2) := by decide +kernel
theorem d37_25 : decode cD4 25 = .ok (.iload 4, 2) := by decide +kernel
theorem d37_27 : decode cD4 27 = .ok (.bipush 48, 2) := by decide +kernel
theorem d37_29 : decode cD4 29 = .ok (.if_icmp .lt 10, 3) := by decide +kernel
theorem d37_32 : decode cD4 32 = .ok (.iload 4, 2) := by decide +kernel
theorem d37_34 : decode cD4 34 = .ok (.bipush 57, 2) := by decide +kernel
theorem d37_36 : decode cD4 36 = .ok (.if_icmp .le 7, 3) := by decide +kernel
theorem d37_43 : decode cD4 43 = .ok (.lload_n 2, 1) := by decide +kernel
theorem d37_44 : decode cD4 44 = .ok (.ldc2_w 52, 3) := by decide +kernel
theorem d37_47 : decode cD4 47 = .ok (.lmul, 1) := by decide +kernel
theorem d37_48 : decode cD4 48 = .ok (.iload 4, 2) := by decide +kernel
theorem d37_50 : decode cD4 50 = .ok (.bipush 48, 2) := by decide +kernel
theorem d37_52 : decode cD4 52 = .ok (.isub, 1) := by decide +kernel
theorem d37_53 : decode cD4 53 = .ok (.i2l, 1) := by decide +kernel
theorem d37_54 : decode cD4 54 = .ok (.ladd, 1) := by decide +kernel
theorem d37_55 : decode cD4 55 = .ok (.lreturn, 1) := by decide +kernel
def Qstd (Z : State) (o0 : Addr) (p1 : Int32) (q2 : Int64) (t : Addr) (k : ClassId) (n : Int32) (vs : List Value) (cs b : Int32) (sf : Value) (w : Int64) (h0 : Heap) (n0 : Nat) : QT := fun v h L => (v = some (.long w)) ∧ (Fr n0 L) ∧ (h = h0)
theorem rmstd (l : Launch) (Z : State) (a0 : Array Value) (hw : TW a0 Z) (ws : List Jvm.Cond) (o0 : Addr) (p1 : Int32) (q2 : Int64) (t : Addr) (k : ClassId) (n : Int32) (vs : List Value) (cs b : Int32) (sf : Value) (w : Int64) (h0 : Heap) (n0 : Nat) (Z0 : n0 ≤ h0.size) (wh : eAQ Z h0 o0) (wd : fBQ Z h0 o0 (.ref t)) (A_t : Arv Z h0 t k .byte n vs (.int 0)) (wa : sHQ Z h0 (.int cs)) (hcs : ¬ cs = (0 : Int32)) (wb : fAQ Z h0 o0 (.int 0)) (wi : sIQ Z h0 sf) (wz : sf.isRef = true) (h1 : ¬ p1 < (0 : Int32)) (h2 : p1 < n) (hbt : vs.getD p1.toNatClampNeg (.int 0) = .int b) (h0v : ¬ q2 < (0 : Int64)) (hb1 : ¬ (b &&& (255 : Int32)) < (48 : Int32)) (hb2 : ¬ (57 : Int32) < (b &&& (255 : Int32))) (hwv : ((q2 * (10 : Int64)) + ((b &&& (255 : Int32)) - (48 : Int32)).toInt64) = w) :
  MF l mN25 method_3_code 5 (some .long) ws (rmm 4 0 0 53) #[.ref o0, .int p1, .long q2] Z h0 (Qstd Z o0 p1 q2 t k n vs cs b sf w h0 n0) := by
 refine MF.of (plainFor_of_name pn_10) ?_
 intro p e s m below meth c s₁ QQ hy hml hown hZ X0 e0 hrt hlk hnm hQQ
 have N0 := Fr.nil n0
 refine Ends.i #[rv o0, iv p1, jv q2, ss, uu] (oE X0 hy d37_0 1 rfl (oJ X0 hy d37_1 2 0 rfl (oY X0 hy d37_2 3 ?_)))
 have hc3 : ¬ (q2 < (0 : Int64)) := h0v
 refine oxk X0 hy d37_3 8 (XT.ll_ge_t hc3) (oC X0 hy d37_8 9 rfl (oA X0 hy d37_9 10 rfl ?_))
 refine cV X0 hy hml hown hZ hw d37_10 13 1 190 108 110 109 111 44 rfl rfl rfl rfl rfl rfl (rmlen l Z a0 hw [] o0 t k n vs cs h0 n0 Z0 wh wd A_t wa hcs wb) e0 pd_10 wh rfl rfl fun _ T719 Lc719 X719 hQ719 => ?_
 obtain ⟨rfl, Nq719, hh719⟩ := hQ719
 have N719 := Fr.app N0 Nq719
 refine Ends.v ?_
 have hc13 : p1 < n := h2
 refine oxl X719 hy d37_13 18 (XT.ii_lt_t hc13) (oA X719 hy d37_18 19 rfl (oC X719 hy d37_19 20 rfl ?_))
 refine cV X719 hy hml hown hZ hw d37_20 23 0 191 192 194 193 195 44 rfl rfl rfl rfl rfl rfl (rmcha l Z a0 hw [] o0 p1 t k n vs b cs sf h0 n0 Z0 wh wd A_t wa hcs wb wi wz h1 h2 hbt) hh719 pd_30 wh rfl rfl fun _ T720 Lc720 X720 hQ720 => ?_
 obtain ⟨rfl, Nq720, hh720⟩ := hQ720
 have N720 := Fr.app N719 Nq720
 refine Ends.v (oxo X720 hy d37_23 25 #[rv o0, iv p1, jv q2, ss, iv (b &&& (255 : Int32))] rfl (oD X720 hy d37_25 27 rfl (oH X720 hy d37_27 29 48 rfl ?_)))
 have hc29 : ¬ ((b &&& (255 : Int32)) < (48 : Int32)) := hb1
 refine oxi X720 hy d37_29 32 (XT.ii_lt_f hc29) (oD X720 hy d37_32 34 rfl (oH X720 hy d37_34 36 57 rfl ?_))
 have hc36 : ¬ ((57 : Int32) < (b &&& (255 : Int32))) := hb2
 refine oxl X720 hy d37_36 43 (XT.ii_le_t hc36) (oE X720 hy d37_43 44 rfl (oJ2 X720 hy hown hZ hw d37_44 47 10 216 rfl (oU X720 hy d37_47 48 (oD X720 hy d37_48 50 rfl (oH X720 hy d37_50 52 48 rfl (oL X720 hy d37_52 53 (oxa X720 hy d37_53 54 (oS X720 hy d37_54 55 ?_))))))))
 exact fJ X720 hy hrt hlk hQQ d37_55 hh720 (by decide) ⟨(by rw [hwv]), N720, rfl⟩
def Q0 (Z : State) (q0 q1 q2 : Int64) (cs : Int32) (sf : Value) (a_D1 : Addr) (k_a_D1 : ClassId) (a_D2 : Addr) (k_a_D2 : ClassId) (h0 : Heap) (n0 : Nat) : QT := fun v h L => (v = some (.int 1)) ∧ (Fr n0 L) ∧ (Keep h0 h [])
abbrev qM0 (x8_2 x6_1 : Int64) : List Value := [.int 112, .int 48, .int 48, .int 48, .int 48, .int 48, .int 48, (.int (own_dg (((((x8_2 % x6_1) * (7919 : Int64)) % x6_1)).toInt)))]
abbrev qM1 (x8_2 x6_1 : Int64) : List Value := [.int 112, .int 48, .int 48, .int 48, .int 48, .int 48, (.int (own_dg (((((x8_2 % x6_1) * (7919 : Int64)) % x6_1)).toInt / 10))), (.int (own_dg (((((x8_2 % x6_1) * (7919 : Int64)) % x6_1)).toInt)))]
abbrev qM2 (x8_2 x6_1 : Int64) : List Value := [.int 112, .int 48, .int 48, .int 48, .int 48, (.int (own_dg (((((x8_2 % x6_1) * (7919 : Int64)) % x6_1)).toInt / 100))), (.int (own_dg (((((x8_2 % x6_1) * (7919 : Int64)) % x6_1)).toInt / 10))), (.int (own_dg (((((x8_2 % x6_1) * (7919 : Int64)) % x6_1)).toInt)))]
abbrev qM3 (x8_2 x6_1 : Int64) : List Value := [.int 112, .int 48, .int 48, .int 48, (.int (own_dg (((((x8_2 % x6_1) * (7919 : Int64)) % x6_1)).toInt / 100 / 10))), (.int (own_dg (((((x8_2 % x6_1) * (7919 : Int64)) % x6_1)).toInt / 100))), (.int (own_dg (((((x8_2 % x6_1) * (7919 : Int64)) % x6_1)).toInt / 10))), (.int (own_dg (((((x8_2 % x6_1) * (7919 : Int64)) % x6_1)).toInt)))]
abbrev qM4 (x8_2 x6_1 : Int64) : List Value := [.int 112, .int 48, .int 48, (.int (own_dg (((((x8_2 % x6_1) * (7919 : Int64)) % x6_1)).toInt / 100 / 100))), (.int (own_dg (((((x8_2 % x6_1) * (7919 : Int64)) % x6_1)).toInt / 100 / 10))), (.int (own_dg (((((x8_2 % x6_1) * (7919 : Int64)) % x6_1)).toInt / 100))), (.int (own_dg (((((x8_2 % x6_1) * (7919 : Int64)) % x6_1)).toInt / 10))), (.int (own_dg (((((x8_2 % x6_1) * (7919 : Int64)) % x6_1)).toInt)))]
abbrev qM5 (x8_2 x6_1 : Int64) : List Value := [.int 112, .int 48, (.int (own_dg (((((x8_2 % x6_1) * (7919 : Int64)) % x6_1)).toInt / 100 / 100 / 10))), (.int (own_dg (((((x8_2 % x6_1) * (7919 : Int64)) % x6_1)).toInt / 100 / 100))), (.int (own_dg (((((x8_2 % x6_1) * (7919 : Int64)) % x6_1)).toInt / 100 / 10))), (.int (own_dg (((((x8_2 % x6_1) * (7919 : Int64)) % x6_1)).toInt / 100))), (.int (own_dg (((((x8_2 % x6_1) * (7919 : Int64)) % x6_1)).toInt / 10))), (.int (own_dg (((((x8_2 % x6_1) * (7919 : Int64)) % x6_1)).toInt)))]
abbrev qM6 (x8_2 x6_1 : Int64) : List Value := [.int 112, (.int (own_dg (((((x8_2 % x6_1) * (7919 : Int64)) % x6_1)).toInt / 100 / 100 / 100))), (.int (own_dg (((((x8_2 % x6_1) * (7919 : Int64)) % x6_1)).toInt / 100 / 100 / 10))), (.int (own_dg (((((x8_2 % x6_1) * (7919 : Int64)) % x6_1)).toInt / 100 / 100))), (.int (own_dg (((((x8_2 % x6_1) * (7919 : Int64)) % x6_1)).toInt / 100 / 10))), (.int (own_dg (((((x8_2 % x6_1) * (7919 : Int64)) % x6_1)).toInt / 100))), (.int (own_dg (((((x8_2 % x6_1) * (7919 : Int64)) % x6_1)).toInt / 10))), (.int (own_dg (((((x8_2 % x6_1) * (7919 : Int64)) % x6_1)).toInt)))]
abbrev qM7 (x8_2 x6_1 : Int64) : List Value := [.int 112, (.int (own_dg (((((x8_2 % x6_1) * (7919 : Int64)) % x6_1)).toInt / 100 / 100 / 100 / 10))), (.int (own_dg (((((x8_2 % x6_1) * (7919 : Int64)) % x6_1)).toInt / 100 / 100 / 100))), (.int (own_dg (((((x8_2 % x6_1) * (7919 : Int64)) % x6_1)).toInt / 100 / 100 / 10))), (.int (own_dg (((((x8_2 % x6_1) * (7919 : Int64)) % x6_1)).toInt / 100 / 100))), (.int (own_dg (((((x8_2 % x6_1) * (7919 : Int64)) % x6_1)).toInt / 100 / 10))), (.int (own_dg (((((x8_2 % x6_1) * (7919 : Int64)) % x6_1)).toInt / 100))), (.int (own_dg (((((x8_2 % x6_1) * (7919 : Int64)) % x6_1)).toInt / 10))), (.int (own_dg (((((x8_2 % x6_1) * (7919 : Int64)) % x6_1)).toInt)))]
abbrev qM8 (x8_2 x6_1 : Int64) : List Value := [.int 112, (.int (own_dg (((((x8_2 % x6_1) * (7919 : Int64)) % x6_1)).toInt / 100 / 100 / 100 / 100))), (.int (own_dg (((((x8_2 % x6_1) * (7919 : Int64)) % x6_1)).toInt / 100 / 100 / 100 / 10))), (.int (own_dg (((((x8_2 % x6_1) * (7919 : Int64)) % x6_1)).toInt / 100 / 100 / 100))), (.int (own_dg (((((x8_2 % x6_1) * (7919 : Int64)) % x6_1)).toInt / 100 / 100 / 10))), (.int (own_dg (((((x8_2 % x6_1) * (7919 : Int64)) % x6_1)).toInt / 100 / 100))), (.int (own_dg (((((x8_2 % x6_1) * (7919 : Int64)) % x6_1)).toInt / 100 / 10))), (.int (own_dg (((((x8_2 % x6_1) * (7919 : Int64)) % x6_1)).toInt / 100))), (.int (own_dg (((((x8_2 % x6_1) * (7919 : Int64)) % x6_1)).toInt / 10))), (.int (own_dg (((((x8_2 % x6_1) * (7919 : Int64)) % x6_1)).toInt)))]
theorem rm0 (l : Launch) (Z : State) (a0 : Array Value) (hw : TW a0 Z) (ws : List Jvm.Cond) (q0 q1 q2 : Int64) (cs : Int32) (sf : Value) (a_D1 : Addr) (k_a_D1 : ClassId) (a_D2 : Addr) (k_a_D2 : ClassId) (h0 : Heap) (n0 : Nat) (Z0 : n0 ≤ h0.size) (wa : sHQ Z h0 (.int cs)) (hcs : ¬ cs = (0 : Int32)) (wi : sIQ Z h0 sf) (wz : sf.isRef = true) (wl : Arv Z h0 a_D1 k_a_D1 .byte 100 own_ones (.int 0)) (wf : sJQ Z h0 (.ref a_D1)) (wn : Arv Z h0 a_D2 k_a_D2 .byte 100 own_tens (.int 0)) (wg : sKQ Z h0 (.ref a_D2)) :
  MetFree l x (head1 (Jvm.Cond.code x code maxLocals ret :: ws) room_1) (fun a U => a = #[.long q0, .long q1, .long q2] ∧ Z.Warmed39 U.vm ∧ U.heap = h0) (fun _ _ _ _ _ => True) (fun _ U o U' => ∃ v L, o = .returned v ∧ Q0 Z q0 q1 q2 cs sf a_D1 k_a_D1 a_D2 k_a_D2 h0 n0 v U'.heap L ∧ FrameEnd U o U' L room_1.cells room_1.slots) := by
 refine MF.of (plainFor_of_name pn_10) ?_
 intro p e s m below meth c s₁ QQ hy hml hown hZ X0 e0 hrt hlk hnm hQQ
 have hx := hy.1
 have hby := hy.2
 have N0 := Fr.nil n0
 refine Ends.i #[jv q0, ss, jv q1, ss, jv q2, ss, uu, uu, uu, uu, uu, uu, uu, uu, uu, uu, uu, uu, uu] (oE X0 hy at_0 1 rfl (oJ2 X0 hy hown hZ hw at_1 4 9223372036854775807 0 rfl (oV X0 hy at_4 5 (oJ2 X0 hy hown hZ hw at_5 8 1000000000 1 rfl (lremO X0 hy at_8 9 (by decide) (oJ X0 hy at_9 10 1 rfl (oS X0 hy at_10 11 (oxq X0 hy at_11 13 #[jv q0, ss, jv q1, ss, jv q2, ss, jv (((q0 &&& (9223372036854775807 : Int64)) % (1000000000 : Int64)) + (1 : Int64)), ss, uu, uu, uu, uu, uu, uu, uu, uu, uu, uu, uu] rfl ?_))))))))
 generalize hv6_1 : (((q0 &&& (9223372036854775807 : Int64)) % (1000000000 : Int64)) + (1 : Int64)) = x6_1
 refine oE X0 hy at_13 14 rfl (oJ2 X0 hy hown hZ hw at_14 17 9223372036854775807 0 rfl (oV X0 hy at_17 18 (oxq X0 hy at_18 20 #[jv q0, ss, jv q1, ss, jv q2, ss, jv x6_1, ss, jv (q1 &&& (9223372036854775807 : Int64)), ss, uu, uu, uu, uu, uu, uu, uu, uu, uu] rfl ?_)))
 generalize hv8_2 : (q1 &&& (9223372036854775807 : Int64)) = x8_2
 refine oJ X0 hy at_20 21 1 rfl (oF X0 hy at_21 23 rfl ?_)
 refine cS X0 hy hml hown hZ hw at_23 26 0 2 3 4 5 rfl rfl rfl rfl (rmmxj l Z a0 hw [] (1 : Int64) q2 h0 n0 Z0) e0 pd_31 rfl rfl fun _ T721 Lc721 X721 hQ721 => ?_
 obtain ⟨rfl, Nq721, hh721⟩ := hQ721
 have N721 := Fr.app N0 Nq721
 refine Ends.v (oxq X721 hy at_26 28 #[jv q0, ss, jv q1, ss, jv q2, ss, jv x6_1, ss, jv x8_2, ss, jv (fmxj (1 : Int64) q2), ss, uu, uu, uu, uu, uu, uu, uu] rfl ?_)
 obtain ⟨T722, h722, X722, e722, E722, A722, D722, U722, st722⟩ := newO X721 hx hZ hown (tb hw 6 rfl) (tb hw 7 rfl) (tb hw 8 rfl) hh721 (g := (mkF m 28 #[jv q0, ss, jv q1, ss, jv q2, ss, jv x6_1, ss, jv x8_2, ss, jv (fmxj (1 : Int64) q2), ss, uu, uu, uu, uu, uu, uu, uu] [])) rfl (hb hby at_28) (by decide) (by decide)
 obtain ⟨b722, g722⟩ : ∃ z, z = h0.size := ⟨_, rfl⟩
 rw [← g722] at A722 D722 U722 st722
 have VZ : a_D1 ≠ b722 := Nat.ne_of_lt (Nat.lt_of_lt_of_le wl.lt (Nat.le_of_eq g722.symm))
 have VG : a_D2 ≠ b722 := Nat.ne_of_lt (Nat.lt_of_lt_of_le wn.lt (Nat.le_of_eq g722.symm))
 have Gu : n0 ≤ b722 := Nat.le_trans Z0 (Nat.le_trans (Keep.refl h0 []).1 (Nat.le_of_eq g722.symm))
 have YA : h0.size ≤ b722 := Nat.le_trans (Keep.refl h0 []).1 (Nat.le_of_eq g722.symm)
 have wa := wa.ext E722
 have wi := wi.ext E722
 have wl := wl.ext E722
 have wf := wf.ext E722
 have wn := wn.ext E722
 have wg := wg.ext E722
 have K722 := (Keep.refl h0 []).ext E722
 have vw := A722
 have vi : fFQ Z h722 b722 (.long 0) := D722 (Or.inr (tb hw 22 rfl)) (ty := .long) (by decide)
 have WL : fGQ Z h722 b722 (.long 0) := D722 (Or.inr (tb hw 24 rfl)) (ty := .long) (by decide)
 refine Ends.j 31 [.ref b722] st722 ?_
 refine oxd X722 hy at_31 32 rfl (oF X722 hy at_32 34 rfl (oF X722 hy at_34 36 rfl ?_))
 refine cI X722 hy hml hown hZ hw at_36 39 1 9 10 11 8 rfl rfl rfl rfl rfl (rmldi l Z a0 hw [] b722 x6_1 (fmxj (1 : Int64) q2) (0 : Int64) (0 : Int64) h722 n0 (Nat.le_trans Z0 K722.1) vw vi WL Gu (own_h1 (own_pl hv6_1).1) (own_h2 (own_pl hv6_1).2) (own_mxj _)) e722 pd_32 rfl rfl fun _ T723 Lc723 X723 hQ723 => ?_
 obtain ⟨rfl, Nq723, Kq723, fq723_0, vi⟩ := hQ723
 have N723 := Fr.app N721 Nq723
 have wa := own_sta_keep wa Kq723 (allS vw.cell all0)
 have wi := own_sta_keep wi Kq723 (allS vw.cell all0)
 have wf := own_sta_keep wf Kq723 (allS vw.cell all0)
 have wg := own_sta_keep wg Kq723 (allS vw.cell all0)
 have wl := wl.keep Kq723 (ninS VZ nin0)
 have wn := wn.keep Kq723 (ninS VG nin0)
 have vw := fq723_0
 have K723 := K722.trans Kq723 (allS (Or.inr YA) all0)
 refine Ends.u (oxs X723 hy at_39 41 #[jv q0, ss, jv q1, ss, jv q2, ss, jv x6_1, ss, jv x8_2, ss, jv (fmxj (1 : Int64) q2), ss, rv b722, uu, uu, uu, uu, uu, uu] rfl (oB X723 hy at_41 43 rfl (oF X723 hy at_43 45 rfl ?_)))
 have hP := own_pl hv6_1
 have hK := own_kk hv8_2
 have hW := own_w0 hK hP.1 hP.2
 by_cases hs45_724 : ((((x8_2 % x6_1) * (7919 : Int64)) % x6_1)).toInt < 10
 ·show Ends p e below QQ (T723.setTop (mkF m 45 #[jv q0, ss, jv q1, ss, jv q2, ss, jv x6_1, ss, jv x8_2, ss, jv (fmxj (1 : Int64) q2), ss, rv b722, uu, uu, uu, uu, uu, uu] [.long x8_2, .ref b722]))
  refine cV X723 hy hml hown hZ hw at_45 48 0 25 26 28 27 29 8 rfl rfl rfl rfl rfl rfl (rmpl1 l Z a0 hw [] b722 x8_2 x6_1 cs a_D1 k_a_D1 a_D2 k_a_D2 T723.heap n0 (Nat.le_trans Z0 K723.1) vw vi wa hcs wl wf wn wg (own_ge0 hK) (own_plnz hP.1) hs45_724 (by omega)) rfl pd_25 vw rfl rfl fun _ T725 Lc725 X725 hQ725 => ?_
  obtain ⟨sx_725, sa_725, sk_725, rfl, Nq725, Kq725, fq725_0, fq725_1, g_sx_725, g_sa_725, vV, vh, vt, fq725_7, kx, fq725_9⟩ := hQ725
  have N725 := Fr.app N723 Nq725
  have wa := own_sta_keep wa Kq725 all0
  have wi := own_sta_keep wi Kq725 all0
  have K725 := K723.trans Kq725 all0
  refine Ends.v (oxs X725 hy at_48 50 #[jv q0, ss, jv q1, ss, jv q2, ss, jv x6_1, ss, jv x8_2, ss, jv (fmxj (1 : Int64) q2), ss, rv b722, rv sx_725, uu, uu, uu, uu, uu] rfl (oF X725 hy at_50 52 rfl (oF X725 hy at_52 54 rfl (lremO X725 hy at_54 55 (own_plnz hP.1) (oJ2 X725 hy hown hZ hw at_55 58 7919 187 rfl (oF X725 hy at_58 60 rfl (lremO X725 hy at_60 61 (own_plnz hP.1) (oU X725 hy at_61 62 (oF X725 hy at_62 64 rfl ?_)))))))))
  refine lremO X725 hy at_64 65 (own_plnz hP.1) (oxq X725 hy at_65 67 #[jv q0, ss, jv q1, ss, jv q2, ss, jv x6_1, ss, jv x8_2, ss, jv (fmxj (1 : Int64) q2), ss, rv b722, rv sx_725, jv (((x8_2 % x6_1) * ((7919 : Int64) % x6_1)) % x6_1), ss, uu, uu, uu] rfl ?_)
  generalize hv14_3 : (((x8_2 % x6_1) * ((7919 : Int64) % x6_1)) % x6_1) = x14_3
  have hN : x14_3 = (((x8_2 % x6_1) * (7919 : Int64)) % x6_1) := by rw [← hv14_3]; exact own_wl hK hP.1 hP.2
  refine oF X725 hy at_67 69 rfl (oJ2 X725 hy hown hZ hw at_69 72 100000000 188 rfl (oY X725 hy at_72 73 ?_))
  have hc73 : x14_3 < (100000000 : Int64) := (by rw [hN, Int64.lt_iff_toInt_lt, show (100000000 : Int64).toInt = 100000000 from by decide]; omega)
  refine oxk X725 hy at_73 81 (XT.ll_lt_t hc73) (oF X725 hy at_81 83 rfl (oJ2 X725 hy hown hZ hw at_83 86 10000000 189 rfl (oY X725 hy at_86 87 ?_)))
  have hc87 : x14_3 < (10000000 : Int64) := (by rw [hN, Int64.lt_iff_toInt_lt, show (10000000 : Int64).toInt = 10000000 from by decide]; omega)
  refine oxk X725 hy at_87 95 (XT.ll_lt_t hc87) (oH X725 hy at_95 97 8 rfl (oxo X725 hy at_97 99 #[jv q0, ss, jv q1, ss, jv q2, ss, jv x6_1, ss, jv x8_2, ss, jv (fmxj (1 : Int64) q2), ss, rv b722, rv sx_725, jv x14_3, ss, iv 8, uu, uu] rfl (oB X725 hy at_99 101 rfl ?_)))
  refine cV X725 hy hml hown hZ hw at_101 104 0 190 108 110 109 111 44 rfl rfl rfl rfl rfl rfl (rmlen l Z a0 hw [] sx_725 sa_725 sk_725 (8 : Int32) (qM0 x8_2 x6_1) cs T725.heap n0 (Nat.le_trans Z0 K725.1) vV vh kx wa hcs vt) rfl pd_10 vV rfl rfl fun _ T726 Lc726 X726 hQ726 => ?_
  obtain ⟨rfl, Nq726, hh726⟩ := hQ726
  have N726 := Fr.app N725 Nq726
  refine Ends.v (oD X726 hy at_104 106 rfl (oxl X726 hy at_106 111 (XT.ii_eq_t (by decide)) (oB X726 hy at_111 113 rfl (oG X726 hy at_113 114 0 rfl ?_))))
  refine cV X726 hy hml hown hZ hw at_114 117 0 191 192 194 193 195 44 rfl rfl rfl rfl rfl rfl (rmcha l Z a0 hw [] sx_725 (0 : Int32) sa_725 sk_725 (8 : Int32) (qM0 x8_2 x6_1) (112 : Int32) cs sf T725.heap n0 (Nat.le_trans Z0 K725.1) vV vh kx wa hcs vt wi wz (by decide) (by decide) rfl) hh726 pd_30 vV rfl rfl fun _ T727 Lc727 X727 hQ727 => ?_
  obtain ⟨rfl, Nq727, hh727⟩ := hQ727
  have N727 := Fr.app N726 Nq727
  refine Ends.v (oH X727 hy at_117 119 112 rfl ?_)
  have hc119 : ((112 : Int32) &&& (255 : Int32)) = (112 : Int32) := (by decide)
  refine oxl X727 hy at_119 124 (XT.ii_eq_t hc119) (oJ X727 hy at_124 125 0 rfl (oxq X727 hy at_125 127 #[jv q0, ss, jv q1, ss, jv q2, ss, jv x6_1, ss, jv x8_2, ss, jv (fmxj (1 : Int64) q2), ss, rv b722, rv sx_725, jv x14_3, ss, iv 8, jv 0, ss] rfl (oB X727 hy at_127 129 rfl (oG X727 hy at_129 130 1 rfl (oF X727 hy at_130 132 rfl ?_)))))
  refine cS X727 hy hml hown hZ hw at_132 135 0 212 213 214 215 rfl rfl rfl rfl (rmstd l Z a0 hw [] sx_725 (1 : Int32) (0 : Int64) sa_725 sk_725 (8 : Int32) (qM0 x8_2 x6_1) cs (48 : Int32) sf (0 : Int64) T725.heap n0 (Nat.le_trans Z0 K725.1) vV vh kx wa hcs vt wi wz (by decide) (by decide) rfl (by decide) (by decide) (by decide) (by decide)) hh727 pd_33 rfl rfl fun _ T728 Lc728 X728 hQ728 => ?_
  obtain ⟨rfl, Nq728, hh728⟩ := hQ728
  have N728 := Fr.app N727 Nq728
  refine Ends.v (oxq X728 hy at_135 137 #[jv q0, ss, jv q1, ss, jv q2, ss, jv x6_1, ss, jv x8_2, ss, jv (fmxj (1 : Int64) q2), ss, rv b722, rv sx_725, jv x14_3, ss, iv 8, jv 0, ss] rfl (oB X728 hy at_137 139 rfl (oG X728 hy at_139 140 2 rfl (oF X728 hy at_140 142 rfl ?_))))
  refine cS X728 hy hml hown hZ hw at_142 145 0 212 213 214 215 rfl rfl rfl rfl (rmstd l Z a0 hw [] sx_725 (2 : Int32) (0 : Int64) sa_725 sk_725 (8 : Int32) (qM0 x8_2 x6_1) cs (48 : Int32) sf (0 : Int64) T725.heap n0 (Nat.le_trans Z0 K725.1) vV vh kx wa hcs vt wi wz (by decide) (by decide) rfl (by decide) (by decide) (by decide) (by decide)) hh728 pd_33 rfl rfl fun _ T729 Lc729 X729 hQ729 => ?_
  obtain ⟨rfl, Nq729, hh729⟩ := hQ729
  have N729 := Fr.app N728 Nq729
  refine Ends.v (oxq X729 hy at_145 147 #[jv q0, ss, jv q1, ss, jv q2, ss, jv x6_1, ss, jv x8_2, ss, jv (fmxj (1 : Int64) q2), ss, rv b722, rv sx_725, jv x14_3, ss, iv 8, jv 0, ss] rfl (oB X729 hy at_147 149 rfl (oG X729 hy at_149 150 3 rfl (oF X729 hy at_150 152 rfl ?_))))
  refine cS X729 hy hml hown hZ hw at_152 155 0 212 213 214 215 rfl rfl rfl rfl (rmstd l Z a0 hw [] sx_725 (3 : Int32) (0 : Int64) sa_725 sk_725 (8 : Int32) (qM0 x8_2 x6_1) cs (48 : Int32) sf (0 : Int64) T725.heap n0 (Nat.le_trans Z0 K725.1) vV vh kx wa hcs vt wi wz (by decide) (by decide) rfl (by decide) (by decide) (by decide) (by decide)) hh729 pd_33 rfl rfl fun _ T730 Lc730 X730 hQ730 => ?_
  obtain ⟨rfl, Nq730, hh730⟩ := hQ730
  have N730 := Fr.app N729 Nq730
  refine Ends.v (oxq X730 hy at_155 157 #[jv q0, ss, jv q1, ss, jv q2, ss, jv x6_1, ss, jv x8_2, ss, jv (fmxj (1 : Int64) q2), ss, rv b722, rv sx_725, jv x14_3, ss, iv 8, jv 0, ss] rfl (oB X730 hy at_157 159 rfl (oG X730 hy at_159 160 4 rfl (oF X730 hy at_160 162 rfl ?_))))
  refine cS X730 hy hml hown hZ hw at_162 165 0 212 213 214 215 rfl rfl rfl rfl (rmstd l Z a0 hw [] sx_725 (4 : Int32) (0 : Int64) sa_725 sk_725 (8 : Int32) (qM0 x8_2 x6_1) cs (48 : Int32) sf (0 : Int64) T725.heap n0 (Nat.le_trans Z0 K725.1) vV vh kx wa hcs vt wi wz (by decide) (by decide) rfl (by decide) (by decide) (by decide) (by decide)) hh730 pd_33 rfl rfl fun _ T731 Lc731 X731 hQ731 => ?_
  obtain ⟨rfl, Nq731, hh731⟩ := hQ731
  have N731 := Fr.app N730 Nq731
  refine Ends.v (oxq X731 hy at_165 167 #[jv q0, ss, jv q1, ss, jv q2, ss, jv x6_1, ss, jv x8_2, ss, jv (fmxj (1 : Int64) q2), ss, rv b722, rv sx_725, jv x14_3, ss, iv 8, jv 0, ss] rfl (oB X731 hy at_167 169 rfl (oG X731 hy at_169 170 5 rfl (oF X731 hy at_170 172 rfl ?_))))
  refine cS X731 hy hml hown hZ hw at_172 175 0 212 213 214 215 rfl rfl rfl rfl (rmstd l Z a0 hw [] sx_725 (5 : Int32) (0 : Int64) sa_725 sk_725 (8 : Int32) (qM0 x8_2 x6_1) cs (48 : Int32) sf (0 : Int64) T725.heap n0 (Nat.le_trans Z0 K725.1) vV vh kx wa hcs vt wi wz (by decide) (by decide) rfl (by decide) (by decide) (by decide) (by decide)) hh731 pd_33 rfl rfl fun _ T732 Lc732 X732 hQ732 => ?_
  obtain ⟨rfl, Nq732, hh732⟩ := hQ732
  have N732 := Fr.app N731 Nq732
  refine Ends.v (oxq X732 hy at_175 177 #[jv q0, ss, jv q1, ss, jv q2, ss, jv x6_1, ss, jv x8_2, ss, jv (fmxj (1 : Int64) q2), ss, rv b722, rv sx_725, jv x14_3, ss, iv 8, jv 0, ss] rfl (oB X732 hy at_177 179 rfl (oH X732 hy at_179 181 6 rfl (oF X732 hy at_181 183 rfl ?_))))
  refine cS X732 hy hml hown hZ hw at_183 186 0 212 213 214 215 rfl rfl rfl rfl (rmstd l Z a0 hw [] sx_725 (6 : Int32) (0 : Int64) sa_725 sk_725 (8 : Int32) (qM0 x8_2 x6_1) cs (48 : Int32) sf (0 : Int64) T725.heap n0 (Nat.le_trans Z0 K725.1) vV vh kx wa hcs vt wi wz (by decide) (by decide) rfl (by decide) (by decide) (by decide) (by decide)) hh732 pd_33 rfl rfl fun _ T733 Lc733 X733 hQ733 => ?_
  obtain ⟨rfl, Nq733, hh733⟩ := hQ733
  have N733 := Fr.app N732 Nq733
  refine Ends.v (oxq X733 hy at_186 188 #[jv q0, ss, jv q1, ss, jv q2, ss, jv x6_1, ss, jv x8_2, ss, jv (fmxj (1 : Int64) q2), ss, rv b722, rv sx_725, jv x14_3, ss, iv 8, jv 0, ss] rfl (oB X733 hy at_188 190 rfl (oH X733 hy at_190 192 7 rfl (oF X733 hy at_192 194 rfl ?_))))
  refine cS X733 hy hml hown hZ hw at_194 197 0 212 213 214 215 rfl rfl rfl rfl (rmstd l Z a0 hw [] sx_725 (7 : Int32) (0 : Int64) sa_725 sk_725 (8 : Int32) (qM0 x8_2 x6_1) cs (own_dg (((((x8_2 % x6_1) * (7919 : Int64)) % x6_1)).toInt)) sf (Int64.ofInt (((((x8_2 % x6_1) * (7919 : Int64)) % x6_1)).toInt)) T725.heap n0 (Nat.le_trans Z0 K725.1) vV vh kx wa hcs vt wi wz (by decide) (by decide) rfl (by decide) (own_d1 _) (own_d2 _) (own_step0 (by omega) (by omega) (by omega))) hh733 pd_33 rfl rfl fun _ T734 Lc734 X734 hQ734 => ?_
  obtain ⟨rfl, Nq734, hh734⟩ := hQ734
  have N734 := Fr.app N733 Nq734
  refine Ends.v (oxq X734 hy at_197 199 #[jv q0, ss, jv q1, ss, jv q2, ss, jv x6_1, ss, jv x8_2, ss, jv (fmxj (1 : Int64) q2), ss, rv b722, rv sx_725, jv x14_3, ss, iv 8, jv (Int64.ofInt (((((x8_2 % x6_1) * (7919 : Int64)) % x6_1)).toInt)), ss] rfl (oB X734 hy at_199 201 rfl (oH X734 hy at_201 203 8 rfl (oF X734 hy at_203 205 rfl ?_))))
  refine cS X734 hy hml hown hZ hw at_205 208 0 212 213 214 215 rfl rfl rfl rfl (rmstx l Z a0 hw [] sx_725 (8 : Int32) (Int64.ofInt (((((x8_2 % x6_1) * (7919 : Int64)) % x6_1)).toInt)) sa_725 sk_725 (8 : Int32) (qM0 x8_2 x6_1) cs T725.heap n0 (Nat.le_trans Z0 K725.1) vV vh kx wa hcs vt (own_v0 (by omega) (by omega)) (by decide)) hh734 pd_33 rfl rfl fun _ T735 Lc735 X735 hQ735 => ?_
  obtain ⟨rfl, Nq735, hh735⟩ := hQ735
  have N735 := Fr.app N734 Nq735
  refine Ends.v (oxq X735 hy at_208 210 #[jv q0, ss, jv q1, ss, jv q2, ss, jv x6_1, ss, jv x8_2, ss, jv (fmxj (1 : Int64) q2), ss, rv b722, rv sx_725, jv x14_3, ss, iv 8, jv (Int64.ofInt (((((x8_2 % x6_1) * (7919 : Int64)) % x6_1)).toInt)), ss] rfl (oB X735 hy at_210 212 rfl (oH X735 hy at_212 214 9 rfl (oF X735 hy at_214 216 rfl ?_))))
  refine cS X735 hy hml hown hZ hw at_216 219 0 212 213 214 215 rfl rfl rfl rfl (rmstx l Z a0 hw [] sx_725 (9 : Int32) (Int64.ofInt (((((x8_2 % x6_1) * (7919 : Int64)) % x6_1)).toInt)) sa_725 sk_725 (8 : Int32) (qM0 x8_2 x6_1) cs T725.heap n0 (Nat.le_trans Z0 K725.1) vV vh kx wa hcs vt (own_v0 (by omega) (by omega)) (by decide)) hh735 pd_33 rfl rfl fun _ T736 Lc736 X736 hQ736 => ?_
  obtain ⟨rfl, Nq736, hh736⟩ := hQ736
  have N736 := Fr.app N735 Nq736
  refine Ends.v (oxq X736 hy at_219 221 #[jv q0, ss, jv q1, ss, jv q2, ss, jv x6_1, ss, jv x8_2, ss, jv (fmxj (1 : Int64) q2), ss, rv b722, rv sx_725, jv x14_3, ss, iv 8, jv (Int64.ofInt (((((x8_2 % x6_1) * (7919 : Int64)) % x6_1)).toInt)), ss] rfl (oF X736 hy at_221 223 rfl (oF X736 hy at_223 225 rfl (oY X736 hy at_225 226 ?_))))
  have hc226 : (Int64.ofInt (((((x8_2 % x6_1) * (7919 : Int64)) % x6_1)).toInt)) = x14_3 := (by rw [hN]; exact Int64.ofInt_toInt _)
  refine oxh X736 hy at_226 229 (XT.ll_ne_f hc226) (oG X736 hy at_229 230 1 rfl (oxm X736 hy at_230 234 ?_))
  exact fI X736 hy hrt hlk hQQ at_234 rfl (by simp) hh736 (by decide) ⟨rfl, N736, K725⟩
 ·show Ends p e below QQ (T723.setTop (mkF m 45 #[jv q0, ss, jv q1, ss, jv q2, ss, jv x6_1, ss, jv x8_2, ss, jv (fmxj (1 : Int64) q2), ss, rv b722, uu, uu, uu, uu, uu, uu] [.long x8_2, .ref b722]))
  by_cases hs45_737 : ((((x8_2 % x6_1) * (7919 : Int64)) % x6_1)).toInt < 100
  ·refine cV X723 hy hml hown hZ hw at_45 48 0 25 26 28 27 29 8 rfl rfl rfl rfl rfl rfl (rmpl2 l Z a0 hw [] b722 x8_2 x6_1 cs a_D1 k_a_D1 a_D2 k_a_D2 T723.heap n0 (Nat.le_trans Z0 K723.1) vw vi wa hcs wl wf wn wg (own_ge0 hK) (own_plnz hP.1) hs45_737 (by omega)) rfl pd_25 vw rfl rfl fun _ T738 Lc738 X738 hQ738 => ?_
   obtain ⟨sx_738, sa_738, sk_738, rfl, Nq738, Kq738, fq738_0, fq738_1, g_sx_738, g_sa_738, vU, vg, vr, fq738_7, kw, fq738_9⟩ := hQ738
   have N738 := Fr.app N723 Nq738
   have wa := own_sta_keep wa Kq738 all0
   have wi := own_sta_keep wi Kq738 all0
   have K738 := K723.trans Kq738 all0
   refine Ends.v (oxs X738 hy at_48 50 #[jv q0, ss, jv q1, ss, jv q2, ss, jv x6_1, ss, jv x8_2, ss, jv (fmxj (1 : Int64) q2), ss, rv b722, rv sx_738, uu, uu, uu, uu, uu] rfl (oF X738 hy at_50 52 rfl (oF X738 hy at_52 54 rfl (lremO X738 hy at_54 55 (own_plnz hP.1) (oJ2 X738 hy hown hZ hw at_55 58 7919 187 rfl (oF X738 hy at_58 60 rfl (lremO X738 hy at_60 61 (own_plnz hP.1) (oU X738 hy at_61 62 (oF X738 hy at_62 64 rfl ?_)))))))))
   refine lremO X738 hy at_64 65 (own_plnz hP.1) (oxq X738 hy at_65 67 #[jv q0, ss, jv q1, ss, jv q2, ss, jv x6_1, ss, jv x8_2, ss, jv (fmxj (1 : Int64) q2), ss, rv b722, rv sx_738, jv (((x8_2 % x6_1) * ((7919 : Int64) % x6_1)) % x6_1), ss, uu, uu, uu] rfl ?_)
   generalize hv14_4 : (((x8_2 % x6_1) * ((7919 : Int64) % x6_1)) % x6_1) = x14_4
   have hN : x14_4 = (((x8_2 % x6_1) * (7919 : Int64)) % x6_1) := by rw [← hv14_4]; exact own_wl hK hP.1 hP.2
   refine oF X738 hy at_67 69 rfl (oJ2 X738 hy hown hZ hw at_69 72 100000000 188 rfl (oY X738 hy at_72 73 ?_))
   have hc73 : x14_4 < (100000000 : Int64) := (by rw [hN, Int64.lt_iff_toInt_lt, show (100000000 : Int64).toInt = 100000000 from by decide]; omega)
   refine oxk X738 hy at_73 81 (XT.ll_lt_t hc73) (oF X738 hy at_81 83 rfl (oJ2 X738 hy hown hZ hw at_83 86 10000000 189 rfl (oY X738 hy at_86 87 ?_)))
   have hc87 : x14_4 < (10000000 : Int64) := (by rw [hN, Int64.lt_iff_toInt_lt, show (10000000 : Int64).toInt = 10000000 from by decide]; omega)
   refine oxk X738 hy at_87 95 (XT.ll_lt_t hc87) (oH X738 hy at_95 97 8 rfl (oxo X738 hy at_97 99 #[jv q0, ss, jv q1, ss, jv q2, ss, jv x6_1, ss, jv x8_2, ss, jv (fmxj (1 : Int64) q2), ss, rv b722, rv sx_738, jv x14_4, ss, iv 8, uu, uu] rfl (oB X738 hy at_99 101 rfl ?_)))
   refine cV X738 hy hml hown hZ hw at_101 104 0 190 108 110 109 111 44 rfl rfl rfl rfl rfl rfl (rmlen l Z a0 hw [] sx_738 sa_738 sk_738 (8 : Int32) (qM1 x8_2 x6_1) cs T738.heap n0 (Nat.le_trans Z0 K738.1) vU vg kw wa hcs vr) rfl pd_10 vU rfl rfl fun _ T739 Lc739 X739 hQ739 => ?_
   obtain ⟨rfl, Nq739, hh739⟩ := hQ739
   have N739 := Fr.app N738 Nq739
   refine Ends.v (oD X739 hy at_104 106 rfl (oxl X739 hy at_106 111 (XT.ii_eq_t (by decide)) (oB X739 hy at_111 113 rfl (oG X739 hy at_113 114 0 rfl ?_))))
   refine cV X739 hy hml hown hZ hw at_114 117 0 191 192 194 193 195 44 rfl rfl rfl rfl rfl rfl (rmcha l Z a0 hw [] sx_738 (0 : Int32) sa_738 sk_738 (8 : Int32) (qM1 x8_2 x6_1) (112 : Int32) cs sf T738.heap n0 (Nat.le_trans Z0 K738.1) vU vg kw wa hcs vr wi wz (by decide) (by decide) rfl) hh739 pd_30 vU rfl rfl fun _ T740 Lc740 X740 hQ740 => ?_
   obtain ⟨rfl, Nq740, hh740⟩ := hQ740
   have N740 := Fr.app N739 Nq740
   refine Ends.v (oH X740 hy at_117 119 112 rfl ?_)
   have hc119 : ((112 : Int32) &&& (255 : Int32)) = (112 : Int32) := (by decide)
   refine oxl X740 hy at_119 124 (XT.ii_eq_t hc119) (oJ X740 hy at_124 125 0 rfl (oxq X740 hy at_125 127 #[jv q0, ss, jv q1, ss, jv q2, ss, jv x6_1, ss, jv x8_2, ss, jv (fmxj (1 : Int64) q2), ss, rv b722, rv sx_738, jv x14_4, ss, iv 8, jv 0, ss] rfl (oB X740 hy at_127 129 rfl (oG X740 hy at_129 130 1 rfl (oF X740 hy at_130 132 rfl ?_)))))
   refine cS X740 hy hml hown hZ hw at_132 135 0 212 213 214 215 rfl rfl rfl rfl (rmstd l Z a0 hw [] sx_738 (1 : Int32) (0 : Int64) sa_738 sk_738 (8 : Int32) (qM1 x8_2 x6_1) cs (48 : Int32) sf (0 : Int64) T738.heap n0 (Nat.le_trans Z0 K738.1) vU vg kw wa hcs vr wi wz (by decide) (by decide) rfl (by decide) (by decide) (by decide) (by decide)) hh740 pd_33 rfl rfl fun _ T741 Lc741 X741 hQ741 => ?_
   obtain ⟨rfl, Nq741, hh741⟩ := hQ741
   have N741 := Fr.app N740 Nq741
   refine Ends.v (oxq X741 hy at_135 137 #[jv q0, ss, jv q1, ss, jv q2, ss, jv x6_1, ss, jv x8_2, ss, jv (fmxj (1 : Int64) q2), ss, rv b722, rv sx_738, jv x14_4, ss, iv 8, jv 0, ss] rfl (oB X741 hy at_137 139 rfl (oG X741 hy at_139 140 2 rfl (oF X741 hy at_140 142 rfl ?_))))
   refine cS X741 hy hml hown hZ hw at_142 145 0 212 213 214 215 rfl rfl rfl rfl (rmstd l Z a0 hw [] sx_738 (2 : Int32) (0 : Int64) sa_738 sk_738 (8 : Int32) (qM1 x8_2 x6_1) cs (48 : Int32) sf (0 : Int64) T738.heap n0 (Nat.le_trans Z0 K738.1) vU vg kw wa hcs vr wi wz (by decide) (by decide) rfl (by decide) (by decide) (by decide) (by decide)) hh741 pd_33 rfl rfl fun _ T742 Lc742 X742 hQ742 => ?_
   obtain ⟨rfl, Nq742, hh742⟩ := hQ742
   have N742 := Fr.app N741 Nq742
   refine Ends.v (oxq X742 hy at_145 147 #[jv q0, ss, jv q1, ss, jv q2, ss, jv x6_1, ss, jv x8_2, ss, jv (fmxj (1 : Int64) q2), ss, rv b722, rv sx_738, jv x14_4, ss, iv 8, jv 0, ss] rfl (oB X742 hy at_147 149 rfl (oG X742 hy at_149 150 3 rfl (oF X742 hy at_150 152 rfl ?_))))
   refine cS X742 hy hml hown hZ hw at_152 155 0 212 213 214 215 rfl rfl rfl rfl (rmstd l Z a0 hw [] sx_738 (3 : Int32) (0 : Int64) sa_738 sk_738 (8 : Int32) (qM1 x8_2 x6_1) cs (48 : Int32) sf (0 : Int64) T738.heap n0 (Nat.le_trans Z0 K738.1) vU vg kw wa hcs vr wi wz (by decide) (by decide) rfl (by decide) (by decide) (by decide) (by decide)) hh742 pd_33 rfl rfl fun _ T743 Lc743 X743 hQ743 => ?_
   obtain ⟨rfl, Nq743, hh743⟩ := hQ743
   have N743 := Fr.app N742 Nq743
   refine Ends.v (oxq X743 hy at_155 157 #[jv q0, ss, jv q1, ss, jv q2, ss, jv x6_1, ss, jv x8_2, ss, jv (fmxj (1 : Int64) q2), ss, rv b722, rv sx_738, jv x14_4, ss, iv 8, jv 0, ss] rfl (oB X743 hy at_157 159 rfl (oG X743 hy at_159 160 4 rfl (oF X743 hy at_160 162 rfl ?_))))
   refine cS X743 hy hml hown hZ hw at_162 165 0 212 213 214 215 rfl rfl rfl rfl (rmstd l Z a0 hw [] sx_738 (4 : Int32) (0 : Int64) sa_738 sk_738 (8 : Int32) (qM1 x8_2 x6_1) cs (48 : Int32) sf (0 : Int64) T738.heap n0 (Nat.le_trans Z0 K738.1) vU vg kw wa hcs vr wi wz (by decide) (by decide) rfl (by decide) (by decide) (by decide) (by decide)) hh743 pd_33 rfl rfl fun _ T744 Lc744 X744 hQ744 => ?_
   obtain ⟨rfl, Nq744, hh744⟩ := hQ744
   have N744 := Fr.app N743 Nq744
   refine Ends.v (oxq X744 hy at_165 167 #[jv q0, ss, jv q1, ss, jv q2, ss, jv x6_1, ss, jv x8_2, ss, jv (fmxj (1 : Int64) q2), ss, rv b722, rv sx_738, jv x14_4, ss, iv 8, jv 0, ss] rfl (oB X744 hy at_167 169 rfl (oG X744 hy at_169 170 5 rfl (oF X744 hy at_170 172 rfl ?_))))
   refine cS X744 hy hml hown hZ hw at_172 175 0 212 213 214 215 rfl rfl rfl rfl (rmstd l Z a0 hw [] sx_738 (5 : Int32) (0 : Int64) sa_738 sk_738 (8 : Int32) (qM1 x8_2 x6_1) cs (48 : Int32) sf (0 : Int64) T738.heap n0 (Nat.le_trans Z0 K738.1) vU vg kw wa hcs vr wi wz (by decide) (by decide) rfl (by decide) (by decide) (by decide) (by decide)) hh744 pd_33 rfl rfl fun _ T745 Lc745 X745 hQ745 => ?_
   obtain ⟨rfl, Nq745, hh745⟩ := hQ745
   have N745 := Fr.app N744 Nq745
   refine Ends.v (oxq X745 hy at_175 177 #[jv q0, ss, jv q1, ss, jv q2, ss, jv x6_1, ss, jv x8_2, ss, jv (fmxj (1 : Int64) q2), ss, rv b722, rv sx_738, jv x14_4, ss, iv 8, jv 0, ss] rfl (oB X745 hy at_177 179 rfl (oH X745 hy at_179 181 6 rfl (oF X745 hy at_181 183 rfl ?_))))
   refine cS X745 hy hml hown hZ hw at_183 186 0 212 213 214 215 rfl rfl rfl rfl (rmstd l Z a0 hw [] sx_738 (6 : Int32) (0 : Int64) sa_738 sk_738 (8 : Int32) (qM1 x8_2 x6_1) cs (own_dg (((((x8_2 % x6_1) * (7919 : Int64)) % x6_1)).toInt / 10)) sf (Int64.ofInt (((((x8_2 % x6_1) * (7919 : Int64)) % x6_1)).toInt / 10)) T738.heap n0 (Nat.le_trans Z0 K738.1) vU vg kw wa hcs vr wi wz (by decide) (by decide) rfl (by decide) (own_d1 _) (own_d2 _) (own_step0 (by omega) (by omega) (by omega))) hh745 pd_33 rfl rfl fun _ T746 Lc746 X746 hQ746 => ?_
   obtain ⟨rfl, Nq746, hh746⟩ := hQ746
   have N746 := Fr.app N745 Nq746
   refine Ends.v (oxq X746 hy at_186 188 #[jv q0, ss, jv q1, ss, jv q2, ss, jv x6_1, ss, jv x8_2, ss, jv (fmxj (1 : Int64) q2), ss, rv b722, rv sx_738, jv x14_4, ss, iv 8, jv (Int64.ofInt (((((x8_2 % x6_1) * (7919 : Int64)) % x6_1)).toInt / 10)), ss] rfl (oB X746 hy at_188 190 rfl (oH X746 hy at_190 192 7 rfl (oF X746 hy at_192 194 rfl ?_))))
   refine cS X746 hy hml hown hZ hw at_194 197 0 212 213 214 215 rfl rfl rfl rfl (rmstd l Z a0 hw [] sx_738 (7 : Int32) (Int64.ofInt (((((x8_2 % x6_1) * (7919 : Int64)) % x6_1)).toInt / 10)) sa_738 sk_738 (8 : Int32) (qM1 x8_2 x6_1) cs (own_dg (((((x8_2 % x6_1) * (7919 : Int64)) % x6_1)).toInt)) sf (Int64.ofInt (((((x8_2 % x6_1) * (7919 : Int64)) % x6_1)).toInt)) T738.heap n0 (Nat.le_trans Z0 K738.1) vU vg kw wa hcs vr wi wz (by decide) (by decide) rfl (own_v0 (by omega) (by omega)) (own_d1 _) (own_d2 _) (own_step (M' := ((((x8_2 % x6_1) * (7919 : Int64)) % x6_1)).toInt / 10) (by omega) (by omega) (by omega))) hh746 pd_33 rfl rfl fun _ T747 Lc747 X747 hQ747 => ?_
   obtain ⟨rfl, Nq747, hh747⟩ := hQ747
   have N747 := Fr.app N746 Nq747
   refine Ends.v (oxq X747 hy at_197 199 #[jv q0, ss, jv q1, ss, jv q2, ss, jv x6_1, ss, jv x8_2, ss, jv (fmxj (1 : Int64) q2), ss, rv b722, rv sx_738, jv x14_4, ss, iv 8, jv (Int64.ofInt (((((x8_2 % x6_1) * (7919 : Int64)) % x6_1)).toInt)), ss] rfl (oB X747 hy at_199 201 rfl (oH X747 hy at_201 203 8 rfl (oF X747 hy at_203 205 rfl ?_))))
   refine cS X747 hy hml hown hZ hw at_205 208 0 212 213 214 215 rfl rfl rfl rfl (rmstx l Z a0 hw [] sx_738 (8 : Int32) (Int64.ofInt (((((x8_2 % x6_1) * (7919 : Int64)) % x6_1)).toInt)) sa_738 sk_738 (8 : Int32) (qM1 x8_2 x6_1) cs T738.heap n0 (Nat.le_trans Z0 K738.1) vU vg kw wa hcs vr (own_v0 (by omega) (by omega)) (by decide)) hh747 pd_33 rfl rfl fun _ T748 Lc748 X748 hQ748 => ?_
   obtain ⟨rfl, Nq748, hh748⟩ := hQ748
   have N748 := Fr.app N747 Nq748
   refine Ends.v (oxq X748 hy at_208 210 #[jv q0, ss, jv q1, ss, jv q2, ss, jv x6_1, ss, jv x8_2, ss, jv (fmxj (1 : Int64) q2), ss, rv b722, rv sx_738, jv x14_4, ss, iv 8, jv (Int64.ofInt (((((x8_2 % x6_1) * (7919 : Int64)) % x6_1)).toInt)), ss] rfl (oB X748 hy at_210 212 rfl (oH X748 hy at_212 214 9 rfl (oF X748 hy at_214 216 rfl ?_))))
   refine cS X748 hy hml hown hZ hw at_216 219 0 212 213 214 215 rfl rfl rfl rfl (rmstx l Z a0 hw [] sx_738 (9 : Int32) (Int64.ofInt (((((x8_2 % x6_1) * (7919 : Int64)) % x6_1)).toInt)) sa_738 sk_738 (8 : Int32) (qM1 x8_2 x6_1) cs T738.heap n0 (Nat.le_trans Z0 K738.1) vU vg kw wa hcs vr (own_v0 (by omega) (by omega)) (by decide)) hh748 pd_33 rfl rfl fun _ T749 Lc749 X749 hQ749 => ?_
   obtain ⟨rfl, Nq749, hh749⟩ := hQ749
   have N749 := Fr.app N748 Nq749
   refine Ends.v (oxq X749 hy at_219 221 #[jv q0, ss, jv q1, ss, jv q2, ss, jv x6_1, ss, jv x8_2, ss, jv (fmxj (1 : Int64) q2), ss, rv b722, rv sx_738, jv x14_4, ss, iv 8, jv (Int64.ofInt (((((x8_2 % x6_1) * (7919 : Int64)) % x6_1)).toInt)), ss] rfl (oF X749 hy at_221 223 rfl (oF X749 hy at_223 225 rfl (oY X749 hy at_225 226 ?_))))
   have hc226 : (Int64.ofInt (((((x8_2 % x6_1) * (7919 : Int64)) % x6_1)).toInt)) = x14_4 := (by rw [hN]; exact Int64.ofInt_toInt _)
   refine oxh X749 hy at_226 229 (XT.ll_ne_f hc226) (oG X749 hy at_229 230 1 rfl (oxm X749 hy at_230 234 ?_))
   exact fI X749 hy hrt hlk hQQ at_234 rfl (by simp) hh749 (by decide) ⟨rfl, N749, K738⟩
  ·by_cases hs45_750 : ((((x8_2 % x6_1) * (7919 : Int64)) % x6_1)).toInt < 1000
   ·refine cV X723 hy hml hown hZ hw at_45 48 0 25 26 28 27 29 8 rfl rfl rfl rfl rfl rfl (rmpl3 l Z a0 hw [] b722 x8_2 x6_1 cs a_D1 k_a_D1 a_D2 k_a_D2 T723.heap n0 (Nat.le_trans Z0 K723.1) vw vi wa hcs wl wf wn wg (own_ge0 hK) (own_plnz hP.1) hs45_750 (by omega)) rfl pd_25 vw rfl rfl fun _ T751 Lc751 X751 hQ751 => ?_
    obtain ⟨sx_751, sa_751, sk_751, rfl, Nq751, Kq751, fq751_0, fq751_1, g_sx_751, g_sa_751, vT, vf, vq, fq751_7, kv, fq751_9⟩ := hQ751
    have N751 := Fr.app N723 Nq751
    have wa := own_sta_keep wa Kq751 all0
    have wi := own_sta_keep wi Kq751 all0
    have K751 := K723.trans Kq751 all0
    refine Ends.v (oxs X751 hy at_48 50 #[jv q0, ss, jv q1, ss, jv q2, ss, jv x6_1, ss, jv x8_2, ss, jv (fmxj (1 : Int64) q2), ss, rv b722, rv sx_751, uu, uu, uu, uu, uu] rfl (oF X751 hy at_50 52 rfl (oF X751 hy at_52 54 rfl (lremO X751 hy at_54 55 (own_plnz hP.1) (oJ2 X751 hy hown hZ hw at_55 58 7919 187 rfl (oF X751 hy at_58 60 rfl (lremO X751 hy at_60 61 (own_plnz hP.1) (oU X751 hy at_61 62 (oF X751 hy at_62 64 rfl ?_)))))))))
    refine lremO X751 hy at_64 65 (own_plnz hP.1) (oxq X751 hy at_65 67 #[jv q0, ss, jv q1, ss, jv q2, ss, jv x6_1, ss, jv x8_2, ss, jv (fmxj (1 : Int64) q2), ss, rv b722, rv sx_751, jv (((x8_2 % x6_1) * ((7919 : Int64) % x6_1)) % x6_1), ss, uu, uu, uu] rfl ?_)
    generalize hv14_5 : (((x8_2 % x6_1) * ((7919 : Int64) % x6_1)) % x6_1) = x14_5
    have hN : x14_5 = (((x8_2 % x6_1) * (7919 : Int64)) % x6_1) := by rw [← hv14_5]; exact own_wl hK hP.1 hP.2
    refine oF X751 hy at_67 69 rfl (oJ2 X751 hy hown hZ hw at_69 72 100000000 188 rfl (oY X751 hy at_72 73 ?_))
    have hc73 : x14_5 < (100000000 : Int64) := (by rw [hN, Int64.lt_iff_toInt_lt, show (100000000 : Int64).toInt = 100000000 from by decide]; omega)
    refine oxk X751 hy at_73 81 (XT.ll_lt_t hc73) (oF X751 hy at_81 83 rfl (oJ2 X751 hy hown hZ hw at_83 86 10000000 189 rfl (oY X751 hy at_86 87 ?_)))
    have hc87 : x14_5 < (10000000 : Int64) := (by rw [hN, Int64.lt_iff_toInt_lt, show (10000000 : Int64).toInt = 10000000 from by decide]; omega)
    refine oxk X751 hy at_87 95 (XT.ll_lt_t hc87) (oH X751 hy at_95 97 8 rfl (oxo X751 hy at_97 99 #[jv q0, ss, jv q1, ss, jv q2, ss, jv x6_1, ss, jv x8_2, ss, jv (fmxj (1 : Int64) q2), ss, rv b722, rv sx_751, jv x14_5, ss, iv 8, uu, uu] rfl (oB X751 hy at_99 101 rfl ?_)))
    refine cV X751 hy hml hown hZ hw at_101 104 0 190 108 110 109 111 44 rfl rfl rfl rfl rfl rfl (rmlen l Z a0 hw [] sx_751 sa_751 sk_751 (8 : Int32) (qM2 x8_2 x6_1) cs T751.heap n0 (Nat.le_trans Z0 K751.1) vT vf kv wa hcs vq) rfl pd_10 vT rfl rfl fun _ T752 Lc752 X752 hQ752 => ?_
    obtain ⟨rfl, Nq752, hh752⟩ := hQ752
    have N752 := Fr.app N751 Nq752
    refine Ends.v (oD X752 hy at_104 106 rfl (oxl X752 hy at_106 111 (XT.ii_eq_t (by decide)) (oB X752 hy at_111 113 rfl (oG X752 hy at_113 114 0 rfl ?_))))
    refine cV X752 hy hml hown hZ hw at_114 117 0 191 192 194 193 195 44 rfl rfl rfl rfl rfl rfl (rmcha l Z a0 hw [] sx_751 (0 : Int32) sa_751 sk_751 (8 : Int32) (qM2 x8_2 x6_1) (112 : Int32) cs sf T751.heap n0 (Nat.le_trans Z0 K751.1) vT vf kv wa hcs vq wi wz (by decide) (by decide) rfl) hh752 pd_30 vT rfl rfl fun _ T753 Lc753 X753 hQ753 => ?_
    obtain ⟨rfl, Nq753, hh753⟩ := hQ753
    have N753 := Fr.app N752 Nq753
    refine Ends.v (oH X753 hy at_117 119 112 rfl ?_)
    have hc119 : ((112 : Int32) &&& (255 : Int32)) = (112 : Int32) := (by decide)
    refine oxl X753 hy at_119 124 (XT.ii_eq_t hc119) (oJ X753 hy at_124 125 0 rfl (oxq X753 hy at_125 127 #[jv q0, ss, jv q1, ss, jv q2, ss, jv x6_1, ss, jv x8_2, ss, jv (fmxj (1 : Int64) q2), ss, rv b722, rv sx_751, jv x14_5, ss, iv 8, jv 0, ss] rfl (oB X753 hy at_127 129 rfl (oG X753 hy at_129 130 1 rfl (oF X753 hy at_130 132 rfl ?_)))))
    refine cS X753 hy hml hown hZ hw at_132 135 0 212 213 214 215 rfl rfl rfl rfl (rmstd l Z a0 hw [] sx_751 (1 : Int32) (0 : Int64) sa_751 sk_751 (8 : Int32) (qM2 x8_2 x6_1) cs (48 : Int32) sf (0 : Int64) T751.heap n0 (Nat.le_trans Z0 K751.1) vT vf kv wa hcs vq wi wz (by decide) (by decide) rfl (by decide) (by decide) (by decide) (by decide)) hh753 pd_33 rfl rfl fun _ T754 Lc754 X754 hQ754 => ?_
    obtain ⟨rfl, Nq754, hh754⟩ := hQ754
    have N754 := Fr.app N753 Nq754
    refine Ends.v (oxq X754 hy at_135 137 #[jv q0, ss, jv q1, ss, jv q2, ss, jv x6_1, ss, jv x8_2, ss, jv (fmxj (1 : Int64) q2), ss, rv b722, rv sx_751, jv x14_5, ss, iv 8, jv 0, ss] rfl (oB X754 hy at_137 139 rfl (oG X754 hy at_139 140 2 rfl (oF X754 hy at_140 142 rfl ?_))))
    refine cS X754 hy hml hown hZ hw at_142 145 0 212 213 214 215 rfl rfl rfl rfl (rmstd l Z a0 hw [] sx_751 (2 : Int32) (0 : Int64) sa_751 sk_751 (8 : Int32) (qM2 x8_2 x6_1) cs (48 : Int32) sf (0 : Int64) T751.heap n0 (Nat.le_trans Z0 K751.1) vT vf kv wa hcs vq wi wz (by decide) (by decide) rfl (by decide) (by decide) (by decide) (by decide)) hh754 pd_33 rfl rfl fun _ T755 Lc755 X755 hQ755 => ?_
    obtain ⟨rfl, Nq755, hh755⟩ := hQ755
    have N755 := Fr.app N754 Nq755
    refine Ends.v (oxq X755 hy at_145 147 #[jv q0, ss, jv q1, ss, jv q2, ss, jv x6_1, ss, jv x8_2, ss, jv (fmxj (1 : Int64) q2), ss, rv b722, rv sx_751, jv x14_5, ss, iv 8, jv 0, ss] rfl (oB X755 hy at_147 149 rfl (oG X755 hy at_149 150 3 rfl (oF X755 hy at_150 152 rfl ?_))))
    refine cS X755 hy hml hown hZ hw at_152 155 0 212 213 214 215 rfl rfl rfl rfl (rmstd l Z a0 hw [] sx_751 (3 : Int32) (0 : Int64) sa_751 sk_751 (8 : Int32) (qM2 x8_2 x6_1) cs (48 : Int32) sf (0 : Int64) T751.heap n0 (Nat.le_trans Z0 K751.1) vT vf kv wa hcs vq wi wz (by decide) (by decide) rfl (by decide) (by decide) (by decide) (by decide)) hh755 pd_33 rfl rfl fun _ T756 Lc756 X756 hQ756 => ?_
    obtain ⟨rfl, Nq756, hh756⟩ := hQ756
    have N756 := Fr.app N755 Nq756
    refine Ends.v (oxq X756 hy at_155 157 #[jv q0, ss, jv q1, ss, jv q2, ss, jv x6_1, ss, jv x8_2, ss, jv (fmxj (1 : Int64) q2), ss, rv b722, rv sx_751, jv x14_5, ss, iv 8, jv 0, ss] rfl (oB X756 hy at_157 159 rfl (oG X756 hy at_159 160 4 rfl (oF X756 hy at_160 162 rfl ?_))))
    refine cS X756 hy hml hown hZ hw at_162 165 0 212 213 214 215 rfl rfl rfl rfl (rmstd l Z a0 hw [] sx_751 (4 : Int32) (0 : Int64) sa_751 sk_751 (8 : Int32) (qM2 x8_2 x6_1) cs (48 : Int32) sf (0 : Int64) T751.heap n0 (Nat.le_trans Z0 K751.1) vT vf kv wa hcs vq wi wz (by decide) (by decide) rfl (by decide) (by decide) (by decide) (by decide)) hh756 pd_33 rfl rfl fun _ T757 Lc757 X757 hQ757 => ?_
    obtain ⟨rfl, Nq757, hh757⟩ := hQ757
    have N757 := Fr.app N756 Nq757
    refine Ends.v (oxq X757 hy at_165 167 #[jv q0, ss, jv q1, ss, jv q2, ss, jv x6_1, ss, jv x8_2, ss, jv (fmxj (1 : Int64) q2), ss, rv b722, rv sx_751, jv x14_5, ss, iv 8, jv 0, ss] rfl (oB X757 hy at_167 169 rfl (oG X757 hy at_169 170 5 rfl (oF X757 hy at_170 172 rfl ?_))))
    refine cS X757 hy hml hown hZ hw at_172 175 0 212 213 214 215 rfl rfl rfl rfl (rmstd l Z a0 hw [] sx_751 (5 : Int32) (0 : Int64) sa_751 sk_751 (8 : Int32) (qM2 x8_2 x6_1) cs (own_dg (((((x8_2 % x6_1) * (7919 : Int64)) % x6_1)).toInt / 100)) sf (Int64.ofInt (((((x8_2 % x6_1) * (7919 : Int64)) % x6_1)).toInt / 100)) T751.heap n0 (Nat.le_trans Z0 K751.1) vT vf kv wa hcs vq wi wz (by decide) (by decide) rfl (by decide) (own_d1 _) (own_d2 _) (own_step0 (by omega) (by omega) (by omega))) hh757 pd_33 rfl rfl fun _ T758 Lc758 X758 hQ758 => ?_
    obtain ⟨rfl, Nq758, hh758⟩ := hQ758
    have N758 := Fr.app N757 Nq758
    refine Ends.v (oxq X758 hy at_175 177 #[jv q0, ss, jv q1, ss, jv q2, ss, jv x6_1, ss, jv x8_2, ss, jv (fmxj (1 : Int64) q2), ss, rv b722, rv sx_751, jv x14_5, ss, iv 8, jv (Int64.ofInt (((((x8_2 % x6_1) * (7919 : Int64)) % x6_1)).toInt / 100)), ss] rfl (oB X758 hy at_177 179 rfl (oH X758 hy at_179 181 6 rfl (oF X758 hy at_181 183 rfl ?_))))
    refine cS X758 hy hml hown hZ hw at_183 186 0 212 213 214 215 rfl rfl rfl rfl (rmstd l Z a0 hw [] sx_751 (6 : Int32) (Int64.ofInt (((((x8_2 % x6_1) * (7919 : Int64)) % x6_1)).toInt / 100)) sa_751 sk_751 (8 : Int32) (qM2 x8_2 x6_1) cs (own_dg (((((x8_2 % x6_1) * (7919 : Int64)) % x6_1)).toInt / 10)) sf (Int64.ofInt (((((x8_2 % x6_1) * (7919 : Int64)) % x6_1)).toInt / 10)) T751.heap n0 (Nat.le_trans Z0 K751.1) vT vf kv wa hcs vq wi wz (by decide) (by decide) rfl (own_v0 (by omega) (by omega)) (own_d1 _) (own_d2 _) (own_step (M' := ((((x8_2 % x6_1) * (7919 : Int64)) % x6_1)).toInt / 100) (by omega) (by omega) (by omega))) hh758 pd_33 rfl rfl fun _ T759 Lc759 X759 hQ759 => ?_
    obtain ⟨rfl, Nq759, hh759⟩ := hQ759
    have N759 := Fr.app N758 Nq759
    refine Ends.v (oxq X759 hy at_186 188 #[jv q0, ss, jv q1, ss, jv q2, ss, jv x6_1, ss, jv x8_2, ss, jv (fmxj (1 : Int64) q2), ss, rv b722, rv sx_751, jv x14_5, ss, iv 8, jv (Int64.ofInt (((((x8_2 % x6_1) * (7919 : Int64)) % x6_1)).toInt / 10)), ss] rfl (oB X759 hy at_188 190 rfl (oH X759 hy at_190 192 7 rfl (oF X759 hy at_192 194 rfl ?_))))
    refine cS X759 hy hml hown hZ hw at_194 197 0 212 213 214 215 rfl rfl rfl rfl (rmstd l Z a0 hw [] sx_751 (7 : Int32) (Int64.ofInt (((((x8_2 % x6_1) * (7919 : Int64)) % x6_1)).toInt / 10)) sa_751 sk_751 (8 : Int32) (qM2 x8_2 x6_1) cs (own_dg (((((x8_2 % x6_1) * (7919 : Int64)) % x6_1)).toInt)) sf (Int64.ofInt (((((x8_2 % x6_1) * (7919 : Int64)) % x6_1)).toInt)) T751.heap n0 (Nat.le_trans Z0 K751.1) vT vf kv wa hcs vq wi wz (by decide) (by decide) rfl (own_v0 (by omega) (by omega)) (own_d1 _) (own_d2 _) (own_step (M' := ((((x8_2 % x6_1) * (7919 : Int64)) % x6_1)).toInt / 10) (by omega) (by omega) (by omega))) hh759 pd_33 rfl rfl fun _ T760 Lc760 X760 hQ760 => ?_
    obtain ⟨rfl, Nq760, hh760⟩ := hQ760
    have N760 := Fr.app N759 Nq760
    refine Ends.v (oxq X760 hy at_197 199 #[jv q0, ss, jv q1, ss, jv q2, ss, jv x6_1, ss, jv x8_2, ss, jv (fmxj (1 : Int64) q2), ss, rv b722, rv sx_751, jv x14_5, ss, iv 8, jv (Int64.ofInt (((((x8_2 % x6_1) * (7919 : Int64)) % x6_1)).toInt)), ss] rfl (oB X760 hy at_199 201 rfl (oH X760 hy at_201 203 8 rfl (oF X760 hy at_203 205 rfl ?_))))
    refine cS X760 hy hml hown hZ hw at_205 208 0 212 213 214 215 rfl rfl rfl rfl (rmstx l Z a0 hw [] sx_751 (8 : Int32) (Int64.ofInt (((((x8_2 % x6_1) * (7919 : Int64)) % x6_1)).toInt)) sa_751 sk_751 (8 : Int32) (qM2 x8_2 x6_1) cs T751.heap n0 (Nat.le_trans Z0 K751.1) vT vf kv wa hcs vq (own_v0 (by omega) (by omega)) (by decide)) hh760 pd_33 rfl rfl fun _ T761 Lc761 X761 hQ761 => ?_
    obtain ⟨rfl, Nq761, hh761⟩ := hQ761
    have N761 := Fr.app N760 Nq761
    refine Ends.v (oxq X761 hy at_208 210 #[jv q0, ss, jv q1, ss, jv q2, ss, jv x6_1, ss, jv x8_2, ss, jv (fmxj (1 : Int64) q2), ss, rv b722, rv sx_751, jv x14_5, ss, iv 8, jv (Int64.ofInt (((((x8_2 % x6_1) * (7919 : Int64)) % x6_1)).toInt)), ss] rfl (oB X761 hy at_210 212 rfl (oH X761 hy at_212 214 9 rfl (oF X761 hy at_214 216 rfl ?_))))
    refine cS X761 hy hml hown hZ hw at_216 219 0 212 213 214 215 rfl rfl rfl rfl (rmstx l Z a0 hw [] sx_751 (9 : Int32) (Int64.ofInt (((((x8_2 % x6_1) * (7919 : Int64)) % x6_1)).toInt)) sa_751 sk_751 (8 : Int32) (qM2 x8_2 x6_1) cs T751.heap n0 (Nat.le_trans Z0 K751.1) vT vf kv wa hcs vq (own_v0 (by omega) (by omega)) (by decide)) hh761 pd_33 rfl rfl fun _ T762 Lc762 X762 hQ762 => ?_
    obtain ⟨rfl, Nq762, hh762⟩ := hQ762
    have N762 := Fr.app N761 Nq762
    refine Ends.v (oxq X762 hy at_219 221 #[jv q0, ss, jv q1, ss, jv q2, ss, jv x6_1, ss, jv x8_2, ss, jv (fmxj (1 : Int64) q2), ss, rv b722, rv sx_751, jv x14_5, ss, iv 8, jv (Int64.ofInt (((((x8_2 % x6_1) * (7919 : Int64)) % x6_1)).toInt)), ss] rfl (oF X762 hy at_221 223 rfl (oF X762 hy at_223 225 rfl (oY X762 hy at_225 226 ?_))))
    have hc226 : (Int64.ofInt (((((x8_2 % x6_1) * (7919 : Int64)) % x6_1)).toInt)) = x14_5 := (by rw [hN]; exact Int64.ofInt_toInt _)
    refine oxh X762 hy at_226 229 (XT.ll_ne_f hc226) (oG X762 hy at_229 230 1 rfl (oxm X762 hy at_230 234 ?_))
    exact fI X762 hy hrt hlk hQQ at_234 rfl (by simp) hh762 (by decide) ⟨rfl, N762, K751⟩
   ·by_cases hs45_763 : ((((x8_2 % x6_1) * (7919 : Int64)) % x6_1)).toInt < 10000
    ·refine cV X723 hy hml hown hZ hw at_45 48 0 25 26 28 27 29 8 rfl rfl rfl rfl rfl rfl (rmpl4 l Z a0 hw [] b722 x8_2 x6_1 cs a_D1 k_a_D1 a_D2 k_a_D2 T723.heap n0 (Nat.le_trans Z0 K723.1) vw vi wa hcs wl wf wn wg (own_ge0 hK) (own_plnz hP.1) hs45_763 (by omega)) rfl pd_25 vw rfl rfl fun _ T764 Lc764 X764 hQ764 => ?_
     obtain ⟨sx_764, sa_764, sk_764, rfl, Nq764, Kq764, fq764_0, fq764_1, g_sx_764, g_sa_764, vS, ve, vp, fq764_7, ku, fq764_9⟩ := hQ764
     have N764 := Fr.app N723 Nq764
     have wa := own_sta_keep wa Kq764 all0
     have wi := own_sta_keep wi Kq764 all0
     have K764 := K723.trans Kq764 all0
     refine Ends.v (oxs X764 hy at_48 50 #[jv q0, ss, jv q1, ss, jv q2, ss, jv x6_1, ss, jv x8_2, ss, jv (fmxj (1 : Int64) q2), ss, rv b722, rv sx_764, uu, uu, uu, uu, uu] rfl (oF X764 hy at_50 52 rfl (oF X764 hy at_52 54 rfl (lremO X764 hy at_54 55 (own_plnz hP.1) (oJ2 X764 hy hown hZ hw at_55 58 7919 187 rfl (oF X764 hy at_58 60 rfl (lremO X764 hy at_60 61 (own_plnz hP.1) (oU X764 hy at_61 62 (oF X764 hy at_62 64 rfl ?_)))))))))
     refine lremO X764 hy at_64 65 (own_plnz hP.1) (oxq X764 hy at_65 67 #[jv q0, ss, jv q1, ss, jv q2, ss, jv x6_1, ss, jv x8_2, ss, jv (fmxj (1 : Int64) q2), ss, rv b722, rv sx_764, jv (((x8_2 % x6_1) * ((7919 : Int64) % x6_1)) % x6_1), ss, uu, uu, uu] rfl ?_)
     generalize hv14_6 : (((x8_2 % x6_1) * ((7919 : Int64) % x6_1)) % x6_1) = x14_6
     have hN : x14_6 = (((x8_2 % x6_1) * (7919 : Int64)) % x6_1) := by rw [← hv14_6]; exact own_wl hK hP.1 hP.2
     refine oF X764 hy at_67 69 rfl (oJ2 X764 hy hown hZ hw at_69 72 100000000 188 rfl (oY X764 hy at_72 73 ?_))
     have hc73 : x14_6 < (100000000 : Int64) := (by rw [hN, Int64.lt_iff_toInt_lt, show (100000000 : Int64).toInt = 100000000 from by decide]; omega)
     refine oxk X764 hy at_73 81 (XT.ll_lt_t hc73) (oF X764 hy at_81 83 rfl (oJ2 X764 hy hown hZ hw at_83 86 10000000 189 rfl (oY X764 hy at_86 87 ?_)))
     have hc87 : x14_6 < (10000000 : Int64) := (by rw [hN, Int64.lt_iff_toInt_lt, show (10000000 : Int64).toInt = 10000000 from by decide]; omega)
     refine oxk X764 hy at_87 95 (XT.ll_lt_t hc87) (oH X764 hy at_95 97 8 rfl (oxo X764 hy at_97 99 #[jv q0, ss, jv q1, ss, jv q2, ss, jv x6_1, ss, jv x8_2, ss, jv (fmxj (1 : Int64) q2), ss, rv b722, rv sx_764, jv x14_6, ss, iv 8, uu, uu] rfl (oB X764 hy at_99 101 rfl ?_)))
     refine cV X764 hy hml hown hZ hw at_101 104 0 190 108 110 109 111 44 rfl rfl rfl rfl rfl rfl (rmlen l Z a0 hw [] sx_764 sa_764 sk_764 (8 : Int32) (qM3 x8_2 x6_1) cs T764.heap n0 (Nat.le_trans Z0 K764.1) vS ve ku wa hcs vp) rfl pd_10 vS rfl rfl fun _ T765 Lc765 X765 hQ765 => ?_
     obtain ⟨rfl, Nq765, hh765⟩ := hQ765
     have N765 := Fr.app N764 Nq765
     refine Ends.v (oD X765 hy at_104 106 rfl (oxl X765 hy at_106 111 (XT.ii_eq_t (by decide)) (oB X765 hy at_111 113 rfl (oG X765 hy at_113 114 0 rfl ?_))))
     refine cV X765 hy hml hown hZ hw at_114 117 0 191 192 194 193 195 44 rfl rfl rfl rfl rfl rfl (rmcha l Z a0 hw [] sx_764 (0 : Int32) sa_764 sk_764 (8 : Int32) (qM3 x8_2 x6_1) (112 : Int32) cs sf T764.heap n0 (Nat.le_trans Z0 K764.1) vS ve ku wa hcs vp wi wz (by decide) (by decide) rfl) hh765 pd_30 vS rfl rfl fun _ T766 Lc766 X766 hQ766 => ?_
     obtain ⟨rfl, Nq766, hh766⟩ := hQ766
     have N766 := Fr.app N765 Nq766
     refine Ends.v (oH X766 hy at_117 119 112 rfl ?_)
     have hc119 : ((112 : Int32) &&& (255 : Int32)) = (112 : Int32) := (by decide)
     refine oxl X766 hy at_119 124 (XT.ii_eq_t hc119) (oJ X766 hy at_124 125 0 rfl (oxq X766 hy at_125 127 #[jv q0, ss, jv q1, ss, jv q2, ss, jv x6_1, ss, jv x8_2, ss, jv (fmxj (1 : Int64) q2), ss, rv b722, rv sx_764, jv x14_6, ss, iv 8, jv 0, ss] rfl (oB X766 hy at_127 129 rfl (oG X766 hy at_129 130 1 rfl (oF X766 hy at_130 132 rfl ?_)))))
     refine cS X766 hy hml hown hZ hw at_132 135 0 212 213 214 215 rfl rfl rfl rfl (rmstd l Z a0 hw [] sx_764 (1 : Int32) (0 : Int64) sa_764 sk_764 (8 : Int32) (qM3 x8_2 x6_1) cs (48 : Int32) sf (0 : Int64) T764.heap n0 (Nat.le_trans Z0 K764.1) vS ve ku wa hcs vp wi wz (by decide) (by decide) rfl (by decide) (by decide) (by decide) (by decide)) hh766 pd_33 rfl rfl fun _ T767 Lc767 X767 hQ767 => ?_
     obtain ⟨rfl, Nq767, hh767⟩ := hQ767
     have N767 := Fr.app N766 Nq767
     refine Ends.v (oxq X767 hy at_135 137 #[jv q0, ss, jv q1, ss, jv q2, ss, jv x6_1, ss, jv x8_2, ss, jv (fmxj (1 : Int64) q2), ss, rv b722, rv sx_764, jv x14_6, ss, iv 8, jv 0, ss] rfl (oB X767 hy at_137 139 rfl (oG X767 hy at_139 140 2 rfl (oF X767 hy at_140 142 rfl ?_))))
     refine cS X767 hy hml hown hZ hw at_142 145 0 212 213 214 215 rfl rfl rfl rfl (rmstd l Z a0 hw [] sx_764 (2 : Int32) (0 : Int64) sa_764 sk_764 (8 : Int32) (qM3 x8_2 x6_1) cs (48 : Int32) sf (0 : Int64) T764.heap n0 (Nat.le_trans Z0 K764.1) vS ve ku wa hcs vp wi wz (by decide) (by decide) rfl (by decide) (by decide) (by decide) (by decide)) hh767 pd_33 rfl rfl fun _ T768 Lc768 X768 hQ768 => ?_
     obtain ⟨rfl, Nq768, hh768⟩ := hQ768
     have N768 := Fr.app N767 Nq768
     refine Ends.v (oxq X768 hy at_145 147 #[jv q0, ss, jv q1, ss, jv q2, ss, jv x6_1, ss, jv x8_2, ss, jv (fmxj (1 : Int64) q2), ss, rv b722, rv sx_764, jv x14_6, ss, iv 8, jv 0, ss] rfl (oB X768 hy at_147 149 rfl (oG X768 hy at_149 150 3 rfl (oF X768 hy at_150 152 rfl ?_))))
     refine cS X768 hy hml hown hZ hw at_152 155 0 212 213 214 215 rfl rfl rfl rfl (rmstd l Z a0 hw [] sx_764 (3 : Int32) (0 : Int64) sa_764 sk_764 (8 : Int32) (qM3 x8_2 x6_1) cs (48 : Int32) sf (0 : Int64) T764.heap n0 (Nat.le_trans Z0 K764.1) vS ve ku wa hcs vp wi wz (by decide) (by decide) rfl (by decide) (by decide) (by decide) (by decide)) hh768 pd_33 rfl rfl fun _ T769 Lc769 X769 hQ769 => ?_
     obtain ⟨rfl, Nq769, hh769⟩ := hQ769
     have N769 := Fr.app N768 Nq769
     refine Ends.v (oxq X769 hy at_155 157 #[jv q0, ss, jv q1, ss, jv q2, ss, jv x6_1, ss, jv x8_2, ss, jv (fmxj (1 : Int64) q2), ss, rv b722, rv sx_764, jv x14_6, ss, iv 8, jv 0, ss] rfl (oB X769 hy at_157 159 rfl (oG X769 hy at_159 160 4 rfl (oF X769 hy at_160 162 rfl ?_))))
     refine cS X769 hy hml hown hZ hw at_162 165 0 212 213 214 215 rfl rfl rfl rfl (rmstd l Z a0 hw [] sx_764 (4 : Int32) (0 : Int64) sa_764 sk_764 (8 : Int32) (qM3 x8_2 x6_1) cs (own_dg (((((x8_2 % x6_1) * (7919 : Int64)) % x6_1)).toInt / 100 / 10)) sf (Int64.ofInt (((((x8_2 % x6_1) * (7919 : Int64)) % x6_1)).toInt / 100 / 10)) T764.heap n0 (Nat.le_trans Z0 K764.1) vS ve ku wa hcs vp wi wz (by decide) (by decide) rfl (by decide) (own_d1 _) (own_d2 _) (own_step0 (by omega) (by omega) (by omega))) hh769 pd_33 rfl rfl fun _ T770 Lc770 X770 hQ770 => ?_
     obtain ⟨rfl, Nq770, hh770⟩ := hQ770
     have N770 := Fr.app N769 Nq770
     refine Ends.v (oxq X770 hy at_165 167 #[jv q0, ss, jv q1, ss, jv q2, ss, jv x6_1, ss, jv x8_2, ss, jv (fmxj (1 : Int64) q2), ss, rv b722, rv sx_764, jv x14_6, ss, iv 8, jv (Int64.ofInt (((((x8_2 % x6_1) * (7919 : Int64)) % x6_1)).toInt / 100 / 10)), ss] rfl (oB X770 hy at_167 169 rfl (oG X770 hy at_169 170 5 rfl (oF X770 hy at_170 172 rfl ?_))))
     refine cS X770 hy hml hown hZ hw at_172 175 0 212 213 214 215 rfl rfl rfl rfl (rmstd l Z a0 hw [] sx_764 (5 : Int32) (Int64.ofInt (((((x8_2 % x6_1) * (7919 : Int64)) % x6_1)).toInt / 100 / 10)) sa_764 sk_764 (8 : Int32) (qM3 x8_2 x6_1) cs (own_dg (((((x8_2 % x6_1) * (7919 : Int64)) % x6_1)).toInt / 100)) sf (Int64.ofInt (((((x8_2 % x6_1) * (7919 : Int64)) % x6_1)).toInt / 100)) T764.heap n0 (Nat.le_trans Z0 K764.1) vS ve ku wa hcs vp wi wz (by decide) (by decide) rfl (own_v0 (by omega) (by omega)) (own_d1 _) (own_d2 _) (own_step (M' := ((((x8_2 % x6_1) * (7919 : Int64)) % x6_1)).toInt / 100 / 10) (by omega) (by omega) (by omega))) hh770 pd_33 rfl rfl fun _ T771 Lc771 X771 hQ771 => ?_
     obtain ⟨rfl, Nq771, hh771⟩ := hQ771
     have N771 := Fr.app N770 Nq771
     refine Ends.v (oxq X771 hy at_175 177 #[jv q0, ss, jv q1, ss, jv q2, ss, jv x6_1, ss, jv x8_2, ss, jv (fmxj (1 : Int64) q2), ss, rv b722, rv sx_764, jv x14_6, ss, iv 8, jv (Int64.ofInt (((((x8_2 % x6_1) * (7919 : Int64)) % x6_1)).toInt / 100)), ss] rfl (oB X771 hy at_177 179 rfl (oH X771 hy at_179 181 6 rfl (oF X771 hy at_181 183 rfl ?_))))
     refine cS X771 hy hml hown hZ hw at_183 186 0 212 213 214 215 rfl rfl rfl rfl (rmstd l Z a0 hw [] sx_764 (6 : Int32) (Int64.ofInt (((((x8_2 % x6_1) * (7919 : Int64)) % x6_1)).toInt / 100)) sa_764 sk_764 (8 : Int32) (qM3 x8_2 x6_1) cs (own_dg (((((x8_2 % x6_1) * (7919 : Int64)) % x6_1)).toInt / 10)) sf (Int64.ofInt (((((x8_2 % x6_1) * (7919 : Int64)) % x6_1)).toInt / 10)) T764.heap n0 (Nat.le_trans Z0 K764.1) vS ve ku wa hcs vp wi wz (by decide) (by decide) rfl (own_v0 (by omega) (by omega)) (own_d1 _) (own_d2 _) (own_step (M' := ((((x8_2 % x6_1) * (7919 : Int64)) % x6_1)).toInt / 100) (by omega) (by omega) (by omega))) hh771 pd_33 rfl rfl fun _ T772 Lc772 X772 hQ772 => ?_
     obtain ⟨rfl, Nq772, hh772⟩ := hQ772
     have N772 := Fr.app N771 Nq772
     refine Ends.v (oxq X772 hy at_186 188 #[jv q0, ss, jv q1, ss, jv q2, ss, jv x6_1, ss, jv x8_2, ss, jv (fmxj (1 : Int64) q2), ss, rv b722, rv sx_764, jv x14_6, ss, iv 8, jv (Int64.ofInt (((((x8_2 % x6_1) * (7919 : Int64)) % x6_1)).toInt / 10)), ss] rfl (oB X772 hy at_188 190 rfl (oH X772 hy at_190 192 7 rfl (oF X772 hy at_192 194 rfl ?_))))
     refine cS X772 hy hml hown hZ hw at_194 197 0 212 213 214 215 rfl rfl rfl rfl (rmstd l Z a0 hw [] sx_764 (7 : Int32) (Int64.ofInt (((((x8_2 % x6_1) * (7919 : Int64)) % x6_1)).toInt / 10)) sa_764 sk_764 (8 : Int32) (qM3 x8_2 x6_1) cs (own_dg (((((x8_2 % x6_1) * (7919 : Int64)) % x6_1)).toInt)) sf (Int64.ofInt (((((x8_2 % x6_1) * (7919 : Int64)) % x6_1)).toInt)) T764.heap n0 (Nat.le_trans Z0 K764.1) vS ve ku wa hcs vp wi wz (by decide) (by decide) rfl (own_v0 (by omega) (by omega)) (own_d1 _) (own_d2 _) (own_step (M' := ((((x8_2 % x6_1) * (7919 : Int64)) % x6_1)).toInt / 10) (by omega) (by omega) (by omega))) hh772 pd_33 rfl rfl fun _ T773 Lc773 X773 hQ773 => ?_
     obtain ⟨rfl, Nq773, hh773⟩ := hQ773
     have N773 := Fr.app N772 Nq773
     refine Ends.v (oxq X773 hy at_197 199 #[jv q0, ss, jv q1, ss, jv q2, ss, jv x6_1, ss, jv x8_2, ss, jv (fmxj (1 : Int64) q2), ss, rv b722, rv sx_764, jv x14_6, ss, iv 8, jv (Int64.ofInt (((((x8_2 % x6_1) * (7919 : Int64)) % x6_1)).toInt)), ss] rfl (oB X773 hy at_199 201 rfl (oH X773 hy at_201 203 8 rfl (oF X773 hy at_203 205 rfl ?_))))
     refine cS X773 hy hml hown hZ hw at_205 208 0 212 213 214 215 rfl rfl rfl rfl (rmstx l Z a0 hw [] sx_764 (8 : Int32) (Int64.ofInt (((((x8_2 % x6_1) * (7919 : Int64)) % x6_1)).toInt)) sa_764 sk_764 (8 : Int32) (qM3 x8_2 x6_1) cs T764.heap n0 (Nat.le_trans Z0 K764.1) vS ve ku wa hcs vp (own_v0 (by omega) (by omega)) (by decide)) hh773 pd_33 rfl rfl fun _ T774 Lc774 X774 hQ774 => ?_
     obtain ⟨rfl, Nq774, hh774⟩ := hQ774
     have N774 := Fr.app N773 Nq774
     refine Ends.v (oxq X774 hy at_208 210 #[jv q0, ss, jv q1, ss, jv q2, ss, jv x6_1, ss, jv x8_2, ss, jv (fmxj (1 : Int64) q2), ss, rv b722, rv sx_764, jv x14_6, ss, iv 8, jv (Int64.ofInt (((((x8_2 % x6_1) * (7919 : Int64)) % x6_1)).toInt)), ss] rfl (oB X774 hy at_210 212 rfl (oH X774 hy at_212 214 9 rfl (oF X774 hy at_214 216 rfl ?_))))
     refine cS X774 hy hml hown hZ hw at_216 219 0 212 213 214 215 rfl rfl rfl rfl (rmstx l Z a0 hw [] sx_764 (9 : Int32) (Int64.ofInt (((((x8_2 % x6_1) * (7919 : Int64)) % x6_1)).toInt)) sa_764 sk_764 (8 : Int32) (qM3 x8_2 x6_1) cs T764.heap n0 (Nat.le_trans Z0 K764.1) vS ve ku wa hcs vp (own_v0 (by omega) (by omega)) (by decide)) hh774 pd_33 rfl rfl fun _ T775 Lc775 X775 hQ775 => ?_
     obtain ⟨rfl, Nq775, hh775⟩ := hQ775
     have N775 := Fr.app N774 Nq775
     refine Ends.v (oxq X775 hy at_219 221 #[jv q0, ss, jv q1, ss, jv q2, ss, jv x6_1, ss, jv x8_2, ss, jv (fmxj (1 : Int64) q2), ss, rv b722, rv sx_764, jv x14_6, ss, iv 8, jv (Int64.ofInt (((((x8_2 % x6_1) * (7919 : Int64)) % x6_1)).toInt)), ss] rfl (oF X775 hy at_221 223 rfl (oF X775 hy at_223 225 rfl (oY X775 hy at_225 226 ?_))))
     have hc226 : (Int64.ofInt (((((x8_2 % x6_1) * (7919 : Int64)) % x6_1)).toInt)) = x14_6 := (by rw [hN]; exact Int64.ofInt_toInt _)
     refine oxh X775 hy at_226 229 (XT.ll_ne_f hc226) (oG X775 hy at_229 230 1 rfl (oxm X775 hy at_230 234 ?_))
     exact fI X775 hy hrt hlk hQQ at_234 rfl (by simp) hh775 (by decide) ⟨rfl, N775, K764⟩
    ·by_cases hs45_776 : ((((x8_2 % x6_1) * (7919 : Int64)) % x6_1)).toInt < 100000
     ·refine cV X723 hy hml hown hZ hw at_45 48 0 25 26 28 27 29 8 rfl rfl rfl rfl rfl rfl (rmpl5 l Z a0 hw [] b722 x8_2 x6_1 cs a_D1 k_a_D1 a_D2 k_a_D2 T723.heap n0 (Nat.le_trans Z0 K723.1) vw vi wa hcs wl wf wn wg (own_ge0 hK) (own_plnz hP.1) hs45_776 (by omega)) rfl pd_25 vw rfl rfl fun _ T777 Lc777 X777 hQ777 => ?_
      obtain ⟨sx_777, sa_777, sk_777, rfl, Nq777, Kq777, fq777_0, fq777_1, g_sx_777, g_sa_777, vR, vc, vo, fq777_7, kr, fq777_9⟩ := hQ777
      have N777 := Fr.app N723 Nq777
      have wa := own_sta_keep wa Kq777 all0
      have wi := own_sta_keep wi Kq777 all0
      have K777 := K723.trans Kq777 all0
      refine Ends.v (oxs X777 hy at_48 50 #[jv q0, ss, jv q1, ss, jv q2, ss, jv x6_1, ss, jv x8_2, ss, jv (fmxj (1 : Int64) q2), ss, rv b722, rv sx_777, uu, uu, uu, uu, uu] rfl (oF X777 hy at_50 52 rfl (oF X777 hy at_52 54 rfl (lremO X777 hy at_54 55 (own_plnz hP.1) (oJ2 X777 hy hown hZ hw at_55 58 7919 187 rfl (oF X777 hy at_58 60 rfl (lremO X777 hy at_60 61 (own_plnz hP.1) (oU X777 hy at_61 62 (oF X777 hy at_62 64 rfl ?_)))))))))
      refine lremO X777 hy at_64 65 (own_plnz hP.1) (oxq X777 hy at_65 67 #[jv q0, ss, jv q1, ss, jv q2, ss, jv x6_1, ss, jv x8_2, ss, jv (fmxj (1 : Int64) q2), ss, rv b722, rv sx_777, jv (((x8_2 % x6_1) * ((7919 : Int64) % x6_1)) % x6_1), ss, uu, uu, uu] rfl ?_)
      generalize hv14_7 : (((x8_2 % x6_1) * ((7919 : Int64) % x6_1)) % x6_1) = x14_7
      have hN : x14_7 = (((x8_2 % x6_1) * (7919 : Int64)) % x6_1) := by rw [← hv14_7]; exact own_wl hK hP.1 hP.2
      refine oF X777 hy at_67 69 rfl (oJ2 X777 hy hown hZ hw at_69 72 100000000 188 rfl (oY X777 hy at_72 73 ?_))
      have hc73 : x14_7 < (100000000 : Int64) := (by rw [hN, Int64.lt_iff_toInt_lt, show (100000000 : Int64).toInt = 100000000 from by decide]; omega)
      refine oxk X777 hy at_73 81 (XT.ll_lt_t hc73) (oF X777 hy at_81 83 rfl (oJ2 X777 hy hown hZ hw at_83 86 10000000 189 rfl (oY X777 hy at_86 87 ?_)))
      have hc87 : x14_7 < (10000000 : Int64) := (by rw [hN, Int64.lt_iff_toInt_lt, show (10000000 : Int64).toInt = 10000000 from by decide]; omega)
      refine oxk X777 hy at_87 95 (XT.ll_lt_t hc87) (oH X777 hy at_95 97 8 rfl (oxo X777 hy at_97 99 #[jv q0, ss, jv q1, ss, jv q2, ss, jv x6_1, ss, jv x8_2, ss, jv (fmxj (1 : Int64) q2), ss, rv b722, rv sx_777, jv x14_7, ss, iv 8, uu, uu] rfl (oB X777 hy at_99 101 rfl ?_)))
      refine cV X777 hy hml hown hZ hw at_101 104 0 190 108 110 109 111 44 rfl rfl rfl rfl rfl rfl (rmlen l Z a0 hw [] sx_777 sa_777 sk_777 (8 : Int32) (qM4 x8_2 x6_1) cs T777.heap n0 (Nat.le_trans Z0 K777.1) vR vc kr wa hcs vo) rfl pd_10 vR rfl rfl fun _ T778 Lc778 X778 hQ778 => ?_
      obtain ⟨rfl, Nq778, hh778⟩ := hQ778
      have N778 := Fr.app N777 Nq778
      refine Ends.v (oD X778 hy at_104 106 rfl (oxl X778 hy at_106 111 (XT.ii_eq_t (by decide)) (oB X778 hy at_111 113 rfl (oG X778 hy at_113 114 0 rfl ?_))))
      refine cV X778 hy hml hown hZ hw at_114 117 0 191 192 194 193 195 44 rfl rfl rfl rfl rfl rfl (rmcha l Z a0 hw [] sx_777 (0 : Int32) sa_777 sk_777 (8 : Int32) (qM4 x8_2 x6_1) (112 : Int32) cs sf T777.heap n0 (Nat.le_trans Z0 K777.1) vR vc kr wa hcs vo wi wz (by decide) (by decide) rfl) hh778 pd_30 vR rfl rfl fun _ T779 Lc779 X779 hQ779 => ?_
      obtain ⟨rfl, Nq779, hh779⟩ := hQ779
      have N779 := Fr.app N778 Nq779
      refine Ends.v (oH X779 hy at_117 119 112 rfl ?_)
      have hc119 : ((112 : Int32) &&& (255 : Int32)) = (112 : Int32) := (by decide)
      refine oxl X779 hy at_119 124 (XT.ii_eq_t hc119) (oJ X779 hy at_124 125 0 rfl (oxq X779 hy at_125 127 #[jv q0, ss, jv q1, ss, jv q2, ss, jv x6_1, ss, jv x8_2, ss, jv (fmxj (1 : Int64) q2), ss, rv b722, rv sx_777, jv x14_7, ss, iv 8, jv 0, ss] rfl (oB X779 hy at_127 129 rfl (oG X779 hy at_129 130 1 rfl (oF X779 hy at_130 132 rfl ?_)))))
      refine cS X779 hy hml hown hZ hw at_132 135 0 212 213 214 215 rfl rfl rfl rfl (rmstd l Z a0 hw [] sx_777 (1 : Int32) (0 : Int64) sa_777 sk_777 (8 : Int32) (qM4 x8_2 x6_1) cs (48 : Int32) sf (0 : Int64) T777.heap n0 (Nat.le_trans Z0 K777.1) vR vc kr wa hcs vo wi wz (by decide) (by decide) rfl (by decide) (by decide) (by decide) (by decide)) hh779 pd_33 rfl rfl fun _ T780 Lc780 X780 hQ780 => ?_
      obtain ⟨rfl, Nq780, hh780⟩ := hQ780
      have N780 := Fr.app N779 Nq780
      refine Ends.v (oxq X780 hy at_135 137 #[jv q0, ss, jv q1, ss, jv q2, ss, jv x6_1, ss, jv x8_2, ss, jv (fmxj (1 : Int64) q2), ss, rv b722, rv sx_777, jv x14_7, ss, iv 8, jv 0, ss] rfl (oB X780 hy at_137 139 rfl (oG X780 hy at_139 140 2 rfl (oF X780 hy at_140 142 rfl ?_))))
      refine cS X780 hy hml hown hZ hw at_142 145 0 212 213 214 215 rfl rfl rfl rfl (rmstd l Z a0 hw [] sx_777 (2 : Int32) (0 : Int64) sa_777 sk_777 (8 : Int32) (qM4 x8_2 x6_1) cs (48 : Int32) sf (0 : Int64) T777.heap n0 (Nat.le_trans Z0 K777.1) vR vc kr wa hcs vo wi wz (by decide) (by decide) rfl (by decide) (by decide) (by decide) (by decide)) hh780 pd_33 rfl rfl fun _ T781 Lc781 X781 hQ781 => ?_
      obtain ⟨rfl, Nq781, hh781⟩ := hQ781
      have N781 := Fr.app N780 Nq781
      refine Ends.v (oxq X781 hy at_145 147 #[jv q0, ss, jv q1, ss, jv q2, ss, jv x6_1, ss, jv x8_2, ss, jv (fmxj (1 : Int64) q2), ss, rv b722, rv sx_777, jv x14_7, ss, iv 8, jv 0, ss] rfl (oB X781 hy at_147 149 rfl (oG X781 hy at_149 150 3 rfl (oF X781 hy at_150 152 rfl ?_))))
      refine cS X781 hy hml hown hZ hw at_152 155 0 212 213 214 215 rfl rfl rfl rfl (rmstd l Z a0 hw [] sx_777 (3 : Int32) (0 : Int64) sa_777 sk_777 (8 : Int32) (qM4 x8_2 x6_1) cs (own_dg (((((x8_2 % x6_1) * (7919 : Int64)) % x6_1)).toInt / 100 / 100)) sf (Int64.ofInt (((((x8_2 % x6_1) * (7919 : Int64)) % x6_1)).toInt / 100 / 100)) T777.heap n0 (Nat.le_trans Z0 K777.1) vR vc kr wa hcs vo wi wz (by decide) (by decide) rfl (by decide) (own_d1 _) (own_d2 _) (own_step0 (by omega) (by omega) (by omega))) hh781 pd_33 rfl rfl fun _ T782 Lc782 X782 hQ782 => ?_
      obtain ⟨rfl, Nq782, hh782⟩ := hQ782
      have N782 := Fr.app N781 Nq782
      refine Ends.v (oxq X782 hy at_155 157 #[jv q0, ss, jv q1, ss, jv q2, ss, jv x6_1, ss, jv x8_2, ss, jv (fmxj (1 : Int64) q2), ss, rv b722, rv sx_777, jv x14_7, ss, iv 8, jv (Int64.ofInt (((((x8_2 % x6_1) * (7919 : Int64)) % x6_1)).toInt / 100 / 100)), ss] rfl (oB X782 hy at_157 159 rfl (oG X782 hy at_159 160 4 rfl (oF X782 hy at_160 162 rfl ?_))))
      refine cS X782 hy hml hown hZ hw at_162 165 0 212 213 214 215 rfl rfl rfl rfl (rmstd l Z a0 hw [] sx_777 (4 : Int32) (Int64.ofInt (((((x8_2 % x6_1) * (7919 : Int64)) % x6_1)).toInt / 100 / 100)) sa_777 sk_777 (8 : Int32) (qM4 x8_2 x6_1) cs (own_dg (((((x8_2 % x6_1) * (7919 : Int64)) % x6_1)).toInt / 100 / 10)) sf (Int64.ofInt (((((x8_2 % x6_1) * (7919 : Int64)) % x6_1)).toInt / 100 / 10)) T777.heap n0 (Nat.le_trans Z0 K777.1) vR vc kr wa hcs vo wi wz (by decide) (by decide) rfl (own_v0 (by omega) (by omega)) (own_d1 _) (own_d2 _) (own_step (M' := ((((x8_2 % x6_1) * (7919 : Int64)) % x6_1)).toInt / 100 / 100) (by omega) (by omega) (by omega))) hh782 pd_33 rfl rfl fun _ T783 Lc783 X783 hQ783 => ?_
      obtain ⟨rfl, Nq783, hh783⟩ := hQ783
      have N783 := Fr.app N782 Nq783
      refine Ends.v (oxq X783 hy at_165 167 #[jv q0, ss, jv q1, ss, jv q2, ss, jv x6_1, ss, jv x8_2, ss, jv (fmxj (1 : Int64) q2), ss, rv b722, rv sx_777, jv x14_7, ss, iv 8, jv (Int64.ofInt (((((x8_2 % x6_1) * (7919 : Int64)) % x6_1)).toInt / 100 / 10)), ss] rfl (oB X783 hy at_167 169 rfl (oG X783 hy at_169 170 5 rfl (oF X783 hy at_170 172 rfl ?_))))
      refine cS X783 hy hml hown hZ hw at_172 175 0 212 213 214 215 rfl rfl rfl rfl (rmstd l Z a0 hw [] sx_777 (5 : Int32) (Int64.ofInt (((((x8_2 % x6_1) * (7919 : Int64)) % x6_1)).toInt / 100 / 10)) sa_777 sk_777 (8 : Int32) (qM4 x8_2 x6_1) cs (own_dg (((((x8_2 % x6_1) * (7919 : Int64)) % x6_1)).toInt / 100)) sf (Int64.ofInt (((((x8_2 % x6_1) * (7919 : Int64)) % x6_1)).toInt / 100)) T777.heap n0 (Nat.le_trans Z0 K777.1) vR vc kr wa hcs vo wi wz (by decide) (by decide) rfl (own_v0 (by omega) (by omega)) (own_d1 _) (own_d2 _) (own_step (M' := ((((x8_2 % x6_1) * (7919 : Int64)) % x6_1)).toInt / 100 / 10) (by omega) (by omega) (by omega))) hh783 pd_33 rfl rfl fun _ T784 Lc784 X784 hQ784 => ?_
      obtain ⟨rfl, Nq784, hh784⟩ := hQ784
      have N784 := Fr.app N783 Nq784
      refine Ends.v (oxq X784 hy at_175 177 #[jv q0, ss, jv q1, ss, jv q2, ss, jv x6_1, ss, jv x8_2, ss, jv (fmxj (1 : Int64) q2), ss, rv b722, rv sx_777, jv x14_7, ss, iv 8, jv (Int64.ofInt (((((x8_2 % x6_1) * (7919 : Int64)) % x6_1)).toInt / 100)), ss] rfl (oB X784 hy at_177 179 rfl (oH X784 hy at_179 181 6 rfl (oF X784 hy at_181 183 rfl ?_))))
      refine cS X784 hy hml hown hZ hw at_183 186 0 212 213 214 215 rfl rfl rfl rfl (rmstd l Z a0 hw [] sx_777 (6 : Int32) (Int64.ofInt (((((x8_2 % x6_1) * (7919 : Int64)) % x6_1)).toInt / 100)) sa_777 sk_777 (8 : Int32) (qM4 x8_2 x6_1) cs (own_dg (((((x8_2 % x6_1) * (7919 : Int64)) % x6_1)).toInt / 10)) sf (Int64.ofInt (((((x8_2 % x6_1) * (7919 : Int64)) % x6_1)).toInt / 10)) T777.heap n0 (Nat.le_trans Z0 K777.1) vR vc kr wa hcs vo wi wz (by decide) (by decide) rfl (own_v0 (by omega) (by omega)) (own_d1 _) (own_d2 _) (own_step (M' := ((((x8_2 % x6_1) * (7919 : Int64)) % x6_1)).toInt / 100) (by omega) (by omega) (by omega))) hh784 pd_33 rfl rfl fun _ T785 Lc785 X785 hQ785 => ?_
      obtain ⟨rfl, Nq785, hh785⟩ := hQ785
      have N785 := Fr.app N784 Nq785
      refine Ends.v (oxq X785 hy at_186 188 #[jv q0, ss, jv q1, ss, jv q2, ss, jv x6_1, ss, jv x8_2, ss, jv (fmxj (1 : Int64) q2), ss, rv b722, rv sx_777, jv x14_7, ss, iv 8, jv (Int64.ofInt (((((x8_2 % x6_1) * (7919 : Int64)) % x6_1)).toInt / 10)), ss] rfl (oB X785 hy at_188 190 rfl (oH X785 hy at_190 192 7 rfl (oF X785 hy at_192 194 rfl ?_))))
      refine cS X785 hy hml hown hZ hw at_194 197 0 212 213 214 215 rfl rfl rfl rfl (rmstd l Z a0 hw [] sx_777 (7 : Int32) (Int64.ofInt (((((x8_2 % x6_1) * (7919 : Int64)) % x6_1)).toInt / 10)) sa_777 sk_777 (8 : Int32) (qM4 x8_2 x6_1) cs (own_dg (((((x8_2 % x6_1) * (7919 : Int64)) % x6_1)).toInt)) sf (Int64.ofInt (((((x8_2 % x6_1) * (7919 : Int64)) % x6_1)).toInt)) T777.heap n0 (Nat.le_trans Z0 K777.1) vR vc kr wa hcs vo wi wz (by decide) (by decide) rfl (own_v0 (by omega) (by omega)) (own_d1 _) (own_d2 _) (own_step (M' := ((((x8_2 % x6_1) * (7919 : Int64)) % x6_1)).toInt / 10) (by omega) (by omega) (by omega))) hh785 pd_33 rfl rfl fun _ T786 Lc786 X786 hQ786 => ?_
      obtain ⟨rfl, Nq786, hh786⟩ := hQ786
      have N786 := Fr.app N785 Nq786
      refine Ends.v (oxq X786 hy at_197 199 #[jv q0, ss, jv q1, ss, jv q2, ss, jv x6_1, ss, jv x8_2, ss, jv (fmxj (1 : Int64) q2), ss, rv b722, rv sx_777, jv x14_7, ss, iv 8, jv (Int64.ofInt (((((x8_2 % x6_1) * (7919 : Int64)) % x6_1)).toInt)), ss] rfl (oB X786 hy at_199 201 rfl (oH X786 hy at_201 203 8 rfl (oF X786 hy at_203 205 rfl ?_))))
      refine cS X786 hy hml hown hZ hw at_205 208 0 212 213 214 215 rfl rfl rfl rfl (rmstx l Z a0 hw [] sx_777 (8 : Int32) (Int64.ofInt (((((x8_2 % x6_1) * (7919 : Int64)) % x6_1)).toInt)) sa_777 sk_777 (8 : Int32) (qM4 x8_2 x6_1) cs T777.heap n0 (Nat.le_trans Z0 K777.1) vR vc kr wa hcs vo (own_v0 (by omega) (by omega)) (by decide)) hh786 pd_33 rfl rfl fun _ T787 Lc787 X787 hQ787 => ?_
      obtain ⟨rfl, Nq787, hh787⟩ := hQ787
      have N787 := Fr.app N786 Nq787
      refine Ends.v (oxq X787 hy at_208 210 #[jv q0, ss, jv q1, ss, jv q2, ss, jv x6_1, ss, jv x8_2, ss, jv (fmxj (1 : Int64) q2), ss, rv b722, rv sx_777, jv x14_7, ss, iv 8, jv (Int64.ofInt (((((x8_2 % x6_1) * (7919 : Int64)) % x6_1)).toInt)), ss] rfl (oB X787 hy at_210 212 rfl (oH X787 hy at_212 214 9 rfl (oF X787 hy at_214 216 rfl ?_))))
      refine cS X787 hy hml hown hZ hw at_216 219 0 212 213 214 215 rfl rfl rfl rfl (rmstx l Z a0 hw [] sx_777 (9 : Int32) (Int64.ofInt (((((x8_2 % x6_1) * (7919 : Int64)) % x6_1)).toInt)) sa_777 sk_777 (8 : Int32) (qM4 x8_2 x6_1) cs T777.heap n0 (Nat.le_trans Z0 K777.1) vR vc kr wa hcs vo (own_v0 (by omega) (by omega)) (by decide)) hh787 pd_33 rfl rfl fun _ T788 Lc788 X788 hQ788 => ?_
      obtain ⟨rfl, Nq788, hh788⟩ := hQ788
      have N788 := Fr.app N787 Nq788
      refine Ends.v (oxq X788 hy at_219 221 #[jv q0, ss, jv q1, ss, jv q2, ss, jv x6_1, ss, jv x8_2, ss, jv (fmxj (1 : Int64) q2), ss, rv b722, rv sx_777, jv x14_7, ss, iv 8, jv (Int64.ofInt (((((x8_2 % x6_1) * (7919 : Int64)) % x6_1)).toInt)), ss] rfl (oF X788 hy at_221 223 rfl (oF X788 hy at_223 225 rfl (oY X788 hy at_225 226 ?_))))
      have hc226 : (Int64.ofInt (((((x8_2 % x6_1) * (7919 : Int64)) % x6_1)).toInt)) = x14_7 := (by rw [hN]; exact Int64.ofInt_toInt _)
      refine oxh X788 hy at_226 229 (XT.ll_ne_f hc226) (oG X788 hy at_229 230 1 rfl (oxm X788 hy at_230 234 ?_))
      exact fI X788 hy hrt hlk hQQ at_234 rfl (by simp) hh788 (by decide) ⟨rfl, N788, K777⟩
     ·by_cases hs45_789 : ((((x8_2 % x6_1) * (7919 : Int64)) % x6_1)).toInt < 1000000
      ·refine cV X723 hy hml hown hZ hw at_45 48 0 25 26 28 27 29 8 rfl rfl rfl rfl rfl rfl (rmpl6 l Z a0 hw [] b722 x8_2 x6_1 cs a_D1 k_a_D1 a_D2 k_a_D2 T723.heap n0 (Nat.le_trans Z0 K723.1) vw vi wa hcs wl wf wn wg (own_ge0 hK) (own_plnz hP.1) hs45_789 (by omega)) rfl pd_25 vw rfl rfl fun _ T790 Lc790 X790 hQ790 => ?_
       obtain ⟨sx_790, sa_790, sk_790, rfl, Nq790, Kq790, fq790_0, fq790_1, g_sx_790, g_sa_790, vQ, va, vn, fq790_7, kp, fq790_9⟩ := hQ790
       have N790 := Fr.app N723 Nq790
       have wa := own_sta_keep wa Kq790 all0
       have wi := own_sta_keep wi Kq790 all0
       have K790 := K723.trans Kq790 all0
       refine Ends.v (oxs X790 hy at_48 50 #[jv q0, ss, jv q1, ss, jv q2, ss, jv x6_1, ss, jv x8_2, ss, jv (fmxj (1 : Int64) q2), ss, rv b722, rv sx_790, uu, uu, uu, uu, uu] rfl (oF X790 hy at_50 52 rfl (oF X790 hy at_52 54 rfl (lremO X790 hy at_54 55 (own_plnz hP.1) (oJ2 X790 hy hown hZ hw at_55 58 7919 187 rfl (oF X790 hy at_58 60 rfl (lremO X790 hy at_60 61 (own_plnz hP.1) (oU X790 hy at_61 62 (oF X790 hy at_62 64 rfl ?_)))))))))
       refine lremO X790 hy at_64 65 (own_plnz hP.1) (oxq X790 hy at_65 67 #[jv q0, ss, jv q1, ss, jv q2, ss, jv x6_1, ss, jv x8_2, ss, jv (fmxj (1 : Int64) q2), ss, rv b722, rv sx_790, jv (((x8_2 % x6_1) * ((7919 : Int64) % x6_1)) % x6_1), ss, uu, uu, uu] rfl ?_)
       generalize hv14_8 : (((x8_2 % x6_1) * ((7919 : Int64) % x6_1)) % x6_1) = x14_8
       have hN : x14_8 = (((x8_2 % x6_1) * (7919 : Int64)) % x6_1) := by rw [← hv14_8]; exact own_wl hK hP.1 hP.2
       refine oF X790 hy at_67 69 rfl (oJ2 X790 hy hown hZ hw at_69 72 100000000 188 rfl (oY X790 hy at_72 73 ?_))
       have hc73 : x14_8 < (100000000 : Int64) := (by rw [hN, Int64.lt_iff_toInt_lt, show (100000000 : Int64).toInt = 100000000 from by decide]; omega)
       refine oxk X790 hy at_73 81 (XT.ll_lt_t hc73) (oF X790 hy at_81 83 rfl (oJ2 X790 hy hown hZ hw at_83 86 10000000 189 rfl (oY X790 hy at_86 87 ?_)))
       have hc87 : x14_8 < (10000000 : Int64) := (by rw [hN, Int64.lt_iff_toInt_lt, show (10000000 : Int64).toInt = 10000000 from by decide]; omega)
       refine oxk X790 hy at_87 95 (XT.ll_lt_t hc87) (oH X790 hy at_95 97 8 rfl (oxo X790 hy at_97 99 #[jv q0, ss, jv q1, ss, jv q2, ss, jv x6_1, ss, jv x8_2, ss, jv (fmxj (1 : Int64) q2), ss, rv b722, rv sx_790, jv x14_8, ss, iv 8, uu, uu] rfl (oB X790 hy at_99 101 rfl ?_)))
       refine cV X790 hy hml hown hZ hw at_101 104 0 190 108 110 109 111 44 rfl rfl rfl rfl rfl rfl (rmlen l Z a0 hw [] sx_790 sa_790 sk_790 (8 : Int32) (qM5 x8_2 x6_1) cs T790.heap n0 (Nat.le_trans Z0 K790.1) vQ va kp wa hcs vn) rfl pd_10 vQ rfl rfl fun _ T791 Lc791 X791 hQ791 => ?_
       obtain ⟨rfl, Nq791, hh791⟩ := hQ791
       have N791 := Fr.app N790 Nq791
       refine Ends.v (oD X791 hy at_104 106 rfl (oxl X791 hy at_106 111 (XT.ii_eq_t (by decide)) (oB X791 hy at_111 113 rfl (oG X791 hy at_113 114 0 rfl ?_))))
       refine cV X791 hy hml hown hZ hw at_114 117 0 191 192 194 193 195 44 rfl rfl rfl rfl rfl rfl (rmcha l Z a0 hw [] sx_790 (0 : Int32) sa_790 sk_790 (8 : Int32) (qM5 x8_2 x6_1) (112 : Int32) cs sf T790.heap n0 (Nat.le_trans Z0 K790.1) vQ va kp wa hcs vn wi wz (by decide) (by decide) rfl) hh791 pd_30 vQ rfl rfl fun _ T792 Lc792 X792 hQ792 => ?_
       obtain ⟨rfl, Nq792, hh792⟩ := hQ792
       have N792 := Fr.app N791 Nq792
       refine Ends.v (oH X792 hy at_117 119 112 rfl ?_)
       have hc119 : ((112 : Int32) &&& (255 : Int32)) = (112 : Int32) := (by decide)
       refine oxl X792 hy at_119 124 (XT.ii_eq_t hc119) (oJ X792 hy at_124 125 0 rfl (oxq X792 hy at_125 127 #[jv q0, ss, jv q1, ss, jv q2, ss, jv x6_1, ss, jv x8_2, ss, jv (fmxj (1 : Int64) q2), ss, rv b722, rv sx_790, jv x14_8, ss, iv 8, jv 0, ss] rfl (oB X792 hy at_127 129 rfl (oG X792 hy at_129 130 1 rfl (oF X792 hy at_130 132 rfl ?_)))))
       refine cS X792 hy hml hown hZ hw at_132 135 0 212 213 214 215 rfl rfl rfl rfl (rmstd l Z a0 hw [] sx_790 (1 : Int32) (0 : Int64) sa_790 sk_790 (8 : Int32) (qM5 x8_2 x6_1) cs (48 : Int32) sf (0 : Int64) T790.heap n0 (Nat.le_trans Z0 K790.1) vQ va kp wa hcs vn wi wz (by decide) (by decide) rfl (by decide) (by decide) (by decide) (by decide)) hh792 pd_33 rfl rfl fun _ T793 Lc793 X793 hQ793 => ?_
       obtain ⟨rfl, Nq793, hh793⟩ := hQ793
       have N793 := Fr.app N792 Nq793
       refine Ends.v (oxq X793 hy at_135 137 #[jv q0, ss, jv q1, ss, jv q2, ss, jv x6_1, ss, jv x8_2, ss, jv (fmxj (1 : Int64) q2), ss, rv b722, rv sx_790, jv x14_8, ss, iv 8, jv 0, ss] rfl (oB X793 hy at_137 139 rfl (oG X793 hy at_139 140 2 rfl (oF X793 hy at_140 142 rfl ?_))))
       refine cS X793 hy hml hown hZ hw at_142 145 0 212 213 214 215 rfl rfl rfl rfl (rmstd l Z a0 hw [] sx_790 (2 : Int32) (0 : Int64) sa_790 sk_790 (8 : Int32) (qM5 x8_2 x6_1) cs (own_dg (((((x8_2 % x6_1) * (7919 : Int64)) % x6_1)).toInt / 100 / 100 / 10)) sf (Int64.ofInt (((((x8_2 % x6_1) * (7919 : Int64)) % x6_1)).toInt / 100 / 100 / 10)) T790.heap n0 (Nat.le_trans Z0 K790.1) vQ va kp wa hcs vn wi wz (by decide) (by decide) rfl (by decide) (own_d1 _) (own_d2 _) (own_step0 (by omega) (by omega) (by omega))) hh793 pd_33 rfl rfl fun _ T794 Lc794 X794 hQ794 => ?_
       obtain ⟨rfl, Nq794, hh794⟩ := hQ794
       have N794 := Fr.app N793 Nq794
       refine Ends.v (oxq X794 hy at_145 147 #[jv q0, ss, jv q1, ss, jv q2, ss, jv x6_1, ss, jv x8_2, ss, jv (fmxj (1 : Int64) q2), ss, rv b722, rv sx_790, jv x14_8, ss, iv 8, jv (Int64.ofInt (((((x8_2 % x6_1) * (7919 : Int64)) % x6_1)).toInt / 100 / 100 / 10)), ss] rfl (oB X794 hy at_147 149 rfl (oG X794 hy at_149 150 3 rfl (oF X794 hy at_150 152 rfl ?_))))
       refine cS X794 hy hml hown hZ hw at_152 155 0 212 213 214 215 rfl rfl rfl rfl (rmstd l Z a0 hw [] sx_790 (3 : Int32) (Int64.ofInt (((((x8_2 % x6_1) * (7919 : Int64)) % x6_1)).toInt / 100 / 100 / 10)) sa_790 sk_790 (8 : Int32) (qM5 x8_2 x6_1) cs (own_dg (((((x8_2 % x6_1) * (7919 : Int64)) % x6_1)).toInt / 100 / 100)) sf (Int64.ofInt (((((x8_2 % x6_1) * (7919 : Int64)) % x6_1)).toInt / 100 / 100)) T790.heap n0 (Nat.le_trans Z0 K790.1) vQ va kp wa hcs vn wi wz (by decide) (by decide) rfl (own_v0 (by omega) (by omega)) (own_d1 _) (own_d2 _) (own_step (M' := ((((x8_2 % x6_1) * (7919 : Int64)) % x6_1)).toInt / 100 / 100 / 10) (by omega) (by omega) (by omega))) hh794 pd_33 rfl rfl fun _ T795 Lc795 X795 hQ795 => ?_
       obtain ⟨rfl, Nq795, hh795⟩ := hQ795
       have N795 := Fr.app N794 Nq795
       refine Ends.v (oxq X795 hy at_155 157 #[jv q0, ss, jv q1, ss, jv q2, ss, jv x6_1, ss, jv x8_2, ss, jv (fmxj (1 : Int64) q2), ss, rv b722, rv sx_790, jv x14_8, ss, iv 8, jv (Int64.ofInt (((((x8_2 % x6_1) * (7919 : Int64)) % x6_1)).toInt / 100 / 100)), ss] rfl (oB X795 hy at_157 159 rfl (oG X795 hy at_159 160 4 rfl (oF X795 hy at_160 162 rfl ?_))))
       refine cS X795 hy hml hown hZ hw at_162 165 0 212 213 214 215 rfl rfl rfl rfl (rmstd l Z a0 hw [] sx_790 (4 : Int32) (Int64.ofInt (((((x8_2 % x6_1) * (7919 : Int64)) % x6_1)).toInt / 100 / 100)) sa_790 sk_790 (8 : Int32) (qM5 x8_2 x6_1) cs (own_dg (((((x8_2 % x6_1) * (7919 : Int64)) % x6_1)).toInt / 100 / 10)) sf (Int64.ofInt (((((x8_2 % x6_1) * (7919 : Int64)) % x6_1)).toInt / 100 / 10)) T790.heap n0 (Nat.le_trans Z0 K790.1) vQ va kp wa hcs vn wi wz (by decide) (by decide) rfl (own_v0 (by omega) (by omega)) (own_d1 _) (own_d2 _) (own_step (M' := ((((x8_2 % x6_1) * (7919 : Int64)) % x6_1)).toInt / 100 / 100) (by omega) (by omega) (by omega))) hh795 pd_33 rfl rfl fun _ T796 Lc796 X796 hQ796 => ?_
       obtain ⟨rfl, Nq796, hh796⟩ := hQ796
       have N796 := Fr.app N795 Nq796
       refine Ends.v (oxq X796 hy at_165 167 #[jv q0, ss, jv q1, ss, jv q2, ss, jv x6_1, ss, jv x8_2, ss, jv (fmxj (1 : Int64) q2), ss, rv b722, rv sx_790, jv x14_8, ss, iv 8, jv (Int64.ofInt (((((x8_2 % x6_1) * (7919 : Int64)) % x6_1)).toInt / 100 / 10)), ss] rfl (oB X796 hy at_167 169 rfl (oG X796 hy at_169 170 5 rfl (oF X796 hy at_170 172 rfl ?_))))
       refine cS X796 hy hml hown hZ hw at_172 175 0 212 213 214 215 rfl rfl rfl rfl (rmstd l Z a0 hw [] sx_790 (5 : Int32) (Int64.ofInt (((((x8_2 % x6_1) * (7919 : Int64)) % x6_1)).toInt / 100 / 10)) sa_790 sk_790 (8 : Int32) (qM5 x8_2 x6_1) cs (own_dg (((((x8_2 % x6_1) * (7919 : Int64)) % x6_1)).toInt / 100)) sf (Int64.ofInt (((((x8_2 % x6_1) * (7919 : Int64)) % x6_1)).toInt / 100)) T790.heap n0 (Nat.le_trans Z0 K790.1) vQ va kp wa hcs vn wi wz (by decide) (by decide) rfl (own_v0 (by omega) (by omega)) (own_d1 _) (own_d2 _) (own_step (M' := ((((x8_2 % x6_1) * (7919 : Int64)) % x6_1)).toInt / 100 / 10) (by omega) (by omega) (by omega))) hh796 pd_33 rfl rfl fun _ T797 Lc797 X797 hQ797 => ?_
       obtain ⟨rfl, Nq797, hh797⟩ := hQ797
       have N797 := Fr.app N796 Nq797
       refine Ends.v (oxq X797 hy at_175 177 #[jv q0, ss, jv q1, ss, jv q2, ss, jv x6_1, ss, jv x8_2, ss, jv (fmxj (1 : Int64) q2), ss, rv b722, rv sx_790, jv x14_8, ss, iv 8, jv (Int64.ofInt (((((x8_2 % x6_1) * (7919 : Int64)) % x6_1)).toInt / 100)), ss] rfl (oB X797 hy at_177 179 rfl (oH X797 hy at_179 181 6 rfl (oF X797 hy at_181 183 rfl ?_))))
       refine cS X797 hy hml hown hZ hw at_183 186 0 212 213 214 215 rfl rfl rfl rfl (rmstd l Z a0 hw [] sx_790 (6 : Int32) (Int64.ofInt (((((x8_2 % x6_1) * (7919 : Int64)) % x6_1)).toInt / 100)) sa_790 sk_790 (8 : Int32) (qM5 x8_2 x6_1) cs (own_dg (((((x8_2 % x6_1) * (7919 : Int64)) % x6_1)).toInt / 10)) sf (Int64.ofInt (((((x8_2 % x6_1) * (7919 : Int64)) % x6_1)).toInt / 10)) T790.heap n0 (Nat.le_trans Z0 K790.1) vQ va kp wa hcs vn wi wz (by decide) (by decide) rfl (own_v0 (by omega) (by omega)) (own_d1 _) (own_d2 _) (own_step (M' := ((((x8_2 % x6_1) * (7919 : Int64)) % x6_1)).toInt / 100) (by omega) (by omega) (by omega))) hh797 pd_33 rfl rfl fun _ T798 Lc798 X798 hQ798 => ?_
       obtain ⟨rfl, Nq798, hh798⟩ := hQ798
       have N798 := Fr.app N797 Nq798
       refine Ends.v (oxq X798 hy at_186 188 #[jv q0, ss, jv q1, ss, jv q2, ss, jv x6_1, ss, jv x8_2, ss, jv (fmxj (1 : Int64) q2), ss, rv b722, rv sx_790, jv x14_8, ss, iv 8, jv (Int64.ofInt (((((x8_2 % x6_1) * (7919 : Int64)) % x6_1)).toInt / 10)), ss] rfl (oB X798 hy at_188 190 rfl (oH X798 hy at_190 192 7 rfl (oF X798 hy at_192 194 rfl ?_))))
       refine cS X798 hy hml hown hZ hw at_194 197 0 212 213 214 215 rfl rfl rfl rfl (rmstd l Z a0 hw [] sx_790 (7 : Int32) (Int64.ofInt (((((x8_2 % x6_1) * (7919 : Int64)) % x6_1)).toInt / 10)) sa_790 sk_790 (8 : Int32) (qM5 x8_2 x6_1) cs (own_dg (((((x8_2 % x6_1) * (7919 : Int64)) % x6_1)).toInt)) sf (Int64.ofInt (((((x8_2 % x6_1) * (7919 : Int64)) % x6_1)).toInt)) T790.heap n0 (Nat.le_trans Z0 K790.1) vQ va kp wa hcs vn wi wz (by decide) (by decide) rfl (own_v0 (by omega) (by omega)) (own_d1 _) (own_d2 _) (own_step (M' := ((((x8_2 % x6_1) * (7919 : Int64)) % x6_1)).toInt / 10) (by omega) (by omega) (by omega))) hh798 pd_33 rfl rfl fun _ T799 Lc799 X799 hQ799 => ?_
       obtain ⟨rfl, Nq799, hh799⟩ := hQ799
       have N799 := Fr.app N798 Nq799
       refine Ends.v (oxq X799 hy at_197 199 #[jv q0, ss, jv q1, ss, jv q2, ss, jv x6_1, ss, jv x8_2, ss, jv (fmxj (1 : Int64) q2), ss, rv b722, rv sx_790, jv x14_8, ss, iv 8, jv (Int64.ofInt (((((x8_2 % x6_1) * (7919 : Int64)) % x6_1)).toInt)), ss] rfl (oB X799 hy at_199 201 rfl (oH X799 hy at_201 203 8 rfl (oF X799 hy at_203 205 rfl ?_))))
       refine cS X799 hy hml hown hZ hw at_205 208 0 212 213 214 215 rfl rfl rfl rfl (rmstx l Z a0 hw [] sx_790 (8 : Int32) (Int64.ofInt (((((x8_2 % x6_1) * (7919 : Int64)) % x6_1)).toInt)) sa_790 sk_790 (8 : Int32) (qM5 x8_2 x6_1) cs T790.heap n0 (Nat.le_trans Z0 K790.1) vQ va kp wa hcs vn (own_v0 (by omega) (by omega)) (by decide)) hh799 pd_33 rfl rfl fun _ T800 Lc800 X800 hQ800 => ?_
       obtain ⟨rfl, Nq800, hh800⟩ := hQ800
       have N800 := Fr.app N799 Nq800
       refine Ends.v (oxq X800 hy at_208 210 #[jv q0, ss, jv q1, ss, jv q2, ss, jv x6_1, ss, jv x8_2, ss, jv (fmxj (1 : Int64) q2), ss, rv b722, rv sx_790, jv x14_8, ss, iv 8, jv (Int64.ofInt (((((x8_2 % x6_1) * (7919 : Int64)) % x6_1)).toInt)), ss] rfl (oB X800 hy at_210 212 rfl (oH X800 hy at_212 214 9 rfl (oF X800 hy at_214 216 rfl ?_))))
       refine cS X800 hy hml hown hZ hw at_216 219 0 212 213 214 215 rfl rfl rfl rfl (rmstx l Z a0 hw [] sx_790 (9 : Int32) (Int64.ofInt (((((x8_2 % x6_1) * (7919 : Int64)) % x6_1)).toInt)) sa_790 sk_790 (8 : Int32) (qM5 x8_2 x6_1) cs T790.heap n0 (Nat.le_trans Z0 K790.1) vQ va kp wa hcs vn (own_v0 (by omega) (by omega)) (by decide)) hh800 pd_33 rfl rfl fun _ T801 Lc801 X801 hQ801 => ?_
       obtain ⟨rfl, Nq801, hh801⟩ := hQ801
       have N801 := Fr.app N800 Nq801
       refine Ends.v (oxq X801 hy at_219 221 #[jv q0, ss, jv q1, ss, jv q2, ss, jv x6_1, ss, jv x8_2, ss, jv (fmxj (1 : Int64) q2), ss, rv b722, rv sx_790, jv x14_8, ss, iv 8, jv (Int64.ofInt (((((x8_2 % x6_1) * (7919 : Int64)) % x6_1)).toInt)), ss] rfl (oF X801 hy at_221 223 rfl (oF X801 hy at_223 225 rfl (oY X801 hy at_225 226 ?_))))
       have hc226 : (Int64.ofInt (((((x8_2 % x6_1) * (7919 : Int64)) % x6_1)).toInt)) = x14_8 := (by rw [hN]; exact Int64.ofInt_toInt _)
       refine oxh X801 hy at_226 229 (XT.ll_ne_f hc226) (oG X801 hy at_229 230 1 rfl (oxm X801 hy at_230 234 ?_))
       exact fI X801 hy hrt hlk hQQ at_234 rfl (by simp) hh801 (by decide) ⟨rfl, N801, K790⟩
      ·by_cases hs45_802 : ((((x8_2 % x6_1) * (7919 : Int64)) % x6_1)).toInt < 10000000
       ·refine cV X723 hy hml hown hZ hw at_45 48 0 25 26 28 27 29 8 rfl rfl rfl rfl rfl rfl (rmpl7 l Z a0 hw [] b722 x8_2 x6_1 cs a_D1 k_a_D1 a_D2 k_a_D2 T723.heap n0 (Nat.le_trans Z0 K723.1) vw vi wa hcs wl wf wn wg (own_ge0 hK) (own_plnz hP.1) hs45_802 (by omega)) rfl pd_25 vw rfl rfl fun _ T803 Lc803 X803 hQ803 => ?_
        obtain ⟨sx_803, sa_803, sk_803, rfl, Nq803, Kq803, fq803_0, fq803_1, g_sx_803, g_sa_803, vP, wZ, vl, fq803_7, ko, fq803_9⟩ := hQ803
        have N803 := Fr.app N723 Nq803
        have wa := own_sta_keep wa Kq803 all0
        have wi := own_sta_keep wi Kq803 all0
        have K803 := K723.trans Kq803 all0
        refine Ends.v (oxs X803 hy at_48 50 #[jv q0, ss, jv q1, ss, jv q2, ss, jv x6_1, ss, jv x8_2, ss, jv (fmxj (1 : Int64) q2), ss, rv b722, rv sx_803, uu, uu, uu, uu, uu] rfl (oF X803 hy at_50 52 rfl (oF X803 hy at_52 54 rfl (lremO X803 hy at_54 55 (own_plnz hP.1) (oJ2 X803 hy hown hZ hw at_55 58 7919 187 rfl (oF X803 hy at_58 60 rfl (lremO X803 hy at_60 61 (own_plnz hP.1) (oU X803 hy at_61 62 (oF X803 hy at_62 64 rfl ?_)))))))))
        refine lremO X803 hy at_64 65 (own_plnz hP.1) (oxq X803 hy at_65 67 #[jv q0, ss, jv q1, ss, jv q2, ss, jv x6_1, ss, jv x8_2, ss, jv (fmxj (1 : Int64) q2), ss, rv b722, rv sx_803, jv (((x8_2 % x6_1) * ((7919 : Int64) % x6_1)) % x6_1), ss, uu, uu, uu] rfl ?_)
        generalize hv14_9 : (((x8_2 % x6_1) * ((7919 : Int64) % x6_1)) % x6_1) = x14_9
        have hN : x14_9 = (((x8_2 % x6_1) * (7919 : Int64)) % x6_1) := by rw [← hv14_9]; exact own_wl hK hP.1 hP.2
        refine oF X803 hy at_67 69 rfl (oJ2 X803 hy hown hZ hw at_69 72 100000000 188 rfl (oY X803 hy at_72 73 ?_))
        have hc73 : x14_9 < (100000000 : Int64) := (by rw [hN, Int64.lt_iff_toInt_lt, show (100000000 : Int64).toInt = 100000000 from by decide]; omega)
        refine oxk X803 hy at_73 81 (XT.ll_lt_t hc73) (oF X803 hy at_81 83 rfl (oJ2 X803 hy hown hZ hw at_83 86 10000000 189 rfl (oY X803 hy at_86 87 ?_)))
        have hc87 : x14_9 < (10000000 : Int64) := (by rw [hN, Int64.lt_iff_toInt_lt, show (10000000 : Int64).toInt = 10000000 from by decide]; omega)
        refine oxk X803 hy at_87 95 (XT.ll_lt_t hc87) (oH X803 hy at_95 97 8 rfl (oxo X803 hy at_97 99 #[jv q0, ss, jv q1, ss, jv q2, ss, jv x6_1, ss, jv x8_2, ss, jv (fmxj (1 : Int64) q2), ss, rv b722, rv sx_803, jv x14_9, ss, iv 8, uu, uu] rfl (oB X803 hy at_99 101 rfl ?_)))
        refine cV X803 hy hml hown hZ hw at_101 104 0 190 108 110 109 111 44 rfl rfl rfl rfl rfl rfl (rmlen l Z a0 hw [] sx_803 sa_803 sk_803 (8 : Int32) (qM6 x8_2 x6_1) cs T803.heap n0 (Nat.le_trans Z0 K803.1) vP wZ ko wa hcs vl) rfl pd_10 vP rfl rfl fun _ T804 Lc804 X804 hQ804 => ?_
        obtain ⟨rfl, Nq804, hh804⟩ := hQ804
        have N804 := Fr.app N803 Nq804
        refine Ends.v (oD X804 hy at_104 106 rfl (oxl X804 hy at_106 111 (XT.ii_eq_t (by decide)) (oB X804 hy at_111 113 rfl (oG X804 hy at_113 114 0 rfl ?_))))
        refine cV X804 hy hml hown hZ hw at_114 117 0 191 192 194 193 195 44 rfl rfl rfl rfl rfl rfl (rmcha l Z a0 hw [] sx_803 (0 : Int32) sa_803 sk_803 (8 : Int32) (qM6 x8_2 x6_1) (112 : Int32) cs sf T803.heap n0 (Nat.le_trans Z0 K803.1) vP wZ ko wa hcs vl wi wz (by decide) (by decide) rfl) hh804 pd_30 vP rfl rfl fun _ T805 Lc805 X805 hQ805 => ?_
        obtain ⟨rfl, Nq805, hh805⟩ := hQ805
        have N805 := Fr.app N804 Nq805
        refine Ends.v (oH X805 hy at_117 119 112 rfl ?_)
        have hc119 : ((112 : Int32) &&& (255 : Int32)) = (112 : Int32) := (by decide)
        refine oxl X805 hy at_119 124 (XT.ii_eq_t hc119) (oJ X805 hy at_124 125 0 rfl (oxq X805 hy at_125 127 #[jv q0, ss, jv q1, ss, jv q2, ss, jv x6_1, ss, jv x8_2, ss, jv (fmxj (1 : Int64) q2), ss, rv b722, rv sx_803, jv x14_9, ss, iv 8, jv 0, ss] rfl (oB X805 hy at_127 129 rfl (oG X805 hy at_129 130 1 rfl (oF X805 hy at_130 132 rfl ?_)))))
        refine cS X805 hy hml hown hZ hw at_132 135 0 212 213 214 215 rfl rfl rfl rfl (rmstd l Z a0 hw [] sx_803 (1 : Int32) (0 : Int64) sa_803 sk_803 (8 : Int32) (qM6 x8_2 x6_1) cs (own_dg (((((x8_2 % x6_1) * (7919 : Int64)) % x6_1)).toInt / 100 / 100 / 100)) sf (Int64.ofInt (((((x8_2 % x6_1) * (7919 : Int64)) % x6_1)).toInt / 100 / 100 / 100)) T803.heap n0 (Nat.le_trans Z0 K803.1) vP wZ ko wa hcs vl wi wz (by decide) (by decide) rfl (by decide) (own_d1 _) (own_d2 _) (own_step0 (by omega) (by omega) (by omega))) hh805 pd_33 rfl rfl fun _ T806 Lc806 X806 hQ806 => ?_
        obtain ⟨rfl, Nq806, hh806⟩ := hQ806
        have N806 := Fr.app N805 Nq806
        refine Ends.v (oxq X806 hy at_135 137 #[jv q0, ss, jv q1, ss, jv q2, ss, jv x6_1, ss, jv x8_2, ss, jv (fmxj (1 : Int64) q2), ss, rv b722, rv sx_803, jv x14_9, ss, iv 8, jv (Int64.ofInt (((((x8_2 % x6_1) * (7919 : Int64)) % x6_1)).toInt / 100 / 100 / 100)), ss] rfl (oB X806 hy at_137 139 rfl (oG X806 hy at_139 140 2 rfl (oF X806 hy at_140 142 rfl ?_))))
        refine cS X806 hy hml hown hZ hw at_142 145 0 212 213 214 215 rfl rfl rfl rfl (rmstd l Z a0 hw [] sx_803 (2 : Int32) (Int64.ofInt (((((x8_2 % x6_1) * (7919 : Int64)) % x6_1)).toInt / 100 / 100 / 100)) sa_803 sk_803 (8 : Int32) (qM6 x8_2 x6_1) cs (own_dg (((((x8_2 % x6_1) * (7919 : Int64)) % x6_1)).toInt / 100 / 100 / 10)) sf (Int64.ofInt (((((x8_2 % x6_1) * (7919 : Int64)) % x6_1)).toInt / 100 / 100 / 10)) T803.heap n0 (Nat.le_trans Z0 K803.1) vP wZ ko wa hcs vl wi wz (by decide) (by decide) rfl (own_v0 (by omega) (by omega)) (own_d1 _) (own_d2 _) (own_step (M' := ((((x8_2 % x6_1) * (7919 : Int64)) % x6_1)).toInt / 100 / 100 / 100) (by omega) (by omega) (by omega))) hh806 pd_33 rfl rfl fun _ T807 Lc807 X807 hQ807 => ?_
        obtain ⟨rfl, Nq807, hh807⟩ := hQ807
        have N807 := Fr.app N806 Nq807
        refine Ends.v (oxq X807 hy at_145 147 #[jv q0, ss, jv q1, ss, jv q2, ss, jv x6_1, ss, jv x8_2, ss, jv (fmxj (1 : Int64) q2), ss, rv b722, rv sx_803, jv x14_9, ss, iv 8, jv (Int64.ofInt (((((x8_2 % x6_1) * (7919 : Int64)) % x6_1)).toInt / 100 / 100 / 10)), ss] rfl (oB X807 hy at_147 149 rfl (oG X807 hy at_149 150 3 rfl (oF X807 hy at_150 152 rfl ?_))))
        refine cS X807 hy hml hown hZ hw at_152 155 0 212 213 214 215 rfl rfl rfl rfl (rmstd l Z a0 hw [] sx_803 (3 : Int32) (Int64.ofInt (((((x8_2 % x6_1) * (7919 : Int64)) % x6_1)).toInt / 100 / 100 / 10)) sa_803 sk_803 (8 : Int32) (qM6 x8_2 x6_1) cs (own_dg (((((x8_2 % x6_1) * (7919 : Int64)) % x6_1)).toInt / 100 / 100)) sf (Int64.ofInt (((((x8_2 % x6_1) * (7919 : Int64)) % x6_1)).toInt / 100 / 100)) T803.heap n0 (Nat.le_trans Z0 K803.1) vP wZ ko wa hcs vl wi wz (by decide) (by decide) rfl (own_v0 (by omega) (by omega)) (own_d1 _) (own_d2 _) (own_step (M' := ((((x8_2 % x6_1) * (7919 : Int64)) % x6_1)).toInt / 100 / 100 / 10) (by omega) (by omega) (by omega))) hh807 pd_33 rfl rfl fun _ T808 Lc808 X808 hQ808 => ?_
        obtain ⟨rfl, Nq808, hh808⟩ := hQ808
        have N808 := Fr.app N807 Nq808
        refine Ends.v (oxq X808 hy at_155 157 #[jv q0, ss, jv q1, ss, jv q2, ss, jv x6_1, ss, jv x8_2, ss, jv (fmxj (1 : Int64) q2), ss, rv b722, rv sx_803, jv x14_9, ss, iv 8, jv (Int64.ofInt (((((x8_2 % x6_1) * (7919 : Int64)) % x6_1)).toInt / 100 / 100)), ss] rfl (oB X808 hy at_157 159 rfl (oG X808 hy at_159 160 4 rfl (oF X808 hy at_160 162 rfl ?_))))
        refine cS X808 hy hml hown hZ hw at_162 165 0 212 213 214 215 rfl rfl rfl rfl (rmstd l Z a0 hw [] sx_803 (4 : Int32) (Int64.ofInt (((((x8_2 % x6_1) * (7919 : Int64)) % x6_1)).toInt / 100 / 100)) sa_803 sk_803 (8 : Int32) (qM6 x8_2 x6_1) cs (own_dg (((((x8_2 % x6_1) * (7919 : Int64)) % x6_1)).toInt / 100 / 10)) sf (Int64.ofInt (((((x8_2 % x6_1) * (7919 : Int64)) % x6_1)).toInt / 100 / 10)) T803.heap n0 (Nat.le_trans Z0 K803.1) vP wZ ko wa hcs vl wi wz (by decide) (by decide) rfl (own_v0 (by omega) (by omega)) (own_d1 _) (own_d2 _) (own_step (M' := ((((x8_2 % x6_1) * (7919 : Int64)) % x6_1)).toInt / 100 / 100) (by omega) (by omega) (by omega))) hh808 pd_33 rfl rfl fun _ T809 Lc809 X809 hQ809 => ?_
        obtain ⟨rfl, Nq809, hh809⟩ := hQ809
        have N809 := Fr.app N808 Nq809
        refine Ends.v (oxq X809 hy at_165 167 #[jv q0, ss, jv q1, ss, jv q2, ss, jv x6_1, ss, jv x8_2, ss, jv (fmxj (1 : Int64) q2), ss, rv b722, rv sx_803, jv x14_9, ss, iv 8, jv (Int64.ofInt (((((x8_2 % x6_1) * (7919 : Int64)) % x6_1)).toInt / 100 / 10)), ss] rfl (oB X809 hy at_167 169 rfl (oG X809 hy at_169 170 5 rfl (oF X809 hy at_170 172 rfl ?_))))
        refine cS X809 hy hml hown hZ hw at_172 175 0 212 213 214 215 rfl rfl rfl rfl (rmstd l Z a0 hw [] sx_803 (5 : Int32) (Int64.ofInt (((((x8_2 % x6_1) * (7919 : Int64)) % x6_1)).toInt / 100 / 10)) sa_803 sk_803 (8 : Int32) (qM6 x8_2 x6_1) cs (own_dg (((((x8_2 % x6_1) * (7919 : Int64)) % x6_1)).toInt / 100)) sf (Int64.ofInt (((((x8_2 % x6_1) * (7919 : Int64)) % x6_1)).toInt / 100)) T803.heap n0 (Nat.le_trans Z0 K803.1) vP wZ ko wa hcs vl wi wz (by decide) (by decide) rfl (own_v0 (by omega) (by omega)) (own_d1 _) (own_d2 _) (own_step (M' := ((((x8_2 % x6_1) * (7919 : Int64)) % x6_1)).toInt / 100 / 10) (by omega) (by omega) (by omega))) hh809 pd_33 rfl rfl fun _ T810 Lc810 X810 hQ810 => ?_
        obtain ⟨rfl, Nq810, hh810⟩ := hQ810
        have N810 := Fr.app N809 Nq810
        refine Ends.v (oxq X810 hy at_175 177 #[jv q0, ss, jv q1, ss, jv q2, ss, jv x6_1, ss, jv x8_2, ss, jv (fmxj (1 : Int64) q2), ss, rv b722, rv sx_803, jv x14_9, ss, iv 8, jv (Int64.ofInt (((((x8_2 % x6_1) * (7919 : Int64)) % x6_1)).toInt / 100)), ss] rfl (oB X810 hy at_177 179 rfl (oH X810 hy at_179 181 6 rfl (oF X810 hy at_181 183 rfl ?_))))
        refine cS X810 hy hml hown hZ hw at_183 186 0 212 213 214 215 rfl rfl rfl rfl (rmstd l Z a0 hw [] sx_803 (6 : Int32) (Int64.ofInt (((((x8_2 % x6_1) * (7919 : Int64)) % x6_1)).toInt / 100)) sa_803 sk_803 (8 : Int32) (qM6 x8_2 x6_1) cs (own_dg (((((x8_2 % x6_1) * (7919 : Int64)) % x6_1)).toInt / 10)) sf (Int64.ofInt (((((x8_2 % x6_1) * (7919 : Int64)) % x6_1)).toInt / 10)) T803.heap n0 (Nat.le_trans Z0 K803.1) vP wZ ko wa hcs vl wi wz (by decide) (by decide) rfl (own_v0 (by omega) (by omega)) (own_d1 _) (own_d2 _) (own_step (M' := ((((x8_2 % x6_1) * (7919 : Int64)) % x6_1)).toInt / 100) (by omega) (by omega) (by omega))) hh810 pd_33 rfl rfl fun _ T811 Lc811 X811 hQ811 => ?_
        obtain ⟨rfl, Nq811, hh811⟩ := hQ811
        have N811 := Fr.app N810 Nq811
        refine Ends.v (oxq X811 hy at_186 188 #[jv q0, ss, jv q1, ss, jv q2, ss, jv x6_1, ss, jv x8_2, ss, jv (fmxj (1 : Int64) q2), ss, rv b722, rv sx_803, jv x14_9, ss, iv 8, jv (Int64.ofInt (((((x8_2 % x6_1) * (7919 : Int64)) % x6_1)).toInt / 10)), ss] rfl (oB X811 hy at_188 190 rfl (oH X811 hy at_190 192 7 rfl (oF X811 hy at_192 194 rfl ?_))))
        refine cS X811 hy hml hown hZ hw at_194 197 0 212 213 214 215 rfl rfl rfl rfl (rmstd l Z a0 hw [] sx_803 (7 : Int32) (Int64.ofInt (((((x8_2 % x6_1) * (7919 : Int64)) % x6_1)).toInt / 10)) sa_803 sk_803 (8 : Int32) (qM6 x8_2 x6_1) cs (own_dg (((((x8_2 % x6_1) * (7919 : Int64)) % x6_1)).toInt)) sf (Int64.ofInt (((((x8_2 % x6_1) * (7919 : Int64)) % x6_1)).toInt)) T803.heap n0 (Nat.le_trans Z0 K803.1) vP wZ ko wa hcs vl wi wz (by decide) (by decide) rfl (own_v0 (by omega) (by omega)) (own_d1 _) (own_d2 _) (own_step (M' := ((((x8_2 % x6_1) * (7919 : Int64)) % x6_1)).toInt / 10) (by omega) (by omega) (by omega))) hh811 pd_33 rfl rfl fun _ T812 Lc812 X812 hQ812 => ?_
        obtain ⟨rfl, Nq812, hh812⟩ := hQ812
        have N812 := Fr.app N811 Nq812
        refine Ends.v (oxq X812 hy at_197 199 #[jv q0, ss, jv q1, ss, jv q2, ss, jv x6_1, ss, jv x8_2, ss, jv (fmxj (1 : Int64) q2), ss, rv b722, rv sx_803, jv x14_9, ss, iv 8, jv (Int64.ofInt (((((x8_2 % x6_1) * (7919 : Int64)) % x6_1)).toInt)), ss] rfl (oB X812 hy at_199 201 rfl (oH X812 hy at_201 203 8 rfl (oF X812 hy at_203 205 rfl ?_))))
        refine cS X812 hy hml hown hZ hw at_205 208 0 212 213 214 215 rfl rfl rfl rfl (rmstx l Z a0 hw [] sx_803 (8 : Int32) (Int64.ofInt (((((x8_2 % x6_1) * (7919 : Int64)) % x6_1)).toInt)) sa_803 sk_803 (8 : Int32) (qM6 x8_2 x6_1) cs T803.heap n0 (Nat.le_trans Z0 K803.1) vP wZ ko wa hcs vl (own_v0 (by omega) (by omega)) (by decide)) hh812 pd_33 rfl rfl fun _ T813 Lc813 X813 hQ813 => ?_
        obtain ⟨rfl, Nq813, hh813⟩ := hQ813
        have N813 := Fr.app N812 Nq813
        refine Ends.v (oxq X813 hy at_208 210 #[jv q0, ss, jv q1, ss, jv q2, ss, jv x6_1, ss, jv x8_2, ss, jv (fmxj (1 : Int64) q2), ss, rv b722, rv sx_803, jv x14_9, ss, iv 8, jv (Int64.ofInt (((((x8_2 % x6_1) * (7919 : Int64)) % x6_1)).toInt)), ss] rfl (oB X813 hy at_210 212 rfl (oH X813 hy at_212 214 9 rfl (oF X813 hy at_214 216 rfl ?_))))
        refine cS X813 hy hml hown hZ hw at_216 219 0 212 213 214 215 rfl rfl rfl rfl (rmstx l Z a0 hw [] sx_803 (9 : Int32) (Int64.ofInt (((((x8_2 % x6_1) * (7919 : Int64)) % x6_1)).toInt)) sa_803 sk_803 (8 : Int32) (qM6 x8_2 x6_1) cs T803.heap n0 (Nat.le_trans Z0 K803.1) vP wZ ko wa hcs vl (own_v0 (by omega) (by omega)) (by decide)) hh813 pd_33 rfl rfl fun _ T814 Lc814 X814 hQ814 => ?_
        obtain ⟨rfl, Nq814, hh814⟩ := hQ814
        have N814 := Fr.app N813 Nq814
        refine Ends.v (oxq X814 hy at_219 221 #[jv q0, ss, jv q1, ss, jv q2, ss, jv x6_1, ss, jv x8_2, ss, jv (fmxj (1 : Int64) q2), ss, rv b722, rv sx_803, jv x14_9, ss, iv 8, jv (Int64.ofInt (((((x8_2 % x6_1) * (7919 : Int64)) % x6_1)).toInt)), ss] rfl (oF X814 hy at_221 223 rfl (oF X814 hy at_223 225 rfl (oY X814 hy at_225 226 ?_))))
        have hc226 : (Int64.ofInt (((((x8_2 % x6_1) * (7919 : Int64)) % x6_1)).toInt)) = x14_9 := (by rw [hN]; exact Int64.ofInt_toInt _)
        refine oxh X814 hy at_226 229 (XT.ll_ne_f hc226) (oG X814 hy at_229 230 1 rfl (oxm X814 hy at_230 234 ?_))
        exact fI X814 hy hrt hlk hQQ at_234 rfl (by simp) hh814 (by decide) ⟨rfl, N814, K803⟩
       ·by_cases hs45_815 : ((((x8_2 % x6_1) * (7919 : Int64)) % x6_1)).toInt < 100000000
        ·refine cV X723 hy hml hown hZ hw at_45 48 0 25 26 28 27 29 8 rfl rfl rfl rfl rfl rfl (rmpl8 l Z a0 hw [] b722 x8_2 x6_1 cs a_D1 k_a_D1 a_D2 k_a_D2 T723.heap n0 (Nat.le_trans Z0 K723.1) vw vi wa hcs wl wf wn wg (own_ge0 hK) (own_plnz hP.1) hs45_815 (by omega)) rfl pd_25 vw rfl rfl fun _ T816 Lc816 X816 hQ816 => ?_
         obtain ⟨sx_816, sa_816, sk_816, rfl, Nq816, Kq816, fq816_0, fq816_1, g_sx_816, g_sa_816, vO, wY, vk, fq816_7, kn, fq816_9⟩ := hQ816
         have N816 := Fr.app N723 Nq816
         have wa := own_sta_keep wa Kq816 all0
         have wi := own_sta_keep wi Kq816 all0
         have K816 := K723.trans Kq816 all0
         refine Ends.v (oxs X816 hy at_48 50 #[jv q0, ss, jv q1, ss, jv q2, ss, jv x6_1, ss, jv x8_2, ss, jv (fmxj (1 : Int64) q2), ss, rv b722, rv sx_816, uu, uu, uu, uu, uu] rfl (oF X816 hy at_50 52 rfl (oF X816 hy at_52 54 rfl (lremO X816 hy at_54 55 (own_plnz hP.1) (oJ2 X816 hy hown hZ hw at_55 58 7919 187 rfl (oF X816 hy at_58 60 rfl (lremO X816 hy at_60 61 (own_plnz hP.1) (oU X816 hy at_61 62 (oF X816 hy at_62 64 rfl ?_)))))))))
         refine lremO X816 hy at_64 65 (own_plnz hP.1) (oxq X816 hy at_65 67 #[jv q0, ss, jv q1, ss, jv q2, ss, jv x6_1, ss, jv x8_2, ss, jv (fmxj (1 : Int64) q2), ss, rv b722, rv sx_816, jv (((x8_2 % x6_1) * ((7919 : Int64) % x6_1)) % x6_1), ss, uu, uu, uu] rfl ?_)
         generalize hv14_10 : (((x8_2 % x6_1) * ((7919 : Int64) % x6_1)) % x6_1) = x14_10
         have hN : x14_10 = (((x8_2 % x6_1) * (7919 : Int64)) % x6_1) := by rw [← hv14_10]; exact own_wl hK hP.1 hP.2
         refine oF X816 hy at_67 69 rfl (oJ2 X816 hy hown hZ hw at_69 72 100000000 188 rfl (oY X816 hy at_72 73 ?_))
         have hc73 : x14_10 < (100000000 : Int64) := (by rw [hN, Int64.lt_iff_toInt_lt, show (100000000 : Int64).toInt = 100000000 from by decide]; omega)
         refine oxk X816 hy at_73 81 (XT.ll_lt_t hc73) (oF X816 hy at_81 83 rfl (oJ2 X816 hy hown hZ hw at_83 86 10000000 189 rfl (oY X816 hy at_86 87 ?_)))
         have hc87 : ¬ (x14_10 < (10000000 : Int64)) := (by rw [hN, Int64.lt_iff_toInt_lt, show (10000000 : Int64).toInt = 10000000 from by decide]; omega)
         refine oxh X816 hy at_87 90 (XT.ll_lt_f hc87) (oH X816 hy at_90 92 9 rfl (oxm X816 hy at_92 97 (oxo X816 hy at_97 99 #[jv q0, ss, jv q1, ss, jv q2, ss, jv x6_1, ss, jv x8_2, ss, jv (fmxj (1 : Int64) q2), ss, rv b722, rv sx_816, jv x14_10, ss, iv 9, uu, uu] rfl (oB X816 hy at_99 101 rfl ?_))))
         refine cV X816 hy hml hown hZ hw at_101 104 0 190 108 110 109 111 44 rfl rfl rfl rfl rfl rfl (rmlen l Z a0 hw [] sx_816 sa_816 sk_816 (9 : Int32) (qM7 x8_2 x6_1) cs T816.heap n0 (Nat.le_trans Z0 K816.1) vO wY kn wa hcs vk) rfl pd_10 vO rfl rfl fun _ T817 Lc817 X817 hQ817 => ?_
         obtain ⟨rfl, Nq817, hh817⟩ := hQ817
         have N817 := Fr.app N816 Nq817
         refine Ends.v (oD X817 hy at_104 106 rfl (oxl X817 hy at_106 111 (XT.ii_eq_t (by decide)) (oB X817 hy at_111 113 rfl (oG X817 hy at_113 114 0 rfl ?_))))
         refine cV X817 hy hml hown hZ hw at_114 117 0 191 192 194 193 195 44 rfl rfl rfl rfl rfl rfl (rmcha l Z a0 hw [] sx_816 (0 : Int32) sa_816 sk_816 (9 : Int32) (qM7 x8_2 x6_1) (112 : Int32) cs sf T816.heap n0 (Nat.le_trans Z0 K816.1) vO wY kn wa hcs vk wi wz (by decide) (by decide) rfl) hh817 pd_30 vO rfl rfl fun _ T818 Lc818 X818 hQ818 => ?_
         obtain ⟨rfl, Nq818, hh818⟩ := hQ818
         have N818 := Fr.app N817 Nq818
         refine Ends.v (oH X818 hy at_117 119 112 rfl ?_)
         have hc119 : ((112 : Int32) &&& (255 : Int32)) = (112 : Int32) := (by decide)
         refine oxl X818 hy at_119 124 (XT.ii_eq_t hc119) (oJ X818 hy at_124 125 0 rfl (oxq X818 hy at_125 127 #[jv q0, ss, jv q1, ss, jv q2, ss, jv x6_1, ss, jv x8_2, ss, jv (fmxj (1 : Int64) q2), ss, rv b722, rv sx_816, jv x14_10, ss, iv 9, jv 0, ss] rfl (oB X818 hy at_127 129 rfl (oG X818 hy at_129 130 1 rfl (oF X818 hy at_130 132 rfl ?_)))))
         refine cS X818 hy hml hown hZ hw at_132 135 0 212 213 214 215 rfl rfl rfl rfl (rmstd l Z a0 hw [] sx_816 (1 : Int32) (0 : Int64) sa_816 sk_816 (9 : Int32) (qM7 x8_2 x6_1) cs (own_dg (((((x8_2 % x6_1) * (7919 : Int64)) % x6_1)).toInt / 100 / 100 / 100 / 10)) sf (Int64.ofInt (((((x8_2 % x6_1) * (7919 : Int64)) % x6_1)).toInt / 100 / 100 / 100 / 10)) T816.heap n0 (Nat.le_trans Z0 K816.1) vO wY kn wa hcs vk wi wz (by decide) (by decide) rfl (by decide) (own_d1 _) (own_d2 _) (own_step0 (by omega) (by omega) (by omega))) hh818 pd_33 rfl rfl fun _ T819 Lc819 X819 hQ819 => ?_
         obtain ⟨rfl, Nq819, hh819⟩ := hQ819
         have N819 := Fr.app N818 Nq819
         refine Ends.v (oxq X819 hy at_135 137 #[jv q0, ss, jv q1, ss, jv q2, ss, jv x6_1, ss, jv x8_2, ss, jv (fmxj (1 : Int64) q2), ss, rv b722, rv sx_816, jv x14_10, ss, iv 9, jv (Int64.ofInt (((((x8_2 % x6_1) * (7919 : Int64)) % x6_1)).toInt / 100 / 100 / 100 / 10)), ss] rfl (oB X819 hy at_137 139 rfl (oG X819 hy at_139 140 2 rfl (oF X819 hy at_140 142 rfl ?_))))
         refine cS X819 hy hml hown hZ hw at_142 145 0 212 213 214 215 rfl rfl rfl rfl (rmstd l Z a0 hw [] sx_816 (2 : Int32) (Int64.ofInt (((((x8_2 % x6_1) * (7919 : Int64)) % x6_1)).toInt / 100 / 100 / 100 / 10)) sa_816 sk_816 (9 : Int32) (qM7 x8_2 x6_1) cs (own_dg (((((x8_2 % x6_1) * (7919 : Int64)) % x6_1)).toInt / 100 / 100 / 100)) sf (Int64.ofInt (((((x8_2 % x6_1) * (7919 : Int64)) % x6_1)).toInt / 100 / 100 / 100)) T816.heap n0 (Nat.le_trans Z0 K816.1) vO wY kn wa hcs vk wi wz (by decide) (by decide) rfl (own_v0 (by omega) (by omega)) (own_d1 _) (own_d2 _) (own_step (M' := ((((x8_2 % x6_1) * (7919 : Int64)) % x6_1)).toInt / 100 / 100 / 100 / 10) (by omega) (by omega) (by omega))) hh819 pd_33 rfl rfl fun _ T820 Lc820 X820 hQ820 => ?_
         obtain ⟨rfl, Nq820, hh820⟩ := hQ820
         have N820 := Fr.app N819 Nq820
         refine Ends.v (oxq X820 hy at_145 147 #[jv q0, ss, jv q1, ss, jv q2, ss, jv x6_1, ss, jv x8_2, ss, jv (fmxj (1 : Int64) q2), ss, rv b722, rv sx_816, jv x14_10, ss, iv 9, jv (Int64.ofInt (((((x8_2 % x6_1) * (7919 : Int64)) % x6_1)).toInt / 100 / 100 / 100)), ss] rfl (oB X820 hy at_147 149 rfl (oG X820 hy at_149 150 3 rfl (oF X820 hy at_150 152 rfl ?_))))
         refine cS X820 hy hml hown hZ hw at_152 155 0 212 213 214 215 rfl rfl rfl rfl (rmstd l Z a0 hw [] sx_816 (3 : Int32) (Int64.ofInt (((((x8_2 % x6_1) * (7919 : Int64)) % x6_1)).toInt / 100 / 100 / 100)) sa_816 sk_816 (9 : Int32) (qM7 x8_2 x6_1) cs (own_dg (((((x8_2 % x6_1) * (7919 : Int64)) % x6_1)).toInt / 100 / 100 / 10)) sf (Int64.ofInt (((((x8_2 % x6_1) * (7919 : Int64)) % x6_1)).toInt / 100 / 100 / 10)) T816.heap n0 (Nat.le_trans Z0 K816.1) vO wY kn wa hcs vk wi wz (by decide) (by decide) rfl (own_v0 (by omega) (by omega)) (own_d1 _) (own_d2 _) (own_step (M' := ((((x8_2 % x6_1) * (7919 : Int64)) % x6_1)).toInt / 100 / 100 / 100) (by omega) (by omega) (by omega))) hh820 pd_33 rfl rfl fun _ T821 Lc821 X821 hQ821 => ?_
         obtain ⟨rfl, Nq821, hh821⟩ := hQ821
         have N821 := Fr.app N820 Nq821
         refine Ends.v (oxq X821 hy at_155 157 #[jv q0, ss, jv q1, ss, jv q2, ss, jv x6_1, ss, jv x8_2, ss, jv (fmxj (1 : Int64) q2), ss, rv b722, rv sx_816, jv x14_10, ss, iv 9, jv (Int64.ofInt (((((x8_2 % x6_1) * (7919 : Int64)) % x6_1)).toInt / 100 / 100 / 10)), ss] rfl (oB X821 hy at_157 159 rfl (oG X821 hy at_159 160 4 rfl (oF X821 hy at_160 162 rfl ?_))))
         refine cS X821 hy hml hown hZ hw at_162 165 0 212 213 214 215 rfl rfl rfl rfl (rmstd l Z a0 hw [] sx_816 (4 : Int32) (Int64.ofInt (((((x8_2 % x6_1) * (7919 : Int64)) % x6_1)).toInt / 100 / 100 / 10)) sa_816 sk_816 (9 : Int32) (qM7 x8_2 x6_1) cs (own_dg (((((x8_2 % x6_1) * (7919 : Int64)) % x6_1)).toInt / 100 / 100)) sf (Int64.ofInt (((((x8_2 % x6_1) * (7919 : Int64)) % x6_1)).toInt / 100 / 100)) T816.heap n0 (Nat.le_trans Z0 K816.1) vO wY kn wa hcs vk wi wz (by decide) (by decide) rfl (own_v0 (by omega) (by omega)) (own_d1 _) (own_d2 _) (own_step (M' := ((((x8_2 % x6_1) * (7919 : Int64)) % x6_1)).toInt / 100 / 100 / 10) (by omega) (by omega) (by omega))) hh821 pd_33 rfl rfl fun _ T822 Lc822 X822 hQ822 => ?_
         obtain ⟨rfl, Nq822, hh822⟩ := hQ822
         have N822 := Fr.app N821 Nq822
         refine Ends.v (oxq X822 hy at_165 167 #[jv q0, ss, jv q1, ss, jv q2, ss, jv x6_1, ss, jv x8_2, ss, jv (fmxj (1 : Int64) q2), ss, rv b722, rv sx_816, jv x14_10, ss, iv 9, jv (Int64.ofInt (((((x8_2 % x6_1) * (7919 : Int64)) % x6_1)).toInt / 100 / 100)), ss] rfl (oB X822 hy at_167 169 rfl (oG X822 hy at_169 170 5 rfl (oF X822 hy at_170 172 rfl ?_))))
         refine cS X822 hy hml hown hZ hw at_172 175 0 212 213 214 215 rfl rfl rfl rfl (rmstd l Z a0 hw [] sx_816 (5 : Int32) (Int64.ofInt (((((x8_2 % x6_1) * (7919 : Int64)) % x6_1)).toInt / 100 / 100)) sa_816 sk_816 (9 : Int32) (qM7 x8_2 x6_1) cs (own_dg (((((x8_2 % x6_1) * (7919 : Int64)) % x6_1)).toInt / 100 / 10)) sf (Int64.ofInt (((((x8_2 % x6_1) * (7919 : Int64)) % x6_1)).toInt / 100 / 10)) T816.heap n0 (Nat.le_trans Z0 K816.1) vO wY kn wa hcs vk wi wz (by decide) (by decide) rfl (own_v0 (by omega) (by omega)) (own_d1 _) (own_d2 _) (own_step (M' := ((((x8_2 % x6_1) * (7919 : Int64)) % x6_1)).toInt / 100 / 100) (by omega) (by omega) (by omega))) hh822 pd_33 rfl rfl fun _ T823 Lc823 X823 hQ823 => ?_
         obtain ⟨rfl, Nq823, hh823⟩ := hQ823
         have N823 := Fr.app N822 Nq823
         refine Ends.v (oxq X823 hy at_175 177 #[jv q0, ss, jv q1, ss, jv q2, ss, jv x6_1, ss, jv x8_2, ss, jv (fmxj (1 : Int64) q2), ss, rv b722, rv sx_816, jv x14_10, ss, iv 9, jv (Int64.ofInt (((((x8_2 % x6_1) * (7919 : Int64)) % x6_1)).toInt / 100 / 10)), ss] rfl (oB X823 hy at_177 179 rfl (oH X823 hy at_179 181 6 rfl (oF X823 hy at_181 183 rfl ?_))))
         refine cS X823 hy hml hown hZ hw at_183 186 0 212 213 214 215 rfl rfl rfl rfl (rmstd l Z a0 hw [] sx_816 (6 : Int32) (Int64.ofInt (((((x8_2 % x6_1) * (7919 : Int64)) % x6_1)).toInt / 100 / 10)) sa_816 sk_816 (9 : Int32) (qM7 x8_2 x6_1) cs (own_dg (((((x8_2 % x6_1) * (7919 : Int64)) % x6_1)).toInt / 100)) sf (Int64.ofInt (((((x8_2 % x6_1) * (7919 : Int64)) % x6_1)).toInt / 100)) T816.heap n0 (Nat.le_trans Z0 K816.1) vO wY kn wa hcs vk wi wz (by decide) (by decide) rfl (own_v0 (by omega) (by omega)) (own_d1 _) (own_d2 _) (own_step (M' := ((((x8_2 % x6_1) * (7919 : Int64)) % x6_1)).toInt / 100 / 10) (by omega) (by omega) (by omega))) hh823 pd_33 rfl rfl fun _ T824 Lc824 X824 hQ824 => ?_
         obtain ⟨rfl, Nq824, hh824⟩ := hQ824
         have N824 := Fr.app N823 Nq824
         refine Ends.v (oxq X824 hy at_186 188 #[jv q0, ss, jv q1, ss, jv q2, ss, jv x6_1, ss, jv x8_2, ss, jv (fmxj (1 : Int64) q2), ss, rv b722, rv sx_816, jv x14_10, ss, iv 9, jv (Int64.ofInt (((((x8_2 % x6_1) * (7919 : Int64)) % x6_1)).toInt / 100)), ss] rfl (oB X824 hy at_188 190 rfl (oH X824 hy at_190 192 7 rfl (oF X824 hy at_192 194 rfl ?_))))
         refine cS X824 hy hml hown hZ hw at_194 197 0 212 213 214 215 rfl rfl rfl rfl (rmstd l Z a0 hw [] sx_816 (7 : Int32) (Int64.ofInt (((((x8_2 % x6_1) * (7919 : Int64)) % x6_1)).toInt / 100)) sa_816 sk_816 (9 : Int32) (qM7 x8_2 x6_1) cs (own_dg (((((x8_2 % x6_1) * (7919 : Int64)) % x6_1)).toInt / 10)) sf (Int64.ofInt (((((x8_2 % x6_1) * (7919 : Int64)) % x6_1)).toInt / 10)) T816.heap n0 (Nat.le_trans Z0 K816.1) vO wY kn wa hcs vk wi wz (by decide) (by decide) rfl (own_v0 (by omega) (by omega)) (own_d1 _) (own_d2 _) (own_step (M' := ((((x8_2 % x6_1) * (7919 : Int64)) % x6_1)).toInt / 100) (by omega) (by omega) (by omega))) hh824 pd_33 rfl rfl fun _ T825 Lc825 X825 hQ825 => ?_
         obtain ⟨rfl, Nq825, hh825⟩ := hQ825
         have N825 := Fr.app N824 Nq825
         refine Ends.v (oxq X825 hy at_197 199 #[jv q0, ss, jv q1, ss, jv q2, ss, jv x6_1, ss, jv x8_2, ss, jv (fmxj (1 : Int64) q2), ss, rv b722, rv sx_816, jv x14_10, ss, iv 9, jv (Int64.ofInt (((((x8_2 % x6_1) * (7919 : Int64)) % x6_1)).toInt / 10)), ss] rfl (oB X825 hy at_199 201 rfl (oH X825 hy at_201 203 8 rfl (oF X825 hy at_203 205 rfl ?_))))
         refine cS X825 hy hml hown hZ hw at_205 208 0 212 213 214 215 rfl rfl rfl rfl (rmstd l Z a0 hw [] sx_816 (8 : Int32) (Int64.ofInt (((((x8_2 % x6_1) * (7919 : Int64)) % x6_1)).toInt / 10)) sa_816 sk_816 (9 : Int32) (qM7 x8_2 x6_1) cs (own_dg (((((x8_2 % x6_1) * (7919 : Int64)) % x6_1)).toInt)) sf (Int64.ofInt (((((x8_2 % x6_1) * (7919 : Int64)) % x6_1)).toInt)) T816.heap n0 (Nat.le_trans Z0 K816.1) vO wY kn wa hcs vk wi wz (by decide) (by decide) rfl (own_v0 (by omega) (by omega)) (own_d1 _) (own_d2 _) (own_step (M' := ((((x8_2 % x6_1) * (7919 : Int64)) % x6_1)).toInt / 10) (by omega) (by omega) (by omega))) hh825 pd_33 rfl rfl fun _ T826 Lc826 X826 hQ826 => ?_
         obtain ⟨rfl, Nq826, hh826⟩ := hQ826
         have N826 := Fr.app N825 Nq826
         refine Ends.v (oxq X826 hy at_208 210 #[jv q0, ss, jv q1, ss, jv q2, ss, jv x6_1, ss, jv x8_2, ss, jv (fmxj (1 : Int64) q2), ss, rv b722, rv sx_816, jv x14_10, ss, iv 9, jv (Int64.ofInt (((((x8_2 % x6_1) * (7919 : Int64)) % x6_1)).toInt)), ss] rfl (oB X826 hy at_210 212 rfl (oH X826 hy at_212 214 9 rfl (oF X826 hy at_214 216 rfl ?_))))
         refine cS X826 hy hml hown hZ hw at_216 219 0 212 213 214 215 rfl rfl rfl rfl (rmstx l Z a0 hw [] sx_816 (9 : Int32) (Int64.ofInt (((((x8_2 % x6_1) * (7919 : Int64)) % x6_1)).toInt)) sa_816 sk_816 (9 : Int32) (qM7 x8_2 x6_1) cs T816.heap n0 (Nat.le_trans Z0 K816.1) vO wY kn wa hcs vk (own_v0 (by omega) (by omega)) (by decide)) hh826 pd_33 rfl rfl fun _ T827 Lc827 X827 hQ827 => ?_
         obtain ⟨rfl, Nq827, hh827⟩ := hQ827
         have N827 := Fr.app N826 Nq827
         refine Ends.v (oxq X827 hy at_219 221 #[jv q0, ss, jv q1, ss, jv q2, ss, jv x6_1, ss, jv x8_2, ss, jv (fmxj (1 : Int64) q2), ss, rv b722, rv sx_816, jv x14_10, ss, iv 9, jv (Int64.ofInt (((((x8_2 % x6_1) * (7919 : Int64)) % x6_1)).toInt)), ss] rfl (oF X827 hy at_221 223 rfl (oF X827 hy at_223 225 rfl (oY X827 hy at_225 226 ?_))))
         have hc226 : (Int64.ofInt (((((x8_2 % x6_1) * (7919 : Int64)) % x6_1)).toInt)) = x14_10 := (by rw [hN]; exact Int64.ofInt_toInt _)
         refine oxh X827 hy at_226 229 (XT.ll_ne_f hc226) (oG X827 hy at_229 230 1 rfl (oxm X827 hy at_230 234 ?_))
         exact fI X827 hy hrt hlk hQQ at_234 rfl (by simp) hh827 (by decide) ⟨rfl, N827, K816⟩
        ·by_cases hs45_828 : ((((x8_2 % x6_1) * (7919 : Int64)) % x6_1)).toInt < 1000000000
         ·refine cV X723 hy hml hown hZ hw at_45 48 0 25 26 28 27 29 8 rfl rfl rfl rfl rfl rfl (rmpl9 l Z a0 hw [] b722 x8_2 x6_1 cs a_D1 k_a_D1 a_D2 k_a_D2 T723.heap n0 (Nat.le_trans Z0 K723.1) vw vi wa hcs wl wf wn wg (own_ge0 hK) (own_plnz hP.1) hs45_828 (by omega)) rfl pd_25 vw rfl rfl fun _ T829 Lc829 X829 hQ829 => ?_
          obtain ⟨sx_829, sa_829, sk_829, rfl, Nq829, Kq829, fq829_0, fq829_1, g_sx_829, g_sa_829, vN, wX, vj, fq829_7, km, fq829_9⟩ := hQ829
          have N829 := Fr.app N723 Nq829
          have wa := own_sta_keep wa Kq829 all0
          have wi := own_sta_keep wi Kq829 all0
          have K829 := K723.trans Kq829 all0
          refine Ends.v (oxs X829 hy at_48 50 #[jv q0, ss, jv q1, ss, jv q2, ss, jv x6_1, ss, jv x8_2, ss, jv (fmxj (1 : Int64) q2), ss, rv b722, rv sx_829, uu, uu, uu, uu, uu] rfl (oF X829 hy at_50 52 rfl (oF X829 hy at_52 54 rfl (lremO X829 hy at_54 55 (own_plnz hP.1) (oJ2 X829 hy hown hZ hw at_55 58 7919 187 rfl (oF X829 hy at_58 60 rfl (lremO X829 hy at_60 61 (own_plnz hP.1) (oU X829 hy at_61 62 (oF X829 hy at_62 64 rfl ?_)))))))))
          refine lremO X829 hy at_64 65 (own_plnz hP.1) (oxq X829 hy at_65 67 #[jv q0, ss, jv q1, ss, jv q2, ss, jv x6_1, ss, jv x8_2, ss, jv (fmxj (1 : Int64) q2), ss, rv b722, rv sx_829, jv (((x8_2 % x6_1) * ((7919 : Int64) % x6_1)) % x6_1), ss, uu, uu, uu] rfl ?_)
          generalize hv14_11 : (((x8_2 % x6_1) * ((7919 : Int64) % x6_1)) % x6_1) = x14_11
          have hN : x14_11 = (((x8_2 % x6_1) * (7919 : Int64)) % x6_1) := by rw [← hv14_11]; exact own_wl hK hP.1 hP.2
          refine oF X829 hy at_67 69 rfl (oJ2 X829 hy hown hZ hw at_69 72 100000000 188 rfl (oY X829 hy at_72 73 ?_))
          have hc73 : ¬ (x14_11 < (100000000 : Int64)) := (by rw [hN, Int64.lt_iff_toInt_lt, show (100000000 : Int64).toInt = 100000000 from by decide]; omega)
          refine oxh X829 hy at_73 76 (XT.ll_lt_f hc73) (oH X829 hy at_76 78 10 rfl (oxm X829 hy at_78 97 (oxo X829 hy at_97 99 #[jv q0, ss, jv q1, ss, jv q2, ss, jv x6_1, ss, jv x8_2, ss, jv (fmxj (1 : Int64) q2), ss, rv b722, rv sx_829, jv x14_11, ss, iv 10, uu, uu] rfl (oB X829 hy at_99 101 rfl ?_))))
          refine cV X829 hy hml hown hZ hw at_101 104 0 190 108 110 109 111 44 rfl rfl rfl rfl rfl rfl (rmlen l Z a0 hw [] sx_829 sa_829 sk_829 (10 : Int32) (qM8 x8_2 x6_1) cs T829.heap n0 (Nat.le_trans Z0 K829.1) vN wX km wa hcs vj) rfl pd_10 vN rfl rfl fun _ T830 Lc830 X830 hQ830 => ?_
          obtain ⟨rfl, Nq830, hh830⟩ := hQ830
          have N830 := Fr.app N829 Nq830
          refine Ends.v (oD X830 hy at_104 106 rfl (oxl X830 hy at_106 111 (XT.ii_eq_t (by decide)) (oB X830 hy at_111 113 rfl (oG X830 hy at_113 114 0 rfl ?_))))
          refine cV X830 hy hml hown hZ hw at_114 117 0 191 192 194 193 195 44 rfl rfl rfl rfl rfl rfl (rmcha l Z a0 hw [] sx_829 (0 : Int32) sa_829 sk_829 (10 : Int32) (qM8 x8_2 x6_1) (112 : Int32) cs sf T829.heap n0 (Nat.le_trans Z0 K829.1) vN wX km wa hcs vj wi wz (by decide) (by decide) rfl) hh830 pd_30 vN rfl rfl fun _ T831 Lc831 X831 hQ831 => ?_
          obtain ⟨rfl, Nq831, hh831⟩ := hQ831
          have N831 := Fr.app N830 Nq831
          refine Ends.v (oH X831 hy at_117 119 112 rfl ?_)
          have hc119 : ((112 : Int32) &&& (255 : Int32)) = (112 : Int32) := (by decide)
          refine oxl X831 hy at_119 124 (XT.ii_eq_t hc119) (oJ X831 hy at_124 125 0 rfl (oxq X831 hy at_125 127 #[jv q0, ss, jv q1, ss, jv q2, ss, jv x6_1, ss, jv x8_2, ss, jv (fmxj (1 : Int64) q2), ss, rv b722, rv sx_829, jv x14_11, ss, iv 10, jv 0, ss] rfl (oB X831 hy at_127 129 rfl (oG X831 hy at_129 130 1 rfl (oF X831 hy at_130 132 rfl ?_)))))
          refine cS X831 hy hml hown hZ hw at_132 135 0 212 213 214 215 rfl rfl rfl rfl (rmstd l Z a0 hw [] sx_829 (1 : Int32) (0 : Int64) sa_829 sk_829 (10 : Int32) (qM8 x8_2 x6_1) cs (own_dg (((((x8_2 % x6_1) * (7919 : Int64)) % x6_1)).toInt / 100 / 100 / 100 / 100)) sf (Int64.ofInt (((((x8_2 % x6_1) * (7919 : Int64)) % x6_1)).toInt / 100 / 100 / 100 / 100)) T829.heap n0 (Nat.le_trans Z0 K829.1) vN wX km wa hcs vj wi wz (by decide) (by decide) rfl (by decide) (own_d1 _) (own_d2 _) (own_step0 (by omega) (by omega) (by omega))) hh831 pd_33 rfl rfl fun _ T832 Lc832 X832 hQ832 => ?_
          obtain ⟨rfl, Nq832, hh832⟩ := hQ832
          have N832 := Fr.app N831 Nq832
          refine Ends.v (oxq X832 hy at_135 137 #[jv q0, ss, jv q1, ss, jv q2, ss, jv x6_1, ss, jv x8_2, ss, jv (fmxj (1 : Int64) q2), ss, rv b722, rv sx_829, jv x14_11, ss, iv 10, jv (Int64.ofInt (((((x8_2 % x6_1) * (7919 : Int64)) % x6_1)).toInt / 100 / 100 / 100 / 100)), ss] rfl (oB X832 hy at_137 139 rfl (oG X832 hy at_139 140 2 rfl (oF X832 hy at_140 142 rfl ?_))))
          refine cS X832 hy hml hown hZ hw at_142 145 0 212 213 214 215 rfl rfl rfl rfl (rmstd l Z a0 hw [] sx_829 (2 : Int32) (Int64.ofInt (((((x8_2 % x6_1) * (7919 : Int64)) % x6_1)).toInt / 100 / 100 / 100 / 100)) sa_829 sk_829 (10 : Int32) (qM8 x8_2 x6_1) cs (own_dg (((((x8_2 % x6_1) * (7919 : Int64)) % x6_1)).toInt / 100 / 100 / 100 / 10)) sf (Int64.ofInt (((((x8_2 % x6_1) * (7919 : Int64)) % x6_1)).toInt / 100 / 100 / 100 / 10)) T829.heap n0 (Nat.le_trans Z0 K829.1) vN wX km wa hcs vj wi wz (by decide) (by decide) rfl (own_v0 (by omega) (by omega)) (own_d1 _) (own_d2 _) (own_step (M' := ((((x8_2 % x6_1) * (7919 : Int64)) % x6_1)).toInt / 100 / 100 / 100 / 100) (by omega) (by omega) (by omega))) hh832 pd_33 rfl rfl fun _ T833 Lc833 X833 hQ833 => ?_
          obtain ⟨rfl, Nq833, hh833⟩ := hQ833
          have N833 := Fr.app N832 Nq833
          refine Ends.v (oxq X833 hy at_145 147 #[jv q0, ss, jv q1, ss, jv q2, ss, jv x6_1, ss, jv x8_2, ss, jv (fmxj (1 : Int64) q2), ss, rv b722, rv sx_829, jv x14_11, ss, iv 10, jv (Int64.ofInt (((((x8_2 % x6_1) * (7919 : Int64)) % x6_1)).toInt / 100 / 100 / 100 / 10)), ss] rfl (oB X833 hy at_147 149 rfl (oG X833 hy at_149 150 3 rfl (oF X833 hy at_150 152 rfl ?_))))
          refine cS X833 hy hml hown hZ hw at_152 155 0 212 213 214 215 rfl rfl rfl rfl (rmstd l Z a0 hw [] sx_829 (3 : Int32) (Int64.ofInt (((((x8_2 % x6_1) * (7919 : Int64)) % x6_1)).toInt / 100 / 100 / 100 / 10)) sa_829 sk_829 (10 : Int32) (qM8 x8_2 x6_1) cs (own_dg (((((x8_2 % x6_1) * (7919 : Int64)) % x6_1)).toInt / 100 / 100 / 100)) sf (Int64.ofInt (((((x8_2 % x6_1) * (7919 : Int64)) % x6_1)).toInt / 100 / 100 / 100)) T829.heap n0 (Nat.le_trans Z0 K829.1) vN wX km wa hcs vj wi wz (by decide) (by decide) rfl (own_v0 (by omega) (by omega)) (own_d1 _) (own_d2 _) (own_step (M' := ((((x8_2 % x6_1) * (7919 : Int64)) % x6_1)).toInt / 100 / 100 / 100 / 10) (by omega) (by omega) (by omega))) hh833 pd_33 rfl rfl fun _ T834 Lc834 X834 hQ834 => ?_
          obtain ⟨rfl, Nq834, hh834⟩ := hQ834
          have N834 := Fr.app N833 Nq834
          refine Ends.v (oxq X834 hy at_155 157 #[jv q0, ss, jv q1, ss, jv q2, ss, jv x6_1, ss, jv x8_2, ss, jv (fmxj (1 : Int64) q2), ss, rv b722, rv sx_829, jv x14_11, ss, iv 10, jv (Int64.ofInt (((((x8_2 % x6_1) * (7919 : Int64)) % x6_1)).toInt / 100 / 100 / 100)), ss] rfl (oB X834 hy at_157 159 rfl (oG X834 hy at_159 160 4 rfl (oF X834 hy at_160 162 rfl ?_))))
          refine cS X834 hy hml hown hZ hw at_162 165 0 212 213 214 215 rfl rfl rfl rfl (rmstd l Z a0 hw [] sx_829 (4 : Int32) (Int64.ofInt (((((x8_2 % x6_1) * (7919 : Int64)) % x6_1)).toInt / 100 / 100 / 100)) sa_829 sk_829 (10 : Int32) (qM8 x8_2 x6_1) cs (own_dg (((((x8_2 % x6_1) * (7919 : Int64)) % x6_1)).toInt / 100 / 100 / 10)) sf (Int64.ofInt (((((x8_2 % x6_1) * (7919 : Int64)) % x6_1)).toInt / 100 / 100 / 10)) T829.heap n0 (Nat.le_trans Z0 K829.1) vN wX km wa hcs vj wi wz (by decide) (by decide) rfl (own_v0 (by omega) (by omega)) (own_d1 _) (own_d2 _) (own_step (M' := ((((x8_2 % x6_1) * (7919 : Int64)) % x6_1)).toInt / 100 / 100 / 100) (by omega) (by omega) (by omega))) hh834 pd_33 rfl rfl fun _ T835 Lc835 X835 hQ835 => ?_
          obtain ⟨rfl, Nq835, hh835⟩ := hQ835
          have N835 := Fr.app N834 Nq835
          refine Ends.v (oxq X835 hy at_165 167 #[jv q0, ss, jv q1, ss, jv q2, ss, jv x6_1, ss, jv x8_2, ss, jv (fmxj (1 : Int64) q2), ss, rv b722, rv sx_829, jv x14_11, ss, iv 10, jv (Int64.ofInt (((((x8_2 % x6_1) * (7919 : Int64)) % x6_1)).toInt / 100 / 100 / 10)), ss] rfl (oB X835 hy at_167 169 rfl (oG X835 hy at_169 170 5 rfl (oF X835 hy at_170 172 rfl ?_))))
          refine cS X835 hy hml hown hZ hw at_172 175 0 212 213 214 215 rfl rfl rfl rfl (rmstd l Z a0 hw [] sx_829 (5 : Int32) (Int64.ofInt (((((x8_2 % x6_1) * (7919 : Int64)) % x6_1)).toInt / 100 / 100 / 10)) sa_829 sk_829 (10 : Int32) (qM8 x8_2 x6_1) cs (own_dg (((((x8_2 % x6_1) * (7919 : Int64)) % x6_1)).toInt / 100 / 100)) sf (Int64.ofInt (((((x8_2 % x6_1) * (7919 : Int64)) % x6_1)).toInt / 100 / 100)) T829.heap n0 (Nat.le_trans Z0 K829.1) vN wX km wa hcs vj wi wz (by decide) (by decide) rfl (own_v0 (by omega) (by omega)) (own_d1 _) (own_d2 _) (own_step (M' := ((((x8_2 % x6_1) * (7919 : Int64)) % x6_1)).toInt / 100 / 100 / 10) (by omega) (by omega) (by omega))) hh835 pd_33 rfl rfl fun _ T836 Lc836 X836 hQ836 => ?_
          obtain ⟨rfl, Nq836, hh836⟩ := hQ836
          have N836 := Fr.app N835 Nq836
          refine Ends.v (oxq X836 hy at_175 177 #[jv q0, ss, jv q1, ss, jv q2, ss, jv x6_1, ss, jv x8_2, ss, jv (fmxj (1 : Int64) q2), ss, rv b722, rv sx_829, jv x14_11, ss, iv 10, jv (Int64.ofInt (((((x8_2 % x6_1) * (7919 : Int64)) % x6_1)).toInt / 100 / 100)), ss] rfl (oB X836 hy at_177 179 rfl (oH X836 hy at_179 181 6 rfl (oF X836 hy at_181 183 rfl ?_))))
          refine cS X836 hy hml hown hZ hw at_183 186 0 212 213 214 215 rfl rfl rfl rfl (rmstd l Z a0 hw [] sx_829 (6 : Int32) (Int64.ofInt (((((x8_2 % x6_1) * (7919 : Int64)) % x6_1)).toInt / 100 / 100)) sa_829 sk_829 (10 : Int32) (qM8 x8_2 x6_1) cs (own_dg (((((x8_2 % x6_1) * (7919 : Int64)) % x6_1)).toInt / 100 / 10)) sf (Int64.ofInt (((((x8_2 % x6_1) * (7919 : Int64)) % x6_1)).toInt / 100 / 10)) T829.heap n0 (Nat.le_trans Z0 K829.1) vN wX km wa hcs vj wi wz (by decide) (by decide) rfl (own_v0 (by omega) (by omega)) (own_d1 _) (own_d2 _) (own_step (M' := ((((x8_2 % x6_1) * (7919 : Int64)) % x6_1)).toInt / 100 / 100) (by omega) (by omega) (by omega))) hh836 pd_33 rfl rfl fun _ T837 Lc837 X837 hQ837 => ?_
          obtain ⟨rfl, Nq837, hh837⟩ := hQ837
          have N837 := Fr.app N836 Nq837
          refine Ends.v (oxq X837 hy at_186 188 #[jv q0, ss, jv q1, ss, jv q2, ss, jv x6_1, ss, jv x8_2, ss, jv (fmxj (1 : Int64) q2), ss, rv b722, rv sx_829, jv x14_11, ss, iv 10, jv (Int64.ofInt (((((x8_2 % x6_1) * (7919 : Int64)) % x6_1)).toInt / 100 / 10)), ss] rfl (oB X837 hy at_188 190 rfl (oH X837 hy at_190 192 7 rfl (oF X837 hy at_192 194 rfl ?_))))
          refine cS X837 hy hml hown hZ hw at_194 197 0 212 213 214 215 rfl rfl rfl rfl (rmstd l Z a0 hw [] sx_829 (7 : Int32) (Int64.ofInt (((((x8_2 % x6_1) * (7919 : Int64)) % x6_1)).toInt / 100 / 10)) sa_829 sk_829 (10 : Int32) (qM8 x8_2 x6_1) cs (own_dg (((((x8_2 % x6_1) * (7919 : Int64)) % x6_1)).toInt / 100)) sf (Int64.ofInt (((((x8_2 % x6_1) * (7919 : Int64)) % x6_1)).toInt / 100)) T829.heap n0 (Nat.le_trans Z0 K829.1) vN wX km wa hcs vj wi wz (by decide) (by decide) rfl (own_v0 (by omega) (by omega)) (own_d1 _) (own_d2 _) (own_step (M' := ((((x8_2 % x6_1) * (7919 : Int64)) % x6_1)).toInt / 100 / 10) (by omega) (by omega) (by omega))) hh837 pd_33 rfl rfl fun _ T838 Lc838 X838 hQ838 => ?_
          obtain ⟨rfl, Nq838, hh838⟩ := hQ838
          have N838 := Fr.app N837 Nq838
          refine Ends.v (oxq X838 hy at_197 199 #[jv q0, ss, jv q1, ss, jv q2, ss, jv x6_1, ss, jv x8_2, ss, jv (fmxj (1 : Int64) q2), ss, rv b722, rv sx_829, jv x14_11, ss, iv 10, jv (Int64.ofInt (((((x8_2 % x6_1) * (7919 : Int64)) % x6_1)).toInt / 100)), ss] rfl (oB X838 hy at_199 201 rfl (oH X838 hy at_201 203 8 rfl (oF X838 hy at_203 205 rfl ?_))))
          refine cS X838 hy hml hown hZ hw at_205 208 0 212 213 214 215 rfl rfl rfl rfl (rmstd l Z a0 hw [] sx_829 (8 : Int32) (Int64.ofInt (((((x8_2 % x6_1) * (7919 : Int64)) % x6_1)).toInt / 100)) sa_829 sk_829 (10 : Int32) (qM8 x8_2 x6_1) cs (own_dg (((((x8_2 % x6_1) * (7919 : Int64)) % x6_1)).toInt / 10)) sf (Int64.ofInt (((((x8_2 % x6_1) * (7919 : Int64)) % x6_1)).toInt / 10)) T829.heap n0 (Nat.le_trans Z0 K829.1) vN wX km wa hcs vj wi wz (by decide) (by decide) rfl (own_v0 (by omega) (by omega)) (own_d1 _) (own_d2 _) (own_step (M' := ((((x8_2 % x6_1) * (7919 : Int64)) % x6_1)).toInt / 100) (by omega) (by omega) (by omega))) hh838 pd_33 rfl rfl fun _ T839 Lc839 X839 hQ839 => ?_
          obtain ⟨rfl, Nq839, hh839⟩ := hQ839
          have N839 := Fr.app N838 Nq839
          refine Ends.v (oxq X839 hy at_208 210 #[jv q0, ss, jv q1, ss, jv q2, ss, jv x6_1, ss, jv x8_2, ss, jv (fmxj (1 : Int64) q2), ss, rv b722, rv sx_829, jv x14_11, ss, iv 10, jv (Int64.ofInt (((((x8_2 % x6_1) * (7919 : Int64)) % x6_1)).toInt / 10)), ss] rfl (oB X839 hy at_210 212 rfl (oH X839 hy at_212 214 9 rfl (oF X839 hy at_214 216 rfl ?_))))
          refine cS X839 hy hml hown hZ hw at_216 219 0 212 213 214 215 rfl rfl rfl rfl (rmstd l Z a0 hw [] sx_829 (9 : Int32) (Int64.ofInt (((((x8_2 % x6_1) * (7919 : Int64)) % x6_1)).toInt / 10)) sa_829 sk_829 (10 : Int32) (qM8 x8_2 x6_1) cs (own_dg (((((x8_2 % x6_1) * (7919 : Int64)) % x6_1)).toInt)) sf (Int64.ofInt (((((x8_2 % x6_1) * (7919 : Int64)) % x6_1)).toInt)) T829.heap n0 (Nat.le_trans Z0 K829.1) vN wX km wa hcs vj wi wz (by decide) (by decide) rfl (own_v0 (by omega) (by omega)) (own_d1 _) (own_d2 _) (own_step (M' := ((((x8_2 % x6_1) * (7919 : Int64)) % x6_1)).toInt / 10) (by omega) (by omega) (by omega))) hh839 pd_33 rfl rfl fun _ T840 Lc840 X840 hQ840 => ?_
          obtain ⟨rfl, Nq840, hh840⟩ := hQ840
          have N840 := Fr.app N839 Nq840
          refine Ends.v (oxq X840 hy at_219 221 #[jv q0, ss, jv q1, ss, jv q2, ss, jv x6_1, ss, jv x8_2, ss, jv (fmxj (1 : Int64) q2), ss, rv b722, rv sx_829, jv x14_11, ss, iv 10, jv (Int64.ofInt (((((x8_2 % x6_1) * (7919 : Int64)) % x6_1)).toInt)), ss] rfl (oF X840 hy at_221 223 rfl (oF X840 hy at_223 225 rfl (oY X840 hy at_225 226 ?_))))
          have hc226 : (Int64.ofInt (((((x8_2 % x6_1) * (7919 : Int64)) % x6_1)).toInt)) = x14_11 := (by rw [hN]; exact Int64.ofInt_toInt _)
          refine oxh X840 hy at_226 229 (XT.ll_ne_f hc226) (oG X840 hy at_229 230 1 rfl (oxm X840 hy at_230 234 ?_))
          exact fI X840 hy hrt hlk hQQ at_234 rfl (by simp) hh840 (by decide) ⟨rfl, N840, K829⟩
         ·exact absurd hW.2 hs45_828
theorem comes_1 {Post : Tables → Env → Array Value → State → Outcome → State → Prop} (hpost : ∀ tb e args s v u, (limb_1_1.after args s (.returned v) u = true ∧ limb_1_2.after args s (.returned v) u = true ∧ True) → FrameEnd s (.returned v) u (Jvm.fieldLocs frame_1_writes args s ++ Jvm.arrayLocs frame_1_arrays args s ++ Jvm.staticLocs frame_1_statics s) 24 192 → Post tb e args s (.returned v) u) :
    ArmFor flags0 classFile x code maxLocals ret World_1 tables_1 room_1 Calls_1 rest_1 Pre_1 Post := by
  intro l hfl _ _ p e ha hc hk s m args below hf hA hF happ hP
  obtain ⟨hcalls, hrest, hpre⟩ := hP
  obtain ⟨-, -, -, hnamed, -, -, -, hat⟩ := (Spec.applies_iff hf).mp happ
  obtain ⟨hg, hn⟩ := and_e (Cond.before_iff.mp (show (Jvm.Cond.and given_1 narrow_1).before args s = true from hpre))
  obtain ⟨gl1, gr1⟩ := and_e hg
  obtain ⟨gl2, gr2⟩ := and_e gr1
  obtain ⟨gl3, gr3⟩ := and_e gr2
  obtain ⟨w0, w1, w2, rfl⟩ : ∃ w0 w1 w2 : Value, args = #[w0, w1, w2] := by
    have hs : args.size = 3 := by simpa [Cond.value, given_1] using gl1
    obtain ⟨L⟩ := args
    match L, hs with
    | [w0, w1, w2], _ => exact ⟨w0, w1, w2, rfl⟩
  have hw := fun d (hd : d ∈ tables_1) => atoms_spec (ws := Jvm.Cond.code x code maxLocals ret :: tables_1) hat d (List.mem_cons_of_mem _ hd)
  have hfit : Fit s := fun {y c} hc i hi => by
    obtain ⟨ha, rfl⟩ := Array.getElem?_eq_some_iff.mp hc
    have q := List.all_eq_true.mp ((Array.all_eq_true_iff_forall_mem.mp hF) _ (Array.getElem_mem ha)) i (List.mem_range.mpr hi)
    simpa [Array.getElem?_eq_getElem hi] using q
  obtain ⟨hsets, hown0⟩ := atoms_of _ (rest_1_c_eq ▸ (show rest_1_c.before _ s = true from hrest))
  have hr0 := Cond.before_iff.mp hown0
  obtain ⟨i0, ei0⟩ := isL_v gl2
  obtain rfl : w0 = (.long i0) := Option.some.inj ei0
  obtain ⟨i1, ei1⟩ := isL_v gl3
  obtain rfl : w1 = (.long i1) := Option.some.inj ei1
  obtain ⟨i2, ei2⟩ := isL_v gr3
  obtain rfl : w2 = (.long i2) := Option.some.inj ei2
  obtain ⟨cs, ev_cs⟩ := is_v (Cond.before_iff.mp (hsets _ mm1))
  have hcs : ¬ cs = (0 : Int32) := own_nz (Cond.before_iff.mp (hsets _ (List.mem_of_getElem? (i := 2) rfl))) ev_cs
  have wa := Sta.start ev_cs (Or.inl (hsets _ mm0))
  obtain ⟨sf, ev_sf, wz⟩ := isR_v (Cond.before_iff.mp (hsets _ (List.mem_of_getElem? (i := 8) rfl)))
  have wi := Sta.start ev_sf (Or.inl (hsets _ (List.mem_of_getElem? (i := 7) rfl)))
  obtain ⟨a_D1, k_a_D1, ev_a_D1, wl⟩ := own_t1 (hsets _ (List.mem_of_getElem? (i := 12) rfl)) (hsets _ (List.mem_of_getElem? (i := 13) rfl)) (hsets _ (List.mem_of_getElem? (i := 14) rfl)) (tb hw 45 rfl)
  have wf := Sta.start ev_a_D1 (Or.inl (hsets _ (List.mem_of_getElem? (i := 11) rfl)))
  obtain ⟨a_D2, k_a_D2, ev_a_D2, wn⟩ := own_t2 (hsets _ (List.mem_of_getElem? (i := 17) rfl)) (hsets _ (List.mem_of_getElem? (i := 18) rfl)) (hsets _ (List.mem_of_getElem? (i := 19) rfl)) (tb hw 45 rfl)
  have wg := Sta.start ev_a_D2 (Or.inl (hsets _ (List.mem_of_getElem? (i := 16) rfl)))
  obtain ⟨n, o, h1, h2, h3, _, L, rfl, hQ, hq⟩ := rm0 l s _ hw tables_1 i0 i1 i2 cs sf a_D1 k_a_D1 a_D2 k_a_D2 s.heap s.heap.size (Nat.le_refl _) wa hcs wi wz wl wf wn wg p e ha hc hk s m _ below hf ((Spec.applies_iff_loose hf).mp happ).1 ⟨rfl, State.Warmed39.refl s, rfl⟩ trivial
  obtain ⟨hv, N, -⟩ := hQ
  have hlaw : (1 : Int32) = 1 := rfl
  rw [hlaw] at hv
  subst hv
  refine ⟨n, _, h1, h2, h3, hpost _ _ _ _ _ _ ⟨Cond.after_iff.mpr rfl, Cond.after_iff.mpr (eq_i res_at (Term.int_eval (1)) rfl), trivial⟩ ⟨hq.1, hq.2.1, (hq.2.2.sift fun y hy => Or.inr (N y hy)).mono (by decide) (by decide)⟩⟩
theorem main_1_1 : Claimed_1_1 := comes_1 fun _ _ _ _ _ _ h hF => ⟨h.1, hF⟩
theorem main_1_2 : Claimed_1_2 := comes_1 fun _ _ _ _ _ _ h hF => ⟨h.2.1, hF⟩
end Jvm.Pilot.@@N@@
namespace Jvm.Pilot.@@N@@
open Jvm Jvm.ClassFile Sem Op Lib Jvm.Free Jvm.Stand Jvm.Pilot.@@N@@.Jvm.D
/-! MADE BY PROGRAM (witnessworld.py) out of the Statement's table words and the real class files: 27 classes; the members and pool entries that the words name. The judged class is class 1, her method 1. -/
namespace start1
open Jvm.ClassFile
def u (s : String) : CpInfo := .utf8 (stringToUtf16 s)
/-- a pool by its gaps: so many unusable entries, then the entry; so many at the end -/
def gap : Nat → List CpInfo → List CpInfo
  | 0, r => r
  | n + 1, r => .unusable :: gap n r
def poolList (es : List (Nat × CpInfo)) (last : Nat) : List CpInfo := es.foldr (fun e r => gap e.1 (e.2 :: r)) (gap last [])
def pool (es : List (Nat × CpInfo)) (last : Nat) : Array CpInfo := ⟨poolList es last⟩
def fileOf (pool : Array CpInfo) (this : Nat) (attrs : Array Attribute := #[]) (ms : Array MethodInfo := #[]) (fl : Nat := 33) (sup : Nat := 0) (ifs : Array Nat := #[]) (fds : Array FieldInfo := #[]) : ClassFile where
  minorVersion := 0
  majorVersion := 65
  constantPool := pool
  accessFlags := fl
  thisClass := this
  superClass := sup
  interfaces := ifs
  fields := fds
  methods := ms
  attributes := attrs
def plain (name : String) (sup : Option ClassId) : Class where
  name := name
  kind := .ordinary
  loader := none
  accessFlags := 33
  super := sup
  interfaces := #[]
  cf := none
  fields := #[]
  methods := #[]
  instanceTypes := #[]
  staticTypes := #[]
  resolved := #[]
  callSites := []
  init := .initialized
  statics := none
  mirror := none

def pool0 : Array CpInfo := pool [(5, u "<init>"), (0, u "()V"), (1, .class_ 10), (1, u "java/lang/Object"), (85, u "clone"), (0, u "()Ljava/lang/Object;")] 26

def k0c0 : Code := { maxStack := 0, maxLocals := 1, code := object_method_1_code, exceptionTable := #[], attributes := #[] }
def k0m0 : Method := { name := "<init>", desc := "()V", sig := { parameters := [], returnType := none }, accessFlags := 1, code := some k0c0 }
def k0m1 : Method := { name := "clone", desc := "()Ljava/lang/Object;", sig := { parameters := [], returnType := some (.object "java/lang/Object") }, accessFlags := 260, code := none }
/-- java/lang/Object -/
def k0 : Class := { plain "java/lang/Object" none with
  accessFlags := 33
  interfaces := #[]
  cf := some (fileOf pool0 8 #[] #[{ accessFlags := 1, nameIndex := 5, descriptorIndex := 6, attributes := #[] }, { accessFlags := 260, nameIndex := 96, descriptorIndex := 97, attributes := #[] }] 33 0 #[] #[])
  fields := #[]
  methods := #[k0m0, k0m1]
  instanceTypes := #[]
  staticTypes := #[]
  resolved := Array.replicate 124 none
  statics := none }

def pool1 : Array CpInfo := pool [(2, .class_ 4), (1, u "java/lang/Object"), (0, u "<init>"), (0, u "()V"), (2, .long 9223372036854775807), (1, .long 1000000000), (1, .methodref 14 15), (0, .class_ 16), (0, .nameAndType 17 18), (0, u "java/lang/Math"), (0, u "max"), (0, u "(JJ)J"), (0, .class_ 20), (0, u "com/example/hiscore/hiscore/Load"), (0, .methodref 19 22), (0, .nameAndType 5 23), (0, u "(JJ)V"), (0, .methodref 19 25), (0, .nameAndType 26 27), (0, u "player"), (0, u "(J)Ljava/lang/String;"), (0, .long 7919), (1, .long 100000000), (1, .long 10000000), (1, .methodref 35 36), (0, .class_ 37), (0, .nameAndType 38 39), (0, u "java/lang/String"), (0, u "length"), (0, u "()I"), (0, .methodref 35 41), (0, .nameAndType 42 43), (0, u "charAt"), (0, u "(I)C"), (0, .methodref 45 46), (0, .class_ 47), (0, .nameAndType 48 49), (0, u "com/example/hiscore/hiscore/LoadPlayerPinLaw"), (0, u "step"), (0, u "(Ljava/lang/String;IJ)J"), (0, .long 18446744073709551615), (1, .long 10), (3, u "law"), (0, u "(JJJ)Z")] 3

def k1m0 : Method := { name := "<init>", desc := "()V", sig := { parameters := [], returnType := none }, accessFlags := 1, code := none }
def k1c1 : Code := { maxStack := 6, maxLocals := 19, code := code, exceptionTable := #[], attributes := #[] }
def k1m1 : Method := { name := "law", desc := "(JJJ)Z", sig := { parameters := [.long, .long, .long], returnType := some .boolean }, accessFlags := 9, code := some k1c1 }
def k1c2 : Code := { maxStack := 4, maxLocals := 5, code := method_3_code, exceptionTable := #[], attributes := #[] }
def k1m2 : Method := { name := "step", desc := "(Ljava/lang/String;IJ)J", sig := { parameters := [(.object "java/lang/String"), .int, .long], returnType := some .long }, accessFlags := 10, code := some k1c2 }
/-- com/example/hiscore/hiscore/LoadPlayerPinLaw -/
def k1 : Class := { plain "com/example/hiscore/hiscore/LoadPlayerPinLaw" (some 0) with
  accessFlags := 49
  interfaces := #[]
  cf := some (fileOf pool1 45 #[] #[{ accessFlags := 1, nameIndex := 5, descriptorIndex := 6, attributes := #[] }, { accessFlags := 9, nameIndex := 56, descriptorIndex := 57, attributes := #[] }, { accessFlags := 10, nameIndex := 48, descriptorIndex := 49, attributes := #[] }] 49 2 #[] #[])
  fields := #[]
  methods := #[k1m0, k1m1, k1m2]
  instanceTypes := #[]
  staticTypes := #[]
  resolved := Array.replicate 61 none
  statics := none }

def pool2 : Array CpInfo := pool [(1, .class_ 2), (0, u "java/lang/Math"), (1, .class_ 6), (1, u "java/lang/Object"), (0, u "<init>"), (0, u "()V"), (89, .class_ 100), (1, u "java/lang/Math$RandomNumberGeneratorHolder"), (20, u "(JJ)J"), (50, u "negativeZeroFloatBits"), (0, u "J"), (2, u "negativeZeroDoubleBits"), (21, u "max"), (2, u "min"), (43, u "$assertionsDisabled"), (0, u "Z"), (88, u "(II)I"), (2, u "twoToTheDoubleScaleDown"), (0, u "D"), (4, u "twoToTheDoubleScaleUp"), (9, u "E"), (3, u "PI"), (2, u "TAU"), (2, u "DEGREES_TO_RADIANS"), (0, u "RADIANS_TO_DEGREES")] 94

def k2m0 : Method := { name := "<init>", desc := "()V", sig := { parameters := [], returnType := none }, accessFlags := 2, code := none }
def k2c1 : Code := { maxStack := 2, maxLocals := 2, code := jdk_29_method_65_code, exceptionTable := #[], attributes := #[] }
def k2m1 : Method := { name := "max", desc := "(II)I", sig := { parameters := [.int, .int], returnType := some .int }, accessFlags := 9, code := some k2c1 }
def k2c2 : Code := { maxStack := 4, maxLocals := 4, code := jdk_29_method_66_code, exceptionTable := #[], attributes := #[] }
def k2m2 : Method := { name := "max", desc := "(JJ)J", sig := { parameters := [.long, .long], returnType := some .long }, accessFlags := 9, code := some k2c2 }
def k2c3 : Code := { maxStack := 2, maxLocals := 2, code := jdk_29_method_69_code, exceptionTable := #[], attributes := #[] }
def k2m3 : Method := { name := "min", desc := "(II)I", sig := { parameters := [.int, .int], returnType := some .int }, accessFlags := 9, code := some k2c3 }
/-- java/lang/Math -/
def k2 : Class := { plain "java/lang/Math" (some 0) with
  accessFlags := 49
  interfaces := #[]
  cf := some (fileOf pool2 1 #[.nestMembers #[98]] #[{ accessFlags := 2, nameIndex := 7, descriptorIndex := 8, attributes := #[] }, { accessFlags := 9, nameIndex := 198, descriptorIndex := 335, attributes := #[] }, { accessFlags := 9, nameIndex := 198, descriptorIndex := 121, attributes := #[] }, { accessFlags := 9, nameIndex := 201, descriptorIndex := 335, attributes := #[] }] 49 4 #[] #[{ accessFlags := 25, nameIndex := 354, descriptorIndex := 339, attributes := #[] }, { accessFlags := 25, nameIndex := 358, descriptorIndex := 339, attributes := #[] }, { accessFlags := 25, nameIndex := 361, descriptorIndex := 339, attributes := #[] }, { accessFlags := 26, nameIndex := 364, descriptorIndex := 339, attributes := #[] }, { accessFlags := 26, nameIndex := 365, descriptorIndex := 339, attributes := #[] }, { accessFlags := 26, nameIndex := 172, descriptorIndex := 173, attributes := #[] }, { accessFlags := 26, nameIndex := 176, descriptorIndex := 173, attributes := #[] }, { accessFlags := 8, nameIndex := 344, descriptorIndex := 339, attributes := #[] }, { accessFlags := 8, nameIndex := 338, descriptorIndex := 339, attributes := #[] }, { accessFlags := 4120, nameIndex := 245, descriptorIndex := 246, attributes := #[] }])
  fields := #[{ name := "E", type := .double, accessFlags := 25, slot := 0, constantValue := 0 }, { name := "PI", type := .double, accessFlags := 25, slot := 1, constantValue := 0 }, { name := "TAU", type := .double, accessFlags := 25, slot := 2, constantValue := 0 }, { name := "DEGREES_TO_RADIANS", type := .double, accessFlags := 26, slot := 3, constantValue := 0 }, { name := "RADIANS_TO_DEGREES", type := .double, accessFlags := 26, slot := 4, constantValue := 0 }, { name := "negativeZeroFloatBits", type := .long, accessFlags := 26, slot := 5, constantValue := 0 }, { name := "negativeZeroDoubleBits", type := .long, accessFlags := 26, slot := 6, constantValue := 0 }, { name := "twoToTheDoubleScaleUp", type := .double, accessFlags := 8, slot := 7, constantValue := 0 }, { name := "twoToTheDoubleScaleDown", type := .double, accessFlags := 8, slot := 8, constantValue := 0 }, { name := "$assertionsDisabled", type := .boolean, accessFlags := 4120, slot := 9, constantValue := 0 }]
  methods := #[k2m0, k2m1, k2m2, k2m3]
  instanceTypes := #[]
  staticTypes := #[.double, .double, .double, .double, .double, .long, .long, .double, .double, .boolean]
  resolved := Array.replicate 460 none
  statics := none }

def pool3 : Array CpInfo := pool [(1, .methodref 2 3), (0, .class_ 4), (0, .nameAndType 5 6), (0, u "java/lang/Object"), (0, u "<init>"), (0, u "()V"), (0, .class_ 8), (0, u "java/lang/Record")] 13

def k3c0 : Code := { maxStack := 1, maxLocals := 1, code := jdk_30_method_1_code, exceptionTable := #[], attributes := #[] }
def k3m0 : Method := { name := "<init>", desc := "()V", sig := { parameters := [], returnType := none }, accessFlags := 4, code := some k3c0 }
/-- java/lang/Record -/
def k3 : Class := { plain "java/lang/Record" (some 0) with
  accessFlags := 1057
  interfaces := #[]
  cf := some (fileOf pool3 7 #[] #[{ accessFlags := 4, nameIndex := 5, descriptorIndex := 6, attributes := #[] }] 1057 2 #[] #[])
  fields := #[]
  methods := #[k3m0]
  instanceTypes := #[]
  staticTypes := #[]
  resolved := Array.replicate 22 none
  statics := none }

def pool4 : Array CpInfo := pool [(1, .methodref 2 3), (0, .class_ 4), (0, .nameAndType 5 6), (0, u "java/lang/Record"), (0, u "<init>"), (0, u "()V"), (0, .class_ 8), (0, u "com/example/hiscore/hiscore/Load"), (0, .long 1000000000), (10, .fieldref 7 21), (0, .nameAndType 22 23), (0, u "players"), (0, u "J"), (0, .fieldref 7 25), (0, .nameAndType 26 23), (0, u "updates"), (0, .class_ 28), (0, u "java/lang/StringBuilder"), (0, .methodref 27 30), (0, .nameAndType 5 31), (0, u "(I)V"), (0, .methodref 7 33), (0, .nameAndType 34 35), (0, u "appendPlayer"), (0, u "(Ljava/lang/StringBuilder;J)V"), (0, .methodref 27 37), (0, .nameAndType 38 39), (0, u "toString"), (0, u "()Ljava/lang/String;"), (8, .methodref 27 49), (0, .nameAndType 50 51), (0, u "append"), (0, u "(Ljava/lang/String;)Ljava/lang/StringBuilder;"), (18, .class_ 72), (1, u "java/lang/String"), (2, .long 7919), (1, .methodref 78 79), (0, .class_ 80), (0, .nameAndType 38 81), (0, u "java/lang/Long"), (0, u "(J)Ljava/lang/String;"), (0, .methodref 27 83), (0, .nameAndType 50 84), (0, u "(C)Ljava/lang/StringBuilder;"), (0, .methodref 70 86), (0, .nameAndType 87 88), (0, u "length"), (0, u "()I"), (11, u "MAX_PLAYERS"), (1, u "STEP"), (0, u "SCORES"), (0, u "ID_DIGITS"), (0, u "I"), (1, u "LINE_BYTES"), (1, u "(JJ)V"), (4, u "player")] 25

def k4c0 : Code := { maxStack := 4, maxLocals := 5, code := prog_8_method_1_code, exceptionTable := #[], attributes := #[] }
def k4m0 : Method := { name := "<init>", desc := "(JJ)V", sig := { parameters := [.long, .long], returnType := none }, accessFlags := 1, code := some k4c0 }
def k4c1 : Code := { maxStack := 4, maxLocals := 4, code := prog_8_method_2_code, exceptionTable := #[], attributes := #[] }
def k4m1 : Method := { name := "player", desc := "(J)Ljava/lang/String;", sig := { parameters := [.long], returnType := some (.object "java/lang/String") }, accessFlags := 1, code := some k4c1 }
def k4c2 : Code := { maxStack := 4, maxLocals := 6, code := prog_8_method_5_code, exceptionTable := #[], attributes := #[] }
def k4m2 : Method := { name := "appendPlayer", desc := "(Ljava/lang/StringBuilder;J)V", sig := { parameters := [(.object "java/lang/StringBuilder"), .long], returnType := none }, accessFlags := 2, code := some k4c2 }
/-- com/example/hiscore/hiscore/Load -/
def k4 : Class := { plain "com/example/hiscore/hiscore/Load" (some 3) with
  accessFlags := 49
  interfaces := #[]
  cf := some (fileOf pool4 7 #[] #[{ accessFlags := 1, nameIndex := 5, descriptorIndex := 109, attributes := #[] }, { accessFlags := 1, nameIndex := 114, descriptorIndex := 81, attributes := #[] }, { accessFlags := 2, nameIndex := 34, descriptorIndex := 35, attributes := #[] }] 49 2 #[] #[{ accessFlags := 18, nameIndex := 22, descriptorIndex := 23, attributes := #[] }, { accessFlags := 18, nameIndex := 26, descriptorIndex := 23, attributes := #[] }, { accessFlags := 25, nameIndex := 100, descriptorIndex := 23, attributes := #[] }, { accessFlags := 26, nameIndex := 102, descriptorIndex := 23, attributes := #[] }, { accessFlags := 26, nameIndex := 103, descriptorIndex := 23, attributes := #[] }, { accessFlags := 26, nameIndex := 104, descriptorIndex := 105, attributes := #[] }, { accessFlags := 26, nameIndex := 107, descriptorIndex := 105, attributes := #[] }])
  fields := #[{ name := "players", type := .long, accessFlags := 18, slot := 0, constantValue := 0 }, { name := "updates", type := .long, accessFlags := 18, slot := 1, constantValue := 0 }, { name := "MAX_PLAYERS", type := .long, accessFlags := 25, slot := 0, constantValue := 0 }, { name := "STEP", type := .long, accessFlags := 26, slot := 1, constantValue := 0 }, { name := "SCORES", type := .long, accessFlags := 26, slot := 2, constantValue := 0 }, { name := "ID_DIGITS", type := .int, accessFlags := 26, slot := 3, constantValue := 0 }, { name := "LINE_BYTES", type := .int, accessFlags := 26, slot := 4, constantValue := 0 }]
  methods := #[k4m0, k4m1, k4m2]
  instanceTypes := #[.long, .long]
  staticTypes := #[.long, .long, .long, .int, .int]
  resolved := Array.replicate 140 none
  statics := none }

def pool5 : Array CpInfo := pool [(1, .class_ 2), (0, u "java/lang/Appendable"), (0, .class_ 4), (0, u "java/lang/Object")] 9

/-- java/lang/Appendable -/
def k5 : Class := { plain "java/lang/Appendable" (some 0) with
  accessFlags := 1537
  interfaces := #[]
  cf := some (fileOf pool5 1 #[] #[] 1537 3 #[] #[])
  fields := #[]
  methods := #[]
  instanceTypes := #[]
  staticTypes := #[]
  resolved := Array.replicate 14 none
  statics := none }

def pool6 : Array CpInfo := pool [(2, .class_ 4), (1, u "java/lang/CharSequence"), (42, .class_ 48), (0, u "java/lang/CharSequence$1CodePointIterator"), (10, .class_ 60), (0, u "java/lang/CharSequence$1CharIterator"), (5, .class_ 67), (0, u "java/lang/Object")] 63

/-- java/lang/CharSequence -/
def k6 : Class := { plain "java/lang/CharSequence" (some 0) with
  accessFlags := 1537
  interfaces := #[]
  cf := some (fileOf pool6 2 #[.nestMembers #[47, 59]] #[] 1537 66 #[] #[])
  fields := #[]
  methods := #[]
  instanceTypes := #[]
  staticTypes := #[]
  resolved := Array.replicate 131 none
  statics := none }

def pool7 : Array CpInfo := pool [(1, .class_ 2), (0, u "java/lang/String"), (0, .methodref 4 5), (0, .class_ 6), (0, .nameAndType 7 8), (0, u "java/lang/Object"), (0, u "<init>"), (0, u "()V"), (1, .class_ 12), (1, u "java/lang/AbstractStringBuilder"), (0, u "EMPTYVALUE"), (0, u "[B"), (0, .fieldref 10 16), (0, .nameAndType 17 14), (0, u "value"), (0, .fieldref 1 19), (0, .nameAndType 20 21), (0, u "COMPACT_STRINGS"), (0, u "Z"), (0, .fieldref 10 23), (0, .nameAndType 24 25), (0, u "coder"), (0, u "B"), (6, .methodref 1 33), (0, .nameAndType 34 35), (0, u "length"), (0, u "()I"), (3, .integer 2147483647), (0, .methodref 1 41), (0, .nameAndType 24 42), (0, u "()B"), (2, u "append"), (0, u "(Ljava/lang/String;)Ljava/lang/AbstractStringBuilder;"), (1, .class_ 49), (0, u "java/lang/CharSequence"), (19, u "(Ljava/lang/String;)V"), (5, u "maybeLatin1"), (3, .fieldref 10 80), (0, .nameAndType 81 82), (0, u "count"), (0, u "I"), (0, .methodref 10 84), (0, .nameAndType 85 86), (0, u "isLatin1"), (0, u "()Z"), (1, .class_ 90), (1, u "java/lang/StringLatin1"), (9, .methodref 10 101), (0, .nameAndType 102 103), (0, u "ensureCapacityInternal"), (0, u "(I)V"), (0, .methodref 10 105), (0, .nameAndType 106 107), (0, u "newCapacity"), (0, u "(I)I"), (0, .methodref 109 110), (0, .class_ 111), (0, .nameAndType 112 113), (0, u "java/util/Arrays"), (0, u "copyOf"), (0, u "([BI)[B"), (0, .methodref 115 116), (0, .class_ 117), (0, .nameAndType 118 119), (0, u "jdk/internal/util/ArraysSupport"), (0, u "newLength"), (0, u "(III)I"), (71, .methodref 88 192), (0, .nameAndType 193 194), (0, u "canEncode"), (0, u "(C)Z"), (13, .methodref 10 209), (0, .nameAndType 210 211), (0, u "putStringAt"), (0, u "(ILjava/lang/String;)V"), (5, u "inflateIfNeededFor"), (2, .nameAndType 221 222), (0, u "getBytes"), (0, u "([BIB)V"), (69, u "(C)Ljava/lang/AbstractStringBuilder;"), (104, .methodref 10 398), (0, .nameAndType 217 69), (0, .methodref 1 220), (3, u "()[B"), (40, .class_ 445), (0, u "java/lang/Appendable"), (106, u "getValue")] 56

def k7m0 : Method := { name := "<init>", desc := "()V", sig := { parameters := [], returnType := none }, accessFlags := 0, code := none }
def k7c1 : Code := { maxStack := 2, maxLocals := 2, code := jdk_68_method_2_code, exceptionTable := #[], attributes := #[] }
def k7m1 : Method := { name := "<init>", desc := "(I)V", sig := { parameters := [.int], returnType := none }, accessFlags := 0, code := some k7c1 }
def k7c2 : Code := { maxStack := 1, maxLocals := 1, code := jdk_68_method_6_code, exceptionTable := #[], attributes := #[] }
def k7m2 : Method := { name := "length", desc := "()I", sig := { parameters := [], returnType := some .int }, accessFlags := 1, code := some k7c2 }
def k7c3 : Code := { maxStack := 4, maxLocals := 3, code := jdk_68_method_9_code, exceptionTable := #[], attributes := #[] }
def k7m3 : Method := { name := "ensureCapacityInternal", desc := "(I)V", sig := { parameters := [.int], returnType := none }, accessFlags := 2, code := some k7c3 }
def k7c4 : Code := { maxStack := 5, maxLocals := 6, code := jdk_68_method_10_code, exceptionTable := #[], attributes := #[] }
def k7m4 : Method := { name := "newCapacity", desc := "(I)I", sig := { parameters := [.int], returnType := some .int }, accessFlags := 2, code := some k7c4 }
def k7c5 : Code := { maxStack := 3, maxLocals := 3, code := jdk_68_method_22_code, exceptionTable := #[], attributes := #[] }
def k7m5 : Method := { name := "append", desc := "(Ljava/lang/String;)Ljava/lang/AbstractStringBuilder;", sig := { parameters := [(.object "java/lang/String")], returnType := some (.object "java/lang/AbstractStringBuilder") }, accessFlags := 1, code := some k7c5 }
def k7c6 : Code := { maxStack := 5, maxLocals := 2, code := jdk_68_method_31_code, exceptionTable := #[], attributes := #[] }
def k7m6 : Method := { name := "append", desc := "(C)Ljava/lang/AbstractStringBuilder;", sig := { parameters := [.char], returnType := some (.object "java/lang/AbstractStringBuilder") }, accessFlags := 1, code := some k7c6 }
def k7c7 : Code := { maxStack := 1, maxLocals := 1, code := jdk_68_method_64_code, exceptionTable := #[], attributes := #[] }
def k7m7 : Method := { name := "getValue", desc := "()[B", sig := { parameters := [], returnType := some (.array .byte) }, accessFlags := 16, code := some k7c7 }
def k7c8 : Code := { maxStack := 1, maxLocals := 1, code := jdk_68_method_68_code, exceptionTable := #[], attributes := #[] }
def k7m8 : Method := { name := "isLatin1", desc := "()Z", sig := { parameters := [], returnType := some .boolean }, accessFlags := 16, code := some k7c8 }
def k7c9 : Code := { maxStack := 2, maxLocals := 2, code := jdk_68_method_71_code, exceptionTable := #[], attributes := #[] }
def k7m9 : Method := { name := "inflateIfNeededFor", desc := "(Ljava/lang/String;)V", sig := { parameters := [(.object "java/lang/String")], returnType := none }, accessFlags := 2, code := some k7c9 }
def k7c10 : Code := { maxStack := 4, maxLocals := 3, code := jdk_68_method_73_code, exceptionTable := #[], attributes := #[] }
def k7m10 : Method := { name := "putStringAt", desc := "(ILjava/lang/String;)V", sig := { parameters := [.int, (.object "java/lang/String")], returnType := none }, accessFlags := 2, code := some k7c10 }
/-- java/lang/AbstractStringBuilder -/
def k7 : Class := { plain "java/lang/AbstractStringBuilder" (some 0) with
  accessFlags := 1056
  interfaces := #[5, 6]
  cf := some (fileOf pool7 10 #[] #[{ accessFlags := 0, nameIndex := 7, descriptorIndex := 8, attributes := #[] }, { accessFlags := 0, nameIndex := 7, descriptorIndex := 103, attributes := #[] }, { accessFlags := 1, nameIndex := 34, descriptorIndex := 35, attributes := #[] }, { accessFlags := 2, nameIndex := 102, descriptorIndex := 103, attributes := #[] }, { accessFlags := 2, nameIndex := 106, descriptorIndex := 107, attributes := #[] }, { accessFlags := 1, nameIndex := 45, descriptorIndex := 46, attributes := #[] }, { accessFlags := 1, nameIndex := 45, descriptorIndex := 292, attributes := #[] }, { accessFlags := 16, nameIndex := 552, descriptorIndex := 403, attributes := #[] }, { accessFlags := 16, nameIndex := 85, descriptorIndex := 86, attributes := #[] }, { accessFlags := 2, nameIndex := 217, descriptorIndex := 69, attributes := #[] }, { accessFlags := 2, nameIndex := 210, descriptorIndex := 211, attributes := #[] }] 1056 4 #[444, 48] #[{ accessFlags := 0, nameIndex := 17, descriptorIndex := 14, attributes := #[] }, { accessFlags := 0, nameIndex := 24, descriptorIndex := 25, attributes := #[] }, { accessFlags := 0, nameIndex := 75, descriptorIndex := 21, attributes := #[] }, { accessFlags := 0, nameIndex := 81, descriptorIndex := 82, attributes := #[] }, { accessFlags := 26, nameIndex := 13, descriptorIndex := 14, attributes := #[] }])
  fields := #[{ name := "value", type := (.array .byte), accessFlags := 0, slot := 0, constantValue := 0 }, { name := "coder", type := .byte, accessFlags := 0, slot := 1, constantValue := 0 }, { name := "maybeLatin1", type := .boolean, accessFlags := 0, slot := 2, constantValue := 0 }, { name := "count", type := .int, accessFlags := 0, slot := 3, constantValue := 0 }, { name := "EMPTYVALUE", type := (.array .byte), accessFlags := 26, slot := 0, constantValue := 0 }]
  methods := #[k7m0, k7m1, k7m2, k7m3, k7m4, k7m5, k7m6, k7m7, k7m8, k7m9, k7m10]
  instanceTypes := #[(.array .byte), .byte, .boolean, .int]
  staticTypes := #[(.array .byte)]
  resolved := Array.replicate 609 none
  statics := none }

def pool8 : Array CpInfo := pool [(1, .class_ 2), (0, u "java/io/Serializable"), (0, .class_ 4), (0, u "java/lang/Object")] 2

/-- java/io/Serializable -/
def k8 : Class := { plain "java/io/Serializable" (some 0) with
  accessFlags := 1537
  interfaces := #[]
  cf := some (fileOf pool8 1 #[] #[] 1537 3 #[] #[])
  fields := #[]
  methods := #[]
  instanceTypes := #[]
  staticTypes := #[]
  resolved := Array.replicate 7 none
  statics := none }

def pool9 : Array CpInfo := pool [(1, .class_ 2), (0, u "java/lang/Comparable"), (0, .class_ 4), (0, u "java/lang/Object")] 7

/-- java/lang/Comparable -/
def k9 : Class := { plain "java/lang/Comparable" (some 0) with
  accessFlags := 1537
  interfaces := #[]
  cf := some (fileOf pool9 1 #[] #[] 1537 3 #[] #[])
  fields := #[]
  methods := #[]
  instanceTypes := #[]
  staticTypes := #[]
  resolved := Array.replicate 12 none
  statics := none }

def pool10 : Array CpInfo := pool [(1, .methodref 2 3), (0, .class_ 4), (0, .nameAndType 5 6), (0, u "java/lang/AbstractStringBuilder"), (0, u "<init>"), (0, u "(I)V"), (11, .class_ 20), (1, u "java/lang/String"), (3, .class_ 26), (1, u "java/lang/StringBuilder"), (0, u "append"), (0, u "(Ljava/lang/String;)Ljava/lang/StringBuilder;"), (0, .methodref 2 30), (0, .nameAndType 27 31), (0, u "(Ljava/lang/String;)Ljava/lang/AbstractStringBuilder;"), (18, .methodref 2 51), (0, .nameAndType 27 52), (0, u "(C)Ljava/lang/AbstractStringBuilder;"), (84, .methodref 18 138), (0, .nameAndType 5 139), (0, u "(Ljava/lang/StringBuilder;)V"), (5, u "()V"), (10, u "()I"), (129, u "(C)Ljava/lang/StringBuilder;"), (56, .methodref 2 344), (0, .nameAndType 345 156), (0, u "length"), (3, .class_ 350), (0, u "java/lang/Appendable"), (0, .class_ 352), (0, u "java/io/Serializable"), (0, .class_ 354), (0, u "java/lang/Comparable"), (0, .class_ 356), (0, u "java/lang/CharSequence"), (0, u "serialVersionUID"), (0, u "J"), (40, u "toString"), (0, u "()Ljava/lang/String;")] 21

def k10m0 : Method := { name := "<init>", desc := "()V", sig := { parameters := [], returnType := none }, accessFlags := 1, code := none }
def k10c1 : Code := { maxStack := 2, maxLocals := 2, code := jdk_67_method_2_code, exceptionTable := #[], attributes := #[] }
def k10m1 : Method := { name := "<init>", desc := "(I)V", sig := { parameters := [.int], returnType := none }, accessFlags := 1, code := some k10c1 }
def k10c2 : Code := { maxStack := 2, maxLocals := 2, code := jdk_67_method_7_code, exceptionTable := #[], attributes := #[] }
def k10m2 : Method := { name := "append", desc := "(Ljava/lang/String;)Ljava/lang/StringBuilder;", sig := { parameters := [(.object "java/lang/String")], returnType := some (.object "java/lang/StringBuilder") }, accessFlags := 1, code := some k10c2 }
def k10c3 : Code := { maxStack := 2, maxLocals := 2, code := jdk_67_method_14_code, exceptionTable := #[], attributes := #[] }
def k10m3 : Method := { name := "append", desc := "(C)Ljava/lang/StringBuilder;", sig := { parameters := [.char], returnType := some (.object "java/lang/StringBuilder") }, accessFlags := 1, code := some k10c3 }
def k10c4 : Code := { maxStack := 3, maxLocals := 1, code := jdk_67_method_42_code, exceptionTable := #[], attributes := #[] }
def k10m4 : Method := { name := "toString", desc := "()Ljava/lang/String;", sig := { parameters := [], returnType := some (.object "java/lang/String") }, accessFlags := 1, code := some k10c4 }
def k10c5 : Code := { maxStack := 1, maxLocals := 1, code := jdk_67_method_93_code, exceptionTable := #[], attributes := #[] }
def k10m5 : Method := { name := "length", desc := "()I", sig := { parameters := [], returnType := some .int }, accessFlags := 4161, code := some k10c5 }
/-- java/lang/StringBuilder -/
def k10 : Class := { plain "java/lang/StringBuilder" (some 7) with
  accessFlags := 49
  interfaces := #[5, 8, 9, 6]
  cf := some (fileOf pool10 24 #[] #[{ accessFlags := 1, nameIndex := 5, descriptorIndex := 145, attributes := #[] }, { accessFlags := 1, nameIndex := 5, descriptorIndex := 6, attributes := #[] }, { accessFlags := 1, nameIndex := 27, descriptorIndex := 28, attributes := #[] }, { accessFlags := 1, nameIndex := 27, descriptorIndex := 286, attributes := #[] }, { accessFlags := 1, nameIndex := 399, descriptorIndex := 400, attributes := #[] }, { accessFlags := 4161, nameIndex := 345, descriptorIndex := 156, attributes := #[] }] 49 2 #[349, 351, 353, 355] #[{ accessFlags := 24, nameIndex := 357, descriptorIndex := 358, attributes := #[] }])
  fields := #[{ name := "serialVersionUID", type := .long, accessFlags := 24, slot := 0, constantValue := 0 }]
  methods := #[k10m0, k10m1, k10m2, k10m3, k10m4, k10m5]
  instanceTypes := #[(.array .byte), .byte, .boolean, .int]
  staticTypes := #[.long]
  resolved := Array.replicate 422 none
  statics := none }

def pool11 : Array CpInfo := pool [(1, .class_ 2), (0, u "java/lang/constant/Constable"), (0, .class_ 4), (0, u "java/lang/Object")] 6

/-- java/lang/constant/Constable -/
def k11 : Class := { plain "java/lang/constant/Constable" (some 0) with
  accessFlags := 1537
  interfaces := #[]
  cf := some (fileOf pool11 1 #[] #[] 1537 3 #[] #[])
  fields := #[]
  methods := #[]
  instanceTypes := #[]
  staticTypes := #[]
  resolved := Array.replicate 11 none
  statics := none }

def pool12 : Array CpInfo := pool [(1, .class_ 2), (0, u "java/lang/constant/ConstantDesc"), (0, .class_ 4), (0, u "java/lang/Object")] 32

/-- java/lang/constant/ConstantDesc -/
def k12 : Class := { plain "java/lang/constant/ConstantDesc" (some 0) with
  accessFlags := 1537
  interfaces := #[]
  cf := some (fileOf pool12 1 #[] #[] 1537 3 #[] #[])
  fields := #[]
  methods := #[]
  instanceTypes := #[]
  staticTypes := #[]
  resolved := Array.replicate 37 none
  statics := none }

def pool13 : Array CpInfo := pool [(1, .methodref 2 3), (0, .class_ 4), (0, .nameAndType 5 6), (0, u "java/lang/Object"), (0, u "<init>"), (0, u "()V"), (2, .fieldref 10 11), (0, .class_ 12), (0, .nameAndType 13 14), (0, u "java/lang/String"), (0, u "value"), (0, u "[B"), (0, .fieldref 10 16), (0, .nameAndType 17 18), (0, u "coder"), (0, u "B"), (2, u "hash"), (0, u "I"), (2, u "hashIsZero"), (0, u "Z"), (11, .fieldref 10 39), (0, .nameAndType 40 26), (0, u "COMPACT_STRINGS"), (13, .methodref 55 56), (0, .class_ 57), (0, .nameAndType 58 59), (0, u "java/util/Arrays"), (0, u "copyOfRange"), (0, u "([BII)[B"), (47, .class_ 109), (1, u "java/lang/StringLatin1"), (32, u "()Z"), (50, .class_ 195), (1, u "java/lang/System"), (15, u "([BB)V"), (0, .methodref 193 213), (0, .nameAndType 214 215), (0, u "arraycopy"), (0, u "(Ljava/lang/Object;ILjava/lang/Object;II)V"), (118, u "()I"), (0, .methodref 10 336), (0, .nameAndType 17 337), (0, u "()B"), (2, u "()[B"), (22, u "([BI)C"), (27, u "(II)V"), (35, u "(I)C"), (61, .methodref 10 490), (0, .nameAndType 5 491), (0, u "(Ljava/lang/AbstractStringBuilder;Ljava/lang/Void;)V"), (0, .methodref 10 493), (0, .nameAndType 494 142), (0, u "isLatin1"), (0, .methodref 107 496), (0, .nameAndType 497 363), (0, u "charAt"), (3, u "checkIndex"), (4, .nameAndType 507 334), (0, u "length"), (24, u "getBytes"), (16, .methodref 550 506), (0, .class_ 551), (0, u "java/lang/AbstractStringBuilder"), (0, .methodref 550 553), (0, .nameAndType 554 340), (0, u "getValue"), (20, .class_ 576), (0, u "java/lang/CharSequence"), (22, u "CASE_INSENSITIVE_ORDER"), (0, u "Ljava/util/Comparator;"), (220, u "([BIB)V"), (225, .methodref 550 493), (5, .fieldref 1054 1055), (0, .class_ 1056), (0, .nameAndType 1057 1058), (0, u "jdk/internal/util/Preconditions"), (0, u "SIOOBE_FORMATTER"), (0, u "Ljava/util/function/BiFunction;"), (0, .methodref 1054 1060), (0, .nameAndType 501 1061), (0, u "(IILjava/util/function/BiFunction;)I"), (39, u "serialPersistentFields"), (0, u "[Ljava/io/ObjectStreamField;"), (0, .class_ 1104), (0, u "java/lang/String$CaseInsensitiveComparator"), (1, .class_ 1107), (0, u "java/io/Serializable"), (0, .class_ 1109), (0, u "java/lang/Comparable"), (0, .class_ 1111), (0, u "java/lang/constant/Constable"), (0, .class_ 1113), (0, u "java/lang/constant/ConstantDesc"), (2, u "serialVersionUID"), (0, u "J"), (3, u "REPL"), (0, u "C"), (2, u "LATIN1"), (1, u "UTF16"), (105, u "(Ljava/lang/StringBuilder;)V")] 217

def k13m0 : Method := { name := "<init>", desc := "()V", sig := { parameters := [], returnType := none }, accessFlags := 1, code := none }
def k13c1 : Code := { maxStack := 3, maxLocals := 2, code := jdk_42_method_53_code, exceptionTable := #[], attributes := #[] }
def k13m1 : Method := { name := "<init>", desc := "(Ljava/lang/StringBuilder;)V", sig := { parameters := [(.object "java/lang/StringBuilder")], returnType := none }, accessFlags := 1, code := some k13c1 }
def k13c2 : Code := { maxStack := 2, maxLocals := 1, code := jdk_42_method_54_code, exceptionTable := #[], attributes := #[] }
def k13m2 : Method := { name := "length", desc := "()I", sig := { parameters := [], returnType := some .int }, accessFlags := 1, code := some k13c2 }
def k13c3 : Code := { maxStack := 2, maxLocals := 2, code := jdk_42_method_56_code, exceptionTable := #[], attributes := #[] }
def k13m3 : Method := { name := "charAt", desc := "(I)C", sig := { parameters := [.int], returnType := some .char }, accessFlags := 1, code := some k13c3 }
def k13c4 : Code := { maxStack := 5, maxLocals := 4, code := jdk_42_method_147_code, exceptionTable := #[], attributes := #[] }
def k13m4 : Method := { name := "getBytes", desc := "([BIB)V", sig := { parameters := [(.array .byte), .int, .byte], returnType := none }, accessFlags := 0, code := some k13c4 }
def k13c5 : Code := { maxStack := 5, maxLocals := 5, code := jdk_42_method_150_code, exceptionTable := #[], attributes := #[] }
def k13m5 : Method := { name := "<init>", desc := "(Ljava/lang/AbstractStringBuilder;Ljava/lang/Void;)V", sig := { parameters := [(.object "java/lang/AbstractStringBuilder"), (.object "java/lang/Void")], returnType := none }, accessFlags := 0, code := some k13c5 }
def k13c6 : Code := { maxStack := 2, maxLocals := 3, code := jdk_42_method_151_code, exceptionTable := #[], attributes := #[] }
def k13m6 : Method := { name := "<init>", desc := "([BB)V", sig := { parameters := [(.array .byte), .byte], returnType := none }, accessFlags := 0, code := some k13c6 }
def k13c7 : Code := { maxStack := 1, maxLocals := 1, code := jdk_42_method_152_code, exceptionTable := #[], attributes := #[] }
def k13m7 : Method := { name := "coder", desc := "()B", sig := { parameters := [], returnType := some .byte }, accessFlags := 0, code := some k13c7 }
def k13c8 : Code := { maxStack := 1, maxLocals := 1, code := jdk_42_method_154_code, exceptionTable := #[], attributes := #[] }
def k13m8 : Method := { name := "isLatin1", desc := "()Z", sig := { parameters := [], returnType := some .boolean }, accessFlags := 0, code := some k13c8 }
def k13c9 : Code := { maxStack := 3, maxLocals := 2, code := jdk_42_method_155_code, exceptionTable := #[], attributes := #[] }
def k13m9 : Method := { name := "checkIndex", desc := "(II)V", sig := { parameters := [.int, .int], returnType := none }, accessFlags := 8, code := some k13c9 }
/-- java/lang/String -/
def k13 : Class := { plain "java/lang/String" (some 0) with
  accessFlags := 49
  interfaces := #[8, 9, 6, 11, 12]
  cf := some (fileOf pool13 10 #[.nestMembers #[1103]] #[{ accessFlags := 1, nameIndex := 5, descriptorIndex := 6, attributes := #[] }, { accessFlags := 1, nameIndex := 5, descriptorIndex := 1233, attributes := #[] }, { accessFlags := 1, nameIndex := 507, descriptorIndex := 334, attributes := #[] }, { accessFlags := 1, nameIndex := 497, descriptorIndex := 427, attributes := #[] }, { accessFlags := 0, nameIndex := 532, descriptorIndex := 821, attributes := #[] }, { accessFlags := 0, nameIndex := 5, descriptorIndex := 491, attributes := #[] }, { accessFlags := 0, nameIndex := 5, descriptorIndex := 211, attributes := #[] }, { accessFlags := 0, nameIndex := 17, descriptorIndex := 337, attributes := #[] }, { accessFlags := 0, nameIndex := 494, descriptorIndex := 142, attributes := #[] }, { accessFlags := 8, nameIndex := 501, descriptorIndex := 391, attributes := #[] }] 49 2 #[1106, 1108, 575, 1110, 1112] #[{ accessFlags := 18, nameIndex := 13, descriptorIndex := 14, attributes := #[] }, { accessFlags := 18, nameIndex := 17, descriptorIndex := 18, attributes := #[] }, { accessFlags := 2, nameIndex := 21, descriptorIndex := 22, attributes := #[] }, { accessFlags := 2, nameIndex := 25, descriptorIndex := 26, attributes := #[] }, { accessFlags := 26, nameIndex := 1116, descriptorIndex := 1117, attributes := #[] }, { accessFlags := 24, nameIndex := 40, descriptorIndex := 26, attributes := #[] }, { accessFlags := 26, nameIndex := 1101, descriptorIndex := 1102, attributes := #[] }, { accessFlags := 26, nameIndex := 1121, descriptorIndex := 1122, attributes := #[] }, { accessFlags := 25, nameIndex := 599, descriptorIndex := 600, attributes := #[] }, { accessFlags := 24, nameIndex := 1125, descriptorIndex := 18, attributes := #[] }, { accessFlags := 24, nameIndex := 1127, descriptorIndex := 18, attributes := #[] }])
  fields := #[{ name := "value", type := (.array .byte), accessFlags := 18, slot := 0, constantValue := 0 }, { name := "coder", type := .byte, accessFlags := 18, slot := 1, constantValue := 0 }, { name := "hash", type := .int, accessFlags := 2, slot := 2, constantValue := 0 }, { name := "hashIsZero", type := .boolean, accessFlags := 2, slot := 3, constantValue := 0 }, { name := "serialVersionUID", type := .long, accessFlags := 26, slot := 0, constantValue := 0 }, { name := "COMPACT_STRINGS", type := .boolean, accessFlags := 24, slot := 1, constantValue := 0 }, { name := "serialPersistentFields", type := (.array (.object "java/io/ObjectStreamField")), accessFlags := 26, slot := 2, constantValue := 0 }, { name := "REPL", type := .char, accessFlags := 26, slot := 3, constantValue := 0 }, { name := "CASE_INSENSITIVE_ORDER", type := (.object "java/util/Comparator"), accessFlags := 25, slot := 4, constantValue := 0 }, { name := "LATIN1", type := .byte, accessFlags := 24, slot := 5, constantValue := 0 }, { name := "UTF16", type := .byte, accessFlags := 24, slot := 6, constantValue := 0 }]
  methods := #[k13m0, k13m1, k13m2, k13m3, k13m4, k13m5, k13m6, k13m7, k13m8, k13m9]
  instanceTypes := #[(.array .byte), .byte, .int, .boolean]
  staticTypes := #[.long, .boolean, (.array (.object "java/io/ObjectStreamField")), .char, (.object "java/util/Comparator"), .byte, .byte]
  resolved := Array.replicate 1451 none
  statics := some 0 }

def pool14 : Array CpInfo := pool [(2, .class_ 4), (1, u "java/lang/Object"), (0, u "<init>"), (0, u "()V"), (1, .class_ 10), (1, u "java/lang/Number"), (2, .class_ 14), (0, u "java/io/Serializable"), (0, u "serialVersionUID"), (0, u "J")] 20

def k14m0 : Method := { name := "<init>", desc := "()V", sig := { parameters := [], returnType := none }, accessFlags := 1, code := none }
/-- java/lang/Number -/
def k14 : Class := { plain "java/lang/Number" (some 0) with
  accessFlags := 1057
  interfaces := #[8]
  cf := some (fileOf pool14 8 #[] #[{ accessFlags := 1, nameIndex := 5, descriptorIndex := 6, attributes := #[] }] 1057 2 #[13] #[{ accessFlags := 26, nameIndex := 15, descriptorIndex := 16, attributes := #[] }])
  fields := #[{ name := "serialVersionUID", type := .long, accessFlags := 26, slot := 0, constantValue := 0 }]
  methods := #[k14m0]
  instanceTypes := #[]
  staticTypes := #[.long]
  resolved := Array.replicate 37 none
  statics := none }

def pool15 : Array CpInfo := pool [(1, .class_ 2), (0, u "java/lang/Long"), (2, .class_ 6), (0, u "java/lang/String"), (4, u "toString"), (0, u "(J)Ljava/lang/String;"), (0, .fieldref 5 14), (0, .nameAndType 15 16), (0, u "COMPACT_STRINGS"), (0, u "Z"), (1, .class_ 20), (1, u "java/lang/Integer"), (32, .long 10), (5, u "<init>"), (41, u "(J)I"), (10, .methodref 5 113), (0, .nameAndType 59 114), (0, u "([BB)V"), (3, .methodref 1 119), (0, .nameAndType 120 101), (0, u "stringSize"), (0, .methodref 1 122), (0, .nameAndType 123 124), (0, u "getChars"), (0, u "(JI[B)I"), (4, .long 18446744071562067968), (3, .fieldref 18 134), (0, .nameAndType 135 136), (0, u "DigitOnes"), (0, u "[B"), (0, .fieldref 18 138), (0, .nameAndType 139 136), (0, u "DigitTens"), (0, .long 18446744073709551606), (94, .class_ 237), (1, u "java/lang/Long$LongCache"), (33, .class_ 272), (0, u "java/lang/Number"), (2, u "value"), (0, u "J"), (84, u "TYPE"), (0, u "Ljava/lang/Class;"), (0, .class_ 364), (0, u "java/lang/Comparable"), (0, .class_ 366), (0, u "java/lang/constant/Constable"), (0, .class_ 368), (0, u "java/lang/constant/ConstantDesc"), (0, u "MIN_VALUE"), (1, u "MAX_VALUE"), (4, u "SIZE"), (0, u "I"), (1, u "BYTES"), (1, u "serialVersionUID")] 142

def k15c0 : Code := { maxStack := 4, maxLocals := 4, code := jdk_35_method_12_code, exceptionTable := #[], attributes := #[] }
def k15m0 : Method := { name := "toString", desc := "(J)Ljava/lang/String;", sig := { parameters := [.long], returnType := some (.object "java/lang/String") }, accessFlags := 9, code := some k15c0 }
def k15c1 : Code := { maxStack := 4, maxLocals := 11, code := jdk_35_method_14_code, exceptionTable := #[], attributes := #[] }
def k15m1 : Method := { name := "getChars", desc := "(JI[B)I", sig := { parameters := [.long, .int, (.array .byte)], returnType := some .int }, accessFlags := 8, code := some k15c1 }
def k15c2 : Code := { maxStack := 4, maxLocals := 6, code := jdk_35_method_15_code, exceptionTable := #[], attributes := #[] }
def k15m2 : Method := { name := "stringSize", desc := "(J)I", sig := { parameters := [.long], returnType := some .int }, accessFlags := 8, code := some k15c2 }
/-- java/lang/Long -/
def k15 : Class := { plain "java/lang/Long" (some 14) with
  accessFlags := 49
  interfaces := #[9, 11, 12]
  cf := some (fileOf pool15 1 #[.nestMembers #[235]] #[{ accessFlags := 9, nameIndex := 11, descriptorIndex := 12, attributes := #[] }, { accessFlags := 8, nameIndex := 123, descriptorIndex := 124, attributes := #[] }, { accessFlags := 8, nameIndex := 120, descriptorIndex := 101, attributes := #[] }] 49 271 #[363, 365, 367] #[{ accessFlags := 25, nameIndex := 369, descriptorIndex := 276, attributes := #[] }, { accessFlags := 25, nameIndex := 371, descriptorIndex := 276, attributes := #[] }, { accessFlags := 25, nameIndex := 361, descriptorIndex := 362, attributes := #[] }, { accessFlags := 18, nameIndex := 275, descriptorIndex := 276, attributes := #[] }, { accessFlags := 25, nameIndex := 376, descriptorIndex := 377, attributes := #[] }, { accessFlags := 25, nameIndex := 379, descriptorIndex := 377, attributes := #[] }, { accessFlags := 26, nameIndex := 381, descriptorIndex := 276, attributes := #[] }])
  fields := #[{ name := "MIN_VALUE", type := .long, accessFlags := 25, slot := 0, constantValue := 0 }, { name := "MAX_VALUE", type := .long, accessFlags := 25, slot := 1, constantValue := 0 }, { name := "TYPE", type := (.object "java/lang/Class"), accessFlags := 25, slot := 2, constantValue := 0 }, { name := "value", type := .long, accessFlags := 18, slot := 0, constantValue := 0 }, { name := "SIZE", type := .int, accessFlags := 25, slot := 3, constantValue := 0 }, { name := "BYTES", type := .int, accessFlags := 25, slot := 4, constantValue := 0 }, { name := "serialVersionUID", type := .long, accessFlags := 26, slot := 5, constantValue := 0 }]
  methods := #[k15m0, k15m1, k15m2]
  instanceTypes := #[.long]
  staticTypes := #[.long, .long, (.object "java/lang/Class"), .int, .int, .long]
  resolved := Array.replicate 524 none
  statics := none }

def pool16 : Array CpInfo := pool [(1, .class_ 2), (0, u "java/lang/Integer"), (16, u "digits"), (0, u "[C"), (64, u "DigitOnes"), (0, u "[B"), (2, u "DigitTens"), (99, .class_ 190), (0, u "java/lang/Integer$IntegerCache"), (3, u "I"), (8, .class_ 204), (0, u "java/lang/Number"), (2, u "value"), (94, u "TYPE"), (0, u "Ljava/lang/Class;"), (0, .class_ 305), (0, u "java/lang/Comparable"), (0, .class_ 307), (0, u "java/lang/constant/Constable"), (0, .class_ 309), (0, u "java/lang/constant/ConstantDesc"), (0, u "MIN_VALUE"), (1, u "MAX_VALUE"), (3, u "SIZE"), (1, u "BYTES"), (1, u "serialVersionUID"), (0, u "J")] 131

/-- java/lang/Integer -/
def k16 : Class := { plain "java/lang/Integer" (some 14) with
  accessFlags := 49
  interfaces := #[9, 11, 12]
  cf := some (fileOf pool16 1 #[.nestMembers #[189]] #[] 49 203 #[304, 306, 308] #[{ accessFlags := 25, nameIndex := 310, descriptorIndex := 194, attributes := #[] }, { accessFlags := 25, nameIndex := 312, descriptorIndex := 194, attributes := #[] }, { accessFlags := 25, nameIndex := 302, descriptorIndex := 303, attributes := #[] }, { accessFlags := 24, nameIndex := 19, descriptorIndex := 20, attributes := #[] }, { accessFlags := 24, nameIndex := 89, descriptorIndex := 86, attributes := #[] }, { accessFlags := 24, nameIndex := 85, descriptorIndex := 86, attributes := #[] }, { accessFlags := 18, nameIndex := 207, descriptorIndex := 194, attributes := #[] }, { accessFlags := 25, nameIndex := 316, descriptorIndex := 194, attributes := #[] }, { accessFlags := 25, nameIndex := 318, descriptorIndex := 194, attributes := #[] }, { accessFlags := 26, nameIndex := 320, descriptorIndex := 321, attributes := #[] }])
  fields := #[{ name := "MIN_VALUE", type := .int, accessFlags := 25, slot := 0, constantValue := 0 }, { name := "MAX_VALUE", type := .int, accessFlags := 25, slot := 1, constantValue := 0 }, { name := "TYPE", type := (.object "java/lang/Class"), accessFlags := 25, slot := 2, constantValue := 0 }, { name := "digits", type := (.array .char), accessFlags := 24, slot := 3, constantValue := 0 }, { name := "DigitTens", type := (.array .byte), accessFlags := 24, slot := 4, constantValue := 0 }, { name := "DigitOnes", type := (.array .byte), accessFlags := 24, slot := 5, constantValue := 0 }, { name := "value", type := .int, accessFlags := 18, slot := 0, constantValue := 0 }, { name := "SIZE", type := .int, accessFlags := 25, slot := 6, constantValue := 0 }, { name := "BYTES", type := .int, accessFlags := 25, slot := 7, constantValue := 0 }, { name := "serialVersionUID", type := .long, accessFlags := 26, slot := 8, constantValue := 0 }]
  methods := #[]
  instanceTypes := #[.int]
  staticTypes := #[.int, .int, (.object "java/lang/Class"), (.array .char), (.array .byte), (.array .byte), .int, .int, .long]
  resolved := Array.replicate 453 none
  statics := some 1 }

def pool17 : Array CpInfo := pool [(1, .class_ 2), (0, u "java/lang/String"), (1, .class_ 6), (1, u "java/lang/Object"), (0, u "<init>"), (0, u "()V"), (0, .methodref 1 10), (0, .nameAndType 11 12), (0, u "checkIndex"), (0, u "(II)V"), (1, .class_ 16), (1, u "java/lang/StringLatin1"), (36, u "([BI)C"), (36, u "canEncode"), (14, u "(C)Z"), (15, u "$assertionsDisabled"), (0, u "Z"), (98, .class_ 223), (1, u "java/lang/StringLatin1$LinesSpliterator"), (28, u "charAt"), (137, .class_ 391), (0, u "java/lang/StringLatin1$CharsSpliterator")] 3

def k17m0 : Method := { name := "<init>", desc := "()V", sig := { parameters := [], returnType := none }, accessFlags := 0, code := none }
def k17c1 : Code := { maxStack := 2, maxLocals := 2, code := jdk_43_method_2_code, exceptionTable := #[], attributes := #[] }
def k17m1 : Method := { name := "charAt", desc := "([BI)C", sig := { parameters := [(.array .byte), .int], returnType := some .char }, accessFlags := 9, code := some k17c1 }
def k17c2 : Code := { maxStack := 2, maxLocals := 1, code := jdk_43_method_3_code, exceptionTable := #[], attributes := #[] }
def k17m2 : Method := { name := "canEncode", desc := "(C)Z", sig := { parameters := [.char], returnType := some .boolean }, accessFlags := 9, code := some k17c2 }
/-- java/lang/StringLatin1 -/
def k17 : Class := { plain "java/lang/StringLatin1" (some 0) with
  accessFlags := 48
  interfaces := #[]
  cf := some (fileOf pool17 14 #[.nestMembers #[390, 221]] #[{ accessFlags := 0, nameIndex := 7, descriptorIndex := 8, attributes := #[] }, { accessFlags := 9, nameIndex := 252, descriptorIndex := 53, attributes := #[] }, { accessFlags := 9, nameIndex := 90, descriptorIndex := 105, attributes := #[] }] 48 4 #[] #[{ accessFlags := 4120, nameIndex := 121, descriptorIndex := 122, attributes := #[] }])
  fields := #[{ name := "$assertionsDisabled", type := .boolean, accessFlags := 4120, slot := 0, constantValue := 0 }]
  methods := #[k17m0, k17m1, k17m2]
  instanceTypes := #[]
  staticTypes := #[.boolean]
  resolved := Array.replicate 395 none
  statics := none }

def pool18 : Array CpInfo := pool [(2, .class_ 4), (1, u "java/lang/Object"), (0, u "<init>"), (0, u "()V"), (1, .class_ 10), (1, u "java/lang/System"), (0, u "allowSecurityManager"), (0, u "I"), (16, u "cons"), (0, u "Ljava/io/Console;"), (77, .class_ 110), (1, u "java/lang/System$CallersHolder"), (43, u "initialErrStream"), (0, u "Ljava/io/PrintStream;"), (19, u "security"), (0, u "Ljava/lang/SecurityManager;"), (31, .class_ 209), (0, u "java/lang/System$1"), (7, u "props"), (0, u "Ljava/util/Properties;"), (2, u "lineSeparator"), (0, u "Ljava/lang/String;"), (96, .class_ 321), (1, u "java/lang/System$LoggerFinder"), (5, .class_ 328), (0, u "java/lang/System$Logger"), (67, u "err"), (2, u "out"), (91, u "notSupportedJnuEncoding"), (15, u "in"), (17, u "initialIn"), (0, u "Ljava/io/InputStream;"), (35, u "bootLayer"), (0, u "Ljava/lang/ModuleLayer;"), (99, .class_ 664), (0, u "java/lang/System$2"), (9, u "NEVER"), (2, u "MAYBE"), (49, u "arraycopy"), (0, u "(Ljava/lang/Object;ILjava/lang/Object;II)V"), (72, .class_ 802), (0, u "java/lang/System$Logger$Level")] 31

def k18m0 : Method := { name := "<init>", desc := "()V", sig := { parameters := [], returnType := none }, accessFlags := 2, code := none }
def k18m1 : Method := { name := "arraycopy", desc := "(Ljava/lang/Object;ILjava/lang/Object;II)V", sig := { parameters := [(.object "java/lang/Object"), .int, (.object "java/lang/Object"), .int, .int], returnType := none }, accessFlags := 265, code := none }
/-- java/lang/System -/
def k18 : Class := { plain "java/lang/System" (some 0) with
  accessFlags := 49
  interfaces := #[]
  cf := some (fileOf pool18 8 #[.nestMembers #[319, 327, 801, 108, 663, 208]] #[{ accessFlags := 2, nameIndex := 5, descriptorIndex := 6, attributes := #[] }, { accessFlags := 265, nameIndex := 727, descriptorIndex := 728, attributes := #[] }] 49 2 #[] #[{ accessFlags := 25, nameIndex := 507, descriptorIndex := 526, attributes := #[] }, { accessFlags := 25, nameIndex := 399, descriptorIndex := 155, attributes := #[] }, { accessFlags := 25, nameIndex := 396, descriptorIndex := 155, attributes := #[] }, { accessFlags := 10, nameIndex := 525, descriptorIndex := 526, attributes := #[] }, { accessFlags := 26, nameIndex := 674, descriptorIndex := 12, attributes := #[] }, { accessFlags := 26, nameIndex := 677, descriptorIndex := 12, attributes := #[] }, { accessFlags := 10, nameIndex := 11, descriptorIndex := 12, attributes := #[] }, { accessFlags := 74, nameIndex := 175, descriptorIndex := 176, attributes := #[] }, { accessFlags := 10, nameIndex := 491, descriptorIndex := 222, attributes := #[] }, { accessFlags := 74, nameIndex := 29, descriptorIndex := 30, attributes := #[] }, { accessFlags := 74, nameIndex := 154, descriptorIndex := 155, attributes := #[] }, { accessFlags := 10, nameIndex := 217, descriptorIndex := 218, attributes := #[] }, { accessFlags := 10, nameIndex := 221, descriptorIndex := 222, attributes := #[] }, { accessFlags := 8, nameIndex := 562, descriptorIndex := 563, attributes := #[] }])
  fields := #[{ name := "in", type := (.object "java/io/InputStream"), accessFlags := 25, slot := 0, constantValue := 0 }, { name := "out", type := (.object "java/io/PrintStream"), accessFlags := 25, slot := 1, constantValue := 0 }, { name := "err", type := (.object "java/io/PrintStream"), accessFlags := 25, slot := 2, constantValue := 0 }, { name := "initialIn", type := (.object "java/io/InputStream"), accessFlags := 10, slot := 3, constantValue := 0 }, { name := "NEVER", type := .int, accessFlags := 26, slot := 4, constantValue := 0 }, { name := "MAYBE", type := .int, accessFlags := 26, slot := 5, constantValue := 0 }, { name := "allowSecurityManager", type := .int, accessFlags := 10, slot := 6, constantValue := 0 }, { name := "security", type := (.object "java/lang/SecurityManager"), accessFlags := 74, slot := 7, constantValue := 0 }, { name := "notSupportedJnuEncoding", type := (.object "java/lang/String"), accessFlags := 10, slot := 8, constantValue := 0 }, { name := "cons", type := (.object "java/io/Console"), accessFlags := 74, slot := 9, constantValue := 0 }, { name := "initialErrStream", type := (.object "java/io/PrintStream"), accessFlags := 74, slot := 10, constantValue := 0 }, { name := "props", type := (.object "java/util/Properties"), accessFlags := 10, slot := 11, constantValue := 0 }, { name := "lineSeparator", type := (.object "java/lang/String"), accessFlags := 10, slot := 12, constantValue := 0 }, { name := "bootLayer", type := (.object "java/lang/ModuleLayer"), accessFlags := 8, slot := 13, constantValue := 0 }]
  methods := #[k18m0, k18m1]
  instanceTypes := #[]
  staticTypes := #[(.object "java/io/InputStream"), (.object "java/io/PrintStream"), (.object "java/io/PrintStream"), (.object "java/io/InputStream"), .int, .int, .int, (.object "java/lang/SecurityManager"), (.object "java/lang/String"), (.object "java/io/Console"), (.object "java/io/PrintStream"), (.object "java/util/Properties"), (.object "java/lang/String"), (.object "java/lang/ModuleLayer")]
  resolved := Array.replicate 834 none
  statics := none }

def pool19 : Array CpInfo := pool [(2, .class_ 4), (1, u "java/lang/Object"), (0, u "<init>"), (0, u "()V"), (7, .class_ 16), (1, u "java/util/Arrays"), (57, .class_ 76), (1, u "java/util/Arrays$NaturalOrder"), (32, u "()Ljava/lang/Object;"), (3, .class_ 115), (1, u "java/util/Arrays$LegacyMergeSort"), (1, u "Z"), (10, .nameAndType 129 109), (0, u "clone"), (9, u "copyOfRange"), (10, .methodref 151 152), (0, .class_ 153), (0, .nameAndType 154 155), (0, u "java/lang/System"), (0, u "arraycopy"), (0, u "(Ljava/lang/Object;ILjava/lang/Object;II)V"), (146, u "copyOf"), (1, .methodref 305 306), (0, .class_ 307), (0, .nameAndType 308 309), (0, u "java/lang/Math"), (0, u "min"), (0, u "(II)I"), (0, .methodref 311 128), (0, .class_ 312), (0, u "[B"), (26, .methodref 14 340), (0, .nameAndType 341 342), (0, u "copyOfRangeByte"), (0, u "([BII)[B"), (0, .methodref 14 344), (0, .nameAndType 345 346), (0, u "checkLength"), (0, u "(II)V"), (28, .class_ 376), (0, u "java/util/Arrays$ArrayList"), (68, u "$assertionsDisabled"), (269, u "MIN_ARRAY_SORT_GRAN"), (0, u "I"), (2, u "INSERTIONSORT_THRESHOLD"), (149, u "([BI)[B"), (105, .class_ 976), (0, u "java/util/Arrays$ArrayItr")] 52

def k19m0 : Method := { name := "<init>", desc := "()V", sig := { parameters := [], returnType := none }, accessFlags := 2, code := none }
def k19c1 : Code := { maxStack := 6, maxLocals := 3, code := jdk_65_method_121_code, exceptionTable := #[], attributes := #[] }
def k19m1 : Method := { name := "copyOf", desc := "([BI)[B", sig := { parameters := [(.array .byte), .int], returnType := some (.array .byte) }, accessFlags := 9, code := some k19c1 }
def k19c2 : Code := { maxStack := 4, maxLocals := 2, code := jdk_65_method_131_code, exceptionTable := #[], attributes := #[] }
def k19m2 : Method := { name := "checkLength", desc := "(II)V", sig := { parameters := [.int, .int], returnType := none }, accessFlags := 10, code := some k19c2 }
def k19c3 : Code := { maxStack := 3, maxLocals := 3, code := jdk_65_method_132_code, exceptionTable := #[], attributes := #[] }
def k19m3 : Method := { name := "copyOfRange", desc := "([BII)[B", sig := { parameters := [(.array .byte), .int, .int], returnType := some (.array .byte) }, accessFlags := 9, code := some k19c3 }
def k19c4 : Code := { maxStack := 6, maxLocals := 5, code := jdk_65_method_133_code, exceptionTable := #[], attributes := #[] }
def k19m4 : Method := { name := "copyOfRangeByte", desc := "([BII)[B", sig := { parameters := [(.array .byte), .int, .int], returnType := some (.array .byte) }, accessFlags := 10, code := some k19c4 }
/-- java/util/Arrays -/
def k19 : Class := { plain "java/util/Arrays" (some 0) with
  accessFlags := 49
  interfaces := #[]
  cf := some (fileOf pool19 14 #[.nestMembers #[975, 375, 113, 74]] #[{ accessFlags := 2, nameIndex := 5, descriptorIndex := 6, attributes := #[] }, { accessFlags := 9, nameIndex := 302, descriptorIndex := 869, attributes := #[] }, { accessFlags := 10, nameIndex := 345, descriptorIndex := 346, attributes := #[] }, { accessFlags := 9, nameIndex := 139, descriptorIndex := 342, attributes := #[] }, { accessFlags := 10, nameIndex := 341, descriptorIndex := 342, attributes := #[] }] 49 2 #[] #[{ accessFlags := 26, nameIndex := 715, descriptorIndex := 716, attributes := #[] }, { accessFlags := 26, nameIndex := 719, descriptorIndex := 716, attributes := #[] }, { accessFlags := 4120, nameIndex := 445, descriptorIndex := 117, attributes := #[] }])
  fields := #[{ name := "MIN_ARRAY_SORT_GRAN", type := .int, accessFlags := 26, slot := 0, constantValue := 0 }, { name := "INSERTIONSORT_THRESHOLD", type := .int, accessFlags := 26, slot := 1, constantValue := 0 }, { name := "$assertionsDisabled", type := .boolean, accessFlags := 4120, slot := 2, constantValue := 0 }]
  methods := #[k19m0, k19m1, k19m2, k19m3, k19m4]
  instanceTypes := #[]
  staticTypes := #[.int, .int, .boolean]
  resolved := Array.replicate 1029 none
  statics := none }

def pool20 : Array CpInfo := pool [(1, .class_ 2), (0, u "java/lang/Cloneable"), (0, .class_ 4), (0, u "java/lang/Object")] 2

/-- java/lang/Cloneable -/
def k20 : Class := { plain "java/lang/Cloneable" (some 0) with
  accessFlags := 1537
  interfaces := #[]
  cf := some (fileOf pool20 1 #[] #[] 1537 3 #[] #[])
  fields := #[]
  methods := #[]
  instanceTypes := #[]
  staticTypes := #[]
  resolved := Array.replicate 7 none
  statics := none }

def pool21 : Array CpInfo := pool [(2, .class_ 4), (1, u "java/lang/Object"), (0, u "<init>"), (0, u "()V"), (17, .class_ 26), (1, u "jdk/internal/util/Preconditions"), (6, u "checkIndex"), (21, .class_ 56), (0, u "jdk/internal/util/Preconditions$4"), (57, .class_ 115), (0, u "jdk/internal/util/Preconditions$1"), (7, u "SIOOBE_FORMATTER"), (0, u "Ljava/util/function/BiFunction;"), (0, .class_ 126), (0, u "jdk/internal/util/Preconditions$2"), (3, u "AIOOBE_FORMATTER"), (0, .class_ 132), (0, u "jdk/internal/util/Preconditions$3"), (3, u "IOOBE_FORMATTER"), (41, u "(IILjava/util/function/BiFunction;)I")] 15

def k21m0 : Method := { name := "<init>", desc := "()V", sig := { parameters := [], returnType := none }, accessFlags := 1, code := none }
def k21c1 : Code := { maxStack := 3, maxLocals := 3, code := jdk_41_method_11_code, exceptionTable := #[], attributes := #[] }
def k21m1 : Method := { name := "checkIndex", desc := "(IILjava/util/function/BiFunction;)I", sig := { parameters := [.int, .int, (.object "java/util/function/BiFunction")], returnType := some .int }, accessFlags := 9, code := some k21c1 }
/-- jdk/internal/util/Preconditions -/
def k21 : Class := { plain "jdk/internal/util/Preconditions" (some 0) with
  accessFlags := 33
  interfaces := #[]
  cf := some (fileOf pool21 24 #[.nestMembers #[55, 131, 125, 114]] #[{ accessFlags := 1, nameIndex := 5, descriptorIndex := 6, attributes := #[] }, { accessFlags := 9, nameIndex := 33, descriptorIndex := 178, attributes := #[] }] 33 2 #[] #[{ accessFlags := 25, nameIndex := 123, descriptorIndex := 124, attributes := #[] }, { accessFlags := 25, nameIndex := 130, descriptorIndex := 124, attributes := #[] }, { accessFlags := 25, nameIndex := 136, descriptorIndex := 124, attributes := #[] }])
  fields := #[{ name := "SIOOBE_FORMATTER", type := (.object "java/util/function/BiFunction"), accessFlags := 25, slot := 0, constantValue := 0 }, { name := "AIOOBE_FORMATTER", type := (.object "java/util/function/BiFunction"), accessFlags := 25, slot := 1, constantValue := 0 }, { name := "IOOBE_FORMATTER", type := (.object "java/util/function/BiFunction"), accessFlags := 25, slot := 2, constantValue := 0 }]
  methods := #[k21m0, k21m1]
  instanceTypes := #[]
  staticTypes := #[(.object "java/util/function/BiFunction"), (.object "java/util/function/BiFunction"), (.object "java/util/function/BiFunction")]
  resolved := Array.replicate 194 none
  statics := some 2 }

def pool22 : Array CpInfo := pool [(9, u "<init>"), (6, .class_ 18), (1, u "java/lang/Object"), (0, u "()V"), (1, .class_ 23), (1, u "jdk/internal/util/ArraysSupport"), (0, u "LOG2_ARRAY_LONG_INDEX_SCALE"), (0, u "I"), (2, u "U"), (0, u "Ljdk/internal/misc/Unsafe;"), (8, u "BIG_ENDIAN"), (0, u "Z"), (8, u "LOG2_BYTE_BIT_SIZE"), (4, u "LOG2_ARRAY_INT_INDEX_SCALE"), (54, u "JLA"), (0, u "Ljdk/internal/access/JavaLangAccess;"), (11, u "LOG2_ARRAY_BOOLEAN_INDEX_SCALE"), (9, u "LOG2_ARRAY_BYTE_INDEX_SCALE"), (5, u "LOG2_ARRAY_CHAR_INDEX_SCALE"), (5, u "LOG2_ARRAY_SHORT_INDEX_SCALE"), (18, u "LOG2_ARRAY_FLOAT_INDEX_SCALE"), (24, u "LOG2_ARRAY_DOUBLE_INDEX_SCALE"), (6, .methodref 195 196), (0, .class_ 197), (0, .nameAndType 198 199), (0, u "java/lang/Math"), (0, u "max"), (0, u "(II)I"), (0, .integer 2147483639), (76, u "T_BOOLEAN"), (2, u "T_CHAR"), (1, u "T_FLOAT"), (1, u "T_DOUBLE"), (1, u "T_BYTE"), (1, u "T_SHORT"), (1, u "T_INT"), (1, u "T_LONG"), (1, u "SOFT_MAX_ARRAY_LENGTH"), (56, u "newLength"), (0, u "(III)I")] 25

def k22m0 : Method := { name := "<init>", desc := "()V", sig := { parameters := [], returnType := none }, accessFlags := 2, code := none }
def k22c1 : Code := { maxStack := 3, maxLocals := 4, code := jdk_48_method_27_code, exceptionTable := #[], attributes := #[] }
def k22m1 : Method := { name := "newLength", desc := "(III)I", sig := { parameters := [.int, .int, .int], returnType := some .int }, accessFlags := 9, code := some k22c1 }
/-- jdk/internal/util/ArraysSupport -/
def k22 : Class := { plain "jdk/internal/util/ArraysSupport" (some 0) with
  accessFlags := 33
  interfaces := #[]
  cf := some (fileOf pool22 21 #[] #[{ accessFlags := 2, nameIndex := 9, descriptorIndex := 19, attributes := #[] }, { accessFlags := 9, nameIndex := 351, descriptorIndex := 352, attributes := #[] }] 33 16 #[] #[{ accessFlags := 24, nameIndex := 28, descriptorIndex := 29, attributes := #[] }, { accessFlags := 26, nameIndex := 38, descriptorIndex := 39, attributes := #[] }, { accessFlags := 25, nameIndex := 121, descriptorIndex := 25, attributes := #[] }, { accessFlags := 25, nameIndex := 131, descriptorIndex := 25, attributes := #[] }, { accessFlags := 25, nameIndex := 137, descriptorIndex := 25, attributes := #[] }, { accessFlags := 25, nameIndex := 143, descriptorIndex := 25, attributes := #[] }, { accessFlags := 25, nameIndex := 53, descriptorIndex := 25, attributes := #[] }, { accessFlags := 25, nameIndex := 24, descriptorIndex := 25, attributes := #[] }, { accessFlags := 25, nameIndex := 162, descriptorIndex := 25, attributes := #[] }, { accessFlags := 25, nameIndex := 187, descriptorIndex := 25, attributes := #[] }, { accessFlags := 26, nameIndex := 48, descriptorIndex := 25, attributes := #[] }, { accessFlags := 25, nameIndex := 277, descriptorIndex := 25, attributes := #[] }, { accessFlags := 25, nameIndex := 280, descriptorIndex := 25, attributes := #[] }, { accessFlags := 25, nameIndex := 282, descriptorIndex := 25, attributes := #[] }, { accessFlags := 25, nameIndex := 284, descriptorIndex := 25, attributes := #[] }, { accessFlags := 25, nameIndex := 286, descriptorIndex := 25, attributes := #[] }, { accessFlags := 25, nameIndex := 288, descriptorIndex := 25, attributes := #[] }, { accessFlags := 25, nameIndex := 290, descriptorIndex := 25, attributes := #[] }, { accessFlags := 25, nameIndex := 292, descriptorIndex := 25, attributes := #[] }, { accessFlags := 26, nameIndex := 108, descriptorIndex := 109, attributes := #[] }, { accessFlags := 25, nameIndex := 294, descriptorIndex := 25, attributes := #[] }])
  fields := #[{ name := "U", type := (.object "jdk/internal/misc/Unsafe"), accessFlags := 24, slot := 0, constantValue := 0 }, { name := "BIG_ENDIAN", type := .boolean, accessFlags := 26, slot := 1, constantValue := 0 }, { name := "LOG2_ARRAY_BOOLEAN_INDEX_SCALE", type := .int, accessFlags := 25, slot := 2, constantValue := 0 }, { name := "LOG2_ARRAY_BYTE_INDEX_SCALE", type := .int, accessFlags := 25, slot := 3, constantValue := 0 }, { name := "LOG2_ARRAY_CHAR_INDEX_SCALE", type := .int, accessFlags := 25, slot := 4, constantValue := 0 }, { name := "LOG2_ARRAY_SHORT_INDEX_SCALE", type := .int, accessFlags := 25, slot := 5, constantValue := 0 }, { name := "LOG2_ARRAY_INT_INDEX_SCALE", type := .int, accessFlags := 25, slot := 6, constantValue := 0 }, { name := "LOG2_ARRAY_LONG_INDEX_SCALE", type := .int, accessFlags := 25, slot := 7, constantValue := 0 }, { name := "LOG2_ARRAY_FLOAT_INDEX_SCALE", type := .int, accessFlags := 25, slot := 8, constantValue := 0 }, { name := "LOG2_ARRAY_DOUBLE_INDEX_SCALE", type := .int, accessFlags := 25, slot := 9, constantValue := 0 }, { name := "LOG2_BYTE_BIT_SIZE", type := .int, accessFlags := 26, slot := 10, constantValue := 0 }, { name := "T_BOOLEAN", type := .int, accessFlags := 25, slot := 11, constantValue := 0 }, { name := "T_CHAR", type := .int, accessFlags := 25, slot := 12, constantValue := 0 }, { name := "T_FLOAT", type := .int, accessFlags := 25, slot := 13, constantValue := 0 }, { name := "T_DOUBLE", type := .int, accessFlags := 25, slot := 14, constantValue := 0 }, { name := "T_BYTE", type := .int, accessFlags := 25, slot := 15, constantValue := 0 }, { name := "T_SHORT", type := .int, accessFlags := 25, slot := 16, constantValue := 0 }, { name := "T_INT", type := .int, accessFlags := 25, slot := 17, constantValue := 0 }, { name := "T_LONG", type := .int, accessFlags := 25, slot := 18, constantValue := 0 }, { name := "JLA", type := (.object "jdk/internal/access/JavaLangAccess"), accessFlags := 26, slot := 19, constantValue := 0 }, { name := "SOFT_MAX_ARRAY_LENGTH", type := .int, accessFlags := 25, slot := 20, constantValue := 0 }]
  methods := #[k22m0, k22m1]
  instanceTypes := #[]
  staticTypes := #[(.object "jdk/internal/misc/Unsafe"), .boolean, .int, .int, .int, .int, .int, .int, .int, .int, .int, .int, .int, .int, .int, .int, .int, .int, .int, (.object "jdk/internal/access/JavaLangAccess"), .int]
  resolved := Array.replicate 378 none
  statics := none }

/-- the primitive byte -/
def k23 : Class := { plain "byte" none with kind := .primitive 'B', accessFlags := 0x411 }
/-- [B -/
def k24 : Class := { plain "[B" (some 0) with kind := .array 23 .byte, interfaces := #[20, 8], accessFlags := 1041 }

/-- the primitive int -/
def k25 : Class := { plain "int" none with kind := .primitive 'I', accessFlags := 0x411 }
/-- [I -/
def k26 : Class := { plain "[I" (some 0) with kind := .array 25 .int, interfaces := #[20, 8], accessFlags := 1041 }

def heap : Heap := #[{ cls := 13, slots := #[.long 0, .int 1, .null, .int 0, .null, .int 0, .int 0], vm := .statics 13 },
  { cls := 16, slots := #[.int 0, .int 0, .null, .null, .ref 4, .ref 3, .int 0, .int 0, .long 0], vm := .statics 16 },
  { cls := 21, slots := #[.null, .null, .null], vm := .statics 21 },
  { cls := 24, slots := #[.int 48, .int 49, .int 50, .int 51, .int 52, .int 53, .int 54, .int 55, .int 56, .int 57, .int 48, .int 49, .int 50, .int 51, .int 52, .int 53, .int 54, .int 55, .int 56, .int 57, .int 48, .int 49, .int 50, .int 51, .int 52, .int 53, .int 54, .int 55, .int 56, .int 57, .int 48, .int 49, .int 50, .int 51, .int 52, .int 53, .int 54, .int 55, .int 56, .int 57, .int 48, .int 49, .int 50, .int 51, .int 52, .int 53, .int 54, .int 55, .int 56, .int 57, .int 48, .int 49, .int 50, .int 51, .int 52, .int 53, .int 54, .int 55, .int 56, .int 57, .int 48, .int 49, .int 50, .int 51, .int 52, .int 53, .int 54, .int 55, .int 56, .int 57, .int 48, .int 49, .int 50, .int 51, .int 52, .int 53, .int 54, .int 55, .int 56, .int 57, .int 48, .int 49, .int 50, .int 51, .int 52, .int 53, .int 54, .int 55, .int 56, .int 57, .int 48, .int 49, .int 50, .int 51, .int 52, .int 53, .int 54, .int 55, .int 56, .int 57], vm := .none },
  { cls := 24, slots := #[.int 48, .int 48, .int 48, .int 48, .int 48, .int 48, .int 48, .int 48, .int 48, .int 48, .int 49, .int 49, .int 49, .int 49, .int 49, .int 49, .int 49, .int 49, .int 49, .int 49, .int 50, .int 50, .int 50, .int 50, .int 50, .int 50, .int 50, .int 50, .int 50, .int 50, .int 51, .int 51, .int 51, .int 51, .int 51, .int 51, .int 51, .int 51, .int 51, .int 51, .int 52, .int 52, .int 52, .int 52, .int 52, .int 52, .int 52, .int 52, .int 52, .int 52, .int 53, .int 53, .int 53, .int 53, .int 53, .int 53, .int 53, .int 53, .int 53, .int 53, .int 54, .int 54, .int 54, .int 54, .int 54, .int 54, .int 54, .int 54, .int 54, .int 54, .int 55, .int 55, .int 55, .int 55, .int 55, .int 55, .int 55, .int 55, .int 55, .int 55, .int 56, .int 56, .int 56, .int 56, .int 56, .int 56, .int 56, .int 56, .int 56, .int 56, .int 57, .int 57, .int 57, .int 57, .int 57, .int 57, .int 57, .int 57, .int 57, .int 57], vm := .none }]
def classes : Array Class := #[k0, k1, k2, k3, k4, k5, k6, k7, k8, k9, k10, k11, k12, k13, k14, k15, k16, k17, k18, k19, k20, k21, k22, k23, k24, k25, k26]
def interned : List (Array UInt16 × Addr) := []
def slotsUsed : Nat := 219
def theMethod : MethodId := ⟨1, 1⟩
def args0 : Array Value := #[.long 5, .long 7, .long 3]
def aboutOver (below : List Frame) : State where
  vm := { classes := classes, interned := interned.toArray }
  heap := heap
  slotsUsed := slotsUsed
  threads := #[{ frames := .invoking theMethod args0 :: below }]
def below0 : List Frame := [.native { method := ⟨0, 0⟩, args := #[] }]
def about1 : State := aboutOver below0
def p0 : Program := .bare "" "" ""
def e0 : Env := launch0.env 0 0 0
theorem w_frames : about1.frames = Frame.invoking theMethod args0 :: below0 := rfl
set_option maxRecDepth 65536 in
theorem w_args : argsFit about1.vm theMethod args0 = true := by decide +kernel
set_option maxRecDepth 65536 in
theorem w_heap : heapFits about1 = true := by decide +kernel
set_option maxRecDepth 65536 in
theorem w_runnable : about1.curStatus? = some .runnable := by decide +kernel
set_option maxRecDepth 65536 in
theorem w_alone : about1.alone = true := by decide +kernel
set_option maxRecDepth 65536 in
theorem w_named : about1.methodNamed? x = some theMethod := by decide +kernel
set_option maxRecDepth 65536 in
theorem w_hears : about1.hears theMethod below0 = true := by decide +kernel
set_option maxRecDepth 65536 in
theorem w_ripe : about1.ripe theMethod args0 below0 = true := by decide +kernel
theorem w_running : about1.status = .running := rfl
set_option maxRecDepth 65536 in
theorem w_room : about1.hasRoom e0.platform room_1 = true :=
  launch0.hasRoom_least _ room_1 (by decide +kernel) (by decide +kernel) (by decide +kernel) (by decide +kernel) (by decide +kernel) (by decide +kernel)
theorem allAtoms_all (ts : List Jvm.Cond) (a : Array Jvm.Value) (st : Jvm.State) : (allAtoms ts).before a st = ts.all (fun c => c.before a st) := by
  induction ts with
  | nil => rfl
  | cons c t ih =>
    show (Jvm.Cond.and c (allAtoms t)).before a st = _
    rw [Jvm.Cond.before_and, ih, List.all_cons]
def words1 : List Jvm.Cond := Jvm.Cond.code x code maxLocals ret :: tables_1
/-- a 'code' word, met by the world's own term for the bytes: nothing is compared byte by byte -/
theorem code_word {y : MethodName} {bytes : ByteArray} {mx : Nat} {rt : Option FieldType} {a : Array Value} {s : State} {m : MethodId} {meth : Method} {c : Code} (h1 : s.methodNamed? y = some m) (h2 : s.vm.method? m = some meth) (h3 : meth.code = some c) (h4 : c.code = bytes)
    (h5 : (c.maxLocals == mx && c.exceptionTable.isEmpty && decide (c.maxStack ≤ mostOperands) && decide (meth.sig.returnType = rt) && !meth.locks && decide (parseMethodDescriptor y.desc = some meth.sig)) = true) : (Jvm.Cond.code y bytes mx rt).before a s = true := by
  simp only [Bool.and_eq_true, beq_iff_eq, Bool.not_eq_true', decide_eq_true_eq] at h5
  obtain ⟨⟨⟨⟨⟨g1, g2⟩, g3⟩, g4⟩, g5⟩, g6⟩ := h5
  simp [Cond.before, Cond.holds, Cond.value, h1, h2, h3, h4, g1, g2, g3, g4, g5, g6]
def isCode : Jvm.Cond → Bool
  | .code _ _ _ _ => true
  | _ => false
theorem all_split {L : List Jvm.Cond} {P : Jvm.Cond → Bool} (h1 : L.all (fun c => isCode c || P c) = true) (h2 : ∀ c ∈ L.filter isCode, P c = true) : L.all P = true := by
  refine List.all_eq_true.mpr fun c hc => ?_
  have h := List.all_eq_true.mp h1 c hc
  rcases Bool.eq_false_or_eq_true (isCode c) with hi | hi
  · exact h2 c (List.mem_filter.mpr ⟨hc, hi⟩)
  · simpa [hi] using h
set_option maxRecDepth 65536 in
theorem w_c0 : (Jvm.Cond.code x code maxLocals ret).before args0 about1 = true := code_word (m := ⟨1, 1⟩) (meth := k1m1) (c := k1c1) (by decide +kernel) rfl rfl rfl (by decide +kernel)
set_option maxRecDepth 65536 in
theorem w_c1 : (Jvm.Cond.code ({ cls := "java/lang/Math", name := "max", desc := "(JJ)J" } : Jvm.MethodName) jdk_29_method_66_code (4 : Nat) (Option.some Jvm.ClassFile.FieldType.long)).before args0 about1 = true := code_word (m := ⟨2, 2⟩) (meth := k2m2) (c := k2c2) (by decide +kernel) rfl rfl rfl (by decide +kernel)
set_option maxRecDepth 65536 in
theorem w_c2 : (Jvm.Cond.code ({ cls := "com/example/hiscore/hiscore/Load", name := "<init>", desc := "(JJ)V" } : Jvm.MethodName) prog_8_method_1_code (5 : Nat) (Option.none : Option Jvm.ClassFile.FieldType)).before args0 about1 = true := code_word (m := ⟨4, 0⟩) (meth := k4m0) (c := k4c0) (by decide +kernel) rfl rfl rfl (by decide +kernel)
set_option maxRecDepth 65536 in
theorem w_c3 : (Jvm.Cond.code ({ cls := "java/lang/Record", name := "<init>", desc := "()V" } : Jvm.MethodName) jdk_30_method_1_code (1 : Nat) (Option.none : Option Jvm.ClassFile.FieldType)).before args0 about1 = true := code_word (m := ⟨3, 0⟩) (meth := k3m0) (c := k3c0) (by decide +kernel) rfl rfl rfl (by decide +kernel)
set_option maxRecDepth 65536 in
theorem w_c4 : (Jvm.Cond.code ({ cls := "java/lang/Object", name := "<init>", desc := "()V" } : Jvm.MethodName) object_method_1_code (1 : Nat) (Option.none : Option Jvm.ClassFile.FieldType)).before args0 about1 = true := code_word (m := ⟨0, 0⟩) (meth := k0m0) (c := k0c0) (by decide +kernel) rfl rfl rfl (by decide +kernel)
set_option maxRecDepth 65536 in
theorem w_c5 : (Jvm.Cond.code ({ cls := "com/example/hiscore/hiscore/Load", name := "player", desc := "(J)Ljava/lang/String;" } : Jvm.MethodName) prog_8_method_2_code (4 : Nat) (Option.some (Jvm.ClassFile.FieldType.object "java/lang/String"))).before args0 about1 = true := code_word (m := ⟨4, 1⟩) (meth := k4m1) (c := k4c1) (by decide +kernel) rfl rfl rfl (by decide +kernel)
set_option maxRecDepth 65536 in
theorem w_c6 : (Jvm.Cond.code ({ cls := "java/lang/StringBuilder", name := "<init>", desc := "(I)V" } : Jvm.MethodName) jdk_67_method_2_code (2 : Nat) (Option.none : Option Jvm.ClassFile.FieldType)).before args0 about1 = true := code_word (m := ⟨10, 1⟩) (meth := k10m1) (c := k10c1) (by decide +kernel) rfl rfl rfl (by decide +kernel)
set_option maxRecDepth 65536 in
theorem w_c7 : (Jvm.Cond.code ({ cls := "java/lang/AbstractStringBuilder", name := "<init>", desc := "(I)V" } : Jvm.MethodName) jdk_68_method_2_code (2 : Nat) (Option.none : Option Jvm.ClassFile.FieldType)).before args0 about1 = true := code_word (m := ⟨7, 1⟩) (meth := k7m1) (c := k7c1) (by decide +kernel) rfl rfl rfl (by decide +kernel)
set_option maxRecDepth 65536 in
theorem w_c8 : (Jvm.Cond.code ({ cls := "com/example/hiscore/hiscore/Load", name := "appendPlayer", desc := "(Ljava/lang/StringBuilder;J)V" } : Jvm.MethodName) prog_8_method_5_code (6 : Nat) (Option.none : Option Jvm.ClassFile.FieldType)).before args0 about1 = true := code_word (m := ⟨4, 2⟩) (meth := k4m2) (c := k4c2) (by decide +kernel) rfl rfl rfl (by decide +kernel)
set_option maxRecDepth 65536 in
theorem w_c9 : (Jvm.Cond.code ({ cls := "java/lang/Long", name := "toString", desc := "(J)Ljava/lang/String;" } : Jvm.MethodName) jdk_35_method_12_code (4 : Nat) (Option.some (Jvm.ClassFile.FieldType.object "java/lang/String"))).before args0 about1 = true := code_word (m := ⟨15, 0⟩) (meth := k15m0) (c := k15c0) (by decide +kernel) rfl rfl rfl (by decide +kernel)
set_option maxRecDepth 65536 in
theorem w_c10 : (Jvm.Cond.code ({ cls := "java/lang/Long", name := "stringSize", desc := "(J)I" } : Jvm.MethodName) jdk_35_method_15_code (6 : Nat) (Option.some Jvm.ClassFile.FieldType.int)).before args0 about1 = true := code_word (m := ⟨15, 2⟩) (meth := k15m2) (c := k15c2) (by decide +kernel) rfl rfl rfl (by decide +kernel)
set_option maxRecDepth 65536 in
theorem w_c11 : (Jvm.Cond.code ({ cls := "java/lang/Long", name := "getChars", desc := "(JI[B)I" } : Jvm.MethodName) jdk_35_method_14_code (11 : Nat) (Option.some Jvm.ClassFile.FieldType.int)).before args0 about1 = true := code_word (m := ⟨15, 1⟩) (meth := k15m1) (c := k15c1) (by decide +kernel) rfl rfl rfl (by decide +kernel)
set_option maxRecDepth 65536 in
theorem w_c12 : (Jvm.Cond.code ({ cls := "java/lang/String", name := "<init>", desc := "([BB)V" } : Jvm.MethodName) jdk_42_method_151_code (3 : Nat) (Option.none : Option Jvm.ClassFile.FieldType)).before args0 about1 = true := code_word (m := ⟨13, 6⟩) (meth := k13m6) (c := k13c6) (by decide +kernel) rfl rfl rfl (by decide +kernel)
set_option maxRecDepth 65536 in
theorem w_c13 : (Jvm.Cond.code ({ cls := "java/lang/StringBuilder", name := "append", desc := "(C)Ljava/lang/StringBuilder;" } : Jvm.MethodName) jdk_67_method_14_code (2 : Nat) (Option.some (Jvm.ClassFile.FieldType.object "java/lang/StringBuilder"))).before args0 about1 = true := code_word (m := ⟨10, 3⟩) (meth := k10m3) (c := k10c3) (by decide +kernel) rfl rfl rfl (by decide +kernel)
set_option maxRecDepth 65536 in
theorem w_c14 : (Jvm.Cond.code ({ cls := "java/lang/AbstractStringBuilder", name := "append", desc := "(C)Ljava/lang/AbstractStringBuilder;" } : Jvm.MethodName) jdk_68_method_31_code (2 : Nat) (Option.some (Jvm.ClassFile.FieldType.object "java/lang/AbstractStringBuilder"))).before args0 about1 = true := code_word (m := ⟨7, 6⟩) (meth := k7m6) (c := k7c6) (by decide +kernel) rfl rfl rfl (by decide +kernel)
set_option maxRecDepth 65536 in
theorem w_c15 : (Jvm.Cond.code ({ cls := "java/lang/AbstractStringBuilder", name := "ensureCapacityInternal", desc := "(I)V" } : Jvm.MethodName) jdk_68_method_9_code (3 : Nat) (Option.none : Option Jvm.ClassFile.FieldType)).before args0 about1 = true := code_word (m := ⟨7, 3⟩) (meth := k7m3) (c := k7c3) (by decide +kernel) rfl rfl rfl (by decide +kernel)
set_option maxRecDepth 65536 in
theorem w_c16 : (Jvm.Cond.code ({ cls := "java/lang/AbstractStringBuilder", name := "isLatin1", desc := "()Z" } : Jvm.MethodName) jdk_68_method_68_code (1 : Nat) (Option.some Jvm.ClassFile.FieldType.boolean)).before args0 about1 = true := code_word (m := ⟨7, 8⟩) (meth := k7m8) (c := k7c8) (by decide +kernel) rfl rfl rfl (by decide +kernel)
set_option maxRecDepth 65536 in
theorem w_c17 : (Jvm.Cond.code ({ cls := "java/lang/StringLatin1", name := "canEncode", desc := "(C)Z" } : Jvm.MethodName) jdk_43_method_3_code (1 : Nat) (Option.some Jvm.ClassFile.FieldType.boolean)).before args0 about1 = true := code_word (m := ⟨17, 2⟩) (meth := k17m2) (c := k17c2) (by decide +kernel) rfl rfl rfl (by decide +kernel)
set_option maxRecDepth 65536 in
theorem w_c18 : (Jvm.Cond.code ({ cls := "java/lang/String", name := "length", desc := "()I" } : Jvm.MethodName) jdk_42_method_54_code (1 : Nat) (Option.some Jvm.ClassFile.FieldType.int)).before args0 about1 = true := code_word (m := ⟨13, 2⟩) (meth := k13m2) (c := k13c2) (by decide +kernel) rfl rfl rfl (by decide +kernel)
set_option maxRecDepth 65536 in
theorem w_c19 : (Jvm.Cond.code ({ cls := "java/lang/String", name := "coder", desc := "()B" } : Jvm.MethodName) jdk_42_method_152_code (1 : Nat) (Option.some Jvm.ClassFile.FieldType.byte)).before args0 about1 = true := code_word (m := ⟨13, 7⟩) (meth := k13m7) (c := k13c7) (by decide +kernel) rfl rfl rfl (by decide +kernel)
set_option maxRecDepth 65536 in
theorem w_c20 : (Jvm.Cond.code ({ cls := "java/lang/StringBuilder", name := "append", desc := "(Ljava/lang/String;)Ljava/lang/StringBuilder;" } : Jvm.MethodName) jdk_67_method_7_code (2 : Nat) (Option.some (Jvm.ClassFile.FieldType.object "java/lang/StringBuilder"))).before args0 about1 = true := code_word (m := ⟨10, 2⟩) (meth := k10m2) (c := k10c2) (by decide +kernel) rfl rfl rfl (by decide +kernel)
set_option maxRecDepth 65536 in
theorem w_c21 : (Jvm.Cond.code ({ cls := "java/lang/AbstractStringBuilder", name := "append", desc := "(Ljava/lang/String;)Ljava/lang/AbstractStringBuilder;" } : Jvm.MethodName) jdk_68_method_22_code (3 : Nat) (Option.some (Jvm.ClassFile.FieldType.object "java/lang/AbstractStringBuilder"))).before args0 about1 = true := code_word (m := ⟨7, 5⟩) (meth := k7m5) (c := k7c5) (by decide +kernel) rfl rfl rfl (by decide +kernel)
set_option maxRecDepth 65536 in
theorem w_c22 : (Jvm.Cond.code ({ cls := "java/lang/AbstractStringBuilder", name := "putStringAt", desc := "(ILjava/lang/String;)V" } : Jvm.MethodName) jdk_68_method_73_code (3 : Nat) (Option.none : Option Jvm.ClassFile.FieldType)).before args0 about1 = true := code_word (m := ⟨7, 10⟩) (meth := k7m10) (c := k7c10) (by decide +kernel) rfl rfl rfl (by decide +kernel)
set_option maxRecDepth 65536 in
theorem w_c23 : (Jvm.Cond.code ({ cls := "java/lang/AbstractStringBuilder", name := "inflateIfNeededFor", desc := "(Ljava/lang/String;)V" } : Jvm.MethodName) jdk_68_method_71_code (2 : Nat) (Option.none : Option Jvm.ClassFile.FieldType)).before args0 about1 = true := code_word (m := ⟨7, 9⟩) (meth := k7m9) (c := k7c9) (by decide +kernel) rfl rfl rfl (by decide +kernel)
set_option maxRecDepth 65536 in
theorem w_c24 : (Jvm.Cond.code ({ cls := "java/lang/String", name := "getBytes", desc := "([BIB)V" } : Jvm.MethodName) jdk_42_method_147_code (4 : Nat) (Option.none : Option Jvm.ClassFile.FieldType)).before args0 about1 = true := code_word (m := ⟨13, 4⟩) (meth := k13m4) (c := k13c4) (by decide +kernel) rfl rfl rfl (by decide +kernel)
set_option maxRecDepth 65536 in
theorem w_c25 : (Jvm.Cond.code ({ cls := "java/lang/StringBuilder", name := "toString", desc := "()Ljava/lang/String;" } : Jvm.MethodName) jdk_67_method_42_code (1 : Nat) (Option.some (Jvm.ClassFile.FieldType.object "java/lang/String"))).before args0 about1 = true := code_word (m := ⟨10, 4⟩) (meth := k10m4) (c := k10c4) (by decide +kernel) rfl rfl rfl (by decide +kernel)
set_option maxRecDepth 65536 in
theorem w_c26 : (Jvm.Cond.code ({ cls := "java/lang/String", name := "<init>", desc := "(Ljava/lang/StringBuilder;)V" } : Jvm.MethodName) jdk_42_method_53_code (2 : Nat) (Option.none : Option Jvm.ClassFile.FieldType)).before args0 about1 = true := code_word (m := ⟨13, 1⟩) (meth := k13m1) (c := k13c1) (by decide +kernel) rfl rfl rfl (by decide +kernel)
set_option maxRecDepth 65536 in
theorem w_c27 : (Jvm.Cond.code ({ cls := "java/lang/String", name := "<init>", desc := "(Ljava/lang/AbstractStringBuilder;Ljava/lang/Void;)V" } : Jvm.MethodName) jdk_42_method_150_code (5 : Nat) (Option.none : Option Jvm.ClassFile.FieldType)).before args0 about1 = true := code_word (m := ⟨13, 5⟩) (meth := k13m5) (c := k13c5) (by decide +kernel) rfl rfl rfl (by decide +kernel)
set_option maxRecDepth 65536 in
theorem w_c28 : (Jvm.Cond.code ({ cls := "java/lang/AbstractStringBuilder", name := "getValue", desc := "()[B" } : Jvm.MethodName) jdk_68_method_64_code (1 : Nat) (Option.some (Jvm.ClassFile.FieldType.array Jvm.ClassFile.FieldType.byte))).before args0 about1 = true := code_word (m := ⟨7, 7⟩) (meth := k7m7) (c := k7c7) (by decide +kernel) rfl rfl rfl (by decide +kernel)
set_option maxRecDepth 65536 in
theorem w_c29 : (Jvm.Cond.code ({ cls := "java/lang/StringBuilder", name := "length", desc := "()I" } : Jvm.MethodName) jdk_67_method_93_code (1 : Nat) (Option.some Jvm.ClassFile.FieldType.int)).before args0 about1 = true := code_word (m := ⟨10, 5⟩) (meth := k10m5) (c := k10c5) (by decide +kernel) rfl rfl rfl (by decide +kernel)
set_option maxRecDepth 65536 in
theorem w_c30 : (Jvm.Cond.code ({ cls := "java/lang/AbstractStringBuilder", name := "length", desc := "()I" } : Jvm.MethodName) jdk_68_method_6_code (1 : Nat) (Option.some Jvm.ClassFile.FieldType.int)).before args0 about1 = true := code_word (m := ⟨7, 2⟩) (meth := k7m2) (c := k7c2) (by decide +kernel) rfl rfl rfl (by decide +kernel)
set_option maxRecDepth 65536 in
theorem w_c31 : (Jvm.Cond.code ({ cls := "java/util/Arrays", name := "copyOfRange", desc := "([BII)[B" } : Jvm.MethodName) jdk_65_method_132_code (3 : Nat) (Option.some (Jvm.ClassFile.FieldType.array Jvm.ClassFile.FieldType.byte))).before args0 about1 = true := code_word (m := ⟨19, 3⟩) (meth := k19m3) (c := k19c3) (by decide +kernel) rfl rfl rfl (by decide +kernel)
set_option maxRecDepth 65536 in
theorem w_c32 : (Jvm.Cond.code ({ cls := "java/lang/String", name := "charAt", desc := "(I)C" } : Jvm.MethodName) jdk_42_method_56_code (2 : Nat) (Option.some Jvm.ClassFile.FieldType.char)).before args0 about1 = true := code_word (m := ⟨13, 3⟩) (meth := k13m3) (c := k13c3) (by decide +kernel) rfl rfl rfl (by decide +kernel)
set_option maxRecDepth 65536 in
theorem w_c33 : (Jvm.Cond.code ({ cls := "java/lang/String", name := "isLatin1", desc := "()Z" } : Jvm.MethodName) jdk_42_method_154_code (1 : Nat) (Option.some Jvm.ClassFile.FieldType.boolean)).before args0 about1 = true := code_word (m := ⟨13, 8⟩) (meth := k13m8) (c := k13c8) (by decide +kernel) rfl rfl rfl (by decide +kernel)
set_option maxRecDepth 65536 in
theorem w_c34 : (Jvm.Cond.code ({ cls := "java/lang/StringLatin1", name := "charAt", desc := "([BI)C" } : Jvm.MethodName) jdk_43_method_2_code (2 : Nat) (Option.some Jvm.ClassFile.FieldType.char)).before args0 about1 = true := code_word (m := ⟨17, 1⟩) (meth := k17m1) (c := k17c1) (by decide +kernel) rfl rfl rfl (by decide +kernel)
set_option maxRecDepth 65536 in
theorem w_c35 : (Jvm.Cond.code ({ cls := "java/lang/String", name := "checkIndex", desc := "(II)V" } : Jvm.MethodName) jdk_42_method_155_code (2 : Nat) (Option.none : Option Jvm.ClassFile.FieldType)).before args0 about1 = true := code_word (m := ⟨13, 9⟩) (meth := k13m9) (c := k13c9) (by decide +kernel) rfl rfl rfl (by decide +kernel)
set_option maxRecDepth 65536 in
theorem w_c36 : (Jvm.Cond.code ({ cls := "jdk/internal/util/Preconditions", name := "checkIndex", desc := "(IILjava/util/function/BiFunction;)I" } : Jvm.MethodName) jdk_41_method_11_code (3 : Nat) (Option.some Jvm.ClassFile.FieldType.int)).before args0 about1 = true := code_word (m := ⟨21, 1⟩) (meth := k21m1) (c := k21c1) (by decide +kernel) rfl rfl rfl (by decide +kernel)
set_option maxRecDepth 65536 in
theorem w_c37 : (Jvm.Cond.code ({ cls := "com/example/hiscore/hiscore/LoadPlayerPinLaw", name := "step", desc := "(Ljava/lang/String;IJ)J" } : Jvm.MethodName) method_3_code (5 : Nat) (Option.some Jvm.ClassFile.FieldType.long)).before args0 about1 = true := code_word (m := ⟨1, 2⟩) (meth := k1m2) (c := k1c2) (by decide +kernel) rfl rfl rfl (by decide +kernel)
set_option maxRecDepth 65536 in
theorem w_c38 : (Jvm.Cond.code ({ cls := "java/lang/AbstractStringBuilder", name := "newCapacity", desc := "(I)I" } : Jvm.MethodName) jdk_68_method_10_code (6 : Nat) (Option.some Jvm.ClassFile.FieldType.int)).before args0 about1 = true := code_word (m := ⟨7, 4⟩) (meth := k7m4) (c := k7c4) (by decide +kernel) rfl rfl rfl (by decide +kernel)
set_option maxRecDepth 65536 in
theorem w_c39 : (Jvm.Cond.code ({ cls := "jdk/internal/util/ArraysSupport", name := "newLength", desc := "(III)I" } : Jvm.MethodName) jdk_48_method_27_code (4 : Nat) (Option.some Jvm.ClassFile.FieldType.int)).before args0 about1 = true := code_word (m := ⟨22, 1⟩) (meth := k22m1) (c := k22c1) (by decide +kernel) rfl rfl rfl (by decide +kernel)
set_option maxRecDepth 65536 in
theorem w_c40 : (Jvm.Cond.code ({ cls := "java/lang/Math", name := "max", desc := "(II)I" } : Jvm.MethodName) jdk_29_method_65_code (2 : Nat) (Option.some Jvm.ClassFile.FieldType.int)).before args0 about1 = true := code_word (m := ⟨2, 1⟩) (meth := k2m1) (c := k2c1) (by decide +kernel) rfl rfl rfl (by decide +kernel)
set_option maxRecDepth 65536 in
theorem w_c41 : (Jvm.Cond.code ({ cls := "java/util/Arrays", name := "copyOf", desc := "([BI)[B" } : Jvm.MethodName) jdk_65_method_121_code (3 : Nat) (Option.some (Jvm.ClassFile.FieldType.array Jvm.ClassFile.FieldType.byte))).before args0 about1 = true := code_word (m := ⟨19, 1⟩) (meth := k19m1) (c := k19c1) (by decide +kernel) rfl rfl rfl (by decide +kernel)
set_option maxRecDepth 65536 in
theorem w_c42 : (Jvm.Cond.code ({ cls := "java/lang/Math", name := "min", desc := "(II)I" } : Jvm.MethodName) jdk_29_method_69_code (2 : Nat) (Option.some Jvm.ClassFile.FieldType.int)).before args0 about1 = true := code_word (m := ⟨2, 3⟩) (meth := k2m3) (c := k2c3) (by decide +kernel) rfl rfl rfl (by decide +kernel)
set_option maxRecDepth 65536 in
theorem w_c43 : (Jvm.Cond.code ({ cls := "java/util/Arrays", name := "copyOfRangeByte", desc := "([BII)[B" } : Jvm.MethodName) jdk_65_method_133_code (5 : Nat) (Option.some (Jvm.ClassFile.FieldType.array Jvm.ClassFile.FieldType.byte))).before args0 about1 = true := code_word (m := ⟨19, 4⟩) (meth := k19m4) (c := k19c4) (by decide +kernel) rfl rfl rfl (by decide +kernel)
set_option maxRecDepth 65536 in
theorem w_c44 : (Jvm.Cond.code ({ cls := "java/util/Arrays", name := "checkLength", desc := "(II)V" } : Jvm.MethodName) jdk_65_method_131_code (2 : Nat) (Option.none : Option Jvm.ClassFile.FieldType)).before args0 about1 = true := code_word (m := ⟨19, 2⟩) (meth := k19m2) (c := k19c2) (by decide +kernel) rfl rfl rfl (by decide +kernel)
def codes1 : List Jvm.Cond := [Jvm.Cond.code x code maxLocals ret, Jvm.Cond.code ({ cls := "java/lang/Math", name := "max", desc := "(JJ)J" } : Jvm.MethodName) jdk_29_method_66_code (4 : Nat) (Option.some Jvm.ClassFile.FieldType.long), Jvm.Cond.code ({ cls := "com/example/hiscore/hiscore/Load", name := "<init>", desc := "(JJ)V" } : Jvm.MethodName) prog_8_method_1_code (5 : Nat) (Option.none : Option Jvm.ClassFile.FieldType), Jvm.Cond.code ({ cls := "java/lang/Record", name := "<init>", desc := "()V" } : Jvm.MethodName) jdk_30_method_1_code (1 : Nat) (Option.none : Option Jvm.ClassFile.FieldType), Jvm.Cond.code ({ cls := "java/lang/Object", name := "<init>", desc := "()V" } : Jvm.MethodName) object_method_1_code (1 : Nat) (Option.none : Option Jvm.ClassFile.FieldType), Jvm.Cond.code ({ cls := "com/example/hiscore/hiscore/Load", name := "player", desc := "(J)Ljava/lang/String;" } : Jvm.MethodName) prog_8_method_2_code (4 : Nat) (Option.some (Jvm.ClassFile.FieldType.object "java/lang/String")), Jvm.Cond.code ({ cls := "java/lang/StringBuilder", name := "<init>", desc := "(I)V" } : Jvm.MethodName) jdk_67_method_2_code (2 : Nat) (Option.none : Option Jvm.ClassFile.FieldType), Jvm.Cond.code ({ cls := "java/lang/AbstractStringBuilder", name := "<init>", desc := "(I)V" } : Jvm.MethodName) jdk_68_method_2_code (2 : Nat) (Option.none : Option Jvm.ClassFile.FieldType), Jvm.Cond.code ({ cls := "com/example/hiscore/hiscore/Load", name := "appendPlayer", desc := "(Ljava/lang/StringBuilder;J)V" } : Jvm.MethodName) prog_8_method_5_code (6 : Nat) (Option.none : Option Jvm.ClassFile.FieldType), Jvm.Cond.code ({ cls := "java/lang/Long", name := "toString", desc := "(J)Ljava/lang/String;" } : Jvm.MethodName) jdk_35_method_12_code (4 : Nat) (Option.some (Jvm.ClassFile.FieldType.object "java/lang/String")), Jvm.Cond.code ({ cls := "java/lang/Long", name := "stringSize", desc := "(J)I" } : Jvm.MethodName) jdk_35_method_15_code (6 : Nat) (Option.some Jvm.ClassFile.FieldType.int), Jvm.Cond.code ({ cls := "java/lang/Long", name := "getChars", desc := "(JI[B)I" } : Jvm.MethodName) jdk_35_method_14_code (11 : Nat) (Option.some Jvm.ClassFile.FieldType.int), Jvm.Cond.code ({ cls := "java/lang/String", name := "<init>", desc := "([BB)V" } : Jvm.MethodName) jdk_42_method_151_code (3 : Nat) (Option.none : Option Jvm.ClassFile.FieldType), Jvm.Cond.code ({ cls := "java/lang/StringBuilder", name := "append", desc := "(C)Ljava/lang/StringBuilder;" } : Jvm.MethodName) jdk_67_method_14_code (2 : Nat) (Option.some (Jvm.ClassFile.FieldType.object "java/lang/StringBuilder")), Jvm.Cond.code ({ cls := "java/lang/AbstractStringBuilder", name := "append", desc := "(C)Ljava/lang/AbstractStringBuilder;" } : Jvm.MethodName) jdk_68_method_31_code (2 : Nat) (Option.some (Jvm.ClassFile.FieldType.object "java/lang/AbstractStringBuilder")), Jvm.Cond.code ({ cls := "java/lang/AbstractStringBuilder", name := "ensureCapacityInternal", desc := "(I)V" } : Jvm.MethodName) jdk_68_method_9_code (3 : Nat) (Option.none : Option Jvm.ClassFile.FieldType), Jvm.Cond.code ({ cls := "java/lang/AbstractStringBuilder", name := "isLatin1", desc := "()Z" } : Jvm.MethodName) jdk_68_method_68_code (1 : Nat) (Option.some Jvm.ClassFile.FieldType.boolean), Jvm.Cond.code ({ cls := "java/lang/StringLatin1", name := "canEncode", desc := "(C)Z" } : Jvm.MethodName) jdk_43_method_3_code (1 : Nat) (Option.some Jvm.ClassFile.FieldType.boolean), Jvm.Cond.code ({ cls := "java/lang/String", name := "length", desc := "()I" } : Jvm.MethodName) jdk_42_method_54_code (1 : Nat) (Option.some Jvm.ClassFile.FieldType.int), Jvm.Cond.code ({ cls := "java/lang/String", name := "coder", desc := "()B" } : Jvm.MethodName) jdk_42_method_152_code (1 : Nat) (Option.some Jvm.ClassFile.FieldType.byte), Jvm.Cond.code ({ cls := "java/lang/StringBuilder", name := "append", desc := "(Ljava/lang/String;)Ljava/lang/StringBuilder;" } : Jvm.MethodName) jdk_67_method_7_code (2 : Nat) (Option.some (Jvm.ClassFile.FieldType.object "java/lang/StringBuilder")), Jvm.Cond.code ({ cls := "java/lang/AbstractStringBuilder", name := "append", desc := "(Ljava/lang/String;)Ljava/lang/AbstractStringBuilder;" } : Jvm.MethodName) jdk_68_method_22_code (3 : Nat) (Option.some (Jvm.ClassFile.FieldType.object "java/lang/AbstractStringBuilder")), Jvm.Cond.code ({ cls := "java/lang/AbstractStringBuilder", name := "putStringAt", desc := "(ILjava/lang/String;)V" } : Jvm.MethodName) jdk_68_method_73_code (3 : Nat) (Option.none : Option Jvm.ClassFile.FieldType), Jvm.Cond.code ({ cls := "java/lang/AbstractStringBuilder", name := "inflateIfNeededFor", desc := "(Ljava/lang/String;)V" } : Jvm.MethodName) jdk_68_method_71_code (2 : Nat) (Option.none : Option Jvm.ClassFile.FieldType), Jvm.Cond.code ({ cls := "java/lang/String", name := "getBytes", desc := "([BIB)V" } : Jvm.MethodName) jdk_42_method_147_code (4 : Nat) (Option.none : Option Jvm.ClassFile.FieldType), Jvm.Cond.code ({ cls := "java/lang/StringBuilder", name := "toString", desc := "()Ljava/lang/String;" } : Jvm.MethodName) jdk_67_method_42_code (1 : Nat) (Option.some (Jvm.ClassFile.FieldType.object "java/lang/String")), Jvm.Cond.code ({ cls := "java/lang/String", name := "<init>", desc := "(Ljava/lang/StringBuilder;)V" } : Jvm.MethodName) jdk_42_method_53_code (2 : Nat) (Option.none : Option Jvm.ClassFile.FieldType), Jvm.Cond.code ({ cls := "java/lang/String", name := "<init>", desc := "(Ljava/lang/AbstractStringBuilder;Ljava/lang/Void;)V" } : Jvm.MethodName) jdk_42_method_150_code (5 : Nat) (Option.none : Option Jvm.ClassFile.FieldType), Jvm.Cond.code ({ cls := "java/lang/AbstractStringBuilder", name := "getValue", desc := "()[B" } : Jvm.MethodName) jdk_68_method_64_code (1 : Nat) (Option.some (Jvm.ClassFile.FieldType.array Jvm.ClassFile.FieldType.byte)), Jvm.Cond.code ({ cls := "java/lang/StringBuilder", name := "length", desc := "()I" } : Jvm.MethodName) jdk_67_method_93_code (1 : Nat) (Option.some Jvm.ClassFile.FieldType.int), Jvm.Cond.code ({ cls := "java/lang/AbstractStringBuilder", name := "length", desc := "()I" } : Jvm.MethodName) jdk_68_method_6_code (1 : Nat) (Option.some Jvm.ClassFile.FieldType.int), Jvm.Cond.code ({ cls := "java/util/Arrays", name := "copyOfRange", desc := "([BII)[B" } : Jvm.MethodName) jdk_65_method_132_code (3 : Nat) (Option.some (Jvm.ClassFile.FieldType.array Jvm.ClassFile.FieldType.byte)), Jvm.Cond.code ({ cls := "java/lang/String", name := "charAt", desc := "(I)C" } : Jvm.MethodName) jdk_42_method_56_code (2 : Nat) (Option.some Jvm.ClassFile.FieldType.char), Jvm.Cond.code ({ cls := "java/lang/String", name := "isLatin1", desc := "()Z" } : Jvm.MethodName) jdk_42_method_154_code (1 : Nat) (Option.some Jvm.ClassFile.FieldType.boolean), Jvm.Cond.code ({ cls := "java/lang/StringLatin1", name := "charAt", desc := "([BI)C" } : Jvm.MethodName) jdk_43_method_2_code (2 : Nat) (Option.some Jvm.ClassFile.FieldType.char), Jvm.Cond.code ({ cls := "java/lang/String", name := "checkIndex", desc := "(II)V" } : Jvm.MethodName) jdk_42_method_155_code (2 : Nat) (Option.none : Option Jvm.ClassFile.FieldType), Jvm.Cond.code ({ cls := "jdk/internal/util/Preconditions", name := "checkIndex", desc := "(IILjava/util/function/BiFunction;)I" } : Jvm.MethodName) jdk_41_method_11_code (3 : Nat) (Option.some Jvm.ClassFile.FieldType.int), Jvm.Cond.code ({ cls := "com/example/hiscore/hiscore/LoadPlayerPinLaw", name := "step", desc := "(Ljava/lang/String;IJ)J" } : Jvm.MethodName) method_3_code (5 : Nat) (Option.some Jvm.ClassFile.FieldType.long), Jvm.Cond.code ({ cls := "java/lang/AbstractStringBuilder", name := "newCapacity", desc := "(I)I" } : Jvm.MethodName) jdk_68_method_10_code (6 : Nat) (Option.some Jvm.ClassFile.FieldType.int), Jvm.Cond.code ({ cls := "jdk/internal/util/ArraysSupport", name := "newLength", desc := "(III)I" } : Jvm.MethodName) jdk_48_method_27_code (4 : Nat) (Option.some Jvm.ClassFile.FieldType.int), Jvm.Cond.code ({ cls := "java/lang/Math", name := "max", desc := "(II)I" } : Jvm.MethodName) jdk_29_method_65_code (2 : Nat) (Option.some Jvm.ClassFile.FieldType.int), Jvm.Cond.code ({ cls := "java/util/Arrays", name := "copyOf", desc := "([BI)[B" } : Jvm.MethodName) jdk_65_method_121_code (3 : Nat) (Option.some (Jvm.ClassFile.FieldType.array Jvm.ClassFile.FieldType.byte)), Jvm.Cond.code ({ cls := "java/lang/Math", name := "min", desc := "(II)I" } : Jvm.MethodName) jdk_29_method_69_code (2 : Nat) (Option.some Jvm.ClassFile.FieldType.int), Jvm.Cond.code ({ cls := "java/util/Arrays", name := "copyOfRangeByte", desc := "([BII)[B" } : Jvm.MethodName) jdk_65_method_133_code (5 : Nat) (Option.some (Jvm.ClassFile.FieldType.array Jvm.ClassFile.FieldType.byte)), Jvm.Cond.code ({ cls := "java/util/Arrays", name := "checkLength", desc := "(II)V" } : Jvm.MethodName) jdk_65_method_131_code (2 : Nat) (Option.none : Option Jvm.ClassFile.FieldType)]
set_option maxRecDepth 65536 in
theorem codes_eq : words1.filter isCode = codes1 := rfl
theorem w_codes : ∀ c ∈ words1.filter isCode, c.before args0 about1 = true := by
  rw [codes_eq]
  intro c hc
  simp only [codes1, List.mem_cons, List.not_mem_nil, or_false] at hc
  rcases hc with rfl | rfl | rfl | rfl | rfl | rfl | rfl | rfl | rfl | rfl | rfl | rfl | rfl | rfl | rfl | rfl | rfl | rfl | rfl | rfl | rfl | rfl | rfl | rfl | rfl | rfl | rfl | rfl | rfl | rfl | rfl | rfl | rfl | rfl | rfl | rfl | rfl | rfl | rfl | rfl | rfl | rfl | rfl | rfl | rfl
  · exact w_c0
  · exact w_c1
  · exact w_c2
  · exact w_c3
  · exact w_c4
  · exact w_c5
  · exact w_c6
  · exact w_c7
  · exact w_c8
  · exact w_c9
  · exact w_c10
  · exact w_c11
  · exact w_c12
  · exact w_c13
  · exact w_c14
  · exact w_c15
  · exact w_c16
  · exact w_c17
  · exact w_c18
  · exact w_c19
  · exact w_c20
  · exact w_c21
  · exact w_c22
  · exact w_c23
  · exact w_c24
  · exact w_c25
  · exact w_c26
  · exact w_c27
  · exact w_c28
  · exact w_c29
  · exact w_c30
  · exact w_c31
  · exact w_c32
  · exact w_c33
  · exact w_c34
  · exact w_c35
  · exact w_c36
  · exact w_c37
  · exact w_c38
  · exact w_c39
  · exact w_c40
  · exact w_c41
  · exact w_c42
  · exact w_c43
  · exact w_c44
set_option maxRecDepth 65536 in
theorem w_t1 : (words1.take 24).all (fun c => isCode c || c.before args0 about1) = true := by decide +kernel
set_option maxRecDepth 65536 in
theorem w_t2 : ((words1.drop 24).take 24).all (fun c => isCode c || c.before args0 about1) = true := by decide +kernel
set_option maxRecDepth 65536 in
theorem w_t3 : (((words1.drop 24).drop 24).take 24).all (fun c => isCode c || c.before args0 about1) = true := by decide +kernel
set_option maxRecDepth 65536 in
theorem w_t4 : ((((words1.drop 24).drop 24).drop 24).take 24).all (fun c => isCode c || c.before args0 about1) = true := by decide +kernel
set_option maxRecDepth 65536 in
theorem w_t5 : (((((words1.drop 24).drop 24).drop 24).drop 24).take 24).all (fun c => isCode c || c.before args0 about1) = true := by decide +kernel
set_option maxRecDepth 65536 in
theorem w_t6 : ((((((words1.drop 24).drop 24).drop 24).drop 24).drop 24).take 24).all (fun c => isCode c || c.before args0 about1) = true := by decide +kernel
set_option maxRecDepth 65536 in
theorem w_t7 : (((((((words1.drop 24).drop 24).drop 24).drop 24).drop 24).drop 24).take 24).all (fun c => isCode c || c.before args0 about1) = true := by decide +kernel
set_option maxRecDepth 65536 in
theorem w_t8 : ((((((((words1.drop 24).drop 24).drop 24).drop 24).drop 24).drop 24).drop 24).take 24).all (fun c => isCode c || c.before args0 about1) = true := by decide +kernel
set_option maxRecDepth 65536 in
theorem w_t9 : (((((((((words1.drop 24).drop 24).drop 24).drop 24).drop 24).drop 24).drop 24).drop 24).take 24).all (fun c => isCode c || c.before args0 about1) = true := by decide +kernel
set_option maxRecDepth 65536 in
theorem w_t10 : ((((((((((words1.drop 24).drop 24).drop 24).drop 24).drop 24).drop 24).drop 24).drop 24).drop 24).take 24).all (fun c => isCode c || c.before args0 about1) = true := by decide +kernel
set_option maxRecDepth 65536 in
theorem w_t11 : ((((((((((words1.drop 24).drop 24).drop 24).drop 24).drop 24).drop 24).drop 24).drop 24).drop 24).drop 24).all (fun c => isCode c || c.before args0 about1) = true := by decide +kernel
theorem w_tables : (allAtoms (Jvm.Cond.code x code maxLocals ret :: tables_1)).before args0 about1 = true := by
  rw [allAtoms_all]
  show words1.all (fun c => c.before args0 about1) = true
  refine all_split ?_ w_codes
  rw [← List.take_append_drop 24 words1, List.all_append, w_t1, ← List.take_append_drop 24 (words1.drop 24), List.all_append, w_t2, ← List.take_append_drop 24 ((words1.drop 24).drop 24), List.all_append, w_t3, ← List.take_append_drop 24 (((words1.drop 24).drop 24).drop 24), List.all_append, w_t4, ← List.take_append_drop 24 ((((words1.drop 24).drop 24).drop 24).drop 24), List.all_append, w_t5, ← List.take_append_drop 24 (((((words1.drop 24).drop 24).drop 24).drop 24).drop 24), List.all_append, w_t6, ← List.take_append_drop 24 ((((((words1.drop 24).drop 24).drop 24).drop 24).drop 24).drop 24), List.all_append, w_t7, ← List.take_append_drop 24 (((((((words1.drop 24).drop 24).drop 24).drop 24).drop 24).drop 24).drop 24), List.all_append, w_t8, ← List.take_append_drop 24 ((((((((words1.drop 24).drop 24).drop 24).drop 24).drop 24).drop 24).drop 24).drop 24), List.all_append, w_t9, ← List.take_append_drop 24 (((((((((words1.drop 24).drop 24).drop 24).drop 24).drop 24).drop 24).drop 24).drop 24).drop 24), List.all_append, w_t10, w_t11]
  rfl
set_option maxRecDepth 65536 in
theorem w_rest : rest_1_c.before args0 about1 = true := by decide +kernel
set_option maxRecDepth 65536 in
theorem w_case : (Jvm.Cond.and given_1 narrow_1).before args0 about1 = true := by decide +kernel
theorem w_applies : (headSpec (Jvm.Cond.code x code maxLocals ret :: tables_1) room_1).applies x e0.platform about1 = true :=
  (Spec.applies_iff w_frames).mpr ⟨w_running, w_runnable, w_alone, w_named, w_hears, w_ripe, w_room, w_tables⟩
theorem atStart : AtStart classFile x code maxLocals ret World_1 tables_1 room_1 Calls_1 rest_1 Pre_1 launch0 p0 e0 about1 theMethod args0 below0 :=
  ⟨lists_1, trivial, launch0.admits_env _ _ _, launch0.least_env, fairChoices_fair.cas, fairChoices_fair.clock, w_frames, w_args, w_heap, w_applies, trivial, w_rest, w_case⟩
end start1
theorem witness_1 : WitnessClaimed_1 := ⟨start1.p0, start1.e0, start1.about1, start1.theMethod, start1.args0, start1.below0, start1.atStart⟩
end Jvm.Pilot.@@N@@
