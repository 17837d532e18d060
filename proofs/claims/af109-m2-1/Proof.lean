import JvmDerived
import JvmDerived.Pilot.@@N@@Statement
import JvmDerived.Pilot.@@N@@Code
set_option linter.unusedVariables false
set_option linter.unusedSimpArgs false
namespace Jvm.Pilot.@@N@@
open Jvm Jvm.ClassFile Sem Op Lib Jvm.Free Jvm.Stand Jvm.LawKit Jvm.RoadKit Bundle Jvm.Pilot.@@N@@.Jvm.D
section Own
variable {p : Program} {l : Launch} {e : Env} {R : Room} {s : State} {m : MethodId} {args : Array Value} {below : List Frame} {meth : Method} {c : Code} {T : State} {locs : List Loc} {cells slots : Nat}
def Ends (p : Program) (e : Env) (below : List Frame) (Q : Outcome → State → Prop) (S : State) : Prop := ∃ s₂ o, Steps p.tables e below S s₂ ∧ s₂.status = .running ∧ Ended s₂ below o ∧ Q o s₂
theorem Ends.opn {Q : Outcome → State → Prop} {S : State} (h : ∀ QQ : Outcome → State → Prop, (∀ o t, Q o t → QQ o t) → Ends p e below QQ S) : ∃ s₂ o, Steps p.tables e below S s₂ ∧ s₂.status = .running ∧ Ended s₂ below o ∧ Q o s₂ := h Q fun _ _ q => q
theorem Ends.step {Q : Outcome → State → Prop} {S S' : State} (k : ∀ t, Steps p.tables e below S' t → Steps p.tables e below S t) (h : Ends p e below Q S') : Ends p e below Q S := by
  obtain ⟨a, o, h1, h2⟩ := h
  exact ⟨a, o, k _ h1, h2⟩
theorem Ends.fin {QQ : Outcome → State → Prop} {Q : Option Value → Heap → List Loc → Prop} {cl sl : Nat} {g : JFrame} {h : Heap} (v : Option Value) (X : Stand p l e R s m args below meth c T locs cells slots)
    (hQQ : ∀ o t, (∃ v L, o = .returned v ∧ Q v t.heap L ∧ FrameEnd s o t L cl sl) → QQ o t) (hv : meth.sig.returnType = none → v = none) (hlocks : meth.locks = false)
    (hstep : ∀ fs, (∀ (f : JFrame) (acts : List Action), f.method = m → f.locked = none → f.entered = [] → (doReturn e (T.setTop f) acts v).1 = T.setFrames fs) → Steps p.tables e below (T.setTop g) (T.setFrames fs))
    (eT : T.heap = h) (hc : cells ≤ cl) (hs : slots ≤ sl) (q : Q v h locs) : Ends p e below QQ (T.setTop g) := by
  obtain ⟨fs, hr, hrun, hended, hW, hsame⟩ := X.leave hv hlocks
  subst eT
  exact ⟨_, _, hstep fs hr, hrun, hended, hQQ _ _ ⟨v, locs, rfl, q, ⟨_, rfl⟩, hW, hsame.mono hc hs⟩⟩
theorem Ends.finW {QQ : Outcome → State → Prop} {Q : Option Value → Heap → List Loc → Prop} {cl sl : Nat} {g : JFrame} {h : Heap} {vm0 : Vm} {n : Nat} (v : Option Value) (X : Stand p l e R (s.setVm vm0) m args below meth c T locs cells slots) (hS : s.Since vm0 n) (hn : n ≤ h.size)
    (hQQ : ∀ o t, (∃ v L, o = .returned v ∧ Q v t.heap L ∧ ReturnedEndW s o t L cl sl) → QQ o t) (hv : meth.sig.returnType = none → v = none) (hlocks : meth.locks = false)
    (hstep : ∀ fs, (∀ (f : JFrame) (acts : List Action), f.method = m → f.locked = none → f.entered = [] → (doReturn e (T.setTop f) acts v).1 = T.setFrames fs) → Steps p.tables e below (T.setTop g) (T.setFrames fs))
    (eT : T.heap = h) (hc : cells ≤ cl) (hs : slots ≤ sl) (q : Q v h locs) : Ends p e below QQ (T.setTop g) := by
  subst eT
  obtain ⟨fs, hr, hrun, hended, hW⟩ := X.leaveW hS hn hv hlocks
  exact ⟨_, _, hstep fs hr, hrun, hended, hQQ _ _ ⟨v, locs, rfl, q, hW.1, hW.2.1, hW.2.2.1, hW.2.2.2.mono hc hs⟩⟩
theorem Ends.finI {QQ : Outcome → State → Prop} {Q : Option Value → Heap → List Loc → Prop} {cl sl : Nat} {g : JFrame} {h : Heap} {vm0 : Vm} {n : Nat} {Z : State} {Ts : List String} (v : Option Value) (X : Stand p l e R (s.setVm vm0) m args below meth c T locs cells slots) (hS : s.Since vm0 n) (hn : n ≤ h.size)
    (hQQ : ∀ o t, (∃ v L, o = .returned v ∧ Q v t.heap L ∧ ReturnedEndW s o t L cl sl ∧ IB Z t.vm Ts) → QQ o t) (hv : meth.sig.returnType = none → v = none) (hlocks : meth.locks = false)
    (hstep : ∀ fs, (∀ (f : JFrame) (acts : List Action), f.method = m → f.locked = none → f.entered = [] → (doReturn e (T.setTop f) acts v).1 = T.setFrames fs) → Steps p.tables e below (T.setTop g) (T.setFrames fs))
    (eT : T.heap = h) (hc : cells ≤ cl) (hs : slots ≤ sl) (q : Q v h locs) (I : IB Z T.vm Ts) : Ends p e below QQ (T.setTop g) := by
  subst eT
  obtain ⟨fs, hr, hrun, hended, hW⟩ := X.leaveW hS hn hv hlocks
  exact ⟨_, _, hstep fs hr, hrun, hended, hQQ _ _ ⟨v, locs, rfl, q, ⟨hW.1, hW.2.1, hW.2.2.1, hW.2.2.2.mono hc hs⟩, I⟩⟩
theorem own_cp0 (X : Stand p l e R s m args below meth c T locs cells slots) (hx : p.tables.exec = Jvm.exec) {Z : State} (hZ : Z.Warmed39 s.vm) {a0 : Array Value} {own : String} {index : Nat} (hown : s.vm.findClass own = some m.cls)
    (w1 : (Jvm.Cond.methodLink own index Jvm.Stand.acN).before a0 Z = true) (w2 : (Jvm.Cond.native Jvm.Stand.acN).before a0 Z = true) (w3 : (Jvm.Cond.static Jvm.Stand.acN).before a0 Z = true) (w4 : (Jvm.Cond.initialized "java/lang/System").before a0 Z = true) {h : Heap} (eT : T.heap = h)
    {a b : Addr} {k k' : ClassId} {ty : FieldType} {z z' sp dp : Int32} {vs vd : List Value} {dv dd : Value} (A : Arv Z h a k ty z vs dv) (B : Arv Z h b k' ty z' vd dd) (h1 : sp = 0) (h2 : dp = 0)
    {g : JFrame} (hg : g.method = m) (hsize : g.locals.size = c.maxLocals) {rest : List Value} (hs : g.stack = .int 0 :: .int dp :: .ref b :: .int sp :: .ref a :: rest) (hd : decode c.code g.pc = .ok (.invokestatic index, 3))
    (hf : 1 ≤ R.frames) {W : Nat} (hW : 2 * g.monitorRoom + (rest.map fun v => v.category).sum ≤ W) (hlo : W + (nativeFrameWords "java/lang/System" "arraycopy" 5 + 11) ≤ R.locals) :
    ∃ T', Stand p l e R s m args below meth c T' locs cells slots ∧ T'.heap = h ∧ ∀ target, Steps p.tables e below (T'.setTop { g with pc := g.pc + 3, stack := rest }) target → Steps p.tables e below (T.setTop g) target := by
  subst h1 h2 eT
  obtain ⟨cs, As, -, Ss, -, Hs, Gs⟩ := A
  obtain ⟨cd, Ad, qd, Sd, Nd, Hd, Gd⟩ := B
  obtain ⟨os, ks, hks, sc, hsk⟩ := State.isArrayOf_alike hZ.alike As.2.1
  obtain ⟨od, kd, hkd, dc, hdk⟩ := State.isArrayOf_alike hZ.alike Ad.2.1
  obtain ⟨vm₁, hW₁, X', st⟩ := X.arraycopyK hx hown (mvT hZ w1) (mvT hZ w2) (mvT hZ w3) (mvT hZ w4) As.1 Ad.1 os od As.2.2 Ad.2.2 hks hkd hsk hdk (by cases refKind ty <;> simp) (by decide) (by decide) (by decide)
    (by show ¬ ((0 : Int) + 0 > _); omega) (by show ¬ ((0 : Int) + 0 > _); omega) (fun vm₁ hw i hi => absurd hi (by show ¬ i < 0; omega)) hg hsize hs hd hf (Nat.le_trans (Nat.add_le_add_right hW _) hlo)
  have hL : locs ++ copyLocs b (0 : Int32).toNatClampNeg (0 : Int32).toNatClampNeg = locs := by simp [copyLocs]
  rw [hL] at X'
  refine ⟨_, X', ?_, st⟩
  have hc : copied cs cd (0 : Int32) (0 : Int32) (0 : Int32) = cd := rfl
  show T.heap.setIfInBounds b (copied cs cd (0 : Int32) (0 : Int32) (0 : Int32)) = T.heap
  rw [hc]
  apply Array.ext_getElem?
  intro i
  by_cases q : b = i
  · subst q
    rw [Array.getElem?_setIfInBounds_self_of_lt (Array.getElem?_eq_some_iff.mp Ad.1).1, Ad.1]
  · rw [Array.getElem?_setIfInBounds_ne q]
theorem own_arv_cell {Z : State} {h : Heap} {a : Addr} {k : ClassId} {ty : FieldType} {z : Int32} {vs : List Value} {dv : Value} (F : Arv Z h a k ty z vs dv) : ∃ c : Cell, h[a]? = some c ∧ ∀ q, c.vm ≠ .statics q := by
  obtain ⟨c, A, -⟩ := F
  exact ⟨c, A.1, fun q e => by have := A.plain; rw [e] at this; cases this⟩
theorem own_same {Z : State} {a0 : Array Value} {y x : MethodName} {K : String} (w3 : (Jvm.Cond.instanceMethod y).before a0 Z = true) (hy : y.cls ≠ "java/lang/invoke/MethodHandle" ∧ y.cls ≠ "java/lang/invoke/VarHandle") (hsel : (Jvm.Cond.selects K x x).before a0 Z = true) (hc : x.cls = y.cls) : (Jvm.Cond.sameMethod y.cls y.cls y.name y.desc).before a0 Z = true := by
  obtain ⟨mk, methM, hn, hm, -, -⟩ := Cond.instanceMethod_spec w3
  have hf := State.methodFound?_of_named hn hy
  have h1 := findClass_of_methodNamed hn
  obtain ⟨c2, r2, m2, q1, q2, q3, q4, kP, hkP, hkPi⟩ := Cond.selects_spec hsel
  have h2 := findClass_of_methodNamed q3
  rw [hc] at h2
  have e := Option.some.inj (h1.symm.trans h2)
  rw [← e] at hkP
  simp [Cond.before, Cond.holds, Cond.value, h1, hf, hn, hkP, hkPi]
theorem own_decl {Z : State} {a0 : Array Value} {y : MethodName} {bytes : ByteArray} {maxL : Nat} {ret : Option FieldType} (w3 : (Jvm.Cond.instanceMethod y).before a0 Z = true) (wc : (Jvm.Cond.code y bytes maxL ret).before a0 Z = true) : (Jvm.Cond.declares y).before a0 Z = true := by
  obtain ⟨mk, methM, hn, hm, hs, -⟩ := Cond.instanceMethod_spec w3
  obtain ⟨m2, cM, q1, -, -, -, -, -, -, hsig⟩ := Cond.code_spec hn wc
  cases hm.symm.trans q1
  simp [Cond.before, Cond.holds, Cond.value, hn, hm, hs, hsig]
theorem own_selp {Z : State} {a0 : Array Value} {y : MethodName} {n : Nat} (w1 : (Jvm.Cond.instantiable y.cls n).before a0 Z = true) (w2 : (Jvm.Cond.privateMethod y).before a0 Z = true) (w3 : (Jvm.Cond.instanceMethod y).before a0 Z = true) (hy : y.cls ≠ "java/lang/invoke/MethodHandle" ∧ y.cls ≠ "java/lang/invoke/VarHandle") : (Jvm.Cond.selects y.cls y y).before a0 Z = true := by
  obtain ⟨c1, k1, hc1, hk1, -, hb1, -, -⟩ := Cond.instantiable_spec w1
  exact selects_self_of_private hc1 hk1 (by simp at hb1; exact hb1.1) (Cond.privateMethod_at w2) w3 hy
theorem own_selq {Z : State} {a0 : Array Value} {y x : MethodName} {K : String} (hsel : (Jvm.Cond.selects K x x).before a0 Z = true) (hc : x.cls = y.cls) (w2 : (Jvm.Cond.privateMethod y).before a0 Z = true) (w3 : (Jvm.Cond.instanceMethod y).before a0 Z = true) (hy : y.cls ≠ "java/lang/invoke/MethodHandle" ∧ y.cls ≠ "java/lang/invoke/VarHandle") : (Jvm.Cond.selects y.cls y y).before a0 Z = true := by
  obtain ⟨c2, r2, m2, q1, q2, q3, q4, kP, hkP, hkPi⟩ := Cond.selects_spec hsel
  have h2 := findClass_of_methodNamed q3
  rw [hc] at h2
  exact selects_self_of_private h2 hkP hkPi (Cond.privateMethod_at w2) w3 hy
theorem own_notface {args : Array Value} {s : State} {C : String} {x y : MethodName} (hsel : (Cond.selects C x x).before args s = true) (hc : x.cls = y.cls) : NotFace s y := fun r0 h0 => by
  obtain ⟨c2, r2, m2, q1, q2, q3, q4, kP, hkP, hkPi⟩ := Cond.selects_spec hsel
  have h1 := findClass_of_methodNamed h0
  have h2 := findClass_of_methodNamed q3
  rw [hc] at h2
  have e := Option.some.inj (h1.symm.trans h2)
  exact ⟨kP, by rw [e]; exact hkP, hkPi⟩
theorem own_ibAt {Z : State} {vm0 vm1 : Vm} {Ts : List String} (I : IB Z vm0 Ts) (q : vm1.interned = vm0.interned) : IB Z vm1 Ts := by
  obtain ⟨more, e1, hm⟩ := I
  exact ⟨more, q.trans e1, hm⟩
theorem own_backI {Z : State} {a0 : Array Value} {h : Heap} {y : MethodName} {bytes : ByteArray} {maxL : Nat} {ret : Option FieldType} {rm : Room} {len W : Nat} {as' : Array Value} {Q : Option Value → Heap → List Loc → Prop}
    (hM : MetFree l y (head1 [Cond.code y bytes maxL ret] rm) (fun a U => a = as' ∧ Z.Warmed39 U.vm ∧ U.heap = h ∧ IB Z U.vm []) (fun _ _ _ _ _ => True) (fun _ U o U' => ∃ v L, o = .returned v ∧ Q v U'.heap L ∧ ReturnedEndW U o U' L rm.cells rm.slots))
    (hZ : Z.Warmed39 s.vm) (wc : (Cond.code y bytes maxL ret).before a0 Z = true) (wz : (Cond.initialized y.cls).before a0 Z = true) (hf : rm.frames + 1 ≤ R.frames) (hl : W + (maxL + 11) + rm.locals ≤ R.locals) (hI : IB Z s.vm []) :
    BackS l R p e below s args y len W (fun A a => a = as' ∧ A.U.heap = h ∧ A.cells + rm.cells ≤ R.cells ∧ A.slots + rm.slots ≤ R.slots)
      (fun A _ v B => ∃ L, Q v B.U.heap L ∧ B.locs = A.locs ++ L ∧ B.cells = A.cells + rm.cells ∧ B.slots = A.slots + rm.slots) :=
  BackS.of_freeW (bytes := bytes) (maxL := maxL) (ret := ret) (E := fun _ _ o t L k n => k = rm.cells ∧ n = rm.slots ∧ ∃ v, o = .returned v ∧ Q v t.heap L) hM hf hl
    (fun m meth c A a Y hp => ⟨by show (Cond.and _ .tt).before a A.U = true; rw [Cond.before_and, mv (wtrans hZ Y.warmed) wc]; rfl, mv (wtrans hZ Y.warmed) wc, mv (wtrans hZ Y.warmed) wz, hp.2.2.1, hp.2.2.2⟩)
    (fun m meth c A a g mk Y hp => ⟨hp.1, wtrans hZ Y.warmed, hp.2.1, own_ibAt hI Y.warmed.interned_eq⟩) (fun _ _ _ _ _ _ _ _ _ => trivial)
    (fun _ _ _ _ z => by obtain ⟨v, L, h1, h2, h3⟩ := z; exact ⟨L, _, _, h3, rfl, rfl, v, h1, h2⟩)
    (fun m meth c A a g mk v t L k n Y hp _ _ z => by obtain ⟨e1, e2, v', e3, e4⟩ := z; cases e3; subst e1 e2; exact ⟨L, e4, rfl, rfl, rfl⟩)
theorem own_backJ {Z : State} {a0 : Array Value} {h : Heap} {y : MethodName} {bytes : ByteArray} {maxL : Nat} {ret : Option FieldType} {rm : Room} {len W : Nat} {as' : Array Value} {Q : Option Value → Heap → List Loc → Prop} {Ts : List String}
    (hM : MetFree l y (head1 [Cond.code y bytes maxL ret] rm) (fun a U => a = as' ∧ Z.Warmed39 U.vm ∧ U.heap = h ∧ IB Z U.vm []) (fun _ _ _ _ _ => True) (fun _ U o U' => ∃ v L, o = .returned v ∧ Q v U'.heap L ∧ ReturnedEndW U o U' L rm.cells rm.slots ∧ IB Z U'.vm Ts))
    (hZ : Z.Warmed39 s.vm) (wc : (Cond.code y bytes maxL ret).before a0 Z = true) (wz : (Cond.initialized y.cls).before a0 Z = true) (hf : rm.frames + 1 ≤ R.frames) (hl : W + (maxL + 11) + rm.locals ≤ R.locals) (hI : IB Z s.vm []) :
    BackS l R p e below s args y len W (fun A a => a = as' ∧ A.U.heap = h ∧ A.cells + rm.cells ≤ R.cells ∧ A.slots + rm.slots ≤ R.slots)
      (fun A _ v B => ∃ L, Q v B.U.heap L ∧ B.locs = A.locs ++ L ∧ B.cells = A.cells + rm.cells ∧ B.slots = A.slots + rm.slots ∧ IB Z B.U.vm Ts) :=
  BackS.of_freeW (bytes := bytes) (maxL := maxL) (ret := ret) (E := fun _ _ o t L k n => k = rm.cells ∧ n = rm.slots ∧ ∃ v, o = .returned v ∧ Q v t.heap L ∧ IB Z t.vm Ts) hM hf hl
    (fun m meth c A a Y hp => ⟨by show (Cond.and _ .tt).before a A.U = true; rw [Cond.before_and, mv (wtrans hZ Y.warmed) wc]; rfl, mv (wtrans hZ Y.warmed) wc, mv (wtrans hZ Y.warmed) wz, hp.2.2.1, hp.2.2.2⟩)
    (fun m meth c A a g mk Y hp => ⟨hp.1, wtrans hZ Y.warmed, hp.2.1, own_ibAt hI Y.warmed.interned_eq⟩) (fun _ _ _ _ _ _ _ _ _ => trivial)
    (fun _ _ _ _ z => by obtain ⟨v, L, h1, h2, h3, h4⟩ := z; exact ⟨L, _, _, h3, rfl, rfl, v, h1, h2, h4⟩)
    (fun m meth c A a g mk v t L k n Y hp _ _ z => by obtain ⟨e1, e2, v', e3, e4, e5⟩ := z; cases e3; subst e1 e2; exact ⟨L, e4, rfl, rfl, rfl, e5⟩)
theorem own_frm {k k' : Nat} {L : List Loc} (h : k' ≤ k) (N : Fr k L) : Fr k' L := fun y q => Nat.le_trans h (N y q)
theorem own_kpw {Z : State} {h h' : Heap} {a : Addr} {sl n0 : Nat} {v : Value} (W : Wr h h' a sl v) (N : ∀ (b : Addr) (cl : Cell), Z.heap[b]? = some cl → h[b]? = some cl) (g : n0 ≤ a) (e : n0 = Z.heap.size) : ∀ (b : Addr) (cl : Cell), Z.heap[b]? = some cl → h'[b]? = some cl := fun b cl q => by
  have hb : b < Z.heap.size := (Array.getElem?_eq_some_iff.mp q).1
  obtain ⟨c', q1, -, -, -, q5, -, -⟩ := wr_at W (N b cl q)
  rw [e] at g
  rw [q1, q5 (Nat.ne_of_lt (Nat.lt_of_lt_of_le hb g))]
theorem own_kpk {Z : State} {h h' : Heap} {ws : List Addr} {n0 : Nat} (K : Keep h h' ws) (N : ∀ (b : Addr) (cl : Cell), Z.heap[b]? = some cl → h[b]? = some cl) (g : ∀ x ∈ ws, n0 ≤ x) (e : n0 = Z.heap.size) : ∀ (b : Addr) (cl : Cell), Z.heap[b]? = some cl → h'[b]? = some cl := fun b cl q => by
  have hb : b < Z.heap.size := (Array.getElem?_eq_some_iff.mp q).1
  exact K.2.1 _ _ (N b cl q) fun hm => Nat.lt_irrefl _ (Nat.lt_of_lt_of_le hb (e ▸ g _ hm))
theorem own_neA {Z : State} {h : Heap} {a b : Addr} {k k' : ClassId} {ty ty' : FieldType} {n n' : Int32} {vs vs' : List Value} {d d' : Value} (A : Arv Z h a k ty n vs d) (B : Arv Z h b k' ty' n' vs' d') (hne : n.toNatClampNeg ≠ n'.toNatClampNeg) : a ≠ b := by
  rintro rfl
  obtain ⟨c1, A1, -, s1, -⟩ := A
  obtain ⟨c2, B1, -, s2, -⟩ := B
  cases A1.1.symm.trans B1.1
  exact hne (s1.symm.trans s2)
theorem own_neEA {Z : State} {a0 : Array Value} {h : Heap} {a b : Addr} {C : String} {q : Nat} {k : ClassId} {ty : FieldType} {n : Int32} {vs : List Value} {d : Value} (E : Exa Z h a C) (wi : (Cond.instantiable C q).before a0 Z = true) (B : Arv Z h b k ty n vs d) (hne : q ≠ n.toNatClampNeg) : a ≠ b := by
  rintro rfl
  obtain ⟨cell, kc, h1, h2, h3, h4, h5⟩ := E
  obtain ⟨c2, B1, -, s2, -⟩ := B
  cases h1.symm.trans B1.1
  obtain ⟨c4, k2, i1, i2, i3, -, -, i4⟩ := Cond.instantiable_spec wi
  cases h2.symm.trans i1
  cases h3.symm.trans i2
  exact hne (i4.symm.trans ((h5 i3).symm.trans s2))
theorem own_neE {Z : State} {h : Heap} {a b : Addr} {C C' : String} (E : Exa Z h a C) (E' : Exa Z h b C') (hne : C ≠ C') : a ≠ b := by
  rintro rfl
  obtain ⟨cell, kc, h1, h2, h3, h4, h5⟩ := E
  obtain ⟨cell', kc', g1, g2, g3, g4, g5⟩ := E'
  cases h1.symm.trans g1
  obtain ⟨k1, u1, u2⟩ := Vm.findClass_spec h2
  obtain ⟨k2, v1, v2⟩ := Vm.findClass_spec g2
  cases u1.symm.trans v1
  exact hne (u2.symm.trans v2)
theorem own_narBy {x : Int32} (h : nar .byte x = x) : narrow .byte (.int x) = .int x := congrArg Value.int h
theorem own_iteN {c : Prop} [Decidable c] {a b : Int32} {t : FieldType} (ha : nar t a = a) (hb : nar t b = b) : nar t (if c then a else b) = if c then a else b := by
  split <;> assumption
theorem own_01 {c : Prop} [Decidable c] {a b : Int32} (ha : a = 0 ∨ a = 1) (hb : b = 0 ∨ b = 1) : (if c then a else b) = 0 ∨ (if c then a else b) = 1 := by
  split <;> assumption
theorem own_narB {x : Int32} (h : x = 0 ∨ x = 1) : narrow .boolean (.int x) = .int x := by rcases h with rfl | rfl <;> rfl
theorem own_narref {v : Value} {t : FieldType} (h : v.isRef = true) (ht : t.isReference = true) : narrow t v = v := by
  cases t <;> first | (cases ht; done) | (cases v <;> first | rfl | cases h)
theorem own_fitref {v : Value} {t : FieldType} (h : v.isRef = true) (ht : t.isReference = true) : fits t v = true := by
  cases t <;> first | (cases ht; done) | (cases v <;> first | rfl | cases h)
theorem own_nar255 (b : Int32) : narrow .char (.int (b &&& (255 : Int32))) = .int (b &&& (255 : Int32)) := by
  have h := XT.narrow_c (b &&& 255)
  rw [i2c_mask] at h
  exact h
theorem own_narc (x : Int32) : nar .char x.toUInt32.toUInt16.toUInt32.toInt32 = x.toUInt32.toUInt16.toUInt32.toInt32 := by
  apply Int32.toInt_inj.mp
  show x.toUInt32.toUInt16.toUInt32.toInt32.toUInt32.toUInt16.toUInt32.toInt32.toInt = _
  have h1 := c_i2c x
  have h2 := c_i2c x.toUInt32.toUInt16.toUInt32.toInt32
  omega
theorem own_fitc {v : Int32} (h : nar .char v = v) : fits .char (.int v) = true := by
  have q := fits_nar_char v
  rw [h] at q
  exact q
theorem own_narb (x : Int32) : nar .byte x.toInt8.toInt32 = x.toInt8.toInt32 := by simp [nar]
theorem own_ins_keep {Z : State} {h h' : Heap} {a : Addr} {C : String} {b : Bool} {ws : List Addr} (F : Ins Z h a C b) (K : Keep h h' ws) : Ins Z h' a C b := by
  obtain ⟨cell, cT, h1, h2, h3⟩ := F
  obtain ⟨c', q1, q2, q3, -⟩ := K.2.2 _ _ h1
  exact ⟨c', cT, q1, h2, by rw [q2, q3]; exact h3⟩
theorem own_sta_keep {Z : State} {h h' : Heap} {C n d : String} {v : Value} {ws : List Addr} (F : Sta Z h C n d v) (K : Keep h h' ws) (q : ∀ x ∈ ws, ∃ c : Cell, h[x]? = some c ∧ ∀ q, c.vm ≠ .statics q) : Sta Z h' C n d v := by
  obtain ⟨cf, i, k, f, st, cell, h1, h2, h3, h4, h5, h6, h7⟩ := F
  refine ⟨cf, i, k, f, st, cell, h1, h2, h3, h4, K.2.1 _ _ h5 fun hm => ?_, h6, h7⟩
  obtain ⟨c, q1, q2⟩ := q _ hm
  cases h5.symm.trans q1
  cases hq : cell.vm <;> first | exact q2 _ hq | (rw [hq] at h6; cases h6)
theorem lremM {g : JFrame} {target : State} (X : Stand p l e R s m args below meth c T locs cells slots) (hx : p.tables.exec = Jvm.exec) (hg : g.method = m) {x y : Int64} {rest : List Value} (hd : decode c.code g.pc = .ok (.lrem, 1)) (hs : g.stack = .long y :: .long x :: rest) (hy : y ≠ 0)
    (hr : Steps p.tables e below (T.setTop { g with pc := g.pc + 1, stack := .long (x % y) :: rest }) target) : Steps p.tables e below (T.setTop g) target := by
  have q : x - x / y * y = x % y := lrem_mod x y
  exact XT.lrem X.here hx hg hd hs hy (by rw [q]; exact hr)
end Own
section Ops
variable {p : Program} {l : Launch} {e : Env} {R : Room} {s : State} {m : MethodId} {args : Array Value} {below : List Frame} {meth : Method} {c : Code} {T T' : State} {locs : List Loc} {cells slots : Nat} {Q : Outcome → State → Prop} {code : ByteArray} {pc : Nat} {L : Array Slot} {st S : List Value}
abbrev jv (x : Int64) : Slot := .val (.long x)
abbrev uu : Slot := .unset
abbrev ss : Slot := .second
theorem oA (X : Stand p l e R s m args below meth c T locs cells slots) (hy : p.tables.exec = Jvm.exec ∧ c.code = code) {k : Fin 4} {a : Addr} (d : decode code pc = .ok (.aload_n k, 1)) (pc' : Nat) (hl : L[k.val]? = some (.val (.ref a))) (h : Ends p e below Q (T.setTop (mkF m pc' L (.ref a :: st)))) (hp : pc + 1 = pc' := by exact rfl) : Ends p e below Q (T.setTop (mkF m pc L (st))) := by
  subst hp
  exact Ends.step (fun _ kk => XS.aloadN X.here hy.1 rfl (hb hy.2 d) hl rfl kk) h
theorem oB (X : Stand p l e R s m args below meth c T locs cells slots) (hy : p.tables.exec = Jvm.exec ∧ c.code = code) {k : Nat} {a : Addr} (d : decode code pc = .ok (.aload k, 2)) (pc' : Nat) (hl : L[k]? = some (.val (.ref a))) (h : Ends p e below Q (T.setTop (mkF m pc' L (.ref a :: st)))) (hp : pc + 2 = pc' := by exact rfl) : Ends p e below Q (T.setTop (mkF m pc L (st))) := by
  subst hp
  exact Ends.step (fun _ kk => XS.aload X.here hy.1 rfl (hb hy.2 d) hl rfl kk) h
theorem oC (X : Stand p l e R s m args below meth c T locs cells slots) (hy : p.tables.exec = Jvm.exec ∧ c.code = code) {k : Fin 4} {v : Int32} (d : decode code pc = .ok (.iload_n k, 1)) (pc' : Nat) (hl : L[k.val]? = some (.val (.int v))) (h : Ends p e below Q (T.setTop (mkF m pc' L (.int v :: st)))) (hp : pc + 1 = pc' := by exact rfl) : Ends p e below Q (T.setTop (mkF m pc L (st))) := by
  subst hp
  exact Ends.step (fun _ kk => XS.iloadN X.here hy.1 rfl (hb hy.2 d) hl kk) h
theorem oD (X : Stand p l e R s m args below meth c T locs cells slots) (hy : p.tables.exec = Jvm.exec ∧ c.code = code) {k : Nat} {v : Int32} (d : decode code pc = .ok (.iload k, 2)) (pc' : Nat) (hl : L[k]? = some (.val (.int v))) (h : Ends p e below Q (T.setTop (mkF m pc' L (.int v :: st)))) (hp : pc + 2 = pc' := by exact rfl) : Ends p e below Q (T.setTop (mkF m pc L (st))) := by
  subst hp
  exact Ends.step (fun _ kk => XS.iload X.here hy.1 rfl (hb hy.2 d) hl kk) h
theorem oE (X : Stand p l e R s m args below meth c T locs cells slots) (hy : p.tables.exec = Jvm.exec ∧ c.code = code) {k : Fin 4} {v : Int64} (d : decode code pc = .ok (.lload_n k, 1)) (pc' : Nat) (hl : L[k.val]? = some (.val (.long v))) (h : Ends p e below Q (T.setTop (mkF m pc' L (.long v :: st)))) (hp : pc + 1 = pc' := by exact rfl) : Ends p e below Q (T.setTop (mkF m pc L (st))) := by
  subst hp
  exact Ends.step (fun _ kk => XT.lloadN X.here hy.1 rfl (hb hy.2 d) hl kk) h
theorem oF (X : Stand p l e R s m args below meth c T locs cells slots) (hy : p.tables.exec = Jvm.exec ∧ c.code = code) {k : Nat} {v : Int64} (d : decode code pc = .ok (.lload k, 2)) (pc' : Nat) (hl : L[k]? = some (.val (.long v))) (h : Ends p e below Q (T.setTop (mkF m pc' L (.long v :: st)))) (hp : pc + 2 = pc' := by exact rfl) : Ends p e below Q (T.setTop (mkF m pc L (st))) := by
  subst hp
  exact Ends.step (fun _ kk => XT.lload X.here hy.1 rfl (hb hy.2 d) hl kk) h
theorem oG (X : Stand p l e R s m args below meth c T locs cells slots) (hy : p.tables.exec = Jvm.exec ∧ c.code = code) {i : Int} (d : decode code pc = .ok (.iconst i, 1)) (pc' : Nat) (v : Int32) (hv : Int32.ofInt i = v) (h : Ends p e below Q (T.setTop (mkF m pc' L (.int v :: st)))) (hp : pc + 1 = pc' := by exact rfl) : Ends p e below Q (T.setTop (mkF m pc L (st))) := by
  subst hp
  exact Ends.step (fun _ kk => XT.iconstV X.here hy.1 rfl v (hb hy.2 d) hv kk) h
theorem oH (X : Stand p l e R s m args below meth c T locs cells slots) (hy : p.tables.exec = Jvm.exec ∧ c.code = code) {i : Int} (d : decode code pc = .ok (.bipush i, 2)) (pc' : Nat) (v : Int32) (hv : (Int8.ofInt i).toInt32 = v) (h : Ends p e below Q (T.setTop (mkF m pc' L (.int v :: st)))) (hp : pc + 2 = pc' := by exact rfl) : Ends p e below Q (T.setTop (mkF m pc L (st))) := by
  subst hp
  exact Ends.step (fun _ kk => XT.bipushV X.here hy.1 rfl v (hb hy.2 d) hv kk) h
theorem oI (X : Stand p l e R s m args below meth c T locs cells slots) (hy : p.tables.exec = Jvm.exec ∧ c.code = code) {i : Int} (d : decode code pc = .ok (.sipush i, 3)) (pc' : Nat) (v : Int32) (hv : (Int16.ofInt i).toInt32 = v) (h : Ends p e below Q (T.setTop (mkF m pc' L (.int v :: st)))) (hp : pc + 3 = pc' := by exact rfl) : Ends p e below Q (T.setTop (mkF m pc L (st))) := by
  subst hp
  exact Ends.step (fun _ kk => XT.sipushV X.here hy.1 rfl v (hb hy.2 d) hv kk) h
theorem oJ (X : Stand p l e R s m args below meth c T locs cells slots) (hy : p.tables.exec = Jvm.exec ∧ c.code = code) {k : Fin 2} (d : decode code pc = .ok (.lconst k, 1)) (pc' : Nat) (v : Int64) (hv : Int64.ofNat k = v) (h : Ends p e below Q (T.setTop (mkF m pc' L (.long v :: st)))) (hp : pc + 1 = pc' := by exact rfl) : Ends p e below Q (T.setTop (mkF m pc L (st))) := by
  subst hp
  exact Ends.step (fun _ kk => XT.lconstV X.here hy.1 rfl v (hb hy.2 d) hv kk) h
theorem oK (X : Stand p l e R s m args below meth c T locs cells slots) (hy : p.tables.exec = Jvm.exec ∧ c.code = code) {x y : Int32} (d : decode code pc = .ok (.iadd, 1)) (pc' : Nat)  (h : Ends p e below Q (T.setTop (mkF m pc' L (.int (x + y) :: st)))) (hp : pc + 1 = pc' := by exact rfl) : Ends p e below Q (T.setTop (mkF m pc L (.int y :: .int x :: st))) := by
  subst hp
  exact Ends.step (fun _ kk => XS.iadd X.here hy.1 rfl (hb hy.2 d) rfl kk) h
theorem oL (X : Stand p l e R s m args below meth c T locs cells slots) (hy : p.tables.exec = Jvm.exec ∧ c.code = code) {x y : Int32} (d : decode code pc = .ok (.isub, 1)) (pc' : Nat)  (h : Ends p e below Q (T.setTop (mkF m pc' L (.int (x - y) :: st)))) (hp : pc + 1 = pc' := by exact rfl) : Ends p e below Q (T.setTop (mkF m pc L (.int y :: .int x :: st))) := by
  subst hp
  exact Ends.step (fun _ kk => XS.isub X.here hy.1 rfl (hb hy.2 d) rfl kk) h
theorem oM (X : Stand p l e R s m args below meth c T locs cells slots) (hy : p.tables.exec = Jvm.exec ∧ c.code = code) {x y : Int32} (d : decode code pc = .ok (.imul, 1)) (pc' : Nat)  (h : Ends p e below Q (T.setTop (mkF m pc' L (.int (x * y) :: st)))) (hp : pc + 1 = pc' := by exact rfl) : Ends p e below Q (T.setTop (mkF m pc L (.int y :: .int x :: st))) := by
  subst hp
  exact Ends.step (fun _ kk => XS.imul X.here hy.1 rfl (hb hy.2 d) rfl kk) h
theorem oN (X : Stand p l e R s m args below meth c T locs cells slots) (hy : p.tables.exec = Jvm.exec ∧ c.code = code) {x y : Int32} (d : decode code pc = .ok (.iand, 1)) (pc' : Nat)  (h : Ends p e below Q (T.setTop (mkF m pc' L (.int (x &&& y) :: st)))) (hp : pc + 1 = pc' := by exact rfl) : Ends p e below Q (T.setTop (mkF m pc L (.int y :: .int x :: st))) := by
  subst hp
  exact Ends.step (fun _ kk => XS.iand X.here hy.1 rfl (hb hy.2 d) rfl kk) h
theorem oO (X : Stand p l e R s m args below meth c T locs cells slots) (hy : p.tables.exec = Jvm.exec ∧ c.code = code) {x y : Int32} (d : decode code pc = .ok (.ishl, 1)) (pc' : Nat)  (h : Ends p e below Q (T.setTop (mkF m pc' L (.int (x <<< (y &&& 31)) :: st)))) (hp : pc + 1 = pc' := by exact rfl) : Ends p e below Q (T.setTop (mkF m pc L (.int y :: .int x :: st))) := by
  subst hp
  exact Ends.step (fun _ kk => XS.ishl X.here hy.1 rfl (hb hy.2 d) rfl kk) h
theorem oP (X : Stand p l e R s m args below meth c T locs cells slots) (hy : p.tables.exec = Jvm.exec ∧ c.code = code) {x y : Int32} (d : decode code pc = .ok (.ishr, 1)) (pc' : Nat)  (h : Ends p e below Q (T.setTop (mkF m pc' L (.int (x >>> (y &&& 31)) :: st)))) (hp : pc + 1 = pc' := by exact rfl) : Ends p e below Q (T.setTop (mkF m pc L (.int y :: .int x :: st))) := by
  subst hp
  exact Ends.step (fun _ kk => XS.ishr X.here hy.1 rfl (hb hy.2 d) rfl kk) h
theorem oQ (X : Stand p l e R s m args below meth c T locs cells slots) (hy : p.tables.exec = Jvm.exec ∧ c.code = code) {x : Int32} (d : decode code pc = .ok (.ineg, 1)) (pc' : Nat)  (h : Ends p e below Q (T.setTop (mkF m pc' L (.int (-x) :: st)))) (hp : pc + 1 = pc' := by exact rfl) : Ends p e below Q (T.setTop (mkF m pc L (.int x :: st))) := by
  subst hp
  exact Ends.step (fun _ kk => XS.ineg X.here hy.1 rfl (hb hy.2 d) rfl kk) h
theorem oR (X : Stand p l e R s m args below meth c T locs cells slots) (hy : p.tables.exec = Jvm.exec ∧ c.code = code) {x y : Int32} (d : decode code pc = .ok (.idiv, 1)) (pc' : Nat) (h0 : y ≠ 0) (h : Ends p e below Q (T.setTop (mkF m pc' L (.int (x / y) :: st)))) (hp : pc + 1 = pc' := by exact rfl) : Ends p e below Q (T.setTop (mkF m pc L (.int y :: .int x :: st))) := by
  subst hp
  exact Ends.step (fun _ kk => XS.idiv X.here hy.1 rfl (hb hy.2 d) rfl h0 kk) h
theorem oS (X : Stand p l e R s m args below meth c T locs cells slots) (hy : p.tables.exec = Jvm.exec ∧ c.code = code) {x y : Int64} (d : decode code pc = .ok (.ladd, 1)) (pc' : Nat)  (h : Ends p e below Q (T.setTop (mkF m pc' L (.long (x + y) :: st)))) (hp : pc + 1 = pc' := by exact rfl) : Ends p e below Q (T.setTop (mkF m pc L (.long y :: .long x :: st))) := by
  subst hp
  exact Ends.step (fun _ kk => XT.ladd X.here hy.1 rfl (hb hy.2 d) rfl kk) h
theorem oT (X : Stand p l e R s m args below meth c T locs cells slots) (hy : p.tables.exec = Jvm.exec ∧ c.code = code) {x y : Int64} (d : decode code pc = .ok (.lsub, 1)) (pc' : Nat)  (h : Ends p e below Q (T.setTop (mkF m pc' L (.long (x - y) :: st)))) (hp : pc + 1 = pc' := by exact rfl) : Ends p e below Q (T.setTop (mkF m pc L (.long y :: .long x :: st))) := by
  subst hp
  exact Ends.step (fun _ kk => XT.lsub X.here hy.1 rfl (hb hy.2 d) rfl kk) h
theorem oU (X : Stand p l e R s m args below meth c T locs cells slots) (hy : p.tables.exec = Jvm.exec ∧ c.code = code) {x y : Int64} (d : decode code pc = .ok (.lmul, 1)) (pc' : Nat)  (h : Ends p e below Q (T.setTop (mkF m pc' L (.long (x * y) :: st)))) (hp : pc + 1 = pc' := by exact rfl) : Ends p e below Q (T.setTop (mkF m pc L (.long y :: .long x :: st))) := by
  subst hp
  exact Ends.step (fun _ kk => XT.lmul X.here hy.1 rfl (hb hy.2 d) rfl kk) h
theorem oV (X : Stand p l e R s m args below meth c T locs cells slots) (hy : p.tables.exec = Jvm.exec ∧ c.code = code) {x y : Int64} (d : decode code pc = .ok (.land, 1)) (pc' : Nat)  (h : Ends p e below Q (T.setTop (mkF m pc' L (.long (x &&& y) :: st)))) (hp : pc + 1 = pc' := by exact rfl) : Ends p e below Q (T.setTop (mkF m pc L (.long y :: .long x :: st))) := by
  subst hp
  exact Ends.step (fun _ kk => XT.land X.here hy.1 rfl (hb hy.2 d) rfl kk) h
theorem oW (X : Stand p l e R s m args below meth c T locs cells slots) (hy : p.tables.exec = Jvm.exec ∧ c.code = code) {x y : Int64} (d : decode code pc = .ok (.ldiv, 1)) (pc' : Nat) (h0 : y ≠ 0) (h : Ends p e below Q (T.setTop (mkF m pc' L (.long (x / y) :: st)))) (hp : pc + 1 = pc' := by exact rfl) : Ends p e below Q (T.setTop (mkF m pc L (.long y :: .long x :: st))) := by
  subst hp
  exact Ends.step (fun _ kk => XT.ldiv X.here hy.1 rfl (hb hy.2 d) rfl h0 kk) h
theorem oX (X : Stand p l e R s m args below meth c T locs cells slots) (hy : p.tables.exec = Jvm.exec ∧ c.code = code) {x : Int64} (d : decode code pc = .ok (.lneg, 1)) (pc' : Nat)  (h : Ends p e below Q (T.setTop (mkF m pc' L (.long (-x) :: st)))) (hp : pc + 1 = pc' := by exact rfl) : Ends p e below Q (T.setTop (mkF m pc L (.long x :: st))) := by
  subst hp
  exact Ends.step (fun _ kk => XT.lneg X.here hy.1 rfl (hb hy.2 d) rfl kk) h
theorem oY (X : Stand p l e R s m args below meth c T locs cells slots) (hy : p.tables.exec = Jvm.exec ∧ c.code = code) {x y : Int64} (d : decode code pc = .ok (.lcmp, 1)) (pc' : Nat)  (h : Ends p e below Q (T.setTop (mkF m pc' L (.int (XT.cmpL x y) :: st)))) (hp : pc + 1 = pc' := by exact rfl) : Ends p e below Q (T.setTop (mkF m pc L (.long y :: .long x :: st))) := by
  subst hp
  exact Ends.step (fun _ kk => XT.lcmp X.here hy.1 rfl (hb hy.2 d) rfl kk) h
theorem oZ (X : Stand p l e R s m args below meth c T locs cells slots) (hy : p.tables.exec = Jvm.exec ∧ c.code = code) {x : Int64} (d : decode code pc = .ok (.l2i, 1)) (pc' : Nat)  (h : Ends p e below Q (T.setTop (mkF m pc' L (.int x.toInt32 :: st)))) (hp : pc + 1 = pc' := by exact rfl) : Ends p e below Q (T.setTop (mkF m pc L (.long x :: st))) := by
  subst hp
  exact Ends.step (fun _ kk => XT.l2i X.here hy.1 rfl (hb hy.2 d) rfl kk) h
theorem oxa (X : Stand p l e R s m args below meth c T locs cells slots) (hy : p.tables.exec = Jvm.exec ∧ c.code = code) {x : Int32} (d : decode code pc = .ok (.i2l, 1)) (pc' : Nat)  (h : Ends p e below Q (T.setTop (mkF m pc' L (.long x.toInt64 :: st)))) (hp : pc + 1 = pc' := by exact rfl) : Ends p e below Q (T.setTop (mkF m pc L (.int x :: st))) := by
  subst hp
  exact Ends.step (fun _ kk => XT.i2l X.here hy.1 rfl (hb hy.2 d) rfl kk) h
theorem oxb (X : Stand p l e R s m args below meth c T locs cells slots) (hy : p.tables.exec = Jvm.exec ∧ c.code = code) {x : Int32} (d : decode code pc = .ok (.i2b, 1)) (pc' : Nat)  (h : Ends p e below Q (T.setTop (mkF m pc' L (.int x.toInt8.toInt32 :: st)))) (hp : pc + 1 = pc' := by exact rfl) : Ends p e below Q (T.setTop (mkF m pc L (.int x :: st))) := by
  subst hp
  exact Ends.step (fun _ kk => XT.i2b X.here hy.1 rfl (hb hy.2 d) rfl kk) h
theorem oxc (X : Stand p l e R s m args below meth c T locs cells slots) (hy : p.tables.exec = Jvm.exec ∧ c.code = code) {x : Int32} (d : decode code pc = .ok (.i2c, 1)) (pc' : Nat)  (h : Ends p e below Q (T.setTop (mkF m pc' L (.int x.toUInt32.toUInt16.toUInt32.toInt32 :: st)))) (hp : pc + 1 = pc' := by exact rfl) : Ends p e below Q (T.setTop (mkF m pc L (.int x :: st))) := by
  subst hp
  exact Ends.step (fun _ kk => XT.i2c X.here hy.1 rfl (hb hy.2 d) rfl kk) h
theorem oxd (X : Stand p l e R s m args below meth c T locs cells slots) (hy : p.tables.exec = Jvm.exec ∧ c.code = code) {x : Value} (d : decode code pc = .ok (.dup, 1)) (pc' : Nat) (hc : x.category = 1) (h : Ends p e below Q (T.setTop (mkF m pc' L (x :: x :: st)))) (hp : pc + 1 = pc' := by exact rfl) : Ends p e below Q (T.setTop (mkF m pc L (x :: st))) := by
  subst hp
  exact Ends.step (fun _ kk => XS.dup X.here hy.1 rfl (hb hy.2 d) rfl hc kk) h
theorem oxe (X : Stand p l e R s m args below meth c T locs cells slots) (hy : p.tables.exec = Jvm.exec ∧ c.code = code) {x : Value} (d : decode code pc = .ok (.pop, 1)) (pc' : Nat) (hc : x.category = 1) (h : Ends p e below Q (T.setTop (mkF m pc' L (st)))) (hp : pc + 1 = pc' := by exact rfl) : Ends p e below Q (T.setTop (mkF m pc L (x :: st))) := by
  subst hp
  exact Ends.step (fun _ kk => XT.pop X.here hy.1 rfl (hb hy.2 d) rfl hc kk) h
theorem oxf (X : Stand p l e R s m args below meth c T locs cells slots) (hy : p.tables.exec = Jvm.exec ∧ c.code = code) {x y : Value} (d : decode code pc = .ok (.dup_x1, 1)) (pc' : Nat) (hc : x.category = 1) (hc' : y.category = 1) (h : Ends p e below Q (T.setTop (mkF m pc' L (x :: y :: x :: st)))) (hp : pc + 1 = pc' := by exact rfl) : Ends p e below Q (T.setTop (mkF m pc L (x :: y :: st))) := by
  subst hp
  exact Ends.step (fun _ kk => XT.dupX1 X.here hy.1 rfl (hb hy.2 d) rfl hc hc' kk) h
theorem oxg (X : Stand p l e R s m args below meth c T locs cells slots) (hy : p.tables.exec = Jvm.exec ∧ c.code = code)  (d : decode code pc = .ok (.aconst_null, 1)) (pc' : Nat)  (h : Ends p e below Q (T.setTop (mkF m pc' L (.null :: st)))) (hp : pc + 1 = pc' := by exact rfl) : Ends p e below Q (T.setTop (mkF m pc L (st))) := by
  subst hp
  exact Ends.step (fun _ kk => XS.aconstNull X.here hy.1 rfl (hb hy.2 d)  kk) h
theorem oxh (X : Stand p l e R s m args below meth c T locs cells slots) (hy : p.tables.exec = Jvm.exec ∧ c.code = code) {cd : ClassFile.Cond} {o : Int} {x : Int32} (d : decode code pc = .ok (.ifCond cd o, 3)) (pc' : Nat) (hc : ifCond.holds cd x = false) (h : Ends p e below Q (T.setTop (mkF m pc' L (st)))) (hp : pc + 3 = pc' := by exact rfl) : Ends p e below Q (T.setTop (mkF m pc L (.int x :: st))) := by
  subst hp
  exact Ends.step (fun _ kk => XS.ifNo X.here hy.1 rfl (hb hy.2 d) rfl hc kk) h
theorem oxi (X : Stand p l e R s m args below meth c T locs cells slots) (hy : p.tables.exec = Jvm.exec ∧ c.code = code) {cd : ClassFile.Cond} {o : Int} {x y : Int32} (d : decode code pc = .ok (.if_icmp cd o, 3)) (pc' : Nat) (hc : if_icmp.holds cd x y = false) (h : Ends p e below Q (T.setTop (mkF m pc' L (st)))) (hp : pc + 3 = pc' := by exact rfl) : Ends p e below Q (T.setTop (mkF m pc L (.int y :: .int x :: st))) := by
  subst hp
  exact Ends.step (fun _ kk => XS.icmpNo X.here hy.1 rfl (hb hy.2 d) rfl hc kk) h
theorem oxj (X : Stand p l e R s m args below meth c T locs cells slots) (hy : p.tables.exec = Jvm.exec ∧ c.code = code) {o : Int} {b : Addr} (d : decode code pc = .ok (.ifnull o, 3)) (pc' : Nat)  (h : Ends p e below Q (T.setTop (mkF m pc' L (st)))) (hp : pc + 3 = pc' := by exact rfl) : Ends p e below Q (T.setTop (mkF m pc L (.ref b :: st))) := by
  subst hp
  exact Ends.step (fun _ kk => XS.ifnullNo X.here hy.1 rfl (hb hy.2 d) rfl kk) h
theorem oxk (X : Stand p l e R s m args below meth c T locs cells slots) (hy : p.tables.exec = Jvm.exec ∧ c.code = code) {cd : ClassFile.Cond} {o : Int} {x : Int32} (d : decode code pc = .ok (.ifCond cd o, 3)) (pc' : Nat) (hc : ifCond.holds cd x = true) (h : Ends p e below Q (T.setTop (mkF m pc' L (st)))) (hp : (0 ≤ (pc : Int) + o) ∧ ((pc : Int) + o).toNat = pc' := by decide) : Ends p e below Q (T.setTop (mkF m pc L (.int x :: st))) :=
  Ends.step (fun _ kk => XS.ifYes X.here hy.1 rfl rfl (hb hy.2 d) rfl hc hp.1 hp.2 kk) h
theorem oxl (X : Stand p l e R s m args below meth c T locs cells slots) (hy : p.tables.exec = Jvm.exec ∧ c.code = code) {cd : ClassFile.Cond} {o : Int} {x y : Int32} (d : decode code pc = .ok (.if_icmp cd o, 3)) (pc' : Nat) (hc : if_icmp.holds cd x y = true) (h : Ends p e below Q (T.setTop (mkF m pc' L (st)))) (hp : (0 ≤ (pc : Int) + o) ∧ ((pc : Int) + o).toNat = pc' := by decide) : Ends p e below Q (T.setTop (mkF m pc L (.int y :: .int x :: st))) :=
  Ends.step (fun _ kk => XS.icmpYes X.here hy.1 rfl rfl (hb hy.2 d) rfl hc hp.1 hp.2 kk) h
theorem oxm (X : Stand p l e R s m args below meth c T locs cells slots) (hy : p.tables.exec = Jvm.exec ∧ c.code = code) {o : Int} (d : decode code pc = .ok (.goto o, 3)) (pc' : Nat)  (h : Ends p e below Q (T.setTop (mkF m pc' L (st)))) (hp : (0 ≤ (pc : Int) + o) ∧ ((pc : Int) + o).toNat = pc' := by decide) : Ends p e below Q (T.setTop (mkF m pc L (st))) :=
  Ends.step (fun _ kk => XS.goto X.here hy.1 rfl rfl (hb hy.2 d)  hp.1 hp.2 kk) h
theorem oxn (X : Stand p l e R s m args below meth c T locs cells slots) (hy : p.tables.exec = Jvm.exec ∧ c.code = code) {o : Int} {b : Addr} (d : decode code pc = .ok (.ifnonnull o, 3)) (pc' : Nat)  (h : Ends p e below Q (T.setTop (mkF m pc' L (st)))) (hp : (0 ≤ (pc : Int) + o) ∧ ((pc : Int) + o).toNat = pc' := by decide) : Ends p e below Q (T.setTop (mkF m pc L (.ref b :: st))) :=
  Ends.step (fun _ kk => XT.ifnonnullYes X.here hy.1 rfl rfl (hb hy.2 d) rfl hp.1 hp.2 kk) h
theorem oxo (X : Stand p l e R s m args below meth c T locs cells slots) (hy : p.tables.exec = Jvm.exec ∧ c.code = code) {k : Nat} {x : Int32} (d : decode code pc = .ok (.istore k, 2)) (pc' : Nat) (L' : Array Slot) (hl : storeLocals L k (.int x) = some L') (h : Ends p e below Q (T.setTop (mkF m pc' L' (st)))) (hp : pc + 2 = pc' := by exact rfl) : Ends p e below Q (T.setTop (mkF m pc L (.int x :: st))) := by
  subst hp
  exact Ends.step (fun _ kk => XS.istore X.here hy.1 rfl (hb hy.2 d) rfl hl kk) h
theorem oxp (X : Stand p l e R s m args below meth c T locs cells slots) (hy : p.tables.exec = Jvm.exec ∧ c.code = code) {k : Fin 4} {x : Int32} (d : decode code pc = .ok (.istore_n k, 1)) (pc' : Nat) (L' : Array Slot) (hl : storeLocals L k.val (.int x) = some L') (h : Ends p e below Q (T.setTop (mkF m pc' L' (st)))) (hp : pc + 1 = pc' := by exact rfl) : Ends p e below Q (T.setTop (mkF m pc L (.int x :: st))) := by
  subst hp
  exact Ends.step (fun _ kk => XS.istoreN X.here hy.1 rfl (hb hy.2 d) rfl hl kk) h
theorem oxq (X : Stand p l e R s m args below meth c T locs cells slots) (hy : p.tables.exec = Jvm.exec ∧ c.code = code) {k : Nat} {x : Int64} (d : decode code pc = .ok (.lstore k, 2)) (pc' : Nat) (L' : Array Slot) (hl : storeLocals L k (.long x) = some L') (h : Ends p e below Q (T.setTop (mkF m pc' L' (st)))) (hp : pc + 2 = pc' := by exact rfl) : Ends p e below Q (T.setTop (mkF m pc L (.long x :: st))) := by
  subst hp
  exact Ends.step (fun _ kk => XT.lstore X.here hy.1 rfl (hb hy.2 d) rfl hl kk) h
theorem oxr (X : Stand p l e R s m args below meth c T locs cells slots) (hy : p.tables.exec = Jvm.exec ∧ c.code = code) {k : Fin 4} {x : Int64} (d : decode code pc = .ok (.lstore_n k, 1)) (pc' : Nat) (L' : Array Slot) (hl : storeLocals L k.val (.long x) = some L') (h : Ends p e below Q (T.setTop (mkF m pc' L' (st)))) (hp : pc + 1 = pc' := by exact rfl) : Ends p e below Q (T.setTop (mkF m pc L (.long x :: st))) := by
  subst hp
  exact Ends.step (fun _ kk => XT.lstoreN X.here hy.1 rfl (hb hy.2 d) rfl hl kk) h
theorem oxs (X : Stand p l e R s m args below meth c T locs cells slots) (hy : p.tables.exec = Jvm.exec ∧ c.code = code) {k : Nat} {x : Addr} (d : decode code pc = .ok (.astore k, 2)) (pc' : Nat) (L' : Array Slot) (hl : storeLocals L k (.ref x) = some L') (h : Ends p e below Q (T.setTop (mkF m pc' L' (st)))) (hp : pc + 2 = pc' := by exact rfl) : Ends p e below Q (T.setTop (mkF m pc L (.ref x :: st))) := by
  subst hp
  exact Ends.step (fun _ kk => XS.astore X.here hy.1 rfl (hb hy.2 d) rfl rfl hl kk) h
theorem oxt (X : Stand p l e R s m args below meth c T locs cells slots) (hy : p.tables.exec = Jvm.exec ∧ c.code = code) {k : Fin 4} {x : Addr} (d : decode code pc = .ok (.astore_n k, 1)) (pc' : Nat) (L' : Array Slot) (hl : storeLocals L k.val (.ref x) = some L') (h : Ends p e below Q (T.setTop (mkF m pc' L' (st)))) (hp : pc + 1 = pc' := by exact rfl) : Ends p e below Q (T.setTop (mkF m pc L (.ref x :: st))) := by
  subst hp
  exact Ends.step (fun _ kk => XS.astoreN X.here hy.1 rfl (hb hy.2 d) rfl rfl hl kk) h
theorem oxz (X : Stand p l e R s m args below meth c T locs cells slots) (hy : p.tables.exec = Jvm.exec ∧ c.code = code) {k : Nat} {cst : Int} {x : Int32} (d : decode code pc = .ok (.iinc k cst, 3)) (pc' : Nat) (L' : Array Slot) (v : Int32) (hv : Int32.ofInt cst = v) (h1 : L[k]? = some (.val (.int x))) (hl : storeLocals L k (.int (x + v)) = some L') (h : Ends p e below Q (T.setTop (mkF m pc' L' (st)))) (hp : pc + 3 = pc' := by exact rfl) : Ends p e below Q (T.setTop (mkF m pc L (st))) := by
  subst hp
  exact Ends.step (fun _ kk => XT.iincV X.here hy.1 rfl v (hb hy.2 d) hv h1 hl kk) h
theorem Ends.j (pc' : Nat) (S' : List Value) (k : ∀ t, Steps p.tables e below (T'.setTop (mkF m pc' L S')) t → Steps p.tables e below (T.setTop (mkF m pc L S)) t) (h : Ends p e below Q (T'.setTop (mkF m pc' L S'))) : Ends p e below Q (T.setTop (mkF m pc L S)) := Ends.step k h
theorem Ends.i (L : Array Slot) {f : JFrame} (h : Ends p e below Q (T.setTop (mkF m 0 L []))) (k : f = mkF m 0 L [] := by first | (simp [entryFrame, argsToLocals, Value.category]; done) | rfl) : Ends p e below Q (T.setTop f) := by
  rw [k]
  exact h
theorem oJ2 (X : Stand p l e R s m args below meth c T locs cells slots) (hy : p.tables.exec = Jvm.exec ∧ c.code = code) {own : String} {index : Nat} {Z : State} {a0 : Array Value} (hown : s.vm.findClass own = some m.cls) (hZ : Z.Warmed39 s.vm) (hw : ∀ d ∈ tables_1, d.before a0 Z = true) (d : decode code pc = .ok (.ldc2_w index, 3)) (pc' : Nat) (v : Int64) (i : Nat) (hi : tables_1[i]? = some (.constantLong own index v)) (h : Ends p e below Q (T.setTop (mkF m pc' L (.long v :: st)))) (hp : pc + 3 = pc' := by exact rfl) : Ends p e below Q (T.setTop (mkF m pc L (st))) := by
  subst hp
  exact Ends.step (fun _ kk => X.ldc2J hy.1 hown (mvT hZ (hw _ (List.mem_of_getElem? hi))) rfl (hb hy.2 d) kk) h
theorem lremO (X : Stand p l e R s m args below meth c T locs cells slots) (hy : p.tables.exec = Jvm.exec ∧ c.code = code) {x y : Int64} (d : decode code pc = .ok (.lrem, 1)) (pc' : Nat) (h0 : y ≠ 0) (h : Ends p e below Q (T.setTop (mkF m pc' L (.long (x % y) :: st)))) (hp : pc + 1 = pc' := by exact rfl) : Ends p e below Q (T.setTop (mkF m pc L (.long y :: .long x :: st))) := by
  subst hp
  exact Ends.step (fun _ kk => lremM X hy.1 rfl (hb hy.2 d) rfl h0 kk) h
theorem tb {Z : State} {a0 : Array Value} (hw : ∀ d ∈ tables_1, d.before a0 Z = true) (i : Nat) {d : Jvm.Cond} (hi : tables_1[i]? = some d) : d.before a0 Z = true := hw _ (List.mem_of_getElem? hi)
abbrev rmm (f a b d : Nat) : Room := { frames := f, cells := a, slots := b, locals := d }
abbrev MF (l : Launch) (y : MethodName) (bytes : ByteArray) (maxL : Nat) (ret : Option FieldType) (ws : List Jvm.Cond) (rm : Room) (as' : Array Value) (Z : State) (h : Heap) (QC : Option Value → Heap → List Loc → Prop) : Prop :=
  MetFree l y (head1 (Jvm.Cond.code y bytes maxL ret :: ws) rm) (fun a U => a = as' ∧ Z.Warmed39 U.vm ∧ U.heap = h) (fun _ _ _ _ _ => True) (fun _ U o U' => ∃ v L, o = .returned v ∧ QC v U'.heap L ∧ FrameEnd U o U' L rm.cells rm.slots)
theorem Ends.v {v : Value} (h : Ends p e below Q (T.setTop (mkF m pc L (v :: st)))) : Ends p e below Q (T.setTop (mkF m pc L ((some v).toList ++ st))) := h
theorem Ends.u (h : Ends p e below Q (T.setTop (mkF m pc L st))) : Ends p e below Q (T.setTop (mkF m pc L ((none : Option Value).toList ++ st))) := h
theorem cS (X : Stand p l e R s m args below meth c T locs cells slots) (hy : p.tables.exec = Jvm.exec ∧ c.code = code) {ml : Nat} (hml : c.maxLocals = ml) {own : String} (hown : s.vm.findClass own = some m.cls) {Z : State} {a0 : Array Value} (hZ : Z.Warmed39 s.vm) (hw : ∀ d ∈ tables_1, d.before a0 Z = true)
    {index : Nat} {y : MethodName} {bytes : ByteArray} {maxL : Nat} {ret : Option FieldType} (d : decode code pc = .ok (.invokestatic index, 3)) (pc' W i1 i2 i3 i4 : Nat) (h1 : tables_1[i1]? = some (.methodLink own index y)) (h2 : tables_1[i2]? = some (.static y)) (h3 : tables_1[i3]? = some (.initialized y.cls)) (h4 : tables_1[i4]? = some (.code y bytes maxL ret))
    {rm : Room} {as' : Array Value} {QC : Option Value → Heap → List Loc → Prop} {h : Heap} (hM : MF l y bytes maxL ret [] rm as' Z h QC)
    (eT : T.heap = h) {ps : List FieldType} {r : Option FieldType} (hd : parseMethodDescriptor y.desc = some ⟨ps, r⟩)
    {argsL rest : List Value} (ha : as' = argsL.toArray) (hS : S = argsL.reverse ++ rest)
    (K : ∀ v T' Lc, Stand p l e R s m args below meth c T' (locs ++ Lc) (cells + rm.cells) (slots + rm.slots) → QC v T'.heap Lc → Ends p e below Q (T'.setTop (mkF m pc' L (v.toList ++ rest)))) (hn : y.cls ≠ "java/lang/invoke/MethodHandle" ∧ y.cls ≠ "java/lang/invoke/VarHandle" := by decide) (hr : rm.frames + 1 ≤ R.frames ∧ W + (maxL + 11) + rm.locals ≤ R.locals ∧ cells + rm.cells ≤ R.cells ∧ slots + rm.slots ≤ R.slots := by decide) (hl : argsL.length = ps.length := by exact rfl) (hW : (rest.map fun v => v.category).sum = W := by exact rfl) (hL : L.size = ml := by exact rfl) (hp : pc + 3 = pc' := by exact rfl) : Ends p e below Q (T.setTop (mkF m pc L S)) := by
  subst hp hS ha hW
  obtain ⟨v, _, ⟨T', L', k', n'⟩, -, X', ⟨Lc, hq, l1, y1, z1⟩, stp⟩ := Jvm.LawKit.callS X hy.1 hown (mvT hZ (tb hw i1 h1)) (mvT hZ (tb hw i2 h2)) (mvT hZ (tb hw i3 h3)) (mvT hZ (tb hw i4 h4)) hn (backOf (W := (rest.map fun v => v.category).sum) hM hZ (tb hw i4 h4) (tb hw i3 h3) hr.1 hr.2.1)
    (g := mkF m pc L (argsL.reverse ++ rest)) rfl (by rw [hml]; exact hL) (argsL := argsL) (rest := rest) (lenOf hd hl) rfl (by show 2 * 0 + _ ≤ _; omega) (hb hy.2 d) (fun _ _ => ⟨rfl, eT, hr.2.2⟩)
  dsimp only [Pt.U, Pt.locs, Pt.cells, Pt.slots] at X' l1 y1 z1 stp hq
  subst l1 y1 z1
  exact Ends.step stp (K v T' Lc X' hq)
theorem cV (X : Stand p l e R s m args below meth c T locs cells slots) (hy : p.tables.exec = Jvm.exec ∧ c.code = code) {ml : Nat} (hml : c.maxLocals = ml) {own C : String} (hown : s.vm.findClass own = some m.cls) {Z : State} {a0 : Array Value} (hZ : Z.Warmed39 s.vm) (hw : ∀ d ∈ tables_1, d.before a0 Z = true)
    {index : Nat} {y : MethodName} {bytes : ByteArray} {maxL : Nat} {ret : Option FieldType} (d : decode code pc = .ok (.invokevirtual index, 3)) (pc' W i1 i2 i3 i4 i5 i6 : Nat) (h1 : tables_1[i1]? = some (.methodLink own index y)) (h2 : tables_1[i2]? = some (.declares y)) (h3 : tables_1[i3]? = some (.selects C y y)) (h4 : tables_1[i4]? = some (.instanceMethod y)) (h5 : tables_1[i5]? = some (.code y bytes maxL ret)) (h6 : tables_1[i6]? = some (.initialized y.cls))
    {rm : Room} {as' : Array Value} {QC : Option Value → Heap → List Loc → Prop} {h : Heap} (hM : MF l y bytes maxL ret [] rm as' Z h QC)
    (eT : T.heap = h) {ps : List FieldType} {r : Option FieldType} (hd : parseMethodDescriptor y.desc = some ⟨ps, r⟩)
    {b : Addr} (E : Exa Z h b C) {argsL rest : List Value} (ha : as' = (Value.ref b :: argsL).toArray) (hS : S = argsL.reverse ++ .ref b :: rest)
    (K : ∀ v T' Lc, Stand p l e R s m args below meth c T' (locs ++ Lc) (cells + rm.cells) (slots + rm.slots) → QC v T'.heap Lc → Ends p e below Q (T'.setTop (mkF m pc' L (v.toList ++ rest)))) (hn : y.cls ≠ "java/lang/invoke/MethodHandle" ∧ y.cls ≠ "java/lang/invoke/VarHandle" := by decide) (hr : rm.frames + 1 ≤ R.frames ∧ W + (maxL + 11) + rm.locals ≤ R.locals ∧ cells + rm.cells ≤ R.cells ∧ slots + rm.slots ≤ R.slots := by decide) (hl : argsL.length = ps.length := by exact rfl) (hW : (rest.map fun v => v.category).sum = W := by exact rfl) (hL : L.size = ml := by exact rfl) (hp : pc + 3 = pc' := by exact rfl) : Ends p e below Q (T.setTop (mkF m pc L S)) := by
  subst hp hS ha hW
  obtain ⟨cq, kq, qa, qb, qc⟩ := isOf hZ eT E
  obtain ⟨v, _, ⟨T', L', k', n'⟩, -, X', ⟨Lc, hq, l1, y1, z1⟩, stp⟩ := X.virtualBack hy.1 (y := y) (z := y) hown (mvT hZ (tb hw i1 h1)) (mvT hZ (tb hw i2 h2)) (notFace_of_selects (args := #[]) (mvT hZ (tb hw i3 h3))) (mvT hZ (tb hw i3 h3)) (mvT hZ (tb hw i4 h4)) hn (backOf (W := (rest.map fun v => v.category).sum) hM hZ (tb hw i5 h5) (tb hw i6 h6) hr.1 hr.2.1) qa qc
    (g := mkF m pc L (argsL.reverse ++ .ref b :: rest)) rfl (by rw [hml]; exact hL) (Steps.refl _) (argsL := argsL) (rest := rest) (lenOf hd hl) rfl (by show 2 * 0 + _ ≤ _; omega) (hb hy.2 d) (fun _ _ => ⟨rfl, eT, hr.2.2⟩)
  dsimp only [Pt.U, Pt.locs, Pt.cells, Pt.slots] at X' l1 y1 z1 stp hq
  subst l1 y1 z1
  exact Ends.step (fun _ kk => stp.trans kk) (K v T' Lc X' hq)
theorem cP (X : Stand p l e R s m args below meth c T locs cells slots) (hy : p.tables.exec = Jvm.exec ∧ c.code = code) {ml : Nat} (hml : c.maxLocals = ml) {own C : String} (hown : s.vm.findClass own = some m.cls) {Z : State} {a0 : Array Value} (hZ : Z.Warmed39 s.vm) (hw : ∀ d ∈ tables_1, d.before a0 Z = true)
    {index : Nat} {y x : MethodName} {K' : String} {bytes : ByteArray} {maxL : Nat} {ret : Option FieldType} (d : decode code pc = .ok (.invokevirtual index, 3)) (pc' W i1 i2 i3 i4 i5 i6 : Nat) (h1 : tables_1[i1]? = some (.methodLink own index y)) (h2 : tables_1[i2]? = some (.instanceMethod y)) (h3 : tables_1[i3]? = some (.selects K' x x)) (h4 : tables_1[i4]? = some (.privateMethod y)) (h5 : tables_1[i5]? = some (.code y bytes maxL ret)) (h6 : tables_1[i6]? = some (.initialized y.cls)) (hxy : x.cls = y.cls)
    {rm : Room} {as' : Array Value} {QC : Option Value → Heap → List Loc → Prop} {h : Heap} (hM : MF l y bytes maxL ret [] rm as' Z h QC)
    (eT : T.heap = h) {ps : List FieldType} {r : Option FieldType} (hd : parseMethodDescriptor y.desc = some ⟨ps, r⟩)
    {b : Addr} (E : Exa Z h b C) {argsL rest : List Value} (ha : as' = (Value.ref b :: argsL).toArray) (hS : S = argsL.reverse ++ .ref b :: rest)
    (K : ∀ v T' Lc, Stand p l e R s m args below meth c T' (locs ++ Lc) (cells + rm.cells) (slots + rm.slots) → QC v T'.heap Lc → Ends p e below Q (T'.setTop (mkF m pc' L (v.toList ++ rest)))) (hn : y.cls ≠ "java/lang/invoke/MethodHandle" ∧ y.cls ≠ "java/lang/invoke/VarHandle" := by decide) (hr : rm.frames + 1 ≤ R.frames ∧ W + (maxL + 11) + rm.locals ≤ R.locals ∧ cells + rm.cells ≤ R.cells ∧ slots + rm.slots ≤ R.slots := by decide) (hl : argsL.length = ps.length := by exact rfl) (hW : (rest.map fun v => v.category).sum = W := by exact rfl) (hL : L.size = ml := by exact rfl) (hp : pc + 3 = pc' := by exact rfl) : Ends p e below Q (T.setTop (mkF m pc L S)) := by
  subst hp hS ha hW
  obtain ⟨cq, q1, q2⟩ := E.cell
  obtain ⟨v, _, ⟨T', L', k', n'⟩, -, X', ⟨Lc, hq, l1, y1, z1⟩, stp⟩ := X.privateBack hy.1 (y := y) hown (mvT hZ (tb hw i1 h1)) (mvT hZ (tb hw i2 h2)) (mvT hZ (own_selq (y := y) (tb hw i3 h3) hxy (tb hw i4 h4) (tb hw i2 h2) hn)) (Cond.privateMethod_at (mvP hZ (tb hw i4 h4) (args := #[]))) (mvT hZ (tb hw i5 h5)) hn (backOf (W := (rest.map fun v => v.category).sum) hM hZ (tb hw i5 h5) (tb hw i6 h6) hr.1 hr.2.1)
    (g := mkF m pc L (argsL.reverse ++ .ref b :: rest)) rfl (by rw [hml]; exact hL) (Steps.refl _) (a := b) (by rw [eT]; exact q1) q2 (argsL := argsL) (rest := rest) (lenOf hd hl) rfl (by show 2 * 0 + _ ≤ _; omega) (hb hy.2 d) (fun _ _ => ⟨rfl, eT, hr.2.2⟩)
  dsimp only [Pt.U, Pt.locs, Pt.cells, Pt.slots] at X' l1 y1 z1 stp hq
  subst l1 y1 z1
  exact Ends.step (fun _ kk => stp.trans kk) (K v T' Lc X' hq)
theorem cI (X : Stand p l e R s m args below meth c T locs cells slots) (hy : p.tables.exec = Jvm.exec ∧ c.code = code) {ml : Nat} (hml : c.maxLocals = ml) {own : String} (hown : s.vm.findClass own = some m.cls) {Z : State} {a0 : Array Value} (hZ : Z.Warmed39 s.vm) (hw : ∀ d ∈ tables_1, d.before a0 Z = true)
    {index : Nat} {y : MethodName} {bytes : ByteArray} {maxL : Nat} (d : decode code pc = .ok (.invokespecial index, 3)) (pc' W i1 i2 i3 i4 : Nat) (h1 : tables_1[i1]? = some (.methodLink own index y)) (h2 : tables_1[i2]? = some (.instanceMethod y)) (h3 : tables_1[i3]? = some (.code y bytes maxL none)) (h4 : tables_1[i4]? = some (.initialized y.cls)) (hi : y.name = "<init>")
    {rm : Room} {as' : Array Value} {QC : Option Value → Heap → List Loc → Prop} {h : Heap} (hM : MF l y bytes maxL none [] rm as' Z h QC)
    (eT : T.heap = h) {ps : List FieldType} {r : Option FieldType} (hd : parseMethodDescriptor y.desc = some ⟨ps, r⟩)
    {b : Addr} {argsL rest : List Value} (ha : as' = (Value.ref b :: argsL).toArray) (hS : S = argsL.reverse ++ .ref b :: rest)
    (K : ∀ v T' Lc, Stand p l e R s m args below meth c T' (locs ++ Lc) (cells + rm.cells) (slots + rm.slots) → QC v T'.heap Lc → Ends p e below Q (T'.setTop (mkF m pc' L (v.toList ++ rest)))) (hn : y.cls ≠ "java/lang/invoke/MethodHandle" ∧ y.cls ≠ "java/lang/invoke/VarHandle" := by decide) (hr : rm.frames + 1 ≤ R.frames ∧ W + (maxL + 11) + rm.locals ≤ R.locals ∧ cells + rm.cells ≤ R.cells ∧ slots + rm.slots ≤ R.slots := by decide) (hl : argsL.length = ps.length := by exact rfl) (hW : (rest.map fun v => v.category).sum = W := by exact rfl) (hL : L.size = ml := by exact rfl) (hp : pc + 3 = pc' := by exact rfl) : Ends p e below Q (T.setTop (mkF m pc L S)) := by
  subst hp hS ha hW
  obtain ⟨v, _, ⟨T', L', k', n'⟩, -, X', ⟨Lc, hq, l1, y1, z1⟩, stp⟩ := X.specialBack hy.1 (y := y) hi hown (mvT hZ (tb hw i1 h1)) (mvT hZ (tb hw i2 h2)) (mvT hZ (tb hw i3 h3)) hn (backOf (W := (rest.map fun v => v.category).sum) hM hZ (tb hw i3 h3) (tb hw i4 h4) hr.1 hr.2.1)
    (g := mkF m pc L (argsL.reverse ++ .ref b :: rest)) rfl (by rw [hml]; exact hL) (Steps.refl _) (a := b) (argsL := argsL) (rest := rest) (lenOf hd hl) rfl (by show 2 * 0 + _ ≤ _; omega) (hb hy.2 d) (fun _ _ => ⟨rfl, eT, hr.2.2⟩)
  dsimp only [Pt.U, Pt.locs, Pt.cells, Pt.slots] at X' l1 y1 z1 stp hq
  subst l1 y1 z1
  exact Ends.step (fun _ kk => stp.trans kk) (K v T' Lc X' hq)
theorem cU (X : Stand p l e R s m args below meth c T locs cells slots) (hy : p.tables.exec = Jvm.exec ∧ c.code = code) {ml : Nat} (hml : c.maxLocals = ml) {own C : String} (hown : s.vm.findClass own = some m.cls) {Z : State} {a0 : Array Value} (hZ : Z.Warmed39 s.vm) (hw : ∀ d ∈ tables_1, d.before a0 Z = true)
    {index : Nat} {y x : MethodName} {K' : String} {bytes : ByteArray} {maxL : Nat} {ret : Option FieldType} (d : decode code pc = .ok (.invokespecial index, 3)) (pc' W i1 i2 i3 i4 i5 i6 : Nat) (h1 : tables_1[i1]? = some (.methodLink own index y)) (h2 : tables_1[i2]? = some (.instanceMethod y)) (h3 : tables_1[i3]? = some (.selects K' x x)) (h4 : tables_1[i4]? = some (.superclass own y.cls)) (h5 : tables_1[i5]? = some (.code y bytes maxL ret)) (h6 : tables_1[i6]? = some (.initialized y.cls)) (hxy : x.cls = y.cls)
    {rm : Room} {as' : Array Value} {QC : Option Value → Heap → List Loc → Prop} {h : Heap} (hM : MF l y bytes maxL ret [] rm as' Z h QC)
    (eT : T.heap = h) {ps : List FieldType} {r : Option FieldType} (hd : parseMethodDescriptor y.desc = some ⟨ps, r⟩)
    {b : Addr} (E : Exa Z h b C) {argsL rest : List Value} (ha : as' = (Value.ref b :: argsL).toArray) (hS : S = argsL.reverse ++ .ref b :: rest)
    (K : ∀ v T' Lc, Stand p l e R s m args below meth c T' (locs ++ Lc) (cells + rm.cells) (slots + rm.slots) → QC v T'.heap Lc → Ends p e below Q (T'.setTop (mkF m pc' L (v.toList ++ rest)))) (hn : y.cls ≠ "java/lang/invoke/MethodHandle" ∧ y.cls ≠ "java/lang/invoke/VarHandle" := by decide) (hr : rm.frames + 1 ≤ R.frames ∧ W + (maxL + 11) + rm.locals ≤ R.locals ∧ cells + rm.cells ≤ R.cells ∧ slots + rm.slots ≤ R.slots := by decide) (hi : y.name ≠ "<init>" := by decide) (hl : argsL.length = ps.length := by exact rfl) (hW : (rest.map fun v => v.category).sum = W := by exact rfl) (hL : L.size = ml := by exact rfl) (hp : pc + 3 = pc' := by exact rfl) : Ends p e below Q (T.setTop (mkF m pc L S)) := by
  subst hp hS ha hW
  obtain ⟨v, _, ⟨T', L', k', n'⟩, -, X', ⟨Lc, hq, l1, y1, z1⟩, stp⟩ := superBack X hy.1 hZ (y := y) hown (tb hw i1 h1) (own_same (tb hw i2 h2) hn (tb hw i3 h3) hxy) (tb hw i2 h2) (tb hw i4 h4) hi (backOf (W := (rest.map fun v => v.category).sum) hM hZ (tb hw i5 h5) (tb hw i6 h6) hr.1 hr.2.1) eT (Ins.self E)
    (g := mkF m pc L (argsL.reverse ++ .ref b :: rest)) rfl (by rw [hml]; exact hL) (tb hw i5 h5) (argsL := argsL) (rest := rest) (lenOf hd hl) rfl (by show 2 * 0 + _ ≤ _; omega) (hb hy.2 d) (fun _ _ => ⟨rfl, eT, hr.2.2⟩)
  dsimp only [Pt.U, Pt.locs, Pt.cells, Pt.slots] at X' l1 y1 z1 stp hq
  subst l1 y1 z1
  exact Ends.step (fun _ kk => stp.trans kk) (K v T' Lc X' hq)
theorem MF.of {y : MethodName} {bytes : ByteArray} {maxL : Nat} {ret : Option FieldType} {ws : List Jvm.Cond} {rm : Room} {as' : Array Value} {Z : State} {h : Heap} {QC : Option Value → Heap → List Loc → Prop} (pl : plainFor y = true)
    (F : ∀ (p : Program) (e : Env) (s : State) (m : MethodId) (below : List Frame) (meth : Method) (c : Code) (T : State) (QQ : Outcome → State → Prop), (p.tables.exec = Jvm.exec ∧ c.code = bytes) → c.maxLocals = maxL → s.vm.findClass y.cls = some m.cls → Z.Warmed39 s.vm → Stand p l e rm s m as' below meth c T [] 0 0 → T.heap = h → meth.sig.returnType = ret → meth.locks = false → meth.name = y.name →
      (∀ o t, (∃ v L, o = .returned v ∧ QC v t.heap L ∧ FrameEnd s o t L rm.cells rm.slots) → QQ o t) → Ends p e below QQ (T.setTop (entryFrame m as' maxL))) : MF l y bytes maxL ret ws rm as' Z h QC := by
  refine MetFree.of_bodySF pl hisR ?_
  intro p e s m args below meth c s₁ Bd hml0 hP hK
  obtain ⟨rfl, hZ, hh⟩ := hP
  refine Ends.opn ?_
  intro QQ hQQ
  exact F p e s m below meth c s₁ QQ ⟨Bd.exec, Bd.bytes⟩ hml0 (findClass_of_methodNamed Bd.named) hZ (Stand.of_body Bd) (by rw [← hh, Bd.state]; rfl) Bd.returns Bd.notSynchronized (name_of_methodNamed Bd.named Bd.method).1 hQQ
theorem fI (X : Stand p l e R s m args below meth c T locs cells slots) (hy : p.tables.exec = Jvm.exec ∧ c.code = code) {t : FieldType} {x : Int32} {QC : Option Value → Heap → List Loc → Prop} {cl sl : Nat} {h : Heap} (hrt : meth.sig.returnType = some t) (hlk : meth.locks = false)
    (hQQ : ∀ o t, (∃ v L, o = .returned v ∧ QC v t.heap L ∧ FrameEnd s o t L cl sl) → Q o t) (d : decode code pc = .ok (.ireturn, 1)) (hn : narrow t (.int x) = .int x) (hi : t = .int ∨ t = .boolean ∨ t = .byte ∨ t = .char ∨ t = .short) (eT : T.heap = h) (hcs : cells ≤ cl ∧ slots ≤ sl) (q : QC (some (.int x)) h locs) : Ends p e below Q (T.setTop (mkF m pc L (.int x :: st))) :=
  Ends.fin (some (.int x)) X hQQ (fun h => by rw [hrt] at h; cases h) hlk (fun _ hr => retOut X hy.1 hrt hn (Or.inl ⟨rfl, hi, _, rfl⟩) (hb hy.2 d) hr) eT hcs.1 hcs.2 q
theorem fJ (X : Stand p l e R s m args below meth c T locs cells slots) (hy : p.tables.exec = Jvm.exec ∧ c.code = code) {x : Int64} {QC : Option Value → Heap → List Loc → Prop} {cl sl : Nat} {h : Heap} (hrt : meth.sig.returnType = some .long) (hlk : meth.locks = false)
    (hQQ : ∀ o t, (∃ v L, o = .returned v ∧ QC v t.heap L ∧ FrameEnd s o t L cl sl) → Q o t) (d : decode code pc = .ok (.lreturn, 1)) (eT : T.heap = h) (hcs : cells ≤ cl ∧ slots ≤ sl) (q : QC (some (.long x)) h locs) : Ends p e below Q (T.setTop (mkF m pc L (.long x :: st))) :=
  Ends.fin (some (.long x)) X hQQ (fun h => by rw [hrt] at h; cases h) hlk (fun _ hr => retOut X hy.1 hrt rfl (Or.inr (Or.inl ⟨rfl, rfl, _, rfl⟩)) (hb hy.2 d) hr) eT hcs.1 hcs.2 q
theorem fA (X : Stand p l e R s m args below meth c T locs cells slots) (hy : p.tables.exec = Jvm.exec ∧ c.code = code) {t : FieldType} {x : Addr} {QC : Option Value → Heap → List Loc → Prop} {cl sl : Nat} {h : Heap} (hrt : meth.sig.returnType = some t) (hlk : meth.locks = false)
    (hQQ : ∀ o t, (∃ v L, o = .returned v ∧ QC v t.heap L ∧ FrameEnd s o t L cl sl) → Q o t) (d : decode code pc = .ok (.areturn, 1)) (hn : narrow t (.ref x) = .ref x) (hi : t.isReference = true) (eT : T.heap = h) (hcs : cells ≤ cl ∧ slots ≤ sl) (q : QC (some (.ref x)) h locs) : Ends p e below Q (T.setTop (mkF m pc L (.ref x :: st))) :=
  Ends.fin (some (.ref x)) X hQQ (fun h => by rw [hrt] at h; cases h) hlk (fun _ hr => retOut X hy.1 hrt hn (Or.inr (Or.inr (Or.inr (Or.inr ⟨rfl, hi, rfl⟩)))) (hb hy.2 d) hr) eT hcs.1 hcs.2 q
theorem fV (X : Stand p l e R s m args below meth c T locs cells slots) (hy : p.tables.exec = Jvm.exec ∧ c.code = code) {QC : Option Value → Heap → List Loc → Prop} {cl sl : Nat} {h : Heap} (hrt : meth.sig.returnType = none) (hlk : meth.locks = false)
    (hQQ : ∀ o t, (∃ v L, o = .returned v ∧ QC v t.heap L ∧ FrameEnd s o t L cl sl) → Q o t) (d : decode code pc = .ok (.return_, 1)) (eT : T.heap = h) (hcs : cells ≤ cl ∧ slots ≤ sl) (q : QC none h locs) : Ends p e below Q (T.setTop (mkF m pc L [])) :=
  Ends.fin none X hQQ (fun _ => rfl) hlk (fun _ hr => X.returnOut hy.1 hrt (hb hy.2 d) hr) eT hcs.1 hcs.2 q
theorem gF (X : Stand p l e R s m args below meth c T locs cells slots) (hy : p.tables.exec = Jvm.exec ∧ c.code = code) {own O n dd : String} {index : Nat} {Z : State} {a0 : Array Value} {h : Heap} {a : Addr} {v : Value} (hown : s.vm.findClass own = some m.cls) (hZ : Z.Warmed39 s.vm) (hw : ∀ d ∈ tables_1, d.before a0 Z = true) (eT : T.heap = h) (F : Fld Z h a O n dd v)
    (d : decode code pc = .ok (.getfield index, 3)) (pc' i : Nat) (hi : tables_1[i]? = some (.fieldLink own index O n dd)) (K : ∀ T', Stand p l e R s m args below meth c T' locs cells slots → T'.heap = h → Ends p e below Q (T'.setTop (mkF m pc' L (v :: st)))) (hp : pc + 3 = pc' := by exact rfl) : Ends p e below Q (T.setTop (mkF m pc L (.ref a :: st))) := by
  subst hp
  obtain ⟨T', X', e', stp⟩ := getF X hy.1 hZ hown (host := "") (Or.inl (tb hw i hi)) Via.refl eT F (g := mkF m pc L (.ref a :: st)) rfl rfl (hb hy.2 d)
  exact Ends.step stp (K T' X' e')
theorem gS (X : Stand p l e R s m args below meth c T locs cells slots) (hy : p.tables.exec = Jvm.exec ∧ c.code = code) {own O n dd : String} {index : Nat} {Z : State} {a0 : Array Value} {h : Heap} {v : Value} (hown : s.vm.findClass own = some m.cls) (hZ : Z.Warmed39 s.vm) (hw : ∀ d ∈ tables_1, d.before a0 Z = true) (eT : T.heap = h) (F : Sta Z h O n dd v)
    (d : decode code pc = .ok (.getstatic index, 3)) (pc' i : Nat) (hi : tables_1[i]? = some (.fieldLink own index O n dd)) (K : ∀ T', Stand p l e R s m args below meth c T' locs cells slots → T'.heap = h → Ends p e below Q (T'.setTop (mkF m pc' L (v :: st)))) (hp : pc + 3 = pc' := by exact rfl) : Ends p e below Q (T.setTop (mkF m pc L st)) := by
  subst hp
  obtain ⟨T', X', e', stp⟩ := getS2 X hy.1 hZ hown (host := "") (Or.inl (tb hw i hi)) Via.refl eT F (g := mkF m pc L st) rfl (hb hy.2 d)
  exact Ends.step stp (K T' X' e')
section Arrs
variable {Z : State} {h : Heap} {a : Addr} {kk : ClassId} {z j : Int32} {vs : List Value} {dv : Value}
theorem aLB (X : Stand p l e R s m args below meth c T locs cells slots) (hy : p.tables.exec = Jvm.exec ∧ c.code = code) (hZ : Z.Warmed39 s.vm) (eT : T.heap = h) (A : Arv Z h a kk .byte z vs dv) (d : decode code pc = .ok (.baload, 1)) (pc' : Nat) (v : Value) (q : ¬ j < 0 ∧ j < z) (u : vs.getD j.toNatClampNeg dv = v) (hh : Ends p e below Q (T.setTop (mkF m pc' L (v :: st)))) (hp : pc + 1 = pc' := by exact rfl) : Ends p e below Q (T.setTop (mkF m pc L (.int j :: .ref a :: st))) := by
  subst hp
  obtain ⟨cl, Ar, -, S, P, H, -⟩ := A
  have hin := inb_of S q
  exact Ends.step (fun _ k => X.baloadBytes hy.1 (by rw [eT]; exact Ar.1) (State.isArrayOf_alike hZ.alike Ar.2.1) Ar.2.2 hin (H.at hin u) (g := mkF m pc L (.int j :: .ref a :: st)) rfl rfl (hb hy.2 d) _ k) hh
theorem aLJ (X : Stand p l e R s m args below meth c T locs cells slots) (hy : p.tables.exec = Jvm.exec ∧ c.code = code) (hZ : Z.Warmed39 s.vm) (eT : T.heap = h) (A : Arv Z h a kk .long z vs dv) (d : decode code pc = .ok (.laload, 1)) (pc' : Nat) (v : Value) (q : ¬ j < 0 ∧ j < z) (u : vs.getD j.toNatClampNeg dv = v) (hh : Ends p e below Q (T.setTop (mkF m pc' L (v :: st)))) (hp : pc + 1 = pc' := by exact rfl) : Ends p e below Q (T.setTop (mkF m pc L (.int j :: .ref a :: st))) := by
  subst hp
  obtain ⟨cl, Ar, -, S, P, H, -⟩ := A
  have hin := inb_of S q
  exact Ends.step (fun _ k => X.laload hy.1 (by rw [eT]; exact Ar.1) (State.isArrayOf_alike hZ.alike Ar.2.1) Ar.2.2 hin (H.at hin u) (g := mkF m pc L (.int j :: .ref a :: st)) rfl rfl (hb hy.2 d) _ k) hh
theorem aLC (X : Stand p l e R s m args below meth c T locs cells slots) (hy : p.tables.exec = Jvm.exec ∧ c.code = code) (hZ : Z.Warmed39 s.vm) (eT : T.heap = h) (A : Arv Z h a kk .char z vs dv) (d : decode code pc = .ok (.caload, 1)) (pc' : Nat) (v : Value) (q : ¬ j < 0 ∧ j < z) (u : vs.getD j.toNatClampNeg dv = v) (hh : Ends p e below Q (T.setTop (mkF m pc' L (v :: st)))) (hp : pc + 1 = pc' := by exact rfl) : Ends p e below Q (T.setTop (mkF m pc L (.int j :: .ref a :: st))) := by
  subst hp
  obtain ⟨cl, Ar, -, S, P, H, -⟩ := A
  have hin := inb_of S q
  exact Ends.step (fun _ k => X.caload hy.1 (by rw [eT]; exact Ar.1) (State.isArrayOf_alike hZ.alike Ar.2.1) Ar.2.2 hin (H.at hin u) (g := mkF m pc L (.int j :: .ref a :: st)) rfl rfl (hb hy.2 d) _ k) hh
theorem aLn {ty : FieldType} (X : Stand p l e R s m args below meth c T locs cells slots) (hy : p.tables.exec = Jvm.exec ∧ c.code = code) (hZ : Z.Warmed39 s.vm) (eT : T.heap = h) (A : Arv Z h a kk ty z vs dv) (d : decode code pc = .ok (.arraylength, 1)) (pc' : Nat) (hh : Ends p e below Q (T.setTop (mkF m pc' L (.int z :: st)))) (hp : pc + 1 = pc' := by exact rfl) : Ends p e below Q (T.setTop (mkF m pc L (.ref a :: st))) := by
  subst hp
  obtain ⟨cl, Ar, -, S, P, -, -⟩ := A
  exact Ends.step (S' := T.setTop (mkF m (pc + 1) L (.int z :: st))) (fun _ k => X.arraylength hy.1 (by rw [eT]; exact Ar.1) (State.isArrayOf_alike hZ.alike Ar.2.1) (g := mkF m pc L (.ref a :: st)) rfl rfl (hb hy.2 d) _ (by rw [len_of S P]; exact k)) hh
theorem aSB {x : Int32} (X : Stand p l e R s m args below meth c T locs cells slots) (hy : p.tables.exec = Jvm.exec ∧ c.code = code) (hZ : Z.Warmed39 s.vm) (eT : T.heap = h) (A : Arv Z h a kk .byte z vs dv) (d : decode code pc = .ok (.bastore, 1)) (pc' : Nat) (q : ¬ j < 0 ∧ j < z) (K : ∀ T' h', Stand p l e R s m args below meth c T' (locs ++ [⟨a, j.toNatClampNeg⟩]) cells slots → T'.heap = h' → Wr h h' a j.toNatClampNeg (.int (nar .byte x)) → Ends p e below Q (T'.setTop (mkF m pc' L st))) (hp : pc + 1 = pc' := by exact rfl) : Ends p e below Q (T.setTop (mkF m pc L (.int x :: .int j :: .ref a :: st))) := by
  subst hp
  obtain ⟨cl, Ar, -, S, P, H, -⟩ := A
  obtain ⟨T', h', X', e', W', stp⟩ := stB X hy.1 hZ eT Ar (j := j) (inb_of S q) (g := mkF m pc L (.int x :: .int j :: .ref a :: st)) rfl rfl (hb hy.2 d)
  exact Ends.step stp (K T' h' X' e' W')
theorem aSC {x : Int32} (X : Stand p l e R s m args below meth c T locs cells slots) (hy : p.tables.exec = Jvm.exec ∧ c.code = code) (hZ : Z.Warmed39 s.vm) (eT : T.heap = h) (A : Arv Z h a kk .char z vs dv) (d : decode code pc = .ok (.castore, 1)) (pc' : Nat) (q : ¬ j < 0 ∧ j < z) (K : ∀ T' h', Stand p l e R s m args below meth c T' (locs ++ [⟨a, j.toNatClampNeg⟩]) cells slots → T'.heap = h' → Wr h h' a j.toNatClampNeg (.int (nar .char x)) → Ends p e below Q (T'.setTop (mkF m pc' L st))) (hp : pc + 1 = pc' := by exact rfl) : Ends p e below Q (T.setTop (mkF m pc L (.int x :: .int j :: .ref a :: st))) := by
  subst hp
  obtain ⟨cl, Ar, -, S, P, H, -⟩ := A
  obtain ⟨T', h', X', e', W', stp⟩ := stC X hy.1 hZ eT Ar (j := j) (inb_of S q) (g := mkF m pc L (.int x :: .int j :: .ref a :: st)) rfl rfl (hb hy.2 d)
  exact Ends.step stp (K T' h' X' e' W')
theorem aSJ {x : Int64} (X : Stand p l e R s m args below meth c T locs cells slots) (hy : p.tables.exec = Jvm.exec ∧ c.code = code) (hZ : Z.Warmed39 s.vm) (eT : T.heap = h) (A : Arv Z h a kk .long z vs dv) (d : decode code pc = .ok (.lastore, 1)) (pc' : Nat) (q : ¬ j < 0 ∧ j < z) (K : ∀ T' h', Stand p l e R s m args below meth c T' (locs ++ [⟨a, j.toNatClampNeg⟩]) cells slots → T'.heap = h' → Wr h h' a j.toNatClampNeg (.long x) → Ends p e below Q (T'.setTop (mkF m pc' L st))) (hp : pc + 1 = pc' := by exact rfl) : Ends p e below Q (T.setTop (mkF m pc L (.long x :: .int j :: .ref a :: st))) := by
  subst hp
  obtain ⟨cl, Ar, -, S, P, H, -⟩ := A
  obtain ⟨T', h', X', e', W', stp⟩ := stJ X hy.1 hZ eT Ar (j := j) (inb_of S q) (g := mkF m pc L (.long x :: .int j :: .ref a :: st)) rfl rfl (hb hy.2 d)
  exact Ends.step stp (K T' h' X' e' W')
theorem As {ty : FieldType} {h' : Heap} {v : Value} (A : Arv Z h a kk ty z vs dv) (hv : fits ty v = true) (W : Wr h h' a j.toNatClampNeg v) (i : Nat) (hj : j.toNatClampNeg = i) (hi : i < vs.length) : Arv Z h' a kk ty z (vs.set i v) dv := by
  obtain ⟨c, A, q1, S, q3, H, G⟩ := A
  exact Arv.set A q1 S q3 H G hv W i hj hi
end Arrs
end Ops
abbrev mN0 : MethodName := ⟨"java/lang/String", "<init>", "([CIILjava/lang/Void;)V"⟩
abbrev mN1 : MethodName := ⟨"java/lang/String", "<init>", "([C)V"⟩
abbrev mN2 : MethodName := ⟨"com/example/hiscore/hiscore/WholeNumber", "parse", "(Ljava/lang/String;)J"⟩
abbrev mN3 : MethodName := ⟨"java/lang/String", "coder", "()B"⟩
abbrev mN4 : MethodName := ⟨"java/lang/String", "length", "()I"⟩
abbrev mN5 : MethodName := ⟨"java/lang/String", "isEmpty", "()Z"⟩
abbrev mN6 : MethodName := ⟨"java/lang/String", "isLatin1", "()Z"⟩
abbrev mN7 : MethodName := ⟨"java/lang/String", "charAt", "(I)C"⟩
abbrev mN8 : MethodName := ⟨"java/lang/StringUTF16", "compress", "([CI[BII)I"⟩
abbrev mN9 : MethodName := ⟨"java/lang/StringUTF16", "compress", "([CII)[B"⟩
abbrev mN10 : MethodName := ⟨"java/lang/StringUTF16", "coderFromArrayLen", "([BI)B"⟩
abbrev mN11 : MethodName := ⟨"java/lang/StringUTF16", "putChar", "([BII)V"⟩
abbrev mN12 : MethodName := ⟨"com/example/hiscore/hiscore/WholeNumberParsePinLaw", "isDig", "(C)Z"⟩
abbrev mN13 : MethodName := ⟨"com/example/hiscore/hiscore/WholeNumberParsePinLaw", "dg", "(JJ)C"⟩
abbrev mN14 : MethodName := ⟨"com/example/hiscore/hiscore/WholeNumberParsePinLaw", "shortExpected", "(ICCC)J"⟩
abbrev mN15 : MethodName := ⟨"jdk/internal/util/Preconditions", "checkIndex", "(IILjava/util/function/BiFunction;)I"⟩
abbrev mN16 : MethodName := ⟨"java/lang/String", "checkIndex", "(II)V"⟩
abbrev mN17 : MethodName := ⟨"java/lang/StringLatin1", "charAt", "([BI)C"⟩
abbrev mN18 : MethodName := ⟨"java/lang/StringUTF16", "length", "([B)I"⟩
abbrev mN19 : MethodName := ⟨"java/lang/StringUTF16", "checkIndex", "(I[B)V"⟩
abbrev mN20 : MethodName := ⟨"java/lang/StringUTF16", "getChar", "([BI)C"⟩
abbrev mN21 : MethodName := ⟨"java/lang/StringUTF16", "charAt", "([BI)C"⟩
abbrev mN22 : MethodName := ⟨"java/lang/StringUTF16", "newBytesLength", "(I)I"⟩
abbrev mN23 : MethodName := ⟨"java/lang/StringUTF16", "newBytesFor", "(I)[B"⟩
abbrev mN24 : MethodName := ⟨"java/lang/StringUTF16", "toBytes", "([CII)[B"⟩
abbrev fAQ (Z : State) (h : Heap) (a : Addr) (v : Value) : Prop := Fld Z h a "java/lang/String" "coder" "B" v
abbrev fBQ (Z : State) (h : Heap) (a : Addr) (v : Value) : Prop := Fld Z h a "java/lang/String" "value" "[B" v
abbrev sCQ (Z : State) (h : Heap) (v : Value) : Prop := Sta Z h "java/lang/String" "COMPACT_STRINGS" "Z" v
abbrev sDQ (Z : State) (h : Heap) (v : Value) : Prop := Sta Z h "jdk/internal/util/Preconditions" "SIOOBE_FORMATTER" "Ljava/util/function/BiFunction;" v
abbrev sEQ (Z : State) (h : Heap) (v : Value) : Prop := Sta Z h "java/lang/StringUTF16" "$assertionsDisabled" "Z" v
abbrev sFQ (Z : State) (h : Heap) (v : Value) : Prop := Sta Z h "java/lang/StringUTF16" "HI_BYTE_SHIFT" "I" v
abbrev sGQ (Z : State) (h : Heap) (v : Value) : Prop := Sta Z h "java/lang/StringUTF16" "LO_BYTE_SHIFT" "I" v
abbrev eAQ (Z : State) (h : Heap) (a : Addr) : Prop := Exa Z h a "java/lang/String"
abbrev eBQ (Z : State) (h : Heap) (a : Addr) : Prop := Exa Z h a "[B"
abbrev cD0 := method_4_code
abbrev cD1 := prog_13_method_2_code
abbrev cD2 := jdk_42_method_149_code
abbrev cD3 := jdk_52_method_16_code
abbrev cD4 := jdk_52_method_21_code
abbrev cD5 := jdk_52_method_5_code
abbrev cD6 := jdk_52_method_4_code
abbrev cD7 := jdk_52_method_14_code
abbrev cD8 := jdk_42_method_56_code
abbrev cD9 := jdk_43_method_2_code
abbrev cD10 := method_2_code
abbrev cD11 := method_3_code
abbrev cD12 := jdk_42_method_154_code
abbrev cD13 := jdk_52_method_3_code
abbrev cD14 := jdk_42_method_55_code
abbrev cD15 := jdk_52_method_15_code
abbrev cD16 := jdk_42_method_3_code
abbrev cD17 := jdk_42_method_54_code
abbrev cD18 := jdk_41_method_11_code
abbrev cD19 := jdk_52_method_83_code
abbrev cD20 := jdk_42_method_152_code
abbrev cD21 := jdk_42_method_155_code
abbrev cD22 := jdk_52_method_6_code
abbrev cD23 := jdk_52_method_91_code
abbrev cD24 := jdk_52_method_2_code
theorem mm0 {α : Type} {a : α} {l : List α} : a ∈ a :: l := List.mem_of_getElem? (i := 0) rfl
theorem mm1 {α : Type} {a b : α} {l : List α} : b ∈ a :: b :: l := List.mem_of_getElem? (i := 1) rfl
abbrev TW (a0 : Array Value) (Z : State) : Prop := ∀ d ∈ tables_1, d.before a0 Z = true
abbrev QT := Option Value → Heap → List Loc → Prop
set_option maxRecDepth 65536
set_option maxHeartbeats 40000000
theorem pn_0 : plainName "com/example/hiscore/hiscore/WholeNumberParsePinLaw" = true := by first | (simp [plainName, overriddenIn]; done) | decide +kernel
theorem pn_1 : plainName "java/lang/String" = true := by first | (simp [plainName, overriddenIn]; done) | decide +kernel
theorem pn_2 : plainName "jdk/internal/util/Preconditions" = true := by first | (simp [plainName, overriddenIn]; done) | decide +kernel
theorem pn_3 : plainName "java/lang/StringLatin1" = true := by first | (simp [plainName, overriddenIn]; done) | decide +kernel
theorem pn_4 : plainName "java/lang/StringUTF16" = true := by first | (simp [plainName, overriddenIn]; done) | decide +kernel
theorem pn_5 : plainName "com/example/hiscore/hiscore/WholeNumber" = true := by first | (simp [plainName, overriddenIn]; done) | decide +kernel
theorem pd_0 : parseMethodDescriptor "(C)Z" = some ⟨[.char], some .boolean⟩ := by decide +kernel
theorem pd_1 : parseMethodDescriptor "()B" = some ⟨[], some .byte⟩ := by decide +kernel
theorem pd_2 : parseMethodDescriptor "(IILjava/util/function/BiFunction;)I" = some ⟨[.int, .int, (.object "java/util/function/BiFunction")], some .int⟩ := by decide +kernel
theorem pd_3 : parseMethodDescriptor "(II)V" = some ⟨[.int, .int], none⟩ := by decide +kernel
theorem pd_4 : parseMethodDescriptor "()Z" = some ⟨[], some .boolean⟩ := by decide +kernel
theorem pd_5 : parseMethodDescriptor "([BI)C" = some ⟨[(.array .byte), .int], some .char⟩ := by decide +kernel
theorem pd_6 : parseMethodDescriptor "([B)I" = some ⟨[(.array .byte)], some .int⟩ := by decide +kernel
theorem pd_7 : parseMethodDescriptor "(I[B)V" = some ⟨[.int, (.array .byte)], none⟩ := by decide +kernel
theorem pd_8 : parseMethodDescriptor "(I)I" = some ⟨[.int], some .int⟩ := by decide +kernel
theorem pd_9 : parseMethodDescriptor "(I)[B" = some ⟨[.int], some (.array .byte)⟩ := by decide +kernel
theorem pd_10 : parseMethodDescriptor "([BII)V" = some ⟨[(.array .byte), .int, .int], none⟩ := by decide +kernel
theorem pd_11 : parseMethodDescriptor "([CI[BII)I" = some ⟨[(.array .char), .int, (.array .byte), .int, .int], some .int⟩ := by decide +kernel
theorem pd_12 : parseMethodDescriptor "([CII)[B" = some ⟨[(.array .char), .int, .int], some (.array .byte)⟩ := by decide +kernel
theorem pd_13 : parseMethodDescriptor "([BI)B" = some ⟨[(.array .byte), .int], some .byte⟩ := by decide +kernel
theorem pd_14 : parseMethodDescriptor "([CIILjava/lang/Void;)V" = some ⟨[(.array .char), .int, .int, (.object "java/lang/Void")], none⟩ := by decide +kernel
theorem pd_15 : parseMethodDescriptor "()I" = some ⟨[], some .int⟩ := by decide +kernel
theorem pd_16 : parseMethodDescriptor "(I)C" = some ⟨[.int], some .char⟩ := by decide +kernel
theorem pd_17 : parseMethodDescriptor "(ICCC)J" = some ⟨[.int, .char, .char, .char], some .long⟩ := by decide +kernel
theorem pd_18 : parseMethodDescriptor "([C)V" = some ⟨[(.array .char)], none⟩ := by decide +kernel
theorem pd_19 : parseMethodDescriptor "(Ljava/lang/String;)J" = some ⟨[(.object "java/lang/String")], some .long⟩ := by decide +kernel
theorem pd_20 : parseMethodDescriptor "(JJ)C" = some ⟨[.long, .long], some .char⟩ := by decide +kernel
theorem own_len {args : Array Value} {s : State} {t : Term} {n : Int32} {x : Addr} {cl : Cell} {ty : FieldType} (h : (Jvm.Cond.eq (Term.length t) (Term.int n)).value args s none s [] = some true) (ev : t.eval args s none [] s = some (.ref x)) (A : Arr s s.heap x cl ty) : cl.slots.size < 2 ^ 31 ∧ cl.slots.size.toInt32 = n := by
  obtain ⟨v, w, h1, h2, -, -⟩ := cmp_v (Or.inl h)
  have ha := A.fin (Vm.Alike.refl _)
  by_cases hl : cl.slots.size < 2 ^ 31
  · refine ⟨hl, ?_⟩
    have e := len_f ev ha hl (args := args) (first := s) (o := none) (idx := [])
    simp only [Cond.value, e, Term.int_eval] at h
    simpa using h
  · simp [Term.eval, ev, ha, hl] at h1
theorem own_elem {args : Array Value} {s : State} {t u : Term} {j : Int32} {x : Addr} {cl : Cell} {ty : FieldType} {v : Value} (h : (Jvm.Cond.eq (Term.elem t (Term.int j)) u).value args s none s [] = some true) (ev : t.eval args s none [] s = some (.ref x)) (A : Arr s s.heap x cl ty) (eu : u.eval args s none [] s = some v) : cl.slots[j.toNatClampNeg]? = some v := by
  obtain ⟨a, b, h1, h2, k1, k2⟩ := cmp_v (Or.inl h)
  cases eu.symm.trans h2
  have q := elem_in h1 ev (Term.int_eval j) A.1
  rw [q.2]
  simp only [Cond.value, h1, h2] at h
  cases a <;> cases v <;> simp_all [Kin, Value.isRef]
theorem own_elemJ {args : Array Value} {s : State} {t : Term} {j : Nat} {x : Addr} {cl : Cell} {ty : FieldType} {v : Int32} (h : (Jvm.Cond.eq (Term.elem t (Term.index 0)) (Term.int v)).value args s none s [j] = some true) (ev : t.eval args s none [j] s = some (.ref x)) (A : Arr s s.heap x cl ty) (hl : cl.slots.size < 2 ^ 31) (hj : j < cl.slots.size) : cl.slots[j]? = some (.int v) := by
  obtain ⟨a, b, h1, h2, k1, k2⟩ := cmp_v (Or.inl h)
  have q := elem_in h1 ev (Term.index_eval j) A.1
  have ej : j.toInt32.toNatClampNeg = j := by have := len_toInt (show j < 2 ^ 31 by omega); simp only [Int32.toNatClampNeg]; omega
  rw [ej] at q
  rw [q.2]
  cases (Term.int_eval v).symm.trans h2
  simp only [Cond.value, h1, h2] at h
  cases a <;> simp_all [Kin, Value.isRef]
theorem own_fld {args : Array Value} {s : State} {t u : Term} {x : Addr} {C f d : String} {v : Value} (h : (Jvm.Cond.eq (Term.field t C f d) u).value args s none s [] = some true) (ev : t.eval args s none [] s = some (.ref x)) (eu : u.eval args s none [] s = some v) : Fld s s.heap x C f d v := by
  obtain ⟨a, b, h1, h2, k1, k2⟩ := cmp_v (Or.inl h)
  cases eu.symm.trans h2
  have e : a = v := by
    simp only [Cond.value, h1, h2] at h
    cases a <;> cases v <;> simp_all [Kin, Value.isRef]
  subst e
  exact Fld.start ((fld_at ev).symm.trans h1)
theorem own_idx {args : Array Value} {s : State} {C n d : String} {v : Value} (ev : (Term.static C n d).eval args s none [] s = some v) (idx : List Nat := []) : (Term.static C n d).eval args s none idx s = some v := ev
theorem own_lt {k : Nat} {n : Int32} {j : Nat} (h : k.toInt32 = n) (h2 : k < 2 ^ 31) (h3 : (j : Int) < n.toInt) : j < k := by
  have := len_toInt h2
  rw [h] at this
  omega
theorem own_all3 {args : Array Value} {s : State} {t : Term} {a b v : Int32} {x : Addr} {cl : Cell} {ty : FieldType} (h : (Jvm.Cond.all t (.or (.lt (.index 0) (.int a)) (.or (.le (.int b) (.index 0)) (.eq (.elem t (.index 0)) (.int v))))).value args s none s [] = some true)
    (ev : ∀ idx, t.eval args s none idx s = some (.ref x)) (A : Arr s s.heap x cl ty) (hl : cl.slots.size < 2 ^ 31) (j : Nat) (hj : j < cl.slots.size) (h1 : a.toInt ≤ j) (h2 : (j : Int) < b.toInt) : cl.slots[j]? = some (.int v) := by
  have e := Cond.all_elim (ev []) (A.fin (Vm.Alike.refl _)) h j hj
  have ej : j.toInt32.toInt = j := len_toInt (by omega)
  have g1 : (Jvm.Cond.lt (.index 0) (.int a)).value args s none s [j] = some false := by
    simp only [Cond.value, Term.index_eval, Term.int_eval, Int32.lt_iff_toInt_lt, ej]; simp; omega
  have g2 : (Jvm.Cond.le (.int b) (.index 0)).value args s none s [j] = some false := by
    simp only [Cond.value, Term.index_eval, Term.int_eval, Int32.le_iff_toInt_le, ej]; simp; omega
  rw [Cond.or_of_right g1, Cond.or_of_right g2] at e
  exact own_elemJ e (ev [j]) A hl hj
theorem own_allH {args : Array Value} {s : State} {t : Term} {b v : Int32} {x : Addr} {cl : Cell} {ty : FieldType} (h : (Jvm.Cond.all t (.or (.le (.int b) (.index 0)) (.eq (.elem t (.index 0)) (.int v)))).value args s none s [] = some true)
    (ev : ∀ idx, t.eval args s none idx s = some (.ref x)) (A : Arr s s.heap x cl ty) (hl : cl.slots.size < 2 ^ 31) (j : Nat) (hj : j < cl.slots.size) (h2 : (j : Int) < b.toInt) : cl.slots[j]? = some (.int v) := by
  have e := Cond.all_elim (ev []) (A.fin (Vm.Alike.refl _)) h j hj
  have ej : j.toInt32.toInt = j := len_toInt (by omega)
  have g2 : (Jvm.Cond.le (.int b) (.index 0)).value args s none s [j] = some false := by
    simp only [Cond.value, Term.index_eval, Term.int_eval, Int32.le_iff_toInt_le, ej]; simp; omega
  rw [Cond.or_of_right g2] at e
  exact own_elemJ e (ev [j]) A hl hj
theorem own_nz {args : Array Value} {s : State} {t : Term} {x : Int32} (h : (Jvm.Cond.not (Jvm.Cond.eq t (Term.int 0))).value args s none s [] = some true) (ev : t.eval args s none [] s = some (.int x)) : ¬ x = (0 : Int32) := by
  simpa [Cond.value, ev, Term.eval] using h
theorem own_shr0 (n : Int32) : n >>> ((0 : Int32) &&& 31) = n := by
  apply Int32.toInt_inj.mp
  rw [c_ishr n 0 0 (by decide)]
  simp
theorem own_ev {args : Array Value} {s : State} {t : Term} {v : Int32} (h : (Jvm.Cond.eq t (Term.int v)).before args s = true) : t.eval args s none [] s = some (.int v) := by
  have h := Cond.before_iff.mp h
  obtain ⟨a, b, h1, h2, k1, k2⟩ := cmp_v (Or.inl h)
  cases (Term.int_eval v).symm.trans h2
  simp only [Cond.value, h1, h2] at h
  rw [h1]
  cases a <;> simp_all [Kin, Value.isRef]
def own_gc (h l : Int32) : Int32 := (((h &&& (255 : Int32)) <<< ((0 : Int32) &&& 31)) ||| ((l &&& (255 : Int32)) <<< ((8 : Int32) &&& 31))).toUInt32.toUInt16.toUInt32.toInt32
theorem own_narc' {h l c : Int32} (hc : own_gc h l = c) : narrow .char (.int c) = .int c := by
  rw [← hc]; exact XT.narrow_c _
theorem own_u16 {x : Int32} (b0 : 0 ≤ x.toInt) (b1 : x.toInt < 65536) : own_gc (x >>> ((0 : Int32) &&& 31)).toInt8.toInt32 (x >>> ((8 : Int32) &&& 31)).toInt8.toInt32 = x := by
  unfold own_gc
  have s0 := c_ishr x 0 0 (by decide)
  have s8 := c_ishr x 8 8 (by decide)
  generalize (x >>> ((0 : Int32) &&& 31)) = y0 at s0 ⊢
  generalize (x >>> ((8 : Int32) &&& 31)) = y8 at s8 ⊢
  have i0 := c_i2b y0
  have i8 := c_i2b y8
  generalize y0.toInt8.toInt32 = z0 at i0 ⊢
  generalize y8.toInt8.toInt32 = z8 at i8 ⊢
  have m0 := c_mask z0 255 8 (by decide) (by decide)
  have m8 := c_mask z8 255 8 (by decide) (by decide)
  generalize (z0 &&& (255 : Int32)) = w0 at m0 ⊢
  generalize (z8 &&& (255 : Int32)) = w8 at m8 ⊢
  have l0 := c_ishl w0 0 0 (by decide)
  have l8 := c_ishl w8 8 8 (by decide)
  generalize (w0 <<< ((0 : Int32) &&& 31)) = t0 at l0 ⊢
  generalize (w8 <<< ((8 : Int32) &&& 31)) = t8 at l8 ⊢
  have g0 := Int32.toInt_lt t0
  have g1 := Int32.le_toInt t0
  have g2 := Int32.toInt_lt t8
  have g3 := Int32.le_toInt t8
  have o := c_or' t0 t8 8 (by decide) 256 (by decide)
  generalize (t0 ||| t8) = q at o ⊢
  have c := c_i2c q
  have k0 := Int32.toInt_lt q
  have k1 := Int32.le_toInt q
  apply Int32.toInt_inj.mp
  have e0 : t0.toInt = x.toInt % 256 := by omega
  have e8 : t8.toInt = x.toInt / 256 * 256 := by omega
  have o' := o (by omega) (by omega) (by omega)
  omega
theorem own_l8 {x : Int32} (b0 : 0 ≤ x.toInt) (h : ¬ (255 : Int32) < x) : (x.toInt8.toInt32 &&& (255 : Int32)) = x := by
  apply Int32.toInt_inj.mp
  have e : (255 : Int32).toInt = 255 := by decide
  rw [Int32.lt_iff_toInt_lt, e] at h
  rw [c_mask _ 255 8 (by decide) (by decide)]
  have i := c_i2b x
  omega
def own_s (v : Int64) (d : Int32) : Int64 := if (((9223372036854775807 : Int64) - d.toInt64) / (10 : Int64)) < v then (9223372036854775807 : Int64) else ((v * (10 : Int64)) + d.toInt64)
def own_p : List Int32 → Int64 → Int64
  | [], v => v
  | x :: r, v => if (x - (48 : Int32)) < (0 : Int32) then (-1 : Int64) else if (9 : Int32) < (x - (48 : Int32)) then (-1 : Int64) else own_p r (own_s v (x - (48 : Int32)))
theorem own_ps {x : Int32} {v v' : Int64} {r : List Int32} (h1 : ¬ (x - (48 : Int32)) < (0 : Int32)) (h2 : ¬ (9 : Int32) < (x - (48 : Int32))) (hv : v' = if (((9223372036854775807 : Int64) - (x - (48 : Int32)).toInt64) / (10 : Int64)) < v then (9223372036854775807 : Int64) else ((v * (10 : Int64)) + (x - (48 : Int32)).toInt64)) : own_p (x :: r) v = own_p r v' := by
  have e : own_s v (x - (48 : Int32)) = v' := hv.symm
  rw [← e]
  show (if _ then _ else if _ then _ else _) = _
  rw [if_neg h1, if_neg h2]
theorem own_ps0 {x : Int32} {v' : Int64} {r : List Int32} (h1 : ¬ (x - (48 : Int32)) < (0 : Int32)) (h2 : ¬ (9 : Int32) < (x - (48 : Int32))) (hv : v' = if (((9223372036854775807 : Int64) - (x - (48 : Int32)).toInt64) / (10 : Int64)) < (0 : Int64) then (9223372036854775807 : Int64) else ((0 : Int64) + (x - (48 : Int32)).toInt64)) : own_p (x :: r) (0 : Int64) = own_p r v' :=
  own_ps h1 h2 (by rw [hv, show (0 : Int64) * (10 : Int64) = 0 from by decide])
theorem own_pa {x : Int32} {v : Int64} {r : List Int32} (h : (x - (48 : Int32)) < (0 : Int32)) : own_p (x :: r) v = (-1 : Int64) := if_pos h
theorem own_pb {x : Int32} {v : Int64} {r : List Int32} (h1 : ¬ (x - (48 : Int32)) < (0 : Int32)) (h2 : (9 : Int32) < (x - (48 : Int32))) : own_p (x :: r) v = (-1 : Int64) := by
  show (if _ then _ else if _ then _ else _) = _
  rw [if_neg h1, if_pos h2]
theorem own_sI {v : Int64} {d : Int32} (v0 : 0 ≤ v.toInt) (d0 : 0 ≤ d.toInt) (d9 : d.toInt ≤ 9) : (v.toInt * 10 + d.toInt ≤ 9223372036854775807 → (own_s v d).toInt = v.toInt * 10 + d.toInt) ∧ (9223372036854775807 < v.toInt * 10 + d.toInt → (own_s v d).toInt = 9223372036854775807) := by
  have eM : (9223372036854775807 : Int64).toInt = 9223372036854775807 := by decide
  have e10 : (10 : Int64).toInt = 10 := by decide
  have cd := c_i2l d
  unfold own_s
  generalize d.toInt64 = D at cd ⊢
  have s1 := c_lsub (9223372036854775807 : Int64) D
  rw [eM] at s1
  generalize ((9223372036854775807 : Int64) - D) = t at s1 ⊢
  have t0 := Int64.toInt_lt t
  have t1 := Int64.le_toInt t
  have et : t.toInt = 9223372036854775807 - D.toInt := by omega
  have q := (c_ldiv t (10 : Int64) 10 e10 (by decide)).1 (by omega)
  generalize t / (10 : Int64) = w at q ⊢
  have m1 := c_lmul v (10 : Int64)
  rw [e10] at m1
  generalize v * (10 : Int64) = y at m1 ⊢
  have a1 := c_ladd y D
  have y0 := Int64.toInt_lt y
  have y1 := Int64.le_toInt y
  have z0 := Int64.toInt_lt (y + D)
  have z1 := Int64.le_toInt (y + D)
  by_cases h : w < v
  · rw [if_pos h]
    rw [Int64.lt_iff_toInt_lt] at h
    constructor
    · intro k; omega
    · intro _; exact eM
  · rw [if_neg h]
    rw [Int64.lt_iff_toInt_lt] at h
    constructor
    · intro k; omega
    · intro k; omega
def own_L (n : Nat) (g : Nat → Int32) : List Value := (List.range n).map fun i => Value.int (g i)
theorem own_Ll {n : Nat} {g : Nat → Int32} : (own_L n g).length = n := by simp [own_L]
theorem own_Lg {n : Nat} {g : Nat → Int32} {i : Nat} (h : i < n) : (own_L n g).getD i (.int 0) = .int (g i) := by
  simp [own_L, List.getD_eq_getElem?_getD, h]
theorem own_Lset {n : Nat} {g g' : Nat → Int32} {j : Nat} {v : Int32} (hg : ∀ i, (if i = j then v else g i) = g' i) : (own_L n g).set j (.int v) = own_L n g' := by
  apply List.ext_getElem
  · simp [own_L]
  · intro i h1 h2
    have q := hg i
    simp only [own_L, List.getElem_set, List.getElem_map, List.getElem_range]
    by_cases e : j = i
    · subst e
      rw [if_pos rfl] at q ⊢
      rw [q]
    · rw [if_neg e]
      rw [if_neg (fun z => e z.symm)] at q
      rw [q]
theorem own_Aset {Z : State} {h h' : Heap} {a : Addr} {c : Cell} {k : ClassId} {ty : FieldType} {z j v : Int32} {g g' : Nat → Int32} {dv : Value} (A : Arr Z h a c ty) (q1 : c.cls = k) (S : c.slots.size = z.toNatClampNeg) (q3 : ¬ z < 0) (H : Has c (own_L z.toNatClampNeg g) dv) (G : ∀ i, i < c.slots.size → fits ty ((own_L z.toNatClampNeg g).getD i dv) = true) (hv : fits ty (.int v) = true) (W : Wr h h' a j.toNatClampNeg (.int v))
    (hg : ∀ i, (if i = j.toNatClampNeg then v else g i) = g' i) (hj : j.toNatClampNeg < z.toNatClampNeg) : Arv Z h' a k ty z (own_L z.toNatClampNeg g') dv := by
  have q := Arv.set A q1 S q3 H G hv W j.toNatClampNeg rfl (by rw [own_Ll]; exact hj)
  rw [own_Lset hg] at q
  exact q
theorem Asg {Z : State} {h : Heap} {a : Addr} {kk : ClassId} {z j : Int32} {dv : Value} {ty : FieldType} {h' : Heap} {v : Int32} {g g' : Nat → Int32} (A : Arv Z h a kk ty z (own_L z.toNatClampNeg g) dv) (hv : fits ty (.int v) = true) (W : Wr h h' a j.toNatClampNeg (.int v)) (hg : ∀ i, (if i = j.toNatClampNeg then v else g i) = g' i) (hj : j.toNatClampNeg < z.toNatClampNeg) : Arv Z h' a kk ty z (own_L z.toNatClampNeg g') dv := by
  obtain ⟨c, A, q1, S, q3, H, G⟩ := A
  exact own_Aset A q1 S q3 H G hv W hg hj
theorem own_Acv {Z : State} {h : Heap} {a : Addr} {k : ClassId} {ty : FieldType} {z : Int32} {n : Nat} {g g' : Nat → Int32} {dv : Value} (A : Arv Z h a k ty z (own_L n g) dv) (hg : ∀ i, g i = g' i) : Arv Z h a k ty z (own_L n g') dv := by
  have e : g = g' := funext hg
  exact e ▸ A
def own_lit (l : List Int32) (i : Nat) : Int32 := l.getD i (0 : Int32)
theorem own_new {Z : State} {h : Heap} {a : Addr} {k : ClassId} {z : Int32} (A : Arv Z h a k .byte z [] (.int 0)) : Arv Z h a k .byte z (own_L z.toNatClampNeg (fun _ => (0 : Int32))) (.int 0) := by
  refine A.pad fun i => ?_
  by_cases q : i < z.toNatClampNeg
  · rw [own_Lg q]; rfl
  · rw [List.getD_eq_getElem?_getD, List.getElem?_eq_none (by rw [own_Ll]; omega)]; rfl
theorem own_z0 : (0 : Int32).toNatClampNeg = 0 := by decide
theorem own_ltn {j n : Int32} (h : ¬ j < (0 : Int32) ∧ j < n) : j.toNatClampNeg < n.toNatClampNeg := by
  have e : (0 : Int32).toInt = 0 := by decide
  obtain ⟨h1, h2⟩ := h
  rw [Int32.lt_iff_toInt_lt] at h1 h2
  simp only [Int32.toNatClampNeg]
  omega
theorem own_Acw {Z : State} {h : Heap} {a : Addr} {k : ClassId} {ty : FieldType} {z : Int32} {n : Nat} {g g' : Nat → Int32} {dv : Value} (A : Arv Z h a k ty z (own_L n g) dv) (hg : ∀ i, i < n → g i = g' i) : Arv Z h a k ty z (own_L n g') dv := by
  have e : own_L n g = own_L n g' := by
    unfold own_L
    apply List.map_congr_left
    intro i hi
    rw [hg i (List.mem_range.mp hi)]
  exact e ▸ A
def own_bl (g : Nat → Int32) (j : Nat) : Int32 := (g j).toInt8.toInt32
def own_cw (g d : Nat → Int32) (t j : Nat) : Int32 := if j < t then own_bl g j else d j
def own_hi (x : Int32) : Int32 := (x >>> ((0 : Int32) &&& 31)).toInt8.toInt32
def own_lo (x : Int32) : Int32 := (x >>> ((8 : Int32) &&& 31)).toInt8.toInt32
def own_ub (g : Nat → Int32) (j : Nat) : Int32 := if j % 2 = 0 then own_hi (g (j / 2)) else own_lo (g (j / 2))
def own_uw (g : Nat → Int32) (t j : Nat) : Int32 := if j < 2 * t then own_ub g j else (0 : Int32)
def own_up (f : Nat → Int32) (i : Nat) (v : Int32) (j : Nat) : Int32 := if j = i then v else f j
theorem own_upS {f : Nat → Int32} {i : Nat} {v : Int32} : ∀ j, (if j = i then v else f j) = own_up f i v j := fun _ => rfl
theorem own_nat {i : Int32} {t : Nat} (hi : i.toInt = (t : Int)) : i.toNatClampNeg = t := by
  simp only [Int32.toNatClampNeg]; omega
theorem own_t0i : (0 : Int32).toInt = ((0 : Nat) : Int) := by decide
theorem own_cw0 {g d : Nat → Int32} : ∀ j, d j = own_cw g d 0 j := fun j => by
  unfold own_cw; rw [if_neg (by omega)]
theorem own_cwS {g d : Nat → Int32} {i : Int32} {t : Nat} (hi : i.toInt = (t : Int)) : ∀ j, (if j = i.toNatClampNeg then (g i.toNatClampNeg).toInt8.toInt32 else own_cw g d t j) = own_cw g d (t + 1) j := fun j => by
  rw [own_nat hi]
  unfold own_cw
  by_cases q : j = t
  · rw [if_pos q, if_pos (by omega), q]; rfl
  · rw [if_neg q]
    by_cases r : j < t
    · rw [if_pos r, if_pos (by omega)]
    · rw [if_neg r, if_neg (by omega)]
theorem own_cwN {g d : Nat → Int32} {i p : Int32} {t : Nat} (hi : i.toInt = (t : Int)) (hx : ¬ i < p) : ∀ j, j < p.toNatClampNeg → own_cw g d t j = own_bl g j := fun j hj => by
  rw [Int32.lt_iff_toInt_lt] at hx
  simp only [Int32.toNatClampNeg] at hj
  unfold own_cw
  rw [if_pos (by omega)]
theorem own_inc {i p : Int32} {t : Nat} (hi : i.toInt = (t : Int)) (hx : i < p) : (i + (1 : Int32)).toInt = ((t + 1 : Nat) : Int) := by
  have c := c_iadd i (1 : Int32)
  have e : (1 : Int32).toInt = 1 := by decide
  rw [e] at c
  rw [Int32.lt_iff_toInt_lt] at hx
  have b0 := Int32.toInt_lt p
  have b1 := Int32.toInt_lt (i + (1 : Int32))
  have b2 := Int32.le_toInt (i + (1 : Int32))
  push_cast
  omega
theorem own_inc0 : (1 : Int32).toInt = ((0 + 1 : Nat) : Int) := by decide
theorem own_ib {i p : Int32} {t : Nat} (hi : i.toInt = (t : Int)) (hx : i < p) : ¬ i < (0 : Int32) ∧ i < p := by
  refine ⟨?_, hx⟩
  have e : (0 : Int32).toInt = 0 := by decide
  rw [Int32.lt_iff_toInt_lt, e]
  omega
theorem own_il {i p : Int32} {t : Nat} (hi : i.toInt = (t : Int)) (hx : i < p) : i.toNatClampNeg < p.toNatClampNeg := own_ltn (own_ib hi hx)
theorem own_it {i p : Int32} {t : Nat} (hi : i.toInt = (t : Int)) (hx : i < p) : t < p.toNatClampNeg := by rw [← own_nat hi]; exact own_il hi hx
theorem own_fu2 {i p : Int32} {t f : Nat} (hi : i.toInt = (t : Int)) (hx : i < p) (hf : p.toNatClampNeg - t < f + 1) : p.toNatClampNeg - (t + 1) < f := by
  have := own_it hi hx
  omega
theorem own_tlt {i p : Int32} {t j : Nat} (hi : i.toInt = (t : Int)) (h : t ≤ j) (hj : j < p.toNatClampNeg) : i < p := by
  rw [Int32.lt_iff_toInt_lt]
  simp only [Int32.toNatClampNeg] at hj
  omega
theorem own_tj {g : Nat → Int32} {i : Int32} {t j : Nat} (hi : i.toInt = (t : Int)) (h : t ≤ j) (hj : (255 : Int32) < g j) (hn : ¬ (255 : Int32) < g i.toNatClampNeg) : t + 1 ≤ j := by
  rw [own_nat hi] at hn
  refine Nat.lt_of_le_of_ne h fun e => hn (e ▸ hj)
theorem own_rj {g : Nat → Int32} {i : Int32} {t j : Nat} (hi : i.toInt = (t : Int)) (h : t ≤ j) (ha : ∀ i : Nat, i < j → ¬ (255 : Int32) < g i) (hn : (255 : Int32) < g i.toNatClampNeg) : i.toInt = (j : Int) := by
  rw [own_nat hi] at hn
  have : t = j := Nat.le_antisymm h (Nat.le_of_not_lt fun z => ha t z hn)
  rw [hi, this]
theorem own_c22 {u : Int32} (h : u.toInt ≤ 22) : u.toNatClampNeg ≤ 22 := by simp only [Int32.toNatClampNeg]; omega
theorem own_dbl {x : Int32} (h0 : 0 ≤ x.toInt) (h1 : x.toInt ≤ 100) : (x <<< ((1 : Int32) &&& 31)).toInt = 2 * x.toInt := by
  have c := c_ishl x 1 1 (by decide)
  have b1 := Int32.toInt_lt (x <<< ((1 : Int32) &&& 31))
  have b2 := Int32.le_toInt (x <<< ((1 : Int32) &&& 31))
  omega
theorem own_c44 {u : Int32} (h0 : 0 ≤ u.toInt) (h : u.toInt ≤ 22) : (u <<< ((1 : Int32) &&& 31)).toNatClampNeg ≤ 44 := by
  have := own_dbl h0 (by omega)
  simp only [Int32.toNatClampNeg]; omega
theorem own_n2 {u : Int32} (h0 : 0 ≤ u.toInt) (h : u.toInt ≤ 22) : ¬ (u <<< ((1 : Int32) &&& 31)) < (0 : Int32) := by
  have := own_dbl h0 (by omega)
  have e : (0 : Int32).toInt = 0 := by decide
  rw [Int32.lt_iff_toInt_lt]; omega
theorem own_np {u : Int32} (h0 : 0 ≤ u.toInt) : ¬ u < (0 : Int32) := by
  have e : (0 : Int32).toInt = 0 := by decide
  rw [Int32.lt_iff_toInt_lt]; omega
theorem own_big {u : Int32} (h : u.toInt ≤ 22) : u < (1073741823 : Int32) := by
  have e : (1073741823 : Int32).toInt = 1073741823 := by decide
  rw [Int32.lt_iff_toInt_lt]; omega
theorem own_j1 {p : Int32} (h0 : 0 ≤ p.toInt) (h1 : p.toInt ≤ 100) : ((p <<< ((1 : Int32) &&& 31)) + (1 : Int32)).toInt = 2 * p.toInt + 1 := by
  have s := own_dbl h0 h1
  generalize (p <<< ((1 : Int32) &&& 31)) = y at s ⊢
  have c := c_iadd y (1 : Int32)
  have e : (1 : Int32).toInt = 1 := by decide
  rw [e] at c
  have b1 := Int32.toInt_lt (y + (1 : Int32))
  have b2 := Int32.le_toInt (y + (1 : Int32))
  omega
theorem own_pi0 {p n : Int32} (h : 0 ≤ p.toInt ∧ p.toInt ≤ 100 ∧ 2 * p.toInt + 1 < n.toInt) : ¬ (p <<< ((1 : Int32) &&& 31)) < (0 : Int32) ∧ (p <<< ((1 : Int32) &&& 31)) < n := by
  have s := own_dbl h.1 h.2.1
  have e : (0 : Int32).toInt = 0 := by decide
  rw [Int32.lt_iff_toInt_lt, Int32.lt_iff_toInt_lt]; omega
theorem own_pi1 {p n : Int32} (h : 0 ≤ p.toInt ∧ p.toInt ≤ 100 ∧ 2 * p.toInt + 1 < n.toInt) : ¬ ((p <<< ((1 : Int32) &&& 31)) + (1 : Int32)) < (0 : Int32) ∧ ((p <<< ((1 : Int32) &&& 31)) + (1 : Int32)) < n := by
  have s := own_j1 h.1 h.2.1
  have e : (0 : Int32).toInt = 0 := by decide
  rw [Int32.lt_iff_toInt_lt, Int32.lt_iff_toInt_lt]; omega
theorem own_hpc {i p : Int32} {t : Nat} (hi : i.toInt = (t : Int)) (hx : i < p) (h0 : 0 ≤ p.toInt) (h : p.toInt ≤ 22) : 0 ≤ i.toInt ∧ i.toInt ≤ 100 ∧ 2 * i.toInt + 1 < (p <<< ((1 : Int32) &&& 31)).toInt := by
  rw [Int32.lt_iff_toInt_lt] at hx
  have := own_dbl h0 (by omega)
  omega
theorem own_uw0 {g : Nat → Int32} : ∀ j, (fun _ => (0 : Int32)) j = own_uw g 0 j := fun j => by
  unfold own_uw; rw [if_neg (by omega)]
theorem own_uwS {g : Nat → Int32} {i p : Int32} {t : Nat} (hi : i.toInt = (t : Int)) (hx : i < p) (h : p.toInt ≤ 22) : ∀ j, own_up (own_up (own_uw g t) (i <<< ((1 : Int32) &&& 31)).toNatClampNeg (own_hi (g i.toNatClampNeg))) ((i <<< ((1 : Int32) &&& 31)) + (1 : Int32)).toNatClampNeg (own_lo (g i.toNatClampNeg)) j = own_uw g (t + 1) j := fun j => by
  rw [Int32.lt_iff_toInt_lt] at hx
  have s0 := own_dbl (x := i) (by omega) (by omega)
  have s1 := own_j1 (p := i) (by omega) (by omega)
  have e0 : (i <<< ((1 : Int32) &&& 31)).toNatClampNeg = 2 * t := by simp only [Int32.toNatClampNeg]; omega
  have e1 : ((i <<< ((1 : Int32) &&& 31)) + (1 : Int32)).toNatClampNeg = 2 * t + 1 := by simp only [Int32.toNatClampNeg]; omega
  rw [e0, e1, own_nat hi]
  unfold own_up own_uw
  by_cases q1 : j = 2 * t + 1
  · rw [if_pos q1, if_pos (by omega)]
    unfold own_ub
    rw [if_neg (by omega), show j / 2 = t by omega]
  · rw [if_neg q1]
    by_cases q2 : j = 2 * t
    · rw [if_pos q2, if_pos (by omega)]
      unfold own_ub
      rw [if_pos (by omega), show j / 2 = t by omega]
    · rw [if_neg q2]
      by_cases r : j < 2 * t
      · rw [if_pos r, if_pos (by omega)]
      · rw [if_neg r, if_neg (by omega)]
theorem own_uwN {g : Nat → Int32} {i p : Int32} {t : Nat} (hi : i.toInt = (t : Int)) (hx : ¬ i < p) (h0 : 0 ≤ p.toInt) (h : p.toInt ≤ 22) : ∀ j, j < (p <<< ((1 : Int32) &&& 31)).toNatClampNeg → own_uw g t j = own_ub g j := fun j hj => by
  rw [Int32.lt_iff_toInt_lt] at hx
  have s0 := own_dbl h0 (by omega)
  simp only [Int32.toNatClampNeg] at hj
  unfold own_uw
  rw [if_pos (by omega)]
theorem own_cf0 (p : Int32) : (((p - p).toUInt32 >>> ((31 : Int32) &&& 31).toUInt32).toInt32).toInt8.toInt32 = (0 : Int32) := by
  have e : (p - p) = (0 : Int32) := by
    apply Int32.toInt_inj.mp
    have c := c_isub p p
    have b1 := Int32.toInt_lt (p - p)
    have b2 := Int32.le_toInt (p - p)
    have e0 : (0 : Int32).toInt = 0 := by decide
    omega
  rw [e]; decide
theorem own_cf1 {p : Int32} (h0 : 0 < p.toInt) (h : p.toInt ≤ 22) : (((p - (p <<< ((1 : Int32) &&& 31))).toUInt32 >>> ((31 : Int32) &&& 31).toUInt32).toInt32).toInt8.toInt32 = (1 : Int32) := by
  have s0 := own_dbl (x := p) (by omega) (by omega)
  generalize (p <<< ((1 : Int32) &&& 31)) = y at s0 ⊢
  have c := c_isub p y
  have b1 := Int32.toInt_lt (p - y)
  have b2 := Int32.le_toInt (p - y)
  generalize p - y = z at c b1 b2 ⊢
  have u := c_iushr z (31 : Int32) 31 (by decide) (by decide)
  generalize ((z.toUInt32 >>> ((31 : Int32) &&& 31).toUInt32).toInt32) = w at u ⊢
  have i := c_i2b w
  have e1 : (1 : Int32).toInt = 1 := by decide
  apply Int32.toInt_inj.mp
  omega
theorem own_hm {n : Int32} (h0 : 0 ≤ n.toInt) (h : n.toInt ≤ 22) : ((n <<< ((1 : Int32) &&& 31)) >>> ((1 : Int32) &&& 31)) = n := by
  have s0 := own_dbl h0 (by omega)
  apply Int32.toInt_inj.mp
  rw [c_ishr _ 1 1 (by decide), s0]
  omega
theorem own_n2z {n : Int32} (h0 : 0 < n.toInt) (h : n.toInt ≤ 22) : ¬ (n <<< ((1 : Int32) &&& 31)) = (0 : Int32) := fun z => by
  have s0 := own_dbl (x := n) (by omega) (by omega)
  rw [z] at s0
  have e : (0 : Int32).toInt = 0 := by decide
  omega
theorem own_nz0 {n : Int32} (h0 : 0 < n.toInt) : ¬ n = (0 : Int32) := fun z => by
  rw [z] at h0
  have e : (0 : Int32).toInt = 0 := by decide
  omega
theorem own_u16g {g : Nat → Int32} {i n : Int32} {t : Nat} (hi : i.toInt = (t : Int)) (hx : i < n) (h : n.toInt ≤ 22) (hb : ∀ i : Nat, 0 ≤ (g i).toInt ∧ (g i).toInt < 65536) : own_gc (own_ub g (i <<< ((1 : Int32) &&& 31)).toNatClampNeg) (own_ub g ((i <<< ((1 : Int32) &&& 31)) + (1 : Int32)).toNatClampNeg) = g i.toNatClampNeg := by
  rw [Int32.lt_iff_toInt_lt] at hx
  have s0 := own_dbl (x := i) (by omega) (by omega)
  have s1 := own_j1 (p := i) (by omega) (by omega)
  have e0 : (i <<< ((1 : Int32) &&& 31)).toNatClampNeg = 2 * t := by simp only [Int32.toNatClampNeg]; omega
  have e1 : ((i <<< ((1 : Int32) &&& 31)) + (1 : Int32)).toNatClampNeg = 2 * t + 1 := by simp only [Int32.toNatClampNeg]; omega
  rw [e0, e1, own_nat hi]
  unfold own_ub
  rw [if_pos (by omega), if_neg (by omega), show 2 * t / 2 = t by omega, show (2 * t + 1) / 2 = t by omega]
  exact own_u16 (hb t).1 (hb t).2
def own_gl (n : Nat) (g : Nat → Int32) : List Int32 := (List.range n).map g
theorem own_gd {n t : Nat} {g : Nat → Int32} (h : t < n) : (own_gl n g).drop t = g t :: (own_gl n g).drop (t + 1) := by
  have hl : t < (own_gl n g).length := by simp [own_gl]; exact h
  rw [List.drop_eq_getElem_cons hl]
  simp [own_gl]
theorem own_r0 {n : Nat} {g : Nat → Int32} {v : Int64} : own_p (own_gl n g) v = own_p ((own_gl n g).drop 0) v := rfl
theorem own_rs {A v v' : Int64} {n : Nat} {g : Nat → Int32} {i : Int32} {t : Nat} (hi : i.toInt = (t : Int)) (ht : t < n) (R : A = own_p ((own_gl n g).drop t) v) (h1 : ¬ (g i.toNatClampNeg - (48 : Int32)) < (0 : Int32)) (h2 : ¬ (9 : Int32) < (g i.toNatClampNeg - (48 : Int32))) (hv : v' = if (((9223372036854775807 : Int64) - (g i.toNatClampNeg - (48 : Int32)).toInt64) / (10 : Int64)) < v then (9223372036854775807 : Int64) else ((v * (10 : Int64)) + (g i.toNatClampNeg - (48 : Int32)).toInt64)) : A = own_p ((own_gl n g).drop (t + 1)) v' := by
  rw [own_nat hi] at h1 h2 hv
  rw [R, own_gd ht]
  exact own_ps h1 h2 hv
theorem own_rs0 {A v' : Int64} {n : Nat} {g : Nat → Int32} {i : Int32} {t : Nat} (hi : i.toInt = (t : Int)) (ht : t < n) (R : A = own_p ((own_gl n g).drop t) (0 : Int64)) (h1 : ¬ (g i.toNatClampNeg - (48 : Int32)) < (0 : Int32)) (h2 : ¬ (9 : Int32) < (g i.toNatClampNeg - (48 : Int32))) (hv : v' = if (((9223372036854775807 : Int64) - (g i.toNatClampNeg - (48 : Int32)).toInt64) / (10 : Int64)) < (0 : Int64) then (9223372036854775807 : Int64) else ((0 : Int64) + (g i.toNatClampNeg - (48 : Int32)).toInt64)) : A = own_p ((own_gl n g).drop (t + 1)) v' :=
  own_rs hi ht R h1 h2 (by rw [hv, show (0 : Int64) * (10 : Int64) = 0 from by decide])
theorem own_ra {A v : Int64} {n : Nat} {g : Nat → Int32} {i : Int32} {t : Nat} (hi : i.toInt = (t : Int)) (ht : t < n) (R : A = own_p ((own_gl n g).drop t) v) (h : (g i.toNatClampNeg - (48 : Int32)) < (0 : Int32)) : A = (-1 : Int64) := by
  rw [own_nat hi] at h
  rw [R, own_gd ht]; exact own_pa h
theorem own_rb {A v : Int64} {n : Nat} {g : Nat → Int32} {i : Int32} {t : Nat} (hi : i.toInt = (t : Int)) (ht : t < n) (R : A = own_p ((own_gl n g).drop t) v) (h1 : ¬ (g i.toNatClampNeg - (48 : Int32)) < (0 : Int32)) (h2 : (9 : Int32) < (g i.toNatClampNeg - (48 : Int32))) : A = (-1 : Int64) := by
  rw [own_nat hi] at h1 h2
  rw [R, own_gd ht]; exact own_pb h1 h2
theorem own_re {A v : Int64} {p : Int32} {g : Nat → Int32} {i : Int32} {t : Nat} (hi : i.toInt = (t : Int)) (hx : ¬ i < p) (R : A = own_p ((own_gl p.toNatClampNeg g).drop t) v) : A = v := by
  rw [Int32.lt_iff_toInt_lt] at hx
  rw [R, List.drop_of_length_le (by simp only [own_gl, List.length_map, List.length_range, Int32.toNatClampNeg]; omega)]; rfl
theorem own_lpre {pre post : List Int32} {P : Int32 → Prop} (h : ∀ x ∈ pre, P x) : ∀ i : Nat, i < pre.length → P (own_lit (pre ++ post) i) := fun i hi => by
  have e : own_lit (pre ++ post) i = pre[i] := by
    unfold own_lit
    rw [List.getD_eq_getElem?_getD, List.getElem?_append_left hi, List.getElem?_eq_getElem hi]; rfl
  rw [e]; exact h _ (List.getElem_mem hi)
theorem own_lbd {l : List Int32} (h : ∀ x ∈ l, 0 ≤ x.toInt ∧ x.toInt < 65536) : ∀ i : Nat, 0 ≤ (own_lit l i).toInt ∧ (own_lit l i).toInt < 65536 := fun i => by
  by_cases q : i < l.length
  · have := own_lpre (post := []) h i q
    rwa [List.append_nil] at this
  · have e : own_lit l i = (0 : Int32) := by
      unfold own_lit
      rw [List.getD_eq_getElem?_getD, List.getElem?_eq_none (by omega)]; rfl
    rw [e]; exact ⟨by decide, by decide⟩
theorem own_lt0 {p : Int32} (h : 0 < p.toInt) : (0 : Int32) < p := by
  have e : (0 : Int32).toInt = 0 := by decide
  rw [Int32.lt_iff_toInt_lt, e]; exact h
theorem own_nei {i p : Int32} (h : i < p) : ¬ i = p := fun e => by
  rw [e, Int32.lt_iff_toInt_lt] at h; omega
theorem own_gj {g : Nat → Int32} {i : Int32} {j : Nat} (hi : i.toInt = (j : Int)) (h : (255 : Int32) < g j) : (255 : Int32) < g i.toNatClampNeg := by
  rw [own_nat hi]; exact h
theorem own_cv1 (x0 : Int32) : own_L (1 : Int32).toNatClampNeg (own_lit [x0]) = [.int x0] := rfl
theorem own_cv2 (x0 x1 : Int32) : own_L (2 : Int32).toNatClampNeg (own_lit [x0, x1]) = [.int x0, .int x1] := rfl
theorem own_cv3 (x0 x1 x2 : Int32) : own_L (3 : Int32).toNatClampNeg (own_lit [x0, x1, x2]) = [.int x0, .int x1, .int x2] := rfl
theorem own_cv22 (x0 x1 x2 x3 x4 x5 x6 x7 x8 x9 x10 x11 x12 x13 x14 x15 x16 x17 x18 x19 x20 x21 : Int32) : own_L (22 : Int32).toNatClampNeg (own_lit [x0, x1, x2, x3, x4, x5, x6, x7, x8, x9, x10, x11, x12, x13, x14, x15, x16, x17, x18, x19, x20, x21]) = [.int x0, .int x1, .int x2, .int x3, .int x4, .int x5, .int x6, .int x7, .int x8, .int x9, .int x10, .int x11, .int x12, .int x13, .int x14, .int x15, .int x16, .int x17, .int x18, .int x19, .int x20, .int x21] := rfl
theorem own_wS {Z : State} {a0 : Array Value} (hw : TW a0 Z) : ∀ a ∈ Bundle.stringAtoms, a.before a0 Z = true := by
  intro d hd
  simp only [Bundle.stringAtoms, List.mem_cons, List.not_mem_nil, or_false] at hd
  rcases hd with rfl | rfl | rfl | rfl | rfl | rfl | rfl
  · exact hw _ (List.mem_of_getElem? (i := 9) rfl)
  · exact hw _ (List.mem_of_getElem? (i := 8) rfl)
  · exact hw _ (List.mem_of_getElem? (i := 21) rfl)
  · exact hw _ (List.mem_of_getElem? (i := 22) rfl)
  · exact hw _ (List.mem_of_getElem? (i := 23) rfl)
  · exact hw _ (List.mem_of_getElem? (i := 24) rfl)
  · exact hw _ (List.mem_of_getElem? (i := 25) rfl)

theorem d7_0 : decode cD10 0 = .ok (.iload_n 0, 1) := by decide +kernel
theorem d7_1 : decode cD10 1 = .ok (.bipush 48, 2) := by decide +kernel
theorem d7_3 : decode cD10 3 = .ok (.if_icmp .lt 13, 3) := by decide +kernel
theorem d7_6 : decode cD10 6 = .ok (.iload_n 0, 1) := by decide +kernel
theorem d7_7 : decode cD10 7 = .ok (.bipush 57, 2) := by decide +kernel
theorem d7_9 : decode cD10 9 = .ok (.if_icmp .gt 7, 3) := by decide +kernel
theorem d7_12 : decode cD10 12 = .ok (.iconst 1, 1) := by decide +kernel
theorem d7_13 : decode cD10 13 = .ok (.goto 4, 3) := by decide +kernel
theorem d7_16 : decode cD10 16 = .ok (.iconst 0, 1) := by decide +kernel
theorem d7_17 : decode cD10 17 = .ok (.ireturn, 1) := by decide +kernel
def fisd_v17_1 (p0 : Int32) : Int32 := (if p0 < (48 : Int32) then (0 : Int32) else (if (57 : Int32) < p0 then (0 : Int32) else (1 : Int32)))
def fisd (p0 : Int32) : Int32 := (fisd_v17_1 p0)
theorem fisd_01 (p0 : Int32) : fisd p0 = 0 ∨ fisd p0 = 1 := by
  simp only [fisd, fisd_v17_1]
  repeat' (first | exact Or.inl rfl | exact Or.inr rfl | apply own_01)
def Qisd (Z : State) (p0 : Int32) (h0 : Heap) (n0 : Nat) : QT := fun v h L => (v = some (.int (fisd p0))) ∧ (Fr n0 L) ∧ (h = h0)
theorem rmisd (l : Launch) (Z : State) (a0 : Array Value) (hw : TW a0 Z) (ws : List Jvm.Cond) (p0 : Int32) (h0 : Heap) (n0 : Nat) (Z0 : n0 ≤ h0.size) :
  MF l mN12 method_2_code 1 (some .boolean) ws (rmm 0 0 0 0) #[.int p0] Z h0 (Qisd Z p0 h0 n0) := by
 refine MF.of (plainFor_of_name pn_0) ?_
 intro p e s m below meth c s₁ QQ hy hml hown hZ X0 e0 hrt hlk hnm hQQ
 have hx := hy.1
 have hby := hy.2
 have N0 := Fr.nil n0
 refine Ends.i #[iv p0] (oC X0 hy d7_0 1 rfl (oH X0 hy d7_1 3 48 rfl ?_))
 have J17_1 : (∀ (v17_1 : Int32) (hv17_1 : v17_1 = (if p0 < (48 : Int32) then (0 : Int32) else (if (57 : Int32) < p0 then (0 : Int32) else (1 : Int32)))), Ends p e below QQ (s₁.setTop (mkF m 17 #[iv p0] [.int v17_1]))) → Ends p e below QQ (s₁.setTop (mkF m 3 #[iv p0] [.int 48, .int p0])) := by
  intro hJ
  by_cases hc3_2 : p0 < (48 : Int32)
  ·refine oxl X0 hy d7_3 16 (XT.ii_lt_t hc3_2) ?_
   refine Ends.step (fun _ k => XT.iconstV X0.here hx rfl (0 : Int32) (hb hby d7_16) rfl k) ?_
   exact hJ _ (by simp only [if_pos hc3_2])
  ·refine oxi X0 hy d7_3 6 (XT.ii_lt_f hc3_2) (oC X0 hy d7_6 7 rfl (oH X0 hy d7_7 9 57 rfl ?_))
   by_cases hc9_3 : (57 : Int32) < p0
   ·refine oxl X0 hy d7_9 16 (XT.ii_gt_t hc9_3) ?_
    refine Ends.step (fun _ k => XT.iconstV X0.here hx rfl (0 : Int32) (hb hby d7_16) rfl k) ?_
    exact hJ _ (by simp only [if_neg hc3_2, if_pos hc9_3])
   ·refine oxi X0 hy d7_9 12 (XT.ii_gt_f hc9_3) (oG X0 hy d7_12 13 1 rfl ?_)
    refine Ends.step (fun _ k => XS.goto X0.here hx rfl (pc0 := 13) (pc' := 17) rfl (hb hby d7_13) (by decide) (by decide) k) ?_
    exact hJ _ (by simp only [if_neg hc3_2, if_neg hc9_3])
 refine J17_1 fun v17_1 hv17_1 => ?_
 have dv17_1 : fisd_v17_1 p0 = v17_1 := by
  simp only [fisd_v17_1]
  exact hv17_1.symm
 show Ends p e below QQ (s₁.setTop (mkF m 17 #[iv p0] [.int v17_1]))
 exact fI X0 hy hrt hlk hQQ d7_17 (by rw [hv17_1]; exact own_narB (by repeat' (first | exact Or.inl rfl | exact Or.inr rfl | apply own_01))) (by simp) e0 (by decide) ⟨(by simp only [fisd, dv17_1]), N0, rfl⟩
theorem d26_0 : decode cD11 0 = .ok (.bipush 48, 2) := by decide +kernel
theorem d26_2 : decode cD11 2 = .ok (.lload_n 0, 1) := by decide +kernel
theorem d26_3 : decode cD11 3 = .ok (.lload_n 2, 1) := by decide +kernel
theorem d26_4 : decode cD11 4 = .ok (.ldiv, 1) := by decide +kernel
theorem d26_5 : decode cD11 5 = .ok (.ldc2_w 7, 3) := by decide +kernel
theorem d26_8 : decode cD11 8 = .ok (.lrem, 1) := by decide +kernel
theorem d26_9 : decode cD11 9 = .ok (.l2i, 1) := by decide +kernel
theorem d26_10 : decode cD11 10 = .ok (.iadd, 1) := by decide +kernel
theorem d26_11 : decode cD11 11 = .ok (.i2c, 1) := by decide +kernel
theorem d26_12 : decode cD11 12 = .ok (.ireturn, 1) := by decide +kernel
def fdg (q0 q1 : Int64) : Int32 := ((48 : Int32) + ((q0 / q1) % (10 : Int64)).toInt32).toUInt32.toUInt16.toUInt32.toInt32
def Qdg (Z : State) (q0 q1 : Int64) (h0 : Heap) (n0 : Nat) : QT := fun v h L => (v = some (.int (fdg q0 q1))) ∧ (Fr n0 L) ∧ (h = h0)
theorem rmdg (l : Launch) (Z : State) (a0 : Array Value) (hw : TW a0 Z) (ws : List Jvm.Cond) (q0 q1 : Int64) (h0 : Heap) (n0 : Nat) (Z0 : n0 ≤ h0.size) (hq : q1 ≠ 0) :
  MF l mN13 method_3_code 4 (some .char) ws (rmm 0 0 0 0) #[.long q0, .long q1] Z h0 (Qdg Z q0 q1 h0 n0) := by
 refine MF.of (plainFor_of_name pn_0) ?_
 intro p e s m below meth c s₁ QQ hy hml hown hZ X0 e0 hrt hlk hnm hQQ
 have N0 := Fr.nil n0
 refine Ends.i #[jv q0, ss, jv q1, ss] (oH X0 hy d26_0 2 48 rfl (oE X0 hy d26_2 3 rfl (oE X0 hy d26_3 4 rfl (oW X0 hy d26_4 5 hq (oJ2 X0 hy hown hZ hw d26_5 8 10 118 rfl (lremO X0 hy d26_8 9 (by decide) (oZ X0 hy d26_9 10 (oK X0 hy d26_10 11 (oxc X0 hy d26_11 12 ?_)))))))))
 exact fI X0 hy hrt hlk hQQ d26_12 (XT.narrow_c _) (by simp) e0 (by decide) ⟨(by simp only [fdg]), N0, rfl⟩
theorem d1_0 : decode cD0 0 = .ok (.iload_n 0, 1) := by decide +kernel
theorem d1_1 : decode cD0 1 = .ok (.ifCond .ne 7, 3) := by decide +kernel
theorem d1_4 : decode cD0 4 = .ok (.ldc2_w 9, 3) := by decide +kernel
theorem d1_7 : decode cD0 7 = .ok (.lreturn, 1) := by decide +kernel
theorem d1_8 : decode cD0 8 = .ok (.iload_n 1, 1) := by decide +kernel
theorem d1_9 : decode cD0 9 = .ok (.invokestatic 11, 3) := by decide +kernel
theorem d1_12 : decode cD0 12 = .ok (.ifCond .ne 7, 3) := by decide +kernel
theorem d1_15 : decode cD0 15 = .ok (.ldc2_w 9, 3) := by decide +kernel
theorem d1_18 : decode cD0 18 = .ok (.lreturn, 1) := by decide +kernel
theorem d1_19 : decode cD0 19 = .ok (.iload_n 0, 1) := by decide +kernel
theorem d1_20 : decode cD0 20 = .ok (.iconst 1, 1) := by decide +kernel
theorem d1_21 : decode cD0 21 = .ok (.if_icmp .ne 9, 3) := by decide +kernel
theorem d1_24 : decode cD0 24 = .ok (.iload_n 1, 1) := by decide +kernel
theorem d1_25 : decode cD0 25 = .ok (.bipush 48, 2) := by decide +kernel
theorem d1_27 : decode cD0 27 = .ok (.isub, 1) := by decide +kernel
theorem d1_28 : decode cD0 28 = .ok (.i2l, 1) := by decide +kernel
theorem d1_29 : decode cD0 29 = .ok (.lreturn, 1) := by decide +kernel
theorem d1_30 : decode cD0 30 = .ok (.iload_n 2, 1) := by decide +kernel
theorem d1_31 : decode cD0 31 = .ok (.invokestatic 11, 3) := by decide +kernel
theorem d1_34 : decode cD0 34 = .ok (.ifCond .ne 7, 3) := by decide +kernel
theorem d1_37 : decode cD0 37 = .ok (.ldc2_w 9, 3) := by decide +kernel
theorem d1_40 : decode cD0 40 = .ok (.lreturn, 1) := by decide +kernel
theorem d1_41 : decode cD0 41 = .ok (.iload_n 0, 1) := by decide +kernel
theorem d1_42 : decode cD0 42 = .ok (.iconst 2, 1) := by decide +kernel
theorem d1_43 : decode cD0 43 = .ok (.if_icmp .ne 19, 3) := by decide +kernel
theorem d1_46 : decode cD0 46 = .ok (.iload_n 1, 1) := by decide +kernel
theorem d1_47 : decode cD0 47 = .ok (.bipush 48, 2) := by decide +kernel
theorem d1_49 : decode cD0 49 = .ok (.isub, 1) := by decide +kernel
theorem d1_50 : decode cD0 50 = .ok (.i2l, 1) := by decide +kernel
theorem d1_51 : decode cD0 51 = .ok (.ldc2_w 7, 3) := by decide +kernel
theorem d1_54 : decode cD0 54 = .ok (.lmul, 1) := by decide +kernel
theorem d1_55 : decode cD0 55 = .ok (.iload_n 2, 1) := by decide +kernel
theorem d1_56 : decode cD0 56 = .ok (.bipush 48, 2) := by decide +kernel
theorem d1_58 : decode cD0 58 = .ok (.isub, 1) := by decide +kernel
theorem d1_59 : decode cD0 59 = .ok (.i2l, 1) := by decide +kernel
theorem d1_60 : decode cD0 60 = .ok (.ladd, 1) := by decide +kernel
theorem d1_61 : decode cD0 61 = .ok (.lreturn, 1) := by decide +kernel
theorem d1_62 : decode cD0 62 = .ok (.iload_n 3, 1) := by decide +kernel
theorem d1_63 : decode cD0 63 = .ok (.invokestatic 11, 3) := by decide +kernel
theorem d1_66 : decode cD0 66 = .ok (.ifCond .ne 7, 3) := by decide +kernel
theorem d1_69 : decode cD0 69 = .ok (.ldc2_w 9, 3) := by decide +kernel
theorem d1_72 : decode cD0 72 = .ok (.lreturn, 1) := by decide +kernel
theorem d1_73 : decode cD0 73 = .ok (.iload_n 1, 1) := by decide +kernel
theorem d1_74 : decode cD0 74 = .ok (.bipush 48, 2) := by decide +kernel
theorem d1_76 : decode cD0 76 = .ok (.isub, 1) := by decide +kernel
theorem d1_77 : decode cD0 77 = .ok (.i2l, 1) := by decide +kernel
theorem d1_78 : decode cD0 78 = .ok (.ldc2_w 17, 3) := by decide +kernel
theorem d1_81 : decode cD0 81 = .ok (.lmul, 1) := by decide +kernel
theorem d1_82 : decode cD0 82 = .ok (.iload_n 2, 1) := by decide +kernel
theorem d1_83 : decode cD0 83 = .ok (.bipush 48, 2) := by decide +kernel
theorem d1_85 : decode cD0 85 = .ok (.isub, 1) := by decide +kernel
theorem d1_86 : decode cD0 86 = .ok (.i2l, 1) := by decide +kernel
theorem d1_87 : decode cD0 87 = .ok (.ldc2_w 7, 3) := by decide +kernel
theorem d1_90 : decode cD0 90 = .ok (.lmul, 1) := by decide +kernel
theorem d1_91 : decode cD0 91 = .ok (.ladd, 1) := by decide +kernel
theorem d1_92 : decode cD0 92 = .ok (.iload_n 3, 1) := by decide +kernel
theorem d1_93 : decode cD0 93 = .ok (.bipush 48, 2) := by decide +kernel
theorem d1_95 : decode cD0 95 = .ok (.isub, 1) := by decide +kernel
theorem d1_96 : decode cD0 96 = .ok (.i2l, 1) := by decide +kernel
theorem d1_97 : decode cD0 97 = .ok (.ladd, 1) := by decide +kernel
theorem d1_98 : decode cD0 98 = .ok (.lreturn, 1) := by decide +kernel
def fse (p0 p1 p2 p3 : Int32) : Int64 := (if p0 = (0 : Int32) then (-1 : Int64) else (if (fisd p1) = (0 : Int32) then (-1 : Int64) else (if p0 = (1 : Int32) then (p1 - (48 : Int32)).toInt64 else (if (fisd p2) = (0 : Int32) then (-1 : Int64) else (if p0 = (2 : Int32) then (((p1 - (48 : Int32)).toInt64 * (10 : Int64)) + (p2 - (48 : Int32)).toInt64) else (if (fisd p3) = (0 : Int32) then (-1 : Int64) else ((((p1 - (48 : Int32)).toInt64 * (100 : Int64)) + ((p2 - (48 : Int32)).toInt64 * (10 : Int64))) + (p3 - (48 : Int32)).toInt64)))))))
def Qse (Z : State) (p0 p1 p2 p3 : Int32) (h0 : Heap) (n0 : Nat) : QT := fun v h L => (v = some (.long (fse p0 p1 p2 p3))) ∧ (Fr n0 L) ∧ (h = h0)
theorem rmse (l : Launch) (Z : State) (a0 : Array Value) (hw : TW a0 Z) (ws : List Jvm.Cond) (p0 p1 p2 p3 : Int32) (h0 : Heap) (n0 : Nat) (Z0 : n0 ≤ h0.size) :
  MF l mN14 method_4_code 4 (some .long) ws (rmm 1 0 0 12) #[.int p0, .int p1, .int p2, .int p3] Z h0 (Qse Z p0 p1 p2 p3 h0 n0) := by
 refine MF.of (plainFor_of_name pn_0) ?_
 intro p e s m below meth c s₁ QQ hy hml hown hZ X0 e0 hrt hlk hnm hQQ
 have N0 := Fr.nil n0
 refine Ends.i #[iv p0, iv p1, iv p2, iv p3] (oC X0 hy d1_0 1 rfl ?_)
 by_cases hc1_4 : p0 = (0 : Int32)
 ·refine oxh X0 hy d1_1 4 (XT.i0_ne_f hc1_4) (oJ2 X0 hy hown hZ hw d1_4 7 (-1) 6 rfl ?_)
  exact fJ X0 hy hrt hlk hQQ d1_7 e0 (by decide) ⟨(by simp only [fse, if_pos hc1_4]), N0, rfl⟩
 ·refine oxk X0 hy d1_1 8 (XT.i0_ne_t hc1_4) (oC X0 hy d1_8 9 rfl ?_)
  refine cS X0 hy hml hown hZ hw d1_9 12 0 38 39 4 40 rfl rfl rfl rfl (rmisd l Z a0 hw [] p1 h0 n0 Z0) e0 pd_0 rfl rfl fun _ T5 Lc5 X5 hQ5 => ?_
  obtain ⟨rfl, Nq5, hh5⟩ := hQ5
  have N5 := Fr.app N0 Nq5
  refine Ends.v ?_
  by_cases hc12_6 : (fisd p1) = (0 : Int32)
  ·refine oxh X5 hy d1_12 15 (XT.i0_ne_f hc12_6) (oJ2 X5 hy hown hZ hw d1_15 18 (-1) 6 rfl ?_)
   exact fJ X5 hy hrt hlk hQQ d1_18 hh5 (by decide) ⟨(by simp only [fse, if_neg hc1_4, if_pos hc12_6]), N5, rfl⟩
  ·refine oxk X5 hy d1_12 19 (XT.i0_ne_t hc12_6) (oC X5 hy d1_19 20 rfl (oG X5 hy d1_20 21 1 rfl ?_))
   by_cases hc21_7 : p0 = (1 : Int32)
   ·refine oxi X5 hy d1_21 24 (XT.ii_ne_f hc21_7) (oC X5 hy d1_24 25 rfl (oH X5 hy d1_25 27 48 rfl (oL X5 hy d1_27 28 (oxa X5 hy d1_28 29 ?_))))
    exact fJ X5 hy hrt hlk hQQ d1_29 hh5 (by decide) ⟨(by simp only [fse, if_neg hc1_4, if_neg hc12_6, if_pos hc21_7]), N5, rfl⟩
   ·refine oxl X5 hy d1_21 30 (XT.ii_ne_t hc21_7) (oC X5 hy d1_30 31 rfl ?_)
    refine cS X5 hy hml hown hZ hw d1_31 34 0 38 39 4 40 rfl rfl rfl rfl (rmisd l Z a0 hw [] p2 h0 n0 Z0) hh5 pd_0 rfl rfl fun _ T8 Lc8 X8 hQ8 => ?_
    obtain ⟨rfl, Nq8, hh8⟩ := hQ8
    have N8 := Fr.app N5 Nq8
    refine Ends.v ?_
    by_cases hc34_9 : (fisd p2) = (0 : Int32)
    ·refine oxh X8 hy d1_34 37 (XT.i0_ne_f hc34_9) (oJ2 X8 hy hown hZ hw d1_37 40 (-1) 6 rfl ?_)
     exact fJ X8 hy hrt hlk hQQ d1_40 hh8 (by decide) ⟨(by simp only [fse, if_neg hc1_4, if_neg hc12_6, if_neg hc21_7, if_pos hc34_9]), N8, rfl⟩
    ·refine oxk X8 hy d1_34 41 (XT.i0_ne_t hc34_9) (oC X8 hy d1_41 42 rfl (oG X8 hy d1_42 43 2 rfl ?_))
     by_cases hc43_10 : p0 = (2 : Int32)
     ·refine oxi X8 hy d1_43 46 (XT.ii_ne_f hc43_10) (oC X8 hy d1_46 47 rfl (oH X8 hy d1_47 49 48 rfl (oL X8 hy d1_49 50 (oxa X8 hy d1_50 51 (oJ2 X8 hy hown hZ hw d1_51 54 10 118 rfl (oU X8 hy d1_54 55 (oC X8 hy d1_55 56 rfl (oH X8 hy d1_56 58 48 rfl (oL X8 hy d1_58 59 ?_)))))))))
      refine oxa X8 hy d1_59 60 (oS X8 hy d1_60 61 ?_)
      exact fJ X8 hy hrt hlk hQQ d1_61 hh8 (by decide) ⟨(by simp only [fse, if_neg hc1_4, if_neg hc12_6, if_neg hc21_7, if_neg hc34_9, if_pos hc43_10]), N8, rfl⟩
     ·refine oxl X8 hy d1_43 62 (XT.ii_ne_t hc43_10) (oC X8 hy d1_62 63 rfl ?_)
      refine cS X8 hy hml hown hZ hw d1_63 66 0 38 39 4 40 rfl rfl rfl rfl (rmisd l Z a0 hw [] p3 h0 n0 Z0) hh8 pd_0 rfl rfl fun _ T11 Lc11 X11 hQ11 => ?_
      obtain ⟨rfl, Nq11, hh11⟩ := hQ11
      have N11 := Fr.app N8 Nq11
      refine Ends.v ?_
      by_cases hc66_12 : (fisd p3) = (0 : Int32)
      ·refine oxh X11 hy d1_66 69 (XT.i0_ne_f hc66_12) (oJ2 X11 hy hown hZ hw d1_69 72 (-1) 6 rfl ?_)
       exact fJ X11 hy hrt hlk hQQ d1_72 hh11 (by decide) ⟨(by simp only [fse, if_neg hc1_4, if_neg hc12_6, if_neg hc21_7, if_neg hc34_9, if_neg hc43_10, if_pos hc66_12]), N11, rfl⟩
      ·refine oxk X11 hy d1_66 73 (XT.i0_ne_t hc66_12) (oC X11 hy d1_73 74 rfl (oH X11 hy d1_74 76 48 rfl (oL X11 hy d1_76 77 (oxa X11 hy d1_77 78 (oJ2 X11 hy hown hZ hw d1_78 81 100 134 rfl (oU X11 hy d1_81 82 (oC X11 hy d1_82 83 rfl (oH X11 hy d1_83 85 48 rfl (oL X11 hy d1_85 86 ?_)))))))))
       refine oxa X11 hy d1_86 87 (oJ2 X11 hy hown hZ hw d1_87 90 10 118 rfl (oU X11 hy d1_90 91 (oS X11 hy d1_91 92 (oC X11 hy d1_92 93 rfl (oH X11 hy d1_93 95 48 rfl (oL X11 hy d1_95 96 (oxa X11 hy d1_96 97 (oS X11 hy d1_97 98 ?_))))))))
       exact fJ X11 hy hrt hlk hQQ d1_98 hh11 (by decide) ⟨(by simp only [fse, if_neg hc1_4, if_neg hc12_6, if_neg hc21_7, if_neg hc34_9, if_neg hc43_10, if_neg hc66_12]), N11, rfl⟩
theorem d12_0 : decode cD20 0 = .ok (.getstatic 38, 3) := by decide +kernel
theorem d12_3 : decode cD20 3 = .ok (.ifCond .eq 10, 3) := by decide +kernel
theorem d12_6 : decode cD20 6 = .ok (.aload_n 0, 1) := by decide +kernel
theorem d12_7 : decode cD20 7 = .ok (.getfield 15, 3) := by decide +kernel
theorem d12_10 : decode cD20 10 = .ok (.goto 4, 3) := by decide +kernel
theorem d12_14 : decode cD20 14 = .ok (.ireturn, 1) := by decide +kernel
def Qco0 (Z : State) (o0 : Addr) (cs : Int32) (h0 : Heap) (n0 : Nat) : QT := fun v h L => (v = some (.int 0)) ∧ (Fr n0 L) ∧ (h = h0)
theorem rmco0 (l : Launch) (Z : State) (a0 : Array Value) (hw : TW a0 Z) (ws : List Jvm.Cond) (o0 : Addr) (cs : Int32) (h0 : Heap) (n0 : Nat) (Z0 : n0 ≤ h0.size) (wb : sCQ Z h0 (.int cs)) (hcs : ¬ cs = (0 : Int32)) (wh : fAQ Z h0 o0 (.int 0)) :
  MF l mN3 jdk_42_method_152_code 1 (some .byte) ws (rmm 0 0 0 0) #[.ref o0] Z h0 (Qco0 Z o0 cs h0 n0) := by
 refine MF.of (plainFor_of_name pn_1) ?_
 intro p e s m below meth c s₁ QQ hy hml hown hZ X0 e0 hrt hlk hnm hQQ
 have N0 := Fr.nil n0
 refine Ends.i #[rv o0] (gS X0 hy hown hZ hw e0 wb d12_0 3 41 rfl fun T13 X13 e13 => ?_)
 have hc3 : ¬ (cs = (0 : Int32)) := hcs
 refine oxh X13 hy d12_3 6 (XT.i0_eq_f hc3) (oA X13 hy d12_6 7 rfl (gF X13 hy hown hZ hw e13 wh d12_7 10 27 rfl fun T14 X14 e14 => oxm X14 hy d12_10 14 ?_))
 exact fI X14 hy hrt hlk hQQ d12_14 rfl (by simp) e14 (by decide) ⟨rfl, N0, rfl⟩
def Qco1 (Z : State) (o0 : Addr) (cs : Int32) (h0 : Heap) (n0 : Nat) : QT := fun v h L => (v = some (.int 1)) ∧ (Fr n0 L) ∧ (h = h0)
theorem rmco1 (l : Launch) (Z : State) (a0 : Array Value) (hw : TW a0 Z) (ws : List Jvm.Cond) (o0 : Addr) (cs : Int32) (h0 : Heap) (n0 : Nat) (Z0 : n0 ≤ h0.size) (wb : sCQ Z h0 (.int cs)) (hcs : ¬ cs = (0 : Int32)) (wh : fAQ Z h0 o0 (.int 1)) :
  MF l mN3 jdk_42_method_152_code 1 (some .byte) ws (rmm 0 0 0 0) #[.ref o0] Z h0 (Qco1 Z o0 cs h0 n0) := by
 refine MF.of (plainFor_of_name pn_1) ?_
 intro p e s m below meth c s₁ QQ hy hml hown hZ X0 e0 hrt hlk hnm hQQ
 have N0 := Fr.nil n0
 refine Ends.i #[rv o0] (gS X0 hy hown hZ hw e0 wb d12_0 3 41 rfl fun T15 X15 e15 => ?_)
 have hc3 : ¬ (cs = (0 : Int32)) := hcs
 refine oxh X15 hy d12_3 6 (XT.i0_eq_f hc3) (oA X15 hy d12_6 7 rfl (gF X15 hy hown hZ hw e15 wh d12_7 10 27 rfl fun T16 X16 e16 => oxm X16 hy d12_10 14 ?_))
 exact fI X16 hy hrt hlk hQQ d12_14 rfl (by simp) e16 (by decide) ⟨rfl, N0, rfl⟩
theorem d11_0 : decode cD17 0 = .ok (.aload_n 0, 1) := by decide +kernel
theorem d11_1 : decode cD17 1 = .ok (.getfield 9, 3) := by decide +kernel
theorem d11_4 : decode cD17 4 = .ok (.arraylength, 1) := by decide +kernel
theorem d11_5 : decode cD17 5 = .ok (.aload_n 0, 1) := by decide +kernel
theorem d11_6 : decode cD17 6 = .ok (.invokevirtual 335, 3) := by decide +kernel
theorem d11_9 : decode cD17 9 = .ok (.ishr, 1) := by decide +kernel
theorem d11_10 : decode cD17 10 = .ok (.ireturn, 1) := by decide +kernel
def Qln0 (Z : State) (o0 t : Addr) (k : ClassId) (n : Int32) (vs : List Value) (cs : Int32) (h0 : Heap) (n0 : Nat) : QT := fun v h L => (v = some (.int n)) ∧ (Fr n0 L) ∧ (h = h0)
theorem rmln0 (l : Launch) (Z : State) (a0 : Array Value) (hw : TW a0 Z) (ws : List Jvm.Cond) (o0 t : Addr) (k : ClassId) (n : Int32) (vs : List Value) (cs : Int32) (h0 : Heap) (n0 : Nat) (Z0 : n0 ≤ h0.size) (wk : eAQ Z h0 o0) (wg : fBQ Z h0 o0 (.ref t)) (A_t : Arv Z h0 t k .byte n vs (.int 0)) (wb : sCQ Z h0 (.int cs)) (hcs : ¬ cs = (0 : Int32)) (wh : fAQ Z h0 o0 (.int 0)) :
  MF l mN4 jdk_42_method_54_code 1 (some .int) ws (rmm 1 0 0 13) #[.ref o0] Z h0 (Qln0 Z o0 t k n vs cs h0 n0) := by
 refine MF.of (plainFor_of_name pn_1) ?_
 intro p e s m below meth c s₁ QQ hy hml hown hZ X0 e0 hrt hlk hnm hQQ
 have N0 := Fr.nil n0
 refine Ends.i #[rv o0] (oA X0 hy d11_0 1 rfl (gF X0 hy hown hZ hw e0 wg d11_1 4 26 rfl fun T17 X17 e17 => aLn X17 hy hZ e17 A_t d11_4 5 (oA X17 hy d11_5 6 rfl ?_)))
 refine cV X17 hy hml hown hZ hw d11_6 9 1 57 58 60 59 61 9 rfl rfl rfl rfl rfl rfl (rmco0 l Z a0 hw [] o0 cs h0 n0 Z0 wb hcs wh) e17 pd_1 wk rfl rfl fun _ T19 Lc19 X19 hQ19 => ?_
 obtain ⟨rfl, Nq19, hh19⟩ := hQ19
 have N19 := Fr.app N0 Nq19
 refine Ends.v (oP X19 hy d11_9 10 ?_)
 exact fI X19 hy hrt hlk hQQ d11_10 rfl (Or.inl rfl) hh19 (by decide) ⟨(by rw [own_shr0]), N19, rfl⟩
def Qln1 (Z : State) (o0 t : Addr) (k : ClassId) (n : Int32) (vs : List Value) (cs mz : Int32) (h0 : Heap) (n0 : Nat) : QT := fun v h L => (v = some (.int mz)) ∧ (Fr n0 L) ∧ (h = h0)
theorem rmln1 (l : Launch) (Z : State) (a0 : Array Value) (hw : TW a0 Z) (ws : List Jvm.Cond) (o0 t : Addr) (k : ClassId) (n : Int32) (vs : List Value) (cs mz : Int32) (h0 : Heap) (n0 : Nat) (Z0 : n0 ≤ h0.size) (wk : eAQ Z h0 o0) (wg : fBQ Z h0 o0 (.ref t)) (A_t : Arv Z h0 t k .byte n vs (.int 0)) (wb : sCQ Z h0 (.int cs)) (hcs : ¬ cs = (0 : Int32)) (wh : fAQ Z h0 o0 (.int 1)) (hm : (n >>> ((1 : Int32) &&& 31)) = mz) :
  MF l mN4 jdk_42_method_54_code 1 (some .int) ws (rmm 1 0 0 13) #[.ref o0] Z h0 (Qln1 Z o0 t k n vs cs mz h0 n0) := by
 refine MF.of (plainFor_of_name pn_1) ?_
 intro p e s m below meth c s₁ QQ hy hml hown hZ X0 e0 hrt hlk hnm hQQ
 have N0 := Fr.nil n0
 refine Ends.i #[rv o0] (oA X0 hy d11_0 1 rfl (gF X0 hy hown hZ hw e0 wg d11_1 4 26 rfl fun T20 X20 e20 => aLn X20 hy hZ e20 A_t d11_4 5 (oA X20 hy d11_5 6 rfl ?_)))
 refine cV X20 hy hml hown hZ hw d11_6 9 1 57 58 60 59 61 9 rfl rfl rfl rfl rfl rfl (rmco1 l Z a0 hw [] o0 cs h0 n0 Z0 wb hcs wh) e20 pd_1 wk rfl rfl fun _ T22 Lc22 X22 hQ22 => ?_
 obtain ⟨rfl, Nq22, hh22⟩ := hQ22
 have N22 := Fr.app N0 Nq22
 refine Ends.v (oP X22 hy d11_9 10 ?_)
 exact fI X22 hy hrt hlk hQQ d11_10 rfl (Or.inl rfl) hh22 (by decide) ⟨(by rw [hm]), N22, rfl⟩
theorem d6_0 : decode cD14 0 = .ok (.aload_n 0, 1) := by decide +kernel
theorem d6_1 : decode cD14 1 = .ok (.getfield 9, 3) := by decide +kernel
theorem d6_4 : decode cD14 4 = .ok (.arraylength, 1) := by decide +kernel
theorem d6_5 : decode cD14 5 = .ok (.ifCond .ne 7, 3) := by decide +kernel
theorem d6_8 : decode cD14 8 = .ok (.iconst 1, 1) := by decide +kernel
theorem d6_9 : decode cD14 9 = .ok (.goto 4, 3) := by decide +kernel
theorem d6_13 : decode cD14 13 = .ok (.ireturn, 1) := by decide +kernel
def Qie0 (Z : State) (o0 t : Addr) (k : ClassId) (vs : List Value) (h0 : Heap) (n0 : Nat) : QT := fun v h L => (v = some (.int 1)) ∧ (Fr n0 L) ∧ (h = h0)
theorem rmie0 (l : Launch) (Z : State) (a0 : Array Value) (hw : TW a0 Z) (ws : List Jvm.Cond) (o0 t : Addr) (k : ClassId) (vs : List Value) (h0 : Heap) (n0 : Nat) (Z0 : n0 ≤ h0.size) (wg : fBQ Z h0 o0 (.ref t)) (A_t : Arv Z h0 t k .byte 0 vs (.int 0)) :
  MF l mN5 jdk_42_method_55_code 1 (some .boolean) ws (rmm 0 0 0 0) #[.ref o0] Z h0 (Qie0 Z o0 t k vs h0 n0) := by
 refine MF.of (plainFor_of_name pn_1) ?_
 intro p e s m below meth c s₁ QQ hy hml hown hZ X0 e0 hrt hlk hnm hQQ
 have N0 := Fr.nil n0
 refine Ends.i #[rv o0] (oA X0 hy d6_0 1 rfl (gF X0 hy hown hZ hw e0 wg d6_1 4 26 rfl fun T23 X23 e23 => aLn X23 hy hZ e23 A_t d6_4 5 (oxh X23 hy d6_5 8 (XT.i0_ne_f (by decide)) (oG X23 hy d6_8 9 1 rfl (oxm X23 hy d6_9 13 ?_)))))
 exact fI X23 hy hrt hlk hQQ d6_13 rfl (by simp) e23 (by decide) ⟨rfl, N0, rfl⟩
theorem d6_12 : decode cD14 12 = .ok (.iconst 0, 1) := by decide +kernel
def Qie1 (Z : State) (o0 t : Addr) (k : ClassId) (n : Int32) (vs : List Value) (h0 : Heap) (n0 : Nat) : QT := fun v h L => (v = some (.int 0)) ∧ (Fr n0 L) ∧ (h = h0)
theorem rmie1 (l : Launch) (Z : State) (a0 : Array Value) (hw : TW a0 Z) (ws : List Jvm.Cond) (o0 t : Addr) (k : ClassId) (n : Int32) (vs : List Value) (h0 : Heap) (n0 : Nat) (Z0 : n0 ≤ h0.size) (wg : fBQ Z h0 o0 (.ref t)) (A_t : Arv Z h0 t k .byte n vs (.int 0)) (hne : ¬ n = (0 : Int32)) :
  MF l mN5 jdk_42_method_55_code 1 (some .boolean) ws (rmm 0 0 0 0) #[.ref o0] Z h0 (Qie1 Z o0 t k n vs h0 n0) := by
 refine MF.of (plainFor_of_name pn_1) ?_
 intro p e s m below meth c s₁ QQ hy hml hown hZ X0 e0 hrt hlk hnm hQQ
 have N0 := Fr.nil n0
 refine Ends.i #[rv o0] (oA X0 hy d6_0 1 rfl (gF X0 hy hown hZ hw e0 wg d6_1 4 26 rfl fun T25 X25 e25 => aLn X25 hy hZ e25 A_t d6_4 5 ?_))
 have hc5 : ¬ (n = (0 : Int32)) := hne
 refine oxk X25 hy d6_5 12 (XT.i0_ne_t hc5) (oG X25 hy d6_12 13 0 rfl ?_)
 exact fI X25 hy hrt hlk hQQ d6_13 rfl (by simp) e25 (by decide) ⟨rfl, N0, rfl⟩
theorem d14_0 : decode cD12 0 = .ok (.getstatic 38, 3) := by decide +kernel
theorem d14_3 : decode cD12 3 = .ok (.ifCond .eq 14, 3) := by decide +kernel
theorem d14_6 : decode cD12 6 = .ok (.aload_n 0, 1) := by decide +kernel
theorem d14_7 : decode cD12 7 = .ok (.getfield 15, 3) := by decide +kernel
theorem d14_10 : decode cD12 10 = .ok (.ifCond .ne 7, 3) := by decide +kernel
theorem d14_13 : decode cD12 13 = .ok (.iconst 1, 1) := by decide +kernel
theorem d14_14 : decode cD12 14 = .ok (.goto 4, 3) := by decide +kernel
theorem d14_18 : decode cD12 18 = .ok (.ireturn, 1) := by decide +kernel
def Qla0 (Z : State) (o0 : Addr) (cs : Int32) (h0 : Heap) (n0 : Nat) : QT := fun v h L => (v = some (.int 1)) ∧ (Fr n0 L) ∧ (h = h0)
theorem rmla0 (l : Launch) (Z : State) (a0 : Array Value) (hw : TW a0 Z) (ws : List Jvm.Cond) (o0 : Addr) (cs : Int32) (h0 : Heap) (n0 : Nat) (Z0 : n0 ≤ h0.size) (wb : sCQ Z h0 (.int cs)) (hcs : ¬ cs = (0 : Int32)) (wh : fAQ Z h0 o0 (.int 0)) :
  MF l mN6 jdk_42_method_154_code 1 (some .boolean) ws (rmm 0 0 0 0) #[.ref o0] Z h0 (Qla0 Z o0 cs h0 n0) := by
 refine MF.of (plainFor_of_name pn_1) ?_
 intro p e s m below meth c s₁ QQ hy hml hown hZ X0 e0 hrt hlk hnm hQQ
 have N0 := Fr.nil n0
 refine Ends.i #[rv o0] (gS X0 hy hown hZ hw e0 wb d14_0 3 41 rfl fun T27 X27 e27 => ?_)
 have hc3 : ¬ (cs = (0 : Int32)) := hcs
 refine oxh X27 hy d14_3 6 (XT.i0_eq_f hc3) (oA X27 hy d14_6 7 rfl (gF X27 hy hown hZ hw e27 wh d14_7 10 27 rfl fun T28 X28 e28 => oxh X28 hy d14_10 13 (XT.i0_ne_f (by decide)) (oG X28 hy d14_13 14 1 rfl (oxm X28 hy d14_14 18 ?_))))
 exact fI X28 hy hrt hlk hQQ d14_18 rfl (by simp) e28 (by decide) ⟨rfl, N0, rfl⟩
theorem d14_17 : decode cD12 17 = .ok (.iconst 0, 1) := by decide +kernel
def Qla1 (Z : State) (o0 : Addr) (cs : Int32) (h0 : Heap) (n0 : Nat) : QT := fun v h L => (v = some (.int 0)) ∧ (Fr n0 L) ∧ (h = h0)
theorem rmla1 (l : Launch) (Z : State) (a0 : Array Value) (hw : TW a0 Z) (ws : List Jvm.Cond) (o0 : Addr) (cs : Int32) (h0 : Heap) (n0 : Nat) (Z0 : n0 ≤ h0.size) (wb : sCQ Z h0 (.int cs)) (hcs : ¬ cs = (0 : Int32)) (wh : fAQ Z h0 o0 (.int 1)) :
  MF l mN6 jdk_42_method_154_code 1 (some .boolean) ws (rmm 0 0 0 0) #[.ref o0] Z h0 (Qla1 Z o0 cs h0 n0) := by
 refine MF.of (plainFor_of_name pn_1) ?_
 intro p e s m below meth c s₁ QQ hy hml hown hZ X0 e0 hrt hlk hnm hQQ
 have N0 := Fr.nil n0
 refine Ends.i #[rv o0] (gS X0 hy hown hZ hw e0 wb d14_0 3 41 rfl fun T29 X29 e29 => ?_)
 have hc3 : ¬ (cs = (0 : Int32)) := hcs
 refine oxh X29 hy d14_3 6 (XT.i0_eq_f hc3) (oA X29 hy d14_6 7 rfl (gF X29 hy hown hZ hw e29 wh d14_7 10 27 rfl fun T30 X30 e30 => oxk X30 hy d14_10 17 (XT.i0_ne_t (by decide)) (oG X30 hy d14_17 18 0 rfl ?_)))
 exact fI X30 hy hrt hlk hQQ d14_18 rfl (by simp) e30 (by decide) ⟨rfl, N0, rfl⟩
theorem d17_0 : decode cD18 0 = .ok (.iload_n 0, 1) := by decide +kernel
theorem d17_1 : decode cD18 1 = .ok (.ifCond .lt 8, 3) := by decide +kernel
theorem d17_4 : decode cD18 4 = .ok (.iload_n 0, 1) := by decide +kernel
theorem d17_5 : decode cD18 5 = .ok (.iload_n 1, 1) := by decide +kernel
theorem d17_6 : decode cD18 6 = .ok (.if_icmp .lt 10, 3) := by decide +kernel
theorem d17_16 : decode cD18 16 = .ok (.iload_n 0, 1) := by decide +kernel
theorem d17_17 : decode cD18 17 = .ok (.ireturn, 1) := by decide +kernel
theorem ef_pci (m : MethodId) (x0 : Int32) (x1 : Int32) (x2 : Value) (hx2 : x2.isRef = true) : entryFrame m #[.int x0, .int x1, x2] 3 = mkF m 0 #[.val (.int x0), .val (.int x1), .val x2] [] := by
  rcases XT.refc hx2 with rfl | ⟨_, rfl⟩ <;> rfl
def Qpci (Z : State) (p0 p1 : Int32) (r2 : Value) (h0 : Heap) (n0 : Nat) : QT := fun v h L => (v = some (.int p0)) ∧ (Fr n0 L) ∧ (h = h0)
theorem rmpci (l : Launch) (Z : State) (a0 : Array Value) (hw : TW a0 Z) (ws : List Jvm.Cond) (p0 p1 : Int32) (r2 : Value) (h0 : Heap) (n0 : Nat) (Z0 : n0 ≤ h0.size) (jm : r2.isRef = true) (h1 : ¬ p0 < (0 : Int32)) (h2 : p0 < p1) :
  MF l mN15 jdk_41_method_11_code 3 (some .int) ws (rmm 0 0 0 0) #[.int p0, .int p1, r2] Z h0 (Qpci Z p0 p1 r2 h0 n0) := by
 refine MF.of (plainFor_of_name pn_2) ?_
 intro p e s m below meth c s₁ QQ hy hml hown hZ X0 e0 hrt hlk hnm hQQ
 have N0 := Fr.nil n0
 refine Ends.i #[iv p0, iv p1, .val r2] ?_ (ef_pci m p0 p1 r2 jm)
 refine oC X0 hy d17_0 1 rfl ?_
 have hc1 : ¬ (p0 < (0 : Int32)) := h1
 refine oxh X0 hy d17_1 4 (XT.i0_lt_f hc1) (oC X0 hy d17_4 5 rfl (oC X0 hy d17_5 6 rfl ?_))
 have hc6 : p0 < p1 := h2
 refine oxl X0 hy d17_6 16 (XT.ii_lt_t hc6) (oC X0 hy d17_16 17 rfl ?_)
 exact fI X0 hy hrt hlk hQQ d17_17 rfl (Or.inl rfl) e0 (by decide) ⟨rfl, N0, rfl⟩
theorem d16_0 : decode cD21 0 = .ok (.iload_n 0, 1) := by decide +kernel
theorem d16_1 : decode cD21 1 = .ok (.iload_n 1, 1) := by decide +kernel
theorem d16_2 : decode cD21 2 = .ok (.getstatic 1053, 3) := by decide +kernel
theorem d16_5 : decode cD21 5 = .ok (.invokestatic 1059, 3) := by decide +kernel
theorem d16_8 : decode cD21 8 = .ok (.pop, 1) := by decide +kernel
theorem d16_9 : decode cD21 9 = .ok (.return_, 1) := by decide +kernel
def Qsci (Z : State) (p0 p1 : Int32) (sf : Value) (h0 : Heap) (n0 : Nat) : QT := fun v h L => (v = none) ∧ (Fr n0 L) ∧ (h = h0)
theorem rmsci (l : Launch) (Z : State) (a0 : Array Value) (hw : TW a0 Z) (ws : List Jvm.Cond) (p0 p1 : Int32) (sf : Value) (h0 : Heap) (n0 : Nat) (Z0 : n0 ≤ h0.size) (wd : sDQ Z h0 sf) (wn : sf.isRef = true) (h1 : ¬ p0 < (0 : Int32)) (h2 : p0 < p1) :
  MF l mN16 jdk_42_method_155_code 2 none ws (rmm 1 0 0 14) #[.int p0, .int p1] Z h0 (Qsci Z p0 p1 sf h0 n0) := by
 refine MF.of (plainFor_of_name pn_1) ?_
 intro p e s m below meth c s₁ QQ hy hml hown hZ X0 e0 hrt hlk hnm hQQ
 have N0 := Fr.nil n0
 refine Ends.i #[iv p0, iv p1] (oC X0 hy d16_0 1 rfl (oC X0 hy d16_1 2 rfl (gS X0 hy hown hZ hw e0 wd d16_2 5 79 rfl fun T31 X31 e31 => ?_)))
 refine cS X31 hy hml hown hZ hw d16_5 8 0 81 82 80 83 rfl rfl rfl rfl (rmpci l Z a0 hw [] p0 p1 sf h0 n0 Z0 wn h1 h2) e31 pd_2 rfl rfl fun _ T32 Lc32 X32 hQ32 => ?_
 obtain ⟨rfl, Nq32, hh32⟩ := hQ32
 have N32 := Fr.app N0 Nq32
 refine Ends.v (oxe X32 hy d16_8 9 rfl ?_)
 exact fV X32 hy hrt hlk hQQ d16_9 hh32 (by decide) ⟨rfl, N32, rfl⟩
theorem d15_0 : decode cD9 0 = .ok (.iload_n 1, 1) := by decide +kernel
theorem d15_1 : decode cD9 1 = .ok (.aload_n 0, 1) := by decide +kernel
theorem d15_2 : decode cD9 2 = .ok (.arraylength, 1) := by decide +kernel
theorem d15_3 : decode cD9 3 = .ok (.invokestatic 9, 3) := by decide +kernel
theorem d15_6 : decode cD9 6 = .ok (.aload_n 0, 1) := by decide +kernel
theorem d15_7 : decode cD9 7 = .ok (.iload_n 1, 1) := by decide +kernel
theorem d15_8 : decode cD9 8 = .ok (.baload, 1) := by decide +kernel
theorem d15_9 : decode cD9 9 = .ok (.sipush 255, 3) := by decide +kernel
theorem d15_12 : decode cD9 12 = .ok (.iand, 1) := by decide +kernel
theorem d15_13 : decode cD9 13 = .ok (.i2c, 1) := by decide +kernel
theorem d15_14 : decode cD9 14 = .ok (.ireturn, 1) := by decide +kernel
def Qlca (Z : State) (o0 : Addr) (p1 : Int32) (k : ClassId) (n : Int32) (vs : List Value) (b : Int32) (sf : Value) (h0 : Heap) (n0 : Nat) : QT := fun v h L => (v = some (.int (b &&& (255 : Int32)))) ∧ (Fr n0 L) ∧ (h = h0)
theorem rmlca (l : Launch) (Z : State) (a0 : Array Value) (hw : TW a0 Z) (ws : List Jvm.Cond) (o0 : Addr) (p1 : Int32) (k : ClassId) (n : Int32) (vs : List Value) (b : Int32) (sf : Value) (h0 : Heap) (n0 : Nat) (Z0 : n0 ≤ h0.size) (wm : Arv Z h0 o0 k .byte n vs (.int 0)) (wd : sDQ Z h0 sf) (wn : sf.isRef = true) (h1 : ¬ p1 < (0 : Int32)) (h2 : p1 < n) (hbt : vs.getD p1.toNatClampNeg (.int 0) = .int b) :
  MF l mN17 jdk_43_method_2_code 2 (some .char) ws (rmm 2 0 0 27) #[.ref o0, .int p1] Z h0 (Qlca Z o0 p1 k n vs b sf h0 n0) := by
 refine MF.of (plainFor_of_name pn_3) ?_
 intro p e s m below meth c s₁ QQ hy hml hown hZ X0 e0 hrt hlk hnm hQQ
 have N0 := Fr.nil n0
 refine Ends.i #[rv o0, iv p1] (oC X0 hy d15_0 1 rfl (oA X0 hy d15_1 2 rfl (aLn X0 hy hZ e0 wm d15_2 3 ?_)))
 refine cS X0 hy hml hown hZ hw d15_3 6 0 76 77 9 78 rfl rfl rfl rfl (rmsci l Z a0 hw [] p1 n sf h0 n0 Z0 wd wn h1 h2) e0 pd_3 rfl rfl fun _ T34 Lc34 X34 hQ34 => ?_
 obtain ⟨rfl, Nq34, hh34⟩ := hQ34
 have N34 := Fr.app N0 Nq34
 refine Ends.u (oA X34 hy d15_6 7 rfl (oC X34 hy d15_7 8 rfl (aLB X34 hy hZ hh34 wm d15_8 9 (.int b) ⟨h1, h2⟩ (hbt) (oI X34 hy d15_9 12 255 rfl (oN X34 hy d15_12 13 (oxc X34 hy d15_13 14 ?_))))))
 exact fI X34 hy hrt hlk hQQ d15_14 (XT.narrow_c _) (by simp) hh34 (by decide) ⟨(by rw [i2c_mask]), N34, rfl⟩
theorem d13_0 : decode cD8 0 = .ok (.aload_n 0, 1) := by decide +kernel
theorem d13_1 : decode cD8 1 = .ok (.invokevirtual 492, 3) := by decide +kernel
theorem d13_4 : decode cD8 4 = .ok (.ifCond .eq 12, 3) := by decide +kernel
theorem d13_7 : decode cD8 7 = .ok (.aload_n 0, 1) := by decide +kernel
theorem d13_8 : decode cD8 8 = .ok (.getfield 9, 3) := by decide +kernel
theorem d13_11 : decode cD8 11 = .ok (.iload_n 1, 1) := by decide +kernel
theorem d13_12 : decode cD8 12 = .ok (.invokestatic 495, 3) := by decide +kernel
theorem d13_15 : decode cD8 15 = .ok (.ireturn, 1) := by decide +kernel
def Qch0 (Z : State) (o0 : Addr) (p1 : Int32) (t : Addr) (k : ClassId) (n : Int32) (vs : List Value) (b cs : Int32) (sf : Value) (cz : Int32) (h0 : Heap) (n0 : Nat) : QT := fun v h L => (v = some (.int cz)) ∧ (Fr n0 L) ∧ (h = h0)
theorem rmch0 (l : Launch) (Z : State) (a0 : Array Value) (hw : TW a0 Z) (ws : List Jvm.Cond) (o0 : Addr) (p1 : Int32) (t : Addr) (k : ClassId) (n : Int32) (vs : List Value) (b cs : Int32) (sf : Value) (cz : Int32) (h0 : Heap) (n0 : Nat) (Z0 : n0 ≤ h0.size) (wk : eAQ Z h0 o0) (wg : fBQ Z h0 o0 (.ref t)) (A_t : Arv Z h0 t k .byte n vs (.int 0)) (wb : sCQ Z h0 (.int cs)) (hcs : ¬ cs = (0 : Int32)) (wh : fAQ Z h0 o0 (.int 0)) (wd : sDQ Z h0 sf) (wn : sf.isRef = true) (h1 : ¬ p1 < (0 : Int32)) (h2 : p1 < n) (hbt : vs.getD p1.toNatClampNeg (.int 0) = .int b) (hbc : (b &&& (255 : Int32)) = cz) :
  MF l mN7 jdk_42_method_56_code 2 (some .char) ws (rmm 3 0 0 40) #[.ref o0, .int p1] Z h0 (Qch0 Z o0 p1 t k n vs b cs sf cz h0 n0) := by
 refine MF.of (plainFor_of_name pn_1) ?_
 intro p e s m below meth c s₁ QQ hy hml hown hZ X0 e0 hrt hlk hnm hQQ
 have N0 := Fr.nil n0
 refine Ends.i #[rv o0, iv p1] (oA X0 hy d13_0 1 rfl ?_)
 refine cV X0 hy hml hown hZ hw d13_1 4 0 67 68 70 69 71 9 rfl rfl rfl rfl rfl rfl (rmla0 l Z a0 hw [] o0 cs h0 n0 Z0 wb hcs wh) e0 pd_4 wk rfl rfl fun _ T36 Lc36 X36 hQ36 => ?_
 obtain ⟨rfl, Nq36, hh36⟩ := hQ36
 have N36 := Fr.app N0 Nq36
 refine Ends.v (oxh X36 hy d13_4 7 (XT.i0_eq_f (by decide)) (oA X36 hy d13_7 8 rfl (gF X36 hy hown hZ hw hh36 wg d13_8 11 26 rfl fun T37 X37 e37 => oC X37 hy d13_11 12 rfl ?_)))
 refine cS X37 hy hml hown hZ hw d13_12 15 0 72 73 74 75 rfl rfl rfl rfl (rmlca l Z a0 hw [] t p1 k n vs b sf h0 n0 Z0 A_t wd wn h1 h2 hbt) e37 pd_5 rfl rfl fun _ T38 Lc38 X38 hQ38 => ?_
 obtain ⟨rfl, Nq38, hh38⟩ := hQ38
 have N38 := Fr.app N36 Nq38
 refine Ends.v ?_
 exact fI X38 hy hrt hlk hQQ d13_15 (own_nar255 b) (by simp) hh38 (by decide) ⟨(by rw [hbc]), N38, rfl⟩
theorem d25_0 : decode cD22 0 = .ok (.aload_n 0, 1) := by decide +kernel
theorem d25_1 : decode cD22 1 = .ok (.arraylength, 1) := by decide +kernel
theorem d25_2 : decode cD22 2 = .ok (.iconst 1, 1) := by decide +kernel
theorem d25_3 : decode cD22 3 = .ok (.ishr, 1) := by decide +kernel
theorem d25_4 : decode cD22 4 = .ok (.ireturn, 1) := by decide +kernel
def Qul (Z : State) (o0 : Addr) (k : ClassId) (n : Int32) (vs : List Value) (mz : Int32) (h0 : Heap) (n0 : Nat) : QT := fun v h L => (v = some (.int mz)) ∧ (Fr n0 L) ∧ (h = h0)
theorem rmul (l : Launch) (Z : State) (a0 : Array Value) (hw : TW a0 Z) (ws : List Jvm.Cond) (o0 : Addr) (k : ClassId) (n : Int32) (vs : List Value) (mz : Int32) (h0 : Heap) (n0 : Nat) (Z0 : n0 ≤ h0.size) (wm : Arv Z h0 o0 k .byte n vs (.int 0)) (hm : (n >>> ((1 : Int32) &&& 31)) = mz) :
  MF l mN18 jdk_52_method_6_code 1 (some .int) ws (rmm 0 0 0 0) #[.ref o0] Z h0 (Qul Z o0 k n vs mz h0 n0) := by
 refine MF.of (plainFor_of_name pn_4) ?_
 intro p e s m below meth c s₁ QQ hy hml hown hZ X0 e0 hrt hlk hnm hQQ
 have N0 := Fr.nil n0
 refine Ends.i #[rv o0] (oA X0 hy d25_0 1 rfl (aLn X0 hy hZ e0 wm d25_1 2 (oG X0 hy d25_2 3 1 rfl (oP X0 hy d25_3 4 ?_))))
 exact fI X0 hy hrt hlk hQQ d25_4 rfl (Or.inl rfl) e0 (by decide) ⟨(by rw [hm]), N0, rfl⟩
theorem d24_0 : decode cD23 0 = .ok (.iload_n 0, 1) := by decide +kernel
theorem d24_1 : decode cD23 1 = .ok (.aload_n 1, 1) := by decide +kernel
theorem d24_2 : decode cD23 2 = .ok (.invokestatic 48, 3) := by decide +kernel
theorem d24_5 : decode cD23 5 = .ok (.invokestatic 414, 3) := by decide +kernel
theorem d24_8 : decode cD23 8 = .ok (.return_, 1) := by decide +kernel
def Quci (Z : State) (p0 : Int32) (o1 : Addr) (k : ClassId) (n : Int32) (vs : List Value) (mz : Int32) (sf : Value) (h0 : Heap) (n0 : Nat) : QT := fun v h L => (v = none) ∧ (Fr n0 L) ∧ (h = h0)
theorem rmuci (l : Launch) (Z : State) (a0 : Array Value) (hw : TW a0 Z) (ws : List Jvm.Cond) (p0 : Int32) (o1 : Addr) (k : ClassId) (n : Int32) (vs : List Value) (mz : Int32) (sf : Value) (h0 : Heap) (n0 : Nat) (Z0 : n0 ≤ h0.size) (wU : Arv Z h0 o1 k .byte n vs (.int 0)) (hm : (n >>> ((1 : Int32) &&& 31)) = mz) (wd : sDQ Z h0 sf) (wn : sf.isRef = true) (h1 : ¬ p0 < (0 : Int32)) (h2 : p0 < mz) :
  MF l mN19 jdk_52_method_91_code 2 none ws (rmm 2 0 0 27) #[.int p0, .ref o1] Z h0 (Quci Z p0 o1 k n vs mz sf h0 n0) := by
 refine MF.of (plainFor_of_name pn_4) ?_
 intro p e s m below meth c s₁ QQ hy hml hown hZ X0 e0 hrt hlk hnm hQQ
 have N0 := Fr.nil n0
 refine Ends.i #[iv p0, rv o1] (oC X0 hy d24_0 1 rfl (oA X0 hy d24_1 2 rfl ?_))
 refine cS X0 hy hml hown hZ hw d24_2 5 1 109 110 44 111 rfl rfl rfl rfl (rmul l Z a0 hw [] o1 k n vs mz h0 n0 Z0 wU hm) e0 pd_6 rfl rfl fun _ T40 Lc40 X40 hQ40 => ?_
 obtain ⟨rfl, Nq40, hh40⟩ := hQ40
 have N40 := Fr.app N0 Nq40
 refine Ends.v ?_
 refine cS X40 hy hml hown hZ hw d24_5 8 0 112 77 9 78 rfl rfl rfl rfl (rmsci l Z a0 hw [] p0 mz sf h0 n0 Z0 wd wn h1 h2) hh40 pd_3 rfl rfl fun _ T41 Lc41 X41 hQ41 => ?_
 obtain ⟨rfl, Nq41, hh41⟩ := hQ41
 have N41 := Fr.app N40 Nq41
 refine Ends.u ?_
 exact fV X41 hy hrt hlk hQQ d24_8 hh41 (by decide) ⟨rfl, N41, rfl⟩
theorem d22_0 : decode cD5 0 = .ok (.getstatic 44, 3) := by decide +kernel
theorem d22_3 : decode cD5 3 = .ok (.ifCond .ne 25, 3) := by decide +kernel
theorem d22_28 : decode cD5 28 = .ok (.iload_n 1, 1) := by decide +kernel
theorem d22_29 : decode cD5 29 = .ok (.iconst 1, 1) := by decide +kernel
theorem d22_30 : decode cD5 30 = .ok (.ishl, 1) := by decide +kernel
theorem d22_31 : decode cD5 31 = .ok (.istore_n 1, 1) := by decide +kernel
theorem d22_32 : decode cD5 32 = .ok (.aload_n 0, 1) := by decide +kernel
theorem d22_33 : decode cD5 33 = .ok (.iload_n 1, 1) := by decide +kernel
theorem d22_34 : decode cD5 34 = .ok (.iinc 1 1, 3) := by decide +kernel
theorem d22_37 : decode cD5 37 = .ok (.baload, 1) := by decide +kernel
theorem d22_38 : decode cD5 38 = .ok (.sipush 255, 3) := by decide +kernel
theorem d22_41 : decode cD5 41 = .ok (.iand, 1) := by decide +kernel
theorem d22_42 : decode cD5 42 = .ok (.getstatic 59, 3) := by decide +kernel
theorem d22_45 : decode cD5 45 = .ok (.ishl, 1) := by decide +kernel
theorem d22_46 : decode cD5 46 = .ok (.aload_n 0, 1) := by decide +kernel
theorem d22_47 : decode cD5 47 = .ok (.iload_n 1, 1) := by decide +kernel
theorem d22_48 : decode cD5 48 = .ok (.baload, 1) := by decide +kernel
theorem d22_49 : decode cD5 49 = .ok (.sipush 255, 3) := by decide +kernel
theorem d22_52 : decode cD5 52 = .ok (.iand, 1) := by decide +kernel
theorem d22_53 : decode cD5 53 = .ok (.getstatic 63, 3) := by decide +kernel
theorem d22_56 : decode cD5 56 = .ok (.ishl, 1) := by decide +kernel
theorem d22_57 : decode cD5 57 = .ok (.ior, 1) := by decide +kernel
theorem d22_58 : decode cD5 58 = .ok (.i2c, 1) := by decide +kernel
theorem d22_59 : decode cD5 59 = .ok (.ireturn, 1) := by decide +kernel
def Qgch (Z : State) (o0 : Addr) (p1 : Int32) (k : ClassId) (n : Int32) (vs : List Value) (j0 j1 bh bl cz : Int32) (h0 : Heap) (n0 : Nat) : QT := fun v h L => (v = some (.int cz)) ∧ (Fr n0 L) ∧ (h = h0)
theorem rmgch (l : Launch) (Z : State) (a0 : Array Value) (hw : TW a0 Z) (ws : List Jvm.Cond) (o0 : Addr) (p1 : Int32) (k : ClassId) (n : Int32) (vs : List Value) (j0 j1 bh bl cz : Int32) (h0 : Heap) (n0 : Nat) (Z0 : n0 ≤ h0.size) (wm : Arv Z h0 o0 k .byte n vs (.int 0)) (wa : sEQ Z h0 (.int 1)) (wf : sFQ Z h0 (.int 0)) (we : sGQ Z h0 (.int 8)) (ej : (p1 <<< ((1 : Int32) &&& 31)) = j0) (ek : (j0 + (1 : Int32)) = j1) (i1 : ¬ j0 < (0 : Int32)) (i2 : j0 < n) (i3 : ¬ j1 < (0 : Int32)) (i4 : j1 < n) (v1 : vs.getD j0.toNatClampNeg (.int 0) = .int bh) (v2 : vs.getD j1.toNatClampNeg (.int 0) = .int bl) (hc : own_gc bh bl = cz) :
  MF l mN20 jdk_52_method_5_code 2 (some .char) ws (rmm 0 0 0 0) #[.ref o0, .int p1] Z h0 (Qgch Z o0 p1 k n vs j0 j1 bh bl cz h0 n0) := by
 refine MF.of (plainFor_of_name pn_4) ?_
 intro p e s m below meth c s₁ QQ hy hml hown hZ X0 e0 hrt hlk hnm hQQ
 have hx := hy.1
 have hby := hy.2
 have N0 := Fr.nil n0
 refine Ends.i #[rv o0, iv p1] (gS X0 hy hown hZ hw e0 wa d22_0 3 97 rfl fun T42 X42 e42 => oxk X42 hy d22_3 28 (XT.i0_ne_t (by decide)) (oC X42 hy d22_28 29 rfl (oG X42 hy d22_29 30 1 rfl (oO X42 hy d22_30 31 (oxp X42 hy d22_31 32 #[rv o0, iv (p1 <<< ((1 : Int32) &&& 31))] rfl ?_)))))
 show Ends p e below QQ (T42.setTop (mkF m 32 #[rv o0, iv (p1 <<< ((1 : Int32) &&& 31))] []))
 rw [ej]
 show Ends p e below QQ (T42.setTop (mkF m 32 #[rv o0, iv j0] []))
 refine oA X42 hy d22_32 33 rfl (oC X42 hy d22_33 34 rfl (oxz X42 hy d22_34 37 #[rv o0, iv (j0 + (1 : Int32))] 1 rfl rfl rfl ?_))
 show Ends p e below QQ (T42.setTop (mkF m 37 #[rv o0, iv (j0 + (1 : Int32))] [.int j0, .ref o0]))
 rw [ek]
 show Ends p e below QQ (T42.setTop (mkF m 37 #[rv o0, iv j1] [.int j0, .ref o0]))
 refine aLB X42 hy hZ e42 wm d22_37 38 (.int bh) ⟨i1, i2⟩ (v1) (oI X42 hy d22_38 41 255 rfl (oN X42 hy d22_41 42 (gS X42 hy hown hZ hw e42 wf d22_42 45 98 rfl fun T44 X44 e44 => oO X44 hy d22_45 46 (oA X44 hy d22_46 47 rfl (oC X44 hy d22_47 48 rfl (aLB X44 hy hZ e44 wm d22_48 49 (.int bl) ⟨i3, i4⟩ (v2) (oI X44 hy d22_49 52 255 rfl (oN X44 hy d22_52 53 ?_))))))))
 refine gS X44 hy hown hZ hw e44 we d22_53 56 99 rfl fun T46 X46 e46 => oO X46 hy d22_56 57 ?_
 refine Ends.step (fun _ k => XT.ior X46.here hx rfl (hb hby d22_57) rfl k) ?_
 show Ends p e below QQ (T46.setTop (mkF m 58 #[rv o0, iv j1] [(.int (((bh &&& (255 : Int32)) <<< ((0 : Int32) &&& 31)) ||| ((bl &&& (255 : Int32)) <<< ((8 : Int32) &&& 31))))]))
 refine oxc X46 hy d22_58 59 ?_
 exact fI X46 hy hrt hlk hQQ d22_59 (XT.narrow_c _) (by simp) e46 (by decide) ⟨(congrArg (fun z => some (Value.int z)) hc), N0, rfl⟩
theorem d23_0 : decode cD19 0 = .ok (.iload_n 1, 1) := by decide +kernel
theorem d23_1 : decode cD19 1 = .ok (.aload_n 0, 1) := by decide +kernel
theorem d23_2 : decode cD19 2 = .ok (.invokestatic 67, 3) := by decide +kernel
theorem d23_5 : decode cD19 5 = .ok (.aload_n 0, 1) := by decide +kernel
theorem d23_6 : decode cD19 6 = .ok (.iload_n 1, 1) := by decide +kernel
theorem d23_7 : decode cD19 7 = .ok (.invokestatic 71, 3) := by decide +kernel
theorem d23_10 : decode cD19 10 = .ok (.ireturn, 1) := by decide +kernel
def Quca (Z : State) (o0 : Addr) (p1 : Int32) (k : ClassId) (n : Int32) (vs : List Value) (mz : Int32) (sf : Value) (j0 j1 bh bl cz : Int32) (h0 : Heap) (n0 : Nat) : QT := fun v h L => (v = some (.int cz)) ∧ (Fr n0 L) ∧ (h = h0)
theorem rmuca (l : Launch) (Z : State) (a0 : Array Value) (hw : TW a0 Z) (ws : List Jvm.Cond) (o0 : Addr) (p1 : Int32) (k : ClassId) (n : Int32) (vs : List Value) (mz : Int32) (sf : Value) (j0 j1 bh bl cz : Int32) (h0 : Heap) (n0 : Nat) (Z0 : n0 ≤ h0.size) (wm : Arv Z h0 o0 k .byte n vs (.int 0)) (hm : (n >>> ((1 : Int32) &&& 31)) = mz) (wd : sDQ Z h0 sf) (wn : sf.isRef = true) (wa : sEQ Z h0 (.int 1)) (wf : sFQ Z h0 (.int 0)) (we : sGQ Z h0 (.int 8)) (h1 : ¬ p1 < (0 : Int32)) (h2 : p1 < mz) (ej : (p1 <<< ((1 : Int32) &&& 31)) = j0) (ek : (j0 + (1 : Int32)) = j1) (i1 : ¬ j0 < (0 : Int32)) (i2 : j0 < n) (i3 : ¬ j1 < (0 : Int32)) (i4 : j1 < n) (v1 : vs.getD j0.toNatClampNeg (.int 0) = .int bh) (v2 : vs.getD j1.toNatClampNeg (.int 0) = .int bl) (hc : own_gc bh bl = cz) :
  MF l mN21 jdk_52_method_83_code 2 (some .char) ws (rmm 3 0 0 40) #[.ref o0, .int p1] Z h0 (Quca Z o0 p1 k n vs mz sf j0 j1 bh bl cz h0 n0) := by
 refine MF.of (plainFor_of_name pn_4) ?_
 intro p e s m below meth c s₁ QQ hy hml hown hZ X0 e0 hrt hlk hnm hQQ
 have N0 := Fr.nil n0
 refine Ends.i #[rv o0, iv p1] (oC X0 hy d23_0 1 rfl (oA X0 hy d23_1 2 rfl ?_))
 refine cS X0 hy hml hown hZ hw d23_2 5 0 106 107 44 108 rfl rfl rfl rfl (rmuci l Z a0 hw [] p1 o0 k n vs mz sf h0 n0 Z0 wm hm wd wn h1 h2) e0 pd_7 rfl rfl fun _ T47 Lc47 X47 hQ47 => ?_
 obtain ⟨rfl, Nq47, hh47⟩ := hQ47
 have N47 := Fr.app N0 Nq47
 refine Ends.u (oA X47 hy d23_5 6 rfl (oC X47 hy d23_6 7 rfl ?_))
 refine cS X47 hy hml hown hZ hw d23_7 10 0 100 101 44 102 rfl rfl rfl rfl (rmgch l Z a0 hw [] o0 p1 k n vs j0 j1 bh bl cz h0 n0 Z0 wm wa wf we ej ek i1 i2 i3 i4 v1 v2 hc) hh47 pd_5 rfl rfl fun _ T48 Lc48 X48 hQ48 => ?_
 obtain ⟨rfl, Nq48, hh48⟩ := hQ48
 have N48 := Fr.app N47 Nq48
 refine Ends.v ?_
 exact fI X48 hy hrt hlk hQQ d23_10 (own_narc' hc) (by simp) hh48 (by decide) ⟨rfl, N48, rfl⟩
theorem d13_16 : decode cD8 16 = .ok (.aload_n 0, 1) := by decide +kernel
theorem d13_17 : decode cD8 17 = .ok (.getfield 9, 3) := by decide +kernel
theorem d13_20 : decode cD8 20 = .ok (.iload_n 1, 1) := by decide +kernel
theorem d13_21 : decode cD8 21 = .ok (.invokestatic 498, 3) := by decide +kernel
theorem d13_24 : decode cD8 24 = .ok (.ireturn, 1) := by decide +kernel
def Qch1 (Z : State) (o0 : Addr) (p1 : Int32) (t : Addr) (cs : Int32) (k : ClassId) (n : Int32) (vs : List Value) (mz : Int32) (sf : Value) (j0 j1 bh bl cz : Int32) (h0 : Heap) (n0 : Nat) : QT := fun v h L => (v = some (.int cz)) ∧ (Fr n0 L) ∧ (h = h0)
theorem rmch1 (l : Launch) (Z : State) (a0 : Array Value) (hw : TW a0 Z) (ws : List Jvm.Cond) (o0 : Addr) (p1 : Int32) (t : Addr) (cs : Int32) (k : ClassId) (n : Int32) (vs : List Value) (mz : Int32) (sf : Value) (j0 j1 bh bl cz : Int32) (h0 : Heap) (n0 : Nat) (Z0 : n0 ≤ h0.size) (wk : eAQ Z h0 o0) (wg : fBQ Z h0 o0 (.ref t)) (A_t : Arv Z h0 t k .byte n vs (.int 0)) (wb : sCQ Z h0 (.int cs)) (hcs : ¬ cs = (0 : Int32)) (wh : fAQ Z h0 o0 (.int 1)) (hm : (n >>> ((1 : Int32) &&& 31)) = mz) (wd : sDQ Z h0 sf) (wn : sf.isRef = true) (wa : sEQ Z h0 (.int 1)) (wf : sFQ Z h0 (.int 0)) (we : sGQ Z h0 (.int 8)) (h1 : ¬ p1 < (0 : Int32)) (h2 : p1 < mz) (ej : (p1 <<< ((1 : Int32) &&& 31)) = j0) (ek : (j0 + (1 : Int32)) = j1) (i1 : ¬ j0 < (0 : Int32)) (i2 : j0 < n) (i3 : ¬ j1 < (0 : Int32)) (i4 : j1 < n) (v1 : vs.getD j0.toNatClampNeg (.int 0) = .int bh) (v2 : vs.getD j1.toNatClampNeg (.int 0) = .int bl) (hc : own_gc bh bl = cz) :
  MF l mN7 jdk_42_method_56_code 2 (some .char) ws (rmm 4 0 0 53) #[.ref o0, .int p1] Z h0 (Qch1 Z o0 p1 t cs k n vs mz sf j0 j1 bh bl cz h0 n0) := by
 refine MF.of (plainFor_of_name pn_1) ?_
 intro p e s m below meth c s₁ QQ hy hml hown hZ X0 e0 hrt hlk hnm hQQ
 have N0 := Fr.nil n0
 refine Ends.i #[rv o0, iv p1] (oA X0 hy d13_0 1 rfl ?_)
 refine cV X0 hy hml hown hZ hw d13_1 4 0 67 68 70 69 71 9 rfl rfl rfl rfl rfl rfl (rmla1 l Z a0 hw [] o0 cs h0 n0 Z0 wb hcs wh) e0 pd_4 wk rfl rfl fun _ T49 Lc49 X49 hQ49 => ?_
 obtain ⟨rfl, Nq49, hh49⟩ := hQ49
 have N49 := Fr.app N0 Nq49
 refine Ends.v (oxk X49 hy d13_4 16 (XT.i0_eq_t (by decide)) (oA X49 hy d13_16 17 rfl (gF X49 hy hown hZ hw hh49 wg d13_17 20 26 rfl fun T50 X50 e50 => oC X50 hy d13_20 21 rfl ?_)))
 refine cS X50 hy hml hown hZ hw d13_21 24 0 103 104 44 105 rfl rfl rfl rfl (rmuca l Z a0 hw [] t p1 k n vs mz sf j0 j1 bh bl cz h0 n0 Z0 A_t hm wd wn wa wf we h1 h2 ej ek i1 i2 i3 i4 v1 v2 hc) e50 pd_5 rfl rfl fun _ T51 Lc51 X51 hQ51 => ?_
 obtain ⟨rfl, Nq51, hh51⟩ := hQ51
 have N51 := Fr.app N49 Nq51
 refine Ends.v ?_
 exact fI X51 hy hrt hlk hQQ d13_24 (own_narc' hc) (by simp) hh51 (by decide) ⟨rfl, N51, rfl⟩
theorem d9_0 : decode cD4 0 = .ok (.iconst 0, 1) := by decide +kernel
theorem d9_1 : decode cD4 1 = .ok (.istore 5, 2) := by decide +kernel
theorem d9_3 : decode cD4 3 = .ok (.iload 5, 2) := by decide +kernel
theorem d9_5 : decode cD4 5 = .ok (.iload 4, 2) := by decide +kernel
theorem d9_7 : decode cD4 7 = .ok (.if_icmp .ge 37, 3) := by decide +kernel
theorem d9_10 : decode cD4 10 = .ok (.aload_n 0, 1) := by decide +kernel
theorem d9_11 : decode cD4 11 = .ok (.iload_n 1, 1) := by decide +kernel
theorem d9_12 : decode cD4 12 = .ok (.caload, 1) := by decide +kernel
theorem d9_13 : decode cD4 13 = .ok (.istore 6, 2) := by decide +kernel
theorem d9_15 : decode cD4 15 = .ok (.iload 6, 2) := by decide +kernel
theorem d9_17 : decode cD4 17 = .ok (.sipush 255, 3) := by decide +kernel
theorem d9_20 : decode cD4 20 = .ok (.if_icmp .le 6, 3) := by decide +kernel
theorem d9_26 : decode cD4 26 = .ok (.aload_n 2, 1) := by decide +kernel
theorem d9_27 : decode cD4 27 = .ok (.iload_n 3, 1) := by decide +kernel
theorem d9_28 : decode cD4 28 = .ok (.iload 6, 2) := by decide +kernel
theorem d9_30 : decode cD4 30 = .ok (.i2b, 1) := by decide +kernel
theorem d9_31 : decode cD4 31 = .ok (.bastore, 1) := by decide +kernel
theorem d9_32 : decode cD4 32 = .ok (.iinc 1 1, 3) := by decide +kernel
theorem d9_35 : decode cD4 35 = .ok (.iinc 3 1, 3) := by decide +kernel
theorem d9_38 : decode cD4 38 = .ok (.iinc 5 1, 3) := by decide +kernel
theorem d9_41 : decode cD4 41 = .ok (.goto (-38), 3) := by decide +kernel
theorem d9_44 : decode cD4 44 = .ok (.iload 4, 2) := by decide +kernel
theorem d9_46 : decode cD4 46 = .ok (.ireturn, 1) := by decide +kernel
def QcmL (Z : State) (o0 o2 : Addr) (p4 : Int32) (k0 k2 : ClassId) (g : Nat → Int32) (h0 : Heap) (n0 : Nat) : QT := fun v h L => (v = some (.int p4)) ∧ (Fr n0 L) ∧ (Keep h0 h [o2]) ∧ (Arv Z h o2 k2 .byte p4 (own_L p4.toNatClampNeg (own_bl g)) (.int 0))
theorem rmcmL (l : Launch) (Z : State) (a0 : Array Value) (hw : TW a0 Z) (ws : List Jvm.Cond) (o0 o2 : Addr) (p4 : Int32) (k0 k2 : ClassId) (g : Nat → Int32) (h0 : Heap) (n0 : Nat) (Z0 : n0 ≤ h0.size) (wm : Arv Z h0 o0 k0 .char p4 (own_L p4.toNatClampNeg g) (.int 0)) (wJ : Arv Z h0 o2 k2 .byte p4 (own_L p4.toNatClampNeg (fun _ => (0 : Int32))) (.int 0)) (vK : n0 ≤ o2) (vf : o0 ≠ o2) (hn1' : (0 : Int32) < p4) (hall : ∀ i : Nat, i < p4.toNatClampNeg → ¬ (255 : Int32) < g i) :
  MF l mN8 jdk_52_method_21_code 7 (some .int) ws (rmm 0 0 0 0) #[.ref o0, .int 0, .ref o2, .int 0, .int p4] Z h0 (QcmL Z o0 o2 p4 k0 k2 g h0 n0) := by
 refine MF.of (plainFor_of_name pn_4) ?_
 intro p e s m below meth c s₁ QQ hy hml hown hZ X0 e0 hrt hlk hnm hQQ
 have hx := hy.1
 have hby := hy.2
 have N0 := Fr.nil n0
 refine Ends.i #[rv o0, iv 0, rv o2, iv 0, iv p4, uu, uu] (oG X0 hy d9_0 1 0 rfl (oxo X0 hy d9_1 3 #[rv o0, iv 0, rv o2, iv 0, iv p4, iv 0, uu] rfl (oD X0 hy d9_3 5 rfl (oD X0 hy d9_5 7 rfl ?_))))
 have hc7 : (0 : Int32) < p4 := hn1'
 refine Ends.step (fun _ k => XS.icmpNo X0.here hx rfl (hb hby d9_7) rfl (XT.ii_ge_f hc7) k) ?_
 have wJ := own_Acv wJ (own_cw0 (g := g))
 show Ends p e below QQ (s₁.setTop (mkF m 10 #[rv o0, iv 0, rv o2, iv 0, iv p4, iv 0, uu] []))
 refine oA X0 hy d9_10 11 rfl (oC X0 hy d9_11 12 rfl (aLC X0 hy hZ e0 wm d9_12 13 (.int (g (0 : Int32).toNatClampNeg)) (own_ib own_t0i hc7) (own_Lg (own_ltn (own_ib own_t0i hc7))) (oxo X0 hy d9_13 15 #[rv o0, iv 0, rv o2, iv 0, iv p4, iv 0, iv (g (0 : Int32).toNatClampNeg)] rfl (oD X0 hy d9_15 17 rfl (oI X0 hy d9_17 20 255 rfl ?_)))))
 have hc20 : ¬ ((255 : Int32) < (g (0 : Int32).toNatClampNeg)) := (hall _ (own_ltn (own_ib own_t0i hc7)))
 refine oxl X0 hy d9_20 26 (XT.ii_le_t hc20) (oA X0 hy d9_26 27 rfl (oC X0 hy d9_27 28 rfl (oD X0 hy d9_28 30 rfl (oxb X0 hy d9_30 31 ?_))))
 refine aSB X0 hy hZ e0 wJ d9_31 32 (own_ib own_t0i hc7) fun T54 h54 X54 e54 W54 => ?_
 rw [own_narb] at W54
 have wm := wm.other W54 vf
 have wJ : Arv Z h54 o2 k2 .byte p4 (own_L p4.toNatClampNeg (own_cw g (fun _ => (0 : Int32)) (0 + 1))) (.int 0) := Asg wJ (fits_nar_byte _) W54 (own_cwS own_t0i) (own_ltn (own_ib own_t0i hc7))
 have K54 := (Keep.refl h0 [o2]).wr W54 (Or.inl mm0)
 have N54 := Fr.snoc X54 N0 vK
 refine oxz X54 hy d9_32 35 #[rv o0, iv 1, rv o2, iv 0, iv p4, iv 0, iv (g (0 : Int32).toNatClampNeg)] 1 rfl rfl rfl (oxz X54 hy d9_35 38 #[rv o0, iv 1, rv o2, iv 1, iv p4, iv 0, iv (g (0 : Int32).toNatClampNeg)] 1 rfl rfl rfl ?_)
 refine Ends.step (fun _ k => XT.iincV X54.here hx rfl (1 : Int32) (hb hby d9_38) rfl rfl (l' := #[rv o0, iv 1, rv o2, iv 1, iv p4, iv 1, iv (g (0 : Int32).toNatClampNeg)]) rfl k) ?_
 have hI55 := own_inc0
 show Ends p e below QQ (T54.setTop (mkF m 41 #[rv o0, iv 1, rv o2, iv 1, iv p4, iv 1, iv (g (0 : Int32).toNatClampNeg)] []))
 refine Ends.step (fun _ k => XS.goto X54.here hx rfl (pc0 := 41) (pc' := 3) rfl (hb hby d9_41) (by decide) (by decide) k) ?_
 have LP56 : ∀ (fu56 : Nat) (t57 : Nat) (i57 : Int32) (r57 : Int32) (T56 : State) (h56 : Heap) (L56 : List Loc) (X56 : Stand p l e (rmm 0 0 0 0) s m #[.ref o0, .int 0, .ref o2, .int 0, .int p4] below meth c T56 L56 0 0) (e56 : T56.heap = h56) (N56 : Fr n0 L56) (K56 : Keep h0 h56 [o2]) (wm : Arv Z h56 o0 k0 .char p4 (own_L p4.toNatClampNeg g) (.int 0)) (wJ : Arv Z h56 o2 k2 .byte p4 (own_L p4.toNatClampNeg (own_cw g (fun _ => (0 : Int32)) t57)) (.int 0)) (hI57 : i57.toInt = (t57 : Int)) (hf56 : (p4.toNatClampNeg - t57) < fu56), Ends p e below QQ (T56.setTop (mkF m 3 #[rv o0, iv i57, rv o2, iv i57, iv p4, iv i57, iv r57] [])) := by
  intro fu56
  induction fu56 with
  | zero => intro t57 i57 r57 T56 h56 L56 X56 e56 N56 K56 wm wJ hI57 hf56; exact absurd hf56 (Nat.not_lt_zero _)
  | succ fu56 ih56 =>
   intro t57 i57 r57 T56 h56 L56 X56 e56 N56 K56 wm wJ hI57 hf56
   show Ends p e below QQ (T56.setTop (mkF m 3 #[rv o0, iv i57, rv o2, iv i57, iv p4, iv i57, iv r57] []))
   refine oD X56 hy d9_3 5 rfl (oD X56 hy d9_5 7 rfl ?_)
   by_cases hc7_58 : i57 < p4
   ·refine oxi X56 hy d9_7 10 (XT.ii_ge_f hc7_58) (oA X56 hy d9_10 11 rfl (oC X56 hy d9_11 12 rfl (aLC X56 hy hZ e56 wm d9_12 13 (.int (g i57.toNatClampNeg)) (own_ib hI57 hc7_58) (own_Lg (own_ltn (own_ib hI57 hc7_58))) (oxo X56 hy d9_13 15 #[rv o0, iv i57, rv o2, iv i57, iv p4, iv i57, iv (g i57.toNatClampNeg)] rfl (oD X56 hy d9_15 17 rfl (oI X56 hy d9_17 20 255 rfl ?_))))))
    have hc20 : ¬ ((255 : Int32) < (g i57.toNatClampNeg)) := (hall _ (own_ltn (own_ib hI57 hc7_58)))
    refine oxl X56 hy d9_20 26 (XT.ii_le_t hc20) (oA X56 hy d9_26 27 rfl (oC X56 hy d9_27 28 rfl (oD X56 hy d9_28 30 rfl (oxb X56 hy d9_30 31 ?_))))
    refine aSB X56 hy hZ e56 wJ d9_31 32 (own_ib hI57 hc7_58) fun T61 h61 X61 e61 W61 => ?_
    rw [own_narb] at W61
    have wm := wm.other W61 vf
    have wJ : Arv Z h61 o2 k2 .byte p4 (own_L p4.toNatClampNeg (own_cw g (fun _ => (0 : Int32)) (t57 + 1))) (.int 0) := Asg wJ (fits_nar_byte _) W61 (own_cwS hI57) (own_ltn (own_ib hI57 hc7_58))
    have K61 := K56.wr W61 (Or.inl mm0)
    have N61 := Fr.snoc X61 N56 vK
    refine oxz X61 hy d9_32 35 #[rv o0, iv (i57 + (1 : Int32)), rv o2, iv i57, iv p4, iv i57, iv (g i57.toNatClampNeg)] 1 rfl rfl rfl (oxz X61 hy d9_35 38 #[rv o0, iv (i57 + (1 : Int32)), rv o2, iv (i57 + (1 : Int32)), iv p4, iv i57, iv (g i57.toNatClampNeg)] 1 rfl rfl rfl ?_)
    refine Ends.step (fun _ k => XT.iincV X61.here hx rfl (1 : Int32) (hb hby d9_38) rfl rfl (l' := #[rv o0, iv (i57 + (1 : Int32)), rv o2, iv (i57 + (1 : Int32)), iv p4, iv (i57 + (1 : Int32)), iv (g i57.toNatClampNeg)]) rfl k) ?_
    have hI62 := own_inc hI57 hc7_58
    show Ends p e below QQ (T61.setTop (mkF m 41 #[rv o0, iv (i57 + (1 : Int32)), rv o2, iv (i57 + (1 : Int32)), iv p4, iv (i57 + (1 : Int32)), iv (g i57.toNatClampNeg)] []))
    refine Ends.step (fun _ k => XS.goto X61.here hx rfl (pc0 := 41) (pc' := 3) rfl (hb hby d9_41) (by decide) (by decide) k) ?_
    exact ih56 ((t57 + 1)) ((i57 + (1 : Int32))) ((g i57.toNatClampNeg)) T61 h61 _ X61 e61 N61 K61 wm wJ hI62 (own_fu2 hI57 hc7_58 hf56)
   ·refine Ends.step (fun _ k => XS.icmpYes X56.here hx rfl (pc0 := 7) (pc' := 44) rfl (hb hby d9_7) rfl (XT.ii_ge_t hc7_58) (by decide) (by decide) k) ?_
    have wJ := own_Acw wJ (own_cwN hI57 hc7_58)
    show Ends p e below QQ (T56.setTop (mkF m 44 #[rv o0, iv i57, rv o2, iv i57, iv p4, iv i57, iv r57] []))
    refine oD X56 hy d9_44 46 rfl ?_
    exact fI X56 hy hrt hlk hQQ d9_46 rfl (Or.inl rfl) e56 (by decide) ⟨rfl, N56, K56, wJ⟩
 exact LP56 (p4.toNatClampNeg - (0 + 1) + 1) (0 + 1) (1 : Int32) (g (0 : Int32).toNatClampNeg) T54 h54 _ X54 e54 N54 K54 wm wJ hI55 (Nat.lt_succ_self _)
theorem d9_23 : decode cD4 23 = .ok (.iload 5, 2) := by decide +kernel
theorem d9_25 : decode cD4 25 = .ok (.ireturn, 1) := by decide +kernel
def QcmU (Z : State) (o0 o2 : Addr) (p4 : Int32) (k0 k2 : ClassId) (g : Nat → Int32) (jf : Nat) (h0 : Heap) (n0 : Nat) : QT := fun v h L => ∃ (rj : Int32), (v = some (.int rj)) ∧ (Fr n0 L) ∧ (Keep h0 h [o2]) ∧ (rj.toInt = (jf : Int))
theorem rmcmU (l : Launch) (Z : State) (a0 : Array Value) (hw : TW a0 Z) (ws : List Jvm.Cond) (o0 o2 : Addr) (p4 : Int32) (k0 k2 : ClassId) (g : Nat → Int32) (jf : Nat) (h0 : Heap) (n0 : Nat) (Z0 : n0 ≤ h0.size) (wm : Arv Z h0 o0 k0 .char p4 (own_L p4.toNatClampNeg g) (.int 0)) (wJ : Arv Z h0 o2 k2 .byte p4 (own_L p4.toNatClampNeg (fun _ => (0 : Int32))) (.int 0)) (vK : n0 ≤ o2) (vf : o0 ≠ o2) (hn1' : (0 : Int32) < p4) (haj : ∀ i : Nat, i < jf → ¬ (255 : Int32) < g i) (hjf : (255 : Int32) < g jf) (hjn : jf < p4.toNatClampNeg) :
  MF l mN8 jdk_52_method_21_code 7 (some .int) ws (rmm 0 0 0 0) #[.ref o0, .int 0, .ref o2, .int 0, .int p4] Z h0 (QcmU Z o0 o2 p4 k0 k2 g jf h0 n0) := by
 refine MF.of (plainFor_of_name pn_4) ?_
 intro p e s m below meth c s₁ QQ hy hml hown hZ X0 e0 hrt hlk hnm hQQ
 have hx := hy.1
 have hby := hy.2
 have N0 := Fr.nil n0
 refine Ends.i #[rv o0, iv 0, rv o2, iv 0, iv p4, uu, uu] (oG X0 hy d9_0 1 0 rfl (oxo X0 hy d9_1 3 #[rv o0, iv 0, rv o2, iv 0, iv p4, iv 0, uu] rfl (oD X0 hy d9_3 5 rfl (oD X0 hy d9_5 7 rfl ?_))))
 have hc7 : (0 : Int32) < p4 := hn1'
 refine Ends.step (fun _ k => XS.icmpNo X0.here hx rfl (hb hby d9_7) rfl (XT.ii_ge_f hc7) k) ?_
 have wJ := own_Acv wJ (own_cw0 (g := g))
 show Ends p e below QQ (s₁.setTop (mkF m 10 #[rv o0, iv 0, rv o2, iv 0, iv p4, iv 0, uu] []))
 refine oA X0 hy d9_10 11 rfl (oC X0 hy d9_11 12 rfl (aLC X0 hy hZ e0 wm d9_12 13 (.int (g (0 : Int32).toNatClampNeg)) (own_ib own_t0i hc7) (own_Lg (own_ltn (own_ib own_t0i hc7))) (oxo X0 hy d9_13 15 #[rv o0, iv 0, rv o2, iv 0, iv p4, iv 0, iv (g (0 : Int32).toNatClampNeg)] rfl (oD X0 hy d9_15 17 rfl (oI X0 hy d9_17 20 255 rfl ?_)))))
 by_cases hc20_64 : (255 : Int32) < (g (0 : Int32).toNatClampNeg)
 ·refine oxi X0 hy d9_20 23 (XT.ii_le_f hc20_64) (oD X0 hy d9_23 25 rfl ?_)
  exact fI X0 hy hrt hlk hQQ d9_25 rfl (Or.inl rfl) e0 (by decide) ⟨((0 : Int32)), rfl, N0, (Keep.refl h0 [o2]), (own_rj own_t0i (Nat.zero_le jf) haj hc20_64)⟩
 ·refine oxl X0 hy d9_20 26 (XT.ii_le_t hc20_64) (oA X0 hy d9_26 27 rfl (oC X0 hy d9_27 28 rfl (oD X0 hy d9_28 30 rfl (oxb X0 hy d9_30 31 ?_))))
  refine aSB X0 hy hZ e0 wJ d9_31 32 (own_ib own_t0i hc7) fun T66 h66 X66 e66 W66 => ?_
  rw [own_narb] at W66
  have wm := wm.other W66 vf
  have wJ : Arv Z h66 o2 k2 .byte p4 (own_L p4.toNatClampNeg (own_cw g (fun _ => (0 : Int32)) (0 + 1))) (.int 0) := Asg wJ (fits_nar_byte _) W66 (own_cwS own_t0i) (own_ltn (own_ib own_t0i hc7))
  have K66 := (Keep.refl h0 [o2]).wr W66 (Or.inl mm0)
  have N66 := Fr.snoc X66 N0 vK
  refine oxz X66 hy d9_32 35 #[rv o0, iv 1, rv o2, iv 0, iv p4, iv 0, iv (g (0 : Int32).toNatClampNeg)] 1 rfl rfl rfl (oxz X66 hy d9_35 38 #[rv o0, iv 1, rv o2, iv 1, iv p4, iv 0, iv (g (0 : Int32).toNatClampNeg)] 1 rfl rfl rfl ?_)
  refine Ends.step (fun _ k => XT.iincV X66.here hx rfl (1 : Int32) (hb hby d9_38) rfl rfl (l' := #[rv o0, iv 1, rv o2, iv 1, iv p4, iv 1, iv (g (0 : Int32).toNatClampNeg)]) rfl k) ?_
  have hI67 := own_inc0
  have hT67 := own_tj own_t0i (Nat.zero_le jf) hjf hc20_64
  show Ends p e below QQ (T66.setTop (mkF m 41 #[rv o0, iv 1, rv o2, iv 1, iv p4, iv 1, iv (g (0 : Int32).toNatClampNeg)] []))
  refine Ends.step (fun _ k => XS.goto X66.here hx rfl (pc0 := 41) (pc' := 3) rfl (hb hby d9_41) (by decide) (by decide) k) ?_
  have LP68 : ∀ (fu68 : Nat) (t69 : Nat) (i69 : Int32) (r69 : Int32) (T68 : State) (h68 : Heap) (L68 : List Loc) (X68 : Stand p l e (rmm 0 0 0 0) s m #[.ref o0, .int 0, .ref o2, .int 0, .int p4] below meth c T68 L68 0 0) (e68 : T68.heap = h68) (N68 : Fr n0 L68) (K68 : Keep h0 h68 [o2]) (wm : Arv Z h68 o0 k0 .char p4 (own_L p4.toNatClampNeg g) (.int 0)) (wJ : Arv Z h68 o2 k2 .byte p4 (own_L p4.toNatClampNeg (own_cw g (fun _ => (0 : Int32)) t69)) (.int 0)) (hI69 : i69.toInt = (t69 : Int)) (hT69 : t69 ≤ jf) (hf68 : (p4.toNatClampNeg - t69) < fu68), Ends p e below QQ (T68.setTop (mkF m 3 #[rv o0, iv i69, rv o2, iv i69, iv p4, iv i69, iv r69] [])) := by
   intro fu68
   induction fu68 with
   | zero => intro t69 i69 r69 T68 h68 L68 X68 e68 N68 K68 wm wJ hI69 hT69 hf68; exact absurd hf68 (Nat.not_lt_zero _)
   | succ fu68 ih68 =>
    intro t69 i69 r69 T68 h68 L68 X68 e68 N68 K68 wm wJ hI69 hT69 hf68
    show Ends p e below QQ (T68.setTop (mkF m 3 #[rv o0, iv i69, rv o2, iv i69, iv p4, iv i69, iv r69] []))
    refine oD X68 hy d9_3 5 rfl (oD X68 hy d9_5 7 rfl ?_)
    have hc7 : i69 < p4 := (own_tlt hI69 hT69 hjn)
    refine oxi X68 hy d9_7 10 (XT.ii_ge_f hc7) (oA X68 hy d9_10 11 rfl (oC X68 hy d9_11 12 rfl (aLC X68 hy hZ e68 wm d9_12 13 (.int (g i69.toNatClampNeg)) (own_ib hI69 hc7) (own_Lg (own_ltn (own_ib hI69 hc7))) (oxo X68 hy d9_13 15 #[rv o0, iv i69, rv o2, iv i69, iv p4, iv i69, iv (g i69.toNatClampNeg)] rfl (oD X68 hy d9_15 17 rfl (oI X68 hy d9_17 20 255 rfl ?_))))))
    by_cases hc20_71 : (255 : Int32) < (g i69.toNatClampNeg)
    ·refine oxi X68 hy d9_20 23 (XT.ii_le_f hc20_71) (oD X68 hy d9_23 25 rfl ?_)
     exact fI X68 hy hrt hlk hQQ d9_25 rfl (Or.inl rfl) e68 (by decide) ⟨(i69), rfl, N68, K68, (own_rj hI69 hT69 haj hc20_71)⟩
    ·refine oxl X68 hy d9_20 26 (XT.ii_le_t hc20_71) (oA X68 hy d9_26 27 rfl (oC X68 hy d9_27 28 rfl (oD X68 hy d9_28 30 rfl (oxb X68 hy d9_30 31 ?_))))
     refine aSB X68 hy hZ e68 wJ d9_31 32 (own_ib hI69 hc7) fun T73 h73 X73 e73 W73 => ?_
     rw [own_narb] at W73
     have wm := wm.other W73 vf
     have wJ : Arv Z h73 o2 k2 .byte p4 (own_L p4.toNatClampNeg (own_cw g (fun _ => (0 : Int32)) (t69 + 1))) (.int 0) := Asg wJ (fits_nar_byte _) W73 (own_cwS hI69) (own_ltn (own_ib hI69 hc7))
     have K73 := K68.wr W73 (Or.inl mm0)
     have N73 := Fr.snoc X73 N68 vK
     refine oxz X73 hy d9_32 35 #[rv o0, iv (i69 + (1 : Int32)), rv o2, iv i69, iv p4, iv i69, iv (g i69.toNatClampNeg)] 1 rfl rfl rfl (oxz X73 hy d9_35 38 #[rv o0, iv (i69 + (1 : Int32)), rv o2, iv (i69 + (1 : Int32)), iv p4, iv i69, iv (g i69.toNatClampNeg)] 1 rfl rfl rfl ?_)
     refine Ends.step (fun _ k => XT.iincV X73.here hx rfl (1 : Int32) (hb hby d9_38) rfl rfl (l' := #[rv o0, iv (i69 + (1 : Int32)), rv o2, iv (i69 + (1 : Int32)), iv p4, iv (i69 + (1 : Int32)), iv (g i69.toNatClampNeg)]) rfl k) ?_
     have hI74 := own_inc hI69 hc7
     have hT74 := own_tj hI69 hT69 hjf hc20_71
     show Ends p e below QQ (T73.setTop (mkF m 41 #[rv o0, iv (i69 + (1 : Int32)), rv o2, iv (i69 + (1 : Int32)), iv p4, iv (i69 + (1 : Int32)), iv (g i69.toNatClampNeg)] []))
     refine Ends.step (fun _ k => XS.goto X73.here hx rfl (pc0 := 41) (pc' := 3) rfl (hb hby d9_41) (by decide) (by decide) k) ?_
     exact ih68 ((t69 + 1)) ((i69 + (1 : Int32))) ((g i69.toNatClampNeg)) T73 h73 _ X73 e73 N73 K73 wm wJ hI74 hT74 (own_fu2 hI69 hc7 hf68)
  exact LP68 (p4.toNatClampNeg - (0 + 1) + 1) (0 + 1) (1 : Int32) (g (0 : Int32).toNatClampNeg) T66 h66 _ X66 e66 N66 K66 wm wJ hI67 hT67 (Nat.lt_succ_self _)
theorem d20_0 : decode cD13 0 = .ok (.iload_n 0, 1) := by decide +kernel
theorem d20_1 : decode cD13 1 = .ok (.ifCond .ge 11, 3) := by decide +kernel
theorem d20_12 : decode cD13 12 = .ok (.iload_n 0, 1) := by decide +kernel
theorem d20_13 : decode cD13 13 = .ok (.ldc 20, 2) := by decide +kernel
theorem d20_15 : decode cD13 15 = .ok (.if_icmp .lt 40, 3) := by decide +kernel
theorem d20_55 : decode cD13 55 = .ok (.iload_n 0, 1) := by decide +kernel
theorem d20_56 : decode cD13 56 = .ok (.iconst 1, 1) := by decide +kernel
theorem d20_57 : decode cD13 57 = .ok (.ishl, 1) := by decide +kernel
theorem d20_58 : decode cD13 58 = .ok (.ireturn, 1) := by decide +kernel
def Qnbl (Z : State) (p0 : Int32) (h0 : Heap) (n0 : Nat) : QT := fun v h L => (v = some (.int (p0 <<< ((1 : Int32) &&& 31)))) ∧ (Fr n0 L) ∧ (h = h0)
theorem rmnbl (l : Launch) (Z : State) (a0 : Array Value) (hw : TW a0 Z) (ws : List Jvm.Cond) (p0 : Int32) (h0 : Heap) (n0 : Nat) (Z0 : n0 ≤ h0.size) (hn1 : 0 < p0.toInt) (hn2 : p0.toInt ≤ 22) :
  MF l mN22 jdk_52_method_3_code 1 (some .int) ws (rmm 0 0 0 0) #[.int p0] Z h0 (Qnbl Z p0 h0 n0) := by
 refine MF.of (plainFor_of_name pn_4) ?_
 intro p e s m below meth c s₁ QQ hy hml hown hZ X0 e0 hrt hlk hnm hQQ
 have hx := hy.1
 have hby := hy.2
 have N0 := Fr.nil n0
 refine Ends.i #[iv p0] (oC X0 hy d20_0 1 rfl ?_)
 have hc1 : ¬ (p0 < (0 : Int32)) := (own_np (Int.le_of_lt hn1))
 refine oxk X0 hy d20_1 12 (XT.i0_ge_t hc1) (oC X0 hy d20_12 13 rfl ?_)
 refine Ends.step (fun _ k => X0.ldcI hx hown (mvT hZ (tb hw 93 rfl)) (g := (mkF m 13 #[iv p0] [.int p0])) rfl (hb hby d20_13) k) ?_
 show Ends p e below QQ (s₁.setTop (mkF m 15 #[iv p0] [.int 1073741823, .int p0]))
 have hc15 : p0 < (1073741823 : Int32) := (own_big hn2)
 refine oxl X0 hy d20_15 55 (XT.ii_lt_t hc15) (oC X0 hy d20_55 56 rfl (oG X0 hy d20_56 57 1 rfl (oO X0 hy d20_57 58 ?_)))
 exact fI X0 hy hrt hlk hQQ d20_58 rfl (Or.inl rfl) e0 (by decide) ⟨rfl, N0, rfl⟩
theorem d19_0 : decode cD24 0 = .ok (.iload_n 0, 1) := by decide +kernel
theorem d19_1 : decode cD24 1 = .ok (.invokestatic 11, 3) := by decide +kernel
theorem d19_4 : decode cD24 4 = .ok (.newarray .byte, 2) := by decide +kernel
theorem d19_6 : decode cD24 6 = .ok (.areturn, 1) := by decide +kernel
def Qnbf (Z : State) (p0 : Int32) (h0 : Heap) (n0 : Nat) : QT := fun v h L => ∃ (b : Addr), ∃ (k2 : ClassId), (v = some (.ref b)) ∧ (Fr n0 L) ∧ (Keep h0 h []) ∧ (h0.size ≤ b) ∧ (n0 ≤ b) ∧ (eBQ Z h b) ∧ (Arv Z h b k2 .byte (p0 <<< ((1 : Int32) &&& 31)) (own_L (p0 <<< ((1 : Int32) &&& 31)).toNatClampNeg (fun _ => (0 : Int32))) (.int 0))
theorem rmnbf (l : Launch) (Z : State) (a0 : Array Value) (hw : TW a0 Z) (ws : List Jvm.Cond) (p0 : Int32) (h0 : Heap) (n0 : Nat) (Z0 : n0 ≤ h0.size) (hn1 : 0 < p0.toInt) (hn2 : p0.toInt ≤ 22) :
  MF l mN23 jdk_52_method_2_code 1 (some (.array .byte)) ws (rmm 1 1 44 12) #[.int p0] Z h0 (Qnbf Z p0 h0 n0) := by
 refine MF.of (plainFor_of_name pn_4) ?_
 intro p e s m below meth c s₁ QQ hy hml hown hZ X0 e0 hrt hlk hnm hQQ
 have hx := hy.1
 have hby := hy.2
 have N0 := Fr.nil n0
 refine Ends.i #[iv p0] (oC X0 hy d19_0 1 rfl ?_)
 refine cS X0 hy hml hown hZ hw d19_1 4 0 90 91 44 92 rfl rfl rfl rfl (rmnbl l Z a0 hw [] p0 h0 n0 Z0 hn1 hn2) e0 pd_8 rfl rfl fun _ T75 Lc75 X75 hQ75 => ?_
 obtain ⟨rfl, Nq75, hh75⟩ := hQ75
 have N75 := Fr.app N0 Nq75
 refine Ends.v ?_
 obtain ⟨T76, h76, k76, X76, e76, E76, A76, Y76, st76⟩ := newPE X75 hx hZ (tb hw 21 rfl) hh75 (g := (mkF m 4 #[iv p0] [(.int (p0 <<< ((1 : Int32) &&& 31)))])) rfl (hb hby d19_4) rfl (own_n2 (Int.le_of_lt hn1) hn2) (cap := 44) (own_c44 (Int.le_of_lt hn1) hn2) (by decide) (by decide) (by decide) (ad := "[B") (by decide)
 obtain ⟨b76, g76⟩ : ∃ z, z = h0.size := ⟨_, rfl⟩
 rw [← g76] at A76 Y76 st76
 have jo : n0 ≤ b76 := Nat.le_trans Z0 (Nat.le_trans (Keep.refl h0 []).1 (Nat.le_of_eq g76.symm))
 have jh : h0.size ≤ b76 := Nat.le_trans (Keep.refl h0 []).1 (Nat.le_of_eq g76.symm)
 have K76 := (Keep.refl h0 []).ext E76
 have jp := Y76
 have vZ : Arv Z h76 b76 k76 .byte (p0 <<< ((1 : Int32) &&& 31)) [] (.int 0) := Arv.new A76 (own_n2 (Int.le_of_lt hn1) hn2)
 refine Ends.step st76 ?_
 have vZ := own_new vZ
 show Ends p e below QQ (T76.setTop (mkF m 6 #[iv p0] [.ref b76]))
 exact fA X76 hy hrt hlk hQQ d19_6 rfl rfl e76 (by decide) ⟨b76, k76, rfl, N75, K76, jh, jo, jp, vZ⟩
theorem d21_0 : decode cD6 0 = .ok (.getstatic 44, 3) := by decide +kernel
theorem d21_3 : decode cD6 3 = .ok (.ifCond .ne 25, 3) := by decide +kernel
theorem d21_28 : decode cD6 28 = .ok (.iload_n 1, 1) := by decide +kernel
theorem d21_29 : decode cD6 29 = .ok (.iconst 1, 1) := by decide +kernel
theorem d21_30 : decode cD6 30 = .ok (.ishl, 1) := by decide +kernel
theorem d21_31 : decode cD6 31 = .ok (.istore_n 1, 1) := by decide +kernel
theorem d21_32 : decode cD6 32 = .ok (.aload_n 0, 1) := by decide +kernel
theorem d21_33 : decode cD6 33 = .ok (.iload_n 1, 1) := by decide +kernel
theorem d21_34 : decode cD6 34 = .ok (.iinc 1 1, 3) := by decide +kernel
theorem d21_37 : decode cD6 37 = .ok (.iload_n 2, 1) := by decide +kernel
theorem d21_38 : decode cD6 38 = .ok (.getstatic 59, 3) := by decide +kernel
theorem d21_41 : decode cD6 41 = .ok (.ishr, 1) := by decide +kernel
theorem d21_42 : decode cD6 42 = .ok (.i2b, 1) := by decide +kernel
theorem d21_43 : decode cD6 43 = .ok (.bastore, 1) := by decide +kernel
theorem d21_44 : decode cD6 44 = .ok (.aload_n 0, 1) := by decide +kernel
theorem d21_45 : decode cD6 45 = .ok (.iload_n 1, 1) := by decide +kernel
theorem d21_46 : decode cD6 46 = .ok (.iload_n 2, 1) := by decide +kernel
theorem d21_47 : decode cD6 47 = .ok (.getstatic 63, 3) := by decide +kernel
theorem d21_50 : decode cD6 50 = .ok (.ishr, 1) := by decide +kernel
theorem d21_51 : decode cD6 51 = .ok (.i2b, 1) := by decide +kernel
theorem d21_52 : decode cD6 52 = .ok (.bastore, 1) := by decide +kernel
theorem d21_53 : decode cD6 53 = .ok (.return_, 1) := by decide +kernel
def Qpc (Z : State) (o0 : Addr) (p1 p2 : Int32) (k : ClassId) (n : Int32) (ub : Nat → Int32) (h0 : Heap) (n0 : Nat) : QT := fun v h L => (v = none) ∧ (Fr n0 L) ∧ (Keep h0 h [o0]) ∧ (Arv Z h o0 k .byte n (own_L n.toNatClampNeg (own_up (own_up ub (p1 <<< ((1 : Int32) &&& 31)).toNatClampNeg (own_hi p2)) ((p1 <<< ((1 : Int32) &&& 31)) + (1 : Int32)).toNatClampNeg (own_lo p2))) (.int 0))
theorem rmpc (l : Launch) (Z : State) (a0 : Array Value) (hw : TW a0 Z) (ws : List Jvm.Cond) (o0 : Addr) (p1 p2 : Int32) (k : ClassId) (n : Int32) (ub : Nat → Int32) (h0 : Heap) (n0 : Nat) (Z0 : n0 ≤ h0.size) (wm : Arv Z h0 o0 k .byte n (own_L n.toNatClampNeg ub) (.int 0)) (wS : n0 ≤ o0) (wa : sEQ Z h0 (.int 1)) (wf : sFQ Z h0 (.int 0)) (we : sGQ Z h0 (.int 8)) (hpc : 0 ≤ p1.toInt ∧ p1.toInt ≤ 100 ∧ 2 * p1.toInt + 1 < n.toInt) :
  MF l mN11 jdk_52_method_4_code 3 none ws (rmm 0 0 0 0) #[.ref o0, .int p1, .int p2] Z h0 (Qpc Z o0 p1 p2 k n ub h0 n0) := by
 refine MF.of (plainFor_of_name pn_4) ?_
 intro p e s m below meth c s₁ QQ hy hml hown hZ X0 e0 hrt hlk hnm hQQ
 have N0 := Fr.nil n0
 refine Ends.i #[rv o0, iv p1, iv p2] (gS X0 hy hown hZ hw e0 wa d21_0 3 97 rfl fun T77 X77 e77 => oxk X77 hy d21_3 28 (XT.i0_ne_t (by decide)) (oC X77 hy d21_28 29 rfl (oG X77 hy d21_29 30 1 rfl (oO X77 hy d21_30 31 (oxp X77 hy d21_31 32 #[rv o0, iv (p1 <<< ((1 : Int32) &&& 31)), iv p2] rfl (oA X77 hy d21_32 33 rfl (oC X77 hy d21_33 34 rfl (oxz X77 hy d21_34 37 #[rv o0, iv ((p1 <<< ((1 : Int32) &&& 31)) + (1 : Int32)), iv p2] 1 rfl rfl rfl ?_))))))))
 refine oC X77 hy d21_37 38 rfl (gS X77 hy hown hZ hw e77 wf d21_38 41 98 rfl fun T78 X78 e78 => oP X78 hy d21_41 42 (oxb X78 hy d21_42 43 ?_))
 refine aSB X78 hy hZ e78 wm d21_43 44 (own_pi0 hpc) fun T80 h80 X80 e80 W80 => ?_
 rw [own_narb] at W80
 have we := we.wr W80
 have wm : Arv Z h80 o0 k .byte n (own_L n.toNatClampNeg (own_up ub (p1 <<< ((1 : Int32) &&& 31)).toNatClampNeg (own_hi p2))) (.int 0) := Asg wm (fits_nar_byte _) W80 own_upS (own_ltn (own_pi0 hpc))
 have K80 := (Keep.refl h0 [o0]).wr W80 (Or.inl mm0)
 have N80 := Fr.snoc X80 N0 wS
 refine oA X80 hy d21_44 45 rfl (oC X80 hy d21_45 46 rfl (oC X80 hy d21_46 47 rfl (gS X80 hy hown hZ hw e80 we d21_47 50 99 rfl fun T81 X81 e81 => oP X81 hy d21_50 51 (oxb X81 hy d21_51 52 ?_))))
 refine aSB X81 hy hZ e81 wm d21_52 53 (own_pi1 hpc) fun T83 h83 X83 e83 W83 => ?_
 rw [own_narb] at W83
 have wm : Arv Z h83 o0 k .byte n (own_L n.toNatClampNeg (own_up (own_up ub (p1 <<< ((1 : Int32) &&& 31)).toNatClampNeg (own_hi p2)) ((p1 <<< ((1 : Int32) &&& 31)) + (1 : Int32)).toNatClampNeg (own_lo p2))) (.int 0) := Asg wm (fits_nar_byte _) W83 own_upS (own_ltn (own_pi1 hpc))
 have K83 := K80.wr W83 (Or.inl mm0)
 have N83 := Fr.snoc X83 N80 wS
 exact fV X83 hy hrt hlk hQQ d21_53 e83 (by decide) ⟨rfl, N83, K83, wm⟩
theorem d18_0 : decode cD7 0 = .ok (.iload_n 2, 1) := by decide +kernel
theorem d18_1 : decode cD7 1 = .ok (.invokestatic 107, 3) := by decide +kernel
theorem d18_4 : decode cD7 4 = .ok (.astore_n 3, 1) := by decide +kernel
theorem d18_5 : decode cD7 5 = .ok (.iconst 0, 1) := by decide +kernel
theorem d18_6 : decode cD7 6 = .ok (.istore 4, 2) := by decide +kernel
theorem d18_8 : decode cD7 8 = .ok (.iload 4, 2) := by decide +kernel
theorem d18_10 : decode cD7 10 = .ok (.iload_n 2, 1) := by decide +kernel
theorem d18_11 : decode cD7 11 = .ok (.if_icmp .ge 21, 3) := by decide +kernel
theorem d18_14 : decode cD7 14 = .ok (.aload_n 3, 1) := by decide +kernel
theorem d18_15 : decode cD7 15 = .ok (.iload 4, 2) := by decide +kernel
theorem d18_17 : decode cD7 17 = .ok (.aload_n 0, 1) := by decide +kernel
theorem d18_18 : decode cD7 18 = .ok (.iload_n 1, 1) := by decide +kernel
theorem d18_19 : decode cD7 19 = .ok (.caload, 1) := by decide +kernel
theorem d18_20 : decode cD7 20 = .ok (.invokestatic 111, 3) := by decide +kernel
theorem d18_23 : decode cD7 23 = .ok (.iinc 1 1, 3) := by decide +kernel
theorem d18_26 : decode cD7 26 = .ok (.iinc 4 1, 3) := by decide +kernel
theorem d18_29 : decode cD7 29 = .ok (.goto (-21), 3) := by decide +kernel
theorem d18_32 : decode cD7 32 = .ok (.aload_n 3, 1) := by decide +kernel
theorem d18_33 : decode cD7 33 = .ok (.areturn, 1) := by decide +kernel
def Qtb (Z : State) (o0 : Addr) (p2 : Int32) (k0 : ClassId) (g : Nat → Int32) (h0 : Heap) (n0 : Nat) : QT := fun v h L => ∃ (b : Addr), ∃ (k2 : ClassId), (v = some (.ref b)) ∧ (Fr n0 L) ∧ (Keep h0 h []) ∧ (h0.size ≤ b) ∧ (n0 ≤ b) ∧ (eBQ Z h b) ∧ (Arv Z h b k2 .byte (p2 <<< ((1 : Int32) &&& 31)) (own_L (p2 <<< ((1 : Int32) &&& 31)).toNatClampNeg (own_ub g)) (.int 0))
theorem rmtb (l : Launch) (Z : State) (a0 : Array Value) (hw : TW a0 Z) (ws : List Jvm.Cond) (o0 : Addr) (p2 : Int32) (k0 : ClassId) (g : Nat → Int32) (h0 : Heap) (n0 : Nat) (Z0 : n0 ≤ h0.size) (wm : Arv Z h0 o0 k0 .char p2 (own_L p2.toNatClampNeg g) (.int 0)) (wa : sEQ Z h0 (.int 1)) (wf : sFQ Z h0 (.int 0)) (we : sGQ Z h0 (.int 8)) (hn1 : 0 < p2.toInt) (hn2 : p2.toInt ≤ 22) :
  MF l mN24 jdk_52_method_14_code 5 (some (.array .byte)) ws (rmm 2 1 44 24) #[.ref o0, .int 0, .int p2] Z h0 (Qtb Z o0 p2 k0 g h0 n0) := by
 refine MF.of (plainFor_of_name pn_4) ?_
 intro p e s m below meth c s₁ QQ hy hml hown hZ X0 e0 hrt hlk hnm hQQ
 have hx := hy.1
 have hby := hy.2
 have N0 := Fr.nil n0
 refine Ends.i #[rv o0, iv 0, iv p2, uu, uu] (oC X0 hy d18_0 1 rfl ?_)
 refine cS X0 hy hml hown hZ hw d18_1 4 0 87 88 44 89 rfl rfl rfl rfl (rmnbf l Z a0 hw [] p2 h0 n0 Z0 hn1 hn2) e0 pd_9 rfl rfl fun _ T84 Lc84 X84 hQ84 => ?_
 obtain ⟨b_84, k2_84, rfl, Nq84, Kq84, fq84_0, kg, wT, wN⟩ := hQ84
 have N84 := Fr.app N0 Nq84
 have vU : o0 ≠ b_84 := Nat.ne_of_lt (Nat.lt_of_lt_of_le wm.lt fq84_0)
 have vR := Nat.le_trans (Keep.refl h0 []).1 fq84_0
 have wa := own_sta_keep wa Kq84 all0
 have wf := own_sta_keep wf Kq84 all0
 have we := own_sta_keep we Kq84 all0
 have wm := wm.keep Kq84 nin0
 have K84 := (Keep.refl h0 []).trans Kq84 all0
 refine Ends.v ?_
 refine Ends.step (fun _ k => XS.astoreN X84.here hx rfl (hb hby d18_4) rfl rfl (l' := #[rv o0, iv 0, iv p2, rv b_84, uu]) rfl k) ?_
 have wN := own_Acv wN (own_uw0 (g := g))
 show Ends p e below QQ (T84.setTop (mkF m 5 #[rv o0, iv 0, iv p2, rv b_84, uu] []))
 refine oG X84 hy d18_5 6 0 rfl ?_
 refine Ends.step (fun _ k => XS.istore X84.here hx rfl (hb hby d18_6) rfl (l' := #[rv o0, iv 0, iv p2, rv b_84, iv 0]) rfl k) ?_
 have LP85 : ∀ (fu85 : Nat) (t86 : Nat) (i86 : Int32) (T85 : State) (h85 : Heap) (L85 : List Loc) (X85 : Stand p l e (rmm 2 1 44 24) s m #[.ref o0, .int 0, .int p2] below meth c T85 L85 1 44) (e85 : T85.heap = h85) (N85 : Fr n0 L85) (K85 : Keep h0 h85 []) (wm : Arv Z h85 o0 k0 .char p2 (own_L p2.toNatClampNeg g) (.int 0)) (wa : sEQ Z h85 (.int 1)) (wf : sFQ Z h85 (.int 0)) (we : sGQ Z h85 (.int 8)) (wT : eBQ Z h85 b_84) (wN : Arv Z h85 b_84 k2_84 .byte (p2 <<< ((1 : Int32) &&& 31)) (own_L (p2 <<< ((1 : Int32) &&& 31)).toNatClampNeg (own_uw g t86)) (.int 0)) (hI86 : i86.toInt = (t86 : Int)) (hf85 : (p2.toNatClampNeg - t86) < fu85), Ends p e below QQ (T85.setTop (mkF m 8 #[rv o0, iv i86, iv p2, rv b_84, iv i86] [])) := by
  intro fu85
  induction fu85 with
  | zero => intro t86 i86 T85 h85 L85 X85 e85 N85 K85 wm wa wf we wT wN hI86 hf85; exact absurd hf85 (Nat.not_lt_zero _)
  | succ fu85 ih85 =>
   intro t86 i86 T85 h85 L85 X85 e85 N85 K85 wm wa wf we wT wN hI86 hf85
   show Ends p e below QQ (T85.setTop (mkF m 8 #[rv o0, iv i86, iv p2, rv b_84, iv i86] []))
   refine oD X85 hy d18_8 10 rfl (oC X85 hy d18_10 11 rfl ?_)
   by_cases hc11_87 : i86 < p2
   ·refine oxi X85 hy d18_11 14 (XT.ii_ge_f hc11_87) (oA X85 hy d18_14 15 rfl (oD X85 hy d18_15 17 rfl (oA X85 hy d18_17 18 rfl (oC X85 hy d18_18 19 rfl (aLC X85 hy hZ e85 wm d18_19 20 (.int (g i86.toNatClampNeg)) (own_ib hI86 hc11_87) (own_Lg (own_il hI86 hc11_87)) ?_)))))
    obtain ⟨_, _, ⟨T89, L89, k89, n89⟩, -, X89, ⟨Lc89, hQ89, l89, y89, z89⟩, st89⟩ := Jvm.LawKit.callS X85 hx (y := mN11) hown (mvT hZ (tb hw 94 rfl)) (mvT hZ (tb hw 95 rfl)) (mvT hZ (tb hw 44 rfl)) (mvT hZ (tb hw 96 rfl)) (by decide) (backOf (W := 0) (rmpc l Z a0 hw [] b_84 i86 (g i86.toNatClampNeg) k2_84 (p2 <<< ((1 : Int32) &&& 31)) (own_uw g t86) h85 n0 (Nat.le_trans Z0 K85.1) wN kg wa wf we (own_hpc hI86 hc11_87 (Int.le_of_lt hn1) hn2)) hZ (tb hw 96 rfl) (tb hw 44 rfl) (by decide) (by decide)) (g := (mkF m 20 #[rv o0, iv i86, iv p2, rv b_84, iv i86] [.int (g i86.toNatClampNeg), .int i86, .ref b_84])) rfl (by rw [hml]; rfl) (argsL := [.ref b_84, .int i86, .int (g i86.toNatClampNeg)]) (rest := []) (lenOf pd_10 rfl) rfl (by show 2 * 0 + _ ≤ _; exact Nat.le_of_eq rfl) (hb hby d18_20) (fun _ _ => ⟨rfl, e85, (by decide : 1 + 0 ≤ _), (by decide : 44 + 0 ≤ _)⟩)
    dsimp only [Pt.U, Pt.locs, Pt.cells, Pt.slots] at X89 l89 y89 z89 st89 hQ89
    subst l89 y89 z89
    obtain ⟨rfl, Nq89, Kq89, wN⟩ := hQ89
    have N89 := Fr.app N85 Nq89
    have wa := own_sta_keep wa Kq89 (allS wT.cell all0)
    have wf := own_sta_keep wf Kq89 (allS wT.cell all0)
    have we := own_sta_keep we Kq89 (allS wT.cell all0)
    have wm := wm.keep Kq89 (ninS vU nin0)
    have wT := wT.keep Kq89
    have K89 := K85.trans Kq89 (allS (Or.inr vR) all0)
    refine Ends.step st89 ?_
    have wN := own_Acv wN (own_uwS hI86 hc11_87 hn2)
    show Ends p e below QQ (T89.setTop (mkF m 23 #[rv o0, iv i86, iv p2, rv b_84, iv i86] []))
    refine oxz X89 hy d18_23 26 #[rv o0, iv (i86 + (1 : Int32)), iv p2, rv b_84, iv i86] 1 rfl rfl rfl ?_
    refine Ends.step (fun _ k => XT.iincV X89.here hx rfl (1 : Int32) (hb hby d18_26) rfl rfl (l' := #[rv o0, iv (i86 + (1 : Int32)), iv p2, rv b_84, iv (i86 + (1 : Int32))]) rfl k) ?_
    have hI90 := own_inc hI86 hc11_87
    show Ends p e below QQ (T89.setTop (mkF m 29 #[rv o0, iv (i86 + (1 : Int32)), iv p2, rv b_84, iv (i86 + (1 : Int32))] []))
    refine Ends.step (fun _ k => XS.goto X89.here hx rfl (pc0 := 29) (pc' := 8) rfl (hb hby d18_29) (by decide) (by decide) k) ?_
    exact ih85 ((t86 + 1)) ((i86 + (1 : Int32))) T89 T89.heap _ X89 rfl N89 K89 wm wa wf we wT wN hI90 (own_fu2 hI86 hc11_87 hf85)
   ·refine Ends.step (fun _ k => XS.icmpYes X85.here hx rfl (pc0 := 11) (pc' := 32) rfl (hb hby d18_11) rfl (XT.ii_ge_t hc11_87) (by decide) (by decide) k) ?_
    have wN := own_Acw wN (own_uwN hI86 hc11_87 (Int.le_of_lt hn1) hn2)
    show Ends p e below QQ (T85.setTop (mkF m 32 #[rv o0, iv i86, iv p2, rv b_84, iv i86] []))
    refine oA X85 hy d18_32 33 rfl ?_
    exact fA X85 hy hrt hlk hQQ d18_33 rfl rfl e85 (by decide) ⟨b_84, k2_84, rfl, N85, K85, vR, kg, wT, wN⟩
 exact LP85 (p2.toNatClampNeg - 0 + 1) 0 (0 : Int32) T84 T84.heap _ X84 rfl N84 K84 wm wa wf we wT wN own_t0i (Nat.lt_succ_self _)
theorem d8_0 : decode cD3 0 = .ok (.iload_n 2, 1) := by decide +kernel
theorem d8_1 : decode cD3 1 = .ok (.newarray .byte, 2) := by decide +kernel
theorem d8_3 : decode cD3 3 = .ok (.astore_n 3, 1) := by decide +kernel
theorem d8_4 : decode cD3 4 = .ok (.aload_n 0, 1) := by decide +kernel
theorem d8_5 : decode cD3 5 = .ok (.iload_n 1, 1) := by decide +kernel
theorem d8_6 : decode cD3 6 = .ok (.aload_n 3, 1) := by decide +kernel
theorem d8_7 : decode cD3 7 = .ok (.iconst 0, 1) := by decide +kernel
theorem d8_8 : decode cD3 8 = .ok (.iload_n 2, 1) := by decide +kernel
theorem d8_9 : decode cD3 9 = .ok (.invokestatic 115, 3) := by decide +kernel
theorem d8_12 : decode cD3 12 = .ok (.istore 4, 2) := by decide +kernel
theorem d8_14 : decode cD3 14 = .ok (.iload 4, 2) := by decide +kernel
theorem d8_16 : decode cD3 16 = .ok (.iload_n 2, 1) := by decide +kernel
theorem d8_17 : decode cD3 17 = .ok (.if_icmp .eq 40, 3) := by decide +kernel
theorem d8_57 : decode cD3 57 = .ok (.aload_n 3, 1) := by decide +kernel
theorem d8_58 : decode cD3 58 = .ok (.areturn, 1) := by decide +kernel
def QcbL (Z : State) (o0 : Addr) (p2 : Int32) (k0 : ClassId) (g : Nat → Int32) (h0 : Heap) (n0 : Nat) : QT := fun v h L => ∃ (b : Addr), ∃ (k2 : ClassId), (v = some (.ref b)) ∧ (Fr n0 L) ∧ (Keep h0 h []) ∧ (h0.size ≤ b) ∧ (n0 ≤ b) ∧ (eBQ Z h b) ∧ (Arv Z h b k2 .byte p2 (own_L p2.toNatClampNeg (own_bl g)) (.int 0))
theorem rmcbL (l : Launch) (Z : State) (a0 : Array Value) (hw : TW a0 Z) (ws : List Jvm.Cond) (o0 : Addr) (p2 : Int32) (k0 : ClassId) (g : Nat → Int32) (h0 : Heap) (n0 : Nat) (Z0 : n0 ≤ h0.size) (wm : Arv Z h0 o0 k0 .char p2 (own_L p2.toNatClampNeg g) (.int 0)) (hall : ∀ i : Nat, i < p2.toNatClampNeg → ¬ (255 : Int32) < g i) (hn1 : 0 < p2.toInt) (hn2 : p2.toInt ≤ 22) :
  MF l mN9 jdk_52_method_16_code 6 (some (.array .byte)) ws (rmm 1 1 22 18) #[.ref o0, .int 0, .int p2] Z h0 (QcbL Z o0 p2 k0 g h0 n0) := by
 refine MF.of (plainFor_of_name pn_4) ?_
 intro p e s m below meth c s₁ QQ hy hml hown hZ X0 e0 hrt hlk hnm hQQ
 have hx := hy.1
 have hby := hy.2
 have N0 := Fr.nil n0
 refine Ends.i #[rv o0, iv 0, iv p2, uu, uu, uu] (oC X0 hy d8_0 1 rfl ?_)
 obtain ⟨T91, h91, k91, X91, e91, E91, A91, Y91, st91⟩ := newPE X0 hx hZ (tb hw 21 rfl) e0 (g := (mkF m 1 #[rv o0, iv 0, iv p2, uu, uu, uu] [.int p2])) rfl (hb hby d8_1) rfl (own_np (Int.le_of_lt hn1)) (cap := 22) (own_c22 hn2) (by decide) (by decide) (by decide) (ad := "[B") (by decide)
 obtain ⟨b91, g91⟩ : ∃ z, z = h0.size := ⟨_, rfl⟩
 rw [← g91] at A91 Y91 st91
 have kf : o0 ≠ b91 := Nat.ne_of_lt (Nat.lt_of_lt_of_le wm.lt (Nat.le_of_eq g91.symm))
 have kp : n0 ≤ b91 := Nat.le_trans Z0 (Nat.le_trans (Keep.refl h0 []).1 (Nat.le_of_eq g91.symm))
 have ke : h0.size ≤ b91 := Nat.le_trans (Keep.refl h0 []).1 (Nat.le_of_eq g91.symm)
 have wm := wm.ext E91
 have K91 := (Keep.refl h0 []).ext E91
 have vX := Y91
 have vG : Arv Z h91 b91 k91 .byte p2 [] (.int 0) := Arv.new A91 (own_np (Int.le_of_lt hn1))
 refine Ends.j 3 [.ref b91] st91 ?_
 refine Ends.step (fun _ k => XS.astoreN X91.here hx rfl (hb hby d8_3) rfl rfl (l' := #[rv o0, iv 0, iv p2, rv b91, uu, uu]) rfl k) ?_
 have vG := own_new vG
 show Ends p e below QQ (T91.setTop (mkF m 4 #[rv o0, iv 0, iv p2, rv b91, uu, uu] []))
 refine oA X91 hy d8_4 5 rfl (oC X91 hy d8_5 6 rfl (oA X91 hy d8_6 7 rfl (oG X91 hy d8_7 8 0 rfl (oC X91 hy d8_8 9 rfl ?_))))
 refine cS X91 hy hml hown hZ hw d8_9 12 0 46 47 44 48 rfl rfl rfl rfl (rmcmL l Z a0 hw [] o0 b91 p2 k0 k91 g h91 n0 (Nat.le_trans Z0 K91.1) wm vG kp kf (own_lt0 hn1) hall) e91 pd_11 rfl rfl fun _ T92 Lc92 X92 hQ92 => ?_
 obtain ⟨rfl, Nq92, Kq92, vG⟩ := hQ92
 have N92 := Fr.app N0 Nq92
 have vX := vX.keep Kq92
 have K92 := K91.trans Kq92 (allS (Or.inr ke) all0)
 refine Ends.v (oxo X92 hy d8_12 14 #[rv o0, iv 0, iv p2, rv b91, iv p2, uu] rfl (oD X92 hy d8_14 16 rfl (oC X92 hy d8_16 17 rfl (oxl X92 hy d8_17 57 (XT.ii_eq_t rfl) (oA X92 hy d8_57 58 rfl ?_)))))
 exact fA X92 hy hrt hlk hQQ d8_58 rfl rfl rfl (by decide) ⟨b91, k91, rfl, N92, K92, ke, kp, vX, vG⟩
theorem d8_20 : decode cD3 20 = .ok (.aload_n 0, 1) := by decide +kernel
theorem d8_21 : decode cD3 21 = .ok (.iload_n 1, 1) := by decide +kernel
theorem d8_22 : decode cD3 22 = .ok (.iload_n 2, 1) := by decide +kernel
theorem d8_23 : decode cD3 23 = .ok (.invokestatic 119, 3) := by decide +kernel
theorem d8_26 : decode cD3 26 = .ok (.astore 5, 2) := by decide +kernel
theorem d8_28 : decode cD3 28 = .ok (.aload 5, 2) := by decide +kernel
theorem d8_30 : decode cD3 30 = .ok (.iload 4, 2) := by decide +kernel
theorem d8_32 : decode cD3 32 = .ok (.invokestatic 71, 3) := by decide +kernel
theorem d8_35 : decode cD3 35 = .ok (.sipush 255, 3) := by decide +kernel
theorem d8_38 : decode cD3 38 = .ok (.if_icmp .gt 16, 3) := by decide +kernel
theorem d8_54 : decode cD3 54 = .ok (.aload 5, 2) := by decide +kernel
theorem d8_56 : decode cD3 56 = .ok (.areturn, 1) := by decide +kernel
def QcbU (Z : State) (o0 : Addr) (p2 : Int32) (k0 : ClassId) (g : Nat → Int32) (jf : Nat) (h0 : Heap) (n0 : Nat) : QT := fun v h L => ∃ (b : Addr), ∃ (k2 : ClassId), (v = some (.ref b)) ∧ (Fr n0 L) ∧ (Keep h0 h []) ∧ (h0.size ≤ b) ∧ (n0 ≤ b) ∧ (eBQ Z h b) ∧ (Arv Z h b k2 .byte (p2 <<< ((1 : Int32) &&& 31)) (own_L (p2 <<< ((1 : Int32) &&& 31)).toNatClampNeg (own_ub g)) (.int 0))
theorem rmcbU (l : Launch) (Z : State) (a0 : Array Value) (hw : TW a0 Z) (ws : List Jvm.Cond) (o0 : Addr) (p2 : Int32) (k0 : ClassId) (g : Nat → Int32) (jf : Nat) (h0 : Heap) (n0 : Nat) (Z0 : n0 ≤ h0.size) (wm : Arv Z h0 o0 k0 .char p2 (own_L p2.toNatClampNeg g) (.int 0)) (hbd : ∀ i : Nat, 0 ≤ (g i).toInt ∧ (g i).toInt < 65536) (haj : ∀ i : Nat, i < jf → ¬ (255 : Int32) < g i) (hjf : (255 : Int32) < g jf) (hjn : jf < p2.toNatClampNeg) (hn1 : 0 < p2.toInt) (hn2 : p2.toInt ≤ 22) (wa : sEQ Z h0 (.int 1)) (wf : sFQ Z h0 (.int 0)) (we : sGQ Z h0 (.int 8)) :
  MF l mN9 jdk_52_method_16_code 6 (some (.array .byte)) ws (rmm 3 2 66 40) #[.ref o0, .int 0, .int p2] Z h0 (QcbU Z o0 p2 k0 g jf h0 n0) := by
 refine MF.of (plainFor_of_name pn_4) ?_
 intro p e s m below meth c s₁ QQ hy hml hown hZ X0 e0 hrt hlk hnm hQQ
 have hx := hy.1
 have hby := hy.2
 have N0 := Fr.nil n0
 refine Ends.i #[rv o0, iv 0, iv p2, uu, uu, uu] (oC X0 hy d8_0 1 rfl ?_)
 obtain ⟨T93, h93, k93, X93, e93, E93, A93, Y93, st93⟩ := newPE X0 hx hZ (tb hw 21 rfl) e0 (g := (mkF m 1 #[rv o0, iv 0, iv p2, uu, uu, uu] [.int p2])) rfl (hb hby d8_1) rfl (own_np (Int.le_of_lt hn1)) (cap := 22) (own_c22 hn2) (by decide) (by decide) (by decide) (ad := "[B") (by decide)
 obtain ⟨b93, g93⟩ : ∃ z, z = h0.size := ⟨_, rfl⟩
 rw [← g93] at A93 Y93 st93
 have vJ : o0 ≠ b93 := Nat.ne_of_lt (Nat.lt_of_lt_of_le wm.lt (Nat.le_of_eq g93.symm))
 have jn : n0 ≤ b93 := Nat.le_trans Z0 (Nat.le_trans (Keep.refl h0 []).1 (Nat.le_of_eq g93.symm))
 have jg : h0.size ≤ b93 := Nat.le_trans (Keep.refl h0 []).1 (Nat.le_of_eq g93.symm)
 have wm := wm.ext E93
 have wa := wa.ext E93
 have wf := wf.ext E93
 have we := we.ext E93
 have K93 := (Keep.refl h0 []).ext E93
 have vW := Y93
 have vY : Arv Z h93 b93 k93 .byte p2 [] (.int 0) := Arv.new A93 (own_np (Int.le_of_lt hn1))
 refine Ends.j 3 [.ref b93] st93 ?_
 refine Ends.step (fun _ k => XS.astoreN X93.here hx rfl (hb hby d8_3) rfl rfl (l' := #[rv o0, iv 0, iv p2, rv b93, uu, uu]) rfl k) ?_
 have vY := own_new vY
 show Ends p e below QQ (T93.setTop (mkF m 4 #[rv o0, iv 0, iv p2, rv b93, uu, uu] []))
 refine oA X93 hy d8_4 5 rfl (oC X93 hy d8_5 6 rfl (oA X93 hy d8_6 7 rfl (oG X93 hy d8_7 8 0 rfl (oC X93 hy d8_8 9 rfl ?_))))
 refine cS X93 hy hml hown hZ hw d8_9 12 0 46 47 44 48 rfl rfl rfl rfl (rmcmU l Z a0 hw [] o0 b93 p2 k0 k93 g jf h93 n0 (Nat.le_trans Z0 K93.1) wm vY jn vJ (own_lt0 hn1) haj hjf hjn) e93 pd_11 rfl rfl fun _ T94 Lc94 X94 hQ94 => ?_
 obtain ⟨rj_94, rfl, Nq94, Kq94, hrj⟩ := hQ94
 have N94 := Fr.app N0 Nq94
 have wa := own_sta_keep wa Kq94 (allS vW.cell all0)
 have wf := own_sta_keep wf Kq94 (allS vW.cell all0)
 have we := own_sta_keep we Kq94 (allS vW.cell all0)
 have wm := wm.keep Kq94 (ninS vJ nin0)
 have K94 := K93.trans Kq94 (allS (Or.inr jg) all0)
 refine Ends.v (oxo X94 hy d8_12 14 #[rv o0, iv 0, iv p2, rv b93, iv rj_94, uu] rfl (oD X94 hy d8_14 16 rfl (oC X94 hy d8_16 17 rfl ?_)))
 have hc17 : ¬ (rj_94 = p2) := (own_nei (own_tlt hrj (Nat.le_refl _) hjn))
 refine oxi X94 hy d8_17 20 (XT.ii_eq_f hc17) (oA X94 hy d8_20 21 rfl (oC X94 hy d8_21 22 rfl (oC X94 hy d8_22 23 rfl ?_)))
 refine cS X94 hy hml hown hZ hw d8_23 26 0 84 85 44 86 rfl rfl rfl rfl (rmtb l Z a0 hw [] o0 p2 k0 g T94.heap n0 (Nat.le_trans Z0 K94.1) wm wa wf we hn1 hn2) rfl pd_12 rfl rfl fun _ T95 Lc95 X95 hQ95 => ?_
 obtain ⟨b_95, k2_95, rfl, Nq95, Kq95, fq95_0, ji, jl, kj⟩ := hQ95
 have N95 := Fr.app N94 Nq95
 have kr := Nat.le_trans K94.1 fq95_0
 have wa := own_sta_keep wa Kq95 all0
 have wf := own_sta_keep wf Kq95 all0
 have we := own_sta_keep we Kq95 all0
 have K95 := K94.trans Kq95 all0
 refine Ends.v (oxs X95 hy d8_26 28 #[rv o0, iv 0, iv p2, rv b93, iv rj_94, rv b_95] rfl (oB X95 hy d8_28 30 rfl (oD X95 hy d8_30 32 rfl ?_)))
 refine cS X95 hy hml hown hZ hw d8_32 35 0 100 101 44 102 rfl rfl rfl rfl (rmgch l Z a0 hw [] b_95 rj_94 k2_95 (p2 <<< ((1 : Int32) &&& 31)) (own_L (p2 <<< ((1 : Int32) &&& 31)).toNatClampNeg (own_ub g)) (rj_94 <<< ((1 : Int32) &&& 31)) ((rj_94 <<< ((1 : Int32) &&& 31)) + (1 : Int32)) (own_ub g (rj_94 <<< ((1 : Int32) &&& 31)).toNatClampNeg) (own_ub g ((rj_94 <<< ((1 : Int32) &&& 31)) + (1 : Int32)).toNatClampNeg) (g rj_94.toNatClampNeg) T95.heap n0 (Nat.le_trans Z0 K95.1) kj wa wf we rfl rfl (own_pi0 (own_hpc hrj (own_tlt hrj (Nat.le_refl _) hjn) (Int.le_of_lt hn1) hn2)).1 (own_pi0 (own_hpc hrj (own_tlt hrj (Nat.le_refl _) hjn) (Int.le_of_lt hn1) hn2)).2 (own_pi1 (own_hpc hrj (own_tlt hrj (Nat.le_refl _) hjn) (Int.le_of_lt hn1) hn2)).1 (own_pi1 (own_hpc hrj (own_tlt hrj (Nat.le_refl _) hjn) (Int.le_of_lt hn1) hn2)).2 (own_Lg (own_ltn (own_pi0 (own_hpc hrj (own_tlt hrj (Nat.le_refl _) hjn) (Int.le_of_lt hn1) hn2)))) (own_Lg (own_ltn (own_pi1 (own_hpc hrj (own_tlt hrj (Nat.le_refl _) hjn) (Int.le_of_lt hn1) hn2)))) (own_u16g hrj (own_tlt hrj (Nat.le_refl _) hjn) hn2 hbd)) rfl pd_5 rfl rfl fun _ T96 Lc96 X96 hQ96 => ?_
 obtain ⟨rfl, Nq96, hh96⟩ := hQ96
 have N96 := Fr.app N95 Nq96
 refine Ends.v (oI X96 hy d8_35 38 255 rfl ?_)
 have hc38 : (255 : Int32) < (g rj_94.toNatClampNeg) := (own_gj hrj hjf)
 refine oxl X96 hy d8_38 54 (XT.ii_gt_t hc38) (oB X96 hy d8_54 56 rfl ?_)
 exact fA X96 hy hrt hlk hQQ d8_56 rfl rfl hh96 (by decide) ⟨b_95, k2_95, rfl, N96, K95, kr, ji, jl, kj⟩
theorem d10_0 : decode cD15 0 = .ok (.iload_n 1, 1) := by decide +kernel
theorem d10_1 : decode cD15 1 = .ok (.aload_n 0, 1) := by decide +kernel
theorem d10_2 : decode cD15 2 = .ok (.arraylength, 1) := by decide +kernel
theorem d10_3 : decode cD15 3 = .ok (.isub, 1) := by decide +kernel
theorem d10_4 : decode cD15 4 = .ok (.bipush 31, 2) := by decide +kernel
theorem d10_6 : decode cD15 6 = .ok (.iushr, 1) := by decide +kernel
theorem d10_7 : decode cD15 7 = .ok (.i2b, 1) := by decide +kernel
theorem d10_8 : decode cD15 8 = .ok (.ireturn, 1) := by decide +kernel
def QcfL (Z : State) (o0 : Addr) (p1 : Int32) (k2 : ClassId) (vs : List Value) (h0 : Heap) (n0 : Nat) : QT := fun v h L => (v = some (.int 0)) ∧ (Fr n0 L) ∧ (h = h0)
theorem rmcfL (l : Launch) (Z : State) (a0 : Array Value) (hw : TW a0 Z) (ws : List Jvm.Cond) (o0 : Addr) (p1 : Int32) (k2 : ClassId) (vs : List Value) (h0 : Heap) (n0 : Nat) (Z0 : n0 ≤ h0.size) (wm : Arv Z h0 o0 k2 .byte p1 vs (.int 0)) :
  MF l mN10 jdk_52_method_15_code 2 (some .byte) ws (rmm 0 0 0 0) #[.ref o0, .int p1] Z h0 (QcfL Z o0 p1 k2 vs h0 n0) := by
 refine MF.of (plainFor_of_name pn_4) ?_
 intro p e s m below meth c s₁ QQ hy hml hown hZ X0 e0 hrt hlk hnm hQQ
 have hx := hy.1
 have hby := hy.2
 have N0 := Fr.nil n0
 refine Ends.i #[rv o0, iv p1] (oC X0 hy d10_0 1 rfl (oA X0 hy d10_1 2 rfl (aLn X0 hy hZ e0 wm d10_2 3 (oL X0 hy d10_3 4 (oH X0 hy d10_4 6 31 rfl ?_)))))
 refine Ends.step (fun _ k => XS.iushr X0.here hx rfl (hb hby d10_6) rfl k) ?_
 show Ends p e below QQ (s₁.setTop (mkF m 7 #[rv o0, iv p1] [(.int (((p1 - p1).toUInt32 >>> ((31 : Int32) &&& 31).toUInt32).toInt32))]))
 refine oxb X0 hy d10_7 8 ?_
 exact fI X0 hy hrt hlk hQQ d10_8 (XT.narrow_b _) (by simp) e0 (by decide) ⟨(by rw [own_cf0]), N0, rfl⟩
def QcfU (Z : State) (o0 : Addr) (p1 : Int32) (k2 : ClassId) (vs : List Value) (h0 : Heap) (n0 : Nat) : QT := fun v h L => (v = some (.int 1)) ∧ (Fr n0 L) ∧ (h = h0)
theorem rmcfU (l : Launch) (Z : State) (a0 : Array Value) (hw : TW a0 Z) (ws : List Jvm.Cond) (o0 : Addr) (p1 : Int32) (k2 : ClassId) (vs : List Value) (h0 : Heap) (n0 : Nat) (Z0 : n0 ≤ h0.size) (wm : Arv Z h0 o0 k2 .byte (p1 <<< ((1 : Int32) &&& 31)) vs (.int 0)) (hn1 : 0 < p1.toInt) (hn2 : p1.toInt ≤ 22) :
  MF l mN10 jdk_52_method_15_code 2 (some .byte) ws (rmm 0 0 0 0) #[.ref o0, .int p1] Z h0 (QcfU Z o0 p1 k2 vs h0 n0) := by
 refine MF.of (plainFor_of_name pn_4) ?_
 intro p e s m below meth c s₁ QQ hy hml hown hZ X0 e0 hrt hlk hnm hQQ
 have hx := hy.1
 have hby := hy.2
 have N0 := Fr.nil n0
 refine Ends.i #[rv o0, iv p1] (oC X0 hy d10_0 1 rfl (oA X0 hy d10_1 2 rfl (aLn X0 hy hZ e0 wm d10_2 3 (oL X0 hy d10_3 4 (oH X0 hy d10_4 6 31 rfl ?_)))))
 refine Ends.step (fun _ k => XS.iushr X0.here hx rfl (hb hby d10_6) rfl k) ?_
 show Ends p e below QQ (s₁.setTop (mkF m 7 #[rv o0, iv p1] [(.int (((p1 - (p1 <<< ((1 : Int32) &&& 31))).toUInt32 >>> ((31 : Int32) &&& 31).toUInt32).toInt32))]))
 refine oxb X0 hy d10_7 8 ?_
 exact fI X0 hy hrt hlk hQQ d10_8 (XT.narrow_b _) (by simp) e0 (by decide) ⟨(by rw [own_cf1 hn1 hn2]), N0, rfl⟩
theorem d3_0 : decode cD2 0 = .ok (.aload_n 0, 1) := by decide +kernel
theorem d3_1 : decode cD2 1 = .ok (.invokespecial 1, 3) := by decide +kernel
theorem d3_4 : decode cD2 4 = .ok (.iload_n 3, 1) := by decide +kernel
theorem d3_5 : decode cD2 5 = .ok (.ifCond .ne 22, 3) := by decide +kernel
theorem d3_27 : decode cD2 27 = .ok (.getstatic 38, 3) := by decide +kernel
theorem d3_30 : decode cD2 30 = .ok (.ifCond .eq 28, 3) := by decide +kernel
theorem d3_33 : decode cD2 33 = .ok (.aload_n 1, 1) := by decide +kernel
theorem d3_34 : decode cD2 34 = .ok (.iload_n 2, 1) := by decide +kernel
theorem d3_35 : decode cD2 35 = .ok (.iload_n 3, 1) := by decide +kernel
theorem d3_36 : decode cD2 36 = .ok (.invokestatic 177, 3) := by decide +kernel
theorem d3_39 : decode cD2 39 = .ok (.astore 5, 2) := by decide +kernel
theorem d3_41 : decode cD2 41 = .ok (.aload_n 0, 1) := by decide +kernel
theorem d3_42 : decode cD2 42 = .ok (.aload 5, 2) := by decide +kernel
theorem d3_44 : decode cD2 44 = .ok (.iload_n 3, 1) := by decide +kernel
theorem d3_45 : decode cD2 45 = .ok (.invokestatic 47, 3) := by decide +kernel
theorem d3_48 : decode cD2 48 = .ok (.putfield 15, 3) := by decide +kernel
theorem d3_51 : decode cD2 51 = .ok (.aload_n 0, 1) := by decide +kernel
theorem d3_52 : decode cD2 52 = .ok (.aload 5, 2) := by decide +kernel
theorem d3_54 : decode cD2 54 = .ok (.putfield 9, 3) := by decide +kernel
theorem d3_57 : decode cD2 57 = .ok (.return_, 1) := by decide +kernel
theorem ef_svL (m : MethodId) (x0 : Addr) (x1 : Addr) (x3 : Int32) : entryFrame m #[.ref x0, .ref x1, .int 0, .int x3, .null] 6 = mkF m 0 #[.val (.ref x0), .val (.ref x1), .val (.int 0), .val (.int x3), .val .null, .unset] [] := by first | (simp [entryFrame, mkF, argsToLocals, Value.category]; done) | rfl
def QsvL (Z : State) (o0 o1 : Addr) (p3 : Int32) (u1 : Value) (u2 : Int32) (k0 : ClassId) (cs : Int32) (g : Nat → Int32) (h0 : Heap) (n0 : Nat) : QT := fun v h L => ∃ (b : Addr), ∃ (k2 : ClassId), (v = none) ∧ (Fr n0 L) ∧ (Keep h0 h [o0]) ∧ (h0.size ≤ b) ∧ (n0 ≤ b) ∧ (eAQ Z h o0) ∧ (fBQ Z h o0 (.ref b)) ∧ (fAQ Z h o0 (.int 0)) ∧ (eBQ Z h b) ∧ (Arv Z h b k2 .byte p3 (own_L p3.toNatClampNeg (own_bl g)) (.int 0))
theorem rmsvL (l : Launch) (Z : State) (a0 : Array Value) (hw : TW a0 Z) (ws : List Jvm.Cond) (o0 o1 : Addr) (p3 : Int32) (u1 : Value) (u2 : Int32) (k0 : ClassId) (cs : Int32) (g : Nat → Int32) (h0 : Heap) (n0 : Nat) (Z0 : n0 ≤ h0.size) (wk : eAQ Z h0 o0) (wg : fBQ Z h0 o0 u1) (wh : fAQ Z h0 o0 (.int u2)) (wS : n0 ≤ o0) (vg : o0 ≠ o1) (wU : Arv Z h0 o1 k0 .char p3 (own_L p3.toNatClampNeg g) (.int 0)) (hn1 : 0 < p3.toInt) (hn2 : p3.toInt ≤ 22) (hall : ∀ i : Nat, i < p3.toNatClampNeg → ¬ (255 : Int32) < g i) (wb : sCQ Z h0 (.int cs)) (hcs : ¬ cs = (0 : Int32)) :
  MF l mN0 jdk_42_method_149_code 6 none ws (rmm 2 1 22 35) #[.ref o0, .ref o1, .int 0, .int p3, .null] Z h0 (QsvL Z o0 o1 p3 u1 u2 k0 cs g h0 n0) := by
 refine MF.of (plainFor_of_name pn_1) ?_
 intro p e s m below meth c s₁ QQ hy hml hown hZ X0 e0 hrt hlk hnm hQQ
 have hx := hy.1
 have hby := hy.2
 have N0 := Fr.nil n0
 refine Ends.i #[rv o0, rv o1, iv 0, iv p3, .val .null, uu] ?_ (ef_svL m o0 o1 p3)
 refine oA X0 hy d3_0 1 rfl ?_
 obtain ⟨T99, X99, e99, st99⟩ := initO X0 hx hZ hown (tb hw 17 rfl) (tb hw 18 rfl) (tb hw 19 rfl) e0 (g := (mkF m 1 #[rv o0, rv o1, iv 0, iv p3, .val .null, uu] [.ref o0])) rfl (by rw [hml]; rfl) rfl (hb hby d3_1) (by decide) (W := 0) (by show 2 * 0 + _ ≤ _; exact Nat.le_of_eq rfl) (by decide)
 refine Ends.j 4 [] st99 ?_
 refine oC X99 hy d3_4 5 rfl ?_
 have hc5 : ¬ (p3 = (0 : Int32)) := (own_nz0 hn1)
 refine oxk X99 hy d3_5 27 (XT.i0_ne_t hc5) (gS X99 hy hown hZ hw e99 wb d3_27 30 41 rfl fun T100 X100 e100 => ?_)
 have hc30 : ¬ (cs = (0 : Int32)) := hcs
 refine oxh X100 hy d3_30 33 (XT.i0_eq_f hc30) (oA X100 hy d3_33 34 rfl (oC X100 hy d3_34 35 rfl (oC X100 hy d3_35 36 rfl ?_)))
 refine cS X100 hy hml hown hZ hw d3_36 39 0 42 43 44 45 rfl rfl rfl rfl (rmcbL l Z a0 hw [] o1 p3 k0 g h0 n0 Z0 wU hall hn1 hn2) e100 pd_12 rfl rfl fun _ T101 Lc101 X101 hQ101 => ?_
 obtain ⟨b_101, k2_101, rfl, Nq101, Kq101, fq101_0, ky, vn, ve⟩ := hQ101
 have N101 := Fr.app N0 Nq101
 have vz : o0 ≠ b_101 := Nat.ne_of_lt (Nat.lt_of_lt_of_le wk.lt fq101_0)
 have ko := Nat.le_trans (Keep.refl h0 [o0]).1 fq101_0
 have wk := wk.keep Kq101
 have wg := wg.keep Kq101 nin0
 have wh := wh.keep Kq101 nin0
 have K101 := (Keep.refl h0 [o0]).trans Kq101 all0
 refine Ends.v (oxs X101 hy d3_39 41 #[rv o0, rv o1, iv 0, iv p3, .val .null, rv b_101] rfl (oA X101 hy d3_41 42 rfl (oB X101 hy d3_42 44 rfl (oC X101 hy d3_44 45 rfl ?_))))
 refine cS X101 hy hml hown hZ hw d3_45 48 1 49 50 44 51 rfl rfl rfl rfl (rmcfL l Z a0 hw [] b_101 p3 k2_101 (own_L p3.toNatClampNeg (own_bl g)) T101.heap n0 (Nat.le_trans Z0 K101.1) ve) rfl pd_13 rfl rfl fun _ T102 Lc102 X102 hQ102 => ?_
 obtain ⟨rfl, Nq102, hh102⟩ := hQ102
 have N102 := Fr.app N101 Nq102
 refine Ends.v ?_
 obtain ⟨T103, h103, X103, e103, W103, st103⟩ := putFN X102 hx hZ hown (tb hw 27 rfl) Via.refl hh102 wh wk (Or.inr ⟨(tb hw 23 rfl), rfl, hnm⟩) (tb hw 8 rfl) (ty := .byte) (v' := (.int 0)) (by decide) rfl rfl (g := (mkF m 48 #[rv o0, rv o1, iv 0, iv p3, .val .null, rv b_101] [.int 0, .ref o0])) rfl rfl (hb hby d3_48)
 have wk := wk.wr W103
 have wg := wg.other W103 (Or.inr (slot_ne (Or.inr (tb hw 22 rfl)) (Or.inr (tb hw 23 rfl)) (by decide) (t := (.array .byte)) (t' := .byte) (by decide) (by decide)))
 have vn := vn.wr W103
 have ve := ve.other W103 (Ne.symm vz)
 have wh : fAQ Z h103 o0 (.int 0) := wh.same W103
 have K103 := K101.wr W103 (Or.inl mm0)
 have N103 := Fr.snoc X103 N102 wS
 refine Ends.j 51 [] st103 ?_
 refine oA X103 hy d3_51 52 rfl (oB X103 hy d3_52 54 rfl ?_)
 obtain ⟨T104, h104, X104, e104, W104, st104⟩ := putF X103 hx hZ hown (host := "") (Or.inl (tb hw 26 rfl)) Via.refl e103 wg wk (Or.inr ⟨(tb hw 22 rfl), rfl, hnm⟩) (tb hw 8 rfl) (ty := (.array .byte)) (by decide) rfl rfl (g := (mkF m 54 #[rv o0, rv o1, iv 0, iv p3, .val .null, rv b_101] [.ref b_101, .ref o0])) rfl rfl (hb hby d3_54)
 have wk := wk.wr W104
 have wh := wh.other W104 (Or.inr (slot_ne (Or.inr (tb hw 23 rfl)) (Or.inr (tb hw 22 rfl)) (by decide) (t := .byte) (t' := (.array .byte)) (by decide) (by decide)))
 have vn := vn.wr W104
 have ve := ve.other W104 (Ne.symm vz)
 have wg : fBQ Z h104 o0 (.ref b_101) := wg.same W104
 have K104 := K103.wr W104 (Or.inl mm0)
 have N104 := Fr.snoc X104 N103 wS
 refine Ends.j 57 [] st104 ?_
 exact fV X104 hy hrt hlk hQQ d3_57 e104 (by decide) ⟨b_101, k2_101, rfl, N104, K104, ko, ky, wk, wg, wh, vn, ve⟩
theorem d2_0 : decode cD16 0 = .ok (.aload_n 0, 1) := by decide +kernel
theorem d2_1 : decode cD16 1 = .ok (.aload_n 1, 1) := by decide +kernel
theorem d2_2 : decode cD16 2 = .ok (.iconst 0, 1) := by decide +kernel
theorem d2_3 : decode cD16 3 = .ok (.aload_n 1, 1) := by decide +kernel
theorem d2_4 : decode cD16 4 = .ok (.arraylength, 1) := by decide +kernel
theorem d2_5 : decode cD16 5 = .ok (.aconst_null, 1) := by decide +kernel
theorem d2_6 : decode cD16 6 = .ok (.invokespecial 27, 3) := by decide +kernel
theorem d2_9 : decode cD16 9 = .ok (.return_, 1) := by decide +kernel
def QscL (Z : State) (o0 o1 : Addr) (u1 : Value) (u2 : Int32) (k0 : ClassId) (cs : Int32) (g : Nat → Int32) (n : Int32) (h0 : Heap) (n0 : Nat) : QT := fun v h L => ∃ (b : Addr), ∃ (k2 : ClassId), (v = none) ∧ (Fr n0 L) ∧ (Keep h0 h [o0]) ∧ (h0.size ≤ b) ∧ (n0 ≤ b) ∧ (eAQ Z h o0) ∧ (fBQ Z h o0 (.ref b)) ∧ (fAQ Z h o0 (.int 0)) ∧ (eBQ Z h b) ∧ (Arv Z h b k2 .byte n (own_L n.toNatClampNeg (own_bl g)) (.int 0))
theorem rmscL (l : Launch) (Z : State) (a0 : Array Value) (hw : TW a0 Z) (ws : List Jvm.Cond) (o0 o1 : Addr) (u1 : Value) (u2 : Int32) (k0 : ClassId) (cs : Int32) (g : Nat → Int32) (n : Int32) (h0 : Heap) (n0 : Nat) (Z0 : n0 ≤ h0.size) (wk : eAQ Z h0 o0) (wg : fBQ Z h0 o0 u1) (wh : fAQ Z h0 o0 (.int u2)) (wS : n0 ≤ o0) (vg : o0 ≠ o1) (wU : Arv Z h0 o1 k0 .char n (own_L n.toNatClampNeg g) (.int 0)) (hn1 : 0 < n.toInt) (hn2 : n.toInt ≤ 22) (hall : ∀ i : Nat, i < n.toNatClampNeg → ¬ (255 : Int32) < g i) (wb : sCQ Z h0 (.int cs)) (hcs : ¬ cs = (0 : Int32)) :
  MF l mN1 jdk_42_method_3_code 2 none ws (rmm 3 1 22 52) #[.ref o0, .ref o1] Z h0 (QscL Z o0 o1 u1 u2 k0 cs g n h0 n0) := by
 refine MF.of (plainFor_of_name pn_1) ?_
 intro p e s m below meth c s₁ QQ hy hml hown hZ X0 e0 hrt hlk hnm hQQ
 have N0 := Fr.nil n0
 refine Ends.i #[rv o0, rv o1] (oA X0 hy d2_0 1 rfl (oA X0 hy d2_1 2 rfl (oG X0 hy d2_2 3 0 rfl (oA X0 hy d2_3 4 rfl (aLn X0 hy hZ e0 wU d2_4 5 (oxg X0 hy d2_5 6 ?_))))))
 refine cI X0 hy hml hown hZ hw d2_6 9 0 13 14 16 9 rfl rfl rfl rfl rfl (rmsvL l Z a0 hw [] o0 o1 n u1 u2 k0 cs g h0 n0 Z0 wk wg wh wS vg wU hn1 hn2 hall wb hcs) e0 pd_14 rfl rfl fun _ T106 Lc106 X106 hQ106 => ?_
 obtain ⟨b_106, k2_106, rfl, Nq106, Kq106, fq106_0, kx, wk, wg, wh, kA, je⟩ := hQ106
 have N106 := Fr.app N0 Nq106
 have kn := Nat.le_trans (Keep.refl h0 [o0]).1 fq106_0
 have K106 := (Keep.refl h0 [o0]).trans Kq106 (allS (Or.inl mm0) all0)
 refine Ends.u ?_
 exact fV X106 hy hrt hlk hQQ d2_9 rfl (by decide) ⟨b_106, k2_106, rfl, N106, K106, kn, kx, wk, wg, wh, kA, je⟩
theorem ef_svU (m : MethodId) (x0 : Addr) (x1 : Addr) (x3 : Int32) : entryFrame m #[.ref x0, .ref x1, .int 0, .int x3, .null] 6 = mkF m 0 #[.val (.ref x0), .val (.ref x1), .val (.int 0), .val (.int x3), .val .null, .unset] [] := by first | (simp [entryFrame, mkF, argsToLocals, Value.category]; done) | rfl
def QsvU (Z : State) (o0 o1 : Addr) (p3 : Int32) (u1 : Value) (u2 : Int32) (k0 : ClassId) (cs : Int32) (g : Nat → Int32) (jf : Nat) (h0 : Heap) (n0 : Nat) : QT := fun v h L => ∃ (b : Addr), ∃ (k2 : ClassId), (v = none) ∧ (Fr n0 L) ∧ (Keep h0 h [o0]) ∧ (h0.size ≤ b) ∧ (n0 ≤ b) ∧ (eAQ Z h o0) ∧ (fBQ Z h o0 (.ref b)) ∧ (fAQ Z h o0 (.int 1)) ∧ (eBQ Z h b) ∧ (Arv Z h b k2 .byte (p3 <<< ((1 : Int32) &&& 31)) (own_L (p3 <<< ((1 : Int32) &&& 31)).toNatClampNeg (own_ub g)) (.int 0))
theorem rmsvU (l : Launch) (Z : State) (a0 : Array Value) (hw : TW a0 Z) (ws : List Jvm.Cond) (o0 o1 : Addr) (p3 : Int32) (u1 : Value) (u2 : Int32) (k0 : ClassId) (cs : Int32) (g : Nat → Int32) (jf : Nat) (h0 : Heap) (n0 : Nat) (Z0 : n0 ≤ h0.size) (wk : eAQ Z h0 o0) (wg : fBQ Z h0 o0 u1) (wh : fAQ Z h0 o0 (.int u2)) (wS : n0 ≤ o0) (vg : o0 ≠ o1) (wU : Arv Z h0 o1 k0 .char p3 (own_L p3.toNatClampNeg g) (.int 0)) (hn1 : 0 < p3.toInt) (hn2 : p3.toInt ≤ 22) (hbd : ∀ i : Nat, 0 ≤ (g i).toInt ∧ (g i).toInt < 65536) (haj : ∀ i : Nat, i < jf → ¬ (255 : Int32) < g i) (hjf : (255 : Int32) < g jf) (hjn : jf < p3.toNatClampNeg) (wa : sEQ Z h0 (.int 1)) (wf : sFQ Z h0 (.int 0)) (we : sGQ Z h0 (.int 8)) (wb : sCQ Z h0 (.int cs)) (hcs : ¬ cs = (0 : Int32)) :
  MF l mN0 jdk_42_method_149_code 6 none ws (rmm 4 2 66 57) #[.ref o0, .ref o1, .int 0, .int p3, .null] Z h0 (QsvU Z o0 o1 p3 u1 u2 k0 cs g jf h0 n0) := by
 refine MF.of (plainFor_of_name pn_1) ?_
 intro p e s m below meth c s₁ QQ hy hml hown hZ X0 e0 hrt hlk hnm hQQ
 have hx := hy.1
 have hby := hy.2
 have N0 := Fr.nil n0
 refine Ends.i #[rv o0, rv o1, iv 0, iv p3, .val .null, uu] ?_ (ef_svU m o0 o1 p3)
 refine oA X0 hy d3_0 1 rfl ?_
 obtain ⟨T107, X107, e107, st107⟩ := initO X0 hx hZ hown (tb hw 17 rfl) (tb hw 18 rfl) (tb hw 19 rfl) e0 (g := (mkF m 1 #[rv o0, rv o1, iv 0, iv p3, .val .null, uu] [.ref o0])) rfl (by rw [hml]; rfl) rfl (hb hby d3_1) (by decide) (W := 0) (by show 2 * 0 + _ ≤ _; exact Nat.le_of_eq rfl) (by decide)
 refine Ends.j 4 [] st107 ?_
 refine oC X107 hy d3_4 5 rfl ?_
 have hc5 : ¬ (p3 = (0 : Int32)) := (own_nz0 hn1)
 refine oxk X107 hy d3_5 27 (XT.i0_ne_t hc5) (gS X107 hy hown hZ hw e107 wb d3_27 30 41 rfl fun T108 X108 e108 => ?_)
 have hc30 : ¬ (cs = (0 : Int32)) := hcs
 refine oxh X108 hy d3_30 33 (XT.i0_eq_f hc30) (oA X108 hy d3_33 34 rfl (oC X108 hy d3_34 35 rfl (oC X108 hy d3_35 36 rfl ?_)))
 refine cS X108 hy hml hown hZ hw d3_36 39 0 42 43 44 45 rfl rfl rfl rfl (rmcbU l Z a0 hw [] o1 p3 k0 g jf h0 n0 Z0 wU hbd haj hjf hjn hn1 hn2 wa wf we) e108 pd_12 rfl rfl fun _ T109 Lc109 X109 hQ109 => ?_
 obtain ⟨b_109, k2_109, rfl, Nq109, Kq109, fq109_0, kw, vl, vc⟩ := hQ109
 have N109 := Fr.app N0 Nq109
 have vy : o0 ≠ b_109 := Nat.ne_of_lt (Nat.lt_of_lt_of_le wk.lt fq109_0)
 have km := Nat.le_trans (Keep.refl h0 [o0]).1 fq109_0
 have wk := wk.keep Kq109
 have wg := wg.keep Kq109 nin0
 have wh := wh.keep Kq109 nin0
 have K109 := (Keep.refl h0 [o0]).trans Kq109 all0
 refine Ends.v (oxs X109 hy d3_39 41 #[rv o0, rv o1, iv 0, iv p3, .val .null, rv b_109] rfl (oA X109 hy d3_41 42 rfl (oB X109 hy d3_42 44 rfl (oC X109 hy d3_44 45 rfl ?_))))
 refine cS X109 hy hml hown hZ hw d3_45 48 1 49 50 44 51 rfl rfl rfl rfl (rmcfU l Z a0 hw [] b_109 p3 k2_109 (own_L (p3 <<< ((1 : Int32) &&& 31)).toNatClampNeg (own_ub g)) T109.heap n0 (Nat.le_trans Z0 K109.1) vc hn1 hn2) rfl pd_13 rfl rfl fun _ T110 Lc110 X110 hQ110 => ?_
 obtain ⟨rfl, Nq110, hh110⟩ := hQ110
 have N110 := Fr.app N109 Nq110
 refine Ends.v ?_
 obtain ⟨T111, h111, X111, e111, W111, st111⟩ := putFN X110 hx hZ hown (tb hw 27 rfl) Via.refl hh110 wh wk (Or.inr ⟨(tb hw 23 rfl), rfl, hnm⟩) (tb hw 8 rfl) (ty := .byte) (v' := (.int 1)) (by decide) rfl rfl (g := (mkF m 48 #[rv o0, rv o1, iv 0, iv p3, .val .null, rv b_109] [.int 1, .ref o0])) rfl rfl (hb hby d3_48)
 have wk := wk.wr W111
 have wg := wg.other W111 (Or.inr (slot_ne (Or.inr (tb hw 22 rfl)) (Or.inr (tb hw 23 rfl)) (by decide) (t := (.array .byte)) (t' := .byte) (by decide) (by decide)))
 have vl := vl.wr W111
 have vc := vc.other W111 (Ne.symm vy)
 have wh : fAQ Z h111 o0 (.int 1) := wh.same W111
 have K111 := K109.wr W111 (Or.inl mm0)
 have N111 := Fr.snoc X111 N110 wS
 refine Ends.j 51 [] st111 ?_
 refine oA X111 hy d3_51 52 rfl (oB X111 hy d3_52 54 rfl ?_)
 obtain ⟨T112, h112, X112, e112, W112, st112⟩ := putF X111 hx hZ hown (host := "") (Or.inl (tb hw 26 rfl)) Via.refl e111 wg wk (Or.inr ⟨(tb hw 22 rfl), rfl, hnm⟩) (tb hw 8 rfl) (ty := (.array .byte)) (by decide) rfl rfl (g := (mkF m 54 #[rv o0, rv o1, iv 0, iv p3, .val .null, rv b_109] [.ref b_109, .ref o0])) rfl rfl (hb hby d3_54)
 have wk := wk.wr W112
 have wh := wh.other W112 (Or.inr (slot_ne (Or.inr (tb hw 23 rfl)) (Or.inr (tb hw 22 rfl)) (by decide) (t := .byte) (t' := (.array .byte)) (by decide) (by decide)))
 have vl := vl.wr W112
 have vc := vc.other W112 (Ne.symm vy)
 have wg : fBQ Z h112 o0 (.ref b_109) := wg.same W112
 have K112 := K111.wr W112 (Or.inl mm0)
 have N112 := Fr.snoc X112 N111 wS
 refine Ends.j 57 [] st112 ?_
 exact fV X112 hy hrt hlk hQQ d3_57 e112 (by decide) ⟨b_109, k2_109, rfl, N112, K112, km, kw, wk, wg, wh, vl, vc⟩
def QscU (Z : State) (o0 o1 : Addr) (u1 : Value) (u2 : Int32) (k0 : ClassId) (cs : Int32) (g : Nat → Int32) (jf : Nat) (n : Int32) (h0 : Heap) (n0 : Nat) : QT := fun v h L => ∃ (b : Addr), ∃ (k2 : ClassId), (v = none) ∧ (Fr n0 L) ∧ (Keep h0 h [o0]) ∧ (h0.size ≤ b) ∧ (n0 ≤ b) ∧ (eAQ Z h o0) ∧ (fBQ Z h o0 (.ref b)) ∧ (fAQ Z h o0 (.int 1)) ∧ (eBQ Z h b) ∧ (Arv Z h b k2 .byte (n <<< ((1 : Int32) &&& 31)) (own_L (n <<< ((1 : Int32) &&& 31)).toNatClampNeg (own_ub g)) (.int 0))
theorem rmscU (l : Launch) (Z : State) (a0 : Array Value) (hw : TW a0 Z) (ws : List Jvm.Cond) (o0 o1 : Addr) (u1 : Value) (u2 : Int32) (k0 : ClassId) (cs : Int32) (g : Nat → Int32) (jf : Nat) (n : Int32) (h0 : Heap) (n0 : Nat) (Z0 : n0 ≤ h0.size) (wk : eAQ Z h0 o0) (wg : fBQ Z h0 o0 u1) (wh : fAQ Z h0 o0 (.int u2)) (wS : n0 ≤ o0) (vg : o0 ≠ o1) (wU : Arv Z h0 o1 k0 .char n (own_L n.toNatClampNeg g) (.int 0)) (hn1 : 0 < n.toInt) (hn2 : n.toInt ≤ 22) (hbd : ∀ i : Nat, 0 ≤ (g i).toInt ∧ (g i).toInt < 65536) (haj : ∀ i : Nat, i < jf → ¬ (255 : Int32) < g i) (hjf : (255 : Int32) < g jf) (hjn : jf < n.toNatClampNeg) (wa : sEQ Z h0 (.int 1)) (wf : sFQ Z h0 (.int 0)) (we : sGQ Z h0 (.int 8)) (wb : sCQ Z h0 (.int cs)) (hcs : ¬ cs = (0 : Int32)) :
  MF l mN1 jdk_42_method_3_code 2 none ws (rmm 5 2 66 74) #[.ref o0, .ref o1] Z h0 (QscU Z o0 o1 u1 u2 k0 cs g jf n h0 n0) := by
 refine MF.of (plainFor_of_name pn_1) ?_
 intro p e s m below meth c s₁ QQ hy hml hown hZ X0 e0 hrt hlk hnm hQQ
 have N0 := Fr.nil n0
 refine Ends.i #[rv o0, rv o1] (oA X0 hy d2_0 1 rfl (oA X0 hy d2_1 2 rfl (oG X0 hy d2_2 3 0 rfl (oA X0 hy d2_3 4 rfl (aLn X0 hy hZ e0 wU d2_4 5 (oxg X0 hy d2_5 6 ?_))))))
 refine cI X0 hy hml hown hZ hw d2_6 9 0 13 14 16 9 rfl rfl rfl rfl rfl (rmsvU l Z a0 hw [] o0 o1 n u1 u2 k0 cs g jf h0 n0 Z0 wk wg wh wS vg wU hn1 hn2 hbd haj hjf hjn wa wf we wb hcs) e0 pd_14 rfl rfl fun _ T114 Lc114 X114 hQ114 => ?_
 obtain ⟨b_114, k2_114, rfl, Nq114, Kq114, fq114_0, kv, wk, wg, wh, kz, jd⟩ := hQ114
 have N114 := Fr.app N0 Nq114
 have kl := Nat.le_trans (Keep.refl h0 [o0]).1 fq114_0
 have K114 := (Keep.refl h0 [o0]).trans Kq114 (allS (Or.inl mm0) all0)
 refine Ends.u ?_
 exact fV X114 hy hrt hlk hQQ d2_9 rfl (by decide) ⟨b_114, k2_114, rfl, N114, K114, kl, kv, wk, wg, wh, kz, jd⟩
theorem d3_8 : decode cD2 8 = .ok (.aload_n 0, 1) := by decide +kernel
theorem d3_9 : decode cD2 9 = .ok (.ldc 7, 2) := by decide +kernel
theorem d3_11 : decode cD2 11 = .ok (.getfield 9, 3) := by decide +kernel
theorem d3_14 : decode cD2 14 = .ok (.putfield 9, 3) := by decide +kernel
theorem d3_17 : decode cD2 17 = .ok (.aload_n 0, 1) := by decide +kernel
theorem d3_18 : decode cD2 18 = .ok (.ldc 7, 2) := by decide +kernel
theorem d3_20 : decode cD2 20 = .ok (.getfield 15, 3) := by decide +kernel
theorem d3_23 : decode cD2 23 = .ok (.putfield 15, 3) := by decide +kernel
theorem d3_26 : decode cD2 26 = .ok (.return_, 1) := by decide +kernel
theorem ef_sv0 (m : MethodId) (x0 : Addr) (x1 : Addr) : entryFrame m #[.ref x0, .ref x1, .int 0, .int 0, .null] 6 = mkF m 0 #[.val (.ref x0), .val (.ref x1), .val (.int 0), .val (.int 0), .val .null, .unset] [] := by first | (simp [entryFrame, mkF, argsToLocals, Value.category]; done) | rfl
def Qsv0 (Z : State) (o0 o1 : Addr) (u2 : Int32) (k0 : ClassId) (h0 : Heap) (n0 : Nat) : QT := fun v h L => ∃ (b : Addr), ∃ (k2 : ClassId), (v = none) ∧ (Fr n0 L) ∧ (Keep h0 h [o0]) ∧ (eAQ Z h o0) ∧ (fBQ Z h o0 (.ref b)) ∧ (fAQ Z h o0 (.int 0)) ∧ (Arv Z h b k2 .byte 0 [] (.int 0))
theorem rmsv0 (l : Launch) (Z : State) (a0 : Array Value) (hw : TW a0 Z) (ws : List Jvm.Cond) (o0 o1 : Addr) (u2 : Int32) (k0 : ClassId) (h0 : Heap) (n0 : Nat) (Z0 : n0 ≤ h0.size) (wk : eAQ Z h0 o0) (wg : fBQ Z h0 o0 .null) (wh : fAQ Z h0 o0 (.int u2)) (wS : n0 ≤ o0) (wU : Arv Z h0 o1 k0 .char 0 [] (.int 0)) (vb : Jvm.Lit.constHeld Z "java/lang/String" 7) (hcw : Jvm.Lit.compactW.before a0 Z = true) (hkp : ∀ (b : Addr) (cl : Cell), Z.heap[b]? = some cl → h0[b]? = some cl) :
  MetFree l mN0 (head1 (Jvm.Cond.code mN0 jdk_42_method_149_code 6 none :: ws) (rmm 1 2 4 12)) (fun a U => a = #[.ref o0, .ref o1, .int 0, .int 0, .null] ∧ Z.Warmed39 U.vm ∧ U.heap = h0 ∧ IB Z U.vm []) (fun _ _ _ _ _ => True) (fun _ U o U' => ∃ v L, o = .returned v ∧ Qsv0 Z o0 o1 u2 k0 h0 n0 v U'.heap L ∧ ReturnedEndW U o U' L (rmm 1 2 4 12).cells (rmm 1 2 4 12).slots) := by
 refine MetFree.of_bodySF (plainFor_of_name pn_1) hisR ?_
 intro p e s m args below meth c s₁ Bd hml0 hP hK
 obtain ⟨rfl, hZ, hh, hIB⟩ := hP
 have hx := Bd.exec
 have hby := Bd.bytes
 have hy := And.intro hx hby
 have hml : c.maxLocals = 6 := hml0
 have hown : s.vm.findClass "java/lang/String" = some m.cls := findClass_of_methodNamed Bd.named
 have hnm := (name_of_methodNamed Bd.named Bd.method).1
 have X0 : Stand p l e (rmm 1 2 4 12) (s.setVm s.vm) m #[.ref o0, .ref o1, .int 0, .int 0, .null] below meth c s₁ [] 0 0 := Stand.of_body Bd
 have e0 : s₁.heap = h0 := by rw [← hh, Bd.state]; rfl
 have N0 := Fr.nil n0
 have hS : s.Since s.vm 0 := (State.WarmedH.refl s).since 0
 have hk : 0 ≤ Array.size h0 := Nat.zero_le _
 have hkeep : ∀ (b : Addr) (cl : Cell), Z.heap[b]? = some cl → s.heap[b]? = some cl := by rw [hh]; exact hkp
 have IBf : IB Z s.vm [] := hIB
 refine Ends.opn ?_
 intro QQ hQQ
 refine Ends.i #[rv o0, rv o1, iv 0, iv 0, .val .null, uu] ?_ (ef_sv0 m o0 o1)
 refine oA X0 hy d3_0 1 rfl ?_
 obtain ⟨T115, X115, e115, st115⟩ := initO X0 hx hZ hown (tb hw 17 rfl) (tb hw 18 rfl) (tb hw 19 rfl) e0 (g := (mkF m 1 #[rv o0, rv o1, iv 0, iv 0, .val .null, uu] [.ref o0])) rfl (by rw [hml]; rfl) rfl (hb hby d3_1) (by decide) (W := 0) (by show 2 * 0 + _ ≤ _; exact Nat.le_of_eq rfl) (by decide)
 refine Ends.j 4 [] st115 ?_
 refine oC X115 hy d3_4 5 rfl (oxh X115 hy d3_5 8 (XT.i0_ne_f (by decide)) (oA X115 hy d3_8 9 rfl ?_))
 obtain ⟨a116, T116, h116, kk116, b116, kc116, X116, e116, E116, hS, hk, hZ, hown, EA116, FC116, FV116, AV116, -, -, IBf, Lt116, st116⟩ := ldcSVL X115 hx hZ hown (tb hw 20 rfl) (own_wS hw) e115 hS hk (Fr.nil _) hkeep IBf (by decide) vb hcw (vs := []) (z := (0 : Int32)) ⟨by decide +kernel, by decide +kernel⟩ (by decide) (by decide) (g := (mkF m 9 #[rv o0, rv o1, iv 0, iv 0, .val .null, uu] [.ref o0])) rfl (hb hby d3_9) (n := 0) (by decide +kernel) (by decide) (by decide) (by decide)
 have wk := wk.ext E116
 have wg := wg.ext E116
 have wh := wh.ext E116
 have K116 := (Keep.refl h0 [o0]).ext E116
 have vj := FC116
 have vq := FV116
 have vo := AV116
 have vA : o0 ≠ b116 := own_neEA wk (tb hw 8 rfl) vo (by decide)
 refine Ends.step st116 ?_
 have vV : o0 ≠ a116 := Fld.ne wg vq nofun
 show Ends p e below QQ (T116.setTop (mkF m 11 #[rv o0, rv o1, iv 0, iv 0, .val .null, uu] [.ref a116, .ref o0]))
 refine gF X116 hy hown hZ hw e116 vq d3_11 14 26 rfl fun T117 X117 e117 => ?_
 obtain ⟨T118, h118, X118, e118, W118, st118⟩ := putF X117 hx hZ hown (host := "") (Or.inl (tb hw 26 rfl)) Via.refl e117 wg wk (Or.inr ⟨(tb hw 22 rfl), rfl, hnm⟩) (tb hw 8 rfl) (ty := (.array .byte)) (by decide) rfl rfl (g := (mkF m 14 #[rv o0, rv o1, iv 0, iv 0, .val .null, uu] [.ref b116, .ref o0])) rfl rfl (hb hby d3_14)
 have wk := wk.wr W118
 have wh := wh.other W118 (Or.inr (slot_ne (Or.inr (tb hw 23 rfl)) (Or.inr (tb hw 22 rfl)) (by decide) (t := .byte) (t' := (.array .byte)) (by decide) (by decide)))
 have hk := Nat.le_trans hk (Nat.le_of_eq W118.size.symm)
 have vj := vj.other W118 (Or.inl (Ne.symm vV))
 have vo := vo.other W118 (Ne.symm vA)
 have wg : fBQ Z h118 o0 (.ref b116) := wg.same W118
 have K118 := K116.wr W118 (Or.inl mm0)
 have N118 := Fr.snoc X118 N0 wS
 refine Ends.j 17 [] st118 ?_
 refine oA X118 hy d3_17 18 rfl ?_
 refine Ends.step (fun _ k => ldcAgain X118 hx hZ hown (tb hw 20 rfl) Lt116 (g := (mkF m 18 #[rv o0, rv o1, iv 0, iv 0, .val .null, uu] [.ref o0])) rfl (hb hby d3_18) _ k) ?_
 show Ends p e below QQ (T118.setTop (mkF m 20 #[rv o0, rv o1, iv 0, iv 0, .val .null, uu] [.ref a116, .ref o0]))
 refine gF X118 hy hown hZ hw e118 vj d3_20 23 27 rfl fun T119 X119 e119 => ?_
 obtain ⟨T120, h120, X120, e120, W120, st120⟩ := putFN X119 hx hZ hown (tb hw 27 rfl) Via.refl e119 wh wk (Or.inr ⟨(tb hw 23 rfl), rfl, hnm⟩) (tb hw 8 rfl) (ty := .byte) (v' := (.int 0)) (by decide) rfl rfl (g := (mkF m 23 #[rv o0, rv o1, iv 0, iv 0, .val .null, uu] [.int 0, .ref o0])) rfl rfl (hb hby d3_23)
 have wk := wk.wr W120
 have wg := wg.other W120 (Or.inr (slot_ne (Or.inr (tb hw 22 rfl)) (Or.inr (tb hw 23 rfl)) (by decide) (t := (.array .byte)) (t' := .byte) (by decide) (by decide)))
 have hk := Nat.le_trans hk (Nat.le_of_eq W120.size.symm)
 have vo := vo.other W120 (Ne.symm vA)
 have wh : fAQ Z h120 o0 (.int 0) := wh.same W120
 have K120 := K118.wr W120 (Or.inl mm0)
 have N120 := Fr.snoc X120 N118 wS
 refine Ends.j 26 [] st120 ?_
 exact Ends.finW (none) X120 hS hk hQQ (fun _ => rfl) Bd.notSynchronized (fun _ hr => X120.returnOut hx Bd.returns (hb hby d3_26) hr) e120 (by decide) (by decide) ⟨b116, kc116, rfl, N120, K120, wk, wg, wh, vo⟩
def Qsc0 (Z : State) (o0 o1 : Addr) (u2 : Int32) (k0 : ClassId) (h0 : Heap) (n0 : Nat) : QT := fun v h L => ∃ (b : Addr), ∃ (k2 : ClassId), (v = none) ∧ (Fr n0 L) ∧ (Keep h0 h [o0]) ∧ (eAQ Z h o0) ∧ (fBQ Z h o0 (.ref b)) ∧ (fAQ Z h o0 (.int 0)) ∧ (Arv Z h b k2 .byte 0 [] (.int 0))
theorem rmsc0 (l : Launch) (Z : State) (a0 : Array Value) (hw : TW a0 Z) (ws : List Jvm.Cond) (o0 o1 : Addr) (u2 : Int32) (k0 : ClassId) (h0 : Heap) (n0 : Nat) (Z0 : n0 ≤ h0.size) (wk : eAQ Z h0 o0) (wg : fBQ Z h0 o0 .null) (wh : fAQ Z h0 o0 (.int u2)) (wS : n0 ≤ o0) (wU : Arv Z h0 o1 k0 .char 0 [] (.int 0)) (vb : Jvm.Lit.constHeld Z "java/lang/String" 7) (hcw : Jvm.Lit.compactW.before a0 Z = true) (hkp : ∀ (b : Addr) (cl : Cell), Z.heap[b]? = some cl → h0[b]? = some cl) :
  MetFree l mN1 (head1 (Jvm.Cond.code mN1 jdk_42_method_3_code 2 none :: ws) (rmm 2 2 4 29)) (fun a U => a = #[.ref o0, .ref o1] ∧ Z.Warmed39 U.vm ∧ U.heap = h0 ∧ IB Z U.vm []) (fun _ _ _ _ _ => True) (fun _ U o U' => ∃ v L, o = .returned v ∧ Qsc0 Z o0 o1 u2 k0 h0 n0 v U'.heap L ∧ ReturnedEndW U o U' L (rmm 2 2 4 29).cells (rmm 2 2 4 29).slots) := by
 refine MetFree.of_bodySF (plainFor_of_name pn_1) hisR ?_
 intro p e s m args below meth c s₁ Bd hml0 hP hK
 obtain ⟨rfl, hZ, hh, hIB⟩ := hP
 have hx := Bd.exec
 have hby := Bd.bytes
 have hy := And.intro hx hby
 have hml : c.maxLocals = 2 := hml0
 have hown : s.vm.findClass "java/lang/String" = some m.cls := findClass_of_methodNamed Bd.named
 have hnm := (name_of_methodNamed Bd.named Bd.method).1
 have X0 : Stand p l e (rmm 2 2 4 29) (s.setVm s.vm) m #[.ref o0, .ref o1] below meth c s₁ [] 0 0 := Stand.of_body Bd
 have e0 : s₁.heap = h0 := by rw [← hh, Bd.state]; rfl
 have N0 := Fr.nil n0
 have hS : s.Since s.vm 0 := (State.WarmedH.refl s).since 0
 have hk : 0 ≤ Array.size h0 := Nat.zero_le _
 have hkeep : ∀ (b : Addr) (cl : Cell), Z.heap[b]? = some cl → s.heap[b]? = some cl := by rw [hh]; exact hkp
 have IBf : IB Z s.vm [] := hIB
 refine Ends.opn ?_
 intro QQ hQQ
 refine Ends.i #[rv o0, rv o1] (oA X0 hy d2_0 1 rfl (oA X0 hy d2_1 2 rfl (oG X0 hy d2_2 3 0 rfl (oA X0 hy d2_3 4 rfl (aLn X0 hy hZ e0 wU d2_4 5 (oxg X0 hy d2_5 6 ?_))))))
 obtain ⟨_, _, ⟨T122, L122, k122, n122⟩, -, X122, hS122, hgr122, ⟨Lc122, hQ122, l122, y122, z122⟩, st122⟩ := X0.specialBackS hx (y := mN0) rfl hown (mvT hZ (tb hw 13 rfl)) (mvT hZ (tb hw 14 rfl)) (mvT hZ (tb hw 16 rfl)) (by decide) (own_backI (W := 0) (rmsv0 l Z a0 hw [] o0 o1 u2 k0 h0 n0 (Nat.le_trans Z0 (Keep.refl h0 [o0]).1) wk wg wh wS wU vb hcw hkp) hZ (tb hw 16 rfl) (tb hw 9 rfl) (by decide) (by decide) IBf) (g := (mkF m 6 #[rv o0, rv o1] [.null, .int 0, .int 0, .ref o1, .ref o0])) rfl (by rw [hml]; rfl) (Steps.refl _) (a := o0) (argsL := [.ref o1, .int 0, .int 0, .null]) (rest := []) (lenOf pd_14 rfl) rfl (by show 2 * 0 + _ ≤ _; exact Nat.le_of_eq rfl) (hb hby d2_6) (fun _ _ => ⟨rfl, e0, (by decide : 0 + 2 ≤ _), (by decide : 0 + 4 ≤ _)⟩)
 dsimp only [Pt.U, Pt.locs, Pt.cells, Pt.slots] at hS122 hgr122
 have hZo := hZ
 have hZ := State.Warmed39.trans hZo hS122.1
 have hown := (hS122.1.alike.findClass _ _).trans hown
 have hSn122 := State.Since.trans hS hS122 (Nat.le_trans hk (by rw [← e0]; exact hgr122))
 dsimp only [Pt.U, Pt.locs, Pt.cells, Pt.slots] at X122 l122 y122 z122 st122 hQ122
 subst l122 y122 z122
 obtain ⟨b_122, k2_122, rfl, Nq122, Kq122, wk, wg, wh, jc⟩ := hQ122
 have N122 := Fr.app N0 Nq122
 have K122 := (Keep.refl h0 [o0]).trans Kq122 (allS (Or.inl mm0) all0)
 refine Ends.step (fun _ k => st122.trans k) ?_
 have hS := hSn122
 have hk := Nat.le_refl (Array.size T122.heap)
 show Ends p e below QQ (T122.setTop (mkF m 9 #[rv o0, rv o1] []))
 exact Ends.finW (none) X122 hS hk hQQ (fun _ => rfl) Bd.notSynchronized (fun _ hr => X122.returnOut hx Bd.returns (hb hby d2_9) hr) rfl (by decide) (by decide) ⟨b_122, k2_122, rfl, N122, K122, wk, wg, wh, jc⟩
theorem d5_0 : decode cD1 0 = .ok (.aload_n 0, 1) := by decide +kernel
theorem d5_1 : decode cD1 1 = .ok (.invokevirtual 7, 3) := by decide +kernel
theorem d5_4 : decode cD1 4 = .ok (.ifCond .eq 7, 3) := by decide +kernel
theorem d5_7 : decode cD1 7 = .ok (.ldc2_w 13, 3) := by decide +kernel
theorem d5_10 : decode cD1 10 = .ok (.lreturn, 1) := by decide +kernel
def Qpa0 (Z : State) (o0 t : Addr) (k : ClassId) (h0 : Heap) (n0 : Nat) : QT := fun v h L => (v = some (.long (-1))) ∧ (Fr n0 L) ∧ (h = h0)
theorem rmpa0 (l : Launch) (Z : State) (a0 : Array Value) (hw : TW a0 Z) (ws : List Jvm.Cond) (o0 t : Addr) (k : ClassId) (h0 : Heap) (n0 : Nat) (Z0 : n0 ≤ h0.size) (wk : eAQ Z h0 o0) (wg : fBQ Z h0 o0 (.ref t)) (A_t : Arv Z h0 t k .byte 0 [] (.int 0)) :
  MF l mN2 prog_13_method_2_code 5 (some .long) ws (rmm 1 0 0 12) #[.ref o0] Z h0 (Qpa0 Z o0 t k h0 n0) := by
 refine MF.of (plainFor_of_name pn_5) ?_
 intro p e s m below meth c s₁ QQ hy hml hown hZ X0 e0 hrt hlk hnm hQQ
 have N0 := Fr.nil n0
 refine Ends.i #[rv o0, uu, uu, uu, uu] (oA X0 hy d5_0 1 rfl ?_)
 refine cV X0 hy hml hown hZ hw d5_1 4 0 32 33 35 34 36 9 rfl rfl rfl rfl rfl rfl (rmie0 l Z a0 hw [] o0 t k [] h0 n0 Z0 wg A_t) e0 pd_4 wk rfl rfl fun _ T123 Lc123 X123 hQ123 => ?_
 obtain ⟨rfl, Nq123, hh123⟩ := hQ123
 have N123 := Fr.app N0 Nq123
 refine Ends.v (oxh X123 hy d5_4 7 (XT.i0_eq_f (by decide)) (oJ2 X123 hy hown hZ hw d5_7 10 (-1) 37 rfl ?_))
 exact fJ X123 hy hrt hlk hQQ d5_10 hh123 (by decide) ⟨rfl, N123, rfl⟩
theorem d5_11 : decode cD1 11 = .ok (.lconst 0, 1) := by decide +kernel
theorem d5_12 : decode cD1 12 = .ok (.lstore_n 1, 1) := by decide +kernel
theorem d5_13 : decode cD1 13 = .ok (.iconst 0, 1) := by decide +kernel
theorem d5_14 : decode cD1 14 = .ok (.istore_n 3, 1) := by decide +kernel
theorem d5_15 : decode cD1 15 = .ok (.iload_n 3, 1) := by decide +kernel
theorem d5_16 : decode cD1 16 = .ok (.aload_n 0, 1) := by decide +kernel
theorem d5_17 : decode cD1 17 = .ok (.invokevirtual 15, 3) := by decide +kernel
theorem d5_20 : decode cD1 20 = .ok (.if_icmp .ge 67, 3) := by decide +kernel
theorem d5_23 : decode cD1 23 = .ok (.aload_n 0, 1) := by decide +kernel
theorem d5_24 : decode cD1 24 = .ok (.iload_n 3, 1) := by decide +kernel
theorem d5_25 : decode cD1 25 = .ok (.invokevirtual 19, 3) := by decide +kernel
theorem d5_28 : decode cD1 28 = .ok (.bipush 48, 2) := by decide +kernel
theorem d5_30 : decode cD1 30 = .ok (.isub, 1) := by decide +kernel
theorem d5_31 : decode cD1 31 = .ok (.istore 4, 2) := by decide +kernel
theorem d5_33 : decode cD1 33 = .ok (.iload 4, 2) := by decide +kernel
theorem d5_35 : decode cD1 35 = .ok (.ifCond .lt 10, 3) := by decide +kernel
theorem d5_38 : decode cD1 38 = .ok (.iload 4, 2) := by decide +kernel
theorem d5_40 : decode cD1 40 = .ok (.bipush 9, 2) := by decide +kernel
theorem d5_42 : decode cD1 42 = .ok (.if_icmp .le 7, 3) := by decide +kernel
theorem d5_45 : decode cD1 45 = .ok (.ldc2_w 13, 3) := by decide +kernel
theorem d5_48 : decode cD1 48 = .ok (.lreturn, 1) := by decide +kernel
theorem d5_49 : decode cD1 49 = .ok (.lload_n 1, 1) := by decide +kernel
theorem d5_50 : decode cD1 50 = .ok (.ldc2_w 25, 3) := by decide +kernel
theorem d5_53 : decode cD1 53 = .ok (.iload 4, 2) := by decide +kernel
theorem d5_55 : decode cD1 55 = .ok (.i2l, 1) := by decide +kernel
theorem d5_56 : decode cD1 56 = .ok (.lsub, 1) := by decide +kernel
theorem d5_57 : decode cD1 57 = .ok (.ldc2_w 27, 3) := by decide +kernel
theorem d5_60 : decode cD1 60 = .ok (.ldiv, 1) := by decide +kernel
theorem d5_61 : decode cD1 61 = .ok (.lcmp, 1) := by decide +kernel
theorem d5_62 : decode cD1 62 = .ok (.ifCond .le 9, 3) := by decide +kernel
theorem d5_65 : decode cD1 65 = .ok (.ldc2_w 25, 3) := by decide +kernel
theorem d5_68 : decode cD1 68 = .ok (.goto 12, 3) := by decide +kernel
theorem d5_71 : decode cD1 71 = .ok (.lload_n 1, 1) := by decide +kernel
theorem d5_72 : decode cD1 72 = .ok (.ldc2_w 27, 3) := by decide +kernel
theorem d5_75 : decode cD1 75 = .ok (.lmul, 1) := by decide +kernel
theorem d5_76 : decode cD1 76 = .ok (.iload 4, 2) := by decide +kernel
theorem d5_78 : decode cD1 78 = .ok (.i2l, 1) := by decide +kernel
theorem d5_79 : decode cD1 79 = .ok (.ladd, 1) := by decide +kernel
theorem d5_80 : decode cD1 80 = .ok (.lstore_n 1, 1) := by decide +kernel
theorem d5_81 : decode cD1 81 = .ok (.iinc 3 1, 3) := by decide +kernel
theorem d5_84 : decode cD1 84 = .ok (.goto (-69), 3) := by decide +kernel
theorem d5_87 : decode cD1 87 = .ok (.lload_n 1, 1) := by decide +kernel
theorem d5_88 : decode cD1 88 = .ok (.lreturn, 1) := by decide +kernel
def QpaL (Z : State) (o0 t : Addr) (k : ClassId) (cs : Int32) (sf : Value) (n : Int32) (g : Nat → Int32) (h0 : Heap) (n0 : Nat) : QT := fun v h L => (v = some (.long (own_p (own_gl n.toNatClampNeg g) (0 : Int64)))) ∧ (Fr n0 L) ∧ (h = h0)
theorem rmpaL (l : Launch) (Z : State) (a0 : Array Value) (hw : TW a0 Z) (ws : List Jvm.Cond) (o0 t : Addr) (k : ClassId) (cs : Int32) (sf : Value) (n : Int32) (g : Nat → Int32) (h0 : Heap) (n0 : Nat) (Z0 : n0 ≤ h0.size) (wk : eAQ Z h0 o0) (wg : fBQ Z h0 o0 (.ref t)) (wh : fAQ Z h0 o0 (.int 0)) (A_t : Arv Z h0 t k .byte n (own_L n.toNatClampNeg (own_bl g)) (.int 0)) (wb : sCQ Z h0 (.int cs)) (hcs : ¬ cs = (0 : Int32)) (wd : sDQ Z h0 sf) (wn : sf.isRef = true) (hn1 : 0 < n.toInt) (hn2 : n.toInt ≤ 22) (hbd : ∀ i : Nat, 0 ≤ (g i).toInt ∧ (g i).toInt < 65536) (hall : ∀ i : Nat, i < n.toNatClampNeg → ¬ (255 : Int32) < g i) :
  MF l mN2 prog_13_method_2_code 5 (some .long) ws (rmm 4 0 0 53) #[.ref o0] Z h0 (QpaL Z o0 t k cs sf n g h0 n0) := by
 refine MF.of (plainFor_of_name pn_5) ?_
 intro p e s m below meth c s₁ QQ hy hml hown hZ X0 e0 hrt hlk hnm hQQ
 have hx := hy.1
 have hby := hy.2
 have N0 := Fr.nil n0
 refine Ends.i #[rv o0, uu, uu, uu, uu] (oA X0 hy d5_0 1 rfl ?_)
 refine cV X0 hy hml hown hZ hw d5_1 4 0 32 33 35 34 36 9 rfl rfl rfl rfl rfl rfl (rmie1 l Z a0 hw [] o0 t k n (own_L n.toNatClampNeg (own_bl g)) h0 n0 Z0 wg A_t (own_nz0 hn1)) e0 pd_4 wk rfl rfl fun _ T124 Lc124 X124 hQ124 => ?_
 obtain ⟨rfl, Nq124, hh124⟩ := hQ124
 have N124 := Fr.app N0 Nq124
 refine Ends.v (oxk X124 hy d5_4 11 (XT.i0_eq_t (by decide)) (oJ X124 hy d5_11 12 0 rfl (oxr X124 hy d5_12 13 #[rv o0, jv 0, ss, uu, uu] rfl (oG X124 hy d5_13 14 0 rfl (oxp X124 hy d5_14 15 #[rv o0, jv 0, ss, iv 0, uu] rfl (oC X124 hy d5_15 16 rfl (oA X124 hy d5_16 17 rfl ?_)))))))
 refine cV X124 hy hml hown hZ hw d5_17 20 1 52 53 55 54 56 9 rfl rfl rfl rfl rfl rfl (rmln0 l Z a0 hw [] o0 t k n (own_L n.toNatClampNeg (own_bl g)) cs h0 n0 Z0 wk wg A_t wb hcs wh) hh124 pd_15 wk rfl rfl fun _ T125 Lc125 X125 hQ125 => ?_
 obtain ⟨rfl, Nq125, hh125⟩ := hQ125
 have N125 := Fr.app N124 Nq125
 refine Ends.v ?_
 have hc20 : (0 : Int32) < n := (own_lt0 hn1)
 refine oxi X125 hy d5_20 23 (XT.ii_ge_f hc20) (oA X125 hy d5_23 24 rfl (oC X125 hy d5_24 25 rfl ?_))
 refine cV X125 hy hml hown hZ hw d5_25 28 0 62 63 65 64 66 9 rfl rfl rfl rfl rfl rfl (rmch0 l Z a0 hw [] o0 (0 : Int32) t k n (own_L n.toNatClampNeg (own_bl g)) (own_bl g (0 : Int32).toNatClampNeg) cs sf (g (0 : Int32).toNatClampNeg) h0 n0 Z0 wk wg A_t wb hcs wh wd wn (own_ib own_t0i hc20).1 (own_ib own_t0i hc20).2 (own_Lg (own_il own_t0i hc20)) (own_l8 (hbd _).1 (hall _ (own_il own_t0i hc20)))) hh125 pd_16 wk rfl rfl fun _ T126 Lc126 X126 hQ126 => ?_
 obtain ⟨rfl, Nq126, hh126⟩ := hQ126
 have N126 := Fr.app N125 Nq126
 refine Ends.v (oH X126 hy d5_28 30 48 rfl (oL X126 hy d5_30 31 (oxo X126 hy d5_31 33 #[rv o0, jv 0, ss, iv 0, iv ((g (0 : Int32).toNatClampNeg) - (48 : Int32))] rfl (oD X126 hy d5_33 35 rfl ?_))))
 by_cases hc35_127 : ((g (0 : Int32).toNatClampNeg) - (48 : Int32)) < (0 : Int32)
 ·refine oxk X126 hy d5_35 45 (XT.i0_lt_t hc35_127) (oJ2 X126 hy hown hZ hw d5_45 48 (-1) 37 rfl ?_)
  exact fJ X126 hy hrt hlk hQQ d5_48 hh126 (by decide) ⟨(congrArg (fun z => some (Value.long z)) (own_ra own_t0i (own_it own_t0i hc20) (own_r0 : (own_p (own_gl n.toNatClampNeg g) (0 : Int64)) = _) hc35_127).symm), N126, rfl⟩
 ·refine oxh X126 hy d5_35 38 (XT.i0_lt_f hc35_127) (oD X126 hy d5_38 40 rfl (oH X126 hy d5_40 42 9 rfl ?_))
  by_cases hc42_128 : (9 : Int32) < ((g (0 : Int32).toNatClampNeg) - (48 : Int32))
  ·refine oxi X126 hy d5_42 45 (XT.ii_le_f hc42_128) (oJ2 X126 hy hown hZ hw d5_45 48 (-1) 37 rfl ?_)
   exact fJ X126 hy hrt hlk hQQ d5_48 hh126 (by decide) ⟨(congrArg (fun z => some (Value.long z)) (own_rb own_t0i (own_it own_t0i hc20) (own_r0 : (own_p (own_gl n.toNatClampNeg g) (0 : Int64)) = _) hc35_127 hc42_128).symm), N126, rfl⟩
  ·refine oxl X126 hy d5_42 49 (XT.ii_le_t hc42_128) (oE X126 hy d5_49 50 rfl (oJ2 X126 hy hown hZ hw d5_50 53 9223372036854775807 135 rfl (oD X126 hy d5_53 55 rfl (oxa X126 hy d5_55 56 (oT X126 hy d5_56 57 (oJ2 X126 hy hown hZ hw d5_57 60 10 136 rfl (oW X126 hy d5_60 61 (by decide) (oY X126 hy d5_61 62 ?_))))))))
   have J80_129 : (∀ (v80_1 : Int64) (hv80_1 : v80_1 = (if (((9223372036854775807 : Int64) - ((g (0 : Int32).toNatClampNeg) - (48 : Int32)).toInt64) / (10 : Int64)) < (0 : Int64) then (9223372036854775807 : Int64) else ((0 : Int64) + ((g (0 : Int32).toNatClampNeg) - (48 : Int32)).toInt64))), Ends p e below QQ (T126.setTop (mkF m 80 #[rv o0, jv 0, ss, iv 0, iv ((g (0 : Int32).toNatClampNeg) - (48 : Int32))] [.long v80_1]))) → Ends p e below QQ (T126.setTop (mkF m 62 #[rv o0, jv 0, ss, iv 0, iv ((g (0 : Int32).toNatClampNeg) - (48 : Int32))] [(.int (XT.cmpL (0 : Int64) (((9223372036854775807 : Int64) - ((g (0 : Int32).toNatClampNeg) - (48 : Int32)).toInt64) / (10 : Int64))))])) := by
    intro hJ
    by_cases hc62_130 : (((9223372036854775807 : Int64) - ((g (0 : Int32).toNatClampNeg) - (48 : Int32)).toInt64) / (10 : Int64)) < (0 : Int64)
    ·refine oxh X126 hy d5_62 65 (XT.ll_le_f hc62_130) (oJ2 X126 hy hown hZ hw d5_65 68 9223372036854775807 135 rfl ?_)
     refine Ends.step (fun _ k => XS.goto X126.here hx rfl (pc0 := 68) (pc' := 80) rfl (hb hby d5_68) (by decide) (by decide) k) ?_
     exact hJ _ (by simp only [if_pos hc62_130])
    ·refine oxk X126 hy d5_62 71 (XT.ll_le_t hc62_130) (oE X126 hy d5_71 72 rfl (oJ2 X126 hy hown hZ hw d5_72 75 10 136 rfl (oU X126 hy d5_75 76 ?_)))
     show Ends p e below QQ (T126.setTop (mkF m 76 #[rv o0, jv 0, ss, iv 0, iv ((g (0 : Int32).toNatClampNeg) - (48 : Int32))] [.long 0]))
     refine oD X126 hy d5_76 78 rfl (oxa X126 hy d5_78 79 ?_)
     refine Ends.step (fun _ k => XT.ladd X126.here hx rfl (hb hby d5_79) rfl k) ?_
     exact hJ _ (by simp only [if_neg hc62_130])
   refine J80_129 fun v80_1 hv80_1 => ?_
   refine Ends.step (fun _ k => XT.lstoreN X126.here hx rfl (hb hby d5_80) rfl (l' := #[rv o0, jv v80_1, ss, iv 0, iv ((g (0 : Int32).toNatClampNeg) - (48 : Int32))]) rfl k) ?_
   have hR131 : (own_p (own_gl n.toNatClampNeg g) (0 : Int64)) = own_p ((own_gl n.toNatClampNeg g).drop (0 + 1)) v80_1 := own_rs0 own_t0i (own_it own_t0i hc20) own_r0 hc35_127 hc42_128 hv80_1
   show Ends p e below QQ (T126.setTop (mkF m 81 #[rv o0, jv v80_1, ss, iv 0, iv ((g (0 : Int32).toNatClampNeg) - (48 : Int32))] []))
   refine Ends.step (fun _ k => XT.iincV X126.here hx rfl (1 : Int32) (hb hby d5_81) rfl rfl (l' := #[rv o0, jv v80_1, ss, iv 1, iv ((g (0 : Int32).toNatClampNeg) - (48 : Int32))]) rfl k) ?_
   have hI132 := own_inc0
   show Ends p e below QQ (T126.setTop (mkF m 84 #[rv o0, jv v80_1, ss, iv 1, iv ((g (0 : Int32).toNatClampNeg) - (48 : Int32))] []))
   refine Ends.step (fun _ k => XS.goto X126.here hx rfl (pc0 := 84) (pc' := 15) rfl (hb hby d5_84) (by decide) (by decide) k) ?_
   have LP133 : ∀ (fu133 : Nat) (t134 : Nat) (i134 : Int32) (w134 : Int64) (d134 : Int32) (T133 : State) (L133 : List Loc) (X133 : Stand p l e (rmm 4 0 0 53) s m #[.ref o0] below meth c T133 L133 0 0) (e133 : T133.heap = h0) (N133 : Fr n0 L133) (K133 : Keep h0 h0 []) (wk : eAQ Z h0 o0) (wg : fBQ Z h0 o0 (.ref t)) (wh : fAQ Z h0 o0 (.int 0)) (A_t : Arv Z h0 t k .byte n (own_L n.toNatClampNeg (own_bl g)) (.int 0)) (wb : sCQ Z h0 (.int cs)) (wd : sDQ Z h0 sf) (hI134 : i134.toInt = (t134 : Int)) (hR134 : (own_p (own_gl n.toNatClampNeg g) (0 : Int64)) = own_p ((own_gl n.toNatClampNeg g).drop t134) w134) (hf133 : (n.toNatClampNeg - t134) < fu133), Ends p e below QQ (T133.setTop (mkF m 15 #[rv o0, jv w134, ss, iv i134, iv d134] [])) := by
    intro fu133
    induction fu133 with
    | zero => intro t134 i134 w134 d134 T133 L133 X133 e133 N133 K133 wk wg wh A_t wb wd hI134 hR134 hf133; exact absurd hf133 (Nat.not_lt_zero _)
    | succ fu133 ih133 =>
     intro t134 i134 w134 d134 T133 L133 X133 e133 N133 K133 wk wg wh A_t wb wd hI134 hR134 hf133
     show Ends p e below QQ (T133.setTop (mkF m 15 #[rv o0, jv w134, ss, iv i134, iv d134] []))
     refine oC X133 hy d5_15 16 rfl (oA X133 hy d5_16 17 rfl ?_)
     refine cV X133 hy hml hown hZ hw d5_17 20 1 52 53 55 54 56 9 rfl rfl rfl rfl rfl rfl (rmln0 l Z a0 hw [] o0 t k n (own_L n.toNatClampNeg (own_bl g)) cs h0 n0 (Nat.le_trans Z0 K133.1) wk wg A_t wb hcs wh) e133 pd_15 wk rfl rfl fun _ T135 Lc135 X135 hQ135 => ?_
     obtain ⟨rfl, Nq135, hh135⟩ := hQ135
     have N135 := Fr.app N133 Nq135
     refine Ends.v ?_
     by_cases hc20_136 : i134 < n
     ·refine oxi X135 hy d5_20 23 (XT.ii_ge_f hc20_136) (oA X135 hy d5_23 24 rfl (oC X135 hy d5_24 25 rfl ?_))
      refine cV X135 hy hml hown hZ hw d5_25 28 0 62 63 65 64 66 9 rfl rfl rfl rfl rfl rfl (rmch0 l Z a0 hw [] o0 i134 t k n (own_L n.toNatClampNeg (own_bl g)) (own_bl g i134.toNatClampNeg) cs sf (g i134.toNatClampNeg) h0 n0 (Nat.le_trans Z0 K133.1) wk wg A_t wb hcs wh wd wn (own_ib hI134 hc20_136).1 (own_ib hI134 hc20_136).2 (own_Lg (own_il hI134 hc20_136)) (own_l8 (hbd _).1 (hall _ (own_il hI134 hc20_136)))) hh135 pd_16 wk rfl rfl fun _ T137 Lc137 X137 hQ137 => ?_
      obtain ⟨rfl, Nq137, hh137⟩ := hQ137
      have N137 := Fr.app N135 Nq137
      refine Ends.v (oH X137 hy d5_28 30 48 rfl (oL X137 hy d5_30 31 (oxo X137 hy d5_31 33 #[rv o0, jv w134, ss, iv i134, iv ((g i134.toNatClampNeg) - (48 : Int32))] rfl (oD X137 hy d5_33 35 rfl ?_))))
      by_cases hc35_138 : ((g i134.toNatClampNeg) - (48 : Int32)) < (0 : Int32)
      ·refine oxk X137 hy d5_35 45 (XT.i0_lt_t hc35_138) (oJ2 X137 hy hown hZ hw d5_45 48 (-1) 37 rfl ?_)
       exact fJ X137 hy hrt hlk hQQ d5_48 hh137 (by decide) ⟨(congrArg (fun z => some (Value.long z)) (own_ra hI134 (own_it hI134 hc20_136) (hR134 : (own_p (own_gl n.toNatClampNeg g) (0 : Int64)) = _) hc35_138).symm), N137, rfl⟩
      ·refine oxh X137 hy d5_35 38 (XT.i0_lt_f hc35_138) (oD X137 hy d5_38 40 rfl (oH X137 hy d5_40 42 9 rfl ?_))
       by_cases hc42_139 : (9 : Int32) < ((g i134.toNatClampNeg) - (48 : Int32))
       ·refine oxi X137 hy d5_42 45 (XT.ii_le_f hc42_139) (oJ2 X137 hy hown hZ hw d5_45 48 (-1) 37 rfl ?_)
        exact fJ X137 hy hrt hlk hQQ d5_48 hh137 (by decide) ⟨(congrArg (fun z => some (Value.long z)) (own_rb hI134 (own_it hI134 hc20_136) (hR134 : (own_p (own_gl n.toNatClampNeg g) (0 : Int64)) = _) hc35_138 hc42_139).symm), N137, rfl⟩
       ·refine oxl X137 hy d5_42 49 (XT.ii_le_t hc42_139) (oE X137 hy d5_49 50 rfl (oJ2 X137 hy hown hZ hw d5_50 53 9223372036854775807 135 rfl (oD X137 hy d5_53 55 rfl (oxa X137 hy d5_55 56 (oT X137 hy d5_56 57 (oJ2 X137 hy hown hZ hw d5_57 60 10 136 rfl (oW X137 hy d5_60 61 (by decide) (oY X137 hy d5_61 62 ?_))))))))
        have J80_140 : (∀ (v80_2 : Int64) (hv80_2 : v80_2 = (if (((9223372036854775807 : Int64) - ((g i134.toNatClampNeg) - (48 : Int32)).toInt64) / (10 : Int64)) < w134 then (9223372036854775807 : Int64) else ((w134 * (10 : Int64)) + ((g i134.toNatClampNeg) - (48 : Int32)).toInt64))), Ends p e below QQ (T137.setTop (mkF m 80 #[rv o0, jv w134, ss, iv i134, iv ((g i134.toNatClampNeg) - (48 : Int32))] [.long v80_2]))) → Ends p e below QQ (T137.setTop (mkF m 62 #[rv o0, jv w134, ss, iv i134, iv ((g i134.toNatClampNeg) - (48 : Int32))] [(.int (XT.cmpL w134 (((9223372036854775807 : Int64) - ((g i134.toNatClampNeg) - (48 : Int32)).toInt64) / (10 : Int64))))])) := by
         intro hJ
         by_cases hc62_141 : (((9223372036854775807 : Int64) - ((g i134.toNatClampNeg) - (48 : Int32)).toInt64) / (10 : Int64)) < w134
         ·refine oxh X137 hy d5_62 65 (XT.ll_le_f hc62_141) (oJ2 X137 hy hown hZ hw d5_65 68 9223372036854775807 135 rfl ?_)
          refine Ends.step (fun _ k => XS.goto X137.here hx rfl (pc0 := 68) (pc' := 80) rfl (hb hby d5_68) (by decide) (by decide) k) ?_
          exact hJ _ (by simp only [if_pos hc62_141])
         ·refine oxk X137 hy d5_62 71 (XT.ll_le_t hc62_141) (oE X137 hy d5_71 72 rfl (oJ2 X137 hy hown hZ hw d5_72 75 10 136 rfl (oU X137 hy d5_75 76 (oD X137 hy d5_76 78 rfl (oxa X137 hy d5_78 79 ?_)))))
          refine Ends.step (fun _ k => XT.ladd X137.here hx rfl (hb hby d5_79) rfl k) ?_
          exact hJ _ (by simp only [if_neg hc62_141])
        refine J80_140 fun v80_2 hv80_2 => ?_
        refine Ends.step (fun _ k => XT.lstoreN X137.here hx rfl (hb hby d5_80) rfl (l' := #[rv o0, jv v80_2, ss, iv i134, iv ((g i134.toNatClampNeg) - (48 : Int32))]) rfl k) ?_
        have hR142 : (own_p (own_gl n.toNatClampNeg g) (0 : Int64)) = own_p ((own_gl n.toNatClampNeg g).drop (t134 + 1)) v80_2 := own_rs hI134 (own_it hI134 hc20_136) hR134 hc35_138 hc42_139 hv80_2
        show Ends p e below QQ (T137.setTop (mkF m 81 #[rv o0, jv v80_2, ss, iv i134, iv ((g i134.toNatClampNeg) - (48 : Int32))] []))
        refine Ends.step (fun _ k => XT.iincV X137.here hx rfl (1 : Int32) (hb hby d5_81) rfl rfl (l' := #[rv o0, jv v80_2, ss, iv (i134 + (1 : Int32)), iv ((g i134.toNatClampNeg) - (48 : Int32))]) rfl k) ?_
        have hI143 := own_inc hI134 hc20_136
        show Ends p e below QQ (T137.setTop (mkF m 84 #[rv o0, jv v80_2, ss, iv (i134 + (1 : Int32)), iv ((g i134.toNatClampNeg) - (48 : Int32))] []))
        refine Ends.step (fun _ k => XS.goto X137.here hx rfl (pc0 := 84) (pc' := 15) rfl (hb hby d5_84) (by decide) (by decide) k) ?_
        exact ih133 ((t134 + 1)) ((i134 + (1 : Int32))) (v80_2) (((g i134.toNatClampNeg) - (48 : Int32))) T137 _ X137 hh137 N137 K133 wk wg wh A_t wb wd hI143 hR142 (own_fu2 hI134 hc20_136 hf133)
     ·refine oxl X135 hy d5_20 87 (XT.ii_ge_t hc20_136) (oE X135 hy d5_87 88 rfl ?_)
      exact fJ X135 hy hrt hlk hQQ d5_88 hh135 (by decide) ⟨(congrArg (fun z => some (Value.long z)) (own_re hI134 hc20_136 hR134).symm), N135, rfl⟩
   exact LP133 (n.toNatClampNeg - (0 + 1) + 1) (0 + 1) (1 : Int32) v80_1 ((g (0 : Int32).toNatClampNeg) - (48 : Int32)) T126 _ X126 hh126 N126 (Keep.refl h0 []) wk wg wh A_t wb wd hI132 hR131 (Nat.lt_succ_self _)
def QpaU (Z : State) (o0 t : Addr) (k : ClassId) (cs : Int32) (sf : Value) (n : Int32) (g : Nat → Int32) (h0 : Heap) (n0 : Nat) : QT := fun v h L => (v = some (.long (own_p (own_gl n.toNatClampNeg g) (0 : Int64)))) ∧ (Fr n0 L) ∧ (h = h0)
theorem rmpaU (l : Launch) (Z : State) (a0 : Array Value) (hw : TW a0 Z) (ws : List Jvm.Cond) (o0 t : Addr) (k : ClassId) (cs : Int32) (sf : Value) (n : Int32) (g : Nat → Int32) (h0 : Heap) (n0 : Nat) (Z0 : n0 ≤ h0.size) (wk : eAQ Z h0 o0) (wg : fBQ Z h0 o0 (.ref t)) (wh : fAQ Z h0 o0 (.int 1)) (A_t : Arv Z h0 t k .byte (n <<< ((1 : Int32) &&& 31)) (own_L (n <<< ((1 : Int32) &&& 31)).toNatClampNeg (own_ub g)) (.int 0)) (wb : sCQ Z h0 (.int cs)) (hcs : ¬ cs = (0 : Int32)) (wd : sDQ Z h0 sf) (wn : sf.isRef = true) (hn1 : 0 < n.toInt) (hn2 : n.toInt ≤ 22) (hbd : ∀ i : Nat, 0 ≤ (g i).toInt ∧ (g i).toInt < 65536) (wa : sEQ Z h0 (.int 1)) (wf : sFQ Z h0 (.int 0)) (we : sGQ Z h0 (.int 8)) :
  MF l mN2 prog_13_method_2_code 5 (some .long) ws (rmm 5 0 0 66) #[.ref o0] Z h0 (QpaU Z o0 t k cs sf n g h0 n0) := by
 refine MF.of (plainFor_of_name pn_5) ?_
 intro p e s m below meth c s₁ QQ hy hml hown hZ X0 e0 hrt hlk hnm hQQ
 have hx := hy.1
 have hby := hy.2
 have N0 := Fr.nil n0
 refine Ends.i #[rv o0, uu, uu, uu, uu] (oA X0 hy d5_0 1 rfl ?_)
 refine cV X0 hy hml hown hZ hw d5_1 4 0 32 33 35 34 36 9 rfl rfl rfl rfl rfl rfl (rmie1 l Z a0 hw [] o0 t k (n <<< ((1 : Int32) &&& 31)) (own_L (n <<< ((1 : Int32) &&& 31)).toNatClampNeg (own_ub g)) h0 n0 Z0 wg A_t (own_n2z hn1 hn2)) e0 pd_4 wk rfl rfl fun _ T144 Lc144 X144 hQ144 => ?_
 obtain ⟨rfl, Nq144, hh144⟩ := hQ144
 have N144 := Fr.app N0 Nq144
 refine Ends.v (oxk X144 hy d5_4 11 (XT.i0_eq_t (by decide)) (oJ X144 hy d5_11 12 0 rfl (oxr X144 hy d5_12 13 #[rv o0, jv 0, ss, uu, uu] rfl (oG X144 hy d5_13 14 0 rfl (oxp X144 hy d5_14 15 #[rv o0, jv 0, ss, iv 0, uu] rfl (oC X144 hy d5_15 16 rfl (oA X144 hy d5_16 17 rfl ?_)))))))
 refine cV X144 hy hml hown hZ hw d5_17 20 1 52 53 55 54 56 9 rfl rfl rfl rfl rfl rfl (rmln1 l Z a0 hw [] o0 t k (n <<< ((1 : Int32) &&& 31)) (own_L (n <<< ((1 : Int32) &&& 31)).toNatClampNeg (own_ub g)) cs n h0 n0 Z0 wk wg A_t wb hcs wh (own_hm (Int.le_of_lt hn1) hn2)) hh144 pd_15 wk rfl rfl fun _ T145 Lc145 X145 hQ145 => ?_
 obtain ⟨rfl, Nq145, hh145⟩ := hQ145
 have N145 := Fr.app N144 Nq145
 refine Ends.v ?_
 have hc20 : (0 : Int32) < n := (own_lt0 hn1)
 refine oxi X145 hy d5_20 23 (XT.ii_ge_f hc20) (oA X145 hy d5_23 24 rfl (oC X145 hy d5_24 25 rfl ?_))
 refine cV X145 hy hml hown hZ hw d5_25 28 0 62 63 65 64 66 9 rfl rfl rfl rfl rfl rfl (rmch1 l Z a0 hw [] o0 (0 : Int32) t cs k (n <<< ((1 : Int32) &&& 31)) (own_L (n <<< ((1 : Int32) &&& 31)).toNatClampNeg (own_ub g)) n sf ((0 : Int32) <<< ((1 : Int32) &&& 31)) (((0 : Int32) <<< ((1 : Int32) &&& 31)) + (1 : Int32)) (own_ub g ((0 : Int32) <<< ((1 : Int32) &&& 31)).toNatClampNeg) (own_ub g (((0 : Int32) <<< ((1 : Int32) &&& 31)) + (1 : Int32)).toNatClampNeg) (g (0 : Int32).toNatClampNeg) h0 n0 Z0 wk wg A_t wb hcs wh (own_hm (Int.le_of_lt hn1) hn2) wd wn wa wf we (own_ib own_t0i hc20).1 (own_ib own_t0i hc20).2 rfl rfl (own_pi0 (own_hpc own_t0i hc20 (Int.le_of_lt hn1) hn2)).1 (own_pi0 (own_hpc own_t0i hc20 (Int.le_of_lt hn1) hn2)).2 (own_pi1 (own_hpc own_t0i hc20 (Int.le_of_lt hn1) hn2)).1 (own_pi1 (own_hpc own_t0i hc20 (Int.le_of_lt hn1) hn2)).2 (own_Lg (own_ltn (own_pi0 (own_hpc own_t0i hc20 (Int.le_of_lt hn1) hn2)))) (own_Lg (own_ltn (own_pi1 (own_hpc own_t0i hc20 (Int.le_of_lt hn1) hn2)))) (own_u16g own_t0i hc20 hn2 hbd)) hh145 pd_16 wk rfl rfl fun _ T146 Lc146 X146 hQ146 => ?_
 obtain ⟨rfl, Nq146, hh146⟩ := hQ146
 have N146 := Fr.app N145 Nq146
 refine Ends.v (oH X146 hy d5_28 30 48 rfl (oL X146 hy d5_30 31 (oxo X146 hy d5_31 33 #[rv o0, jv 0, ss, iv 0, iv ((g (0 : Int32).toNatClampNeg) - (48 : Int32))] rfl (oD X146 hy d5_33 35 rfl ?_))))
 by_cases hc35_147 : ((g (0 : Int32).toNatClampNeg) - (48 : Int32)) < (0 : Int32)
 ·refine oxk X146 hy d5_35 45 (XT.i0_lt_t hc35_147) (oJ2 X146 hy hown hZ hw d5_45 48 (-1) 37 rfl ?_)
  exact fJ X146 hy hrt hlk hQQ d5_48 hh146 (by decide) ⟨(congrArg (fun z => some (Value.long z)) (own_ra own_t0i (own_it own_t0i hc20) (own_r0 : (own_p (own_gl n.toNatClampNeg g) (0 : Int64)) = _) hc35_147).symm), N146, rfl⟩
 ·refine oxh X146 hy d5_35 38 (XT.i0_lt_f hc35_147) (oD X146 hy d5_38 40 rfl (oH X146 hy d5_40 42 9 rfl ?_))
  by_cases hc42_148 : (9 : Int32) < ((g (0 : Int32).toNatClampNeg) - (48 : Int32))
  ·refine oxi X146 hy d5_42 45 (XT.ii_le_f hc42_148) (oJ2 X146 hy hown hZ hw d5_45 48 (-1) 37 rfl ?_)
   exact fJ X146 hy hrt hlk hQQ d5_48 hh146 (by decide) ⟨(congrArg (fun z => some (Value.long z)) (own_rb own_t0i (own_it own_t0i hc20) (own_r0 : (own_p (own_gl n.toNatClampNeg g) (0 : Int64)) = _) hc35_147 hc42_148).symm), N146, rfl⟩
  ·refine oxl X146 hy d5_42 49 (XT.ii_le_t hc42_148) (oE X146 hy d5_49 50 rfl (oJ2 X146 hy hown hZ hw d5_50 53 9223372036854775807 135 rfl (oD X146 hy d5_53 55 rfl (oxa X146 hy d5_55 56 (oT X146 hy d5_56 57 (oJ2 X146 hy hown hZ hw d5_57 60 10 136 rfl (oW X146 hy d5_60 61 (by decide) (oY X146 hy d5_61 62 ?_))))))))
   have J80_149 : (∀ (v80_1 : Int64) (hv80_1 : v80_1 = (if (((9223372036854775807 : Int64) - ((g (0 : Int32).toNatClampNeg) - (48 : Int32)).toInt64) / (10 : Int64)) < (0 : Int64) then (9223372036854775807 : Int64) else ((0 : Int64) + ((g (0 : Int32).toNatClampNeg) - (48 : Int32)).toInt64))), Ends p e below QQ (T146.setTop (mkF m 80 #[rv o0, jv 0, ss, iv 0, iv ((g (0 : Int32).toNatClampNeg) - (48 : Int32))] [.long v80_1]))) → Ends p e below QQ (T146.setTop (mkF m 62 #[rv o0, jv 0, ss, iv 0, iv ((g (0 : Int32).toNatClampNeg) - (48 : Int32))] [(.int (XT.cmpL (0 : Int64) (((9223372036854775807 : Int64) - ((g (0 : Int32).toNatClampNeg) - (48 : Int32)).toInt64) / (10 : Int64))))])) := by
    intro hJ
    by_cases hc62_150 : (((9223372036854775807 : Int64) - ((g (0 : Int32).toNatClampNeg) - (48 : Int32)).toInt64) / (10 : Int64)) < (0 : Int64)
    ·refine oxh X146 hy d5_62 65 (XT.ll_le_f hc62_150) (oJ2 X146 hy hown hZ hw d5_65 68 9223372036854775807 135 rfl ?_)
     refine Ends.step (fun _ k => XS.goto X146.here hx rfl (pc0 := 68) (pc' := 80) rfl (hb hby d5_68) (by decide) (by decide) k) ?_
     exact hJ _ (by simp only [if_pos hc62_150])
    ·refine oxk X146 hy d5_62 71 (XT.ll_le_t hc62_150) (oE X146 hy d5_71 72 rfl (oJ2 X146 hy hown hZ hw d5_72 75 10 136 rfl (oU X146 hy d5_75 76 ?_)))
     show Ends p e below QQ (T146.setTop (mkF m 76 #[rv o0, jv 0, ss, iv 0, iv ((g (0 : Int32).toNatClampNeg) - (48 : Int32))] [.long 0]))
     refine oD X146 hy d5_76 78 rfl (oxa X146 hy d5_78 79 ?_)
     refine Ends.step (fun _ k => XT.ladd X146.here hx rfl (hb hby d5_79) rfl k) ?_
     exact hJ _ (by simp only [if_neg hc62_150])
   refine J80_149 fun v80_1 hv80_1 => ?_
   refine Ends.step (fun _ k => XT.lstoreN X146.here hx rfl (hb hby d5_80) rfl (l' := #[rv o0, jv v80_1, ss, iv 0, iv ((g (0 : Int32).toNatClampNeg) - (48 : Int32))]) rfl k) ?_
   have hR151 : (own_p (own_gl n.toNatClampNeg g) (0 : Int64)) = own_p ((own_gl n.toNatClampNeg g).drop (0 + 1)) v80_1 := own_rs0 own_t0i (own_it own_t0i hc20) own_r0 hc35_147 hc42_148 hv80_1
   show Ends p e below QQ (T146.setTop (mkF m 81 #[rv o0, jv v80_1, ss, iv 0, iv ((g (0 : Int32).toNatClampNeg) - (48 : Int32))] []))
   refine Ends.step (fun _ k => XT.iincV X146.here hx rfl (1 : Int32) (hb hby d5_81) rfl rfl (l' := #[rv o0, jv v80_1, ss, iv 1, iv ((g (0 : Int32).toNatClampNeg) - (48 : Int32))]) rfl k) ?_
   have hI152 := own_inc0
   show Ends p e below QQ (T146.setTop (mkF m 84 #[rv o0, jv v80_1, ss, iv 1, iv ((g (0 : Int32).toNatClampNeg) - (48 : Int32))] []))
   refine Ends.step (fun _ k => XS.goto X146.here hx rfl (pc0 := 84) (pc' := 15) rfl (hb hby d5_84) (by decide) (by decide) k) ?_
   have LP153 : ∀ (fu153 : Nat) (t154 : Nat) (i154 : Int32) (w154 : Int64) (d154 : Int32) (T153 : State) (L153 : List Loc) (X153 : Stand p l e (rmm 5 0 0 66) s m #[.ref o0] below meth c T153 L153 0 0) (e153 : T153.heap = h0) (N153 : Fr n0 L153) (K153 : Keep h0 h0 []) (wk : eAQ Z h0 o0) (wg : fBQ Z h0 o0 (.ref t)) (wh : fAQ Z h0 o0 (.int 1)) (A_t : Arv Z h0 t k .byte (n <<< ((1 : Int32) &&& 31)) (own_L (n <<< ((1 : Int32) &&& 31)).toNatClampNeg (own_ub g)) (.int 0)) (wb : sCQ Z h0 (.int cs)) (wd : sDQ Z h0 sf) (wa : sEQ Z h0 (.int 1)) (wf : sFQ Z h0 (.int 0)) (we : sGQ Z h0 (.int 8)) (hI154 : i154.toInt = (t154 : Int)) (hR154 : (own_p (own_gl n.toNatClampNeg g) (0 : Int64)) = own_p ((own_gl n.toNatClampNeg g).drop t154) w154) (hf153 : (n.toNatClampNeg - t154) < fu153), Ends p e below QQ (T153.setTop (mkF m 15 #[rv o0, jv w154, ss, iv i154, iv d154] [])) := by
    intro fu153
    induction fu153 with
    | zero => intro t154 i154 w154 d154 T153 L153 X153 e153 N153 K153 wk wg wh A_t wb wd wa wf we hI154 hR154 hf153; exact absurd hf153 (Nat.not_lt_zero _)
    | succ fu153 ih153 =>
     intro t154 i154 w154 d154 T153 L153 X153 e153 N153 K153 wk wg wh A_t wb wd wa wf we hI154 hR154 hf153
     show Ends p e below QQ (T153.setTop (mkF m 15 #[rv o0, jv w154, ss, iv i154, iv d154] []))
     refine oC X153 hy d5_15 16 rfl (oA X153 hy d5_16 17 rfl ?_)
     refine cV X153 hy hml hown hZ hw d5_17 20 1 52 53 55 54 56 9 rfl rfl rfl rfl rfl rfl (rmln1 l Z a0 hw [] o0 t k (n <<< ((1 : Int32) &&& 31)) (own_L (n <<< ((1 : Int32) &&& 31)).toNatClampNeg (own_ub g)) cs n h0 n0 (Nat.le_trans Z0 K153.1) wk wg A_t wb hcs wh (own_hm (Int.le_of_lt hn1) hn2)) e153 pd_15 wk rfl rfl fun _ T155 Lc155 X155 hQ155 => ?_
     obtain ⟨rfl, Nq155, hh155⟩ := hQ155
     have N155 := Fr.app N153 Nq155
     refine Ends.v ?_
     by_cases hc20_156 : i154 < n
     ·refine oxi X155 hy d5_20 23 (XT.ii_ge_f hc20_156) (oA X155 hy d5_23 24 rfl (oC X155 hy d5_24 25 rfl ?_))
      refine cV X155 hy hml hown hZ hw d5_25 28 0 62 63 65 64 66 9 rfl rfl rfl rfl rfl rfl (rmch1 l Z a0 hw [] o0 i154 t cs k (n <<< ((1 : Int32) &&& 31)) (own_L (n <<< ((1 : Int32) &&& 31)).toNatClampNeg (own_ub g)) n sf (i154 <<< ((1 : Int32) &&& 31)) ((i154 <<< ((1 : Int32) &&& 31)) + (1 : Int32)) (own_ub g (i154 <<< ((1 : Int32) &&& 31)).toNatClampNeg) (own_ub g ((i154 <<< ((1 : Int32) &&& 31)) + (1 : Int32)).toNatClampNeg) (g i154.toNatClampNeg) h0 n0 (Nat.le_trans Z0 K153.1) wk wg A_t wb hcs wh (own_hm (Int.le_of_lt hn1) hn2) wd wn wa wf we (own_ib hI154 hc20_156).1 (own_ib hI154 hc20_156).2 rfl rfl (own_pi0 (own_hpc hI154 hc20_156 (Int.le_of_lt hn1) hn2)).1 (own_pi0 (own_hpc hI154 hc20_156 (Int.le_of_lt hn1) hn2)).2 (own_pi1 (own_hpc hI154 hc20_156 (Int.le_of_lt hn1) hn2)).1 (own_pi1 (own_hpc hI154 hc20_156 (Int.le_of_lt hn1) hn2)).2 (own_Lg (own_ltn (own_pi0 (own_hpc hI154 hc20_156 (Int.le_of_lt hn1) hn2)))) (own_Lg (own_ltn (own_pi1 (own_hpc hI154 hc20_156 (Int.le_of_lt hn1) hn2)))) (own_u16g hI154 hc20_156 hn2 hbd)) hh155 pd_16 wk rfl rfl fun _ T157 Lc157 X157 hQ157 => ?_
      obtain ⟨rfl, Nq157, hh157⟩ := hQ157
      have N157 := Fr.app N155 Nq157
      refine Ends.v (oH X157 hy d5_28 30 48 rfl (oL X157 hy d5_30 31 (oxo X157 hy d5_31 33 #[rv o0, jv w154, ss, iv i154, iv ((g i154.toNatClampNeg) - (48 : Int32))] rfl (oD X157 hy d5_33 35 rfl ?_))))
      by_cases hc35_158 : ((g i154.toNatClampNeg) - (48 : Int32)) < (0 : Int32)
      ·refine oxk X157 hy d5_35 45 (XT.i0_lt_t hc35_158) (oJ2 X157 hy hown hZ hw d5_45 48 (-1) 37 rfl ?_)
       exact fJ X157 hy hrt hlk hQQ d5_48 hh157 (by decide) ⟨(congrArg (fun z => some (Value.long z)) (own_ra hI154 (own_it hI154 hc20_156) (hR154 : (own_p (own_gl n.toNatClampNeg g) (0 : Int64)) = _) hc35_158).symm), N157, rfl⟩
      ·refine oxh X157 hy d5_35 38 (XT.i0_lt_f hc35_158) (oD X157 hy d5_38 40 rfl (oH X157 hy d5_40 42 9 rfl ?_))
       by_cases hc42_159 : (9 : Int32) < ((g i154.toNatClampNeg) - (48 : Int32))
       ·refine oxi X157 hy d5_42 45 (XT.ii_le_f hc42_159) (oJ2 X157 hy hown hZ hw d5_45 48 (-1) 37 rfl ?_)
        exact fJ X157 hy hrt hlk hQQ d5_48 hh157 (by decide) ⟨(congrArg (fun z => some (Value.long z)) (own_rb hI154 (own_it hI154 hc20_156) (hR154 : (own_p (own_gl n.toNatClampNeg g) (0 : Int64)) = _) hc35_158 hc42_159).symm), N157, rfl⟩
       ·refine oxl X157 hy d5_42 49 (XT.ii_le_t hc42_159) (oE X157 hy d5_49 50 rfl (oJ2 X157 hy hown hZ hw d5_50 53 9223372036854775807 135 rfl (oD X157 hy d5_53 55 rfl (oxa X157 hy d5_55 56 (oT X157 hy d5_56 57 (oJ2 X157 hy hown hZ hw d5_57 60 10 136 rfl (oW X157 hy d5_60 61 (by decide) (oY X157 hy d5_61 62 ?_))))))))
        have J80_160 : (∀ (v80_2 : Int64) (hv80_2 : v80_2 = (if (((9223372036854775807 : Int64) - ((g i154.toNatClampNeg) - (48 : Int32)).toInt64) / (10 : Int64)) < w154 then (9223372036854775807 : Int64) else ((w154 * (10 : Int64)) + ((g i154.toNatClampNeg) - (48 : Int32)).toInt64))), Ends p e below QQ (T157.setTop (mkF m 80 #[rv o0, jv w154, ss, iv i154, iv ((g i154.toNatClampNeg) - (48 : Int32))] [.long v80_2]))) → Ends p e below QQ (T157.setTop (mkF m 62 #[rv o0, jv w154, ss, iv i154, iv ((g i154.toNatClampNeg) - (48 : Int32))] [(.int (XT.cmpL w154 (((9223372036854775807 : Int64) - ((g i154.toNatClampNeg) - (48 : Int32)).toInt64) / (10 : Int64))))])) := by
         intro hJ
         by_cases hc62_161 : (((9223372036854775807 : Int64) - ((g i154.toNatClampNeg) - (48 : Int32)).toInt64) / (10 : Int64)) < w154
         ·refine oxh X157 hy d5_62 65 (XT.ll_le_f hc62_161) (oJ2 X157 hy hown hZ hw d5_65 68 9223372036854775807 135 rfl ?_)
          refine Ends.step (fun _ k => XS.goto X157.here hx rfl (pc0 := 68) (pc' := 80) rfl (hb hby d5_68) (by decide) (by decide) k) ?_
          exact hJ _ (by simp only [if_pos hc62_161])
         ·refine oxk X157 hy d5_62 71 (XT.ll_le_t hc62_161) (oE X157 hy d5_71 72 rfl (oJ2 X157 hy hown hZ hw d5_72 75 10 136 rfl (oU X157 hy d5_75 76 (oD X157 hy d5_76 78 rfl (oxa X157 hy d5_78 79 ?_)))))
          refine Ends.step (fun _ k => XT.ladd X157.here hx rfl (hb hby d5_79) rfl k) ?_
          exact hJ _ (by simp only [if_neg hc62_161])
        refine J80_160 fun v80_2 hv80_2 => ?_
        refine Ends.step (fun _ k => XT.lstoreN X157.here hx rfl (hb hby d5_80) rfl (l' := #[rv o0, jv v80_2, ss, iv i154, iv ((g i154.toNatClampNeg) - (48 : Int32))]) rfl k) ?_
        have hR162 : (own_p (own_gl n.toNatClampNeg g) (0 : Int64)) = own_p ((own_gl n.toNatClampNeg g).drop (t154 + 1)) v80_2 := own_rs hI154 (own_it hI154 hc20_156) hR154 hc35_158 hc42_159 hv80_2
        show Ends p e below QQ (T157.setTop (mkF m 81 #[rv o0, jv v80_2, ss, iv i154, iv ((g i154.toNatClampNeg) - (48 : Int32))] []))
        refine Ends.step (fun _ k => XT.iincV X157.here hx rfl (1 : Int32) (hb hby d5_81) rfl rfl (l' := #[rv o0, jv v80_2, ss, iv (i154 + (1 : Int32)), iv ((g i154.toNatClampNeg) - (48 : Int32))]) rfl k) ?_
        have hI163 := own_inc hI154 hc20_156
        show Ends p e below QQ (T157.setTop (mkF m 84 #[rv o0, jv v80_2, ss, iv (i154 + (1 : Int32)), iv ((g i154.toNatClampNeg) - (48 : Int32))] []))
        refine Ends.step (fun _ k => XS.goto X157.here hx rfl (pc0 := 84) (pc' := 15) rfl (hb hby d5_84) (by decide) (by decide) k) ?_
        exact ih153 ((t154 + 1)) ((i154 + (1 : Int32))) (v80_2) (((g i154.toNatClampNeg) - (48 : Int32))) T157 _ X157 hh157 N157 K153 wk wg wh A_t wb wd wa wf we hI163 hR162 (own_fu2 hI154 hc20_156 hf153)
     ·refine oxl X155 hy d5_20 87 (XT.ii_ge_t hc20_156) (oE X155 hy d5_87 88 rfl ?_)
      exact fJ X155 hy hrt hlk hQQ d5_88 hh155 (by decide) ⟨(congrArg (fun z => some (Value.long z)) (own_re hI154 hc20_156 hR154).symm), N155, rfl⟩
   exact LP153 (n.toNatClampNeg - (0 + 1) + 1) (0 + 1) (1 : Int32) v80_1 ((g (0 : Int32).toNatClampNeg) - (48 : Int32)) T146 _ X146 hh146 N146 (Keep.refl h0 []) wk wg wh A_t wb wd wa wf we hI152 hR151 (Nat.lt_succ_self _)
theorem own_cb {y x : Int32} (h : y.toUInt32.toUInt16.toUInt32.toInt32 = x) : 0 ≤ x.toInt ∧ x.toInt < 65536 := by
  rw [← h]; exact (c_i2c y).2
theorem own_ncv {y x : Int32} (h : y.toUInt32.toUInt16.toUInt32.toInt32 = x) : nar .char x = x := by
  rw [← h]; exact own_narc y
theorem own_dgb (h p : Int64) : 0 ≤ (fdg h p).toInt ∧ (fdg h p).toInt < 65536 := (c_i2c _).2
theorem own_nfdg (h p : Int64) : nar .char (fdg h p) = fdg h p := own_narc _
theorem own_dgle (h p : Int64) : ¬ (255 : Int32) < fdg h p := by
  have e : (255 : Int32).toInt = 255 := by decide
  rw [Int32.lt_iff_toInt_lt, e]
  unfold fdg
  have e48 : (48 : Int32).toInt = 48 := by decide
  have q := c_lrem (h / p) (10 : Int64) 10 (by decide)
  rw [lrem_mod] at q
  generalize (h / p) = x at q ⊢
  generalize x % (10 : Int64) = y at q ⊢
  have l := c_l2i y
  generalize y.toInt32 = z at l ⊢
  have z0 := Int32.toInt_lt z
  have z1 := Int32.le_toInt z
  have s := c_iadd (48 : Int32) z
  rw [e48] at s
  generalize ((48 : Int32) + z) = w at s ⊢
  have w0 := Int32.toInt_lt w
  have w1 := Int32.le_toInt w
  have c := c_i2c w
  rcases Int.lt_or_le x.toInt 0 with n | n
  · have q := q.2 n
    omega
  · have q := q.1 n
    omega
theorem own_fdg {h P : Int64} {p : Int} (hp : P.toInt = p) (h1 : P ≠ -1) (p0 : 0 < p) (h0 : 0 ≤ h.toInt) : (fdg h P - (48 : Int32)).toInt = h.toInt / p % 10 := by
  unfold fdg
  have e48 : (48 : Int32).toInt = 48 := by decide
  have d := (c_ldiv h P p hp h1).1 h0
  have d0 : 0 ≤ h.toInt / p := Int.ediv_nonneg h0 (Int.le_of_lt p0)
  have q := (c_lrem (h / P) (10 : Int64) 10 (by decide)).1 (by rw [d]; exact d0)
  rw [lrem_mod, d] at q
  generalize (h / P) % (10 : Int64) = y at q ⊢
  generalize h.toInt / p = H at q d0 ⊢
  have l := c_l2i y
  generalize y.toInt32 = z at l ⊢
  have z0 := Int32.toInt_lt z
  have z1 := Int32.le_toInt z
  have s := c_iadd (48 : Int32) z
  rw [e48] at s
  generalize ((48 : Int32) + z) = w at s ⊢
  have w0 := Int32.toInt_lt w
  have w1 := Int32.le_toInt w
  have c := c_i2c w
  generalize w.toUInt32.toUInt16.toUInt32.toInt32 = u at c ⊢
  have b := c_isub u (48 : Int32)
  rw [e48] at b
  have u0 := Int32.toInt_lt (u - (48 : Int32))
  have u1 := Int32.le_toInt (u - (48 : Int32))
  omega
theorem own_pd {x : Int32} {v : Int64} {r : List Int32} (h0 : 0 ≤ (x - (48 : Int32)).toInt) (h1 : (x - (48 : Int32)).toInt ≤ 9) : own_p (x :: r) v = own_p r (own_s v (x - (48 : Int32))) := by
  have e0 : (0 : Int32).toInt = 0 := by decide
  have e9 : (9 : Int32).toInt = 9 := by decide
  exact own_ps (by rw [Int32.lt_iff_toInt_lt, e0]; omega) (by rw [Int32.lt_iff_toInt_lt, e9]; omega) rfl
theorem own_dstep {h P v : Int64} {p q : Int} (r : List Int32) (hp : P.toInt = p) (h1 : P ≠ -1) (p0 : 0 < p) (h0 : 0 ≤ h.toInt) (hq : q = p * 10) (hv : v.toInt = h.toInt / q) : ∃ v' : Int64, v'.toInt = h.toInt / p ∧ own_p (fdg h P :: r) v = own_p r v' := by
  have f := own_fdg hp h1 p0 h0
  have d0 : 0 ≤ h.toInt / p := Int.ediv_nonneg h0 (Int.le_of_lt p0)
  have dl : h.toInt / p ≤ h.toInt := Int.ediv_le_self _ h0
  have hb := Int64.toInt_lt h
  have e : h.toInt / q = h.toInt / p / 10 := by rw [hq]; exact (Int.ediv_ediv_of_nonneg (Int.le_of_lt p0)).symm
  rw [e] at hv
  have s := own_sI (v := v) (d := fdg h P - (48 : Int32)) (by omega) (by omega) (by omega)
  refine ⟨own_s v (fdg h P - (48 : Int32)), ?_, own_pd (by omega) (by omega)⟩
  rw [s.1 (by omega)]
  omega
theorem own_19 {h : Int64} (h0 : 0 ≤ h.toInt) (r : List Int32) : own_p (fdg h (1000000000000000000 : Int64) :: fdg h (100000000000000000 : Int64) :: fdg h (10000000000000000 : Int64) :: fdg h (1000000000000000 : Int64) :: fdg h (100000000000000 : Int64) :: fdg h (10000000000000 : Int64) :: fdg h (1000000000000 : Int64) :: fdg h (100000000000 : Int64) :: fdg h (10000000000 : Int64) :: fdg h (1000000000 : Int64) :: fdg h (100000000 : Int64) :: fdg h (10000000 : Int64) :: fdg h (1000000 : Int64) :: fdg h (100000 : Int64) :: fdg h (10000 : Int64) :: fdg h (1000 : Int64) :: fdg h (100 : Int64) :: fdg h (10 : Int64) :: fdg h (1 : Int64) :: r) (0 : Int64) = own_p r h := by
  have hb := Int64.toInt_lt h
  have e0 : (0 : Int64).toInt = h.toInt / 10000000000000000000 := by
    have : (0 : Int64).toInt = 0 := by decide
    omega
  obtain ⟨v1, e1, k1⟩ := own_dstep (P := (1000000000000000000 : Int64)) (p := 1000000000000000000) (q := 10000000000000000000) (v := (0 : Int64)) (fdg h (100000000000000000 : Int64) :: fdg h (10000000000000000 : Int64) :: fdg h (1000000000000000 : Int64) :: fdg h (100000000000000 : Int64) :: fdg h (10000000000000 : Int64) :: fdg h (1000000000000 : Int64) :: fdg h (100000000000 : Int64) :: fdg h (10000000000 : Int64) :: fdg h (1000000000 : Int64) :: fdg h (100000000 : Int64) :: fdg h (10000000 : Int64) :: fdg h (1000000 : Int64) :: fdg h (100000 : Int64) :: fdg h (10000 : Int64) :: fdg h (1000 : Int64) :: fdg h (100 : Int64) :: fdg h (10 : Int64) :: fdg h (1 : Int64) :: r) (by decide) (by decide) (by decide) h0 (by decide) e0
  obtain ⟨v2, e2, k2⟩ := own_dstep (P := (100000000000000000 : Int64)) (p := 100000000000000000) (q := 1000000000000000000) (v := v1) (fdg h (10000000000000000 : Int64) :: fdg h (1000000000000000 : Int64) :: fdg h (100000000000000 : Int64) :: fdg h (10000000000000 : Int64) :: fdg h (1000000000000 : Int64) :: fdg h (100000000000 : Int64) :: fdg h (10000000000 : Int64) :: fdg h (1000000000 : Int64) :: fdg h (100000000 : Int64) :: fdg h (10000000 : Int64) :: fdg h (1000000 : Int64) :: fdg h (100000 : Int64) :: fdg h (10000 : Int64) :: fdg h (1000 : Int64) :: fdg h (100 : Int64) :: fdg h (10 : Int64) :: fdg h (1 : Int64) :: r) (by decide) (by decide) (by decide) h0 (by decide) e1
  obtain ⟨v3, e3, k3⟩ := own_dstep (P := (10000000000000000 : Int64)) (p := 10000000000000000) (q := 100000000000000000) (v := v2) (fdg h (1000000000000000 : Int64) :: fdg h (100000000000000 : Int64) :: fdg h (10000000000000 : Int64) :: fdg h (1000000000000 : Int64) :: fdg h (100000000000 : Int64) :: fdg h (10000000000 : Int64) :: fdg h (1000000000 : Int64) :: fdg h (100000000 : Int64) :: fdg h (10000000 : Int64) :: fdg h (1000000 : Int64) :: fdg h (100000 : Int64) :: fdg h (10000 : Int64) :: fdg h (1000 : Int64) :: fdg h (100 : Int64) :: fdg h (10 : Int64) :: fdg h (1 : Int64) :: r) (by decide) (by decide) (by decide) h0 (by decide) e2
  obtain ⟨v4, e4, k4⟩ := own_dstep (P := (1000000000000000 : Int64)) (p := 1000000000000000) (q := 10000000000000000) (v := v3) (fdg h (100000000000000 : Int64) :: fdg h (10000000000000 : Int64) :: fdg h (1000000000000 : Int64) :: fdg h (100000000000 : Int64) :: fdg h (10000000000 : Int64) :: fdg h (1000000000 : Int64) :: fdg h (100000000 : Int64) :: fdg h (10000000 : Int64) :: fdg h (1000000 : Int64) :: fdg h (100000 : Int64) :: fdg h (10000 : Int64) :: fdg h (1000 : Int64) :: fdg h (100 : Int64) :: fdg h (10 : Int64) :: fdg h (1 : Int64) :: r) (by decide) (by decide) (by decide) h0 (by decide) e3
  obtain ⟨v5, e5, k5⟩ := own_dstep (P := (100000000000000 : Int64)) (p := 100000000000000) (q := 1000000000000000) (v := v4) (fdg h (10000000000000 : Int64) :: fdg h (1000000000000 : Int64) :: fdg h (100000000000 : Int64) :: fdg h (10000000000 : Int64) :: fdg h (1000000000 : Int64) :: fdg h (100000000 : Int64) :: fdg h (10000000 : Int64) :: fdg h (1000000 : Int64) :: fdg h (100000 : Int64) :: fdg h (10000 : Int64) :: fdg h (1000 : Int64) :: fdg h (100 : Int64) :: fdg h (10 : Int64) :: fdg h (1 : Int64) :: r) (by decide) (by decide) (by decide) h0 (by decide) e4
  obtain ⟨v6, e6, k6⟩ := own_dstep (P := (10000000000000 : Int64)) (p := 10000000000000) (q := 100000000000000) (v := v5) (fdg h (1000000000000 : Int64) :: fdg h (100000000000 : Int64) :: fdg h (10000000000 : Int64) :: fdg h (1000000000 : Int64) :: fdg h (100000000 : Int64) :: fdg h (10000000 : Int64) :: fdg h (1000000 : Int64) :: fdg h (100000 : Int64) :: fdg h (10000 : Int64) :: fdg h (1000 : Int64) :: fdg h (100 : Int64) :: fdg h (10 : Int64) :: fdg h (1 : Int64) :: r) (by decide) (by decide) (by decide) h0 (by decide) e5
  obtain ⟨v7, e7, k7⟩ := own_dstep (P := (1000000000000 : Int64)) (p := 1000000000000) (q := 10000000000000) (v := v6) (fdg h (100000000000 : Int64) :: fdg h (10000000000 : Int64) :: fdg h (1000000000 : Int64) :: fdg h (100000000 : Int64) :: fdg h (10000000 : Int64) :: fdg h (1000000 : Int64) :: fdg h (100000 : Int64) :: fdg h (10000 : Int64) :: fdg h (1000 : Int64) :: fdg h (100 : Int64) :: fdg h (10 : Int64) :: fdg h (1 : Int64) :: r) (by decide) (by decide) (by decide) h0 (by decide) e6
  obtain ⟨v8, e8, k8⟩ := own_dstep (P := (100000000000 : Int64)) (p := 100000000000) (q := 1000000000000) (v := v7) (fdg h (10000000000 : Int64) :: fdg h (1000000000 : Int64) :: fdg h (100000000 : Int64) :: fdg h (10000000 : Int64) :: fdg h (1000000 : Int64) :: fdg h (100000 : Int64) :: fdg h (10000 : Int64) :: fdg h (1000 : Int64) :: fdg h (100 : Int64) :: fdg h (10 : Int64) :: fdg h (1 : Int64) :: r) (by decide) (by decide) (by decide) h0 (by decide) e7
  obtain ⟨v9, e9, k9⟩ := own_dstep (P := (10000000000 : Int64)) (p := 10000000000) (q := 100000000000) (v := v8) (fdg h (1000000000 : Int64) :: fdg h (100000000 : Int64) :: fdg h (10000000 : Int64) :: fdg h (1000000 : Int64) :: fdg h (100000 : Int64) :: fdg h (10000 : Int64) :: fdg h (1000 : Int64) :: fdg h (100 : Int64) :: fdg h (10 : Int64) :: fdg h (1 : Int64) :: r) (by decide) (by decide) (by decide) h0 (by decide) e8
  obtain ⟨v10, e10, k10⟩ := own_dstep (P := (1000000000 : Int64)) (p := 1000000000) (q := 10000000000) (v := v9) (fdg h (100000000 : Int64) :: fdg h (10000000 : Int64) :: fdg h (1000000 : Int64) :: fdg h (100000 : Int64) :: fdg h (10000 : Int64) :: fdg h (1000 : Int64) :: fdg h (100 : Int64) :: fdg h (10 : Int64) :: fdg h (1 : Int64) :: r) (by decide) (by decide) (by decide) h0 (by decide) e9
  obtain ⟨v11, e11, k11⟩ := own_dstep (P := (100000000 : Int64)) (p := 100000000) (q := 1000000000) (v := v10) (fdg h (10000000 : Int64) :: fdg h (1000000 : Int64) :: fdg h (100000 : Int64) :: fdg h (10000 : Int64) :: fdg h (1000 : Int64) :: fdg h (100 : Int64) :: fdg h (10 : Int64) :: fdg h (1 : Int64) :: r) (by decide) (by decide) (by decide) h0 (by decide) e10
  obtain ⟨v12, e12, k12⟩ := own_dstep (P := (10000000 : Int64)) (p := 10000000) (q := 100000000) (v := v11) (fdg h (1000000 : Int64) :: fdg h (100000 : Int64) :: fdg h (10000 : Int64) :: fdg h (1000 : Int64) :: fdg h (100 : Int64) :: fdg h (10 : Int64) :: fdg h (1 : Int64) :: r) (by decide) (by decide) (by decide) h0 (by decide) e11
  obtain ⟨v13, e13, k13⟩ := own_dstep (P := (1000000 : Int64)) (p := 1000000) (q := 10000000) (v := v12) (fdg h (100000 : Int64) :: fdg h (10000 : Int64) :: fdg h (1000 : Int64) :: fdg h (100 : Int64) :: fdg h (10 : Int64) :: fdg h (1 : Int64) :: r) (by decide) (by decide) (by decide) h0 (by decide) e12
  obtain ⟨v14, e14, k14⟩ := own_dstep (P := (100000 : Int64)) (p := 100000) (q := 1000000) (v := v13) (fdg h (10000 : Int64) :: fdg h (1000 : Int64) :: fdg h (100 : Int64) :: fdg h (10 : Int64) :: fdg h (1 : Int64) :: r) (by decide) (by decide) (by decide) h0 (by decide) e13
  obtain ⟨v15, e15, k15⟩ := own_dstep (P := (10000 : Int64)) (p := 10000) (q := 100000) (v := v14) (fdg h (1000 : Int64) :: fdg h (100 : Int64) :: fdg h (10 : Int64) :: fdg h (1 : Int64) :: r) (by decide) (by decide) (by decide) h0 (by decide) e14
  obtain ⟨v16, e16, k16⟩ := own_dstep (P := (1000 : Int64)) (p := 1000) (q := 10000) (v := v15) (fdg h (100 : Int64) :: fdg h (10 : Int64) :: fdg h (1 : Int64) :: r) (by decide) (by decide) (by decide) h0 (by decide) e15
  obtain ⟨v17, e17, k17⟩ := own_dstep (P := (100 : Int64)) (p := 100) (q := 1000) (v := v16) (fdg h (10 : Int64) :: fdg h (1 : Int64) :: r) (by decide) (by decide) (by decide) h0 (by decide) e16
  obtain ⟨v18, e18, k18⟩ := own_dstep (P := (10 : Int64)) (p := 10) (q := 100) (v := v17) (fdg h (1 : Int64) :: r) (by decide) (by decide) (by decide) h0 (by decide) e17
  obtain ⟨v19, e19, k19⟩ := own_dstep (P := (1 : Int64)) (p := 1) (q := 10) (v := v18) ( r) (by decide) (by decide) (by decide) h0 (by decide) e18
  have e : v19 = h := Int64.toInt_inj.mp (by omega)
  rw [k1, k2, k3, k4, k5, k6, k7, k8, k9, k10, k11, k12, k13, k14, k15, k16, k17, k18, k19, e]
theorem own_m3 {p : Int32} (h0 : ¬ (p &&& (3 : Int32)) = (0 : Int32)) (h1 : ¬ (p &&& (3 : Int32)) = (1 : Int32)) (h2 : ¬ (p &&& (3 : Int32)) = (2 : Int32)) (h3 : ¬ (p &&& (3 : Int32)) = (3 : Int32)) : False := by
  have c := c_mask p 3 2 (by decide) (by decide)
  have q0 : ¬ (p &&& 3).toInt = (0 : Int32).toInt := fun q => h0 (Int32.toInt_inj.mp q)
  have q1 : ¬ (p &&& 3).toInt = (1 : Int32).toInt := fun q => h1 (Int32.toInt_inj.mp q)
  have q2 : ¬ (p &&& 3).toInt = (2 : Int32).toInt := fun q => h2 (Int32.toInt_inj.mp q)
  have q3 : ¬ (p &&& 3).toInt = (3 : Int32).toInt := fun q => h3 (Int32.toInt_inj.mp q)
  have e0 : (0 : Int32).toInt = 0 := by decide
  have e1 : (1 : Int32).toInt = 1 := by decide
  have e2 : (2 : Int32).toInt = 2 := by decide
  have e3 : (3 : Int32).toInt = 3 := by decide
  omega
theorem own_h0 {v h : Int64} (hv : (v &&& (9223372036854775807 : Int64)) = h) : 0 ≤ h.toInt := by
  rw [← hv, c_maskL v (9223372036854775807 : Int64) 63 (by decide) (by decide)]
  omega
theorem own_isd {x : Int32} (b : 0 ≤ x.toInt ∧ x.toInt < 65536) : (x - (48 : Int32)).toInt = x.toInt - 48 ∧ (fisd x = (0 : Int32) → x.toInt < 48 ∨ 57 < x.toInt) ∧ (¬ fisd x = (0 : Int32) → 48 ≤ x.toInt ∧ x.toInt ≤ 57) := by
  have e48 : (48 : Int32).toInt = 48 := by decide
  have e57 : (57 : Int32).toInt = 57 := by decide
  have s := c_isub x (48 : Int32)
  rw [e48] at s
  have u0 := Int32.toInt_lt (x - (48 : Int32))
  have u1 := Int32.le_toInt (x - (48 : Int32))
  refine ⟨by omega, ?_⟩
  unfold fisd fisd_v17_1
  by_cases h1 : x < (48 : Int32)
  · rw [if_pos h1]
    rw [Int32.lt_iff_toInt_lt, e48] at h1
    exact ⟨fun _ => Or.inl h1, fun q => absurd rfl q⟩
  · rw [if_neg h1]
    by_cases h2 : (57 : Int32) < x
    · rw [if_pos h2]
      rw [Int32.lt_iff_toInt_lt, e57] at h2
      exact ⟨fun _ => Or.inr h2, fun q => absurd rfl q⟩
    · rw [if_neg h2]
      rw [Int32.lt_iff_toInt_lt, e48] at h1
      rw [Int32.lt_iff_toInt_lt, e57] at h2
      exact ⟨fun q => absurd q (by decide), fun _ => by omega⟩
theorem own_isd0 {x : Int32} {v : Int64} {r : List Int32} (b : 0 ≤ x.toInt ∧ x.toInt < 65536) (h : fisd x = (0 : Int32)) : own_p (x :: r) v = (-1 : Int64) := by
  have q := own_isd b
  have e0 : (0 : Int32).toInt = 0 := by decide
  have e9 : (9 : Int32).toInt = 9 := by decide
  rcases q.2.1 h with k | k
  · exact own_pa (by rw [Int32.lt_iff_toInt_lt, e0]; omega)
  · exact own_pb (by rw [Int32.lt_iff_toInt_lt, e0]; omega) (by rw [Int32.lt_iff_toInt_lt, e9]; omega)
theorem own_isd1 {x : Int32} {v : Int64} {r : List Int32} (b : 0 ≤ x.toInt ∧ x.toInt < 65536) (h : ¬ fisd x = (0 : Int32)) : own_p (x :: r) v = own_p r (own_s v (x - (48 : Int32))) := by
  have q := own_isd b
  have k := q.2.2 h
  exact own_pd (by omega) (by omega)
theorem own_sh0 (a b c : Int32) : (-1 : Int64) = fse (0 : Int32) a b c := by
  unfold fse
  rw [if_pos rfl]
theorem own_sh1 (a b c : Int32) (ba : 0 ≤ a.toInt ∧ a.toInt < 65536) : own_p [a] (0 : Int64) = fse (1 : Int32) a b c := by
  unfold fse
  rw [if_neg (by decide)]
  have z0 : (0 : Int64).toInt = 0 := by decide
  by_cases h : fisd a = (0 : Int32)
  · rw [if_pos h]; exact own_isd0 ba h
  · rw [if_neg h, if_pos rfl, own_isd1 ba h]
    have qa := own_isd ba
    have ka := qa.2.2 h
    have s := own_sI (v := (0 : Int64)) (d := a - (48 : Int32)) (by omega) (by omega) (by omega)
    show own_s (0 : Int64) (a - (48 : Int32)) = _
    apply Int64.toInt_inj.mp
    rw [c_i2l, s.1 (by omega)]
    omega
theorem own_sh2 (a b c : Int32) (ba : 0 ≤ a.toInt ∧ a.toInt < 65536) (bb : 0 ≤ b.toInt ∧ b.toInt < 65536) : own_p [a, b] (0 : Int64) = fse (2 : Int32) a b c := by
  unfold fse
  rw [if_neg (by decide)]
  have z0 : (0 : Int64).toInt = 0 := by decide
  have e10 : (10 : Int64).toInt = 10 := by decide
  by_cases h : fisd a = (0 : Int32)
  · rw [if_pos h]; exact own_isd0 ba h
  · rw [if_neg h, if_neg (by decide), own_isd1 ba h]
    by_cases h2 : fisd b = (0 : Int32)
    · rw [if_pos h2]; exact own_isd0 bb h2
    · rw [if_neg h2, if_pos rfl, own_isd1 bb h2]
      have qa := own_isd ba
      have ka := qa.2.2 h
      have qb := own_isd bb
      have kb := qb.2.2 h2
      have s := own_sI (v := (0 : Int64)) (d := a - (48 : Int32)) (by omega) (by omega) (by omega)
      have s1 := s.1 (by omega)
      have t := own_sI (v := own_s (0 : Int64) (a - (48 : Int32))) (d := b - (48 : Int32)) (by omega) (by omega) (by omega)
      have t1 := t.1 (by omega)
      show own_s (own_s (0 : Int64) (a - (48 : Int32))) (b - (48 : Int32)) = _
      apply Int64.toInt_inj.mp
      rw [t1]
      have m := c_lmul (a - (48 : Int32)).toInt64 (10 : Int64)
      have ad := c_ladd ((a - (48 : Int32)).toInt64 * (10 : Int64)) (b - (48 : Int32)).toInt64
      rw [c_i2l, e10] at m
      rw [c_i2l] at ad
      have y0 := Int64.toInt_lt ((a - (48 : Int32)).toInt64 * (10 : Int64))
      have y1 := Int64.le_toInt ((a - (48 : Int32)).toInt64 * (10 : Int64))
      have y2 := Int64.toInt_lt (((a - (48 : Int32)).toInt64 * (10 : Int64)) + (b - (48 : Int32)).toInt64)
      have y3 := Int64.le_toInt (((a - (48 : Int32)).toInt64 * (10 : Int64)) + (b - (48 : Int32)).toInt64)
      omega
theorem own_T {a b c : Int32} (ka : 48 ≤ a.toInt ∧ a.toInt ≤ 57) (kb : 48 ≤ b.toInt ∧ b.toInt ≤ 57) (kc : 48 ≤ c.toInt ∧ c.toInt ≤ 57) (qa : (a - (48 : Int32)).toInt = a.toInt - 48) (qb : (b - (48 : Int32)).toInt = b.toInt - 48) (qc : (c - (48 : Int32)).toInt = c.toInt - 48) : ((((a - (48 : Int32)).toInt64 * (100 : Int64)) + ((b - (48 : Int32)).toInt64 * (10 : Int64))) + (c - (48 : Int32)).toInt64).toInt = (a.toInt - 48) * 100 + (b.toInt - 48) * 10 + (c.toInt - 48) := by
  have e10 : (10 : Int64).toInt = 10 := by decide
  have e100 : (100 : Int64).toInt = 100 := by decide
  have ia := c_i2l (a - (48 : Int32))
  have ib := c_i2l (b - (48 : Int32))
  have ic := c_i2l (c - (48 : Int32))
  generalize (a - (48 : Int32)).toInt64 = A at ia ⊢
  generalize (b - (48 : Int32)).toInt64 = B at ib ⊢
  generalize (c - (48 : Int32)).toInt64 = D at ic ⊢
  have m1 := c_lmul A (100 : Int64)
  have m2 := c_lmul B (10 : Int64)
  rw [e100] at m1
  rw [e10] at m2
  generalize A * (100 : Int64) = x at m1 ⊢
  generalize B * (10 : Int64) = y at m2 ⊢
  have x0 := Int64.toInt_lt x
  have x1 := Int64.le_toInt x
  have y0 := Int64.toInt_lt y
  have y1 := Int64.le_toInt y
  have a1 := c_ladd x y
  generalize x + y = z at a1 ⊢
  have z0 := Int64.toInt_lt z
  have z1 := Int64.le_toInt z
  have a2 := c_ladd z D
  have w0 := Int64.toInt_lt (z + D)
  have w1 := Int64.le_toInt (z + D)
  omega
theorem own_3 {h : Int64} {a b c : Int32} (h0 : 0 ≤ h.toInt) (ba : 0 ≤ a.toInt ∧ a.toInt < 65536) (bb : 0 ≤ b.toInt ∧ b.toInt < 65536) (bc : 0 ≤ c.toInt ∧ c.toInt < 65536) (d0 : ¬ fisd a = (0 : Int32)) (d1 : ¬ fisd b = (0 : Int32)) (d2 : ¬ fisd c = (0 : Int32)) :
    ((h.toInt * 1000 + ((a.toInt - 48) * 100 + (b.toInt - 48) * 10 + (c.toInt - 48)) ≤ 9223372036854775807 → (own_p [a, b, c] h).toInt = h.toInt * 1000 + ((a.toInt - 48) * 100 + (b.toInt - 48) * 10 + (c.toInt - 48))) ∧ (9223372036854775807 < h.toInt * 1000 + ((a.toInt - 48) * 100 + (b.toInt - 48) * 10 + (c.toInt - 48)) → (own_p [a, b, c] h).toInt = 9223372036854775807)) ∧ ((((a - (48 : Int32)).toInt64 * (100 : Int64)) + ((b - (48 : Int32)).toInt64 * (10 : Int64))) + (c - (48 : Int32)).toInt64).toInt = (a.toInt - 48) * 100 + (b.toInt - 48) * 10 + (c.toInt - 48) ∧ 48 ≤ a.toInt ∧ a.toInt ≤ 57 ∧ 48 ≤ b.toInt ∧ b.toInt ≤ 57 ∧ 48 ≤ c.toInt ∧ c.toInt ≤ 57 := by
  have qa := own_isd ba
  have qb := own_isd bb
  have qc := own_isd bc
  have ka := qa.2.2 d0
  have kb := qb.2.2 d1
  have kc := qc.2.2 d2
  rw [own_isd1 ba d0, own_isd1 bb d1, own_isd1 bc d2]
  have s1 := own_sI (v := h) (d := a - (48 : Int32)) h0 (by omega) (by omega)
  generalize own_s h (a - (48 : Int32)) = u at s1 ⊢
  have u0 : 0 ≤ u.toInt := by omega
  have s2 := own_sI (v := u) (d := b - (48 : Int32)) u0 (by omega) (by omega)
  generalize own_s u (b - (48 : Int32)) = w at s2 ⊢
  have w0 : 0 ≤ w.toInt := by omega
  have s3 := own_sI (v := w) (d := c - (48 : Int32)) w0 (by omega) (by omega)
  refine ⟨?_, own_T ka kb kc qa.1 qb.1 qc.1, ka.1, ka.2, kb.1, kb.2, kc.1, kc.2⟩
  show (_ → (own_s w (c - (48 : Int32))).toInt = _) ∧ (_ → (own_s w (c - (48 : Int32))).toInt = _)
  generalize own_s w (c - (48 : Int32)) = y at s3 ⊢
  constructor
  · intro k; omega
  · intro k; omega
theorem own_sh3 (a b c : Int32) (ba : 0 ≤ a.toInt ∧ a.toInt < 65536) (bb : 0 ≤ b.toInt ∧ b.toInt < 65536) (bc : 0 ≤ c.toInt ∧ c.toInt < 65536) : own_p [a, b, c] (0 : Int64) = fse (3 : Int32) a b c := by
  unfold fse
  rw [if_neg (by decide)]
  have z0 : (0 : Int64).toInt = 0 := by decide
  by_cases h : fisd a = (0 : Int32)
  · rw [if_pos h]; exact own_isd0 ba h
  · rw [if_neg h, if_neg (by decide)]
    by_cases h2 : fisd b = (0 : Int32)
    · rw [if_pos h2, own_isd1 ba h]; exact own_isd0 bb h2
    · rw [if_neg h2, if_neg (by decide)]
      by_cases h3 : fisd c = (0 : Int32)
      · rw [if_pos h3, own_isd1 ba h, own_isd1 bb h2]; exact own_isd0 bc h3
      · rw [if_neg h3]
        have q := own_3 (h := (0 : Int64)) (by omega) ba bb bc h h2 h3
        apply Int64.toInt_inj.mp
        rw [q.2.1, q.1.1 (by omega)]
        omega
theorem own_lg0 {h : Int64} {a b c : Int32} (h0 : 0 ≤ h.toInt) (ba : 0 ≤ a.toInt ∧ a.toInt < 65536) (bb : 0 ≤ b.toInt ∧ b.toInt < 65536) (bc : 0 ≤ c.toInt ∧ c.toInt < 65536) (d0 : fisd a = (0 : Int32)) : own_p [(fdg h (1000000000000000000 : Int64)), (fdg h (100000000000000000 : Int64)), (fdg h (10000000000000000 : Int64)), (fdg h (1000000000000000 : Int64)), (fdg h (100000000000000 : Int64)), (fdg h (10000000000000 : Int64)), (fdg h (1000000000000 : Int64)), (fdg h (100000000000 : Int64)), (fdg h (10000000000 : Int64)), (fdg h (1000000000 : Int64)), (fdg h (100000000 : Int64)), (fdg h (10000000 : Int64)), (fdg h (1000000 : Int64)), (fdg h (100000 : Int64)), (fdg h (10000 : Int64)), (fdg h (1000 : Int64)), (fdg h (100 : Int64)), (fdg h (10 : Int64)), (fdg h (1 : Int64)), a, b, c] (0 : Int64) = (-1 : Int64) :=
  (own_19 h0 [a, b, c]).trans (own_isd0 ba d0)
theorem own_lg1 {h : Int64} {a b c : Int32} (h0 : 0 ≤ h.toInt) (ba : 0 ≤ a.toInt ∧ a.toInt < 65536) (bb : 0 ≤ b.toInt ∧ b.toInt < 65536) (bc : 0 ≤ c.toInt ∧ c.toInt < 65536) (d0 : ¬ fisd a = (0 : Int32)) (d1 : fisd b = (0 : Int32)) : own_p [(fdg h (1000000000000000000 : Int64)), (fdg h (100000000000000000 : Int64)), (fdg h (10000000000000000 : Int64)), (fdg h (1000000000000000 : Int64)), (fdg h (100000000000000 : Int64)), (fdg h (10000000000000 : Int64)), (fdg h (1000000000000 : Int64)), (fdg h (100000000000 : Int64)), (fdg h (10000000000 : Int64)), (fdg h (1000000000 : Int64)), (fdg h (100000000 : Int64)), (fdg h (10000000 : Int64)), (fdg h (1000000 : Int64)), (fdg h (100000 : Int64)), (fdg h (10000 : Int64)), (fdg h (1000 : Int64)), (fdg h (100 : Int64)), (fdg h (10 : Int64)), (fdg h (1 : Int64)), a, b, c] (0 : Int64) = (-1 : Int64) :=
  (own_19 h0 [a, b, c]).trans ((own_isd1 ba d0).trans (own_isd0 bb d1))
theorem own_lg2 {h : Int64} {a b c : Int32} (h0 : 0 ≤ h.toInt) (ba : 0 ≤ a.toInt ∧ a.toInt < 65536) (bb : 0 ≤ b.toInt ∧ b.toInt < 65536) (bc : 0 ≤ c.toInt ∧ c.toInt < 65536) (d0 : ¬ fisd a = (0 : Int32)) (d1 : ¬ fisd b = (0 : Int32)) (d2 : fisd c = (0 : Int32)) : own_p [(fdg h (1000000000000000000 : Int64)), (fdg h (100000000000000000 : Int64)), (fdg h (10000000000000000 : Int64)), (fdg h (1000000000000000 : Int64)), (fdg h (100000000000000 : Int64)), (fdg h (10000000000000 : Int64)), (fdg h (1000000000000 : Int64)), (fdg h (100000000000 : Int64)), (fdg h (10000000000 : Int64)), (fdg h (1000000000 : Int64)), (fdg h (100000000 : Int64)), (fdg h (10000000 : Int64)), (fdg h (1000000 : Int64)), (fdg h (100000 : Int64)), (fdg h (10000 : Int64)), (fdg h (1000 : Int64)), (fdg h (100 : Int64)), (fdg h (10 : Int64)), (fdg h (1 : Int64)), a, b, c] (0 : Int64) = (-1 : Int64) :=
  (own_19 h0 [a, b, c]).trans ((own_isd1 ba d0).trans ((own_isd1 bb d1).trans (own_isd0 bc d2)))
theorem own_lg3 {h : Int64} {a b c : Int32} (h0 : 0 ≤ h.toInt) (ba : 0 ≤ a.toInt ∧ a.toInt < 65536) (bb : 0 ≤ b.toInt ∧ b.toInt < 65536) (bc : 0 ≤ c.toInt ∧ c.toInt < 65536) (d0 : ¬ fisd a = (0 : Int32)) (d1 : ¬ fisd b = (0 : Int32)) (d2 : ¬ fisd c = (0 : Int32)) :
    own_p [(fdg h (1000000000000000000 : Int64)), (fdg h (100000000000000000 : Int64)), (fdg h (10000000000000000 : Int64)), (fdg h (1000000000000000 : Int64)), (fdg h (100000000000000 : Int64)), (fdg h (10000000000000 : Int64)), (fdg h (1000000000000 : Int64)), (fdg h (100000000000 : Int64)), (fdg h (10000000000 : Int64)), (fdg h (1000000000 : Int64)), (fdg h (100000000 : Int64)), (fdg h (10000000 : Int64)), (fdg h (1000000 : Int64)), (fdg h (100000 : Int64)), (fdg h (10000 : Int64)), (fdg h (1000 : Int64)), (fdg h (100 : Int64)), (fdg h (10 : Int64)), (fdg h (1 : Int64)), a, b, c] (0 : Int64) = (if h < (9223372036854775 : Int64) then ((h * (1000 : Int64)) + ((((a - (48 : Int32)).toInt64 * (100 : Int64)) + ((b - (48 : Int32)).toInt64 * (10 : Int64))) + (c - (48 : Int32)).toInt64)) else (if h = (9223372036854775 : Int64) then (if (807 : Int64) < ((((a - (48 : Int32)).toInt64 * (100 : Int64)) + ((b - (48 : Int32)).toInt64 * (10 : Int64))) + (c - (48 : Int32)).toInt64) then (9223372036854775807 : Int64) else ((h * (1000 : Int64)) + ((((a - (48 : Int32)).toInt64 * (100 : Int64)) + ((b - (48 : Int32)).toInt64 * (10 : Int64))) + (c - (48 : Int32)).toInt64))) else (9223372036854775807 : Int64))) := by
  refine (own_19 h0 [a, b, c]).trans ?_
  have q := own_3 h0 ba bb bc d0 d1 d2
  generalize ((((a - (48 : Int32)).toInt64 * (100 : Int64)) + ((b - (48 : Int32)).toInt64 * (10 : Int64))) + (c - (48 : Int32)).toInt64) = t at q ⊢
  generalize own_p [a, b, c] h = y at q ⊢
  obtain ⟨⟨q1, q2⟩, qt, k⟩ := q
  have hb := Int64.toInt_lt h
  have eC : (9223372036854775 : Int64).toInt = 9223372036854775 := by decide
  have eM : (9223372036854775807 : Int64).toInt = 9223372036854775807 := by decide
  have eT : (1000 : Int64).toInt = 1000 := by decide
  have e8 : (807 : Int64).toInt = 807 := by decide
  have m := c_lmul h (1000 : Int64)
  rw [eT] at m
  generalize h * (1000 : Int64) = w at m ⊢
  have w0 := Int64.toInt_lt w
  have w1 := Int64.le_toInt w
  have s := c_ladd w t
  have s0 := Int64.toInt_lt (w + t)
  have s1 := Int64.le_toInt (w + t)
  apply Int64.toInt_inj.mp
  by_cases c1 : h < (9223372036854775 : Int64)
  · rw [if_pos c1]
    rw [Int64.lt_iff_toInt_lt, eC] at c1
    have := q1 (by omega)
    omega
  · rw [if_neg c1]
    rw [Int64.lt_iff_toInt_lt, eC] at c1
    by_cases c2 : h = (9223372036854775 : Int64)
    · rw [if_pos c2]
      have c3 : h.toInt = 9223372036854775 := by rw [c2]; exact eC
      by_cases c4 : (807 : Int64) < t
      · rw [if_pos c4, eM]
        rw [Int64.lt_iff_toInt_lt, e8] at c4
        exact q2 (by omega)
      · rw [if_neg c4]
        rw [Int64.lt_iff_toInt_lt, e8] at c4
        have := q1 (by omega)
        omega
    · rw [if_neg c2, eM]
      have c3 : ¬ h.toInt = 9223372036854775 := fun z => c2 (Int64.toInt_inj.mp (z.trans eC.symm))
      exact q2 (by omega)
def Q0 (Z : State) (p0 p1 p2 p3 : Int32) (q4 : Int64) (cs : Int32) (sf : Value) (h0 : Heap) (n0 : Nat) : QT := fun v h L => (v = some (.int 1)) ∧ (Fr n0 L) ∧ (Keep h0 h [])
theorem rm0 (l : Launch) (Z : State) (a0 : Array Value) (hw : TW a0 Z) (ws : List Jvm.Cond) (p0 p1 p2 p3 : Int32) (q4 : Int64) (cs : Int32) (sf : Value) (h0 : Heap) (n0 : Nat) (Z0 : n0 ≤ h0.size) (wb : sCQ Z h0 (.int cs)) (hcs : ¬ cs = (0 : Int32)) (wd : sDQ Z h0 sf) (wn : sf.isRef = true) (wa : sEQ Z h0 (.int 1)) (wf : sFQ Z h0 (.int 0)) (we : sGQ Z h0 (.int 8)) (vb : Jvm.Lit.constHeld Z "java/lang/String" 7) (hcw : Jvm.Lit.compactW.before a0 Z = true) (hkp : ∀ (b : Addr) (cl : Cell), Z.heap[b]? = some cl → h0[b]? = some cl) (hn0 : n0 = Array.size h0) :
  MetFree l x (head1 (Jvm.Cond.code x code maxLocals ret :: ws) room_1) (fun a U => a = #[.int p0, .int p1, .int p2, .int p3, .long q4] ∧ Z.Warmed39 U.vm ∧ U.heap = h0 ∧ U = Z) (fun _ _ _ _ _ => True) (fun _ U o U' => ∃ v L, o = .returned v ∧ Q0 Z p0 p1 p2 p3 q4 cs sf h0 n0 v U'.heap L ∧ ReturnedEndW U o U' L room_1.cells room_1.slots) := by
 refine MetFree.of_bodySF (plainFor_of_name pn_0) hisR ?_
 intro p e s m args below meth c s₁ Bd hml0 hP hK
 obtain ⟨rfl, hZ, hh, hUZ⟩ := hP
 have hx := Bd.exec
 have hby := Bd.bytes
 have hy := And.intro hx hby
 have hml : c.maxLocals = 16 := hml0
 have hown : s.vm.findClass "com/example/hiscore/hiscore/WholeNumberParsePinLaw" = some m.cls := findClass_of_methodNamed Bd.named
 have hnm := (name_of_methodNamed Bd.named Bd.method).1
 have X0 : Stand p l e room_1 (s.setVm s.vm) m #[.int p0, .int p1, .int p2, .int p3, .long q4] below meth c s₁ [] 0 0 := Stand.of_body Bd
 have e0 : s₁.heap = h0 := by rw [← hh, Bd.state]; rfl
 have N0 := Fr.nil n0
 have hS : s.Since s.vm 0 := (State.WarmedH.refl s).since 0
 have hk : 0 ≤ Array.size h0 := Nat.zero_le _
 have hkeep : ∀ (b : Addr) (cl : Cell), Z.heap[b]? = some cl → s.heap[b]? = some cl := by rw [hUZ]; exact fun _ _ q => q
 have IBf : IB Z s.vm [] := by rw [hUZ]; exact IB.start
 have hnz : n0 = Z.heap.size := by rw [hn0, ← hh, hUZ]
 refine Ends.opn ?_
 intro QQ hQQ
 refine Ends.i #[iv p0, iv p1, iv p2, iv p3, jv q4, ss, uu, uu, uu, uu, uu, uu, uu, uu, uu, uu] (oC X0 hy at_0 1 rfl ?_)
 refine Ends.step (fun _ k => X0.ldcI hx hown (mvT hZ (tb hw 0 rfl)) (g := (mkF m 1 #[iv p0, iv p1, iv p2, iv p3, jv q4, ss, uu, uu, uu, uu, uu, uu, uu, uu, uu, uu] [.int p1])) rfl (hb hby at_1) k) ?_
 show Ends p e below QQ (s₁.setTop (mkF m 3 #[iv p0, iv p1, iv p2, iv p3, jv q4, ss, uu, uu, uu, uu, uu, uu, uu, uu, uu, uu] [.int 65535, .int p1]))
 refine oN X0 hy at_3 4 (oxc X0 hy at_4 5 (oxo X0 hy at_5 7 #[iv p0, iv p1, iv p2, iv p3, jv q4, ss, iv (p1 &&& (65535 : Int32)).toUInt32.toUInt16.toUInt32.toInt32, uu, uu, uu, uu, uu, uu, uu, uu, uu] rfl ?_))
 show Ends p e below QQ (s₁.setTop (mkF m 7 #[iv p0, iv p1, iv p2, iv p3, jv q4, ss, iv (p1 &&& (65535 : Int32)).toUInt32.toUInt16.toUInt32.toInt32, uu, uu, uu, uu, uu, uu, uu, uu, uu] []))
 generalize hv6_1 : (p1 &&& (65535 : Int32)).toUInt32.toUInt16.toUInt32.toInt32 = x6_1
 refine oC X0 hy at_7 8 rfl ?_
 refine Ends.step (fun _ k => X0.ldcI hx hown (mvT hZ (tb hw 0 rfl)) (g := (mkF m 8 #[iv p0, iv p1, iv p2, iv p3, jv q4, ss, iv x6_1, uu, uu, uu, uu, uu, uu, uu, uu, uu] [.int p2])) rfl (hb hby at_8) k) ?_
 show Ends p e below QQ (s₁.setTop (mkF m 10 #[iv p0, iv p1, iv p2, iv p3, jv q4, ss, iv x6_1, uu, uu, uu, uu, uu, uu, uu, uu, uu] [.int 65535, .int p2]))
 refine oN X0 hy at_10 11 (oxc X0 hy at_11 12 (oxo X0 hy at_12 14 #[iv p0, iv p1, iv p2, iv p3, jv q4, ss, iv x6_1, iv (p2 &&& (65535 : Int32)).toUInt32.toUInt16.toUInt32.toInt32, uu, uu, uu, uu, uu, uu, uu, uu] rfl ?_))
 show Ends p e below QQ (s₁.setTop (mkF m 14 #[iv p0, iv p1, iv p2, iv p3, jv q4, ss, iv x6_1, iv (p2 &&& (65535 : Int32)).toUInt32.toUInt16.toUInt32.toInt32, uu, uu, uu, uu, uu, uu, uu, uu] []))
 generalize hv7_2 : (p2 &&& (65535 : Int32)).toUInt32.toUInt16.toUInt32.toInt32 = x7_2
 refine oC X0 hy at_14 15 rfl ?_
 refine Ends.step (fun _ k => X0.ldcI hx hown (mvT hZ (tb hw 0 rfl)) (g := (mkF m 15 #[iv p0, iv p1, iv p2, iv p3, jv q4, ss, iv x6_1, iv x7_2, uu, uu, uu, uu, uu, uu, uu, uu] [.int p3])) rfl (hb hby at_15) k) ?_
 show Ends p e below QQ (s₁.setTop (mkF m 17 #[iv p0, iv p1, iv p2, iv p3, jv q4, ss, iv x6_1, iv x7_2, uu, uu, uu, uu, uu, uu, uu, uu] [.int 65535, .int p3]))
 refine oN X0 hy at_17 18 (oxc X0 hy at_18 19 (oxo X0 hy at_19 21 #[iv p0, iv p1, iv p2, iv p3, jv q4, ss, iv x6_1, iv x7_2, iv (p3 &&& (65535 : Int32)).toUInt32.toUInt16.toUInt32.toInt32, uu, uu, uu, uu, uu, uu, uu] rfl ?_))
 show Ends p e below QQ (s₁.setTop (mkF m 21 #[iv p0, iv p1, iv p2, iv p3, jv q4, ss, iv x6_1, iv x7_2, iv (p3 &&& (65535 : Int32)).toUInt32.toUInt16.toUInt32.toInt32, uu, uu, uu, uu, uu, uu, uu] []))
 generalize hv8_3 : (p3 &&& (65535 : Int32)).toUInt32.toUInt16.toUInt32.toInt32 = x8_3
 refine oC X0 hy at_21 22 rfl (oG X0 hy at_22 23 4 rfl (oN X0 hy at_23 24 ?_))
 by_cases hc24_164 : (p0 &&& (4 : Int32)) = (0 : Int32)
 ·refine oxh X0 hy at_24 27 (XT.i0_ne_f hc24_164) (oC X0 hy at_27 28 rfl (oG X0 hy at_28 29 3 rfl (oN X0 hy at_29 30 ?_)))
  refine Ends.step (fun _ k => XS.istore X0.here hx rfl (hb hby at_30) rfl (l' := #[iv p0, iv p1, iv p2, iv p3, jv q4, ss, iv x6_1, iv x7_2, iv x8_3, iv (p0 &&& (3 : Int32)), uu, uu, uu, uu, uu, uu]) rfl k) ?_
  by_cases hs32_165 : (p0 &&& (3 : Int32)) = (0 : Int32)
  ·show Ends p e below QQ (s₁.setTop (mkF m 32 #[iv p0, iv p1, iv p2, iv p3, jv q4, ss, iv x6_1, iv x7_2, iv x8_3, iv (p0 &&& (3 : Int32)), uu, uu, uu, uu, uu, uu] []))
   rw [hs32_165]
   show Ends p e below QQ (s₁.setTop (mkF m 32 #[iv p0, iv p1, iv p2, iv p3, jv q4, ss, iv x6_1, iv x7_2, iv x8_3, iv 0, uu, uu, uu, uu, uu, uu] []))
   refine oD X0 hy at_32 34 rfl ?_
   obtain ⟨T166, h166, k166, X166, e166, E166, A166, Y166, st166⟩ := newPE X0 hx hZ (tb hw 1 rfl) e0 (g := (mkF m 34 #[iv p0, iv p1, iv p2, iv p3, jv q4, ss, iv x6_1, iv x7_2, iv x8_3, iv 0, uu, uu, uu, uu, uu, uu] [.int 0])) rfl (hb hby at_34) rfl (by decide) (cap := 0) (by decide) (by decide) (by decide) (by decide) (ad := "[C") (by decide)
   obtain ⟨b166, g166⟩ : ∃ z, z = h0.size := ⟨_, rfl⟩
   rw [← g166] at A166 Y166 st166
   have g_b166 : n0 ≤ b166 := Nat.le_trans Z0 (Nat.le_trans (Keep.refl h0 []).1 (Nat.le_of_eq g166.symm))
   have hkp := fun b cl q => E166.2 _ _ (hkp b cl q)
   have hk := Nat.le_trans hk E166.1
   have K166 := (Keep.refl h0 []).ext E166
   have vQ : Arv Z h166 b166 k166 .char 0 [] (.int 0) := Arv.new A166 (by decide)
   refine Ends.j 36 [.ref b166] st166 ?_
   refine oxs X166 hy at_36 38 #[iv p0, iv p1, iv p2, iv p3, jv q4, ss, iv x6_1, iv x7_2, iv x8_3, iv 0, rv b166, uu, uu, uu, uu, uu] rfl (oD X166 hy at_38 40 rfl (oxk X166 hy at_40 49 (XT.i0_le_t (by decide)) (oD X166 hy at_49 51 rfl (oG X166 hy at_51 52 1 rfl (oxl X166 hy at_52 61 (XT.ii_le_t (by decide)) (oD X166 hy at_61 63 rfl (oG X166 hy at_63 64 2 rfl (oxl X166 hy at_64 73 (XT.ii_le_t (by decide)) (oD X166 hy at_73 75 rfl ?_)))))))))
   refine oD X166 hy at_75 77 rfl (oD X166 hy at_77 79 rfl (oD X166 hy at_79 81 rfl ?_))
   refine cS X166 hy hml hown hZ hw at_81 84 0 2 3 4 5 rfl rfl rfl rfl (rmse l Z a0 hw [] (0 : Int32) x6_1 x7_2 x8_3 h166 n0 (Nat.le_trans Z0 K166.1)) e166 pd_17 rfl rfl fun _ T167 Lc167 X167 hQ167 => ?_
   obtain ⟨rfl, Nq167, hh167⟩ := hQ167
   have N167 := Fr.app N0 Nq167
   refine Ends.v (oxq X167 hy at_84 86 #[iv p0, iv p1, iv p2, iv p3, jv q4, ss, iv x6_1, iv x7_2, iv x8_3, iv 0, rv b166, jv (fse (0 : Int32) x6_1 x7_2 x8_3), ss, uu, uu, uu] rfl ?_)
   obtain ⟨T168, h168, X168, e168, E168, A168, D168, U168, st168⟩ := newO X167 hx hZ hown (tb hw 7 rfl) (tb hw 8 rfl) (tb hw 9 rfl) hh167 (g := (mkF m 86 #[iv p0, iv p1, iv p2, iv p3, jv q4, ss, iv x6_1, iv x7_2, iv x8_3, iv 0, rv b166, jv (fse (0 : Int32) x6_1 x7_2 x8_3), ss, uu, uu, uu] [])) rfl (hb hby at_86) (by decide) (by decide)
   obtain ⟨b168, g168⟩ : ∃ z, z = h166.size := ⟨_, rfl⟩
   rw [← g168] at A168 D168 U168 st168
   have jk : n0 ≤ b168 := Nat.le_trans Z0 (Nat.le_trans K166.1 (Nat.le_of_eq g168.symm))
   have ku : h0.size ≤ b168 := Nat.le_trans K166.1 (Nat.le_of_eq g168.symm)
   have hkp := fun b cl q => E168.2 _ _ (hkp b cl q)
   have hk := Nat.le_trans hk E168.1
   have vQ := vQ.ext E168
   have K168 := K166.ext E168
   have vP := A168
   have vi : fBQ Z h168 b168 .null := D168 (Or.inr (tb hw 22 rfl)) (ty := (.array .byte)) (by decide)
   have vN : fAQ Z h168 b168 (.int 0) := D168 (Or.inr (tb hw 23 rfl)) (ty := .byte) (by decide)
   refine Ends.j 89 [.ref b168] st168 ?_
   refine oxd X168 hy at_89 90 rfl (oB X168 hy at_90 92 rfl ?_)
   obtain ⟨_, _, ⟨T169, L169, k169, n169⟩, -, X169, hS169, hgr169, ⟨Lc169, hQ169, l169, y169, z169⟩, st169⟩ := X168.specialBackS hx (y := mN1) rfl hown (mvT hZ (tb hw 10 rfl)) (mvT hZ (tb hw 11 rfl)) (mvT hZ (tb hw 12 rfl)) (by decide) (own_backI (W := 1) (rmsc0 l Z a0 hw [] b168 b166 (0 : Int32) k166 h168 n0 (Nat.le_trans Z0 K168.1) vP vi vN jk vQ vb hcw hkp) hZ (tb hw 12 rfl) (tb hw 9 rfl) (by decide) (by decide) IBf) (g := (mkF m 92 #[iv p0, iv p1, iv p2, iv p3, jv q4, ss, iv x6_1, iv x7_2, iv x8_3, iv 0, rv b166, jv (fse (0 : Int32) x6_1 x7_2 x8_3), ss, uu, uu, uu] [.ref b166, .ref b168, .ref b168])) rfl (by rw [hml]; rfl) (Steps.refl _) (a := b168) (argsL := [.ref b166]) (rest := [.ref b168]) (lenOf pd_18 rfl) rfl (by show 2 * 0 + _ ≤ _; exact Nat.le_of_eq rfl) (hb hby at_92) (fun _ _ => ⟨rfl, e168, (by decide : 2 + 2 ≤ _), (by decide : 4 + 4 ≤ _)⟩)
   dsimp only [Pt.U, Pt.locs, Pt.cells, Pt.slots] at hS169 hgr169
   have hZo := hZ
   have hZ := State.Warmed39.trans hZo hS169.1
   have hown := (hS169.1.alike.findClass _ _).trans hown
   have hSn169 := State.Since.trans hS hS169 (Nat.le_trans hk (by rw [← e168]; exact hgr169))
   dsimp only [Pt.U, Pt.locs, Pt.cells, Pt.slots] at X169 l169 y169 z169 st169 hQ169
   subst l169 y169 z169
   obtain ⟨b_169, k2_169, rfl, Nq169, Kq169, vP, vi, fq169_2, jb⟩ := hQ169
   have N169 := Fr.app N167 Nq169
   have K169 := K168.trans Kq169 (allS (Or.inr ku) all0)
   refine Ends.step (fun _ k => st169.trans k) ?_
   have hS := hSn169
   have hk := Nat.le_refl (Array.size T169.heap)
   show Ends p e below QQ (T169.setTop (mkF m 95 #[iv p0, iv p1, iv p2, iv p3, jv q4, ss, iv x6_1, iv x7_2, iv x8_3, iv 0, rv b166, jv (fse (0 : Int32) x6_1 x7_2 x8_3), ss, uu, uu, uu] [.ref b168]))
   refine cS X169 hy hml hown hZ hw at_95 98 0 28 29 30 31 rfl rfl rfl rfl (rmpa0 l Z a0 hw [] b168 b_169 k2_169 T169.heap n0 (Nat.le_trans Z0 K169.1) vP vi jb) rfl pd_19 rfl rfl fun _ T170 Lc170 X170 hQ170 => ?_
   obtain ⟨rfl, Nq170, hh170⟩ := hQ170
   have N170 := Fr.app N169 Nq170
   refine Ends.v (oF X170 hy at_98 100 rfl (oY X170 hy at_100 101 ?_))
   have hc101 : (-1 : Int64) = (fse (0 : Int32) x6_1 x7_2 x8_3) := (own_sh0 x6_1 x7_2 x8_3)
   refine oxh X170 hy at_101 104 (XT.ll_ne_f hc101) (oG X170 hy at_104 105 1 rfl (oxm X170 hy at_105 109 ?_))
   exact Ends.finW (some (.int 1)) X170 hS hk hQQ (fun h => by rw [Bd.returns] at h; cases h) Bd.notSynchronized (fun _ hr => retOut X170 hx (t := .boolean) Bd.returns rfl (Or.inl ⟨rfl, (by simp), _, rfl⟩) (hb hby at_109) hr) hh170 (by decide) (by decide) ⟨rfl, N170, K169⟩
  ·show Ends p e below QQ (s₁.setTop (mkF m 32 #[iv p0, iv p1, iv p2, iv p3, jv q4, ss, iv x6_1, iv x7_2, iv x8_3, iv (p0 &&& (3 : Int32)), uu, uu, uu, uu, uu, uu] []))
   by_cases hs32_171 : (p0 &&& (3 : Int32)) = (1 : Int32)
   ·rw [hs32_171]
    show Ends p e below QQ (s₁.setTop (mkF m 32 #[iv p0, iv p1, iv p2, iv p3, jv q4, ss, iv x6_1, iv x7_2, iv x8_3, iv 1, uu, uu, uu, uu, uu, uu] []))
    refine oD X0 hy at_32 34 rfl ?_
    obtain ⟨T172, h172, k172, X172, e172, E172, A172, Y172, st172⟩ := newPE X0 hx hZ (tb hw 1 rfl) e0 (g := (mkF m 34 #[iv p0, iv p1, iv p2, iv p3, jv q4, ss, iv x6_1, iv x7_2, iv x8_3, iv 1, uu, uu, uu, uu, uu, uu] [.int 1])) rfl (hb hby at_34) rfl (by decide) (cap := 1) (by decide) (by decide) (by decide) (by decide) (ad := "[C") (by decide)
    obtain ⟨b172, g172⟩ : ∃ z, z = h0.size := ⟨_, rfl⟩
    rw [← g172] at A172 Y172 st172
    have jj : n0 ≤ b172 := Nat.le_trans Z0 (Nat.le_trans (Keep.refl h0 []).1 (Nat.le_of_eq g172.symm))
    have kt : h0.size ≤ b172 := Nat.le_trans (Keep.refl h0 []).1 (Nat.le_of_eq g172.symm)
    have wb := wb.ext E172
    have wd := wd.ext E172
    have wa := wa.ext E172
    have wf := wf.ext E172
    have we := we.ext E172
    have hk := Nat.le_trans hk E172.1
    have K172 := (Keep.refl h0 []).ext E172
    have vO := Y172
    have va : Arv Z h172 b172 k172 .char 1 [.int 0] (.int 0) := (Arv.new A172 (by decide)).pad (pad_rep [] (.int 0) 1)
    refine Ends.j 36 [.ref b172] st172 ?_
    refine oxs X172 hy at_36 38 #[iv p0, iv p1, iv p2, iv p3, jv q4, ss, iv x6_1, iv x7_2, iv x8_3, iv 1, rv b172, uu, uu, uu, uu, uu] rfl (oD X172 hy at_38 40 rfl (oxh X172 hy at_40 43 (XT.i0_le_f (by decide)) (oB X172 hy at_43 45 rfl (oG X172 hy at_45 46 0 rfl (oD X172 hy at_46 48 rfl ?_)))))
    refine aSC X172 hy hZ e172 va at_48 49 ⟨by decide, by decide⟩ fun T174 h174 X174 e174 W174 => ?_
    rw [(own_ncv hv6_1)] at W174
    have wb := wb.wr W174
    have wd := wd.wr W174
    have wa := wa.wr W174
    have wf := wf.wr W174
    have we := we.wr W174
    have hk := Nat.le_trans hk (Nat.le_of_eq W174.size.symm)
    have vO := vO.wr W174
    have va : Arv Z h174 b172 k172 .char 1 [.int x6_1] (.int 0) := As va (own_fitc (own_ncv hv6_1)) W174 0 rfl (Nat.le_of_ble_eq_true rfl)
    have K174 := K172.wr W174 (Or.inr kt)
    have N174 := Fr.snoc X174 N0 jj
    refine oD X174 hy at_49 51 rfl (oG X174 hy at_51 52 1 rfl (oxl X174 hy at_52 61 (XT.ii_le_t (by decide)) (oD X174 hy at_61 63 rfl (oG X174 hy at_63 64 2 rfl ?_))))
    refine Ends.step (fun _ k => XS.icmpYes X174.here hx rfl (pc0 := 64) (pc' := 73) rfl (hb hby at_64) rfl (XT.ii_le_t (by decide)) (by decide) (by decide) k) ?_
    have va : Arv Z h174 b172 k172 .char 1 (own_L (1 : Int32).toNatClampNeg (own_lit [x6_1])) (.int 0) := by rw [own_cv1]; exact va
    show Ends p e below QQ (T174.setTop (mkF m 73 #[iv p0, iv p1, iv p2, iv p3, jv q4, ss, iv x6_1, iv x7_2, iv x8_3, iv 1, rv b172, uu, uu, uu, uu, uu] []))
    refine oD X174 hy at_73 75 rfl (oD X174 hy at_75 77 rfl (oD X174 hy at_77 79 rfl (oD X174 hy at_79 81 rfl ?_)))
    refine cS X174 hy hml hown hZ hw at_81 84 0 2 3 4 5 rfl rfl rfl rfl (rmse l Z a0 hw [] (1 : Int32) x6_1 x7_2 x8_3 h174 n0 (Nat.le_trans Z0 K174.1)) e174 pd_17 rfl rfl fun _ T175 Lc175 X175 hQ175 => ?_
    obtain ⟨rfl, Nq175, hh175⟩ := hQ175
    have N175 := Fr.app N174 Nq175
    refine Ends.v (oxq X175 hy at_84 86 #[iv p0, iv p1, iv p2, iv p3, jv q4, ss, iv x6_1, iv x7_2, iv x8_3, iv 1, rv b172, jv (fse (1 : Int32) x6_1 x7_2 x8_3), ss, uu, uu, uu] rfl ?_)
    obtain ⟨T176, h176, X176, e176, E176, A176, D176, U176, st176⟩ := newO X175 hx hZ hown (tb hw 7 rfl) (tb hw 8 rfl) (tb hw 9 rfl) hh175 (g := (mkF m 86 #[iv p0, iv p1, iv p2, iv p3, jv q4, ss, iv x6_1, iv x7_2, iv x8_3, iv 1, rv b172, jv (fse (1 : Int32) x6_1 x7_2 x8_3), ss, uu, uu, uu] [])) rfl (hb hby at_86) (by decide) (by decide)
    obtain ⟨b176, g176⟩ : ∃ z, z = h174.size := ⟨_, rfl⟩
    rw [← g176] at A176 D176 U176 st176
    have vp : b172 ≠ b176 := Nat.ne_of_lt (Nat.lt_of_lt_of_le vO.lt (Nat.le_of_eq g176.symm))
    have ki : n0 ≤ b176 := Nat.le_trans Z0 (Nat.le_trans K174.1 (Nat.le_of_eq g176.symm))
    have vT : h0.size ≤ b176 := Nat.le_trans K174.1 (Nat.le_of_eq g176.symm)
    have wb := wb.ext E176
    have wd := wd.ext E176
    have wa := wa.ext E176
    have wf := wf.ext E176
    have we := we.ext E176
    have hk := Nat.le_trans hk E176.1
    have va := va.ext E176
    have K176 := K174.ext E176
    have wQ := A176
    have wO : fBQ Z h176 b176 .null := D176 (Or.inr (tb hw 22 rfl)) (ty := (.array .byte)) (by decide)
    have wP : fAQ Z h176 b176 (.int 0) := D176 (Or.inr (tb hw 23 rfl)) (ty := .byte) (by decide)
    refine Ends.j 89 [.ref b176] st176 ?_
    refine Ends.step (fun _ k => XS.dup X176.here hx rfl (hb hby at_89) rfl rfl k) ?_
    by_cases hs90_177 : (255 : Int32) < x6_1
    ·show Ends p e below QQ (T176.setTop (mkF m 90 #[iv p0, iv p1, iv p2, iv p3, jv q4, ss, iv x6_1, iv x7_2, iv x8_3, iv 1, rv b172, jv (fse (1 : Int32) x6_1 x7_2 x8_3), ss, uu, uu, uu] [.ref b176, .ref b176]))
     refine oB X176 hy at_90 92 rfl ?_
     refine cI X176 hy hml hown hZ hw at_92 95 1 10 11 12 9 rfl rfl rfl rfl rfl (rmscU l Z a0 hw [] b176 b172 (.null : Value) (0 : Int32) k172 cs (own_lit [x6_1]) 0 (1 : Int32) h176 n0 (Nat.le_trans Z0 K176.1) wQ wO wP ki (Ne.symm vp) va (by decide) (by decide) (own_lbd (List.forall_mem_cons.mpr ⟨(own_cb hv6_1), (fun x hx => nomatch hx)⟩)) (own_lpre (pre := []) (post := [x6_1]) (P := fun z => ¬ (255 : Int32) < z) (fun x hx => nomatch hx)) hs90_177 (by decide) wa wf we wb hcs) e176 pd_18 rfl rfl fun _ T178 Lc178 X178 hQ178 => ?_
     obtain ⟨b_178, k2_178, rfl, Nq178, Kq178, fq178_0, g_b_178, fq178_2, wO, wP, fq178_5, ja⟩ := hQ178
     have N178 := Fr.app N175 Nq178
     have wb := own_sta_keep wb Kq178 (allS wQ.cell all0)
     have wd := own_sta_keep wd Kq178 (allS wQ.cell all0)
     have wa := own_sta_keep wa Kq178 (allS wQ.cell all0)
     have wf := own_sta_keep wf Kq178 (allS wQ.cell all0)
     have we := own_sta_keep we Kq178 (allS wQ.cell all0)
     have hk := Nat.le_trans hk Kq178.1
     have wQ := fq178_2
     have K178 := K176.trans Kq178 (allS (Or.inr vT) all0)
     refine Ends.u ?_
     refine cS X178 hy hml hown hZ hw at_95 98 0 28 29 30 31 rfl rfl rfl rfl (rmpaU l Z a0 hw [] b176 b_178 k2_178 cs sf (1 : Int32) (own_lit [x6_1]) T178.heap n0 (Nat.le_trans Z0 K178.1) wQ wO wP ja wb hcs wd wn (by decide) (by decide) (own_lbd (List.forall_mem_cons.mpr ⟨(own_cb hv6_1), (fun x hx => nomatch hx)⟩)) wa wf we) rfl pd_19 rfl rfl fun _ T179 Lc179 X179 hQ179 => ?_
     obtain ⟨rfl, Nq179, hh179⟩ := hQ179
     have N179 := Fr.app N178 Nq179
     refine Ends.v (oF X179 hy at_98 100 rfl (oY X179 hy at_100 101 ?_))
     have hc101 : (own_p (own_gl (1 : Int32).toNatClampNeg (own_lit [x6_1])) (0 : Int64)) = (fse (1 : Int32) x6_1 x7_2 x8_3) := (own_sh1 x6_1 x7_2 x8_3 (own_cb hv6_1))
     refine oxh X179 hy at_101 104 (XT.ll_ne_f hc101) (oG X179 hy at_104 105 1 rfl (oxm X179 hy at_105 109 ?_))
     exact Ends.finW (some (.int 1)) X179 hS hk hQQ (fun h => by rw [Bd.returns] at h; cases h) Bd.notSynchronized (fun _ hr => retOut X179 hx (t := .boolean) Bd.returns rfl (Or.inl ⟨rfl, (by simp), _, rfl⟩) (hb hby at_109) hr) hh179 (by decide) (by decide) ⟨rfl, N179, K178⟩
    ·show Ends p e below QQ (T176.setTop (mkF m 90 #[iv p0, iv p1, iv p2, iv p3, jv q4, ss, iv x6_1, iv x7_2, iv x8_3, iv 1, rv b172, jv (fse (1 : Int32) x6_1 x7_2 x8_3), ss, uu, uu, uu] [.ref b176, .ref b176]))
     refine oB X176 hy at_90 92 rfl ?_
     refine cI X176 hy hml hown hZ hw at_92 95 1 10 11 12 9 rfl rfl rfl rfl rfl (rmscL l Z a0 hw [] b176 b172 (.null : Value) (0 : Int32) k172 cs (own_lit [x6_1]) (1 : Int32) h176 n0 (Nat.le_trans Z0 K176.1) wQ wO wP ki (Ne.symm vp) va (by decide) (by decide) (own_lpre (pre := [x6_1]) (post := []) (P := fun z => ¬ (255 : Int32) < z) (List.forall_mem_cons.mpr ⟨hs90_177, (fun x hx => nomatch hx)⟩)) wb hcs) e176 pd_18 rfl rfl fun _ T180 Lc180 X180 hQ180 => ?_
     obtain ⟨b_180, k2_180, rfl, Nq180, Kq180, fq180_0, g_b_180, fq180_2, wO, wP, fq180_5, kZ⟩ := hQ180
     have N180 := Fr.app N175 Nq180
     have wb := own_sta_keep wb Kq180 (allS wQ.cell all0)
     have wd := own_sta_keep wd Kq180 (allS wQ.cell all0)
     have hk := Nat.le_trans hk Kq180.1
     have wQ := fq180_2
     have K180 := K176.trans Kq180 (allS (Or.inr vT) all0)
     refine Ends.u ?_
     refine cS X180 hy hml hown hZ hw at_95 98 0 28 29 30 31 rfl rfl rfl rfl (rmpaL l Z a0 hw [] b176 b_180 k2_180 cs sf (1 : Int32) (own_lit [x6_1]) T180.heap n0 (Nat.le_trans Z0 K180.1) wQ wO wP kZ wb hcs wd wn (by decide) (by decide) (own_lbd (List.forall_mem_cons.mpr ⟨(own_cb hv6_1), (fun x hx => nomatch hx)⟩)) (own_lpre (pre := [x6_1]) (post := []) (P := fun z => ¬ (255 : Int32) < z) (List.forall_mem_cons.mpr ⟨hs90_177, (fun x hx => nomatch hx)⟩))) rfl pd_19 rfl rfl fun _ T181 Lc181 X181 hQ181 => ?_
     obtain ⟨rfl, Nq181, hh181⟩ := hQ181
     have N181 := Fr.app N180 Nq181
     refine Ends.v (oF X181 hy at_98 100 rfl (oY X181 hy at_100 101 ?_))
     have hc101 : (own_p (own_gl (1 : Int32).toNatClampNeg (own_lit [x6_1])) (0 : Int64)) = (fse (1 : Int32) x6_1 x7_2 x8_3) := (own_sh1 x6_1 x7_2 x8_3 (own_cb hv6_1))
     refine oxh X181 hy at_101 104 (XT.ll_ne_f hc101) (oG X181 hy at_104 105 1 rfl (oxm X181 hy at_105 109 ?_))
     exact Ends.finW (some (.int 1)) X181 hS hk hQQ (fun h => by rw [Bd.returns] at h; cases h) Bd.notSynchronized (fun _ hr => retOut X181 hx (t := .boolean) Bd.returns rfl (Or.inl ⟨rfl, (by simp), _, rfl⟩) (hb hby at_109) hr) hh181 (by decide) (by decide) ⟨rfl, N181, K180⟩
   ·by_cases hs32_182 : (p0 &&& (3 : Int32)) = (2 : Int32)
    ·rw [hs32_182]
     show Ends p e below QQ (s₁.setTop (mkF m 32 #[iv p0, iv p1, iv p2, iv p3, jv q4, ss, iv x6_1, iv x7_2, iv x8_3, iv 2, uu, uu, uu, uu, uu, uu] []))
     refine oD X0 hy at_32 34 rfl ?_
     obtain ⟨T183, h183, k183, X183, e183, E183, A183, Y183, st183⟩ := newPE X0 hx hZ (tb hw 1 rfl) e0 (g := (mkF m 34 #[iv p0, iv p1, iv p2, iv p3, jv q4, ss, iv x6_1, iv x7_2, iv x8_3, iv 2, uu, uu, uu, uu, uu, uu] [.int 2])) rfl (hb hby at_34) rfl (by decide) (cap := 2) (by decide) (by decide) (by decide) (by decide) (ad := "[C") (by decide)
     obtain ⟨b183, g183⟩ : ∃ z, z = h0.size := ⟨_, rfl⟩
     rw [← g183] at A183 Y183 st183
     have kh : n0 ≤ b183 := Nat.le_trans Z0 (Nat.le_trans (Keep.refl h0 []).1 (Nat.le_of_eq g183.symm))
     have vS : h0.size ≤ b183 := Nat.le_trans (Keep.refl h0 []).1 (Nat.le_of_eq g183.symm)
     have wb := wb.ext E183
     have wd := wd.ext E183
     have wa := wa.ext E183
     have wf := wf.ext E183
     have we := we.ext E183
     have hk := Nat.le_trans hk E183.1
     have K183 := (Keep.refl h0 []).ext E183
     have vr := Y183
     have wR : Arv Z h183 b183 k183 .char 2 [.int 0, .int 0] (.int 0) := (Arv.new A183 (by decide)).pad (pad_rep [] (.int 0) 2)
     refine Ends.j 36 [.ref b183] st183 ?_
     refine oxs X183 hy at_36 38 #[iv p0, iv p1, iv p2, iv p3, jv q4, ss, iv x6_1, iv x7_2, iv x8_3, iv 2, rv b183, uu, uu, uu, uu, uu] rfl (oD X183 hy at_38 40 rfl (oxh X183 hy at_40 43 (XT.i0_le_f (by decide)) (oB X183 hy at_43 45 rfl (oG X183 hy at_45 46 0 rfl (oD X183 hy at_46 48 rfl ?_)))))
     refine aSC X183 hy hZ e183 wR at_48 49 ⟨by decide, by decide⟩ fun T185 h185 X185 e185 W185 => ?_
     rw [(own_ncv hv6_1)] at W185
     have wb := wb.wr W185
     have wd := wd.wr W185
     have wa := wa.wr W185
     have wf := wf.wr W185
     have we := we.wr W185
     have hk := Nat.le_trans hk (Nat.le_of_eq W185.size.symm)
     have vr := vr.wr W185
     have wR : Arv Z h185 b183 k183 .char 2 [.int x6_1, .int 0] (.int 0) := As wR (own_fitc (own_ncv hv6_1)) W185 0 rfl (Nat.le_of_ble_eq_true rfl)
     have K185 := K183.wr W185 (Or.inr vS)
     have N185 := Fr.snoc X185 N0 kh
     refine oD X185 hy at_49 51 rfl (oG X185 hy at_51 52 1 rfl (oxi X185 hy at_52 55 (XT.ii_le_f (by decide)) (oB X185 hy at_55 57 rfl (oG X185 hy at_57 58 1 rfl (oD X185 hy at_58 60 rfl ?_)))))
     refine aSC X185 hy hZ e185 wR at_60 61 ⟨by decide, by decide⟩ fun T187 h187 X187 e187 W187 => ?_
     rw [(own_ncv hv7_2)] at W187
     have wb := wb.wr W187
     have wd := wd.wr W187
     have wa := wa.wr W187
     have wf := wf.wr W187
     have we := we.wr W187
     have hk := Nat.le_trans hk (Nat.le_of_eq W187.size.symm)
     have vr := vr.wr W187
     have wR : Arv Z h187 b183 k183 .char 2 [.int x6_1, .int x7_2] (.int 0) := As wR (own_fitc (own_ncv hv7_2)) W187 1 rfl (Nat.le_of_ble_eq_true rfl)
     have K187 := K185.wr W187 (Or.inr vS)
     have N187 := Fr.snoc X187 N185 kh
     refine oD X187 hy at_61 63 rfl (oG X187 hy at_63 64 2 rfl ?_)
     refine Ends.step (fun _ k => XS.icmpYes X187.here hx rfl (pc0 := 64) (pc' := 73) rfl (hb hby at_64) rfl (XT.ii_le_t (by decide)) (by decide) (by decide) k) ?_
     have wR : Arv Z h187 b183 k183 .char 2 (own_L (2 : Int32).toNatClampNeg (own_lit [x6_1, x7_2])) (.int 0) := by rw [own_cv2]; exact wR
     show Ends p e below QQ (T187.setTop (mkF m 73 #[iv p0, iv p1, iv p2, iv p3, jv q4, ss, iv x6_1, iv x7_2, iv x8_3, iv 2, rv b183, uu, uu, uu, uu, uu] []))
     refine oD X187 hy at_73 75 rfl (oD X187 hy at_75 77 rfl (oD X187 hy at_77 79 rfl (oD X187 hy at_79 81 rfl ?_)))
     refine cS X187 hy hml hown hZ hw at_81 84 0 2 3 4 5 rfl rfl rfl rfl (rmse l Z a0 hw [] (2 : Int32) x6_1 x7_2 x8_3 h187 n0 (Nat.le_trans Z0 K187.1)) e187 pd_17 rfl rfl fun _ T188 Lc188 X188 hQ188 => ?_
     obtain ⟨rfl, Nq188, hh188⟩ := hQ188
     have N188 := Fr.app N187 Nq188
     refine Ends.v (oxq X188 hy at_84 86 #[iv p0, iv p1, iv p2, iv p3, jv q4, ss, iv x6_1, iv x7_2, iv x8_3, iv 2, rv b183, jv (fse (2 : Int32) x6_1 x7_2 x8_3), ss, uu, uu, uu] rfl ?_)
     obtain ⟨T189, h189, X189, e189, E189, A189, D189, U189, st189⟩ := newO X188 hx hZ hown (tb hw 7 rfl) (tb hw 8 rfl) (tb hw 9 rfl) hh188 (g := (mkF m 86 #[iv p0, iv p1, iv p2, iv p3, jv q4, ss, iv x6_1, iv x7_2, iv x8_3, iv 2, rv b183, jv (fse (2 : Int32) x6_1 x7_2 x8_3), ss, uu, uu, uu] [])) rfl (hb hby at_86) (by decide) (by decide)
     obtain ⟨b189, g189⟩ : ∃ z, z = h187.size := ⟨_, rfl⟩
     rw [← g189] at A189 D189 U189 st189
     have vh : b183 ≠ b189 := Nat.ne_of_lt (Nat.lt_of_lt_of_le vr.lt (Nat.le_of_eq g189.symm))
     have vM : n0 ≤ b189 := Nat.le_trans Z0 (Nat.le_trans K187.1 (Nat.le_of_eq g189.symm))
     have vI : h0.size ≤ b189 := Nat.le_trans K187.1 (Nat.le_of_eq g189.symm)
     have wb := wb.ext E189
     have wd := wd.ext E189
     have wa := wa.ext E189
     have wf := wf.ext E189
     have we := we.ext E189
     have hk := Nat.le_trans hk E189.1
     have wR := wR.ext E189
     have K189 := K187.ext E189
     have wI := A189
     have wK : fBQ Z h189 b189 .null := D189 (Or.inr (tb hw 22 rfl)) (ty := (.array .byte)) (by decide)
     have wL : fAQ Z h189 b189 (.int 0) := D189 (Or.inr (tb hw 23 rfl)) (ty := .byte) (by decide)
     refine Ends.j 89 [.ref b189] st189 ?_
     refine Ends.step (fun _ k => XS.dup X189.here hx rfl (hb hby at_89) rfl rfl k) ?_
     by_cases hs90_190 : (255 : Int32) < x6_1
     ·show Ends p e below QQ (T189.setTop (mkF m 90 #[iv p0, iv p1, iv p2, iv p3, jv q4, ss, iv x6_1, iv x7_2, iv x8_3, iv 2, rv b183, jv (fse (2 : Int32) x6_1 x7_2 x8_3), ss, uu, uu, uu] [.ref b189, .ref b189]))
      refine oB X189 hy at_90 92 rfl ?_
      refine cI X189 hy hml hown hZ hw at_92 95 1 10 11 12 9 rfl rfl rfl rfl rfl (rmscU l Z a0 hw [] b189 b183 (.null : Value) (0 : Int32) k183 cs (own_lit [x6_1, x7_2]) 0 (2 : Int32) h189 n0 (Nat.le_trans Z0 K189.1) wI wK wL vM (Ne.symm vh) wR (by decide) (by decide) (own_lbd (List.forall_mem_cons.mpr ⟨(own_cb hv6_1), (List.forall_mem_cons.mpr ⟨(own_cb hv7_2), (fun x hx => nomatch hx)⟩)⟩)) (own_lpre (pre := []) (post := [x6_1, x7_2]) (P := fun z => ¬ (255 : Int32) < z) (fun x hx => nomatch hx)) hs90_190 (by decide) wa wf we wb hcs) e189 pd_18 rfl rfl fun _ T191 Lc191 X191 hQ191 => ?_
      obtain ⟨b_191, k2_191, rfl, Nq191, Kq191, fq191_0, g_b_191, fq191_2, wK, wL, fq191_5, kY⟩ := hQ191
      have N191 := Fr.app N188 Nq191
      have wb := own_sta_keep wb Kq191 (allS wI.cell all0)
      have wd := own_sta_keep wd Kq191 (allS wI.cell all0)
      have wa := own_sta_keep wa Kq191 (allS wI.cell all0)
      have wf := own_sta_keep wf Kq191 (allS wI.cell all0)
      have we := own_sta_keep we Kq191 (allS wI.cell all0)
      have hk := Nat.le_trans hk Kq191.1
      have wI := fq191_2
      have K191 := K189.trans Kq191 (allS (Or.inr vI) all0)
      refine Ends.u ?_
      refine cS X191 hy hml hown hZ hw at_95 98 0 28 29 30 31 rfl rfl rfl rfl (rmpaU l Z a0 hw [] b189 b_191 k2_191 cs sf (2 : Int32) (own_lit [x6_1, x7_2]) T191.heap n0 (Nat.le_trans Z0 K191.1) wI wK wL kY wb hcs wd wn (by decide) (by decide) (own_lbd (List.forall_mem_cons.mpr ⟨(own_cb hv6_1), (List.forall_mem_cons.mpr ⟨(own_cb hv7_2), (fun x hx => nomatch hx)⟩)⟩)) wa wf we) rfl pd_19 rfl rfl fun _ T192 Lc192 X192 hQ192 => ?_
      obtain ⟨rfl, Nq192, hh192⟩ := hQ192
      have N192 := Fr.app N191 Nq192
      refine Ends.v (oF X192 hy at_98 100 rfl (oY X192 hy at_100 101 ?_))
      have hc101 : (own_p (own_gl (2 : Int32).toNatClampNeg (own_lit [x6_1, x7_2])) (0 : Int64)) = (fse (2 : Int32) x6_1 x7_2 x8_3) := (own_sh2 x6_1 x7_2 x8_3 (own_cb hv6_1) (own_cb hv7_2))
      refine oxh X192 hy at_101 104 (XT.ll_ne_f hc101) (oG X192 hy at_104 105 1 rfl (oxm X192 hy at_105 109 ?_))
      exact Ends.finW (some (.int 1)) X192 hS hk hQQ (fun h => by rw [Bd.returns] at h; cases h) Bd.notSynchronized (fun _ hr => retOut X192 hx (t := .boolean) Bd.returns rfl (Or.inl ⟨rfl, (by simp), _, rfl⟩) (hb hby at_109) hr) hh192 (by decide) (by decide) ⟨rfl, N192, K191⟩
     ·show Ends p e below QQ (T189.setTop (mkF m 90 #[iv p0, iv p1, iv p2, iv p3, jv q4, ss, iv x6_1, iv x7_2, iv x8_3, iv 2, rv b183, jv (fse (2 : Int32) x6_1 x7_2 x8_3), ss, uu, uu, uu] [.ref b189, .ref b189]))
      by_cases hs90_193 : (255 : Int32) < x7_2
      ·refine oB X189 hy at_90 92 rfl ?_
       refine cI X189 hy hml hown hZ hw at_92 95 1 10 11 12 9 rfl rfl rfl rfl rfl (rmscU l Z a0 hw [] b189 b183 (.null : Value) (0 : Int32) k183 cs (own_lit [x6_1, x7_2]) 1 (2 : Int32) h189 n0 (Nat.le_trans Z0 K189.1) wI wK wL vM (Ne.symm vh) wR (by decide) (by decide) (own_lbd (List.forall_mem_cons.mpr ⟨(own_cb hv6_1), (List.forall_mem_cons.mpr ⟨(own_cb hv7_2), (fun x hx => nomatch hx)⟩)⟩)) (own_lpre (pre := [x6_1]) (post := [x7_2]) (P := fun z => ¬ (255 : Int32) < z) (List.forall_mem_cons.mpr ⟨hs90_190, (fun x hx => nomatch hx)⟩)) hs90_193 (by decide) wa wf we wb hcs) e189 pd_18 rfl rfl fun _ T194 Lc194 X194 hQ194 => ?_
       obtain ⟨b_194, k2_194, rfl, Nq194, Kq194, fq194_0, g_b_194, fq194_2, wK, wL, fq194_5, kX⟩ := hQ194
       have N194 := Fr.app N188 Nq194
       have wb := own_sta_keep wb Kq194 (allS wI.cell all0)
       have wd := own_sta_keep wd Kq194 (allS wI.cell all0)
       have wa := own_sta_keep wa Kq194 (allS wI.cell all0)
       have wf := own_sta_keep wf Kq194 (allS wI.cell all0)
       have we := own_sta_keep we Kq194 (allS wI.cell all0)
       have hk := Nat.le_trans hk Kq194.1
       have wI := fq194_2
       have K194 := K189.trans Kq194 (allS (Or.inr vI) all0)
       refine Ends.u ?_
       refine cS X194 hy hml hown hZ hw at_95 98 0 28 29 30 31 rfl rfl rfl rfl (rmpaU l Z a0 hw [] b189 b_194 k2_194 cs sf (2 : Int32) (own_lit [x6_1, x7_2]) T194.heap n0 (Nat.le_trans Z0 K194.1) wI wK wL kX wb hcs wd wn (by decide) (by decide) (own_lbd (List.forall_mem_cons.mpr ⟨(own_cb hv6_1), (List.forall_mem_cons.mpr ⟨(own_cb hv7_2), (fun x hx => nomatch hx)⟩)⟩)) wa wf we) rfl pd_19 rfl rfl fun _ T195 Lc195 X195 hQ195 => ?_
       obtain ⟨rfl, Nq195, hh195⟩ := hQ195
       have N195 := Fr.app N194 Nq195
       refine Ends.v (oF X195 hy at_98 100 rfl (oY X195 hy at_100 101 ?_))
       have hc101 : (own_p (own_gl (2 : Int32).toNatClampNeg (own_lit [x6_1, x7_2])) (0 : Int64)) = (fse (2 : Int32) x6_1 x7_2 x8_3) := (own_sh2 x6_1 x7_2 x8_3 (own_cb hv6_1) (own_cb hv7_2))
       refine oxh X195 hy at_101 104 (XT.ll_ne_f hc101) (oG X195 hy at_104 105 1 rfl (oxm X195 hy at_105 109 ?_))
       exact Ends.finW (some (.int 1)) X195 hS hk hQQ (fun h => by rw [Bd.returns] at h; cases h) Bd.notSynchronized (fun _ hr => retOut X195 hx (t := .boolean) Bd.returns rfl (Or.inl ⟨rfl, (by simp), _, rfl⟩) (hb hby at_109) hr) hh195 (by decide) (by decide) ⟨rfl, N195, K194⟩
      ·refine oB X189 hy at_90 92 rfl ?_
       refine cI X189 hy hml hown hZ hw at_92 95 1 10 11 12 9 rfl rfl rfl rfl rfl (rmscL l Z a0 hw [] b189 b183 (.null : Value) (0 : Int32) k183 cs (own_lit [x6_1, x7_2]) (2 : Int32) h189 n0 (Nat.le_trans Z0 K189.1) wI wK wL vM (Ne.symm vh) wR (by decide) (by decide) (own_lpre (pre := [x6_1, x7_2]) (post := []) (P := fun z => ¬ (255 : Int32) < z) (List.forall_mem_cons.mpr ⟨hs90_190, (List.forall_mem_cons.mpr ⟨hs90_193, (fun x hx => nomatch hx)⟩)⟩)) wb hcs) e189 pd_18 rfl rfl fun _ T196 Lc196 X196 hQ196 => ?_
       obtain ⟨b_196, k2_196, rfl, Nq196, Kq196, fq196_0, g_b_196, fq196_2, wK, wL, fq196_5, kW⟩ := hQ196
       have N196 := Fr.app N188 Nq196
       have wb := own_sta_keep wb Kq196 (allS wI.cell all0)
       have wd := own_sta_keep wd Kq196 (allS wI.cell all0)
       have hk := Nat.le_trans hk Kq196.1
       have wI := fq196_2
       have K196 := K189.trans Kq196 (allS (Or.inr vI) all0)
       refine Ends.u ?_
       refine cS X196 hy hml hown hZ hw at_95 98 0 28 29 30 31 rfl rfl rfl rfl (rmpaL l Z a0 hw [] b189 b_196 k2_196 cs sf (2 : Int32) (own_lit [x6_1, x7_2]) T196.heap n0 (Nat.le_trans Z0 K196.1) wI wK wL kW wb hcs wd wn (by decide) (by decide) (own_lbd (List.forall_mem_cons.mpr ⟨(own_cb hv6_1), (List.forall_mem_cons.mpr ⟨(own_cb hv7_2), (fun x hx => nomatch hx)⟩)⟩)) (own_lpre (pre := [x6_1, x7_2]) (post := []) (P := fun z => ¬ (255 : Int32) < z) (List.forall_mem_cons.mpr ⟨hs90_190, (List.forall_mem_cons.mpr ⟨hs90_193, (fun x hx => nomatch hx)⟩)⟩))) rfl pd_19 rfl rfl fun _ T197 Lc197 X197 hQ197 => ?_
       obtain ⟨rfl, Nq197, hh197⟩ := hQ197
       have N197 := Fr.app N196 Nq197
       refine Ends.v (oF X197 hy at_98 100 rfl (oY X197 hy at_100 101 ?_))
       have hc101 : (own_p (own_gl (2 : Int32).toNatClampNeg (own_lit [x6_1, x7_2])) (0 : Int64)) = (fse (2 : Int32) x6_1 x7_2 x8_3) := (own_sh2 x6_1 x7_2 x8_3 (own_cb hv6_1) (own_cb hv7_2))
       refine oxh X197 hy at_101 104 (XT.ll_ne_f hc101) (oG X197 hy at_104 105 1 rfl (oxm X197 hy at_105 109 ?_))
       exact Ends.finW (some (.int 1)) X197 hS hk hQQ (fun h => by rw [Bd.returns] at h; cases h) Bd.notSynchronized (fun _ hr => retOut X197 hx (t := .boolean) Bd.returns rfl (Or.inl ⟨rfl, (by simp), _, rfl⟩) (hb hby at_109) hr) hh197 (by decide) (by decide) ⟨rfl, N197, K196⟩
    ·by_cases hs32_198 : (p0 &&& (3 : Int32)) = (3 : Int32)
     ·rw [hs32_198]
      show Ends p e below QQ (s₁.setTop (mkF m 32 #[iv p0, iv p1, iv p2, iv p3, jv q4, ss, iv x6_1, iv x7_2, iv x8_3, iv 3, uu, uu, uu, uu, uu, uu] []))
      refine oD X0 hy at_32 34 rfl ?_
      obtain ⟨T199, h199, k199, X199, e199, E199, A199, Y199, st199⟩ := newPE X0 hx hZ (tb hw 1 rfl) e0 (g := (mkF m 34 #[iv p0, iv p1, iv p2, iv p3, jv q4, ss, iv x6_1, iv x7_2, iv x8_3, iv 3, uu, uu, uu, uu, uu, uu] [.int 3])) rfl (hb hby at_34) rfl (by decide) (cap := 3) (by decide) (by decide) (by decide) (by decide) (ad := "[C") (by decide)
      obtain ⟨b199, g199⟩ : ∃ z, z = h0.size := ⟨_, rfl⟩
      rw [← g199] at A199 Y199 st199
      have vL : n0 ≤ b199 := Nat.le_trans Z0 (Nat.le_trans (Keep.refl h0 []).1 (Nat.le_of_eq g199.symm))
      have vH : h0.size ≤ b199 := Nat.le_trans (Keep.refl h0 []).1 (Nat.le_of_eq g199.symm)
      have wb := wb.ext E199
      have wd := wd.ext E199
      have wa := wa.ext E199
      have wf := wf.ext E199
      have we := we.ext E199
      have hk := Nat.le_trans hk E199.1
      have K199 := (Keep.refl h0 []).ext E199
      have vk := Y199
      have wM : Arv Z h199 b199 k199 .char 3 [.int 0, .int 0, .int 0] (.int 0) := (Arv.new A199 (by decide)).pad (pad_rep [] (.int 0) 3)
      refine Ends.j 36 [.ref b199] st199 ?_
      refine oxs X199 hy at_36 38 #[iv p0, iv p1, iv p2, iv p3, jv q4, ss, iv x6_1, iv x7_2, iv x8_3, iv 3, rv b199, uu, uu, uu, uu, uu] rfl (oD X199 hy at_38 40 rfl (oxh X199 hy at_40 43 (XT.i0_le_f (by decide)) (oB X199 hy at_43 45 rfl (oG X199 hy at_45 46 0 rfl (oD X199 hy at_46 48 rfl ?_)))))
      refine aSC X199 hy hZ e199 wM at_48 49 ⟨by decide, by decide⟩ fun T201 h201 X201 e201 W201 => ?_
      rw [(own_ncv hv6_1)] at W201
      have wb := wb.wr W201
      have wd := wd.wr W201
      have wa := wa.wr W201
      have wf := wf.wr W201
      have we := we.wr W201
      have hk := Nat.le_trans hk (Nat.le_of_eq W201.size.symm)
      have vk := vk.wr W201
      have wM : Arv Z h201 b199 k199 .char 3 [.int x6_1, .int 0, .int 0] (.int 0) := As wM (own_fitc (own_ncv hv6_1)) W201 0 rfl (Nat.le_of_ble_eq_true rfl)
      have K201 := K199.wr W201 (Or.inr vH)
      have N201 := Fr.snoc X201 N0 vL
      refine oD X201 hy at_49 51 rfl (oG X201 hy at_51 52 1 rfl (oxi X201 hy at_52 55 (XT.ii_le_f (by decide)) (oB X201 hy at_55 57 rfl (oG X201 hy at_57 58 1 rfl (oD X201 hy at_58 60 rfl ?_)))))
      refine aSC X201 hy hZ e201 wM at_60 61 ⟨by decide, by decide⟩ fun T203 h203 X203 e203 W203 => ?_
      rw [(own_ncv hv7_2)] at W203
      have wb := wb.wr W203
      have wd := wd.wr W203
      have wa := wa.wr W203
      have wf := wf.wr W203
      have we := we.wr W203
      have hk := Nat.le_trans hk (Nat.le_of_eq W203.size.symm)
      have vk := vk.wr W203
      have wM : Arv Z h203 b199 k199 .char 3 [.int x6_1, .int x7_2, .int 0] (.int 0) := As wM (own_fitc (own_ncv hv7_2)) W203 1 rfl (Nat.le_of_ble_eq_true rfl)
      have K203 := K201.wr W203 (Or.inr vH)
      have N203 := Fr.snoc X203 N201 vL
      refine oD X203 hy at_61 63 rfl (oG X203 hy at_63 64 2 rfl (oxi X203 hy at_64 67 (XT.ii_le_f (by decide)) (oB X203 hy at_67 69 rfl (oG X203 hy at_69 70 2 rfl (oD X203 hy at_70 72 rfl ?_)))))
      obtain ⟨cl204, Ar204, q204, S204, P204, H204, G204⟩ := id wM
      have hin204 : ¬ ((2 : Int32) < 0 ∨ cl204.slots.size ≤ ((2 : Int32)).toNatClampNeg) := inb_of S204 ⟨by decide, by decide⟩
      obtain ⟨T205, h205, X205, e205, W205, st205⟩ := stC X203 hx hZ e203 Ar204 (j := (2 : Int32)) hin204 (g := (mkF m 72 #[iv p0, iv p1, iv p2, iv p3, jv q4, ss, iv x6_1, iv x7_2, iv x8_3, iv 3, rv b199, uu, uu, uu, uu, uu] [.int x8_3, .int 2, .ref b199])) rfl rfl (hb hby at_72)
      rw [(own_ncv hv8_3)] at W205
      have wb := wb.wr W205
      have wd := wd.wr W205
      have wa := wa.wr W205
      have wf := wf.wr W205
      have we := we.wr W205
      have hk := Nat.le_trans hk (Nat.le_of_eq W205.size.symm)
      have vk := vk.wr W205
      have wM : Arv Z h205 b199 k199 .char 3 [.int x6_1, .int x7_2, .int x8_3] (.int 0) := As wM (own_fitc (own_ncv hv8_3)) W205 2 rfl (Nat.le_of_ble_eq_true rfl)
      have K205 := K203.wr W205 (Or.inr vH)
      have N205 := Fr.snoc X205 N203 vL
      refine Ends.step st205 ?_
      have wM : Arv Z h205 b199 k199 .char 3 (own_L (3 : Int32).toNatClampNeg (own_lit [x6_1, x7_2, x8_3])) (.int 0) := by rw [own_cv3]; exact wM
      show Ends p e below QQ (T205.setTop (mkF m 73 #[iv p0, iv p1, iv p2, iv p3, jv q4, ss, iv x6_1, iv x7_2, iv x8_3, iv 3, rv b199, uu, uu, uu, uu, uu] []))
      refine oD X205 hy at_73 75 rfl (oD X205 hy at_75 77 rfl (oD X205 hy at_77 79 rfl (oD X205 hy at_79 81 rfl ?_)))
      refine cS X205 hy hml hown hZ hw at_81 84 0 2 3 4 5 rfl rfl rfl rfl (rmse l Z a0 hw [] (3 : Int32) x6_1 x7_2 x8_3 h205 n0 (Nat.le_trans Z0 K205.1)) e205 pd_17 rfl rfl fun _ T206 Lc206 X206 hQ206 => ?_
      obtain ⟨rfl, Nq206, hh206⟩ := hQ206
      have N206 := Fr.app N205 Nq206
      refine Ends.v (oxq X206 hy at_84 86 #[iv p0, iv p1, iv p2, iv p3, jv q4, ss, iv x6_1, iv x7_2, iv x8_3, iv 3, rv b199, jv (fse (3 : Int32) x6_1 x7_2 x8_3), ss, uu, uu, uu] rfl ?_)
      obtain ⟨T207, h207, X207, e207, E207, A207, D207, U207, st207⟩ := newO X206 hx hZ hown (tb hw 7 rfl) (tb hw 8 rfl) (tb hw 9 rfl) hh206 (g := (mkF m 86 #[iv p0, iv p1, iv p2, iv p3, jv q4, ss, iv x6_1, iv x7_2, iv x8_3, iv 3, rv b199, jv (fse (3 : Int32) x6_1 x7_2 x8_3), ss, uu, uu, uu] [])) rfl (hb hby at_86) (by decide) (by decide)
      obtain ⟨b207, g207⟩ : ∃ z, z = h205.size := ⟨_, rfl⟩
      rw [← g207] at A207 D207 U207 st207
      have wZ : b199 ≠ b207 := Nat.ne_of_lt (Nat.lt_of_lt_of_le vk.lt (Nat.le_of_eq g207.symm))
      have vF : n0 ≤ b207 := Nat.le_trans Z0 (Nat.le_trans K205.1 (Nat.le_of_eq g207.symm))
      have vx : h0.size ≤ b207 := Nat.le_trans K205.1 (Nat.le_of_eq g207.symm)
      have wb := wb.ext E207
      have wd := wd.ext E207
      have wa := wa.ext E207
      have wf := wf.ext E207
      have we := we.ext E207
      have hk := Nat.le_trans hk E207.1
      have wM := wM.ext E207
      have K207 := K205.ext E207
      have wu := A207
      have wB : fBQ Z h207 b207 .null := D207 (Or.inr (tb hw 22 rfl)) (ty := (.array .byte)) (by decide)
      have wG : fAQ Z h207 b207 (.int 0) := D207 (Or.inr (tb hw 23 rfl)) (ty := .byte) (by decide)
      refine Ends.j 89 [.ref b207] st207 ?_
      refine Ends.step (fun _ k => XS.dup X207.here hx rfl (hb hby at_89) rfl rfl k) ?_
      by_cases hs90_208 : (255 : Int32) < x6_1
      ·show Ends p e below QQ (T207.setTop (mkF m 90 #[iv p0, iv p1, iv p2, iv p3, jv q4, ss, iv x6_1, iv x7_2, iv x8_3, iv 3, rv b199, jv (fse (3 : Int32) x6_1 x7_2 x8_3), ss, uu, uu, uu] [.ref b207, .ref b207]))
       refine oB X207 hy at_90 92 rfl ?_
       refine cI X207 hy hml hown hZ hw at_92 95 1 10 11 12 9 rfl rfl rfl rfl rfl (rmscU l Z a0 hw [] b207 b199 (.null : Value) (0 : Int32) k199 cs (own_lit [x6_1, x7_2, x8_3]) 0 (3 : Int32) h207 n0 (Nat.le_trans Z0 K207.1) wu wB wG vF (Ne.symm wZ) wM (by decide) (by decide) (own_lbd (List.forall_mem_cons.mpr ⟨(own_cb hv6_1), (List.forall_mem_cons.mpr ⟨(own_cb hv7_2), (List.forall_mem_cons.mpr ⟨(own_cb hv8_3), (fun x hx => nomatch hx)⟩)⟩)⟩)) (own_lpre (pre := []) (post := [x6_1, x7_2, x8_3]) (P := fun z => ¬ (255 : Int32) < z) (fun x hx => nomatch hx)) hs90_208 (by decide) wa wf we wb hcs) e207 pd_18 rfl rfl fun _ T209 Lc209 X209 hQ209 => ?_
       obtain ⟨b_209, k2_209, rfl, Nq209, Kq209, fq209_0, g_b_209, fq209_2, wB, wG, fq209_5, kV⟩ := hQ209
       have N209 := Fr.app N206 Nq209
       have wb := own_sta_keep wb Kq209 (allS wu.cell all0)
       have wd := own_sta_keep wd Kq209 (allS wu.cell all0)
       have wa := own_sta_keep wa Kq209 (allS wu.cell all0)
       have wf := own_sta_keep wf Kq209 (allS wu.cell all0)
       have we := own_sta_keep we Kq209 (allS wu.cell all0)
       have hk := Nat.le_trans hk Kq209.1
       have wu := fq209_2
       have K209 := K207.trans Kq209 (allS (Or.inr vx) all0)
       refine Ends.u ?_
       refine cS X209 hy hml hown hZ hw at_95 98 0 28 29 30 31 rfl rfl rfl rfl (rmpaU l Z a0 hw [] b207 b_209 k2_209 cs sf (3 : Int32) (own_lit [x6_1, x7_2, x8_3]) T209.heap n0 (Nat.le_trans Z0 K209.1) wu wB wG kV wb hcs wd wn (by decide) (by decide) (own_lbd (List.forall_mem_cons.mpr ⟨(own_cb hv6_1), (List.forall_mem_cons.mpr ⟨(own_cb hv7_2), (List.forall_mem_cons.mpr ⟨(own_cb hv8_3), (fun x hx => nomatch hx)⟩)⟩)⟩)) wa wf we) rfl pd_19 rfl rfl fun _ T210 Lc210 X210 hQ210 => ?_
       obtain ⟨rfl, Nq210, hh210⟩ := hQ210
       have N210 := Fr.app N209 Nq210
       refine Ends.v (oF X210 hy at_98 100 rfl (oY X210 hy at_100 101 ?_))
       have hc101 : (own_p (own_gl (3 : Int32).toNatClampNeg (own_lit [x6_1, x7_2, x8_3])) (0 : Int64)) = (fse (3 : Int32) x6_1 x7_2 x8_3) := (own_sh3 x6_1 x7_2 x8_3 (own_cb hv6_1) (own_cb hv7_2) (own_cb hv8_3))
       refine oxh X210 hy at_101 104 (XT.ll_ne_f hc101) (oG X210 hy at_104 105 1 rfl (oxm X210 hy at_105 109 ?_))
       exact Ends.finW (some (.int 1)) X210 hS hk hQQ (fun h => by rw [Bd.returns] at h; cases h) Bd.notSynchronized (fun _ hr => retOut X210 hx (t := .boolean) Bd.returns rfl (Or.inl ⟨rfl, (by simp), _, rfl⟩) (hb hby at_109) hr) hh210 (by decide) (by decide) ⟨rfl, N210, K209⟩
      ·show Ends p e below QQ (T207.setTop (mkF m 90 #[iv p0, iv p1, iv p2, iv p3, jv q4, ss, iv x6_1, iv x7_2, iv x8_3, iv 3, rv b199, jv (fse (3 : Int32) x6_1 x7_2 x8_3), ss, uu, uu, uu] [.ref b207, .ref b207]))
       by_cases hs90_211 : (255 : Int32) < x7_2
       ·refine oB X207 hy at_90 92 rfl ?_
        refine cI X207 hy hml hown hZ hw at_92 95 1 10 11 12 9 rfl rfl rfl rfl rfl (rmscU l Z a0 hw [] b207 b199 (.null : Value) (0 : Int32) k199 cs (own_lit [x6_1, x7_2, x8_3]) 1 (3 : Int32) h207 n0 (Nat.le_trans Z0 K207.1) wu wB wG vF (Ne.symm wZ) wM (by decide) (by decide) (own_lbd (List.forall_mem_cons.mpr ⟨(own_cb hv6_1), (List.forall_mem_cons.mpr ⟨(own_cb hv7_2), (List.forall_mem_cons.mpr ⟨(own_cb hv8_3), (fun x hx => nomatch hx)⟩)⟩)⟩)) (own_lpre (pre := [x6_1]) (post := [x7_2, x8_3]) (P := fun z => ¬ (255 : Int32) < z) (List.forall_mem_cons.mpr ⟨hs90_208, (fun x hx => nomatch hx)⟩)) hs90_211 (by decide) wa wf we wb hcs) e207 pd_18 rfl rfl fun _ T212 Lc212 X212 hQ212 => ?_
        obtain ⟨b_212, k2_212, rfl, Nq212, Kq212, fq212_0, g_b_212, fq212_2, wB, wG, fq212_5, kU⟩ := hQ212
        have N212 := Fr.app N206 Nq212
        have wb := own_sta_keep wb Kq212 (allS wu.cell all0)
        have wd := own_sta_keep wd Kq212 (allS wu.cell all0)
        have wa := own_sta_keep wa Kq212 (allS wu.cell all0)
        have wf := own_sta_keep wf Kq212 (allS wu.cell all0)
        have we := own_sta_keep we Kq212 (allS wu.cell all0)
        have hk := Nat.le_trans hk Kq212.1
        have wu := fq212_2
        have K212 := K207.trans Kq212 (allS (Or.inr vx) all0)
        refine Ends.u ?_
        refine cS X212 hy hml hown hZ hw at_95 98 0 28 29 30 31 rfl rfl rfl rfl (rmpaU l Z a0 hw [] b207 b_212 k2_212 cs sf (3 : Int32) (own_lit [x6_1, x7_2, x8_3]) T212.heap n0 (Nat.le_trans Z0 K212.1) wu wB wG kU wb hcs wd wn (by decide) (by decide) (own_lbd (List.forall_mem_cons.mpr ⟨(own_cb hv6_1), (List.forall_mem_cons.mpr ⟨(own_cb hv7_2), (List.forall_mem_cons.mpr ⟨(own_cb hv8_3), (fun x hx => nomatch hx)⟩)⟩)⟩)) wa wf we) rfl pd_19 rfl rfl fun _ T213 Lc213 X213 hQ213 => ?_
        obtain ⟨rfl, Nq213, hh213⟩ := hQ213
        have N213 := Fr.app N212 Nq213
        refine Ends.v (oF X213 hy at_98 100 rfl (oY X213 hy at_100 101 ?_))
        have hc101 : (own_p (own_gl (3 : Int32).toNatClampNeg (own_lit [x6_1, x7_2, x8_3])) (0 : Int64)) = (fse (3 : Int32) x6_1 x7_2 x8_3) := (own_sh3 x6_1 x7_2 x8_3 (own_cb hv6_1) (own_cb hv7_2) (own_cb hv8_3))
        refine oxh X213 hy at_101 104 (XT.ll_ne_f hc101) (oG X213 hy at_104 105 1 rfl (oxm X213 hy at_105 109 ?_))
        exact Ends.finW (some (.int 1)) X213 hS hk hQQ (fun h => by rw [Bd.returns] at h; cases h) Bd.notSynchronized (fun _ hr => retOut X213 hx (t := .boolean) Bd.returns rfl (Or.inl ⟨rfl, (by simp), _, rfl⟩) (hb hby at_109) hr) hh213 (by decide) (by decide) ⟨rfl, N213, K212⟩
       ·by_cases hs90_214 : (255 : Int32) < x8_3
        ·refine oB X207 hy at_90 92 rfl ?_
         refine cI X207 hy hml hown hZ hw at_92 95 1 10 11 12 9 rfl rfl rfl rfl rfl (rmscU l Z a0 hw [] b207 b199 (.null : Value) (0 : Int32) k199 cs (own_lit [x6_1, x7_2, x8_3]) 2 (3 : Int32) h207 n0 (Nat.le_trans Z0 K207.1) wu wB wG vF (Ne.symm wZ) wM (by decide) (by decide) (own_lbd (List.forall_mem_cons.mpr ⟨(own_cb hv6_1), (List.forall_mem_cons.mpr ⟨(own_cb hv7_2), (List.forall_mem_cons.mpr ⟨(own_cb hv8_3), (fun x hx => nomatch hx)⟩)⟩)⟩)) (own_lpre (pre := [x6_1, x7_2]) (post := [x8_3]) (P := fun z => ¬ (255 : Int32) < z) (List.forall_mem_cons.mpr ⟨hs90_208, (List.forall_mem_cons.mpr ⟨hs90_211, (fun x hx => nomatch hx)⟩)⟩)) hs90_214 (by decide) wa wf we wb hcs) e207 pd_18 rfl rfl fun _ T215 Lc215 X215 hQ215 => ?_
         obtain ⟨b_215, k2_215, rfl, Nq215, Kq215, fq215_0, g_b_215, fq215_2, wB, wG, fq215_5, kT⟩ := hQ215
         have N215 := Fr.app N206 Nq215
         have wb := own_sta_keep wb Kq215 (allS wu.cell all0)
         have wd := own_sta_keep wd Kq215 (allS wu.cell all0)
         have wa := own_sta_keep wa Kq215 (allS wu.cell all0)
         have wf := own_sta_keep wf Kq215 (allS wu.cell all0)
         have we := own_sta_keep we Kq215 (allS wu.cell all0)
         have hk := Nat.le_trans hk Kq215.1
         have wu := fq215_2
         have K215 := K207.trans Kq215 (allS (Or.inr vx) all0)
         refine Ends.u ?_
         refine cS X215 hy hml hown hZ hw at_95 98 0 28 29 30 31 rfl rfl rfl rfl (rmpaU l Z a0 hw [] b207 b_215 k2_215 cs sf (3 : Int32) (own_lit [x6_1, x7_2, x8_3]) T215.heap n0 (Nat.le_trans Z0 K215.1) wu wB wG kT wb hcs wd wn (by decide) (by decide) (own_lbd (List.forall_mem_cons.mpr ⟨(own_cb hv6_1), (List.forall_mem_cons.mpr ⟨(own_cb hv7_2), (List.forall_mem_cons.mpr ⟨(own_cb hv8_3), (fun x hx => nomatch hx)⟩)⟩)⟩)) wa wf we) rfl pd_19 rfl rfl fun _ T216 Lc216 X216 hQ216 => ?_
         obtain ⟨rfl, Nq216, hh216⟩ := hQ216
         have N216 := Fr.app N215 Nq216
         refine Ends.v (oF X216 hy at_98 100 rfl (oY X216 hy at_100 101 ?_))
         have hc101 : (own_p (own_gl (3 : Int32).toNatClampNeg (own_lit [x6_1, x7_2, x8_3])) (0 : Int64)) = (fse (3 : Int32) x6_1 x7_2 x8_3) := (own_sh3 x6_1 x7_2 x8_3 (own_cb hv6_1) (own_cb hv7_2) (own_cb hv8_3))
         refine oxh X216 hy at_101 104 (XT.ll_ne_f hc101) (oG X216 hy at_104 105 1 rfl (oxm X216 hy at_105 109 ?_))
         exact Ends.finW (some (.int 1)) X216 hS hk hQQ (fun h => by rw [Bd.returns] at h; cases h) Bd.notSynchronized (fun _ hr => retOut X216 hx (t := .boolean) Bd.returns rfl (Or.inl ⟨rfl, (by simp), _, rfl⟩) (hb hby at_109) hr) hh216 (by decide) (by decide) ⟨rfl, N216, K215⟩
        ·refine oB X207 hy at_90 92 rfl ?_
         refine cI X207 hy hml hown hZ hw at_92 95 1 10 11 12 9 rfl rfl rfl rfl rfl (rmscL l Z a0 hw [] b207 b199 (.null : Value) (0 : Int32) k199 cs (own_lit [x6_1, x7_2, x8_3]) (3 : Int32) h207 n0 (Nat.le_trans Z0 K207.1) wu wB wG vF (Ne.symm wZ) wM (by decide) (by decide) (own_lpre (pre := [x6_1, x7_2, x8_3]) (post := []) (P := fun z => ¬ (255 : Int32) < z) (List.forall_mem_cons.mpr ⟨hs90_208, (List.forall_mem_cons.mpr ⟨hs90_211, (List.forall_mem_cons.mpr ⟨hs90_214, (fun x hx => nomatch hx)⟩)⟩)⟩)) wb hcs) e207 pd_18 rfl rfl fun _ T217 Lc217 X217 hQ217 => ?_
         obtain ⟨b_217, k2_217, rfl, Nq217, Kq217, fq217_0, g_b_217, fq217_2, wB, wG, fq217_5, kS⟩ := hQ217
         have N217 := Fr.app N206 Nq217
         have wb := own_sta_keep wb Kq217 (allS wu.cell all0)
         have wd := own_sta_keep wd Kq217 (allS wu.cell all0)
         have hk := Nat.le_trans hk Kq217.1
         have wu := fq217_2
         have K217 := K207.trans Kq217 (allS (Or.inr vx) all0)
         refine Ends.u ?_
         refine cS X217 hy hml hown hZ hw at_95 98 0 28 29 30 31 rfl rfl rfl rfl (rmpaL l Z a0 hw [] b207 b_217 k2_217 cs sf (3 : Int32) (own_lit [x6_1, x7_2, x8_3]) T217.heap n0 (Nat.le_trans Z0 K217.1) wu wB wG kS wb hcs wd wn (by decide) (by decide) (own_lbd (List.forall_mem_cons.mpr ⟨(own_cb hv6_1), (List.forall_mem_cons.mpr ⟨(own_cb hv7_2), (List.forall_mem_cons.mpr ⟨(own_cb hv8_3), (fun x hx => nomatch hx)⟩)⟩)⟩)) (own_lpre (pre := [x6_1, x7_2, x8_3]) (post := []) (P := fun z => ¬ (255 : Int32) < z) (List.forall_mem_cons.mpr ⟨hs90_208, (List.forall_mem_cons.mpr ⟨hs90_211, (List.forall_mem_cons.mpr ⟨hs90_214, (fun x hx => nomatch hx)⟩)⟩)⟩))) rfl pd_19 rfl rfl fun _ T218 Lc218 X218 hQ218 => ?_
         obtain ⟨rfl, Nq218, hh218⟩ := hQ218
         have N218 := Fr.app N217 Nq218
         refine Ends.v (oF X218 hy at_98 100 rfl (oY X218 hy at_100 101 ?_))
         have hc101 : (own_p (own_gl (3 : Int32).toNatClampNeg (own_lit [x6_1, x7_2, x8_3])) (0 : Int64)) = (fse (3 : Int32) x6_1 x7_2 x8_3) := (own_sh3 x6_1 x7_2 x8_3 (own_cb hv6_1) (own_cb hv7_2) (own_cb hv8_3))
         refine oxh X218 hy at_101 104 (XT.ll_ne_f hc101) (oG X218 hy at_104 105 1 rfl (oxm X218 hy at_105 109 ?_))
         exact Ends.finW (some (.int 1)) X218 hS hk hQQ (fun h => by rw [Bd.returns] at h; cases h) Bd.notSynchronized (fun _ hr => retOut X218 hx (t := .boolean) Bd.returns rfl (Or.inl ⟨rfl, (by simp), _, rfl⟩) (hb hby at_109) hr) hh218 (by decide) (by decide) ⟨rfl, N218, K217⟩
     ·exact (own_m3 hs32_165 hs32_171 hs32_182 hs32_198).elim
 ·refine oxk X0 hy at_24 110 (XT.i0_ne_t hc24_164) (oF X0 hy at_110 112 rfl (oJ2 X0 hy hown hZ hw at_112 115 9223372036854775807 113 rfl (oV X0 hy at_115 116 (oxq X0 hy at_116 118 #[iv p0, iv p1, iv p2, iv p3, jv q4, ss, iv x6_1, iv x7_2, iv x8_3, jv (q4 &&& (9223372036854775807 : Int64)), ss, uu, uu, uu, uu, uu] rfl ?_))))
  show Ends p e below QQ (s₁.setTop (mkF m 118 #[iv p0, iv p1, iv p2, iv p3, jv q4, ss, iv x6_1, iv x7_2, iv x8_3, jv (q4 &&& (9223372036854775807 : Int64)), ss, uu, uu, uu, uu, uu] []))
  generalize hv9_4 : (q4 &&& (9223372036854775807 : Int64)) = x9_4
  refine oH X0 hy at_118 120 22 rfl ?_
  obtain ⟨T219, h219, k219, X219, e219, E219, A219, Y219, st219⟩ := newPE X0 hx hZ (tb hw 1 rfl) e0 (g := (mkF m 120 #[iv p0, iv p1, iv p2, iv p3, jv q4, ss, iv x6_1, iv x7_2, iv x8_3, jv x9_4, ss, uu, uu, uu, uu, uu] [.int 22])) rfl (hb hby at_120) rfl (by decide) (cap := 22) (by decide) (by decide) (by decide) (by decide) (ad := "[C") (by decide)
  obtain ⟨b219, g219⟩ : ∃ z, z = h0.size := ⟨_, rfl⟩
  rw [← g219] at A219 Y219 st219
  have wH : n0 ≤ b219 := Nat.le_trans Z0 (Nat.le_trans (Keep.refl h0 []).1 (Nat.le_of_eq g219.symm))
  have wv : h0.size ≤ b219 := Nat.le_trans (Keep.refl h0 []).1 (Nat.le_of_eq g219.symm)
  have wb := wb.ext E219
  have wd := wd.ext E219
  have wa := wa.ext E219
  have wf := wf.ext E219
  have we := we.ext E219
  have hk := Nat.le_trans hk E219.1
  have K219 := (Keep.refl h0 []).ext E219
  have wl := Y219
  have wj : Arv Z h219 b219 k219 .char 22 [.int 0, .int 0, .int 0, .int 0, .int 0, .int 0, .int 0, .int 0, .int 0, .int 0, .int 0, .int 0, .int 0, .int 0, .int 0, .int 0, .int 0, .int 0, .int 0, .int 0, .int 0, .int 0] (.int 0) := (Arv.new A219 (by decide)).pad (pad_rep [] (.int 0) 22)
  refine Ends.j 122 [.ref b219] st219 ?_
  refine oxd X219 hy at_122 123 rfl (oG X219 hy at_123 124 0 rfl (oF X219 hy at_124 126 rfl (oJ2 X219 hy hown hZ hw at_126 129 1000000000000000000 114 rfl ?_)))
  refine cS X219 hy hml hown hZ hw at_129 132 3 115 116 4 117 rfl rfl rfl rfl (rmdg l Z a0 hw [] x9_4 (1000000000000000000 : Int64) h219 n0 (Nat.le_trans Z0 K219.1) (by decide)) e219 pd_20 rfl rfl fun _ T220 Lc220 X220 hQ220 => ?_
  obtain ⟨rfl, Nq220, hh220⟩ := hQ220
  have N220 := Fr.app N0 Nq220
  refine Ends.v ?_
  refine aSC X220 hy hZ hh220 wj at_132 133 ⟨by decide, by decide⟩ fun T222 h222 X222 e222 W222 => ?_
  rw [(own_nfdg _ _)] at W222
  have wb := wb.wr W222
  have wd := wd.wr W222
  have wa := wa.wr W222
  have wf := wf.wr W222
  have we := we.wr W222
  have hk := Nat.le_trans hk (Nat.le_of_eq W222.size.symm)
  have wl := wl.wr W222
  have wj : Arv Z h222 b219 k219 .char 22 [(.int (fdg x9_4 (1000000000000000000 : Int64))), .int 0, .int 0, .int 0, .int 0, .int 0, .int 0, .int 0, .int 0, .int 0, .int 0, .int 0, .int 0, .int 0, .int 0, .int 0, .int 0, .int 0, .int 0, .int 0, .int 0, .int 0] (.int 0) := As wj (own_fitc (own_nfdg _ _)) W222 0 rfl (Nat.le_of_ble_eq_true rfl)
  have K222 := K219.wr W222 (Or.inr wv)
  have N222 := Fr.snoc X222 N220 wH
  refine oxd X222 hy at_133 134 rfl (oG X222 hy at_134 135 1 rfl (oF X222 hy at_135 137 rfl (oJ2 X222 hy hown hZ hw at_137 140 100000000000000000 119 rfl ?_)))
  refine cS X222 hy hml hown hZ hw at_140 143 3 115 116 4 117 rfl rfl rfl rfl (rmdg l Z a0 hw [] x9_4 (100000000000000000 : Int64) h222 n0 (Nat.le_trans Z0 K222.1) (by decide)) e222 pd_20 rfl rfl fun _ T223 Lc223 X223 hQ223 => ?_
  obtain ⟨rfl, Nq223, hh223⟩ := hQ223
  have N223 := Fr.app N222 Nq223
  refine Ends.v ?_
  refine aSC X223 hy hZ hh223 wj at_143 144 ⟨by decide, by decide⟩ fun T225 h225 X225 e225 W225 => ?_
  rw [(own_nfdg _ _)] at W225
  have wb := wb.wr W225
  have wd := wd.wr W225
  have wa := wa.wr W225
  have wf := wf.wr W225
  have we := we.wr W225
  have hk := Nat.le_trans hk (Nat.le_of_eq W225.size.symm)
  have wl := wl.wr W225
  have wj : Arv Z h225 b219 k219 .char 22 [(.int (fdg x9_4 (1000000000000000000 : Int64))), (.int (fdg x9_4 (100000000000000000 : Int64))), .int 0, .int 0, .int 0, .int 0, .int 0, .int 0, .int 0, .int 0, .int 0, .int 0, .int 0, .int 0, .int 0, .int 0, .int 0, .int 0, .int 0, .int 0, .int 0, .int 0] (.int 0) := As wj (own_fitc (own_nfdg _ _)) W225 1 rfl (Nat.le_of_ble_eq_true rfl)
  have K225 := K222.wr W225 (Or.inr wv)
  have N225 := Fr.snoc X225 N223 wH
  refine oxd X225 hy at_144 145 rfl (oG X225 hy at_145 146 2 rfl (oF X225 hy at_146 148 rfl (oJ2 X225 hy hown hZ hw at_148 151 10000000000000000 120 rfl ?_)))
  refine cS X225 hy hml hown hZ hw at_151 154 3 115 116 4 117 rfl rfl rfl rfl (rmdg l Z a0 hw [] x9_4 (10000000000000000 : Int64) h225 n0 (Nat.le_trans Z0 K225.1) (by decide)) e225 pd_20 rfl rfl fun _ T226 Lc226 X226 hQ226 => ?_
  obtain ⟨rfl, Nq226, hh226⟩ := hQ226
  have N226 := Fr.app N225 Nq226
  refine Ends.v ?_
  refine aSC X226 hy hZ hh226 wj at_154 155 ⟨by decide, by decide⟩ fun T228 h228 X228 e228 W228 => ?_
  rw [(own_nfdg _ _)] at W228
  have wb := wb.wr W228
  have wd := wd.wr W228
  have wa := wa.wr W228
  have wf := wf.wr W228
  have we := we.wr W228
  have hk := Nat.le_trans hk (Nat.le_of_eq W228.size.symm)
  have wl := wl.wr W228
  have wj : Arv Z h228 b219 k219 .char 22 [(.int (fdg x9_4 (1000000000000000000 : Int64))), (.int (fdg x9_4 (100000000000000000 : Int64))), (.int (fdg x9_4 (10000000000000000 : Int64))), .int 0, .int 0, .int 0, .int 0, .int 0, .int 0, .int 0, .int 0, .int 0, .int 0, .int 0, .int 0, .int 0, .int 0, .int 0, .int 0, .int 0, .int 0, .int 0] (.int 0) := As wj (own_fitc (own_nfdg _ _)) W228 2 rfl (Nat.le_of_ble_eq_true rfl)
  have K228 := K225.wr W228 (Or.inr wv)
  have N228 := Fr.snoc X228 N226 wH
  refine oxd X228 hy at_155 156 rfl (oG X228 hy at_156 157 3 rfl (oF X228 hy at_157 159 rfl (oJ2 X228 hy hown hZ hw at_159 162 1000000000000000 121 rfl ?_)))
  refine cS X228 hy hml hown hZ hw at_162 165 3 115 116 4 117 rfl rfl rfl rfl (rmdg l Z a0 hw [] x9_4 (1000000000000000 : Int64) h228 n0 (Nat.le_trans Z0 K228.1) (by decide)) e228 pd_20 rfl rfl fun _ T229 Lc229 X229 hQ229 => ?_
  obtain ⟨rfl, Nq229, hh229⟩ := hQ229
  have N229 := Fr.app N228 Nq229
  refine Ends.v ?_
  refine aSC X229 hy hZ hh229 wj at_165 166 ⟨by decide, by decide⟩ fun T231 h231 X231 e231 W231 => ?_
  rw [(own_nfdg _ _)] at W231
  have wb := wb.wr W231
  have wd := wd.wr W231
  have wa := wa.wr W231
  have wf := wf.wr W231
  have we := we.wr W231
  have hk := Nat.le_trans hk (Nat.le_of_eq W231.size.symm)
  have wl := wl.wr W231
  have wj : Arv Z h231 b219 k219 .char 22 [(.int (fdg x9_4 (1000000000000000000 : Int64))), (.int (fdg x9_4 (100000000000000000 : Int64))), (.int (fdg x9_4 (10000000000000000 : Int64))), (.int (fdg x9_4 (1000000000000000 : Int64))), .int 0, .int 0, .int 0, .int 0, .int 0, .int 0, .int 0, .int 0, .int 0, .int 0, .int 0, .int 0, .int 0, .int 0, .int 0, .int 0, .int 0, .int 0] (.int 0) := As wj (own_fitc (own_nfdg _ _)) W231 3 rfl (Nat.le_of_ble_eq_true rfl)
  have K231 := K228.wr W231 (Or.inr wv)
  have N231 := Fr.snoc X231 N229 wH
  refine oxd X231 hy at_166 167 rfl (oG X231 hy at_167 168 4 rfl (oF X231 hy at_168 170 rfl (oJ2 X231 hy hown hZ hw at_170 173 100000000000000 122 rfl ?_)))
  refine cS X231 hy hml hown hZ hw at_173 176 3 115 116 4 117 rfl rfl rfl rfl (rmdg l Z a0 hw [] x9_4 (100000000000000 : Int64) h231 n0 (Nat.le_trans Z0 K231.1) (by decide)) e231 pd_20 rfl rfl fun _ T232 Lc232 X232 hQ232 => ?_
  obtain ⟨rfl, Nq232, hh232⟩ := hQ232
  have N232 := Fr.app N231 Nq232
  refine Ends.v ?_
  refine aSC X232 hy hZ hh232 wj at_176 177 ⟨by decide, by decide⟩ fun T234 h234 X234 e234 W234 => ?_
  rw [(own_nfdg _ _)] at W234
  have wb := wb.wr W234
  have wd := wd.wr W234
  have wa := wa.wr W234
  have wf := wf.wr W234
  have we := we.wr W234
  have hk := Nat.le_trans hk (Nat.le_of_eq W234.size.symm)
  have wl := wl.wr W234
  have wj : Arv Z h234 b219 k219 .char 22 [(.int (fdg x9_4 (1000000000000000000 : Int64))), (.int (fdg x9_4 (100000000000000000 : Int64))), (.int (fdg x9_4 (10000000000000000 : Int64))), (.int (fdg x9_4 (1000000000000000 : Int64))), (.int (fdg x9_4 (100000000000000 : Int64))), .int 0, .int 0, .int 0, .int 0, .int 0, .int 0, .int 0, .int 0, .int 0, .int 0, .int 0, .int 0, .int 0, .int 0, .int 0, .int 0, .int 0] (.int 0) := As wj (own_fitc (own_nfdg _ _)) W234 4 rfl (Nat.le_of_ble_eq_true rfl)
  have K234 := K231.wr W234 (Or.inr wv)
  have N234 := Fr.snoc X234 N232 wH
  refine oxd X234 hy at_177 178 rfl (oG X234 hy at_178 179 5 rfl (oF X234 hy at_179 181 rfl (oJ2 X234 hy hown hZ hw at_181 184 10000000000000 123 rfl ?_)))
  refine cS X234 hy hml hown hZ hw at_184 187 3 115 116 4 117 rfl rfl rfl rfl (rmdg l Z a0 hw [] x9_4 (10000000000000 : Int64) h234 n0 (Nat.le_trans Z0 K234.1) (by decide)) e234 pd_20 rfl rfl fun _ T235 Lc235 X235 hQ235 => ?_
  obtain ⟨rfl, Nq235, hh235⟩ := hQ235
  have N235 := Fr.app N234 Nq235
  refine Ends.v ?_
  refine aSC X235 hy hZ hh235 wj at_187 188 ⟨by decide, by decide⟩ fun T237 h237 X237 e237 W237 => ?_
  rw [(own_nfdg _ _)] at W237
  have wb := wb.wr W237
  have wd := wd.wr W237
  have wa := wa.wr W237
  have wf := wf.wr W237
  have we := we.wr W237
  have hk := Nat.le_trans hk (Nat.le_of_eq W237.size.symm)
  have wl := wl.wr W237
  have wj : Arv Z h237 b219 k219 .char 22 [(.int (fdg x9_4 (1000000000000000000 : Int64))), (.int (fdg x9_4 (100000000000000000 : Int64))), (.int (fdg x9_4 (10000000000000000 : Int64))), (.int (fdg x9_4 (1000000000000000 : Int64))), (.int (fdg x9_4 (100000000000000 : Int64))), (.int (fdg x9_4 (10000000000000 : Int64))), .int 0, .int 0, .int 0, .int 0, .int 0, .int 0, .int 0, .int 0, .int 0, .int 0, .int 0, .int 0, .int 0, .int 0, .int 0, .int 0] (.int 0) := As wj (own_fitc (own_nfdg _ _)) W237 5 rfl (Nat.le_of_ble_eq_true rfl)
  have K237 := K234.wr W237 (Or.inr wv)
  have N237 := Fr.snoc X237 N235 wH
  refine oxd X237 hy at_188 189 rfl (oH X237 hy at_189 191 6 rfl (oF X237 hy at_191 193 rfl (oJ2 X237 hy hown hZ hw at_193 196 1000000000000 124 rfl ?_)))
  refine cS X237 hy hml hown hZ hw at_196 199 3 115 116 4 117 rfl rfl rfl rfl (rmdg l Z a0 hw [] x9_4 (1000000000000 : Int64) h237 n0 (Nat.le_trans Z0 K237.1) (by decide)) e237 pd_20 rfl rfl fun _ T238 Lc238 X238 hQ238 => ?_
  obtain ⟨rfl, Nq238, hh238⟩ := hQ238
  have N238 := Fr.app N237 Nq238
  refine Ends.v ?_
  refine aSC X238 hy hZ hh238 wj at_199 200 ⟨by decide, by decide⟩ fun T240 h240 X240 e240 W240 => ?_
  rw [(own_nfdg _ _)] at W240
  have wb := wb.wr W240
  have wd := wd.wr W240
  have wa := wa.wr W240
  have wf := wf.wr W240
  have we := we.wr W240
  have hk := Nat.le_trans hk (Nat.le_of_eq W240.size.symm)
  have wl := wl.wr W240
  have wj : Arv Z h240 b219 k219 .char 22 [(.int (fdg x9_4 (1000000000000000000 : Int64))), (.int (fdg x9_4 (100000000000000000 : Int64))), (.int (fdg x9_4 (10000000000000000 : Int64))), (.int (fdg x9_4 (1000000000000000 : Int64))), (.int (fdg x9_4 (100000000000000 : Int64))), (.int (fdg x9_4 (10000000000000 : Int64))), (.int (fdg x9_4 (1000000000000 : Int64))), .int 0, .int 0, .int 0, .int 0, .int 0, .int 0, .int 0, .int 0, .int 0, .int 0, .int 0, .int 0, .int 0, .int 0, .int 0] (.int 0) := As wj (own_fitc (own_nfdg _ _)) W240 6 rfl (Nat.le_of_ble_eq_true rfl)
  have K240 := K237.wr W240 (Or.inr wv)
  have N240 := Fr.snoc X240 N238 wH
  refine oxd X240 hy at_200 201 rfl (oH X240 hy at_201 203 7 rfl (oF X240 hy at_203 205 rfl (oJ2 X240 hy hown hZ hw at_205 208 100000000000 125 rfl ?_)))
  refine cS X240 hy hml hown hZ hw at_208 211 3 115 116 4 117 rfl rfl rfl rfl (rmdg l Z a0 hw [] x9_4 (100000000000 : Int64) h240 n0 (Nat.le_trans Z0 K240.1) (by decide)) e240 pd_20 rfl rfl fun _ T241 Lc241 X241 hQ241 => ?_
  obtain ⟨rfl, Nq241, hh241⟩ := hQ241
  have N241 := Fr.app N240 Nq241
  refine Ends.v ?_
  refine aSC X241 hy hZ hh241 wj at_211 212 ⟨by decide, by decide⟩ fun T243 h243 X243 e243 W243 => ?_
  rw [(own_nfdg _ _)] at W243
  have wb := wb.wr W243
  have wd := wd.wr W243
  have wa := wa.wr W243
  have wf := wf.wr W243
  have we := we.wr W243
  have hk := Nat.le_trans hk (Nat.le_of_eq W243.size.symm)
  have wl := wl.wr W243
  have wj : Arv Z h243 b219 k219 .char 22 [(.int (fdg x9_4 (1000000000000000000 : Int64))), (.int (fdg x9_4 (100000000000000000 : Int64))), (.int (fdg x9_4 (10000000000000000 : Int64))), (.int (fdg x9_4 (1000000000000000 : Int64))), (.int (fdg x9_4 (100000000000000 : Int64))), (.int (fdg x9_4 (10000000000000 : Int64))), (.int (fdg x9_4 (1000000000000 : Int64))), (.int (fdg x9_4 (100000000000 : Int64))), .int 0, .int 0, .int 0, .int 0, .int 0, .int 0, .int 0, .int 0, .int 0, .int 0, .int 0, .int 0, .int 0, .int 0] (.int 0) := As wj (own_fitc (own_nfdg _ _)) W243 7 rfl (Nat.le_of_ble_eq_true rfl)
  have K243 := K240.wr W243 (Or.inr wv)
  have N243 := Fr.snoc X243 N241 wH
  refine oxd X243 hy at_212 213 rfl (oH X243 hy at_213 215 8 rfl (oF X243 hy at_215 217 rfl (oJ2 X243 hy hown hZ hw at_217 220 10000000000 126 rfl ?_)))
  refine cS X243 hy hml hown hZ hw at_220 223 3 115 116 4 117 rfl rfl rfl rfl (rmdg l Z a0 hw [] x9_4 (10000000000 : Int64) h243 n0 (Nat.le_trans Z0 K243.1) (by decide)) e243 pd_20 rfl rfl fun _ T244 Lc244 X244 hQ244 => ?_
  obtain ⟨rfl, Nq244, hh244⟩ := hQ244
  have N244 := Fr.app N243 Nq244
  refine Ends.v ?_
  refine aSC X244 hy hZ hh244 wj at_223 224 ⟨by decide, by decide⟩ fun T246 h246 X246 e246 W246 => ?_
  rw [(own_nfdg _ _)] at W246
  have wb := wb.wr W246
  have wd := wd.wr W246
  have wa := wa.wr W246
  have wf := wf.wr W246
  have we := we.wr W246
  have hk := Nat.le_trans hk (Nat.le_of_eq W246.size.symm)
  have wl := wl.wr W246
  have wj : Arv Z h246 b219 k219 .char 22 [(.int (fdg x9_4 (1000000000000000000 : Int64))), (.int (fdg x9_4 (100000000000000000 : Int64))), (.int (fdg x9_4 (10000000000000000 : Int64))), (.int (fdg x9_4 (1000000000000000 : Int64))), (.int (fdg x9_4 (100000000000000 : Int64))), (.int (fdg x9_4 (10000000000000 : Int64))), (.int (fdg x9_4 (1000000000000 : Int64))), (.int (fdg x9_4 (100000000000 : Int64))), (.int (fdg x9_4 (10000000000 : Int64))), .int 0, .int 0, .int 0, .int 0, .int 0, .int 0, .int 0, .int 0, .int 0, .int 0, .int 0, .int 0, .int 0] (.int 0) := As wj (own_fitc (own_nfdg _ _)) W246 8 rfl (Nat.le_of_ble_eq_true rfl)
  have K246 := K243.wr W246 (Or.inr wv)
  have N246 := Fr.snoc X246 N244 wH
  refine oxd X246 hy at_224 225 rfl (oH X246 hy at_225 227 9 rfl (oF X246 hy at_227 229 rfl (oJ2 X246 hy hown hZ hw at_229 232 1000000000 127 rfl ?_)))
  refine cS X246 hy hml hown hZ hw at_232 235 3 115 116 4 117 rfl rfl rfl rfl (rmdg l Z a0 hw [] x9_4 (1000000000 : Int64) h246 n0 (Nat.le_trans Z0 K246.1) (by decide)) e246 pd_20 rfl rfl fun _ T247 Lc247 X247 hQ247 => ?_
  obtain ⟨rfl, Nq247, hh247⟩ := hQ247
  have N247 := Fr.app N246 Nq247
  refine Ends.v ?_
  refine aSC X247 hy hZ hh247 wj at_235 236 ⟨by decide, by decide⟩ fun T249 h249 X249 e249 W249 => ?_
  rw [(own_nfdg _ _)] at W249
  have wb := wb.wr W249
  have wd := wd.wr W249
  have wa := wa.wr W249
  have wf := wf.wr W249
  have we := we.wr W249
  have hk := Nat.le_trans hk (Nat.le_of_eq W249.size.symm)
  have wl := wl.wr W249
  have wj : Arv Z h249 b219 k219 .char 22 [(.int (fdg x9_4 (1000000000000000000 : Int64))), (.int (fdg x9_4 (100000000000000000 : Int64))), (.int (fdg x9_4 (10000000000000000 : Int64))), (.int (fdg x9_4 (1000000000000000 : Int64))), (.int (fdg x9_4 (100000000000000 : Int64))), (.int (fdg x9_4 (10000000000000 : Int64))), (.int (fdg x9_4 (1000000000000 : Int64))), (.int (fdg x9_4 (100000000000 : Int64))), (.int (fdg x9_4 (10000000000 : Int64))), (.int (fdg x9_4 (1000000000 : Int64))), .int 0, .int 0, .int 0, .int 0, .int 0, .int 0, .int 0, .int 0, .int 0, .int 0, .int 0, .int 0] (.int 0) := As wj (own_fitc (own_nfdg _ _)) W249 9 rfl (Nat.le_of_ble_eq_true rfl)
  have K249 := K246.wr W249 (Or.inr wv)
  have N249 := Fr.snoc X249 N247 wH
  refine oxd X249 hy at_236 237 rfl (oH X249 hy at_237 239 10 rfl (oF X249 hy at_239 241 rfl (oJ2 X249 hy hown hZ hw at_241 244 100000000 128 rfl ?_)))
  refine cS X249 hy hml hown hZ hw at_244 247 3 115 116 4 117 rfl rfl rfl rfl (rmdg l Z a0 hw [] x9_4 (100000000 : Int64) h249 n0 (Nat.le_trans Z0 K249.1) (by decide)) e249 pd_20 rfl rfl fun _ T250 Lc250 X250 hQ250 => ?_
  obtain ⟨rfl, Nq250, hh250⟩ := hQ250
  have N250 := Fr.app N249 Nq250
  refine Ends.v ?_
  refine aSC X250 hy hZ hh250 wj at_247 248 ⟨by decide, by decide⟩ fun T252 h252 X252 e252 W252 => ?_
  rw [(own_nfdg _ _)] at W252
  have wb := wb.wr W252
  have wd := wd.wr W252
  have wa := wa.wr W252
  have wf := wf.wr W252
  have we := we.wr W252
  have hk := Nat.le_trans hk (Nat.le_of_eq W252.size.symm)
  have wl := wl.wr W252
  have wj : Arv Z h252 b219 k219 .char 22 [(.int (fdg x9_4 (1000000000000000000 : Int64))), (.int (fdg x9_4 (100000000000000000 : Int64))), (.int (fdg x9_4 (10000000000000000 : Int64))), (.int (fdg x9_4 (1000000000000000 : Int64))), (.int (fdg x9_4 (100000000000000 : Int64))), (.int (fdg x9_4 (10000000000000 : Int64))), (.int (fdg x9_4 (1000000000000 : Int64))), (.int (fdg x9_4 (100000000000 : Int64))), (.int (fdg x9_4 (10000000000 : Int64))), (.int (fdg x9_4 (1000000000 : Int64))), (.int (fdg x9_4 (100000000 : Int64))), .int 0, .int 0, .int 0, .int 0, .int 0, .int 0, .int 0, .int 0, .int 0, .int 0, .int 0] (.int 0) := As wj (own_fitc (own_nfdg _ _)) W252 10 rfl (Nat.le_of_ble_eq_true rfl)
  have K252 := K249.wr W252 (Or.inr wv)
  have N252 := Fr.snoc X252 N250 wH
  refine oxd X252 hy at_248 249 rfl (oH X252 hy at_249 251 11 rfl (oF X252 hy at_251 253 rfl (oJ2 X252 hy hown hZ hw at_253 256 10000000 129 rfl ?_)))
  refine cS X252 hy hml hown hZ hw at_256 259 3 115 116 4 117 rfl rfl rfl rfl (rmdg l Z a0 hw [] x9_4 (10000000 : Int64) h252 n0 (Nat.le_trans Z0 K252.1) (by decide)) e252 pd_20 rfl rfl fun _ T253 Lc253 X253 hQ253 => ?_
  obtain ⟨rfl, Nq253, hh253⟩ := hQ253
  have N253 := Fr.app N252 Nq253
  refine Ends.v ?_
  refine aSC X253 hy hZ hh253 wj at_259 260 ⟨by decide, by decide⟩ fun T255 h255 X255 e255 W255 => ?_
  rw [(own_nfdg _ _)] at W255
  have wb := wb.wr W255
  have wd := wd.wr W255
  have wa := wa.wr W255
  have wf := wf.wr W255
  have we := we.wr W255
  have hk := Nat.le_trans hk (Nat.le_of_eq W255.size.symm)
  have wl := wl.wr W255
  have wj : Arv Z h255 b219 k219 .char 22 [(.int (fdg x9_4 (1000000000000000000 : Int64))), (.int (fdg x9_4 (100000000000000000 : Int64))), (.int (fdg x9_4 (10000000000000000 : Int64))), (.int (fdg x9_4 (1000000000000000 : Int64))), (.int (fdg x9_4 (100000000000000 : Int64))), (.int (fdg x9_4 (10000000000000 : Int64))), (.int (fdg x9_4 (1000000000000 : Int64))), (.int (fdg x9_4 (100000000000 : Int64))), (.int (fdg x9_4 (10000000000 : Int64))), (.int (fdg x9_4 (1000000000 : Int64))), (.int (fdg x9_4 (100000000 : Int64))), (.int (fdg x9_4 (10000000 : Int64))), .int 0, .int 0, .int 0, .int 0, .int 0, .int 0, .int 0, .int 0, .int 0, .int 0] (.int 0) := As wj (own_fitc (own_nfdg _ _)) W255 11 rfl (Nat.le_of_ble_eq_true rfl)
  have K255 := K252.wr W255 (Or.inr wv)
  have N255 := Fr.snoc X255 N253 wH
  refine oxd X255 hy at_260 261 rfl (oH X255 hy at_261 263 12 rfl (oF X255 hy at_263 265 rfl (oJ2 X255 hy hown hZ hw at_265 268 1000000 130 rfl ?_)))
  refine cS X255 hy hml hown hZ hw at_268 271 3 115 116 4 117 rfl rfl rfl rfl (rmdg l Z a0 hw [] x9_4 (1000000 : Int64) h255 n0 (Nat.le_trans Z0 K255.1) (by decide)) e255 pd_20 rfl rfl fun _ T256 Lc256 X256 hQ256 => ?_
  obtain ⟨rfl, Nq256, hh256⟩ := hQ256
  have N256 := Fr.app N255 Nq256
  refine Ends.v ?_
  refine aSC X256 hy hZ hh256 wj at_271 272 ⟨by decide, by decide⟩ fun T258 h258 X258 e258 W258 => ?_
  rw [(own_nfdg _ _)] at W258
  have wb := wb.wr W258
  have wd := wd.wr W258
  have wa := wa.wr W258
  have wf := wf.wr W258
  have we := we.wr W258
  have hk := Nat.le_trans hk (Nat.le_of_eq W258.size.symm)
  have wl := wl.wr W258
  have wj : Arv Z h258 b219 k219 .char 22 [(.int (fdg x9_4 (1000000000000000000 : Int64))), (.int (fdg x9_4 (100000000000000000 : Int64))), (.int (fdg x9_4 (10000000000000000 : Int64))), (.int (fdg x9_4 (1000000000000000 : Int64))), (.int (fdg x9_4 (100000000000000 : Int64))), (.int (fdg x9_4 (10000000000000 : Int64))), (.int (fdg x9_4 (1000000000000 : Int64))), (.int (fdg x9_4 (100000000000 : Int64))), (.int (fdg x9_4 (10000000000 : Int64))), (.int (fdg x9_4 (1000000000 : Int64))), (.int (fdg x9_4 (100000000 : Int64))), (.int (fdg x9_4 (10000000 : Int64))), (.int (fdg x9_4 (1000000 : Int64))), .int 0, .int 0, .int 0, .int 0, .int 0, .int 0, .int 0, .int 0, .int 0] (.int 0) := As wj (own_fitc (own_nfdg _ _)) W258 12 rfl (Nat.le_of_ble_eq_true rfl)
  have K258 := K255.wr W258 (Or.inr wv)
  have N258 := Fr.snoc X258 N256 wH
  refine oxd X258 hy at_272 273 rfl (oH X258 hy at_273 275 13 rfl (oF X258 hy at_275 277 rfl (oJ2 X258 hy hown hZ hw at_277 280 100000 131 rfl ?_)))
  refine cS X258 hy hml hown hZ hw at_280 283 3 115 116 4 117 rfl rfl rfl rfl (rmdg l Z a0 hw [] x9_4 (100000 : Int64) h258 n0 (Nat.le_trans Z0 K258.1) (by decide)) e258 pd_20 rfl rfl fun _ T259 Lc259 X259 hQ259 => ?_
  obtain ⟨rfl, Nq259, hh259⟩ := hQ259
  have N259 := Fr.app N258 Nq259
  refine Ends.v ?_
  refine aSC X259 hy hZ hh259 wj at_283 284 ⟨by decide, by decide⟩ fun T261 h261 X261 e261 W261 => ?_
  rw [(own_nfdg _ _)] at W261
  have wb := wb.wr W261
  have wd := wd.wr W261
  have wa := wa.wr W261
  have wf := wf.wr W261
  have we := we.wr W261
  have hk := Nat.le_trans hk (Nat.le_of_eq W261.size.symm)
  have wl := wl.wr W261
  have wj : Arv Z h261 b219 k219 .char 22 [(.int (fdg x9_4 (1000000000000000000 : Int64))), (.int (fdg x9_4 (100000000000000000 : Int64))), (.int (fdg x9_4 (10000000000000000 : Int64))), (.int (fdg x9_4 (1000000000000000 : Int64))), (.int (fdg x9_4 (100000000000000 : Int64))), (.int (fdg x9_4 (10000000000000 : Int64))), (.int (fdg x9_4 (1000000000000 : Int64))), (.int (fdg x9_4 (100000000000 : Int64))), (.int (fdg x9_4 (10000000000 : Int64))), (.int (fdg x9_4 (1000000000 : Int64))), (.int (fdg x9_4 (100000000 : Int64))), (.int (fdg x9_4 (10000000 : Int64))), (.int (fdg x9_4 (1000000 : Int64))), (.int (fdg x9_4 (100000 : Int64))), .int 0, .int 0, .int 0, .int 0, .int 0, .int 0, .int 0, .int 0] (.int 0) := As wj (own_fitc (own_nfdg _ _)) W261 13 rfl (Nat.le_of_ble_eq_true rfl)
  have K261 := K258.wr W261 (Or.inr wv)
  have N261 := Fr.snoc X261 N259 wH
  refine oxd X261 hy at_284 285 rfl (oH X261 hy at_285 287 14 rfl (oF X261 hy at_287 289 rfl (oJ2 X261 hy hown hZ hw at_289 292 10000 132 rfl ?_)))
  refine cS X261 hy hml hown hZ hw at_292 295 3 115 116 4 117 rfl rfl rfl rfl (rmdg l Z a0 hw [] x9_4 (10000 : Int64) h261 n0 (Nat.le_trans Z0 K261.1) (by decide)) e261 pd_20 rfl rfl fun _ T262 Lc262 X262 hQ262 => ?_
  obtain ⟨rfl, Nq262, hh262⟩ := hQ262
  have N262 := Fr.app N261 Nq262
  refine Ends.v ?_
  refine aSC X262 hy hZ hh262 wj at_295 296 ⟨by decide, by decide⟩ fun T264 h264 X264 e264 W264 => ?_
  rw [(own_nfdg _ _)] at W264
  have wb := wb.wr W264
  have wd := wd.wr W264
  have wa := wa.wr W264
  have wf := wf.wr W264
  have we := we.wr W264
  have hk := Nat.le_trans hk (Nat.le_of_eq W264.size.symm)
  have wl := wl.wr W264
  have wj : Arv Z h264 b219 k219 .char 22 [(.int (fdg x9_4 (1000000000000000000 : Int64))), (.int (fdg x9_4 (100000000000000000 : Int64))), (.int (fdg x9_4 (10000000000000000 : Int64))), (.int (fdg x9_4 (1000000000000000 : Int64))), (.int (fdg x9_4 (100000000000000 : Int64))), (.int (fdg x9_4 (10000000000000 : Int64))), (.int (fdg x9_4 (1000000000000 : Int64))), (.int (fdg x9_4 (100000000000 : Int64))), (.int (fdg x9_4 (10000000000 : Int64))), (.int (fdg x9_4 (1000000000 : Int64))), (.int (fdg x9_4 (100000000 : Int64))), (.int (fdg x9_4 (10000000 : Int64))), (.int (fdg x9_4 (1000000 : Int64))), (.int (fdg x9_4 (100000 : Int64))), (.int (fdg x9_4 (10000 : Int64))), .int 0, .int 0, .int 0, .int 0, .int 0, .int 0, .int 0] (.int 0) := As wj (own_fitc (own_nfdg _ _)) W264 14 rfl (Nat.le_of_ble_eq_true rfl)
  have K264 := K261.wr W264 (Or.inr wv)
  have N264 := Fr.snoc X264 N262 wH
  refine oxd X264 hy at_296 297 rfl (oH X264 hy at_297 299 15 rfl (oF X264 hy at_299 301 rfl (oJ2 X264 hy hown hZ hw at_301 304 1000 133 rfl ?_)))
  refine cS X264 hy hml hown hZ hw at_304 307 3 115 116 4 117 rfl rfl rfl rfl (rmdg l Z a0 hw [] x9_4 (1000 : Int64) h264 n0 (Nat.le_trans Z0 K264.1) (by decide)) e264 pd_20 rfl rfl fun _ T265 Lc265 X265 hQ265 => ?_
  obtain ⟨rfl, Nq265, hh265⟩ := hQ265
  have N265 := Fr.app N264 Nq265
  refine Ends.v ?_
  refine aSC X265 hy hZ hh265 wj at_307 308 ⟨by decide, by decide⟩ fun T267 h267 X267 e267 W267 => ?_
  rw [(own_nfdg _ _)] at W267
  have wb := wb.wr W267
  have wd := wd.wr W267
  have wa := wa.wr W267
  have wf := wf.wr W267
  have we := we.wr W267
  have hk := Nat.le_trans hk (Nat.le_of_eq W267.size.symm)
  have wl := wl.wr W267
  have wj : Arv Z h267 b219 k219 .char 22 [(.int (fdg x9_4 (1000000000000000000 : Int64))), (.int (fdg x9_4 (100000000000000000 : Int64))), (.int (fdg x9_4 (10000000000000000 : Int64))), (.int (fdg x9_4 (1000000000000000 : Int64))), (.int (fdg x9_4 (100000000000000 : Int64))), (.int (fdg x9_4 (10000000000000 : Int64))), (.int (fdg x9_4 (1000000000000 : Int64))), (.int (fdg x9_4 (100000000000 : Int64))), (.int (fdg x9_4 (10000000000 : Int64))), (.int (fdg x9_4 (1000000000 : Int64))), (.int (fdg x9_4 (100000000 : Int64))), (.int (fdg x9_4 (10000000 : Int64))), (.int (fdg x9_4 (1000000 : Int64))), (.int (fdg x9_4 (100000 : Int64))), (.int (fdg x9_4 (10000 : Int64))), (.int (fdg x9_4 (1000 : Int64))), .int 0, .int 0, .int 0, .int 0, .int 0, .int 0] (.int 0) := As wj (own_fitc (own_nfdg _ _)) W267 15 rfl (Nat.le_of_ble_eq_true rfl)
  have K267 := K264.wr W267 (Or.inr wv)
  have N267 := Fr.snoc X267 N265 wH
  refine oxd X267 hy at_308 309 rfl (oH X267 hy at_309 311 16 rfl (oF X267 hy at_311 313 rfl (oJ2 X267 hy hown hZ hw at_313 316 100 134 rfl ?_)))
  refine cS X267 hy hml hown hZ hw at_316 319 3 115 116 4 117 rfl rfl rfl rfl (rmdg l Z a0 hw [] x9_4 (100 : Int64) h267 n0 (Nat.le_trans Z0 K267.1) (by decide)) e267 pd_20 rfl rfl fun _ T268 Lc268 X268 hQ268 => ?_
  obtain ⟨rfl, Nq268, hh268⟩ := hQ268
  have N268 := Fr.app N267 Nq268
  refine Ends.v ?_
  refine aSC X268 hy hZ hh268 wj at_319 320 ⟨by decide, by decide⟩ fun T270 h270 X270 e270 W270 => ?_
  rw [(own_nfdg _ _)] at W270
  have wb := wb.wr W270
  have wd := wd.wr W270
  have wa := wa.wr W270
  have wf := wf.wr W270
  have we := we.wr W270
  have hk := Nat.le_trans hk (Nat.le_of_eq W270.size.symm)
  have wl := wl.wr W270
  have wj : Arv Z h270 b219 k219 .char 22 [(.int (fdg x9_4 (1000000000000000000 : Int64))), (.int (fdg x9_4 (100000000000000000 : Int64))), (.int (fdg x9_4 (10000000000000000 : Int64))), (.int (fdg x9_4 (1000000000000000 : Int64))), (.int (fdg x9_4 (100000000000000 : Int64))), (.int (fdg x9_4 (10000000000000 : Int64))), (.int (fdg x9_4 (1000000000000 : Int64))), (.int (fdg x9_4 (100000000000 : Int64))), (.int (fdg x9_4 (10000000000 : Int64))), (.int (fdg x9_4 (1000000000 : Int64))), (.int (fdg x9_4 (100000000 : Int64))), (.int (fdg x9_4 (10000000 : Int64))), (.int (fdg x9_4 (1000000 : Int64))), (.int (fdg x9_4 (100000 : Int64))), (.int (fdg x9_4 (10000 : Int64))), (.int (fdg x9_4 (1000 : Int64))), (.int (fdg x9_4 (100 : Int64))), .int 0, .int 0, .int 0, .int 0, .int 0] (.int 0) := As wj (own_fitc (own_nfdg _ _)) W270 16 rfl (Nat.le_of_ble_eq_true rfl)
  have K270 := K267.wr W270 (Or.inr wv)
  have N270 := Fr.snoc X270 N268 wH
  refine oxd X270 hy at_320 321 rfl (oH X270 hy at_321 323 17 rfl (oF X270 hy at_323 325 rfl (oJ2 X270 hy hown hZ hw at_325 328 10 118 rfl ?_)))
  refine cS X270 hy hml hown hZ hw at_328 331 3 115 116 4 117 rfl rfl rfl rfl (rmdg l Z a0 hw [] x9_4 (10 : Int64) h270 n0 (Nat.le_trans Z0 K270.1) (by decide)) e270 pd_20 rfl rfl fun _ T271 Lc271 X271 hQ271 => ?_
  obtain ⟨rfl, Nq271, hh271⟩ := hQ271
  have N271 := Fr.app N270 Nq271
  refine Ends.v ?_
  refine aSC X271 hy hZ hh271 wj at_331 332 ⟨by decide, by decide⟩ fun T273 h273 X273 e273 W273 => ?_
  rw [(own_nfdg _ _)] at W273
  have wb := wb.wr W273
  have wd := wd.wr W273
  have wa := wa.wr W273
  have wf := wf.wr W273
  have we := we.wr W273
  have hk := Nat.le_trans hk (Nat.le_of_eq W273.size.symm)
  have wl := wl.wr W273
  have wj : Arv Z h273 b219 k219 .char 22 [(.int (fdg x9_4 (1000000000000000000 : Int64))), (.int (fdg x9_4 (100000000000000000 : Int64))), (.int (fdg x9_4 (10000000000000000 : Int64))), (.int (fdg x9_4 (1000000000000000 : Int64))), (.int (fdg x9_4 (100000000000000 : Int64))), (.int (fdg x9_4 (10000000000000 : Int64))), (.int (fdg x9_4 (1000000000000 : Int64))), (.int (fdg x9_4 (100000000000 : Int64))), (.int (fdg x9_4 (10000000000 : Int64))), (.int (fdg x9_4 (1000000000 : Int64))), (.int (fdg x9_4 (100000000 : Int64))), (.int (fdg x9_4 (10000000 : Int64))), (.int (fdg x9_4 (1000000 : Int64))), (.int (fdg x9_4 (100000 : Int64))), (.int (fdg x9_4 (10000 : Int64))), (.int (fdg x9_4 (1000 : Int64))), (.int (fdg x9_4 (100 : Int64))), (.int (fdg x9_4 (10 : Int64))), .int 0, .int 0, .int 0, .int 0] (.int 0) := As wj (own_fitc (own_nfdg _ _)) W273 17 rfl (Nat.le_of_ble_eq_true rfl)
  have K273 := K270.wr W273 (Or.inr wv)
  have N273 := Fr.snoc X273 N271 wH
  refine oxd X273 hy at_332 333 rfl (oH X273 hy at_333 335 18 rfl (oF X273 hy at_335 337 rfl (oJ X273 hy at_337 338 1 rfl ?_)))
  refine cS X273 hy hml hown hZ hw at_338 341 3 115 116 4 117 rfl rfl rfl rfl (rmdg l Z a0 hw [] x9_4 (1 : Int64) h273 n0 (Nat.le_trans Z0 K273.1) (by decide)) e273 pd_20 rfl rfl fun _ T274 Lc274 X274 hQ274 => ?_
  obtain ⟨rfl, Nq274, hh274⟩ := hQ274
  have N274 := Fr.app N273 Nq274
  refine Ends.v ?_
  refine aSC X274 hy hZ hh274 wj at_341 342 ⟨by decide, by decide⟩ fun T276 h276 X276 e276 W276 => ?_
  rw [(own_nfdg _ _)] at W276
  have wb := wb.wr W276
  have wd := wd.wr W276
  have wa := wa.wr W276
  have wf := wf.wr W276
  have we := we.wr W276
  have hk := Nat.le_trans hk (Nat.le_of_eq W276.size.symm)
  have wl := wl.wr W276
  have wj : Arv Z h276 b219 k219 .char 22 [(.int (fdg x9_4 (1000000000000000000 : Int64))), (.int (fdg x9_4 (100000000000000000 : Int64))), (.int (fdg x9_4 (10000000000000000 : Int64))), (.int (fdg x9_4 (1000000000000000 : Int64))), (.int (fdg x9_4 (100000000000000 : Int64))), (.int (fdg x9_4 (10000000000000 : Int64))), (.int (fdg x9_4 (1000000000000 : Int64))), (.int (fdg x9_4 (100000000000 : Int64))), (.int (fdg x9_4 (10000000000 : Int64))), (.int (fdg x9_4 (1000000000 : Int64))), (.int (fdg x9_4 (100000000 : Int64))), (.int (fdg x9_4 (10000000 : Int64))), (.int (fdg x9_4 (1000000 : Int64))), (.int (fdg x9_4 (100000 : Int64))), (.int (fdg x9_4 (10000 : Int64))), (.int (fdg x9_4 (1000 : Int64))), (.int (fdg x9_4 (100 : Int64))), (.int (fdg x9_4 (10 : Int64))), (.int (fdg x9_4 (1 : Int64))), .int 0, .int 0, .int 0] (.int 0) := As wj (own_fitc (own_nfdg _ _)) W276 18 rfl (Nat.le_of_ble_eq_true rfl)
  have K276 := K273.wr W276 (Or.inr wv)
  have N276 := Fr.snoc X276 N274 wH
  refine oxd X276 hy at_342 343 rfl (oH X276 hy at_343 345 19 rfl (oD X276 hy at_345 347 rfl ?_))
  refine aSC X276 hy hZ e276 wj at_347 348 ⟨by decide, by decide⟩ fun T278 h278 X278 e278 W278 => ?_
  rw [(own_ncv hv6_1)] at W278
  have wb := wb.wr W278
  have wd := wd.wr W278
  have wa := wa.wr W278
  have wf := wf.wr W278
  have we := we.wr W278
  have hk := Nat.le_trans hk (Nat.le_of_eq W278.size.symm)
  have wl := wl.wr W278
  have wj : Arv Z h278 b219 k219 .char 22 [(.int (fdg x9_4 (1000000000000000000 : Int64))), (.int (fdg x9_4 (100000000000000000 : Int64))), (.int (fdg x9_4 (10000000000000000 : Int64))), (.int (fdg x9_4 (1000000000000000 : Int64))), (.int (fdg x9_4 (100000000000000 : Int64))), (.int (fdg x9_4 (10000000000000 : Int64))), (.int (fdg x9_4 (1000000000000 : Int64))), (.int (fdg x9_4 (100000000000 : Int64))), (.int (fdg x9_4 (10000000000 : Int64))), (.int (fdg x9_4 (1000000000 : Int64))), (.int (fdg x9_4 (100000000 : Int64))), (.int (fdg x9_4 (10000000 : Int64))), (.int (fdg x9_4 (1000000 : Int64))), (.int (fdg x9_4 (100000 : Int64))), (.int (fdg x9_4 (10000 : Int64))), (.int (fdg x9_4 (1000 : Int64))), (.int (fdg x9_4 (100 : Int64))), (.int (fdg x9_4 (10 : Int64))), (.int (fdg x9_4 (1 : Int64))), .int x6_1, .int 0, .int 0] (.int 0) := As wj (own_fitc (own_ncv hv6_1)) W278 19 rfl (Nat.le_of_ble_eq_true rfl)
  have K278 := K276.wr W278 (Or.inr wv)
  have N278 := Fr.snoc X278 N276 wH
  refine oxd X278 hy at_348 349 rfl (oH X278 hy at_349 351 20 rfl (oD X278 hy at_351 353 rfl ?_))
  refine aSC X278 hy hZ e278 wj at_353 354 ⟨by decide, by decide⟩ fun T280 h280 X280 e280 W280 => ?_
  rw [(own_ncv hv7_2)] at W280
  have wb := wb.wr W280
  have wd := wd.wr W280
  have wa := wa.wr W280
  have wf := wf.wr W280
  have we := we.wr W280
  have hk := Nat.le_trans hk (Nat.le_of_eq W280.size.symm)
  have wl := wl.wr W280
  have wj : Arv Z h280 b219 k219 .char 22 [(.int (fdg x9_4 (1000000000000000000 : Int64))), (.int (fdg x9_4 (100000000000000000 : Int64))), (.int (fdg x9_4 (10000000000000000 : Int64))), (.int (fdg x9_4 (1000000000000000 : Int64))), (.int (fdg x9_4 (100000000000000 : Int64))), (.int (fdg x9_4 (10000000000000 : Int64))), (.int (fdg x9_4 (1000000000000 : Int64))), (.int (fdg x9_4 (100000000000 : Int64))), (.int (fdg x9_4 (10000000000 : Int64))), (.int (fdg x9_4 (1000000000 : Int64))), (.int (fdg x9_4 (100000000 : Int64))), (.int (fdg x9_4 (10000000 : Int64))), (.int (fdg x9_4 (1000000 : Int64))), (.int (fdg x9_4 (100000 : Int64))), (.int (fdg x9_4 (10000 : Int64))), (.int (fdg x9_4 (1000 : Int64))), (.int (fdg x9_4 (100 : Int64))), (.int (fdg x9_4 (10 : Int64))), (.int (fdg x9_4 (1 : Int64))), .int x6_1, .int x7_2, .int 0] (.int 0) := As wj (own_fitc (own_ncv hv7_2)) W280 20 rfl (Nat.le_of_ble_eq_true rfl)
  have K280 := K278.wr W280 (Or.inr wv)
  have N280 := Fr.snoc X280 N278 wH
  refine oxd X280 hy at_354 355 rfl (oH X280 hy at_355 357 21 rfl (oD X280 hy at_357 359 rfl ?_))
  refine aSC X280 hy hZ e280 wj at_359 360 ⟨by decide, by decide⟩ fun T282 h282 X282 e282 W282 => ?_
  rw [(own_ncv hv8_3)] at W282
  have wb := wb.wr W282
  have wd := wd.wr W282
  have wa := wa.wr W282
  have wf := wf.wr W282
  have we := we.wr W282
  have hk := Nat.le_trans hk (Nat.le_of_eq W282.size.symm)
  have wl := wl.wr W282
  have wj : Arv Z h282 b219 k219 .char 22 [(.int (fdg x9_4 (1000000000000000000 : Int64))), (.int (fdg x9_4 (100000000000000000 : Int64))), (.int (fdg x9_4 (10000000000000000 : Int64))), (.int (fdg x9_4 (1000000000000000 : Int64))), (.int (fdg x9_4 (100000000000000 : Int64))), (.int (fdg x9_4 (10000000000000 : Int64))), (.int (fdg x9_4 (1000000000000 : Int64))), (.int (fdg x9_4 (100000000000 : Int64))), (.int (fdg x9_4 (10000000000 : Int64))), (.int (fdg x9_4 (1000000000 : Int64))), (.int (fdg x9_4 (100000000 : Int64))), (.int (fdg x9_4 (10000000 : Int64))), (.int (fdg x9_4 (1000000 : Int64))), (.int (fdg x9_4 (100000 : Int64))), (.int (fdg x9_4 (10000 : Int64))), (.int (fdg x9_4 (1000 : Int64))), (.int (fdg x9_4 (100 : Int64))), (.int (fdg x9_4 (10 : Int64))), (.int (fdg x9_4 (1 : Int64))), .int x6_1, .int x7_2, .int x8_3] (.int 0) := As wj (own_fitc (own_ncv hv8_3)) W282 21 rfl (Nat.le_of_ble_eq_true rfl)
  have K282 := K280.wr W282 (Or.inr wv)
  have N282 := Fr.snoc X282 N280 wH
  refine Ends.step (fun _ k => XS.astore X282.here hx rfl (hb hby at_360) rfl rfl (l' := #[iv p0, iv p1, iv p2, iv p3, jv q4, ss, iv x6_1, iv x7_2, iv x8_3, jv x9_4, ss, rv b219, uu, uu, uu, uu]) rfl k) ?_
  have wj : Arv Z h282 b219 k219 .char 22 (own_L (22 : Int32).toNatClampNeg (own_lit [(fdg x9_4 (1000000000000000000 : Int64)), (fdg x9_4 (100000000000000000 : Int64)), (fdg x9_4 (10000000000000000 : Int64)), (fdg x9_4 (1000000000000000 : Int64)), (fdg x9_4 (100000000000000 : Int64)), (fdg x9_4 (10000000000000 : Int64)), (fdg x9_4 (1000000000000 : Int64)), (fdg x9_4 (100000000000 : Int64)), (fdg x9_4 (10000000000 : Int64)), (fdg x9_4 (1000000000 : Int64)), (fdg x9_4 (100000000 : Int64)), (fdg x9_4 (10000000 : Int64)), (fdg x9_4 (1000000 : Int64)), (fdg x9_4 (100000 : Int64)), (fdg x9_4 (10000 : Int64)), (fdg x9_4 (1000 : Int64)), (fdg x9_4 (100 : Int64)), (fdg x9_4 (10 : Int64)), (fdg x9_4 (1 : Int64)), x6_1, x7_2, x8_3])) (.int 0) := by rw [own_cv22]; exact wj
  show Ends p e below QQ (T282.setTop (mkF m 362 #[iv p0, iv p1, iv p2, iv p3, jv q4, ss, iv x6_1, iv x7_2, iv x8_3, jv x9_4, ss, rv b219, uu, uu, uu, uu] []))
  refine oD X282 hy at_362 364 rfl ?_
  refine cS X282 hy hml hown hZ hw at_364 367 0 38 39 4 40 rfl rfl rfl rfl (rmisd l Z a0 hw [] x6_1 h282 n0 (Nat.le_trans Z0 K282.1)) e282 pd_0 rfl rfl fun _ T283 Lc283 X283 hQ283 => ?_
  obtain ⟨rfl, Nq283, hh283⟩ := hQ283
  have N283 := Fr.app N282 Nq283
  refine Ends.v ?_
  by_cases hc367_284 : (fisd x6_1) = (0 : Int32)
  ·refine oxk X283 hy at_367 386 (XT.i0_eq_t hc367_284) (oJ2 X283 hy hown hZ hw at_386 389 (-1) 6 rfl (oxq X283 hy at_389 391 #[iv p0, iv p1, iv p2, iv p3, jv q4, ss, iv x6_1, iv x7_2, iv x8_3, jv x9_4, ss, rv b219, jv (-1), ss, uu, uu] rfl (oxm X283 hy at_391 484 ?_)))
   obtain ⟨T285, h285, X285, e285, E285, A285, D285, U285, st285⟩ := newO X283 hx hZ hown (tb hw 7 rfl) (tb hw 8 rfl) (tb hw 9 rfl) hh283 (g := (mkF m 484 #[iv p0, iv p1, iv p2, iv p3, jv q4, ss, iv x6_1, iv x7_2, iv x8_3, jv x9_4, ss, rv b219, jv (-1), ss, uu, uu] [])) rfl (hb hby at_484) (by decide) (by decide)
   obtain ⟨b285, g285⟩ : ∃ z, z = h282.size := ⟨_, rfl⟩
   rw [← g285] at A285 D285 U285 st285
   have wY : b219 ≠ b285 := Nat.ne_of_lt (Nat.lt_of_lt_of_le wl.lt (Nat.le_of_eq g285.symm))
   have vE : n0 ≤ b285 := Nat.le_trans Z0 (Nat.le_trans K282.1 (Nat.le_of_eq g285.symm))
   have vw : h0.size ≤ b285 := Nat.le_trans K282.1 (Nat.le_of_eq g285.symm)
   have wb := wb.ext E285
   have wd := wd.ext E285
   have wa := wa.ext E285
   have wf := wf.ext E285
   have we := we.ext E285
   have hk := Nat.le_trans hk E285.1
   have wj := wj.ext E285
   have K285 := K282.ext E285
   have wt := A285
   have wA : fBQ Z h285 b285 .null := D285 (Or.inr (tb hw 22 rfl)) (ty := (.array .byte)) (by decide)
   have wF : fAQ Z h285 b285 (.int 0) := D285 (Or.inr (tb hw 23 rfl)) (ty := .byte) (by decide)
   refine Ends.j 487 [.ref b285] st285 ?_
   refine Ends.step (fun _ k => XS.dup X285.here hx rfl (hb hby at_487) rfl rfl k) ?_
   by_cases hs488_286 : (255 : Int32) < x6_1
   ·show Ends p e below QQ (T285.setTop (mkF m 488 #[iv p0, iv p1, iv p2, iv p3, jv q4, ss, iv x6_1, iv x7_2, iv x8_3, jv x9_4, ss, rv b219, jv (-1), ss, uu, uu] [.ref b285, .ref b285]))
    refine oB X285 hy at_488 490 rfl ?_
    refine cI X285 hy hml hown hZ hw at_490 493 1 10 11 12 9 rfl rfl rfl rfl rfl (rmscU l Z a0 hw [] b285 b219 (.null : Value) (0 : Int32) k219 cs (own_lit [(fdg x9_4 (1000000000000000000 : Int64)), (fdg x9_4 (100000000000000000 : Int64)), (fdg x9_4 (10000000000000000 : Int64)), (fdg x9_4 (1000000000000000 : Int64)), (fdg x9_4 (100000000000000 : Int64)), (fdg x9_4 (10000000000000 : Int64)), (fdg x9_4 (1000000000000 : Int64)), (fdg x9_4 (100000000000 : Int64)), (fdg x9_4 (10000000000 : Int64)), (fdg x9_4 (1000000000 : Int64)), (fdg x9_4 (100000000 : Int64)), (fdg x9_4 (10000000 : Int64)), (fdg x9_4 (1000000 : Int64)), (fdg x9_4 (100000 : Int64)), (fdg x9_4 (10000 : Int64)), (fdg x9_4 (1000 : Int64)), (fdg x9_4 (100 : Int64)), (fdg x9_4 (10 : Int64)), (fdg x9_4 (1 : Int64)), x6_1, x7_2, x8_3]) 19 (22 : Int32) h285 n0 (Nat.le_trans Z0 K285.1) wt wA wF vE (Ne.symm wY) wj (by decide) (by decide) (own_lbd (List.forall_mem_cons.mpr ⟨(own_dgb _ _), (List.forall_mem_cons.mpr ⟨(own_dgb _ _), (List.forall_mem_cons.mpr ⟨(own_dgb _ _), (List.forall_mem_cons.mpr ⟨(own_dgb _ _), (List.forall_mem_cons.mpr ⟨(own_dgb _ _), (List.forall_mem_cons.mpr ⟨(own_dgb _ _), (List.forall_mem_cons.mpr ⟨(own_dgb _ _), (List.forall_mem_cons.mpr ⟨(own_dgb _ _), (List.forall_mem_cons.mpr ⟨(own_dgb _ _), (List.forall_mem_cons.mpr ⟨(own_dgb _ _), (List.forall_mem_cons.mpr ⟨(own_dgb _ _), (List.forall_mem_cons.mpr ⟨(own_dgb _ _), (List.forall_mem_cons.mpr ⟨(own_dgb _ _), (List.forall_mem_cons.mpr ⟨(own_dgb _ _), (List.forall_mem_cons.mpr ⟨(own_dgb _ _), (List.forall_mem_cons.mpr ⟨(own_dgb _ _), (List.forall_mem_cons.mpr ⟨(own_dgb _ _), (List.forall_mem_cons.mpr ⟨(own_dgb _ _), (List.forall_mem_cons.mpr ⟨(own_dgb _ _), (List.forall_mem_cons.mpr ⟨(own_cb hv6_1), (List.forall_mem_cons.mpr ⟨(own_cb hv7_2), (List.forall_mem_cons.mpr ⟨(own_cb hv8_3), (fun x hx => nomatch hx)⟩)⟩)⟩)⟩)⟩)⟩)⟩)⟩)⟩)⟩)⟩)⟩)⟩)⟩)⟩)⟩)⟩)⟩)⟩)⟩)⟩)⟩)) (own_lpre (pre := [(fdg x9_4 (1000000000000000000 : Int64)), (fdg x9_4 (100000000000000000 : Int64)), (fdg x9_4 (10000000000000000 : Int64)), (fdg x9_4 (1000000000000000 : Int64)), (fdg x9_4 (100000000000000 : Int64)), (fdg x9_4 (10000000000000 : Int64)), (fdg x9_4 (1000000000000 : Int64)), (fdg x9_4 (100000000000 : Int64)), (fdg x9_4 (10000000000 : Int64)), (fdg x9_4 (1000000000 : Int64)), (fdg x9_4 (100000000 : Int64)), (fdg x9_4 (10000000 : Int64)), (fdg x9_4 (1000000 : Int64)), (fdg x9_4 (100000 : Int64)), (fdg x9_4 (10000 : Int64)), (fdg x9_4 (1000 : Int64)), (fdg x9_4 (100 : Int64)), (fdg x9_4 (10 : Int64)), (fdg x9_4 (1 : Int64))]) (post := [x6_1, x7_2, x8_3]) (P := fun z => ¬ (255 : Int32) < z) (List.forall_mem_cons.mpr ⟨(own_dgle _ _), (List.forall_mem_cons.mpr ⟨(own_dgle _ _), (List.forall_mem_cons.mpr ⟨(own_dgle _ _), (List.forall_mem_cons.mpr ⟨(own_dgle _ _), (List.forall_mem_cons.mpr ⟨(own_dgle _ _), (List.forall_mem_cons.mpr ⟨(own_dgle _ _), (List.forall_mem_cons.mpr ⟨(own_dgle _ _), (List.forall_mem_cons.mpr ⟨(own_dgle _ _), (List.forall_mem_cons.mpr ⟨(own_dgle _ _), (List.forall_mem_cons.mpr ⟨(own_dgle _ _), (List.forall_mem_cons.mpr ⟨(own_dgle _ _), (List.forall_mem_cons.mpr ⟨(own_dgle _ _), (List.forall_mem_cons.mpr ⟨(own_dgle _ _), (List.forall_mem_cons.mpr ⟨(own_dgle _ _), (List.forall_mem_cons.mpr ⟨(own_dgle _ _), (List.forall_mem_cons.mpr ⟨(own_dgle _ _), (List.forall_mem_cons.mpr ⟨(own_dgle _ _), (List.forall_mem_cons.mpr ⟨(own_dgle _ _), (List.forall_mem_cons.mpr ⟨(own_dgle _ _), (fun x hx => nomatch hx)⟩)⟩)⟩)⟩)⟩)⟩)⟩)⟩)⟩)⟩)⟩)⟩)⟩)⟩)⟩)⟩)⟩)⟩)⟩)) hs488_286 (by decide) wa wf we wb hcs) e285 pd_18 rfl rfl fun _ T287 Lc287 X287 hQ287 => ?_
    obtain ⟨b_287, k2_287, rfl, Nq287, Kq287, fq287_0, g_b_287, fq287_2, wA, wF, fq287_5, kR⟩ := hQ287
    have N287 := Fr.app N283 Nq287
    have wb := own_sta_keep wb Kq287 (allS wt.cell all0)
    have wd := own_sta_keep wd Kq287 (allS wt.cell all0)
    have wa := own_sta_keep wa Kq287 (allS wt.cell all0)
    have wf := own_sta_keep wf Kq287 (allS wt.cell all0)
    have we := own_sta_keep we Kq287 (allS wt.cell all0)
    have hk := Nat.le_trans hk Kq287.1
    have wt := fq287_2
    have K287 := K285.trans Kq287 (allS (Or.inr vw) all0)
    refine Ends.u ?_
    refine cS X287 hy hml hown hZ hw at_493 496 0 28 29 30 31 rfl rfl rfl rfl (rmpaU l Z a0 hw [] b285 b_287 k2_287 cs sf (22 : Int32) (own_lit [(fdg x9_4 (1000000000000000000 : Int64)), (fdg x9_4 (100000000000000000 : Int64)), (fdg x9_4 (10000000000000000 : Int64)), (fdg x9_4 (1000000000000000 : Int64)), (fdg x9_4 (100000000000000 : Int64)), (fdg x9_4 (10000000000000 : Int64)), (fdg x9_4 (1000000000000 : Int64)), (fdg x9_4 (100000000000 : Int64)), (fdg x9_4 (10000000000 : Int64)), (fdg x9_4 (1000000000 : Int64)), (fdg x9_4 (100000000 : Int64)), (fdg x9_4 (10000000 : Int64)), (fdg x9_4 (1000000 : Int64)), (fdg x9_4 (100000 : Int64)), (fdg x9_4 (10000 : Int64)), (fdg x9_4 (1000 : Int64)), (fdg x9_4 (100 : Int64)), (fdg x9_4 (10 : Int64)), (fdg x9_4 (1 : Int64)), x6_1, x7_2, x8_3]) T287.heap n0 (Nat.le_trans Z0 K287.1) wt wA wF kR wb hcs wd wn (by decide) (by decide) (own_lbd (List.forall_mem_cons.mpr ⟨(own_dgb _ _), (List.forall_mem_cons.mpr ⟨(own_dgb _ _), (List.forall_mem_cons.mpr ⟨(own_dgb _ _), (List.forall_mem_cons.mpr ⟨(own_dgb _ _), (List.forall_mem_cons.mpr ⟨(own_dgb _ _), (List.forall_mem_cons.mpr ⟨(own_dgb _ _), (List.forall_mem_cons.mpr ⟨(own_dgb _ _), (List.forall_mem_cons.mpr ⟨(own_dgb _ _), (List.forall_mem_cons.mpr ⟨(own_dgb _ _), (List.forall_mem_cons.mpr ⟨(own_dgb _ _), (List.forall_mem_cons.mpr ⟨(own_dgb _ _), (List.forall_mem_cons.mpr ⟨(own_dgb _ _), (List.forall_mem_cons.mpr ⟨(own_dgb _ _), (List.forall_mem_cons.mpr ⟨(own_dgb _ _), (List.forall_mem_cons.mpr ⟨(own_dgb _ _), (List.forall_mem_cons.mpr ⟨(own_dgb _ _), (List.forall_mem_cons.mpr ⟨(own_dgb _ _), (List.forall_mem_cons.mpr ⟨(own_dgb _ _), (List.forall_mem_cons.mpr ⟨(own_dgb _ _), (List.forall_mem_cons.mpr ⟨(own_cb hv6_1), (List.forall_mem_cons.mpr ⟨(own_cb hv7_2), (List.forall_mem_cons.mpr ⟨(own_cb hv8_3), (fun x hx => nomatch hx)⟩)⟩)⟩)⟩)⟩)⟩)⟩)⟩)⟩)⟩)⟩)⟩)⟩)⟩)⟩)⟩)⟩)⟩)⟩)⟩)⟩)⟩)) wa wf we) rfl pd_19 rfl rfl fun _ T288 Lc288 X288 hQ288 => ?_
    obtain ⟨rfl, Nq288, hh288⟩ := hQ288
    have N288 := Fr.app N287 Nq288
    refine Ends.v (oF X288 hy at_496 498 rfl (oY X288 hy at_498 499 ?_))
    have hc499 : (own_p (own_gl (22 : Int32).toNatClampNeg (own_lit [(fdg x9_4 (1000000000000000000 : Int64)), (fdg x9_4 (100000000000000000 : Int64)), (fdg x9_4 (10000000000000000 : Int64)), (fdg x9_4 (1000000000000000 : Int64)), (fdg x9_4 (100000000000000 : Int64)), (fdg x9_4 (10000000000000 : Int64)), (fdg x9_4 (1000000000000 : Int64)), (fdg x9_4 (100000000000 : Int64)), (fdg x9_4 (10000000000 : Int64)), (fdg x9_4 (1000000000 : Int64)), (fdg x9_4 (100000000 : Int64)), (fdg x9_4 (10000000 : Int64)), (fdg x9_4 (1000000 : Int64)), (fdg x9_4 (100000 : Int64)), (fdg x9_4 (10000 : Int64)), (fdg x9_4 (1000 : Int64)), (fdg x9_4 (100 : Int64)), (fdg x9_4 (10 : Int64)), (fdg x9_4 (1 : Int64)), x6_1, x7_2, x8_3])) (0 : Int64)) = (-1 : Int64) := (own_lg0 (own_h0 hv9_4) (own_cb hv6_1) (own_cb hv7_2) (own_cb hv8_3) hc367_284)
    refine oxh X288 hy at_499 502 (XT.ll_ne_f hc499) (oG X288 hy at_502 503 1 rfl (oxm X288 hy at_503 507 ?_))
    exact Ends.finW (some (.int 1)) X288 hS hk hQQ (fun h => by rw [Bd.returns] at h; cases h) Bd.notSynchronized (fun _ hr => retOut X288 hx (t := .boolean) Bd.returns rfl (Or.inl ⟨rfl, (by simp), _, rfl⟩) (hb hby at_507) hr) hh288 (by decide) (by decide) ⟨rfl, N288, K287⟩
   ·show Ends p e below QQ (T285.setTop (mkF m 488 #[iv p0, iv p1, iv p2, iv p3, jv q4, ss, iv x6_1, iv x7_2, iv x8_3, jv x9_4, ss, rv b219, jv (-1), ss, uu, uu] [.ref b285, .ref b285]))
    by_cases hs488_289 : (255 : Int32) < x7_2
    ·refine oB X285 hy at_488 490 rfl ?_
     refine cI X285 hy hml hown hZ hw at_490 493 1 10 11 12 9 rfl rfl rfl rfl rfl (rmscU l Z a0 hw [] b285 b219 (.null : Value) (0 : Int32) k219 cs (own_lit [(fdg x9_4 (1000000000000000000 : Int64)), (fdg x9_4 (100000000000000000 : Int64)), (fdg x9_4 (10000000000000000 : Int64)), (fdg x9_4 (1000000000000000 : Int64)), (fdg x9_4 (100000000000000 : Int64)), (fdg x9_4 (10000000000000 : Int64)), (fdg x9_4 (1000000000000 : Int64)), (fdg x9_4 (100000000000 : Int64)), (fdg x9_4 (10000000000 : Int64)), (fdg x9_4 (1000000000 : Int64)), (fdg x9_4 (100000000 : Int64)), (fdg x9_4 (10000000 : Int64)), (fdg x9_4 (1000000 : Int64)), (fdg x9_4 (100000 : Int64)), (fdg x9_4 (10000 : Int64)), (fdg x9_4 (1000 : Int64)), (fdg x9_4 (100 : Int64)), (fdg x9_4 (10 : Int64)), (fdg x9_4 (1 : Int64)), x6_1, x7_2, x8_3]) 20 (22 : Int32) h285 n0 (Nat.le_trans Z0 K285.1) wt wA wF vE (Ne.symm wY) wj (by decide) (by decide) (own_lbd (List.forall_mem_cons.mpr ⟨(own_dgb _ _), (List.forall_mem_cons.mpr ⟨(own_dgb _ _), (List.forall_mem_cons.mpr ⟨(own_dgb _ _), (List.forall_mem_cons.mpr ⟨(own_dgb _ _), (List.forall_mem_cons.mpr ⟨(own_dgb _ _), (List.forall_mem_cons.mpr ⟨(own_dgb _ _), (List.forall_mem_cons.mpr ⟨(own_dgb _ _), (List.forall_mem_cons.mpr ⟨(own_dgb _ _), (List.forall_mem_cons.mpr ⟨(own_dgb _ _), (List.forall_mem_cons.mpr ⟨(own_dgb _ _), (List.forall_mem_cons.mpr ⟨(own_dgb _ _), (List.forall_mem_cons.mpr ⟨(own_dgb _ _), (List.forall_mem_cons.mpr ⟨(own_dgb _ _), (List.forall_mem_cons.mpr ⟨(own_dgb _ _), (List.forall_mem_cons.mpr ⟨(own_dgb _ _), (List.forall_mem_cons.mpr ⟨(own_dgb _ _), (List.forall_mem_cons.mpr ⟨(own_dgb _ _), (List.forall_mem_cons.mpr ⟨(own_dgb _ _), (List.forall_mem_cons.mpr ⟨(own_dgb _ _), (List.forall_mem_cons.mpr ⟨(own_cb hv6_1), (List.forall_mem_cons.mpr ⟨(own_cb hv7_2), (List.forall_mem_cons.mpr ⟨(own_cb hv8_3), (fun x hx => nomatch hx)⟩)⟩)⟩)⟩)⟩)⟩)⟩)⟩)⟩)⟩)⟩)⟩)⟩)⟩)⟩)⟩)⟩)⟩)⟩)⟩)⟩)⟩)) (own_lpre (pre := [(fdg x9_4 (1000000000000000000 : Int64)), (fdg x9_4 (100000000000000000 : Int64)), (fdg x9_4 (10000000000000000 : Int64)), (fdg x9_4 (1000000000000000 : Int64)), (fdg x9_4 (100000000000000 : Int64)), (fdg x9_4 (10000000000000 : Int64)), (fdg x9_4 (1000000000000 : Int64)), (fdg x9_4 (100000000000 : Int64)), (fdg x9_4 (10000000000 : Int64)), (fdg x9_4 (1000000000 : Int64)), (fdg x9_4 (100000000 : Int64)), (fdg x9_4 (10000000 : Int64)), (fdg x9_4 (1000000 : Int64)), (fdg x9_4 (100000 : Int64)), (fdg x9_4 (10000 : Int64)), (fdg x9_4 (1000 : Int64)), (fdg x9_4 (100 : Int64)), (fdg x9_4 (10 : Int64)), (fdg x9_4 (1 : Int64)), x6_1]) (post := [x7_2, x8_3]) (P := fun z => ¬ (255 : Int32) < z) (List.forall_mem_cons.mpr ⟨(own_dgle _ _), (List.forall_mem_cons.mpr ⟨(own_dgle _ _), (List.forall_mem_cons.mpr ⟨(own_dgle _ _), (List.forall_mem_cons.mpr ⟨(own_dgle _ _), (List.forall_mem_cons.mpr ⟨(own_dgle _ _), (List.forall_mem_cons.mpr ⟨(own_dgle _ _), (List.forall_mem_cons.mpr ⟨(own_dgle _ _), (List.forall_mem_cons.mpr ⟨(own_dgle _ _), (List.forall_mem_cons.mpr ⟨(own_dgle _ _), (List.forall_mem_cons.mpr ⟨(own_dgle _ _), (List.forall_mem_cons.mpr ⟨(own_dgle _ _), (List.forall_mem_cons.mpr ⟨(own_dgle _ _), (List.forall_mem_cons.mpr ⟨(own_dgle _ _), (List.forall_mem_cons.mpr ⟨(own_dgle _ _), (List.forall_mem_cons.mpr ⟨(own_dgle _ _), (List.forall_mem_cons.mpr ⟨(own_dgle _ _), (List.forall_mem_cons.mpr ⟨(own_dgle _ _), (List.forall_mem_cons.mpr ⟨(own_dgle _ _), (List.forall_mem_cons.mpr ⟨(own_dgle _ _), (List.forall_mem_cons.mpr ⟨hs488_286, (fun x hx => nomatch hx)⟩)⟩)⟩)⟩)⟩)⟩)⟩)⟩)⟩)⟩)⟩)⟩)⟩)⟩)⟩)⟩)⟩)⟩)⟩)⟩)) hs488_289 (by decide) wa wf we wb hcs) e285 pd_18 rfl rfl fun _ T290 Lc290 X290 hQ290 => ?_
     obtain ⟨b_290, k2_290, rfl, Nq290, Kq290, fq290_0, g_b_290, fq290_2, wA, wF, fq290_5, kQ⟩ := hQ290
     have N290 := Fr.app N283 Nq290
     have wb := own_sta_keep wb Kq290 (allS wt.cell all0)
     have wd := own_sta_keep wd Kq290 (allS wt.cell all0)
     have wa := own_sta_keep wa Kq290 (allS wt.cell all0)
     have wf := own_sta_keep wf Kq290 (allS wt.cell all0)
     have we := own_sta_keep we Kq290 (allS wt.cell all0)
     have hk := Nat.le_trans hk Kq290.1
     have wt := fq290_2
     have K290 := K285.trans Kq290 (allS (Or.inr vw) all0)
     refine Ends.u ?_
     refine cS X290 hy hml hown hZ hw at_493 496 0 28 29 30 31 rfl rfl rfl rfl (rmpaU l Z a0 hw [] b285 b_290 k2_290 cs sf (22 : Int32) (own_lit [(fdg x9_4 (1000000000000000000 : Int64)), (fdg x9_4 (100000000000000000 : Int64)), (fdg x9_4 (10000000000000000 : Int64)), (fdg x9_4 (1000000000000000 : Int64)), (fdg x9_4 (100000000000000 : Int64)), (fdg x9_4 (10000000000000 : Int64)), (fdg x9_4 (1000000000000 : Int64)), (fdg x9_4 (100000000000 : Int64)), (fdg x9_4 (10000000000 : Int64)), (fdg x9_4 (1000000000 : Int64)), (fdg x9_4 (100000000 : Int64)), (fdg x9_4 (10000000 : Int64)), (fdg x9_4 (1000000 : Int64)), (fdg x9_4 (100000 : Int64)), (fdg x9_4 (10000 : Int64)), (fdg x9_4 (1000 : Int64)), (fdg x9_4 (100 : Int64)), (fdg x9_4 (10 : Int64)), (fdg x9_4 (1 : Int64)), x6_1, x7_2, x8_3]) T290.heap n0 (Nat.le_trans Z0 K290.1) wt wA wF kQ wb hcs wd wn (by decide) (by decide) (own_lbd (List.forall_mem_cons.mpr ⟨(own_dgb _ _), (List.forall_mem_cons.mpr ⟨(own_dgb _ _), (List.forall_mem_cons.mpr ⟨(own_dgb _ _), (List.forall_mem_cons.mpr ⟨(own_dgb _ _), (List.forall_mem_cons.mpr ⟨(own_dgb _ _), (List.forall_mem_cons.mpr ⟨(own_dgb _ _), (List.forall_mem_cons.mpr ⟨(own_dgb _ _), (List.forall_mem_cons.mpr ⟨(own_dgb _ _), (List.forall_mem_cons.mpr ⟨(own_dgb _ _), (List.forall_mem_cons.mpr ⟨(own_dgb _ _), (List.forall_mem_cons.mpr ⟨(own_dgb _ _), (List.forall_mem_cons.mpr ⟨(own_dgb _ _), (List.forall_mem_cons.mpr ⟨(own_dgb _ _), (List.forall_mem_cons.mpr ⟨(own_dgb _ _), (List.forall_mem_cons.mpr ⟨(own_dgb _ _), (List.forall_mem_cons.mpr ⟨(own_dgb _ _), (List.forall_mem_cons.mpr ⟨(own_dgb _ _), (List.forall_mem_cons.mpr ⟨(own_dgb _ _), (List.forall_mem_cons.mpr ⟨(own_dgb _ _), (List.forall_mem_cons.mpr ⟨(own_cb hv6_1), (List.forall_mem_cons.mpr ⟨(own_cb hv7_2), (List.forall_mem_cons.mpr ⟨(own_cb hv8_3), (fun x hx => nomatch hx)⟩)⟩)⟩)⟩)⟩)⟩)⟩)⟩)⟩)⟩)⟩)⟩)⟩)⟩)⟩)⟩)⟩)⟩)⟩)⟩)⟩)⟩)) wa wf we) rfl pd_19 rfl rfl fun _ T291 Lc291 X291 hQ291 => ?_
     obtain ⟨rfl, Nq291, hh291⟩ := hQ291
     have N291 := Fr.app N290 Nq291
     refine Ends.v (oF X291 hy at_496 498 rfl (oY X291 hy at_498 499 ?_))
     have hc499 : (own_p (own_gl (22 : Int32).toNatClampNeg (own_lit [(fdg x9_4 (1000000000000000000 : Int64)), (fdg x9_4 (100000000000000000 : Int64)), (fdg x9_4 (10000000000000000 : Int64)), (fdg x9_4 (1000000000000000 : Int64)), (fdg x9_4 (100000000000000 : Int64)), (fdg x9_4 (10000000000000 : Int64)), (fdg x9_4 (1000000000000 : Int64)), (fdg x9_4 (100000000000 : Int64)), (fdg x9_4 (10000000000 : Int64)), (fdg x9_4 (1000000000 : Int64)), (fdg x9_4 (100000000 : Int64)), (fdg x9_4 (10000000 : Int64)), (fdg x9_4 (1000000 : Int64)), (fdg x9_4 (100000 : Int64)), (fdg x9_4 (10000 : Int64)), (fdg x9_4 (1000 : Int64)), (fdg x9_4 (100 : Int64)), (fdg x9_4 (10 : Int64)), (fdg x9_4 (1 : Int64)), x6_1, x7_2, x8_3])) (0 : Int64)) = (-1 : Int64) := (own_lg0 (own_h0 hv9_4) (own_cb hv6_1) (own_cb hv7_2) (own_cb hv8_3) hc367_284)
     refine oxh X291 hy at_499 502 (XT.ll_ne_f hc499) (oG X291 hy at_502 503 1 rfl (oxm X291 hy at_503 507 ?_))
     exact Ends.finW (some (.int 1)) X291 hS hk hQQ (fun h => by rw [Bd.returns] at h; cases h) Bd.notSynchronized (fun _ hr => retOut X291 hx (t := .boolean) Bd.returns rfl (Or.inl ⟨rfl, (by simp), _, rfl⟩) (hb hby at_507) hr) hh291 (by decide) (by decide) ⟨rfl, N291, K290⟩
    ·by_cases hs488_292 : (255 : Int32) < x8_3
     ·refine oB X285 hy at_488 490 rfl ?_
      refine cI X285 hy hml hown hZ hw at_490 493 1 10 11 12 9 rfl rfl rfl rfl rfl (rmscU l Z a0 hw [] b285 b219 (.null : Value) (0 : Int32) k219 cs (own_lit [(fdg x9_4 (1000000000000000000 : Int64)), (fdg x9_4 (100000000000000000 : Int64)), (fdg x9_4 (10000000000000000 : Int64)), (fdg x9_4 (1000000000000000 : Int64)), (fdg x9_4 (100000000000000 : Int64)), (fdg x9_4 (10000000000000 : Int64)), (fdg x9_4 (1000000000000 : Int64)), (fdg x9_4 (100000000000 : Int64)), (fdg x9_4 (10000000000 : Int64)), (fdg x9_4 (1000000000 : Int64)), (fdg x9_4 (100000000 : Int64)), (fdg x9_4 (10000000 : Int64)), (fdg x9_4 (1000000 : Int64)), (fdg x9_4 (100000 : Int64)), (fdg x9_4 (10000 : Int64)), (fdg x9_4 (1000 : Int64)), (fdg x9_4 (100 : Int64)), (fdg x9_4 (10 : Int64)), (fdg x9_4 (1 : Int64)), x6_1, x7_2, x8_3]) 21 (22 : Int32) h285 n0 (Nat.le_trans Z0 K285.1) wt wA wF vE (Ne.symm wY) wj (by decide) (by decide) (own_lbd (List.forall_mem_cons.mpr ⟨(own_dgb _ _), (List.forall_mem_cons.mpr ⟨(own_dgb _ _), (List.forall_mem_cons.mpr ⟨(own_dgb _ _), (List.forall_mem_cons.mpr ⟨(own_dgb _ _), (List.forall_mem_cons.mpr ⟨(own_dgb _ _), (List.forall_mem_cons.mpr ⟨(own_dgb _ _), (List.forall_mem_cons.mpr ⟨(own_dgb _ _), (List.forall_mem_cons.mpr ⟨(own_dgb _ _), (List.forall_mem_cons.mpr ⟨(own_dgb _ _), (List.forall_mem_cons.mpr ⟨(own_dgb _ _), (List.forall_mem_cons.mpr ⟨(own_dgb _ _), (List.forall_mem_cons.mpr ⟨(own_dgb _ _), (List.forall_mem_cons.mpr ⟨(own_dgb _ _), (List.forall_mem_cons.mpr ⟨(own_dgb _ _), (List.forall_mem_cons.mpr ⟨(own_dgb _ _), (List.forall_mem_cons.mpr ⟨(own_dgb _ _), (List.forall_mem_cons.mpr ⟨(own_dgb _ _), (List.forall_mem_cons.mpr ⟨(own_dgb _ _), (List.forall_mem_cons.mpr ⟨(own_dgb _ _), (List.forall_mem_cons.mpr ⟨(own_cb hv6_1), (List.forall_mem_cons.mpr ⟨(own_cb hv7_2), (List.forall_mem_cons.mpr ⟨(own_cb hv8_3), (fun x hx => nomatch hx)⟩)⟩)⟩)⟩)⟩)⟩)⟩)⟩)⟩)⟩)⟩)⟩)⟩)⟩)⟩)⟩)⟩)⟩)⟩)⟩)⟩)⟩)) (own_lpre (pre := [(fdg x9_4 (1000000000000000000 : Int64)), (fdg x9_4 (100000000000000000 : Int64)), (fdg x9_4 (10000000000000000 : Int64)), (fdg x9_4 (1000000000000000 : Int64)), (fdg x9_4 (100000000000000 : Int64)), (fdg x9_4 (10000000000000 : Int64)), (fdg x9_4 (1000000000000 : Int64)), (fdg x9_4 (100000000000 : Int64)), (fdg x9_4 (10000000000 : Int64)), (fdg x9_4 (1000000000 : Int64)), (fdg x9_4 (100000000 : Int64)), (fdg x9_4 (10000000 : Int64)), (fdg x9_4 (1000000 : Int64)), (fdg x9_4 (100000 : Int64)), (fdg x9_4 (10000 : Int64)), (fdg x9_4 (1000 : Int64)), (fdg x9_4 (100 : Int64)), (fdg x9_4 (10 : Int64)), (fdg x9_4 (1 : Int64)), x6_1, x7_2]) (post := [x8_3]) (P := fun z => ¬ (255 : Int32) < z) (List.forall_mem_cons.mpr ⟨(own_dgle _ _), (List.forall_mem_cons.mpr ⟨(own_dgle _ _), (List.forall_mem_cons.mpr ⟨(own_dgle _ _), (List.forall_mem_cons.mpr ⟨(own_dgle _ _), (List.forall_mem_cons.mpr ⟨(own_dgle _ _), (List.forall_mem_cons.mpr ⟨(own_dgle _ _), (List.forall_mem_cons.mpr ⟨(own_dgle _ _), (List.forall_mem_cons.mpr ⟨(own_dgle _ _), (List.forall_mem_cons.mpr ⟨(own_dgle _ _), (List.forall_mem_cons.mpr ⟨(own_dgle _ _), (List.forall_mem_cons.mpr ⟨(own_dgle _ _), (List.forall_mem_cons.mpr ⟨(own_dgle _ _), (List.forall_mem_cons.mpr ⟨(own_dgle _ _), (List.forall_mem_cons.mpr ⟨(own_dgle _ _), (List.forall_mem_cons.mpr ⟨(own_dgle _ _), (List.forall_mem_cons.mpr ⟨(own_dgle _ _), (List.forall_mem_cons.mpr ⟨(own_dgle _ _), (List.forall_mem_cons.mpr ⟨(own_dgle _ _), (List.forall_mem_cons.mpr ⟨(own_dgle _ _), (List.forall_mem_cons.mpr ⟨hs488_286, (List.forall_mem_cons.mpr ⟨hs488_289, (fun x hx => nomatch hx)⟩)⟩)⟩)⟩)⟩)⟩)⟩)⟩)⟩)⟩)⟩)⟩)⟩)⟩)⟩)⟩)⟩)⟩)⟩)⟩)⟩)) hs488_292 (by decide) wa wf we wb hcs) e285 pd_18 rfl rfl fun _ T293 Lc293 X293 hQ293 => ?_
      obtain ⟨b_293, k2_293, rfl, Nq293, Kq293, fq293_0, g_b_293, fq293_2, wA, wF, fq293_5, kO⟩ := hQ293
      have N293 := Fr.app N283 Nq293
      have wb := own_sta_keep wb Kq293 (allS wt.cell all0)
      have wd := own_sta_keep wd Kq293 (allS wt.cell all0)
      have wa := own_sta_keep wa Kq293 (allS wt.cell all0)
      have wf := own_sta_keep wf Kq293 (allS wt.cell all0)
      have we := own_sta_keep we Kq293 (allS wt.cell all0)
      have hk := Nat.le_trans hk Kq293.1
      have wt := fq293_2
      have K293 := K285.trans Kq293 (allS (Or.inr vw) all0)
      refine Ends.u ?_
      refine cS X293 hy hml hown hZ hw at_493 496 0 28 29 30 31 rfl rfl rfl rfl (rmpaU l Z a0 hw [] b285 b_293 k2_293 cs sf (22 : Int32) (own_lit [(fdg x9_4 (1000000000000000000 : Int64)), (fdg x9_4 (100000000000000000 : Int64)), (fdg x9_4 (10000000000000000 : Int64)), (fdg x9_4 (1000000000000000 : Int64)), (fdg x9_4 (100000000000000 : Int64)), (fdg x9_4 (10000000000000 : Int64)), (fdg x9_4 (1000000000000 : Int64)), (fdg x9_4 (100000000000 : Int64)), (fdg x9_4 (10000000000 : Int64)), (fdg x9_4 (1000000000 : Int64)), (fdg x9_4 (100000000 : Int64)), (fdg x9_4 (10000000 : Int64)), (fdg x9_4 (1000000 : Int64)), (fdg x9_4 (100000 : Int64)), (fdg x9_4 (10000 : Int64)), (fdg x9_4 (1000 : Int64)), (fdg x9_4 (100 : Int64)), (fdg x9_4 (10 : Int64)), (fdg x9_4 (1 : Int64)), x6_1, x7_2, x8_3]) T293.heap n0 (Nat.le_trans Z0 K293.1) wt wA wF kO wb hcs wd wn (by decide) (by decide) (own_lbd (List.forall_mem_cons.mpr ⟨(own_dgb _ _), (List.forall_mem_cons.mpr ⟨(own_dgb _ _), (List.forall_mem_cons.mpr ⟨(own_dgb _ _), (List.forall_mem_cons.mpr ⟨(own_dgb _ _), (List.forall_mem_cons.mpr ⟨(own_dgb _ _), (List.forall_mem_cons.mpr ⟨(own_dgb _ _), (List.forall_mem_cons.mpr ⟨(own_dgb _ _), (List.forall_mem_cons.mpr ⟨(own_dgb _ _), (List.forall_mem_cons.mpr ⟨(own_dgb _ _), (List.forall_mem_cons.mpr ⟨(own_dgb _ _), (List.forall_mem_cons.mpr ⟨(own_dgb _ _), (List.forall_mem_cons.mpr ⟨(own_dgb _ _), (List.forall_mem_cons.mpr ⟨(own_dgb _ _), (List.forall_mem_cons.mpr ⟨(own_dgb _ _), (List.forall_mem_cons.mpr ⟨(own_dgb _ _), (List.forall_mem_cons.mpr ⟨(own_dgb _ _), (List.forall_mem_cons.mpr ⟨(own_dgb _ _), (List.forall_mem_cons.mpr ⟨(own_dgb _ _), (List.forall_mem_cons.mpr ⟨(own_dgb _ _), (List.forall_mem_cons.mpr ⟨(own_cb hv6_1), (List.forall_mem_cons.mpr ⟨(own_cb hv7_2), (List.forall_mem_cons.mpr ⟨(own_cb hv8_3), (fun x hx => nomatch hx)⟩)⟩)⟩)⟩)⟩)⟩)⟩)⟩)⟩)⟩)⟩)⟩)⟩)⟩)⟩)⟩)⟩)⟩)⟩)⟩)⟩)⟩)) wa wf we) rfl pd_19 rfl rfl fun _ T294 Lc294 X294 hQ294 => ?_
      obtain ⟨rfl, Nq294, hh294⟩ := hQ294
      have N294 := Fr.app N293 Nq294
      refine Ends.v (oF X294 hy at_496 498 rfl (oY X294 hy at_498 499 ?_))
      have hc499 : (own_p (own_gl (22 : Int32).toNatClampNeg (own_lit [(fdg x9_4 (1000000000000000000 : Int64)), (fdg x9_4 (100000000000000000 : Int64)), (fdg x9_4 (10000000000000000 : Int64)), (fdg x9_4 (1000000000000000 : Int64)), (fdg x9_4 (100000000000000 : Int64)), (fdg x9_4 (10000000000000 : Int64)), (fdg x9_4 (1000000000000 : Int64)), (fdg x9_4 (100000000000 : Int64)), (fdg x9_4 (10000000000 : Int64)), (fdg x9_4 (1000000000 : Int64)), (fdg x9_4 (100000000 : Int64)), (fdg x9_4 (10000000 : Int64)), (fdg x9_4 (1000000 : Int64)), (fdg x9_4 (100000 : Int64)), (fdg x9_4 (10000 : Int64)), (fdg x9_4 (1000 : Int64)), (fdg x9_4 (100 : Int64)), (fdg x9_4 (10 : Int64)), (fdg x9_4 (1 : Int64)), x6_1, x7_2, x8_3])) (0 : Int64)) = (-1 : Int64) := (own_lg0 (own_h0 hv9_4) (own_cb hv6_1) (own_cb hv7_2) (own_cb hv8_3) hc367_284)
      refine oxh X294 hy at_499 502 (XT.ll_ne_f hc499) (oG X294 hy at_502 503 1 rfl (oxm X294 hy at_503 507 ?_))
      exact Ends.finW (some (.int 1)) X294 hS hk hQQ (fun h => by rw [Bd.returns] at h; cases h) Bd.notSynchronized (fun _ hr => retOut X294 hx (t := .boolean) Bd.returns rfl (Or.inl ⟨rfl, (by simp), _, rfl⟩) (hb hby at_507) hr) hh294 (by decide) (by decide) ⟨rfl, N294, K293⟩
     ·refine oB X285 hy at_488 490 rfl ?_
      refine cI X285 hy hml hown hZ hw at_490 493 1 10 11 12 9 rfl rfl rfl rfl rfl (rmscL l Z a0 hw [] b285 b219 (.null : Value) (0 : Int32) k219 cs (own_lit [(fdg x9_4 (1000000000000000000 : Int64)), (fdg x9_4 (100000000000000000 : Int64)), (fdg x9_4 (10000000000000000 : Int64)), (fdg x9_4 (1000000000000000 : Int64)), (fdg x9_4 (100000000000000 : Int64)), (fdg x9_4 (10000000000000 : Int64)), (fdg x9_4 (1000000000000 : Int64)), (fdg x9_4 (100000000000 : Int64)), (fdg x9_4 (10000000000 : Int64)), (fdg x9_4 (1000000000 : Int64)), (fdg x9_4 (100000000 : Int64)), (fdg x9_4 (10000000 : Int64)), (fdg x9_4 (1000000 : Int64)), (fdg x9_4 (100000 : Int64)), (fdg x9_4 (10000 : Int64)), (fdg x9_4 (1000 : Int64)), (fdg x9_4 (100 : Int64)), (fdg x9_4 (10 : Int64)), (fdg x9_4 (1 : Int64)), x6_1, x7_2, x8_3]) (22 : Int32) h285 n0 (Nat.le_trans Z0 K285.1) wt wA wF vE (Ne.symm wY) wj (by decide) (by decide) (own_lpre (pre := [(fdg x9_4 (1000000000000000000 : Int64)), (fdg x9_4 (100000000000000000 : Int64)), (fdg x9_4 (10000000000000000 : Int64)), (fdg x9_4 (1000000000000000 : Int64)), (fdg x9_4 (100000000000000 : Int64)), (fdg x9_4 (10000000000000 : Int64)), (fdg x9_4 (1000000000000 : Int64)), (fdg x9_4 (100000000000 : Int64)), (fdg x9_4 (10000000000 : Int64)), (fdg x9_4 (1000000000 : Int64)), (fdg x9_4 (100000000 : Int64)), (fdg x9_4 (10000000 : Int64)), (fdg x9_4 (1000000 : Int64)), (fdg x9_4 (100000 : Int64)), (fdg x9_4 (10000 : Int64)), (fdg x9_4 (1000 : Int64)), (fdg x9_4 (100 : Int64)), (fdg x9_4 (10 : Int64)), (fdg x9_4 (1 : Int64)), x6_1, x7_2, x8_3]) (post := []) (P := fun z => ¬ (255 : Int32) < z) (List.forall_mem_cons.mpr ⟨(own_dgle _ _), (List.forall_mem_cons.mpr ⟨(own_dgle _ _), (List.forall_mem_cons.mpr ⟨(own_dgle _ _), (List.forall_mem_cons.mpr ⟨(own_dgle _ _), (List.forall_mem_cons.mpr ⟨(own_dgle _ _), (List.forall_mem_cons.mpr ⟨(own_dgle _ _), (List.forall_mem_cons.mpr ⟨(own_dgle _ _), (List.forall_mem_cons.mpr ⟨(own_dgle _ _), (List.forall_mem_cons.mpr ⟨(own_dgle _ _), (List.forall_mem_cons.mpr ⟨(own_dgle _ _), (List.forall_mem_cons.mpr ⟨(own_dgle _ _), (List.forall_mem_cons.mpr ⟨(own_dgle _ _), (List.forall_mem_cons.mpr ⟨(own_dgle _ _), (List.forall_mem_cons.mpr ⟨(own_dgle _ _), (List.forall_mem_cons.mpr ⟨(own_dgle _ _), (List.forall_mem_cons.mpr ⟨(own_dgle _ _), (List.forall_mem_cons.mpr ⟨(own_dgle _ _), (List.forall_mem_cons.mpr ⟨(own_dgle _ _), (List.forall_mem_cons.mpr ⟨(own_dgle _ _), (List.forall_mem_cons.mpr ⟨hs488_286, (List.forall_mem_cons.mpr ⟨hs488_289, (List.forall_mem_cons.mpr ⟨hs488_292, (fun x hx => nomatch hx)⟩)⟩)⟩)⟩)⟩)⟩)⟩)⟩)⟩)⟩)⟩)⟩)⟩)⟩)⟩)⟩)⟩)⟩)⟩)⟩)⟩)⟩)) wb hcs) e285 pd_18 rfl rfl fun _ T295 Lc295 X295 hQ295 => ?_
      obtain ⟨b_295, k2_295, rfl, Nq295, Kq295, fq295_0, g_b_295, fq295_2, wA, wF, fq295_5, kN⟩ := hQ295
      have N295 := Fr.app N283 Nq295
      have wb := own_sta_keep wb Kq295 (allS wt.cell all0)
      have wd := own_sta_keep wd Kq295 (allS wt.cell all0)
      have hk := Nat.le_trans hk Kq295.1
      have wt := fq295_2
      have K295 := K285.trans Kq295 (allS (Or.inr vw) all0)
      refine Ends.u ?_
      refine cS X295 hy hml hown hZ hw at_493 496 0 28 29 30 31 rfl rfl rfl rfl (rmpaL l Z a0 hw [] b285 b_295 k2_295 cs sf (22 : Int32) (own_lit [(fdg x9_4 (1000000000000000000 : Int64)), (fdg x9_4 (100000000000000000 : Int64)), (fdg x9_4 (10000000000000000 : Int64)), (fdg x9_4 (1000000000000000 : Int64)), (fdg x9_4 (100000000000000 : Int64)), (fdg x9_4 (10000000000000 : Int64)), (fdg x9_4 (1000000000000 : Int64)), (fdg x9_4 (100000000000 : Int64)), (fdg x9_4 (10000000000 : Int64)), (fdg x9_4 (1000000000 : Int64)), (fdg x9_4 (100000000 : Int64)), (fdg x9_4 (10000000 : Int64)), (fdg x9_4 (1000000 : Int64)), (fdg x9_4 (100000 : Int64)), (fdg x9_4 (10000 : Int64)), (fdg x9_4 (1000 : Int64)), (fdg x9_4 (100 : Int64)), (fdg x9_4 (10 : Int64)), (fdg x9_4 (1 : Int64)), x6_1, x7_2, x8_3]) T295.heap n0 (Nat.le_trans Z0 K295.1) wt wA wF kN wb hcs wd wn (by decide) (by decide) (own_lbd (List.forall_mem_cons.mpr ⟨(own_dgb _ _), (List.forall_mem_cons.mpr ⟨(own_dgb _ _), (List.forall_mem_cons.mpr ⟨(own_dgb _ _), (List.forall_mem_cons.mpr ⟨(own_dgb _ _), (List.forall_mem_cons.mpr ⟨(own_dgb _ _), (List.forall_mem_cons.mpr ⟨(own_dgb _ _), (List.forall_mem_cons.mpr ⟨(own_dgb _ _), (List.forall_mem_cons.mpr ⟨(own_dgb _ _), (List.forall_mem_cons.mpr ⟨(own_dgb _ _), (List.forall_mem_cons.mpr ⟨(own_dgb _ _), (List.forall_mem_cons.mpr ⟨(own_dgb _ _), (List.forall_mem_cons.mpr ⟨(own_dgb _ _), (List.forall_mem_cons.mpr ⟨(own_dgb _ _), (List.forall_mem_cons.mpr ⟨(own_dgb _ _), (List.forall_mem_cons.mpr ⟨(own_dgb _ _), (List.forall_mem_cons.mpr ⟨(own_dgb _ _), (List.forall_mem_cons.mpr ⟨(own_dgb _ _), (List.forall_mem_cons.mpr ⟨(own_dgb _ _), (List.forall_mem_cons.mpr ⟨(own_dgb _ _), (List.forall_mem_cons.mpr ⟨(own_cb hv6_1), (List.forall_mem_cons.mpr ⟨(own_cb hv7_2), (List.forall_mem_cons.mpr ⟨(own_cb hv8_3), (fun x hx => nomatch hx)⟩)⟩)⟩)⟩)⟩)⟩)⟩)⟩)⟩)⟩)⟩)⟩)⟩)⟩)⟩)⟩)⟩)⟩)⟩)⟩)⟩)⟩)) (own_lpre (pre := [(fdg x9_4 (1000000000000000000 : Int64)), (fdg x9_4 (100000000000000000 : Int64)), (fdg x9_4 (10000000000000000 : Int64)), (fdg x9_4 (1000000000000000 : Int64)), (fdg x9_4 (100000000000000 : Int64)), (fdg x9_4 (10000000000000 : Int64)), (fdg x9_4 (1000000000000 : Int64)), (fdg x9_4 (100000000000 : Int64)), (fdg x9_4 (10000000000 : Int64)), (fdg x9_4 (1000000000 : Int64)), (fdg x9_4 (100000000 : Int64)), (fdg x9_4 (10000000 : Int64)), (fdg x9_4 (1000000 : Int64)), (fdg x9_4 (100000 : Int64)), (fdg x9_4 (10000 : Int64)), (fdg x9_4 (1000 : Int64)), (fdg x9_4 (100 : Int64)), (fdg x9_4 (10 : Int64)), (fdg x9_4 (1 : Int64)), x6_1, x7_2, x8_3]) (post := []) (P := fun z => ¬ (255 : Int32) < z) (List.forall_mem_cons.mpr ⟨(own_dgle _ _), (List.forall_mem_cons.mpr ⟨(own_dgle _ _), (List.forall_mem_cons.mpr ⟨(own_dgle _ _), (List.forall_mem_cons.mpr ⟨(own_dgle _ _), (List.forall_mem_cons.mpr ⟨(own_dgle _ _), (List.forall_mem_cons.mpr ⟨(own_dgle _ _), (List.forall_mem_cons.mpr ⟨(own_dgle _ _), (List.forall_mem_cons.mpr ⟨(own_dgle _ _), (List.forall_mem_cons.mpr ⟨(own_dgle _ _), (List.forall_mem_cons.mpr ⟨(own_dgle _ _), (List.forall_mem_cons.mpr ⟨(own_dgle _ _), (List.forall_mem_cons.mpr ⟨(own_dgle _ _), (List.forall_mem_cons.mpr ⟨(own_dgle _ _), (List.forall_mem_cons.mpr ⟨(own_dgle _ _), (List.forall_mem_cons.mpr ⟨(own_dgle _ _), (List.forall_mem_cons.mpr ⟨(own_dgle _ _), (List.forall_mem_cons.mpr ⟨(own_dgle _ _), (List.forall_mem_cons.mpr ⟨(own_dgle _ _), (List.forall_mem_cons.mpr ⟨(own_dgle _ _), (List.forall_mem_cons.mpr ⟨hs488_286, (List.forall_mem_cons.mpr ⟨hs488_289, (List.forall_mem_cons.mpr ⟨hs488_292, (fun x hx => nomatch hx)⟩)⟩)⟩)⟩)⟩)⟩)⟩)⟩)⟩)⟩)⟩)⟩)⟩)⟩)⟩)⟩)⟩)⟩)⟩)⟩)⟩)⟩))) rfl pd_19 rfl rfl fun _ T296 Lc296 X296 hQ296 => ?_
      obtain ⟨rfl, Nq296, hh296⟩ := hQ296
      have N296 := Fr.app N295 Nq296
      refine Ends.v (oF X296 hy at_496 498 rfl (oY X296 hy at_498 499 ?_))
      have hc499 : (own_p (own_gl (22 : Int32).toNatClampNeg (own_lit [(fdg x9_4 (1000000000000000000 : Int64)), (fdg x9_4 (100000000000000000 : Int64)), (fdg x9_4 (10000000000000000 : Int64)), (fdg x9_4 (1000000000000000 : Int64)), (fdg x9_4 (100000000000000 : Int64)), (fdg x9_4 (10000000000000 : Int64)), (fdg x9_4 (1000000000000 : Int64)), (fdg x9_4 (100000000000 : Int64)), (fdg x9_4 (10000000000 : Int64)), (fdg x9_4 (1000000000 : Int64)), (fdg x9_4 (100000000 : Int64)), (fdg x9_4 (10000000 : Int64)), (fdg x9_4 (1000000 : Int64)), (fdg x9_4 (100000 : Int64)), (fdg x9_4 (10000 : Int64)), (fdg x9_4 (1000 : Int64)), (fdg x9_4 (100 : Int64)), (fdg x9_4 (10 : Int64)), (fdg x9_4 (1 : Int64)), x6_1, x7_2, x8_3])) (0 : Int64)) = (-1 : Int64) := (own_lg0 (own_h0 hv9_4) (own_cb hv6_1) (own_cb hv7_2) (own_cb hv8_3) hc367_284)
      refine oxh X296 hy at_499 502 (XT.ll_ne_f hc499) (oG X296 hy at_502 503 1 rfl (oxm X296 hy at_503 507 ?_))
      exact Ends.finW (some (.int 1)) X296 hS hk hQQ (fun h => by rw [Bd.returns] at h; cases h) Bd.notSynchronized (fun _ hr => retOut X296 hx (t := .boolean) Bd.returns rfl (Or.inl ⟨rfl, (by simp), _, rfl⟩) (hb hby at_507) hr) hh296 (by decide) (by decide) ⟨rfl, N296, K295⟩
  ·refine oxh X283 hy at_367 370 (XT.i0_eq_f hc367_284) (oD X283 hy at_370 372 rfl ?_)
   refine cS X283 hy hml hown hZ hw at_372 375 0 38 39 4 40 rfl rfl rfl rfl (rmisd l Z a0 hw [] x7_2 h282 n0 (Nat.le_trans Z0 K282.1)) hh283 pd_0 rfl rfl fun _ T297 Lc297 X297 hQ297 => ?_
   obtain ⟨rfl, Nq297, hh297⟩ := hQ297
   have N297 := Fr.app N283 Nq297
   refine Ends.v ?_
   by_cases hc375_298 : (fisd x7_2) = (0 : Int32)
   ·refine oxk X297 hy at_375 386 (XT.i0_eq_t hc375_298) (oJ2 X297 hy hown hZ hw at_386 389 (-1) 6 rfl (oxq X297 hy at_389 391 #[iv p0, iv p1, iv p2, iv p3, jv q4, ss, iv x6_1, iv x7_2, iv x8_3, jv x9_4, ss, rv b219, jv (-1), ss, uu, uu] rfl (oxm X297 hy at_391 484 ?_)))
    obtain ⟨T299, h299, X299, e299, E299, A299, D299, U299, st299⟩ := newO X297 hx hZ hown (tb hw 7 rfl) (tb hw 8 rfl) (tb hw 9 rfl) hh297 (g := (mkF m 484 #[iv p0, iv p1, iv p2, iv p3, jv q4, ss, iv x6_1, iv x7_2, iv x8_3, jv x9_4, ss, rv b219, jv (-1), ss, uu, uu] [])) rfl (hb hby at_484) (by decide) (by decide)
    obtain ⟨b299, g299⟩ : ∃ z, z = h282.size := ⟨_, rfl⟩
    rw [← g299] at A299 D299 U299 st299
    have wX : b219 ≠ b299 := Nat.ne_of_lt (Nat.lt_of_lt_of_le wl.lt (Nat.le_of_eq g299.symm))
    have vD : n0 ≤ b299 := Nat.le_trans Z0 (Nat.le_trans K282.1 (Nat.le_of_eq g299.symm))
    have vv : h0.size ≤ b299 := Nat.le_trans K282.1 (Nat.le_of_eq g299.symm)
    have wb := wb.ext E299
    have wd := wd.ext E299
    have wa := wa.ext E299
    have wf := wf.ext E299
    have we := we.ext E299
    have hk := Nat.le_trans hk E299.1
    have wj := wj.ext E299
    have K299 := K282.ext E299
    have wq := A299
    have wy : fBQ Z h299 b299 .null := D299 (Or.inr (tb hw 22 rfl)) (ty := (.array .byte)) (by decide)
    have wE : fAQ Z h299 b299 (.int 0) := D299 (Or.inr (tb hw 23 rfl)) (ty := .byte) (by decide)
    refine Ends.j 487 [.ref b299] st299 ?_
    refine Ends.step (fun _ k => XS.dup X299.here hx rfl (hb hby at_487) rfl rfl k) ?_
    by_cases hs488_300 : (255 : Int32) < x6_1
    ·show Ends p e below QQ (T299.setTop (mkF m 488 #[iv p0, iv p1, iv p2, iv p3, jv q4, ss, iv x6_1, iv x7_2, iv x8_3, jv x9_4, ss, rv b219, jv (-1), ss, uu, uu] [.ref b299, .ref b299]))
     refine oB X299 hy at_488 490 rfl ?_
     refine cI X299 hy hml hown hZ hw at_490 493 1 10 11 12 9 rfl rfl rfl rfl rfl (rmscU l Z a0 hw [] b299 b219 (.null : Value) (0 : Int32) k219 cs (own_lit [(fdg x9_4 (1000000000000000000 : Int64)), (fdg x9_4 (100000000000000000 : Int64)), (fdg x9_4 (10000000000000000 : Int64)), (fdg x9_4 (1000000000000000 : Int64)), (fdg x9_4 (100000000000000 : Int64)), (fdg x9_4 (10000000000000 : Int64)), (fdg x9_4 (1000000000000 : Int64)), (fdg x9_4 (100000000000 : Int64)), (fdg x9_4 (10000000000 : Int64)), (fdg x9_4 (1000000000 : Int64)), (fdg x9_4 (100000000 : Int64)), (fdg x9_4 (10000000 : Int64)), (fdg x9_4 (1000000 : Int64)), (fdg x9_4 (100000 : Int64)), (fdg x9_4 (10000 : Int64)), (fdg x9_4 (1000 : Int64)), (fdg x9_4 (100 : Int64)), (fdg x9_4 (10 : Int64)), (fdg x9_4 (1 : Int64)), x6_1, x7_2, x8_3]) 19 (22 : Int32) h299 n0 (Nat.le_trans Z0 K299.1) wq wy wE vD (Ne.symm wX) wj (by decide) (by decide) (own_lbd (List.forall_mem_cons.mpr ⟨(own_dgb _ _), (List.forall_mem_cons.mpr ⟨(own_dgb _ _), (List.forall_mem_cons.mpr ⟨(own_dgb _ _), (List.forall_mem_cons.mpr ⟨(own_dgb _ _), (List.forall_mem_cons.mpr ⟨(own_dgb _ _), (List.forall_mem_cons.mpr ⟨(own_dgb _ _), (List.forall_mem_cons.mpr ⟨(own_dgb _ _), (List.forall_mem_cons.mpr ⟨(own_dgb _ _), (List.forall_mem_cons.mpr ⟨(own_dgb _ _), (List.forall_mem_cons.mpr ⟨(own_dgb _ _), (List.forall_mem_cons.mpr ⟨(own_dgb _ _), (List.forall_mem_cons.mpr ⟨(own_dgb _ _), (List.forall_mem_cons.mpr ⟨(own_dgb _ _), (List.forall_mem_cons.mpr ⟨(own_dgb _ _), (List.forall_mem_cons.mpr ⟨(own_dgb _ _), (List.forall_mem_cons.mpr ⟨(own_dgb _ _), (List.forall_mem_cons.mpr ⟨(own_dgb _ _), (List.forall_mem_cons.mpr ⟨(own_dgb _ _), (List.forall_mem_cons.mpr ⟨(own_dgb _ _), (List.forall_mem_cons.mpr ⟨(own_cb hv6_1), (List.forall_mem_cons.mpr ⟨(own_cb hv7_2), (List.forall_mem_cons.mpr ⟨(own_cb hv8_3), (fun x hx => nomatch hx)⟩)⟩)⟩)⟩)⟩)⟩)⟩)⟩)⟩)⟩)⟩)⟩)⟩)⟩)⟩)⟩)⟩)⟩)⟩)⟩)⟩)⟩)) (own_lpre (pre := [(fdg x9_4 (1000000000000000000 : Int64)), (fdg x9_4 (100000000000000000 : Int64)), (fdg x9_4 (10000000000000000 : Int64)), (fdg x9_4 (1000000000000000 : Int64)), (fdg x9_4 (100000000000000 : Int64)), (fdg x9_4 (10000000000000 : Int64)), (fdg x9_4 (1000000000000 : Int64)), (fdg x9_4 (100000000000 : Int64)), (fdg x9_4 (10000000000 : Int64)), (fdg x9_4 (1000000000 : Int64)), (fdg x9_4 (100000000 : Int64)), (fdg x9_4 (10000000 : Int64)), (fdg x9_4 (1000000 : Int64)), (fdg x9_4 (100000 : Int64)), (fdg x9_4 (10000 : Int64)), (fdg x9_4 (1000 : Int64)), (fdg x9_4 (100 : Int64)), (fdg x9_4 (10 : Int64)), (fdg x9_4 (1 : Int64))]) (post := [x6_1, x7_2, x8_3]) (P := fun z => ¬ (255 : Int32) < z) (List.forall_mem_cons.mpr ⟨(own_dgle _ _), (List.forall_mem_cons.mpr ⟨(own_dgle _ _), (List.forall_mem_cons.mpr ⟨(own_dgle _ _), (List.forall_mem_cons.mpr ⟨(own_dgle _ _), (List.forall_mem_cons.mpr ⟨(own_dgle _ _), (List.forall_mem_cons.mpr ⟨(own_dgle _ _), (List.forall_mem_cons.mpr ⟨(own_dgle _ _), (List.forall_mem_cons.mpr ⟨(own_dgle _ _), (List.forall_mem_cons.mpr ⟨(own_dgle _ _), (List.forall_mem_cons.mpr ⟨(own_dgle _ _), (List.forall_mem_cons.mpr ⟨(own_dgle _ _), (List.forall_mem_cons.mpr ⟨(own_dgle _ _), (List.forall_mem_cons.mpr ⟨(own_dgle _ _), (List.forall_mem_cons.mpr ⟨(own_dgle _ _), (List.forall_mem_cons.mpr ⟨(own_dgle _ _), (List.forall_mem_cons.mpr ⟨(own_dgle _ _), (List.forall_mem_cons.mpr ⟨(own_dgle _ _), (List.forall_mem_cons.mpr ⟨(own_dgle _ _), (List.forall_mem_cons.mpr ⟨(own_dgle _ _), (fun x hx => nomatch hx)⟩)⟩)⟩)⟩)⟩)⟩)⟩)⟩)⟩)⟩)⟩)⟩)⟩)⟩)⟩)⟩)⟩)⟩)⟩)) hs488_300 (by decide) wa wf we wb hcs) e299 pd_18 rfl rfl fun _ T301 Lc301 X301 hQ301 => ?_
     obtain ⟨b_301, k2_301, rfl, Nq301, Kq301, fq301_0, g_b_301, fq301_2, wy, wE, fq301_5, kM⟩ := hQ301
     have N301 := Fr.app N297 Nq301
     have wb := own_sta_keep wb Kq301 (allS wq.cell all0)
     have wd := own_sta_keep wd Kq301 (allS wq.cell all0)
     have wa := own_sta_keep wa Kq301 (allS wq.cell all0)
     have wf := own_sta_keep wf Kq301 (allS wq.cell all0)
     have we := own_sta_keep we Kq301 (allS wq.cell all0)
     have hk := Nat.le_trans hk Kq301.1
     have wq := fq301_2
     have K301 := K299.trans Kq301 (allS (Or.inr vv) all0)
     refine Ends.u ?_
     refine cS X301 hy hml hown hZ hw at_493 496 0 28 29 30 31 rfl rfl rfl rfl (rmpaU l Z a0 hw [] b299 b_301 k2_301 cs sf (22 : Int32) (own_lit [(fdg x9_4 (1000000000000000000 : Int64)), (fdg x9_4 (100000000000000000 : Int64)), (fdg x9_4 (10000000000000000 : Int64)), (fdg x9_4 (1000000000000000 : Int64)), (fdg x9_4 (100000000000000 : Int64)), (fdg x9_4 (10000000000000 : Int64)), (fdg x9_4 (1000000000000 : Int64)), (fdg x9_4 (100000000000 : Int64)), (fdg x9_4 (10000000000 : Int64)), (fdg x9_4 (1000000000 : Int64)), (fdg x9_4 (100000000 : Int64)), (fdg x9_4 (10000000 : Int64)), (fdg x9_4 (1000000 : Int64)), (fdg x9_4 (100000 : Int64)), (fdg x9_4 (10000 : Int64)), (fdg x9_4 (1000 : Int64)), (fdg x9_4 (100 : Int64)), (fdg x9_4 (10 : Int64)), (fdg x9_4 (1 : Int64)), x6_1, x7_2, x8_3]) T301.heap n0 (Nat.le_trans Z0 K301.1) wq wy wE kM wb hcs wd wn (by decide) (by decide) (own_lbd (List.forall_mem_cons.mpr ⟨(own_dgb _ _), (List.forall_mem_cons.mpr ⟨(own_dgb _ _), (List.forall_mem_cons.mpr ⟨(own_dgb _ _), (List.forall_mem_cons.mpr ⟨(own_dgb _ _), (List.forall_mem_cons.mpr ⟨(own_dgb _ _), (List.forall_mem_cons.mpr ⟨(own_dgb _ _), (List.forall_mem_cons.mpr ⟨(own_dgb _ _), (List.forall_mem_cons.mpr ⟨(own_dgb _ _), (List.forall_mem_cons.mpr ⟨(own_dgb _ _), (List.forall_mem_cons.mpr ⟨(own_dgb _ _), (List.forall_mem_cons.mpr ⟨(own_dgb _ _), (List.forall_mem_cons.mpr ⟨(own_dgb _ _), (List.forall_mem_cons.mpr ⟨(own_dgb _ _), (List.forall_mem_cons.mpr ⟨(own_dgb _ _), (List.forall_mem_cons.mpr ⟨(own_dgb _ _), (List.forall_mem_cons.mpr ⟨(own_dgb _ _), (List.forall_mem_cons.mpr ⟨(own_dgb _ _), (List.forall_mem_cons.mpr ⟨(own_dgb _ _), (List.forall_mem_cons.mpr ⟨(own_dgb _ _), (List.forall_mem_cons.mpr ⟨(own_cb hv6_1), (List.forall_mem_cons.mpr ⟨(own_cb hv7_2), (List.forall_mem_cons.mpr ⟨(own_cb hv8_3), (fun x hx => nomatch hx)⟩)⟩)⟩)⟩)⟩)⟩)⟩)⟩)⟩)⟩)⟩)⟩)⟩)⟩)⟩)⟩)⟩)⟩)⟩)⟩)⟩)⟩)) wa wf we) rfl pd_19 rfl rfl fun _ T302 Lc302 X302 hQ302 => ?_
     obtain ⟨rfl, Nq302, hh302⟩ := hQ302
     have N302 := Fr.app N301 Nq302
     refine Ends.v (oF X302 hy at_496 498 rfl (oY X302 hy at_498 499 ?_))
     have hc499 : (own_p (own_gl (22 : Int32).toNatClampNeg (own_lit [(fdg x9_4 (1000000000000000000 : Int64)), (fdg x9_4 (100000000000000000 : Int64)), (fdg x9_4 (10000000000000000 : Int64)), (fdg x9_4 (1000000000000000 : Int64)), (fdg x9_4 (100000000000000 : Int64)), (fdg x9_4 (10000000000000 : Int64)), (fdg x9_4 (1000000000000 : Int64)), (fdg x9_4 (100000000000 : Int64)), (fdg x9_4 (10000000000 : Int64)), (fdg x9_4 (1000000000 : Int64)), (fdg x9_4 (100000000 : Int64)), (fdg x9_4 (10000000 : Int64)), (fdg x9_4 (1000000 : Int64)), (fdg x9_4 (100000 : Int64)), (fdg x9_4 (10000 : Int64)), (fdg x9_4 (1000 : Int64)), (fdg x9_4 (100 : Int64)), (fdg x9_4 (10 : Int64)), (fdg x9_4 (1 : Int64)), x6_1, x7_2, x8_3])) (0 : Int64)) = (-1 : Int64) := (own_lg1 (own_h0 hv9_4) (own_cb hv6_1) (own_cb hv7_2) (own_cb hv8_3) hc367_284 hc375_298)
     refine oxh X302 hy at_499 502 (XT.ll_ne_f hc499) (oG X302 hy at_502 503 1 rfl (oxm X302 hy at_503 507 ?_))
     exact Ends.finW (some (.int 1)) X302 hS hk hQQ (fun h => by rw [Bd.returns] at h; cases h) Bd.notSynchronized (fun _ hr => retOut X302 hx (t := .boolean) Bd.returns rfl (Or.inl ⟨rfl, (by simp), _, rfl⟩) (hb hby at_507) hr) hh302 (by decide) (by decide) ⟨rfl, N302, K301⟩
    ·show Ends p e below QQ (T299.setTop (mkF m 488 #[iv p0, iv p1, iv p2, iv p3, jv q4, ss, iv x6_1, iv x7_2, iv x8_3, jv x9_4, ss, rv b219, jv (-1), ss, uu, uu] [.ref b299, .ref b299]))
     by_cases hs488_303 : (255 : Int32) < x7_2
     ·refine oB X299 hy at_488 490 rfl ?_
      refine cI X299 hy hml hown hZ hw at_490 493 1 10 11 12 9 rfl rfl rfl rfl rfl (rmscU l Z a0 hw [] b299 b219 (.null : Value) (0 : Int32) k219 cs (own_lit [(fdg x9_4 (1000000000000000000 : Int64)), (fdg x9_4 (100000000000000000 : Int64)), (fdg x9_4 (10000000000000000 : Int64)), (fdg x9_4 (1000000000000000 : Int64)), (fdg x9_4 (100000000000000 : Int64)), (fdg x9_4 (10000000000000 : Int64)), (fdg x9_4 (1000000000000 : Int64)), (fdg x9_4 (100000000000 : Int64)), (fdg x9_4 (10000000000 : Int64)), (fdg x9_4 (1000000000 : Int64)), (fdg x9_4 (100000000 : Int64)), (fdg x9_4 (10000000 : Int64)), (fdg x9_4 (1000000 : Int64)), (fdg x9_4 (100000 : Int64)), (fdg x9_4 (10000 : Int64)), (fdg x9_4 (1000 : Int64)), (fdg x9_4 (100 : Int64)), (fdg x9_4 (10 : Int64)), (fdg x9_4 (1 : Int64)), x6_1, x7_2, x8_3]) 20 (22 : Int32) h299 n0 (Nat.le_trans Z0 K299.1) wq wy wE vD (Ne.symm wX) wj (by decide) (by decide) (own_lbd (List.forall_mem_cons.mpr ⟨(own_dgb _ _), (List.forall_mem_cons.mpr ⟨(own_dgb _ _), (List.forall_mem_cons.mpr ⟨(own_dgb _ _), (List.forall_mem_cons.mpr ⟨(own_dgb _ _), (List.forall_mem_cons.mpr ⟨(own_dgb _ _), (List.forall_mem_cons.mpr ⟨(own_dgb _ _), (List.forall_mem_cons.mpr ⟨(own_dgb _ _), (List.forall_mem_cons.mpr ⟨(own_dgb _ _), (List.forall_mem_cons.mpr ⟨(own_dgb _ _), (List.forall_mem_cons.mpr ⟨(own_dgb _ _), (List.forall_mem_cons.mpr ⟨(own_dgb _ _), (List.forall_mem_cons.mpr ⟨(own_dgb _ _), (List.forall_mem_cons.mpr ⟨(own_dgb _ _), (List.forall_mem_cons.mpr ⟨(own_dgb _ _), (List.forall_mem_cons.mpr ⟨(own_dgb _ _), (List.forall_mem_cons.mpr ⟨(own_dgb _ _), (List.forall_mem_cons.mpr ⟨(own_dgb _ _), (List.forall_mem_cons.mpr ⟨(own_dgb _ _), (List.forall_mem_cons.mpr ⟨(own_dgb _ _), (List.forall_mem_cons.mpr ⟨(own_cb hv6_1), (List.forall_mem_cons.mpr ⟨(own_cb hv7_2), (List.forall_mem_cons.mpr ⟨(own_cb hv8_3), (fun x hx => nomatch hx)⟩)⟩)⟩)⟩)⟩)⟩)⟩)⟩)⟩)⟩)⟩)⟩)⟩)⟩)⟩)⟩)⟩)⟩)⟩)⟩)⟩)⟩)) (own_lpre (pre := [(fdg x9_4 (1000000000000000000 : Int64)), (fdg x9_4 (100000000000000000 : Int64)), (fdg x9_4 (10000000000000000 : Int64)), (fdg x9_4 (1000000000000000 : Int64)), (fdg x9_4 (100000000000000 : Int64)), (fdg x9_4 (10000000000000 : Int64)), (fdg x9_4 (1000000000000 : Int64)), (fdg x9_4 (100000000000 : Int64)), (fdg x9_4 (10000000000 : Int64)), (fdg x9_4 (1000000000 : Int64)), (fdg x9_4 (100000000 : Int64)), (fdg x9_4 (10000000 : Int64)), (fdg x9_4 (1000000 : Int64)), (fdg x9_4 (100000 : Int64)), (fdg x9_4 (10000 : Int64)), (fdg x9_4 (1000 : Int64)), (fdg x9_4 (100 : Int64)), (fdg x9_4 (10 : Int64)), (fdg x9_4 (1 : Int64)), x6_1]) (post := [x7_2, x8_3]) (P := fun z => ¬ (255 : Int32) < z) (List.forall_mem_cons.mpr ⟨(own_dgle _ _), (List.forall_mem_cons.mpr ⟨(own_dgle _ _), (List.forall_mem_cons.mpr ⟨(own_dgle _ _), (List.forall_mem_cons.mpr ⟨(own_dgle _ _), (List.forall_mem_cons.mpr ⟨(own_dgle _ _), (List.forall_mem_cons.mpr ⟨(own_dgle _ _), (List.forall_mem_cons.mpr ⟨(own_dgle _ _), (List.forall_mem_cons.mpr ⟨(own_dgle _ _), (List.forall_mem_cons.mpr ⟨(own_dgle _ _), (List.forall_mem_cons.mpr ⟨(own_dgle _ _), (List.forall_mem_cons.mpr ⟨(own_dgle _ _), (List.forall_mem_cons.mpr ⟨(own_dgle _ _), (List.forall_mem_cons.mpr ⟨(own_dgle _ _), (List.forall_mem_cons.mpr ⟨(own_dgle _ _), (List.forall_mem_cons.mpr ⟨(own_dgle _ _), (List.forall_mem_cons.mpr ⟨(own_dgle _ _), (List.forall_mem_cons.mpr ⟨(own_dgle _ _), (List.forall_mem_cons.mpr ⟨(own_dgle _ _), (List.forall_mem_cons.mpr ⟨(own_dgle _ _), (List.forall_mem_cons.mpr ⟨hs488_300, (fun x hx => nomatch hx)⟩)⟩)⟩)⟩)⟩)⟩)⟩)⟩)⟩)⟩)⟩)⟩)⟩)⟩)⟩)⟩)⟩)⟩)⟩)⟩)) hs488_303 (by decide) wa wf we wb hcs) e299 pd_18 rfl rfl fun _ T304 Lc304 X304 hQ304 => ?_
      obtain ⟨b_304, k2_304, rfl, Nq304, Kq304, fq304_0, g_b_304, fq304_2, wy, wE, fq304_5, kL⟩ := hQ304
      have N304 := Fr.app N297 Nq304
      have wb := own_sta_keep wb Kq304 (allS wq.cell all0)
      have wd := own_sta_keep wd Kq304 (allS wq.cell all0)
      have wa := own_sta_keep wa Kq304 (allS wq.cell all0)
      have wf := own_sta_keep wf Kq304 (allS wq.cell all0)
      have we := own_sta_keep we Kq304 (allS wq.cell all0)
      have hk := Nat.le_trans hk Kq304.1
      have wq := fq304_2
      have K304 := K299.trans Kq304 (allS (Or.inr vv) all0)
      refine Ends.u ?_
      refine cS X304 hy hml hown hZ hw at_493 496 0 28 29 30 31 rfl rfl rfl rfl (rmpaU l Z a0 hw [] b299 b_304 k2_304 cs sf (22 : Int32) (own_lit [(fdg x9_4 (1000000000000000000 : Int64)), (fdg x9_4 (100000000000000000 : Int64)), (fdg x9_4 (10000000000000000 : Int64)), (fdg x9_4 (1000000000000000 : Int64)), (fdg x9_4 (100000000000000 : Int64)), (fdg x9_4 (10000000000000 : Int64)), (fdg x9_4 (1000000000000 : Int64)), (fdg x9_4 (100000000000 : Int64)), (fdg x9_4 (10000000000 : Int64)), (fdg x9_4 (1000000000 : Int64)), (fdg x9_4 (100000000 : Int64)), (fdg x9_4 (10000000 : Int64)), (fdg x9_4 (1000000 : Int64)), (fdg x9_4 (100000 : Int64)), (fdg x9_4 (10000 : Int64)), (fdg x9_4 (1000 : Int64)), (fdg x9_4 (100 : Int64)), (fdg x9_4 (10 : Int64)), (fdg x9_4 (1 : Int64)), x6_1, x7_2, x8_3]) T304.heap n0 (Nat.le_trans Z0 K304.1) wq wy wE kL wb hcs wd wn (by decide) (by decide) (own_lbd (List.forall_mem_cons.mpr ⟨(own_dgb _ _), (List.forall_mem_cons.mpr ⟨(own_dgb _ _), (List.forall_mem_cons.mpr ⟨(own_dgb _ _), (List.forall_mem_cons.mpr ⟨(own_dgb _ _), (List.forall_mem_cons.mpr ⟨(own_dgb _ _), (List.forall_mem_cons.mpr ⟨(own_dgb _ _), (List.forall_mem_cons.mpr ⟨(own_dgb _ _), (List.forall_mem_cons.mpr ⟨(own_dgb _ _), (List.forall_mem_cons.mpr ⟨(own_dgb _ _), (List.forall_mem_cons.mpr ⟨(own_dgb _ _), (List.forall_mem_cons.mpr ⟨(own_dgb _ _), (List.forall_mem_cons.mpr ⟨(own_dgb _ _), (List.forall_mem_cons.mpr ⟨(own_dgb _ _), (List.forall_mem_cons.mpr ⟨(own_dgb _ _), (List.forall_mem_cons.mpr ⟨(own_dgb _ _), (List.forall_mem_cons.mpr ⟨(own_dgb _ _), (List.forall_mem_cons.mpr ⟨(own_dgb _ _), (List.forall_mem_cons.mpr ⟨(own_dgb _ _), (List.forall_mem_cons.mpr ⟨(own_dgb _ _), (List.forall_mem_cons.mpr ⟨(own_cb hv6_1), (List.forall_mem_cons.mpr ⟨(own_cb hv7_2), (List.forall_mem_cons.mpr ⟨(own_cb hv8_3), (fun x hx => nomatch hx)⟩)⟩)⟩)⟩)⟩)⟩)⟩)⟩)⟩)⟩)⟩)⟩)⟩)⟩)⟩)⟩)⟩)⟩)⟩)⟩)⟩)⟩)) wa wf we) rfl pd_19 rfl rfl fun _ T305 Lc305 X305 hQ305 => ?_
      obtain ⟨rfl, Nq305, hh305⟩ := hQ305
      have N305 := Fr.app N304 Nq305
      refine Ends.v (oF X305 hy at_496 498 rfl (oY X305 hy at_498 499 ?_))
      have hc499 : (own_p (own_gl (22 : Int32).toNatClampNeg (own_lit [(fdg x9_4 (1000000000000000000 : Int64)), (fdg x9_4 (100000000000000000 : Int64)), (fdg x9_4 (10000000000000000 : Int64)), (fdg x9_4 (1000000000000000 : Int64)), (fdg x9_4 (100000000000000 : Int64)), (fdg x9_4 (10000000000000 : Int64)), (fdg x9_4 (1000000000000 : Int64)), (fdg x9_4 (100000000000 : Int64)), (fdg x9_4 (10000000000 : Int64)), (fdg x9_4 (1000000000 : Int64)), (fdg x9_4 (100000000 : Int64)), (fdg x9_4 (10000000 : Int64)), (fdg x9_4 (1000000 : Int64)), (fdg x9_4 (100000 : Int64)), (fdg x9_4 (10000 : Int64)), (fdg x9_4 (1000 : Int64)), (fdg x9_4 (100 : Int64)), (fdg x9_4 (10 : Int64)), (fdg x9_4 (1 : Int64)), x6_1, x7_2, x8_3])) (0 : Int64)) = (-1 : Int64) := (own_lg1 (own_h0 hv9_4) (own_cb hv6_1) (own_cb hv7_2) (own_cb hv8_3) hc367_284 hc375_298)
      refine oxh X305 hy at_499 502 (XT.ll_ne_f hc499) (oG X305 hy at_502 503 1 rfl (oxm X305 hy at_503 507 ?_))
      exact Ends.finW (some (.int 1)) X305 hS hk hQQ (fun h => by rw [Bd.returns] at h; cases h) Bd.notSynchronized (fun _ hr => retOut X305 hx (t := .boolean) Bd.returns rfl (Or.inl ⟨rfl, (by simp), _, rfl⟩) (hb hby at_507) hr) hh305 (by decide) (by decide) ⟨rfl, N305, K304⟩
     ·by_cases hs488_306 : (255 : Int32) < x8_3
      ·refine oB X299 hy at_488 490 rfl ?_
       refine cI X299 hy hml hown hZ hw at_490 493 1 10 11 12 9 rfl rfl rfl rfl rfl (rmscU l Z a0 hw [] b299 b219 (.null : Value) (0 : Int32) k219 cs (own_lit [(fdg x9_4 (1000000000000000000 : Int64)), (fdg x9_4 (100000000000000000 : Int64)), (fdg x9_4 (10000000000000000 : Int64)), (fdg x9_4 (1000000000000000 : Int64)), (fdg x9_4 (100000000000000 : Int64)), (fdg x9_4 (10000000000000 : Int64)), (fdg x9_4 (1000000000000 : Int64)), (fdg x9_4 (100000000000 : Int64)), (fdg x9_4 (10000000000 : Int64)), (fdg x9_4 (1000000000 : Int64)), (fdg x9_4 (100000000 : Int64)), (fdg x9_4 (10000000 : Int64)), (fdg x9_4 (1000000 : Int64)), (fdg x9_4 (100000 : Int64)), (fdg x9_4 (10000 : Int64)), (fdg x9_4 (1000 : Int64)), (fdg x9_4 (100 : Int64)), (fdg x9_4 (10 : Int64)), (fdg x9_4 (1 : Int64)), x6_1, x7_2, x8_3]) 21 (22 : Int32) h299 n0 (Nat.le_trans Z0 K299.1) wq wy wE vD (Ne.symm wX) wj (by decide) (by decide) (own_lbd (List.forall_mem_cons.mpr ⟨(own_dgb _ _), (List.forall_mem_cons.mpr ⟨(own_dgb _ _), (List.forall_mem_cons.mpr ⟨(own_dgb _ _), (List.forall_mem_cons.mpr ⟨(own_dgb _ _), (List.forall_mem_cons.mpr ⟨(own_dgb _ _), (List.forall_mem_cons.mpr ⟨(own_dgb _ _), (List.forall_mem_cons.mpr ⟨(own_dgb _ _), (List.forall_mem_cons.mpr ⟨(own_dgb _ _), (List.forall_mem_cons.mpr ⟨(own_dgb _ _), (List.forall_mem_cons.mpr ⟨(own_dgb _ _), (List.forall_mem_cons.mpr ⟨(own_dgb _ _), (List.forall_mem_cons.mpr ⟨(own_dgb _ _), (List.forall_mem_cons.mpr ⟨(own_dgb _ _), (List.forall_mem_cons.mpr ⟨(own_dgb _ _), (List.forall_mem_cons.mpr ⟨(own_dgb _ _), (List.forall_mem_cons.mpr ⟨(own_dgb _ _), (List.forall_mem_cons.mpr ⟨(own_dgb _ _), (List.forall_mem_cons.mpr ⟨(own_dgb _ _), (List.forall_mem_cons.mpr ⟨(own_dgb _ _), (List.forall_mem_cons.mpr ⟨(own_cb hv6_1), (List.forall_mem_cons.mpr ⟨(own_cb hv7_2), (List.forall_mem_cons.mpr ⟨(own_cb hv8_3), (fun x hx => nomatch hx)⟩)⟩)⟩)⟩)⟩)⟩)⟩)⟩)⟩)⟩)⟩)⟩)⟩)⟩)⟩)⟩)⟩)⟩)⟩)⟩)⟩)⟩)) (own_lpre (pre := [(fdg x9_4 (1000000000000000000 : Int64)), (fdg x9_4 (100000000000000000 : Int64)), (fdg x9_4 (10000000000000000 : Int64)), (fdg x9_4 (1000000000000000 : Int64)), (fdg x9_4 (100000000000000 : Int64)), (fdg x9_4 (10000000000000 : Int64)), (fdg x9_4 (1000000000000 : Int64)), (fdg x9_4 (100000000000 : Int64)), (fdg x9_4 (10000000000 : Int64)), (fdg x9_4 (1000000000 : Int64)), (fdg x9_4 (100000000 : Int64)), (fdg x9_4 (10000000 : Int64)), (fdg x9_4 (1000000 : Int64)), (fdg x9_4 (100000 : Int64)), (fdg x9_4 (10000 : Int64)), (fdg x9_4 (1000 : Int64)), (fdg x9_4 (100 : Int64)), (fdg x9_4 (10 : Int64)), (fdg x9_4 (1 : Int64)), x6_1, x7_2]) (post := [x8_3]) (P := fun z => ¬ (255 : Int32) < z) (List.forall_mem_cons.mpr ⟨(own_dgle _ _), (List.forall_mem_cons.mpr ⟨(own_dgle _ _), (List.forall_mem_cons.mpr ⟨(own_dgle _ _), (List.forall_mem_cons.mpr ⟨(own_dgle _ _), (List.forall_mem_cons.mpr ⟨(own_dgle _ _), (List.forall_mem_cons.mpr ⟨(own_dgle _ _), (List.forall_mem_cons.mpr ⟨(own_dgle _ _), (List.forall_mem_cons.mpr ⟨(own_dgle _ _), (List.forall_mem_cons.mpr ⟨(own_dgle _ _), (List.forall_mem_cons.mpr ⟨(own_dgle _ _), (List.forall_mem_cons.mpr ⟨(own_dgle _ _), (List.forall_mem_cons.mpr ⟨(own_dgle _ _), (List.forall_mem_cons.mpr ⟨(own_dgle _ _), (List.forall_mem_cons.mpr ⟨(own_dgle _ _), (List.forall_mem_cons.mpr ⟨(own_dgle _ _), (List.forall_mem_cons.mpr ⟨(own_dgle _ _), (List.forall_mem_cons.mpr ⟨(own_dgle _ _), (List.forall_mem_cons.mpr ⟨(own_dgle _ _), (List.forall_mem_cons.mpr ⟨(own_dgle _ _), (List.forall_mem_cons.mpr ⟨hs488_300, (List.forall_mem_cons.mpr ⟨hs488_303, (fun x hx => nomatch hx)⟩)⟩)⟩)⟩)⟩)⟩)⟩)⟩)⟩)⟩)⟩)⟩)⟩)⟩)⟩)⟩)⟩)⟩)⟩)⟩)⟩)) hs488_306 (by decide) wa wf we wb hcs) e299 pd_18 rfl rfl fun _ T307 Lc307 X307 hQ307 => ?_
       obtain ⟨b_307, k2_307, rfl, Nq307, Kq307, fq307_0, g_b_307, fq307_2, wy, wE, fq307_5, kK⟩ := hQ307
       have N307 := Fr.app N297 Nq307
       have wb := own_sta_keep wb Kq307 (allS wq.cell all0)
       have wd := own_sta_keep wd Kq307 (allS wq.cell all0)
       have wa := own_sta_keep wa Kq307 (allS wq.cell all0)
       have wf := own_sta_keep wf Kq307 (allS wq.cell all0)
       have we := own_sta_keep we Kq307 (allS wq.cell all0)
       have hk := Nat.le_trans hk Kq307.1
       have wq := fq307_2
       have K307 := K299.trans Kq307 (allS (Or.inr vv) all0)
       refine Ends.u ?_
       refine cS X307 hy hml hown hZ hw at_493 496 0 28 29 30 31 rfl rfl rfl rfl (rmpaU l Z a0 hw [] b299 b_307 k2_307 cs sf (22 : Int32) (own_lit [(fdg x9_4 (1000000000000000000 : Int64)), (fdg x9_4 (100000000000000000 : Int64)), (fdg x9_4 (10000000000000000 : Int64)), (fdg x9_4 (1000000000000000 : Int64)), (fdg x9_4 (100000000000000 : Int64)), (fdg x9_4 (10000000000000 : Int64)), (fdg x9_4 (1000000000000 : Int64)), (fdg x9_4 (100000000000 : Int64)), (fdg x9_4 (10000000000 : Int64)), (fdg x9_4 (1000000000 : Int64)), (fdg x9_4 (100000000 : Int64)), (fdg x9_4 (10000000 : Int64)), (fdg x9_4 (1000000 : Int64)), (fdg x9_4 (100000 : Int64)), (fdg x9_4 (10000 : Int64)), (fdg x9_4 (1000 : Int64)), (fdg x9_4 (100 : Int64)), (fdg x9_4 (10 : Int64)), (fdg x9_4 (1 : Int64)), x6_1, x7_2, x8_3]) T307.heap n0 (Nat.le_trans Z0 K307.1) wq wy wE kK wb hcs wd wn (by decide) (by decide) (own_lbd (List.forall_mem_cons.mpr ⟨(own_dgb _ _), (List.forall_mem_cons.mpr ⟨(own_dgb _ _), (List.forall_mem_cons.mpr ⟨(own_dgb _ _), (List.forall_mem_cons.mpr ⟨(own_dgb _ _), (List.forall_mem_cons.mpr ⟨(own_dgb _ _), (List.forall_mem_cons.mpr ⟨(own_dgb _ _), (List.forall_mem_cons.mpr ⟨(own_dgb _ _), (List.forall_mem_cons.mpr ⟨(own_dgb _ _), (List.forall_mem_cons.mpr ⟨(own_dgb _ _), (List.forall_mem_cons.mpr ⟨(own_dgb _ _), (List.forall_mem_cons.mpr ⟨(own_dgb _ _), (List.forall_mem_cons.mpr ⟨(own_dgb _ _), (List.forall_mem_cons.mpr ⟨(own_dgb _ _), (List.forall_mem_cons.mpr ⟨(own_dgb _ _), (List.forall_mem_cons.mpr ⟨(own_dgb _ _), (List.forall_mem_cons.mpr ⟨(own_dgb _ _), (List.forall_mem_cons.mpr ⟨(own_dgb _ _), (List.forall_mem_cons.mpr ⟨(own_dgb _ _), (List.forall_mem_cons.mpr ⟨(own_dgb _ _), (List.forall_mem_cons.mpr ⟨(own_cb hv6_1), (List.forall_mem_cons.mpr ⟨(own_cb hv7_2), (List.forall_mem_cons.mpr ⟨(own_cb hv8_3), (fun x hx => nomatch hx)⟩)⟩)⟩)⟩)⟩)⟩)⟩)⟩)⟩)⟩)⟩)⟩)⟩)⟩)⟩)⟩)⟩)⟩)⟩)⟩)⟩)⟩)) wa wf we) rfl pd_19 rfl rfl fun _ T308 Lc308 X308 hQ308 => ?_
       obtain ⟨rfl, Nq308, hh308⟩ := hQ308
       have N308 := Fr.app N307 Nq308
       refine Ends.v (oF X308 hy at_496 498 rfl (oY X308 hy at_498 499 ?_))
       have hc499 : (own_p (own_gl (22 : Int32).toNatClampNeg (own_lit [(fdg x9_4 (1000000000000000000 : Int64)), (fdg x9_4 (100000000000000000 : Int64)), (fdg x9_4 (10000000000000000 : Int64)), (fdg x9_4 (1000000000000000 : Int64)), (fdg x9_4 (100000000000000 : Int64)), (fdg x9_4 (10000000000000 : Int64)), (fdg x9_4 (1000000000000 : Int64)), (fdg x9_4 (100000000000 : Int64)), (fdg x9_4 (10000000000 : Int64)), (fdg x9_4 (1000000000 : Int64)), (fdg x9_4 (100000000 : Int64)), (fdg x9_4 (10000000 : Int64)), (fdg x9_4 (1000000 : Int64)), (fdg x9_4 (100000 : Int64)), (fdg x9_4 (10000 : Int64)), (fdg x9_4 (1000 : Int64)), (fdg x9_4 (100 : Int64)), (fdg x9_4 (10 : Int64)), (fdg x9_4 (1 : Int64)), x6_1, x7_2, x8_3])) (0 : Int64)) = (-1 : Int64) := (own_lg1 (own_h0 hv9_4) (own_cb hv6_1) (own_cb hv7_2) (own_cb hv8_3) hc367_284 hc375_298)
       refine oxh X308 hy at_499 502 (XT.ll_ne_f hc499) (oG X308 hy at_502 503 1 rfl (oxm X308 hy at_503 507 ?_))
       exact Ends.finW (some (.int 1)) X308 hS hk hQQ (fun h => by rw [Bd.returns] at h; cases h) Bd.notSynchronized (fun _ hr => retOut X308 hx (t := .boolean) Bd.returns rfl (Or.inl ⟨rfl, (by simp), _, rfl⟩) (hb hby at_507) hr) hh308 (by decide) (by decide) ⟨rfl, N308, K307⟩
      ·refine oB X299 hy at_488 490 rfl ?_
       refine cI X299 hy hml hown hZ hw at_490 493 1 10 11 12 9 rfl rfl rfl rfl rfl (rmscL l Z a0 hw [] b299 b219 (.null : Value) (0 : Int32) k219 cs (own_lit [(fdg x9_4 (1000000000000000000 : Int64)), (fdg x9_4 (100000000000000000 : Int64)), (fdg x9_4 (10000000000000000 : Int64)), (fdg x9_4 (1000000000000000 : Int64)), (fdg x9_4 (100000000000000 : Int64)), (fdg x9_4 (10000000000000 : Int64)), (fdg x9_4 (1000000000000 : Int64)), (fdg x9_4 (100000000000 : Int64)), (fdg x9_4 (10000000000 : Int64)), (fdg x9_4 (1000000000 : Int64)), (fdg x9_4 (100000000 : Int64)), (fdg x9_4 (10000000 : Int64)), (fdg x9_4 (1000000 : Int64)), (fdg x9_4 (100000 : Int64)), (fdg x9_4 (10000 : Int64)), (fdg x9_4 (1000 : Int64)), (fdg x9_4 (100 : Int64)), (fdg x9_4 (10 : Int64)), (fdg x9_4 (1 : Int64)), x6_1, x7_2, x8_3]) (22 : Int32) h299 n0 (Nat.le_trans Z0 K299.1) wq wy wE vD (Ne.symm wX) wj (by decide) (by decide) (own_lpre (pre := [(fdg x9_4 (1000000000000000000 : Int64)), (fdg x9_4 (100000000000000000 : Int64)), (fdg x9_4 (10000000000000000 : Int64)), (fdg x9_4 (1000000000000000 : Int64)), (fdg x9_4 (100000000000000 : Int64)), (fdg x9_4 (10000000000000 : Int64)), (fdg x9_4 (1000000000000 : Int64)), (fdg x9_4 (100000000000 : Int64)), (fdg x9_4 (10000000000 : Int64)), (fdg x9_4 (1000000000 : Int64)), (fdg x9_4 (100000000 : Int64)), (fdg x9_4 (10000000 : Int64)), (fdg x9_4 (1000000 : Int64)), (fdg x9_4 (100000 : Int64)), (fdg x9_4 (10000 : Int64)), (fdg x9_4 (1000 : Int64)), (fdg x9_4 (100 : Int64)), (fdg x9_4 (10 : Int64)), (fdg x9_4 (1 : Int64)), x6_1, x7_2, x8_3]) (post := []) (P := fun z => ¬ (255 : Int32) < z) (List.forall_mem_cons.mpr ⟨(own_dgle _ _), (List.forall_mem_cons.mpr ⟨(own_dgle _ _), (List.forall_mem_cons.mpr ⟨(own_dgle _ _), (List.forall_mem_cons.mpr ⟨(own_dgle _ _), (List.forall_mem_cons.mpr ⟨(own_dgle _ _), (List.forall_mem_cons.mpr ⟨(own_dgle _ _), (List.forall_mem_cons.mpr ⟨(own_dgle _ _), (List.forall_mem_cons.mpr ⟨(own_dgle _ _), (List.forall_mem_cons.mpr ⟨(own_dgle _ _), (List.forall_mem_cons.mpr ⟨(own_dgle _ _), (List.forall_mem_cons.mpr ⟨(own_dgle _ _), (List.forall_mem_cons.mpr ⟨(own_dgle _ _), (List.forall_mem_cons.mpr ⟨(own_dgle _ _), (List.forall_mem_cons.mpr ⟨(own_dgle _ _), (List.forall_mem_cons.mpr ⟨(own_dgle _ _), (List.forall_mem_cons.mpr ⟨(own_dgle _ _), (List.forall_mem_cons.mpr ⟨(own_dgle _ _), (List.forall_mem_cons.mpr ⟨(own_dgle _ _), (List.forall_mem_cons.mpr ⟨(own_dgle _ _), (List.forall_mem_cons.mpr ⟨hs488_300, (List.forall_mem_cons.mpr ⟨hs488_303, (List.forall_mem_cons.mpr ⟨hs488_306, (fun x hx => nomatch hx)⟩)⟩)⟩)⟩)⟩)⟩)⟩)⟩)⟩)⟩)⟩)⟩)⟩)⟩)⟩)⟩)⟩)⟩)⟩)⟩)⟩)⟩)) wb hcs) e299 pd_18 rfl rfl fun _ T309 Lc309 X309 hQ309 => ?_
       obtain ⟨b_309, k2_309, rfl, Nq309, Kq309, fq309_0, g_b_309, fq309_2, wy, wE, fq309_5, kJ⟩ := hQ309
       have N309 := Fr.app N297 Nq309
       have wb := own_sta_keep wb Kq309 (allS wq.cell all0)
       have wd := own_sta_keep wd Kq309 (allS wq.cell all0)
       have hk := Nat.le_trans hk Kq309.1
       have wq := fq309_2
       have K309 := K299.trans Kq309 (allS (Or.inr vv) all0)
       refine Ends.u ?_
       refine cS X309 hy hml hown hZ hw at_493 496 0 28 29 30 31 rfl rfl rfl rfl (rmpaL l Z a0 hw [] b299 b_309 k2_309 cs sf (22 : Int32) (own_lit [(fdg x9_4 (1000000000000000000 : Int64)), (fdg x9_4 (100000000000000000 : Int64)), (fdg x9_4 (10000000000000000 : Int64)), (fdg x9_4 (1000000000000000 : Int64)), (fdg x9_4 (100000000000000 : Int64)), (fdg x9_4 (10000000000000 : Int64)), (fdg x9_4 (1000000000000 : Int64)), (fdg x9_4 (100000000000 : Int64)), (fdg x9_4 (10000000000 : Int64)), (fdg x9_4 (1000000000 : Int64)), (fdg x9_4 (100000000 : Int64)), (fdg x9_4 (10000000 : Int64)), (fdg x9_4 (1000000 : Int64)), (fdg x9_4 (100000 : Int64)), (fdg x9_4 (10000 : Int64)), (fdg x9_4 (1000 : Int64)), (fdg x9_4 (100 : Int64)), (fdg x9_4 (10 : Int64)), (fdg x9_4 (1 : Int64)), x6_1, x7_2, x8_3]) T309.heap n0 (Nat.le_trans Z0 K309.1) wq wy wE kJ wb hcs wd wn (by decide) (by decide) (own_lbd (List.forall_mem_cons.mpr ⟨(own_dgb _ _), (List.forall_mem_cons.mpr ⟨(own_dgb _ _), (List.forall_mem_cons.mpr ⟨(own_dgb _ _), (List.forall_mem_cons.mpr ⟨(own_dgb _ _), (List.forall_mem_cons.mpr ⟨(own_dgb _ _), (List.forall_mem_cons.mpr ⟨(own_dgb _ _), (List.forall_mem_cons.mpr ⟨(own_dgb _ _), (List.forall_mem_cons.mpr ⟨(own_dgb _ _), (List.forall_mem_cons.mpr ⟨(own_dgb _ _), (List.forall_mem_cons.mpr ⟨(own_dgb _ _), (List.forall_mem_cons.mpr ⟨(own_dgb _ _), (List.forall_mem_cons.mpr ⟨(own_dgb _ _), (List.forall_mem_cons.mpr ⟨(own_dgb _ _), (List.forall_mem_cons.mpr ⟨(own_dgb _ _), (List.forall_mem_cons.mpr ⟨(own_dgb _ _), (List.forall_mem_cons.mpr ⟨(own_dgb _ _), (List.forall_mem_cons.mpr ⟨(own_dgb _ _), (List.forall_mem_cons.mpr ⟨(own_dgb _ _), (List.forall_mem_cons.mpr ⟨(own_dgb _ _), (List.forall_mem_cons.mpr ⟨(own_cb hv6_1), (List.forall_mem_cons.mpr ⟨(own_cb hv7_2), (List.forall_mem_cons.mpr ⟨(own_cb hv8_3), (fun x hx => nomatch hx)⟩)⟩)⟩)⟩)⟩)⟩)⟩)⟩)⟩)⟩)⟩)⟩)⟩)⟩)⟩)⟩)⟩)⟩)⟩)⟩)⟩)⟩)) (own_lpre (pre := [(fdg x9_4 (1000000000000000000 : Int64)), (fdg x9_4 (100000000000000000 : Int64)), (fdg x9_4 (10000000000000000 : Int64)), (fdg x9_4 (1000000000000000 : Int64)), (fdg x9_4 (100000000000000 : Int64)), (fdg x9_4 (10000000000000 : Int64)), (fdg x9_4 (1000000000000 : Int64)), (fdg x9_4 (100000000000 : Int64)), (fdg x9_4 (10000000000 : Int64)), (fdg x9_4 (1000000000 : Int64)), (fdg x9_4 (100000000 : Int64)), (fdg x9_4 (10000000 : Int64)), (fdg x9_4 (1000000 : Int64)), (fdg x9_4 (100000 : Int64)), (fdg x9_4 (10000 : Int64)), (fdg x9_4 (1000 : Int64)), (fdg x9_4 (100 : Int64)), (fdg x9_4 (10 : Int64)), (fdg x9_4 (1 : Int64)), x6_1, x7_2, x8_3]) (post := []) (P := fun z => ¬ (255 : Int32) < z) (List.forall_mem_cons.mpr ⟨(own_dgle _ _), (List.forall_mem_cons.mpr ⟨(own_dgle _ _), (List.forall_mem_cons.mpr ⟨(own_dgle _ _), (List.forall_mem_cons.mpr ⟨(own_dgle _ _), (List.forall_mem_cons.mpr ⟨(own_dgle _ _), (List.forall_mem_cons.mpr ⟨(own_dgle _ _), (List.forall_mem_cons.mpr ⟨(own_dgle _ _), (List.forall_mem_cons.mpr ⟨(own_dgle _ _), (List.forall_mem_cons.mpr ⟨(own_dgle _ _), (List.forall_mem_cons.mpr ⟨(own_dgle _ _), (List.forall_mem_cons.mpr ⟨(own_dgle _ _), (List.forall_mem_cons.mpr ⟨(own_dgle _ _), (List.forall_mem_cons.mpr ⟨(own_dgle _ _), (List.forall_mem_cons.mpr ⟨(own_dgle _ _), (List.forall_mem_cons.mpr ⟨(own_dgle _ _), (List.forall_mem_cons.mpr ⟨(own_dgle _ _), (List.forall_mem_cons.mpr ⟨(own_dgle _ _), (List.forall_mem_cons.mpr ⟨(own_dgle _ _), (List.forall_mem_cons.mpr ⟨(own_dgle _ _), (List.forall_mem_cons.mpr ⟨hs488_300, (List.forall_mem_cons.mpr ⟨hs488_303, (List.forall_mem_cons.mpr ⟨hs488_306, (fun x hx => nomatch hx)⟩)⟩)⟩)⟩)⟩)⟩)⟩)⟩)⟩)⟩)⟩)⟩)⟩)⟩)⟩)⟩)⟩)⟩)⟩)⟩)⟩)⟩))) rfl pd_19 rfl rfl fun _ T310 Lc310 X310 hQ310 => ?_
       obtain ⟨rfl, Nq310, hh310⟩ := hQ310
       have N310 := Fr.app N309 Nq310
       refine Ends.v (oF X310 hy at_496 498 rfl (oY X310 hy at_498 499 ?_))
       have hc499 : (own_p (own_gl (22 : Int32).toNatClampNeg (own_lit [(fdg x9_4 (1000000000000000000 : Int64)), (fdg x9_4 (100000000000000000 : Int64)), (fdg x9_4 (10000000000000000 : Int64)), (fdg x9_4 (1000000000000000 : Int64)), (fdg x9_4 (100000000000000 : Int64)), (fdg x9_4 (10000000000000 : Int64)), (fdg x9_4 (1000000000000 : Int64)), (fdg x9_4 (100000000000 : Int64)), (fdg x9_4 (10000000000 : Int64)), (fdg x9_4 (1000000000 : Int64)), (fdg x9_4 (100000000 : Int64)), (fdg x9_4 (10000000 : Int64)), (fdg x9_4 (1000000 : Int64)), (fdg x9_4 (100000 : Int64)), (fdg x9_4 (10000 : Int64)), (fdg x9_4 (1000 : Int64)), (fdg x9_4 (100 : Int64)), (fdg x9_4 (10 : Int64)), (fdg x9_4 (1 : Int64)), x6_1, x7_2, x8_3])) (0 : Int64)) = (-1 : Int64) := (own_lg1 (own_h0 hv9_4) (own_cb hv6_1) (own_cb hv7_2) (own_cb hv8_3) hc367_284 hc375_298)
       refine oxh X310 hy at_499 502 (XT.ll_ne_f hc499) (oG X310 hy at_502 503 1 rfl (oxm X310 hy at_503 507 ?_))
       exact Ends.finW (some (.int 1)) X310 hS hk hQQ (fun h => by rw [Bd.returns] at h; cases h) Bd.notSynchronized (fun _ hr => retOut X310 hx (t := .boolean) Bd.returns rfl (Or.inl ⟨rfl, (by simp), _, rfl⟩) (hb hby at_507) hr) hh310 (by decide) (by decide) ⟨rfl, N310, K309⟩
   ·refine oxh X297 hy at_375 378 (XT.i0_eq_f hc375_298) (oD X297 hy at_378 380 rfl ?_)
    refine cS X297 hy hml hown hZ hw at_380 383 0 38 39 4 40 rfl rfl rfl rfl (rmisd l Z a0 hw [] x8_3 h282 n0 (Nat.le_trans Z0 K282.1)) hh297 pd_0 rfl rfl fun _ T311 Lc311 X311 hQ311 => ?_
    obtain ⟨rfl, Nq311, hh311⟩ := hQ311
    have N311 := Fr.app N297 Nq311
    refine Ends.v ?_
    by_cases hc383_312 : (fisd x8_3) = (0 : Int32)
    ·refine oxh X311 hy at_383 386 (XT.i0_ne_f hc383_312) (oJ2 X311 hy hown hZ hw at_386 389 (-1) 6 rfl (oxq X311 hy at_389 391 #[iv p0, iv p1, iv p2, iv p3, jv q4, ss, iv x6_1, iv x7_2, iv x8_3, jv x9_4, ss, rv b219, jv (-1), ss, uu, uu] rfl (oxm X311 hy at_391 484 ?_)))
     obtain ⟨T313, h313, X313, e313, E313, A313, D313, U313, st313⟩ := newO X311 hx hZ hown (tb hw 7 rfl) (tb hw 8 rfl) (tb hw 9 rfl) hh311 (g := (mkF m 484 #[iv p0, iv p1, iv p2, iv p3, jv q4, ss, iv x6_1, iv x7_2, iv x8_3, jv x9_4, ss, rv b219, jv (-1), ss, uu, uu] [])) rfl (hb hby at_484) (by decide) (by decide)
     obtain ⟨b313, g313⟩ : ∃ z, z = h282.size := ⟨_, rfl⟩
     rw [← g313] at A313 D313 U313 st313
     have wW : b219 ≠ b313 := Nat.ne_of_lt (Nat.lt_of_lt_of_le wl.lt (Nat.le_of_eq g313.symm))
     have vC : n0 ≤ b313 := Nat.le_trans Z0 (Nat.le_trans K282.1 (Nat.le_of_eq g313.symm))
     have vu : h0.size ≤ b313 := Nat.le_trans K282.1 (Nat.le_of_eq g313.symm)
     have wb := wb.ext E313
     have wd := wd.ext E313
     have wa := wa.ext E313
     have wf := wf.ext E313
     have we := we.ext E313
     have hk := Nat.le_trans hk E313.1
     have wj := wj.ext E313
     have K313 := K282.ext E313
     have wp := A313
     have wx : fBQ Z h313 b313 .null := D313 (Or.inr (tb hw 22 rfl)) (ty := (.array .byte)) (by decide)
     have wD : fAQ Z h313 b313 (.int 0) := D313 (Or.inr (tb hw 23 rfl)) (ty := .byte) (by decide)
     refine Ends.j 487 [.ref b313] st313 ?_
     refine Ends.step (fun _ k => XS.dup X313.here hx rfl (hb hby at_487) rfl rfl k) ?_
     by_cases hs488_314 : (255 : Int32) < x6_1
     ·show Ends p e below QQ (T313.setTop (mkF m 488 #[iv p0, iv p1, iv p2, iv p3, jv q4, ss, iv x6_1, iv x7_2, iv x8_3, jv x9_4, ss, rv b219, jv (-1), ss, uu, uu] [.ref b313, .ref b313]))
      refine oB X313 hy at_488 490 rfl ?_
      refine cI X313 hy hml hown hZ hw at_490 493 1 10 11 12 9 rfl rfl rfl rfl rfl (rmscU l Z a0 hw [] b313 b219 (.null : Value) (0 : Int32) k219 cs (own_lit [(fdg x9_4 (1000000000000000000 : Int64)), (fdg x9_4 (100000000000000000 : Int64)), (fdg x9_4 (10000000000000000 : Int64)), (fdg x9_4 (1000000000000000 : Int64)), (fdg x9_4 (100000000000000 : Int64)), (fdg x9_4 (10000000000000 : Int64)), (fdg x9_4 (1000000000000 : Int64)), (fdg x9_4 (100000000000 : Int64)), (fdg x9_4 (10000000000 : Int64)), (fdg x9_4 (1000000000 : Int64)), (fdg x9_4 (100000000 : Int64)), (fdg x9_4 (10000000 : Int64)), (fdg x9_4 (1000000 : Int64)), (fdg x9_4 (100000 : Int64)), (fdg x9_4 (10000 : Int64)), (fdg x9_4 (1000 : Int64)), (fdg x9_4 (100 : Int64)), (fdg x9_4 (10 : Int64)), (fdg x9_4 (1 : Int64)), x6_1, x7_2, x8_3]) 19 (22 : Int32) h313 n0 (Nat.le_trans Z0 K313.1) wp wx wD vC (Ne.symm wW) wj (by decide) (by decide) (own_lbd (List.forall_mem_cons.mpr ⟨(own_dgb _ _), (List.forall_mem_cons.mpr ⟨(own_dgb _ _), (List.forall_mem_cons.mpr ⟨(own_dgb _ _), (List.forall_mem_cons.mpr ⟨(own_dgb _ _), (List.forall_mem_cons.mpr ⟨(own_dgb _ _), (List.forall_mem_cons.mpr ⟨(own_dgb _ _), (List.forall_mem_cons.mpr ⟨(own_dgb _ _), (List.forall_mem_cons.mpr ⟨(own_dgb _ _), (List.forall_mem_cons.mpr ⟨(own_dgb _ _), (List.forall_mem_cons.mpr ⟨(own_dgb _ _), (List.forall_mem_cons.mpr ⟨(own_dgb _ _), (List.forall_mem_cons.mpr ⟨(own_dgb _ _), (List.forall_mem_cons.mpr ⟨(own_dgb _ _), (List.forall_mem_cons.mpr ⟨(own_dgb _ _), (List.forall_mem_cons.mpr ⟨(own_dgb _ _), (List.forall_mem_cons.mpr ⟨(own_dgb _ _), (List.forall_mem_cons.mpr ⟨(own_dgb _ _), (List.forall_mem_cons.mpr ⟨(own_dgb _ _), (List.forall_mem_cons.mpr ⟨(own_dgb _ _), (List.forall_mem_cons.mpr ⟨(own_cb hv6_1), (List.forall_mem_cons.mpr ⟨(own_cb hv7_2), (List.forall_mem_cons.mpr ⟨(own_cb hv8_3), (fun x hx => nomatch hx)⟩)⟩)⟩)⟩)⟩)⟩)⟩)⟩)⟩)⟩)⟩)⟩)⟩)⟩)⟩)⟩)⟩)⟩)⟩)⟩)⟩)⟩)) (own_lpre (pre := [(fdg x9_4 (1000000000000000000 : Int64)), (fdg x9_4 (100000000000000000 : Int64)), (fdg x9_4 (10000000000000000 : Int64)), (fdg x9_4 (1000000000000000 : Int64)), (fdg x9_4 (100000000000000 : Int64)), (fdg x9_4 (10000000000000 : Int64)), (fdg x9_4 (1000000000000 : Int64)), (fdg x9_4 (100000000000 : Int64)), (fdg x9_4 (10000000000 : Int64)), (fdg x9_4 (1000000000 : Int64)), (fdg x9_4 (100000000 : Int64)), (fdg x9_4 (10000000 : Int64)), (fdg x9_4 (1000000 : Int64)), (fdg x9_4 (100000 : Int64)), (fdg x9_4 (10000 : Int64)), (fdg x9_4 (1000 : Int64)), (fdg x9_4 (100 : Int64)), (fdg x9_4 (10 : Int64)), (fdg x9_4 (1 : Int64))]) (post := [x6_1, x7_2, x8_3]) (P := fun z => ¬ (255 : Int32) < z) (List.forall_mem_cons.mpr ⟨(own_dgle _ _), (List.forall_mem_cons.mpr ⟨(own_dgle _ _), (List.forall_mem_cons.mpr ⟨(own_dgle _ _), (List.forall_mem_cons.mpr ⟨(own_dgle _ _), (List.forall_mem_cons.mpr ⟨(own_dgle _ _), (List.forall_mem_cons.mpr ⟨(own_dgle _ _), (List.forall_mem_cons.mpr ⟨(own_dgle _ _), (List.forall_mem_cons.mpr ⟨(own_dgle _ _), (List.forall_mem_cons.mpr ⟨(own_dgle _ _), (List.forall_mem_cons.mpr ⟨(own_dgle _ _), (List.forall_mem_cons.mpr ⟨(own_dgle _ _), (List.forall_mem_cons.mpr ⟨(own_dgle _ _), (List.forall_mem_cons.mpr ⟨(own_dgle _ _), (List.forall_mem_cons.mpr ⟨(own_dgle _ _), (List.forall_mem_cons.mpr ⟨(own_dgle _ _), (List.forall_mem_cons.mpr ⟨(own_dgle _ _), (List.forall_mem_cons.mpr ⟨(own_dgle _ _), (List.forall_mem_cons.mpr ⟨(own_dgle _ _), (List.forall_mem_cons.mpr ⟨(own_dgle _ _), (fun x hx => nomatch hx)⟩)⟩)⟩)⟩)⟩)⟩)⟩)⟩)⟩)⟩)⟩)⟩)⟩)⟩)⟩)⟩)⟩)⟩)⟩)) hs488_314 (by decide) wa wf we wb hcs) e313 pd_18 rfl rfl fun _ T315 Lc315 X315 hQ315 => ?_
      obtain ⟨b_315, k2_315, rfl, Nq315, Kq315, fq315_0, g_b_315, fq315_2, wx, wD, fq315_5, kI⟩ := hQ315
      have N315 := Fr.app N311 Nq315
      have wb := own_sta_keep wb Kq315 (allS wp.cell all0)
      have wd := own_sta_keep wd Kq315 (allS wp.cell all0)
      have wa := own_sta_keep wa Kq315 (allS wp.cell all0)
      have wf := own_sta_keep wf Kq315 (allS wp.cell all0)
      have we := own_sta_keep we Kq315 (allS wp.cell all0)
      have hk := Nat.le_trans hk Kq315.1
      have wp := fq315_2
      have K315 := K313.trans Kq315 (allS (Or.inr vu) all0)
      refine Ends.u ?_
      refine cS X315 hy hml hown hZ hw at_493 496 0 28 29 30 31 rfl rfl rfl rfl (rmpaU l Z a0 hw [] b313 b_315 k2_315 cs sf (22 : Int32) (own_lit [(fdg x9_4 (1000000000000000000 : Int64)), (fdg x9_4 (100000000000000000 : Int64)), (fdg x9_4 (10000000000000000 : Int64)), (fdg x9_4 (1000000000000000 : Int64)), (fdg x9_4 (100000000000000 : Int64)), (fdg x9_4 (10000000000000 : Int64)), (fdg x9_4 (1000000000000 : Int64)), (fdg x9_4 (100000000000 : Int64)), (fdg x9_4 (10000000000 : Int64)), (fdg x9_4 (1000000000 : Int64)), (fdg x9_4 (100000000 : Int64)), (fdg x9_4 (10000000 : Int64)), (fdg x9_4 (1000000 : Int64)), (fdg x9_4 (100000 : Int64)), (fdg x9_4 (10000 : Int64)), (fdg x9_4 (1000 : Int64)), (fdg x9_4 (100 : Int64)), (fdg x9_4 (10 : Int64)), (fdg x9_4 (1 : Int64)), x6_1, x7_2, x8_3]) T315.heap n0 (Nat.le_trans Z0 K315.1) wp wx wD kI wb hcs wd wn (by decide) (by decide) (own_lbd (List.forall_mem_cons.mpr ⟨(own_dgb _ _), (List.forall_mem_cons.mpr ⟨(own_dgb _ _), (List.forall_mem_cons.mpr ⟨(own_dgb _ _), (List.forall_mem_cons.mpr ⟨(own_dgb _ _), (List.forall_mem_cons.mpr ⟨(own_dgb _ _), (List.forall_mem_cons.mpr ⟨(own_dgb _ _), (List.forall_mem_cons.mpr ⟨(own_dgb _ _), (List.forall_mem_cons.mpr ⟨(own_dgb _ _), (List.forall_mem_cons.mpr ⟨(own_dgb _ _), (List.forall_mem_cons.mpr ⟨(own_dgb _ _), (List.forall_mem_cons.mpr ⟨(own_dgb _ _), (List.forall_mem_cons.mpr ⟨(own_dgb _ _), (List.forall_mem_cons.mpr ⟨(own_dgb _ _), (List.forall_mem_cons.mpr ⟨(own_dgb _ _), (List.forall_mem_cons.mpr ⟨(own_dgb _ _), (List.forall_mem_cons.mpr ⟨(own_dgb _ _), (List.forall_mem_cons.mpr ⟨(own_dgb _ _), (List.forall_mem_cons.mpr ⟨(own_dgb _ _), (List.forall_mem_cons.mpr ⟨(own_dgb _ _), (List.forall_mem_cons.mpr ⟨(own_cb hv6_1), (List.forall_mem_cons.mpr ⟨(own_cb hv7_2), (List.forall_mem_cons.mpr ⟨(own_cb hv8_3), (fun x hx => nomatch hx)⟩)⟩)⟩)⟩)⟩)⟩)⟩)⟩)⟩)⟩)⟩)⟩)⟩)⟩)⟩)⟩)⟩)⟩)⟩)⟩)⟩)⟩)) wa wf we) rfl pd_19 rfl rfl fun _ T316 Lc316 X316 hQ316 => ?_
      obtain ⟨rfl, Nq316, hh316⟩ := hQ316
      have N316 := Fr.app N315 Nq316
      refine Ends.v (oF X316 hy at_496 498 rfl (oY X316 hy at_498 499 ?_))
      have hc499 : (own_p (own_gl (22 : Int32).toNatClampNeg (own_lit [(fdg x9_4 (1000000000000000000 : Int64)), (fdg x9_4 (100000000000000000 : Int64)), (fdg x9_4 (10000000000000000 : Int64)), (fdg x9_4 (1000000000000000 : Int64)), (fdg x9_4 (100000000000000 : Int64)), (fdg x9_4 (10000000000000 : Int64)), (fdg x9_4 (1000000000000 : Int64)), (fdg x9_4 (100000000000 : Int64)), (fdg x9_4 (10000000000 : Int64)), (fdg x9_4 (1000000000 : Int64)), (fdg x9_4 (100000000 : Int64)), (fdg x9_4 (10000000 : Int64)), (fdg x9_4 (1000000 : Int64)), (fdg x9_4 (100000 : Int64)), (fdg x9_4 (10000 : Int64)), (fdg x9_4 (1000 : Int64)), (fdg x9_4 (100 : Int64)), (fdg x9_4 (10 : Int64)), (fdg x9_4 (1 : Int64)), x6_1, x7_2, x8_3])) (0 : Int64)) = (-1 : Int64) := (own_lg2 (own_h0 hv9_4) (own_cb hv6_1) (own_cb hv7_2) (own_cb hv8_3) hc367_284 hc375_298 hc383_312)
      refine oxh X316 hy at_499 502 (XT.ll_ne_f hc499) (oG X316 hy at_502 503 1 rfl (oxm X316 hy at_503 507 ?_))
      exact Ends.finW (some (.int 1)) X316 hS hk hQQ (fun h => by rw [Bd.returns] at h; cases h) Bd.notSynchronized (fun _ hr => retOut X316 hx (t := .boolean) Bd.returns rfl (Or.inl ⟨rfl, (by simp), _, rfl⟩) (hb hby at_507) hr) hh316 (by decide) (by decide) ⟨rfl, N316, K315⟩
     ·show Ends p e below QQ (T313.setTop (mkF m 488 #[iv p0, iv p1, iv p2, iv p3, jv q4, ss, iv x6_1, iv x7_2, iv x8_3, jv x9_4, ss, rv b219, jv (-1), ss, uu, uu] [.ref b313, .ref b313]))
      by_cases hs488_317 : (255 : Int32) < x7_2
      ·refine oB X313 hy at_488 490 rfl ?_
       refine cI X313 hy hml hown hZ hw at_490 493 1 10 11 12 9 rfl rfl rfl rfl rfl (rmscU l Z a0 hw [] b313 b219 (.null : Value) (0 : Int32) k219 cs (own_lit [(fdg x9_4 (1000000000000000000 : Int64)), (fdg x9_4 (100000000000000000 : Int64)), (fdg x9_4 (10000000000000000 : Int64)), (fdg x9_4 (1000000000000000 : Int64)), (fdg x9_4 (100000000000000 : Int64)), (fdg x9_4 (10000000000000 : Int64)), (fdg x9_4 (1000000000000 : Int64)), (fdg x9_4 (100000000000 : Int64)), (fdg x9_4 (10000000000 : Int64)), (fdg x9_4 (1000000000 : Int64)), (fdg x9_4 (100000000 : Int64)), (fdg x9_4 (10000000 : Int64)), (fdg x9_4 (1000000 : Int64)), (fdg x9_4 (100000 : Int64)), (fdg x9_4 (10000 : Int64)), (fdg x9_4 (1000 : Int64)), (fdg x9_4 (100 : Int64)), (fdg x9_4 (10 : Int64)), (fdg x9_4 (1 : Int64)), x6_1, x7_2, x8_3]) 20 (22 : Int32) h313 n0 (Nat.le_trans Z0 K313.1) wp wx wD vC (Ne.symm wW) wj (by decide) (by decide) (own_lbd (List.forall_mem_cons.mpr ⟨(own_dgb _ _), (List.forall_mem_cons.mpr ⟨(own_dgb _ _), (List.forall_mem_cons.mpr ⟨(own_dgb _ _), (List.forall_mem_cons.mpr ⟨(own_dgb _ _), (List.forall_mem_cons.mpr ⟨(own_dgb _ _), (List.forall_mem_cons.mpr ⟨(own_dgb _ _), (List.forall_mem_cons.mpr ⟨(own_dgb _ _), (List.forall_mem_cons.mpr ⟨(own_dgb _ _), (List.forall_mem_cons.mpr ⟨(own_dgb _ _), (List.forall_mem_cons.mpr ⟨(own_dgb _ _), (List.forall_mem_cons.mpr ⟨(own_dgb _ _), (List.forall_mem_cons.mpr ⟨(own_dgb _ _), (List.forall_mem_cons.mpr ⟨(own_dgb _ _), (List.forall_mem_cons.mpr ⟨(own_dgb _ _), (List.forall_mem_cons.mpr ⟨(own_dgb _ _), (List.forall_mem_cons.mpr ⟨(own_dgb _ _), (List.forall_mem_cons.mpr ⟨(own_dgb _ _), (List.forall_mem_cons.mpr ⟨(own_dgb _ _), (List.forall_mem_cons.mpr ⟨(own_dgb _ _), (List.forall_mem_cons.mpr ⟨(own_cb hv6_1), (List.forall_mem_cons.mpr ⟨(own_cb hv7_2), (List.forall_mem_cons.mpr ⟨(own_cb hv8_3), (fun x hx => nomatch hx)⟩)⟩)⟩)⟩)⟩)⟩)⟩)⟩)⟩)⟩)⟩)⟩)⟩)⟩)⟩)⟩)⟩)⟩)⟩)⟩)⟩)⟩)) (own_lpre (pre := [(fdg x9_4 (1000000000000000000 : Int64)), (fdg x9_4 (100000000000000000 : Int64)), (fdg x9_4 (10000000000000000 : Int64)), (fdg x9_4 (1000000000000000 : Int64)), (fdg x9_4 (100000000000000 : Int64)), (fdg x9_4 (10000000000000 : Int64)), (fdg x9_4 (1000000000000 : Int64)), (fdg x9_4 (100000000000 : Int64)), (fdg x9_4 (10000000000 : Int64)), (fdg x9_4 (1000000000 : Int64)), (fdg x9_4 (100000000 : Int64)), (fdg x9_4 (10000000 : Int64)), (fdg x9_4 (1000000 : Int64)), (fdg x9_4 (100000 : Int64)), (fdg x9_4 (10000 : Int64)), (fdg x9_4 (1000 : Int64)), (fdg x9_4 (100 : Int64)), (fdg x9_4 (10 : Int64)), (fdg x9_4 (1 : Int64)), x6_1]) (post := [x7_2, x8_3]) (P := fun z => ¬ (255 : Int32) < z) (List.forall_mem_cons.mpr ⟨(own_dgle _ _), (List.forall_mem_cons.mpr ⟨(own_dgle _ _), (List.forall_mem_cons.mpr ⟨(own_dgle _ _), (List.forall_mem_cons.mpr ⟨(own_dgle _ _), (List.forall_mem_cons.mpr ⟨(own_dgle _ _), (List.forall_mem_cons.mpr ⟨(own_dgle _ _), (List.forall_mem_cons.mpr ⟨(own_dgle _ _), (List.forall_mem_cons.mpr ⟨(own_dgle _ _), (List.forall_mem_cons.mpr ⟨(own_dgle _ _), (List.forall_mem_cons.mpr ⟨(own_dgle _ _), (List.forall_mem_cons.mpr ⟨(own_dgle _ _), (List.forall_mem_cons.mpr ⟨(own_dgle _ _), (List.forall_mem_cons.mpr ⟨(own_dgle _ _), (List.forall_mem_cons.mpr ⟨(own_dgle _ _), (List.forall_mem_cons.mpr ⟨(own_dgle _ _), (List.forall_mem_cons.mpr ⟨(own_dgle _ _), (List.forall_mem_cons.mpr ⟨(own_dgle _ _), (List.forall_mem_cons.mpr ⟨(own_dgle _ _), (List.forall_mem_cons.mpr ⟨(own_dgle _ _), (List.forall_mem_cons.mpr ⟨hs488_314, (fun x hx => nomatch hx)⟩)⟩)⟩)⟩)⟩)⟩)⟩)⟩)⟩)⟩)⟩)⟩)⟩)⟩)⟩)⟩)⟩)⟩)⟩)⟩)) hs488_317 (by decide) wa wf we wb hcs) e313 pd_18 rfl rfl fun _ T318 Lc318 X318 hQ318 => ?_
       obtain ⟨b_318, k2_318, rfl, Nq318, Kq318, fq318_0, g_b_318, fq318_2, wx, wD, fq318_5, kH⟩ := hQ318
       have N318 := Fr.app N311 Nq318
       have wb := own_sta_keep wb Kq318 (allS wp.cell all0)
       have wd := own_sta_keep wd Kq318 (allS wp.cell all0)
       have wa := own_sta_keep wa Kq318 (allS wp.cell all0)
       have wf := own_sta_keep wf Kq318 (allS wp.cell all0)
       have we := own_sta_keep we Kq318 (allS wp.cell all0)
       have hk := Nat.le_trans hk Kq318.1
       have wp := fq318_2
       have K318 := K313.trans Kq318 (allS (Or.inr vu) all0)
       refine Ends.u ?_
       refine cS X318 hy hml hown hZ hw at_493 496 0 28 29 30 31 rfl rfl rfl rfl (rmpaU l Z a0 hw [] b313 b_318 k2_318 cs sf (22 : Int32) (own_lit [(fdg x9_4 (1000000000000000000 : Int64)), (fdg x9_4 (100000000000000000 : Int64)), (fdg x9_4 (10000000000000000 : Int64)), (fdg x9_4 (1000000000000000 : Int64)), (fdg x9_4 (100000000000000 : Int64)), (fdg x9_4 (10000000000000 : Int64)), (fdg x9_4 (1000000000000 : Int64)), (fdg x9_4 (100000000000 : Int64)), (fdg x9_4 (10000000000 : Int64)), (fdg x9_4 (1000000000 : Int64)), (fdg x9_4 (100000000 : Int64)), (fdg x9_4 (10000000 : Int64)), (fdg x9_4 (1000000 : Int64)), (fdg x9_4 (100000 : Int64)), (fdg x9_4 (10000 : Int64)), (fdg x9_4 (1000 : Int64)), (fdg x9_4 (100 : Int64)), (fdg x9_4 (10 : Int64)), (fdg x9_4 (1 : Int64)), x6_1, x7_2, x8_3]) T318.heap n0 (Nat.le_trans Z0 K318.1) wp wx wD kH wb hcs wd wn (by decide) (by decide) (own_lbd (List.forall_mem_cons.mpr ⟨(own_dgb _ _), (List.forall_mem_cons.mpr ⟨(own_dgb _ _), (List.forall_mem_cons.mpr ⟨(own_dgb _ _), (List.forall_mem_cons.mpr ⟨(own_dgb _ _), (List.forall_mem_cons.mpr ⟨(own_dgb _ _), (List.forall_mem_cons.mpr ⟨(own_dgb _ _), (List.forall_mem_cons.mpr ⟨(own_dgb _ _), (List.forall_mem_cons.mpr ⟨(own_dgb _ _), (List.forall_mem_cons.mpr ⟨(own_dgb _ _), (List.forall_mem_cons.mpr ⟨(own_dgb _ _), (List.forall_mem_cons.mpr ⟨(own_dgb _ _), (List.forall_mem_cons.mpr ⟨(own_dgb _ _), (List.forall_mem_cons.mpr ⟨(own_dgb _ _), (List.forall_mem_cons.mpr ⟨(own_dgb _ _), (List.forall_mem_cons.mpr ⟨(own_dgb _ _), (List.forall_mem_cons.mpr ⟨(own_dgb _ _), (List.forall_mem_cons.mpr ⟨(own_dgb _ _), (List.forall_mem_cons.mpr ⟨(own_dgb _ _), (List.forall_mem_cons.mpr ⟨(own_dgb _ _), (List.forall_mem_cons.mpr ⟨(own_cb hv6_1), (List.forall_mem_cons.mpr ⟨(own_cb hv7_2), (List.forall_mem_cons.mpr ⟨(own_cb hv8_3), (fun x hx => nomatch hx)⟩)⟩)⟩)⟩)⟩)⟩)⟩)⟩)⟩)⟩)⟩)⟩)⟩)⟩)⟩)⟩)⟩)⟩)⟩)⟩)⟩)⟩)) wa wf we) rfl pd_19 rfl rfl fun _ T319 Lc319 X319 hQ319 => ?_
       obtain ⟨rfl, Nq319, hh319⟩ := hQ319
       have N319 := Fr.app N318 Nq319
       refine Ends.v (oF X319 hy at_496 498 rfl (oY X319 hy at_498 499 ?_))
       have hc499 : (own_p (own_gl (22 : Int32).toNatClampNeg (own_lit [(fdg x9_4 (1000000000000000000 : Int64)), (fdg x9_4 (100000000000000000 : Int64)), (fdg x9_4 (10000000000000000 : Int64)), (fdg x9_4 (1000000000000000 : Int64)), (fdg x9_4 (100000000000000 : Int64)), (fdg x9_4 (10000000000000 : Int64)), (fdg x9_4 (1000000000000 : Int64)), (fdg x9_4 (100000000000 : Int64)), (fdg x9_4 (10000000000 : Int64)), (fdg x9_4 (1000000000 : Int64)), (fdg x9_4 (100000000 : Int64)), (fdg x9_4 (10000000 : Int64)), (fdg x9_4 (1000000 : Int64)), (fdg x9_4 (100000 : Int64)), (fdg x9_4 (10000 : Int64)), (fdg x9_4 (1000 : Int64)), (fdg x9_4 (100 : Int64)), (fdg x9_4 (10 : Int64)), (fdg x9_4 (1 : Int64)), x6_1, x7_2, x8_3])) (0 : Int64)) = (-1 : Int64) := (own_lg2 (own_h0 hv9_4) (own_cb hv6_1) (own_cb hv7_2) (own_cb hv8_3) hc367_284 hc375_298 hc383_312)
       refine oxh X319 hy at_499 502 (XT.ll_ne_f hc499) (oG X319 hy at_502 503 1 rfl (oxm X319 hy at_503 507 ?_))
       exact Ends.finW (some (.int 1)) X319 hS hk hQQ (fun h => by rw [Bd.returns] at h; cases h) Bd.notSynchronized (fun _ hr => retOut X319 hx (t := .boolean) Bd.returns rfl (Or.inl ⟨rfl, (by simp), _, rfl⟩) (hb hby at_507) hr) hh319 (by decide) (by decide) ⟨rfl, N319, K318⟩
      ·by_cases hs488_320 : (255 : Int32) < x8_3
       ·refine oB X313 hy at_488 490 rfl ?_
        refine cI X313 hy hml hown hZ hw at_490 493 1 10 11 12 9 rfl rfl rfl rfl rfl (rmscU l Z a0 hw [] b313 b219 (.null : Value) (0 : Int32) k219 cs (own_lit [(fdg x9_4 (1000000000000000000 : Int64)), (fdg x9_4 (100000000000000000 : Int64)), (fdg x9_4 (10000000000000000 : Int64)), (fdg x9_4 (1000000000000000 : Int64)), (fdg x9_4 (100000000000000 : Int64)), (fdg x9_4 (10000000000000 : Int64)), (fdg x9_4 (1000000000000 : Int64)), (fdg x9_4 (100000000000 : Int64)), (fdg x9_4 (10000000000 : Int64)), (fdg x9_4 (1000000000 : Int64)), (fdg x9_4 (100000000 : Int64)), (fdg x9_4 (10000000 : Int64)), (fdg x9_4 (1000000 : Int64)), (fdg x9_4 (100000 : Int64)), (fdg x9_4 (10000 : Int64)), (fdg x9_4 (1000 : Int64)), (fdg x9_4 (100 : Int64)), (fdg x9_4 (10 : Int64)), (fdg x9_4 (1 : Int64)), x6_1, x7_2, x8_3]) 21 (22 : Int32) h313 n0 (Nat.le_trans Z0 K313.1) wp wx wD vC (Ne.symm wW) wj (by decide) (by decide) (own_lbd (List.forall_mem_cons.mpr ⟨(own_dgb _ _), (List.forall_mem_cons.mpr ⟨(own_dgb _ _), (List.forall_mem_cons.mpr ⟨(own_dgb _ _), (List.forall_mem_cons.mpr ⟨(own_dgb _ _), (List.forall_mem_cons.mpr ⟨(own_dgb _ _), (List.forall_mem_cons.mpr ⟨(own_dgb _ _), (List.forall_mem_cons.mpr ⟨(own_dgb _ _), (List.forall_mem_cons.mpr ⟨(own_dgb _ _), (List.forall_mem_cons.mpr ⟨(own_dgb _ _), (List.forall_mem_cons.mpr ⟨(own_dgb _ _), (List.forall_mem_cons.mpr ⟨(own_dgb _ _), (List.forall_mem_cons.mpr ⟨(own_dgb _ _), (List.forall_mem_cons.mpr ⟨(own_dgb _ _), (List.forall_mem_cons.mpr ⟨(own_dgb _ _), (List.forall_mem_cons.mpr ⟨(own_dgb _ _), (List.forall_mem_cons.mpr ⟨(own_dgb _ _), (List.forall_mem_cons.mpr ⟨(own_dgb _ _), (List.forall_mem_cons.mpr ⟨(own_dgb _ _), (List.forall_mem_cons.mpr ⟨(own_dgb _ _), (List.forall_mem_cons.mpr ⟨(own_cb hv6_1), (List.forall_mem_cons.mpr ⟨(own_cb hv7_2), (List.forall_mem_cons.mpr ⟨(own_cb hv8_3), (fun x hx => nomatch hx)⟩)⟩)⟩)⟩)⟩)⟩)⟩)⟩)⟩)⟩)⟩)⟩)⟩)⟩)⟩)⟩)⟩)⟩)⟩)⟩)⟩)⟩)) (own_lpre (pre := [(fdg x9_4 (1000000000000000000 : Int64)), (fdg x9_4 (100000000000000000 : Int64)), (fdg x9_4 (10000000000000000 : Int64)), (fdg x9_4 (1000000000000000 : Int64)), (fdg x9_4 (100000000000000 : Int64)), (fdg x9_4 (10000000000000 : Int64)), (fdg x9_4 (1000000000000 : Int64)), (fdg x9_4 (100000000000 : Int64)), (fdg x9_4 (10000000000 : Int64)), (fdg x9_4 (1000000000 : Int64)), (fdg x9_4 (100000000 : Int64)), (fdg x9_4 (10000000 : Int64)), (fdg x9_4 (1000000 : Int64)), (fdg x9_4 (100000 : Int64)), (fdg x9_4 (10000 : Int64)), (fdg x9_4 (1000 : Int64)), (fdg x9_4 (100 : Int64)), (fdg x9_4 (10 : Int64)), (fdg x9_4 (1 : Int64)), x6_1, x7_2]) (post := [x8_3]) (P := fun z => ¬ (255 : Int32) < z) (List.forall_mem_cons.mpr ⟨(own_dgle _ _), (List.forall_mem_cons.mpr ⟨(own_dgle _ _), (List.forall_mem_cons.mpr ⟨(own_dgle _ _), (List.forall_mem_cons.mpr ⟨(own_dgle _ _), (List.forall_mem_cons.mpr ⟨(own_dgle _ _), (List.forall_mem_cons.mpr ⟨(own_dgle _ _), (List.forall_mem_cons.mpr ⟨(own_dgle _ _), (List.forall_mem_cons.mpr ⟨(own_dgle _ _), (List.forall_mem_cons.mpr ⟨(own_dgle _ _), (List.forall_mem_cons.mpr ⟨(own_dgle _ _), (List.forall_mem_cons.mpr ⟨(own_dgle _ _), (List.forall_mem_cons.mpr ⟨(own_dgle _ _), (List.forall_mem_cons.mpr ⟨(own_dgle _ _), (List.forall_mem_cons.mpr ⟨(own_dgle _ _), (List.forall_mem_cons.mpr ⟨(own_dgle _ _), (List.forall_mem_cons.mpr ⟨(own_dgle _ _), (List.forall_mem_cons.mpr ⟨(own_dgle _ _), (List.forall_mem_cons.mpr ⟨(own_dgle _ _), (List.forall_mem_cons.mpr ⟨(own_dgle _ _), (List.forall_mem_cons.mpr ⟨hs488_314, (List.forall_mem_cons.mpr ⟨hs488_317, (fun x hx => nomatch hx)⟩)⟩)⟩)⟩)⟩)⟩)⟩)⟩)⟩)⟩)⟩)⟩)⟩)⟩)⟩)⟩)⟩)⟩)⟩)⟩)⟩)) hs488_320 (by decide) wa wf we wb hcs) e313 pd_18 rfl rfl fun _ T321 Lc321 X321 hQ321 => ?_
        obtain ⟨b_321, k2_321, rfl, Nq321, Kq321, fq321_0, g_b_321, fq321_2, wx, wD, fq321_5, kG⟩ := hQ321
        have N321 := Fr.app N311 Nq321
        have wb := own_sta_keep wb Kq321 (allS wp.cell all0)
        have wd := own_sta_keep wd Kq321 (allS wp.cell all0)
        have wa := own_sta_keep wa Kq321 (allS wp.cell all0)
        have wf := own_sta_keep wf Kq321 (allS wp.cell all0)
        have we := own_sta_keep we Kq321 (allS wp.cell all0)
        have hk := Nat.le_trans hk Kq321.1
        have wp := fq321_2
        have K321 := K313.trans Kq321 (allS (Or.inr vu) all0)
        refine Ends.u ?_
        refine cS X321 hy hml hown hZ hw at_493 496 0 28 29 30 31 rfl rfl rfl rfl (rmpaU l Z a0 hw [] b313 b_321 k2_321 cs sf (22 : Int32) (own_lit [(fdg x9_4 (1000000000000000000 : Int64)), (fdg x9_4 (100000000000000000 : Int64)), (fdg x9_4 (10000000000000000 : Int64)), (fdg x9_4 (1000000000000000 : Int64)), (fdg x9_4 (100000000000000 : Int64)), (fdg x9_4 (10000000000000 : Int64)), (fdg x9_4 (1000000000000 : Int64)), (fdg x9_4 (100000000000 : Int64)), (fdg x9_4 (10000000000 : Int64)), (fdg x9_4 (1000000000 : Int64)), (fdg x9_4 (100000000 : Int64)), (fdg x9_4 (10000000 : Int64)), (fdg x9_4 (1000000 : Int64)), (fdg x9_4 (100000 : Int64)), (fdg x9_4 (10000 : Int64)), (fdg x9_4 (1000 : Int64)), (fdg x9_4 (100 : Int64)), (fdg x9_4 (10 : Int64)), (fdg x9_4 (1 : Int64)), x6_1, x7_2, x8_3]) T321.heap n0 (Nat.le_trans Z0 K321.1) wp wx wD kG wb hcs wd wn (by decide) (by decide) (own_lbd (List.forall_mem_cons.mpr ⟨(own_dgb _ _), (List.forall_mem_cons.mpr ⟨(own_dgb _ _), (List.forall_mem_cons.mpr ⟨(own_dgb _ _), (List.forall_mem_cons.mpr ⟨(own_dgb _ _), (List.forall_mem_cons.mpr ⟨(own_dgb _ _), (List.forall_mem_cons.mpr ⟨(own_dgb _ _), (List.forall_mem_cons.mpr ⟨(own_dgb _ _), (List.forall_mem_cons.mpr ⟨(own_dgb _ _), (List.forall_mem_cons.mpr ⟨(own_dgb _ _), (List.forall_mem_cons.mpr ⟨(own_dgb _ _), (List.forall_mem_cons.mpr ⟨(own_dgb _ _), (List.forall_mem_cons.mpr ⟨(own_dgb _ _), (List.forall_mem_cons.mpr ⟨(own_dgb _ _), (List.forall_mem_cons.mpr ⟨(own_dgb _ _), (List.forall_mem_cons.mpr ⟨(own_dgb _ _), (List.forall_mem_cons.mpr ⟨(own_dgb _ _), (List.forall_mem_cons.mpr ⟨(own_dgb _ _), (List.forall_mem_cons.mpr ⟨(own_dgb _ _), (List.forall_mem_cons.mpr ⟨(own_dgb _ _), (List.forall_mem_cons.mpr ⟨(own_cb hv6_1), (List.forall_mem_cons.mpr ⟨(own_cb hv7_2), (List.forall_mem_cons.mpr ⟨(own_cb hv8_3), (fun x hx => nomatch hx)⟩)⟩)⟩)⟩)⟩)⟩)⟩)⟩)⟩)⟩)⟩)⟩)⟩)⟩)⟩)⟩)⟩)⟩)⟩)⟩)⟩)⟩)) wa wf we) rfl pd_19 rfl rfl fun _ T322 Lc322 X322 hQ322 => ?_
        obtain ⟨rfl, Nq322, hh322⟩ := hQ322
        have N322 := Fr.app N321 Nq322
        refine Ends.v (oF X322 hy at_496 498 rfl (oY X322 hy at_498 499 ?_))
        have hc499 : (own_p (own_gl (22 : Int32).toNatClampNeg (own_lit [(fdg x9_4 (1000000000000000000 : Int64)), (fdg x9_4 (100000000000000000 : Int64)), (fdg x9_4 (10000000000000000 : Int64)), (fdg x9_4 (1000000000000000 : Int64)), (fdg x9_4 (100000000000000 : Int64)), (fdg x9_4 (10000000000000 : Int64)), (fdg x9_4 (1000000000000 : Int64)), (fdg x9_4 (100000000000 : Int64)), (fdg x9_4 (10000000000 : Int64)), (fdg x9_4 (1000000000 : Int64)), (fdg x9_4 (100000000 : Int64)), (fdg x9_4 (10000000 : Int64)), (fdg x9_4 (1000000 : Int64)), (fdg x9_4 (100000 : Int64)), (fdg x9_4 (10000 : Int64)), (fdg x9_4 (1000 : Int64)), (fdg x9_4 (100 : Int64)), (fdg x9_4 (10 : Int64)), (fdg x9_4 (1 : Int64)), x6_1, x7_2, x8_3])) (0 : Int64)) = (-1 : Int64) := (own_lg2 (own_h0 hv9_4) (own_cb hv6_1) (own_cb hv7_2) (own_cb hv8_3) hc367_284 hc375_298 hc383_312)
        refine oxh X322 hy at_499 502 (XT.ll_ne_f hc499) (oG X322 hy at_502 503 1 rfl (oxm X322 hy at_503 507 ?_))
        exact Ends.finW (some (.int 1)) X322 hS hk hQQ (fun h => by rw [Bd.returns] at h; cases h) Bd.notSynchronized (fun _ hr => retOut X322 hx (t := .boolean) Bd.returns rfl (Or.inl ⟨rfl, (by simp), _, rfl⟩) (hb hby at_507) hr) hh322 (by decide) (by decide) ⟨rfl, N322, K321⟩
       ·refine oB X313 hy at_488 490 rfl ?_
        refine cI X313 hy hml hown hZ hw at_490 493 1 10 11 12 9 rfl rfl rfl rfl rfl (rmscL l Z a0 hw [] b313 b219 (.null : Value) (0 : Int32) k219 cs (own_lit [(fdg x9_4 (1000000000000000000 : Int64)), (fdg x9_4 (100000000000000000 : Int64)), (fdg x9_4 (10000000000000000 : Int64)), (fdg x9_4 (1000000000000000 : Int64)), (fdg x9_4 (100000000000000 : Int64)), (fdg x9_4 (10000000000000 : Int64)), (fdg x9_4 (1000000000000 : Int64)), (fdg x9_4 (100000000000 : Int64)), (fdg x9_4 (10000000000 : Int64)), (fdg x9_4 (1000000000 : Int64)), (fdg x9_4 (100000000 : Int64)), (fdg x9_4 (10000000 : Int64)), (fdg x9_4 (1000000 : Int64)), (fdg x9_4 (100000 : Int64)), (fdg x9_4 (10000 : Int64)), (fdg x9_4 (1000 : Int64)), (fdg x9_4 (100 : Int64)), (fdg x9_4 (10 : Int64)), (fdg x9_4 (1 : Int64)), x6_1, x7_2, x8_3]) (22 : Int32) h313 n0 (Nat.le_trans Z0 K313.1) wp wx wD vC (Ne.symm wW) wj (by decide) (by decide) (own_lpre (pre := [(fdg x9_4 (1000000000000000000 : Int64)), (fdg x9_4 (100000000000000000 : Int64)), (fdg x9_4 (10000000000000000 : Int64)), (fdg x9_4 (1000000000000000 : Int64)), (fdg x9_4 (100000000000000 : Int64)), (fdg x9_4 (10000000000000 : Int64)), (fdg x9_4 (1000000000000 : Int64)), (fdg x9_4 (100000000000 : Int64)), (fdg x9_4 (10000000000 : Int64)), (fdg x9_4 (1000000000 : Int64)), (fdg x9_4 (100000000 : Int64)), (fdg x9_4 (10000000 : Int64)), (fdg x9_4 (1000000 : Int64)), (fdg x9_4 (100000 : Int64)), (fdg x9_4 (10000 : Int64)), (fdg x9_4 (1000 : Int64)), (fdg x9_4 (100 : Int64)), (fdg x9_4 (10 : Int64)), (fdg x9_4 (1 : Int64)), x6_1, x7_2, x8_3]) (post := []) (P := fun z => ¬ (255 : Int32) < z) (List.forall_mem_cons.mpr ⟨(own_dgle _ _), (List.forall_mem_cons.mpr ⟨(own_dgle _ _), (List.forall_mem_cons.mpr ⟨(own_dgle _ _), (List.forall_mem_cons.mpr ⟨(own_dgle _ _), (List.forall_mem_cons.mpr ⟨(own_dgle _ _), (List.forall_mem_cons.mpr ⟨(own_dgle _ _), (List.forall_mem_cons.mpr ⟨(own_dgle _ _), (List.forall_mem_cons.mpr ⟨(own_dgle _ _), (List.forall_mem_cons.mpr ⟨(own_dgle _ _), (List.forall_mem_cons.mpr ⟨(own_dgle _ _), (List.forall_mem_cons.mpr ⟨(own_dgle _ _), (List.forall_mem_cons.mpr ⟨(own_dgle _ _), (List.forall_mem_cons.mpr ⟨(own_dgle _ _), (List.forall_mem_cons.mpr ⟨(own_dgle _ _), (List.forall_mem_cons.mpr ⟨(own_dgle _ _), (List.forall_mem_cons.mpr ⟨(own_dgle _ _), (List.forall_mem_cons.mpr ⟨(own_dgle _ _), (List.forall_mem_cons.mpr ⟨(own_dgle _ _), (List.forall_mem_cons.mpr ⟨(own_dgle _ _), (List.forall_mem_cons.mpr ⟨hs488_314, (List.forall_mem_cons.mpr ⟨hs488_317, (List.forall_mem_cons.mpr ⟨hs488_320, (fun x hx => nomatch hx)⟩)⟩)⟩)⟩)⟩)⟩)⟩)⟩)⟩)⟩)⟩)⟩)⟩)⟩)⟩)⟩)⟩)⟩)⟩)⟩)⟩)⟩)) wb hcs) e313 pd_18 rfl rfl fun _ T323 Lc323 X323 hQ323 => ?_
        obtain ⟨b_323, k2_323, rfl, Nq323, Kq323, fq323_0, g_b_323, fq323_2, wx, wD, fq323_5, kF⟩ := hQ323
        have N323 := Fr.app N311 Nq323
        have wb := own_sta_keep wb Kq323 (allS wp.cell all0)
        have wd := own_sta_keep wd Kq323 (allS wp.cell all0)
        have hk := Nat.le_trans hk Kq323.1
        have wp := fq323_2
        have K323 := K313.trans Kq323 (allS (Or.inr vu) all0)
        refine Ends.u ?_
        refine cS X323 hy hml hown hZ hw at_493 496 0 28 29 30 31 rfl rfl rfl rfl (rmpaL l Z a0 hw [] b313 b_323 k2_323 cs sf (22 : Int32) (own_lit [(fdg x9_4 (1000000000000000000 : Int64)), (fdg x9_4 (100000000000000000 : Int64)), (fdg x9_4 (10000000000000000 : Int64)), (fdg x9_4 (1000000000000000 : Int64)), (fdg x9_4 (100000000000000 : Int64)), (fdg x9_4 (10000000000000 : Int64)), (fdg x9_4 (1000000000000 : Int64)), (fdg x9_4 (100000000000 : Int64)), (fdg x9_4 (10000000000 : Int64)), (fdg x9_4 (1000000000 : Int64)), (fdg x9_4 (100000000 : Int64)), (fdg x9_4 (10000000 : Int64)), (fdg x9_4 (1000000 : Int64)), (fdg x9_4 (100000 : Int64)), (fdg x9_4 (10000 : Int64)), (fdg x9_4 (1000 : Int64)), (fdg x9_4 (100 : Int64)), (fdg x9_4 (10 : Int64)), (fdg x9_4 (1 : Int64)), x6_1, x7_2, x8_3]) T323.heap n0 (Nat.le_trans Z0 K323.1) wp wx wD kF wb hcs wd wn (by decide) (by decide) (own_lbd (List.forall_mem_cons.mpr ⟨(own_dgb _ _), (List.forall_mem_cons.mpr ⟨(own_dgb _ _), (List.forall_mem_cons.mpr ⟨(own_dgb _ _), (List.forall_mem_cons.mpr ⟨(own_dgb _ _), (List.forall_mem_cons.mpr ⟨(own_dgb _ _), (List.forall_mem_cons.mpr ⟨(own_dgb _ _), (List.forall_mem_cons.mpr ⟨(own_dgb _ _), (List.forall_mem_cons.mpr ⟨(own_dgb _ _), (List.forall_mem_cons.mpr ⟨(own_dgb _ _), (List.forall_mem_cons.mpr ⟨(own_dgb _ _), (List.forall_mem_cons.mpr ⟨(own_dgb _ _), (List.forall_mem_cons.mpr ⟨(own_dgb _ _), (List.forall_mem_cons.mpr ⟨(own_dgb _ _), (List.forall_mem_cons.mpr ⟨(own_dgb _ _), (List.forall_mem_cons.mpr ⟨(own_dgb _ _), (List.forall_mem_cons.mpr ⟨(own_dgb _ _), (List.forall_mem_cons.mpr ⟨(own_dgb _ _), (List.forall_mem_cons.mpr ⟨(own_dgb _ _), (List.forall_mem_cons.mpr ⟨(own_dgb _ _), (List.forall_mem_cons.mpr ⟨(own_cb hv6_1), (List.forall_mem_cons.mpr ⟨(own_cb hv7_2), (List.forall_mem_cons.mpr ⟨(own_cb hv8_3), (fun x hx => nomatch hx)⟩)⟩)⟩)⟩)⟩)⟩)⟩)⟩)⟩)⟩)⟩)⟩)⟩)⟩)⟩)⟩)⟩)⟩)⟩)⟩)⟩)⟩)) (own_lpre (pre := [(fdg x9_4 (1000000000000000000 : Int64)), (fdg x9_4 (100000000000000000 : Int64)), (fdg x9_4 (10000000000000000 : Int64)), (fdg x9_4 (1000000000000000 : Int64)), (fdg x9_4 (100000000000000 : Int64)), (fdg x9_4 (10000000000000 : Int64)), (fdg x9_4 (1000000000000 : Int64)), (fdg x9_4 (100000000000 : Int64)), (fdg x9_4 (10000000000 : Int64)), (fdg x9_4 (1000000000 : Int64)), (fdg x9_4 (100000000 : Int64)), (fdg x9_4 (10000000 : Int64)), (fdg x9_4 (1000000 : Int64)), (fdg x9_4 (100000 : Int64)), (fdg x9_4 (10000 : Int64)), (fdg x9_4 (1000 : Int64)), (fdg x9_4 (100 : Int64)), (fdg x9_4 (10 : Int64)), (fdg x9_4 (1 : Int64)), x6_1, x7_2, x8_3]) (post := []) (P := fun z => ¬ (255 : Int32) < z) (List.forall_mem_cons.mpr ⟨(own_dgle _ _), (List.forall_mem_cons.mpr ⟨(own_dgle _ _), (List.forall_mem_cons.mpr ⟨(own_dgle _ _), (List.forall_mem_cons.mpr ⟨(own_dgle _ _), (List.forall_mem_cons.mpr ⟨(own_dgle _ _), (List.forall_mem_cons.mpr ⟨(own_dgle _ _), (List.forall_mem_cons.mpr ⟨(own_dgle _ _), (List.forall_mem_cons.mpr ⟨(own_dgle _ _), (List.forall_mem_cons.mpr ⟨(own_dgle _ _), (List.forall_mem_cons.mpr ⟨(own_dgle _ _), (List.forall_mem_cons.mpr ⟨(own_dgle _ _), (List.forall_mem_cons.mpr ⟨(own_dgle _ _), (List.forall_mem_cons.mpr ⟨(own_dgle _ _), (List.forall_mem_cons.mpr ⟨(own_dgle _ _), (List.forall_mem_cons.mpr ⟨(own_dgle _ _), (List.forall_mem_cons.mpr ⟨(own_dgle _ _), (List.forall_mem_cons.mpr ⟨(own_dgle _ _), (List.forall_mem_cons.mpr ⟨(own_dgle _ _), (List.forall_mem_cons.mpr ⟨(own_dgle _ _), (List.forall_mem_cons.mpr ⟨hs488_314, (List.forall_mem_cons.mpr ⟨hs488_317, (List.forall_mem_cons.mpr ⟨hs488_320, (fun x hx => nomatch hx)⟩)⟩)⟩)⟩)⟩)⟩)⟩)⟩)⟩)⟩)⟩)⟩)⟩)⟩)⟩)⟩)⟩)⟩)⟩)⟩)⟩)⟩))) rfl pd_19 rfl rfl fun _ T324 Lc324 X324 hQ324 => ?_
        obtain ⟨rfl, Nq324, hh324⟩ := hQ324
        have N324 := Fr.app N323 Nq324
        refine Ends.v (oF X324 hy at_496 498 rfl (oY X324 hy at_498 499 ?_))
        have hc499 : (own_p (own_gl (22 : Int32).toNatClampNeg (own_lit [(fdg x9_4 (1000000000000000000 : Int64)), (fdg x9_4 (100000000000000000 : Int64)), (fdg x9_4 (10000000000000000 : Int64)), (fdg x9_4 (1000000000000000 : Int64)), (fdg x9_4 (100000000000000 : Int64)), (fdg x9_4 (10000000000000 : Int64)), (fdg x9_4 (1000000000000 : Int64)), (fdg x9_4 (100000000000 : Int64)), (fdg x9_4 (10000000000 : Int64)), (fdg x9_4 (1000000000 : Int64)), (fdg x9_4 (100000000 : Int64)), (fdg x9_4 (10000000 : Int64)), (fdg x9_4 (1000000 : Int64)), (fdg x9_4 (100000 : Int64)), (fdg x9_4 (10000 : Int64)), (fdg x9_4 (1000 : Int64)), (fdg x9_4 (100 : Int64)), (fdg x9_4 (10 : Int64)), (fdg x9_4 (1 : Int64)), x6_1, x7_2, x8_3])) (0 : Int64)) = (-1 : Int64) := (own_lg2 (own_h0 hv9_4) (own_cb hv6_1) (own_cb hv7_2) (own_cb hv8_3) hc367_284 hc375_298 hc383_312)
        refine oxh X324 hy at_499 502 (XT.ll_ne_f hc499) (oG X324 hy at_502 503 1 rfl (oxm X324 hy at_503 507 ?_))
        exact Ends.finW (some (.int 1)) X324 hS hk hQQ (fun h => by rw [Bd.returns] at h; cases h) Bd.notSynchronized (fun _ hr => retOut X324 hx (t := .boolean) Bd.returns rfl (Or.inl ⟨rfl, (by simp), _, rfl⟩) (hb hby at_507) hr) hh324 (by decide) (by decide) ⟨rfl, N324, K323⟩
    ·refine oxk X311 hy at_383 394 (XT.i0_ne_t hc383_312) (oD X311 hy at_394 396 rfl (oH X311 hy at_396 398 48 rfl (oL X311 hy at_398 399 (oxa X311 hy at_399 400 (oJ2 X311 hy hown hZ hw at_400 403 100 134 rfl (oU X311 hy at_403 404 (oD X311 hy at_404 406 rfl (oH X311 hy at_406 408 48 rfl (oL X311 hy at_408 409 ?_)))))))))
     refine oxa X311 hy at_409 410 (oJ2 X311 hy hown hZ hw at_410 413 10 118 rfl (oU X311 hy at_413 414 (oS X311 hy at_414 415 (oD X311 hy at_415 417 rfl (oH X311 hy at_417 419 48 rfl (oL X311 hy at_419 420 (oxa X311 hy at_420 421 (oS X311 hy at_421 422 (oxq X311 hy at_422 424 #[iv p0, iv p1, iv p2, iv p3, jv q4, ss, iv x6_1, iv x7_2, iv x8_3, jv x9_4, ss, rv b219, uu, uu, jv ((((x6_1 - (48 : Int32)).toInt64 * (100 : Int64)) + ((x7_2 - (48 : Int32)).toInt64 * (10 : Int64))) + (x8_3 - (48 : Int32)).toInt64), ss] rfl ?_)))))))))
     refine oF X311 hy at_424 426 rfl (oJ2 X311 hy hown hZ hw at_426 429 9223372036854775 137 rfl (oY X311 hy at_429 430 ?_))
     have J484_325 : (∀ (v484_5 : Int64) (hv484_5 : v484_5 = (if x9_4 < (9223372036854775 : Int64) then ((x9_4 * (1000 : Int64)) + ((((x6_1 - (48 : Int32)).toInt64 * (100 : Int64)) + ((x7_2 - (48 : Int32)).toInt64 * (10 : Int64))) + (x8_3 - (48 : Int32)).toInt64)) else (if x9_4 = (9223372036854775 : Int64) then (if (807 : Int64) < ((((x6_1 - (48 : Int32)).toInt64 * (100 : Int64)) + ((x7_2 - (48 : Int32)).toInt64 * (10 : Int64))) + (x8_3 - (48 : Int32)).toInt64) then (9223372036854775807 : Int64) else ((x9_4 * (1000 : Int64)) + ((((x6_1 - (48 : Int32)).toInt64 * (100 : Int64)) + ((x7_2 - (48 : Int32)).toInt64 * (10 : Int64))) + (x8_3 - (48 : Int32)).toInt64))) else (9223372036854775807 : Int64)))), Ends p e below QQ (T311.setTop (mkF m 484 #[iv p0, iv p1, iv p2, iv p3, jv q4, ss, iv x6_1, iv x7_2, iv x8_3, jv x9_4, ss, rv b219, jv v484_5, ss, jv ((((x6_1 - (48 : Int32)).toInt64 * (100 : Int64)) + ((x7_2 - (48 : Int32)).toInt64 * (10 : Int64))) + (x8_3 - (48 : Int32)).toInt64), ss] []))) → Ends p e below QQ (T311.setTop (mkF m 430 #[iv p0, iv p1, iv p2, iv p3, jv q4, ss, iv x6_1, iv x7_2, iv x8_3, jv x9_4, ss, rv b219, uu, uu, jv ((((x6_1 - (48 : Int32)).toInt64 * (100 : Int64)) + ((x7_2 - (48 : Int32)).toInt64 * (10 : Int64))) + (x8_3 - (48 : Int32)).toInt64), ss] [(.int (XT.cmpL x9_4 (9223372036854775 : Int64)))])) := by
      intro hJ
      by_cases hc430_326 : x9_4 < (9223372036854775 : Int64)
      ·refine oxh X311 hy at_430 433 (XT.ll_ge_f hc430_326) (oF X311 hy at_433 435 rfl (oJ2 X311 hy hown hZ hw at_435 438 1000 133 rfl (oU X311 hy at_438 439 (oF X311 hy at_439 441 rfl (oS X311 hy at_441 442 (oxq X311 hy at_442 444 #[iv p0, iv p1, iv p2, iv p3, jv q4, ss, iv x6_1, iv x7_2, iv x8_3, jv x9_4, ss, rv b219, jv ((x9_4 * (1000 : Int64)) + ((((x6_1 - (48 : Int32)).toInt64 * (100 : Int64)) + ((x7_2 - (48 : Int32)).toInt64 * (10 : Int64))) + (x8_3 - (48 : Int32)).toInt64)), ss, jv ((((x6_1 - (48 : Int32)).toInt64 * (100 : Int64)) + ((x7_2 - (48 : Int32)).toInt64 * (10 : Int64))) + (x8_3 - (48 : Int32)).toInt64), ss] rfl ?_))))))
       refine Ends.step (fun _ k => XS.goto X311.here hx rfl (pc0 := 444) (pc' := 484) rfl (hb hby at_444) (by decide) (by decide) k) ?_
       exact hJ _ (by simp only [if_pos hc430_326])
      ·refine oxk X311 hy at_430 447 (XT.ll_ge_t hc430_326) (oF X311 hy at_447 449 rfl (oJ2 X311 hy hown hZ hw at_449 452 9223372036854775 137 rfl (oY X311 hy at_452 453 ?_)))
       by_cases hc453_327 : x9_4 = (9223372036854775 : Int64)
       ·refine oxh X311 hy at_453 456 (XT.ll_ne_f hc453_327) (oF X311 hy at_456 458 rfl (oJ2 X311 hy hown hZ hw at_458 461 807 138 rfl (oY X311 hy at_461 462 ?_)))
        by_cases hc462_328 : (807 : Int64) < ((((x6_1 - (48 : Int32)).toInt64 * (100 : Int64)) + ((x7_2 - (48 : Int32)).toInt64 * (10 : Int64))) + (x8_3 - (48 : Int32)).toInt64)
        ·refine oxk X311 hy at_462 479 (XT.ll_gt_t hc462_328) (oJ2 X311 hy hown hZ hw at_479 482 9223372036854775807 113 rfl ?_)
         refine Ends.step (fun _ k => XT.lstore X311.here hx rfl (hb hby at_482) rfl (l' := #[iv p0, iv p1, iv p2, iv p3, jv q4, ss, iv x6_1, iv x7_2, iv x8_3, jv x9_4, ss, rv b219, jv 9223372036854775807, ss, jv ((((x6_1 - (48 : Int32)).toInt64 * (100 : Int64)) + ((x7_2 - (48 : Int32)).toInt64 * (10 : Int64))) + (x8_3 - (48 : Int32)).toInt64), ss]) rfl k) ?_
         exact hJ _ (by simp only [if_neg hc430_326, if_pos hc453_327, if_pos hc462_328])
        ·refine oxh X311 hy at_462 465 (XT.ll_gt_f hc462_328) (oF X311 hy at_465 467 rfl (oJ2 X311 hy hown hZ hw at_467 470 1000 133 rfl (oU X311 hy at_470 471 (oF X311 hy at_471 473 rfl (oS X311 hy at_473 474 (oxq X311 hy at_474 476 #[iv p0, iv p1, iv p2, iv p3, jv q4, ss, iv x6_1, iv x7_2, iv x8_3, jv x9_4, ss, rv b219, jv ((x9_4 * (1000 : Int64)) + ((((x6_1 - (48 : Int32)).toInt64 * (100 : Int64)) + ((x7_2 - (48 : Int32)).toInt64 * (10 : Int64))) + (x8_3 - (48 : Int32)).toInt64)), ss, jv ((((x6_1 - (48 : Int32)).toInt64 * (100 : Int64)) + ((x7_2 - (48 : Int32)).toInt64 * (10 : Int64))) + (x8_3 - (48 : Int32)).toInt64), ss] rfl ?_))))))
         refine Ends.step (fun _ k => XS.goto X311.here hx rfl (pc0 := 476) (pc' := 484) rfl (hb hby at_476) (by decide) (by decide) k) ?_
         exact hJ _ (by simp only [if_neg hc430_326, if_pos hc453_327, if_neg hc462_328])
       ·refine oxk X311 hy at_453 479 (XT.ll_ne_t hc453_327) (oJ2 X311 hy hown hZ hw at_479 482 9223372036854775807 113 rfl ?_)
        refine Ends.step (fun _ k => XT.lstore X311.here hx rfl (hb hby at_482) rfl (l' := #[iv p0, iv p1, iv p2, iv p3, jv q4, ss, iv x6_1, iv x7_2, iv x8_3, jv x9_4, ss, rv b219, jv 9223372036854775807, ss, jv ((((x6_1 - (48 : Int32)).toInt64 * (100 : Int64)) + ((x7_2 - (48 : Int32)).toInt64 * (10 : Int64))) + (x8_3 - (48 : Int32)).toInt64), ss]) rfl k) ?_
        exact hJ _ (by simp only [if_neg hc430_326, if_neg hc453_327])
     refine J484_325 fun v484_5 hv484_5 => ?_
     obtain ⟨T329, h329, X329, e329, E329, A329, D329, U329, st329⟩ := newO X311 hx hZ hown (tb hw 7 rfl) (tb hw 8 rfl) (tb hw 9 rfl) hh311 (g := (mkF m 484 #[iv p0, iv p1, iv p2, iv p3, jv q4, ss, iv x6_1, iv x7_2, iv x8_3, jv x9_4, ss, rv b219, jv v484_5, ss, jv ((((x6_1 - (48 : Int32)).toInt64 * (100 : Int64)) + ((x7_2 - (48 : Int32)).toInt64 * (10 : Int64))) + (x8_3 - (48 : Int32)).toInt64), ss] [])) rfl (hb hby at_484) (by decide) (by decide)
     obtain ⟨b329, g329⟩ : ∃ z, z = h282.size := ⟨_, rfl⟩
     rw [← g329] at A329 D329 U329 st329
     have wV : b219 ≠ b329 := Nat.ne_of_lt (Nat.lt_of_lt_of_le wl.lt (Nat.le_of_eq g329.symm))
     have vB : n0 ≤ b329 := Nat.le_trans Z0 (Nat.le_trans K282.1 (Nat.le_of_eq g329.symm))
     have vt : h0.size ≤ b329 := Nat.le_trans K282.1 (Nat.le_of_eq g329.symm)
     have wb := wb.ext E329
     have wd := wd.ext E329
     have wa := wa.ext E329
     have wf := wf.ext E329
     have we := we.ext E329
     have hk := Nat.le_trans hk E329.1
     have wj := wj.ext E329
     have K329 := K282.ext E329
     have wo := A329
     have ww : fBQ Z h329 b329 .null := D329 (Or.inr (tb hw 22 rfl)) (ty := (.array .byte)) (by decide)
     have wC : fAQ Z h329 b329 (.int 0) := D329 (Or.inr (tb hw 23 rfl)) (ty := .byte) (by decide)
     refine Ends.j 487 [.ref b329] st329 ?_
     refine Ends.step (fun _ k => XS.dup X329.here hx rfl (hb hby at_487) rfl rfl k) ?_
     by_cases hs488_330 : (255 : Int32) < x6_1
     ·show Ends p e below QQ (T329.setTop (mkF m 488 #[iv p0, iv p1, iv p2, iv p3, jv q4, ss, iv x6_1, iv x7_2, iv x8_3, jv x9_4, ss, rv b219, jv v484_5, ss, jv ((((x6_1 - (48 : Int32)).toInt64 * (100 : Int64)) + ((x7_2 - (48 : Int32)).toInt64 * (10 : Int64))) + (x8_3 - (48 : Int32)).toInt64), ss] [.ref b329, .ref b329]))
      refine oB X329 hy at_488 490 rfl ?_
      refine cI X329 hy hml hown hZ hw at_490 493 1 10 11 12 9 rfl rfl rfl rfl rfl (rmscU l Z a0 hw [] b329 b219 (.null : Value) (0 : Int32) k219 cs (own_lit [(fdg x9_4 (1000000000000000000 : Int64)), (fdg x9_4 (100000000000000000 : Int64)), (fdg x9_4 (10000000000000000 : Int64)), (fdg x9_4 (1000000000000000 : Int64)), (fdg x9_4 (100000000000000 : Int64)), (fdg x9_4 (10000000000000 : Int64)), (fdg x9_4 (1000000000000 : Int64)), (fdg x9_4 (100000000000 : Int64)), (fdg x9_4 (10000000000 : Int64)), (fdg x9_4 (1000000000 : Int64)), (fdg x9_4 (100000000 : Int64)), (fdg x9_4 (10000000 : Int64)), (fdg x9_4 (1000000 : Int64)), (fdg x9_4 (100000 : Int64)), (fdg x9_4 (10000 : Int64)), (fdg x9_4 (1000 : Int64)), (fdg x9_4 (100 : Int64)), (fdg x9_4 (10 : Int64)), (fdg x9_4 (1 : Int64)), x6_1, x7_2, x8_3]) 19 (22 : Int32) h329 n0 (Nat.le_trans Z0 K329.1) wo ww wC vB (Ne.symm wV) wj (by decide) (by decide) (own_lbd (List.forall_mem_cons.mpr ⟨(own_dgb _ _), (List.forall_mem_cons.mpr ⟨(own_dgb _ _), (List.forall_mem_cons.mpr ⟨(own_dgb _ _), (List.forall_mem_cons.mpr ⟨(own_dgb _ _), (List.forall_mem_cons.mpr ⟨(own_dgb _ _), (List.forall_mem_cons.mpr ⟨(own_dgb _ _), (List.forall_mem_cons.mpr ⟨(own_dgb _ _), (List.forall_mem_cons.mpr ⟨(own_dgb _ _), (List.forall_mem_cons.mpr ⟨(own_dgb _ _), (List.forall_mem_cons.mpr ⟨(own_dgb _ _), (List.forall_mem_cons.mpr ⟨(own_dgb _ _), (List.forall_mem_cons.mpr ⟨(own_dgb _ _), (List.forall_mem_cons.mpr ⟨(own_dgb _ _), (List.forall_mem_cons.mpr ⟨(own_dgb _ _), (List.forall_mem_cons.mpr ⟨(own_dgb _ _), (List.forall_mem_cons.mpr ⟨(own_dgb _ _), (List.forall_mem_cons.mpr ⟨(own_dgb _ _), (List.forall_mem_cons.mpr ⟨(own_dgb _ _), (List.forall_mem_cons.mpr ⟨(own_dgb _ _), (List.forall_mem_cons.mpr ⟨(own_cb hv6_1), (List.forall_mem_cons.mpr ⟨(own_cb hv7_2), (List.forall_mem_cons.mpr ⟨(own_cb hv8_3), (fun x hx => nomatch hx)⟩)⟩)⟩)⟩)⟩)⟩)⟩)⟩)⟩)⟩)⟩)⟩)⟩)⟩)⟩)⟩)⟩)⟩)⟩)⟩)⟩)⟩)) (own_lpre (pre := [(fdg x9_4 (1000000000000000000 : Int64)), (fdg x9_4 (100000000000000000 : Int64)), (fdg x9_4 (10000000000000000 : Int64)), (fdg x9_4 (1000000000000000 : Int64)), (fdg x9_4 (100000000000000 : Int64)), (fdg x9_4 (10000000000000 : Int64)), (fdg x9_4 (1000000000000 : Int64)), (fdg x9_4 (100000000000 : Int64)), (fdg x9_4 (10000000000 : Int64)), (fdg x9_4 (1000000000 : Int64)), (fdg x9_4 (100000000 : Int64)), (fdg x9_4 (10000000 : Int64)), (fdg x9_4 (1000000 : Int64)), (fdg x9_4 (100000 : Int64)), (fdg x9_4 (10000 : Int64)), (fdg x9_4 (1000 : Int64)), (fdg x9_4 (100 : Int64)), (fdg x9_4 (10 : Int64)), (fdg x9_4 (1 : Int64))]) (post := [x6_1, x7_2, x8_3]) (P := fun z => ¬ (255 : Int32) < z) (List.forall_mem_cons.mpr ⟨(own_dgle _ _), (List.forall_mem_cons.mpr ⟨(own_dgle _ _), (List.forall_mem_cons.mpr ⟨(own_dgle _ _), (List.forall_mem_cons.mpr ⟨(own_dgle _ _), (List.forall_mem_cons.mpr ⟨(own_dgle _ _), (List.forall_mem_cons.mpr ⟨(own_dgle _ _), (List.forall_mem_cons.mpr ⟨(own_dgle _ _), (List.forall_mem_cons.mpr ⟨(own_dgle _ _), (List.forall_mem_cons.mpr ⟨(own_dgle _ _), (List.forall_mem_cons.mpr ⟨(own_dgle _ _), (List.forall_mem_cons.mpr ⟨(own_dgle _ _), (List.forall_mem_cons.mpr ⟨(own_dgle _ _), (List.forall_mem_cons.mpr ⟨(own_dgle _ _), (List.forall_mem_cons.mpr ⟨(own_dgle _ _), (List.forall_mem_cons.mpr ⟨(own_dgle _ _), (List.forall_mem_cons.mpr ⟨(own_dgle _ _), (List.forall_mem_cons.mpr ⟨(own_dgle _ _), (List.forall_mem_cons.mpr ⟨(own_dgle _ _), (List.forall_mem_cons.mpr ⟨(own_dgle _ _), (fun x hx => nomatch hx)⟩)⟩)⟩)⟩)⟩)⟩)⟩)⟩)⟩)⟩)⟩)⟩)⟩)⟩)⟩)⟩)⟩)⟩)⟩)) hs488_330 (by decide) wa wf we wb hcs) e329 pd_18 rfl rfl fun _ T331 Lc331 X331 hQ331 => ?_
      obtain ⟨b_331, k2_331, rfl, Nq331, Kq331, fq331_0, g_b_331, fq331_2, ww, wC, fq331_5, kE⟩ := hQ331
      have N331 := Fr.app N311 Nq331
      have wb := own_sta_keep wb Kq331 (allS wo.cell all0)
      have wd := own_sta_keep wd Kq331 (allS wo.cell all0)
      have wa := own_sta_keep wa Kq331 (allS wo.cell all0)
      have wf := own_sta_keep wf Kq331 (allS wo.cell all0)
      have we := own_sta_keep we Kq331 (allS wo.cell all0)
      have hk := Nat.le_trans hk Kq331.1
      have wo := fq331_2
      have K331 := K329.trans Kq331 (allS (Or.inr vt) all0)
      refine Ends.u ?_
      refine cS X331 hy hml hown hZ hw at_493 496 0 28 29 30 31 rfl rfl rfl rfl (rmpaU l Z a0 hw [] b329 b_331 k2_331 cs sf (22 : Int32) (own_lit [(fdg x9_4 (1000000000000000000 : Int64)), (fdg x9_4 (100000000000000000 : Int64)), (fdg x9_4 (10000000000000000 : Int64)), (fdg x9_4 (1000000000000000 : Int64)), (fdg x9_4 (100000000000000 : Int64)), (fdg x9_4 (10000000000000 : Int64)), (fdg x9_4 (1000000000000 : Int64)), (fdg x9_4 (100000000000 : Int64)), (fdg x9_4 (10000000000 : Int64)), (fdg x9_4 (1000000000 : Int64)), (fdg x9_4 (100000000 : Int64)), (fdg x9_4 (10000000 : Int64)), (fdg x9_4 (1000000 : Int64)), (fdg x9_4 (100000 : Int64)), (fdg x9_4 (10000 : Int64)), (fdg x9_4 (1000 : Int64)), (fdg x9_4 (100 : Int64)), (fdg x9_4 (10 : Int64)), (fdg x9_4 (1 : Int64)), x6_1, x7_2, x8_3]) T331.heap n0 (Nat.le_trans Z0 K331.1) wo ww wC kE wb hcs wd wn (by decide) (by decide) (own_lbd (List.forall_mem_cons.mpr ⟨(own_dgb _ _), (List.forall_mem_cons.mpr ⟨(own_dgb _ _), (List.forall_mem_cons.mpr ⟨(own_dgb _ _), (List.forall_mem_cons.mpr ⟨(own_dgb _ _), (List.forall_mem_cons.mpr ⟨(own_dgb _ _), (List.forall_mem_cons.mpr ⟨(own_dgb _ _), (List.forall_mem_cons.mpr ⟨(own_dgb _ _), (List.forall_mem_cons.mpr ⟨(own_dgb _ _), (List.forall_mem_cons.mpr ⟨(own_dgb _ _), (List.forall_mem_cons.mpr ⟨(own_dgb _ _), (List.forall_mem_cons.mpr ⟨(own_dgb _ _), (List.forall_mem_cons.mpr ⟨(own_dgb _ _), (List.forall_mem_cons.mpr ⟨(own_dgb _ _), (List.forall_mem_cons.mpr ⟨(own_dgb _ _), (List.forall_mem_cons.mpr ⟨(own_dgb _ _), (List.forall_mem_cons.mpr ⟨(own_dgb _ _), (List.forall_mem_cons.mpr ⟨(own_dgb _ _), (List.forall_mem_cons.mpr ⟨(own_dgb _ _), (List.forall_mem_cons.mpr ⟨(own_dgb _ _), (List.forall_mem_cons.mpr ⟨(own_cb hv6_1), (List.forall_mem_cons.mpr ⟨(own_cb hv7_2), (List.forall_mem_cons.mpr ⟨(own_cb hv8_3), (fun x hx => nomatch hx)⟩)⟩)⟩)⟩)⟩)⟩)⟩)⟩)⟩)⟩)⟩)⟩)⟩)⟩)⟩)⟩)⟩)⟩)⟩)⟩)⟩)⟩)) wa wf we) rfl pd_19 rfl rfl fun _ T332 Lc332 X332 hQ332 => ?_
      obtain ⟨rfl, Nq332, hh332⟩ := hQ332
      have N332 := Fr.app N331 Nq332
      refine Ends.v (oF X332 hy at_496 498 rfl (oY X332 hy at_498 499 ?_))
      have hc499 : (own_p (own_gl (22 : Int32).toNatClampNeg (own_lit [(fdg x9_4 (1000000000000000000 : Int64)), (fdg x9_4 (100000000000000000 : Int64)), (fdg x9_4 (10000000000000000 : Int64)), (fdg x9_4 (1000000000000000 : Int64)), (fdg x9_4 (100000000000000 : Int64)), (fdg x9_4 (10000000000000 : Int64)), (fdg x9_4 (1000000000000 : Int64)), (fdg x9_4 (100000000000 : Int64)), (fdg x9_4 (10000000000 : Int64)), (fdg x9_4 (1000000000 : Int64)), (fdg x9_4 (100000000 : Int64)), (fdg x9_4 (10000000 : Int64)), (fdg x9_4 (1000000 : Int64)), (fdg x9_4 (100000 : Int64)), (fdg x9_4 (10000 : Int64)), (fdg x9_4 (1000 : Int64)), (fdg x9_4 (100 : Int64)), (fdg x9_4 (10 : Int64)), (fdg x9_4 (1 : Int64)), x6_1, x7_2, x8_3])) (0 : Int64)) = v484_5 := ((own_lg3 (own_h0 hv9_4) (own_cb hv6_1) (own_cb hv7_2) (own_cb hv8_3) hc367_284 hc375_298 hc383_312).trans hv484_5.symm)
      refine oxh X332 hy at_499 502 (XT.ll_ne_f hc499) (oG X332 hy at_502 503 1 rfl (oxm X332 hy at_503 507 ?_))
      exact Ends.finW (some (.int 1)) X332 hS hk hQQ (fun h => by rw [Bd.returns] at h; cases h) Bd.notSynchronized (fun _ hr => retOut X332 hx (t := .boolean) Bd.returns rfl (Or.inl ⟨rfl, (by simp), _, rfl⟩) (hb hby at_507) hr) hh332 (by decide) (by decide) ⟨rfl, N332, K331⟩
     ·show Ends p e below QQ (T329.setTop (mkF m 488 #[iv p0, iv p1, iv p2, iv p3, jv q4, ss, iv x6_1, iv x7_2, iv x8_3, jv x9_4, ss, rv b219, jv v484_5, ss, jv ((((x6_1 - (48 : Int32)).toInt64 * (100 : Int64)) + ((x7_2 - (48 : Int32)).toInt64 * (10 : Int64))) + (x8_3 - (48 : Int32)).toInt64), ss] [.ref b329, .ref b329]))
      by_cases hs488_333 : (255 : Int32) < x7_2
      ·refine oB X329 hy at_488 490 rfl ?_
       refine cI X329 hy hml hown hZ hw at_490 493 1 10 11 12 9 rfl rfl rfl rfl rfl (rmscU l Z a0 hw [] b329 b219 (.null : Value) (0 : Int32) k219 cs (own_lit [(fdg x9_4 (1000000000000000000 : Int64)), (fdg x9_4 (100000000000000000 : Int64)), (fdg x9_4 (10000000000000000 : Int64)), (fdg x9_4 (1000000000000000 : Int64)), (fdg x9_4 (100000000000000 : Int64)), (fdg x9_4 (10000000000000 : Int64)), (fdg x9_4 (1000000000000 : Int64)), (fdg x9_4 (100000000000 : Int64)), (fdg x9_4 (10000000000 : Int64)), (fdg x9_4 (1000000000 : Int64)), (fdg x9_4 (100000000 : Int64)), (fdg x9_4 (10000000 : Int64)), (fdg x9_4 (1000000 : Int64)), (fdg x9_4 (100000 : Int64)), (fdg x9_4 (10000 : Int64)), (fdg x9_4 (1000 : Int64)), (fdg x9_4 (100 : Int64)), (fdg x9_4 (10 : Int64)), (fdg x9_4 (1 : Int64)), x6_1, x7_2, x8_3]) 20 (22 : Int32) h329 n0 (Nat.le_trans Z0 K329.1) wo ww wC vB (Ne.symm wV) wj (by decide) (by decide) (own_lbd (List.forall_mem_cons.mpr ⟨(own_dgb _ _), (List.forall_mem_cons.mpr ⟨(own_dgb _ _), (List.forall_mem_cons.mpr ⟨(own_dgb _ _), (List.forall_mem_cons.mpr ⟨(own_dgb _ _), (List.forall_mem_cons.mpr ⟨(own_dgb _ _), (List.forall_mem_cons.mpr ⟨(own_dgb _ _), (List.forall_mem_cons.mpr ⟨(own_dgb _ _), (List.forall_mem_cons.mpr ⟨(own_dgb _ _), (List.forall_mem_cons.mpr ⟨(own_dgb _ _), (List.forall_mem_cons.mpr ⟨(own_dgb _ _), (List.forall_mem_cons.mpr ⟨(own_dgb _ _), (List.forall_mem_cons.mpr ⟨(own_dgb _ _), (List.forall_mem_cons.mpr ⟨(own_dgb _ _), (List.forall_mem_cons.mpr ⟨(own_dgb _ _), (List.forall_mem_cons.mpr ⟨(own_dgb _ _), (List.forall_mem_cons.mpr ⟨(own_dgb _ _), (List.forall_mem_cons.mpr ⟨(own_dgb _ _), (List.forall_mem_cons.mpr ⟨(own_dgb _ _), (List.forall_mem_cons.mpr ⟨(own_dgb _ _), (List.forall_mem_cons.mpr ⟨(own_cb hv6_1), (List.forall_mem_cons.mpr ⟨(own_cb hv7_2), (List.forall_mem_cons.mpr ⟨(own_cb hv8_3), (fun x hx => nomatch hx)⟩)⟩)⟩)⟩)⟩)⟩)⟩)⟩)⟩)⟩)⟩)⟩)⟩)⟩)⟩)⟩)⟩)⟩)⟩)⟩)⟩)⟩)) (own_lpre (pre := [(fdg x9_4 (1000000000000000000 : Int64)), (fdg x9_4 (100000000000000000 : Int64)), (fdg x9_4 (10000000000000000 : Int64)), (fdg x9_4 (1000000000000000 : Int64)), (fdg x9_4 (100000000000000 : Int64)), (fdg x9_4 (10000000000000 : Int64)), (fdg x9_4 (1000000000000 : Int64)), (fdg x9_4 (100000000000 : Int64)), (fdg x9_4 (10000000000 : Int64)), (fdg x9_4 (1000000000 : Int64)), (fdg x9_4 (100000000 : Int64)), (fdg x9_4 (10000000 : Int64)), (fdg x9_4 (1000000 : Int64)), (fdg x9_4 (100000 : Int64)), (fdg x9_4 (10000 : Int64)), (fdg x9_4 (1000 : Int64)), (fdg x9_4 (100 : Int64)), (fdg x9_4 (10 : Int64)), (fdg x9_4 (1 : Int64)), x6_1]) (post := [x7_2, x8_3]) (P := fun z => ¬ (255 : Int32) < z) (List.forall_mem_cons.mpr ⟨(own_dgle _ _), (List.forall_mem_cons.mpr ⟨(own_dgle _ _), (List.forall_mem_cons.mpr ⟨(own_dgle _ _), (List.forall_mem_cons.mpr ⟨(own_dgle _ _), (List.forall_mem_cons.mpr ⟨(own_dgle _ _), (List.forall_mem_cons.mpr ⟨(own_dgle _ _), (List.forall_mem_cons.mpr ⟨(own_dgle _ _), (List.forall_mem_cons.mpr ⟨(own_dgle _ _), (List.forall_mem_cons.mpr ⟨(own_dgle _ _), (List.forall_mem_cons.mpr ⟨(own_dgle _ _), (List.forall_mem_cons.mpr ⟨(own_dgle _ _), (List.forall_mem_cons.mpr ⟨(own_dgle _ _), (List.forall_mem_cons.mpr ⟨(own_dgle _ _), (List.forall_mem_cons.mpr ⟨(own_dgle _ _), (List.forall_mem_cons.mpr ⟨(own_dgle _ _), (List.forall_mem_cons.mpr ⟨(own_dgle _ _), (List.forall_mem_cons.mpr ⟨(own_dgle _ _), (List.forall_mem_cons.mpr ⟨(own_dgle _ _), (List.forall_mem_cons.mpr ⟨(own_dgle _ _), (List.forall_mem_cons.mpr ⟨hs488_330, (fun x hx => nomatch hx)⟩)⟩)⟩)⟩)⟩)⟩)⟩)⟩)⟩)⟩)⟩)⟩)⟩)⟩)⟩)⟩)⟩)⟩)⟩)⟩)) hs488_333 (by decide) wa wf we wb hcs) e329 pd_18 rfl rfl fun _ T334 Lc334 X334 hQ334 => ?_
       obtain ⟨b_334, k2_334, rfl, Nq334, Kq334, fq334_0, g_b_334, fq334_2, ww, wC, fq334_5, kD⟩ := hQ334
       have N334 := Fr.app N311 Nq334
       have wb := own_sta_keep wb Kq334 (allS wo.cell all0)
       have wd := own_sta_keep wd Kq334 (allS wo.cell all0)
       have wa := own_sta_keep wa Kq334 (allS wo.cell all0)
       have wf := own_sta_keep wf Kq334 (allS wo.cell all0)
       have we := own_sta_keep we Kq334 (allS wo.cell all0)
       have hk := Nat.le_trans hk Kq334.1
       have wo := fq334_2
       have K334 := K329.trans Kq334 (allS (Or.inr vt) all0)
       refine Ends.u ?_
       refine cS X334 hy hml hown hZ hw at_493 496 0 28 29 30 31 rfl rfl rfl rfl (rmpaU l Z a0 hw [] b329 b_334 k2_334 cs sf (22 : Int32) (own_lit [(fdg x9_4 (1000000000000000000 : Int64)), (fdg x9_4 (100000000000000000 : Int64)), (fdg x9_4 (10000000000000000 : Int64)), (fdg x9_4 (1000000000000000 : Int64)), (fdg x9_4 (100000000000000 : Int64)), (fdg x9_4 (10000000000000 : Int64)), (fdg x9_4 (1000000000000 : Int64)), (fdg x9_4 (100000000000 : Int64)), (fdg x9_4 (10000000000 : Int64)), (fdg x9_4 (1000000000 : Int64)), (fdg x9_4 (100000000 : Int64)), (fdg x9_4 (10000000 : Int64)), (fdg x9_4 (1000000 : Int64)), (fdg x9_4 (100000 : Int64)), (fdg x9_4 (10000 : Int64)), (fdg x9_4 (1000 : Int64)), (fdg x9_4 (100 : Int64)), (fdg x9_4 (10 : Int64)), (fdg x9_4 (1 : Int64)), x6_1, x7_2, x8_3]) T334.heap n0 (Nat.le_trans Z0 K334.1) wo ww wC kD wb hcs wd wn (by decide) (by decide) (own_lbd (List.forall_mem_cons.mpr ⟨(own_dgb _ _), (List.forall_mem_cons.mpr ⟨(own_dgb _ _), (List.forall_mem_cons.mpr ⟨(own_dgb _ _), (List.forall_mem_cons.mpr ⟨(own_dgb _ _), (List.forall_mem_cons.mpr ⟨(own_dgb _ _), (List.forall_mem_cons.mpr ⟨(own_dgb _ _), (List.forall_mem_cons.mpr ⟨(own_dgb _ _), (List.forall_mem_cons.mpr ⟨(own_dgb _ _), (List.forall_mem_cons.mpr ⟨(own_dgb _ _), (List.forall_mem_cons.mpr ⟨(own_dgb _ _), (List.forall_mem_cons.mpr ⟨(own_dgb _ _), (List.forall_mem_cons.mpr ⟨(own_dgb _ _), (List.forall_mem_cons.mpr ⟨(own_dgb _ _), (List.forall_mem_cons.mpr ⟨(own_dgb _ _), (List.forall_mem_cons.mpr ⟨(own_dgb _ _), (List.forall_mem_cons.mpr ⟨(own_dgb _ _), (List.forall_mem_cons.mpr ⟨(own_dgb _ _), (List.forall_mem_cons.mpr ⟨(own_dgb _ _), (List.forall_mem_cons.mpr ⟨(own_dgb _ _), (List.forall_mem_cons.mpr ⟨(own_cb hv6_1), (List.forall_mem_cons.mpr ⟨(own_cb hv7_2), (List.forall_mem_cons.mpr ⟨(own_cb hv8_3), (fun x hx => nomatch hx)⟩)⟩)⟩)⟩)⟩)⟩)⟩)⟩)⟩)⟩)⟩)⟩)⟩)⟩)⟩)⟩)⟩)⟩)⟩)⟩)⟩)⟩)) wa wf we) rfl pd_19 rfl rfl fun _ T335 Lc335 X335 hQ335 => ?_
       obtain ⟨rfl, Nq335, hh335⟩ := hQ335
       have N335 := Fr.app N334 Nq335
       refine Ends.v (oF X335 hy at_496 498 rfl (oY X335 hy at_498 499 ?_))
       have hc499 : (own_p (own_gl (22 : Int32).toNatClampNeg (own_lit [(fdg x9_4 (1000000000000000000 : Int64)), (fdg x9_4 (100000000000000000 : Int64)), (fdg x9_4 (10000000000000000 : Int64)), (fdg x9_4 (1000000000000000 : Int64)), (fdg x9_4 (100000000000000 : Int64)), (fdg x9_4 (10000000000000 : Int64)), (fdg x9_4 (1000000000000 : Int64)), (fdg x9_4 (100000000000 : Int64)), (fdg x9_4 (10000000000 : Int64)), (fdg x9_4 (1000000000 : Int64)), (fdg x9_4 (100000000 : Int64)), (fdg x9_4 (10000000 : Int64)), (fdg x9_4 (1000000 : Int64)), (fdg x9_4 (100000 : Int64)), (fdg x9_4 (10000 : Int64)), (fdg x9_4 (1000 : Int64)), (fdg x9_4 (100 : Int64)), (fdg x9_4 (10 : Int64)), (fdg x9_4 (1 : Int64)), x6_1, x7_2, x8_3])) (0 : Int64)) = v484_5 := ((own_lg3 (own_h0 hv9_4) (own_cb hv6_1) (own_cb hv7_2) (own_cb hv8_3) hc367_284 hc375_298 hc383_312).trans hv484_5.symm)
       refine oxh X335 hy at_499 502 (XT.ll_ne_f hc499) (oG X335 hy at_502 503 1 rfl (oxm X335 hy at_503 507 ?_))
       exact Ends.finW (some (.int 1)) X335 hS hk hQQ (fun h => by rw [Bd.returns] at h; cases h) Bd.notSynchronized (fun _ hr => retOut X335 hx (t := .boolean) Bd.returns rfl (Or.inl ⟨rfl, (by simp), _, rfl⟩) (hb hby at_507) hr) hh335 (by decide) (by decide) ⟨rfl, N335, K334⟩
      ·by_cases hs488_336 : (255 : Int32) < x8_3
       ·refine oB X329 hy at_488 490 rfl ?_
        refine cI X329 hy hml hown hZ hw at_490 493 1 10 11 12 9 rfl rfl rfl rfl rfl (rmscU l Z a0 hw [] b329 b219 (.null : Value) (0 : Int32) k219 cs (own_lit [(fdg x9_4 (1000000000000000000 : Int64)), (fdg x9_4 (100000000000000000 : Int64)), (fdg x9_4 (10000000000000000 : Int64)), (fdg x9_4 (1000000000000000 : Int64)), (fdg x9_4 (100000000000000 : Int64)), (fdg x9_4 (10000000000000 : Int64)), (fdg x9_4 (1000000000000 : Int64)), (fdg x9_4 (100000000000 : Int64)), (fdg x9_4 (10000000000 : Int64)), (fdg x9_4 (1000000000 : Int64)), (fdg x9_4 (100000000 : Int64)), (fdg x9_4 (10000000 : Int64)), (fdg x9_4 (1000000 : Int64)), (fdg x9_4 (100000 : Int64)), (fdg x9_4 (10000 : Int64)), (fdg x9_4 (1000 : Int64)), (fdg x9_4 (100 : Int64)), (fdg x9_4 (10 : Int64)), (fdg x9_4 (1 : Int64)), x6_1, x7_2, x8_3]) 21 (22 : Int32) h329 n0 (Nat.le_trans Z0 K329.1) wo ww wC vB (Ne.symm wV) wj (by decide) (by decide) (own_lbd (List.forall_mem_cons.mpr ⟨(own_dgb _ _), (List.forall_mem_cons.mpr ⟨(own_dgb _ _), (List.forall_mem_cons.mpr ⟨(own_dgb _ _), (List.forall_mem_cons.mpr ⟨(own_dgb _ _), (List.forall_mem_cons.mpr ⟨(own_dgb _ _), (List.forall_mem_cons.mpr ⟨(own_dgb _ _), (List.forall_mem_cons.mpr ⟨(own_dgb _ _), (List.forall_mem_cons.mpr ⟨(own_dgb _ _), (List.forall_mem_cons.mpr ⟨(own_dgb _ _), (List.forall_mem_cons.mpr ⟨(own_dgb _ _), (List.forall_mem_cons.mpr ⟨(own_dgb _ _), (List.forall_mem_cons.mpr ⟨(own_dgb _ _), (List.forall_mem_cons.mpr ⟨(own_dgb _ _), (List.forall_mem_cons.mpr ⟨(own_dgb _ _), (List.forall_mem_cons.mpr ⟨(own_dgb _ _), (List.forall_mem_cons.mpr ⟨(own_dgb _ _), (List.forall_mem_cons.mpr ⟨(own_dgb _ _), (List.forall_mem_cons.mpr ⟨(own_dgb _ _), (List.forall_mem_cons.mpr ⟨(own_dgb _ _), (List.forall_mem_cons.mpr ⟨(own_cb hv6_1), (List.forall_mem_cons.mpr ⟨(own_cb hv7_2), (List.forall_mem_cons.mpr ⟨(own_cb hv8_3), (fun x hx => nomatch hx)⟩)⟩)⟩)⟩)⟩)⟩)⟩)⟩)⟩)⟩)⟩)⟩)⟩)⟩)⟩)⟩)⟩)⟩)⟩)⟩)⟩)⟩)) (own_lpre (pre := [(fdg x9_4 (1000000000000000000 : Int64)), (fdg x9_4 (100000000000000000 : Int64)), (fdg x9_4 (10000000000000000 : Int64)), (fdg x9_4 (1000000000000000 : Int64)), (fdg x9_4 (100000000000000 : Int64)), (fdg x9_4 (10000000000000 : Int64)), (fdg x9_4 (1000000000000 : Int64)), (fdg x9_4 (100000000000 : Int64)), (fdg x9_4 (10000000000 : Int64)), (fdg x9_4 (1000000000 : Int64)), (fdg x9_4 (100000000 : Int64)), (fdg x9_4 (10000000 : Int64)), (fdg x9_4 (1000000 : Int64)), (fdg x9_4 (100000 : Int64)), (fdg x9_4 (10000 : Int64)), (fdg x9_4 (1000 : Int64)), (fdg x9_4 (100 : Int64)), (fdg x9_4 (10 : Int64)), (fdg x9_4 (1 : Int64)), x6_1, x7_2]) (post := [x8_3]) (P := fun z => ¬ (255 : Int32) < z) (List.forall_mem_cons.mpr ⟨(own_dgle _ _), (List.forall_mem_cons.mpr ⟨(own_dgle _ _), (List.forall_mem_cons.mpr ⟨(own_dgle _ _), (List.forall_mem_cons.mpr ⟨(own_dgle _ _), (List.forall_mem_cons.mpr ⟨(own_dgle _ _), (List.forall_mem_cons.mpr ⟨(own_dgle _ _), (List.forall_mem_cons.mpr ⟨(own_dgle _ _), (List.forall_mem_cons.mpr ⟨(own_dgle _ _), (List.forall_mem_cons.mpr ⟨(own_dgle _ _), (List.forall_mem_cons.mpr ⟨(own_dgle _ _), (List.forall_mem_cons.mpr ⟨(own_dgle _ _), (List.forall_mem_cons.mpr ⟨(own_dgle _ _), (List.forall_mem_cons.mpr ⟨(own_dgle _ _), (List.forall_mem_cons.mpr ⟨(own_dgle _ _), (List.forall_mem_cons.mpr ⟨(own_dgle _ _), (List.forall_mem_cons.mpr ⟨(own_dgle _ _), (List.forall_mem_cons.mpr ⟨(own_dgle _ _), (List.forall_mem_cons.mpr ⟨(own_dgle _ _), (List.forall_mem_cons.mpr ⟨(own_dgle _ _), (List.forall_mem_cons.mpr ⟨hs488_330, (List.forall_mem_cons.mpr ⟨hs488_333, (fun x hx => nomatch hx)⟩)⟩)⟩)⟩)⟩)⟩)⟩)⟩)⟩)⟩)⟩)⟩)⟩)⟩)⟩)⟩)⟩)⟩)⟩)⟩)⟩)) hs488_336 (by decide) wa wf we wb hcs) e329 pd_18 rfl rfl fun _ T337 Lc337 X337 hQ337 => ?_
        obtain ⟨b_337, k2_337, rfl, Nq337, Kq337, fq337_0, g_b_337, fq337_2, ww, wC, fq337_5, kC⟩ := hQ337
        have N337 := Fr.app N311 Nq337
        have wb := own_sta_keep wb Kq337 (allS wo.cell all0)
        have wd := own_sta_keep wd Kq337 (allS wo.cell all0)
        have wa := own_sta_keep wa Kq337 (allS wo.cell all0)
        have wf := own_sta_keep wf Kq337 (allS wo.cell all0)
        have we := own_sta_keep we Kq337 (allS wo.cell all0)
        have hk := Nat.le_trans hk Kq337.1
        have wo := fq337_2
        have K337 := K329.trans Kq337 (allS (Or.inr vt) all0)
        refine Ends.u ?_
        refine cS X337 hy hml hown hZ hw at_493 496 0 28 29 30 31 rfl rfl rfl rfl (rmpaU l Z a0 hw [] b329 b_337 k2_337 cs sf (22 : Int32) (own_lit [(fdg x9_4 (1000000000000000000 : Int64)), (fdg x9_4 (100000000000000000 : Int64)), (fdg x9_4 (10000000000000000 : Int64)), (fdg x9_4 (1000000000000000 : Int64)), (fdg x9_4 (100000000000000 : Int64)), (fdg x9_4 (10000000000000 : Int64)), (fdg x9_4 (1000000000000 : Int64)), (fdg x9_4 (100000000000 : Int64)), (fdg x9_4 (10000000000 : Int64)), (fdg x9_4 (1000000000 : Int64)), (fdg x9_4 (100000000 : Int64)), (fdg x9_4 (10000000 : Int64)), (fdg x9_4 (1000000 : Int64)), (fdg x9_4 (100000 : Int64)), (fdg x9_4 (10000 : Int64)), (fdg x9_4 (1000 : Int64)), (fdg x9_4 (100 : Int64)), (fdg x9_4 (10 : Int64)), (fdg x9_4 (1 : Int64)), x6_1, x7_2, x8_3]) T337.heap n0 (Nat.le_trans Z0 K337.1) wo ww wC kC wb hcs wd wn (by decide) (by decide) (own_lbd (List.forall_mem_cons.mpr ⟨(own_dgb _ _), (List.forall_mem_cons.mpr ⟨(own_dgb _ _), (List.forall_mem_cons.mpr ⟨(own_dgb _ _), (List.forall_mem_cons.mpr ⟨(own_dgb _ _), (List.forall_mem_cons.mpr ⟨(own_dgb _ _), (List.forall_mem_cons.mpr ⟨(own_dgb _ _), (List.forall_mem_cons.mpr ⟨(own_dgb _ _), (List.forall_mem_cons.mpr ⟨(own_dgb _ _), (List.forall_mem_cons.mpr ⟨(own_dgb _ _), (List.forall_mem_cons.mpr ⟨(own_dgb _ _), (List.forall_mem_cons.mpr ⟨(own_dgb _ _), (List.forall_mem_cons.mpr ⟨(own_dgb _ _), (List.forall_mem_cons.mpr ⟨(own_dgb _ _), (List.forall_mem_cons.mpr ⟨(own_dgb _ _), (List.forall_mem_cons.mpr ⟨(own_dgb _ _), (List.forall_mem_cons.mpr ⟨(own_dgb _ _), (List.forall_mem_cons.mpr ⟨(own_dgb _ _), (List.forall_mem_cons.mpr ⟨(own_dgb _ _), (List.forall_mem_cons.mpr ⟨(own_dgb _ _), (List.forall_mem_cons.mpr ⟨(own_cb hv6_1), (List.forall_mem_cons.mpr ⟨(own_cb hv7_2), (List.forall_mem_cons.mpr ⟨(own_cb hv8_3), (fun x hx => nomatch hx)⟩)⟩)⟩)⟩)⟩)⟩)⟩)⟩)⟩)⟩)⟩)⟩)⟩)⟩)⟩)⟩)⟩)⟩)⟩)⟩)⟩)⟩)) wa wf we) rfl pd_19 rfl rfl fun _ T338 Lc338 X338 hQ338 => ?_
        obtain ⟨rfl, Nq338, hh338⟩ := hQ338
        have N338 := Fr.app N337 Nq338
        refine Ends.v (oF X338 hy at_496 498 rfl (oY X338 hy at_498 499 ?_))
        have hc499 : (own_p (own_gl (22 : Int32).toNatClampNeg (own_lit [(fdg x9_4 (1000000000000000000 : Int64)), (fdg x9_4 (100000000000000000 : Int64)), (fdg x9_4 (10000000000000000 : Int64)), (fdg x9_4 (1000000000000000 : Int64)), (fdg x9_4 (100000000000000 : Int64)), (fdg x9_4 (10000000000000 : Int64)), (fdg x9_4 (1000000000000 : Int64)), (fdg x9_4 (100000000000 : Int64)), (fdg x9_4 (10000000000 : Int64)), (fdg x9_4 (1000000000 : Int64)), (fdg x9_4 (100000000 : Int64)), (fdg x9_4 (10000000 : Int64)), (fdg x9_4 (1000000 : Int64)), (fdg x9_4 (100000 : Int64)), (fdg x9_4 (10000 : Int64)), (fdg x9_4 (1000 : Int64)), (fdg x9_4 (100 : Int64)), (fdg x9_4 (10 : Int64)), (fdg x9_4 (1 : Int64)), x6_1, x7_2, x8_3])) (0 : Int64)) = v484_5 := ((own_lg3 (own_h0 hv9_4) (own_cb hv6_1) (own_cb hv7_2) (own_cb hv8_3) hc367_284 hc375_298 hc383_312).trans hv484_5.symm)
        refine oxh X338 hy at_499 502 (XT.ll_ne_f hc499) (oG X338 hy at_502 503 1 rfl (oxm X338 hy at_503 507 ?_))
        exact Ends.finW (some (.int 1)) X338 hS hk hQQ (fun h => by rw [Bd.returns] at h; cases h) Bd.notSynchronized (fun _ hr => retOut X338 hx (t := .boolean) Bd.returns rfl (Or.inl ⟨rfl, (by simp), _, rfl⟩) (hb hby at_507) hr) hh338 (by decide) (by decide) ⟨rfl, N338, K337⟩
       ·refine oB X329 hy at_488 490 rfl ?_
        refine cI X329 hy hml hown hZ hw at_490 493 1 10 11 12 9 rfl rfl rfl rfl rfl (rmscL l Z a0 hw [] b329 b219 (.null : Value) (0 : Int32) k219 cs (own_lit [(fdg x9_4 (1000000000000000000 : Int64)), (fdg x9_4 (100000000000000000 : Int64)), (fdg x9_4 (10000000000000000 : Int64)), (fdg x9_4 (1000000000000000 : Int64)), (fdg x9_4 (100000000000000 : Int64)), (fdg x9_4 (10000000000000 : Int64)), (fdg x9_4 (1000000000000 : Int64)), (fdg x9_4 (100000000000 : Int64)), (fdg x9_4 (10000000000 : Int64)), (fdg x9_4 (1000000000 : Int64)), (fdg x9_4 (100000000 : Int64)), (fdg x9_4 (10000000 : Int64)), (fdg x9_4 (1000000 : Int64)), (fdg x9_4 (100000 : Int64)), (fdg x9_4 (10000 : Int64)), (fdg x9_4 (1000 : Int64)), (fdg x9_4 (100 : Int64)), (fdg x9_4 (10 : Int64)), (fdg x9_4 (1 : Int64)), x6_1, x7_2, x8_3]) (22 : Int32) h329 n0 (Nat.le_trans Z0 K329.1) wo ww wC vB (Ne.symm wV) wj (by decide) (by decide) (own_lpre (pre := [(fdg x9_4 (1000000000000000000 : Int64)), (fdg x9_4 (100000000000000000 : Int64)), (fdg x9_4 (10000000000000000 : Int64)), (fdg x9_4 (1000000000000000 : Int64)), (fdg x9_4 (100000000000000 : Int64)), (fdg x9_4 (10000000000000 : Int64)), (fdg x9_4 (1000000000000 : Int64)), (fdg x9_4 (100000000000 : Int64)), (fdg x9_4 (10000000000 : Int64)), (fdg x9_4 (1000000000 : Int64)), (fdg x9_4 (100000000 : Int64)), (fdg x9_4 (10000000 : Int64)), (fdg x9_4 (1000000 : Int64)), (fdg x9_4 (100000 : Int64)), (fdg x9_4 (10000 : Int64)), (fdg x9_4 (1000 : Int64)), (fdg x9_4 (100 : Int64)), (fdg x9_4 (10 : Int64)), (fdg x9_4 (1 : Int64)), x6_1, x7_2, x8_3]) (post := []) (P := fun z => ¬ (255 : Int32) < z) (List.forall_mem_cons.mpr ⟨(own_dgle _ _), (List.forall_mem_cons.mpr ⟨(own_dgle _ _), (List.forall_mem_cons.mpr ⟨(own_dgle _ _), (List.forall_mem_cons.mpr ⟨(own_dgle _ _), (List.forall_mem_cons.mpr ⟨(own_dgle _ _), (List.forall_mem_cons.mpr ⟨(own_dgle _ _), (List.forall_mem_cons.mpr ⟨(own_dgle _ _), (List.forall_mem_cons.mpr ⟨(own_dgle _ _), (List.forall_mem_cons.mpr ⟨(own_dgle _ _), (List.forall_mem_cons.mpr ⟨(own_dgle _ _), (List.forall_mem_cons.mpr ⟨(own_dgle _ _), (List.forall_mem_cons.mpr ⟨(own_dgle _ _), (List.forall_mem_cons.mpr ⟨(own_dgle _ _), (List.forall_mem_cons.mpr ⟨(own_dgle _ _), (List.forall_mem_cons.mpr ⟨(own_dgle _ _), (List.forall_mem_cons.mpr ⟨(own_dgle _ _), (List.forall_mem_cons.mpr ⟨(own_dgle _ _), (List.forall_mem_cons.mpr ⟨(own_dgle _ _), (List.forall_mem_cons.mpr ⟨(own_dgle _ _), (List.forall_mem_cons.mpr ⟨hs488_330, (List.forall_mem_cons.mpr ⟨hs488_333, (List.forall_mem_cons.mpr ⟨hs488_336, (fun x hx => nomatch hx)⟩)⟩)⟩)⟩)⟩)⟩)⟩)⟩)⟩)⟩)⟩)⟩)⟩)⟩)⟩)⟩)⟩)⟩)⟩)⟩)⟩)⟩)) wb hcs) e329 pd_18 rfl rfl fun _ T339 Lc339 X339 hQ339 => ?_
        obtain ⟨b_339, k2_339, rfl, Nq339, Kq339, fq339_0, g_b_339, fq339_2, ww, wC, fq339_5, kB⟩ := hQ339
        have N339 := Fr.app N311 Nq339
        have wb := own_sta_keep wb Kq339 (allS wo.cell all0)
        have wd := own_sta_keep wd Kq339 (allS wo.cell all0)
        have hk := Nat.le_trans hk Kq339.1
        have wo := fq339_2
        have K339 := K329.trans Kq339 (allS (Or.inr vt) all0)
        refine Ends.u ?_
        refine cS X339 hy hml hown hZ hw at_493 496 0 28 29 30 31 rfl rfl rfl rfl (rmpaL l Z a0 hw [] b329 b_339 k2_339 cs sf (22 : Int32) (own_lit [(fdg x9_4 (1000000000000000000 : Int64)), (fdg x9_4 (100000000000000000 : Int64)), (fdg x9_4 (10000000000000000 : Int64)), (fdg x9_4 (1000000000000000 : Int64)), (fdg x9_4 (100000000000000 : Int64)), (fdg x9_4 (10000000000000 : Int64)), (fdg x9_4 (1000000000000 : Int64)), (fdg x9_4 (100000000000 : Int64)), (fdg x9_4 (10000000000 : Int64)), (fdg x9_4 (1000000000 : Int64)), (fdg x9_4 (100000000 : Int64)), (fdg x9_4 (10000000 : Int64)), (fdg x9_4 (1000000 : Int64)), (fdg x9_4 (100000 : Int64)), (fdg x9_4 (10000 : Int64)), (fdg x9_4 (1000 : Int64)), (fdg x9_4 (100 : Int64)), (fdg x9_4 (10 : Int64)), (fdg x9_4 (1 : Int64)), x6_1, x7_2, x8_3]) T339.heap n0 (Nat.le_trans Z0 K339.1) wo ww wC kB wb hcs wd wn (by decide) (by decide) (own_lbd (List.forall_mem_cons.mpr ⟨(own_dgb _ _), (List.forall_mem_cons.mpr ⟨(own_dgb _ _), (List.forall_mem_cons.mpr ⟨(own_dgb _ _), (List.forall_mem_cons.mpr ⟨(own_dgb _ _), (List.forall_mem_cons.mpr ⟨(own_dgb _ _), (List.forall_mem_cons.mpr ⟨(own_dgb _ _), (List.forall_mem_cons.mpr ⟨(own_dgb _ _), (List.forall_mem_cons.mpr ⟨(own_dgb _ _), (List.forall_mem_cons.mpr ⟨(own_dgb _ _), (List.forall_mem_cons.mpr ⟨(own_dgb _ _), (List.forall_mem_cons.mpr ⟨(own_dgb _ _), (List.forall_mem_cons.mpr ⟨(own_dgb _ _), (List.forall_mem_cons.mpr ⟨(own_dgb _ _), (List.forall_mem_cons.mpr ⟨(own_dgb _ _), (List.forall_mem_cons.mpr ⟨(own_dgb _ _), (List.forall_mem_cons.mpr ⟨(own_dgb _ _), (List.forall_mem_cons.mpr ⟨(own_dgb _ _), (List.forall_mem_cons.mpr ⟨(own_dgb _ _), (List.forall_mem_cons.mpr ⟨(own_dgb _ _), (List.forall_mem_cons.mpr ⟨(own_cb hv6_1), (List.forall_mem_cons.mpr ⟨(own_cb hv7_2), (List.forall_mem_cons.mpr ⟨(own_cb hv8_3), (fun x hx => nomatch hx)⟩)⟩)⟩)⟩)⟩)⟩)⟩)⟩)⟩)⟩)⟩)⟩)⟩)⟩)⟩)⟩)⟩)⟩)⟩)⟩)⟩)⟩)) (own_lpre (pre := [(fdg x9_4 (1000000000000000000 : Int64)), (fdg x9_4 (100000000000000000 : Int64)), (fdg x9_4 (10000000000000000 : Int64)), (fdg x9_4 (1000000000000000 : Int64)), (fdg x9_4 (100000000000000 : Int64)), (fdg x9_4 (10000000000000 : Int64)), (fdg x9_4 (1000000000000 : Int64)), (fdg x9_4 (100000000000 : Int64)), (fdg x9_4 (10000000000 : Int64)), (fdg x9_4 (1000000000 : Int64)), (fdg x9_4 (100000000 : Int64)), (fdg x9_4 (10000000 : Int64)), (fdg x9_4 (1000000 : Int64)), (fdg x9_4 (100000 : Int64)), (fdg x9_4 (10000 : Int64)), (fdg x9_4 (1000 : Int64)), (fdg x9_4 (100 : Int64)), (fdg x9_4 (10 : Int64)), (fdg x9_4 (1 : Int64)), x6_1, x7_2, x8_3]) (post := []) (P := fun z => ¬ (255 : Int32) < z) (List.forall_mem_cons.mpr ⟨(own_dgle _ _), (List.forall_mem_cons.mpr ⟨(own_dgle _ _), (List.forall_mem_cons.mpr ⟨(own_dgle _ _), (List.forall_mem_cons.mpr ⟨(own_dgle _ _), (List.forall_mem_cons.mpr ⟨(own_dgle _ _), (List.forall_mem_cons.mpr ⟨(own_dgle _ _), (List.forall_mem_cons.mpr ⟨(own_dgle _ _), (List.forall_mem_cons.mpr ⟨(own_dgle _ _), (List.forall_mem_cons.mpr ⟨(own_dgle _ _), (List.forall_mem_cons.mpr ⟨(own_dgle _ _), (List.forall_mem_cons.mpr ⟨(own_dgle _ _), (List.forall_mem_cons.mpr ⟨(own_dgle _ _), (List.forall_mem_cons.mpr ⟨(own_dgle _ _), (List.forall_mem_cons.mpr ⟨(own_dgle _ _), (List.forall_mem_cons.mpr ⟨(own_dgle _ _), (List.forall_mem_cons.mpr ⟨(own_dgle _ _), (List.forall_mem_cons.mpr ⟨(own_dgle _ _), (List.forall_mem_cons.mpr ⟨(own_dgle _ _), (List.forall_mem_cons.mpr ⟨(own_dgle _ _), (List.forall_mem_cons.mpr ⟨hs488_330, (List.forall_mem_cons.mpr ⟨hs488_333, (List.forall_mem_cons.mpr ⟨hs488_336, (fun x hx => nomatch hx)⟩)⟩)⟩)⟩)⟩)⟩)⟩)⟩)⟩)⟩)⟩)⟩)⟩)⟩)⟩)⟩)⟩)⟩)⟩)⟩)⟩)⟩))) rfl pd_19 rfl rfl fun _ T340 Lc340 X340 hQ340 => ?_
        obtain ⟨rfl, Nq340, hh340⟩ := hQ340
        have N340 := Fr.app N339 Nq340
        refine Ends.v (oF X340 hy at_496 498 rfl (oY X340 hy at_498 499 ?_))
        have hc499 : (own_p (own_gl (22 : Int32).toNatClampNeg (own_lit [(fdg x9_4 (1000000000000000000 : Int64)), (fdg x9_4 (100000000000000000 : Int64)), (fdg x9_4 (10000000000000000 : Int64)), (fdg x9_4 (1000000000000000 : Int64)), (fdg x9_4 (100000000000000 : Int64)), (fdg x9_4 (10000000000000 : Int64)), (fdg x9_4 (1000000000000 : Int64)), (fdg x9_4 (100000000000 : Int64)), (fdg x9_4 (10000000000 : Int64)), (fdg x9_4 (1000000000 : Int64)), (fdg x9_4 (100000000 : Int64)), (fdg x9_4 (10000000 : Int64)), (fdg x9_4 (1000000 : Int64)), (fdg x9_4 (100000 : Int64)), (fdg x9_4 (10000 : Int64)), (fdg x9_4 (1000 : Int64)), (fdg x9_4 (100 : Int64)), (fdg x9_4 (10 : Int64)), (fdg x9_4 (1 : Int64)), x6_1, x7_2, x8_3])) (0 : Int64)) = v484_5 := ((own_lg3 (own_h0 hv9_4) (own_cb hv6_1) (own_cb hv7_2) (own_cb hv8_3) hc367_284 hc375_298 hc383_312).trans hv484_5.symm)
        refine oxh X340 hy at_499 502 (XT.ll_ne_f hc499) (oG X340 hy at_502 503 1 rfl (oxm X340 hy at_503 507 ?_))
        exact Ends.finW (some (.int 1)) X340 hS hk hQQ (fun h => by rw [Bd.returns] at h; cases h) Bd.notSynchronized (fun _ hr => retOut X340 hx (t := .boolean) Bd.returns rfl (Or.inl ⟨rfl, (by simp), _, rfl⟩) (hb hby at_507) hr) hh340 (by decide) (by decide) ⟨rfl, N340, K339⟩
theorem comes_1 {Post : Tables → Env → Array Value → State → Outcome → State → Prop} (hpost : ∀ tb e args s v u, (limb_1_1.after args s (.returned v) u = true ∧ limb_1_2.after args s (.returned v) u = true ∧ True) → ReturnedEndW s (.returned v) u (Jvm.fieldLocs frame_1_writes args s ++ Jvm.arrayLocs frame_1_arrays args s ++ Jvm.staticLocs frame_1_statics s) 24 1280 → Post tb e args s (.returned v) u) :
    ArmFor flags0 classFile x code maxLocals ret World_1 tables_1 room_1 Calls_1 rest_1 Pre_1 Post := by
  intro l hfl _ _ p e ha hc hk s m args below hf hA hF happ hP
  obtain ⟨hcalls, hrest, hpre⟩ := hP
  obtain ⟨-, -, -, hnamed, -, -, -, hat⟩ := (Spec.applies_iff hf).mp happ
  obtain ⟨hg, hn⟩ := and_e (Cond.before_iff.mp (show (Jvm.Cond.and given_1 narrow_1).before args s = true from hpre))
  obtain ⟨gl1, gr1⟩ := and_e hg
  obtain ⟨gl2, gr2⟩ := and_e gr1
  obtain ⟨gl3, gr3⟩ := and_e gr2
  obtain ⟨gl4, gr4⟩ := and_e gr3
  obtain ⟨gl5, gr5⟩ := and_e gr4
  obtain ⟨w0, w1, w2, w3, w4, rfl⟩ : ∃ w0 w1 w2 w3 w4 : Value, args = #[w0, w1, w2, w3, w4] := by
    have hs : args.size = 5 := by simpa [Cond.value, given_1] using gl1
    obtain ⟨L⟩ := args
    match L, hs with
    | [w0, w1, w2, w3, w4], _ => exact ⟨w0, w1, w2, w3, w4, rfl⟩
  have hw := fun d (hd : d ∈ tables_1) => atoms_spec (ws := Jvm.Cond.code x code maxLocals ret :: tables_1) hat d (List.mem_cons_of_mem _ hd)
  have hfit : Fit s := fun {y c} hc i hi => by
    obtain ⟨ha, rfl⟩ := Array.getElem?_eq_some_iff.mp hc
    have q := List.all_eq_true.mp ((Array.all_eq_true_iff_forall_mem.mp hF) _ (Array.getElem_mem ha)) i (List.mem_range.mpr hi)
    simpa [Array.getElem?_eq_getElem hi] using q
  obtain ⟨hsets, hown0⟩ := atoms_of _ (rest_1_c_eq ▸ (show rest_1_c.before _ s = true from hrest))
  have hr0 := Cond.before_iff.mp hown0
  obtain ⟨i0, ei0⟩ := is_v gl2
  obtain rfl : w0 = (.int i0) := Option.some.inj ei0
  obtain ⟨i1, ei1⟩ := is_v gl3
  obtain rfl : w1 = (.int i1) := Option.some.inj ei1
  obtain ⟨i2, ei2⟩ := is_v gl4
  obtain rfl : w2 = (.int i2) := Option.some.inj ei2
  obtain ⟨i3, ei3⟩ := is_v gl5
  obtain rfl : w3 = (.int i3) := Option.some.inj ei3
  obtain ⟨i4, ei4⟩ := isL_v gr5
  obtain rfl : w4 = (.long i4) := Option.some.inj ei4
  obtain ⟨cs, ev_cs⟩ := is_v (Cond.before_iff.mp (hsets _ mm1))
  have hcs : ¬ cs = (0 : Int32) := own_nz (Cond.before_iff.mp (hsets _ (List.mem_of_getElem? (i := 2) rfl))) ev_cs
  have wb := Sta.start ev_cs (Or.inl (hsets _ mm0))
  obtain ⟨sf, ev_sf, wn⟩ := isR_v (Cond.before_iff.mp (hsets _ (List.mem_of_getElem? (i := 8) rfl)))
  have wd := Sta.start ev_sf (Or.inl (hsets _ (List.mem_of_getElem? (i := 7) rfl)))
  have wa : Sta s s.heap "java/lang/StringUTF16" "$assertionsDisabled" "Z" (.int 1) := Sta.start (own_ev (hsets _ (List.mem_of_getElem? (i := 12) rfl))) (Or.inl (hsets _ (List.mem_of_getElem? (i := 11) rfl)))
  have wf : Sta s s.heap "java/lang/StringUTF16" "HI_BYTE_SHIFT" "I" (.int 0) := Sta.start (own_ev (hsets _ (List.mem_of_getElem? (i := 15) rfl))) (Or.inl (hsets _ (List.mem_of_getElem? (i := 14) rfl)))
  have we : Sta s s.heap "java/lang/StringUTF16" "LO_BYTE_SHIFT" "I" (.int 8) := Sta.start (own_ev (hsets _ (List.mem_of_getElem? (i := 18) rfl))) (Or.inl (hsets _ (List.mem_of_getElem? (i := 17) rfl)))
  have vb : Jvm.Lit.constHeld s "java/lang/String" 7 := hcalls.1 ("java/lang/String", 7) mm0
  have hcw : Jvm.Lit.compactW.before #[(Value.int i0), (Value.int i1), (Value.int i2), (Value.int i3), (Value.long i4)] s = true := hsets _ (List.mem_of_getElem? (i := 2) rfl)
  obtain ⟨n, o, h1, h2, h3, _, L, rfl, hQ, hq⟩ := rm0 l s _ hw tables_1 i0 i1 i2 i3 i4 cs sf s.heap s.heap.size (Nat.le_refl _) wb hcs wd wn wa wf we vb hcw (fun _ _ q => q) rfl p e ha hc hk s m _ below hf ((Spec.applies_iff_loose hf).mp happ).1 ⟨rfl, State.Warmed39.refl s, rfl, rfl⟩ trivial
  obtain ⟨hv, N, -⟩ := hQ
  have hlaw : (1 : Int32) = 1 := rfl
  rw [hlaw] at hv
  subst hv
  refine ⟨n, _, h1, h2, h3, hpost _ _ _ _ _ _ ⟨Cond.after_iff.mpr rfl, Cond.after_iff.mpr (eq_i res_at (Term.int_eval (1)) rfl), trivial⟩ ⟨hq.1, hq.2.1, hq.2.2.1, (hq.2.2.2.sift fun y hy => Or.inr (N y hy)).mono (by decide) (by decide)⟩⟩
theorem main_1_1 : Claimed_1_1 := comes_1 fun _ _ _ _ _ _ h hF => ⟨h.1, hF⟩
theorem main_1_2 : Claimed_1_2 := comes_1 fun _ _ _ _ _ _ h hF => ⟨h.2.1, hF⟩
end Jvm.Pilot.@@N@@
namespace Jvm.Pilot.@@N@@
open Jvm Jvm.ClassFile Sem Op Lib Jvm.Free Jvm.Stand Jvm.Pilot.@@N@@.Jvm.D
/-! MADE BY PROGRAM (witnessworld.py) out of the Statement's table words and the real class files: 20 classes; the members and pool entries that the words name. The judged class is class 1, her method 4. -/
namespace start1
open Jvm.ClassFile
def u (s : String) : CpInfo := .utf8 (stringToUtf16 s)
/-- a pool by its gaps: so many unusable entries, then the entry; so many at the end -/
def gap : Nat → List CpInfo → List CpInfo
  | 0, r => r
  | n + 1, r => .unusable :: gap n r
def poolList (es : List (Nat × CpInfo)) (last : Nat) : List CpInfo := es.foldr (fun e r => gap e.1 (e.2 :: r)) (gap last [])
def pool (es : List (Nat × CpInfo)) (last : Nat) : Array CpInfo := ⟨poolList es last⟩
def fileOf (pool : Array CpInfo) (this : Nat) (attrs : Array Attribute := #[]) (ms : Array MethodInfo := #[]) (fl : Nat := 33) (sup : Nat := 0) (ifs : Array Nat := #[]) (fds : Array FieldInfo := #[]) : ClassFile where
  minorVersion := 0
  majorVersion := 65
  constantPool := pool
  accessFlags := fl
  thisClass := this
  superClass := sup
  interfaces := ifs
  fields := fds
  methods := ms
  attributes := attrs
def plain (name : String) (sup : Option ClassId) : Class where
  name := name
  kind := .ordinary
  loader := none
  accessFlags := 33
  super := sup
  interfaces := #[]
  cf := none
  fields := #[]
  methods := #[]
  instanceTypes := #[]
  staticTypes := #[]
  resolved := #[]
  callSites := []
  init := .initialized
  statics := none
  mirror := none

def pool0 : Array CpInfo := pool [(5, u "<init>"), (0, u "()V"), (1, .class_ 10), (1, u "java/lang/Object")] 113

def k0c0 : Code := { maxStack := 0, maxLocals := 1, code := object_method_1_code, exceptionTable := #[], attributes := #[] }
def k0m0 : Method := { name := "<init>", desc := "()V", sig := { parameters := [], returnType := none }, accessFlags := 1, code := some k0c0 }
/-- java/lang/Object -/
def k0 : Class := { plain "java/lang/Object" none with
  accessFlags := 33
  interfaces := #[]
  cf := some (fileOf pool0 8 #[] #[{ accessFlags := 1, nameIndex := 5, descriptorIndex := 6, attributes := #[] }] 33 0 #[] #[])
  fields := #[]
  methods := #[k0m0]
  instanceTypes := #[]
  staticTypes := #[]
  resolved := Array.replicate 124 none
  statics := none }

def pool1 : Array CpInfo := pool [(2, .class_ 4), (1, u "java/lang/Object"), (0, u "<init>"), (0, u "()V"), (0, .long 10), (1, .long 18446744073709551615), (1, .methodref 12 13), (0, .class_ 14), (0, .nameAndType 15 16), (0, u "com/example/hiscore/hiscore/WholeNumberParsePinLaw"), (0, u "isDig"), (0, u "(C)Z"), (0, .long 100), (1, .integer 65535), (0, .methodref 12 21), (0, .nameAndType 22 23), (0, u "shortExpected"), (0, u "(ICCC)J"), (0, .class_ 25), (0, u "java/lang/String"), (0, .methodref 24 27), (0, .nameAndType 5 28), (0, u "([C)V"), (0, .methodref 30 31), (0, .class_ 32), (0, .nameAndType 33 34), (0, u "com/example/hiscore/hiscore/WholeNumber"), (0, u "parse"), (0, u "(Ljava/lang/String;)J"), (2, .long 9223372036854775807), (1, .long 1000000000000000000), (1, .methodref 12 42), (0, .nameAndType 43 44), (0, u "dg"), (0, u "(JJ)C"), (0, .long 100000000000000000), (1, .long 10000000000000000), (1, .long 1000000000000000), (1, .long 100000000000000), (1, .long 10000000000000), (1, .long 1000000000000), (1, .long 100000000000), (1, .long 10000000000), (1, .long 1000000000), (1, .long 100000000), (1, .long 10000000), (1, .long 1000000), (1, .long 100000), (1, .long 10000), (1, .long 1000), (1, .long 9223372036854775), (1, .long 807), (4, u "law"), (0, u "(IIIIJ)Z")] 4

def k1m0 : Method := { name := "<init>", desc := "()V", sig := { parameters := [], returnType := none }, accessFlags := 2, code := none }
def k1c1 : Code := { maxStack := 2, maxLocals := 1, code := method_2_code, exceptionTable := #[], attributes := #[] }
def k1m1 : Method := { name := "isDig", desc := "(C)Z", sig := { parameters := [.char], returnType := some .boolean }, accessFlags := 10, code := some k1c1 }
def k1c2 : Code := { maxStack := 5, maxLocals := 4, code := method_3_code, exceptionTable := #[], attributes := #[] }
def k1m2 : Method := { name := "dg", desc := "(JJ)C", sig := { parameters := [.long, .long], returnType := some .char }, accessFlags := 10, code := some k1c2 }
def k1c3 : Code := { maxStack := 6, maxLocals := 4, code := method_4_code, exceptionTable := #[], attributes := #[] }
def k1m3 : Method := { name := "shortExpected", desc := "(ICCC)J", sig := { parameters := [.int, .char, .char, .char], returnType := some .long }, accessFlags := 10, code := some k1c3 }
def k1c4 : Code := { maxStack := 7, maxLocals := 16, code := code, exceptionTable := #[], attributes := #[] }
def k1m4 : Method := { name := "law", desc := "(IIIIJ)Z", sig := { parameters := [.int, .int, .int, .int, .long], returnType := some .boolean }, accessFlags := 9, code := some k1c4 }
/-- com/example/hiscore/hiscore/WholeNumberParsePinLaw -/
def k1 : Class := { plain "com/example/hiscore/hiscore/WholeNumberParsePinLaw" (some 0) with
  accessFlags := 49
  interfaces := #[]
  cf := some (fileOf pool1 12 #[] #[{ accessFlags := 2, nameIndex := 5, descriptorIndex := 6, attributes := #[] }, { accessFlags := 10, nameIndex := 15, descriptorIndex := 16, attributes := #[] }, { accessFlags := 10, nameIndex := 43, descriptorIndex := 44, attributes := #[] }, { accessFlags := 10, nameIndex := 22, descriptorIndex := 23, attributes := #[] }, { accessFlags := 9, nameIndex := 82, descriptorIndex := 83, attributes := #[] }] 49 2 #[] #[])
  fields := #[]
  methods := #[k1m0, k1m1, k1m2, k1m3, k1m4]
  instanceTypes := #[]
  staticTypes := #[]
  resolved := Array.replicate 88 none
  statics := none }

def pool2 : Array CpInfo := pool [(1, .class_ 2), (0, u "java/io/Serializable"), (0, .class_ 4), (0, u "java/lang/Object")] 2

/-- java/io/Serializable -/
def k2 : Class := { plain "java/io/Serializable" (some 0) with
  accessFlags := 1537
  interfaces := #[]
  cf := some (fileOf pool2 1 #[] #[] 1537 3 #[] #[])
  fields := #[]
  methods := #[]
  instanceTypes := #[]
  staticTypes := #[]
  resolved := Array.replicate 7 none
  statics := none }

def pool3 : Array CpInfo := pool [(1, .class_ 2), (0, u "java/lang/Comparable"), (0, .class_ 4), (0, u "java/lang/Object")] 7

/-- java/lang/Comparable -/
def k3 : Class := { plain "java/lang/Comparable" (some 0) with
  accessFlags := 1537
  interfaces := #[]
  cf := some (fileOf pool3 1 #[] #[] 1537 3 #[] #[])
  fields := #[]
  methods := #[]
  instanceTypes := #[]
  staticTypes := #[]
  resolved := Array.replicate 12 none
  statics := none }

def pool4 : Array CpInfo := pool [(2, .class_ 4), (1, u "java/lang/CharSequence"), (42, .class_ 48), (0, u "java/lang/CharSequence$1CodePointIterator"), (10, .class_ 60), (0, u "java/lang/CharSequence$1CharIterator"), (5, .class_ 67), (0, u "java/lang/Object")] 63

/-- java/lang/CharSequence -/
def k4 : Class := { plain "java/lang/CharSequence" (some 0) with
  accessFlags := 1537
  interfaces := #[]
  cf := some (fileOf pool4 2 #[.nestMembers #[47, 59]] #[] 1537 66 #[] #[])
  fields := #[]
  methods := #[]
  instanceTypes := #[]
  staticTypes := #[]
  resolved := Array.replicate 131 none
  statics := none }

def pool5 : Array CpInfo := pool [(1, .class_ 2), (0, u "java/lang/constant/Constable"), (0, .class_ 4), (0, u "java/lang/Object")] 6

/-- java/lang/constant/Constable -/
def k5 : Class := { plain "java/lang/constant/Constable" (some 0) with
  accessFlags := 1537
  interfaces := #[]
  cf := some (fileOf pool5 1 #[] #[] 1537 3 #[] #[])
  fields := #[]
  methods := #[]
  instanceTypes := #[]
  staticTypes := #[]
  resolved := Array.replicate 11 none
  statics := none }

def pool6 : Array CpInfo := pool [(1, .class_ 2), (0, u "java/lang/constant/ConstantDesc"), (0, .class_ 4), (0, u "java/lang/Object")] 32

/-- java/lang/constant/ConstantDesc -/
def k6 : Class := { plain "java/lang/constant/ConstantDesc" (some 0) with
  accessFlags := 1537
  interfaces := #[]
  cf := some (fileOf pool6 1 #[] #[] 1537 3 #[] #[])
  fields := #[]
  methods := #[]
  instanceTypes := #[]
  staticTypes := #[]
  resolved := Array.replicate 37 none
  statics := none }

def pool7 : Array CpInfo := pool [(1, .methodref 2 3), (0, .class_ 4), (0, .nameAndType 5 6), (0, u "java/lang/Object"), (0, u "<init>"), (0, u "()V"), (0, .string 8), (0, u ""), (0, .fieldref 10 11), (0, .class_ 12), (0, .nameAndType 13 14), (0, u "java/lang/String"), (0, u "value"), (0, u "[B"), (0, .fieldref 10 16), (0, .nameAndType 17 18), (0, u "coder"), (0, u "B"), (2, u "hash"), (0, u "I"), (2, u "hashIsZero"), (0, u "Z"), (0, .methodref 10 28), (0, .nameAndType 5 29), (0, u "([CIILjava/lang/Void;)V"), (8, .fieldref 10 39), (0, .nameAndType 40 26), (0, u "COMPACT_STRINGS"), (1, .class_ 44), (1, u "java/lang/StringUTF16"), (0, u "compress"), (1, .methodref 42 48), (0, .nameAndType 49 50), (0, u "coderFromArrayLen"), (0, u "([BI)B"), (56, .class_ 109), (1, u "java/lang/StringLatin1"), (32, u "()Z"), (34, .methodref 42 178), (0, .nameAndType 45 179), (0, u "([CII)[B"), (154, u "()I"), (0, .methodref 10 336), (0, .nameAndType 17 337), (0, u "()B"), (25, u "([BI)C"), (27, u "(II)V"), (35, u "(I)C"), (64, .methodref 10 493), (0, .nameAndType 494 142), (0, u "isLatin1"), (0, .methodref 107 496), (0, .nameAndType 497 363), (0, u "charAt"), (0, .methodref 42 496), (2, u "checkIndex"), (5, u "length"), (67, .class_ 576), (0, u "java/lang/CharSequence"), (22, u "CASE_INSENSITIVE_ORDER"), (0, u "Ljava/util/Comparator;"), (91, u "isEmpty"), (317, u "([C)V"), (42, .fieldref 1054 1055), (0, .class_ 1056), (0, .nameAndType 1057 1058), (0, u "jdk/internal/util/Preconditions"), (0, u "SIOOBE_FORMATTER"), (0, u "Ljava/util/function/BiFunction;"), (0, .methodref 1054 1060), (0, .nameAndType 501 1061), (0, u "(IILjava/util/function/BiFunction;)I"), (39, u "serialPersistentFields"), (0, u "[Ljava/io/ObjectStreamField;"), (0, .class_ 1104), (0, u "java/lang/String$CaseInsensitiveComparator"), (1, .class_ 1107), (0, u "java/io/Serializable"), (0, .class_ 1109), (0, u "java/lang/Comparable"), (0, .class_ 1111), (0, u "java/lang/constant/Constable"), (0, .class_ 1113), (0, u "java/lang/constant/ConstantDesc"), (2, u "serialVersionUID"), (0, u "J"), (3, u "REPL"), (0, u "C"), (2, u "LATIN1"), (1, u "UTF16")] 323

def k7m0 : Method := { name := "<init>", desc := "()V", sig := { parameters := [], returnType := none }, accessFlags := 1, code := none }
def k7c1 : Code := { maxStack := 5, maxLocals := 2, code := jdk_42_method_3_code, exceptionTable := #[], attributes := #[] }
def k7m1 : Method := { name := "<init>", desc := "([C)V", sig := { parameters := [(.array .char)], returnType := none }, accessFlags := 1, code := some k7c1 }
def k7c2 : Code := { maxStack := 2, maxLocals := 1, code := jdk_42_method_54_code, exceptionTable := #[], attributes := #[] }
def k7m2 : Method := { name := "length", desc := "()I", sig := { parameters := [], returnType := some .int }, accessFlags := 1, code := some k7c2 }
def k7c3 : Code := { maxStack := 1, maxLocals := 1, code := jdk_42_method_55_code, exceptionTable := #[], attributes := #[] }
def k7m3 : Method := { name := "isEmpty", desc := "()Z", sig := { parameters := [], returnType := some .boolean }, accessFlags := 1, code := some k7c3 }
def k7c4 : Code := { maxStack := 2, maxLocals := 2, code := jdk_42_method_56_code, exceptionTable := #[], attributes := #[] }
def k7m4 : Method := { name := "charAt", desc := "(I)C", sig := { parameters := [.int], returnType := some .char }, accessFlags := 1, code := some k7c4 }
def k7c5 : Code := { maxStack := 4, maxLocals := 6, code := jdk_42_method_149_code, exceptionTable := #[], attributes := #[] }
def k7m5 : Method := { name := "<init>", desc := "([CIILjava/lang/Void;)V", sig := { parameters := [(.array .char), .int, .int, (.object "java/lang/Void")], returnType := none }, accessFlags := 2, code := some k7c5 }
def k7c6 : Code := { maxStack := 1, maxLocals := 1, code := jdk_42_method_152_code, exceptionTable := #[], attributes := #[] }
def k7m6 : Method := { name := "coder", desc := "()B", sig := { parameters := [], returnType := some .byte }, accessFlags := 0, code := some k7c6 }
def k7c7 : Code := { maxStack := 1, maxLocals := 1, code := jdk_42_method_154_code, exceptionTable := #[], attributes := #[] }
def k7m7 : Method := { name := "isLatin1", desc := "()Z", sig := { parameters := [], returnType := some .boolean }, accessFlags := 0, code := some k7c7 }
def k7c8 : Code := { maxStack := 3, maxLocals := 2, code := jdk_42_method_155_code, exceptionTable := #[], attributes := #[] }
def k7m8 : Method := { name := "checkIndex", desc := "(II)V", sig := { parameters := [.int, .int], returnType := none }, accessFlags := 8, code := some k7c8 }
/-- java/lang/String -/
def k7 : Class := { plain "java/lang/String" (some 0) with
  accessFlags := 49
  interfaces := #[2, 3, 4, 5, 6]
  cf := some (fileOf pool7 10 #[.nestMembers #[1103]] #[{ accessFlags := 1, nameIndex := 5, descriptorIndex := 6, attributes := #[] }, { accessFlags := 1, nameIndex := 5, descriptorIndex := 1010, attributes := #[] }, { accessFlags := 1, nameIndex := 507, descriptorIndex := 334, attributes := #[] }, { accessFlags := 1, nameIndex := 692, descriptorIndex := 142, attributes := #[] }, { accessFlags := 1, nameIndex := 497, descriptorIndex := 427, attributes := #[] }, { accessFlags := 2, nameIndex := 5, descriptorIndex := 29, attributes := #[] }, { accessFlags := 0, nameIndex := 17, descriptorIndex := 337, attributes := #[] }, { accessFlags := 0, nameIndex := 494, descriptorIndex := 142, attributes := #[] }, { accessFlags := 8, nameIndex := 501, descriptorIndex := 391, attributes := #[] }] 49 2 #[1106, 1108, 575, 1110, 1112] #[{ accessFlags := 18, nameIndex := 13, descriptorIndex := 14, attributes := #[] }, { accessFlags := 18, nameIndex := 17, descriptorIndex := 18, attributes := #[] }, { accessFlags := 2, nameIndex := 21, descriptorIndex := 22, attributes := #[] }, { accessFlags := 2, nameIndex := 25, descriptorIndex := 26, attributes := #[] }, { accessFlags := 26, nameIndex := 1116, descriptorIndex := 1117, attributes := #[] }, { accessFlags := 24, nameIndex := 40, descriptorIndex := 26, attributes := #[] }, { accessFlags := 26, nameIndex := 1101, descriptorIndex := 1102, attributes := #[] }, { accessFlags := 26, nameIndex := 1121, descriptorIndex := 1122, attributes := #[] }, { accessFlags := 25, nameIndex := 599, descriptorIndex := 600, attributes := #[] }, { accessFlags := 24, nameIndex := 1125, descriptorIndex := 18, attributes := #[] }, { accessFlags := 24, nameIndex := 1127, descriptorIndex := 18, attributes := #[] }])
  fields := #[{ name := "value", type := (.array .byte), accessFlags := 18, slot := 0, constantValue := 0 }, { name := "coder", type := .byte, accessFlags := 18, slot := 1, constantValue := 0 }, { name := "hash", type := .int, accessFlags := 2, slot := 2, constantValue := 0 }, { name := "hashIsZero", type := .boolean, accessFlags := 2, slot := 3, constantValue := 0 }, { name := "serialVersionUID", type := .long, accessFlags := 26, slot := 0, constantValue := 0 }, { name := "COMPACT_STRINGS", type := .boolean, accessFlags := 24, slot := 1, constantValue := 0 }, { name := "serialPersistentFields", type := (.array (.object "java/io/ObjectStreamField")), accessFlags := 26, slot := 2, constantValue := 0 }, { name := "REPL", type := .char, accessFlags := 26, slot := 3, constantValue := 0 }, { name := "CASE_INSENSITIVE_ORDER", type := (.object "java/util/Comparator"), accessFlags := 25, slot := 4, constantValue := 0 }, { name := "LATIN1", type := .byte, accessFlags := 24, slot := 5, constantValue := 0 }, { name := "UTF16", type := .byte, accessFlags := 24, slot := 6, constantValue := 0 }]
  methods := #[k7m0, k7m1, k7m2, k7m3, k7m4, k7m5, k7m6, k7m7, k7m8]
  instanceTypes := #[(.array .byte), .byte, .int, .boolean]
  staticTypes := #[.long, .boolean, (.array (.object "java/io/ObjectStreamField")), .char, (.object "java/util/Comparator"), .byte, .byte]
  resolved := Array.replicate 1451 none
  statics := some 0 }

def pool8 : Array CpInfo := pool [(2, .class_ 4), (1, u "java/lang/Object"), (0, u "<init>"), (0, u "()V"), (0, .methodref 8 9), (0, .class_ 10), (0, .nameAndType 11 12), (0, u "java/lang/String"), (0, u "isEmpty"), (0, u "()Z"), (0, .long 18446744073709551615), (1, .methodref 8 16), (0, .nameAndType 17 18), (0, u "length"), (0, u "()I"), (0, .methodref 8 20), (0, .nameAndType 21 22), (0, u "charAt"), (0, u "(I)C"), (2, .long 9223372036854775807), (1, .long 10), (1, .class_ 30), (0, u "com/example/hiscore/hiscore/WholeNumber"), (2, u "parse"), (0, u "(Ljava/lang/String;)J")] 3

def k8m0 : Method := { name := "<init>", desc := "()V", sig := { parameters := [], returnType := none }, accessFlags := 2, code := none }
def k8c1 : Code := { maxStack := 6, maxLocals := 5, code := prog_13_method_2_code, exceptionTable := #[], attributes := #[] }
def k8m1 : Method := { name := "parse", desc := "(Ljava/lang/String;)J", sig := { parameters := [(.object "java/lang/String")], returnType := some .long }, accessFlags := 8, code := some k8c1 }
/-- com/example/hiscore/hiscore/WholeNumber -/
def k8 : Class := { plain "com/example/hiscore/hiscore/WholeNumber" (some 0) with
  accessFlags := 32
  interfaces := #[]
  cf := some (fileOf pool8 29 #[] #[{ accessFlags := 2, nameIndex := 5, descriptorIndex := 6, attributes := #[] }, { accessFlags := 8, nameIndex := 33, descriptorIndex := 34, attributes := #[] }] 32 2 #[] #[])
  fields := #[]
  methods := #[k8m0, k8m1]
  instanceTypes := #[]
  staticTypes := #[]
  resolved := Array.replicate 38 none
  statics := none }

def pool9 : Array CpInfo := pool [(3, .class_ 4), (0, u "java/lang/String"), (1, .class_ 8), (1, u "java/lang/Object"), (0, u "<init>"), (0, u "()V"), (0, .methodref 12 13), (0, .class_ 14), (0, .nameAndType 15 16), (0, u "java/lang/StringUTF16"), (0, u "newBytesLength"), (0, u "(I)I"), (3, .integer 1073741823), (23, .fieldref 12 45), (0, .nameAndType 46 47), (0, u "$assertionsDisabled"), (0, u "Z"), (0, .methodref 12 49), (0, .nameAndType 50 51), (0, u "length"), (0, u "([B)I"), (7, .fieldref 12 60), (0, .nameAndType 61 62), (0, u "HI_BYTE_SHIFT"), (0, u "I"), (0, .fieldref 12 64), (0, .nameAndType 65 62), (0, u "LO_BYTE_SHIFT"), (1, .methodref 12 68), (0, .nameAndType 69 70), (0, u "checkIndex"), (0, u "(I[B)V"), (0, .methodref 12 72), (0, .nameAndType 73 74), (0, u "getChar"), (0, u "([BI)C"), (32, .methodref 12 108), (0, .nameAndType 109 110), (0, u "newBytesFor"), (0, u "(I)[B"), (0, .methodref 12 112), (0, .nameAndType 113 114), (0, u "putChar"), (0, u "([BII)V"), (0, .methodref 12 116), (0, .nameAndType 117 118), (0, u "compress"), (0, u "([CI[BII)I"), (0, .methodref 12 120), (0, .nameAndType 121 122), (0, u "toBytes"), (0, u "([CII)[B"), (138, u "coderFromArrayLen"), (0, u "([BI)B"), (106, .class_ 371), (1, u "java/lang/StringUTF16$LinesSpliterator"), (20, u "charAt"), (21, .methodref 3 415), (0, .nameAndType 69 416), (0, u "(II)V"), (13, u "MAX_LENGTH"), (196, .class_ 628), (0, u "java/lang/StringUTF16$CodePointsSpliterator"), (0, .class_ 630), (0, u "java/lang/StringUTF16$CharsSpliterator")] 4

def k9m0 : Method := { name := "<init>", desc := "()V", sig := { parameters := [], returnType := none }, accessFlags := 0, code := none }
def k9c1 : Code := { maxStack := 1, maxLocals := 1, code := jdk_52_method_2_code, exceptionTable := #[], attributes := #[] }
def k9m1 : Method := { name := "newBytesFor", desc := "(I)[B", sig := { parameters := [.int], returnType := some (.array .byte) }, accessFlags := 9, code := some k9c1 }
def k9c2 : Code := { maxStack := 4, maxLocals := 1, code := jdk_52_method_3_code, exceptionTable := #[], attributes := #[] }
def k9m2 : Method := { name := "newBytesLength", desc := "(I)I", sig := { parameters := [.int], returnType := some .int }, accessFlags := 9, code := some k9c2 }
def k9c3 : Code := { maxStack := 4, maxLocals := 3, code := jdk_52_method_4_code, exceptionTable := #[], attributes := #[] }
def k9m3 : Method := { name := "putChar", desc := "([BII)V", sig := { parameters := [(.array .byte), .int, .int], returnType := none }, accessFlags := 8, code := some k9c3 }
def k9c4 : Code := { maxStack := 3, maxLocals := 2, code := jdk_52_method_5_code, exceptionTable := #[], attributes := #[] }
def k9m4 : Method := { name := "getChar", desc := "([BI)C", sig := { parameters := [(.array .byte), .int], returnType := some .char }, accessFlags := 8, code := some k9c4 }
def k9c5 : Code := { maxStack := 2, maxLocals := 1, code := jdk_52_method_6_code, exceptionTable := #[], attributes := #[] }
def k9m5 : Method := { name := "length", desc := "([B)I", sig := { parameters := [(.array .byte)], returnType := some .int }, accessFlags := 9, code := some k9c5 }
def k9c6 : Code := { maxStack := 4, maxLocals := 5, code := jdk_52_method_14_code, exceptionTable := #[], attributes := #[] }
def k9m6 : Method := { name := "toBytes", desc := "([CII)[B", sig := { parameters := [(.array .char), .int, .int], returnType := some (.array .byte) }, accessFlags := 9, code := some k9c6 }
def k9c7 : Code := { maxStack := 2, maxLocals := 2, code := jdk_52_method_15_code, exceptionTable := #[], attributes := #[] }
def k9m7 : Method := { name := "coderFromArrayLen", desc := "([BI)B", sig := { parameters := [(.array .byte), .int], returnType := some .byte }, accessFlags := 8, code := some k9c7 }
def k9c8 : Code := { maxStack := 5, maxLocals := 6, code := jdk_52_method_16_code, exceptionTable := #[], attributes := #[] }
def k9m8 : Method := { name := "compress", desc := "([CII)[B", sig := { parameters := [(.array .char), .int, .int], returnType := some (.array .byte) }, accessFlags := 9, code := some k9c8 }
def k9c9 : Code := { maxStack := 3, maxLocals := 7, code := jdk_52_method_21_code, exceptionTable := #[], attributes := #[] }
def k9m9 : Method := { name := "compress", desc := "([CI[BII)I", sig := { parameters := [(.array .char), .int, (.array .byte), .int, .int], returnType := some .int }, accessFlags := 9, code := some k9c9 }
def k9c10 : Code := { maxStack := 2, maxLocals := 2, code := jdk_52_method_83_code, exceptionTable := #[], attributes := #[] }
def k9m10 : Method := { name := "charAt", desc := "([BI)C", sig := { parameters := [(.array .byte), .int], returnType := some .char }, accessFlags := 9, code := some k9c10 }
def k9c11 : Code := { maxStack := 2, maxLocals := 2, code := jdk_52_method_91_code, exceptionTable := #[], attributes := #[] }
def k9m11 : Method := { name := "checkIndex", desc := "(I[B)V", sig := { parameters := [.int, (.array .byte)], returnType := none }, accessFlags := 9, code := some k9c11 }
/-- java/lang/StringUTF16 -/
def k9 : Class := { plain "java/lang/StringUTF16" (some 0) with
  accessFlags := 48
  interfaces := #[]
  cf := some (fileOf pool9 12 #[.nestMembers #[627, 629, 369]] #[{ accessFlags := 0, nameIndex := 9, descriptorIndex := 10, attributes := #[] }, { accessFlags := 9, nameIndex := 109, descriptorIndex := 110, attributes := #[] }, { accessFlags := 9, nameIndex := 15, descriptorIndex := 16, attributes := #[] }, { accessFlags := 8, nameIndex := 113, descriptorIndex := 114, attributes := #[] }, { accessFlags := 8, nameIndex := 73, descriptorIndex := 74, attributes := #[] }, { accessFlags := 9, nameIndex := 50, descriptorIndex := 51, attributes := #[] }, { accessFlags := 9, nameIndex := 121, descriptorIndex := 122, attributes := #[] }, { accessFlags := 8, nameIndex := 261, descriptorIndex := 262, attributes := #[] }, { accessFlags := 9, nameIndex := 117, descriptorIndex := 122, attributes := #[] }, { accessFlags := 9, nameIndex := 117, descriptorIndex := 118, attributes := #[] }, { accessFlags := 9, nameIndex := 392, descriptorIndex := 74, attributes := #[] }, { accessFlags := 9, nameIndex := 69, descriptorIndex := 70, attributes := #[] }] 48 6 #[] #[{ accessFlags := 26, nameIndex := 61, descriptorIndex := 62, attributes := #[] }, { accessFlags := 26, nameIndex := 65, descriptorIndex := 62, attributes := #[] }, { accessFlags := 24, nameIndex := 430, descriptorIndex := 62, attributes := #[] }, { accessFlags := 4120, nameIndex := 46, descriptorIndex := 47, attributes := #[] }])
  fields := #[{ name := "HI_BYTE_SHIFT", type := .int, accessFlags := 26, slot := 0, constantValue := 0 }, { name := "LO_BYTE_SHIFT", type := .int, accessFlags := 26, slot := 1, constantValue := 0 }, { name := "MAX_LENGTH", type := .int, accessFlags := 24, slot := 2, constantValue := 0 }, { name := "$assertionsDisabled", type := .boolean, accessFlags := 4120, slot := 3, constantValue := 0 }]
  methods := #[k9m0, k9m1, k9m2, k9m3, k9m4, k9m5, k9m6, k9m7, k9m8, k9m9, k9m10, k9m11]
  instanceTypes := #[]
  staticTypes := #[.int, .int, .int, .boolean]
  resolved := Array.replicate 635 none
  statics := some 1 }

def pool10 : Array CpInfo := pool [(1, .class_ 2), (0, u "java/lang/String"), (1, .class_ 6), (1, u "java/lang/Object"), (0, u "<init>"), (0, u "()V"), (0, .methodref 1 10), (0, .nameAndType 11 12), (0, u "checkIndex"), (0, u "(II)V"), (1, .class_ 16), (1, u "java/lang/StringLatin1"), (36, u "([BI)C"), (67, u "$assertionsDisabled"), (0, u "Z"), (98, .class_ 223), (1, u "java/lang/StringLatin1$LinesSpliterator"), (28, u "charAt"), (137, .class_ 391), (0, u "java/lang/StringLatin1$CharsSpliterator")] 3

def k10m0 : Method := { name := "<init>", desc := "()V", sig := { parameters := [], returnType := none }, accessFlags := 0, code := none }
def k10c1 : Code := { maxStack := 2, maxLocals := 2, code := jdk_43_method_2_code, exceptionTable := #[], attributes := #[] }
def k10m1 : Method := { name := "charAt", desc := "([BI)C", sig := { parameters := [(.array .byte), .int], returnType := some .char }, accessFlags := 9, code := some k10c1 }
/-- java/lang/StringLatin1 -/
def k10 : Class := { plain "java/lang/StringLatin1" (some 0) with
  accessFlags := 48
  interfaces := #[]
  cf := some (fileOf pool10 14 #[.nestMembers #[390, 221]] #[{ accessFlags := 0, nameIndex := 7, descriptorIndex := 8, attributes := #[] }, { accessFlags := 9, nameIndex := 252, descriptorIndex := 53, attributes := #[] }] 48 4 #[] #[{ accessFlags := 4120, nameIndex := 121, descriptorIndex := 122, attributes := #[] }])
  fields := #[{ name := "$assertionsDisabled", type := .boolean, accessFlags := 4120, slot := 0, constantValue := 0 }]
  methods := #[k10m0, k10m1]
  instanceTypes := #[]
  staticTypes := #[.boolean]
  resolved := Array.replicate 395 none
  statics := none }

def pool11 : Array CpInfo := pool [(2, .class_ 4), (1, u "java/lang/Object"), (0, u "<init>"), (0, u "()V"), (17, .class_ 26), (1, u "jdk/internal/util/Preconditions"), (6, u "checkIndex"), (21, .class_ 56), (0, u "jdk/internal/util/Preconditions$4"), (57, .class_ 115), (0, u "jdk/internal/util/Preconditions$1"), (7, u "SIOOBE_FORMATTER"), (0, u "Ljava/util/function/BiFunction;"), (0, .class_ 126), (0, u "jdk/internal/util/Preconditions$2"), (3, u "AIOOBE_FORMATTER"), (0, .class_ 132), (0, u "jdk/internal/util/Preconditions$3"), (3, u "IOOBE_FORMATTER"), (41, u "(IILjava/util/function/BiFunction;)I")] 15

def k11m0 : Method := { name := "<init>", desc := "()V", sig := { parameters := [], returnType := none }, accessFlags := 1, code := none }
def k11c1 : Code := { maxStack := 3, maxLocals := 3, code := jdk_41_method_11_code, exceptionTable := #[], attributes := #[] }
def k11m1 : Method := { name := "checkIndex", desc := "(IILjava/util/function/BiFunction;)I", sig := { parameters := [.int, .int, (.object "java/util/function/BiFunction")], returnType := some .int }, accessFlags := 9, code := some k11c1 }
/-- jdk/internal/util/Preconditions -/
def k11 : Class := { plain "jdk/internal/util/Preconditions" (some 0) with
  accessFlags := 33
  interfaces := #[]
  cf := some (fileOf pool11 24 #[.nestMembers #[55, 131, 125, 114]] #[{ accessFlags := 1, nameIndex := 5, descriptorIndex := 6, attributes := #[] }, { accessFlags := 9, nameIndex := 33, descriptorIndex := 178, attributes := #[] }] 33 2 #[] #[{ accessFlags := 25, nameIndex := 123, descriptorIndex := 124, attributes := #[] }, { accessFlags := 25, nameIndex := 130, descriptorIndex := 124, attributes := #[] }, { accessFlags := 25, nameIndex := 136, descriptorIndex := 124, attributes := #[] }])
  fields := #[{ name := "SIOOBE_FORMATTER", type := (.object "java/util/function/BiFunction"), accessFlags := 25, slot := 0, constantValue := 0 }, { name := "AIOOBE_FORMATTER", type := (.object "java/util/function/BiFunction"), accessFlags := 25, slot := 1, constantValue := 0 }, { name := "IOOBE_FORMATTER", type := (.object "java/util/function/BiFunction"), accessFlags := 25, slot := 2, constantValue := 0 }]
  methods := #[k11m0, k11m1]
  instanceTypes := #[]
  staticTypes := #[(.object "java/util/function/BiFunction"), (.object "java/util/function/BiFunction"), (.object "java/util/function/BiFunction")]
  resolved := Array.replicate 194 none
  statics := some 2 }

def pool12 : Array CpInfo := pool [(9, u "<init>"), (6, .class_ 18), (1, u "java/lang/Object"), (0, u "()V"), (1, .class_ 23), (1, u "jdk/internal/util/ArraysSupport"), (0, u "LOG2_ARRAY_LONG_INDEX_SCALE"), (0, u "I"), (2, u "U"), (0, u "Ljdk/internal/misc/Unsafe;"), (8, u "BIG_ENDIAN"), (0, u "Z"), (8, u "LOG2_BYTE_BIT_SIZE"), (4, u "LOG2_ARRAY_INT_INDEX_SCALE"), (54, u "JLA"), (0, u "Ljdk/internal/access/JavaLangAccess;"), (11, u "LOG2_ARRAY_BOOLEAN_INDEX_SCALE"), (9, u "LOG2_ARRAY_BYTE_INDEX_SCALE"), (5, u "LOG2_ARRAY_CHAR_INDEX_SCALE"), (5, u "LOG2_ARRAY_SHORT_INDEX_SCALE"), (18, u "LOG2_ARRAY_FLOAT_INDEX_SCALE"), (24, u "LOG2_ARRAY_DOUBLE_INDEX_SCALE"), (89, u "T_BOOLEAN"), (2, u "T_CHAR"), (1, u "T_FLOAT"), (1, u "T_DOUBLE"), (1, u "T_BYTE"), (1, u "T_SHORT"), (1, u "T_INT"), (1, u "T_LONG"), (1, u "SOFT_MAX_ARRAY_LENGTH")] 83

def k12m0 : Method := { name := "<init>", desc := "()V", sig := { parameters := [], returnType := none }, accessFlags := 2, code := none }
/-- jdk/internal/util/ArraysSupport -/
def k12 : Class := { plain "jdk/internal/util/ArraysSupport" (some 0) with
  accessFlags := 33
  interfaces := #[]
  cf := some (fileOf pool12 21 #[] #[{ accessFlags := 2, nameIndex := 9, descriptorIndex := 19, attributes := #[] }] 33 16 #[] #[{ accessFlags := 24, nameIndex := 28, descriptorIndex := 29, attributes := #[] }, { accessFlags := 26, nameIndex := 38, descriptorIndex := 39, attributes := #[] }, { accessFlags := 25, nameIndex := 121, descriptorIndex := 25, attributes := #[] }, { accessFlags := 25, nameIndex := 131, descriptorIndex := 25, attributes := #[] }, { accessFlags := 25, nameIndex := 137, descriptorIndex := 25, attributes := #[] }, { accessFlags := 25, nameIndex := 143, descriptorIndex := 25, attributes := #[] }, { accessFlags := 25, nameIndex := 53, descriptorIndex := 25, attributes := #[] }, { accessFlags := 25, nameIndex := 24, descriptorIndex := 25, attributes := #[] }, { accessFlags := 25, nameIndex := 162, descriptorIndex := 25, attributes := #[] }, { accessFlags := 25, nameIndex := 187, descriptorIndex := 25, attributes := #[] }, { accessFlags := 26, nameIndex := 48, descriptorIndex := 25, attributes := #[] }, { accessFlags := 25, nameIndex := 277, descriptorIndex := 25, attributes := #[] }, { accessFlags := 25, nameIndex := 280, descriptorIndex := 25, attributes := #[] }, { accessFlags := 25, nameIndex := 282, descriptorIndex := 25, attributes := #[] }, { accessFlags := 25, nameIndex := 284, descriptorIndex := 25, attributes := #[] }, { accessFlags := 25, nameIndex := 286, descriptorIndex := 25, attributes := #[] }, { accessFlags := 25, nameIndex := 288, descriptorIndex := 25, attributes := #[] }, { accessFlags := 25, nameIndex := 290, descriptorIndex := 25, attributes := #[] }, { accessFlags := 25, nameIndex := 292, descriptorIndex := 25, attributes := #[] }, { accessFlags := 26, nameIndex := 108, descriptorIndex := 109, attributes := #[] }, { accessFlags := 25, nameIndex := 294, descriptorIndex := 25, attributes := #[] }])
  fields := #[{ name := "U", type := (.object "jdk/internal/misc/Unsafe"), accessFlags := 24, slot := 0, constantValue := 0 }, { name := "BIG_ENDIAN", type := .boolean, accessFlags := 26, slot := 1, constantValue := 0 }, { name := "LOG2_ARRAY_BOOLEAN_INDEX_SCALE", type := .int, accessFlags := 25, slot := 2, constantValue := 0 }, { name := "LOG2_ARRAY_BYTE_INDEX_SCALE", type := .int, accessFlags := 25, slot := 3, constantValue := 0 }, { name := "LOG2_ARRAY_CHAR_INDEX_SCALE", type := .int, accessFlags := 25, slot := 4, constantValue := 0 }, { name := "LOG2_ARRAY_SHORT_INDEX_SCALE", type := .int, accessFlags := 25, slot := 5, constantValue := 0 }, { name := "LOG2_ARRAY_INT_INDEX_SCALE", type := .int, accessFlags := 25, slot := 6, constantValue := 0 }, { name := "LOG2_ARRAY_LONG_INDEX_SCALE", type := .int, accessFlags := 25, slot := 7, constantValue := 0 }, { name := "LOG2_ARRAY_FLOAT_INDEX_SCALE", type := .int, accessFlags := 25, slot := 8, constantValue := 0 }, { name := "LOG2_ARRAY_DOUBLE_INDEX_SCALE", type := .int, accessFlags := 25, slot := 9, constantValue := 0 }, { name := "LOG2_BYTE_BIT_SIZE", type := .int, accessFlags := 26, slot := 10, constantValue := 0 }, { name := "T_BOOLEAN", type := .int, accessFlags := 25, slot := 11, constantValue := 0 }, { name := "T_CHAR", type := .int, accessFlags := 25, slot := 12, constantValue := 0 }, { name := "T_FLOAT", type := .int, accessFlags := 25, slot := 13, constantValue := 0 }, { name := "T_DOUBLE", type := .int, accessFlags := 25, slot := 14, constantValue := 0 }, { name := "T_BYTE", type := .int, accessFlags := 25, slot := 15, constantValue := 0 }, { name := "T_SHORT", type := .int, accessFlags := 25, slot := 16, constantValue := 0 }, { name := "T_INT", type := .int, accessFlags := 25, slot := 17, constantValue := 0 }, { name := "T_LONG", type := .int, accessFlags := 25, slot := 18, constantValue := 0 }, { name := "JLA", type := (.object "jdk/internal/access/JavaLangAccess"), accessFlags := 26, slot := 19, constantValue := 0 }, { name := "SOFT_MAX_ARRAY_LENGTH", type := .int, accessFlags := 25, slot := 20, constantValue := 0 }]
  methods := #[k12m0]
  instanceTypes := #[]
  staticTypes := #[(.object "jdk/internal/misc/Unsafe"), .boolean, .int, .int, .int, .int, .int, .int, .int, .int, .int, .int, .int, .int, .int, .int, .int, .int, .int, (.object "jdk/internal/access/JavaLangAccess"), .int]
  resolved := Array.replicate 378 none
  statics := none }

def pool13 : Array CpInfo := pool [(1, u "java/lang/Cloneable"), (0, .class_ 1), (0, u "java/lang/Object"), (0, .class_ 3)] 3

/-- java/lang/Cloneable -/
def k13 : Class := { plain "java/lang/Cloneable" (some 0) with
  accessFlags := 1537
  interfaces := #[]
  cf := some (fileOf pool13 2 #[] #[] 1537 4 #[] #[])
  fields := #[]
  methods := #[]
  instanceTypes := #[]
  staticTypes := #[]
  resolved := Array.replicate 8 none
  statics := none }

/-- the primitive byte -/
def k14 : Class := { plain "byte" none with kind := .primitive 'B', accessFlags := 0x411 }
/-- [B -/
def k15 : Class := { plain "[B" (some 0) with kind := .array 14 .byte, interfaces := #[13, 2], accessFlags := 1041 }

/-- the primitive char -/
def k16 : Class := { plain "char" none with kind := .primitive 'C', accessFlags := 0x411 }
/-- [C -/
def k17 : Class := { plain "[C" (some 0) with kind := .array 16 .char, interfaces := #[13, 2], accessFlags := 1041 }

/-- the primitive int -/
def k18 : Class := { plain "int" none with kind := .primitive 'I', accessFlags := 0x411 }
/-- [I -/
def k19 : Class := { plain "[I" (some 0) with kind := .array 18 .int, interfaces := #[13, 2], accessFlags := 1041 }

def heap : Heap := #[{ cls := 7, slots := #[.long 0, .int 1, .null, .int 0, .null, .int 0, .int 0], vm := .statics 7 },
  { cls := 9, slots := #[.int 0, .int 8, .int 0, .int 1], vm := .statics 9 },
  { cls := 11, slots := #[.null, .null, .null], vm := .statics 11 }]
def classes : Array Class := #[k0, k1, k2, k3, k4, k5, k6, k7, k8, k9, k10, k11, k12, k13, k14, k15, k16, k17, k18, k19]
def interned : List (Array UInt16 × Addr) := []
def slotsUsed : Nat := 14
def theMethod : MethodId := ⟨1, 4⟩
def args0 : Array Value := #[.int 3, .int 52, .int 50, .int 49, .long 7]
def aboutOver (below : List Frame) : State where
  vm := { classes := classes, interned := interned.toArray }
  heap := heap
  slotsUsed := slotsUsed
  threads := #[{ frames := .invoking theMethod args0 :: below }]
def below0 : List Frame := [.native { method := ⟨0, 0⟩, args := #[] }]
def about1 : State := aboutOver below0
def p0 : Program := .bare "" "" ""
def e0 : Env := launch0.env 0 0 0
theorem w_frames : about1.frames = Frame.invoking theMethod args0 :: below0 := rfl
set_option maxRecDepth 65536 in
theorem w_args : argsFit about1.vm theMethod args0 = true := by decide +kernel
set_option maxRecDepth 65536 in
theorem w_heap : heapFits about1 = true := by decide +kernel
set_option maxRecDepth 65536 in
theorem w_runnable : about1.curStatus? = some .runnable := by decide +kernel
set_option maxRecDepth 65536 in
theorem w_alone : about1.alone = true := by decide +kernel
set_option maxRecDepth 65536 in
theorem w_named : about1.methodNamed? x = some theMethod := by decide +kernel
set_option maxRecDepth 65536 in
theorem w_hears : about1.hears theMethod below0 = true := by decide +kernel
set_option maxRecDepth 65536 in
theorem w_ripe : about1.ripe theMethod args0 below0 = true := by decide +kernel
theorem w_running : about1.status = .running := rfl
set_option maxRecDepth 65536 in
theorem w_room : about1.hasRoom e0.platform room_1 = true :=
  launch0.hasRoom_least _ room_1 (by decide +kernel) (by decide +kernel) (by decide +kernel) (by decide +kernel) (by decide +kernel) (by decide +kernel)
theorem allAtoms_all (ts : List Jvm.Cond) (a : Array Jvm.Value) (st : Jvm.State) : (allAtoms ts).before a st = ts.all (fun c => c.before a st) := by
  induction ts with
  | nil => rfl
  | cons c t ih =>
    show (Jvm.Cond.and c (allAtoms t)).before a st = _
    rw [Jvm.Cond.before_and, ih, List.all_cons]
def words1 : List Jvm.Cond := Jvm.Cond.code x code maxLocals ret :: tables_1
/-- a 'code' word, met by the world's own term for the bytes: nothing is compared byte by byte -/
theorem code_word {y : MethodName} {bytes : ByteArray} {mx : Nat} {rt : Option FieldType} {a : Array Value} {s : State} {m : MethodId} {meth : Method} {c : Code} (h1 : s.methodNamed? y = some m) (h2 : s.vm.method? m = some meth) (h3 : meth.code = some c) (h4 : c.code = bytes)
    (h5 : (c.maxLocals == mx && c.exceptionTable.isEmpty && decide (c.maxStack ≤ mostOperands) && decide (meth.sig.returnType = rt) && !meth.locks && decide (parseMethodDescriptor y.desc = some meth.sig)) = true) : (Jvm.Cond.code y bytes mx rt).before a s = true := by
  simp only [Bool.and_eq_true, beq_iff_eq, Bool.not_eq_true', decide_eq_true_eq] at h5
  obtain ⟨⟨⟨⟨⟨g1, g2⟩, g3⟩, g4⟩, g5⟩, g6⟩ := h5
  simp [Cond.before, Cond.holds, Cond.value, h1, h2, h3, h4, g1, g2, g3, g4, g5, g6]
def isCode : Jvm.Cond → Bool
  | .code _ _ _ _ => true
  | _ => false
theorem all_split {L : List Jvm.Cond} {P : Jvm.Cond → Bool} (h1 : L.all (fun c => isCode c || P c) = true) (h2 : ∀ c ∈ L.filter isCode, P c = true) : L.all P = true := by
  refine List.all_eq_true.mpr fun c hc => ?_
  have h := List.all_eq_true.mp h1 c hc
  rcases Bool.eq_false_or_eq_true (isCode c) with hi | hi
  · exact h2 c (List.mem_filter.mpr ⟨hc, hi⟩)
  · simpa [hi] using h
set_option maxRecDepth 65536 in
theorem w_c0 : (Jvm.Cond.code x code maxLocals ret).before args0 about1 = true := code_word (m := ⟨1, 4⟩) (meth := k1m4) (c := k1c4) (by decide +kernel) rfl rfl rfl (by decide +kernel)
set_option maxRecDepth 65536 in
theorem w_c1 : (Jvm.Cond.code ({ cls := "com/example/hiscore/hiscore/WholeNumberParsePinLaw", name := "shortExpected", desc := "(ICCC)J" } : Jvm.MethodName) method_4_code (4 : Nat) (Option.some Jvm.ClassFile.FieldType.long)).before args0 about1 = true := code_word (m := ⟨1, 3⟩) (meth := k1m3) (c := k1c3) (by decide +kernel) rfl rfl rfl (by decide +kernel)
set_option maxRecDepth 65536 in
theorem w_c2 : (Jvm.Cond.code ({ cls := "java/lang/String", name := "<init>", desc := "([C)V" } : Jvm.MethodName) jdk_42_method_3_code (2 : Nat) (Option.none : Option Jvm.ClassFile.FieldType)).before args0 about1 = true := code_word (m := ⟨7, 1⟩) (meth := k7m1) (c := k7c1) (by decide +kernel) rfl rfl rfl (by decide +kernel)
set_option maxRecDepth 65536 in
theorem w_c3 : (Jvm.Cond.code ({ cls := "java/lang/String", name := "<init>", desc := "([CIILjava/lang/Void;)V" } : Jvm.MethodName) jdk_42_method_149_code (6 : Nat) (Option.none : Option Jvm.ClassFile.FieldType)).before args0 about1 = true := code_word (m := ⟨7, 5⟩) (meth := k7m5) (c := k7c5) (by decide +kernel) rfl rfl rfl (by decide +kernel)
set_option maxRecDepth 65536 in
theorem w_c4 : (Jvm.Cond.code ({ cls := "java/lang/Object", name := "<init>", desc := "()V" } : Jvm.MethodName) object_method_1_code (1 : Nat) (Option.none : Option Jvm.ClassFile.FieldType)).before args0 about1 = true := code_word (m := ⟨0, 0⟩) (meth := k0m0) (c := k0c0) (by decide +kernel) rfl rfl rfl (by decide +kernel)
set_option maxRecDepth 65536 in
theorem w_c5 : (Jvm.Cond.code ({ cls := "com/example/hiscore/hiscore/WholeNumber", name := "parse", desc := "(Ljava/lang/String;)J" } : Jvm.MethodName) prog_13_method_2_code (5 : Nat) (Option.some Jvm.ClassFile.FieldType.long)).before args0 about1 = true := code_word (m := ⟨8, 1⟩) (meth := k8m1) (c := k8c1) (by decide +kernel) rfl rfl rfl (by decide +kernel)
set_option maxRecDepth 65536 in
theorem w_c6 : (Jvm.Cond.code ({ cls := "java/lang/String", name := "isEmpty", desc := "()Z" } : Jvm.MethodName) jdk_42_method_55_code (1 : Nat) (Option.some Jvm.ClassFile.FieldType.boolean)).before args0 about1 = true := code_word (m := ⟨7, 3⟩) (meth := k7m3) (c := k7c3) (by decide +kernel) rfl rfl rfl (by decide +kernel)
set_option maxRecDepth 65536 in
theorem w_c7 : (Jvm.Cond.code ({ cls := "com/example/hiscore/hiscore/WholeNumberParsePinLaw", name := "isDig", desc := "(C)Z" } : Jvm.MethodName) method_2_code (1 : Nat) (Option.some Jvm.ClassFile.FieldType.boolean)).before args0 about1 = true := code_word (m := ⟨1, 1⟩) (meth := k1m1) (c := k1c1) (by decide +kernel) rfl rfl rfl (by decide +kernel)
set_option maxRecDepth 65536 in
theorem w_c8 : (Jvm.Cond.code ({ cls := "java/lang/StringUTF16", name := "compress", desc := "([CII)[B" } : Jvm.MethodName) jdk_52_method_16_code (6 : Nat) (Option.some (Jvm.ClassFile.FieldType.array Jvm.ClassFile.FieldType.byte))).before args0 about1 = true := code_word (m := ⟨9, 8⟩) (meth := k9m8) (c := k9c8) (by decide +kernel) rfl rfl rfl (by decide +kernel)
set_option maxRecDepth 65536 in
theorem w_c9 : (Jvm.Cond.code ({ cls := "java/lang/StringUTF16", name := "compress", desc := "([CI[BII)I" } : Jvm.MethodName) jdk_52_method_21_code (7 : Nat) (Option.some Jvm.ClassFile.FieldType.int)).before args0 about1 = true := code_word (m := ⟨9, 9⟩) (meth := k9m9) (c := k9c9) (by decide +kernel) rfl rfl rfl (by decide +kernel)
set_option maxRecDepth 65536 in
theorem w_c10 : (Jvm.Cond.code ({ cls := "java/lang/StringUTF16", name := "coderFromArrayLen", desc := "([BI)B" } : Jvm.MethodName) jdk_52_method_15_code (2 : Nat) (Option.some Jvm.ClassFile.FieldType.byte)).before args0 about1 = true := code_word (m := ⟨9, 7⟩) (meth := k9m7) (c := k9c7) (by decide +kernel) rfl rfl rfl (by decide +kernel)
set_option maxRecDepth 65536 in
theorem w_c11 : (Jvm.Cond.code ({ cls := "java/lang/String", name := "length", desc := "()I" } : Jvm.MethodName) jdk_42_method_54_code (1 : Nat) (Option.some Jvm.ClassFile.FieldType.int)).before args0 about1 = true := code_word (m := ⟨7, 2⟩) (meth := k7m2) (c := k7c2) (by decide +kernel) rfl rfl rfl (by decide +kernel)
set_option maxRecDepth 65536 in
theorem w_c12 : (Jvm.Cond.code ({ cls := "java/lang/String", name := "coder", desc := "()B" } : Jvm.MethodName) jdk_42_method_152_code (1 : Nat) (Option.some Jvm.ClassFile.FieldType.byte)).before args0 about1 = true := code_word (m := ⟨7, 6⟩) (meth := k7m6) (c := k7c6) (by decide +kernel) rfl rfl rfl (by decide +kernel)
set_option maxRecDepth 65536 in
theorem w_c13 : (Jvm.Cond.code ({ cls := "java/lang/String", name := "charAt", desc := "(I)C" } : Jvm.MethodName) jdk_42_method_56_code (2 : Nat) (Option.some Jvm.ClassFile.FieldType.char)).before args0 about1 = true := code_word (m := ⟨7, 4⟩) (meth := k7m4) (c := k7c4) (by decide +kernel) rfl rfl rfl (by decide +kernel)
set_option maxRecDepth 65536 in
theorem w_c14 : (Jvm.Cond.code ({ cls := "java/lang/String", name := "isLatin1", desc := "()Z" } : Jvm.MethodName) jdk_42_method_154_code (1 : Nat) (Option.some Jvm.ClassFile.FieldType.boolean)).before args0 about1 = true := code_word (m := ⟨7, 7⟩) (meth := k7m7) (c := k7c7) (by decide +kernel) rfl rfl rfl (by decide +kernel)
set_option maxRecDepth 65536 in
theorem w_c15 : (Jvm.Cond.code ({ cls := "java/lang/StringLatin1", name := "charAt", desc := "([BI)C" } : Jvm.MethodName) jdk_43_method_2_code (2 : Nat) (Option.some Jvm.ClassFile.FieldType.char)).before args0 about1 = true := code_word (m := ⟨10, 1⟩) (meth := k10m1) (c := k10c1) (by decide +kernel) rfl rfl rfl (by decide +kernel)
set_option maxRecDepth 65536 in
theorem w_c16 : (Jvm.Cond.code ({ cls := "java/lang/String", name := "checkIndex", desc := "(II)V" } : Jvm.MethodName) jdk_42_method_155_code (2 : Nat) (Option.none : Option Jvm.ClassFile.FieldType)).before args0 about1 = true := code_word (m := ⟨7, 8⟩) (meth := k7m8) (c := k7c8) (by decide +kernel) rfl rfl rfl (by decide +kernel)
set_option maxRecDepth 65536 in
theorem w_c17 : (Jvm.Cond.code ({ cls := "jdk/internal/util/Preconditions", name := "checkIndex", desc := "(IILjava/util/function/BiFunction;)I" } : Jvm.MethodName) jdk_41_method_11_code (3 : Nat) (Option.some Jvm.ClassFile.FieldType.int)).before args0 about1 = true := code_word (m := ⟨11, 1⟩) (meth := k11m1) (c := k11c1) (by decide +kernel) rfl rfl rfl (by decide +kernel)
set_option maxRecDepth 65536 in
theorem w_c18 : (Jvm.Cond.code ({ cls := "java/lang/StringUTF16", name := "toBytes", desc := "([CII)[B" } : Jvm.MethodName) jdk_52_method_14_code (5 : Nat) (Option.some (Jvm.ClassFile.FieldType.array Jvm.ClassFile.FieldType.byte))).before args0 about1 = true := code_word (m := ⟨9, 6⟩) (meth := k9m6) (c := k9c6) (by decide +kernel) rfl rfl rfl (by decide +kernel)
set_option maxRecDepth 65536 in
theorem w_c19 : (Jvm.Cond.code ({ cls := "java/lang/StringUTF16", name := "newBytesFor", desc := "(I)[B" } : Jvm.MethodName) jdk_52_method_2_code (1 : Nat) (Option.some (Jvm.ClassFile.FieldType.array Jvm.ClassFile.FieldType.byte))).before args0 about1 = true := code_word (m := ⟨9, 1⟩) (meth := k9m1) (c := k9c1) (by decide +kernel) rfl rfl rfl (by decide +kernel)
set_option maxRecDepth 65536 in
theorem w_c20 : (Jvm.Cond.code ({ cls := "java/lang/StringUTF16", name := "newBytesLength", desc := "(I)I" } : Jvm.MethodName) jdk_52_method_3_code (1 : Nat) (Option.some Jvm.ClassFile.FieldType.int)).before args0 about1 = true := code_word (m := ⟨9, 2⟩) (meth := k9m2) (c := k9c2) (by decide +kernel) rfl rfl rfl (by decide +kernel)
set_option maxRecDepth 65536 in
theorem w_c21 : (Jvm.Cond.code ({ cls := "java/lang/StringUTF16", name := "putChar", desc := "([BII)V" } : Jvm.MethodName) jdk_52_method_4_code (3 : Nat) (Option.none : Option Jvm.ClassFile.FieldType)).before args0 about1 = true := code_word (m := ⟨9, 3⟩) (meth := k9m3) (c := k9c3) (by decide +kernel) rfl rfl rfl (by decide +kernel)
set_option maxRecDepth 65536 in
theorem w_c22 : (Jvm.Cond.code ({ cls := "java/lang/StringUTF16", name := "getChar", desc := "([BI)C" } : Jvm.MethodName) jdk_52_method_5_code (2 : Nat) (Option.some Jvm.ClassFile.FieldType.char)).before args0 about1 = true := code_word (m := ⟨9, 4⟩) (meth := k9m4) (c := k9c4) (by decide +kernel) rfl rfl rfl (by decide +kernel)
set_option maxRecDepth 65536 in
theorem w_c23 : (Jvm.Cond.code ({ cls := "java/lang/StringUTF16", name := "charAt", desc := "([BI)C" } : Jvm.MethodName) jdk_52_method_83_code (2 : Nat) (Option.some Jvm.ClassFile.FieldType.char)).before args0 about1 = true := code_word (m := ⟨9, 10⟩) (meth := k9m10) (c := k9c10) (by decide +kernel) rfl rfl rfl (by decide +kernel)
set_option maxRecDepth 65536 in
theorem w_c24 : (Jvm.Cond.code ({ cls := "java/lang/StringUTF16", name := "checkIndex", desc := "(I[B)V" } : Jvm.MethodName) jdk_52_method_91_code (2 : Nat) (Option.none : Option Jvm.ClassFile.FieldType)).before args0 about1 = true := code_word (m := ⟨9, 11⟩) (meth := k9m11) (c := k9c11) (by decide +kernel) rfl rfl rfl (by decide +kernel)
set_option maxRecDepth 65536 in
theorem w_c25 : (Jvm.Cond.code ({ cls := "java/lang/StringUTF16", name := "length", desc := "([B)I" } : Jvm.MethodName) jdk_52_method_6_code (1 : Nat) (Option.some Jvm.ClassFile.FieldType.int)).before args0 about1 = true := code_word (m := ⟨9, 5⟩) (meth := k9m5) (c := k9c5) (by decide +kernel) rfl rfl rfl (by decide +kernel)
set_option maxRecDepth 65536 in
theorem w_c26 : (Jvm.Cond.code ({ cls := "com/example/hiscore/hiscore/WholeNumberParsePinLaw", name := "dg", desc := "(JJ)C" } : Jvm.MethodName) method_3_code (4 : Nat) (Option.some Jvm.ClassFile.FieldType.char)).before args0 about1 = true := code_word (m := ⟨1, 2⟩) (meth := k1m2) (c := k1c2) (by decide +kernel) rfl rfl rfl (by decide +kernel)
def codes1 : List Jvm.Cond := [Jvm.Cond.code x code maxLocals ret, Jvm.Cond.code ({ cls := "com/example/hiscore/hiscore/WholeNumberParsePinLaw", name := "shortExpected", desc := "(ICCC)J" } : Jvm.MethodName) method_4_code (4 : Nat) (Option.some Jvm.ClassFile.FieldType.long), Jvm.Cond.code ({ cls := "java/lang/String", name := "<init>", desc := "([C)V" } : Jvm.MethodName) jdk_42_method_3_code (2 : Nat) (Option.none : Option Jvm.ClassFile.FieldType), Jvm.Cond.code ({ cls := "java/lang/String", name := "<init>", desc := "([CIILjava/lang/Void;)V" } : Jvm.MethodName) jdk_42_method_149_code (6 : Nat) (Option.none : Option Jvm.ClassFile.FieldType), Jvm.Cond.code ({ cls := "java/lang/Object", name := "<init>", desc := "()V" } : Jvm.MethodName) object_method_1_code (1 : Nat) (Option.none : Option Jvm.ClassFile.FieldType), Jvm.Cond.code ({ cls := "com/example/hiscore/hiscore/WholeNumber", name := "parse", desc := "(Ljava/lang/String;)J" } : Jvm.MethodName) prog_13_method_2_code (5 : Nat) (Option.some Jvm.ClassFile.FieldType.long), Jvm.Cond.code ({ cls := "java/lang/String", name := "isEmpty", desc := "()Z" } : Jvm.MethodName) jdk_42_method_55_code (1 : Nat) (Option.some Jvm.ClassFile.FieldType.boolean), Jvm.Cond.code ({ cls := "com/example/hiscore/hiscore/WholeNumberParsePinLaw", name := "isDig", desc := "(C)Z" } : Jvm.MethodName) method_2_code (1 : Nat) (Option.some Jvm.ClassFile.FieldType.boolean), Jvm.Cond.code ({ cls := "java/lang/StringUTF16", name := "compress", desc := "([CII)[B" } : Jvm.MethodName) jdk_52_method_16_code (6 : Nat) (Option.some (Jvm.ClassFile.FieldType.array Jvm.ClassFile.FieldType.byte)), Jvm.Cond.code ({ cls := "java/lang/StringUTF16", name := "compress", desc := "([CI[BII)I" } : Jvm.MethodName) jdk_52_method_21_code (7 : Nat) (Option.some Jvm.ClassFile.FieldType.int), Jvm.Cond.code ({ cls := "java/lang/StringUTF16", name := "coderFromArrayLen", desc := "([BI)B" } : Jvm.MethodName) jdk_52_method_15_code (2 : Nat) (Option.some Jvm.ClassFile.FieldType.byte), Jvm.Cond.code ({ cls := "java/lang/String", name := "length", desc := "()I" } : Jvm.MethodName) jdk_42_method_54_code (1 : Nat) (Option.some Jvm.ClassFile.FieldType.int), Jvm.Cond.code ({ cls := "java/lang/String", name := "coder", desc := "()B" } : Jvm.MethodName) jdk_42_method_152_code (1 : Nat) (Option.some Jvm.ClassFile.FieldType.byte), Jvm.Cond.code ({ cls := "java/lang/String", name := "charAt", desc := "(I)C" } : Jvm.MethodName) jdk_42_method_56_code (2 : Nat) (Option.some Jvm.ClassFile.FieldType.char), Jvm.Cond.code ({ cls := "java/lang/String", name := "isLatin1", desc := "()Z" } : Jvm.MethodName) jdk_42_method_154_code (1 : Nat) (Option.some Jvm.ClassFile.FieldType.boolean), Jvm.Cond.code ({ cls := "java/lang/StringLatin1", name := "charAt", desc := "([BI)C" } : Jvm.MethodName) jdk_43_method_2_code (2 : Nat) (Option.some Jvm.ClassFile.FieldType.char), Jvm.Cond.code ({ cls := "java/lang/String", name := "checkIndex", desc := "(II)V" } : Jvm.MethodName) jdk_42_method_155_code (2 : Nat) (Option.none : Option Jvm.ClassFile.FieldType), Jvm.Cond.code ({ cls := "jdk/internal/util/Preconditions", name := "checkIndex", desc := "(IILjava/util/function/BiFunction;)I" } : Jvm.MethodName) jdk_41_method_11_code (3 : Nat) (Option.some Jvm.ClassFile.FieldType.int), Jvm.Cond.code ({ cls := "java/lang/StringUTF16", name := "toBytes", desc := "([CII)[B" } : Jvm.MethodName) jdk_52_method_14_code (5 : Nat) (Option.some (Jvm.ClassFile.FieldType.array Jvm.ClassFile.FieldType.byte)), Jvm.Cond.code ({ cls := "java/lang/StringUTF16", name := "newBytesFor", desc := "(I)[B" } : Jvm.MethodName) jdk_52_method_2_code (1 : Nat) (Option.some (Jvm.ClassFile.FieldType.array Jvm.ClassFile.FieldType.byte)), Jvm.Cond.code ({ cls := "java/lang/StringUTF16", name := "newBytesLength", desc := "(I)I" } : Jvm.MethodName) jdk_52_method_3_code (1 : Nat) (Option.some Jvm.ClassFile.FieldType.int), Jvm.Cond.code ({ cls := "java/lang/StringUTF16", name := "putChar", desc := "([BII)V" } : Jvm.MethodName) jdk_52_method_4_code (3 : Nat) (Option.none : Option Jvm.ClassFile.FieldType), Jvm.Cond.code ({ cls := "java/lang/StringUTF16", name := "getChar", desc := "([BI)C" } : Jvm.MethodName) jdk_52_method_5_code (2 : Nat) (Option.some Jvm.ClassFile.FieldType.char), Jvm.Cond.code ({ cls := "java/lang/StringUTF16", name := "charAt", desc := "([BI)C" } : Jvm.MethodName) jdk_52_method_83_code (2 : Nat) (Option.some Jvm.ClassFile.FieldType.char), Jvm.Cond.code ({ cls := "java/lang/StringUTF16", name := "checkIndex", desc := "(I[B)V" } : Jvm.MethodName) jdk_52_method_91_code (2 : Nat) (Option.none : Option Jvm.ClassFile.FieldType), Jvm.Cond.code ({ cls := "java/lang/StringUTF16", name := "length", desc := "([B)I" } : Jvm.MethodName) jdk_52_method_6_code (1 : Nat) (Option.some Jvm.ClassFile.FieldType.int), Jvm.Cond.code ({ cls := "com/example/hiscore/hiscore/WholeNumberParsePinLaw", name := "dg", desc := "(JJ)C" } : Jvm.MethodName) method_3_code (4 : Nat) (Option.some Jvm.ClassFile.FieldType.char)]
set_option maxRecDepth 65536 in
theorem codes_eq : words1.filter isCode = codes1 := rfl
theorem w_codes : ∀ c ∈ words1.filter isCode, c.before args0 about1 = true := by
  rw [codes_eq]
  intro c hc
  simp only [codes1, List.mem_cons, List.not_mem_nil, or_false] at hc
  rcases hc with rfl | rfl | rfl | rfl | rfl | rfl | rfl | rfl | rfl | rfl | rfl | rfl | rfl | rfl | rfl | rfl | rfl | rfl | rfl | rfl | rfl | rfl | rfl | rfl | rfl | rfl | rfl
  · exact w_c0
  · exact w_c1
  · exact w_c2
  · exact w_c3
  · exact w_c4
  · exact w_c5
  · exact w_c6
  · exact w_c7
  · exact w_c8
  · exact w_c9
  · exact w_c10
  · exact w_c11
  · exact w_c12
  · exact w_c13
  · exact w_c14
  · exact w_c15
  · exact w_c16
  · exact w_c17
  · exact w_c18
  · exact w_c19
  · exact w_c20
  · exact w_c21
  · exact w_c22
  · exact w_c23
  · exact w_c24
  · exact w_c25
  · exact w_c26
set_option maxRecDepth 65536 in
theorem w_t1 : (words1.take 24).all (fun c => isCode c || c.before args0 about1) = true := by decide +kernel
set_option maxRecDepth 65536 in
theorem w_t2 : ((words1.drop 24).take 24).all (fun c => isCode c || c.before args0 about1) = true := by decide +kernel
set_option maxRecDepth 65536 in
theorem w_t3 : (((words1.drop 24).drop 24).take 24).all (fun c => isCode c || c.before args0 about1) = true := by decide +kernel
set_option maxRecDepth 65536 in
theorem w_t4 : ((((words1.drop 24).drop 24).drop 24).take 24).all (fun c => isCode c || c.before args0 about1) = true := by decide +kernel
set_option maxRecDepth 65536 in
theorem w_t5 : (((((words1.drop 24).drop 24).drop 24).drop 24).take 24).all (fun c => isCode c || c.before args0 about1) = true := by decide +kernel
set_option maxRecDepth 65536 in
theorem w_t6 : (((((words1.drop 24).drop 24).drop 24).drop 24).drop 24).all (fun c => isCode c || c.before args0 about1) = true := by decide +kernel
theorem w_tables : (allAtoms (Jvm.Cond.code x code maxLocals ret :: tables_1)).before args0 about1 = true := by
  rw [allAtoms_all]
  show words1.all (fun c => c.before args0 about1) = true
  refine all_split ?_ w_codes
  rw [← List.take_append_drop 24 words1, List.all_append, w_t1, ← List.take_append_drop 24 (words1.drop 24), List.all_append, w_t2, ← List.take_append_drop 24 ((words1.drop 24).drop 24), List.all_append, w_t3, ← List.take_append_drop 24 (((words1.drop 24).drop 24).drop 24), List.all_append, w_t4, ← List.take_append_drop 24 ((((words1.drop 24).drop 24).drop 24).drop 24), List.all_append, w_t5, w_t6]
  rfl
set_option maxRecDepth 65536 in
theorem w_rest : rest_1_c.before args0 about1 = true := by decide +kernel
set_option maxRecDepth 65536 in
theorem w_case : (Jvm.Cond.and given_1 narrow_1).before args0 about1 = true := by decide +kernel
set_option maxRecDepth 65536 in
theorem w_consts : constsHeld consts_1 about1 := Jvm.Lit.constsHeldB_iff.mp (by decide +kernel)
theorem w_applies : (headSpec (Jvm.Cond.code x code maxLocals ret :: tables_1) room_1).applies x e0.platform about1 = true :=
  (Spec.applies_iff w_frames).mpr ⟨w_running, w_runnable, w_alone, w_named, w_hears, w_ripe, w_room, w_tables⟩
theorem atStart : AtStart classFile x code maxLocals ret World_1 tables_1 room_1 Calls_1 rest_1 Pre_1 launch0 p0 e0 about1 theMethod args0 below0 :=
  ⟨lists_1, trivial, launch0.admits_env _ _ _, launch0.least_env, fairChoices_fair.cas, fairChoices_fair.clock, w_frames, w_args, w_heap, w_applies, ⟨w_consts, trivial⟩, w_rest, w_case⟩
end start1
theorem witness_1 : WitnessClaimed_1 := ⟨start1.p0, start1.e0, start1.about1, start1.theMethod, start1.args0, start1.below0, start1.atStart⟩
end Jvm.Pilot.@@N@@
