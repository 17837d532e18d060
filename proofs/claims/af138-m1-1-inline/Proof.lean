import JvmDerived
import JvmDerived.Pilot.@@N@@Statement
import JvmDerived.Pilot.@@N@@Code
set_option linter.unusedVariables false
set_option linter.unusedSimpArgs false
namespace Jvm.Pilot.@@N@@
open Jvm Jvm.ClassFile Sem Op Lib Jvm.Free Jvm.Stand Jvm.LawKit Jvm.RoadKit Bundle Jvm.Pilot.@@N@@.Jvm.D
section Own
variable {p : Program} {l : Launch} {e : Env} {R : Room} {s : State} {m : MethodId} {args : Array Value} {below : List Frame} {meth : Method} {c : Code} {T : State} {locs : List Loc} {cells slots : Nat}
def Ends (p : Program) (e : Env) (below : List Frame) (Q : Outcome → State → Prop) (S : State) : Prop := ∃ s₂ o, Steps p.tables e below S s₂ ∧ s₂.status = .running ∧ Ended s₂ below o ∧ Q o s₂
theorem Ends.opn {Q : Outcome → State → Prop} {S : State} (h : ∀ QQ : Outcome → State → Prop, (∀ o t, Q o t → QQ o t) → Ends p e below QQ S) : ∃ s₂ o, Steps p.tables e below S s₂ ∧ s₂.status = .running ∧ Ended s₂ below o ∧ Q o s₂ := h Q fun _ _ q => q
theorem Ends.step {Q : Outcome → State → Prop} {S S' : State} (k : ∀ t, Steps p.tables e below S' t → Steps p.tables e below S t) (h : Ends p e below Q S') : Ends p e below Q S := by
  obtain ⟨a, o, h1, h2⟩ := h
  exact ⟨a, o, k _ h1, h2⟩
theorem Ends.fin {QQ : Outcome → State → Prop} {Q : Option Value → Heap → List Loc → Prop} {cl sl : Nat} {g : JFrame} {h : Heap} (v : Option Value) (X : Stand p l e R s m args below meth c T locs cells slots)
    (hQQ : ∀ o t, (∃ v L, o = .returned v ∧ Q v t.heap L ∧ FrameEnd s o t L cl sl) → QQ o t) (hv : meth.sig.returnType = none → v = none) (hlocks : meth.locks = false)
    (hstep : ∀ fs, (∀ (f : JFrame) (acts : List Action), f.method = m → f.locked = none → f.entered = [] → (doReturn e (T.setTop f) acts v).1 = T.setFrames fs) → Steps p.tables e below (T.setTop g) (T.setFrames fs))
    (eT : T.heap = h) (hc : cells ≤ cl) (hs : slots ≤ sl) (q : Q v h locs) : Ends p e below QQ (T.setTop g) := by
  obtain ⟨fs, hr, hrun, hended, hW, hsame⟩ := X.leave hv hlocks
  subst eT
  exact ⟨_, _, hstep fs hr, hrun, hended, hQQ _ _ ⟨v, locs, rfl, q, ⟨_, rfl⟩, hW, hsame.mono hc hs⟩⟩
theorem Ends.finW {QQ : Outcome → State → Prop} {Q : Option Value → Heap → List Loc → Prop} {cl sl : Nat} {g : JFrame} {h : Heap} {vm0 : Vm} {n : Nat} (v : Option Value) (X : Stand p l e R (s.setVm vm0) m args below meth c T locs cells slots) (hS : s.Since vm0 n) (hn : n ≤ h.size)
    (hQQ : ∀ o t, (∃ v L, o = .returned v ∧ Q v t.heap L ∧ ReturnedEndW s o t L cl sl) → QQ o t) (hv : meth.sig.returnType = none → v = none) (hlocks : meth.locks = false)
    (hstep : ∀ fs, (∀ (f : JFrame) (acts : List Action), f.method = m → f.locked = none → f.entered = [] → (doReturn e (T.setTop f) acts v).1 = T.setFrames fs) → Steps p.tables e below (T.setTop g) (T.setFrames fs))
    (eT : T.heap = h) (hc : cells ≤ cl) (hs : slots ≤ sl) (q : Q v h locs) : Ends p e below QQ (T.setTop g) := by
  subst eT
  obtain ⟨fs, hr, hrun, hended, hW⟩ := X.leaveW hS hn hv hlocks
  exact ⟨_, _, hstep fs hr, hrun, hended, hQQ _ _ ⟨v, locs, rfl, q, hW.1, hW.2.1, hW.2.2.1, hW.2.2.2.mono hc hs⟩⟩
theorem Ends.finI {QQ : Outcome → State → Prop} {Q : Option Value → Heap → List Loc → Prop} {cl sl : Nat} {g : JFrame} {h : Heap} {vm0 : Vm} {n : Nat} {Z : State} {Ts : List String} (v : Option Value) (X : Stand p l e R (s.setVm vm0) m args below meth c T locs cells slots) (hS : s.Since vm0 n) (hn : n ≤ h.size)
    (hQQ : ∀ o t, (∃ v L, o = .returned v ∧ Q v t.heap L ∧ ReturnedEndW s o t L cl sl ∧ IB Z t.vm Ts) → QQ o t) (hv : meth.sig.returnType = none → v = none) (hlocks : meth.locks = false)
    (hstep : ∀ fs, (∀ (f : JFrame) (acts : List Action), f.method = m → f.locked = none → f.entered = [] → (doReturn e (T.setTop f) acts v).1 = T.setFrames fs) → Steps p.tables e below (T.setTop g) (T.setFrames fs))
    (eT : T.heap = h) (hc : cells ≤ cl) (hs : slots ≤ sl) (q : Q v h locs) (I : IB Z T.vm Ts) : Ends p e below QQ (T.setTop g) := by
  subst eT
  obtain ⟨fs, hr, hrun, hended, hW⟩ := X.leaveW hS hn hv hlocks
  exact ⟨_, _, hstep fs hr, hrun, hended, hQQ _ _ ⟨v, locs, rfl, q, ⟨hW.1, hW.2.1, hW.2.2.1, hW.2.2.2.mono hc hs⟩, I⟩⟩
theorem own_cp0 (X : Stand p l e R s m args below meth c T locs cells slots) (hx : p.tables.exec = Jvm.exec) {Z : State} (hZ : Z.Warmed39 s.vm) {a0 : Array Value} {own : String} {index : Nat} (hown : s.vm.findClass own = some m.cls)
    (w1 : (Jvm.Cond.methodLink own index Jvm.Stand.acN).before a0 Z = true) (w2 : (Jvm.Cond.native Jvm.Stand.acN).before a0 Z = true) (w3 : (Jvm.Cond.static Jvm.Stand.acN).before a0 Z = true) (w4 : (Jvm.Cond.initialized "java/lang/System").before a0 Z = true) {h : Heap} (eT : T.heap = h)
    {a b : Addr} {k k' : ClassId} {ty : FieldType} {z z' sp dp : Int32} {vs vd : List Value} {dv dd : Value} (A : Arv Z h a k ty z vs dv) (B : Arv Z h b k' ty z' vd dd) (h1 : sp = 0) (h2 : dp = 0)
    {g : JFrame} (hg : g.method = m) (hsize : g.locals.size = c.maxLocals) {rest : List Value} (hs : g.stack = .int 0 :: .int dp :: .ref b :: .int sp :: .ref a :: rest) (hd : decode c.code g.pc = .ok (.invokestatic index, 3))
    (hf : 1 ≤ R.frames) {W : Nat} (hW : 2 * g.monitorRoom + (rest.map fun v => v.category).sum ≤ W) (hlo : W + (nativeFrameWords "java/lang/System" "arraycopy" 5 + 11) ≤ R.locals) :
    ∃ T', Stand p l e R s m args below meth c T' locs cells slots ∧ T'.heap = h ∧ ∀ target, Steps p.tables e below (T'.setTop { g with pc := g.pc + 3, stack := rest }) target → Steps p.tables e below (T.setTop g) target := by
  subst h1 h2 eT
  obtain ⟨cs, As, -, Ss, -, Hs, Gs⟩ := A
  obtain ⟨cd, Ad, qd, Sd, Nd, Hd, Gd⟩ := B
  obtain ⟨os, ks, hks, sc, hsk⟩ := State.isArrayOf_alike hZ.alike As.2.1
  obtain ⟨od, kd, hkd, dc, hdk⟩ := State.isArrayOf_alike hZ.alike Ad.2.1
  obtain ⟨vm₁, hW₁, X', st⟩ := X.arraycopyK hx hown (mvT hZ w1) (mvT hZ w2) (mvT hZ w3) (mvT hZ w4) As.1 Ad.1 os od As.2.2 Ad.2.2 hks hkd hsk hdk (by cases refKind ty <;> simp) (by decide) (by decide) (by decide)
    (by show ¬ ((0 : Int) + 0 > _); omega) (by show ¬ ((0 : Int) + 0 > _); omega) (fun vm₁ hw i hi => absurd hi (by show ¬ i < 0; omega)) hg hsize hs hd hf (Nat.le_trans (Nat.add_le_add_right hW _) hlo)
  have hL : locs ++ copyLocs b (0 : Int32).toNatClampNeg (0 : Int32).toNatClampNeg = locs := by simp [copyLocs]
  rw [hL] at X'
  refine ⟨_, X', ?_, st⟩
  have hc : copied cs cd (0 : Int32) (0 : Int32) (0 : Int32) = cd := rfl
  show T.heap.setIfInBounds b (copied cs cd (0 : Int32) (0 : Int32) (0 : Int32)) = T.heap
  rw [hc]
  apply Array.ext_getElem?
  intro i
  by_cases q : b = i
  · subst q
    rw [Array.getElem?_setIfInBounds_self_of_lt (Array.getElem?_eq_some_iff.mp Ad.1).1, Ad.1]
  · rw [Array.getElem?_setIfInBounds_ne q]
theorem own_arv_cell {Z : State} {h : Heap} {a : Addr} {k : ClassId} {ty : FieldType} {z : Int32} {vs : List Value} {dv : Value} (F : Arv Z h a k ty z vs dv) : ∃ c : Cell, h[a]? = some c ∧ ∀ q, c.vm ≠ .statics q := by
  obtain ⟨c, A, -⟩ := F
  exact ⟨c, A.1, fun q e => by have := A.plain; rw [e] at this; cases this⟩
theorem own_same {Z : State} {a0 : Array Value} {y x : MethodName} {K : String} (w3 : (Jvm.Cond.instanceMethod y).before a0 Z = true) (hy : y.cls ≠ "java/lang/invoke/MethodHandle" ∧ y.cls ≠ "java/lang/invoke/VarHandle") (hsel : (Jvm.Cond.selects K x x).before a0 Z = true) (hc : x.cls = y.cls) : (Jvm.Cond.sameMethod y.cls y.cls y.name y.desc).before a0 Z = true := by
  obtain ⟨mk, methM, hn, hm, -, -⟩ := Cond.instanceMethod_spec w3
  have hf := State.methodFound?_of_named hn hy
  have h1 := findClass_of_methodNamed hn
  obtain ⟨c2, r2, m2, q1, q2, q3, q4, kP, hkP, hkPi⟩ := Cond.selects_spec hsel
  have h2 := findClass_of_methodNamed q3
  rw [hc] at h2
  have e := Option.some.inj (h1.symm.trans h2)
  rw [← e] at hkP
  simp [Cond.before, Cond.holds, Cond.value, h1, hf, hn, hkP, hkPi]
theorem own_decl {Z : State} {a0 : Array Value} {y : MethodName} {bytes : ByteArray} {maxL : Nat} {ret : Option FieldType} (w3 : (Jvm.Cond.instanceMethod y).before a0 Z = true) (wc : (Jvm.Cond.code y bytes maxL ret).before a0 Z = true) : (Jvm.Cond.declares y).before a0 Z = true := by
  obtain ⟨mk, methM, hn, hm, hs, -⟩ := Cond.instanceMethod_spec w3
  obtain ⟨m2, cM, q1, -, -, -, -, -, -, hsig⟩ := Cond.code_spec hn wc
  cases hm.symm.trans q1
  simp [Cond.before, Cond.holds, Cond.value, hn, hm, hs, hsig]
theorem own_selp {Z : State} {a0 : Array Value} {y : MethodName} {n : Nat} (w1 : (Jvm.Cond.instantiable y.cls n).before a0 Z = true) (w2 : (Jvm.Cond.privateMethod y).before a0 Z = true) (w3 : (Jvm.Cond.instanceMethod y).before a0 Z = true) (hy : y.cls ≠ "java/lang/invoke/MethodHandle" ∧ y.cls ≠ "java/lang/invoke/VarHandle") : (Jvm.Cond.selects y.cls y y).before a0 Z = true := by
  obtain ⟨c1, k1, hc1, hk1, -, hb1, -, -⟩ := Cond.instantiable_spec w1
  exact selects_self_of_private hc1 hk1 (by simp at hb1; exact hb1.1) (Cond.privateMethod_at w2) w3 hy
theorem own_selq {Z : State} {a0 : Array Value} {y x : MethodName} {K : String} (hsel : (Jvm.Cond.selects K x x).before a0 Z = true) (hc : x.cls = y.cls) (w2 : (Jvm.Cond.privateMethod y).before a0 Z = true) (w3 : (Jvm.Cond.instanceMethod y).before a0 Z = true) (hy : y.cls ≠ "java/lang/invoke/MethodHandle" ∧ y.cls ≠ "java/lang/invoke/VarHandle") : (Jvm.Cond.selects y.cls y y).before a0 Z = true := by
  obtain ⟨c2, r2, m2, q1, q2, q3, q4, kP, hkP, hkPi⟩ := Cond.selects_spec hsel
  have h2 := findClass_of_methodNamed q3
  rw [hc] at h2
  exact selects_self_of_private h2 hkP hkPi (Cond.privateMethod_at w2) w3 hy
theorem own_notface {args : Array Value} {s : State} {C : String} {x y : MethodName} (hsel : (Cond.selects C x x).before args s = true) (hc : x.cls = y.cls) : NotFace s y := fun r0 h0 => by
  obtain ⟨c2, r2, m2, q1, q2, q3, q4, kP, hkP, hkPi⟩ := Cond.selects_spec hsel
  have h1 := findClass_of_methodNamed h0
  have h2 := findClass_of_methodNamed q3
  rw [hc] at h2
  have e := Option.some.inj (h1.symm.trans h2)
  exact ⟨kP, by rw [e]; exact hkP, hkPi⟩
theorem own_ibAt {Z : State} {vm0 vm1 : Vm} {Ts : List String} (I : IB Z vm0 Ts) (q : vm1.interned = vm0.interned) : IB Z vm1 Ts := by
  obtain ⟨more, e1, hm⟩ := I
  exact ⟨more, q.trans e1, hm⟩
theorem own_backI {Z : State} {a0 : Array Value} {h : Heap} {y : MethodName} {bytes : ByteArray} {maxL : Nat} {ret : Option FieldType} {rm : Room} {len W : Nat} {as' : Array Value} {Q : Option Value → Heap → List Loc → Prop}
    (hM : MetFree l y (head1 [Cond.code y bytes maxL ret] rm) (fun a U => a = as' ∧ Z.Warmed39 U.vm ∧ U.heap = h ∧ IB Z U.vm []) (fun _ _ _ _ _ => True) (fun _ U o U' => ∃ v L, o = .returned v ∧ Q v U'.heap L ∧ ReturnedEndW U o U' L rm.cells rm.slots))
    (hZ : Z.Warmed39 s.vm) (wc : (Cond.code y bytes maxL ret).before a0 Z = true) (wz : (Cond.initialized y.cls).before a0 Z = true) (hf : rm.frames + 1 ≤ R.frames) (hl : W + (maxL + 11) + rm.locals ≤ R.locals) (hI : IB Z s.vm []) :
    BackS l R p e below s args y len W (fun A a => a = as' ∧ A.U.heap = h ∧ A.cells + rm.cells ≤ R.cells ∧ A.slots + rm.slots ≤ R.slots)
      (fun A _ v B => ∃ L, Q v B.U.heap L ∧ B.locs = A.locs ++ L ∧ B.cells = A.cells + rm.cells ∧ B.slots = A.slots + rm.slots) :=
  BackS.of_freeW (bytes := bytes) (maxL := maxL) (ret := ret) (E := fun _ _ o t L k n => k = rm.cells ∧ n = rm.slots ∧ ∃ v, o = .returned v ∧ Q v t.heap L) hM hf hl
    (fun m meth c A a Y hp => ⟨by show (Cond.and _ .tt).before a A.U = true; rw [Cond.before_and, mv (wtrans hZ Y.warmed) wc]; rfl, mv (wtrans hZ Y.warmed) wc, mv (wtrans hZ Y.warmed) wz, hp.2.2.1, hp.2.2.2⟩)
    (fun m meth c A a g mk Y hp => ⟨hp.1, wtrans hZ Y.warmed, hp.2.1, own_ibAt hI Y.warmed.interned_eq⟩) (fun _ _ _ _ _ _ _ _ _ => trivial)
    (fun _ _ _ _ z => by obtain ⟨v, L, h1, h2, h3⟩ := z; exact ⟨L, _, _, h3, rfl, rfl, v, h1, h2⟩)
    (fun m meth c A a g mk v t L k n Y hp _ _ z => by obtain ⟨e1, e2, v', e3, e4⟩ := z; cases e3; subst e1 e2; exact ⟨L, e4, rfl, rfl, rfl⟩)
theorem own_backJ {Z : State} {a0 : Array Value} {h : Heap} {y : MethodName} {bytes : ByteArray} {maxL : Nat} {ret : Option FieldType} {rm : Room} {len W : Nat} {as' : Array Value} {Q : Option Value → Heap → List Loc → Prop} {Ts : List String}
    (hM : MetFree l y (head1 [Cond.code y bytes maxL ret] rm) (fun a U => a = as' ∧ Z.Warmed39 U.vm ∧ U.heap = h ∧ IB Z U.vm []) (fun _ _ _ _ _ => True) (fun _ U o U' => ∃ v L, o = .returned v ∧ Q v U'.heap L ∧ ReturnedEndW U o U' L rm.cells rm.slots ∧ IB Z U'.vm Ts))
    (hZ : Z.Warmed39 s.vm) (wc : (Cond.code y bytes maxL ret).before a0 Z = true) (wz : (Cond.initialized y.cls).before a0 Z = true) (hf : rm.frames + 1 ≤ R.frames) (hl : W + (maxL + 11) + rm.locals ≤ R.locals) (hI : IB Z s.vm []) :
    BackS l R p e below s args y len W (fun A a => a = as' ∧ A.U.heap = h ∧ A.cells + rm.cells ≤ R.cells ∧ A.slots + rm.slots ≤ R.slots)
      (fun A _ v B => ∃ L, Q v B.U.heap L ∧ B.locs = A.locs ++ L ∧ B.cells = A.cells + rm.cells ∧ B.slots = A.slots + rm.slots ∧ IB Z B.U.vm Ts) :=
  BackS.of_freeW (bytes := bytes) (maxL := maxL) (ret := ret) (E := fun _ _ o t L k n => k = rm.cells ∧ n = rm.slots ∧ ∃ v, o = .returned v ∧ Q v t.heap L ∧ IB Z t.vm Ts) hM hf hl
    (fun m meth c A a Y hp => ⟨by show (Cond.and _ .tt).before a A.U = true; rw [Cond.before_and, mv (wtrans hZ Y.warmed) wc]; rfl, mv (wtrans hZ Y.warmed) wc, mv (wtrans hZ Y.warmed) wz, hp.2.2.1, hp.2.2.2⟩)
    (fun m meth c A a g mk Y hp => ⟨hp.1, wtrans hZ Y.warmed, hp.2.1, own_ibAt hI Y.warmed.interned_eq⟩) (fun _ _ _ _ _ _ _ _ _ => trivial)
    (fun _ _ _ _ z => by obtain ⟨v, L, h1, h2, h3, h4⟩ := z; exact ⟨L, _, _, h3, rfl, rfl, v, h1, h2, h4⟩)
    (fun m meth c A a g mk v t L k n Y hp _ _ z => by obtain ⟨e1, e2, v', e3, e4, e5⟩ := z; cases e3; subst e1 e2; exact ⟨L, e4, rfl, rfl, rfl, e5⟩)
theorem own_frm {k k' : Nat} {L : List Loc} (h : k' ≤ k) (N : Fr k L) : Fr k' L := fun y q => Nat.le_trans h (N y q)
theorem own_kpw {Z : State} {h h' : Heap} {a : Addr} {sl n0 : Nat} {v : Value} (W : Wr h h' a sl v) (N : ∀ (b : Addr) (cl : Cell), Z.heap[b]? = some cl → h[b]? = some cl) (g : n0 ≤ a) (e : n0 = Z.heap.size) : ∀ (b : Addr) (cl : Cell), Z.heap[b]? = some cl → h'[b]? = some cl := fun b cl q => by
  have hb : b < Z.heap.size := (Array.getElem?_eq_some_iff.mp q).1
  obtain ⟨c', q1, -, -, -, q5, -, -⟩ := wr_at W (N b cl q)
  rw [e] at g
  rw [q1, q5 (Nat.ne_of_lt (Nat.lt_of_lt_of_le hb g))]
theorem own_kpk {Z : State} {h h' : Heap} {ws : List Addr} {n0 : Nat} (K : Keep h h' ws) (N : ∀ (b : Addr) (cl : Cell), Z.heap[b]? = some cl → h[b]? = some cl) (g : ∀ x ∈ ws, n0 ≤ x) (e : n0 = Z.heap.size) : ∀ (b : Addr) (cl : Cell), Z.heap[b]? = some cl → h'[b]? = some cl := fun b cl q => by
  have hb : b < Z.heap.size := (Array.getElem?_eq_some_iff.mp q).1
  exact K.2.1 _ _ (N b cl q) fun hm => Nat.lt_irrefl _ (Nat.lt_of_lt_of_le hb (e ▸ g _ hm))
theorem own_neA {Z : State} {h : Heap} {a b : Addr} {k k' : ClassId} {ty ty' : FieldType} {n n' : Int32} {vs vs' : List Value} {d d' : Value} (A : Arv Z h a k ty n vs d) (B : Arv Z h b k' ty' n' vs' d') (hne : n.toNatClampNeg ≠ n'.toNatClampNeg) : a ≠ b := by
  rintro rfl
  obtain ⟨c1, A1, -, s1, -⟩ := A
  obtain ⟨c2, B1, -, s2, -⟩ := B
  cases A1.1.symm.trans B1.1
  exact hne (s1.symm.trans s2)
theorem own_neEA {Z : State} {a0 : Array Value} {h : Heap} {a b : Addr} {C : String} {q : Nat} {k : ClassId} {ty : FieldType} {n : Int32} {vs : List Value} {d : Value} (E : Exa Z h a C) (wi : (Cond.instantiable C q).before a0 Z = true) (B : Arv Z h b k ty n vs d) (hne : q ≠ n.toNatClampNeg) : a ≠ b := by
  rintro rfl
  obtain ⟨cell, kc, h1, h2, h3, h4, h5⟩ := E
  obtain ⟨c2, B1, -, s2, -⟩ := B
  cases h1.symm.trans B1.1
  obtain ⟨c4, k2, i1, i2, i3, -, -, i4⟩ := Cond.instantiable_spec wi
  cases h2.symm.trans i1
  cases h3.symm.trans i2
  exact hne (i4.symm.trans ((h5 i3).symm.trans s2))
theorem own_neE {Z : State} {h : Heap} {a b : Addr} {C C' : String} (E : Exa Z h a C) (E' : Exa Z h b C') (hne : C ≠ C') : a ≠ b := by
  rintro rfl
  obtain ⟨cell, kc, h1, h2, h3, h4, h5⟩ := E
  obtain ⟨cell', kc', g1, g2, g3, g4, g5⟩ := E'
  cases h1.symm.trans g1
  obtain ⟨k1, u1, u2⟩ := Vm.findClass_spec h2
  obtain ⟨k2, v1, v2⟩ := Vm.findClass_spec g2
  cases u1.symm.trans v1
  exact hne (u2.symm.trans v2)
theorem own_narBy {x : Int32} (h : nar .byte x = x) : narrow .byte (.int x) = .int x := congrArg Value.int h
theorem own_iteN {c : Prop} [Decidable c] {a b : Int32} {t : FieldType} (ha : nar t a = a) (hb : nar t b = b) : nar t (if c then a else b) = if c then a else b := by
  split <;> assumption
theorem own_01 {c : Prop} [Decidable c] {a b : Int32} (ha : a = 0 ∨ a = 1) (hb : b = 0 ∨ b = 1) : (if c then a else b) = 0 ∨ (if c then a else b) = 1 := by
  split <;> assumption
theorem own_narB {x : Int32} (h : x = 0 ∨ x = 1) : narrow .boolean (.int x) = .int x := by rcases h with rfl | rfl <;> rfl
theorem own_narref {v : Value} {t : FieldType} (h : v.isRef = true) (ht : t.isReference = true) : narrow t v = v := by
  cases t <;> first | (cases ht; done) | (cases v <;> first | rfl | cases h)
theorem own_fitref {v : Value} {t : FieldType} (h : v.isRef = true) (ht : t.isReference = true) : fits t v = true := by
  cases t <;> first | (cases ht; done) | (cases v <;> first | rfl | cases h)
theorem own_nar255 (b : Int32) : narrow .char (.int (b &&& (255 : Int32))) = .int (b &&& (255 : Int32)) := by
  have h := XT.narrow_c (b &&& 255)
  rw [i2c_mask] at h
  exact h
theorem own_narc (x : Int32) : nar .char x.toUInt32.toUInt16.toUInt32.toInt32 = x.toUInt32.toUInt16.toUInt32.toInt32 := by
  apply Int32.toInt_inj.mp
  show x.toUInt32.toUInt16.toUInt32.toInt32.toUInt32.toUInt16.toUInt32.toInt32.toInt = _
  have h1 := c_i2c x
  have h2 := c_i2c x.toUInt32.toUInt16.toUInt32.toInt32
  omega
theorem own_fitc {v : Int32} (h : nar .char v = v) : fits .char (.int v) = true := by
  have q := fits_nar_char v
  rw [h] at q
  exact q
theorem own_narb (x : Int32) : nar .byte x.toInt8.toInt32 = x.toInt8.toInt32 := by simp [nar]
theorem own_ins_keep {Z : State} {h h' : Heap} {a : Addr} {C : String} {b : Bool} {ws : List Addr} (F : Ins Z h a C b) (K : Keep h h' ws) : Ins Z h' a C b := by
  obtain ⟨cell, cT, h1, h2, h3⟩ := F
  obtain ⟨c', q1, q2, q3, -⟩ := K.2.2 _ _ h1
  exact ⟨c', cT, q1, h2, by rw [q2, q3]; exact h3⟩
theorem own_sta_keep {Z : State} {h h' : Heap} {C n d : String} {v : Value} {ws : List Addr} (F : Sta Z h C n d v) (K : Keep h h' ws) (q : ∀ x ∈ ws, ∃ c : Cell, h[x]? = some c ∧ ∀ q, c.vm ≠ .statics q) : Sta Z h' C n d v := by
  obtain ⟨cf, i, k, f, st, cell, h1, h2, h3, h4, h5, h6, h7⟩ := F
  refine ⟨cf, i, k, f, st, cell, h1, h2, h3, h4, K.2.1 _ _ h5 fun hm => ?_, h6, h7⟩
  obtain ⟨c, q1, q2⟩ := q _ hm
  cases h5.symm.trans q1
  cases hq : cell.vm <;> first | exact q2 _ hq | (rw [hq] at h6; cases h6)
theorem lremM {g : JFrame} {target : State} (X : Stand p l e R s m args below meth c T locs cells slots) (hx : p.tables.exec = Jvm.exec) (hg : g.method = m) {x y : Int64} {rest : List Value} (hd : decode c.code g.pc = .ok (.lrem, 1)) (hs : g.stack = .long y :: .long x :: rest) (hy : y ≠ 0)
    (hr : Steps p.tables e below (T.setTop { g with pc := g.pc + 1, stack := .long (x % y) :: rest }) target) : Steps p.tables e below (T.setTop g) target := by
  have q : x - x / y * y = x % y := lrem_mod x y
  exact XT.lrem X.here hx hg hd hs hy (by rw [q]; exact hr)
end Own
theorem pn_0 : plainName "java/lang/String" = true := by first | (simp [plainName, overriddenIn]; done) | decide +kernel
theorem pn_1 : plainName "jdk/internal/util/Preconditions" = true := by first | (simp [plainName, overriddenIn]; done) | decide +kernel
theorem pn_2 : plainName "java/lang/StringLatin1" = true := by first | (simp [plainName, overriddenIn]; done) | decide +kernel
theorem pn_3 : plainName "java/lang/AbstractStringBuilder" = true := by first | (simp [plainName, overriddenIn]; done) | decide +kernel
theorem pn_4 : plainName "java/lang/StringBuilder" = true := by first | (simp [plainName, overriddenIn]; done) | decide +kernel
theorem pn_5 : plainName "jdk/internal/util/ArraysSupport" = true := by first | (simp [plainName, overriddenIn]; done) | decide +kernel
theorem pn_6 : plainName "java/util/Arrays" = true := by first | (simp [plainName, overriddenIn]; done) | decide +kernel
theorem pn_7 : plainName "java/lang/Long" = true := by first | (simp [plainName, overriddenIn]; done) | decide +kernel
theorem pn_8 : plainName "com/example/wide_area_crawler/wideareacrawler/CrawlCounts" = true := by first | (simp [plainName, overriddenIn]; done) | decide +kernel
theorem pn_9 : plainName "com/example/wide_area_crawler/wideareacrawler/CrawlCountsCountPinLaw" = true := by first | (simp [plainName, overriddenIn]; done) | decide +kernel
theorem pd_0 : parseMethodDescriptor "()B" = some ⟨[], some .byte⟩ := by decide +kernel
theorem pd_1 : parseMethodDescriptor "(IILjava/util/function/BiFunction;)I" = some ⟨[.int, .int, (.object "java/util/function/BiFunction")], some .int⟩ := by decide +kernel
theorem pd_2 : parseMethodDescriptor "(II)V" = some ⟨[.int, .int], none⟩ := by decide +kernel
theorem pd_3 : parseMethodDescriptor "()Z" = some ⟨[], some .boolean⟩ := by decide +kernel
theorem pd_4 : parseMethodDescriptor "([BI)C" = some ⟨[(.array .byte), .int], some .char⟩ := by decide +kernel
theorem pd_5 : parseMethodDescriptor "(I)V" = some ⟨[.int], none⟩ := by decide +kernel
theorem pd_6 : parseMethodDescriptor "(Ljava/lang/String;)V" = some ⟨[(.object "java/lang/String")], none⟩ := by decide +kernel
theorem pd_7 : parseMethodDescriptor "([BIB)V" = some ⟨[(.array .byte), .int, .byte], none⟩ := by decide +kernel
theorem pd_8 : parseMethodDescriptor "()I" = some ⟨[], some .int⟩ := by decide +kernel
theorem pd_9 : parseMethodDescriptor "(ILjava/lang/String;)V" = some ⟨[.int, (.object "java/lang/String")], none⟩ := by decide +kernel
theorem pd_10 : parseMethodDescriptor "(Ljava/lang/String;)Ljava/lang/AbstractStringBuilder;" = some ⟨[(.object "java/lang/String")], some (.object "java/lang/AbstractStringBuilder")⟩ := by decide +kernel
theorem pd_11 : parseMethodDescriptor "(II)I" = some ⟨[.int, .int], some .int⟩ := by decide +kernel
theorem pd_12 : parseMethodDescriptor "(III)I" = some ⟨[.int, .int, .int], some .int⟩ := by decide +kernel
theorem pd_13 : parseMethodDescriptor "(I)I" = some ⟨[.int], some .int⟩ := by decide +kernel
theorem pd_14 : parseMethodDescriptor "([BI)[B" = some ⟨[(.array .byte), .int], some (.array .byte)⟩ := by decide +kernel
theorem pd_15 : parseMethodDescriptor "([BII)[B" = some ⟨[(.array .byte), .int, .int], some (.array .byte)⟩ := by decide +kernel
theorem pd_16 : parseMethodDescriptor "()[B" = some ⟨[], some (.array .byte)⟩ := by decide +kernel
theorem pd_17 : parseMethodDescriptor "(Ljava/lang/AbstractStringBuilder;Ljava/lang/Void;)V" = some ⟨[(.object "java/lang/AbstractStringBuilder"), (.object "java/lang/Void")], none⟩ := by decide +kernel
theorem pd_18 : parseMethodDescriptor "(Ljava/lang/StringBuilder;)V" = some ⟨[(.object "java/lang/StringBuilder")], none⟩ := by decide +kernel
theorem pd_19 : parseMethodDescriptor "(J)I" = some ⟨[.long], some .int⟩ := by decide +kernel
theorem pd_20 : parseMethodDescriptor "(JI[B)I" = some ⟨[.long, .int, (.array .byte)], some .int⟩ := by decide +kernel
theorem pd_21 : parseMethodDescriptor "(J)Ljava/lang/AbstractStringBuilder;" = some ⟨[.long], some (.object "java/lang/AbstractStringBuilder")⟩ := by decide +kernel
theorem pd_22 : parseMethodDescriptor "()V" = some ⟨[], none⟩ := by decide +kernel
theorem pd_23 : parseMethodDescriptor "(Ljava/lang/String;)Ljava/lang/StringBuilder;" = some ⟨[(.object "java/lang/String")], some (.object "java/lang/StringBuilder")⟩ := by decide +kernel
theorem pd_24 : parseMethodDescriptor "(J)Ljava/lang/StringBuilder;" = some ⟨[.long], some (.object "java/lang/StringBuilder")⟩ := by decide +kernel
theorem pd_25 : parseMethodDescriptor "()Ljava/lang/String;" = some ⟨[], some (.object "java/lang/String")⟩ := by decide +kernel
theorem pd_26 : parseMethodDescriptor "(I)C" = some ⟨[.int], some .char⟩ := by decide +kernel
theorem own_len {args : Array Value} {s : State} {t : Term} {n : Int32} {x : Addr} {cl : Cell} {ty : FieldType} (h : (Jvm.Cond.eq (Term.length t) (Term.int n)).value args s none s [] = some true) (ev : t.eval args s none [] s = some (.ref x)) (A : Arr s s.heap x cl ty) : cl.slots.size < 2 ^ 31 ∧ cl.slots.size.toInt32 = n := by
  obtain ⟨v, w, h1, h2, -, -⟩ := cmp_v (Or.inl h)
  have ha := A.fin (Vm.Alike.refl _)
  by_cases hl : cl.slots.size < 2 ^ 31
  · refine ⟨hl, ?_⟩
    have e := len_f ev ha hl (args := args) (first := s) (o := none) (idx := [])
    simp only [Cond.value, e, Term.int_eval] at h
    simpa using h
  · simp [Term.eval, ev, ha, hl] at h1
theorem own_elem {args : Array Value} {s : State} {t u : Term} {j : Int32} {x : Addr} {cl : Cell} {ty : FieldType} {v : Value} (h : (Jvm.Cond.eq (Term.elem t (Term.int j)) u).value args s none s [] = some true) (ev : t.eval args s none [] s = some (.ref x)) (A : Arr s s.heap x cl ty) (eu : u.eval args s none [] s = some v) : cl.slots[j.toNatClampNeg]? = some v := by
  obtain ⟨a, b, h1, h2, k1, k2⟩ := cmp_v (Or.inl h)
  cases eu.symm.trans h2
  have q := elem_in h1 ev (Term.int_eval j) A.1
  rw [q.2]
  simp only [Cond.value, h1, h2] at h
  cases a <;> cases v <;> simp_all [Kin, Value.isRef]
theorem own_elemJ {args : Array Value} {s : State} {t : Term} {j : Nat} {x : Addr} {cl : Cell} {ty : FieldType} {v : Int32} (h : (Jvm.Cond.eq (Term.elem t (Term.index 0)) (Term.int v)).value args s none s [j] = some true) (ev : t.eval args s none [j] s = some (.ref x)) (A : Arr s s.heap x cl ty) (hl : cl.slots.size < 2 ^ 31) (hj : j < cl.slots.size) : cl.slots[j]? = some (.int v) := by
  obtain ⟨a, b, h1, h2, k1, k2⟩ := cmp_v (Or.inl h)
  have q := elem_in h1 ev (Term.index_eval j) A.1
  have ej : j.toInt32.toNatClampNeg = j := by have := len_toInt (show j < 2 ^ 31 by omega); simp only [Int32.toNatClampNeg]; omega
  rw [ej] at q
  rw [q.2]
  cases (Term.int_eval v).symm.trans h2
  simp only [Cond.value, h1, h2] at h
  cases a <;> simp_all [Kin, Value.isRef]
theorem own_fld {args : Array Value} {s : State} {t u : Term} {x : Addr} {C f d : String} {v : Value} (h : (Jvm.Cond.eq (Term.field t C f d) u).value args s none s [] = some true) (ev : t.eval args s none [] s = some (.ref x)) (eu : u.eval args s none [] s = some v) : Fld s s.heap x C f d v := by
  obtain ⟨a, b, h1, h2, k1, k2⟩ := cmp_v (Or.inl h)
  cases eu.symm.trans h2
  have e : a = v := by
    simp only [Cond.value, h1, h2] at h
    cases a <;> cases v <;> simp_all [Kin, Value.isRef]
  subst e
  exact Fld.start ((fld_at ev).symm.trans h1)
theorem own_idx {args : Array Value} {s : State} {C n d : String} {v : Value} (ev : (Term.static C n d).eval args s none [] s = some v) (idx : List Nat := []) : (Term.static C n d).eval args s none idx s = some v := ev
theorem own_lt {k : Nat} {n : Int32} {j : Nat} (h : k.toInt32 = n) (h2 : k < 2 ^ 31) (h3 : (j : Int) < n.toInt) : j < k := by
  have := len_toInt h2
  rw [h] at this
  omega
theorem own_all3 {args : Array Value} {s : State} {t : Term} {a b v : Int32} {x : Addr} {cl : Cell} {ty : FieldType} (h : (Jvm.Cond.all t (.or (.lt (.index 0) (.int a)) (.or (.le (.int b) (.index 0)) (.eq (.elem t (.index 0)) (.int v))))).value args s none s [] = some true)
    (ev : ∀ idx, t.eval args s none idx s = some (.ref x)) (A : Arr s s.heap x cl ty) (hl : cl.slots.size < 2 ^ 31) (j : Nat) (hj : j < cl.slots.size) (h1 : a.toInt ≤ j) (h2 : (j : Int) < b.toInt) : cl.slots[j]? = some (.int v) := by
  have e := Cond.all_elim (ev []) (A.fin (Vm.Alike.refl _)) h j hj
  have ej : j.toInt32.toInt = j := len_toInt (by omega)
  have g1 : (Jvm.Cond.lt (.index 0) (.int a)).value args s none s [j] = some false := by
    simp only [Cond.value, Term.index_eval, Term.int_eval, Int32.lt_iff_toInt_lt, ej]; simp; omega
  have g2 : (Jvm.Cond.le (.int b) (.index 0)).value args s none s [j] = some false := by
    simp only [Cond.value, Term.index_eval, Term.int_eval, Int32.le_iff_toInt_le, ej]; simp; omega
  rw [Cond.or_of_right g1, Cond.or_of_right g2] at e
  exact own_elemJ e (ev [j]) A hl hj
theorem own_allH {args : Array Value} {s : State} {t : Term} {b v : Int32} {x : Addr} {cl : Cell} {ty : FieldType} (h : (Jvm.Cond.all t (.or (.le (.int b) (.index 0)) (.eq (.elem t (.index 0)) (.int v)))).value args s none s [] = some true)
    (ev : ∀ idx, t.eval args s none idx s = some (.ref x)) (A : Arr s s.heap x cl ty) (hl : cl.slots.size < 2 ^ 31) (j : Nat) (hj : j < cl.slots.size) (h2 : (j : Int) < b.toInt) : cl.slots[j]? = some (.int v) := by
  have e := Cond.all_elim (ev []) (A.fin (Vm.Alike.refl _)) h j hj
  have ej : j.toInt32.toInt = j := len_toInt (by omega)
  have g2 : (Jvm.Cond.le (.int b) (.index 0)).value args s none s [j] = some false := by
    simp only [Cond.value, Term.index_eval, Term.int_eval, Int32.le_iff_toInt_le, ej]; simp; omega
  rw [Cond.or_of_right g2] at e
  exact own_elemJ e (ev [j]) A hl hj
theorem own_nz {args : Array Value} {s : State} {t : Term} {x : Int32} (h : (Jvm.Cond.not (Jvm.Cond.eq t (Term.int (0 : Int32)))).value args s none s [] = some true) (ev : t.eval args s none [] s = some (.int x)) : ¬ x = (0 : Int32) := by
  simpa [Cond.value, ev, Term.eval] using h
theorem own_shr0 (n : Int32) : n >>> ((0 : Int32) &&& 31) = n := by
  apply Int32.toInt_inj.mp
  rw [c_ishr n 0 0 (by decide)]
  simp
def own_dg (N : Int) : Int32 := Int32.ofInt (48 + N % 10)
def own_ones : List Value := (List.range 100).map fun r => Value.int (Int32.ofNat (48 + r % 10))
def own_tens : List Value := (List.range 100).map fun r => Value.int (Int32.ofNat (48 + r / 10))
theorem own_dgi (N : Int) : (own_dg N).toInt = 48 + N % 10 := by
  unfold own_dg
  rw [Int32.toInt_ofInt, show Int32.size = 4294967296 from rfl, Int.bmod_eq_of_le (by omega) (by omega)]
theorem own_nardg (N : Int) : nar .byte (own_dg N) = own_dg N := by
  apply Int32.toInt_inj.mp
  have h := c_i2b (own_dg N)
  have e := own_dgi N
  show (own_dg N).toInt8.toInt32.toInt = _
  omega
theorem own_fitdg (N : Int) : fits .byte (.int (own_dg N)) = true := by
  have h := fits_nar_byte (own_dg N)
  have e : (own_dg N).toInt8.toInt32 = own_dg N := own_nardg N
  rw [e] at h
  exact h
theorem own_ofn (n : Nat) (h : n < 1000) : (Int32.ofNat n).toInt = n := by
  rw [Int32.toInt_ofNat', show Int32.size = 4294967296 from rfl, Int.bmod_eq_of_le (by omega) (by omega)]
theorem own_oneat {r : Int32} {N : Int} (h : r.toInt = N % 100) : own_ones.getD r.toNatClampNeg (.int (0 : Int32)) = .int (own_dg N) := by
  have key : ∀ j : Fin 100, own_ones.getD j.1 (Value.int (0 : Int32)) = .int (Int32.ofNat (48 + j.1 % 10)) := by decide +kernel
  have hj : r.toNatClampNeg < 100 := by simp only [Int32.toNatClampNeg]; omega
  rw [key ⟨_, hj⟩]
  congr 1
  apply Int32.toInt_inj.mp
  rw [own_ofn _ (by omega), own_dgi]
  simp only [Int32.toNatClampNeg]
  omega
theorem own_tenat {r : Int32} {N : Int} (h : r.toInt = N % 100) : own_tens.getD r.toNatClampNeg (.int (0 : Int32)) = .int (own_dg (N / 10)) := by
  have key : ∀ j : Fin 100, own_tens.getD j.1 (Value.int (0 : Int32)) = .int (Int32.ofNat (48 + j.1 / 10)) := by decide +kernel
  have hj : r.toNatClampNeg < 100 := by simp only [Int32.toNatClampNeg]; omega
  rw [key ⟨_, hj⟩]
  congr 1
  apply Int32.toInt_inj.mp
  rw [own_ofn _ (by omega), own_dgi]
  simp only [Int32.toNatClampNeg]
  omega
theorem own_in {r : Int32} {N : Int} (h : r.toInt = N % 100) : ¬ r < 0 ∧ r < (100 : Int32) := by
  simp only [Int32.lt_iff_toInt_lt, Int32.reduceToInt]
  omega
theorem own_q {x : Int32} {N : Int} (h : x.toInt = -N) (h0 : 0 ≤ N) : (x / (100 : Int32)).toInt = -(N / 100) := by
  have c := c_idiv x 100 100 (by decide) (by decide)
  by_cases z : x.toInt < 0
  · rw [c.2 z]; omega
  · rw [c.1 (by omega)]; omega
theorem own_r {x : Int32} {N : Int} (h : x.toInt = -N) (h0 : 0 ≤ N) : (((x / (100 : Int32)) * (100 : Int32)) - x).toInt = N % 100 := by
  have q := own_q h h0
  have c1 := c_imul (x / 100) 100
  have c2 := c_isub ((x / 100) * 100) x
  have b1 := Int32.toInt_lt ((x / 100) * 100 - x)
  have b2 := Int32.le_toInt ((x / 100) * 100 - x)
  have e : (100 : Int32).toInt = 100 := by decide
  have b3 := Int32.le_toInt x
  rw [q, e] at c1
  omega
theorem own_nr {x : Int32} {N : Int} (h : x.toInt = -N) (h0 : 0 ≤ N) (h1 : N < 100) : (-x).toInt = N % 100 := by
  have c := c_ineg x
  have b1 := Int32.toInt_lt (-x)
  have b2 := Int32.le_toInt (-x)
  omega
theorem own_i0 {q : Int64} (h0 : 0 ≤ q.toInt) (h1 : q.toInt < 1000000000) : (-q).toInt32.toInt = -q.toInt := by
  have c := c_lneg q
  have c2 := c_l2i (-q)
  have b1 := Int64.toInt_lt (-q)
  have b2 := Int64.le_toInt (-q)
  have b3 := Int32.toInt_lt (-q).toInt32
  have b4 := Int32.le_toInt (-q).toInt32
  omega
theorem own_cont {x : Int32} {N : Int} (h : x.toInt = -N) (h1 : 100 ≤ N) : ¬ (-100 : Int32) < x := by
  have e : (-100 : Int32).toInt = -100 := by decide
  rw [Int32.lt_iff_toInt_lt, e]
  omega
theorem own_exit {x : Int32} {N : Int} (h : x.toInt = -N) (h1 : N < 100) : (-100 : Int32) < x := by
  have e : (-100 : Int32).toInt = -100 := by decide
  rw [Int32.lt_iff_toInt_lt, e]
  omega
theorem own_two {x : Int32} {N : Int} (h : x.toInt = -N) (h1 : 10 ≤ N) : x < (-9 : Int32) := by
  have e : (-9 : Int32).toInt = -9 := by decide
  rw [Int32.lt_iff_toInt_lt, e]
  omega
theorem own_one {x : Int32} {N : Int} (h : x.toInt = -N) (h1 : N < 10) : ¬ x < (-9 : Int32) := by
  have e : (-9 : Int32).toInt = -9 := by decide
  rw [Int32.lt_iff_toInt_lt, e]
  omega
theorem own_ge0 {q : Int64} (h : 0 ≤ q.toInt) : ¬ q < (0 : Int64) := by
  have e : (0 : Int64).toInt = 0 := by decide
  rw [Int64.lt_iff_toInt_lt, e]
  omega
theorem own_ng {q p : Int64} {P : Int} (e : p.toInt = -P) (h0 : 0 ≤ q.toInt) (h : q.toInt < P) : p < (-q) := by
  have c := c_lneg q
  have b1 := Int64.toInt_lt (-q)
  have b2 := Int64.le_toInt (-q)
  have b3 := Int64.toInt_lt q
  rw [Int64.lt_iff_toInt_lt, e]
  omega
theorem own_nl {q p : Int64} {P : Int} (e : p.toInt = -P) (h0 : 0 ≤ q.toInt) (h : P ≤ q.toInt) : ¬ p < (-q) := by
  have c := c_lneg q
  have b1 := Int64.toInt_lt (-q)
  have b2 := Int64.le_toInt (-q)
  have b3 := Int64.toInt_lt q
  rw [Int64.lt_iff_toInt_lt, e]
  omega
theorem own_rm {x y : Int64} (hx : 0 ≤ x.toInt) (hy : 0 < y.toInt) : (x % y).toInt = x.toInt % y.toInt := by
  rw [Int64.toInt_mod, Int.tmod_eq_emod_of_nonneg hx]
theorem own_wn {K PL : Int64} (hk : 0 ≤ K.toInt) (h1 : 1 ≤ PL.toInt) (h2 : PL.toInt ≤ 1000000000) : (((K % PL) * (7919 : Int64)) % PL).toInt = (K.toInt % PL.toInt * 7919) % PL.toInt := by
  have a := own_rm hk (show 0 < PL.toInt by omega)
  have b1 := Int.emod_nonneg K.toInt (show PL.toInt ≠ 0 by omega)
  have b2 := Int.emod_lt_of_pos K.toInt (show 0 < PL.toInt by omega)
  have e : (7919 : Int64).toInt = 7919 := by decide
  have m : ((K % PL) * (7919 : Int64)).toInt = K.toInt % PL.toInt * 7919 := by
    rw [Int64.toInt_mul, a, e, Int.bmod_eq_of_le (by omega) (by omega)]
  rw [own_rm (by rw [m]; omega) (by omega), m]
theorem own_wl {K PL : Int64} (hk : 0 ≤ K.toInt) (h1 : 1 ≤ PL.toInt) (h2 : PL.toInt ≤ 1000000000) : (((K % PL) * ((7919 : Int64) % PL)) % PL) = (((K % PL) * (7919 : Int64)) % PL) := by
  apply Int64.toInt_inj.mp
  rw [own_wn hk h1 h2]
  have a := own_rm hk (show 0 < PL.toInt by omega)
  have b1 := Int.emod_nonneg K.toInt (show PL.toInt ≠ 0 by omega)
  have b2 := Int.emod_lt_of_pos K.toInt (show 0 < PL.toInt by omega)
  have e : (7919 : Int64).toInt = 7919 := by decide
  have d := own_rm (x := 7919) (y := PL) (by decide) (show 0 < PL.toInt by omega)
  rw [e] at d
  have d1 := Int.emod_nonneg 7919 (show PL.toInt ≠ 0 by omega)
  have d2 : (7919 : Int) % PL.toInt ≤ 7919 := by rw [Int.emod_def]; exact Int.sub_le_self _ (Int.mul_nonneg (by omega) (Int.ediv_nonneg (by decide) (by omega)))
  have m : ((K % PL) * ((7919 : Int64) % PL)).toInt = K.toInt % PL.toInt * (7919 % PL.toInt) := by
    have u : K.toInt % PL.toInt * (7919 % PL.toInt) ≤ 1000000000 * 7919 := Int.mul_le_mul (by omega) d2 d1 (by omega)
    have w : 0 ≤ K.toInt % PL.toInt * (7919 % PL.toInt) := Int.mul_nonneg b1 d1
    rw [Int64.toInt_mul, a, d, Int.bmod_eq_of_le (by omega) (by omega)]
  rw [own_rm (by rw [m]; exact Int.mul_nonneg b1 d1) (by omega), m]
  rw [Int.mul_emod (K.toInt % PL.toInt) (7919 % PL.toInt), Int.emod_emod_of_dvd 7919 (Int.dvd_refl _), ← Int.mul_emod]
theorem own_oi {M : Int} (h0 : 0 ≤ M) (h1 : M < 10000000000) : (Int64.ofInt M).toInt = M := by
  rw [Int64.toInt_ofInt, show Int64.size = 18446744073709551616 from rfl, Int.bmod_eq_of_le (by omega) (by omega)]
theorem own_dm (M : Int) : (own_dg M &&& (255 : Int32)) = own_dg M := by
  apply Int32.toInt_inj.mp
  have c := c_mask (own_dg M) 255 8 (by decide) (by decide)
  have e := own_dgi M
  omega
theorem own_step {M M' : Int} (h : M' = M / 10) (h0 : 0 ≤ M) (h1 : M < 1000000000) : ((Int64.ofInt M') * (10 : Int64)) + ((own_dg M &&& (255 : Int32)) - (48 : Int32)).toInt64 = Int64.ofInt M := by
  apply Int64.toInt_inj.mp
  rw [own_oi h0 (by omega), own_dm]
  have e := own_dgi M
  have c := c_isub (own_dg M) 48
  have b1 := Int32.toInt_lt (own_dg M - 48)
  have b2 := Int32.le_toInt (own_dg M - 48)
  have e48 : (48 : Int32).toInt = 48 := by decide
  have i := c_i2l (own_dg M - 48)
  have e10 : (10 : Int64).toInt = 10 := by decide
  have mm : ((Int64.ofInt M') * (10 : Int64)).toInt = M' * 10 := by
    rw [Int64.toInt_mul, own_oi (by omega) (by omega), e10, Int.bmod_eq_of_le (by omega) (by omega)]
  rw [Int64.toInt_add, mm, i, Int.bmod_eq_of_le (by omega) (by omega)]
  omega
theorem own_d1 (M : Int) : ¬ (own_dg M &&& (255 : Int32)) < (48 : Int32) := by
  rw [own_dm, Int32.lt_iff_toInt_lt, own_dgi]
  have e48 : (48 : Int32).toInt = 48 := by decide
  omega
theorem own_d2 (M : Int) : ¬ (57 : Int32) < (own_dg M &&& (255 : Int32)) := by
  rw [own_dm, Int32.lt_iff_toInt_lt, own_dgi]
  have e48 : (57 : Int32).toInt = 57 := by decide
  omega
theorem own_v0 {M : Int} (h0 : 0 ≤ M) (h1 : M < 1000000000) : ¬ Int64.ofInt M < (0 : Int64) := own_ge0 (by rw [own_oi h0 (by omega)]; exact h0)
theorem own_elemR {args : Array Value} {s : State} {t u : Term} {j : Nat} {x : Addr} {cl : Cell} {ty : FieldType} {v : Int32} (h : (Jvm.Cond.eq (Term.elem t (Term.index 0)) u).value args s none s [j] = some true) (ev : t.eval args s none [j] s = some (.ref x)) (A : Arr s s.heap x cl ty) (hl : cl.slots.size < 2 ^ 31) (hj : j < cl.slots.size) (eu : u.eval args s none [j] s = some (.int v)) : cl.slots[j]? = some (.int v) := by
  obtain ⟨a, b, h1, h2, k1, k2⟩ := cmp_v (Or.inl h)
  have q := elem_in h1 ev (Term.index_eval j) A.1
  have ej : j.toInt32.toNatClampNeg = j := by have := len_toInt (show j < 2 ^ 31 by omega); simp only [Int32.toNatClampNeg]; omega
  rw [ej] at q
  rw [q.2]
  cases eu.symm.trans h2
  simp only [Cond.value, h1, h2] at h
  cases a <;> simp_all [Kin, Value.isRef]
theorem own_dtab {args a0 : Array Value} {s : State} {nm : String} {rhs : Term} {F : Nat → Nat} (hx : (Jvm.Cond.exactly (.static "java/lang/Integer" nm "[B") "[B").before args s = true) (hl : (Jvm.Cond.eq (.length (.static "java/lang/Integer" nm "[B")) (.int (100 : Int32))).before args s = true)
    (ha : (Jvm.Cond.all (.static "java/lang/Integer" nm "[B") (.eq (.elem (.static "java/lang/Integer" nm "[B") (.index 0)) rhs)).before args s = true) (harr : (Jvm.Cond.arrayClass .byte).before a0 s = true) (hr : ∀ r, r < 100 → rhs.eval args s none [r] s = some (.int (Int32.ofNat (F r)))) (hF : ∀ r, r < 100 → fits .byte (.int (Int32.ofNat (F r))) = true) :
    ∃ (d : Addr) (k : ClassId), (Term.static "java/lang/Integer" nm "[B").eval args s none [] s = some (.ref d) ∧ Arv s s.heap d k .byte (100 : Int32) ((List.range 100).map fun r => Value.int (Int32.ofNat (F r))) (.int (0 : Int32)) := by
  obtain ⟨d, cB, D, kB, hev, hfcB, hcellD, hkB, hstatD, hclsD, -⟩ := Cond.exactly_spec hx
  obtain ⟨d', D', hev', harrAt, hlen⟩ := Term.length_spec (Cond.eq_int hl rfl)
  cases hev.symm.trans hev'
  obtain ⟨hcellD', hknD, -, -⟩ := State.arrayAt?_spec harrAt
  cases hcellD.symm.trans hcellD'
  obtain ⟨cB', kB', comp, hnameB, hkB', hkindB⟩ := Cond.arrayClass_spec harr
  rw [show ("[" ++ FieldType.toString .byte) = "[B" from by decide] at hnameB
  cases hfcB.symm.trans hnameB
  cases hkB.symm.trans hkB'
  have A : Arr s s.heap d D .byte := ⟨hcellD, ⟨(fun q h => by rw [h] at hstatD; cases hstatD), kB, (by rw [hclsD]; exact hkB), comp, hkindB⟩, hknD⟩
  obtain ⟨lt, sz⟩ := own_len (Cond.before_iff.mp hl) hev A
  have hsz : D.slots.size = 100 := by
    have q := len_toInt lt
    rw [sz] at q
    have e : (100 : Int32).toInt = 100 := by decide
    omega
  refine ⟨d, D.cls, hev, D, A, rfl, by rw [hsz]; rfl, by decide, ?_, ?_⟩
  · intro k hk
    have hk2 : k < 100 := by omega
    have e := Cond.all_elim hev (A.fin (Vm.Alike.refl _)) (Cond.before_iff.mp ha) k (by omega)
    rw [own_elemR e (own_idx hev [k]) A lt (by omega) (hr k hk2)]
    simp [List.getD, hk2]
  · intro i hi
    have hi2 : i < 100 := by omega
    have q := hF i hi2
    simpa [List.getD, hi2] using q
theorem own_onum : ∀ r, r < 100 → (48 : Int32) + Int32.ofNat r % 10 = Int32.ofNat (48 + r % 10) := by decide +kernel
theorem own_tnum : ∀ r, r < 100 → (48 : Int32) + Int32.ofNat r / 10 = Int32.ofNat (48 + r / 10) := by decide +kernel
theorem own_t1 {args a0 : Array Value} {s : State} (hx : (Jvm.Cond.exactly (.static "java/lang/Integer" "DigitOnes" "[B") "[B").before args s = true) (hl : (Jvm.Cond.eq (.length (.static "java/lang/Integer" "DigitOnes" "[B")) (.int (100 : Int32))).before args s = true)
    (ha : (Jvm.Cond.all (.static "java/lang/Integer" "DigitOnes" "[B") (.eq (.elem (.static "java/lang/Integer" "DigitOnes" "[B") (.index 0)) (.add (.int (48 : Int32)) (.rem (.index 0) (.int (10 : Int32)))))).before args s = true) (harr : (Jvm.Cond.arrayClass .byte).before a0 s = true) :
    ∃ (d : Addr) (k : ClassId), (Term.static "java/lang/Integer" "DigitOnes" "[B").eval args s none [] s = some (.ref d) ∧ Arv s s.heap d k .byte (100 : Int32) own_ones (.int (0 : Int32)) :=
  own_dtab (F := fun r => 48 + r % 10) hx hl ha harr (fun r hr => by rw [← own_onum r hr]; rfl) (by decide +kernel)
theorem own_t2 {args a0 : Array Value} {s : State} (hx : (Jvm.Cond.exactly (.static "java/lang/Integer" "DigitTens" "[B") "[B").before args s = true) (hl : (Jvm.Cond.eq (.length (.static "java/lang/Integer" "DigitTens" "[B")) (.int (100 : Int32))).before args s = true)
    (ha : (Jvm.Cond.all (.static "java/lang/Integer" "DigitTens" "[B") (.eq (.elem (.static "java/lang/Integer" "DigitTens" "[B") (.index 0)) (.add (.int (48 : Int32)) (.div (.index 0) (.int (10 : Int32)))))).before args s = true) (harr : (Jvm.Cond.arrayClass .byte).before a0 s = true) :
    ∃ (d : Addr) (k : ClassId), (Term.static "java/lang/Integer" "DigitTens" "[B").eval args s none [] s = some (.ref d) ∧ Arv s s.heap d k .byte (100 : Int32) own_tens (.int (0 : Int32)) :=
  own_dtab (F := fun r => 48 + r / 10) hx hl ha harr (fun r hr => by rw [← own_tnum r hr]; rfl) (by decide +kernel)
theorem own_wS {Z : State} {a0 : Array Value} (hw : ∀ d ∈ tables_1, d.before a0 Z = true) : ∀ a ∈ Bundle.stringAtoms, a.before a0 Z = true := by
  intro d hd
  simp only [Bundle.stringAtoms, List.mem_cons, List.not_mem_nil, or_false] at hd
  rcases hd with rfl | rfl | rfl | rfl | rfl | rfl | rfl
  · exact hw _ (List.mem_of_getElem? (i := 44) rfl)
  · exact hw _ (List.mem_of_getElem? (i := 51) rfl)
  · exact hw _ (List.mem_of_getElem? (i := 45) rfl)
  · exact hw _ (List.mem_of_getElem? (i := 52) rfl)
  · exact hw _ (List.mem_of_getElem? (i := 53) rfl)
  · exact hw _ (List.mem_of_getElem? (i := 54) rfl)
  · exact hw _ (List.mem_of_getElem? (i := 55) rfl)
def own_ck (p : Int32) (k : Int64) : Int64 := if p = (0 : Int32) then k else if p < (200 : Int32) then k else if p < (300 : Int32) then (k + (1 : Int64)) else k
def own_co (p : Int32) (k : Int64) : Int64 := if p = (0 : Int32) then k else if p < (200 : Int32) then (k + (1 : Int64)) else if p < (300 : Int32) then k else (k + (1 : Int64))
def own_ce (p : Int32) (k : Int64) : Int64 := if p = (0 : Int32) then (k + (1 : Int64)) else k

theorem d12_0 : decode jdk_42_method_152_code 0 = .ok (.getstatic 38, 3) := by decide +kernel
theorem d12_3 : decode jdk_42_method_152_code 3 = .ok (.ifCond .eq 10, 3) := by decide +kernel
theorem d12_6 : decode jdk_42_method_152_code 6 = .ok (.aload_n 0, 1) := by decide +kernel
theorem d12_7 : decode jdk_42_method_152_code 7 = .ok (.getfield 15, 3) := by decide +kernel
theorem d12_10 : decode jdk_42_method_152_code 10 = .ok (.goto 4, 3) := by decide +kernel
theorem d12_14 : decode jdk_42_method_152_code 14 = .ok (.ireturn, 1) := by decide +kernel
theorem ef_cod (m : MethodId) (x0 : Addr) : entryFrame m #[(.ref x0)] 1 = mkF m 0 #[.val (.ref x0)] [] := by first | (simp [entryFrame, mkF, argsToLocals, Value.category]; done) | rfl
def Qcod (Z : State) (o0 : Addr) (cs : Int32) (h0 : Heap) (n0 : Nat) (v : Option Value) (h : Heap) (L : List Loc) : Prop := (v = some (.int (0 : Int32))) ∧ (Fr n0 L) ∧ (h = h0)
set_option maxRecDepth 65536 in
set_option maxHeartbeats 40000000 in
theorem rmcod (l : Launch) (Z : State) (a0 : Array Value) (hw : ∀ d ∈ tables_1, d.before a0 Z = true) (ws : List Jvm.Cond) (o0 : Addr) (cs : Int32) (h0 : Heap) (n0 : Nat) (Z0 : n0 ≤ h0.size) (S_COMPACT_STRINGS : Sta Z h0 "java/lang/String" "COMPACT_STRINGS" "Z" (.int cs)) (hcs : ¬ cs = (0 : Int32)) (F_coder_o0 : Fld Z h0 o0 "java/lang/String" "coder" "B" (.int (0 : Int32))) :
    MetFree l (⟨"java/lang/String", "coder", "()B"⟩ : MethodName) (head1 (Jvm.Cond.code (⟨"java/lang/String", "coder", "()B"⟩ : MethodName) jdk_42_method_152_code 1 (some .byte) :: ws) ({ frames := 0, cells := 0, slots := 0, locals := 0 } : Room)) (fun a U => a = #[(.ref o0)] ∧ Z.Warmed39 U.vm ∧ U.heap = h0) (fun _ _ _ _ _ => True) (fun _ U o U' => ∃ v L, o = .returned v ∧ Qcod Z o0 cs h0 n0 v U'.heap L ∧ FrameEnd U o U' L ({ frames := 0, cells := 0, slots := 0, locals := 0 } : Room).cells ({ frames := 0, cells := 0, slots := 0, locals := 0 } : Room).slots) := by
  refine MetFree.of_bodySF (plainFor_of_name pn_0) hisR ?_
  intro p e s m args below meth c s₁ Bd hml0 hP hK
  obtain ⟨rfl, hZ, hh⟩ := hP
  have hx := Bd.exec
  have hby := Bd.bytes
  have hml : c.maxLocals = 1 := hml0
  have hown : s.vm.findClass "java/lang/String" = some m.cls := findClass_of_methodNamed Bd.named
  have hnm := (name_of_methodNamed Bd.named Bd.method).1
  have X0 : Stand p l e ({ frames := 0, cells := 0, slots := 0, locals := 0 } : Room) s m #[(.ref o0)] below meth c s₁ [] 0 0 := Stand.of_body Bd
  have e0 : s₁.heap = h0 := by rw [← hh, Bd.state]; rfl
  have N0 := Fr.nil n0
  refine Ends.opn ?_
  intro QQ hQQ
  refine Ends.step (S' := s₁.setTop (mkF m 0 #[.val (.ref o0)] [])) (fun t k => castTop (ef_cod m o0) k) ?_
  show Ends p e below QQ (s₁.setTop (mkF m 0 #[.val (.ref o0)] []))
  obtain ⟨T1, X1, e1, st1⟩ := getS2 X0 hx hZ hown (host := "") (Or.inl (hw _ (List.mem_of_getElem? (i := 77) rfl))) Via.refl e0 S_COMPACT_STRINGS (g := (mkF m 0 #[.val (.ref o0)] [])) rfl (hb hby d12_0)
  refine Ends.step st1 ?_
  show Ends p e below QQ (T1.setTop (mkF m 3 #[.val (.ref o0)] [(.int cs)]))
  have hc3 : ¬ (cs = (0 : Int32)) := hcs
  refine Ends.step (fun _ k => XS.ifNo X1.here hx rfl (hb hby d12_3) rfl (XT.i0_eq_f hc3) k) ?_
  show Ends p e below QQ (T1.setTop (mkF m 6 #[.val (.ref o0)] []))
  refine Ends.step (fun _ k => XS.aloadN X1.here hx rfl (hb hby d12_6) rfl rfl k) ?_
  show Ends p e below QQ (T1.setTop (mkF m 7 #[.val (.ref o0)] [(.ref o0)]))
  obtain ⟨T2, X2, e2, st2⟩ := getF X1 hx hZ hown (host := "") (Or.inl (hw _ (List.mem_of_getElem? (i := 78) rfl))) Via.refl e1 F_coder_o0 (g := (mkF m 7 #[.val (.ref o0)] [(.ref o0)])) rfl rfl (hb hby d12_7)
  refine Ends.step st2 ?_
  show Ends p e below QQ (T2.setTop (mkF m 10 #[.val (.ref o0)] [(.int (0 : Int32))]))
  refine Ends.step (fun _ k => XS.goto X2.here hx rfl (pc0 := 10) (pc' := 14) rfl (hb hby d12_10) (by decide) (by decide) k) ?_
  show Ends p e below QQ (T2.setTop (mkF m 14 #[.val (.ref o0)] [(.int (0 : Int32))]))
  exact Ends.fin (some (.int (0 : Int32))) X2 hQQ (fun h => by rw [Bd.returns] at h; cases h) Bd.notSynchronized (fun _ hr => retOut X2 hx (t := .byte) Bd.returns rfl (Or.inl ⟨rfl, (by simp), _, rfl⟩) (hb hby d12_14) hr) e2 (by decide) (by decide) ⟨rfl, N0, rfl⟩
theorem d11_0 : decode jdk_42_method_54_code 0 = .ok (.aload_n 0, 1) := by decide +kernel
theorem d11_1 : decode jdk_42_method_54_code 1 = .ok (.getfield 9, 3) := by decide +kernel
theorem d11_4 : decode jdk_42_method_54_code 4 = .ok (.arraylength, 1) := by decide +kernel
theorem d11_5 : decode jdk_42_method_54_code 5 = .ok (.aload_n 0, 1) := by decide +kernel
theorem d11_6 : decode jdk_42_method_54_code 6 = .ok (.invokevirtual 335, 3) := by decide +kernel
theorem d11_9 : decode jdk_42_method_54_code 9 = .ok (.ishr, 1) := by decide +kernel
theorem d11_10 : decode jdk_42_method_54_code 10 = .ok (.ireturn, 1) := by decide +kernel
theorem ef_len (m : MethodId) (x0 : Addr) : entryFrame m #[(.ref x0)] 1 = mkF m 0 #[.val (.ref x0)] [] := by first | (simp [entryFrame, mkF, argsToLocals, Value.category]; done) | rfl
def Qlen (Z : State) (o0 : Addr) (t : Addr) (k : ClassId) (n : Int32) (vs : List Value) (cs : Int32) (h0 : Heap) (n0 : Nat) (v : Option Value) (h : Heap) (L : List Loc) : Prop := (v = some (.int n)) ∧ (Fr n0 L) ∧ (h = h0)
set_option maxRecDepth 65536 in
set_option maxHeartbeats 40000000 in
theorem rmlen (l : Launch) (Z : State) (a0 : Array Value) (hw : ∀ d ∈ tables_1, d.before a0 Z = true) (ws : List Jvm.Cond) (o0 : Addr) (t : Addr) (k : ClassId) (n : Int32) (vs : List Value) (cs : Int32) (h0 : Heap) (n0 : Nat) (Z0 : n0 ≤ h0.size) (E_o0 : Exa Z h0 o0 "java/lang/String") (F_value_o0 : Fld Z h0 o0 "java/lang/String" "value" "[B" (.ref t)) (A_t : Arv Z h0 t k .byte n vs (.int (0 : Int32))) (S_COMPACT_STRINGS : Sta Z h0 "java/lang/String" "COMPACT_STRINGS" "Z" (.int cs)) (hcs : ¬ cs = (0 : Int32)) (F_coder_o0 : Fld Z h0 o0 "java/lang/String" "coder" "B" (.int (0 : Int32))) :
    MetFree l (⟨"java/lang/String", "length", "()I"⟩ : MethodName) (head1 (Jvm.Cond.code (⟨"java/lang/String", "length", "()I"⟩ : MethodName) jdk_42_method_54_code 1 (some .int) :: ws) ({ frames := 1, cells := 0, slots := 0, locals := 13 } : Room)) (fun a U => a = #[(.ref o0)] ∧ Z.Warmed39 U.vm ∧ U.heap = h0) (fun _ _ _ _ _ => True) (fun _ U o U' => ∃ v L, o = .returned v ∧ Qlen Z o0 t k n vs cs h0 n0 v U'.heap L ∧ FrameEnd U o U' L ({ frames := 1, cells := 0, slots := 0, locals := 13 } : Room).cells ({ frames := 1, cells := 0, slots := 0, locals := 13 } : Room).slots) := by
  refine MetFree.of_bodySF (plainFor_of_name pn_0) hisR ?_
  intro p e s m args below meth c s₁ Bd hml0 hP hK
  obtain ⟨rfl, hZ, hh⟩ := hP
  have hx := Bd.exec
  have hby := Bd.bytes
  have hml : c.maxLocals = 1 := hml0
  have hown : s.vm.findClass "java/lang/String" = some m.cls := findClass_of_methodNamed Bd.named
  have hnm := (name_of_methodNamed Bd.named Bd.method).1
  have X0 : Stand p l e ({ frames := 1, cells := 0, slots := 0, locals := 13 } : Room) s m #[(.ref o0)] below meth c s₁ [] 0 0 := Stand.of_body Bd
  have e0 : s₁.heap = h0 := by rw [← hh, Bd.state]; rfl
  have N0 := Fr.nil n0
  refine Ends.opn ?_
  intro QQ hQQ
  refine Ends.step (S' := s₁.setTop (mkF m 0 #[.val (.ref o0)] [])) (fun t k => castTop (ef_len m o0) k) ?_
  show Ends p e below QQ (s₁.setTop (mkF m 0 #[.val (.ref o0)] []))
  refine Ends.step (fun _ k => XS.aloadN X0.here hx rfl (hb hby d11_0) rfl rfl k) ?_
  show Ends p e below QQ (s₁.setTop (mkF m 1 #[.val (.ref o0)] [(.ref o0)]))
  obtain ⟨T3, X3, e3, st3⟩ := getF X0 hx hZ hown (host := "") (Or.inl (hw _ (List.mem_of_getElem? (i := 71) rfl))) Via.refl e0 F_value_o0 (g := (mkF m 1 #[.val (.ref o0)] [(.ref o0)])) rfl rfl (hb hby d11_1)
  refine Ends.step st3 ?_
  show Ends p e below QQ (T3.setTop (mkF m 4 #[.val (.ref o0)] [(.ref t)]))
  obtain ⟨cl4, Ar4, -, S4, P4, -, -⟩ := id A_t
  refine Ends.step (S' := T3.setTop (mkF m 5 #[.val (.ref o0)] [(.int n)])) (fun _ k => X3.arraylength hx (by rw [e3]; exact Ar4.1) (State.isArrayOf_alike hZ.alike Ar4.2.1) (g := (mkF m 4 #[.val (.ref o0)] [(.ref t)])) rfl rfl (hb hby d11_4) _ (by rw [len_of S4 P4]; exact k)) ?_
  show Ends p e below QQ (T3.setTop (mkF m 5 #[.val (.ref o0)] [(.int n)]))
  refine Ends.step (fun _ k => XS.aloadN X3.here hx rfl (hb hby d11_5) rfl rfl k) ?_
  show Ends p e below QQ (T3.setTop (mkF m 6 #[.val (.ref o0)] [(.ref o0), (.int n)]))
  obtain ⟨cq5, kq5, q5a, q5b, q5c⟩ := isOf hZ e3 E_o0
  obtain ⟨_, _, ⟨T5, L5, k5, n5⟩, -, X5, ⟨Lc5, hQ5, l5, y5, z5⟩, st5⟩ := X3.virtualBack hx (y := (⟨"java/lang/String", "coder", "()B"⟩ : MethodName)) (z := (⟨"java/lang/String", "coder", "()B"⟩ : MethodName)) hown (mvT hZ (hw _ (List.mem_of_getElem? (i := 72) rfl))) (mvT hZ (hw _ (List.mem_of_getElem? (i := 73) rfl))) (notFace_of_selects (args := #[]) (mvT hZ (hw _ (List.mem_of_getElem? (i := 75) rfl)))) (mvT hZ (hw _ (List.mem_of_getElem? (i := 75) rfl))) (mvT hZ (hw _ (List.mem_of_getElem? (i := 74) rfl))) (by decide) (backOf (W := 1) (rmcod l Z a0 hw [] o0 cs h0 n0 (Nat.le_trans Z0 (Keep.refl h0 []).1) S_COMPACT_STRINGS hcs F_coder_o0) hZ (hw _ (List.mem_of_getElem? (i := 76) rfl)) (hw _ (List.mem_of_getElem? (i := 44) rfl)) (by decide) (by decide)) q5a q5c (g := (mkF m 6 #[.val (.ref o0)] [(.ref o0), (.int n)])) rfl (by rw [hml]; rfl) (Steps.refl _) (argsL := []) (rest := [(.int n)]) (lenOf pd_0 rfl) rfl (by show 2 * 0 + _ ≤ _; exact Nat.le_of_eq rfl) (hb hby d11_6) (fun _ _ => ⟨rfl, e3, (by decide : 0 + 0 ≤ _), (by decide : 0 + 0 ≤ _)⟩)
  dsimp only [Pt.U, Pt.locs, Pt.cells, Pt.slots] at X5 l5 y5 z5 st5 hQ5
  subst l5 y5 z5
  obtain ⟨rfl, Nq5, hh5⟩ := hQ5
  have N5 := Fr.app N0 Nq5
  refine Ends.step (fun _ k => st5.trans k) ?_
  show Ends p e below QQ (T5.setTop (mkF m 9 #[.val (.ref o0)] [(.int (0 : Int32)), (.int n)]))
  refine Ends.step (fun _ k => XS.ishr X5.here hx rfl (hb hby d11_9) rfl k) ?_
  show Ends p e below QQ (T5.setTop (mkF m 10 #[.val (.ref o0)] [(.int (n >>> ((0 : Int32) &&& 31)))]))
  exact Ends.fin (some (.int (n >>> ((0 : Int32) &&& 31)))) X5 hQQ (fun h => by rw [Bd.returns] at h; cases h) Bd.notSynchronized (fun _ hr => retOut X5 hx (t := .int) Bd.returns rfl (Or.inl ⟨rfl, Or.inl rfl, _, rfl⟩) (hb hby d11_10) hr) hh5 (by decide) (by decide) ⟨(by rw [own_shr0]), N5, rfl⟩
theorem d37_0 : decode jdk_42_method_154_code 0 = .ok (.getstatic 38, 3) := by decide +kernel
theorem d37_3 : decode jdk_42_method_154_code 3 = .ok (.ifCond .eq 14, 3) := by decide +kernel
theorem d37_6 : decode jdk_42_method_154_code 6 = .ok (.aload_n 0, 1) := by decide +kernel
theorem d37_7 : decode jdk_42_method_154_code 7 = .ok (.getfield 15, 3) := by decide +kernel
theorem d37_10 : decode jdk_42_method_154_code 10 = .ok (.ifCond .ne 7, 3) := by decide +kernel
theorem d37_13 : decode jdk_42_method_154_code 13 = .ok (.iconst 1, 1) := by decide +kernel
theorem d37_14 : decode jdk_42_method_154_code 14 = .ok (.goto 4, 3) := by decide +kernel
theorem d37_18 : decode jdk_42_method_154_code 18 = .ok (.ireturn, 1) := by decide +kernel
theorem ef_lat (m : MethodId) (x0 : Addr) : entryFrame m #[(.ref x0)] 1 = mkF m 0 #[.val (.ref x0)] [] := by first | (simp [entryFrame, mkF, argsToLocals, Value.category]; done) | rfl
def Qlat (Z : State) (o0 : Addr) (cs : Int32) (h0 : Heap) (n0 : Nat) (v : Option Value) (h : Heap) (L : List Loc) : Prop := (v = some (.int (1 : Int32))) ∧ (Fr n0 L) ∧ (h = h0)
set_option maxRecDepth 65536 in
set_option maxHeartbeats 40000000 in
theorem rmlat (l : Launch) (Z : State) (a0 : Array Value) (hw : ∀ d ∈ tables_1, d.before a0 Z = true) (ws : List Jvm.Cond) (o0 : Addr) (cs : Int32) (h0 : Heap) (n0 : Nat) (Z0 : n0 ≤ h0.size) (S_COMPACT_STRINGS : Sta Z h0 "java/lang/String" "COMPACT_STRINGS" "Z" (.int cs)) (hcs : ¬ cs = (0 : Int32)) (F_coder_o0 : Fld Z h0 o0 "java/lang/String" "coder" "B" (.int (0 : Int32))) :
    MetFree l (⟨"java/lang/String", "isLatin1", "()Z"⟩ : MethodName) (head1 (Jvm.Cond.code (⟨"java/lang/String", "isLatin1", "()Z"⟩ : MethodName) jdk_42_method_154_code 1 (some .boolean) :: ws) ({ frames := 0, cells := 0, slots := 0, locals := 0 } : Room)) (fun a U => a = #[(.ref o0)] ∧ Z.Warmed39 U.vm ∧ U.heap = h0) (fun _ _ _ _ _ => True) (fun _ U o U' => ∃ v L, o = .returned v ∧ Qlat Z o0 cs h0 n0 v U'.heap L ∧ FrameEnd U o U' L ({ frames := 0, cells := 0, slots := 0, locals := 0 } : Room).cells ({ frames := 0, cells := 0, slots := 0, locals := 0 } : Room).slots) := by
  refine MetFree.of_bodySF (plainFor_of_name pn_0) hisR ?_
  intro p e s m args below meth c s₁ Bd hml0 hP hK
  obtain ⟨rfl, hZ, hh⟩ := hP
  have hx := Bd.exec
  have hby := Bd.bytes
  have hml : c.maxLocals = 1 := hml0
  have hown : s.vm.findClass "java/lang/String" = some m.cls := findClass_of_methodNamed Bd.named
  have hnm := (name_of_methodNamed Bd.named Bd.method).1
  have X0 : Stand p l e ({ frames := 0, cells := 0, slots := 0, locals := 0 } : Room) s m #[(.ref o0)] below meth c s₁ [] 0 0 := Stand.of_body Bd
  have e0 : s₁.heap = h0 := by rw [← hh, Bd.state]; rfl
  have N0 := Fr.nil n0
  refine Ends.opn ?_
  intro QQ hQQ
  refine Ends.step (S' := s₁.setTop (mkF m 0 #[.val (.ref o0)] [])) (fun t k => castTop (ef_lat m o0) k) ?_
  show Ends p e below QQ (s₁.setTop (mkF m 0 #[.val (.ref o0)] []))
  obtain ⟨T6, X6, e6, st6⟩ := getS2 X0 hx hZ hown (host := "") (Or.inl (hw _ (List.mem_of_getElem? (i := 77) rfl))) Via.refl e0 S_COMPACT_STRINGS (g := (mkF m 0 #[.val (.ref o0)] [])) rfl (hb hby d37_0)
  refine Ends.step st6 ?_
  show Ends p e below QQ (T6.setTop (mkF m 3 #[.val (.ref o0)] [(.int cs)]))
  have hc3 : ¬ (cs = (0 : Int32)) := hcs
  refine Ends.step (fun _ k => XS.ifNo X6.here hx rfl (hb hby d37_3) rfl (XT.i0_eq_f hc3) k) ?_
  show Ends p e below QQ (T6.setTop (mkF m 6 #[.val (.ref o0)] []))
  refine Ends.step (fun _ k => XS.aloadN X6.here hx rfl (hb hby d37_6) rfl rfl k) ?_
  show Ends p e below QQ (T6.setTop (mkF m 7 #[.val (.ref o0)] [(.ref o0)]))
  obtain ⟨T7, X7, e7, st7⟩ := getF X6 hx hZ hown (host := "") (Or.inl (hw _ (List.mem_of_getElem? (i := 78) rfl))) Via.refl e6 F_coder_o0 (g := (mkF m 7 #[.val (.ref o0)] [(.ref o0)])) rfl rfl (hb hby d37_7)
  refine Ends.step st7 ?_
  show Ends p e below QQ (T7.setTop (mkF m 10 #[.val (.ref o0)] [(.int (0 : Int32))]))
  refine Ends.step (fun _ k => XS.ifNo X7.here hx rfl (hb hby d37_10) rfl (XT.i0_ne_f (by decide)) k) ?_
  show Ends p e below QQ (T7.setTop (mkF m 13 #[.val (.ref o0)] []))
  refine Ends.step (fun _ k => XT.iconstV X7.here hx rfl (1 : Int32) (hb hby d37_13) rfl k) ?_
  show Ends p e below QQ (T7.setTop (mkF m 14 #[.val (.ref o0)] [(.int (1 : Int32))]))
  refine Ends.step (fun _ k => XS.goto X7.here hx rfl (pc0 := 14) (pc' := 18) rfl (hb hby d37_14) (by decide) (by decide) k) ?_
  show Ends p e below QQ (T7.setTop (mkF m 18 #[.val (.ref o0)] [(.int (1 : Int32))]))
  exact Ends.fin (some (.int (1 : Int32))) X7 hQQ (fun h => by rw [Bd.returns] at h; cases h) Bd.notSynchronized (fun _ hr => retOut X7 hx (t := .boolean) Bd.returns rfl (Or.inl ⟨rfl, (by simp), _, rfl⟩) (hb hby d37_18) hr) e7 (by decide) (by decide) ⟨rfl, N0, rfl⟩
theorem d40_0 : decode jdk_41_method_11_code 0 = .ok (.iload_n 0, 1) := by decide +kernel
theorem d40_1 : decode jdk_41_method_11_code 1 = .ok (.ifCond .lt 8, 3) := by decide +kernel
theorem d40_4 : decode jdk_41_method_11_code 4 = .ok (.iload_n 0, 1) := by decide +kernel
theorem d40_5 : decode jdk_41_method_11_code 5 = .ok (.iload_n 1, 1) := by decide +kernel
theorem d40_6 : decode jdk_41_method_11_code 6 = .ok (.if_icmp .lt 10, 3) := by decide +kernel
theorem d40_16 : decode jdk_41_method_11_code 16 = .ok (.iload_n 0, 1) := by decide +kernel
theorem d40_17 : decode jdk_41_method_11_code 17 = .ok (.ireturn, 1) := by decide +kernel
theorem ef_pci (m : MethodId) (x0 : Int32) (x1 : Int32) (x2 : Value) (hx2 : x2.isRef = true) : entryFrame m #[(.int x0), (.int x1), x2] 3 = mkF m 0 #[.val (.int x0), .val (.int x1), .val x2] [] := by
  rcases XT.refc hx2 with rfl | ⟨_, rfl⟩ <;> rfl
def Qpci (Z : State) (p0 : Int32) (p1 : Int32) (r2 : Value) (h0 : Heap) (n0 : Nat) (v : Option Value) (h : Heap) (L : List Loc) : Prop := (v = some (.int p0)) ∧ (Fr n0 L) ∧ (h = h0)
set_option maxRecDepth 65536 in
set_option maxHeartbeats 40000000 in
theorem rmpci (l : Launch) (Z : State) (a0 : Array Value) (hw : ∀ d ∈ tables_1, d.before a0 Z = true) (ws : List Jvm.Cond) (p0 : Int32) (p1 : Int32) (r2 : Value) (h0 : Heap) (n0 : Nat) (Z0 : n0 ≤ h0.size) (hr_r2 : r2.isRef = true) (h1 : ¬ p0 < (0 : Int32)) (h2 : p0 < p1) :
    MetFree l (⟨"jdk/internal/util/Preconditions", "checkIndex", "(IILjava/util/function/BiFunction;)I"⟩ : MethodName) (head1 (Jvm.Cond.code (⟨"jdk/internal/util/Preconditions", "checkIndex", "(IILjava/util/function/BiFunction;)I"⟩ : MethodName) jdk_41_method_11_code 3 (some .int) :: ws) ({ frames := 0, cells := 0, slots := 0, locals := 0 } : Room)) (fun a U => a = #[(.int p0), (.int p1), r2] ∧ Z.Warmed39 U.vm ∧ U.heap = h0) (fun _ _ _ _ _ => True) (fun _ U o U' => ∃ v L, o = .returned v ∧ Qpci Z p0 p1 r2 h0 n0 v U'.heap L ∧ FrameEnd U o U' L ({ frames := 0, cells := 0, slots := 0, locals := 0 } : Room).cells ({ frames := 0, cells := 0, slots := 0, locals := 0 } : Room).slots) := by
  refine MetFree.of_bodySF (plainFor_of_name pn_1) hisR ?_
  intro p e s m args below meth c s₁ Bd hml0 hP hK
  obtain ⟨rfl, hZ, hh⟩ := hP
  have hx := Bd.exec
  have hby := Bd.bytes
  have hml : c.maxLocals = 3 := hml0
  have hown : s.vm.findClass "jdk/internal/util/Preconditions" = some m.cls := findClass_of_methodNamed Bd.named
  have hnm := (name_of_methodNamed Bd.named Bd.method).1
  have X0 : Stand p l e ({ frames := 0, cells := 0, slots := 0, locals := 0 } : Room) s m #[(.int p0), (.int p1), r2] below meth c s₁ [] 0 0 := Stand.of_body Bd
  have e0 : s₁.heap = h0 := by rw [← hh, Bd.state]; rfl
  have N0 := Fr.nil n0
  refine Ends.opn ?_
  intro QQ hQQ
  refine Ends.step (S' := s₁.setTop (mkF m 0 #[.val (.int p0), .val (.int p1), .val r2] [])) (fun t k => castTop (ef_pci m p0 p1 r2 hr_r2) k) ?_
  show Ends p e below QQ (s₁.setTop (mkF m 0 #[.val (.int p0), .val (.int p1), .val r2] []))
  refine Ends.step (fun _ k => XS.iloadN X0.here hx rfl (hb hby d40_0) rfl k) ?_
  show Ends p e below QQ (s₁.setTop (mkF m 1 #[.val (.int p0), .val (.int p1), .val r2] [(.int p0)]))
  have hc1 : ¬ (p0 < (0 : Int32)) := h1
  refine Ends.step (fun _ k => XS.ifNo X0.here hx rfl (hb hby d40_1) rfl (XT.i0_lt_f hc1) k) ?_
  show Ends p e below QQ (s₁.setTop (mkF m 4 #[.val (.int p0), .val (.int p1), .val r2] []))
  refine Ends.step (fun _ k => XS.iloadN X0.here hx rfl (hb hby d40_4) rfl k) ?_
  show Ends p e below QQ (s₁.setTop (mkF m 5 #[.val (.int p0), .val (.int p1), .val r2] [(.int p0)]))
  refine Ends.step (fun _ k => XS.iloadN X0.here hx rfl (hb hby d40_5) rfl k) ?_
  show Ends p e below QQ (s₁.setTop (mkF m 6 #[.val (.int p0), .val (.int p1), .val r2] [(.int p1), (.int p0)]))
  have hc6 : p0 < p1 := h2
  refine Ends.step (fun _ k => XS.icmpYes X0.here hx rfl (pc0 := 6) (pc' := 16) rfl (hb hby d40_6) rfl (XT.ii_lt_t hc6) (by decide) (by decide) k) ?_
  show Ends p e below QQ (s₁.setTop (mkF m 16 #[.val (.int p0), .val (.int p1), .val r2] []))
  refine Ends.step (fun _ k => XS.iloadN X0.here hx rfl (hb hby d40_16) rfl k) ?_
  show Ends p e below QQ (s₁.setTop (mkF m 17 #[.val (.int p0), .val (.int p1), .val r2] [(.int p0)]))
  exact Ends.fin (some (.int p0)) X0 hQQ (fun h => by rw [Bd.returns] at h; cases h) Bd.notSynchronized (fun _ hr => retOut X0 hx (t := .int) Bd.returns rfl (Or.inl ⟨rfl, Or.inl rfl, _, rfl⟩) (hb hby d40_17) hr) e0 (by decide) (by decide) ⟨rfl, N0, rfl⟩
theorem d39_0 : decode jdk_42_method_155_code 0 = .ok (.iload_n 0, 1) := by decide +kernel
theorem d39_1 : decode jdk_42_method_155_code 1 = .ok (.iload_n 1, 1) := by decide +kernel
theorem d39_2 : decode jdk_42_method_155_code 2 = .ok (.getstatic 1053, 3) := by decide +kernel
theorem d39_5 : decode jdk_42_method_155_code 5 = .ok (.invokestatic 1059, 3) := by decide +kernel
theorem d39_8 : decode jdk_42_method_155_code 8 = .ok (.pop, 1) := by decide +kernel
theorem d39_9 : decode jdk_42_method_155_code 9 = .ok (.return_, 1) := by decide +kernel
theorem ef_sci (m : MethodId) (x0 : Int32) (x1 : Int32) : entryFrame m #[(.int x0), (.int x1)] 2 = mkF m 0 #[.val (.int x0), .val (.int x1)] [] := by first | (simp [entryFrame, mkF, argsToLocals, Value.category]; done) | rfl
def Qsci (Z : State) (p0 : Int32) (p1 : Int32) (sf : Value) (h0 : Heap) (n0 : Nat) (v : Option Value) (h : Heap) (L : List Loc) : Prop := (v = none) ∧ (Fr n0 L) ∧ (h = h0)
set_option maxRecDepth 65536 in
set_option maxHeartbeats 40000000 in
theorem rmsci (l : Launch) (Z : State) (a0 : Array Value) (hw : ∀ d ∈ tables_1, d.before a0 Z = true) (ws : List Jvm.Cond) (p0 : Int32) (p1 : Int32) (sf : Value) (h0 : Heap) (n0 : Nat) (Z0 : n0 ≤ h0.size) (S_SIOOBE_FORMATTER : Sta Z h0 "jdk/internal/util/Preconditions" "SIOOBE_FORMATTER" "Ljava/util/function/BiFunction;" sf) (hr_sf : sf.isRef = true) (h1 : ¬ p0 < (0 : Int32)) (h2 : p0 < p1) :
    MetFree l (⟨"java/lang/String", "checkIndex", "(II)V"⟩ : MethodName) (head1 (Jvm.Cond.code (⟨"java/lang/String", "checkIndex", "(II)V"⟩ : MethodName) jdk_42_method_155_code 2 none :: ws) ({ frames := 1, cells := 0, slots := 0, locals := 14 } : Room)) (fun a U => a = #[(.int p0), (.int p1)] ∧ Z.Warmed39 U.vm ∧ U.heap = h0) (fun _ _ _ _ _ => True) (fun _ U o U' => ∃ v L, o = .returned v ∧ Qsci Z p0 p1 sf h0 n0 v U'.heap L ∧ FrameEnd U o U' L ({ frames := 1, cells := 0, slots := 0, locals := 14 } : Room).cells ({ frames := 1, cells := 0, slots := 0, locals := 14 } : Room).slots) := by
  refine MetFree.of_bodySF (plainFor_of_name pn_0) hisR ?_
  intro p e s m args below meth c s₁ Bd hml0 hP hK
  obtain ⟨rfl, hZ, hh⟩ := hP
  have hx := Bd.exec
  have hby := Bd.bytes
  have hml : c.maxLocals = 2 := hml0
  have hown : s.vm.findClass "java/lang/String" = some m.cls := findClass_of_methodNamed Bd.named
  have hnm := (name_of_methodNamed Bd.named Bd.method).1
  have X0 : Stand p l e ({ frames := 1, cells := 0, slots := 0, locals := 14 } : Room) s m #[(.int p0), (.int p1)] below meth c s₁ [] 0 0 := Stand.of_body Bd
  have e0 : s₁.heap = h0 := by rw [← hh, Bd.state]; rfl
  have N0 := Fr.nil n0
  refine Ends.opn ?_
  intro QQ hQQ
  refine Ends.step (S' := s₁.setTop (mkF m 0 #[.val (.int p0), .val (.int p1)] [])) (fun t k => castTop (ef_sci m p0 p1) k) ?_
  show Ends p e below QQ (s₁.setTop (mkF m 0 #[.val (.int p0), .val (.int p1)] []))
  refine Ends.step (fun _ k => XS.iloadN X0.here hx rfl (hb hby d39_0) rfl k) ?_
  show Ends p e below QQ (s₁.setTop (mkF m 1 #[.val (.int p0), .val (.int p1)] [(.int p0)]))
  refine Ends.step (fun _ k => XS.iloadN X0.here hx rfl (hb hby d39_1) rfl k) ?_
  show Ends p e below QQ (s₁.setTop (mkF m 2 #[.val (.int p0), .val (.int p1)] [(.int p1), (.int p0)]))
  obtain ⟨T8, X8, e8, st8⟩ := getS2 X0 hx hZ hown (host := "") (Or.inl (hw _ (List.mem_of_getElem? (i := 213) rfl))) Via.refl e0 S_SIOOBE_FORMATTER (g := (mkF m 2 #[.val (.int p0), .val (.int p1)] [(.int p1), (.int p0)])) rfl (hb hby d39_2)
  refine Ends.step st8 ?_
  show Ends p e below QQ (T8.setTop (mkF m 5 #[.val (.int p0), .val (.int p1)] [sf, (.int p1), (.int p0)]))
  obtain ⟨_, _, ⟨T9, L9, k9, n9⟩, -, X9, ⟨Lc9, hQ9, l9, y9, z9⟩, st9⟩ := Jvm.LawKit.callS X8 hx (y := (⟨"jdk/internal/util/Preconditions", "checkIndex", "(IILjava/util/function/BiFunction;)I"⟩ : MethodName)) hown (mvT hZ (hw _ (List.mem_of_getElem? (i := 215) rfl))) (mvT hZ (hw _ (List.mem_of_getElem? (i := 216) rfl))) (mvT hZ (hw _ (List.mem_of_getElem? (i := 214) rfl))) (mvT hZ (hw _ (List.mem_of_getElem? (i := 217) rfl))) (by decide) (backOf (W := 0) (rmpci l Z a0 hw [] p0 p1 sf h0 n0 (Nat.le_trans Z0 (Keep.refl h0 []).1) hr_sf h1 h2) hZ (hw _ (List.mem_of_getElem? (i := 217) rfl)) (hw _ (List.mem_of_getElem? (i := 214) rfl)) (by decide) (by decide)) (g := (mkF m 5 #[.val (.int p0), .val (.int p1)] [sf, (.int p1), (.int p0)])) rfl (by rw [hml]; rfl) (argsL := [(.int p0), (.int p1), sf]) (rest := []) (lenOf pd_1 rfl) rfl (by show 2 * 0 + _ ≤ _; exact Nat.le_of_eq rfl) (hb hby d39_5) (fun _ _ => ⟨rfl, e8, (by decide : 0 + 0 ≤ _), (by decide : 0 + 0 ≤ _)⟩)
  dsimp only [Pt.U, Pt.locs, Pt.cells, Pt.slots] at X9 l9 y9 z9 st9 hQ9
  subst l9 y9 z9
  obtain ⟨rfl, Nq9, hh9⟩ := hQ9
  have N9 := Fr.app N0 Nq9
  refine Ends.step st9 ?_
  show Ends p e below QQ (T9.setTop (mkF m 8 #[.val (.int p0), .val (.int p1)] [(.int p0)]))
  refine Ends.step (fun _ k => XT.pop X9.here hx rfl (hb hby d39_8) rfl rfl k) ?_
  show Ends p e below QQ (T9.setTop (mkF m 9 #[.val (.int p0), .val (.int p1)] []))
  exact Ends.fin (none) X9 hQQ (fun _ => rfl) Bd.notSynchronized (fun _ hr => X9.returnOut hx Bd.returns (hb hby d39_9) hr) hh9 (by decide) (by decide) ⟨rfl, N9, rfl⟩
theorem d38_0 : decode jdk_43_method_2_code 0 = .ok (.iload_n 1, 1) := by decide +kernel
theorem d38_1 : decode jdk_43_method_2_code 1 = .ok (.aload_n 0, 1) := by decide +kernel
theorem d38_2 : decode jdk_43_method_2_code 2 = .ok (.arraylength, 1) := by decide +kernel
theorem d38_3 : decode jdk_43_method_2_code 3 = .ok (.invokestatic 9, 3) := by decide +kernel
theorem d38_6 : decode jdk_43_method_2_code 6 = .ok (.aload_n 0, 1) := by decide +kernel
theorem d38_7 : decode jdk_43_method_2_code 7 = .ok (.iload_n 1, 1) := by decide +kernel
theorem d38_8 : decode jdk_43_method_2_code 8 = .ok (.baload, 1) := by decide +kernel
theorem d38_9 : decode jdk_43_method_2_code 9 = .ok (.sipush 255, 3) := by decide +kernel
theorem d38_12 : decode jdk_43_method_2_code 12 = .ok (.iand, 1) := by decide +kernel
theorem d38_13 : decode jdk_43_method_2_code 13 = .ok (.i2c, 1) := by decide +kernel
theorem d38_14 : decode jdk_43_method_2_code 14 = .ok (.ireturn, 1) := by decide +kernel
theorem ef_lca (m : MethodId) (x0 : Addr) (x1 : Int32) : entryFrame m #[(.ref x0), (.int x1)] 2 = mkF m 0 #[.val (.ref x0), .val (.int x1)] [] := by first | (simp [entryFrame, mkF, argsToLocals, Value.category]; done) | rfl
def Qlca (Z : State) (o0 : Addr) (p1 : Int32) (k : ClassId) (n : Int32) (vs : List Value) (b : Int32) (sf : Value) (h0 : Heap) (n0 : Nat) (v : Option Value) (h : Heap) (L : List Loc) : Prop := (v = some (.int (b &&& (255 : Int32)))) ∧ (Fr n0 L) ∧ (h = h0)
set_option maxRecDepth 65536 in
set_option maxHeartbeats 40000000 in
theorem rmlca (l : Launch) (Z : State) (a0 : Array Value) (hw : ∀ d ∈ tables_1, d.before a0 Z = true) (ws : List Jvm.Cond) (o0 : Addr) (p1 : Int32) (k : ClassId) (n : Int32) (vs : List Value) (b : Int32) (sf : Value) (h0 : Heap) (n0 : Nat) (Z0 : n0 ≤ h0.size) (A_o0 : Arv Z h0 o0 k .byte n vs (.int (0 : Int32))) (S_SIOOBE_FORMATTER : Sta Z h0 "jdk/internal/util/Preconditions" "SIOOBE_FORMATTER" "Ljava/util/function/BiFunction;" sf) (hr_sf : sf.isRef = true) (h1 : ¬ p1 < (0 : Int32)) (h2 : p1 < n) (hbt : vs.getD p1.toNatClampNeg (.int (0 : Int32)) = .int b) :
    MetFree l (⟨"java/lang/StringLatin1", "charAt", "([BI)C"⟩ : MethodName) (head1 (Jvm.Cond.code (⟨"java/lang/StringLatin1", "charAt", "([BI)C"⟩ : MethodName) jdk_43_method_2_code 2 (some .char) :: ws) ({ frames := 2, cells := 0, slots := 0, locals := 27 } : Room)) (fun a U => a = #[(.ref o0), (.int p1)] ∧ Z.Warmed39 U.vm ∧ U.heap = h0) (fun _ _ _ _ _ => True) (fun _ U o U' => ∃ v L, o = .returned v ∧ Qlca Z o0 p1 k n vs b sf h0 n0 v U'.heap L ∧ FrameEnd U o U' L ({ frames := 2, cells := 0, slots := 0, locals := 27 } : Room).cells ({ frames := 2, cells := 0, slots := 0, locals := 27 } : Room).slots) := by
  refine MetFree.of_bodySF (plainFor_of_name pn_2) hisR ?_
  intro p e s m args below meth c s₁ Bd hml0 hP hK
  obtain ⟨rfl, hZ, hh⟩ := hP
  have hx := Bd.exec
  have hby := Bd.bytes
  have hml : c.maxLocals = 2 := hml0
  have hown : s.vm.findClass "java/lang/StringLatin1" = some m.cls := findClass_of_methodNamed Bd.named
  have hnm := (name_of_methodNamed Bd.named Bd.method).1
  have X0 : Stand p l e ({ frames := 2, cells := 0, slots := 0, locals := 27 } : Room) s m #[(.ref o0), (.int p1)] below meth c s₁ [] 0 0 := Stand.of_body Bd
  have e0 : s₁.heap = h0 := by rw [← hh, Bd.state]; rfl
  have N0 := Fr.nil n0
  refine Ends.opn ?_
  intro QQ hQQ
  refine Ends.step (S' := s₁.setTop (mkF m 0 #[.val (.ref o0), .val (.int p1)] [])) (fun t k => castTop (ef_lca m o0 p1) k) ?_
  show Ends p e below QQ (s₁.setTop (mkF m 0 #[.val (.ref o0), .val (.int p1)] []))
  refine Ends.step (fun _ k => XS.iloadN X0.here hx rfl (hb hby d38_0) rfl k) ?_
  show Ends p e below QQ (s₁.setTop (mkF m 1 #[.val (.ref o0), .val (.int p1)] [(.int p1)]))
  refine Ends.step (fun _ k => XS.aloadN X0.here hx rfl (hb hby d38_1) rfl rfl k) ?_
  show Ends p e below QQ (s₁.setTop (mkF m 2 #[.val (.ref o0), .val (.int p1)] [(.ref o0), (.int p1)]))
  obtain ⟨cl10, Ar10, -, S10, P10, -, -⟩ := id A_o0
  refine Ends.step (S' := s₁.setTop (mkF m 3 #[.val (.ref o0), .val (.int p1)] [(.int n), (.int p1)])) (fun _ k => X0.arraylength hx (by rw [e0]; exact Ar10.1) (State.isArrayOf_alike hZ.alike Ar10.2.1) (g := (mkF m 2 #[.val (.ref o0), .val (.int p1)] [(.ref o0), (.int p1)])) rfl rfl (hb hby d38_2) _ (by rw [len_of S10 P10]; exact k)) ?_
  show Ends p e below QQ (s₁.setTop (mkF m 3 #[.val (.ref o0), .val (.int p1)] [(.int n), (.int p1)]))
  obtain ⟨_, _, ⟨T11, L11, k11, n11⟩, -, X11, ⟨Lc11, hQ11, l11, y11, z11⟩, st11⟩ := Jvm.LawKit.callS X0 hx (y := (⟨"java/lang/String", "checkIndex", "(II)V"⟩ : MethodName)) hown (mvT hZ (hw _ (List.mem_of_getElem? (i := 210) rfl))) (mvT hZ (hw _ (List.mem_of_getElem? (i := 211) rfl))) (mvT hZ (hw _ (List.mem_of_getElem? (i := 44) rfl))) (mvT hZ (hw _ (List.mem_of_getElem? (i := 212) rfl))) (by decide) (backOf (W := 0) (rmsci l Z a0 hw [] p1 n sf h0 n0 (Nat.le_trans Z0 (Keep.refl h0 []).1) S_SIOOBE_FORMATTER hr_sf h1 h2) hZ (hw _ (List.mem_of_getElem? (i := 212) rfl)) (hw _ (List.mem_of_getElem? (i := 44) rfl)) (by decide) (by decide)) (g := (mkF m 3 #[.val (.ref o0), .val (.int p1)] [(.int n), (.int p1)])) rfl (by rw [hml]; rfl) (argsL := [(.int p1), (.int n)]) (rest := []) (lenOf pd_2 rfl) rfl (by show 2 * 0 + _ ≤ _; exact Nat.le_of_eq rfl) (hb hby d38_3) (fun _ _ => ⟨rfl, e0, (by decide : 0 + 0 ≤ _), (by decide : 0 + 0 ≤ _)⟩)
  dsimp only [Pt.U, Pt.locs, Pt.cells, Pt.slots] at X11 l11 y11 z11 st11 hQ11
  subst l11 y11 z11
  obtain ⟨rfl, Nq11, hh11⟩ := hQ11
  have N11 := Fr.app N0 Nq11
  refine Ends.step st11 ?_
  show Ends p e below QQ (T11.setTop (mkF m 6 #[.val (.ref o0), .val (.int p1)] []))
  refine Ends.step (fun _ k => XS.aloadN X11.here hx rfl (hb hby d38_6) rfl rfl k) ?_
  show Ends p e below QQ (T11.setTop (mkF m 7 #[.val (.ref o0), .val (.int p1)] [(.ref o0)]))
  refine Ends.step (fun _ k => XS.iloadN X11.here hx rfl (hb hby d38_7) rfl k) ?_
  show Ends p e below QQ (T11.setTop (mkF m 8 #[.val (.ref o0), .val (.int p1)] [(.int p1), (.ref o0)]))
  obtain ⟨cl12, Ar12, q12, S12, P12, H12, G12⟩ := id A_o0
  have hin12 : ¬ (p1 < 0 ∨ cl12.slots.size ≤ (p1).toNatClampNeg) := inb_of S12 ⟨h1, h2⟩
  have hat12 : cl12.slots[(p1).toNatClampNeg]? = some (.int b) := H12.at hin12 (hbt)
  refine Ends.step (fun _ k => X11.baloadBytes hx (j := p1) (v := (.int b)) (by rw [hh11]; exact Ar12.1) (State.isArrayOf_alike hZ.alike Ar12.2.1) Ar12.2.2 hin12 hat12 (g := (mkF m 8 #[.val (.ref o0), .val (.int p1)] [(.int p1), (.ref o0)])) rfl rfl (hb hby d38_8) _ k) ?_
  show Ends p e below QQ (T11.setTop (mkF m 9 #[.val (.ref o0), .val (.int p1)] [(.int b)]))
  refine Ends.step (fun _ k => XT.sipushV X11.here hx rfl (255 : Int32) (hb hby d38_9) rfl k) ?_
  show Ends p e below QQ (T11.setTop (mkF m 12 #[.val (.ref o0), .val (.int p1)] [(.int (255 : Int32)), (.int b)]))
  refine Ends.step (fun _ k => XS.iand X11.here hx rfl (hb hby d38_12) rfl k) ?_
  show Ends p e below QQ (T11.setTop (mkF m 13 #[.val (.ref o0), .val (.int p1)] [(.int (b &&& (255 : Int32)))]))
  refine Ends.step (fun _ k => XT.i2c X11.here hx rfl (hb hby d38_13) rfl k) ?_
  show Ends p e below QQ (T11.setTop (mkF m 14 #[.val (.ref o0), .val (.int p1)] [(.int (b &&& (255 : Int32)).toUInt32.toUInt16.toUInt32.toInt32)]))
  exact Ends.fin (some (.int (b &&& (255 : Int32)).toUInt32.toUInt16.toUInt32.toInt32)) X11 hQQ (fun h => by rw [Bd.returns] at h; cases h) Bd.notSynchronized (fun _ hr => retOut X11 hx (t := .char) Bd.returns (XT.narrow_c _) (Or.inl ⟨rfl, (by simp), _, rfl⟩) (hb hby d38_14) hr) hh11 (by decide) (by decide) ⟨(by rw [i2c_mask]), N11, rfl⟩
theorem d36_0 : decode jdk_42_method_56_code 0 = .ok (.aload_n 0, 1) := by decide +kernel
theorem d36_1 : decode jdk_42_method_56_code 1 = .ok (.invokevirtual 492, 3) := by decide +kernel
theorem d36_4 : decode jdk_42_method_56_code 4 = .ok (.ifCond .eq 12, 3) := by decide +kernel
theorem d36_7 : decode jdk_42_method_56_code 7 = .ok (.aload_n 0, 1) := by decide +kernel
theorem d36_8 : decode jdk_42_method_56_code 8 = .ok (.getfield 9, 3) := by decide +kernel
theorem d36_11 : decode jdk_42_method_56_code 11 = .ok (.iload_n 1, 1) := by decide +kernel
theorem d36_12 : decode jdk_42_method_56_code 12 = .ok (.invokestatic 495, 3) := by decide +kernel
theorem d36_15 : decode jdk_42_method_56_code 15 = .ok (.ireturn, 1) := by decide +kernel
theorem ef_cha (m : MethodId) (x0 : Addr) (x1 : Int32) : entryFrame m #[(.ref x0), (.int x1)] 2 = mkF m 0 #[.val (.ref x0), .val (.int x1)] [] := by first | (simp [entryFrame, mkF, argsToLocals, Value.category]; done) | rfl
def Qcha (Z : State) (o0 : Addr) (p1 : Int32) (t : Addr) (k : ClassId) (n : Int32) (vs : List Value) (b : Int32) (cs : Int32) (sf : Value) (h0 : Heap) (n0 : Nat) (v : Option Value) (h : Heap) (L : List Loc) : Prop := (v = some (.int (b &&& (255 : Int32)))) ∧ (Fr n0 L) ∧ (h = h0)
set_option maxRecDepth 65536 in
set_option maxHeartbeats 40000000 in
theorem rmcha (l : Launch) (Z : State) (a0 : Array Value) (hw : ∀ d ∈ tables_1, d.before a0 Z = true) (ws : List Jvm.Cond) (o0 : Addr) (p1 : Int32) (t : Addr) (k : ClassId) (n : Int32) (vs : List Value) (b : Int32) (cs : Int32) (sf : Value) (h0 : Heap) (n0 : Nat) (Z0 : n0 ≤ h0.size) (E_o0 : Exa Z h0 o0 "java/lang/String") (F_value_o0 : Fld Z h0 o0 "java/lang/String" "value" "[B" (.ref t)) (A_t : Arv Z h0 t k .byte n vs (.int (0 : Int32))) (S_COMPACT_STRINGS : Sta Z h0 "java/lang/String" "COMPACT_STRINGS" "Z" (.int cs)) (hcs : ¬ cs = (0 : Int32)) (F_coder_o0 : Fld Z h0 o0 "java/lang/String" "coder" "B" (.int (0 : Int32))) (S_SIOOBE_FORMATTER : Sta Z h0 "jdk/internal/util/Preconditions" "SIOOBE_FORMATTER" "Ljava/util/function/BiFunction;" sf) (hr_sf : sf.isRef = true) (h1 : ¬ p1 < (0 : Int32)) (h2 : p1 < n) (hbt : vs.getD p1.toNatClampNeg (.int (0 : Int32)) = .int b) :
    MetFree l (⟨"java/lang/String", "charAt", "(I)C"⟩ : MethodName) (head1 (Jvm.Cond.code (⟨"java/lang/String", "charAt", "(I)C"⟩ : MethodName) jdk_42_method_56_code 2 (some .char) :: ws) ({ frames := 3, cells := 0, slots := 0, locals := 40 } : Room)) (fun a U => a = #[(.ref o0), (.int p1)] ∧ Z.Warmed39 U.vm ∧ U.heap = h0) (fun _ _ _ _ _ => True) (fun _ U o U' => ∃ v L, o = .returned v ∧ Qcha Z o0 p1 t k n vs b cs sf h0 n0 v U'.heap L ∧ FrameEnd U o U' L ({ frames := 3, cells := 0, slots := 0, locals := 40 } : Room).cells ({ frames := 3, cells := 0, slots := 0, locals := 40 } : Room).slots) := by
  refine MetFree.of_bodySF (plainFor_of_name pn_0) hisR ?_
  intro p e s m args below meth c s₁ Bd hml0 hP hK
  obtain ⟨rfl, hZ, hh⟩ := hP
  have hx := Bd.exec
  have hby := Bd.bytes
  have hml : c.maxLocals = 2 := hml0
  have hown : s.vm.findClass "java/lang/String" = some m.cls := findClass_of_methodNamed Bd.named
  have hnm := (name_of_methodNamed Bd.named Bd.method).1
  have X0 : Stand p l e ({ frames := 3, cells := 0, slots := 0, locals := 40 } : Room) s m #[(.ref o0), (.int p1)] below meth c s₁ [] 0 0 := Stand.of_body Bd
  have e0 : s₁.heap = h0 := by rw [← hh, Bd.state]; rfl
  have N0 := Fr.nil n0
  refine Ends.opn ?_
  intro QQ hQQ
  refine Ends.step (S' := s₁.setTop (mkF m 0 #[.val (.ref o0), .val (.int p1)] [])) (fun t k => castTop (ef_cha m o0 p1) k) ?_
  show Ends p e below QQ (s₁.setTop (mkF m 0 #[.val (.ref o0), .val (.int p1)] []))
  refine Ends.step (fun _ k => XS.aloadN X0.here hx rfl (hb hby d36_0) rfl rfl k) ?_
  show Ends p e below QQ (s₁.setTop (mkF m 1 #[.val (.ref o0), .val (.int p1)] [(.ref o0)]))
  obtain ⟨cq13, kq13, q13a, q13b, q13c⟩ := isOf hZ e0 E_o0
  obtain ⟨_, _, ⟨T13, L13, k13, n13⟩, -, X13, ⟨Lc13, hQ13, l13, y13, z13⟩, st13⟩ := X0.virtualBack hx (y := (⟨"java/lang/String", "isLatin1", "()Z"⟩ : MethodName)) (z := (⟨"java/lang/String", "isLatin1", "()Z"⟩ : MethodName)) hown (mvT hZ (hw _ (List.mem_of_getElem? (i := 201) rfl))) (mvT hZ (hw _ (List.mem_of_getElem? (i := 202) rfl))) (notFace_of_selects (args := #[]) (mvT hZ (hw _ (List.mem_of_getElem? (i := 204) rfl)))) (mvT hZ (hw _ (List.mem_of_getElem? (i := 204) rfl))) (mvT hZ (hw _ (List.mem_of_getElem? (i := 203) rfl))) (by decide) (backOf (W := 0) (rmlat l Z a0 hw [] o0 cs h0 n0 (Nat.le_trans Z0 (Keep.refl h0 []).1) S_COMPACT_STRINGS hcs F_coder_o0) hZ (hw _ (List.mem_of_getElem? (i := 205) rfl)) (hw _ (List.mem_of_getElem? (i := 44) rfl)) (by decide) (by decide)) q13a q13c (g := (mkF m 1 #[.val (.ref o0), .val (.int p1)] [(.ref o0)])) rfl (by rw [hml]; rfl) (Steps.refl _) (argsL := []) (rest := []) (lenOf pd_3 rfl) rfl (by show 2 * 0 + _ ≤ _; exact Nat.le_of_eq rfl) (hb hby d36_1) (fun _ _ => ⟨rfl, e0, (by decide : 0 + 0 ≤ _), (by decide : 0 + 0 ≤ _)⟩)
  dsimp only [Pt.U, Pt.locs, Pt.cells, Pt.slots] at X13 l13 y13 z13 st13 hQ13
  subst l13 y13 z13
  obtain ⟨rfl, Nq13, hh13⟩ := hQ13
  have N13 := Fr.app N0 Nq13
  refine Ends.step (fun _ k => st13.trans k) ?_
  show Ends p e below QQ (T13.setTop (mkF m 4 #[.val (.ref o0), .val (.int p1)] [(.int (1 : Int32))]))
  refine Ends.step (fun _ k => XS.ifNo X13.here hx rfl (hb hby d36_4) rfl (XT.i0_eq_f (by decide)) k) ?_
  show Ends p e below QQ (T13.setTop (mkF m 7 #[.val (.ref o0), .val (.int p1)] []))
  refine Ends.step (fun _ k => XS.aloadN X13.here hx rfl (hb hby d36_7) rfl rfl k) ?_
  show Ends p e below QQ (T13.setTop (mkF m 8 #[.val (.ref o0), .val (.int p1)] [(.ref o0)]))
  obtain ⟨T14, X14, e14, st14⟩ := getF X13 hx hZ hown (host := "") (Or.inl (hw _ (List.mem_of_getElem? (i := 71) rfl))) Via.refl hh13 F_value_o0 (g := (mkF m 8 #[.val (.ref o0), .val (.int p1)] [(.ref o0)])) rfl rfl (hb hby d36_8)
  refine Ends.step st14 ?_
  show Ends p e below QQ (T14.setTop (mkF m 11 #[.val (.ref o0), .val (.int p1)] [(.ref t)]))
  refine Ends.step (fun _ k => XS.iloadN X14.here hx rfl (hb hby d36_11) rfl k) ?_
  show Ends p e below QQ (T14.setTop (mkF m 12 #[.val (.ref o0), .val (.int p1)] [(.int p1), (.ref t)]))
  obtain ⟨_, _, ⟨T15, L15, k15, n15⟩, -, X15, ⟨Lc15, hQ15, l15, y15, z15⟩, st15⟩ := Jvm.LawKit.callS X14 hx (y := (⟨"java/lang/StringLatin1", "charAt", "([BI)C"⟩ : MethodName)) hown (mvT hZ (hw _ (List.mem_of_getElem? (i := 206) rfl))) (mvT hZ (hw _ (List.mem_of_getElem? (i := 207) rfl))) (mvT hZ (hw _ (List.mem_of_getElem? (i := 208) rfl))) (mvT hZ (hw _ (List.mem_of_getElem? (i := 209) rfl))) (by decide) (backOf (W := 0) (rmlca l Z a0 hw [] t p1 k n vs b sf h0 n0 (Nat.le_trans Z0 (Keep.refl h0 []).1) A_t S_SIOOBE_FORMATTER hr_sf h1 h2 hbt) hZ (hw _ (List.mem_of_getElem? (i := 209) rfl)) (hw _ (List.mem_of_getElem? (i := 208) rfl)) (by decide) (by decide)) (g := (mkF m 12 #[.val (.ref o0), .val (.int p1)] [(.int p1), (.ref t)])) rfl (by rw [hml]; rfl) (argsL := [(.ref t), (.int p1)]) (rest := []) (lenOf pd_4 rfl) rfl (by show 2 * 0 + _ ≤ _; exact Nat.le_of_eq rfl) (hb hby d36_12) (fun _ _ => ⟨rfl, e14, (by decide : 0 + 0 ≤ _), (by decide : 0 + 0 ≤ _)⟩)
  dsimp only [Pt.U, Pt.locs, Pt.cells, Pt.slots] at X15 l15 y15 z15 st15 hQ15
  subst l15 y15 z15
  obtain ⟨rfl, Nq15, hh15⟩ := hQ15
  have N15 := Fr.app N13 Nq15
  refine Ends.step st15 ?_
  show Ends p e below QQ (T15.setTop (mkF m 15 #[.val (.ref o0), .val (.int p1)] [(.int (b &&& (255 : Int32)))]))
  exact Ends.fin (some (.int (b &&& (255 : Int32)))) X15 hQQ (fun h => by rw [Bd.returns] at h; cases h) Bd.notSynchronized (fun _ hr => retOut X15 hx (t := .char) Bd.returns (own_nar255 b) (Or.inl ⟨rfl, (by simp), _, rfl⟩) (hb hby d36_15) hr) hh15 (by decide) (by decide) ⟨rfl, N15, rfl⟩
theorem d20_0 : decode jdk_68_method_68_code 0 = .ok (.getstatic 18, 3) := by decide +kernel
theorem d20_3 : decode jdk_68_method_68_code 3 = .ok (.ifCond .eq 14, 3) := by decide +kernel
theorem d20_6 : decode jdk_68_method_68_code 6 = .ok (.aload_n 0, 1) := by decide +kernel
theorem d20_7 : decode jdk_68_method_68_code 7 = .ok (.getfield 22, 3) := by decide +kernel
theorem d20_10 : decode jdk_68_method_68_code 10 = .ok (.ifCond .ne 7, 3) := by decide +kernel
theorem d20_13 : decode jdk_68_method_68_code 13 = .ok (.iconst 1, 1) := by decide +kernel
theorem d20_14 : decode jdk_68_method_68_code 14 = .ok (.goto 4, 3) := by decide +kernel
theorem d20_18 : decode jdk_68_method_68_code 18 = .ok (.ireturn, 1) := by decide +kernel
theorem ef_asi (m : MethodId) (x0 : Addr) : entryFrame m #[(.ref x0)] 1 = mkF m 0 #[.val (.ref x0)] [] := by first | (simp [entryFrame, mkF, argsToLocals, Value.category]; done) | rfl
def Qasi (Z : State) (o0 : Addr) (cs : Int32) (h0 : Heap) (n0 : Nat) (v : Option Value) (h : Heap) (L : List Loc) : Prop := (v = some (.int (1 : Int32))) ∧ (Fr n0 L) ∧ (h = h0)
set_option maxRecDepth 65536 in
set_option maxHeartbeats 40000000 in
theorem rmasi (l : Launch) (Z : State) (a0 : Array Value) (hw : ∀ d ∈ tables_1, d.before a0 Z = true) (ws : List Jvm.Cond) (o0 : Addr) (cs : Int32) (h0 : Heap) (n0 : Nat) (Z0 : n0 ≤ h0.size) (S_COMPACT_STRINGS : Sta Z h0 "java/lang/String" "COMPACT_STRINGS" "Z" (.int cs)) (hcs : ¬ cs = (0 : Int32)) (F_coder_o0 : Fld Z h0 o0 "java/lang/AbstractStringBuilder" "coder" "B" (.int (0 : Int32))) :
    MetFree l (⟨"java/lang/AbstractStringBuilder", "isLatin1", "()Z"⟩ : MethodName) (head1 (Jvm.Cond.code (⟨"java/lang/AbstractStringBuilder", "isLatin1", "()Z"⟩ : MethodName) jdk_68_method_68_code 1 (some .boolean) :: ws) ({ frames := 0, cells := 0, slots := 0, locals := 0 } : Room)) (fun a U => a = #[(.ref o0)] ∧ Z.Warmed39 U.vm ∧ U.heap = h0) (fun _ _ _ _ _ => True) (fun _ U o U' => ∃ v L, o = .returned v ∧ Qasi Z o0 cs h0 n0 v U'.heap L ∧ FrameEnd U o U' L ({ frames := 0, cells := 0, slots := 0, locals := 0 } : Room).cells ({ frames := 0, cells := 0, slots := 0, locals := 0 } : Room).slots) := by
  refine MetFree.of_bodySF (plainFor_of_name pn_3) hisR ?_
  intro p e s m args below meth c s₁ Bd hml0 hP hK
  obtain ⟨rfl, hZ, hh⟩ := hP
  have hx := Bd.exec
  have hby := Bd.bytes
  have hml : c.maxLocals = 1 := hml0
  have hown : s.vm.findClass "java/lang/AbstractStringBuilder" = some m.cls := findClass_of_methodNamed Bd.named
  have hnm := (name_of_methodNamed Bd.named Bd.method).1
  have X0 : Stand p l e ({ frames := 0, cells := 0, slots := 0, locals := 0 } : Room) s m #[(.ref o0)] below meth c s₁ [] 0 0 := Stand.of_body Bd
  have e0 : s₁.heap = h0 := by rw [← hh, Bd.state]; rfl
  have N0 := Fr.nil n0
  refine Ends.opn ?_
  intro QQ hQQ
  refine Ends.step (S' := s₁.setTop (mkF m 0 #[.val (.ref o0)] [])) (fun t k => castTop (ef_asi m o0) k) ?_
  show Ends p e below QQ (s₁.setTop (mkF m 0 #[.val (.ref o0)] []))
  obtain ⟨T16, X16, e16, st16⟩ := getS2 X0 hx hZ hown (host := "") (Or.inl (hw _ (List.mem_of_getElem? (i := 43) rfl))) Via.refl e0 S_COMPACT_STRINGS (g := (mkF m 0 #[.val (.ref o0)] [])) rfl (hb hby d20_0)
  refine Ends.step st16 ?_
  show Ends p e below QQ (T16.setTop (mkF m 3 #[.val (.ref o0)] [(.int cs)]))
  have hc3 : ¬ (cs = (0 : Int32)) := hcs
  refine Ends.step (fun _ k => XS.ifNo X16.here hx rfl (hb hby d20_3) rfl (XT.i0_eq_f hc3) k) ?_
  show Ends p e below QQ (T16.setTop (mkF m 6 #[.val (.ref o0)] []))
  refine Ends.step (fun _ k => XS.aloadN X16.here hx rfl (hb hby d20_6) rfl rfl k) ?_
  show Ends p e below QQ (T16.setTop (mkF m 7 #[.val (.ref o0)] [(.ref o0)]))
  obtain ⟨T17, X17, e17, st17⟩ := getF X16 hx hZ hown (host := "") (Or.inl (hw _ (List.mem_of_getElem? (i := 48) rfl))) Via.refl e16 F_coder_o0 (g := (mkF m 7 #[.val (.ref o0)] [(.ref o0)])) rfl rfl (hb hby d20_7)
  refine Ends.step st17 ?_
  show Ends p e below QQ (T17.setTop (mkF m 10 #[.val (.ref o0)] [(.int (0 : Int32))]))
  refine Ends.step (fun _ k => XS.ifNo X17.here hx rfl (hb hby d20_10) rfl (XT.i0_ne_f (by decide)) k) ?_
  show Ends p e below QQ (T17.setTop (mkF m 13 #[.val (.ref o0)] []))
  refine Ends.step (fun _ k => XT.iconstV X17.here hx rfl (1 : Int32) (hb hby d20_13) rfl k) ?_
  show Ends p e below QQ (T17.setTop (mkF m 14 #[.val (.ref o0)] [(.int (1 : Int32))]))
  refine Ends.step (fun _ k => XS.goto X17.here hx rfl (pc0 := 14) (pc' := 18) rfl (hb hby d20_14) (by decide) (by decide) k) ?_
  show Ends p e below QQ (T17.setTop (mkF m 18 #[.val (.ref o0)] [(.int (1 : Int32))]))
  exact Ends.fin (some (.int (1 : Int32))) X17 hQQ (fun h => by rw [Bd.returns] at h; cases h) Bd.notSynchronized (fun _ hr => retOut X17 hx (t := .boolean) Bd.returns rfl (Or.inl ⟨rfl, (by simp), _, rfl⟩) (hb hby d20_18) hr) e17 (by decide) (by decide) ⟨rfl, N0, rfl⟩
theorem d15_0 : decode jdk_68_method_71_code 0 = .ok (.getstatic 18, 3) := by decide +kernel
theorem d15_3 : decode jdk_68_method_71_code 3 = .ok (.ifCond .eq 18, 3) := by decide +kernel
theorem d15_6 : decode jdk_68_method_71_code 6 = .ok (.aload_n 0, 1) := by decide +kernel
theorem d15_7 : decode jdk_68_method_71_code 7 = .ok (.getfield 22, 3) := by decide +kernel
theorem d15_10 : decode jdk_68_method_71_code 10 = .ok (.aload_n 1, 1) := by decide +kernel
theorem d15_11 : decode jdk_68_method_71_code 11 = .ok (.invokevirtual 40, 3) := by decide +kernel
theorem d15_14 : decode jdk_68_method_71_code 14 = .ok (.if_icmp .eq 7, 3) := by decide +kernel
theorem d15_21 : decode jdk_68_method_71_code 21 = .ok (.return_, 1) := by decide +kernel
theorem ef_inf (m : MethodId) (x0 : Addr) (x1 : Addr) : entryFrame m #[(.ref x0), (.ref x1)] 2 = mkF m 0 #[.val (.ref x0), .val (.ref x1)] [] := by first | (simp [entryFrame, mkF, argsToLocals, Value.category]; done) | rfl
def Qinf (Z : State) (o0 : Addr) (o1 : Addr) (cs : Int32) (h0 : Heap) (n0 : Nat) (v : Option Value) (h : Heap) (L : List Loc) : Prop := (v = none) ∧ (Fr n0 L) ∧ (h = h0)
set_option maxRecDepth 65536 in
set_option maxHeartbeats 40000000 in
theorem rminf (l : Launch) (Z : State) (a0 : Array Value) (hw : ∀ d ∈ tables_1, d.before a0 Z = true) (ws : List Jvm.Cond) (o0 : Addr) (o1 : Addr) (cs : Int32) (h0 : Heap) (n0 : Nat) (Z0 : n0 ≤ h0.size) (S_COMPACT_STRINGS : Sta Z h0 "java/lang/String" "COMPACT_STRINGS" "Z" (.int cs)) (hcs : ¬ cs = (0 : Int32)) (F_coder_o0 : Fld Z h0 o0 "java/lang/AbstractStringBuilder" "coder" "B" (.int (0 : Int32))) (E_o1 : Exa Z h0 o1 "java/lang/String") (F_coder_o1 : Fld Z h0 o1 "java/lang/String" "coder" "B" (.int (0 : Int32))) :
    MetFree l (⟨"java/lang/AbstractStringBuilder", "inflateIfNeededFor", "(Ljava/lang/String;)V"⟩ : MethodName) (head1 (Jvm.Cond.code (⟨"java/lang/AbstractStringBuilder", "inflateIfNeededFor", "(Ljava/lang/String;)V"⟩ : MethodName) jdk_68_method_71_code 2 none :: ws) ({ frames := 1, cells := 0, slots := 0, locals := 13 } : Room)) (fun a U => a = #[(.ref o0), (.ref o1)] ∧ Z.Warmed39 U.vm ∧ U.heap = h0) (fun _ _ _ _ _ => True) (fun _ U o U' => ∃ v L, o = .returned v ∧ Qinf Z o0 o1 cs h0 n0 v U'.heap L ∧ FrameEnd U o U' L ({ frames := 1, cells := 0, slots := 0, locals := 13 } : Room).cells ({ frames := 1, cells := 0, slots := 0, locals := 13 } : Room).slots) := by
  refine MetFree.of_bodySF (plainFor_of_name pn_3) hisR ?_
  intro p e s m args below meth c s₁ Bd hml0 hP hK
  obtain ⟨rfl, hZ, hh⟩ := hP
  have hx := Bd.exec
  have hby := Bd.bytes
  have hml : c.maxLocals = 2 := hml0
  have hown : s.vm.findClass "java/lang/AbstractStringBuilder" = some m.cls := findClass_of_methodNamed Bd.named
  have hnm := (name_of_methodNamed Bd.named Bd.method).1
  have X0 : Stand p l e ({ frames := 1, cells := 0, slots := 0, locals := 13 } : Room) s m #[(.ref o0), (.ref o1)] below meth c s₁ [] 0 0 := Stand.of_body Bd
  have e0 : s₁.heap = h0 := by rw [← hh, Bd.state]; rfl
  have N0 := Fr.nil n0
  refine Ends.opn ?_
  intro QQ hQQ
  refine Ends.step (S' := s₁.setTop (mkF m 0 #[.val (.ref o0), .val (.ref o1)] [])) (fun t k => castTop (ef_inf m o0 o1) k) ?_
  show Ends p e below QQ (s₁.setTop (mkF m 0 #[.val (.ref o0), .val (.ref o1)] []))
  obtain ⟨T18, X18, e18, st18⟩ := getS2 X0 hx hZ hown (host := "") (Or.inl (hw _ (List.mem_of_getElem? (i := 43) rfl))) Via.refl e0 S_COMPACT_STRINGS (g := (mkF m 0 #[.val (.ref o0), .val (.ref o1)] [])) rfl (hb hby d15_0)
  refine Ends.step st18 ?_
  show Ends p e below QQ (T18.setTop (mkF m 3 #[.val (.ref o0), .val (.ref o1)] [(.int cs)]))
  have hc3 : ¬ (cs = (0 : Int32)) := hcs
  refine Ends.step (fun _ k => XS.ifNo X18.here hx rfl (hb hby d15_3) rfl (XT.i0_eq_f hc3) k) ?_
  show Ends p e below QQ (T18.setTop (mkF m 6 #[.val (.ref o0), .val (.ref o1)] []))
  refine Ends.step (fun _ k => XS.aloadN X18.here hx rfl (hb hby d15_6) rfl rfl k) ?_
  show Ends p e below QQ (T18.setTop (mkF m 7 #[.val (.ref o0), .val (.ref o1)] [(.ref o0)]))
  obtain ⟨T19, X19, e19, st19⟩ := getF X18 hx hZ hown (host := "") (Or.inl (hw _ (List.mem_of_getElem? (i := 48) rfl))) Via.refl e18 F_coder_o0 (g := (mkF m 7 #[.val (.ref o0), .val (.ref o1)] [(.ref o0)])) rfl rfl (hb hby d15_7)
  refine Ends.step st19 ?_
  show Ends p e below QQ (T19.setTop (mkF m 10 #[.val (.ref o0), .val (.ref o1)] [(.int (0 : Int32))]))
  refine Ends.step (fun _ k => XS.aloadN X19.here hx rfl (hb hby d15_10) rfl rfl k) ?_
  show Ends p e below QQ (T19.setTop (mkF m 11 #[.val (.ref o0), .val (.ref o1)] [(.ref o1), (.int (0 : Int32))]))
  obtain ⟨cq20, kq20, q20a, q20b, q20c⟩ := isOf hZ e19 E_o1
  obtain ⟨_, _, ⟨T20, L20, k20, n20⟩, -, X20, ⟨Lc20, hQ20, l20, y20, z20⟩, st20⟩ := X19.virtualBack hx (y := (⟨"java/lang/String", "coder", "()B"⟩ : MethodName)) (z := (⟨"java/lang/String", "coder", "()B"⟩ : MethodName)) hown (mvT hZ (hw _ (List.mem_of_getElem? (i := 96) rfl))) (mvT hZ (hw _ (List.mem_of_getElem? (i := 73) rfl))) (notFace_of_selects (args := #[]) (mvT hZ (hw _ (List.mem_of_getElem? (i := 75) rfl)))) (mvT hZ (hw _ (List.mem_of_getElem? (i := 75) rfl))) (mvT hZ (hw _ (List.mem_of_getElem? (i := 74) rfl))) (by decide) (backOf (W := 1) (rmcod l Z a0 hw [] o1 cs h0 n0 (Nat.le_trans Z0 (Keep.refl h0 []).1) S_COMPACT_STRINGS hcs F_coder_o1) hZ (hw _ (List.mem_of_getElem? (i := 76) rfl)) (hw _ (List.mem_of_getElem? (i := 44) rfl)) (by decide) (by decide)) q20a q20c (g := (mkF m 11 #[.val (.ref o0), .val (.ref o1)] [(.ref o1), (.int (0 : Int32))])) rfl (by rw [hml]; rfl) (Steps.refl _) (argsL := []) (rest := [(.int (0 : Int32))]) (lenOf pd_0 rfl) rfl (by show 2 * 0 + _ ≤ _; exact Nat.le_of_eq rfl) (hb hby d15_11) (fun _ _ => ⟨rfl, e19, (by decide : 0 + 0 ≤ _), (by decide : 0 + 0 ≤ _)⟩)
  dsimp only [Pt.U, Pt.locs, Pt.cells, Pt.slots] at X20 l20 y20 z20 st20 hQ20
  subst l20 y20 z20
  obtain ⟨rfl, Nq20, hh20⟩ := hQ20
  have N20 := Fr.app N0 Nq20
  refine Ends.step (fun _ k => st20.trans k) ?_
  show Ends p e below QQ (T20.setTop (mkF m 14 #[.val (.ref o0), .val (.ref o1)] [(.int (0 : Int32)), (.int (0 : Int32))]))
  refine Ends.step (fun _ k => XS.icmpYes X20.here hx rfl (pc0 := 14) (pc' := 21) rfl (hb hby d15_14) rfl (XT.ii_eq_t (by decide)) (by decide) (by decide) k) ?_
  show Ends p e below QQ (T20.setTop (mkF m 21 #[.val (.ref o0), .val (.ref o1)] []))
  exact Ends.fin (none) X20 hQQ (fun _ => rfl) Bd.notSynchronized (fun _ hr => X20.returnOut hx Bd.returns (hb hby d15_21) hr) hh20 (by decide) (by decide) ⟨rfl, N20, rfl⟩
theorem d8_0 : decode jdk_68_method_2_code 0 = .ok (.aload_n 0, 1) := by decide +kernel
theorem d8_1 : decode jdk_68_method_2_code 1 = .ok (.invokespecial 3, 3) := by decide +kernel
theorem d8_4 : decode jdk_68_method_2_code 4 = .ok (.getstatic 18, 3) := by decide +kernel
theorem d8_7 : decode jdk_68_method_2_code 7 = .ok (.ifCond .eq 18, 3) := by decide +kernel
theorem d8_10 : decode jdk_68_method_2_code 10 = .ok (.aload_n 0, 1) := by decide +kernel
theorem d8_11 : decode jdk_68_method_2_code 11 = .ok (.iload_n 1, 1) := by decide +kernel
theorem d8_12 : decode jdk_68_method_2_code 12 = .ok (.newarray .byte, 2) := by decide +kernel
theorem d8_14 : decode jdk_68_method_2_code 14 = .ok (.putfield 15, 3) := by decide +kernel
theorem d8_17 : decode jdk_68_method_2_code 17 = .ok (.aload_n 0, 1) := by decide +kernel
theorem d8_18 : decode jdk_68_method_2_code 18 = .ok (.iconst 0, 1) := by decide +kernel
theorem d8_19 : decode jdk_68_method_2_code 19 = .ok (.putfield 22, 3) := by decide +kernel
theorem d8_22 : decode jdk_68_method_2_code 22 = .ok (.goto 16, 3) := by decide +kernel
theorem d8_38 : decode jdk_68_method_2_code 38 = .ok (.return_, 1) := by decide +kernel
theorem ef_as (m : MethodId) (x0 : Addr) : entryFrame m #[(.ref x0), (.int (16 : Int32))] 2 = mkF m 0 #[.val (.ref x0), .val (.int (16 : Int32))] [] := by first | (simp [entryFrame, mkF, argsToLocals, Value.category]; done) | rfl
def Qas (Z : State) (o0 : Addr) (u : Value) (w : Int32) (cs : Int32) (h0 : Heap) (n0 : Nat) (v : Option Value) (h : Heap) (L : List Loc) : Prop := ∃ (vb : Addr), ∃ (kb : ClassId), (v = none) ∧ (Fr n0 L) ∧ (Keep h0 h [o0]) ∧ (h0.size ≤ vb) ∧ (n0 ≤ vb) ∧ (Exa Z h o0 "java/lang/StringBuilder") ∧ (Fld Z h o0 "java/lang/AbstractStringBuilder" "value" "[B" (.ref vb)) ∧ (Fld Z h o0 "java/lang/AbstractStringBuilder" "coder" "B" (.int (0 : Int32))) ∧ (Fld Z h o0 "java/lang/AbstractStringBuilder" "count" "I" (.int (0 : Int32))) ∧ (Exa Z h vb "[B") ∧ (Arv Z h vb kb .byte (16 : Int32) [(.int (0 : Int32)), (.int (0 : Int32)), (.int (0 : Int32)), (.int (0 : Int32)), (.int (0 : Int32)), (.int (0 : Int32)), (.int (0 : Int32)), (.int (0 : Int32)), (.int (0 : Int32)), (.int (0 : Int32)), (.int (0 : Int32)), (.int (0 : Int32)), (.int (0 : Int32)), (.int (0 : Int32)), (.int (0 : Int32)), (.int (0 : Int32))] (.int (0 : Int32)))
set_option maxRecDepth 65536 in
set_option maxHeartbeats 40000000 in
theorem rmas (l : Launch) (Z : State) (a0 : Array Value) (hw : ∀ d ∈ tables_1, d.before a0 Z = true) (ws : List Jvm.Cond) (o0 : Addr) (u : Value) (w : Int32) (cs : Int32) (h0 : Heap) (n0 : Nat) (Z0 : n0 ≤ h0.size) (E_o0 : Exa Z h0 o0 "java/lang/StringBuilder") (F_value_o0 : Fld Z h0 o0 "java/lang/AbstractStringBuilder" "value" "[B" u) (F_coder_o0 : Fld Z h0 o0 "java/lang/AbstractStringBuilder" "coder" "B" (.int w)) (F_count_o0 : Fld Z h0 o0 "java/lang/AbstractStringBuilder" "count" "I" (.int (0 : Int32))) (g_o0 : n0 ≤ o0) (S_COMPACT_STRINGS : Sta Z h0 "java/lang/String" "COMPACT_STRINGS" "Z" (.int cs)) (hcs : ¬ cs = (0 : Int32)) :
    MetFree l (⟨"java/lang/AbstractStringBuilder", "<init>", "(I)V"⟩ : MethodName) (head1 (Jvm.Cond.code (⟨"java/lang/AbstractStringBuilder", "<init>", "(I)V"⟩ : MethodName) jdk_68_method_2_code 2 none :: ws) ({ frames := 1, cells := 1, slots := 16, locals := 12 } : Room)) (fun a U => a = #[(.ref o0), (.int (16 : Int32))] ∧ Z.Warmed39 U.vm ∧ U.heap = h0) (fun _ _ _ _ _ => True) (fun _ U o U' => ∃ v L, o = .returned v ∧ Qas Z o0 u w cs h0 n0 v U'.heap L ∧ FrameEnd U o U' L ({ frames := 1, cells := 1, slots := 16, locals := 12 } : Room).cells ({ frames := 1, cells := 1, slots := 16, locals := 12 } : Room).slots) := by
  refine MetFree.of_bodySF (plainFor_of_name pn_3) hisR ?_
  intro p e s m args below meth c s₁ Bd hml0 hP hK
  obtain ⟨rfl, hZ, hh⟩ := hP
  have hx := Bd.exec
  have hby := Bd.bytes
  have hml : c.maxLocals = 2 := hml0
  have hown : s.vm.findClass "java/lang/AbstractStringBuilder" = some m.cls := findClass_of_methodNamed Bd.named
  have hnm := (name_of_methodNamed Bd.named Bd.method).1
  have X0 : Stand p l e ({ frames := 1, cells := 1, slots := 16, locals := 12 } : Room) s m #[(.ref o0), (.int (16 : Int32))] below meth c s₁ [] 0 0 := Stand.of_body Bd
  have e0 : s₁.heap = h0 := by rw [← hh, Bd.state]; rfl
  have N0 := Fr.nil n0
  refine Ends.opn ?_
  intro QQ hQQ
  refine Ends.step (S' := s₁.setTop (mkF m 0 #[.val (.ref o0), .val (.int (16 : Int32))] [])) (fun t k => castTop (ef_as m o0) k) ?_
  show Ends p e below QQ (s₁.setTop (mkF m 0 #[.val (.ref o0), .val (.int (16 : Int32))] []))
  refine Ends.step (fun _ k => XS.aloadN X0.here hx rfl (hb hby d8_0) rfl rfl k) ?_
  show Ends p e below QQ (s₁.setTop (mkF m 1 #[.val (.ref o0), .val (.int (16 : Int32))] [(.ref o0)]))
  obtain ⟨T21, X21, e21, st21⟩ := initO X0 hx hZ hown (hw _ (List.mem_of_getElem? (i := 42) rfl)) (hw _ (List.mem_of_getElem? (i := 7) rfl)) (hw _ (List.mem_of_getElem? (i := 8) rfl)) e0 (g := (mkF m 1 #[.val (.ref o0), .val (.int (16 : Int32))] [(.ref o0)])) rfl (by rw [hml]; rfl) rfl (hb hby d8_1) (by decide) (W := 0) (by show 2 * 0 + _ ≤ _; exact Nat.le_of_eq rfl) (by decide)
  refine Ends.step st21 ?_
  show Ends p e below QQ (T21.setTop (mkF m 4 #[.val (.ref o0), .val (.int (16 : Int32))] []))
  obtain ⟨T22, X22, e22, st22⟩ := getS2 X21 hx hZ hown (host := "") (Or.inl (hw _ (List.mem_of_getElem? (i := 43) rfl))) Via.refl e21 S_COMPACT_STRINGS (g := (mkF m 4 #[.val (.ref o0), .val (.int (16 : Int32))] [])) rfl (hb hby d8_4)
  refine Ends.step st22 ?_
  show Ends p e below QQ (T22.setTop (mkF m 7 #[.val (.ref o0), .val (.int (16 : Int32))] [(.int cs)]))
  have hc7 : ¬ (cs = (0 : Int32)) := hcs
  refine Ends.step (fun _ k => XS.ifNo X22.here hx rfl (hb hby d8_7) rfl (XT.i0_eq_f hc7) k) ?_
  show Ends p e below QQ (T22.setTop (mkF m 10 #[.val (.ref o0), .val (.int (16 : Int32))] []))
  refine Ends.step (fun _ k => XS.aloadN X22.here hx rfl (hb hby d8_10) rfl rfl k) ?_
  show Ends p e below QQ (T22.setTop (mkF m 11 #[.val (.ref o0), .val (.int (16 : Int32))] [(.ref o0)]))
  refine Ends.step (fun _ k => XS.iloadN X22.here hx rfl (hb hby d8_11) rfl k) ?_
  show Ends p e below QQ (T22.setTop (mkF m 12 #[.val (.ref o0), .val (.int (16 : Int32))] [(.int (16 : Int32)), (.ref o0)]))
  obtain ⟨T23, h23, k23, X23, e23, E23, A23, Y23, st23⟩ := newPE X22 hx hZ (hw _ (List.mem_of_getElem? (i := 45) rfl)) e22 (g := (mkF m 12 #[.val (.ref o0), .val (.int (16 : Int32))] [(.int (16 : Int32)), (.ref o0)])) rfl (hb hby d8_12) rfl (by decide) (cap := 16) (by decide) (by decide) (by decide) (by decide) (ad := "[B") (by decide)
  obtain ⟨b23, g23⟩ : ∃ z, z = h0.size := ⟨_, rfl⟩
  rw [← g23] at A23 Y23 st23
  have ne_o0_b23 : o0 ≠ b23 := Nat.ne_of_lt (Nat.lt_of_lt_of_le E_o0.lt (Nat.le_of_eq g23.symm))
  have g_b23 : n0 ≤ b23 := Nat.le_trans Z0 (Nat.le_trans (Keep.refl h0 [o0]).1 (Nat.le_of_eq g23.symm))
  have sz_b23 : h0.size ≤ b23 := Nat.le_trans (Keep.refl h0 [o0]).1 (Nat.le_of_eq g23.symm)
  have E_o0 := E_o0.ext E23
  have F_value_o0 := F_value_o0.ext E23
  have F_coder_o0 := F_coder_o0.ext E23
  have F_count_o0 := F_count_o0.ext E23
  have S_COMPACT_STRINGS := S_COMPACT_STRINGS.ext E23
  have K23 := (Keep.refl h0 [o0]).ext E23
  have E_b23 := Y23
  have A_b23 : Arv Z h23 b23 k23 .byte (16 : Int32) [(.int (0 : Int32)), (.int (0 : Int32)), (.int (0 : Int32)), (.int (0 : Int32)), (.int (0 : Int32)), (.int (0 : Int32)), (.int (0 : Int32)), (.int (0 : Int32)), (.int (0 : Int32)), (.int (0 : Int32)), (.int (0 : Int32)), (.int (0 : Int32)), (.int (0 : Int32)), (.int (0 : Int32)), (.int (0 : Int32)), (.int (0 : Int32))] (.int (0 : Int32)) := (Arv.new A23 (by decide)).pad (pad_rep [] (.int (0 : Int32)) 16)
  refine Ends.step st23 ?_
  show Ends p e below QQ (T23.setTop (mkF m 14 #[.val (.ref o0), .val (.int (16 : Int32))] [(.ref b23), (.ref o0)]))
  obtain ⟨T24, h24, X24, e24, W24, st24⟩ := putF X23 hx hZ hown (host := "") (Or.inl (hw _ (List.mem_of_getElem? (i := 46) rfl))) Via.refl e23 F_value_o0 E_o0 (Or.inl (hw _ (List.mem_of_getElem? (i := 47) rfl))) (hw _ (List.mem_of_getElem? (i := 31) rfl)) (ty := (.array .byte)) (by decide) rfl rfl (g := (mkF m 14 #[.val (.ref o0), .val (.int (16 : Int32))] [(.ref b23), (.ref o0)])) rfl rfl (hb hby d8_14)
  have E_o0 := E_o0.wr W24
  have F_coder_o0 := F_coder_o0.other W24 (Or.inr (slot_ne (Or.inl (hw _ (List.mem_of_getElem? (i := 49) rfl))) (Or.inl (hw _ (List.mem_of_getElem? (i := 47) rfl))) (by decide) (t := .byte) (t' := (.array .byte)) (by decide) (by decide)))
  have F_count_o0 := F_count_o0.other W24 (Or.inr (slot_ne (Or.inl (hw _ (List.mem_of_getElem? (i := 80) rfl))) (Or.inl (hw _ (List.mem_of_getElem? (i := 47) rfl))) (by decide) (t := .int) (t' := (.array .byte)) (by decide) (by decide)))
  have S_COMPACT_STRINGS := S_COMPACT_STRINGS.wr W24
  have E_b23 := E_b23.wr W24
  have A_b23 := A_b23.other W24 (Ne.symm ne_o0_b23)
  have F_value_o0 : Fld Z h24 o0 "java/lang/AbstractStringBuilder" "value" "[B" (.ref b23) := F_value_o0.same W24
  have K24 := K23.wr W24 (Or.inl (List.mem_of_getElem? (i := 0) rfl))
  have N24 := Fr.snoc X24 N0 g_o0
  refine Ends.step st24 ?_
  show Ends p e below QQ (T24.setTop (mkF m 17 #[.val (.ref o0), .val (.int (16 : Int32))] []))
  refine Ends.step (fun _ k => XS.aloadN X24.here hx rfl (hb hby d8_17) rfl rfl k) ?_
  show Ends p e below QQ (T24.setTop (mkF m 18 #[.val (.ref o0), .val (.int (16 : Int32))] [(.ref o0)]))
  refine Ends.step (fun _ k => XT.iconstV X24.here hx rfl (0 : Int32) (hb hby d8_18) rfl k) ?_
  show Ends p e below QQ (T24.setTop (mkF m 19 #[.val (.ref o0), .val (.int (16 : Int32))] [(.int (0 : Int32)), (.ref o0)]))
  obtain ⟨T25, h25, X25, e25, W25, st25⟩ := putFN X24 hx hZ hown (hw _ (List.mem_of_getElem? (i := 48) rfl)) Via.refl e24 F_coder_o0 E_o0 (Or.inl (hw _ (List.mem_of_getElem? (i := 49) rfl))) (hw _ (List.mem_of_getElem? (i := 31) rfl)) (ty := .byte) (v' := (.int (0 : Int32))) (by decide) rfl rfl (g := (mkF m 19 #[.val (.ref o0), .val (.int (16 : Int32))] [(.int (0 : Int32)), (.ref o0)])) rfl rfl (hb hby d8_19)
  have E_o0 := E_o0.wr W25
  have F_value_o0 := F_value_o0.other W25 (Or.inr (slot_ne (Or.inl (hw _ (List.mem_of_getElem? (i := 47) rfl))) (Or.inl (hw _ (List.mem_of_getElem? (i := 49) rfl))) (by decide) (t := (.array .byte)) (t' := .byte) (by decide) (by decide)))
  have F_count_o0 := F_count_o0.other W25 (Or.inr (slot_ne (Or.inl (hw _ (List.mem_of_getElem? (i := 80) rfl))) (Or.inl (hw _ (List.mem_of_getElem? (i := 49) rfl))) (by decide) (t := .int) (t' := .byte) (by decide) (by decide)))
  have S_COMPACT_STRINGS := S_COMPACT_STRINGS.wr W25
  have E_b23 := E_b23.wr W25
  have A_b23 := A_b23.other W25 (Ne.symm ne_o0_b23)
  have F_coder_o0 : Fld Z h25 o0 "java/lang/AbstractStringBuilder" "coder" "B" (.int (0 : Int32)) := F_coder_o0.same W25
  have K25 := K24.wr W25 (Or.inl (List.mem_of_getElem? (i := 0) rfl))
  have N25 := Fr.snoc X25 N24 g_o0
  refine Ends.step st25 ?_
  show Ends p e below QQ (T25.setTop (mkF m 22 #[.val (.ref o0), .val (.int (16 : Int32))] []))
  refine Ends.step (fun _ k => XS.goto X25.here hx rfl (pc0 := 22) (pc' := 38) rfl (hb hby d8_22) (by decide) (by decide) k) ?_
  show Ends p e below QQ (T25.setTop (mkF m 38 #[.val (.ref o0), .val (.int (16 : Int32))] []))
  exact Ends.fin (none) X25 hQQ (fun _ => rfl) Bd.notSynchronized (fun _ hr => X25.returnOut hx Bd.returns (hb hby d8_38) hr) e25 (by decide) (by decide) ⟨b23, k23, rfl, N25, K25, sz_b23, g_b23, E_o0, F_value_o0, F_coder_o0, F_count_o0, E_b23, A_b23⟩
theorem d7_0 : decode jdk_67_method_1_code 0 = .ok (.aload_n 0, 1) := by decide +kernel
theorem d7_1 : decode jdk_67_method_1_code 1 = .ok (.bipush 16, 2) := by decide +kernel
theorem d7_3 : decode jdk_67_method_1_code 3 = .ok (.invokespecial 1, 3) := by decide +kernel
theorem d7_6 : decode jdk_67_method_1_code 6 = .ok (.return_, 1) := by decide +kernel
theorem ef_sb (m : MethodId) (x0 : Addr) : entryFrame m #[(.ref x0)] 1 = mkF m 0 #[.val (.ref x0)] [] := by first | (simp [entryFrame, mkF, argsToLocals, Value.category]; done) | rfl
def Qsb (Z : State) (o0 : Addr) (u : Value) (w : Int32) (cs : Int32) (h0 : Heap) (n0 : Nat) (v : Option Value) (h : Heap) (L : List Loc) : Prop := ∃ (vb : Addr), ∃ (kb : ClassId), (v = none) ∧ (Fr n0 L) ∧ (Keep h0 h [o0]) ∧ (h0.size ≤ vb) ∧ (n0 ≤ vb) ∧ (Exa Z h o0 "java/lang/StringBuilder") ∧ (Fld Z h o0 "java/lang/AbstractStringBuilder" "value" "[B" (.ref vb)) ∧ (Fld Z h o0 "java/lang/AbstractStringBuilder" "coder" "B" (.int (0 : Int32))) ∧ (Fld Z h o0 "java/lang/AbstractStringBuilder" "count" "I" (.int (0 : Int32))) ∧ (Exa Z h vb "[B") ∧ (Arv Z h vb kb .byte (16 : Int32) [(.int (0 : Int32)), (.int (0 : Int32)), (.int (0 : Int32)), (.int (0 : Int32)), (.int (0 : Int32)), (.int (0 : Int32)), (.int (0 : Int32)), (.int (0 : Int32)), (.int (0 : Int32)), (.int (0 : Int32)), (.int (0 : Int32)), (.int (0 : Int32)), (.int (0 : Int32)), (.int (0 : Int32)), (.int (0 : Int32)), (.int (0 : Int32))] (.int (0 : Int32)))
set_option maxRecDepth 65536 in
set_option maxHeartbeats 40000000 in
theorem rmsb (l : Launch) (Z : State) (a0 : Array Value) (hw : ∀ d ∈ tables_1, d.before a0 Z = true) (ws : List Jvm.Cond) (o0 : Addr) (u : Value) (w : Int32) (cs : Int32) (h0 : Heap) (n0 : Nat) (Z0 : n0 ≤ h0.size) (E_o0 : Exa Z h0 o0 "java/lang/StringBuilder") (F_value_o0 : Fld Z h0 o0 "java/lang/AbstractStringBuilder" "value" "[B" u) (F_coder_o0 : Fld Z h0 o0 "java/lang/AbstractStringBuilder" "coder" "B" (.int w)) (F_count_o0 : Fld Z h0 o0 "java/lang/AbstractStringBuilder" "count" "I" (.int (0 : Int32))) (g_o0 : n0 ≤ o0) (S_COMPACT_STRINGS : Sta Z h0 "java/lang/String" "COMPACT_STRINGS" "Z" (.int cs)) (hcs : ¬ cs = (0 : Int32)) :
    MetFree l (⟨"java/lang/StringBuilder", "<init>", "()V"⟩ : MethodName) (head1 (Jvm.Cond.code (⟨"java/lang/StringBuilder", "<init>", "()V"⟩ : MethodName) jdk_67_method_1_code 1 none :: ws) ({ frames := 2, cells := 1, slots := 16, locals := 25 } : Room)) (fun a U => a = #[(.ref o0)] ∧ Z.Warmed39 U.vm ∧ U.heap = h0) (fun _ _ _ _ _ => True) (fun _ U o U' => ∃ v L, o = .returned v ∧ Qsb Z o0 u w cs h0 n0 v U'.heap L ∧ FrameEnd U o U' L ({ frames := 2, cells := 1, slots := 16, locals := 25 } : Room).cells ({ frames := 2, cells := 1, slots := 16, locals := 25 } : Room).slots) := by
  refine MetFree.of_bodySF (plainFor_of_name pn_4) hisR ?_
  intro p e s m args below meth c s₁ Bd hml0 hP hK
  obtain ⟨rfl, hZ, hh⟩ := hP
  have hx := Bd.exec
  have hby := Bd.bytes
  have hml : c.maxLocals = 1 := hml0
  have hown : s.vm.findClass "java/lang/StringBuilder" = some m.cls := findClass_of_methodNamed Bd.named
  have hnm := (name_of_methodNamed Bd.named Bd.method).1
  have X0 : Stand p l e ({ frames := 2, cells := 1, slots := 16, locals := 25 } : Room) s m #[(.ref o0)] below meth c s₁ [] 0 0 := Stand.of_body Bd
  have e0 : s₁.heap = h0 := by rw [← hh, Bd.state]; rfl
  have N0 := Fr.nil n0
  refine Ends.opn ?_
  intro QQ hQQ
  refine Ends.step (S' := s₁.setTop (mkF m 0 #[.val (.ref o0)] [])) (fun t k => castTop (ef_sb m o0) k) ?_
  show Ends p e below QQ (s₁.setTop (mkF m 0 #[.val (.ref o0)] []))
  refine Ends.step (fun _ k => XS.aloadN X0.here hx rfl (hb hby d7_0) rfl rfl k) ?_
  show Ends p e below QQ (s₁.setTop (mkF m 1 #[.val (.ref o0)] [(.ref o0)]))
  refine Ends.step (fun _ k => XT.bipushV X0.here hx rfl (16 : Int32) (hb hby d7_1) rfl k) ?_
  show Ends p e below QQ (s₁.setTop (mkF m 3 #[.val (.ref o0)] [(.int (16 : Int32)), (.ref o0)]))
  obtain ⟨_, _, ⟨T26, L26, k26, n26⟩, -, X26, ⟨Lc26, hQ26, l26, y26, z26⟩, st26⟩ := X0.specialBack hx (y := (⟨"java/lang/AbstractStringBuilder", "<init>", "(I)V"⟩ : MethodName)) rfl hown (mvT hZ (hw _ (List.mem_of_getElem? (i := 36) rfl))) (mvT hZ (hw _ (List.mem_of_getElem? (i := 37) rfl))) (mvT hZ (hw _ (List.mem_of_getElem? (i := 41) rfl))) (by decide) (backOf (W := 0) (rmas l Z a0 hw [] o0 u w cs h0 n0 (Nat.le_trans Z0 (Keep.refl h0 [o0]).1) E_o0 F_value_o0 F_coder_o0 F_count_o0 g_o0 S_COMPACT_STRINGS hcs) hZ (hw _ (List.mem_of_getElem? (i := 41) rfl)) (hw _ (List.mem_of_getElem? (i := 40) rfl)) (by decide) (by decide)) (g := (mkF m 3 #[.val (.ref o0)] [(.int (16 : Int32)), (.ref o0)])) rfl (by rw [hml]; rfl) (Steps.refl _) (a := o0) (argsL := [(.int (16 : Int32))]) (rest := []) (lenOf pd_5 rfl) rfl (by show 2 * 0 + _ ≤ _; exact Nat.le_of_eq rfl) (hb hby d7_3) (fun _ _ => ⟨rfl, e0, (by decide : 0 + 1 ≤ _), (by decide : 0 + 16 ≤ _)⟩)
  dsimp only [Pt.U, Pt.locs, Pt.cells, Pt.slots] at X26 l26 y26 z26 st26 hQ26
  subst l26 y26 z26
  obtain ⟨vb_26, kb_26, rfl, Nq26, Kq26, fq26_0, fq26_1, fq26_2, fq26_3, fq26_4, fq26_5, fq26_6, fq26_7⟩ := hQ26
  have N26 := Fr.app N0 Nq26
  have ne_o0_vb_26 : o0 ≠ vb_26 := Nat.ne_of_lt (Nat.lt_of_lt_of_le E_o0.lt fq26_0)
  have sz_vb_26 := Nat.le_trans (Keep.refl h0 [o0]).1 fq26_0
  have S_COMPACT_STRINGS := own_sta_keep S_COMPACT_STRINGS Kq26 (allS E_o0.cell all0)
  have g_vb_26 := fq26_1
  have E_o0 := fq26_2
  have F_value_o0 := fq26_3
  have F_coder_o0 := fq26_4
  have F_count_o0 := fq26_5
  have E_vb_26 := fq26_6
  have A_vb_26 := fq26_7
  have K26 := (Keep.refl h0 [o0]).trans Kq26 (allS (Or.inl (List.mem_of_getElem? (i := 0) rfl)) all0)
  refine Ends.step (fun _ k => st26.trans k) ?_
  show Ends p e below QQ (T26.setTop (mkF m 6 #[.val (.ref o0)] []))
  exact Ends.fin (none) X26 hQQ (fun _ => rfl) Bd.notSynchronized (fun _ hr => X26.returnOut hx Bd.returns (hb hby d7_6) hr) rfl (by decide) (by decide) ⟨vb_26, kb_26, rfl, N26, K26, sz_vb_26, g_vb_26, E_o0, F_value_o0, F_coder_o0, F_count_o0, E_vb_26, A_vb_26⟩
theorem d13_0 : decode jdk_68_method_9_code 0 = .ok (.aload_n 0, 1) := by decide +kernel
theorem d13_1 : decode jdk_68_method_9_code 1 = .ok (.getfield 15, 3) := by decide +kernel
theorem d13_4 : decode jdk_68_method_9_code 4 = .ok (.arraylength, 1) := by decide +kernel
theorem d13_5 : decode jdk_68_method_9_code 5 = .ok (.aload_n 0, 1) := by decide +kernel
theorem d13_6 : decode jdk_68_method_9_code 6 = .ok (.getfield 22, 3) := by decide +kernel
theorem d13_9 : decode jdk_68_method_9_code 9 = .ok (.ishr, 1) := by decide +kernel
theorem d13_10 : decode jdk_68_method_9_code 10 = .ok (.istore_n 2, 1) := by decide +kernel
theorem d13_11 : decode jdk_68_method_9_code 11 = .ok (.iload_n 1, 1) := by decide +kernel
theorem d13_12 : decode jdk_68_method_9_code 12 = .ok (.iload_n 2, 1) := by decide +kernel
theorem d13_13 : decode jdk_68_method_9_code 13 = .ok (.isub, 1) := by decide +kernel
theorem d13_14 : decode jdk_68_method_9_code 14 = .ok (.ifCond .le 24, 3) := by decide +kernel
theorem d13_38 : decode jdk_68_method_9_code 38 = .ok (.return_, 1) := by decide +kernel
theorem ef_ens9_16 (m : MethodId) (x0 : Addr) : entryFrame m #[(.ref x0), (.int (9 : Int32))] 3 = mkF m 0 #[.val (.ref x0), .val (.int (9 : Int32)), .unset] [] := by first | (simp [entryFrame, mkF, argsToLocals, Value.category]; done) | rfl
def Qens9_16 (Z : State) (o0 : Addr) (vb : Addr) (kb : ClassId) (vs : List Value) (h0 : Heap) (n0 : Nat) (v : Option Value) (h : Heap) (L : List Loc) : Prop := (v = none) ∧ (Fr n0 L) ∧ (h = h0)
set_option maxRecDepth 65536 in
set_option maxHeartbeats 40000000 in
theorem rmens9_16 (l : Launch) (Z : State) (a0 : Array Value) (hw : ∀ d ∈ tables_1, d.before a0 Z = true) (ws : List Jvm.Cond) (o0 : Addr) (vb : Addr) (kb : ClassId) (vs : List Value) (h0 : Heap) (n0 : Nat) (Z0 : n0 ≤ h0.size) (F_value_o0 : Fld Z h0 o0 "java/lang/AbstractStringBuilder" "value" "[B" (.ref vb)) (F_coder_o0 : Fld Z h0 o0 "java/lang/AbstractStringBuilder" "coder" "B" (.int (0 : Int32))) (A_vb : Arv Z h0 vb kb .byte (16 : Int32) vs (.int (0 : Int32))) :
    MetFree l (⟨"java/lang/AbstractStringBuilder", "ensureCapacityInternal", "(I)V"⟩ : MethodName) (head1 (Jvm.Cond.code (⟨"java/lang/AbstractStringBuilder", "ensureCapacityInternal", "(I)V"⟩ : MethodName) jdk_68_method_9_code 3 none :: ws) ({ frames := 0, cells := 0, slots := 0, locals := 0 } : Room)) (fun a U => a = #[(.ref o0), (.int (9 : Int32))] ∧ Z.Warmed39 U.vm ∧ U.heap = h0) (fun _ _ _ _ _ => True) (fun _ U o U' => ∃ v L, o = .returned v ∧ Qens9_16 Z o0 vb kb vs h0 n0 v U'.heap L ∧ FrameEnd U o U' L ({ frames := 0, cells := 0, slots := 0, locals := 0 } : Room).cells ({ frames := 0, cells := 0, slots := 0, locals := 0 } : Room).slots) := by
  refine MetFree.of_bodySF (plainFor_of_name pn_3) hisR ?_
  intro p e s m args below meth c s₁ Bd hml0 hP hK
  obtain ⟨rfl, hZ, hh⟩ := hP
  have hx := Bd.exec
  have hby := Bd.bytes
  have hml : c.maxLocals = 3 := hml0
  have hown : s.vm.findClass "java/lang/AbstractStringBuilder" = some m.cls := findClass_of_methodNamed Bd.named
  have hnm := (name_of_methodNamed Bd.named Bd.method).1
  have X0 : Stand p l e ({ frames := 0, cells := 0, slots := 0, locals := 0 } : Room) s m #[(.ref o0), (.int (9 : Int32))] below meth c s₁ [] 0 0 := Stand.of_body Bd
  have e0 : s₁.heap = h0 := by rw [← hh, Bd.state]; rfl
  have N0 := Fr.nil n0
  refine Ends.opn ?_
  intro QQ hQQ
  refine Ends.step (S' := s₁.setTop (mkF m 0 #[.val (.ref o0), .val (.int (9 : Int32)), .unset] [])) (fun t k => castTop (ef_ens9_16 m o0) k) ?_
  show Ends p e below QQ (s₁.setTop (mkF m 0 #[.val (.ref o0), .val (.int (9 : Int32)), .unset] []))
  refine Ends.step (fun _ k => XS.aloadN X0.here hx rfl (hb hby d13_0) rfl rfl k) ?_
  show Ends p e below QQ (s₁.setTop (mkF m 1 #[.val (.ref o0), .val (.int (9 : Int32)), .unset] [(.ref o0)]))
  obtain ⟨T27, X27, e27, st27⟩ := getF X0 hx hZ hown (host := "") (Or.inl (hw _ (List.mem_of_getElem? (i := 46) rfl))) Via.refl e0 F_value_o0 (g := (mkF m 1 #[.val (.ref o0), .val (.int (9 : Int32)), .unset] [(.ref o0)])) rfl rfl (hb hby d13_1)
  refine Ends.step st27 ?_
  show Ends p e below QQ (T27.setTop (mkF m 4 #[.val (.ref o0), .val (.int (9 : Int32)), .unset] [(.ref vb)]))
  obtain ⟨cl28, Ar28, -, S28, P28, -, -⟩ := id A_vb
  refine Ends.step (S' := T27.setTop (mkF m 5 #[.val (.ref o0), .val (.int (9 : Int32)), .unset] [(.int (16 : Int32))])) (fun _ k => X27.arraylength hx (by rw [e27]; exact Ar28.1) (State.isArrayOf_alike hZ.alike Ar28.2.1) (g := (mkF m 4 #[.val (.ref o0), .val (.int (9 : Int32)), .unset] [(.ref vb)])) rfl rfl (hb hby d13_4) _ (by rw [len_of S28 P28]; exact k)) ?_
  show Ends p e below QQ (T27.setTop (mkF m 5 #[.val (.ref o0), .val (.int (9 : Int32)), .unset] [(.int (16 : Int32))]))
  refine Ends.step (fun _ k => XS.aloadN X27.here hx rfl (hb hby d13_5) rfl rfl k) ?_
  show Ends p e below QQ (T27.setTop (mkF m 6 #[.val (.ref o0), .val (.int (9 : Int32)), .unset] [(.ref o0), (.int (16 : Int32))]))
  obtain ⟨T29, X29, e29, st29⟩ := getF X27 hx hZ hown (host := "") (Or.inl (hw _ (List.mem_of_getElem? (i := 48) rfl))) Via.refl e27 F_coder_o0 (g := (mkF m 6 #[.val (.ref o0), .val (.int (9 : Int32)), .unset] [(.ref o0), (.int (16 : Int32))])) rfl rfl (hb hby d13_6)
  refine Ends.step st29 ?_
  show Ends p e below QQ (T29.setTop (mkF m 9 #[.val (.ref o0), .val (.int (9 : Int32)), .unset] [(.int (0 : Int32)), (.int (16 : Int32))]))
  refine Ends.step (fun _ k => XS.ishr X29.here hx rfl (hb hby d13_9) rfl k) ?_
  show Ends p e below QQ (T29.setTop (mkF m 10 #[.val (.ref o0), .val (.int (9 : Int32)), .unset] [(.int (16 : Int32))]))
  refine Ends.step (fun _ k => XS.istoreN X29.here hx rfl (hb hby d13_10) rfl (l' := #[.val (.ref o0), .val (.int (9 : Int32)), .val (.int (16 : Int32))]) rfl k) ?_
  show Ends p e below QQ (T29.setTop (mkF m 11 #[.val (.ref o0), .val (.int (9 : Int32)), .val (.int (16 : Int32))] []))
  refine Ends.step (fun _ k => XS.iloadN X29.here hx rfl (hb hby d13_11) rfl k) ?_
  show Ends p e below QQ (T29.setTop (mkF m 12 #[.val (.ref o0), .val (.int (9 : Int32)), .val (.int (16 : Int32))] [(.int (9 : Int32))]))
  refine Ends.step (fun _ k => XS.iloadN X29.here hx rfl (hb hby d13_12) rfl k) ?_
  show Ends p e below QQ (T29.setTop (mkF m 13 #[.val (.ref o0), .val (.int (9 : Int32)), .val (.int (16 : Int32))] [(.int (16 : Int32)), (.int (9 : Int32))]))
  refine Ends.step (fun _ k => XS.isub X29.here hx rfl (hb hby d13_13) rfl k) ?_
  show Ends p e below QQ (T29.setTop (mkF m 14 #[.val (.ref o0), .val (.int (9 : Int32)), .val (.int (16 : Int32))] [(.int (-7 : Int32))]))
  refine Ends.step (fun _ k => XS.ifYes X29.here hx rfl (pc0 := 14) (pc' := 38) rfl (hb hby d13_14) rfl (XT.i0_le_t (by decide)) (by decide) (by decide) k) ?_
  show Ends p e below QQ (T29.setTop (mkF m 38 #[.val (.ref o0), .val (.int (9 : Int32)), .val (.int (16 : Int32))] []))
  exact Ends.fin (none) X29 hQQ (fun _ => rfl) Bd.notSynchronized (fun _ hr => X29.returnOut hx Bd.returns (hb hby d13_38) hr) e29 (by decide) (by decide) ⟨rfl, N0, rfl⟩
theorem d16_0 : decode jdk_42_method_147_code 0 = .ok (.aload_n 0, 1) := by decide +kernel
theorem d16_1 : decode jdk_42_method_147_code 1 = .ok (.invokevirtual 335, 3) := by decide +kernel
theorem d16_4 : decode jdk_42_method_147_code 4 = .ok (.iload_n 3, 1) := by decide +kernel
theorem d16_5 : decode jdk_42_method_147_code 5 = .ok (.if_icmp .ne 23, 3) := by decide +kernel
theorem d16_8 : decode jdk_42_method_147_code 8 = .ok (.aload_n 0, 1) := by decide +kernel
theorem d16_9 : decode jdk_42_method_147_code 9 = .ok (.getfield 9, 3) := by decide +kernel
theorem d16_12 : decode jdk_42_method_147_code 12 = .ok (.iconst 0, 1) := by decide +kernel
theorem d16_13 : decode jdk_42_method_147_code 13 = .ok (.aload_n 1, 1) := by decide +kernel
theorem d16_14 : decode jdk_42_method_147_code 14 = .ok (.iload_n 2, 1) := by decide +kernel
theorem d16_15 : decode jdk_42_method_147_code 15 = .ok (.iload_n 3, 1) := by decide +kernel
theorem d16_16 : decode jdk_42_method_147_code 16 = .ok (.ishl, 1) := by decide +kernel
theorem d16_17 : decode jdk_42_method_147_code 17 = .ok (.aload_n 0, 1) := by decide +kernel
theorem d16_18 : decode jdk_42_method_147_code 18 = .ok (.getfield 9, 3) := by decide +kernel
theorem d16_21 : decode jdk_42_method_147_code 21 = .ok (.arraylength, 1) := by decide +kernel
theorem d16_22 : decode jdk_42_method_147_code 22 = .ok (.invokestatic 212, 3) := by decide +kernel
theorem d16_25 : decode jdk_42_method_147_code 25 = .ok (.goto 18, 3) := by decide +kernel
theorem d16_43 : decode jdk_42_method_147_code 43 = .ok (.return_, 1) := by decide +kernel
theorem ef_gbA (m : MethodId) (x0 : Addr) (x1 : Addr) : entryFrame m #[(.ref x0), (.ref x1), (.int (0 : Int32)), (.int (0 : Int32))] 4 = mkF m 0 #[.val (.ref x0), .val (.ref x1), .val (.int (0 : Int32)), .val (.int (0 : Int32))] [] := by first | (simp [entryFrame, mkF, argsToLocals, Value.category]; done) | rfl
def QgbA (Z : State) (o0 : Addr) (o1 : Addr) (kb : ClassId) (tt : Addr) (kt : ClassId) (cs : Int32) (y0 : Int32) (y1 : Int32) (y2 : Int32) (y3 : Int32) (y4 : Int32) (y5 : Int32) (y6 : Int32) (y7 : Int32) (y8 : Int32) (h0 : Heap) (n0 : Nat) (v : Option Value) (h : Heap) (L : List Loc) : Prop := (v = none) ∧ (Fr n0 L) ∧ (Keep h0 h [o1]) ∧ (Arv Z h o1 kb .byte (16 : Int32) [(.int y0), (.int y1), (.int y2), (.int y3), (.int y4), (.int y5), (.int y6), (.int y7), (.int y8), (.int (0 : Int32)), (.int (0 : Int32)), (.int (0 : Int32)), (.int (0 : Int32)), (.int (0 : Int32)), (.int (0 : Int32)), (.int (0 : Int32))] (.int (0 : Int32)))
set_option maxRecDepth 65536 in
set_option maxHeartbeats 40000000 in
theorem rmgbA (l : Launch) (Z : State) (a0 : Array Value) (hw : ∀ d ∈ tables_1, d.before a0 Z = true) (ws : List Jvm.Cond) (o0 : Addr) (o1 : Addr) (kb : ClassId) (tt : Addr) (kt : ClassId) (cs : Int32) (y0 : Int32) (y1 : Int32) (y2 : Int32) (y3 : Int32) (y4 : Int32) (y5 : Int32) (y6 : Int32) (y7 : Int32) (y8 : Int32) (h0 : Heap) (n0 : Nat) (Z0 : n0 ≤ h0.size) (E_o0 : Exa Z h0 o0 "java/lang/String") (F_value_o0 : Fld Z h0 o0 "java/lang/String" "value" "[B" (.ref tt)) (F_coder_o0 : Fld Z h0 o0 "java/lang/String" "coder" "B" (.int (0 : Int32))) (A_tt : Arv Z h0 tt kt .byte (9 : Int32) [(.int y0), (.int y1), (.int y2), (.int y3), (.int y4), (.int y5), (.int y6), (.int y7), (.int y8)] (.int (0 : Int32))) (A_o1 : Arv Z h0 o1 kb .byte (16 : Int32) [(.int (0 : Int32)), (.int (0 : Int32)), (.int (0 : Int32)), (.int (0 : Int32)), (.int (0 : Int32)), (.int (0 : Int32)), (.int (0 : Int32)), (.int (0 : Int32)), (.int (0 : Int32)), (.int (0 : Int32)), (.int (0 : Int32)), (.int (0 : Int32)), (.int (0 : Int32)), (.int (0 : Int32)), (.int (0 : Int32)), (.int (0 : Int32))] (.int (0 : Int32))) (g_o1 : n0 ≤ o1) (ne_o1_tt : o1 ≠ tt) (ne_o1_o0 : o1 ≠ o0) (S_COMPACT_STRINGS : Sta Z h0 "java/lang/String" "COMPACT_STRINGS" "Z" (.int cs)) (hcs : ¬ cs = (0 : Int32)) :
    MetFree l (⟨"java/lang/String", "getBytes", "([BIB)V"⟩ : MethodName) (head1 (Jvm.Cond.code (⟨"java/lang/String", "getBytes", "([BIB)V"⟩ : MethodName) jdk_42_method_147_code 4 none :: ws) ({ frames := 1, cells := 0, slots := 0, locals := 24 } : Room)) (fun a U => a = #[(.ref o0), (.ref o1), (.int (0 : Int32)), (.int (0 : Int32))] ∧ Z.Warmed39 U.vm ∧ U.heap = h0) (fun _ _ _ _ _ => True) (fun _ U o U' => ∃ v L, o = .returned v ∧ QgbA Z o0 o1 kb tt kt cs y0 y1 y2 y3 y4 y5 y6 y7 y8 h0 n0 v U'.heap L ∧ FrameEnd U o U' L ({ frames := 1, cells := 0, slots := 0, locals := 24 } : Room).cells ({ frames := 1, cells := 0, slots := 0, locals := 24 } : Room).slots) := by
  refine MetFree.of_bodySF (plainFor_of_name pn_0) hisR ?_
  intro p e s m args below meth c s₁ Bd hml0 hP hK
  obtain ⟨rfl, hZ, hh⟩ := hP
  have hx := Bd.exec
  have hby := Bd.bytes
  have hml : c.maxLocals = 4 := hml0
  have hown : s.vm.findClass "java/lang/String" = some m.cls := findClass_of_methodNamed Bd.named
  have hnm := (name_of_methodNamed Bd.named Bd.method).1
  have X0 : Stand p l e ({ frames := 1, cells := 0, slots := 0, locals := 24 } : Room) s m #[(.ref o0), (.ref o1), (.int (0 : Int32)), (.int (0 : Int32))] below meth c s₁ [] 0 0 := Stand.of_body Bd
  have e0 : s₁.heap = h0 := by rw [← hh, Bd.state]; rfl
  have N0 := Fr.nil n0
  refine Ends.opn ?_
  intro QQ hQQ
  refine Ends.step (S' := s₁.setTop (mkF m 0 #[.val (.ref o0), .val (.ref o1), .val (.int (0 : Int32)), .val (.int (0 : Int32))] [])) (fun t k => castTop (ef_gbA m o0 o1) k) ?_
  show Ends p e below QQ (s₁.setTop (mkF m 0 #[.val (.ref o0), .val (.ref o1), .val (.int (0 : Int32)), .val (.int (0 : Int32))] []))
  refine Ends.step (fun _ k => XS.aloadN X0.here hx rfl (hb hby d16_0) rfl rfl k) ?_
  show Ends p e below QQ (s₁.setTop (mkF m 1 #[.val (.ref o0), .val (.ref o1), .val (.int (0 : Int32)), .val (.int (0 : Int32))] [(.ref o0)]))
  obtain ⟨cq30, kq30, q30a, q30b, q30c⟩ := isOf hZ e0 E_o0
  obtain ⟨_, _, ⟨T30, L30, k30, n30⟩, -, X30, ⟨Lc30, hQ30, l30, y30, z30⟩, st30⟩ := X0.virtualBack hx (y := (⟨"java/lang/String", "coder", "()B"⟩ : MethodName)) (z := (⟨"java/lang/String", "coder", "()B"⟩ : MethodName)) hown (mvT hZ (hw _ (List.mem_of_getElem? (i := 72) rfl))) (mvT hZ (hw _ (List.mem_of_getElem? (i := 73) rfl))) (notFace_of_selects (args := #[]) (mvT hZ (hw _ (List.mem_of_getElem? (i := 75) rfl)))) (mvT hZ (hw _ (List.mem_of_getElem? (i := 75) rfl))) (mvT hZ (hw _ (List.mem_of_getElem? (i := 74) rfl))) (by decide) (backOf (W := 0) (rmcod l Z a0 hw [] o0 cs h0 n0 (Nat.le_trans Z0 (Keep.refl h0 [o1]).1) S_COMPACT_STRINGS hcs F_coder_o0) hZ (hw _ (List.mem_of_getElem? (i := 76) rfl)) (hw _ (List.mem_of_getElem? (i := 44) rfl)) (by decide) (by decide)) q30a q30c (g := (mkF m 1 #[.val (.ref o0), .val (.ref o1), .val (.int (0 : Int32)), .val (.int (0 : Int32))] [(.ref o0)])) rfl (by rw [hml]; rfl) (Steps.refl _) (argsL := []) (rest := []) (lenOf pd_0 rfl) rfl (by show 2 * 0 + _ ≤ _; exact Nat.le_of_eq rfl) (hb hby d16_1) (fun _ _ => ⟨rfl, e0, (by decide : 0 + 0 ≤ _), (by decide : 0 + 0 ≤ _)⟩)
  dsimp only [Pt.U, Pt.locs, Pt.cells, Pt.slots] at X30 l30 y30 z30 st30 hQ30
  subst l30 y30 z30
  obtain ⟨rfl, Nq30, hh30⟩ := hQ30
  have N30 := Fr.app N0 Nq30
  refine Ends.step (fun _ k => st30.trans k) ?_
  show Ends p e below QQ (T30.setTop (mkF m 4 #[.val (.ref o0), .val (.ref o1), .val (.int (0 : Int32)), .val (.int (0 : Int32))] [(.int (0 : Int32))]))
  refine Ends.step (fun _ k => XS.iloadN X30.here hx rfl (hb hby d16_4) rfl k) ?_
  show Ends p e below QQ (T30.setTop (mkF m 5 #[.val (.ref o0), .val (.ref o1), .val (.int (0 : Int32)), .val (.int (0 : Int32))] [(.int (0 : Int32)), (.int (0 : Int32))]))
  refine Ends.step (fun _ k => XS.icmpNo X30.here hx rfl (hb hby d16_5) rfl (XT.ii_ne_f (by decide)) k) ?_
  show Ends p e below QQ (T30.setTop (mkF m 8 #[.val (.ref o0), .val (.ref o1), .val (.int (0 : Int32)), .val (.int (0 : Int32))] []))
  refine Ends.step (fun _ k => XS.aloadN X30.here hx rfl (hb hby d16_8) rfl rfl k) ?_
  show Ends p e below QQ (T30.setTop (mkF m 9 #[.val (.ref o0), .val (.ref o1), .val (.int (0 : Int32)), .val (.int (0 : Int32))] [(.ref o0)]))
  obtain ⟨T31, X31, e31, st31⟩ := getF X30 hx hZ hown (host := "") (Or.inl (hw _ (List.mem_of_getElem? (i := 71) rfl))) Via.refl hh30 F_value_o0 (g := (mkF m 9 #[.val (.ref o0), .val (.ref o1), .val (.int (0 : Int32)), .val (.int (0 : Int32))] [(.ref o0)])) rfl rfl (hb hby d16_9)
  refine Ends.step st31 ?_
  show Ends p e below QQ (T31.setTop (mkF m 12 #[.val (.ref o0), .val (.ref o1), .val (.int (0 : Int32)), .val (.int (0 : Int32))] [(.ref tt)]))
  refine Ends.step (fun _ k => XT.iconstV X31.here hx rfl (0 : Int32) (hb hby d16_12) rfl k) ?_
  show Ends p e below QQ (T31.setTop (mkF m 13 #[.val (.ref o0), .val (.ref o1), .val (.int (0 : Int32)), .val (.int (0 : Int32))] [(.int (0 : Int32)), (.ref tt)]))
  refine Ends.step (fun _ k => XS.aloadN X31.here hx rfl (hb hby d16_13) rfl rfl k) ?_
  show Ends p e below QQ (T31.setTop (mkF m 14 #[.val (.ref o0), .val (.ref o1), .val (.int (0 : Int32)), .val (.int (0 : Int32))] [(.ref o1), (.int (0 : Int32)), (.ref tt)]))
  refine Ends.step (fun _ k => XS.iloadN X31.here hx rfl (hb hby d16_14) rfl k) ?_
  show Ends p e below QQ (T31.setTop (mkF m 15 #[.val (.ref o0), .val (.ref o1), .val (.int (0 : Int32)), .val (.int (0 : Int32))] [(.int (0 : Int32)), (.ref o1), (.int (0 : Int32)), (.ref tt)]))
  refine Ends.step (fun _ k => XS.iloadN X31.here hx rfl (hb hby d16_15) rfl k) ?_
  show Ends p e below QQ (T31.setTop (mkF m 16 #[.val (.ref o0), .val (.ref o1), .val (.int (0 : Int32)), .val (.int (0 : Int32))] [(.int (0 : Int32)), (.int (0 : Int32)), (.ref o1), (.int (0 : Int32)), (.ref tt)]))
  refine Ends.step (fun _ k => XS.ishl X31.here hx rfl (hb hby d16_16) rfl k) ?_
  show Ends p e below QQ (T31.setTop (mkF m 17 #[.val (.ref o0), .val (.ref o1), .val (.int (0 : Int32)), .val (.int (0 : Int32))] [(.int (0 : Int32)), (.ref o1), (.int (0 : Int32)), (.ref tt)]))
  refine Ends.step (fun _ k => XS.aloadN X31.here hx rfl (hb hby d16_17) rfl rfl k) ?_
  show Ends p e below QQ (T31.setTop (mkF m 18 #[.val (.ref o0), .val (.ref o1), .val (.int (0 : Int32)), .val (.int (0 : Int32))] [(.ref o0), (.int (0 : Int32)), (.ref o1), (.int (0 : Int32)), (.ref tt)]))
  obtain ⟨T32, X32, e32, st32⟩ := getF X31 hx hZ hown (host := "") (Or.inl (hw _ (List.mem_of_getElem? (i := 71) rfl))) Via.refl e31 F_value_o0 (g := (mkF m 18 #[.val (.ref o0), .val (.ref o1), .val (.int (0 : Int32)), .val (.int (0 : Int32))] [(.ref o0), (.int (0 : Int32)), (.ref o1), (.int (0 : Int32)), (.ref tt)])) rfl rfl (hb hby d16_18)
  refine Ends.step st32 ?_
  show Ends p e below QQ (T32.setTop (mkF m 21 #[.val (.ref o0), .val (.ref o1), .val (.int (0 : Int32)), .val (.int (0 : Int32))] [(.ref tt), (.int (0 : Int32)), (.ref o1), (.int (0 : Int32)), (.ref tt)]))
  obtain ⟨cl33, Ar33, -, S33, P33, -, -⟩ := id A_tt
  refine Ends.step (S' := T32.setTop (mkF m 22 #[.val (.ref o0), .val (.ref o1), .val (.int (0 : Int32)), .val (.int (0 : Int32))] [(.int (9 : Int32)), (.int (0 : Int32)), (.ref o1), (.int (0 : Int32)), (.ref tt)])) (fun _ k => X32.arraylength hx (by rw [e32]; exact Ar33.1) (State.isArrayOf_alike hZ.alike Ar33.2.1) (g := (mkF m 21 #[.val (.ref o0), .val (.ref o1), .val (.int (0 : Int32)), .val (.int (0 : Int32))] [(.ref tt), (.int (0 : Int32)), (.ref o1), (.int (0 : Int32)), (.ref tt)])) rfl rfl (hb hby d16_21) _ (by rw [len_of S33 P33]; exact k)) ?_
  show Ends p e below QQ (T32.setTop (mkF m 22 #[.val (.ref o0), .val (.ref o1), .val (.int (0 : Int32)), .val (.int (0 : Int32))] [(.int (9 : Int32)), (.int (0 : Int32)), (.ref o1), (.int (0 : Int32)), (.ref tt)]))
  obtain ⟨T34, h34, L34, X34, e34, N34, Kq34, AA34, st34⟩ := cpA X32 hx hZ hown (hw _ (List.mem_of_getElem? (i := 102) rfl)) (hw _ (List.mem_of_getElem? (i := 105) rfl)) (hw _ (List.mem_of_getElem? (i := 103) rfl)) (hw _ (List.mem_of_getElem? (i := 104) rfl)) e32 A_tt A_o1 (Or.inl ⟨rfl, rfl⟩) (by decide) (by decide) (by decide) (by decide) (by decide) (us := [(.int y0), (.int y1), (.int y2), (.int y3), (.int y4), (.int y5), (.int y6), (.int y7), (.int y8)]) (by rfl) (Nat.le_of_ble_eq_true rfl) N30 g_o1 (g := (mkF m 22 #[.val (.ref o0), .val (.ref o1), .val (.int (0 : Int32)), .val (.int (0 : Int32))] [(.int (9 : Int32)), (.int (0 : Int32)), (.ref o1), (.int (0 : Int32)), (.ref tt)])) rfl (by rw [hml]; rfl) rfl (hb hby d16_22) (by decide) (W := 0) (by show 2 * 0 + _ ≤ _; exact Nat.le_of_eq rfl) (by decide)
  have S_COMPACT_STRINGS := own_sta_keep S_COMPACT_STRINGS Kq34 (allS (own_arv_cell A_o1) all0)
  have E_o0 := E_o0.keep Kq34
  have F_value_o0 := F_value_o0.keep Kq34 (ninS (Ne.symm ne_o1_o0) nin0)
  have F_coder_o0 := F_coder_o0.keep Kq34 (ninS (Ne.symm ne_o1_o0) nin0)
  have A_tt := A_tt.keep Kq34 (ninS (Ne.symm ne_o1_tt) nin0)
  have A_o1 : Arv Z h34 o1 kb .byte (16 : Int32) [(.int y0), (.int y1), (.int y2), (.int y3), (.int y4), (.int y5), (.int y6), (.int y7), (.int y8), (.int (0 : Int32)), (.int (0 : Int32)), (.int (0 : Int32)), (.int (0 : Int32)), (.int (0 : Int32)), (.int (0 : Int32)), (.int (0 : Int32))] (.int (0 : Int32)) := AA34
  have K34 := (Keep.refl h0 [o1]).trans Kq34 (allS (Or.inl (List.mem_of_getElem? (i := 0) rfl)) all0)
  refine Ends.step st34 ?_
  show Ends p e below QQ (T34.setTop (mkF m 25 #[.val (.ref o0), .val (.ref o1), .val (.int (0 : Int32)), .val (.int (0 : Int32))] []))
  refine Ends.step (fun _ k => XS.goto X34.here hx rfl (pc0 := 25) (pc' := 43) rfl (hb hby d16_25) (by decide) (by decide) k) ?_
  show Ends p e below QQ (T34.setTop (mkF m 43 #[.val (.ref o0), .val (.ref o1), .val (.int (0 : Int32)), .val (.int (0 : Int32))] []))
  exact Ends.fin (none) X34 hQQ (fun _ => rfl) Bd.notSynchronized (fun _ hr => X34.returnOut hx Bd.returns (hb hby d16_43) hr) e34 (by decide) (by decide) ⟨rfl, N34, K34, A_o1⟩
theorem d14_0 : decode jdk_68_method_73_code 0 = .ok (.aload_n 0, 1) := by decide +kernel
theorem d14_1 : decode jdk_68_method_73_code 1 = .ok (.aload_n 2, 1) := by decide +kernel
theorem d14_2 : decode jdk_68_method_73_code 2 = .ok (.invokevirtual 397, 3) := by decide +kernel
theorem d14_5 : decode jdk_68_method_73_code 5 = .ok (.aload_n 2, 1) := by decide +kernel
theorem d14_6 : decode jdk_68_method_73_code 6 = .ok (.aload_n 0, 1) := by decide +kernel
theorem d14_7 : decode jdk_68_method_73_code 7 = .ok (.getfield 15, 3) := by decide +kernel
theorem d14_10 : decode jdk_68_method_73_code 10 = .ok (.iload_n 1, 1) := by decide +kernel
theorem d14_11 : decode jdk_68_method_73_code 11 = .ok (.aload_n 0, 1) := by decide +kernel
theorem d14_12 : decode jdk_68_method_73_code 12 = .ok (.getfield 22, 3) := by decide +kernel
theorem d14_15 : decode jdk_68_method_73_code 15 = .ok (.invokevirtual 399, 3) := by decide +kernel
theorem d14_18 : decode jdk_68_method_73_code 18 = .ok (.return_, 1) := by decide +kernel
theorem ef_psA (m : MethodId) (x0 : Addr) (x2 : Addr) : entryFrame m #[(.ref x0), (.int (0 : Int32)), (.ref x2)] 3 = mkF m 0 #[.val (.ref x0), .val (.int (0 : Int32)), .val (.ref x2)] [] := by first | (simp [entryFrame, mkF, argsToLocals, Value.category]; done) | rfl
def QpsA (Z : State) (o0 : Addr) (o2 : Addr) (vb : Addr) (kb : ClassId) (tt : Addr) (kt : ClassId) (cs : Int32) (y0 : Int32) (y1 : Int32) (y2 : Int32) (y3 : Int32) (y4 : Int32) (y5 : Int32) (y6 : Int32) (y7 : Int32) (y8 : Int32) (h0 : Heap) (n0 : Nat) (v : Option Value) (h : Heap) (L : List Loc) : Prop := (v = none) ∧ (Fr n0 L) ∧ (Keep h0 h [vb]) ∧ (Arv Z h vb kb .byte (16 : Int32) [(.int y0), (.int y1), (.int y2), (.int y3), (.int y4), (.int y5), (.int y6), (.int y7), (.int y8), (.int (0 : Int32)), (.int (0 : Int32)), (.int (0 : Int32)), (.int (0 : Int32)), (.int (0 : Int32)), (.int (0 : Int32)), (.int (0 : Int32))] (.int (0 : Int32)))
set_option maxRecDepth 65536 in
set_option maxHeartbeats 40000000 in
theorem rmpsA (l : Launch) (Z : State) (a0 : Array Value) (hw : ∀ d ∈ tables_1, d.before a0 Z = true) (ws : List Jvm.Cond) (o0 : Addr) (o2 : Addr) (vb : Addr) (kb : ClassId) (tt : Addr) (kt : ClassId) (cs : Int32) (y0 : Int32) (y1 : Int32) (y2 : Int32) (y3 : Int32) (y4 : Int32) (y5 : Int32) (y6 : Int32) (y7 : Int32) (y8 : Int32) (h0 : Heap) (n0 : Nat) (Z0 : n0 ≤ h0.size) (E_o0 : Exa Z h0 o0 "java/lang/StringBuilder") (F_value_o0 : Fld Z h0 o0 "java/lang/AbstractStringBuilder" "value" "[B" (.ref vb)) (F_coder_o0 : Fld Z h0 o0 "java/lang/AbstractStringBuilder" "coder" "B" (.int (0 : Int32))) (F_count_o0 : Fld Z h0 o0 "java/lang/AbstractStringBuilder" "count" "I" (.int (0 : Int32))) (E_vb : Exa Z h0 vb "[B") (A_vb : Arv Z h0 vb kb .byte (16 : Int32) [(.int (0 : Int32)), (.int (0 : Int32)), (.int (0 : Int32)), (.int (0 : Int32)), (.int (0 : Int32)), (.int (0 : Int32)), (.int (0 : Int32)), (.int (0 : Int32)), (.int (0 : Int32)), (.int (0 : Int32)), (.int (0 : Int32)), (.int (0 : Int32)), (.int (0 : Int32)), (.int (0 : Int32)), (.int (0 : Int32)), (.int (0 : Int32))] (.int (0 : Int32))) (g_o0 : n0 ≤ o0) (g_vb : n0 ≤ vb) (ne_o0_vb : o0 ≠ vb) (E_o2 : Exa Z h0 o2 "java/lang/String") (F_value_o2 : Fld Z h0 o2 "java/lang/String" "value" "[B" (.ref tt)) (F_coder_o2 : Fld Z h0 o2 "java/lang/String" "coder" "B" (.int (0 : Int32))) (A_tt : Arv Z h0 tt kt .byte (9 : Int32) [(.int y0), (.int y1), (.int y2), (.int y3), (.int y4), (.int y5), (.int y6), (.int y7), (.int y8)] (.int (0 : Int32))) (ne_vb_tt : vb ≠ tt) (ne_vb_o2 : vb ≠ o2) (S_COMPACT_STRINGS : Sta Z h0 "java/lang/String" "COMPACT_STRINGS" "Z" (.int cs)) (hcs : ¬ cs = (0 : Int32)) :
    MetFree l (⟨"java/lang/AbstractStringBuilder", "putStringAt", "(ILjava/lang/String;)V"⟩ : MethodName) (head1 (Jvm.Cond.code (⟨"java/lang/AbstractStringBuilder", "putStringAt", "(ILjava/lang/String;)V"⟩ : MethodName) jdk_68_method_73_code 3 none :: ws) ({ frames := 2, cells := 0, slots := 0, locals := 39 } : Room)) (fun a U => a = #[(.ref o0), (.int (0 : Int32)), (.ref o2)] ∧ Z.Warmed39 U.vm ∧ U.heap = h0) (fun _ _ _ _ _ => True) (fun _ U o U' => ∃ v L, o = .returned v ∧ QpsA Z o0 o2 vb kb tt kt cs y0 y1 y2 y3 y4 y5 y6 y7 y8 h0 n0 v U'.heap L ∧ FrameEnd U o U' L ({ frames := 2, cells := 0, slots := 0, locals := 39 } : Room).cells ({ frames := 2, cells := 0, slots := 0, locals := 39 } : Room).slots) := by
  refine MetFree.of_bodySF (plainFor_of_name pn_3) hisR ?_
  intro p e s m args below meth c s₁ Bd hml0 hP hK
  obtain ⟨rfl, hZ, hh⟩ := hP
  have hx := Bd.exec
  have hby := Bd.bytes
  have hml : c.maxLocals = 3 := hml0
  have hown : s.vm.findClass "java/lang/AbstractStringBuilder" = some m.cls := findClass_of_methodNamed Bd.named
  have hnm := (name_of_methodNamed Bd.named Bd.method).1
  have X0 : Stand p l e ({ frames := 2, cells := 0, slots := 0, locals := 39 } : Room) s m #[(.ref o0), (.int (0 : Int32)), (.ref o2)] below meth c s₁ [] 0 0 := Stand.of_body Bd
  have e0 : s₁.heap = h0 := by rw [← hh, Bd.state]; rfl
  have N0 := Fr.nil n0
  refine Ends.opn ?_
  intro QQ hQQ
  refine Ends.step (S' := s₁.setTop (mkF m 0 #[.val (.ref o0), .val (.int (0 : Int32)), .val (.ref o2)] [])) (fun t k => castTop (ef_psA m o0 o2) k) ?_
  show Ends p e below QQ (s₁.setTop (mkF m 0 #[.val (.ref o0), .val (.int (0 : Int32)), .val (.ref o2)] []))
  refine Ends.step (fun _ k => XS.aloadN X0.here hx rfl (hb hby d14_0) rfl rfl k) ?_
  show Ends p e below QQ (s₁.setTop (mkF m 1 #[.val (.ref o0), .val (.int (0 : Int32)), .val (.ref o2)] [(.ref o0)]))
  refine Ends.step (fun _ k => XS.aloadN X0.here hx rfl (hb hby d14_1) rfl rfl k) ?_
  show Ends p e below QQ (s₁.setTop (mkF m 2 #[.val (.ref o0), .val (.int (0 : Int32)), .val (.ref o2)] [(.ref o2), (.ref o0)]))
  obtain ⟨cq35, q35, q35'⟩ := E_o0.cell
  obtain ⟨_, _, ⟨T35, L35, k35, n35⟩, -, X35, ⟨Lc35, hQ35, l35, y35, z35⟩, st35⟩ := X0.privateBack hx (y := (⟨"java/lang/AbstractStringBuilder", "inflateIfNeededFor", "(Ljava/lang/String;)V"⟩ : MethodName)) hown (mvT hZ (hw _ (List.mem_of_getElem? (i := 91) rfl))) (mvT hZ (hw _ (List.mem_of_getElem? (i := 92) rfl))) (mvT hZ (own_selq (y := (⟨"java/lang/AbstractStringBuilder", "inflateIfNeededFor", "(Ljava/lang/String;)V"⟩ : MethodName)) (hw _ (List.mem_of_getElem? (i := 84) rfl)) rfl (hw _ (List.mem_of_getElem? (i := 93) rfl)) (hw _ (List.mem_of_getElem? (i := 92) rfl)) (by decide))) (Cond.privateMethod_at (mvP hZ (hw _ (List.mem_of_getElem? (i := 93) rfl)) (args := #[]))) (mvT hZ (hw _ (List.mem_of_getElem? (i := 95) rfl))) (by decide) (backOf (W := 0) (rminf l Z a0 hw [] o0 o2 cs h0 n0 (Nat.le_trans Z0 (Keep.refl h0 [vb]).1) S_COMPACT_STRINGS hcs F_coder_o0 E_o2 F_coder_o2) hZ (hw _ (List.mem_of_getElem? (i := 95) rfl)) (hw _ (List.mem_of_getElem? (i := 40) rfl)) (by decide) (by decide)) (g := (mkF m 2 #[.val (.ref o0), .val (.int (0 : Int32)), .val (.ref o2)] [(.ref o2), (.ref o0)])) rfl (by rw [hml]; rfl) (Steps.refl _) (a := o0) (by rw [e0]; exact q35) q35' (argsL := [(.ref o2)]) (rest := []) (lenOf pd_6 rfl) rfl (by show 2 * 0 + _ ≤ _; exact Nat.le_of_eq rfl) (hb hby d14_2) (fun _ _ => ⟨rfl, e0, (by decide : 0 + 0 ≤ _), (by decide : 0 + 0 ≤ _)⟩)
  dsimp only [Pt.U, Pt.locs, Pt.cells, Pt.slots] at X35 l35 y35 z35 st35 hQ35
  subst l35 y35 z35
  obtain ⟨rfl, Nq35, hh35⟩ := hQ35
  have N35 := Fr.app N0 Nq35
  refine Ends.step (fun _ k => st35.trans k) ?_
  show Ends p e below QQ (T35.setTop (mkF m 5 #[.val (.ref o0), .val (.int (0 : Int32)), .val (.ref o2)] []))
  refine Ends.step (fun _ k => XS.aloadN X35.here hx rfl (hb hby d14_5) rfl rfl k) ?_
  show Ends p e below QQ (T35.setTop (mkF m 6 #[.val (.ref o0), .val (.int (0 : Int32)), .val (.ref o2)] [(.ref o2)]))
  refine Ends.step (fun _ k => XS.aloadN X35.here hx rfl (hb hby d14_6) rfl rfl k) ?_
  show Ends p e below QQ (T35.setTop (mkF m 7 #[.val (.ref o0), .val (.int (0 : Int32)), .val (.ref o2)] [(.ref o0), (.ref o2)]))
  obtain ⟨T36, X36, e36, st36⟩ := getF X35 hx hZ hown (host := "") (Or.inl (hw _ (List.mem_of_getElem? (i := 46) rfl))) Via.refl hh35 F_value_o0 (g := (mkF m 7 #[.val (.ref o0), .val (.int (0 : Int32)), .val (.ref o2)] [(.ref o0), (.ref o2)])) rfl rfl (hb hby d14_7)
  refine Ends.step st36 ?_
  show Ends p e below QQ (T36.setTop (mkF m 10 #[.val (.ref o0), .val (.int (0 : Int32)), .val (.ref o2)] [(.ref vb), (.ref o2)]))
  refine Ends.step (fun _ k => XS.iloadN X36.here hx rfl (hb hby d14_10) rfl k) ?_
  show Ends p e below QQ (T36.setTop (mkF m 11 #[.val (.ref o0), .val (.int (0 : Int32)), .val (.ref o2)] [(.int (0 : Int32)), (.ref vb), (.ref o2)]))
  refine Ends.step (fun _ k => XS.aloadN X36.here hx rfl (hb hby d14_11) rfl rfl k) ?_
  show Ends p e below QQ (T36.setTop (mkF m 12 #[.val (.ref o0), .val (.int (0 : Int32)), .val (.ref o2)] [(.ref o0), (.int (0 : Int32)), (.ref vb), (.ref o2)]))
  obtain ⟨T37, X37, e37, st37⟩ := getF X36 hx hZ hown (host := "") (Or.inl (hw _ (List.mem_of_getElem? (i := 48) rfl))) Via.refl e36 F_coder_o0 (g := (mkF m 12 #[.val (.ref o0), .val (.int (0 : Int32)), .val (.ref o2)] [(.ref o0), (.int (0 : Int32)), (.ref vb), (.ref o2)])) rfl rfl (hb hby d14_12)
  refine Ends.step st37 ?_
  show Ends p e below QQ (T37.setTop (mkF m 15 #[.val (.ref o0), .val (.int (0 : Int32)), .val (.ref o2)] [(.int (0 : Int32)), (.int (0 : Int32)), (.ref vb), (.ref o2)]))
  obtain ⟨cq38, kq38, q38a, q38b, q38c⟩ := isOf hZ e37 E_o2
  obtain ⟨_, _, ⟨T38, L38, k38, n38⟩, -, X38, ⟨Lc38, hQ38, l38, y38, z38⟩, st38⟩ := X37.virtualBack hx (y := (⟨"java/lang/String", "getBytes", "([BIB)V"⟩ : MethodName)) (z := (⟨"java/lang/String", "getBytes", "([BIB)V"⟩ : MethodName)) hown (mvT hZ (hw _ (List.mem_of_getElem? (i := 97) rfl))) (mvT hZ (hw _ (List.mem_of_getElem? (i := 98) rfl))) (notFace_of_selects (args := #[]) (mvT hZ (hw _ (List.mem_of_getElem? (i := 100) rfl)))) (mvT hZ (hw _ (List.mem_of_getElem? (i := 100) rfl))) (mvT hZ (hw _ (List.mem_of_getElem? (i := 99) rfl))) (by decide) (backOf (W := 0) (rmgbA l Z a0 hw [] o2 vb kb tt kt cs y0 y1 y2 y3 y4 y5 y6 y7 y8 h0 n0 (Nat.le_trans Z0 (Keep.refl h0 [vb]).1) E_o2 F_value_o2 F_coder_o2 A_tt A_vb g_vb ne_vb_tt ne_vb_o2 S_COMPACT_STRINGS hcs) hZ (hw _ (List.mem_of_getElem? (i := 101) rfl)) (hw _ (List.mem_of_getElem? (i := 44) rfl)) (by decide) (by decide)) q38a q38c (g := (mkF m 15 #[.val (.ref o0), .val (.int (0 : Int32)), .val (.ref o2)] [(.int (0 : Int32)), (.int (0 : Int32)), (.ref vb), (.ref o2)])) rfl (by rw [hml]; rfl) (Steps.refl _) (argsL := [(.ref vb), (.int (0 : Int32)), (.int (0 : Int32))]) (rest := []) (lenOf pd_7 rfl) rfl (by show 2 * 0 + _ ≤ _; exact Nat.le_of_eq rfl) (hb hby d14_15) (fun _ _ => ⟨rfl, e37, (by decide : 0 + 0 ≤ _), (by decide : 0 + 0 ≤ _)⟩)
  dsimp only [Pt.U, Pt.locs, Pt.cells, Pt.slots] at X38 l38 y38 z38 st38 hQ38
  subst l38 y38 z38
  obtain ⟨rfl, Nq38, Kq38, fq38_0⟩ := hQ38
  have N38 := Fr.app N35 Nq38
  have S_COMPACT_STRINGS := own_sta_keep S_COMPACT_STRINGS Kq38 (allS E_vb.cell all0)
  have E_o0 := E_o0.keep Kq38
  have F_value_o0 := F_value_o0.keep Kq38 (ninS ne_o0_vb nin0)
  have F_coder_o0 := F_coder_o0.keep Kq38 (ninS ne_o0_vb nin0)
  have F_count_o0 := F_count_o0.keep Kq38 (ninS ne_o0_vb nin0)
  have E_vb := E_vb.keep Kq38
  have E_o2 := E_o2.keep Kq38
  have F_value_o2 := F_value_o2.keep Kq38 (ninS (Ne.symm ne_vb_o2) nin0)
  have F_coder_o2 := F_coder_o2.keep Kq38 (ninS (Ne.symm ne_vb_o2) nin0)
  have A_tt := A_tt.keep Kq38 (ninS (Ne.symm ne_vb_tt) nin0)
  have A_vb := fq38_0
  have K38 := (Keep.refl h0 [vb]).trans Kq38 (allS (Or.inl (List.mem_of_getElem? (i := 0) rfl)) all0)
  refine Ends.step (fun _ k => st38.trans k) ?_
  show Ends p e below QQ (T38.setTop (mkF m 18 #[.val (.ref o0), .val (.int (0 : Int32)), .val (.ref o2)] []))
  exact Ends.fin (none) X38 hQQ (fun _ => rfl) Bd.notSynchronized (fun _ hr => X38.returnOut hx Bd.returns (hb hby d14_18) hr) rfl (by decide) (by decide) ⟨rfl, N38, K38, A_vb⟩
theorem d10_0 : decode jdk_68_method_22_code 0 = .ok (.aload_n 1, 1) := by decide +kernel
theorem d10_1 : decode jdk_68_method_22_code 1 = .ok (.ifnonnull 8, 3) := by decide +kernel
theorem d10_9 : decode jdk_68_method_22_code 9 = .ok (.aload_n 1, 1) := by decide +kernel
theorem d10_10 : decode jdk_68_method_22_code 10 = .ok (.invokevirtual 32, 3) := by decide +kernel
theorem d10_13 : decode jdk_68_method_22_code 13 = .ok (.istore_n 2, 1) := by decide +kernel
theorem d10_14 : decode jdk_68_method_22_code 14 = .ok (.aload_n 0, 1) := by decide +kernel
theorem d10_15 : decode jdk_68_method_22_code 15 = .ok (.aload_n 0, 1) := by decide +kernel
theorem d10_16 : decode jdk_68_method_22_code 16 = .ok (.getfield 79, 3) := by decide +kernel
theorem d10_19 : decode jdk_68_method_22_code 19 = .ok (.iload_n 2, 1) := by decide +kernel
theorem d10_20 : decode jdk_68_method_22_code 20 = .ok (.iadd, 1) := by decide +kernel
theorem d10_21 : decode jdk_68_method_22_code 21 = .ok (.invokevirtual 100, 3) := by decide +kernel
theorem d10_24 : decode jdk_68_method_22_code 24 = .ok (.aload_n 0, 1) := by decide +kernel
theorem d10_25 : decode jdk_68_method_22_code 25 = .ok (.aload_n 0, 1) := by decide +kernel
theorem d10_26 : decode jdk_68_method_22_code 26 = .ok (.getfield 79, 3) := by decide +kernel
theorem d10_29 : decode jdk_68_method_22_code 29 = .ok (.aload_n 1, 1) := by decide +kernel
theorem d10_30 : decode jdk_68_method_22_code 30 = .ok (.invokevirtual 208, 3) := by decide +kernel
theorem d10_33 : decode jdk_68_method_22_code 33 = .ok (.aload_n 0, 1) := by decide +kernel
theorem d10_34 : decode jdk_68_method_22_code 34 = .ok (.dup, 1) := by decide +kernel
theorem d10_35 : decode jdk_68_method_22_code 35 = .ok (.getfield 79, 3) := by decide +kernel
theorem d10_38 : decode jdk_68_method_22_code 38 = .ok (.iload_n 2, 1) := by decide +kernel
theorem d10_39 : decode jdk_68_method_22_code 39 = .ok (.iadd, 1) := by decide +kernel
theorem d10_40 : decode jdk_68_method_22_code 40 = .ok (.putfield 79, 3) := by decide +kernel
theorem d10_43 : decode jdk_68_method_22_code 43 = .ok (.aload_n 0, 1) := by decide +kernel
theorem d10_44 : decode jdk_68_method_22_code 44 = .ok (.areturn, 1) := by decide +kernel
theorem ef_apsA (m : MethodId) (x0 : Addr) (x1 : Addr) : entryFrame m #[(.ref x0), (.ref x1)] 3 = mkF m 0 #[.val (.ref x0), .val (.ref x1), .unset] [] := by first | (simp [entryFrame, mkF, argsToLocals, Value.category]; done) | rfl
def QapsA (Z : State) (o0 : Addr) (o1 : Addr) (vb : Addr) (kb : ClassId) (tt : Addr) (kt : ClassId) (cs : Int32) (y0 : Int32) (y1 : Int32) (y2 : Int32) (y3 : Int32) (y4 : Int32) (y5 : Int32) (y6 : Int32) (y7 : Int32) (y8 : Int32) (h0 : Heap) (n0 : Nat) (v : Option Value) (h : Heap) (L : List Loc) : Prop := (v = some (.ref o0)) ∧ (Fr n0 L) ∧ (Keep h0 h [o0, vb]) ∧ (Exa Z h o0 "java/lang/StringBuilder") ∧ (Fld Z h o0 "java/lang/AbstractStringBuilder" "value" "[B" (.ref vb)) ∧ (Fld Z h o0 "java/lang/AbstractStringBuilder" "coder" "B" (.int (0 : Int32))) ∧ (Fld Z h o0 "java/lang/AbstractStringBuilder" "count" "I" (.int (9 : Int32))) ∧ (Arv Z h vb kb .byte (16 : Int32) [(.int y0), (.int y1), (.int y2), (.int y3), (.int y4), (.int y5), (.int y6), (.int y7), (.int y8), (.int (0 : Int32)), (.int (0 : Int32)), (.int (0 : Int32)), (.int (0 : Int32)), (.int (0 : Int32)), (.int (0 : Int32)), (.int (0 : Int32))] (.int (0 : Int32))) ∧ (Exa Z h vb "[B")
set_option maxRecDepth 65536 in
set_option maxHeartbeats 40000000 in
theorem rmapsA (l : Launch) (Z : State) (a0 : Array Value) (hw : ∀ d ∈ tables_1, d.before a0 Z = true) (ws : List Jvm.Cond) (o0 : Addr) (o1 : Addr) (vb : Addr) (kb : ClassId) (tt : Addr) (kt : ClassId) (cs : Int32) (y0 : Int32) (y1 : Int32) (y2 : Int32) (y3 : Int32) (y4 : Int32) (y5 : Int32) (y6 : Int32) (y7 : Int32) (y8 : Int32) (h0 : Heap) (n0 : Nat) (Z0 : n0 ≤ h0.size) (E_o0 : Exa Z h0 o0 "java/lang/StringBuilder") (F_value_o0 : Fld Z h0 o0 "java/lang/AbstractStringBuilder" "value" "[B" (.ref vb)) (F_coder_o0 : Fld Z h0 o0 "java/lang/AbstractStringBuilder" "coder" "B" (.int (0 : Int32))) (F_count_o0 : Fld Z h0 o0 "java/lang/AbstractStringBuilder" "count" "I" (.int (0 : Int32))) (E_vb : Exa Z h0 vb "[B") (A_vb : Arv Z h0 vb kb .byte (16 : Int32) [(.int (0 : Int32)), (.int (0 : Int32)), (.int (0 : Int32)), (.int (0 : Int32)), (.int (0 : Int32)), (.int (0 : Int32)), (.int (0 : Int32)), (.int (0 : Int32)), (.int (0 : Int32)), (.int (0 : Int32)), (.int (0 : Int32)), (.int (0 : Int32)), (.int (0 : Int32)), (.int (0 : Int32)), (.int (0 : Int32)), (.int (0 : Int32))] (.int (0 : Int32))) (g_o0 : n0 ≤ o0) (g_vb : n0 ≤ vb) (ne_o0_vb : o0 ≠ vb) (E_o1 : Exa Z h0 o1 "java/lang/String") (F_value_o1 : Fld Z h0 o1 "java/lang/String" "value" "[B" (.ref tt)) (F_coder_o1 : Fld Z h0 o1 "java/lang/String" "coder" "B" (.int (0 : Int32))) (A_tt : Arv Z h0 tt kt .byte (9 : Int32) [(.int y0), (.int y1), (.int y2), (.int y3), (.int y4), (.int y5), (.int y6), (.int y7), (.int y8)] (.int (0 : Int32))) (ne_vb_tt : vb ≠ tt) (ne_o0_tt : o0 ≠ tt) (ne_o0_o1 : o0 ≠ o1) (ne_vb_o1 : vb ≠ o1) (S_COMPACT_STRINGS : Sta Z h0 "java/lang/String" "COMPACT_STRINGS" "Z" (.int cs)) (hcs : ¬ cs = (0 : Int32)) :
    MetFree l (⟨"java/lang/AbstractStringBuilder", "append", "(Ljava/lang/String;)Ljava/lang/AbstractStringBuilder;"⟩ : MethodName) (head1 (Jvm.Cond.code (⟨"java/lang/AbstractStringBuilder", "append", "(Ljava/lang/String;)Ljava/lang/AbstractStringBuilder;"⟩ : MethodName) jdk_68_method_22_code 3 (some (.object "java/lang/AbstractStringBuilder")) :: ws) ({ frames := 3, cells := 0, slots := 0, locals := 53 } : Room)) (fun a U => a = #[(.ref o0), (.ref o1)] ∧ Z.Warmed39 U.vm ∧ U.heap = h0) (fun _ _ _ _ _ => True) (fun _ U o U' => ∃ v L, o = .returned v ∧ QapsA Z o0 o1 vb kb tt kt cs y0 y1 y2 y3 y4 y5 y6 y7 y8 h0 n0 v U'.heap L ∧ FrameEnd U o U' L ({ frames := 3, cells := 0, slots := 0, locals := 53 } : Room).cells ({ frames := 3, cells := 0, slots := 0, locals := 53 } : Room).slots) := by
  refine MetFree.of_bodySF (plainFor_of_name pn_3) hisR ?_
  intro p e s m args below meth c s₁ Bd hml0 hP hK
  obtain ⟨rfl, hZ, hh⟩ := hP
  have hx := Bd.exec
  have hby := Bd.bytes
  have hml : c.maxLocals = 3 := hml0
  have hown : s.vm.findClass "java/lang/AbstractStringBuilder" = some m.cls := findClass_of_methodNamed Bd.named
  have hnm := (name_of_methodNamed Bd.named Bd.method).1
  have X0 : Stand p l e ({ frames := 3, cells := 0, slots := 0, locals := 53 } : Room) s m #[(.ref o0), (.ref o1)] below meth c s₁ [] 0 0 := Stand.of_body Bd
  have e0 : s₁.heap = h0 := by rw [← hh, Bd.state]; rfl
  have N0 := Fr.nil n0
  refine Ends.opn ?_
  intro QQ hQQ
  refine Ends.step (S' := s₁.setTop (mkF m 0 #[.val (.ref o0), .val (.ref o1), .unset] [])) (fun t k => castTop (ef_apsA m o0 o1) k) ?_
  show Ends p e below QQ (s₁.setTop (mkF m 0 #[.val (.ref o0), .val (.ref o1), .unset] []))
  refine Ends.step (fun _ k => XS.aloadN X0.here hx rfl (hb hby d10_0) rfl rfl k) ?_
  show Ends p e below QQ (s₁.setTop (mkF m 1 #[.val (.ref o0), .val (.ref o1), .unset] [(.ref o1)]))
  refine Ends.step (fun _ k => XT.ifnonnullYes X0.here hx rfl (pc0 := 1) (pc' := 9) rfl (hb hby d10_1) rfl (by decide) (by decide) k) ?_
  show Ends p e below QQ (s₁.setTop (mkF m 9 #[.val (.ref o0), .val (.ref o1), .unset] []))
  refine Ends.step (fun _ k => XS.aloadN X0.here hx rfl (hb hby d10_9) rfl rfl k) ?_
  show Ends p e below QQ (s₁.setTop (mkF m 10 #[.val (.ref o0), .val (.ref o1), .unset] [(.ref o1)]))
  obtain ⟨cq39, kq39, q39a, q39b, q39c⟩ := isOf hZ e0 E_o1
  obtain ⟨_, _, ⟨T39, L39, k39, n39⟩, -, X39, ⟨Lc39, hQ39, l39, y39, z39⟩, st39⟩ := X0.virtualBack hx (y := (⟨"java/lang/String", "length", "()I"⟩ : MethodName)) (z := (⟨"java/lang/String", "length", "()I"⟩ : MethodName)) hown (mvT hZ (hw _ (List.mem_of_getElem? (i := 66) rfl))) (mvT hZ (hw _ (List.mem_of_getElem? (i := 67) rfl))) (notFace_of_selects (args := #[]) (mvT hZ (hw _ (List.mem_of_getElem? (i := 69) rfl)))) (mvT hZ (hw _ (List.mem_of_getElem? (i := 69) rfl))) (mvT hZ (hw _ (List.mem_of_getElem? (i := 68) rfl))) (by decide) (backOf (W := 0) (rmlen l Z a0 hw [] o1 tt kt (9 : Int32) [(.int y0), (.int y1), (.int y2), (.int y3), (.int y4), (.int y5), (.int y6), (.int y7), (.int y8)] cs h0 n0 (Nat.le_trans Z0 (Keep.refl h0 [o0, vb]).1) E_o1 F_value_o1 A_tt S_COMPACT_STRINGS hcs F_coder_o1) hZ (hw _ (List.mem_of_getElem? (i := 70) rfl)) (hw _ (List.mem_of_getElem? (i := 44) rfl)) (by decide) (by decide)) q39a q39c (g := (mkF m 10 #[.val (.ref o0), .val (.ref o1), .unset] [(.ref o1)])) rfl (by rw [hml]; rfl) (Steps.refl _) (argsL := []) (rest := []) (lenOf pd_8 rfl) rfl (by show 2 * 0 + _ ≤ _; exact Nat.le_of_eq rfl) (hb hby d10_10) (fun _ _ => ⟨rfl, e0, (by decide : 0 + 0 ≤ _), (by decide : 0 + 0 ≤ _)⟩)
  dsimp only [Pt.U, Pt.locs, Pt.cells, Pt.slots] at X39 l39 y39 z39 st39 hQ39
  subst l39 y39 z39
  obtain ⟨rfl, Nq39, hh39⟩ := hQ39
  have N39 := Fr.app N0 Nq39
  refine Ends.step (fun _ k => st39.trans k) ?_
  show Ends p e below QQ (T39.setTop (mkF m 13 #[.val (.ref o0), .val (.ref o1), .unset] [(.int (9 : Int32))]))
  refine Ends.step (fun _ k => XS.istoreN X39.here hx rfl (hb hby d10_13) rfl (l' := #[.val (.ref o0), .val (.ref o1), .val (.int (9 : Int32))]) rfl k) ?_
  show Ends p e below QQ (T39.setTop (mkF m 14 #[.val (.ref o0), .val (.ref o1), .val (.int (9 : Int32))] []))
  refine Ends.step (fun _ k => XS.aloadN X39.here hx rfl (hb hby d10_14) rfl rfl k) ?_
  show Ends p e below QQ (T39.setTop (mkF m 15 #[.val (.ref o0), .val (.ref o1), .val (.int (9 : Int32))] [(.ref o0)]))
  refine Ends.step (fun _ k => XS.aloadN X39.here hx rfl (hb hby d10_15) rfl rfl k) ?_
  show Ends p e below QQ (T39.setTop (mkF m 16 #[.val (.ref o0), .val (.ref o1), .val (.int (9 : Int32))] [(.ref o0), (.ref o0)]))
  obtain ⟨T40, X40, e40, st40⟩ := getF X39 hx hZ hown (host := "") (Or.inl (hw _ (List.mem_of_getElem? (i := 79) rfl))) Via.refl hh39 F_count_o0 (g := (mkF m 16 #[.val (.ref o0), .val (.ref o1), .val (.int (9 : Int32))] [(.ref o0), (.ref o0)])) rfl rfl (hb hby d10_16)
  refine Ends.step st40 ?_
  show Ends p e below QQ (T40.setTop (mkF m 19 #[.val (.ref o0), .val (.ref o1), .val (.int (9 : Int32))] [(.int (0 : Int32)), (.ref o0)]))
  refine Ends.step (fun _ k => XS.iloadN X40.here hx rfl (hb hby d10_19) rfl k) ?_
  show Ends p e below QQ (T40.setTop (mkF m 20 #[.val (.ref o0), .val (.ref o1), .val (.int (9 : Int32))] [(.int (9 : Int32)), (.int (0 : Int32)), (.ref o0)]))
  refine Ends.step (fun _ k => XS.iadd X40.here hx rfl (hb hby d10_20) rfl k) ?_
  show Ends p e below QQ (T40.setTop (mkF m 21 #[.val (.ref o0), .val (.ref o1), .val (.int (9 : Int32))] [(.int (9 : Int32)), (.ref o0)]))
  obtain ⟨cq41, q41, q41'⟩ := E_o0.cell
  obtain ⟨_, _, ⟨T41, L41, k41, n41⟩, -, X41, ⟨Lc41, hQ41, l41, y41, z41⟩, st41⟩ := X40.privateBack hx (y := (⟨"java/lang/AbstractStringBuilder", "ensureCapacityInternal", "(I)V"⟩ : MethodName)) hown (mvT hZ (hw _ (List.mem_of_getElem? (i := 81) rfl))) (mvT hZ (hw _ (List.mem_of_getElem? (i := 82) rfl))) (mvT hZ (own_selq (y := (⟨"java/lang/AbstractStringBuilder", "ensureCapacityInternal", "(I)V"⟩ : MethodName)) (hw _ (List.mem_of_getElem? (i := 84) rfl)) rfl (hw _ (List.mem_of_getElem? (i := 83) rfl)) (hw _ (List.mem_of_getElem? (i := 82) rfl)) (by decide))) (Cond.privateMethod_at (mvP hZ (hw _ (List.mem_of_getElem? (i := 83) rfl)) (args := #[]))) (mvT hZ (hw _ (List.mem_of_getElem? (i := 85) rfl))) (by decide) (backOf (W := 0) (rmens9_16 l Z a0 hw [] o0 vb kb [(.int (0 : Int32)), (.int (0 : Int32)), (.int (0 : Int32)), (.int (0 : Int32)), (.int (0 : Int32)), (.int (0 : Int32)), (.int (0 : Int32)), (.int (0 : Int32)), (.int (0 : Int32)), (.int (0 : Int32)), (.int (0 : Int32)), (.int (0 : Int32)), (.int (0 : Int32)), (.int (0 : Int32)), (.int (0 : Int32)), (.int (0 : Int32))] h0 n0 (Nat.le_trans Z0 (Keep.refl h0 [o0, vb]).1) F_value_o0 F_coder_o0 A_vb) hZ (hw _ (List.mem_of_getElem? (i := 85) rfl)) (hw _ (List.mem_of_getElem? (i := 40) rfl)) (by decide) (by decide)) (g := (mkF m 21 #[.val (.ref o0), .val (.ref o1), .val (.int (9 : Int32))] [(.int (9 : Int32)), (.ref o0)])) rfl (by rw [hml]; rfl) (Steps.refl _) (a := o0) (by rw [e40]; exact q41) q41' (argsL := [(.int (9 : Int32))]) (rest := []) (lenOf pd_5 rfl) rfl (by show 2 * 0 + _ ≤ _; exact Nat.le_of_eq rfl) (hb hby d10_21) (fun _ _ => ⟨rfl, e40, (by decide : 0 + 0 ≤ _), (by decide : 0 + 0 ≤ _)⟩)
  dsimp only [Pt.U, Pt.locs, Pt.cells, Pt.slots] at X41 l41 y41 z41 st41 hQ41
  subst l41 y41 z41
  obtain ⟨rfl, Nq41, hh41⟩ := hQ41
  have N41 := Fr.app N39 Nq41
  refine Ends.step (fun _ k => st41.trans k) ?_
  show Ends p e below QQ (T41.setTop (mkF m 24 #[.val (.ref o0), .val (.ref o1), .val (.int (9 : Int32))] []))
  refine Ends.step (fun _ k => XS.aloadN X41.here hx rfl (hb hby d10_24) rfl rfl k) ?_
  show Ends p e below QQ (T41.setTop (mkF m 25 #[.val (.ref o0), .val (.ref o1), .val (.int (9 : Int32))] [(.ref o0)]))
  refine Ends.step (fun _ k => XS.aloadN X41.here hx rfl (hb hby d10_25) rfl rfl k) ?_
  show Ends p e below QQ (T41.setTop (mkF m 26 #[.val (.ref o0), .val (.ref o1), .val (.int (9 : Int32))] [(.ref o0), (.ref o0)]))
  obtain ⟨T42, X42, e42, st42⟩ := getF X41 hx hZ hown (host := "") (Or.inl (hw _ (List.mem_of_getElem? (i := 79) rfl))) Via.refl hh41 F_count_o0 (g := (mkF m 26 #[.val (.ref o0), .val (.ref o1), .val (.int (9 : Int32))] [(.ref o0), (.ref o0)])) rfl rfl (hb hby d10_26)
  refine Ends.step st42 ?_
  show Ends p e below QQ (T42.setTop (mkF m 29 #[.val (.ref o0), .val (.ref o1), .val (.int (9 : Int32))] [(.int (0 : Int32)), (.ref o0)]))
  refine Ends.step (fun _ k => XS.aloadN X42.here hx rfl (hb hby d10_29) rfl rfl k) ?_
  show Ends p e below QQ (T42.setTop (mkF m 30 #[.val (.ref o0), .val (.ref o1), .val (.int (9 : Int32))] [(.ref o1), (.int (0 : Int32)), (.ref o0)]))
  obtain ⟨cq43, q43, q43'⟩ := E_o0.cell
  obtain ⟨_, _, ⟨T43, L43, k43, n43⟩, -, X43, ⟨Lc43, hQ43, l43, y43, z43⟩, st43⟩ := X42.privateBack hx (y := (⟨"java/lang/AbstractStringBuilder", "putStringAt", "(ILjava/lang/String;)V"⟩ : MethodName)) hown (mvT hZ (hw _ (List.mem_of_getElem? (i := 86) rfl))) (mvT hZ (hw _ (List.mem_of_getElem? (i := 87) rfl))) (mvT hZ (own_selq (y := (⟨"java/lang/AbstractStringBuilder", "putStringAt", "(ILjava/lang/String;)V"⟩ : MethodName)) (hw _ (List.mem_of_getElem? (i := 84) rfl)) rfl (hw _ (List.mem_of_getElem? (i := 88) rfl)) (hw _ (List.mem_of_getElem? (i := 87) rfl)) (by decide))) (Cond.privateMethod_at (mvP hZ (hw _ (List.mem_of_getElem? (i := 88) rfl)) (args := #[]))) (mvT hZ (hw _ (List.mem_of_getElem? (i := 90) rfl))) (by decide) (backOf (W := 0) (rmpsA l Z a0 hw [] o0 o1 vb kb tt kt cs y0 y1 y2 y3 y4 y5 y6 y7 y8 h0 n0 (Nat.le_trans Z0 (Keep.refl h0 [o0, vb]).1) E_o0 F_value_o0 F_coder_o0 F_count_o0 E_vb A_vb g_o0 g_vb ne_o0_vb E_o1 F_value_o1 F_coder_o1 A_tt ne_vb_tt ne_vb_o1 S_COMPACT_STRINGS hcs) hZ (hw _ (List.mem_of_getElem? (i := 90) rfl)) (hw _ (List.mem_of_getElem? (i := 40) rfl)) (by decide) (by decide)) (g := (mkF m 30 #[.val (.ref o0), .val (.ref o1), .val (.int (9 : Int32))] [(.ref o1), (.int (0 : Int32)), (.ref o0)])) rfl (by rw [hml]; rfl) (Steps.refl _) (a := o0) (by rw [e42]; exact q43) q43' (argsL := [(.int (0 : Int32)), (.ref o1)]) (rest := []) (lenOf pd_9 rfl) rfl (by show 2 * 0 + _ ≤ _; exact Nat.le_of_eq rfl) (hb hby d10_30) (fun _ _ => ⟨rfl, e42, (by decide : 0 + 0 ≤ _), (by decide : 0 + 0 ≤ _)⟩)
  dsimp only [Pt.U, Pt.locs, Pt.cells, Pt.slots] at X43 l43 y43 z43 st43 hQ43
  subst l43 y43 z43
  obtain ⟨rfl, Nq43, Kq43, fq43_0⟩ := hQ43
  have N43 := Fr.app N41 Nq43
  have S_COMPACT_STRINGS := own_sta_keep S_COMPACT_STRINGS Kq43 (allS E_vb.cell all0)
  have E_o0 := E_o0.keep Kq43
  have F_value_o0 := F_value_o0.keep Kq43 (ninS ne_o0_vb nin0)
  have F_coder_o0 := F_coder_o0.keep Kq43 (ninS ne_o0_vb nin0)
  have F_count_o0 := F_count_o0.keep Kq43 (ninS ne_o0_vb nin0)
  have E_vb := E_vb.keep Kq43
  have E_o1 := E_o1.keep Kq43
  have F_value_o1 := F_value_o1.keep Kq43 (ninS (Ne.symm ne_vb_o1) nin0)
  have F_coder_o1 := F_coder_o1.keep Kq43 (ninS (Ne.symm ne_vb_o1) nin0)
  have A_tt := A_tt.keep Kq43 (ninS (Ne.symm ne_vb_tt) nin0)
  have A_vb := fq43_0
  have K43 := (Keep.refl h0 [o0, vb]).trans Kq43 (allS (Or.inl (List.mem_of_getElem? (i := 1) rfl)) all0)
  refine Ends.step (fun _ k => st43.trans k) ?_
  show Ends p e below QQ (T43.setTop (mkF m 33 #[.val (.ref o0), .val (.ref o1), .val (.int (9 : Int32))] []))
  refine Ends.step (fun _ k => XS.aloadN X43.here hx rfl (hb hby d10_33) rfl rfl k) ?_
  show Ends p e below QQ (T43.setTop (mkF m 34 #[.val (.ref o0), .val (.ref o1), .val (.int (9 : Int32))] [(.ref o0)]))
  refine Ends.step (fun _ k => XS.dup X43.here hx rfl (hb hby d10_34) rfl rfl k) ?_
  show Ends p e below QQ (T43.setTop (mkF m 35 #[.val (.ref o0), .val (.ref o1), .val (.int (9 : Int32))] [(.ref o0), (.ref o0)]))
  obtain ⟨T44, X44, e44, st44⟩ := getF X43 hx hZ hown (host := "") (Or.inl (hw _ (List.mem_of_getElem? (i := 79) rfl))) Via.refl rfl F_count_o0 (g := (mkF m 35 #[.val (.ref o0), .val (.ref o1), .val (.int (9 : Int32))] [(.ref o0), (.ref o0)])) rfl rfl (hb hby d10_35)
  refine Ends.step st44 ?_
  show Ends p e below QQ (T44.setTop (mkF m 38 #[.val (.ref o0), .val (.ref o1), .val (.int (9 : Int32))] [(.int (0 : Int32)), (.ref o0)]))
  refine Ends.step (fun _ k => XS.iloadN X44.here hx rfl (hb hby d10_38) rfl k) ?_
  show Ends p e below QQ (T44.setTop (mkF m 39 #[.val (.ref o0), .val (.ref o1), .val (.int (9 : Int32))] [(.int (9 : Int32)), (.int (0 : Int32)), (.ref o0)]))
  refine Ends.step (fun _ k => XS.iadd X44.here hx rfl (hb hby d10_39) rfl k) ?_
  show Ends p e below QQ (T44.setTop (mkF m 40 #[.val (.ref o0), .val (.ref o1), .val (.int (9 : Int32))] [(.int (9 : Int32)), (.ref o0)]))
  obtain ⟨T45, h45, X45, e45, W45, st45⟩ := putF X44 hx hZ hown (host := "") (Or.inl (hw _ (List.mem_of_getElem? (i := 79) rfl))) Via.refl e44 F_count_o0 E_o0 (Or.inl (hw _ (List.mem_of_getElem? (i := 80) rfl))) (hw _ (List.mem_of_getElem? (i := 31) rfl)) (ty := .int) (by decide) rfl rfl (g := (mkF m 40 #[.val (.ref o0), .val (.ref o1), .val (.int (9 : Int32))] [(.int (9 : Int32)), (.ref o0)])) rfl rfl (hb hby d10_40)
  have E_o0 := E_o0.wr W45
  have F_value_o0 := F_value_o0.other W45 (Or.inr (slot_ne (Or.inl (hw _ (List.mem_of_getElem? (i := 47) rfl))) (Or.inl (hw _ (List.mem_of_getElem? (i := 80) rfl))) (by decide) (t := (.array .byte)) (t' := .int) (by decide) (by decide)))
  have F_coder_o0 := F_coder_o0.other W45 (Or.inr (slot_ne (Or.inl (hw _ (List.mem_of_getElem? (i := 49) rfl))) (Or.inl (hw _ (List.mem_of_getElem? (i := 80) rfl))) (by decide) (t := .byte) (t' := .int) (by decide) (by decide)))
  have E_vb := E_vb.wr W45
  have A_vb := A_vb.other W45 (Ne.symm ne_o0_vb)
  have E_o1 := E_o1.wr W45
  have F_value_o1 := F_value_o1.other W45 (Or.inl (Ne.symm ne_o0_o1))
  have F_coder_o1 := F_coder_o1.other W45 (Or.inl (Ne.symm ne_o0_o1))
  have A_tt := A_tt.other W45 (Ne.symm ne_o0_tt)
  have S_COMPACT_STRINGS := S_COMPACT_STRINGS.wr W45
  have F_count_o0 : Fld Z h45 o0 "java/lang/AbstractStringBuilder" "count" "I" (.int (9 : Int32)) := F_count_o0.same W45
  have K45 := K43.wr W45 (Or.inl (List.mem_of_getElem? (i := 0) rfl))
  have N45 := Fr.snoc X45 N43 g_o0
  refine Ends.step st45 ?_
  show Ends p e below QQ (T45.setTop (mkF m 43 #[.val (.ref o0), .val (.ref o1), .val (.int (9 : Int32))] []))
  refine Ends.step (fun _ k => XS.aloadN X45.here hx rfl (hb hby d10_43) rfl rfl k) ?_
  show Ends p e below QQ (T45.setTop (mkF m 44 #[.val (.ref o0), .val (.ref o1), .val (.int (9 : Int32))] [(.ref o0)]))
  exact Ends.fin (some (.ref o0)) X45 hQQ (fun h => by rw [Bd.returns] at h; cases h) Bd.notSynchronized (fun _ hr => retOut X45 hx (t := (.object "java/lang/AbstractStringBuilder")) Bd.returns rfl (Or.inr (Or.inr (Or.inr (Or.inr ⟨rfl, rfl, rfl⟩)))) (hb hby d10_44) hr) e45 (by decide) (by decide) ⟨rfl, N45, K45, E_o0, F_value_o0, F_coder_o0, F_count_o0, A_vb, E_vb⟩
theorem d9_0 : decode jdk_67_method_7_code 0 = .ok (.aload_n 0, 1) := by decide +kernel
theorem d9_1 : decode jdk_67_method_7_code 1 = .ok (.aload_n 1, 1) := by decide +kernel
theorem d9_2 : decode jdk_67_method_7_code 2 = .ok (.invokespecial 29, 3) := by decide +kernel
theorem d9_5 : decode jdk_67_method_7_code 5 = .ok (.pop, 1) := by decide +kernel
theorem d9_6 : decode jdk_67_method_7_code 6 = .ok (.aload_n 0, 1) := by decide +kernel
theorem d9_7 : decode jdk_67_method_7_code 7 = .ok (.areturn, 1) := by decide +kernel
theorem ef_spsA (m : MethodId) (x0 : Addr) (x1 : Addr) : entryFrame m #[(.ref x0), (.ref x1)] 2 = mkF m 0 #[.val (.ref x0), .val (.ref x1)] [] := by first | (simp [entryFrame, mkF, argsToLocals, Value.category]; done) | rfl
def QspsA (Z : State) (o0 : Addr) (o1 : Addr) (vb : Addr) (kb : ClassId) (tt : Addr) (kt : ClassId) (cs : Int32) (y0 : Int32) (y1 : Int32) (y2 : Int32) (y3 : Int32) (y4 : Int32) (y5 : Int32) (y6 : Int32) (y7 : Int32) (y8 : Int32) (h0 : Heap) (n0 : Nat) (v : Option Value) (h : Heap) (L : List Loc) : Prop := (v = some (.ref o0)) ∧ (Fr n0 L) ∧ (Keep h0 h [o0, vb]) ∧ (Exa Z h o0 "java/lang/StringBuilder") ∧ (Fld Z h o0 "java/lang/AbstractStringBuilder" "value" "[B" (.ref vb)) ∧ (Fld Z h o0 "java/lang/AbstractStringBuilder" "coder" "B" (.int (0 : Int32))) ∧ (Fld Z h o0 "java/lang/AbstractStringBuilder" "count" "I" (.int (9 : Int32))) ∧ (Arv Z h vb kb .byte (16 : Int32) [(.int y0), (.int y1), (.int y2), (.int y3), (.int y4), (.int y5), (.int y6), (.int y7), (.int y8), (.int (0 : Int32)), (.int (0 : Int32)), (.int (0 : Int32)), (.int (0 : Int32)), (.int (0 : Int32)), (.int (0 : Int32)), (.int (0 : Int32))] (.int (0 : Int32))) ∧ (Exa Z h vb "[B")
set_option maxRecDepth 65536 in
set_option maxHeartbeats 40000000 in
theorem rmspsA (l : Launch) (Z : State) (a0 : Array Value) (hw : ∀ d ∈ tables_1, d.before a0 Z = true) (ws : List Jvm.Cond) (o0 : Addr) (o1 : Addr) (vb : Addr) (kb : ClassId) (tt : Addr) (kt : ClassId) (cs : Int32) (y0 : Int32) (y1 : Int32) (y2 : Int32) (y3 : Int32) (y4 : Int32) (y5 : Int32) (y6 : Int32) (y7 : Int32) (y8 : Int32) (h0 : Heap) (n0 : Nat) (Z0 : n0 ≤ h0.size) (E_o0 : Exa Z h0 o0 "java/lang/StringBuilder") (F_value_o0 : Fld Z h0 o0 "java/lang/AbstractStringBuilder" "value" "[B" (.ref vb)) (F_coder_o0 : Fld Z h0 o0 "java/lang/AbstractStringBuilder" "coder" "B" (.int (0 : Int32))) (F_count_o0 : Fld Z h0 o0 "java/lang/AbstractStringBuilder" "count" "I" (.int (0 : Int32))) (E_vb : Exa Z h0 vb "[B") (A_vb : Arv Z h0 vb kb .byte (16 : Int32) [(.int (0 : Int32)), (.int (0 : Int32)), (.int (0 : Int32)), (.int (0 : Int32)), (.int (0 : Int32)), (.int (0 : Int32)), (.int (0 : Int32)), (.int (0 : Int32)), (.int (0 : Int32)), (.int (0 : Int32)), (.int (0 : Int32)), (.int (0 : Int32)), (.int (0 : Int32)), (.int (0 : Int32)), (.int (0 : Int32)), (.int (0 : Int32))] (.int (0 : Int32))) (g_o0 : n0 ≤ o0) (g_vb : n0 ≤ vb) (ne_o0_vb : o0 ≠ vb) (E_o1 : Exa Z h0 o1 "java/lang/String") (F_value_o1 : Fld Z h0 o1 "java/lang/String" "value" "[B" (.ref tt)) (F_coder_o1 : Fld Z h0 o1 "java/lang/String" "coder" "B" (.int (0 : Int32))) (A_tt : Arv Z h0 tt kt .byte (9 : Int32) [(.int y0), (.int y1), (.int y2), (.int y3), (.int y4), (.int y5), (.int y6), (.int y7), (.int y8)] (.int (0 : Int32))) (ne_vb_tt : vb ≠ tt) (ne_o0_tt : o0 ≠ tt) (ne_o0_o1 : o0 ≠ o1) (ne_vb_o1 : vb ≠ o1) (S_COMPACT_STRINGS : Sta Z h0 "java/lang/String" "COMPACT_STRINGS" "Z" (.int cs)) (hcs : ¬ cs = (0 : Int32)) :
    MetFree l (⟨"java/lang/StringBuilder", "append", "(Ljava/lang/String;)Ljava/lang/StringBuilder;"⟩ : MethodName) (head1 (Jvm.Cond.code (⟨"java/lang/StringBuilder", "append", "(Ljava/lang/String;)Ljava/lang/StringBuilder;"⟩ : MethodName) jdk_67_method_7_code 2 (some (.object "java/lang/StringBuilder")) :: ws) ({ frames := 4, cells := 0, slots := 0, locals := 67 } : Room)) (fun a U => a = #[(.ref o0), (.ref o1)] ∧ Z.Warmed39 U.vm ∧ U.heap = h0) (fun _ _ _ _ _ => True) (fun _ U o U' => ∃ v L, o = .returned v ∧ QspsA Z o0 o1 vb kb tt kt cs y0 y1 y2 y3 y4 y5 y6 y7 y8 h0 n0 v U'.heap L ∧ FrameEnd U o U' L ({ frames := 4, cells := 0, slots := 0, locals := 67 } : Room).cells ({ frames := 4, cells := 0, slots := 0, locals := 67 } : Room).slots) := by
  refine MetFree.of_bodySF (plainFor_of_name pn_4) hisR ?_
  intro p e s m args below meth c s₁ Bd hml0 hP hK
  obtain ⟨rfl, hZ, hh⟩ := hP
  have hx := Bd.exec
  have hby := Bd.bytes
  have hml : c.maxLocals = 2 := hml0
  have hown : s.vm.findClass "java/lang/StringBuilder" = some m.cls := findClass_of_methodNamed Bd.named
  have hnm := (name_of_methodNamed Bd.named Bd.method).1
  have X0 : Stand p l e ({ frames := 4, cells := 0, slots := 0, locals := 67 } : Room) s m #[(.ref o0), (.ref o1)] below meth c s₁ [] 0 0 := Stand.of_body Bd
  have e0 : s₁.heap = h0 := by rw [← hh, Bd.state]; rfl
  have N0 := Fr.nil n0
  refine Ends.opn ?_
  intro QQ hQQ
  refine Ends.step (S' := s₁.setTop (mkF m 0 #[.val (.ref o0), .val (.ref o1)] [])) (fun t k => castTop (ef_spsA m o0 o1) k) ?_
  show Ends p e below QQ (s₁.setTop (mkF m 0 #[.val (.ref o0), .val (.ref o1)] []))
  refine Ends.step (fun _ k => XS.aloadN X0.here hx rfl (hb hby d9_0) rfl rfl k) ?_
  show Ends p e below QQ (s₁.setTop (mkF m 1 #[.val (.ref o0), .val (.ref o1)] [(.ref o0)]))
  refine Ends.step (fun _ k => XS.aloadN X0.here hx rfl (hb hby d9_1) rfl rfl k) ?_
  show Ends p e below QQ (s₁.setTop (mkF m 2 #[.val (.ref o0), .val (.ref o1)] [(.ref o1), (.ref o0)]))
  obtain ⟨_, _, ⟨T46, L46, k46, n46⟩, -, X46, ⟨Lc46, hQ46, l46, y46, z46⟩, st46⟩ := superBack X0 hx hZ (y := (⟨"java/lang/AbstractStringBuilder", "append", "(Ljava/lang/String;)Ljava/lang/AbstractStringBuilder;"⟩ : MethodName)) hown (hw _ (List.mem_of_getElem? (i := 61) rfl)) (own_same (hw _ (List.mem_of_getElem? (i := 62) rfl)) (by decide) (hw _ (List.mem_of_getElem? (i := 84) rfl)) rfl) (hw _ (List.mem_of_getElem? (i := 62) rfl)) (hw _ (List.mem_of_getElem? (i := 63) rfl)) (by decide) (backOf (W := 0) (rmapsA l Z a0 hw [] o0 o1 vb kb tt kt cs y0 y1 y2 y3 y4 y5 y6 y7 y8 h0 n0 (Nat.le_trans Z0 (Keep.refl h0 [o0, vb]).1) E_o0 F_value_o0 F_coder_o0 F_count_o0 E_vb A_vb g_o0 g_vb ne_o0_vb E_o1 F_value_o1 F_coder_o1 A_tt ne_vb_tt ne_o0_tt ne_o0_o1 ne_vb_o1 S_COMPACT_STRINGS hcs) hZ (hw _ (List.mem_of_getElem? (i := 65) rfl)) (hw _ (List.mem_of_getElem? (i := 40) rfl)) (by decide) (by decide)) e0 (Ins.self E_o0) (g := (mkF m 2 #[.val (.ref o0), .val (.ref o1)] [(.ref o1), (.ref o0)])) rfl (by rw [hml]; rfl) (hw _ (List.mem_of_getElem? (i := 65) rfl)) (argsL := [(.ref o1)]) (rest := []) (lenOf pd_10 rfl) rfl (by show 2 * 0 + _ ≤ _; exact Nat.le_of_eq rfl) (hb hby d9_2) (fun _ _ => ⟨rfl, e0, (by decide : 0 + 0 ≤ _), (by decide : 0 + 0 ≤ _)⟩)
  dsimp only [Pt.U, Pt.locs, Pt.cells, Pt.slots] at X46 l46 y46 z46 st46 hQ46
  subst l46 y46 z46
  obtain ⟨rfl, Nq46, Kq46, fq46_0, fq46_1, fq46_2, fq46_3, fq46_4, fq46_5⟩ := hQ46
  have N46 := Fr.app N0 Nq46
  have S_COMPACT_STRINGS := own_sta_keep S_COMPACT_STRINGS Kq46 (allS E_o0.cell (allS E_vb.cell all0))
  have E_o1 := E_o1.keep Kq46
  have F_value_o1 := F_value_o1.keep Kq46 (ninS (Ne.symm ne_o0_o1) (ninS (Ne.symm ne_vb_o1) nin0))
  have F_coder_o1 := F_coder_o1.keep Kq46 (ninS (Ne.symm ne_o0_o1) (ninS (Ne.symm ne_vb_o1) nin0))
  have A_tt := A_tt.keep Kq46 (ninS (Ne.symm ne_o0_tt) (ninS (Ne.symm ne_vb_tt) nin0))
  have E_o0 := fq46_0
  have F_value_o0 := fq46_1
  have F_coder_o0 := fq46_2
  have F_count_o0 := fq46_3
  have A_vb := fq46_4
  have E_vb := fq46_5
  have K46 := (Keep.refl h0 [o0, vb]).trans Kq46 (allS (Or.inl (List.mem_of_getElem? (i := 0) rfl)) (allS (Or.inl (List.mem_of_getElem? (i := 1) rfl)) all0))
  refine Ends.step (fun _ k => st46.trans k) ?_
  show Ends p e below QQ (T46.setTop (mkF m 5 #[.val (.ref o0), .val (.ref o1)] [(.ref o0)]))
  refine Ends.step (fun _ k => XT.pop X46.here hx rfl (hb hby d9_5) rfl rfl k) ?_
  show Ends p e below QQ (T46.setTop (mkF m 6 #[.val (.ref o0), .val (.ref o1)] []))
  refine Ends.step (fun _ k => XS.aloadN X46.here hx rfl (hb hby d9_6) rfl rfl k) ?_
  show Ends p e below QQ (T46.setTop (mkF m 7 #[.val (.ref o0), .val (.ref o1)] [(.ref o0)]))
  exact Ends.fin (some (.ref o0)) X46 hQQ (fun h => by rw [Bd.returns] at h; cases h) Bd.notSynchronized (fun _ hr => retOut X46 hx (t := (.object "java/lang/StringBuilder")) Bd.returns rfl (Or.inr (Or.inr (Or.inr (Or.inr ⟨rfl, rfl, rfl⟩)))) (hb hby d9_7) hr) rfl (by decide) (by decide) ⟨rfl, N46, K46, E_o0, F_value_o0, F_coder_o0, F_count_o0, A_vb, E_vb⟩
theorem d24_0 : decode jdk_29_method_65_code 0 = .ok (.iload_n 0, 1) := by decide +kernel
theorem d24_1 : decode jdk_29_method_65_code 1 = .ok (.iload_n 1, 1) := by decide +kernel
theorem d24_2 : decode jdk_29_method_65_code 2 = .ok (.if_icmp .lt 7, 3) := by decide +kernel
theorem d24_9 : decode jdk_29_method_65_code 9 = .ok (.iload_n 1, 1) := by decide +kernel
theorem d24_10 : decode jdk_29_method_65_code 10 = .ok (.ireturn, 1) := by decide +kernel
theorem ef_mx17 (m : MethodId)  : entryFrame m #[(.int (1 : Int32)), (.int (18 : Int32))] 2 = mkF m 0 #[.val (.int (1 : Int32)), .val (.int (18 : Int32))] [] := by first | (simp [entryFrame, mkF, argsToLocals, Value.category]; done) | rfl
def Qmx17 (Z : State)  (h0 : Heap) (n0 : Nat) (v : Option Value) (h : Heap) (L : List Loc) : Prop := (v = some (.int (18 : Int32))) ∧ (Fr n0 L) ∧ (h = h0)
set_option maxRecDepth 65536 in
set_option maxHeartbeats 40000000 in
theorem rmmx17 (l : Launch) (Z : State) (a0 : Array Value) (hw : ∀ d ∈ tables_1, d.before a0 Z = true) (ws : List Jvm.Cond)  (h0 : Heap) (n0 : Nat) (Z0 : n0 ≤ h0.size) :
    MetFree l (⟨"java/lang/Math", "max", "(II)I"⟩ : MethodName) (head1 (Jvm.Cond.code (⟨"java/lang/Math", "max", "(II)I"⟩ : MethodName) jdk_29_method_65_code 2 (some .int) :: ws) ({ frames := 0, cells := 0, slots := 0, locals := 0 } : Room)) (fun a U => a = #[(.int (1 : Int32)), (.int (18 : Int32))] ∧ Z.Warmed39 U.vm ∧ U.heap = h0) (fun _ _ _ _ _ => True) (fun _ U o U' => ∃ v L, o = .returned v ∧ Qmx17 Z  h0 n0 v U'.heap L ∧ FrameEnd U o U' L ({ frames := 0, cells := 0, slots := 0, locals := 0 } : Room).cells ({ frames := 0, cells := 0, slots := 0, locals := 0 } : Room).slots) := by
  refine MetFree.of_bodySF (Jvm.Free.JP.mathPlain rfl (by decide +kernel)) hisR ?_
  intro p e s m args below meth c s₁ Bd hml0 hP hK
  obtain ⟨rfl, hZ, hh⟩ := hP
  have hx := Bd.exec
  have hby := Bd.bytes
  have hml : c.maxLocals = 2 := hml0
  have hown : s.vm.findClass "java/lang/Math" = some m.cls := findClass_of_methodNamed Bd.named
  have hnm := (name_of_methodNamed Bd.named Bd.method).1
  have X0 : Stand p l e ({ frames := 0, cells := 0, slots := 0, locals := 0 } : Room) s m #[(.int (1 : Int32)), (.int (18 : Int32))] below meth c s₁ [] 0 0 := Stand.of_body Bd
  have e0 : s₁.heap = h0 := by rw [← hh, Bd.state]; rfl
  have N0 := Fr.nil n0
  refine Ends.opn ?_
  intro QQ hQQ
  refine Ends.step (S' := s₁.setTop (mkF m 0 #[.val (.int (1 : Int32)), .val (.int (18 : Int32))] [])) (fun t k => castTop (ef_mx17 m ) k) ?_
  show Ends p e below QQ (s₁.setTop (mkF m 0 #[.val (.int (1 : Int32)), .val (.int (18 : Int32))] []))
  refine Ends.step (fun _ k => XS.iloadN X0.here hx rfl (hb hby d24_0) rfl k) ?_
  show Ends p e below QQ (s₁.setTop (mkF m 1 #[.val (.int (1 : Int32)), .val (.int (18 : Int32))] [(.int (1 : Int32))]))
  refine Ends.step (fun _ k => XS.iloadN X0.here hx rfl (hb hby d24_1) rfl k) ?_
  show Ends p e below QQ (s₁.setTop (mkF m 2 #[.val (.int (1 : Int32)), .val (.int (18 : Int32))] [(.int (18 : Int32)), (.int (1 : Int32))]))
  refine Ends.step (fun _ k => XS.icmpYes X0.here hx rfl (pc0 := 2) (pc' := 9) rfl (hb hby d24_2) rfl (XT.ii_lt_t (by decide)) (by decide) (by decide) k) ?_
  show Ends p e below QQ (s₁.setTop (mkF m 9 #[.val (.int (1 : Int32)), .val (.int (18 : Int32))] []))
  refine Ends.step (fun _ k => XS.iloadN X0.here hx rfl (hb hby d24_9) rfl k) ?_
  show Ends p e below QQ (s₁.setTop (mkF m 10 #[.val (.int (1 : Int32)), .val (.int (18 : Int32))] [(.int (18 : Int32))]))
  exact Ends.fin (some (.int (18 : Int32))) X0 hQQ (fun h => by rw [Bd.returns] at h; cases h) Bd.notSynchronized (fun _ hr => retOut X0 hx (t := .int) Bd.returns rfl (Or.inl ⟨rfl, Or.inl rfl, _, rfl⟩) (hb hby d24_10) hr) e0 (by decide) (by decide) ⟨rfl, N0, rfl⟩
theorem d23_0 : decode jdk_48_method_27_code 0 = .ok (.iload_n 0, 1) := by decide +kernel
theorem d23_1 : decode jdk_48_method_27_code 1 = .ok (.iload_n 1, 1) := by decide +kernel
theorem d23_2 : decode jdk_48_method_27_code 2 = .ok (.iload_n 2, 1) := by decide +kernel
theorem d23_3 : decode jdk_48_method_27_code 3 = .ok (.invokestatic 194, 3) := by decide +kernel
theorem d23_6 : decode jdk_48_method_27_code 6 = .ok (.iadd, 1) := by decide +kernel
theorem d23_7 : decode jdk_48_method_27_code 7 = .ok (.istore_n 3, 1) := by decide +kernel
theorem d23_8 : decode jdk_48_method_27_code 8 = .ok (.iconst 0, 1) := by decide +kernel
theorem d23_9 : decode jdk_48_method_27_code 9 = .ok (.iload_n 3, 1) := by decide +kernel
theorem d23_10 : decode jdk_48_method_27_code 10 = .ok (.if_icmp .ge 11, 3) := by decide +kernel
theorem d23_13 : decode jdk_48_method_27_code 13 = .ok (.iload_n 3, 1) := by decide +kernel
theorem d23_14 : decode jdk_48_method_27_code 14 = .ok (.ldc 200, 2) := by decide +kernel
theorem d23_16 : decode jdk_48_method_27_code 16 = .ok (.if_icmp .gt 5, 3) := by decide +kernel
theorem d23_19 : decode jdk_48_method_27_code 19 = .ok (.iload_n 3, 1) := by decide +kernel
theorem d23_20 : decode jdk_48_method_27_code 20 = .ok (.ireturn, 1) := by decide +kernel
theorem ef_nl17 (m : MethodId)  : entryFrame m #[(.int (16 : Int32)), (.int (1 : Int32)), (.int (18 : Int32))] 4 = mkF m 0 #[.val (.int (16 : Int32)), .val (.int (1 : Int32)), .val (.int (18 : Int32)), .unset] [] := by first | (simp [entryFrame, mkF, argsToLocals, Value.category]; done) | rfl
def Qnl17 (Z : State)  (h0 : Heap) (n0 : Nat) (v : Option Value) (h : Heap) (L : List Loc) : Prop := (v = some (.int (34 : Int32))) ∧ (Fr n0 L) ∧ (h = h0)
set_option maxRecDepth 65536 in
set_option maxHeartbeats 40000000 in
theorem rmnl17 (l : Launch) (Z : State) (a0 : Array Value) (hw : ∀ d ∈ tables_1, d.before a0 Z = true) (ws : List Jvm.Cond)  (h0 : Heap) (n0 : Nat) (Z0 : n0 ≤ h0.size) :
    MetFree l (⟨"jdk/internal/util/ArraysSupport", "newLength", "(III)I"⟩ : MethodName) (head1 (Jvm.Cond.code (⟨"jdk/internal/util/ArraysSupport", "newLength", "(III)I"⟩ : MethodName) jdk_48_method_27_code 4 (some .int) :: ws) ({ frames := 1, cells := 0, slots := 0, locals := 14 } : Room)) (fun a U => a = #[(.int (16 : Int32)), (.int (1 : Int32)), (.int (18 : Int32))] ∧ Z.Warmed39 U.vm ∧ U.heap = h0) (fun _ _ _ _ _ => True) (fun _ U o U' => ∃ v L, o = .returned v ∧ Qnl17 Z  h0 n0 v U'.heap L ∧ FrameEnd U o U' L ({ frames := 1, cells := 0, slots := 0, locals := 14 } : Room).cells ({ frames := 1, cells := 0, slots := 0, locals := 14 } : Room).slots) := by
  refine MetFree.of_bodySF (plainFor_of_name pn_5) hisR ?_
  intro p e s m args below meth c s₁ Bd hml0 hP hK
  obtain ⟨rfl, hZ, hh⟩ := hP
  have hx := Bd.exec
  have hby := Bd.bytes
  have hml : c.maxLocals = 4 := hml0
  have hown : s.vm.findClass "jdk/internal/util/ArraysSupport" = some m.cls := findClass_of_methodNamed Bd.named
  have hnm := (name_of_methodNamed Bd.named Bd.method).1
  have X0 : Stand p l e ({ frames := 1, cells := 0, slots := 0, locals := 14 } : Room) s m #[(.int (16 : Int32)), (.int (1 : Int32)), (.int (18 : Int32))] below meth c s₁ [] 0 0 := Stand.of_body Bd
  have e0 : s₁.heap = h0 := by rw [← hh, Bd.state]; rfl
  have N0 := Fr.nil n0
  refine Ends.opn ?_
  intro QQ hQQ
  refine Ends.step (S' := s₁.setTop (mkF m 0 #[.val (.int (16 : Int32)), .val (.int (1 : Int32)), .val (.int (18 : Int32)), .unset] [])) (fun t k => castTop (ef_nl17 m ) k) ?_
  show Ends p e below QQ (s₁.setTop (mkF m 0 #[.val (.int (16 : Int32)), .val (.int (1 : Int32)), .val (.int (18 : Int32)), .unset] []))
  refine Ends.step (fun _ k => XS.iloadN X0.here hx rfl (hb hby d23_0) rfl k) ?_
  show Ends p e below QQ (s₁.setTop (mkF m 1 #[.val (.int (16 : Int32)), .val (.int (1 : Int32)), .val (.int (18 : Int32)), .unset] [(.int (16 : Int32))]))
  refine Ends.step (fun _ k => XS.iloadN X0.here hx rfl (hb hby d23_1) rfl k) ?_
  show Ends p e below QQ (s₁.setTop (mkF m 2 #[.val (.int (16 : Int32)), .val (.int (1 : Int32)), .val (.int (18 : Int32)), .unset] [(.int (1 : Int32)), (.int (16 : Int32))]))
  refine Ends.step (fun _ k => XS.iloadN X0.here hx rfl (hb hby d23_2) rfl k) ?_
  show Ends p e below QQ (s₁.setTop (mkF m 3 #[.val (.int (16 : Int32)), .val (.int (1 : Int32)), .val (.int (18 : Int32)), .unset] [(.int (18 : Int32)), (.int (1 : Int32)), (.int (16 : Int32))]))
  obtain ⟨_, _, ⟨T47, L47, k47, n47⟩, -, X47, ⟨Lc47, hQ47, l47, y47, z47⟩, st47⟩ := Jvm.LawKit.callS X0 hx (y := (⟨"java/lang/Math", "max", "(II)I"⟩ : MethodName)) hown (mvT hZ (hw _ (List.mem_of_getElem? (i := 143) rfl))) (mvT hZ (hw _ (List.mem_of_getElem? (i := 144) rfl))) (mvT hZ (hw _ (List.mem_of_getElem? (i := 145) rfl))) (mvT hZ (hw _ (List.mem_of_getElem? (i := 146) rfl))) (by decide) (backOf (W := 1) (rmmx17 l Z a0 hw []  h0 n0 (Nat.le_trans Z0 (Keep.refl h0 []).1)) hZ (hw _ (List.mem_of_getElem? (i := 146) rfl)) (hw _ (List.mem_of_getElem? (i := 145) rfl)) (by decide) (by decide)) (g := (mkF m 3 #[.val (.int (16 : Int32)), .val (.int (1 : Int32)), .val (.int (18 : Int32)), .unset] [(.int (18 : Int32)), (.int (1 : Int32)), (.int (16 : Int32))])) rfl (by rw [hml]; rfl) (argsL := [(.int (1 : Int32)), (.int (18 : Int32))]) (rest := [(.int (16 : Int32))]) (lenOf pd_11 rfl) rfl (by show 2 * 0 + _ ≤ _; exact Nat.le_of_eq rfl) (hb hby d23_3) (fun _ _ => ⟨rfl, e0, (by decide : 0 + 0 ≤ _), (by decide : 0 + 0 ≤ _)⟩)
  dsimp only [Pt.U, Pt.locs, Pt.cells, Pt.slots] at X47 l47 y47 z47 st47 hQ47
  subst l47 y47 z47
  obtain ⟨rfl, Nq47, hh47⟩ := hQ47
  have N47 := Fr.app N0 Nq47
  refine Ends.step st47 ?_
  show Ends p e below QQ (T47.setTop (mkF m 6 #[.val (.int (16 : Int32)), .val (.int (1 : Int32)), .val (.int (18 : Int32)), .unset] [(.int (18 : Int32)), (.int (16 : Int32))]))
  refine Ends.step (fun _ k => XS.iadd X47.here hx rfl (hb hby d23_6) rfl k) ?_
  show Ends p e below QQ (T47.setTop (mkF m 7 #[.val (.int (16 : Int32)), .val (.int (1 : Int32)), .val (.int (18 : Int32)), .unset] [(.int (34 : Int32))]))
  refine Ends.step (fun _ k => XS.istoreN X47.here hx rfl (hb hby d23_7) rfl (l' := #[.val (.int (16 : Int32)), .val (.int (1 : Int32)), .val (.int (18 : Int32)), .val (.int (34 : Int32))]) rfl k) ?_
  show Ends p e below QQ (T47.setTop (mkF m 8 #[.val (.int (16 : Int32)), .val (.int (1 : Int32)), .val (.int (18 : Int32)), .val (.int (34 : Int32))] []))
  refine Ends.step (fun _ k => XT.iconstV X47.here hx rfl (0 : Int32) (hb hby d23_8) rfl k) ?_
  show Ends p e below QQ (T47.setTop (mkF m 9 #[.val (.int (16 : Int32)), .val (.int (1 : Int32)), .val (.int (18 : Int32)), .val (.int (34 : Int32))] [(.int (0 : Int32))]))
  refine Ends.step (fun _ k => XS.iloadN X47.here hx rfl (hb hby d23_9) rfl k) ?_
  show Ends p e below QQ (T47.setTop (mkF m 10 #[.val (.int (16 : Int32)), .val (.int (1 : Int32)), .val (.int (18 : Int32)), .val (.int (34 : Int32))] [(.int (34 : Int32)), (.int (0 : Int32))]))
  refine Ends.step (fun _ k => XS.icmpNo X47.here hx rfl (hb hby d23_10) rfl (XT.ii_ge_f (by decide)) k) ?_
  show Ends p e below QQ (T47.setTop (mkF m 13 #[.val (.int (16 : Int32)), .val (.int (1 : Int32)), .val (.int (18 : Int32)), .val (.int (34 : Int32))] []))
  refine Ends.step (fun _ k => XS.iloadN X47.here hx rfl (hb hby d23_13) rfl k) ?_
  show Ends p e below QQ (T47.setTop (mkF m 14 #[.val (.int (16 : Int32)), .val (.int (1 : Int32)), .val (.int (18 : Int32)), .val (.int (34 : Int32))] [(.int (34 : Int32))]))
  refine Ends.step (fun _ k => X47.ldcI hx hown (mvT hZ (hw _ (List.mem_of_getElem? (i := 147) rfl))) (g := (mkF m 14 #[.val (.int (16 : Int32)), .val (.int (1 : Int32)), .val (.int (18 : Int32)), .val (.int (34 : Int32))] [(.int (34 : Int32))])) rfl (hb hby d23_14) k) ?_
  show Ends p e below QQ (T47.setTop (mkF m 16 #[.val (.int (16 : Int32)), .val (.int (1 : Int32)), .val (.int (18 : Int32)), .val (.int (34 : Int32))] [(.int (2147483639 : Int32)), (.int (34 : Int32))]))
  refine Ends.step (fun _ k => XS.icmpNo X47.here hx rfl (hb hby d23_16) rfl (XT.ii_gt_f (by decide)) k) ?_
  show Ends p e below QQ (T47.setTop (mkF m 19 #[.val (.int (16 : Int32)), .val (.int (1 : Int32)), .val (.int (18 : Int32)), .val (.int (34 : Int32))] []))
  refine Ends.step (fun _ k => XS.iloadN X47.here hx rfl (hb hby d23_19) rfl k) ?_
  show Ends p e below QQ (T47.setTop (mkF m 20 #[.val (.int (16 : Int32)), .val (.int (1 : Int32)), .val (.int (18 : Int32)), .val (.int (34 : Int32))] [(.int (34 : Int32))]))
  exact Ends.fin (some (.int (34 : Int32))) X47 hQQ (fun h => by rw [Bd.returns] at h; cases h) Bd.notSynchronized (fun _ hr => retOut X47 hx (t := .int) Bd.returns rfl (Or.inl ⟨rfl, Or.inl rfl, _, rfl⟩) (hb hby d23_20) hr) hh47 (by decide) (by decide) ⟨rfl, N47, rfl⟩
theorem d22_0 : decode jdk_68_method_10_code 0 = .ok (.aload_n 0, 1) := by decide +kernel
theorem d22_1 : decode jdk_68_method_10_code 1 = .ok (.getfield 15, 3) := by decide +kernel
theorem d22_4 : decode jdk_68_method_10_code 4 = .ok (.arraylength, 1) := by decide +kernel
theorem d22_5 : decode jdk_68_method_10_code 5 = .ok (.istore_n 2, 1) := by decide +kernel
theorem d22_6 : decode jdk_68_method_10_code 6 = .ok (.iload_n 1, 1) := by decide +kernel
theorem d22_7 : decode jdk_68_method_10_code 7 = .ok (.aload_n 0, 1) := by decide +kernel
theorem d22_8 : decode jdk_68_method_10_code 8 = .ok (.getfield 22, 3) := by decide +kernel
theorem d22_11 : decode jdk_68_method_10_code 11 = .ok (.ishl, 1) := by decide +kernel
theorem d22_12 : decode jdk_68_method_10_code 12 = .ok (.istore_n 3, 1) := by decide +kernel
theorem d22_13 : decode jdk_68_method_10_code 13 = .ok (.iload_n 3, 1) := by decide +kernel
theorem d22_14 : decode jdk_68_method_10_code 14 = .ok (.iload_n 2, 1) := by decide +kernel
theorem d22_15 : decode jdk_68_method_10_code 15 = .ok (.isub, 1) := by decide +kernel
theorem d22_16 : decode jdk_68_method_10_code 16 = .ok (.istore 4, 2) := by decide +kernel
theorem d22_18 : decode jdk_68_method_10_code 18 = .ok (.iload_n 2, 1) := by decide +kernel
theorem d22_19 : decode jdk_68_method_10_code 19 = .ok (.iload 4, 2) := by decide +kernel
theorem d22_21 : decode jdk_68_method_10_code 21 = .ok (.iload_n 2, 1) := by decide +kernel
theorem d22_22 : decode jdk_68_method_10_code 22 = .ok (.iconst 2, 1) := by decide +kernel
theorem d22_23 : decode jdk_68_method_10_code 23 = .ok (.aload_n 0, 1) := by decide +kernel
theorem d22_24 : decode jdk_68_method_10_code 24 = .ok (.getfield 22, 3) := by decide +kernel
theorem d22_27 : decode jdk_68_method_10_code 27 = .ok (.ishl, 1) := by decide +kernel
theorem d22_28 : decode jdk_68_method_10_code 28 = .ok (.iadd, 1) := by decide +kernel
theorem d22_29 : decode jdk_68_method_10_code 29 = .ok (.invokestatic 114, 3) := by decide +kernel
theorem d22_32 : decode jdk_68_method_10_code 32 = .ok (.istore 5, 2) := by decide +kernel
theorem d22_34 : decode jdk_68_method_10_code 34 = .ok (.iload 5, 2) := by decide +kernel
theorem d22_36 : decode jdk_68_method_10_code 36 = .ok (.ldc 39, 2) := by decide +kernel
theorem d22_38 : decode jdk_68_method_10_code 38 = .ok (.if_icmp .ne 13, 3) := by decide +kernel
theorem d22_51 : decode jdk_68_method_10_code 51 = .ok (.iload 5, 2) := by decide +kernel
theorem d22_53 : decode jdk_68_method_10_code 53 = .ok (.aload_n 0, 1) := by decide +kernel
theorem d22_54 : decode jdk_68_method_10_code 54 = .ok (.getfield 22, 3) := by decide +kernel
theorem d22_57 : decode jdk_68_method_10_code 57 = .ok (.ishr, 1) := by decide +kernel
theorem d22_58 : decode jdk_68_method_10_code 58 = .ok (.ireturn, 1) := by decide +kernel
theorem ef_nc17 (m : MethodId) (x0 : Addr) : entryFrame m #[(.ref x0), (.int (17 : Int32))] 6 = mkF m 0 #[.val (.ref x0), .val (.int (17 : Int32)), .unset, .unset, .unset, .unset] [] := by first | (simp [entryFrame, mkF, argsToLocals, Value.category]; done) | rfl
def Qnc17 (Z : State) (o0 : Addr) (vb : Addr) (kb : ClassId) (vs : List Value) (h0 : Heap) (n0 : Nat) (v : Option Value) (h : Heap) (L : List Loc) : Prop := (v = some (.int (34 : Int32))) ∧ (Fr n0 L) ∧ (h = h0)
set_option maxRecDepth 65536 in
set_option maxHeartbeats 40000000 in
theorem rmnc17 (l : Launch) (Z : State) (a0 : Array Value) (hw : ∀ d ∈ tables_1, d.before a0 Z = true) (ws : List Jvm.Cond) (o0 : Addr) (vb : Addr) (kb : ClassId) (vs : List Value) (h0 : Heap) (n0 : Nat) (Z0 : n0 ≤ h0.size) (F_value_o0 : Fld Z h0 o0 "java/lang/AbstractStringBuilder" "value" "[B" (.ref vb)) (F_coder_o0 : Fld Z h0 o0 "java/lang/AbstractStringBuilder" "coder" "B" (.int (0 : Int32))) (A_vb : Arv Z h0 vb kb .byte (16 : Int32) vs (.int (0 : Int32))) :
    MetFree l (⟨"java/lang/AbstractStringBuilder", "newCapacity", "(I)I"⟩ : MethodName) (head1 (Jvm.Cond.code (⟨"java/lang/AbstractStringBuilder", "newCapacity", "(I)I"⟩ : MethodName) jdk_68_method_10_code 6 (some .int) :: ws) ({ frames := 2, cells := 0, slots := 0, locals := 29 } : Room)) (fun a U => a = #[(.ref o0), (.int (17 : Int32))] ∧ Z.Warmed39 U.vm ∧ U.heap = h0) (fun _ _ _ _ _ => True) (fun _ U o U' => ∃ v L, o = .returned v ∧ Qnc17 Z o0 vb kb vs h0 n0 v U'.heap L ∧ FrameEnd U o U' L ({ frames := 2, cells := 0, slots := 0, locals := 29 } : Room).cells ({ frames := 2, cells := 0, slots := 0, locals := 29 } : Room).slots) := by
  refine MetFree.of_bodySF (plainFor_of_name pn_3) hisR ?_
  intro p e s m args below meth c s₁ Bd hml0 hP hK
  obtain ⟨rfl, hZ, hh⟩ := hP
  have hx := Bd.exec
  have hby := Bd.bytes
  have hml : c.maxLocals = 6 := hml0
  have hown : s.vm.findClass "java/lang/AbstractStringBuilder" = some m.cls := findClass_of_methodNamed Bd.named
  have hnm := (name_of_methodNamed Bd.named Bd.method).1
  have X0 : Stand p l e ({ frames := 2, cells := 0, slots := 0, locals := 29 } : Room) s m #[(.ref o0), (.int (17 : Int32))] below meth c s₁ [] 0 0 := Stand.of_body Bd
  have e0 : s₁.heap = h0 := by rw [← hh, Bd.state]; rfl
  have N0 := Fr.nil n0
  refine Ends.opn ?_
  intro QQ hQQ
  refine Ends.step (S' := s₁.setTop (mkF m 0 #[.val (.ref o0), .val (.int (17 : Int32)), .unset, .unset, .unset, .unset] [])) (fun t k => castTop (ef_nc17 m o0) k) ?_
  show Ends p e below QQ (s₁.setTop (mkF m 0 #[.val (.ref o0), .val (.int (17 : Int32)), .unset, .unset, .unset, .unset] []))
  refine Ends.step (fun _ k => XS.aloadN X0.here hx rfl (hb hby d22_0) rfl rfl k) ?_
  show Ends p e below QQ (s₁.setTop (mkF m 1 #[.val (.ref o0), .val (.int (17 : Int32)), .unset, .unset, .unset, .unset] [(.ref o0)]))
  obtain ⟨T48, X48, e48, st48⟩ := getF X0 hx hZ hown (host := "") (Or.inl (hw _ (List.mem_of_getElem? (i := 46) rfl))) Via.refl e0 F_value_o0 (g := (mkF m 1 #[.val (.ref o0), .val (.int (17 : Int32)), .unset, .unset, .unset, .unset] [(.ref o0)])) rfl rfl (hb hby d22_1)
  refine Ends.step st48 ?_
  show Ends p e below QQ (T48.setTop (mkF m 4 #[.val (.ref o0), .val (.int (17 : Int32)), .unset, .unset, .unset, .unset] [(.ref vb)]))
  obtain ⟨cl49, Ar49, -, S49, P49, -, -⟩ := id A_vb
  refine Ends.step (S' := T48.setTop (mkF m 5 #[.val (.ref o0), .val (.int (17 : Int32)), .unset, .unset, .unset, .unset] [(.int (16 : Int32))])) (fun _ k => X48.arraylength hx (by rw [e48]; exact Ar49.1) (State.isArrayOf_alike hZ.alike Ar49.2.1) (g := (mkF m 4 #[.val (.ref o0), .val (.int (17 : Int32)), .unset, .unset, .unset, .unset] [(.ref vb)])) rfl rfl (hb hby d22_4) _ (by rw [len_of S49 P49]; exact k)) ?_
  show Ends p e below QQ (T48.setTop (mkF m 5 #[.val (.ref o0), .val (.int (17 : Int32)), .unset, .unset, .unset, .unset] [(.int (16 : Int32))]))
  refine Ends.step (fun _ k => XS.istoreN X48.here hx rfl (hb hby d22_5) rfl (l' := #[.val (.ref o0), .val (.int (17 : Int32)), .val (.int (16 : Int32)), .unset, .unset, .unset]) rfl k) ?_
  show Ends p e below QQ (T48.setTop (mkF m 6 #[.val (.ref o0), .val (.int (17 : Int32)), .val (.int (16 : Int32)), .unset, .unset, .unset] []))
  refine Ends.step (fun _ k => XS.iloadN X48.here hx rfl (hb hby d22_6) rfl k) ?_
  show Ends p e below QQ (T48.setTop (mkF m 7 #[.val (.ref o0), .val (.int (17 : Int32)), .val (.int (16 : Int32)), .unset, .unset, .unset] [(.int (17 : Int32))]))
  refine Ends.step (fun _ k => XS.aloadN X48.here hx rfl (hb hby d22_7) rfl rfl k) ?_
  show Ends p e below QQ (T48.setTop (mkF m 8 #[.val (.ref o0), .val (.int (17 : Int32)), .val (.int (16 : Int32)), .unset, .unset, .unset] [(.ref o0), (.int (17 : Int32))]))
  obtain ⟨T50, X50, e50, st50⟩ := getF X48 hx hZ hown (host := "") (Or.inl (hw _ (List.mem_of_getElem? (i := 48) rfl))) Via.refl e48 F_coder_o0 (g := (mkF m 8 #[.val (.ref o0), .val (.int (17 : Int32)), .val (.int (16 : Int32)), .unset, .unset, .unset] [(.ref o0), (.int (17 : Int32))])) rfl rfl (hb hby d22_8)
  refine Ends.step st50 ?_
  show Ends p e below QQ (T50.setTop (mkF m 11 #[.val (.ref o0), .val (.int (17 : Int32)), .val (.int (16 : Int32)), .unset, .unset, .unset] [(.int (0 : Int32)), (.int (17 : Int32))]))
  refine Ends.step (fun _ k => XS.ishl X50.here hx rfl (hb hby d22_11) rfl k) ?_
  show Ends p e below QQ (T50.setTop (mkF m 12 #[.val (.ref o0), .val (.int (17 : Int32)), .val (.int (16 : Int32)), .unset, .unset, .unset] [(.int (17 : Int32))]))
  refine Ends.step (fun _ k => XS.istoreN X50.here hx rfl (hb hby d22_12) rfl (l' := #[.val (.ref o0), .val (.int (17 : Int32)), .val (.int (16 : Int32)), .val (.int (17 : Int32)), .unset, .unset]) rfl k) ?_
  show Ends p e below QQ (T50.setTop (mkF m 13 #[.val (.ref o0), .val (.int (17 : Int32)), .val (.int (16 : Int32)), .val (.int (17 : Int32)), .unset, .unset] []))
  refine Ends.step (fun _ k => XS.iloadN X50.here hx rfl (hb hby d22_13) rfl k) ?_
  show Ends p e below QQ (T50.setTop (mkF m 14 #[.val (.ref o0), .val (.int (17 : Int32)), .val (.int (16 : Int32)), .val (.int (17 : Int32)), .unset, .unset] [(.int (17 : Int32))]))
  refine Ends.step (fun _ k => XS.iloadN X50.here hx rfl (hb hby d22_14) rfl k) ?_
  show Ends p e below QQ (T50.setTop (mkF m 15 #[.val (.ref o0), .val (.int (17 : Int32)), .val (.int (16 : Int32)), .val (.int (17 : Int32)), .unset, .unset] [(.int (16 : Int32)), (.int (17 : Int32))]))
  refine Ends.step (fun _ k => XS.isub X50.here hx rfl (hb hby d22_15) rfl k) ?_
  show Ends p e below QQ (T50.setTop (mkF m 16 #[.val (.ref o0), .val (.int (17 : Int32)), .val (.int (16 : Int32)), .val (.int (17 : Int32)), .unset, .unset] [(.int (1 : Int32))]))
  refine Ends.step (fun _ k => XS.istore X50.here hx rfl (hb hby d22_16) rfl (l' := #[.val (.ref o0), .val (.int (17 : Int32)), .val (.int (16 : Int32)), .val (.int (17 : Int32)), .val (.int (1 : Int32)), .unset]) rfl k) ?_
  show Ends p e below QQ (T50.setTop (mkF m 18 #[.val (.ref o0), .val (.int (17 : Int32)), .val (.int (16 : Int32)), .val (.int (17 : Int32)), .val (.int (1 : Int32)), .unset] []))
  refine Ends.step (fun _ k => XS.iloadN X50.here hx rfl (hb hby d22_18) rfl k) ?_
  show Ends p e below QQ (T50.setTop (mkF m 19 #[.val (.ref o0), .val (.int (17 : Int32)), .val (.int (16 : Int32)), .val (.int (17 : Int32)), .val (.int (1 : Int32)), .unset] [(.int (16 : Int32))]))
  refine Ends.step (fun _ k => XS.iload X50.here hx rfl (hb hby d22_19) rfl k) ?_
  show Ends p e below QQ (T50.setTop (mkF m 21 #[.val (.ref o0), .val (.int (17 : Int32)), .val (.int (16 : Int32)), .val (.int (17 : Int32)), .val (.int (1 : Int32)), .unset] [(.int (1 : Int32)), (.int (16 : Int32))]))
  refine Ends.step (fun _ k => XS.iloadN X50.here hx rfl (hb hby d22_21) rfl k) ?_
  show Ends p e below QQ (T50.setTop (mkF m 22 #[.val (.ref o0), .val (.int (17 : Int32)), .val (.int (16 : Int32)), .val (.int (17 : Int32)), .val (.int (1 : Int32)), .unset] [(.int (16 : Int32)), (.int (1 : Int32)), (.int (16 : Int32))]))
  refine Ends.step (fun _ k => XT.iconstV X50.here hx rfl (2 : Int32) (hb hby d22_22) rfl k) ?_
  show Ends p e below QQ (T50.setTop (mkF m 23 #[.val (.ref o0), .val (.int (17 : Int32)), .val (.int (16 : Int32)), .val (.int (17 : Int32)), .val (.int (1 : Int32)), .unset] [(.int (2 : Int32)), (.int (16 : Int32)), (.int (1 : Int32)), (.int (16 : Int32))]))
  refine Ends.step (fun _ k => XS.aloadN X50.here hx rfl (hb hby d22_23) rfl rfl k) ?_
  show Ends p e below QQ (T50.setTop (mkF m 24 #[.val (.ref o0), .val (.int (17 : Int32)), .val (.int (16 : Int32)), .val (.int (17 : Int32)), .val (.int (1 : Int32)), .unset] [(.ref o0), (.int (2 : Int32)), (.int (16 : Int32)), (.int (1 : Int32)), (.int (16 : Int32))]))
  obtain ⟨T51, X51, e51, st51⟩ := getF X50 hx hZ hown (host := "") (Or.inl (hw _ (List.mem_of_getElem? (i := 48) rfl))) Via.refl e50 F_coder_o0 (g := (mkF m 24 #[.val (.ref o0), .val (.int (17 : Int32)), .val (.int (16 : Int32)), .val (.int (17 : Int32)), .val (.int (1 : Int32)), .unset] [(.ref o0), (.int (2 : Int32)), (.int (16 : Int32)), (.int (1 : Int32)), (.int (16 : Int32))])) rfl rfl (hb hby d22_24)
  refine Ends.step st51 ?_
  show Ends p e below QQ (T51.setTop (mkF m 27 #[.val (.ref o0), .val (.int (17 : Int32)), .val (.int (16 : Int32)), .val (.int (17 : Int32)), .val (.int (1 : Int32)), .unset] [(.int (0 : Int32)), (.int (2 : Int32)), (.int (16 : Int32)), (.int (1 : Int32)), (.int (16 : Int32))]))
  refine Ends.step (fun _ k => XS.ishl X51.here hx rfl (hb hby d22_27) rfl k) ?_
  show Ends p e below QQ (T51.setTop (mkF m 28 #[.val (.ref o0), .val (.int (17 : Int32)), .val (.int (16 : Int32)), .val (.int (17 : Int32)), .val (.int (1 : Int32)), .unset] [(.int (2 : Int32)), (.int (16 : Int32)), (.int (1 : Int32)), (.int (16 : Int32))]))
  refine Ends.step (fun _ k => XS.iadd X51.here hx rfl (hb hby d22_28) rfl k) ?_
  show Ends p e below QQ (T51.setTop (mkF m 29 #[.val (.ref o0), .val (.int (17 : Int32)), .val (.int (16 : Int32)), .val (.int (17 : Int32)), .val (.int (1 : Int32)), .unset] [(.int (18 : Int32)), (.int (1 : Int32)), (.int (16 : Int32))]))
  obtain ⟨_, _, ⟨T52, L52, k52, n52⟩, -, X52, ⟨Lc52, hQ52, l52, y52, z52⟩, st52⟩ := Jvm.LawKit.callS X51 hx (y := (⟨"jdk/internal/util/ArraysSupport", "newLength", "(III)I"⟩ : MethodName)) hown (mvT hZ (hw _ (List.mem_of_getElem? (i := 139) rfl))) (mvT hZ (hw _ (List.mem_of_getElem? (i := 140) rfl))) (mvT hZ (hw _ (List.mem_of_getElem? (i := 141) rfl))) (mvT hZ (hw _ (List.mem_of_getElem? (i := 142) rfl))) (by decide) (backOf (W := 0) (rmnl17 l Z a0 hw []  h0 n0 (Nat.le_trans Z0 (Keep.refl h0 []).1)) hZ (hw _ (List.mem_of_getElem? (i := 142) rfl)) (hw _ (List.mem_of_getElem? (i := 141) rfl)) (by decide) (by decide)) (g := (mkF m 29 #[.val (.ref o0), .val (.int (17 : Int32)), .val (.int (16 : Int32)), .val (.int (17 : Int32)), .val (.int (1 : Int32)), .unset] [(.int (18 : Int32)), (.int (1 : Int32)), (.int (16 : Int32))])) rfl (by rw [hml]; rfl) (argsL := [(.int (16 : Int32)), (.int (1 : Int32)), (.int (18 : Int32))]) (rest := []) (lenOf pd_12 rfl) rfl (by show 2 * 0 + _ ≤ _; exact Nat.le_of_eq rfl) (hb hby d22_29) (fun _ _ => ⟨rfl, e51, (by decide : 0 + 0 ≤ _), (by decide : 0 + 0 ≤ _)⟩)
  dsimp only [Pt.U, Pt.locs, Pt.cells, Pt.slots] at X52 l52 y52 z52 st52 hQ52
  subst l52 y52 z52
  obtain ⟨rfl, Nq52, hh52⟩ := hQ52
  have N52 := Fr.app N0 Nq52
  refine Ends.step st52 ?_
  show Ends p e below QQ (T52.setTop (mkF m 32 #[.val (.ref o0), .val (.int (17 : Int32)), .val (.int (16 : Int32)), .val (.int (17 : Int32)), .val (.int (1 : Int32)), .unset] [(.int (34 : Int32))]))
  refine Ends.step (fun _ k => XS.istore X52.here hx rfl (hb hby d22_32) rfl (l' := #[.val (.ref o0), .val (.int (17 : Int32)), .val (.int (16 : Int32)), .val (.int (17 : Int32)), .val (.int (1 : Int32)), .val (.int (34 : Int32))]) rfl k) ?_
  show Ends p e below QQ (T52.setTop (mkF m 34 #[.val (.ref o0), .val (.int (17 : Int32)), .val (.int (16 : Int32)), .val (.int (17 : Int32)), .val (.int (1 : Int32)), .val (.int (34 : Int32))] []))
  refine Ends.step (fun _ k => XS.iload X52.here hx rfl (hb hby d22_34) rfl k) ?_
  show Ends p e below QQ (T52.setTop (mkF m 36 #[.val (.ref o0), .val (.int (17 : Int32)), .val (.int (16 : Int32)), .val (.int (17 : Int32)), .val (.int (1 : Int32)), .val (.int (34 : Int32))] [(.int (34 : Int32))]))
  refine Ends.step (fun _ k => X52.ldcI hx hown (mvT hZ (hw _ (List.mem_of_getElem? (i := 148) rfl))) (g := (mkF m 36 #[.val (.ref o0), .val (.int (17 : Int32)), .val (.int (16 : Int32)), .val (.int (17 : Int32)), .val (.int (1 : Int32)), .val (.int (34 : Int32))] [(.int (34 : Int32))])) rfl (hb hby d22_36) k) ?_
  show Ends p e below QQ (T52.setTop (mkF m 38 #[.val (.ref o0), .val (.int (17 : Int32)), .val (.int (16 : Int32)), .val (.int (17 : Int32)), .val (.int (1 : Int32)), .val (.int (34 : Int32))] [(.int (2147483647 : Int32)), (.int (34 : Int32))]))
  refine Ends.step (fun _ k => XS.icmpYes X52.here hx rfl (pc0 := 38) (pc' := 51) rfl (hb hby d22_38) rfl (XT.ii_ne_t (by decide)) (by decide) (by decide) k) ?_
  show Ends p e below QQ (T52.setTop (mkF m 51 #[.val (.ref o0), .val (.int (17 : Int32)), .val (.int (16 : Int32)), .val (.int (17 : Int32)), .val (.int (1 : Int32)), .val (.int (34 : Int32))] []))
  refine Ends.step (fun _ k => XS.iload X52.here hx rfl (hb hby d22_51) rfl k) ?_
  show Ends p e below QQ (T52.setTop (mkF m 53 #[.val (.ref o0), .val (.int (17 : Int32)), .val (.int (16 : Int32)), .val (.int (17 : Int32)), .val (.int (1 : Int32)), .val (.int (34 : Int32))] [(.int (34 : Int32))]))
  refine Ends.step (fun _ k => XS.aloadN X52.here hx rfl (hb hby d22_53) rfl rfl k) ?_
  show Ends p e below QQ (T52.setTop (mkF m 54 #[.val (.ref o0), .val (.int (17 : Int32)), .val (.int (16 : Int32)), .val (.int (17 : Int32)), .val (.int (1 : Int32)), .val (.int (34 : Int32))] [(.ref o0), (.int (34 : Int32))]))
  obtain ⟨T53, X53, e53, st53⟩ := getF X52 hx hZ hown (host := "") (Or.inl (hw _ (List.mem_of_getElem? (i := 48) rfl))) Via.refl hh52 F_coder_o0 (g := (mkF m 54 #[.val (.ref o0), .val (.int (17 : Int32)), .val (.int (16 : Int32)), .val (.int (17 : Int32)), .val (.int (1 : Int32)), .val (.int (34 : Int32))] [(.ref o0), (.int (34 : Int32))])) rfl rfl (hb hby d22_54)
  refine Ends.step st53 ?_
  show Ends p e below QQ (T53.setTop (mkF m 57 #[.val (.ref o0), .val (.int (17 : Int32)), .val (.int (16 : Int32)), .val (.int (17 : Int32)), .val (.int (1 : Int32)), .val (.int (34 : Int32))] [(.int (0 : Int32)), (.int (34 : Int32))]))
  refine Ends.step (fun _ k => XS.ishr X53.here hx rfl (hb hby d22_57) rfl k) ?_
  show Ends p e below QQ (T53.setTop (mkF m 58 #[.val (.ref o0), .val (.int (17 : Int32)), .val (.int (16 : Int32)), .val (.int (17 : Int32)), .val (.int (1 : Int32)), .val (.int (34 : Int32))] [(.int (34 : Int32))]))
  exact Ends.fin (some (.int (34 : Int32))) X53 hQQ (fun h => by rw [Bd.returns] at h; cases h) Bd.notSynchronized (fun _ hr => retOut X53 hx (t := .int) Bd.returns rfl (Or.inl ⟨rfl, Or.inl rfl, _, rfl⟩) (hb hby d22_58) hr) e53 (by decide) (by decide) ⟨rfl, N52, rfl⟩
theorem d26_0 : decode jdk_29_method_69_code 0 = .ok (.iload_n 0, 1) := by decide +kernel
theorem d26_1 : decode jdk_29_method_69_code 1 = .ok (.iload_n 1, 1) := by decide +kernel
theorem d26_2 : decode jdk_29_method_69_code 2 = .ok (.if_icmp .gt 7, 3) := by decide +kernel
theorem d26_5 : decode jdk_29_method_69_code 5 = .ok (.iload_n 0, 1) := by decide +kernel
theorem d26_6 : decode jdk_29_method_69_code 6 = .ok (.goto 4, 3) := by decide +kernel
theorem d26_10 : decode jdk_29_method_69_code 10 = .ok (.ireturn, 1) := by decide +kernel
theorem ef_mn34 (m : MethodId)  : entryFrame m #[(.int (16 : Int32)), (.int (34 : Int32))] 2 = mkF m 0 #[.val (.int (16 : Int32)), .val (.int (34 : Int32))] [] := by first | (simp [entryFrame, mkF, argsToLocals, Value.category]; done) | rfl
def Qmn34 (Z : State)  (h0 : Heap) (n0 : Nat) (v : Option Value) (h : Heap) (L : List Loc) : Prop := (v = some (.int (16 : Int32))) ∧ (Fr n0 L) ∧ (h = h0)
set_option maxRecDepth 65536 in
set_option maxHeartbeats 40000000 in
theorem rmmn34 (l : Launch) (Z : State) (a0 : Array Value) (hw : ∀ d ∈ tables_1, d.before a0 Z = true) (ws : List Jvm.Cond)  (h0 : Heap) (n0 : Nat) (Z0 : n0 ≤ h0.size) :
    MetFree l (⟨"java/lang/Math", "min", "(II)I"⟩ : MethodName) (head1 (Jvm.Cond.code (⟨"java/lang/Math", "min", "(II)I"⟩ : MethodName) jdk_29_method_69_code 2 (some .int) :: ws) ({ frames := 0, cells := 0, slots := 0, locals := 0 } : Room)) (fun a U => a = #[(.int (16 : Int32)), (.int (34 : Int32))] ∧ Z.Warmed39 U.vm ∧ U.heap = h0) (fun _ _ _ _ _ => True) (fun _ U o U' => ∃ v L, o = .returned v ∧ Qmn34 Z  h0 n0 v U'.heap L ∧ FrameEnd U o U' L ({ frames := 0, cells := 0, slots := 0, locals := 0 } : Room).cells ({ frames := 0, cells := 0, slots := 0, locals := 0 } : Room).slots) := by
  refine MetFree.of_bodySF (Jvm.Free.JP.mathPlain rfl (by decide +kernel)) hisR ?_
  intro p e s m args below meth c s₁ Bd hml0 hP hK
  obtain ⟨rfl, hZ, hh⟩ := hP
  have hx := Bd.exec
  have hby := Bd.bytes
  have hml : c.maxLocals = 2 := hml0
  have hown : s.vm.findClass "java/lang/Math" = some m.cls := findClass_of_methodNamed Bd.named
  have hnm := (name_of_methodNamed Bd.named Bd.method).1
  have X0 : Stand p l e ({ frames := 0, cells := 0, slots := 0, locals := 0 } : Room) s m #[(.int (16 : Int32)), (.int (34 : Int32))] below meth c s₁ [] 0 0 := Stand.of_body Bd
  have e0 : s₁.heap = h0 := by rw [← hh, Bd.state]; rfl
  have N0 := Fr.nil n0
  refine Ends.opn ?_
  intro QQ hQQ
  refine Ends.step (S' := s₁.setTop (mkF m 0 #[.val (.int (16 : Int32)), .val (.int (34 : Int32))] [])) (fun t k => castTop (ef_mn34 m ) k) ?_
  show Ends p e below QQ (s₁.setTop (mkF m 0 #[.val (.int (16 : Int32)), .val (.int (34 : Int32))] []))
  refine Ends.step (fun _ k => XS.iloadN X0.here hx rfl (hb hby d26_0) rfl k) ?_
  show Ends p e below QQ (s₁.setTop (mkF m 1 #[.val (.int (16 : Int32)), .val (.int (34 : Int32))] [(.int (16 : Int32))]))
  refine Ends.step (fun _ k => XS.iloadN X0.here hx rfl (hb hby d26_1) rfl k) ?_
  show Ends p e below QQ (s₁.setTop (mkF m 2 #[.val (.int (16 : Int32)), .val (.int (34 : Int32))] [(.int (34 : Int32)), (.int (16 : Int32))]))
  refine Ends.step (fun _ k => XS.icmpNo X0.here hx rfl (hb hby d26_2) rfl (XT.ii_gt_f (by decide)) k) ?_
  show Ends p e below QQ (s₁.setTop (mkF m 5 #[.val (.int (16 : Int32)), .val (.int (34 : Int32))] []))
  refine Ends.step (fun _ k => XS.iloadN X0.here hx rfl (hb hby d26_5) rfl k) ?_
  show Ends p e below QQ (s₁.setTop (mkF m 6 #[.val (.int (16 : Int32)), .val (.int (34 : Int32))] [(.int (16 : Int32))]))
  refine Ends.step (fun _ k => XS.goto X0.here hx rfl (pc0 := 6) (pc' := 10) rfl (hb hby d26_6) (by decide) (by decide) k) ?_
  show Ends p e below QQ (s₁.setTop (mkF m 10 #[.val (.int (16 : Int32)), .val (.int (34 : Int32))] [(.int (16 : Int32))]))
  exact Ends.fin (some (.int (16 : Int32))) X0 hQQ (fun h => by rw [Bd.returns] at h; cases h) Bd.notSynchronized (fun _ hr => retOut X0 hx (t := .int) Bd.returns rfl (Or.inl ⟨rfl, Or.inl rfl, _, rfl⟩) (hb hby d26_10) hr) e0 (by decide) (by decide) ⟨rfl, N0, rfl⟩
theorem d25_0 : decode jdk_65_method_121_code 0 = .ok (.iload_n 1, 1) := by decide +kernel
theorem d25_1 : decode jdk_65_method_121_code 1 = .ok (.aload_n 0, 1) := by decide +kernel
theorem d25_2 : decode jdk_65_method_121_code 2 = .ok (.arraylength, 1) := by decide +kernel
theorem d25_3 : decode jdk_65_method_121_code 3 = .ok (.if_icmp .ne 11, 3) := by decide +kernel
theorem d25_14 : decode jdk_65_method_121_code 14 = .ok (.iload_n 1, 1) := by decide +kernel
theorem d25_15 : decode jdk_65_method_121_code 15 = .ok (.newarray .byte, 2) := by decide +kernel
theorem d25_17 : decode jdk_65_method_121_code 17 = .ok (.astore_n 2, 1) := by decide +kernel
theorem d25_18 : decode jdk_65_method_121_code 18 = .ok (.aload_n 0, 1) := by decide +kernel
theorem d25_19 : decode jdk_65_method_121_code 19 = .ok (.iconst 0, 1) := by decide +kernel
theorem d25_20 : decode jdk_65_method_121_code 20 = .ok (.aload_n 2, 1) := by decide +kernel
theorem d25_21 : decode jdk_65_method_121_code 21 = .ok (.iconst 0, 1) := by decide +kernel
theorem d25_22 : decode jdk_65_method_121_code 22 = .ok (.aload_n 0, 1) := by decide +kernel
theorem d25_23 : decode jdk_65_method_121_code 23 = .ok (.arraylength, 1) := by decide +kernel
theorem d25_24 : decode jdk_65_method_121_code 24 = .ok (.iload_n 1, 1) := by decide +kernel
theorem d25_25 : decode jdk_65_method_121_code 25 = .ok (.invokestatic 304, 3) := by decide +kernel
theorem d25_28 : decode jdk_65_method_121_code 28 = .ok (.invokestatic 150, 3) := by decide +kernel
theorem d25_31 : decode jdk_65_method_121_code 31 = .ok (.aload_n 2, 1) := by decide +kernel
theorem d25_32 : decode jdk_65_method_121_code 32 = .ok (.areturn, 1) := by decide +kernel
theorem ef_cpo17 (m : MethodId) (x0 : Addr) : entryFrame m #[(.ref x0), (.int (34 : Int32))] 3 = mkF m 0 #[.val (.ref x0), .val (.int (34 : Int32)), .unset] [] := by first | (simp [entryFrame, mkF, argsToLocals, Value.category]; done) | rfl
def Qcpo17 (Z : State) (o0 : Addr) (k : ClassId) (x0 : Int32) (x1 : Int32) (x2 : Int32) (x3 : Int32) (x4 : Int32) (x5 : Int32) (x6 : Int32) (x7 : Int32) (x8 : Int32) (x9 : Int32) (h0 : Heap) (n0 : Nat) (v : Option Value) (h : Heap) (L : List Loc) : Prop := ∃ (b : Addr), ∃ (k2 : ClassId), (v = some (.ref b)) ∧ (Fr n0 L) ∧ (Keep h0 h []) ∧ (h0.size ≤ b) ∧ (n0 ≤ b) ∧ (Exa Z h b "[B") ∧ (Arv Z h b k2 .byte (34 : Int32) [(.int x0), (.int x1), (.int x2), (.int x3), (.int x4), (.int x5), (.int x6), (.int x7), (.int x8), (.int x9), (.int (0 : Int32)), (.int (0 : Int32)), (.int (0 : Int32)), (.int (0 : Int32)), (.int (0 : Int32)), (.int (0 : Int32)), (.int (0 : Int32)), (.int (0 : Int32)), (.int (0 : Int32)), (.int (0 : Int32)), (.int (0 : Int32)), (.int (0 : Int32)), (.int (0 : Int32)), (.int (0 : Int32)), (.int (0 : Int32)), (.int (0 : Int32)), (.int (0 : Int32)), (.int (0 : Int32)), (.int (0 : Int32)), (.int (0 : Int32)), (.int (0 : Int32)), (.int (0 : Int32)), (.int (0 : Int32)), (.int (0 : Int32))] (.int (0 : Int32)))
set_option maxRecDepth 65536 in
set_option maxHeartbeats 40000000 in
theorem rmcpo17 (l : Launch) (Z : State) (a0 : Array Value) (hw : ∀ d ∈ tables_1, d.before a0 Z = true) (ws : List Jvm.Cond) (o0 : Addr) (k : ClassId) (x0 : Int32) (x1 : Int32) (x2 : Int32) (x3 : Int32) (x4 : Int32) (x5 : Int32) (x6 : Int32) (x7 : Int32) (x8 : Int32) (x9 : Int32) (h0 : Heap) (n0 : Nat) (Z0 : n0 ≤ h0.size) (A_o0 : Arv Z h0 o0 k .byte (16 : Int32) [(.int x0), (.int x1), (.int x2), (.int x3), (.int x4), (.int x5), (.int x6), (.int x7), (.int x8), (.int x9), (.int (0 : Int32)), (.int (0 : Int32)), (.int (0 : Int32)), (.int (0 : Int32)), (.int (0 : Int32)), (.int (0 : Int32))] (.int (0 : Int32))) :
    MetFree l (⟨"java/util/Arrays", "copyOf", "([BI)[B"⟩ : MethodName) (head1 (Jvm.Cond.code (⟨"java/util/Arrays", "copyOf", "([BI)[B"⟩ : MethodName) jdk_65_method_121_code 3 (some (.array .byte)) :: ws) ({ frames := 1, cells := 1, slots := 34, locals := 24 } : Room)) (fun a U => a = #[(.ref o0), (.int (34 : Int32))] ∧ Z.Warmed39 U.vm ∧ U.heap = h0) (fun _ _ _ _ _ => True) (fun _ U o U' => ∃ v L, o = .returned v ∧ Qcpo17 Z o0 k x0 x1 x2 x3 x4 x5 x6 x7 x8 x9 h0 n0 v U'.heap L ∧ FrameEnd U o U' L ({ frames := 1, cells := 1, slots := 34, locals := 24 } : Room).cells ({ frames := 1, cells := 1, slots := 34, locals := 24 } : Room).slots) := by
  refine MetFree.of_bodySF (plainFor_of_name pn_6) hisR ?_
  intro p e s m args below meth c s₁ Bd hml0 hP hK
  obtain ⟨rfl, hZ, hh⟩ := hP
  have hx := Bd.exec
  have hby := Bd.bytes
  have hml : c.maxLocals = 3 := hml0
  have hown : s.vm.findClass "java/util/Arrays" = some m.cls := findClass_of_methodNamed Bd.named
  have hnm := (name_of_methodNamed Bd.named Bd.method).1
  have X0 : Stand p l e ({ frames := 1, cells := 1, slots := 34, locals := 24 } : Room) s m #[(.ref o0), (.int (34 : Int32))] below meth c s₁ [] 0 0 := Stand.of_body Bd
  have e0 : s₁.heap = h0 := by rw [← hh, Bd.state]; rfl
  have N0 := Fr.nil n0
  refine Ends.opn ?_
  intro QQ hQQ
  refine Ends.step (S' := s₁.setTop (mkF m 0 #[.val (.ref o0), .val (.int (34 : Int32)), .unset] [])) (fun t k => castTop (ef_cpo17 m o0) k) ?_
  show Ends p e below QQ (s₁.setTop (mkF m 0 #[.val (.ref o0), .val (.int (34 : Int32)), .unset] []))
  refine Ends.step (fun _ k => XS.iloadN X0.here hx rfl (hb hby d25_0) rfl k) ?_
  show Ends p e below QQ (s₁.setTop (mkF m 1 #[.val (.ref o0), .val (.int (34 : Int32)), .unset] [(.int (34 : Int32))]))
  refine Ends.step (fun _ k => XS.aloadN X0.here hx rfl (hb hby d25_1) rfl rfl k) ?_
  show Ends p e below QQ (s₁.setTop (mkF m 2 #[.val (.ref o0), .val (.int (34 : Int32)), .unset] [(.ref o0), (.int (34 : Int32))]))
  obtain ⟨cl54, Ar54, -, S54, P54, -, -⟩ := id A_o0
  refine Ends.step (S' := s₁.setTop (mkF m 3 #[.val (.ref o0), .val (.int (34 : Int32)), .unset] [(.int (16 : Int32)), (.int (34 : Int32))])) (fun _ k => X0.arraylength hx (by rw [e0]; exact Ar54.1) (State.isArrayOf_alike hZ.alike Ar54.2.1) (g := (mkF m 2 #[.val (.ref o0), .val (.int (34 : Int32)), .unset] [(.ref o0), (.int (34 : Int32))])) rfl rfl (hb hby d25_2) _ (by rw [len_of S54 P54]; exact k)) ?_
  show Ends p e below QQ (s₁.setTop (mkF m 3 #[.val (.ref o0), .val (.int (34 : Int32)), .unset] [(.int (16 : Int32)), (.int (34 : Int32))]))
  refine Ends.step (fun _ k => XS.icmpYes X0.here hx rfl (pc0 := 3) (pc' := 14) rfl (hb hby d25_3) rfl (XT.ii_ne_t (by decide)) (by decide) (by decide) k) ?_
  show Ends p e below QQ (s₁.setTop (mkF m 14 #[.val (.ref o0), .val (.int (34 : Int32)), .unset] []))
  refine Ends.step (fun _ k => XS.iloadN X0.here hx rfl (hb hby d25_14) rfl k) ?_
  show Ends p e below QQ (s₁.setTop (mkF m 15 #[.val (.ref o0), .val (.int (34 : Int32)), .unset] [(.int (34 : Int32))]))
  obtain ⟨T55, h55, k55, X55, e55, E55, A55, Y55, st55⟩ := newPE X0 hx hZ (hw _ (List.mem_of_getElem? (i := 45) rfl)) e0 (g := (mkF m 15 #[.val (.ref o0), .val (.int (34 : Int32)), .unset] [(.int (34 : Int32))])) rfl (hb hby d25_15) rfl (by decide) (cap := 34) (by decide) (by decide) (by decide) (by decide) (ad := "[B") (by decide)
  obtain ⟨b55, g55⟩ : ∃ z, z = h0.size := ⟨_, rfl⟩
  rw [← g55] at A55 Y55 st55
  have ne_o0_b55 : o0 ≠ b55 := Nat.ne_of_lt (Nat.lt_of_lt_of_le A_o0.lt (Nat.le_of_eq g55.symm))
  have g_b55 : n0 ≤ b55 := Nat.le_trans Z0 (Nat.le_trans (Keep.refl h0 []).1 (Nat.le_of_eq g55.symm))
  have sz_b55 : h0.size ≤ b55 := Nat.le_trans (Keep.refl h0 []).1 (Nat.le_of_eq g55.symm)
  have A_o0 := A_o0.ext E55
  have K55 := (Keep.refl h0 []).ext E55
  have E_b55 := Y55
  have A_b55 : Arv Z h55 b55 k55 .byte (34 : Int32) [(.int (0 : Int32)), (.int (0 : Int32)), (.int (0 : Int32)), (.int (0 : Int32)), (.int (0 : Int32)), (.int (0 : Int32)), (.int (0 : Int32)), (.int (0 : Int32)), (.int (0 : Int32)), (.int (0 : Int32)), (.int (0 : Int32)), (.int (0 : Int32)), (.int (0 : Int32)), (.int (0 : Int32)), (.int (0 : Int32)), (.int (0 : Int32)), (.int (0 : Int32)), (.int (0 : Int32)), (.int (0 : Int32)), (.int (0 : Int32)), (.int (0 : Int32)), (.int (0 : Int32)), (.int (0 : Int32)), (.int (0 : Int32)), (.int (0 : Int32)), (.int (0 : Int32)), (.int (0 : Int32)), (.int (0 : Int32)), (.int (0 : Int32)), (.int (0 : Int32)), (.int (0 : Int32)), (.int (0 : Int32)), (.int (0 : Int32)), (.int (0 : Int32))] (.int (0 : Int32)) := (Arv.new A55 (by decide)).pad (pad_rep [] (.int (0 : Int32)) 34)
  refine Ends.step st55 ?_
  show Ends p e below QQ (T55.setTop (mkF m 17 #[.val (.ref o0), .val (.int (34 : Int32)), .unset] [(.ref b55)]))
  refine Ends.step (fun _ k => XS.astoreN X55.here hx rfl (hb hby d25_17) rfl rfl (l' := #[.val (.ref o0), .val (.int (34 : Int32)), .val (.ref b55)]) rfl k) ?_
  show Ends p e below QQ (T55.setTop (mkF m 18 #[.val (.ref o0), .val (.int (34 : Int32)), .val (.ref b55)] []))
  refine Ends.step (fun _ k => XS.aloadN X55.here hx rfl (hb hby d25_18) rfl rfl k) ?_
  show Ends p e below QQ (T55.setTop (mkF m 19 #[.val (.ref o0), .val (.int (34 : Int32)), .val (.ref b55)] [(.ref o0)]))
  refine Ends.step (fun _ k => XT.iconstV X55.here hx rfl (0 : Int32) (hb hby d25_19) rfl k) ?_
  show Ends p e below QQ (T55.setTop (mkF m 20 #[.val (.ref o0), .val (.int (34 : Int32)), .val (.ref b55)] [(.int (0 : Int32)), (.ref o0)]))
  refine Ends.step (fun _ k => XS.aloadN X55.here hx rfl (hb hby d25_20) rfl rfl k) ?_
  show Ends p e below QQ (T55.setTop (mkF m 21 #[.val (.ref o0), .val (.int (34 : Int32)), .val (.ref b55)] [(.ref b55), (.int (0 : Int32)), (.ref o0)]))
  refine Ends.step (fun _ k => XT.iconstV X55.here hx rfl (0 : Int32) (hb hby d25_21) rfl k) ?_
  show Ends p e below QQ (T55.setTop (mkF m 22 #[.val (.ref o0), .val (.int (34 : Int32)), .val (.ref b55)] [(.int (0 : Int32)), (.ref b55), (.int (0 : Int32)), (.ref o0)]))
  refine Ends.step (fun _ k => XS.aloadN X55.here hx rfl (hb hby d25_22) rfl rfl k) ?_
  show Ends p e below QQ (T55.setTop (mkF m 23 #[.val (.ref o0), .val (.int (34 : Int32)), .val (.ref b55)] [(.ref o0), (.int (0 : Int32)), (.ref b55), (.int (0 : Int32)), (.ref o0)]))
  obtain ⟨cl56, Ar56, -, S56, P56, -, -⟩ := id A_o0
  refine Ends.step (S' := T55.setTop (mkF m 24 #[.val (.ref o0), .val (.int (34 : Int32)), .val (.ref b55)] [(.int (16 : Int32)), (.int (0 : Int32)), (.ref b55), (.int (0 : Int32)), (.ref o0)])) (fun _ k => X55.arraylength hx (by rw [e55]; exact Ar56.1) (State.isArrayOf_alike hZ.alike Ar56.2.1) (g := (mkF m 23 #[.val (.ref o0), .val (.int (34 : Int32)), .val (.ref b55)] [(.ref o0), (.int (0 : Int32)), (.ref b55), (.int (0 : Int32)), (.ref o0)])) rfl rfl (hb hby d25_23) _ (by rw [len_of S56 P56]; exact k)) ?_
  show Ends p e below QQ (T55.setTop (mkF m 24 #[.val (.ref o0), .val (.int (34 : Int32)), .val (.ref b55)] [(.int (16 : Int32)), (.int (0 : Int32)), (.ref b55), (.int (0 : Int32)), (.ref o0)]))
  refine Ends.step (fun _ k => XS.iloadN X55.here hx rfl (hb hby d25_24) rfl k) ?_
  show Ends p e below QQ (T55.setTop (mkF m 25 #[.val (.ref o0), .val (.int (34 : Int32)), .val (.ref b55)] [(.int (34 : Int32)), (.int (16 : Int32)), (.int (0 : Int32)), (.ref b55), (.int (0 : Int32)), (.ref o0)]))
  obtain ⟨_, _, ⟨T57, L57, k57, n57⟩, -, X57, ⟨Lc57, hQ57, l57, y57, z57⟩, st57⟩ := Jvm.LawKit.callS X55 hx (y := (⟨"java/lang/Math", "min", "(II)I"⟩ : MethodName)) hown (mvT hZ (hw _ (List.mem_of_getElem? (i := 153) rfl))) (mvT hZ (hw _ (List.mem_of_getElem? (i := 154) rfl))) (mvT hZ (hw _ (List.mem_of_getElem? (i := 145) rfl))) (mvT hZ (hw _ (List.mem_of_getElem? (i := 155) rfl))) (by decide) (backOf (W := 4) (rmmn34 l Z a0 hw []  h55 n0 (Nat.le_trans Z0 K55.1)) hZ (hw _ (List.mem_of_getElem? (i := 155) rfl)) (hw _ (List.mem_of_getElem? (i := 145) rfl)) (by decide) (by decide)) (g := (mkF m 25 #[.val (.ref o0), .val (.int (34 : Int32)), .val (.ref b55)] [(.int (34 : Int32)), (.int (16 : Int32)), (.int (0 : Int32)), (.ref b55), (.int (0 : Int32)), (.ref o0)])) rfl (by rw [hml]; rfl) (argsL := [(.int (16 : Int32)), (.int (34 : Int32))]) (rest := [(.int (0 : Int32)), (.ref b55), (.int (0 : Int32)), (.ref o0)]) (lenOf pd_11 rfl) rfl (by show 2 * 0 + _ ≤ _; exact Nat.le_of_eq rfl) (hb hby d25_25) (fun _ _ => ⟨rfl, e55, (by decide : 1 + 0 ≤ _), (by decide : 34 + 0 ≤ _)⟩)
  dsimp only [Pt.U, Pt.locs, Pt.cells, Pt.slots] at X57 l57 y57 z57 st57 hQ57
  subst l57 y57 z57
  obtain ⟨rfl, Nq57, hh57⟩ := hQ57
  have N57 := Fr.app N0 Nq57
  refine Ends.step st57 ?_
  show Ends p e below QQ (T57.setTop (mkF m 28 #[.val (.ref o0), .val (.int (34 : Int32)), .val (.ref b55)] [(.int (16 : Int32)), (.int (0 : Int32)), (.ref b55), (.int (0 : Int32)), (.ref o0)]))
  obtain ⟨T58, h58, L58, X58, e58, N58, Kq58, AA58, st58⟩ := cpA X57 hx hZ hown (hw _ (List.mem_of_getElem? (i := 156) rfl)) (hw _ (List.mem_of_getElem? (i := 105) rfl)) (hw _ (List.mem_of_getElem? (i := 103) rfl)) (hw _ (List.mem_of_getElem? (i := 104) rfl)) hh57 A_o0 A_b55 (Or.inl ⟨rfl, rfl⟩) (by decide) (by decide) (by decide) (by decide) (by decide) (us := [(.int x0), (.int x1), (.int x2), (.int x3), (.int x4), (.int x5), (.int x6), (.int x7), (.int x8), (.int x9), (.int (0 : Int32)), (.int (0 : Int32)), (.int (0 : Int32)), (.int (0 : Int32)), (.int (0 : Int32)), (.int (0 : Int32))]) (by rfl) (Nat.le_of_ble_eq_true rfl) N57 g_b55 (g := (mkF m 28 #[.val (.ref o0), .val (.int (34 : Int32)), .val (.ref b55)] [(.int (16 : Int32)), (.int (0 : Int32)), (.ref b55), (.int (0 : Int32)), (.ref o0)])) rfl (by rw [hml]; rfl) rfl (hb hby d25_28) (by decide) (W := 0) (by show 2 * 0 + _ ≤ _; exact Nat.le_of_eq rfl) (by decide)
  have A_o0 := A_o0.keep Kq58 (ninS ne_o0_b55 nin0)
  have E_b55 := E_b55.keep Kq58
  have A_b55 : Arv Z h58 b55 k55 .byte (34 : Int32) [(.int x0), (.int x1), (.int x2), (.int x3), (.int x4), (.int x5), (.int x6), (.int x7), (.int x8), (.int x9), (.int (0 : Int32)), (.int (0 : Int32)), (.int (0 : Int32)), (.int (0 : Int32)), (.int (0 : Int32)), (.int (0 : Int32)), (.int (0 : Int32)), (.int (0 : Int32)), (.int (0 : Int32)), (.int (0 : Int32)), (.int (0 : Int32)), (.int (0 : Int32)), (.int (0 : Int32)), (.int (0 : Int32)), (.int (0 : Int32)), (.int (0 : Int32)), (.int (0 : Int32)), (.int (0 : Int32)), (.int (0 : Int32)), (.int (0 : Int32)), (.int (0 : Int32)), (.int (0 : Int32)), (.int (0 : Int32)), (.int (0 : Int32))] (.int (0 : Int32)) := AA58
  have K58 := K55.trans Kq58 (allS (Or.inr sz_b55) all0)
  refine Ends.step st58 ?_
  show Ends p e below QQ (T58.setTop (mkF m 31 #[.val (.ref o0), .val (.int (34 : Int32)), .val (.ref b55)] []))
  refine Ends.step (fun _ k => XS.aloadN X58.here hx rfl (hb hby d25_31) rfl rfl k) ?_
  show Ends p e below QQ (T58.setTop (mkF m 32 #[.val (.ref o0), .val (.int (34 : Int32)), .val (.ref b55)] [(.ref b55)]))
  exact Ends.fin (some (.ref b55)) X58 hQQ (fun h => by rw [Bd.returns] at h; cases h) Bd.notSynchronized (fun _ hr => retOut X58 hx (t := (.array .byte)) Bd.returns rfl (Or.inr (Or.inr (Or.inr (Or.inr ⟨rfl, rfl, rfl⟩)))) (hb hby d25_32) hr) e58 (by decide) (by decide) ⟨b55, k55, rfl, N58, K58, sz_b55, g_b55, E_b55, A_b55⟩
theorem d13_17 : decode jdk_68_method_9_code 17 = .ok (.aload_n 0, 1) := by decide +kernel
theorem d13_18 : decode jdk_68_method_9_code 18 = .ok (.aload_n 0, 1) := by decide +kernel
theorem d13_19 : decode jdk_68_method_9_code 19 = .ok (.getfield 15, 3) := by decide +kernel
theorem d13_22 : decode jdk_68_method_9_code 22 = .ok (.aload_n 0, 1) := by decide +kernel
theorem d13_23 : decode jdk_68_method_9_code 23 = .ok (.iload_n 1, 1) := by decide +kernel
theorem d13_24 : decode jdk_68_method_9_code 24 = .ok (.invokevirtual 104, 3) := by decide +kernel
theorem d13_27 : decode jdk_68_method_9_code 27 = .ok (.aload_n 0, 1) := by decide +kernel
theorem d13_28 : decode jdk_68_method_9_code 28 = .ok (.getfield 22, 3) := by decide +kernel
theorem d13_31 : decode jdk_68_method_9_code 31 = .ok (.ishl, 1) := by decide +kernel
theorem d13_32 : decode jdk_68_method_9_code 32 = .ok (.invokestatic 108, 3) := by decide +kernel
theorem d13_35 : decode jdk_68_method_9_code 35 = .ok (.putfield 15, 3) := by decide +kernel
theorem ef_eng17 (m : MethodId) (x0 : Addr) : entryFrame m #[(.ref x0), (.int (17 : Int32))] 3 = mkF m 0 #[.val (.ref x0), .val (.int (17 : Int32)), .unset] [] := by first | (simp [entryFrame, mkF, argsToLocals, Value.category]; done) | rfl
def Qeng17 (Z : State) (o0 : Addr) (vb : Addr) (kb : ClassId) (x0 : Int32) (x1 : Int32) (x2 : Int32) (x3 : Int32) (x4 : Int32) (x5 : Int32) (x6 : Int32) (x7 : Int32) (x8 : Int32) (x9 : Int32) (h0 : Heap) (n0 : Nat) (v : Option Value) (h : Heap) (L : List Loc) : Prop := ∃ (b : Addr), ∃ (k2 : ClassId), (v = none) ∧ (Fr n0 L) ∧ (Keep h0 h [o0]) ∧ (h0.size ≤ b) ∧ (n0 ≤ b) ∧ (Exa Z h o0 "java/lang/StringBuilder") ∧ (Fld Z h o0 "java/lang/AbstractStringBuilder" "value" "[B" (.ref b)) ∧ (Fld Z h o0 "java/lang/AbstractStringBuilder" "coder" "B" (.int (0 : Int32))) ∧ (Fld Z h o0 "java/lang/AbstractStringBuilder" "count" "I" (.int (10 : Int32))) ∧ (Exa Z h b "[B") ∧ (Arv Z h b k2 .byte (34 : Int32) [(.int x0), (.int x1), (.int x2), (.int x3), (.int x4), (.int x5), (.int x6), (.int x7), (.int x8), (.int x9), (.int (0 : Int32)), (.int (0 : Int32)), (.int (0 : Int32)), (.int (0 : Int32)), (.int (0 : Int32)), (.int (0 : Int32)), (.int (0 : Int32)), (.int (0 : Int32)), (.int (0 : Int32)), (.int (0 : Int32)), (.int (0 : Int32)), (.int (0 : Int32)), (.int (0 : Int32)), (.int (0 : Int32)), (.int (0 : Int32)), (.int (0 : Int32)), (.int (0 : Int32)), (.int (0 : Int32)), (.int (0 : Int32)), (.int (0 : Int32)), (.int (0 : Int32)), (.int (0 : Int32)), (.int (0 : Int32)), (.int (0 : Int32))] (.int (0 : Int32)))
set_option maxRecDepth 65536 in
set_option maxHeartbeats 40000000 in
theorem rmeng17 (l : Launch) (Z : State) (a0 : Array Value) (hw : ∀ d ∈ tables_1, d.before a0 Z = true) (ws : List Jvm.Cond) (o0 : Addr) (vb : Addr) (kb : ClassId) (x0 : Int32) (x1 : Int32) (x2 : Int32) (x3 : Int32) (x4 : Int32) (x5 : Int32) (x6 : Int32) (x7 : Int32) (x8 : Int32) (x9 : Int32) (h0 : Heap) (n0 : Nat) (Z0 : n0 ≤ h0.size) (E_o0 : Exa Z h0 o0 "java/lang/StringBuilder") (F_value_o0 : Fld Z h0 o0 "java/lang/AbstractStringBuilder" "value" "[B" (.ref vb)) (F_coder_o0 : Fld Z h0 o0 "java/lang/AbstractStringBuilder" "coder" "B" (.int (0 : Int32))) (F_count_o0 : Fld Z h0 o0 "java/lang/AbstractStringBuilder" "count" "I" (.int (10 : Int32))) (g_o0 : n0 ≤ o0) (A_vb : Arv Z h0 vb kb .byte (16 : Int32) [(.int x0), (.int x1), (.int x2), (.int x3), (.int x4), (.int x5), (.int x6), (.int x7), (.int x8), (.int x9), (.int (0 : Int32)), (.int (0 : Int32)), (.int (0 : Int32)), (.int (0 : Int32)), (.int (0 : Int32)), (.int (0 : Int32))] (.int (0 : Int32))) (ne_o0_vb : o0 ≠ vb) :
    MetFree l (⟨"java/lang/AbstractStringBuilder", "ensureCapacityInternal", "(I)V"⟩ : MethodName) (head1 (Jvm.Cond.code (⟨"java/lang/AbstractStringBuilder", "ensureCapacityInternal", "(I)V"⟩ : MethodName) jdk_68_method_9_code 3 none :: ws) ({ frames := 3, cells := 1, slots := 34, locals := 48 } : Room)) (fun a U => a = #[(.ref o0), (.int (17 : Int32))] ∧ Z.Warmed39 U.vm ∧ U.heap = h0) (fun _ _ _ _ _ => True) (fun _ U o U' => ∃ v L, o = .returned v ∧ Qeng17 Z o0 vb kb x0 x1 x2 x3 x4 x5 x6 x7 x8 x9 h0 n0 v U'.heap L ∧ FrameEnd U o U' L ({ frames := 3, cells := 1, slots := 34, locals := 48 } : Room).cells ({ frames := 3, cells := 1, slots := 34, locals := 48 } : Room).slots) := by
  refine MetFree.of_bodySF (plainFor_of_name pn_3) hisR ?_
  intro p e s m args below meth c s₁ Bd hml0 hP hK
  obtain ⟨rfl, hZ, hh⟩ := hP
  have hx := Bd.exec
  have hby := Bd.bytes
  have hml : c.maxLocals = 3 := hml0
  have hown : s.vm.findClass "java/lang/AbstractStringBuilder" = some m.cls := findClass_of_methodNamed Bd.named
  have hnm := (name_of_methodNamed Bd.named Bd.method).1
  have X0 : Stand p l e ({ frames := 3, cells := 1, slots := 34, locals := 48 } : Room) s m #[(.ref o0), (.int (17 : Int32))] below meth c s₁ [] 0 0 := Stand.of_body Bd
  have e0 : s₁.heap = h0 := by rw [← hh, Bd.state]; rfl
  have N0 := Fr.nil n0
  refine Ends.opn ?_
  intro QQ hQQ
  refine Ends.step (S' := s₁.setTop (mkF m 0 #[.val (.ref o0), .val (.int (17 : Int32)), .unset] [])) (fun t k => castTop (ef_eng17 m o0) k) ?_
  show Ends p e below QQ (s₁.setTop (mkF m 0 #[.val (.ref o0), .val (.int (17 : Int32)), .unset] []))
  refine Ends.step (fun _ k => XS.aloadN X0.here hx rfl (hb hby d13_0) rfl rfl k) ?_
  show Ends p e below QQ (s₁.setTop (mkF m 1 #[.val (.ref o0), .val (.int (17 : Int32)), .unset] [(.ref o0)]))
  obtain ⟨T59, X59, e59, st59⟩ := getF X0 hx hZ hown (host := "") (Or.inl (hw _ (List.mem_of_getElem? (i := 46) rfl))) Via.refl e0 F_value_o0 (g := (mkF m 1 #[.val (.ref o0), .val (.int (17 : Int32)), .unset] [(.ref o0)])) rfl rfl (hb hby d13_1)
  refine Ends.step st59 ?_
  show Ends p e below QQ (T59.setTop (mkF m 4 #[.val (.ref o0), .val (.int (17 : Int32)), .unset] [(.ref vb)]))
  obtain ⟨cl60, Ar60, -, S60, P60, -, -⟩ := id A_vb
  refine Ends.step (S' := T59.setTop (mkF m 5 #[.val (.ref o0), .val (.int (17 : Int32)), .unset] [(.int (16 : Int32))])) (fun _ k => X59.arraylength hx (by rw [e59]; exact Ar60.1) (State.isArrayOf_alike hZ.alike Ar60.2.1) (g := (mkF m 4 #[.val (.ref o0), .val (.int (17 : Int32)), .unset] [(.ref vb)])) rfl rfl (hb hby d13_4) _ (by rw [len_of S60 P60]; exact k)) ?_
  show Ends p e below QQ (T59.setTop (mkF m 5 #[.val (.ref o0), .val (.int (17 : Int32)), .unset] [(.int (16 : Int32))]))
  refine Ends.step (fun _ k => XS.aloadN X59.here hx rfl (hb hby d13_5) rfl rfl k) ?_
  show Ends p e below QQ (T59.setTop (mkF m 6 #[.val (.ref o0), .val (.int (17 : Int32)), .unset] [(.ref o0), (.int (16 : Int32))]))
  obtain ⟨T61, X61, e61, st61⟩ := getF X59 hx hZ hown (host := "") (Or.inl (hw _ (List.mem_of_getElem? (i := 48) rfl))) Via.refl e59 F_coder_o0 (g := (mkF m 6 #[.val (.ref o0), .val (.int (17 : Int32)), .unset] [(.ref o0), (.int (16 : Int32))])) rfl rfl (hb hby d13_6)
  refine Ends.step st61 ?_
  show Ends p e below QQ (T61.setTop (mkF m 9 #[.val (.ref o0), .val (.int (17 : Int32)), .unset] [(.int (0 : Int32)), (.int (16 : Int32))]))
  refine Ends.step (fun _ k => XS.ishr X61.here hx rfl (hb hby d13_9) rfl k) ?_
  show Ends p e below QQ (T61.setTop (mkF m 10 #[.val (.ref o0), .val (.int (17 : Int32)), .unset] [(.int (16 : Int32))]))
  refine Ends.step (fun _ k => XS.istoreN X61.here hx rfl (hb hby d13_10) rfl (l' := #[.val (.ref o0), .val (.int (17 : Int32)), .val (.int (16 : Int32))]) rfl k) ?_
  show Ends p e below QQ (T61.setTop (mkF m 11 #[.val (.ref o0), .val (.int (17 : Int32)), .val (.int (16 : Int32))] []))
  refine Ends.step (fun _ k => XS.iloadN X61.here hx rfl (hb hby d13_11) rfl k) ?_
  show Ends p e below QQ (T61.setTop (mkF m 12 #[.val (.ref o0), .val (.int (17 : Int32)), .val (.int (16 : Int32))] [(.int (17 : Int32))]))
  refine Ends.step (fun _ k => XS.iloadN X61.here hx rfl (hb hby d13_12) rfl k) ?_
  show Ends p e below QQ (T61.setTop (mkF m 13 #[.val (.ref o0), .val (.int (17 : Int32)), .val (.int (16 : Int32))] [(.int (16 : Int32)), (.int (17 : Int32))]))
  refine Ends.step (fun _ k => XS.isub X61.here hx rfl (hb hby d13_13) rfl k) ?_
  show Ends p e below QQ (T61.setTop (mkF m 14 #[.val (.ref o0), .val (.int (17 : Int32)), .val (.int (16 : Int32))] [(.int (1 : Int32))]))
  refine Ends.step (fun _ k => XS.ifNo X61.here hx rfl (hb hby d13_14) rfl (XT.i0_le_f (by decide)) k) ?_
  show Ends p e below QQ (T61.setTop (mkF m 17 #[.val (.ref o0), .val (.int (17 : Int32)), .val (.int (16 : Int32))] []))
  refine Ends.step (fun _ k => XS.aloadN X61.here hx rfl (hb hby d13_17) rfl rfl k) ?_
  show Ends p e below QQ (T61.setTop (mkF m 18 #[.val (.ref o0), .val (.int (17 : Int32)), .val (.int (16 : Int32))] [(.ref o0)]))
  refine Ends.step (fun _ k => XS.aloadN X61.here hx rfl (hb hby d13_18) rfl rfl k) ?_
  show Ends p e below QQ (T61.setTop (mkF m 19 #[.val (.ref o0), .val (.int (17 : Int32)), .val (.int (16 : Int32))] [(.ref o0), (.ref o0)]))
  obtain ⟨T62, X62, e62, st62⟩ := getF X61 hx hZ hown (host := "") (Or.inl (hw _ (List.mem_of_getElem? (i := 46) rfl))) Via.refl e61 F_value_o0 (g := (mkF m 19 #[.val (.ref o0), .val (.int (17 : Int32)), .val (.int (16 : Int32))] [(.ref o0), (.ref o0)])) rfl rfl (hb hby d13_19)
  refine Ends.step st62 ?_
  show Ends p e below QQ (T62.setTop (mkF m 22 #[.val (.ref o0), .val (.int (17 : Int32)), .val (.int (16 : Int32))] [(.ref vb), (.ref o0)]))
  refine Ends.step (fun _ k => XS.aloadN X62.here hx rfl (hb hby d13_22) rfl rfl k) ?_
  show Ends p e below QQ (T62.setTop (mkF m 23 #[.val (.ref o0), .val (.int (17 : Int32)), .val (.int (16 : Int32))] [(.ref o0), (.ref vb), (.ref o0)]))
  refine Ends.step (fun _ k => XS.iloadN X62.here hx rfl (hb hby d13_23) rfl k) ?_
  show Ends p e below QQ (T62.setTop (mkF m 24 #[.val (.ref o0), .val (.int (17 : Int32)), .val (.int (16 : Int32))] [(.int (17 : Int32)), (.ref o0), (.ref vb), (.ref o0)]))
  obtain ⟨cq63, q63, q63'⟩ := E_o0.cell
  obtain ⟨_, _, ⟨T63, L63, k63, n63⟩, -, X63, ⟨Lc63, hQ63, l63, y63, z63⟩, st63⟩ := X62.privateBack hx (y := (⟨"java/lang/AbstractStringBuilder", "newCapacity", "(I)I"⟩ : MethodName)) hown (mvT hZ (hw _ (List.mem_of_getElem? (i := 134) rfl))) (mvT hZ (hw _ (List.mem_of_getElem? (i := 135) rfl))) (mvT hZ (own_selq (y := (⟨"java/lang/AbstractStringBuilder", "newCapacity", "(I)I"⟩ : MethodName)) (hw _ (List.mem_of_getElem? (i := 84) rfl)) rfl (hw _ (List.mem_of_getElem? (i := 136) rfl)) (hw _ (List.mem_of_getElem? (i := 135) rfl)) (by decide))) (Cond.privateMethod_at (mvP hZ (hw _ (List.mem_of_getElem? (i := 136) rfl)) (args := #[]))) (mvT hZ (hw _ (List.mem_of_getElem? (i := 138) rfl))) (by decide) (backOf (W := 2) (rmnc17 l Z a0 hw [] o0 vb kb [(.int x0), (.int x1), (.int x2), (.int x3), (.int x4), (.int x5), (.int x6), (.int x7), (.int x8), (.int x9), (.int (0 : Int32)), (.int (0 : Int32)), (.int (0 : Int32)), (.int (0 : Int32)), (.int (0 : Int32)), (.int (0 : Int32))] h0 n0 (Nat.le_trans Z0 (Keep.refl h0 [o0]).1) F_value_o0 F_coder_o0 A_vb) hZ (hw _ (List.mem_of_getElem? (i := 138) rfl)) (hw _ (List.mem_of_getElem? (i := 40) rfl)) (by decide) (by decide)) (g := (mkF m 24 #[.val (.ref o0), .val (.int (17 : Int32)), .val (.int (16 : Int32))] [(.int (17 : Int32)), (.ref o0), (.ref vb), (.ref o0)])) rfl (by rw [hml]; rfl) (Steps.refl _) (a := o0) (by rw [e62]; exact q63) q63' (argsL := [(.int (17 : Int32))]) (rest := [(.ref vb), (.ref o0)]) (lenOf pd_13 rfl) rfl (by show 2 * 0 + _ ≤ _; exact Nat.le_of_eq rfl) (hb hby d13_24) (fun _ _ => ⟨rfl, e62, (by decide : 0 + 0 ≤ _), (by decide : 0 + 0 ≤ _)⟩)
  dsimp only [Pt.U, Pt.locs, Pt.cells, Pt.slots] at X63 l63 y63 z63 st63 hQ63
  subst l63 y63 z63
  obtain ⟨rfl, Nq63, hh63⟩ := hQ63
  have N63 := Fr.app N0 Nq63
  refine Ends.step (fun _ k => st63.trans k) ?_
  show Ends p e below QQ (T63.setTop (mkF m 27 #[.val (.ref o0), .val (.int (17 : Int32)), .val (.int (16 : Int32))] [(.int (34 : Int32)), (.ref vb), (.ref o0)]))
  refine Ends.step (fun _ k => XS.aloadN X63.here hx rfl (hb hby d13_27) rfl rfl k) ?_
  show Ends p e below QQ (T63.setTop (mkF m 28 #[.val (.ref o0), .val (.int (17 : Int32)), .val (.int (16 : Int32))] [(.ref o0), (.int (34 : Int32)), (.ref vb), (.ref o0)]))
  obtain ⟨T64, X64, e64, st64⟩ := getF X63 hx hZ hown (host := "") (Or.inl (hw _ (List.mem_of_getElem? (i := 48) rfl))) Via.refl hh63 F_coder_o0 (g := (mkF m 28 #[.val (.ref o0), .val (.int (17 : Int32)), .val (.int (16 : Int32))] [(.ref o0), (.int (34 : Int32)), (.ref vb), (.ref o0)])) rfl rfl (hb hby d13_28)
  refine Ends.step st64 ?_
  show Ends p e below QQ (T64.setTop (mkF m 31 #[.val (.ref o0), .val (.int (17 : Int32)), .val (.int (16 : Int32))] [(.int (0 : Int32)), (.int (34 : Int32)), (.ref vb), (.ref o0)]))
  refine Ends.step (fun _ k => XS.ishl X64.here hx rfl (hb hby d13_31) rfl k) ?_
  show Ends p e below QQ (T64.setTop (mkF m 32 #[.val (.ref o0), .val (.int (17 : Int32)), .val (.int (16 : Int32))] [(.int (34 : Int32)), (.ref vb), (.ref o0)]))
  obtain ⟨_, _, ⟨T65, L65, k65, n65⟩, -, X65, ⟨Lc65, hQ65, l65, y65, z65⟩, st65⟩ := Jvm.LawKit.callS X64 hx (y := (⟨"java/util/Arrays", "copyOf", "([BI)[B"⟩ : MethodName)) hown (mvT hZ (hw _ (List.mem_of_getElem? (i := 149) rfl))) (mvT hZ (hw _ (List.mem_of_getElem? (i := 150) rfl))) (mvT hZ (hw _ (List.mem_of_getElem? (i := 151) rfl))) (mvT hZ (hw _ (List.mem_of_getElem? (i := 152) rfl))) (by decide) (backOf (W := 1) (rmcpo17 l Z a0 hw [] vb kb x0 x1 x2 x3 x4 x5 x6 x7 x8 x9 h0 n0 (Nat.le_trans Z0 (Keep.refl h0 [o0]).1) A_vb) hZ (hw _ (List.mem_of_getElem? (i := 152) rfl)) (hw _ (List.mem_of_getElem? (i := 151) rfl)) (by decide) (by decide)) (g := (mkF m 32 #[.val (.ref o0), .val (.int (17 : Int32)), .val (.int (16 : Int32))] [(.int (34 : Int32)), (.ref vb), (.ref o0)])) rfl (by rw [hml]; rfl) (argsL := [(.ref vb), (.int (34 : Int32))]) (rest := [(.ref o0)]) (lenOf pd_14 rfl) rfl (by show 2 * 0 + _ ≤ _; exact Nat.le_of_eq rfl) (hb hby d13_32) (fun _ _ => ⟨rfl, e64, (by decide : 0 + 1 ≤ _), (by decide : 0 + 34 ≤ _)⟩)
  dsimp only [Pt.U, Pt.locs, Pt.cells, Pt.slots] at X65 l65 y65 z65 st65 hQ65
  subst l65 y65 z65
  obtain ⟨b_65, k2_65, rfl, Nq65, Kq65, fq65_0, fq65_1, fq65_2, fq65_3⟩ := hQ65
  have N65 := Fr.app N63 Nq65
  have ne_o0_b_65 : o0 ≠ b_65 := Nat.ne_of_lt (Nat.lt_of_lt_of_le E_o0.lt fq65_0)
  have ne_vb_b_65 : vb ≠ b_65 := Nat.ne_of_lt (Nat.lt_of_lt_of_le A_vb.lt fq65_0)
  have sz_b_65 := Nat.le_trans (Keep.refl h0 [o0]).1 fq65_0
  have E_o0 := E_o0.keep Kq65
  have F_value_o0 := F_value_o0.keep Kq65 nin0
  have F_coder_o0 := F_coder_o0.keep Kq65 nin0
  have F_count_o0 := F_count_o0.keep Kq65 nin0
  have A_vb := A_vb.keep Kq65 nin0
  have g_b_65 := fq65_1
  have E_b_65 := fq65_2
  have A_b_65 := fq65_3
  have K65 := (Keep.refl h0 [o0]).trans Kq65 all0
  refine Ends.step st65 ?_
  show Ends p e below QQ (T65.setTop (mkF m 35 #[.val (.ref o0), .val (.int (17 : Int32)), .val (.int (16 : Int32))] [(.ref b_65), (.ref o0)]))
  obtain ⟨T66, h66, X66, e66, W66, st66⟩ := putF X65 hx hZ hown (host := "") (Or.inl (hw _ (List.mem_of_getElem? (i := 46) rfl))) Via.refl rfl F_value_o0 E_o0 (Or.inl (hw _ (List.mem_of_getElem? (i := 47) rfl))) (hw _ (List.mem_of_getElem? (i := 31) rfl)) (ty := (.array .byte)) (by decide) rfl rfl (g := (mkF m 35 #[.val (.ref o0), .val (.int (17 : Int32)), .val (.int (16 : Int32))] [(.ref b_65), (.ref o0)])) rfl rfl (hb hby d13_35)
  have E_o0 := E_o0.wr W66
  have F_coder_o0 := F_coder_o0.other W66 (Or.inr (slot_ne (Or.inl (hw _ (List.mem_of_getElem? (i := 49) rfl))) (Or.inl (hw _ (List.mem_of_getElem? (i := 47) rfl))) (by decide) (t := .byte) (t' := (.array .byte)) (by decide) (by decide)))
  have F_count_o0 := F_count_o0.other W66 (Or.inr (slot_ne (Or.inl (hw _ (List.mem_of_getElem? (i := 80) rfl))) (Or.inl (hw _ (List.mem_of_getElem? (i := 47) rfl))) (by decide) (t := .int) (t' := (.array .byte)) (by decide) (by decide)))
  have A_vb := A_vb.other W66 (Ne.symm ne_o0_vb)
  have E_b_65 := E_b_65.wr W66
  have A_b_65 := A_b_65.other W66 (Ne.symm ne_o0_b_65)
  have F_value_o0 : Fld Z h66 o0 "java/lang/AbstractStringBuilder" "value" "[B" (.ref b_65) := F_value_o0.same W66
  have K66 := K65.wr W66 (Or.inl (List.mem_of_getElem? (i := 0) rfl))
  have N66 := Fr.snoc X66 N65 g_o0
  refine Ends.step st66 ?_
  show Ends p e below QQ (T66.setTop (mkF m 38 #[.val (.ref o0), .val (.int (17 : Int32)), .val (.int (16 : Int32))] []))
  exact Ends.fin (none) X66 hQQ (fun _ => rfl) Bd.notSynchronized (fun _ hr => X66.returnOut hx Bd.returns (hb hby d13_38) hr) e66 (by decide) (by decide) ⟨b_65, k2_65, rfl, N66, K66, sz_b_65, g_b_65, E_o0, F_value_o0, F_coder_o0, F_count_o0, E_b_65, A_b_65⟩
theorem ef_gbB (m : MethodId) (x0 : Addr) (x1 : Addr) : entryFrame m #[(.ref x0), (.ref x1), (.int (10 : Int32)), (.int (0 : Int32))] 4 = mkF m 0 #[.val (.ref x0), .val (.ref x1), .val (.int (10 : Int32)), .val (.int (0 : Int32))] [] := by first | (simp [entryFrame, mkF, argsToLocals, Value.category]; done) | rfl
def QgbB (Z : State) (o0 : Addr) (o1 : Addr) (kb : ClassId) (tt : Addr) (kt : ClassId) (cs : Int32) (x0 : Int32) (x1 : Int32) (x2 : Int32) (x3 : Int32) (x4 : Int32) (x5 : Int32) (x6 : Int32) (x7 : Int32) (x8 : Int32) (x9 : Int32) (y0 : Int32) (y1 : Int32) (y2 : Int32) (y3 : Int32) (y4 : Int32) (y5 : Int32) (y6 : Int32) (h0 : Heap) (n0 : Nat) (v : Option Value) (h : Heap) (L : List Loc) : Prop := (v = none) ∧ (Fr n0 L) ∧ (Keep h0 h [o1]) ∧ (Arv Z h o1 kb .byte (34 : Int32) [(.int x0), (.int x1), (.int x2), (.int x3), (.int x4), (.int x5), (.int x6), (.int x7), (.int x8), (.int x9), (.int y0), (.int y1), (.int y2), (.int y3), (.int y4), (.int y5), (.int y6), (.int (0 : Int32)), (.int (0 : Int32)), (.int (0 : Int32)), (.int (0 : Int32)), (.int (0 : Int32)), (.int (0 : Int32)), (.int (0 : Int32)), (.int (0 : Int32)), (.int (0 : Int32)), (.int (0 : Int32)), (.int (0 : Int32)), (.int (0 : Int32)), (.int (0 : Int32)), (.int (0 : Int32)), (.int (0 : Int32)), (.int (0 : Int32)), (.int (0 : Int32))] (.int (0 : Int32)))
set_option maxRecDepth 65536 in
set_option maxHeartbeats 40000000 in
theorem rmgbB (l : Launch) (Z : State) (a0 : Array Value) (hw : ∀ d ∈ tables_1, d.before a0 Z = true) (ws : List Jvm.Cond) (o0 : Addr) (o1 : Addr) (kb : ClassId) (tt : Addr) (kt : ClassId) (cs : Int32) (x0 : Int32) (x1 : Int32) (x2 : Int32) (x3 : Int32) (x4 : Int32) (x5 : Int32) (x6 : Int32) (x7 : Int32) (x8 : Int32) (x9 : Int32) (y0 : Int32) (y1 : Int32) (y2 : Int32) (y3 : Int32) (y4 : Int32) (y5 : Int32) (y6 : Int32) (h0 : Heap) (n0 : Nat) (Z0 : n0 ≤ h0.size) (E_o0 : Exa Z h0 o0 "java/lang/String") (F_value_o0 : Fld Z h0 o0 "java/lang/String" "value" "[B" (.ref tt)) (F_coder_o0 : Fld Z h0 o0 "java/lang/String" "coder" "B" (.int (0 : Int32))) (A_tt : Arv Z h0 tt kt .byte (7 : Int32) [(.int y0), (.int y1), (.int y2), (.int y3), (.int y4), (.int y5), (.int y6)] (.int (0 : Int32))) (A_o1 : Arv Z h0 o1 kb .byte (34 : Int32) [(.int x0), (.int x1), (.int x2), (.int x3), (.int x4), (.int x5), (.int x6), (.int x7), (.int x8), (.int x9), (.int (0 : Int32)), (.int (0 : Int32)), (.int (0 : Int32)), (.int (0 : Int32)), (.int (0 : Int32)), (.int (0 : Int32)), (.int (0 : Int32)), (.int (0 : Int32)), (.int (0 : Int32)), (.int (0 : Int32)), (.int (0 : Int32)), (.int (0 : Int32)), (.int (0 : Int32)), (.int (0 : Int32)), (.int (0 : Int32)), (.int (0 : Int32)), (.int (0 : Int32)), (.int (0 : Int32)), (.int (0 : Int32)), (.int (0 : Int32)), (.int (0 : Int32)), (.int (0 : Int32)), (.int (0 : Int32)), (.int (0 : Int32))] (.int (0 : Int32))) (g_o1 : n0 ≤ o1) (ne_o1_tt : o1 ≠ tt) (ne_o1_o0 : o1 ≠ o0) (S_COMPACT_STRINGS : Sta Z h0 "java/lang/String" "COMPACT_STRINGS" "Z" (.int cs)) (hcs : ¬ cs = (0 : Int32)) :
    MetFree l (⟨"java/lang/String", "getBytes", "([BIB)V"⟩ : MethodName) (head1 (Jvm.Cond.code (⟨"java/lang/String", "getBytes", "([BIB)V"⟩ : MethodName) jdk_42_method_147_code 4 none :: ws) ({ frames := 1, cells := 0, slots := 0, locals := 24 } : Room)) (fun a U => a = #[(.ref o0), (.ref o1), (.int (10 : Int32)), (.int (0 : Int32))] ∧ Z.Warmed39 U.vm ∧ U.heap = h0) (fun _ _ _ _ _ => True) (fun _ U o U' => ∃ v L, o = .returned v ∧ QgbB Z o0 o1 kb tt kt cs x0 x1 x2 x3 x4 x5 x6 x7 x8 x9 y0 y1 y2 y3 y4 y5 y6 h0 n0 v U'.heap L ∧ FrameEnd U o U' L ({ frames := 1, cells := 0, slots := 0, locals := 24 } : Room).cells ({ frames := 1, cells := 0, slots := 0, locals := 24 } : Room).slots) := by
  refine MetFree.of_bodySF (plainFor_of_name pn_0) hisR ?_
  intro p e s m args below meth c s₁ Bd hml0 hP hK
  obtain ⟨rfl, hZ, hh⟩ := hP
  have hx := Bd.exec
  have hby := Bd.bytes
  have hml : c.maxLocals = 4 := hml0
  have hown : s.vm.findClass "java/lang/String" = some m.cls := findClass_of_methodNamed Bd.named
  have hnm := (name_of_methodNamed Bd.named Bd.method).1
  have X0 : Stand p l e ({ frames := 1, cells := 0, slots := 0, locals := 24 } : Room) s m #[(.ref o0), (.ref o1), (.int (10 : Int32)), (.int (0 : Int32))] below meth c s₁ [] 0 0 := Stand.of_body Bd
  have e0 : s₁.heap = h0 := by rw [← hh, Bd.state]; rfl
  have N0 := Fr.nil n0
  refine Ends.opn ?_
  intro QQ hQQ
  refine Ends.step (S' := s₁.setTop (mkF m 0 #[.val (.ref o0), .val (.ref o1), .val (.int (10 : Int32)), .val (.int (0 : Int32))] [])) (fun t k => castTop (ef_gbB m o0 o1) k) ?_
  show Ends p e below QQ (s₁.setTop (mkF m 0 #[.val (.ref o0), .val (.ref o1), .val (.int (10 : Int32)), .val (.int (0 : Int32))] []))
  refine Ends.step (fun _ k => XS.aloadN X0.here hx rfl (hb hby d16_0) rfl rfl k) ?_
  show Ends p e below QQ (s₁.setTop (mkF m 1 #[.val (.ref o0), .val (.ref o1), .val (.int (10 : Int32)), .val (.int (0 : Int32))] [(.ref o0)]))
  obtain ⟨cq67, kq67, q67a, q67b, q67c⟩ := isOf hZ e0 E_o0
  obtain ⟨_, _, ⟨T67, L67, k67, n67⟩, -, X67, ⟨Lc67, hQ67, l67, y67, z67⟩, st67⟩ := X0.virtualBack hx (y := (⟨"java/lang/String", "coder", "()B"⟩ : MethodName)) (z := (⟨"java/lang/String", "coder", "()B"⟩ : MethodName)) hown (mvT hZ (hw _ (List.mem_of_getElem? (i := 72) rfl))) (mvT hZ (hw _ (List.mem_of_getElem? (i := 73) rfl))) (notFace_of_selects (args := #[]) (mvT hZ (hw _ (List.mem_of_getElem? (i := 75) rfl)))) (mvT hZ (hw _ (List.mem_of_getElem? (i := 75) rfl))) (mvT hZ (hw _ (List.mem_of_getElem? (i := 74) rfl))) (by decide) (backOf (W := 0) (rmcod l Z a0 hw [] o0 cs h0 n0 (Nat.le_trans Z0 (Keep.refl h0 [o1]).1) S_COMPACT_STRINGS hcs F_coder_o0) hZ (hw _ (List.mem_of_getElem? (i := 76) rfl)) (hw _ (List.mem_of_getElem? (i := 44) rfl)) (by decide) (by decide)) q67a q67c (g := (mkF m 1 #[.val (.ref o0), .val (.ref o1), .val (.int (10 : Int32)), .val (.int (0 : Int32))] [(.ref o0)])) rfl (by rw [hml]; rfl) (Steps.refl _) (argsL := []) (rest := []) (lenOf pd_0 rfl) rfl (by show 2 * 0 + _ ≤ _; exact Nat.le_of_eq rfl) (hb hby d16_1) (fun _ _ => ⟨rfl, e0, (by decide : 0 + 0 ≤ _), (by decide : 0 + 0 ≤ _)⟩)
  dsimp only [Pt.U, Pt.locs, Pt.cells, Pt.slots] at X67 l67 y67 z67 st67 hQ67
  subst l67 y67 z67
  obtain ⟨rfl, Nq67, hh67⟩ := hQ67
  have N67 := Fr.app N0 Nq67
  refine Ends.step (fun _ k => st67.trans k) ?_
  show Ends p e below QQ (T67.setTop (mkF m 4 #[.val (.ref o0), .val (.ref o1), .val (.int (10 : Int32)), .val (.int (0 : Int32))] [(.int (0 : Int32))]))
  refine Ends.step (fun _ k => XS.iloadN X67.here hx rfl (hb hby d16_4) rfl k) ?_
  show Ends p e below QQ (T67.setTop (mkF m 5 #[.val (.ref o0), .val (.ref o1), .val (.int (10 : Int32)), .val (.int (0 : Int32))] [(.int (0 : Int32)), (.int (0 : Int32))]))
  refine Ends.step (fun _ k => XS.icmpNo X67.here hx rfl (hb hby d16_5) rfl (XT.ii_ne_f (by decide)) k) ?_
  show Ends p e below QQ (T67.setTop (mkF m 8 #[.val (.ref o0), .val (.ref o1), .val (.int (10 : Int32)), .val (.int (0 : Int32))] []))
  refine Ends.step (fun _ k => XS.aloadN X67.here hx rfl (hb hby d16_8) rfl rfl k) ?_
  show Ends p e below QQ (T67.setTop (mkF m 9 #[.val (.ref o0), .val (.ref o1), .val (.int (10 : Int32)), .val (.int (0 : Int32))] [(.ref o0)]))
  obtain ⟨T68, X68, e68, st68⟩ := getF X67 hx hZ hown (host := "") (Or.inl (hw _ (List.mem_of_getElem? (i := 71) rfl))) Via.refl hh67 F_value_o0 (g := (mkF m 9 #[.val (.ref o0), .val (.ref o1), .val (.int (10 : Int32)), .val (.int (0 : Int32))] [(.ref o0)])) rfl rfl (hb hby d16_9)
  refine Ends.step st68 ?_
  show Ends p e below QQ (T68.setTop (mkF m 12 #[.val (.ref o0), .val (.ref o1), .val (.int (10 : Int32)), .val (.int (0 : Int32))] [(.ref tt)]))
  refine Ends.step (fun _ k => XT.iconstV X68.here hx rfl (0 : Int32) (hb hby d16_12) rfl k) ?_
  show Ends p e below QQ (T68.setTop (mkF m 13 #[.val (.ref o0), .val (.ref o1), .val (.int (10 : Int32)), .val (.int (0 : Int32))] [(.int (0 : Int32)), (.ref tt)]))
  refine Ends.step (fun _ k => XS.aloadN X68.here hx rfl (hb hby d16_13) rfl rfl k) ?_
  show Ends p e below QQ (T68.setTop (mkF m 14 #[.val (.ref o0), .val (.ref o1), .val (.int (10 : Int32)), .val (.int (0 : Int32))] [(.ref o1), (.int (0 : Int32)), (.ref tt)]))
  refine Ends.step (fun _ k => XS.iloadN X68.here hx rfl (hb hby d16_14) rfl k) ?_
  show Ends p e below QQ (T68.setTop (mkF m 15 #[.val (.ref o0), .val (.ref o1), .val (.int (10 : Int32)), .val (.int (0 : Int32))] [(.int (10 : Int32)), (.ref o1), (.int (0 : Int32)), (.ref tt)]))
  refine Ends.step (fun _ k => XS.iloadN X68.here hx rfl (hb hby d16_15) rfl k) ?_
  show Ends p e below QQ (T68.setTop (mkF m 16 #[.val (.ref o0), .val (.ref o1), .val (.int (10 : Int32)), .val (.int (0 : Int32))] [(.int (0 : Int32)), (.int (10 : Int32)), (.ref o1), (.int (0 : Int32)), (.ref tt)]))
  refine Ends.step (fun _ k => XS.ishl X68.here hx rfl (hb hby d16_16) rfl k) ?_
  show Ends p e below QQ (T68.setTop (mkF m 17 #[.val (.ref o0), .val (.ref o1), .val (.int (10 : Int32)), .val (.int (0 : Int32))] [(.int (10 : Int32)), (.ref o1), (.int (0 : Int32)), (.ref tt)]))
  refine Ends.step (fun _ k => XS.aloadN X68.here hx rfl (hb hby d16_17) rfl rfl k) ?_
  show Ends p e below QQ (T68.setTop (mkF m 18 #[.val (.ref o0), .val (.ref o1), .val (.int (10 : Int32)), .val (.int (0 : Int32))] [(.ref o0), (.int (10 : Int32)), (.ref o1), (.int (0 : Int32)), (.ref tt)]))
  obtain ⟨T69, X69, e69, st69⟩ := getF X68 hx hZ hown (host := "") (Or.inl (hw _ (List.mem_of_getElem? (i := 71) rfl))) Via.refl e68 F_value_o0 (g := (mkF m 18 #[.val (.ref o0), .val (.ref o1), .val (.int (10 : Int32)), .val (.int (0 : Int32))] [(.ref o0), (.int (10 : Int32)), (.ref o1), (.int (0 : Int32)), (.ref tt)])) rfl rfl (hb hby d16_18)
  refine Ends.step st69 ?_
  show Ends p e below QQ (T69.setTop (mkF m 21 #[.val (.ref o0), .val (.ref o1), .val (.int (10 : Int32)), .val (.int (0 : Int32))] [(.ref tt), (.int (10 : Int32)), (.ref o1), (.int (0 : Int32)), (.ref tt)]))
  obtain ⟨cl70, Ar70, -, S70, P70, -, -⟩ := id A_tt
  refine Ends.step (S' := T69.setTop (mkF m 22 #[.val (.ref o0), .val (.ref o1), .val (.int (10 : Int32)), .val (.int (0 : Int32))] [(.int (7 : Int32)), (.int (10 : Int32)), (.ref o1), (.int (0 : Int32)), (.ref tt)])) (fun _ k => X69.arraylength hx (by rw [e69]; exact Ar70.1) (State.isArrayOf_alike hZ.alike Ar70.2.1) (g := (mkF m 21 #[.val (.ref o0), .val (.ref o1), .val (.int (10 : Int32)), .val (.int (0 : Int32))] [(.ref tt), (.int (10 : Int32)), (.ref o1), (.int (0 : Int32)), (.ref tt)])) rfl rfl (hb hby d16_21) _ (by rw [len_of S70 P70]; exact k)) ?_
  show Ends p e below QQ (T69.setTop (mkF m 22 #[.val (.ref o0), .val (.ref o1), .val (.int (10 : Int32)), .val (.int (0 : Int32))] [(.int (7 : Int32)), (.int (10 : Int32)), (.ref o1), (.int (0 : Int32)), (.ref tt)]))
  obtain ⟨T71, h71, L71, X71, e71, N71, Kq71, AA71, st71⟩ := cpA X69 hx hZ hown (hw _ (List.mem_of_getElem? (i := 102) rfl)) (hw _ (List.mem_of_getElem? (i := 105) rfl)) (hw _ (List.mem_of_getElem? (i := 103) rfl)) (hw _ (List.mem_of_getElem? (i := 104) rfl)) e69 A_tt A_o1 (Or.inl ⟨rfl, rfl⟩) (by decide) (by decide) (by decide) (by decide) (by decide) (us := [(.int y0), (.int y1), (.int y2), (.int y3), (.int y4), (.int y5), (.int y6)]) (by rfl) (Nat.le_of_ble_eq_true rfl) N67 g_o1 (g := (mkF m 22 #[.val (.ref o0), .val (.ref o1), .val (.int (10 : Int32)), .val (.int (0 : Int32))] [(.int (7 : Int32)), (.int (10 : Int32)), (.ref o1), (.int (0 : Int32)), (.ref tt)])) rfl (by rw [hml]; rfl) rfl (hb hby d16_22) (by decide) (W := 0) (by show 2 * 0 + _ ≤ _; exact Nat.le_of_eq rfl) (by decide)
  have S_COMPACT_STRINGS := own_sta_keep S_COMPACT_STRINGS Kq71 (allS (own_arv_cell A_o1) all0)
  have E_o0 := E_o0.keep Kq71
  have F_value_o0 := F_value_o0.keep Kq71 (ninS (Ne.symm ne_o1_o0) nin0)
  have F_coder_o0 := F_coder_o0.keep Kq71 (ninS (Ne.symm ne_o1_o0) nin0)
  have A_tt := A_tt.keep Kq71 (ninS (Ne.symm ne_o1_tt) nin0)
  have A_o1 : Arv Z h71 o1 kb .byte (34 : Int32) [(.int x0), (.int x1), (.int x2), (.int x3), (.int x4), (.int x5), (.int x6), (.int x7), (.int x8), (.int x9), (.int y0), (.int y1), (.int y2), (.int y3), (.int y4), (.int y5), (.int y6), (.int (0 : Int32)), (.int (0 : Int32)), (.int (0 : Int32)), (.int (0 : Int32)), (.int (0 : Int32)), (.int (0 : Int32)), (.int (0 : Int32)), (.int (0 : Int32)), (.int (0 : Int32)), (.int (0 : Int32)), (.int (0 : Int32)), (.int (0 : Int32)), (.int (0 : Int32)), (.int (0 : Int32)), (.int (0 : Int32)), (.int (0 : Int32)), (.int (0 : Int32))] (.int (0 : Int32)) := AA71
  have K71 := (Keep.refl h0 [o1]).trans Kq71 (allS (Or.inl (List.mem_of_getElem? (i := 0) rfl)) all0)
  refine Ends.step st71 ?_
  show Ends p e below QQ (T71.setTop (mkF m 25 #[.val (.ref o0), .val (.ref o1), .val (.int (10 : Int32)), .val (.int (0 : Int32))] []))
  refine Ends.step (fun _ k => XS.goto X71.here hx rfl (pc0 := 25) (pc' := 43) rfl (hb hby d16_25) (by decide) (by decide) k) ?_
  show Ends p e below QQ (T71.setTop (mkF m 43 #[.val (.ref o0), .val (.ref o1), .val (.int (10 : Int32)), .val (.int (0 : Int32))] []))
  exact Ends.fin (none) X71 hQQ (fun _ => rfl) Bd.notSynchronized (fun _ hr => X71.returnOut hx Bd.returns (hb hby d16_43) hr) e71 (by decide) (by decide) ⟨rfl, N71, K71, A_o1⟩
theorem ef_psB (m : MethodId) (x0 : Addr) (x2 : Addr) : entryFrame m #[(.ref x0), (.int (10 : Int32)), (.ref x2)] 3 = mkF m 0 #[.val (.ref x0), .val (.int (10 : Int32)), .val (.ref x2)] [] := by first | (simp [entryFrame, mkF, argsToLocals, Value.category]; done) | rfl
def QpsB (Z : State) (o0 : Addr) (o2 : Addr) (vb : Addr) (kb : ClassId) (tt : Addr) (kt : ClassId) (cs : Int32) (x0 : Int32) (x1 : Int32) (x2 : Int32) (x3 : Int32) (x4 : Int32) (x5 : Int32) (x6 : Int32) (x7 : Int32) (x8 : Int32) (x9 : Int32) (y0 : Int32) (y1 : Int32) (y2 : Int32) (y3 : Int32) (y4 : Int32) (y5 : Int32) (y6 : Int32) (h0 : Heap) (n0 : Nat) (v : Option Value) (h : Heap) (L : List Loc) : Prop := (v = none) ∧ (Fr n0 L) ∧ (Keep h0 h [vb]) ∧ (Arv Z h vb kb .byte (34 : Int32) [(.int x0), (.int x1), (.int x2), (.int x3), (.int x4), (.int x5), (.int x6), (.int x7), (.int x8), (.int x9), (.int y0), (.int y1), (.int y2), (.int y3), (.int y4), (.int y5), (.int y6), (.int (0 : Int32)), (.int (0 : Int32)), (.int (0 : Int32)), (.int (0 : Int32)), (.int (0 : Int32)), (.int (0 : Int32)), (.int (0 : Int32)), (.int (0 : Int32)), (.int (0 : Int32)), (.int (0 : Int32)), (.int (0 : Int32)), (.int (0 : Int32)), (.int (0 : Int32)), (.int (0 : Int32)), (.int (0 : Int32)), (.int (0 : Int32)), (.int (0 : Int32))] (.int (0 : Int32)))
set_option maxRecDepth 65536 in
set_option maxHeartbeats 40000000 in
theorem rmpsB (l : Launch) (Z : State) (a0 : Array Value) (hw : ∀ d ∈ tables_1, d.before a0 Z = true) (ws : List Jvm.Cond) (o0 : Addr) (o2 : Addr) (vb : Addr) (kb : ClassId) (tt : Addr) (kt : ClassId) (cs : Int32) (x0 : Int32) (x1 : Int32) (x2 : Int32) (x3 : Int32) (x4 : Int32) (x5 : Int32) (x6 : Int32) (x7 : Int32) (x8 : Int32) (x9 : Int32) (y0 : Int32) (y1 : Int32) (y2 : Int32) (y3 : Int32) (y4 : Int32) (y5 : Int32) (y6 : Int32) (h0 : Heap) (n0 : Nat) (Z0 : n0 ≤ h0.size) (E_o0 : Exa Z h0 o0 "java/lang/StringBuilder") (F_value_o0 : Fld Z h0 o0 "java/lang/AbstractStringBuilder" "value" "[B" (.ref vb)) (F_coder_o0 : Fld Z h0 o0 "java/lang/AbstractStringBuilder" "coder" "B" (.int (0 : Int32))) (F_count_o0 : Fld Z h0 o0 "java/lang/AbstractStringBuilder" "count" "I" (.int (10 : Int32))) (E_vb : Exa Z h0 vb "[B") (A_vb : Arv Z h0 vb kb .byte (34 : Int32) [(.int x0), (.int x1), (.int x2), (.int x3), (.int x4), (.int x5), (.int x6), (.int x7), (.int x8), (.int x9), (.int (0 : Int32)), (.int (0 : Int32)), (.int (0 : Int32)), (.int (0 : Int32)), (.int (0 : Int32)), (.int (0 : Int32)), (.int (0 : Int32)), (.int (0 : Int32)), (.int (0 : Int32)), (.int (0 : Int32)), (.int (0 : Int32)), (.int (0 : Int32)), (.int (0 : Int32)), (.int (0 : Int32)), (.int (0 : Int32)), (.int (0 : Int32)), (.int (0 : Int32)), (.int (0 : Int32)), (.int (0 : Int32)), (.int (0 : Int32)), (.int (0 : Int32)), (.int (0 : Int32)), (.int (0 : Int32)), (.int (0 : Int32))] (.int (0 : Int32))) (g_o0 : n0 ≤ o0) (g_vb : n0 ≤ vb) (ne_o0_vb : o0 ≠ vb) (E_o2 : Exa Z h0 o2 "java/lang/String") (F_value_o2 : Fld Z h0 o2 "java/lang/String" "value" "[B" (.ref tt)) (F_coder_o2 : Fld Z h0 o2 "java/lang/String" "coder" "B" (.int (0 : Int32))) (A_tt : Arv Z h0 tt kt .byte (7 : Int32) [(.int y0), (.int y1), (.int y2), (.int y3), (.int y4), (.int y5), (.int y6)] (.int (0 : Int32))) (ne_vb_tt : vb ≠ tt) (ne_vb_o2 : vb ≠ o2) (S_COMPACT_STRINGS : Sta Z h0 "java/lang/String" "COMPACT_STRINGS" "Z" (.int cs)) (hcs : ¬ cs = (0 : Int32)) :
    MetFree l (⟨"java/lang/AbstractStringBuilder", "putStringAt", "(ILjava/lang/String;)V"⟩ : MethodName) (head1 (Jvm.Cond.code (⟨"java/lang/AbstractStringBuilder", "putStringAt", "(ILjava/lang/String;)V"⟩ : MethodName) jdk_68_method_73_code 3 none :: ws) ({ frames := 2, cells := 0, slots := 0, locals := 39 } : Room)) (fun a U => a = #[(.ref o0), (.int (10 : Int32)), (.ref o2)] ∧ Z.Warmed39 U.vm ∧ U.heap = h0) (fun _ _ _ _ _ => True) (fun _ U o U' => ∃ v L, o = .returned v ∧ QpsB Z o0 o2 vb kb tt kt cs x0 x1 x2 x3 x4 x5 x6 x7 x8 x9 y0 y1 y2 y3 y4 y5 y6 h0 n0 v U'.heap L ∧ FrameEnd U o U' L ({ frames := 2, cells := 0, slots := 0, locals := 39 } : Room).cells ({ frames := 2, cells := 0, slots := 0, locals := 39 } : Room).slots) := by
  refine MetFree.of_bodySF (plainFor_of_name pn_3) hisR ?_
  intro p e s m args below meth c s₁ Bd hml0 hP hK
  obtain ⟨rfl, hZ, hh⟩ := hP
  have hx := Bd.exec
  have hby := Bd.bytes
  have hml : c.maxLocals = 3 := hml0
  have hown : s.vm.findClass "java/lang/AbstractStringBuilder" = some m.cls := findClass_of_methodNamed Bd.named
  have hnm := (name_of_methodNamed Bd.named Bd.method).1
  have X0 : Stand p l e ({ frames := 2, cells := 0, slots := 0, locals := 39 } : Room) s m #[(.ref o0), (.int (10 : Int32)), (.ref o2)] below meth c s₁ [] 0 0 := Stand.of_body Bd
  have e0 : s₁.heap = h0 := by rw [← hh, Bd.state]; rfl
  have N0 := Fr.nil n0
  refine Ends.opn ?_
  intro QQ hQQ
  refine Ends.step (S' := s₁.setTop (mkF m 0 #[.val (.ref o0), .val (.int (10 : Int32)), .val (.ref o2)] [])) (fun t k => castTop (ef_psB m o0 o2) k) ?_
  show Ends p e below QQ (s₁.setTop (mkF m 0 #[.val (.ref o0), .val (.int (10 : Int32)), .val (.ref o2)] []))
  refine Ends.step (fun _ k => XS.aloadN X0.here hx rfl (hb hby d14_0) rfl rfl k) ?_
  show Ends p e below QQ (s₁.setTop (mkF m 1 #[.val (.ref o0), .val (.int (10 : Int32)), .val (.ref o2)] [(.ref o0)]))
  refine Ends.step (fun _ k => XS.aloadN X0.here hx rfl (hb hby d14_1) rfl rfl k) ?_
  show Ends p e below QQ (s₁.setTop (mkF m 2 #[.val (.ref o0), .val (.int (10 : Int32)), .val (.ref o2)] [(.ref o2), (.ref o0)]))
  obtain ⟨cq72, q72, q72'⟩ := E_o0.cell
  obtain ⟨_, _, ⟨T72, L72, k72, n72⟩, -, X72, ⟨Lc72, hQ72, l72, y72, z72⟩, st72⟩ := X0.privateBack hx (y := (⟨"java/lang/AbstractStringBuilder", "inflateIfNeededFor", "(Ljava/lang/String;)V"⟩ : MethodName)) hown (mvT hZ (hw _ (List.mem_of_getElem? (i := 91) rfl))) (mvT hZ (hw _ (List.mem_of_getElem? (i := 92) rfl))) (mvT hZ (own_selq (y := (⟨"java/lang/AbstractStringBuilder", "inflateIfNeededFor", "(Ljava/lang/String;)V"⟩ : MethodName)) (hw _ (List.mem_of_getElem? (i := 84) rfl)) rfl (hw _ (List.mem_of_getElem? (i := 93) rfl)) (hw _ (List.mem_of_getElem? (i := 92) rfl)) (by decide))) (Cond.privateMethod_at (mvP hZ (hw _ (List.mem_of_getElem? (i := 93) rfl)) (args := #[]))) (mvT hZ (hw _ (List.mem_of_getElem? (i := 95) rfl))) (by decide) (backOf (W := 0) (rminf l Z a0 hw [] o0 o2 cs h0 n0 (Nat.le_trans Z0 (Keep.refl h0 [vb]).1) S_COMPACT_STRINGS hcs F_coder_o0 E_o2 F_coder_o2) hZ (hw _ (List.mem_of_getElem? (i := 95) rfl)) (hw _ (List.mem_of_getElem? (i := 40) rfl)) (by decide) (by decide)) (g := (mkF m 2 #[.val (.ref o0), .val (.int (10 : Int32)), .val (.ref o2)] [(.ref o2), (.ref o0)])) rfl (by rw [hml]; rfl) (Steps.refl _) (a := o0) (by rw [e0]; exact q72) q72' (argsL := [(.ref o2)]) (rest := []) (lenOf pd_6 rfl) rfl (by show 2 * 0 + _ ≤ _; exact Nat.le_of_eq rfl) (hb hby d14_2) (fun _ _ => ⟨rfl, e0, (by decide : 0 + 0 ≤ _), (by decide : 0 + 0 ≤ _)⟩)
  dsimp only [Pt.U, Pt.locs, Pt.cells, Pt.slots] at X72 l72 y72 z72 st72 hQ72
  subst l72 y72 z72
  obtain ⟨rfl, Nq72, hh72⟩ := hQ72
  have N72 := Fr.app N0 Nq72
  refine Ends.step (fun _ k => st72.trans k) ?_
  show Ends p e below QQ (T72.setTop (mkF m 5 #[.val (.ref o0), .val (.int (10 : Int32)), .val (.ref o2)] []))
  refine Ends.step (fun _ k => XS.aloadN X72.here hx rfl (hb hby d14_5) rfl rfl k) ?_
  show Ends p e below QQ (T72.setTop (mkF m 6 #[.val (.ref o0), .val (.int (10 : Int32)), .val (.ref o2)] [(.ref o2)]))
  refine Ends.step (fun _ k => XS.aloadN X72.here hx rfl (hb hby d14_6) rfl rfl k) ?_
  show Ends p e below QQ (T72.setTop (mkF m 7 #[.val (.ref o0), .val (.int (10 : Int32)), .val (.ref o2)] [(.ref o0), (.ref o2)]))
  obtain ⟨T73, X73, e73, st73⟩ := getF X72 hx hZ hown (host := "") (Or.inl (hw _ (List.mem_of_getElem? (i := 46) rfl))) Via.refl hh72 F_value_o0 (g := (mkF m 7 #[.val (.ref o0), .val (.int (10 : Int32)), .val (.ref o2)] [(.ref o0), (.ref o2)])) rfl rfl (hb hby d14_7)
  refine Ends.step st73 ?_
  show Ends p e below QQ (T73.setTop (mkF m 10 #[.val (.ref o0), .val (.int (10 : Int32)), .val (.ref o2)] [(.ref vb), (.ref o2)]))
  refine Ends.step (fun _ k => XS.iloadN X73.here hx rfl (hb hby d14_10) rfl k) ?_
  show Ends p e below QQ (T73.setTop (mkF m 11 #[.val (.ref o0), .val (.int (10 : Int32)), .val (.ref o2)] [(.int (10 : Int32)), (.ref vb), (.ref o2)]))
  refine Ends.step (fun _ k => XS.aloadN X73.here hx rfl (hb hby d14_11) rfl rfl k) ?_
  show Ends p e below QQ (T73.setTop (mkF m 12 #[.val (.ref o0), .val (.int (10 : Int32)), .val (.ref o2)] [(.ref o0), (.int (10 : Int32)), (.ref vb), (.ref o2)]))
  obtain ⟨T74, X74, e74, st74⟩ := getF X73 hx hZ hown (host := "") (Or.inl (hw _ (List.mem_of_getElem? (i := 48) rfl))) Via.refl e73 F_coder_o0 (g := (mkF m 12 #[.val (.ref o0), .val (.int (10 : Int32)), .val (.ref o2)] [(.ref o0), (.int (10 : Int32)), (.ref vb), (.ref o2)])) rfl rfl (hb hby d14_12)
  refine Ends.step st74 ?_
  show Ends p e below QQ (T74.setTop (mkF m 15 #[.val (.ref o0), .val (.int (10 : Int32)), .val (.ref o2)] [(.int (0 : Int32)), (.int (10 : Int32)), (.ref vb), (.ref o2)]))
  obtain ⟨cq75, kq75, q75a, q75b, q75c⟩ := isOf hZ e74 E_o2
  obtain ⟨_, _, ⟨T75, L75, k75, n75⟩, -, X75, ⟨Lc75, hQ75, l75, y75, z75⟩, st75⟩ := X74.virtualBack hx (y := (⟨"java/lang/String", "getBytes", "([BIB)V"⟩ : MethodName)) (z := (⟨"java/lang/String", "getBytes", "([BIB)V"⟩ : MethodName)) hown (mvT hZ (hw _ (List.mem_of_getElem? (i := 97) rfl))) (mvT hZ (hw _ (List.mem_of_getElem? (i := 98) rfl))) (notFace_of_selects (args := #[]) (mvT hZ (hw _ (List.mem_of_getElem? (i := 100) rfl)))) (mvT hZ (hw _ (List.mem_of_getElem? (i := 100) rfl))) (mvT hZ (hw _ (List.mem_of_getElem? (i := 99) rfl))) (by decide) (backOf (W := 0) (rmgbB l Z a0 hw [] o2 vb kb tt kt cs x0 x1 x2 x3 x4 x5 x6 x7 x8 x9 y0 y1 y2 y3 y4 y5 y6 h0 n0 (Nat.le_trans Z0 (Keep.refl h0 [vb]).1) E_o2 F_value_o2 F_coder_o2 A_tt A_vb g_vb ne_vb_tt ne_vb_o2 S_COMPACT_STRINGS hcs) hZ (hw _ (List.mem_of_getElem? (i := 101) rfl)) (hw _ (List.mem_of_getElem? (i := 44) rfl)) (by decide) (by decide)) q75a q75c (g := (mkF m 15 #[.val (.ref o0), .val (.int (10 : Int32)), .val (.ref o2)] [(.int (0 : Int32)), (.int (10 : Int32)), (.ref vb), (.ref o2)])) rfl (by rw [hml]; rfl) (Steps.refl _) (argsL := [(.ref vb), (.int (10 : Int32)), (.int (0 : Int32))]) (rest := []) (lenOf pd_7 rfl) rfl (by show 2 * 0 + _ ≤ _; exact Nat.le_of_eq rfl) (hb hby d14_15) (fun _ _ => ⟨rfl, e74, (by decide : 0 + 0 ≤ _), (by decide : 0 + 0 ≤ _)⟩)
  dsimp only [Pt.U, Pt.locs, Pt.cells, Pt.slots] at X75 l75 y75 z75 st75 hQ75
  subst l75 y75 z75
  obtain ⟨rfl, Nq75, Kq75, fq75_0⟩ := hQ75
  have N75 := Fr.app N72 Nq75
  have S_COMPACT_STRINGS := own_sta_keep S_COMPACT_STRINGS Kq75 (allS E_vb.cell all0)
  have E_o0 := E_o0.keep Kq75
  have F_value_o0 := F_value_o0.keep Kq75 (ninS ne_o0_vb nin0)
  have F_coder_o0 := F_coder_o0.keep Kq75 (ninS ne_o0_vb nin0)
  have F_count_o0 := F_count_o0.keep Kq75 (ninS ne_o0_vb nin0)
  have E_vb := E_vb.keep Kq75
  have E_o2 := E_o2.keep Kq75
  have F_value_o2 := F_value_o2.keep Kq75 (ninS (Ne.symm ne_vb_o2) nin0)
  have F_coder_o2 := F_coder_o2.keep Kq75 (ninS (Ne.symm ne_vb_o2) nin0)
  have A_tt := A_tt.keep Kq75 (ninS (Ne.symm ne_vb_tt) nin0)
  have A_vb := fq75_0
  have K75 := (Keep.refl h0 [vb]).trans Kq75 (allS (Or.inl (List.mem_of_getElem? (i := 0) rfl)) all0)
  refine Ends.step (fun _ k => st75.trans k) ?_
  show Ends p e below QQ (T75.setTop (mkF m 18 #[.val (.ref o0), .val (.int (10 : Int32)), .val (.ref o2)] []))
  exact Ends.fin (none) X75 hQQ (fun _ => rfl) Bd.notSynchronized (fun _ hr => X75.returnOut hx Bd.returns (hb hby d14_18) hr) rfl (by decide) (by decide) ⟨rfl, N75, K75, A_vb⟩
theorem ef_apsB (m : MethodId) (x0 : Addr) (x1 : Addr) : entryFrame m #[(.ref x0), (.ref x1)] 3 = mkF m 0 #[.val (.ref x0), .val (.ref x1), .unset] [] := by first | (simp [entryFrame, mkF, argsToLocals, Value.category]; done) | rfl
def QapsB (Z : State) (o0 : Addr) (o1 : Addr) (vb : Addr) (kb : ClassId) (tt : Addr) (kt : ClassId) (cs : Int32) (x0 : Int32) (x1 : Int32) (x2 : Int32) (x3 : Int32) (x4 : Int32) (x5 : Int32) (x6 : Int32) (x7 : Int32) (x8 : Int32) (x9 : Int32) (y0 : Int32) (y1 : Int32) (y2 : Int32) (y3 : Int32) (y4 : Int32) (y5 : Int32) (y6 : Int32) (h0 : Heap) (n0 : Nat) (v : Option Value) (h : Heap) (L : List Loc) : Prop := ∃ (b : Addr), ∃ (k2 : ClassId), (v = some (.ref o0)) ∧ (Fr n0 L) ∧ (Keep h0 h [o0]) ∧ (Exa Z h o0 "java/lang/StringBuilder") ∧ (Fld Z h o0 "java/lang/AbstractStringBuilder" "value" "[B" (.ref b)) ∧ (Fld Z h o0 "java/lang/AbstractStringBuilder" "coder" "B" (.int (0 : Int32))) ∧ (Fld Z h o0 "java/lang/AbstractStringBuilder" "count" "I" (.int (17 : Int32))) ∧ (Arv Z h b k2 .byte (34 : Int32) [(.int x0), (.int x1), (.int x2), (.int x3), (.int x4), (.int x5), (.int x6), (.int x7), (.int x8), (.int x9), (.int y0), (.int y1), (.int y2), (.int y3), (.int y4), (.int y5), (.int y6), (.int (0 : Int32)), (.int (0 : Int32)), (.int (0 : Int32)), (.int (0 : Int32)), (.int (0 : Int32)), (.int (0 : Int32)), (.int (0 : Int32)), (.int (0 : Int32)), (.int (0 : Int32)), (.int (0 : Int32)), (.int (0 : Int32)), (.int (0 : Int32)), (.int (0 : Int32)), (.int (0 : Int32)), (.int (0 : Int32)), (.int (0 : Int32)), (.int (0 : Int32))] (.int (0 : Int32))) ∧ (Exa Z h b "[B") ∧ (h0.size ≤ b) ∧ (n0 ≤ b)
set_option maxRecDepth 65536 in
set_option maxHeartbeats 40000000 in
theorem rmapsB (l : Launch) (Z : State) (a0 : Array Value) (hw : ∀ d ∈ tables_1, d.before a0 Z = true) (ws : List Jvm.Cond) (o0 : Addr) (o1 : Addr) (vb : Addr) (kb : ClassId) (tt : Addr) (kt : ClassId) (cs : Int32) (x0 : Int32) (x1 : Int32) (x2 : Int32) (x3 : Int32) (x4 : Int32) (x5 : Int32) (x6 : Int32) (x7 : Int32) (x8 : Int32) (x9 : Int32) (y0 : Int32) (y1 : Int32) (y2 : Int32) (y3 : Int32) (y4 : Int32) (y5 : Int32) (y6 : Int32) (h0 : Heap) (n0 : Nat) (Z0 : n0 ≤ h0.size) (E_o0 : Exa Z h0 o0 "java/lang/StringBuilder") (F_value_o0 : Fld Z h0 o0 "java/lang/AbstractStringBuilder" "value" "[B" (.ref vb)) (F_coder_o0 : Fld Z h0 o0 "java/lang/AbstractStringBuilder" "coder" "B" (.int (0 : Int32))) (F_count_o0 : Fld Z h0 o0 "java/lang/AbstractStringBuilder" "count" "I" (.int (10 : Int32))) (E_vb : Exa Z h0 vb "[B") (A_vb : Arv Z h0 vb kb .byte (16 : Int32) [(.int x0), (.int x1), (.int x2), (.int x3), (.int x4), (.int x5), (.int x6), (.int x7), (.int x8), (.int x9), (.int (0 : Int32)), (.int (0 : Int32)), (.int (0 : Int32)), (.int (0 : Int32)), (.int (0 : Int32)), (.int (0 : Int32))] (.int (0 : Int32))) (g_o0 : n0 ≤ o0) (g_vb : n0 ≤ vb) (ne_o0_vb : o0 ≠ vb) (E_o1 : Exa Z h0 o1 "java/lang/String") (F_value_o1 : Fld Z h0 o1 "java/lang/String" "value" "[B" (.ref tt)) (F_coder_o1 : Fld Z h0 o1 "java/lang/String" "coder" "B" (.int (0 : Int32))) (A_tt : Arv Z h0 tt kt .byte (7 : Int32) [(.int y0), (.int y1), (.int y2), (.int y3), (.int y4), (.int y5), (.int y6)] (.int (0 : Int32))) (ne_vb_tt : vb ≠ tt) (ne_o0_tt : o0 ≠ tt) (ne_o0_o1 : o0 ≠ o1) (ne_vb_o1 : vb ≠ o1) (S_COMPACT_STRINGS : Sta Z h0 "java/lang/String" "COMPACT_STRINGS" "Z" (.int cs)) (hcs : ¬ cs = (0 : Int32)) :
    MetFree l (⟨"java/lang/AbstractStringBuilder", "append", "(Ljava/lang/String;)Ljava/lang/AbstractStringBuilder;"⟩ : MethodName) (head1 (Jvm.Cond.code (⟨"java/lang/AbstractStringBuilder", "append", "(Ljava/lang/String;)Ljava/lang/AbstractStringBuilder;"⟩ : MethodName) jdk_68_method_22_code 3 (some (.object "java/lang/AbstractStringBuilder")) :: ws) ({ frames := 4, cells := 1, slots := 34, locals := 62 } : Room)) (fun a U => a = #[(.ref o0), (.ref o1)] ∧ Z.Warmed39 U.vm ∧ U.heap = h0) (fun _ _ _ _ _ => True) (fun _ U o U' => ∃ v L, o = .returned v ∧ QapsB Z o0 o1 vb kb tt kt cs x0 x1 x2 x3 x4 x5 x6 x7 x8 x9 y0 y1 y2 y3 y4 y5 y6 h0 n0 v U'.heap L ∧ FrameEnd U o U' L ({ frames := 4, cells := 1, slots := 34, locals := 62 } : Room).cells ({ frames := 4, cells := 1, slots := 34, locals := 62 } : Room).slots) := by
  refine MetFree.of_bodySF (plainFor_of_name pn_3) hisR ?_
  intro p e s m args below meth c s₁ Bd hml0 hP hK
  obtain ⟨rfl, hZ, hh⟩ := hP
  have hx := Bd.exec
  have hby := Bd.bytes
  have hml : c.maxLocals = 3 := hml0
  have hown : s.vm.findClass "java/lang/AbstractStringBuilder" = some m.cls := findClass_of_methodNamed Bd.named
  have hnm := (name_of_methodNamed Bd.named Bd.method).1
  have X0 : Stand p l e ({ frames := 4, cells := 1, slots := 34, locals := 62 } : Room) s m #[(.ref o0), (.ref o1)] below meth c s₁ [] 0 0 := Stand.of_body Bd
  have e0 : s₁.heap = h0 := by rw [← hh, Bd.state]; rfl
  have N0 := Fr.nil n0
  refine Ends.opn ?_
  intro QQ hQQ
  refine Ends.step (S' := s₁.setTop (mkF m 0 #[.val (.ref o0), .val (.ref o1), .unset] [])) (fun t k => castTop (ef_apsB m o0 o1) k) ?_
  show Ends p e below QQ (s₁.setTop (mkF m 0 #[.val (.ref o0), .val (.ref o1), .unset] []))
  refine Ends.step (fun _ k => XS.aloadN X0.here hx rfl (hb hby d10_0) rfl rfl k) ?_
  show Ends p e below QQ (s₁.setTop (mkF m 1 #[.val (.ref o0), .val (.ref o1), .unset] [(.ref o1)]))
  refine Ends.step (fun _ k => XT.ifnonnullYes X0.here hx rfl (pc0 := 1) (pc' := 9) rfl (hb hby d10_1) rfl (by decide) (by decide) k) ?_
  show Ends p e below QQ (s₁.setTop (mkF m 9 #[.val (.ref o0), .val (.ref o1), .unset] []))
  refine Ends.step (fun _ k => XS.aloadN X0.here hx rfl (hb hby d10_9) rfl rfl k) ?_
  show Ends p e below QQ (s₁.setTop (mkF m 10 #[.val (.ref o0), .val (.ref o1), .unset] [(.ref o1)]))
  obtain ⟨cq76, kq76, q76a, q76b, q76c⟩ := isOf hZ e0 E_o1
  obtain ⟨_, _, ⟨T76, L76, k76, n76⟩, -, X76, ⟨Lc76, hQ76, l76, y76, z76⟩, st76⟩ := X0.virtualBack hx (y := (⟨"java/lang/String", "length", "()I"⟩ : MethodName)) (z := (⟨"java/lang/String", "length", "()I"⟩ : MethodName)) hown (mvT hZ (hw _ (List.mem_of_getElem? (i := 66) rfl))) (mvT hZ (hw _ (List.mem_of_getElem? (i := 67) rfl))) (notFace_of_selects (args := #[]) (mvT hZ (hw _ (List.mem_of_getElem? (i := 69) rfl)))) (mvT hZ (hw _ (List.mem_of_getElem? (i := 69) rfl))) (mvT hZ (hw _ (List.mem_of_getElem? (i := 68) rfl))) (by decide) (backOf (W := 0) (rmlen l Z a0 hw [] o1 tt kt (7 : Int32) [(.int y0), (.int y1), (.int y2), (.int y3), (.int y4), (.int y5), (.int y6)] cs h0 n0 (Nat.le_trans Z0 (Keep.refl h0 [o0]).1) E_o1 F_value_o1 A_tt S_COMPACT_STRINGS hcs F_coder_o1) hZ (hw _ (List.mem_of_getElem? (i := 70) rfl)) (hw _ (List.mem_of_getElem? (i := 44) rfl)) (by decide) (by decide)) q76a q76c (g := (mkF m 10 #[.val (.ref o0), .val (.ref o1), .unset] [(.ref o1)])) rfl (by rw [hml]; rfl) (Steps.refl _) (argsL := []) (rest := []) (lenOf pd_8 rfl) rfl (by show 2 * 0 + _ ≤ _; exact Nat.le_of_eq rfl) (hb hby d10_10) (fun _ _ => ⟨rfl, e0, (by decide : 0 + 0 ≤ _), (by decide : 0 + 0 ≤ _)⟩)
  dsimp only [Pt.U, Pt.locs, Pt.cells, Pt.slots] at X76 l76 y76 z76 st76 hQ76
  subst l76 y76 z76
  obtain ⟨rfl, Nq76, hh76⟩ := hQ76
  have N76 := Fr.app N0 Nq76
  refine Ends.step (fun _ k => st76.trans k) ?_
  show Ends p e below QQ (T76.setTop (mkF m 13 #[.val (.ref o0), .val (.ref o1), .unset] [(.int (7 : Int32))]))
  refine Ends.step (fun _ k => XS.istoreN X76.here hx rfl (hb hby d10_13) rfl (l' := #[.val (.ref o0), .val (.ref o1), .val (.int (7 : Int32))]) rfl k) ?_
  show Ends p e below QQ (T76.setTop (mkF m 14 #[.val (.ref o0), .val (.ref o1), .val (.int (7 : Int32))] []))
  refine Ends.step (fun _ k => XS.aloadN X76.here hx rfl (hb hby d10_14) rfl rfl k) ?_
  show Ends p e below QQ (T76.setTop (mkF m 15 #[.val (.ref o0), .val (.ref o1), .val (.int (7 : Int32))] [(.ref o0)]))
  refine Ends.step (fun _ k => XS.aloadN X76.here hx rfl (hb hby d10_15) rfl rfl k) ?_
  show Ends p e below QQ (T76.setTop (mkF m 16 #[.val (.ref o0), .val (.ref o1), .val (.int (7 : Int32))] [(.ref o0), (.ref o0)]))
  obtain ⟨T77, X77, e77, st77⟩ := getF X76 hx hZ hown (host := "") (Or.inl (hw _ (List.mem_of_getElem? (i := 79) rfl))) Via.refl hh76 F_count_o0 (g := (mkF m 16 #[.val (.ref o0), .val (.ref o1), .val (.int (7 : Int32))] [(.ref o0), (.ref o0)])) rfl rfl (hb hby d10_16)
  refine Ends.step st77 ?_
  show Ends p e below QQ (T77.setTop (mkF m 19 #[.val (.ref o0), .val (.ref o1), .val (.int (7 : Int32))] [(.int (10 : Int32)), (.ref o0)]))
  refine Ends.step (fun _ k => XS.iloadN X77.here hx rfl (hb hby d10_19) rfl k) ?_
  show Ends p e below QQ (T77.setTop (mkF m 20 #[.val (.ref o0), .val (.ref o1), .val (.int (7 : Int32))] [(.int (7 : Int32)), (.int (10 : Int32)), (.ref o0)]))
  refine Ends.step (fun _ k => XS.iadd X77.here hx rfl (hb hby d10_20) rfl k) ?_
  show Ends p e below QQ (T77.setTop (mkF m 21 #[.val (.ref o0), .val (.ref o1), .val (.int (7 : Int32))] [(.int (17 : Int32)), (.ref o0)]))
  obtain ⟨cq78, q78, q78'⟩ := E_o0.cell
  obtain ⟨_, _, ⟨T78, L78, k78, n78⟩, -, X78, ⟨Lc78, hQ78, l78, y78, z78⟩, st78⟩ := X77.privateBack hx (y := (⟨"java/lang/AbstractStringBuilder", "ensureCapacityInternal", "(I)V"⟩ : MethodName)) hown (mvT hZ (hw _ (List.mem_of_getElem? (i := 81) rfl))) (mvT hZ (hw _ (List.mem_of_getElem? (i := 82) rfl))) (mvT hZ (own_selq (y := (⟨"java/lang/AbstractStringBuilder", "ensureCapacityInternal", "(I)V"⟩ : MethodName)) (hw _ (List.mem_of_getElem? (i := 84) rfl)) rfl (hw _ (List.mem_of_getElem? (i := 83) rfl)) (hw _ (List.mem_of_getElem? (i := 82) rfl)) (by decide))) (Cond.privateMethod_at (mvP hZ (hw _ (List.mem_of_getElem? (i := 83) rfl)) (args := #[]))) (mvT hZ (hw _ (List.mem_of_getElem? (i := 85) rfl))) (by decide) (backOf (W := 0) (rmeng17 l Z a0 hw [] o0 vb kb x0 x1 x2 x3 x4 x5 x6 x7 x8 x9 h0 n0 (Nat.le_trans Z0 (Keep.refl h0 [o0]).1) E_o0 F_value_o0 F_coder_o0 F_count_o0 g_o0 A_vb ne_o0_vb) hZ (hw _ (List.mem_of_getElem? (i := 85) rfl)) (hw _ (List.mem_of_getElem? (i := 40) rfl)) (by decide) (by decide)) (g := (mkF m 21 #[.val (.ref o0), .val (.ref o1), .val (.int (7 : Int32))] [(.int (17 : Int32)), (.ref o0)])) rfl (by rw [hml]; rfl) (Steps.refl _) (a := o0) (by rw [e77]; exact q78) q78' (argsL := [(.int (17 : Int32))]) (rest := []) (lenOf pd_5 rfl) rfl (by show 2 * 0 + _ ≤ _; exact Nat.le_of_eq rfl) (hb hby d10_21) (fun _ _ => ⟨rfl, e77, (by decide : 0 + 1 ≤ _), (by decide : 0 + 34 ≤ _)⟩)
  dsimp only [Pt.U, Pt.locs, Pt.cells, Pt.slots] at X78 l78 y78 z78 st78 hQ78
  subst l78 y78 z78
  obtain ⟨b_78, k2_78, rfl, Nq78, Kq78, fq78_0, fq78_1, fq78_2, fq78_3, fq78_4, fq78_5, fq78_6, fq78_7⟩ := hQ78
  have N78 := Fr.app N76 Nq78
  have ne_o0_b_78 : o0 ≠ b_78 := Nat.ne_of_lt (Nat.lt_of_lt_of_le E_o0.lt fq78_0)
  have ne_vb_b_78 : vb ≠ b_78 := Nat.ne_of_lt (Nat.lt_of_lt_of_le E_vb.lt fq78_0)
  have ne_o1_b_78 : o1 ≠ b_78 := Nat.ne_of_lt (Nat.lt_of_lt_of_le E_o1.lt fq78_0)
  have ne_tt_b_78 : tt ≠ b_78 := Nat.ne_of_lt (Nat.lt_of_lt_of_le A_tt.lt fq78_0)
  have sz_b_78 := Nat.le_trans (Keep.refl h0 [o0]).1 fq78_0
  have S_COMPACT_STRINGS := own_sta_keep S_COMPACT_STRINGS Kq78 (allS E_o0.cell all0)
  have E_vb := E_vb.keep Kq78
  have A_vb := A_vb.keep Kq78 (ninS (Ne.symm ne_o0_vb) nin0)
  have E_o1 := E_o1.keep Kq78
  have F_value_o1 := F_value_o1.keep Kq78 (ninS (Ne.symm ne_o0_o1) nin0)
  have F_coder_o1 := F_coder_o1.keep Kq78 (ninS (Ne.symm ne_o0_o1) nin0)
  have A_tt := A_tt.keep Kq78 (ninS (Ne.symm ne_o0_tt) nin0)
  have g_b_78 := fq78_1
  have E_o0 := fq78_2
  have F_value_o0 := fq78_3
  have F_coder_o0 := fq78_4
  have F_count_o0 := fq78_5
  have E_b_78 := fq78_6
  have A_b_78 := fq78_7
  have K78 := (Keep.refl h0 [o0]).trans Kq78 (allS (Or.inl (List.mem_of_getElem? (i := 0) rfl)) all0)
  refine Ends.step (fun _ k => st78.trans k) ?_
  show Ends p e below QQ (T78.setTop (mkF m 24 #[.val (.ref o0), .val (.ref o1), .val (.int (7 : Int32))] []))
  refine Ends.step (fun _ k => XS.aloadN X78.here hx rfl (hb hby d10_24) rfl rfl k) ?_
  show Ends p e below QQ (T78.setTop (mkF m 25 #[.val (.ref o0), .val (.ref o1), .val (.int (7 : Int32))] [(.ref o0)]))
  refine Ends.step (fun _ k => XS.aloadN X78.here hx rfl (hb hby d10_25) rfl rfl k) ?_
  show Ends p e below QQ (T78.setTop (mkF m 26 #[.val (.ref o0), .val (.ref o1), .val (.int (7 : Int32))] [(.ref o0), (.ref o0)]))
  obtain ⟨T79, X79, e79, st79⟩ := getF X78 hx hZ hown (host := "") (Or.inl (hw _ (List.mem_of_getElem? (i := 79) rfl))) Via.refl rfl F_count_o0 (g := (mkF m 26 #[.val (.ref o0), .val (.ref o1), .val (.int (7 : Int32))] [(.ref o0), (.ref o0)])) rfl rfl (hb hby d10_26)
  refine Ends.step st79 ?_
  show Ends p e below QQ (T79.setTop (mkF m 29 #[.val (.ref o0), .val (.ref o1), .val (.int (7 : Int32))] [(.int (10 : Int32)), (.ref o0)]))
  refine Ends.step (fun _ k => XS.aloadN X79.here hx rfl (hb hby d10_29) rfl rfl k) ?_
  show Ends p e below QQ (T79.setTop (mkF m 30 #[.val (.ref o0), .val (.ref o1), .val (.int (7 : Int32))] [(.ref o1), (.int (10 : Int32)), (.ref o0)]))
  obtain ⟨cq80, q80, q80'⟩ := E_o0.cell
  obtain ⟨_, _, ⟨T80, L80, k80, n80⟩, -, X80, ⟨Lc80, hQ80, l80, y80, z80⟩, st80⟩ := X79.privateBack hx (y := (⟨"java/lang/AbstractStringBuilder", "putStringAt", "(ILjava/lang/String;)V"⟩ : MethodName)) hown (mvT hZ (hw _ (List.mem_of_getElem? (i := 86) rfl))) (mvT hZ (hw _ (List.mem_of_getElem? (i := 87) rfl))) (mvT hZ (own_selq (y := (⟨"java/lang/AbstractStringBuilder", "putStringAt", "(ILjava/lang/String;)V"⟩ : MethodName)) (hw _ (List.mem_of_getElem? (i := 84) rfl)) rfl (hw _ (List.mem_of_getElem? (i := 88) rfl)) (hw _ (List.mem_of_getElem? (i := 87) rfl)) (by decide))) (Cond.privateMethod_at (mvP hZ (hw _ (List.mem_of_getElem? (i := 88) rfl)) (args := #[]))) (mvT hZ (hw _ (List.mem_of_getElem? (i := 90) rfl))) (by decide) (backOf (W := 0) (rmpsB l Z a0 hw [] o0 o1 b_78 k2_78 tt kt cs x0 x1 x2 x3 x4 x5 x6 x7 x8 x9 y0 y1 y2 y3 y4 y5 y6 T78.heap n0 (Nat.le_trans Z0 K78.1) E_o0 F_value_o0 F_coder_o0 F_count_o0 E_b_78 A_b_78 g_o0 g_b_78 ne_o0_b_78 E_o1 F_value_o1 F_coder_o1 A_tt (Ne.symm ne_tt_b_78) (Ne.symm ne_o1_b_78) S_COMPACT_STRINGS hcs) hZ (hw _ (List.mem_of_getElem? (i := 90) rfl)) (hw _ (List.mem_of_getElem? (i := 40) rfl)) (by decide) (by decide)) (g := (mkF m 30 #[.val (.ref o0), .val (.ref o1), .val (.int (7 : Int32))] [(.ref o1), (.int (10 : Int32)), (.ref o0)])) rfl (by rw [hml]; rfl) (Steps.refl _) (a := o0) (by rw [e79]; exact q80) q80' (argsL := [(.int (10 : Int32)), (.ref o1)]) (rest := []) (lenOf pd_9 rfl) rfl (by show 2 * 0 + _ ≤ _; exact Nat.le_of_eq rfl) (hb hby d10_30) (fun _ _ => ⟨rfl, e79, (by decide : 1 + 0 ≤ _), (by decide : 34 + 0 ≤ _)⟩)
  dsimp only [Pt.U, Pt.locs, Pt.cells, Pt.slots] at X80 l80 y80 z80 st80 hQ80
  subst l80 y80 z80
  obtain ⟨rfl, Nq80, Kq80, fq80_0⟩ := hQ80
  have N80 := Fr.app N78 Nq80
  have S_COMPACT_STRINGS := own_sta_keep S_COMPACT_STRINGS Kq80 (allS E_b_78.cell all0)
  have E_o0 := E_o0.keep Kq80
  have F_value_o0 := F_value_o0.keep Kq80 (ninS ne_o0_b_78 nin0)
  have F_coder_o0 := F_coder_o0.keep Kq80 (ninS ne_o0_b_78 nin0)
  have F_count_o0 := F_count_o0.keep Kq80 (ninS ne_o0_b_78 nin0)
  have E_vb := E_vb.keep Kq80
  have A_vb := A_vb.keep Kq80 (ninS ne_vb_b_78 nin0)
  have E_o1 := E_o1.keep Kq80
  have F_value_o1 := F_value_o1.keep Kq80 (ninS ne_o1_b_78 nin0)
  have F_coder_o1 := F_coder_o1.keep Kq80 (ninS ne_o1_b_78 nin0)
  have A_tt := A_tt.keep Kq80 (ninS ne_tt_b_78 nin0)
  have E_b_78 := E_b_78.keep Kq80
  have A_b_78 := fq80_0
  have K80 := K78.trans Kq80 (allS (Or.inr sz_b_78) all0)
  refine Ends.step (fun _ k => st80.trans k) ?_
  show Ends p e below QQ (T80.setTop (mkF m 33 #[.val (.ref o0), .val (.ref o1), .val (.int (7 : Int32))] []))
  refine Ends.step (fun _ k => XS.aloadN X80.here hx rfl (hb hby d10_33) rfl rfl k) ?_
  show Ends p e below QQ (T80.setTop (mkF m 34 #[.val (.ref o0), .val (.ref o1), .val (.int (7 : Int32))] [(.ref o0)]))
  refine Ends.step (fun _ k => XS.dup X80.here hx rfl (hb hby d10_34) rfl rfl k) ?_
  show Ends p e below QQ (T80.setTop (mkF m 35 #[.val (.ref o0), .val (.ref o1), .val (.int (7 : Int32))] [(.ref o0), (.ref o0)]))
  obtain ⟨T81, X81, e81, st81⟩ := getF X80 hx hZ hown (host := "") (Or.inl (hw _ (List.mem_of_getElem? (i := 79) rfl))) Via.refl rfl F_count_o0 (g := (mkF m 35 #[.val (.ref o0), .val (.ref o1), .val (.int (7 : Int32))] [(.ref o0), (.ref o0)])) rfl rfl (hb hby d10_35)
  refine Ends.step st81 ?_
  show Ends p e below QQ (T81.setTop (mkF m 38 #[.val (.ref o0), .val (.ref o1), .val (.int (7 : Int32))] [(.int (10 : Int32)), (.ref o0)]))
  refine Ends.step (fun _ k => XS.iloadN X81.here hx rfl (hb hby d10_38) rfl k) ?_
  show Ends p e below QQ (T81.setTop (mkF m 39 #[.val (.ref o0), .val (.ref o1), .val (.int (7 : Int32))] [(.int (7 : Int32)), (.int (10 : Int32)), (.ref o0)]))
  refine Ends.step (fun _ k => XS.iadd X81.here hx rfl (hb hby d10_39) rfl k) ?_
  show Ends p e below QQ (T81.setTop (mkF m 40 #[.val (.ref o0), .val (.ref o1), .val (.int (7 : Int32))] [(.int (17 : Int32)), (.ref o0)]))
  obtain ⟨T82, h82, X82, e82, W82, st82⟩ := putF X81 hx hZ hown (host := "") (Or.inl (hw _ (List.mem_of_getElem? (i := 79) rfl))) Via.refl e81 F_count_o0 E_o0 (Or.inl (hw _ (List.mem_of_getElem? (i := 80) rfl))) (hw _ (List.mem_of_getElem? (i := 31) rfl)) (ty := .int) (by decide) rfl rfl (g := (mkF m 40 #[.val (.ref o0), .val (.ref o1), .val (.int (7 : Int32))] [(.int (17 : Int32)), (.ref o0)])) rfl rfl (hb hby d10_40)
  have E_o0 := E_o0.wr W82
  have F_value_o0 := F_value_o0.other W82 (Or.inr (slot_ne (Or.inl (hw _ (List.mem_of_getElem? (i := 47) rfl))) (Or.inl (hw _ (List.mem_of_getElem? (i := 80) rfl))) (by decide) (t := (.array .byte)) (t' := .int) (by decide) (by decide)))
  have F_coder_o0 := F_coder_o0.other W82 (Or.inr (slot_ne (Or.inl (hw _ (List.mem_of_getElem? (i := 49) rfl))) (Or.inl (hw _ (List.mem_of_getElem? (i := 80) rfl))) (by decide) (t := .byte) (t' := .int) (by decide) (by decide)))
  have E_vb := E_vb.wr W82
  have A_vb := A_vb.other W82 (Ne.symm ne_o0_vb)
  have E_o1 := E_o1.wr W82
  have F_value_o1 := F_value_o1.other W82 (Or.inl (Ne.symm ne_o0_o1))
  have F_coder_o1 := F_coder_o1.other W82 (Or.inl (Ne.symm ne_o0_o1))
  have A_tt := A_tt.other W82 (Ne.symm ne_o0_tt)
  have S_COMPACT_STRINGS := S_COMPACT_STRINGS.wr W82
  have E_b_78 := E_b_78.wr W82
  have A_b_78 := A_b_78.other W82 (Ne.symm ne_o0_b_78)
  have F_count_o0 : Fld Z h82 o0 "java/lang/AbstractStringBuilder" "count" "I" (.int (17 : Int32)) := F_count_o0.same W82
  have K82 := K80.wr W82 (Or.inl (List.mem_of_getElem? (i := 0) rfl))
  have N82 := Fr.snoc X82 N80 g_o0
  refine Ends.step st82 ?_
  show Ends p e below QQ (T82.setTop (mkF m 43 #[.val (.ref o0), .val (.ref o1), .val (.int (7 : Int32))] []))
  refine Ends.step (fun _ k => XS.aloadN X82.here hx rfl (hb hby d10_43) rfl rfl k) ?_
  show Ends p e below QQ (T82.setTop (mkF m 44 #[.val (.ref o0), .val (.ref o1), .val (.int (7 : Int32))] [(.ref o0)]))
  exact Ends.fin (some (.ref o0)) X82 hQQ (fun h => by rw [Bd.returns] at h; cases h) Bd.notSynchronized (fun _ hr => retOut X82 hx (t := (.object "java/lang/AbstractStringBuilder")) Bd.returns rfl (Or.inr (Or.inr (Or.inr (Or.inr ⟨rfl, rfl, rfl⟩)))) (hb hby d10_44) hr) e82 (by decide) (by decide) ⟨b_78, k2_78, rfl, N82, K82, E_o0, F_value_o0, F_coder_o0, F_count_o0, A_b_78, E_b_78, sz_b_78, g_b_78⟩
theorem ef_spsB (m : MethodId) (x0 : Addr) (x1 : Addr) : entryFrame m #[(.ref x0), (.ref x1)] 2 = mkF m 0 #[.val (.ref x0), .val (.ref x1)] [] := by first | (simp [entryFrame, mkF, argsToLocals, Value.category]; done) | rfl
def QspsB (Z : State) (o0 : Addr) (o1 : Addr) (vb : Addr) (kb : ClassId) (tt : Addr) (kt : ClassId) (cs : Int32) (x0 : Int32) (x1 : Int32) (x2 : Int32) (x3 : Int32) (x4 : Int32) (x5 : Int32) (x6 : Int32) (x7 : Int32) (x8 : Int32) (x9 : Int32) (y0 : Int32) (y1 : Int32) (y2 : Int32) (y3 : Int32) (y4 : Int32) (y5 : Int32) (y6 : Int32) (h0 : Heap) (n0 : Nat) (v : Option Value) (h : Heap) (L : List Loc) : Prop := ∃ (b : Addr), ∃ (k2 : ClassId), (v = some (.ref o0)) ∧ (Fr n0 L) ∧ (Keep h0 h [o0]) ∧ (Exa Z h o0 "java/lang/StringBuilder") ∧ (Fld Z h o0 "java/lang/AbstractStringBuilder" "value" "[B" (.ref b)) ∧ (Fld Z h o0 "java/lang/AbstractStringBuilder" "coder" "B" (.int (0 : Int32))) ∧ (Fld Z h o0 "java/lang/AbstractStringBuilder" "count" "I" (.int (17 : Int32))) ∧ (Arv Z h b k2 .byte (34 : Int32) [(.int x0), (.int x1), (.int x2), (.int x3), (.int x4), (.int x5), (.int x6), (.int x7), (.int x8), (.int x9), (.int y0), (.int y1), (.int y2), (.int y3), (.int y4), (.int y5), (.int y6), (.int (0 : Int32)), (.int (0 : Int32)), (.int (0 : Int32)), (.int (0 : Int32)), (.int (0 : Int32)), (.int (0 : Int32)), (.int (0 : Int32)), (.int (0 : Int32)), (.int (0 : Int32)), (.int (0 : Int32)), (.int (0 : Int32)), (.int (0 : Int32)), (.int (0 : Int32)), (.int (0 : Int32)), (.int (0 : Int32)), (.int (0 : Int32)), (.int (0 : Int32))] (.int (0 : Int32))) ∧ (Exa Z h b "[B") ∧ (h0.size ≤ b) ∧ (n0 ≤ b)
set_option maxRecDepth 65536 in
set_option maxHeartbeats 40000000 in
theorem rmspsB (l : Launch) (Z : State) (a0 : Array Value) (hw : ∀ d ∈ tables_1, d.before a0 Z = true) (ws : List Jvm.Cond) (o0 : Addr) (o1 : Addr) (vb : Addr) (kb : ClassId) (tt : Addr) (kt : ClassId) (cs : Int32) (x0 : Int32) (x1 : Int32) (x2 : Int32) (x3 : Int32) (x4 : Int32) (x5 : Int32) (x6 : Int32) (x7 : Int32) (x8 : Int32) (x9 : Int32) (y0 : Int32) (y1 : Int32) (y2 : Int32) (y3 : Int32) (y4 : Int32) (y5 : Int32) (y6 : Int32) (h0 : Heap) (n0 : Nat) (Z0 : n0 ≤ h0.size) (E_o0 : Exa Z h0 o0 "java/lang/StringBuilder") (F_value_o0 : Fld Z h0 o0 "java/lang/AbstractStringBuilder" "value" "[B" (.ref vb)) (F_coder_o0 : Fld Z h0 o0 "java/lang/AbstractStringBuilder" "coder" "B" (.int (0 : Int32))) (F_count_o0 : Fld Z h0 o0 "java/lang/AbstractStringBuilder" "count" "I" (.int (10 : Int32))) (E_vb : Exa Z h0 vb "[B") (A_vb : Arv Z h0 vb kb .byte (16 : Int32) [(.int x0), (.int x1), (.int x2), (.int x3), (.int x4), (.int x5), (.int x6), (.int x7), (.int x8), (.int x9), (.int (0 : Int32)), (.int (0 : Int32)), (.int (0 : Int32)), (.int (0 : Int32)), (.int (0 : Int32)), (.int (0 : Int32))] (.int (0 : Int32))) (g_o0 : n0 ≤ o0) (g_vb : n0 ≤ vb) (ne_o0_vb : o0 ≠ vb) (E_o1 : Exa Z h0 o1 "java/lang/String") (F_value_o1 : Fld Z h0 o1 "java/lang/String" "value" "[B" (.ref tt)) (F_coder_o1 : Fld Z h0 o1 "java/lang/String" "coder" "B" (.int (0 : Int32))) (A_tt : Arv Z h0 tt kt .byte (7 : Int32) [(.int y0), (.int y1), (.int y2), (.int y3), (.int y4), (.int y5), (.int y6)] (.int (0 : Int32))) (ne_vb_tt : vb ≠ tt) (ne_o0_tt : o0 ≠ tt) (ne_o0_o1 : o0 ≠ o1) (ne_vb_o1 : vb ≠ o1) (S_COMPACT_STRINGS : Sta Z h0 "java/lang/String" "COMPACT_STRINGS" "Z" (.int cs)) (hcs : ¬ cs = (0 : Int32)) :
    MetFree l (⟨"java/lang/StringBuilder", "append", "(Ljava/lang/String;)Ljava/lang/StringBuilder;"⟩ : MethodName) (head1 (Jvm.Cond.code (⟨"java/lang/StringBuilder", "append", "(Ljava/lang/String;)Ljava/lang/StringBuilder;"⟩ : MethodName) jdk_67_method_7_code 2 (some (.object "java/lang/StringBuilder")) :: ws) ({ frames := 5, cells := 1, slots := 34, locals := 76 } : Room)) (fun a U => a = #[(.ref o0), (.ref o1)] ∧ Z.Warmed39 U.vm ∧ U.heap = h0) (fun _ _ _ _ _ => True) (fun _ U o U' => ∃ v L, o = .returned v ∧ QspsB Z o0 o1 vb kb tt kt cs x0 x1 x2 x3 x4 x5 x6 x7 x8 x9 y0 y1 y2 y3 y4 y5 y6 h0 n0 v U'.heap L ∧ FrameEnd U o U' L ({ frames := 5, cells := 1, slots := 34, locals := 76 } : Room).cells ({ frames := 5, cells := 1, slots := 34, locals := 76 } : Room).slots) := by
  refine MetFree.of_bodySF (plainFor_of_name pn_4) hisR ?_
  intro p e s m args below meth c s₁ Bd hml0 hP hK
  obtain ⟨rfl, hZ, hh⟩ := hP
  have hx := Bd.exec
  have hby := Bd.bytes
  have hml : c.maxLocals = 2 := hml0
  have hown : s.vm.findClass "java/lang/StringBuilder" = some m.cls := findClass_of_methodNamed Bd.named
  have hnm := (name_of_methodNamed Bd.named Bd.method).1
  have X0 : Stand p l e ({ frames := 5, cells := 1, slots := 34, locals := 76 } : Room) s m #[(.ref o0), (.ref o1)] below meth c s₁ [] 0 0 := Stand.of_body Bd
  have e0 : s₁.heap = h0 := by rw [← hh, Bd.state]; rfl
  have N0 := Fr.nil n0
  refine Ends.opn ?_
  intro QQ hQQ
  refine Ends.step (S' := s₁.setTop (mkF m 0 #[.val (.ref o0), .val (.ref o1)] [])) (fun t k => castTop (ef_spsB m o0 o1) k) ?_
  show Ends p e below QQ (s₁.setTop (mkF m 0 #[.val (.ref o0), .val (.ref o1)] []))
  refine Ends.step (fun _ k => XS.aloadN X0.here hx rfl (hb hby d9_0) rfl rfl k) ?_
  show Ends p e below QQ (s₁.setTop (mkF m 1 #[.val (.ref o0), .val (.ref o1)] [(.ref o0)]))
  refine Ends.step (fun _ k => XS.aloadN X0.here hx rfl (hb hby d9_1) rfl rfl k) ?_
  show Ends p e below QQ (s₁.setTop (mkF m 2 #[.val (.ref o0), .val (.ref o1)] [(.ref o1), (.ref o0)]))
  obtain ⟨_, _, ⟨T83, L83, k83, n83⟩, -, X83, ⟨Lc83, hQ83, l83, y83, z83⟩, st83⟩ := superBack X0 hx hZ (y := (⟨"java/lang/AbstractStringBuilder", "append", "(Ljava/lang/String;)Ljava/lang/AbstractStringBuilder;"⟩ : MethodName)) hown (hw _ (List.mem_of_getElem? (i := 61) rfl)) (own_same (hw _ (List.mem_of_getElem? (i := 62) rfl)) (by decide) (hw _ (List.mem_of_getElem? (i := 84) rfl)) rfl) (hw _ (List.mem_of_getElem? (i := 62) rfl)) (hw _ (List.mem_of_getElem? (i := 63) rfl)) (by decide) (backOf (W := 0) (rmapsB l Z a0 hw [] o0 o1 vb kb tt kt cs x0 x1 x2 x3 x4 x5 x6 x7 x8 x9 y0 y1 y2 y3 y4 y5 y6 h0 n0 (Nat.le_trans Z0 (Keep.refl h0 [o0]).1) E_o0 F_value_o0 F_coder_o0 F_count_o0 E_vb A_vb g_o0 g_vb ne_o0_vb E_o1 F_value_o1 F_coder_o1 A_tt ne_vb_tt ne_o0_tt ne_o0_o1 ne_vb_o1 S_COMPACT_STRINGS hcs) hZ (hw _ (List.mem_of_getElem? (i := 65) rfl)) (hw _ (List.mem_of_getElem? (i := 40) rfl)) (by decide) (by decide)) e0 (Ins.self E_o0) (g := (mkF m 2 #[.val (.ref o0), .val (.ref o1)] [(.ref o1), (.ref o0)])) rfl (by rw [hml]; rfl) (hw _ (List.mem_of_getElem? (i := 65) rfl)) (argsL := [(.ref o1)]) (rest := []) (lenOf pd_10 rfl) rfl (by show 2 * 0 + _ ≤ _; exact Nat.le_of_eq rfl) (hb hby d9_2) (fun _ _ => ⟨rfl, e0, (by decide : 0 + 1 ≤ _), (by decide : 0 + 34 ≤ _)⟩)
  dsimp only [Pt.U, Pt.locs, Pt.cells, Pt.slots] at X83 l83 y83 z83 st83 hQ83
  subst l83 y83 z83
  obtain ⟨b_83, k2_83, rfl, Nq83, Kq83, fq83_0, fq83_1, fq83_2, fq83_3, fq83_4, fq83_5, fq83_6, fq83_7⟩ := hQ83
  have N83 := Fr.app N0 Nq83
  have ne_o0_b_83 : o0 ≠ b_83 := Nat.ne_of_lt (Nat.lt_of_lt_of_le E_o0.lt fq83_6)
  have ne_vb_b_83 : vb ≠ b_83 := Nat.ne_of_lt (Nat.lt_of_lt_of_le E_vb.lt fq83_6)
  have ne_o1_b_83 : o1 ≠ b_83 := Nat.ne_of_lt (Nat.lt_of_lt_of_le E_o1.lt fq83_6)
  have ne_tt_b_83 : tt ≠ b_83 := Nat.ne_of_lt (Nat.lt_of_lt_of_le A_tt.lt fq83_6)
  have sz_b_83 := Nat.le_trans (Keep.refl h0 [o0]).1 fq83_6
  have S_COMPACT_STRINGS := own_sta_keep S_COMPACT_STRINGS Kq83 (allS E_o0.cell all0)
  have E_vb := E_vb.keep Kq83
  have A_vb := A_vb.keep Kq83 (ninS (Ne.symm ne_o0_vb) nin0)
  have E_o1 := E_o1.keep Kq83
  have F_value_o1 := F_value_o1.keep Kq83 (ninS (Ne.symm ne_o0_o1) nin0)
  have F_coder_o1 := F_coder_o1.keep Kq83 (ninS (Ne.symm ne_o0_o1) nin0)
  have A_tt := A_tt.keep Kq83 (ninS (Ne.symm ne_o0_tt) nin0)
  have E_o0 := fq83_0
  have F_value_o0 := fq83_1
  have F_coder_o0 := fq83_2
  have F_count_o0 := fq83_3
  have A_b_83 := fq83_4
  have E_b_83 := fq83_5
  have g_b_83 := fq83_7
  have K83 := (Keep.refl h0 [o0]).trans Kq83 (allS (Or.inl (List.mem_of_getElem? (i := 0) rfl)) all0)
  refine Ends.step (fun _ k => st83.trans k) ?_
  show Ends p e below QQ (T83.setTop (mkF m 5 #[.val (.ref o0), .val (.ref o1)] [(.ref o0)]))
  refine Ends.step (fun _ k => XT.pop X83.here hx rfl (hb hby d9_5) rfl rfl k) ?_
  show Ends p e below QQ (T83.setTop (mkF m 6 #[.val (.ref o0), .val (.ref o1)] []))
  refine Ends.step (fun _ k => XS.aloadN X83.here hx rfl (hb hby d9_6) rfl rfl k) ?_
  show Ends p e below QQ (T83.setTop (mkF m 7 #[.val (.ref o0), .val (.ref o1)] [(.ref o0)]))
  exact Ends.fin (some (.ref o0)) X83 hQQ (fun h => by rw [Bd.returns] at h; cases h) Bd.notSynchronized (fun _ hr => retOut X83 hx (t := (.object "java/lang/StringBuilder")) Bd.returns rfl (Or.inr (Or.inr (Or.inr (Or.inr ⟨rfl, rfl, rfl⟩)))) (hb hby d9_7) hr) rfl (by decide) (by decide) ⟨b_83, k2_83, rfl, N83, K83, E_o0, F_value_o0, F_coder_o0, F_count_o0, A_b_83, E_b_83, sz_b_83, g_b_83⟩
theorem ef_ens26_34 (m : MethodId) (x0 : Addr) : entryFrame m #[(.ref x0), (.int (26 : Int32))] 3 = mkF m 0 #[.val (.ref x0), .val (.int (26 : Int32)), .unset] [] := by first | (simp [entryFrame, mkF, argsToLocals, Value.category]; done) | rfl
def Qens26_34 (Z : State) (o0 : Addr) (vb : Addr) (kb : ClassId) (vs : List Value) (h0 : Heap) (n0 : Nat) (v : Option Value) (h : Heap) (L : List Loc) : Prop := (v = none) ∧ (Fr n0 L) ∧ (h = h0)
set_option maxRecDepth 65536 in
set_option maxHeartbeats 40000000 in
theorem rmens26_34 (l : Launch) (Z : State) (a0 : Array Value) (hw : ∀ d ∈ tables_1, d.before a0 Z = true) (ws : List Jvm.Cond) (o0 : Addr) (vb : Addr) (kb : ClassId) (vs : List Value) (h0 : Heap) (n0 : Nat) (Z0 : n0 ≤ h0.size) (F_value_o0 : Fld Z h0 o0 "java/lang/AbstractStringBuilder" "value" "[B" (.ref vb)) (F_coder_o0 : Fld Z h0 o0 "java/lang/AbstractStringBuilder" "coder" "B" (.int (0 : Int32))) (A_vb : Arv Z h0 vb kb .byte (34 : Int32) vs (.int (0 : Int32))) :
    MetFree l (⟨"java/lang/AbstractStringBuilder", "ensureCapacityInternal", "(I)V"⟩ : MethodName) (head1 (Jvm.Cond.code (⟨"java/lang/AbstractStringBuilder", "ensureCapacityInternal", "(I)V"⟩ : MethodName) jdk_68_method_9_code 3 none :: ws) ({ frames := 0, cells := 0, slots := 0, locals := 0 } : Room)) (fun a U => a = #[(.ref o0), (.int (26 : Int32))] ∧ Z.Warmed39 U.vm ∧ U.heap = h0) (fun _ _ _ _ _ => True) (fun _ U o U' => ∃ v L, o = .returned v ∧ Qens26_34 Z o0 vb kb vs h0 n0 v U'.heap L ∧ FrameEnd U o U' L ({ frames := 0, cells := 0, slots := 0, locals := 0 } : Room).cells ({ frames := 0, cells := 0, slots := 0, locals := 0 } : Room).slots) := by
  refine MetFree.of_bodySF (plainFor_of_name pn_3) hisR ?_
  intro p e s m args below meth c s₁ Bd hml0 hP hK
  obtain ⟨rfl, hZ, hh⟩ := hP
  have hx := Bd.exec
  have hby := Bd.bytes
  have hml : c.maxLocals = 3 := hml0
  have hown : s.vm.findClass "java/lang/AbstractStringBuilder" = some m.cls := findClass_of_methodNamed Bd.named
  have hnm := (name_of_methodNamed Bd.named Bd.method).1
  have X0 : Stand p l e ({ frames := 0, cells := 0, slots := 0, locals := 0 } : Room) s m #[(.ref o0), (.int (26 : Int32))] below meth c s₁ [] 0 0 := Stand.of_body Bd
  have e0 : s₁.heap = h0 := by rw [← hh, Bd.state]; rfl
  have N0 := Fr.nil n0
  refine Ends.opn ?_
  intro QQ hQQ
  refine Ends.step (S' := s₁.setTop (mkF m 0 #[.val (.ref o0), .val (.int (26 : Int32)), .unset] [])) (fun t k => castTop (ef_ens26_34 m o0) k) ?_
  show Ends p e below QQ (s₁.setTop (mkF m 0 #[.val (.ref o0), .val (.int (26 : Int32)), .unset] []))
  refine Ends.step (fun _ k => XS.aloadN X0.here hx rfl (hb hby d13_0) rfl rfl k) ?_
  show Ends p e below QQ (s₁.setTop (mkF m 1 #[.val (.ref o0), .val (.int (26 : Int32)), .unset] [(.ref o0)]))
  obtain ⟨T84, X84, e84, st84⟩ := getF X0 hx hZ hown (host := "") (Or.inl (hw _ (List.mem_of_getElem? (i := 46) rfl))) Via.refl e0 F_value_o0 (g := (mkF m 1 #[.val (.ref o0), .val (.int (26 : Int32)), .unset] [(.ref o0)])) rfl rfl (hb hby d13_1)
  refine Ends.step st84 ?_
  show Ends p e below QQ (T84.setTop (mkF m 4 #[.val (.ref o0), .val (.int (26 : Int32)), .unset] [(.ref vb)]))
  obtain ⟨cl85, Ar85, -, S85, P85, -, -⟩ := id A_vb
  refine Ends.step (S' := T84.setTop (mkF m 5 #[.val (.ref o0), .val (.int (26 : Int32)), .unset] [(.int (34 : Int32))])) (fun _ k => X84.arraylength hx (by rw [e84]; exact Ar85.1) (State.isArrayOf_alike hZ.alike Ar85.2.1) (g := (mkF m 4 #[.val (.ref o0), .val (.int (26 : Int32)), .unset] [(.ref vb)])) rfl rfl (hb hby d13_4) _ (by rw [len_of S85 P85]; exact k)) ?_
  show Ends p e below QQ (T84.setTop (mkF m 5 #[.val (.ref o0), .val (.int (26 : Int32)), .unset] [(.int (34 : Int32))]))
  refine Ends.step (fun _ k => XS.aloadN X84.here hx rfl (hb hby d13_5) rfl rfl k) ?_
  show Ends p e below QQ (T84.setTop (mkF m 6 #[.val (.ref o0), .val (.int (26 : Int32)), .unset] [(.ref o0), (.int (34 : Int32))]))
  obtain ⟨T86, X86, e86, st86⟩ := getF X84 hx hZ hown (host := "") (Or.inl (hw _ (List.mem_of_getElem? (i := 48) rfl))) Via.refl e84 F_coder_o0 (g := (mkF m 6 #[.val (.ref o0), .val (.int (26 : Int32)), .unset] [(.ref o0), (.int (34 : Int32))])) rfl rfl (hb hby d13_6)
  refine Ends.step st86 ?_
  show Ends p e below QQ (T86.setTop (mkF m 9 #[.val (.ref o0), .val (.int (26 : Int32)), .unset] [(.int (0 : Int32)), (.int (34 : Int32))]))
  refine Ends.step (fun _ k => XS.ishr X86.here hx rfl (hb hby d13_9) rfl k) ?_
  show Ends p e below QQ (T86.setTop (mkF m 10 #[.val (.ref o0), .val (.int (26 : Int32)), .unset] [(.int (34 : Int32))]))
  refine Ends.step (fun _ k => XS.istoreN X86.here hx rfl (hb hby d13_10) rfl (l' := #[.val (.ref o0), .val (.int (26 : Int32)), .val (.int (34 : Int32))]) rfl k) ?_
  show Ends p e below QQ (T86.setTop (mkF m 11 #[.val (.ref o0), .val (.int (26 : Int32)), .val (.int (34 : Int32))] []))
  refine Ends.step (fun _ k => XS.iloadN X86.here hx rfl (hb hby d13_11) rfl k) ?_
  show Ends p e below QQ (T86.setTop (mkF m 12 #[.val (.ref o0), .val (.int (26 : Int32)), .val (.int (34 : Int32))] [(.int (26 : Int32))]))
  refine Ends.step (fun _ k => XS.iloadN X86.here hx rfl (hb hby d13_12) rfl k) ?_
  show Ends p e below QQ (T86.setTop (mkF m 13 #[.val (.ref o0), .val (.int (26 : Int32)), .val (.int (34 : Int32))] [(.int (34 : Int32)), (.int (26 : Int32))]))
  refine Ends.step (fun _ k => XS.isub X86.here hx rfl (hb hby d13_13) rfl k) ?_
  show Ends p e below QQ (T86.setTop (mkF m 14 #[.val (.ref o0), .val (.int (26 : Int32)), .val (.int (34 : Int32))] [(.int (-8 : Int32))]))
  refine Ends.step (fun _ k => XS.ifYes X86.here hx rfl (pc0 := 14) (pc' := 38) rfl (hb hby d13_14) rfl (XT.i0_le_t (by decide)) (by decide) (by decide) k) ?_
  show Ends p e below QQ (T86.setTop (mkF m 38 #[.val (.ref o0), .val (.int (26 : Int32)), .val (.int (34 : Int32))] []))
  exact Ends.fin (none) X86 hQQ (fun _ => rfl) Bd.notSynchronized (fun _ hr => X86.returnOut hx Bd.returns (hb hby d13_38) hr) e86 (by decide) (by decide) ⟨rfl, N0, rfl⟩
theorem ef_gbC (m : MethodId) (x0 : Addr) (x1 : Addr) : entryFrame m #[(.ref x0), (.ref x1), (.int (18 : Int32)), (.int (0 : Int32))] 4 = mkF m 0 #[.val (.ref x0), .val (.ref x1), .val (.int (18 : Int32)), .val (.int (0 : Int32))] [] := by first | (simp [entryFrame, mkF, argsToLocals, Value.category]; done) | rfl
def QgbC (Z : State) (o0 : Addr) (o1 : Addr) (kb : ClassId) (tt : Addr) (kt : ClassId) (cs : Int32) (x0 : Int32) (x1 : Int32) (x2 : Int32) (x3 : Int32) (x4 : Int32) (x5 : Int32) (x6 : Int32) (x7 : Int32) (x8 : Int32) (x9 : Int32) (x10 : Int32) (x11 : Int32) (x12 : Int32) (x13 : Int32) (x14 : Int32) (x15 : Int32) (x16 : Int32) (x17 : Int32) (y0 : Int32) (y1 : Int32) (y2 : Int32) (y3 : Int32) (y4 : Int32) (y5 : Int32) (y6 : Int32) (y7 : Int32) (h0 : Heap) (n0 : Nat) (v : Option Value) (h : Heap) (L : List Loc) : Prop := (v = none) ∧ (Fr n0 L) ∧ (Keep h0 h [o1]) ∧ (Arv Z h o1 kb .byte (34 : Int32) [(.int x0), (.int x1), (.int x2), (.int x3), (.int x4), (.int x5), (.int x6), (.int x7), (.int x8), (.int x9), (.int x10), (.int x11), (.int x12), (.int x13), (.int x14), (.int x15), (.int x16), (.int x17), (.int y0), (.int y1), (.int y2), (.int y3), (.int y4), (.int y5), (.int y6), (.int y7), (.int (0 : Int32)), (.int (0 : Int32)), (.int (0 : Int32)), (.int (0 : Int32)), (.int (0 : Int32)), (.int (0 : Int32)), (.int (0 : Int32)), (.int (0 : Int32))] (.int (0 : Int32)))
set_option maxRecDepth 65536 in
set_option maxHeartbeats 40000000 in
theorem rmgbC (l : Launch) (Z : State) (a0 : Array Value) (hw : ∀ d ∈ tables_1, d.before a0 Z = true) (ws : List Jvm.Cond) (o0 : Addr) (o1 : Addr) (kb : ClassId) (tt : Addr) (kt : ClassId) (cs : Int32) (x0 : Int32) (x1 : Int32) (x2 : Int32) (x3 : Int32) (x4 : Int32) (x5 : Int32) (x6 : Int32) (x7 : Int32) (x8 : Int32) (x9 : Int32) (x10 : Int32) (x11 : Int32) (x12 : Int32) (x13 : Int32) (x14 : Int32) (x15 : Int32) (x16 : Int32) (x17 : Int32) (y0 : Int32) (y1 : Int32) (y2 : Int32) (y3 : Int32) (y4 : Int32) (y5 : Int32) (y6 : Int32) (y7 : Int32) (h0 : Heap) (n0 : Nat) (Z0 : n0 ≤ h0.size) (E_o0 : Exa Z h0 o0 "java/lang/String") (F_value_o0 : Fld Z h0 o0 "java/lang/String" "value" "[B" (.ref tt)) (F_coder_o0 : Fld Z h0 o0 "java/lang/String" "coder" "B" (.int (0 : Int32))) (A_tt : Arv Z h0 tt kt .byte (8 : Int32) [(.int y0), (.int y1), (.int y2), (.int y3), (.int y4), (.int y5), (.int y6), (.int y7)] (.int (0 : Int32))) (A_o1 : Arv Z h0 o1 kb .byte (34 : Int32) [(.int x0), (.int x1), (.int x2), (.int x3), (.int x4), (.int x5), (.int x6), (.int x7), (.int x8), (.int x9), (.int x10), (.int x11), (.int x12), (.int x13), (.int x14), (.int x15), (.int x16), (.int x17), (.int (0 : Int32)), (.int (0 : Int32)), (.int (0 : Int32)), (.int (0 : Int32)), (.int (0 : Int32)), (.int (0 : Int32)), (.int (0 : Int32)), (.int (0 : Int32)), (.int (0 : Int32)), (.int (0 : Int32)), (.int (0 : Int32)), (.int (0 : Int32)), (.int (0 : Int32)), (.int (0 : Int32)), (.int (0 : Int32)), (.int (0 : Int32))] (.int (0 : Int32))) (g_o1 : n0 ≤ o1) (ne_o1_tt : o1 ≠ tt) (ne_o1_o0 : o1 ≠ o0) (S_COMPACT_STRINGS : Sta Z h0 "java/lang/String" "COMPACT_STRINGS" "Z" (.int cs)) (hcs : ¬ cs = (0 : Int32)) :
    MetFree l (⟨"java/lang/String", "getBytes", "([BIB)V"⟩ : MethodName) (head1 (Jvm.Cond.code (⟨"java/lang/String", "getBytes", "([BIB)V"⟩ : MethodName) jdk_42_method_147_code 4 none :: ws) ({ frames := 1, cells := 0, slots := 0, locals := 24 } : Room)) (fun a U => a = #[(.ref o0), (.ref o1), (.int (18 : Int32)), (.int (0 : Int32))] ∧ Z.Warmed39 U.vm ∧ U.heap = h0) (fun _ _ _ _ _ => True) (fun _ U o U' => ∃ v L, o = .returned v ∧ QgbC Z o0 o1 kb tt kt cs x0 x1 x2 x3 x4 x5 x6 x7 x8 x9 x10 x11 x12 x13 x14 x15 x16 x17 y0 y1 y2 y3 y4 y5 y6 y7 h0 n0 v U'.heap L ∧ FrameEnd U o U' L ({ frames := 1, cells := 0, slots := 0, locals := 24 } : Room).cells ({ frames := 1, cells := 0, slots := 0, locals := 24 } : Room).slots) := by
  refine MetFree.of_bodySF (plainFor_of_name pn_0) hisR ?_
  intro p e s m args below meth c s₁ Bd hml0 hP hK
  obtain ⟨rfl, hZ, hh⟩ := hP
  have hx := Bd.exec
  have hby := Bd.bytes
  have hml : c.maxLocals = 4 := hml0
  have hown : s.vm.findClass "java/lang/String" = some m.cls := findClass_of_methodNamed Bd.named
  have hnm := (name_of_methodNamed Bd.named Bd.method).1
  have X0 : Stand p l e ({ frames := 1, cells := 0, slots := 0, locals := 24 } : Room) s m #[(.ref o0), (.ref o1), (.int (18 : Int32)), (.int (0 : Int32))] below meth c s₁ [] 0 0 := Stand.of_body Bd
  have e0 : s₁.heap = h0 := by rw [← hh, Bd.state]; rfl
  have N0 := Fr.nil n0
  refine Ends.opn ?_
  intro QQ hQQ
  refine Ends.step (S' := s₁.setTop (mkF m 0 #[.val (.ref o0), .val (.ref o1), .val (.int (18 : Int32)), .val (.int (0 : Int32))] [])) (fun t k => castTop (ef_gbC m o0 o1) k) ?_
  show Ends p e below QQ (s₁.setTop (mkF m 0 #[.val (.ref o0), .val (.ref o1), .val (.int (18 : Int32)), .val (.int (0 : Int32))] []))
  refine Ends.step (fun _ k => XS.aloadN X0.here hx rfl (hb hby d16_0) rfl rfl k) ?_
  show Ends p e below QQ (s₁.setTop (mkF m 1 #[.val (.ref o0), .val (.ref o1), .val (.int (18 : Int32)), .val (.int (0 : Int32))] [(.ref o0)]))
  obtain ⟨cq87, kq87, q87a, q87b, q87c⟩ := isOf hZ e0 E_o0
  obtain ⟨_, _, ⟨T87, L87, k87, n87⟩, -, X87, ⟨Lc87, hQ87, l87, y87, z87⟩, st87⟩ := X0.virtualBack hx (y := (⟨"java/lang/String", "coder", "()B"⟩ : MethodName)) (z := (⟨"java/lang/String", "coder", "()B"⟩ : MethodName)) hown (mvT hZ (hw _ (List.mem_of_getElem? (i := 72) rfl))) (mvT hZ (hw _ (List.mem_of_getElem? (i := 73) rfl))) (notFace_of_selects (args := #[]) (mvT hZ (hw _ (List.mem_of_getElem? (i := 75) rfl)))) (mvT hZ (hw _ (List.mem_of_getElem? (i := 75) rfl))) (mvT hZ (hw _ (List.mem_of_getElem? (i := 74) rfl))) (by decide) (backOf (W := 0) (rmcod l Z a0 hw [] o0 cs h0 n0 (Nat.le_trans Z0 (Keep.refl h0 [o1]).1) S_COMPACT_STRINGS hcs F_coder_o0) hZ (hw _ (List.mem_of_getElem? (i := 76) rfl)) (hw _ (List.mem_of_getElem? (i := 44) rfl)) (by decide) (by decide)) q87a q87c (g := (mkF m 1 #[.val (.ref o0), .val (.ref o1), .val (.int (18 : Int32)), .val (.int (0 : Int32))] [(.ref o0)])) rfl (by rw [hml]; rfl) (Steps.refl _) (argsL := []) (rest := []) (lenOf pd_0 rfl) rfl (by show 2 * 0 + _ ≤ _; exact Nat.le_of_eq rfl) (hb hby d16_1) (fun _ _ => ⟨rfl, e0, (by decide : 0 + 0 ≤ _), (by decide : 0 + 0 ≤ _)⟩)
  dsimp only [Pt.U, Pt.locs, Pt.cells, Pt.slots] at X87 l87 y87 z87 st87 hQ87
  subst l87 y87 z87
  obtain ⟨rfl, Nq87, hh87⟩ := hQ87
  have N87 := Fr.app N0 Nq87
  refine Ends.step (fun _ k => st87.trans k) ?_
  show Ends p e below QQ (T87.setTop (mkF m 4 #[.val (.ref o0), .val (.ref o1), .val (.int (18 : Int32)), .val (.int (0 : Int32))] [(.int (0 : Int32))]))
  refine Ends.step (fun _ k => XS.iloadN X87.here hx rfl (hb hby d16_4) rfl k) ?_
  show Ends p e below QQ (T87.setTop (mkF m 5 #[.val (.ref o0), .val (.ref o1), .val (.int (18 : Int32)), .val (.int (0 : Int32))] [(.int (0 : Int32)), (.int (0 : Int32))]))
  refine Ends.step (fun _ k => XS.icmpNo X87.here hx rfl (hb hby d16_5) rfl (XT.ii_ne_f (by decide)) k) ?_
  show Ends p e below QQ (T87.setTop (mkF m 8 #[.val (.ref o0), .val (.ref o1), .val (.int (18 : Int32)), .val (.int (0 : Int32))] []))
  refine Ends.step (fun _ k => XS.aloadN X87.here hx rfl (hb hby d16_8) rfl rfl k) ?_
  show Ends p e below QQ (T87.setTop (mkF m 9 #[.val (.ref o0), .val (.ref o1), .val (.int (18 : Int32)), .val (.int (0 : Int32))] [(.ref o0)]))
  obtain ⟨T88, X88, e88, st88⟩ := getF X87 hx hZ hown (host := "") (Or.inl (hw _ (List.mem_of_getElem? (i := 71) rfl))) Via.refl hh87 F_value_o0 (g := (mkF m 9 #[.val (.ref o0), .val (.ref o1), .val (.int (18 : Int32)), .val (.int (0 : Int32))] [(.ref o0)])) rfl rfl (hb hby d16_9)
  refine Ends.step st88 ?_
  show Ends p e below QQ (T88.setTop (mkF m 12 #[.val (.ref o0), .val (.ref o1), .val (.int (18 : Int32)), .val (.int (0 : Int32))] [(.ref tt)]))
  refine Ends.step (fun _ k => XT.iconstV X88.here hx rfl (0 : Int32) (hb hby d16_12) rfl k) ?_
  show Ends p e below QQ (T88.setTop (mkF m 13 #[.val (.ref o0), .val (.ref o1), .val (.int (18 : Int32)), .val (.int (0 : Int32))] [(.int (0 : Int32)), (.ref tt)]))
  refine Ends.step (fun _ k => XS.aloadN X88.here hx rfl (hb hby d16_13) rfl rfl k) ?_
  show Ends p e below QQ (T88.setTop (mkF m 14 #[.val (.ref o0), .val (.ref o1), .val (.int (18 : Int32)), .val (.int (0 : Int32))] [(.ref o1), (.int (0 : Int32)), (.ref tt)]))
  refine Ends.step (fun _ k => XS.iloadN X88.here hx rfl (hb hby d16_14) rfl k) ?_
  show Ends p e below QQ (T88.setTop (mkF m 15 #[.val (.ref o0), .val (.ref o1), .val (.int (18 : Int32)), .val (.int (0 : Int32))] [(.int (18 : Int32)), (.ref o1), (.int (0 : Int32)), (.ref tt)]))
  refine Ends.step (fun _ k => XS.iloadN X88.here hx rfl (hb hby d16_15) rfl k) ?_
  show Ends p e below QQ (T88.setTop (mkF m 16 #[.val (.ref o0), .val (.ref o1), .val (.int (18 : Int32)), .val (.int (0 : Int32))] [(.int (0 : Int32)), (.int (18 : Int32)), (.ref o1), (.int (0 : Int32)), (.ref tt)]))
  refine Ends.step (fun _ k => XS.ishl X88.here hx rfl (hb hby d16_16) rfl k) ?_
  show Ends p e below QQ (T88.setTop (mkF m 17 #[.val (.ref o0), .val (.ref o1), .val (.int (18 : Int32)), .val (.int (0 : Int32))] [(.int (18 : Int32)), (.ref o1), (.int (0 : Int32)), (.ref tt)]))
  refine Ends.step (fun _ k => XS.aloadN X88.here hx rfl (hb hby d16_17) rfl rfl k) ?_
  show Ends p e below QQ (T88.setTop (mkF m 18 #[.val (.ref o0), .val (.ref o1), .val (.int (18 : Int32)), .val (.int (0 : Int32))] [(.ref o0), (.int (18 : Int32)), (.ref o1), (.int (0 : Int32)), (.ref tt)]))
  obtain ⟨T89, X89, e89, st89⟩ := getF X88 hx hZ hown (host := "") (Or.inl (hw _ (List.mem_of_getElem? (i := 71) rfl))) Via.refl e88 F_value_o0 (g := (mkF m 18 #[.val (.ref o0), .val (.ref o1), .val (.int (18 : Int32)), .val (.int (0 : Int32))] [(.ref o0), (.int (18 : Int32)), (.ref o1), (.int (0 : Int32)), (.ref tt)])) rfl rfl (hb hby d16_18)
  refine Ends.step st89 ?_
  show Ends p e below QQ (T89.setTop (mkF m 21 #[.val (.ref o0), .val (.ref o1), .val (.int (18 : Int32)), .val (.int (0 : Int32))] [(.ref tt), (.int (18 : Int32)), (.ref o1), (.int (0 : Int32)), (.ref tt)]))
  obtain ⟨cl90, Ar90, -, S90, P90, -, -⟩ := id A_tt
  refine Ends.step (S' := T89.setTop (mkF m 22 #[.val (.ref o0), .val (.ref o1), .val (.int (18 : Int32)), .val (.int (0 : Int32))] [(.int (8 : Int32)), (.int (18 : Int32)), (.ref o1), (.int (0 : Int32)), (.ref tt)])) (fun _ k => X89.arraylength hx (by rw [e89]; exact Ar90.1) (State.isArrayOf_alike hZ.alike Ar90.2.1) (g := (mkF m 21 #[.val (.ref o0), .val (.ref o1), .val (.int (18 : Int32)), .val (.int (0 : Int32))] [(.ref tt), (.int (18 : Int32)), (.ref o1), (.int (0 : Int32)), (.ref tt)])) rfl rfl (hb hby d16_21) _ (by rw [len_of S90 P90]; exact k)) ?_
  show Ends p e below QQ (T89.setTop (mkF m 22 #[.val (.ref o0), .val (.ref o1), .val (.int (18 : Int32)), .val (.int (0 : Int32))] [(.int (8 : Int32)), (.int (18 : Int32)), (.ref o1), (.int (0 : Int32)), (.ref tt)]))
  obtain ⟨T91, h91, L91, X91, e91, N91, Kq91, AA91, st91⟩ := cpA X89 hx hZ hown (hw _ (List.mem_of_getElem? (i := 102) rfl)) (hw _ (List.mem_of_getElem? (i := 105) rfl)) (hw _ (List.mem_of_getElem? (i := 103) rfl)) (hw _ (List.mem_of_getElem? (i := 104) rfl)) e89 A_tt A_o1 (Or.inl ⟨rfl, rfl⟩) (by decide) (by decide) (by decide) (by decide) (by decide) (us := [(.int y0), (.int y1), (.int y2), (.int y3), (.int y4), (.int y5), (.int y6), (.int y7)]) (by rfl) (Nat.le_of_ble_eq_true rfl) N87 g_o1 (g := (mkF m 22 #[.val (.ref o0), .val (.ref o1), .val (.int (18 : Int32)), .val (.int (0 : Int32))] [(.int (8 : Int32)), (.int (18 : Int32)), (.ref o1), (.int (0 : Int32)), (.ref tt)])) rfl (by rw [hml]; rfl) rfl (hb hby d16_22) (by decide) (W := 0) (by show 2 * 0 + _ ≤ _; exact Nat.le_of_eq rfl) (by decide)
  have S_COMPACT_STRINGS := own_sta_keep S_COMPACT_STRINGS Kq91 (allS (own_arv_cell A_o1) all0)
  have E_o0 := E_o0.keep Kq91
  have F_value_o0 := F_value_o0.keep Kq91 (ninS (Ne.symm ne_o1_o0) nin0)
  have F_coder_o0 := F_coder_o0.keep Kq91 (ninS (Ne.symm ne_o1_o0) nin0)
  have A_tt := A_tt.keep Kq91 (ninS (Ne.symm ne_o1_tt) nin0)
  have A_o1 : Arv Z h91 o1 kb .byte (34 : Int32) [(.int x0), (.int x1), (.int x2), (.int x3), (.int x4), (.int x5), (.int x6), (.int x7), (.int x8), (.int x9), (.int x10), (.int x11), (.int x12), (.int x13), (.int x14), (.int x15), (.int x16), (.int x17), (.int y0), (.int y1), (.int y2), (.int y3), (.int y4), (.int y5), (.int y6), (.int y7), (.int (0 : Int32)), (.int (0 : Int32)), (.int (0 : Int32)), (.int (0 : Int32)), (.int (0 : Int32)), (.int (0 : Int32)), (.int (0 : Int32)), (.int (0 : Int32))] (.int (0 : Int32)) := AA91
  have K91 := (Keep.refl h0 [o1]).trans Kq91 (allS (Or.inl (List.mem_of_getElem? (i := 0) rfl)) all0)
  refine Ends.step st91 ?_
  show Ends p e below QQ (T91.setTop (mkF m 25 #[.val (.ref o0), .val (.ref o1), .val (.int (18 : Int32)), .val (.int (0 : Int32))] []))
  refine Ends.step (fun _ k => XS.goto X91.here hx rfl (pc0 := 25) (pc' := 43) rfl (hb hby d16_25) (by decide) (by decide) k) ?_
  show Ends p e below QQ (T91.setTop (mkF m 43 #[.val (.ref o0), .val (.ref o1), .val (.int (18 : Int32)), .val (.int (0 : Int32))] []))
  exact Ends.fin (none) X91 hQQ (fun _ => rfl) Bd.notSynchronized (fun _ hr => X91.returnOut hx Bd.returns (hb hby d16_43) hr) e91 (by decide) (by decide) ⟨rfl, N91, K91, A_o1⟩
theorem ef_psC (m : MethodId) (x0 : Addr) (x2 : Addr) : entryFrame m #[(.ref x0), (.int (18 : Int32)), (.ref x2)] 3 = mkF m 0 #[.val (.ref x0), .val (.int (18 : Int32)), .val (.ref x2)] [] := by first | (simp [entryFrame, mkF, argsToLocals, Value.category]; done) | rfl
def QpsC (Z : State) (o0 : Addr) (o2 : Addr) (vb : Addr) (kb : ClassId) (tt : Addr) (kt : ClassId) (cs : Int32) (x0 : Int32) (x1 : Int32) (x2 : Int32) (x3 : Int32) (x4 : Int32) (x5 : Int32) (x6 : Int32) (x7 : Int32) (x8 : Int32) (x9 : Int32) (x10 : Int32) (x11 : Int32) (x12 : Int32) (x13 : Int32) (x14 : Int32) (x15 : Int32) (x16 : Int32) (x17 : Int32) (y0 : Int32) (y1 : Int32) (y2 : Int32) (y3 : Int32) (y4 : Int32) (y5 : Int32) (y6 : Int32) (y7 : Int32) (h0 : Heap) (n0 : Nat) (v : Option Value) (h : Heap) (L : List Loc) : Prop := (v = none) ∧ (Fr n0 L) ∧ (Keep h0 h [vb]) ∧ (Arv Z h vb kb .byte (34 : Int32) [(.int x0), (.int x1), (.int x2), (.int x3), (.int x4), (.int x5), (.int x6), (.int x7), (.int x8), (.int x9), (.int x10), (.int x11), (.int x12), (.int x13), (.int x14), (.int x15), (.int x16), (.int x17), (.int y0), (.int y1), (.int y2), (.int y3), (.int y4), (.int y5), (.int y6), (.int y7), (.int (0 : Int32)), (.int (0 : Int32)), (.int (0 : Int32)), (.int (0 : Int32)), (.int (0 : Int32)), (.int (0 : Int32)), (.int (0 : Int32)), (.int (0 : Int32))] (.int (0 : Int32)))
set_option maxRecDepth 65536 in
set_option maxHeartbeats 40000000 in
theorem rmpsC (l : Launch) (Z : State) (a0 : Array Value) (hw : ∀ d ∈ tables_1, d.before a0 Z = true) (ws : List Jvm.Cond) (o0 : Addr) (o2 : Addr) (vb : Addr) (kb : ClassId) (tt : Addr) (kt : ClassId) (cs : Int32) (x0 : Int32) (x1 : Int32) (x2 : Int32) (x3 : Int32) (x4 : Int32) (x5 : Int32) (x6 : Int32) (x7 : Int32) (x8 : Int32) (x9 : Int32) (x10 : Int32) (x11 : Int32) (x12 : Int32) (x13 : Int32) (x14 : Int32) (x15 : Int32) (x16 : Int32) (x17 : Int32) (y0 : Int32) (y1 : Int32) (y2 : Int32) (y3 : Int32) (y4 : Int32) (y5 : Int32) (y6 : Int32) (y7 : Int32) (h0 : Heap) (n0 : Nat) (Z0 : n0 ≤ h0.size) (E_o0 : Exa Z h0 o0 "java/lang/StringBuilder") (F_value_o0 : Fld Z h0 o0 "java/lang/AbstractStringBuilder" "value" "[B" (.ref vb)) (F_coder_o0 : Fld Z h0 o0 "java/lang/AbstractStringBuilder" "coder" "B" (.int (0 : Int32))) (F_count_o0 : Fld Z h0 o0 "java/lang/AbstractStringBuilder" "count" "I" (.int (18 : Int32))) (E_vb : Exa Z h0 vb "[B") (A_vb : Arv Z h0 vb kb .byte (34 : Int32) [(.int x0), (.int x1), (.int x2), (.int x3), (.int x4), (.int x5), (.int x6), (.int x7), (.int x8), (.int x9), (.int x10), (.int x11), (.int x12), (.int x13), (.int x14), (.int x15), (.int x16), (.int x17), (.int (0 : Int32)), (.int (0 : Int32)), (.int (0 : Int32)), (.int (0 : Int32)), (.int (0 : Int32)), (.int (0 : Int32)), (.int (0 : Int32)), (.int (0 : Int32)), (.int (0 : Int32)), (.int (0 : Int32)), (.int (0 : Int32)), (.int (0 : Int32)), (.int (0 : Int32)), (.int (0 : Int32)), (.int (0 : Int32)), (.int (0 : Int32))] (.int (0 : Int32))) (g_o0 : n0 ≤ o0) (g_vb : n0 ≤ vb) (ne_o0_vb : o0 ≠ vb) (E_o2 : Exa Z h0 o2 "java/lang/String") (F_value_o2 : Fld Z h0 o2 "java/lang/String" "value" "[B" (.ref tt)) (F_coder_o2 : Fld Z h0 o2 "java/lang/String" "coder" "B" (.int (0 : Int32))) (A_tt : Arv Z h0 tt kt .byte (8 : Int32) [(.int y0), (.int y1), (.int y2), (.int y3), (.int y4), (.int y5), (.int y6), (.int y7)] (.int (0 : Int32))) (ne_vb_tt : vb ≠ tt) (ne_vb_o2 : vb ≠ o2) (S_COMPACT_STRINGS : Sta Z h0 "java/lang/String" "COMPACT_STRINGS" "Z" (.int cs)) (hcs : ¬ cs = (0 : Int32)) :
    MetFree l (⟨"java/lang/AbstractStringBuilder", "putStringAt", "(ILjava/lang/String;)V"⟩ : MethodName) (head1 (Jvm.Cond.code (⟨"java/lang/AbstractStringBuilder", "putStringAt", "(ILjava/lang/String;)V"⟩ : MethodName) jdk_68_method_73_code 3 none :: ws) ({ frames := 2, cells := 0, slots := 0, locals := 39 } : Room)) (fun a U => a = #[(.ref o0), (.int (18 : Int32)), (.ref o2)] ∧ Z.Warmed39 U.vm ∧ U.heap = h0) (fun _ _ _ _ _ => True) (fun _ U o U' => ∃ v L, o = .returned v ∧ QpsC Z o0 o2 vb kb tt kt cs x0 x1 x2 x3 x4 x5 x6 x7 x8 x9 x10 x11 x12 x13 x14 x15 x16 x17 y0 y1 y2 y3 y4 y5 y6 y7 h0 n0 v U'.heap L ∧ FrameEnd U o U' L ({ frames := 2, cells := 0, slots := 0, locals := 39 } : Room).cells ({ frames := 2, cells := 0, slots := 0, locals := 39 } : Room).slots) := by
  refine MetFree.of_bodySF (plainFor_of_name pn_3) hisR ?_
  intro p e s m args below meth c s₁ Bd hml0 hP hK
  obtain ⟨rfl, hZ, hh⟩ := hP
  have hx := Bd.exec
  have hby := Bd.bytes
  have hml : c.maxLocals = 3 := hml0
  have hown : s.vm.findClass "java/lang/AbstractStringBuilder" = some m.cls := findClass_of_methodNamed Bd.named
  have hnm := (name_of_methodNamed Bd.named Bd.method).1
  have X0 : Stand p l e ({ frames := 2, cells := 0, slots := 0, locals := 39 } : Room) s m #[(.ref o0), (.int (18 : Int32)), (.ref o2)] below meth c s₁ [] 0 0 := Stand.of_body Bd
  have e0 : s₁.heap = h0 := by rw [← hh, Bd.state]; rfl
  have N0 := Fr.nil n0
  refine Ends.opn ?_
  intro QQ hQQ
  refine Ends.step (S' := s₁.setTop (mkF m 0 #[.val (.ref o0), .val (.int (18 : Int32)), .val (.ref o2)] [])) (fun t k => castTop (ef_psC m o0 o2) k) ?_
  show Ends p e below QQ (s₁.setTop (mkF m 0 #[.val (.ref o0), .val (.int (18 : Int32)), .val (.ref o2)] []))
  refine Ends.step (fun _ k => XS.aloadN X0.here hx rfl (hb hby d14_0) rfl rfl k) ?_
  show Ends p e below QQ (s₁.setTop (mkF m 1 #[.val (.ref o0), .val (.int (18 : Int32)), .val (.ref o2)] [(.ref o0)]))
  refine Ends.step (fun _ k => XS.aloadN X0.here hx rfl (hb hby d14_1) rfl rfl k) ?_
  show Ends p e below QQ (s₁.setTop (mkF m 2 #[.val (.ref o0), .val (.int (18 : Int32)), .val (.ref o2)] [(.ref o2), (.ref o0)]))
  obtain ⟨cq92, q92, q92'⟩ := E_o0.cell
  obtain ⟨_, _, ⟨T92, L92, k92, n92⟩, -, X92, ⟨Lc92, hQ92, l92, y92, z92⟩, st92⟩ := X0.privateBack hx (y := (⟨"java/lang/AbstractStringBuilder", "inflateIfNeededFor", "(Ljava/lang/String;)V"⟩ : MethodName)) hown (mvT hZ (hw _ (List.mem_of_getElem? (i := 91) rfl))) (mvT hZ (hw _ (List.mem_of_getElem? (i := 92) rfl))) (mvT hZ (own_selq (y := (⟨"java/lang/AbstractStringBuilder", "inflateIfNeededFor", "(Ljava/lang/String;)V"⟩ : MethodName)) (hw _ (List.mem_of_getElem? (i := 84) rfl)) rfl (hw _ (List.mem_of_getElem? (i := 93) rfl)) (hw _ (List.mem_of_getElem? (i := 92) rfl)) (by decide))) (Cond.privateMethod_at (mvP hZ (hw _ (List.mem_of_getElem? (i := 93) rfl)) (args := #[]))) (mvT hZ (hw _ (List.mem_of_getElem? (i := 95) rfl))) (by decide) (backOf (W := 0) (rminf l Z a0 hw [] o0 o2 cs h0 n0 (Nat.le_trans Z0 (Keep.refl h0 [vb]).1) S_COMPACT_STRINGS hcs F_coder_o0 E_o2 F_coder_o2) hZ (hw _ (List.mem_of_getElem? (i := 95) rfl)) (hw _ (List.mem_of_getElem? (i := 40) rfl)) (by decide) (by decide)) (g := (mkF m 2 #[.val (.ref o0), .val (.int (18 : Int32)), .val (.ref o2)] [(.ref o2), (.ref o0)])) rfl (by rw [hml]; rfl) (Steps.refl _) (a := o0) (by rw [e0]; exact q92) q92' (argsL := [(.ref o2)]) (rest := []) (lenOf pd_6 rfl) rfl (by show 2 * 0 + _ ≤ _; exact Nat.le_of_eq rfl) (hb hby d14_2) (fun _ _ => ⟨rfl, e0, (by decide : 0 + 0 ≤ _), (by decide : 0 + 0 ≤ _)⟩)
  dsimp only [Pt.U, Pt.locs, Pt.cells, Pt.slots] at X92 l92 y92 z92 st92 hQ92
  subst l92 y92 z92
  obtain ⟨rfl, Nq92, hh92⟩ := hQ92
  have N92 := Fr.app N0 Nq92
  refine Ends.step (fun _ k => st92.trans k) ?_
  show Ends p e below QQ (T92.setTop (mkF m 5 #[.val (.ref o0), .val (.int (18 : Int32)), .val (.ref o2)] []))
  refine Ends.step (fun _ k => XS.aloadN X92.here hx rfl (hb hby d14_5) rfl rfl k) ?_
  show Ends p e below QQ (T92.setTop (mkF m 6 #[.val (.ref o0), .val (.int (18 : Int32)), .val (.ref o2)] [(.ref o2)]))
  refine Ends.step (fun _ k => XS.aloadN X92.here hx rfl (hb hby d14_6) rfl rfl k) ?_
  show Ends p e below QQ (T92.setTop (mkF m 7 #[.val (.ref o0), .val (.int (18 : Int32)), .val (.ref o2)] [(.ref o0), (.ref o2)]))
  obtain ⟨T93, X93, e93, st93⟩ := getF X92 hx hZ hown (host := "") (Or.inl (hw _ (List.mem_of_getElem? (i := 46) rfl))) Via.refl hh92 F_value_o0 (g := (mkF m 7 #[.val (.ref o0), .val (.int (18 : Int32)), .val (.ref o2)] [(.ref o0), (.ref o2)])) rfl rfl (hb hby d14_7)
  refine Ends.step st93 ?_
  show Ends p e below QQ (T93.setTop (mkF m 10 #[.val (.ref o0), .val (.int (18 : Int32)), .val (.ref o2)] [(.ref vb), (.ref o2)]))
  refine Ends.step (fun _ k => XS.iloadN X93.here hx rfl (hb hby d14_10) rfl k) ?_
  show Ends p e below QQ (T93.setTop (mkF m 11 #[.val (.ref o0), .val (.int (18 : Int32)), .val (.ref o2)] [(.int (18 : Int32)), (.ref vb), (.ref o2)]))
  refine Ends.step (fun _ k => XS.aloadN X93.here hx rfl (hb hby d14_11) rfl rfl k) ?_
  show Ends p e below QQ (T93.setTop (mkF m 12 #[.val (.ref o0), .val (.int (18 : Int32)), .val (.ref o2)] [(.ref o0), (.int (18 : Int32)), (.ref vb), (.ref o2)]))
  obtain ⟨T94, X94, e94, st94⟩ := getF X93 hx hZ hown (host := "") (Or.inl (hw _ (List.mem_of_getElem? (i := 48) rfl))) Via.refl e93 F_coder_o0 (g := (mkF m 12 #[.val (.ref o0), .val (.int (18 : Int32)), .val (.ref o2)] [(.ref o0), (.int (18 : Int32)), (.ref vb), (.ref o2)])) rfl rfl (hb hby d14_12)
  refine Ends.step st94 ?_
  show Ends p e below QQ (T94.setTop (mkF m 15 #[.val (.ref o0), .val (.int (18 : Int32)), .val (.ref o2)] [(.int (0 : Int32)), (.int (18 : Int32)), (.ref vb), (.ref o2)]))
  obtain ⟨cq95, kq95, q95a, q95b, q95c⟩ := isOf hZ e94 E_o2
  obtain ⟨_, _, ⟨T95, L95, k95, n95⟩, -, X95, ⟨Lc95, hQ95, l95, y95, z95⟩, st95⟩ := X94.virtualBack hx (y := (⟨"java/lang/String", "getBytes", "([BIB)V"⟩ : MethodName)) (z := (⟨"java/lang/String", "getBytes", "([BIB)V"⟩ : MethodName)) hown (mvT hZ (hw _ (List.mem_of_getElem? (i := 97) rfl))) (mvT hZ (hw _ (List.mem_of_getElem? (i := 98) rfl))) (notFace_of_selects (args := #[]) (mvT hZ (hw _ (List.mem_of_getElem? (i := 100) rfl)))) (mvT hZ (hw _ (List.mem_of_getElem? (i := 100) rfl))) (mvT hZ (hw _ (List.mem_of_getElem? (i := 99) rfl))) (by decide) (backOf (W := 0) (rmgbC l Z a0 hw [] o2 vb kb tt kt cs x0 x1 x2 x3 x4 x5 x6 x7 x8 x9 x10 x11 x12 x13 x14 x15 x16 x17 y0 y1 y2 y3 y4 y5 y6 y7 h0 n0 (Nat.le_trans Z0 (Keep.refl h0 [vb]).1) E_o2 F_value_o2 F_coder_o2 A_tt A_vb g_vb ne_vb_tt ne_vb_o2 S_COMPACT_STRINGS hcs) hZ (hw _ (List.mem_of_getElem? (i := 101) rfl)) (hw _ (List.mem_of_getElem? (i := 44) rfl)) (by decide) (by decide)) q95a q95c (g := (mkF m 15 #[.val (.ref o0), .val (.int (18 : Int32)), .val (.ref o2)] [(.int (0 : Int32)), (.int (18 : Int32)), (.ref vb), (.ref o2)])) rfl (by rw [hml]; rfl) (Steps.refl _) (argsL := [(.ref vb), (.int (18 : Int32)), (.int (0 : Int32))]) (rest := []) (lenOf pd_7 rfl) rfl (by show 2 * 0 + _ ≤ _; exact Nat.le_of_eq rfl) (hb hby d14_15) (fun _ _ => ⟨rfl, e94, (by decide : 0 + 0 ≤ _), (by decide : 0 + 0 ≤ _)⟩)
  dsimp only [Pt.U, Pt.locs, Pt.cells, Pt.slots] at X95 l95 y95 z95 st95 hQ95
  subst l95 y95 z95
  obtain ⟨rfl, Nq95, Kq95, fq95_0⟩ := hQ95
  have N95 := Fr.app N92 Nq95
  have S_COMPACT_STRINGS := own_sta_keep S_COMPACT_STRINGS Kq95 (allS E_vb.cell all0)
  have E_o0 := E_o0.keep Kq95
  have F_value_o0 := F_value_o0.keep Kq95 (ninS ne_o0_vb nin0)
  have F_coder_o0 := F_coder_o0.keep Kq95 (ninS ne_o0_vb nin0)
  have F_count_o0 := F_count_o0.keep Kq95 (ninS ne_o0_vb nin0)
  have E_vb := E_vb.keep Kq95
  have E_o2 := E_o2.keep Kq95
  have F_value_o2 := F_value_o2.keep Kq95 (ninS (Ne.symm ne_vb_o2) nin0)
  have F_coder_o2 := F_coder_o2.keep Kq95 (ninS (Ne.symm ne_vb_o2) nin0)
  have A_tt := A_tt.keep Kq95 (ninS (Ne.symm ne_vb_tt) nin0)
  have A_vb := fq95_0
  have K95 := (Keep.refl h0 [vb]).trans Kq95 (allS (Or.inl (List.mem_of_getElem? (i := 0) rfl)) all0)
  refine Ends.step (fun _ k => st95.trans k) ?_
  show Ends p e below QQ (T95.setTop (mkF m 18 #[.val (.ref o0), .val (.int (18 : Int32)), .val (.ref o2)] []))
  exact Ends.fin (none) X95 hQQ (fun _ => rfl) Bd.notSynchronized (fun _ hr => X95.returnOut hx Bd.returns (hb hby d14_18) hr) rfl (by decide) (by decide) ⟨rfl, N95, K95, A_vb⟩
theorem ef_apsC (m : MethodId) (x0 : Addr) (x1 : Addr) : entryFrame m #[(.ref x0), (.ref x1)] 3 = mkF m 0 #[.val (.ref x0), .val (.ref x1), .unset] [] := by first | (simp [entryFrame, mkF, argsToLocals, Value.category]; done) | rfl
def QapsC (Z : State) (o0 : Addr) (o1 : Addr) (vb : Addr) (kb : ClassId) (tt : Addr) (kt : ClassId) (cs : Int32) (x0 : Int32) (x1 : Int32) (x2 : Int32) (x3 : Int32) (x4 : Int32) (x5 : Int32) (x6 : Int32) (x7 : Int32) (x8 : Int32) (x9 : Int32) (x10 : Int32) (x11 : Int32) (x12 : Int32) (x13 : Int32) (x14 : Int32) (x15 : Int32) (x16 : Int32) (x17 : Int32) (y0 : Int32) (y1 : Int32) (y2 : Int32) (y3 : Int32) (y4 : Int32) (y5 : Int32) (y6 : Int32) (y7 : Int32) (h0 : Heap) (n0 : Nat) (v : Option Value) (h : Heap) (L : List Loc) : Prop := (v = some (.ref o0)) ∧ (Fr n0 L) ∧ (Keep h0 h [o0, vb]) ∧ (Exa Z h o0 "java/lang/StringBuilder") ∧ (Fld Z h o0 "java/lang/AbstractStringBuilder" "value" "[B" (.ref vb)) ∧ (Fld Z h o0 "java/lang/AbstractStringBuilder" "coder" "B" (.int (0 : Int32))) ∧ (Fld Z h o0 "java/lang/AbstractStringBuilder" "count" "I" (.int (26 : Int32))) ∧ (Arv Z h vb kb .byte (34 : Int32) [(.int x0), (.int x1), (.int x2), (.int x3), (.int x4), (.int x5), (.int x6), (.int x7), (.int x8), (.int x9), (.int x10), (.int x11), (.int x12), (.int x13), (.int x14), (.int x15), (.int x16), (.int x17), (.int y0), (.int y1), (.int y2), (.int y3), (.int y4), (.int y5), (.int y6), (.int y7), (.int (0 : Int32)), (.int (0 : Int32)), (.int (0 : Int32)), (.int (0 : Int32)), (.int (0 : Int32)), (.int (0 : Int32)), (.int (0 : Int32)), (.int (0 : Int32))] (.int (0 : Int32))) ∧ (Exa Z h vb "[B")
set_option maxRecDepth 65536 in
set_option maxHeartbeats 40000000 in
theorem rmapsC (l : Launch) (Z : State) (a0 : Array Value) (hw : ∀ d ∈ tables_1, d.before a0 Z = true) (ws : List Jvm.Cond) (o0 : Addr) (o1 : Addr) (vb : Addr) (kb : ClassId) (tt : Addr) (kt : ClassId) (cs : Int32) (x0 : Int32) (x1 : Int32) (x2 : Int32) (x3 : Int32) (x4 : Int32) (x5 : Int32) (x6 : Int32) (x7 : Int32) (x8 : Int32) (x9 : Int32) (x10 : Int32) (x11 : Int32) (x12 : Int32) (x13 : Int32) (x14 : Int32) (x15 : Int32) (x16 : Int32) (x17 : Int32) (y0 : Int32) (y1 : Int32) (y2 : Int32) (y3 : Int32) (y4 : Int32) (y5 : Int32) (y6 : Int32) (y7 : Int32) (h0 : Heap) (n0 : Nat) (Z0 : n0 ≤ h0.size) (E_o0 : Exa Z h0 o0 "java/lang/StringBuilder") (F_value_o0 : Fld Z h0 o0 "java/lang/AbstractStringBuilder" "value" "[B" (.ref vb)) (F_coder_o0 : Fld Z h0 o0 "java/lang/AbstractStringBuilder" "coder" "B" (.int (0 : Int32))) (F_count_o0 : Fld Z h0 o0 "java/lang/AbstractStringBuilder" "count" "I" (.int (18 : Int32))) (E_vb : Exa Z h0 vb "[B") (A_vb : Arv Z h0 vb kb .byte (34 : Int32) [(.int x0), (.int x1), (.int x2), (.int x3), (.int x4), (.int x5), (.int x6), (.int x7), (.int x8), (.int x9), (.int x10), (.int x11), (.int x12), (.int x13), (.int x14), (.int x15), (.int x16), (.int x17), (.int (0 : Int32)), (.int (0 : Int32)), (.int (0 : Int32)), (.int (0 : Int32)), (.int (0 : Int32)), (.int (0 : Int32)), (.int (0 : Int32)), (.int (0 : Int32)), (.int (0 : Int32)), (.int (0 : Int32)), (.int (0 : Int32)), (.int (0 : Int32)), (.int (0 : Int32)), (.int (0 : Int32)), (.int (0 : Int32)), (.int (0 : Int32))] (.int (0 : Int32))) (g_o0 : n0 ≤ o0) (g_vb : n0 ≤ vb) (ne_o0_vb : o0 ≠ vb) (E_o1 : Exa Z h0 o1 "java/lang/String") (F_value_o1 : Fld Z h0 o1 "java/lang/String" "value" "[B" (.ref tt)) (F_coder_o1 : Fld Z h0 o1 "java/lang/String" "coder" "B" (.int (0 : Int32))) (A_tt : Arv Z h0 tt kt .byte (8 : Int32) [(.int y0), (.int y1), (.int y2), (.int y3), (.int y4), (.int y5), (.int y6), (.int y7)] (.int (0 : Int32))) (ne_vb_tt : vb ≠ tt) (ne_o0_tt : o0 ≠ tt) (ne_o0_o1 : o0 ≠ o1) (ne_vb_o1 : vb ≠ o1) (S_COMPACT_STRINGS : Sta Z h0 "java/lang/String" "COMPACT_STRINGS" "Z" (.int cs)) (hcs : ¬ cs = (0 : Int32)) :
    MetFree l (⟨"java/lang/AbstractStringBuilder", "append", "(Ljava/lang/String;)Ljava/lang/AbstractStringBuilder;"⟩ : MethodName) (head1 (Jvm.Cond.code (⟨"java/lang/AbstractStringBuilder", "append", "(Ljava/lang/String;)Ljava/lang/AbstractStringBuilder;"⟩ : MethodName) jdk_68_method_22_code 3 (some (.object "java/lang/AbstractStringBuilder")) :: ws) ({ frames := 3, cells := 0, slots := 0, locals := 53 } : Room)) (fun a U => a = #[(.ref o0), (.ref o1)] ∧ Z.Warmed39 U.vm ∧ U.heap = h0) (fun _ _ _ _ _ => True) (fun _ U o U' => ∃ v L, o = .returned v ∧ QapsC Z o0 o1 vb kb tt kt cs x0 x1 x2 x3 x4 x5 x6 x7 x8 x9 x10 x11 x12 x13 x14 x15 x16 x17 y0 y1 y2 y3 y4 y5 y6 y7 h0 n0 v U'.heap L ∧ FrameEnd U o U' L ({ frames := 3, cells := 0, slots := 0, locals := 53 } : Room).cells ({ frames := 3, cells := 0, slots := 0, locals := 53 } : Room).slots) := by
  refine MetFree.of_bodySF (plainFor_of_name pn_3) hisR ?_
  intro p e s m args below meth c s₁ Bd hml0 hP hK
  obtain ⟨rfl, hZ, hh⟩ := hP
  have hx := Bd.exec
  have hby := Bd.bytes
  have hml : c.maxLocals = 3 := hml0
  have hown : s.vm.findClass "java/lang/AbstractStringBuilder" = some m.cls := findClass_of_methodNamed Bd.named
  have hnm := (name_of_methodNamed Bd.named Bd.method).1
  have X0 : Stand p l e ({ frames := 3, cells := 0, slots := 0, locals := 53 } : Room) s m #[(.ref o0), (.ref o1)] below meth c s₁ [] 0 0 := Stand.of_body Bd
  have e0 : s₁.heap = h0 := by rw [← hh, Bd.state]; rfl
  have N0 := Fr.nil n0
  refine Ends.opn ?_
  intro QQ hQQ
  refine Ends.step (S' := s₁.setTop (mkF m 0 #[.val (.ref o0), .val (.ref o1), .unset] [])) (fun t k => castTop (ef_apsC m o0 o1) k) ?_
  show Ends p e below QQ (s₁.setTop (mkF m 0 #[.val (.ref o0), .val (.ref o1), .unset] []))
  refine Ends.step (fun _ k => XS.aloadN X0.here hx rfl (hb hby d10_0) rfl rfl k) ?_
  show Ends p e below QQ (s₁.setTop (mkF m 1 #[.val (.ref o0), .val (.ref o1), .unset] [(.ref o1)]))
  refine Ends.step (fun _ k => XT.ifnonnullYes X0.here hx rfl (pc0 := 1) (pc' := 9) rfl (hb hby d10_1) rfl (by decide) (by decide) k) ?_
  show Ends p e below QQ (s₁.setTop (mkF m 9 #[.val (.ref o0), .val (.ref o1), .unset] []))
  refine Ends.step (fun _ k => XS.aloadN X0.here hx rfl (hb hby d10_9) rfl rfl k) ?_
  show Ends p e below QQ (s₁.setTop (mkF m 10 #[.val (.ref o0), .val (.ref o1), .unset] [(.ref o1)]))
  obtain ⟨cq96, kq96, q96a, q96b, q96c⟩ := isOf hZ e0 E_o1
  obtain ⟨_, _, ⟨T96, L96, k96, n96⟩, -, X96, ⟨Lc96, hQ96, l96, y96, z96⟩, st96⟩ := X0.virtualBack hx (y := (⟨"java/lang/String", "length", "()I"⟩ : MethodName)) (z := (⟨"java/lang/String", "length", "()I"⟩ : MethodName)) hown (mvT hZ (hw _ (List.mem_of_getElem? (i := 66) rfl))) (mvT hZ (hw _ (List.mem_of_getElem? (i := 67) rfl))) (notFace_of_selects (args := #[]) (mvT hZ (hw _ (List.mem_of_getElem? (i := 69) rfl)))) (mvT hZ (hw _ (List.mem_of_getElem? (i := 69) rfl))) (mvT hZ (hw _ (List.mem_of_getElem? (i := 68) rfl))) (by decide) (backOf (W := 0) (rmlen l Z a0 hw [] o1 tt kt (8 : Int32) [(.int y0), (.int y1), (.int y2), (.int y3), (.int y4), (.int y5), (.int y6), (.int y7)] cs h0 n0 (Nat.le_trans Z0 (Keep.refl h0 [o0, vb]).1) E_o1 F_value_o1 A_tt S_COMPACT_STRINGS hcs F_coder_o1) hZ (hw _ (List.mem_of_getElem? (i := 70) rfl)) (hw _ (List.mem_of_getElem? (i := 44) rfl)) (by decide) (by decide)) q96a q96c (g := (mkF m 10 #[.val (.ref o0), .val (.ref o1), .unset] [(.ref o1)])) rfl (by rw [hml]; rfl) (Steps.refl _) (argsL := []) (rest := []) (lenOf pd_8 rfl) rfl (by show 2 * 0 + _ ≤ _; exact Nat.le_of_eq rfl) (hb hby d10_10) (fun _ _ => ⟨rfl, e0, (by decide : 0 + 0 ≤ _), (by decide : 0 + 0 ≤ _)⟩)
  dsimp only [Pt.U, Pt.locs, Pt.cells, Pt.slots] at X96 l96 y96 z96 st96 hQ96
  subst l96 y96 z96
  obtain ⟨rfl, Nq96, hh96⟩ := hQ96
  have N96 := Fr.app N0 Nq96
  refine Ends.step (fun _ k => st96.trans k) ?_
  show Ends p e below QQ (T96.setTop (mkF m 13 #[.val (.ref o0), .val (.ref o1), .unset] [(.int (8 : Int32))]))
  refine Ends.step (fun _ k => XS.istoreN X96.here hx rfl (hb hby d10_13) rfl (l' := #[.val (.ref o0), .val (.ref o1), .val (.int (8 : Int32))]) rfl k) ?_
  show Ends p e below QQ (T96.setTop (mkF m 14 #[.val (.ref o0), .val (.ref o1), .val (.int (8 : Int32))] []))
  refine Ends.step (fun _ k => XS.aloadN X96.here hx rfl (hb hby d10_14) rfl rfl k) ?_
  show Ends p e below QQ (T96.setTop (mkF m 15 #[.val (.ref o0), .val (.ref o1), .val (.int (8 : Int32))] [(.ref o0)]))
  refine Ends.step (fun _ k => XS.aloadN X96.here hx rfl (hb hby d10_15) rfl rfl k) ?_
  show Ends p e below QQ (T96.setTop (mkF m 16 #[.val (.ref o0), .val (.ref o1), .val (.int (8 : Int32))] [(.ref o0), (.ref o0)]))
  obtain ⟨T97, X97, e97, st97⟩ := getF X96 hx hZ hown (host := "") (Or.inl (hw _ (List.mem_of_getElem? (i := 79) rfl))) Via.refl hh96 F_count_o0 (g := (mkF m 16 #[.val (.ref o0), .val (.ref o1), .val (.int (8 : Int32))] [(.ref o0), (.ref o0)])) rfl rfl (hb hby d10_16)
  refine Ends.step st97 ?_
  show Ends p e below QQ (T97.setTop (mkF m 19 #[.val (.ref o0), .val (.ref o1), .val (.int (8 : Int32))] [(.int (18 : Int32)), (.ref o0)]))
  refine Ends.step (fun _ k => XS.iloadN X97.here hx rfl (hb hby d10_19) rfl k) ?_
  show Ends p e below QQ (T97.setTop (mkF m 20 #[.val (.ref o0), .val (.ref o1), .val (.int (8 : Int32))] [(.int (8 : Int32)), (.int (18 : Int32)), (.ref o0)]))
  refine Ends.step (fun _ k => XS.iadd X97.here hx rfl (hb hby d10_20) rfl k) ?_
  show Ends p e below QQ (T97.setTop (mkF m 21 #[.val (.ref o0), .val (.ref o1), .val (.int (8 : Int32))] [(.int (26 : Int32)), (.ref o0)]))
  obtain ⟨cq98, q98, q98'⟩ := E_o0.cell
  obtain ⟨_, _, ⟨T98, L98, k98, n98⟩, -, X98, ⟨Lc98, hQ98, l98, y98, z98⟩, st98⟩ := X97.privateBack hx (y := (⟨"java/lang/AbstractStringBuilder", "ensureCapacityInternal", "(I)V"⟩ : MethodName)) hown (mvT hZ (hw _ (List.mem_of_getElem? (i := 81) rfl))) (mvT hZ (hw _ (List.mem_of_getElem? (i := 82) rfl))) (mvT hZ (own_selq (y := (⟨"java/lang/AbstractStringBuilder", "ensureCapacityInternal", "(I)V"⟩ : MethodName)) (hw _ (List.mem_of_getElem? (i := 84) rfl)) rfl (hw _ (List.mem_of_getElem? (i := 83) rfl)) (hw _ (List.mem_of_getElem? (i := 82) rfl)) (by decide))) (Cond.privateMethod_at (mvP hZ (hw _ (List.mem_of_getElem? (i := 83) rfl)) (args := #[]))) (mvT hZ (hw _ (List.mem_of_getElem? (i := 85) rfl))) (by decide) (backOf (W := 0) (rmens26_34 l Z a0 hw [] o0 vb kb [(.int x0), (.int x1), (.int x2), (.int x3), (.int x4), (.int x5), (.int x6), (.int x7), (.int x8), (.int x9), (.int x10), (.int x11), (.int x12), (.int x13), (.int x14), (.int x15), (.int x16), (.int x17), (.int (0 : Int32)), (.int (0 : Int32)), (.int (0 : Int32)), (.int (0 : Int32)), (.int (0 : Int32)), (.int (0 : Int32)), (.int (0 : Int32)), (.int (0 : Int32)), (.int (0 : Int32)), (.int (0 : Int32)), (.int (0 : Int32)), (.int (0 : Int32)), (.int (0 : Int32)), (.int (0 : Int32)), (.int (0 : Int32)), (.int (0 : Int32))] h0 n0 (Nat.le_trans Z0 (Keep.refl h0 [o0, vb]).1) F_value_o0 F_coder_o0 A_vb) hZ (hw _ (List.mem_of_getElem? (i := 85) rfl)) (hw _ (List.mem_of_getElem? (i := 40) rfl)) (by decide) (by decide)) (g := (mkF m 21 #[.val (.ref o0), .val (.ref o1), .val (.int (8 : Int32))] [(.int (26 : Int32)), (.ref o0)])) rfl (by rw [hml]; rfl) (Steps.refl _) (a := o0) (by rw [e97]; exact q98) q98' (argsL := [(.int (26 : Int32))]) (rest := []) (lenOf pd_5 rfl) rfl (by show 2 * 0 + _ ≤ _; exact Nat.le_of_eq rfl) (hb hby d10_21) (fun _ _ => ⟨rfl, e97, (by decide : 0 + 0 ≤ _), (by decide : 0 + 0 ≤ _)⟩)
  dsimp only [Pt.U, Pt.locs, Pt.cells, Pt.slots] at X98 l98 y98 z98 st98 hQ98
  subst l98 y98 z98
  obtain ⟨rfl, Nq98, hh98⟩ := hQ98
  have N98 := Fr.app N96 Nq98
  refine Ends.step (fun _ k => st98.trans k) ?_
  show Ends p e below QQ (T98.setTop (mkF m 24 #[.val (.ref o0), .val (.ref o1), .val (.int (8 : Int32))] []))
  refine Ends.step (fun _ k => XS.aloadN X98.here hx rfl (hb hby d10_24) rfl rfl k) ?_
  show Ends p e below QQ (T98.setTop (mkF m 25 #[.val (.ref o0), .val (.ref o1), .val (.int (8 : Int32))] [(.ref o0)]))
  refine Ends.step (fun _ k => XS.aloadN X98.here hx rfl (hb hby d10_25) rfl rfl k) ?_
  show Ends p e below QQ (T98.setTop (mkF m 26 #[.val (.ref o0), .val (.ref o1), .val (.int (8 : Int32))] [(.ref o0), (.ref o0)]))
  obtain ⟨T99, X99, e99, st99⟩ := getF X98 hx hZ hown (host := "") (Or.inl (hw _ (List.mem_of_getElem? (i := 79) rfl))) Via.refl hh98 F_count_o0 (g := (mkF m 26 #[.val (.ref o0), .val (.ref o1), .val (.int (8 : Int32))] [(.ref o0), (.ref o0)])) rfl rfl (hb hby d10_26)
  refine Ends.step st99 ?_
  show Ends p e below QQ (T99.setTop (mkF m 29 #[.val (.ref o0), .val (.ref o1), .val (.int (8 : Int32))] [(.int (18 : Int32)), (.ref o0)]))
  refine Ends.step (fun _ k => XS.aloadN X99.here hx rfl (hb hby d10_29) rfl rfl k) ?_
  show Ends p e below QQ (T99.setTop (mkF m 30 #[.val (.ref o0), .val (.ref o1), .val (.int (8 : Int32))] [(.ref o1), (.int (18 : Int32)), (.ref o0)]))
  obtain ⟨cq100, q100, q100'⟩ := E_o0.cell
  obtain ⟨_, _, ⟨T100, L100, k100, n100⟩, -, X100, ⟨Lc100, hQ100, l100, y100, z100⟩, st100⟩ := X99.privateBack hx (y := (⟨"java/lang/AbstractStringBuilder", "putStringAt", "(ILjava/lang/String;)V"⟩ : MethodName)) hown (mvT hZ (hw _ (List.mem_of_getElem? (i := 86) rfl))) (mvT hZ (hw _ (List.mem_of_getElem? (i := 87) rfl))) (mvT hZ (own_selq (y := (⟨"java/lang/AbstractStringBuilder", "putStringAt", "(ILjava/lang/String;)V"⟩ : MethodName)) (hw _ (List.mem_of_getElem? (i := 84) rfl)) rfl (hw _ (List.mem_of_getElem? (i := 88) rfl)) (hw _ (List.mem_of_getElem? (i := 87) rfl)) (by decide))) (Cond.privateMethod_at (mvP hZ (hw _ (List.mem_of_getElem? (i := 88) rfl)) (args := #[]))) (mvT hZ (hw _ (List.mem_of_getElem? (i := 90) rfl))) (by decide) (backOf (W := 0) (rmpsC l Z a0 hw [] o0 o1 vb kb tt kt cs x0 x1 x2 x3 x4 x5 x6 x7 x8 x9 x10 x11 x12 x13 x14 x15 x16 x17 y0 y1 y2 y3 y4 y5 y6 y7 h0 n0 (Nat.le_trans Z0 (Keep.refl h0 [o0, vb]).1) E_o0 F_value_o0 F_coder_o0 F_count_o0 E_vb A_vb g_o0 g_vb ne_o0_vb E_o1 F_value_o1 F_coder_o1 A_tt ne_vb_tt ne_vb_o1 S_COMPACT_STRINGS hcs) hZ (hw _ (List.mem_of_getElem? (i := 90) rfl)) (hw _ (List.mem_of_getElem? (i := 40) rfl)) (by decide) (by decide)) (g := (mkF m 30 #[.val (.ref o0), .val (.ref o1), .val (.int (8 : Int32))] [(.ref o1), (.int (18 : Int32)), (.ref o0)])) rfl (by rw [hml]; rfl) (Steps.refl _) (a := o0) (by rw [e99]; exact q100) q100' (argsL := [(.int (18 : Int32)), (.ref o1)]) (rest := []) (lenOf pd_9 rfl) rfl (by show 2 * 0 + _ ≤ _; exact Nat.le_of_eq rfl) (hb hby d10_30) (fun _ _ => ⟨rfl, e99, (by decide : 0 + 0 ≤ _), (by decide : 0 + 0 ≤ _)⟩)
  dsimp only [Pt.U, Pt.locs, Pt.cells, Pt.slots] at X100 l100 y100 z100 st100 hQ100
  subst l100 y100 z100
  obtain ⟨rfl, Nq100, Kq100, fq100_0⟩ := hQ100
  have N100 := Fr.app N98 Nq100
  have S_COMPACT_STRINGS := own_sta_keep S_COMPACT_STRINGS Kq100 (allS E_vb.cell all0)
  have E_o0 := E_o0.keep Kq100
  have F_value_o0 := F_value_o0.keep Kq100 (ninS ne_o0_vb nin0)
  have F_coder_o0 := F_coder_o0.keep Kq100 (ninS ne_o0_vb nin0)
  have F_count_o0 := F_count_o0.keep Kq100 (ninS ne_o0_vb nin0)
  have E_vb := E_vb.keep Kq100
  have E_o1 := E_o1.keep Kq100
  have F_value_o1 := F_value_o1.keep Kq100 (ninS (Ne.symm ne_vb_o1) nin0)
  have F_coder_o1 := F_coder_o1.keep Kq100 (ninS (Ne.symm ne_vb_o1) nin0)
  have A_tt := A_tt.keep Kq100 (ninS (Ne.symm ne_vb_tt) nin0)
  have A_vb := fq100_0
  have K100 := (Keep.refl h0 [o0, vb]).trans Kq100 (allS (Or.inl (List.mem_of_getElem? (i := 1) rfl)) all0)
  refine Ends.step (fun _ k => st100.trans k) ?_
  show Ends p e below QQ (T100.setTop (mkF m 33 #[.val (.ref o0), .val (.ref o1), .val (.int (8 : Int32))] []))
  refine Ends.step (fun _ k => XS.aloadN X100.here hx rfl (hb hby d10_33) rfl rfl k) ?_
  show Ends p e below QQ (T100.setTop (mkF m 34 #[.val (.ref o0), .val (.ref o1), .val (.int (8 : Int32))] [(.ref o0)]))
  refine Ends.step (fun _ k => XS.dup X100.here hx rfl (hb hby d10_34) rfl rfl k) ?_
  show Ends p e below QQ (T100.setTop (mkF m 35 #[.val (.ref o0), .val (.ref o1), .val (.int (8 : Int32))] [(.ref o0), (.ref o0)]))
  obtain ⟨T101, X101, e101, st101⟩ := getF X100 hx hZ hown (host := "") (Or.inl (hw _ (List.mem_of_getElem? (i := 79) rfl))) Via.refl rfl F_count_o0 (g := (mkF m 35 #[.val (.ref o0), .val (.ref o1), .val (.int (8 : Int32))] [(.ref o0), (.ref o0)])) rfl rfl (hb hby d10_35)
  refine Ends.step st101 ?_
  show Ends p e below QQ (T101.setTop (mkF m 38 #[.val (.ref o0), .val (.ref o1), .val (.int (8 : Int32))] [(.int (18 : Int32)), (.ref o0)]))
  refine Ends.step (fun _ k => XS.iloadN X101.here hx rfl (hb hby d10_38) rfl k) ?_
  show Ends p e below QQ (T101.setTop (mkF m 39 #[.val (.ref o0), .val (.ref o1), .val (.int (8 : Int32))] [(.int (8 : Int32)), (.int (18 : Int32)), (.ref o0)]))
  refine Ends.step (fun _ k => XS.iadd X101.here hx rfl (hb hby d10_39) rfl k) ?_
  show Ends p e below QQ (T101.setTop (mkF m 40 #[.val (.ref o0), .val (.ref o1), .val (.int (8 : Int32))] [(.int (26 : Int32)), (.ref o0)]))
  obtain ⟨T102, h102, X102, e102, W102, st102⟩ := putF X101 hx hZ hown (host := "") (Or.inl (hw _ (List.mem_of_getElem? (i := 79) rfl))) Via.refl e101 F_count_o0 E_o0 (Or.inl (hw _ (List.mem_of_getElem? (i := 80) rfl))) (hw _ (List.mem_of_getElem? (i := 31) rfl)) (ty := .int) (by decide) rfl rfl (g := (mkF m 40 #[.val (.ref o0), .val (.ref o1), .val (.int (8 : Int32))] [(.int (26 : Int32)), (.ref o0)])) rfl rfl (hb hby d10_40)
  have E_o0 := E_o0.wr W102
  have F_value_o0 := F_value_o0.other W102 (Or.inr (slot_ne (Or.inl (hw _ (List.mem_of_getElem? (i := 47) rfl))) (Or.inl (hw _ (List.mem_of_getElem? (i := 80) rfl))) (by decide) (t := (.array .byte)) (t' := .int) (by decide) (by decide)))
  have F_coder_o0 := F_coder_o0.other W102 (Or.inr (slot_ne (Or.inl (hw _ (List.mem_of_getElem? (i := 49) rfl))) (Or.inl (hw _ (List.mem_of_getElem? (i := 80) rfl))) (by decide) (t := .byte) (t' := .int) (by decide) (by decide)))
  have E_vb := E_vb.wr W102
  have A_vb := A_vb.other W102 (Ne.symm ne_o0_vb)
  have E_o1 := E_o1.wr W102
  have F_value_o1 := F_value_o1.other W102 (Or.inl (Ne.symm ne_o0_o1))
  have F_coder_o1 := F_coder_o1.other W102 (Or.inl (Ne.symm ne_o0_o1))
  have A_tt := A_tt.other W102 (Ne.symm ne_o0_tt)
  have S_COMPACT_STRINGS := S_COMPACT_STRINGS.wr W102
  have F_count_o0 : Fld Z h102 o0 "java/lang/AbstractStringBuilder" "count" "I" (.int (26 : Int32)) := F_count_o0.same W102
  have K102 := K100.wr W102 (Or.inl (List.mem_of_getElem? (i := 0) rfl))
  have N102 := Fr.snoc X102 N100 g_o0
  refine Ends.step st102 ?_
  show Ends p e below QQ (T102.setTop (mkF m 43 #[.val (.ref o0), .val (.ref o1), .val (.int (8 : Int32))] []))
  refine Ends.step (fun _ k => XS.aloadN X102.here hx rfl (hb hby d10_43) rfl rfl k) ?_
  show Ends p e below QQ (T102.setTop (mkF m 44 #[.val (.ref o0), .val (.ref o1), .val (.int (8 : Int32))] [(.ref o0)]))
  exact Ends.fin (some (.ref o0)) X102 hQQ (fun h => by rw [Bd.returns] at h; cases h) Bd.notSynchronized (fun _ hr => retOut X102 hx (t := (.object "java/lang/AbstractStringBuilder")) Bd.returns rfl (Or.inr (Or.inr (Or.inr (Or.inr ⟨rfl, rfl, rfl⟩)))) (hb hby d10_44) hr) e102 (by decide) (by decide) ⟨rfl, N102, K102, E_o0, F_value_o0, F_coder_o0, F_count_o0, A_vb, E_vb⟩
theorem ef_spsC (m : MethodId) (x0 : Addr) (x1 : Addr) : entryFrame m #[(.ref x0), (.ref x1)] 2 = mkF m 0 #[.val (.ref x0), .val (.ref x1)] [] := by first | (simp [entryFrame, mkF, argsToLocals, Value.category]; done) | rfl
def QspsC (Z : State) (o0 : Addr) (o1 : Addr) (vb : Addr) (kb : ClassId) (tt : Addr) (kt : ClassId) (cs : Int32) (x0 : Int32) (x1 : Int32) (x2 : Int32) (x3 : Int32) (x4 : Int32) (x5 : Int32) (x6 : Int32) (x7 : Int32) (x8 : Int32) (x9 : Int32) (x10 : Int32) (x11 : Int32) (x12 : Int32) (x13 : Int32) (x14 : Int32) (x15 : Int32) (x16 : Int32) (x17 : Int32) (y0 : Int32) (y1 : Int32) (y2 : Int32) (y3 : Int32) (y4 : Int32) (y5 : Int32) (y6 : Int32) (y7 : Int32) (h0 : Heap) (n0 : Nat) (v : Option Value) (h : Heap) (L : List Loc) : Prop := (v = some (.ref o0)) ∧ (Fr n0 L) ∧ (Keep h0 h [o0, vb]) ∧ (Exa Z h o0 "java/lang/StringBuilder") ∧ (Fld Z h o0 "java/lang/AbstractStringBuilder" "value" "[B" (.ref vb)) ∧ (Fld Z h o0 "java/lang/AbstractStringBuilder" "coder" "B" (.int (0 : Int32))) ∧ (Fld Z h o0 "java/lang/AbstractStringBuilder" "count" "I" (.int (26 : Int32))) ∧ (Arv Z h vb kb .byte (34 : Int32) [(.int x0), (.int x1), (.int x2), (.int x3), (.int x4), (.int x5), (.int x6), (.int x7), (.int x8), (.int x9), (.int x10), (.int x11), (.int x12), (.int x13), (.int x14), (.int x15), (.int x16), (.int x17), (.int y0), (.int y1), (.int y2), (.int y3), (.int y4), (.int y5), (.int y6), (.int y7), (.int (0 : Int32)), (.int (0 : Int32)), (.int (0 : Int32)), (.int (0 : Int32)), (.int (0 : Int32)), (.int (0 : Int32)), (.int (0 : Int32)), (.int (0 : Int32))] (.int (0 : Int32))) ∧ (Exa Z h vb "[B")
set_option maxRecDepth 65536 in
set_option maxHeartbeats 40000000 in
theorem rmspsC (l : Launch) (Z : State) (a0 : Array Value) (hw : ∀ d ∈ tables_1, d.before a0 Z = true) (ws : List Jvm.Cond) (o0 : Addr) (o1 : Addr) (vb : Addr) (kb : ClassId) (tt : Addr) (kt : ClassId) (cs : Int32) (x0 : Int32) (x1 : Int32) (x2 : Int32) (x3 : Int32) (x4 : Int32) (x5 : Int32) (x6 : Int32) (x7 : Int32) (x8 : Int32) (x9 : Int32) (x10 : Int32) (x11 : Int32) (x12 : Int32) (x13 : Int32) (x14 : Int32) (x15 : Int32) (x16 : Int32) (x17 : Int32) (y0 : Int32) (y1 : Int32) (y2 : Int32) (y3 : Int32) (y4 : Int32) (y5 : Int32) (y6 : Int32) (y7 : Int32) (h0 : Heap) (n0 : Nat) (Z0 : n0 ≤ h0.size) (E_o0 : Exa Z h0 o0 "java/lang/StringBuilder") (F_value_o0 : Fld Z h0 o0 "java/lang/AbstractStringBuilder" "value" "[B" (.ref vb)) (F_coder_o0 : Fld Z h0 o0 "java/lang/AbstractStringBuilder" "coder" "B" (.int (0 : Int32))) (F_count_o0 : Fld Z h0 o0 "java/lang/AbstractStringBuilder" "count" "I" (.int (18 : Int32))) (E_vb : Exa Z h0 vb "[B") (A_vb : Arv Z h0 vb kb .byte (34 : Int32) [(.int x0), (.int x1), (.int x2), (.int x3), (.int x4), (.int x5), (.int x6), (.int x7), (.int x8), (.int x9), (.int x10), (.int x11), (.int x12), (.int x13), (.int x14), (.int x15), (.int x16), (.int x17), (.int (0 : Int32)), (.int (0 : Int32)), (.int (0 : Int32)), (.int (0 : Int32)), (.int (0 : Int32)), (.int (0 : Int32)), (.int (0 : Int32)), (.int (0 : Int32)), (.int (0 : Int32)), (.int (0 : Int32)), (.int (0 : Int32)), (.int (0 : Int32)), (.int (0 : Int32)), (.int (0 : Int32)), (.int (0 : Int32)), (.int (0 : Int32))] (.int (0 : Int32))) (g_o0 : n0 ≤ o0) (g_vb : n0 ≤ vb) (ne_o0_vb : o0 ≠ vb) (E_o1 : Exa Z h0 o1 "java/lang/String") (F_value_o1 : Fld Z h0 o1 "java/lang/String" "value" "[B" (.ref tt)) (F_coder_o1 : Fld Z h0 o1 "java/lang/String" "coder" "B" (.int (0 : Int32))) (A_tt : Arv Z h0 tt kt .byte (8 : Int32) [(.int y0), (.int y1), (.int y2), (.int y3), (.int y4), (.int y5), (.int y6), (.int y7)] (.int (0 : Int32))) (ne_vb_tt : vb ≠ tt) (ne_o0_tt : o0 ≠ tt) (ne_o0_o1 : o0 ≠ o1) (ne_vb_o1 : vb ≠ o1) (S_COMPACT_STRINGS : Sta Z h0 "java/lang/String" "COMPACT_STRINGS" "Z" (.int cs)) (hcs : ¬ cs = (0 : Int32)) :
    MetFree l (⟨"java/lang/StringBuilder", "append", "(Ljava/lang/String;)Ljava/lang/StringBuilder;"⟩ : MethodName) (head1 (Jvm.Cond.code (⟨"java/lang/StringBuilder", "append", "(Ljava/lang/String;)Ljava/lang/StringBuilder;"⟩ : MethodName) jdk_67_method_7_code 2 (some (.object "java/lang/StringBuilder")) :: ws) ({ frames := 4, cells := 0, slots := 0, locals := 67 } : Room)) (fun a U => a = #[(.ref o0), (.ref o1)] ∧ Z.Warmed39 U.vm ∧ U.heap = h0) (fun _ _ _ _ _ => True) (fun _ U o U' => ∃ v L, o = .returned v ∧ QspsC Z o0 o1 vb kb tt kt cs x0 x1 x2 x3 x4 x5 x6 x7 x8 x9 x10 x11 x12 x13 x14 x15 x16 x17 y0 y1 y2 y3 y4 y5 y6 y7 h0 n0 v U'.heap L ∧ FrameEnd U o U' L ({ frames := 4, cells := 0, slots := 0, locals := 67 } : Room).cells ({ frames := 4, cells := 0, slots := 0, locals := 67 } : Room).slots) := by
  refine MetFree.of_bodySF (plainFor_of_name pn_4) hisR ?_
  intro p e s m args below meth c s₁ Bd hml0 hP hK
  obtain ⟨rfl, hZ, hh⟩ := hP
  have hx := Bd.exec
  have hby := Bd.bytes
  have hml : c.maxLocals = 2 := hml0
  have hown : s.vm.findClass "java/lang/StringBuilder" = some m.cls := findClass_of_methodNamed Bd.named
  have hnm := (name_of_methodNamed Bd.named Bd.method).1
  have X0 : Stand p l e ({ frames := 4, cells := 0, slots := 0, locals := 67 } : Room) s m #[(.ref o0), (.ref o1)] below meth c s₁ [] 0 0 := Stand.of_body Bd
  have e0 : s₁.heap = h0 := by rw [← hh, Bd.state]; rfl
  have N0 := Fr.nil n0
  refine Ends.opn ?_
  intro QQ hQQ
  refine Ends.step (S' := s₁.setTop (mkF m 0 #[.val (.ref o0), .val (.ref o1)] [])) (fun t k => castTop (ef_spsC m o0 o1) k) ?_
  show Ends p e below QQ (s₁.setTop (mkF m 0 #[.val (.ref o0), .val (.ref o1)] []))
  refine Ends.step (fun _ k => XS.aloadN X0.here hx rfl (hb hby d9_0) rfl rfl k) ?_
  show Ends p e below QQ (s₁.setTop (mkF m 1 #[.val (.ref o0), .val (.ref o1)] [(.ref o0)]))
  refine Ends.step (fun _ k => XS.aloadN X0.here hx rfl (hb hby d9_1) rfl rfl k) ?_
  show Ends p e below QQ (s₁.setTop (mkF m 2 #[.val (.ref o0), .val (.ref o1)] [(.ref o1), (.ref o0)]))
  obtain ⟨_, _, ⟨T103, L103, k103, n103⟩, -, X103, ⟨Lc103, hQ103, l103, y103, z103⟩, st103⟩ := superBack X0 hx hZ (y := (⟨"java/lang/AbstractStringBuilder", "append", "(Ljava/lang/String;)Ljava/lang/AbstractStringBuilder;"⟩ : MethodName)) hown (hw _ (List.mem_of_getElem? (i := 61) rfl)) (own_same (hw _ (List.mem_of_getElem? (i := 62) rfl)) (by decide) (hw _ (List.mem_of_getElem? (i := 84) rfl)) rfl) (hw _ (List.mem_of_getElem? (i := 62) rfl)) (hw _ (List.mem_of_getElem? (i := 63) rfl)) (by decide) (backOf (W := 0) (rmapsC l Z a0 hw [] o0 o1 vb kb tt kt cs x0 x1 x2 x3 x4 x5 x6 x7 x8 x9 x10 x11 x12 x13 x14 x15 x16 x17 y0 y1 y2 y3 y4 y5 y6 y7 h0 n0 (Nat.le_trans Z0 (Keep.refl h0 [o0, vb]).1) E_o0 F_value_o0 F_coder_o0 F_count_o0 E_vb A_vb g_o0 g_vb ne_o0_vb E_o1 F_value_o1 F_coder_o1 A_tt ne_vb_tt ne_o0_tt ne_o0_o1 ne_vb_o1 S_COMPACT_STRINGS hcs) hZ (hw _ (List.mem_of_getElem? (i := 65) rfl)) (hw _ (List.mem_of_getElem? (i := 40) rfl)) (by decide) (by decide)) e0 (Ins.self E_o0) (g := (mkF m 2 #[.val (.ref o0), .val (.ref o1)] [(.ref o1), (.ref o0)])) rfl (by rw [hml]; rfl) (hw _ (List.mem_of_getElem? (i := 65) rfl)) (argsL := [(.ref o1)]) (rest := []) (lenOf pd_10 rfl) rfl (by show 2 * 0 + _ ≤ _; exact Nat.le_of_eq rfl) (hb hby d9_2) (fun _ _ => ⟨rfl, e0, (by decide : 0 + 0 ≤ _), (by decide : 0 + 0 ≤ _)⟩)
  dsimp only [Pt.U, Pt.locs, Pt.cells, Pt.slots] at X103 l103 y103 z103 st103 hQ103
  subst l103 y103 z103
  obtain ⟨rfl, Nq103, Kq103, fq103_0, fq103_1, fq103_2, fq103_3, fq103_4, fq103_5⟩ := hQ103
  have N103 := Fr.app N0 Nq103
  have S_COMPACT_STRINGS := own_sta_keep S_COMPACT_STRINGS Kq103 (allS E_o0.cell (allS E_vb.cell all0))
  have E_o1 := E_o1.keep Kq103
  have F_value_o1 := F_value_o1.keep Kq103 (ninS (Ne.symm ne_o0_o1) (ninS (Ne.symm ne_vb_o1) nin0))
  have F_coder_o1 := F_coder_o1.keep Kq103 (ninS (Ne.symm ne_o0_o1) (ninS (Ne.symm ne_vb_o1) nin0))
  have A_tt := A_tt.keep Kq103 (ninS (Ne.symm ne_o0_tt) (ninS (Ne.symm ne_vb_tt) nin0))
  have E_o0 := fq103_0
  have F_value_o0 := fq103_1
  have F_coder_o0 := fq103_2
  have F_count_o0 := fq103_3
  have A_vb := fq103_4
  have E_vb := fq103_5
  have K103 := (Keep.refl h0 [o0, vb]).trans Kq103 (allS (Or.inl (List.mem_of_getElem? (i := 0) rfl)) (allS (Or.inl (List.mem_of_getElem? (i := 1) rfl)) all0))
  refine Ends.step (fun _ k => st103.trans k) ?_
  show Ends p e below QQ (T103.setTop (mkF m 5 #[.val (.ref o0), .val (.ref o1)] [(.ref o0)]))
  refine Ends.step (fun _ k => XT.pop X103.here hx rfl (hb hby d9_5) rfl rfl k) ?_
  show Ends p e below QQ (T103.setTop (mkF m 6 #[.val (.ref o0), .val (.ref o1)] []))
  refine Ends.step (fun _ k => XS.aloadN X103.here hx rfl (hb hby d9_6) rfl rfl k) ?_
  show Ends p e below QQ (T103.setTop (mkF m 7 #[.val (.ref o0), .val (.ref o1)] [(.ref o0)]))
  exact Ends.fin (some (.ref o0)) X103 hQQ (fun h => by rw [Bd.returns] at h; cases h) Bd.notSynchronized (fun _ hr => retOut X103 hx (t := (.object "java/lang/StringBuilder")) Bd.returns rfl (Or.inr (Or.inr (Or.inr (Or.inr ⟨rfl, rfl, rfl⟩)))) (hb hby d9_7) hr) rfl (by decide) (by decide) ⟨rfl, N103, K103, E_o0, F_value_o0, F_coder_o0, F_count_o0, A_vb, E_vb⟩
theorem d30_0 : decode jdk_68_method_64_code 0 = .ok (.aload_n 0, 1) := by decide +kernel
theorem d30_1 : decode jdk_68_method_64_code 1 = .ok (.getfield 15, 3) := by decide +kernel
theorem d30_4 : decode jdk_68_method_64_code 4 = .ok (.areturn, 1) := by decide +kernel
theorem ef_gv (m : MethodId) (x0 : Addr) : entryFrame m #[(.ref x0)] 1 = mkF m 0 #[.val (.ref x0)] [] := by first | (simp [entryFrame, mkF, argsToLocals, Value.category]; done) | rfl
def Qgv (Z : State) (o0 : Addr) (vb : Addr) (h0 : Heap) (n0 : Nat) (v : Option Value) (h : Heap) (L : List Loc) : Prop := (v = some (.ref vb)) ∧ (Fr n0 L) ∧ (h = h0)
set_option maxRecDepth 65536 in
set_option maxHeartbeats 40000000 in
theorem rmgv (l : Launch) (Z : State) (a0 : Array Value) (hw : ∀ d ∈ tables_1, d.before a0 Z = true) (ws : List Jvm.Cond) (o0 : Addr) (vb : Addr) (h0 : Heap) (n0 : Nat) (Z0 : n0 ≤ h0.size) (F_value_o0 : Fld Z h0 o0 "java/lang/AbstractStringBuilder" "value" "[B" (.ref vb)) :
    MetFree l (⟨"java/lang/AbstractStringBuilder", "getValue", "()[B"⟩ : MethodName) (head1 (Jvm.Cond.code (⟨"java/lang/AbstractStringBuilder", "getValue", "()[B"⟩ : MethodName) jdk_68_method_64_code 1 (some (.array .byte)) :: ws) ({ frames := 0, cells := 0, slots := 0, locals := 0 } : Room)) (fun a U => a = #[(.ref o0)] ∧ Z.Warmed39 U.vm ∧ U.heap = h0) (fun _ _ _ _ _ => True) (fun _ U o U' => ∃ v L, o = .returned v ∧ Qgv Z o0 vb h0 n0 v U'.heap L ∧ FrameEnd U o U' L ({ frames := 0, cells := 0, slots := 0, locals := 0 } : Room).cells ({ frames := 0, cells := 0, slots := 0, locals := 0 } : Room).slots) := by
  refine MetFree.of_bodySF (plainFor_of_name pn_3) hisR ?_
  intro p e s m args below meth c s₁ Bd hml0 hP hK
  obtain ⟨rfl, hZ, hh⟩ := hP
  have hx := Bd.exec
  have hby := Bd.bytes
  have hml : c.maxLocals = 1 := hml0
  have hown : s.vm.findClass "java/lang/AbstractStringBuilder" = some m.cls := findClass_of_methodNamed Bd.named
  have hnm := (name_of_methodNamed Bd.named Bd.method).1
  have X0 : Stand p l e ({ frames := 0, cells := 0, slots := 0, locals := 0 } : Room) s m #[(.ref o0)] below meth c s₁ [] 0 0 := Stand.of_body Bd
  have e0 : s₁.heap = h0 := by rw [← hh, Bd.state]; rfl
  have N0 := Fr.nil n0
  refine Ends.opn ?_
  intro QQ hQQ
  refine Ends.step (S' := s₁.setTop (mkF m 0 #[.val (.ref o0)] [])) (fun t k => castTop (ef_gv m o0) k) ?_
  show Ends p e below QQ (s₁.setTop (mkF m 0 #[.val (.ref o0)] []))
  refine Ends.step (fun _ k => XS.aloadN X0.here hx rfl (hb hby d30_0) rfl rfl k) ?_
  show Ends p e below QQ (s₁.setTop (mkF m 1 #[.val (.ref o0)] [(.ref o0)]))
  obtain ⟨T104, X104, e104, st104⟩ := getF X0 hx hZ hown (host := "") (Or.inl (hw _ (List.mem_of_getElem? (i := 46) rfl))) Via.refl e0 F_value_o0 (g := (mkF m 1 #[.val (.ref o0)] [(.ref o0)])) rfl rfl (hb hby d30_1)
  refine Ends.step st104 ?_
  show Ends p e below QQ (T104.setTop (mkF m 4 #[.val (.ref o0)] [(.ref vb)]))
  exact Ends.fin (some (.ref vb)) X104 hQQ (fun h => by rw [Bd.returns] at h; cases h) Bd.notSynchronized (fun _ hr => retOut X104 hx (t := (.array .byte)) Bd.returns rfl (Or.inr (Or.inr (Or.inr (Or.inr ⟨rfl, rfl, rfl⟩)))) (hb hby d30_4) hr) e104 (by decide) (by decide) ⟨rfl, N0, rfl⟩
theorem d32_0 : decode jdk_68_method_6_code 0 = .ok (.aload_n 0, 1) := by decide +kernel
theorem d32_1 : decode jdk_68_method_6_code 1 = .ok (.getfield 79, 3) := by decide +kernel
theorem d32_4 : decode jdk_68_method_6_code 4 = .ok (.ireturn, 1) := by decide +kernel
theorem ef_asl (m : MethodId) (x0 : Addr) : entryFrame m #[(.ref x0)] 1 = mkF m 0 #[.val (.ref x0)] [] := by first | (simp [entryFrame, mkF, argsToLocals, Value.category]; done) | rfl
def Qasl (Z : State) (o0 : Addr) (u : Int32) (h0 : Heap) (n0 : Nat) (v : Option Value) (h : Heap) (L : List Loc) : Prop := (v = some (.int u)) ∧ (Fr n0 L) ∧ (h = h0)
set_option maxRecDepth 65536 in
set_option maxHeartbeats 40000000 in
theorem rmasl (l : Launch) (Z : State) (a0 : Array Value) (hw : ∀ d ∈ tables_1, d.before a0 Z = true) (ws : List Jvm.Cond) (o0 : Addr) (u : Int32) (h0 : Heap) (n0 : Nat) (Z0 : n0 ≤ h0.size) (F_count_o0 : Fld Z h0 o0 "java/lang/AbstractStringBuilder" "count" "I" (.int u)) :
    MetFree l (⟨"java/lang/AbstractStringBuilder", "length", "()I"⟩ : MethodName) (head1 (Jvm.Cond.code (⟨"java/lang/AbstractStringBuilder", "length", "()I"⟩ : MethodName) jdk_68_method_6_code 1 (some .int) :: ws) ({ frames := 0, cells := 0, slots := 0, locals := 0 } : Room)) (fun a U => a = #[(.ref o0)] ∧ Z.Warmed39 U.vm ∧ U.heap = h0) (fun _ _ _ _ _ => True) (fun _ U o U' => ∃ v L, o = .returned v ∧ Qasl Z o0 u h0 n0 v U'.heap L ∧ FrameEnd U o U' L ({ frames := 0, cells := 0, slots := 0, locals := 0 } : Room).cells ({ frames := 0, cells := 0, slots := 0, locals := 0 } : Room).slots) := by
  refine MetFree.of_bodySF (plainFor_of_name pn_3) hisR ?_
  intro p e s m args below meth c s₁ Bd hml0 hP hK
  obtain ⟨rfl, hZ, hh⟩ := hP
  have hx := Bd.exec
  have hby := Bd.bytes
  have hml : c.maxLocals = 1 := hml0
  have hown : s.vm.findClass "java/lang/AbstractStringBuilder" = some m.cls := findClass_of_methodNamed Bd.named
  have hnm := (name_of_methodNamed Bd.named Bd.method).1
  have X0 : Stand p l e ({ frames := 0, cells := 0, slots := 0, locals := 0 } : Room) s m #[(.ref o0)] below meth c s₁ [] 0 0 := Stand.of_body Bd
  have e0 : s₁.heap = h0 := by rw [← hh, Bd.state]; rfl
  have N0 := Fr.nil n0
  refine Ends.opn ?_
  intro QQ hQQ
  refine Ends.step (S' := s₁.setTop (mkF m 0 #[.val (.ref o0)] [])) (fun t k => castTop (ef_asl m o0) k) ?_
  show Ends p e below QQ (s₁.setTop (mkF m 0 #[.val (.ref o0)] []))
  refine Ends.step (fun _ k => XS.aloadN X0.here hx rfl (hb hby d32_0) rfl rfl k) ?_
  show Ends p e below QQ (s₁.setTop (mkF m 1 #[.val (.ref o0)] [(.ref o0)]))
  obtain ⟨T105, X105, e105, st105⟩ := getF X0 hx hZ hown (host := "") (Or.inl (hw _ (List.mem_of_getElem? (i := 79) rfl))) Via.refl e0 F_count_o0 (g := (mkF m 1 #[.val (.ref o0)] [(.ref o0)])) rfl rfl (hb hby d32_1)
  refine Ends.step st105 ?_
  show Ends p e below QQ (T105.setTop (mkF m 4 #[.val (.ref o0)] [(.int u)]))
  exact Ends.fin (some (.int u)) X105 hQQ (fun h => by rw [Bd.returns] at h; cases h) Bd.notSynchronized (fun _ hr => retOut X105 hx (t := .int) Bd.returns rfl (Or.inl ⟨rfl, Or.inl rfl, _, rfl⟩) (hb hby d32_4) hr) e105 (by decide) (by decide) ⟨rfl, N0, rfl⟩
theorem d31_0 : decode jdk_67_method_93_code 0 = .ok (.aload_n 0, 1) := by decide +kernel
theorem d31_1 : decode jdk_67_method_93_code 1 = .ok (.invokespecial 343, 3) := by decide +kernel
theorem d31_4 : decode jdk_67_method_93_code 4 = .ok (.ireturn, 1) := by decide +kernel
theorem ef_sbl (m : MethodId) (x0 : Addr) : entryFrame m #[(.ref x0)] 1 = mkF m 0 #[.val (.ref x0)] [] := by first | (simp [entryFrame, mkF, argsToLocals, Value.category]; done) | rfl
def Qsbl (Z : State) (o0 : Addr) (u : Int32) (h0 : Heap) (n0 : Nat) (v : Option Value) (h : Heap) (L : List Loc) : Prop := (v = some (.int u)) ∧ (Fr n0 L) ∧ (h = h0)
set_option maxRecDepth 65536 in
set_option maxHeartbeats 40000000 in
theorem rmsbl (l : Launch) (Z : State) (a0 : Array Value) (hw : ∀ d ∈ tables_1, d.before a0 Z = true) (ws : List Jvm.Cond) (o0 : Addr) (u : Int32) (h0 : Heap) (n0 : Nat) (Z0 : n0 ≤ h0.size) (E_o0 : Exa Z h0 o0 "java/lang/StringBuilder") (F_count_o0 : Fld Z h0 o0 "java/lang/AbstractStringBuilder" "count" "I" (.int u)) :
    MetFree l (⟨"java/lang/StringBuilder", "length", "()I"⟩ : MethodName) (head1 (Jvm.Cond.code (⟨"java/lang/StringBuilder", "length", "()I"⟩ : MethodName) jdk_67_method_93_code 1 (some .int) :: ws) ({ frames := 1, cells := 0, slots := 0, locals := 12 } : Room)) (fun a U => a = #[(.ref o0)] ∧ Z.Warmed39 U.vm ∧ U.heap = h0) (fun _ _ _ _ _ => True) (fun _ U o U' => ∃ v L, o = .returned v ∧ Qsbl Z o0 u h0 n0 v U'.heap L ∧ FrameEnd U o U' L ({ frames := 1, cells := 0, slots := 0, locals := 12 } : Room).cells ({ frames := 1, cells := 0, slots := 0, locals := 12 } : Room).slots) := by
  refine MetFree.of_bodySF (plainFor_of_name pn_4) hisR ?_
  intro p e s m args below meth c s₁ Bd hml0 hP hK
  obtain ⟨rfl, hZ, hh⟩ := hP
  have hx := Bd.exec
  have hby := Bd.bytes
  have hml : c.maxLocals = 1 := hml0
  have hown : s.vm.findClass "java/lang/StringBuilder" = some m.cls := findClass_of_methodNamed Bd.named
  have hnm := (name_of_methodNamed Bd.named Bd.method).1
  have X0 : Stand p l e ({ frames := 1, cells := 0, slots := 0, locals := 12 } : Room) s m #[(.ref o0)] below meth c s₁ [] 0 0 := Stand.of_body Bd
  have e0 : s₁.heap = h0 := by rw [← hh, Bd.state]; rfl
  have N0 := Fr.nil n0
  refine Ends.opn ?_
  intro QQ hQQ
  refine Ends.step (S' := s₁.setTop (mkF m 0 #[.val (.ref o0)] [])) (fun t k => castTop (ef_sbl m o0) k) ?_
  show Ends p e below QQ (s₁.setTop (mkF m 0 #[.val (.ref o0)] []))
  refine Ends.step (fun _ k => XS.aloadN X0.here hx rfl (hb hby d31_0) rfl rfl k) ?_
  show Ends p e below QQ (s₁.setTop (mkF m 1 #[.val (.ref o0)] [(.ref o0)]))
  obtain ⟨_, _, ⟨T106, L106, k106, n106⟩, -, X106, ⟨Lc106, hQ106, l106, y106, z106⟩, st106⟩ := superBack X0 hx hZ (y := (⟨"java/lang/AbstractStringBuilder", "length", "()I"⟩ : MethodName)) hown (hw _ (List.mem_of_getElem? (i := 183) rfl)) (own_same (hw _ (List.mem_of_getElem? (i := 179) rfl)) (by decide) (hw _ (List.mem_of_getElem? (i := 84) rfl)) rfl) (hw _ (List.mem_of_getElem? (i := 179) rfl)) (hw _ (List.mem_of_getElem? (i := 63) rfl)) (by decide) (backOf (W := 0) (rmasl l Z a0 hw [] o0 u h0 n0 (Nat.le_trans Z0 (Keep.refl h0 []).1) F_count_o0) hZ (hw _ (List.mem_of_getElem? (i := 184) rfl)) (hw _ (List.mem_of_getElem? (i := 40) rfl)) (by decide) (by decide)) e0 (Ins.self E_o0) (g := (mkF m 1 #[.val (.ref o0)] [(.ref o0)])) rfl (by rw [hml]; rfl) (hw _ (List.mem_of_getElem? (i := 184) rfl)) (argsL := []) (rest := []) (lenOf pd_8 rfl) rfl (by show 2 * 0 + _ ≤ _; exact Nat.le_of_eq rfl) (hb hby d31_1) (fun _ _ => ⟨rfl, e0, (by decide : 0 + 0 ≤ _), (by decide : 0 + 0 ≤ _)⟩)
  dsimp only [Pt.U, Pt.locs, Pt.cells, Pt.slots] at X106 l106 y106 z106 st106 hQ106
  subst l106 y106 z106
  obtain ⟨rfl, Nq106, hh106⟩ := hQ106
  have N106 := Fr.app N0 Nq106
  refine Ends.step (fun _ k => st106.trans k) ?_
  show Ends p e below QQ (T106.setTop (mkF m 4 #[.val (.ref o0)] [(.int u)]))
  exact Ends.fin (some (.int u)) X106 hQQ (fun h => by rw [Bd.returns] at h; cases h) Bd.notSynchronized (fun _ hr => retOut X106 hx (t := .int) Bd.returns rfl (Or.inl ⟨rfl, Or.inl rfl, _, rfl⟩) (hb hby d31_4) hr) hh106 (by decide) (by decide) ⟨rfl, N106, rfl⟩
theorem d35_0 : decode jdk_65_method_131_code 0 = .ok (.iload_n 1, 1) := by decide +kernel
theorem d35_1 : decode jdk_65_method_131_code 1 = .ok (.iload_n 0, 1) := by decide +kernel
theorem d35_2 : decode jdk_65_method_131_code 2 = .ok (.if_icmp .ge 35, 3) := by decide +kernel
theorem d35_37 : decode jdk_65_method_131_code 37 = .ok (.return_, 1) := by decide +kernel
theorem ef_ckl27 (m : MethodId)  : entryFrame m #[(.int (0 : Int32)), (.int (27 : Int32))] 2 = mkF m 0 #[.val (.int (0 : Int32)), .val (.int (27 : Int32))] [] := by first | (simp [entryFrame, mkF, argsToLocals, Value.category]; done) | rfl
def Qckl27 (Z : State)  (h0 : Heap) (n0 : Nat) (v : Option Value) (h : Heap) (L : List Loc) : Prop := (v = none) ∧ (Fr n0 L) ∧ (h = h0)
set_option maxRecDepth 65536 in
set_option maxHeartbeats 40000000 in
theorem rmckl27 (l : Launch) (Z : State) (a0 : Array Value) (hw : ∀ d ∈ tables_1, d.before a0 Z = true) (ws : List Jvm.Cond)  (h0 : Heap) (n0 : Nat) (Z0 : n0 ≤ h0.size) :
    MetFree l (⟨"java/util/Arrays", "checkLength", "(II)V"⟩ : MethodName) (head1 (Jvm.Cond.code (⟨"java/util/Arrays", "checkLength", "(II)V"⟩ : MethodName) jdk_65_method_131_code 2 none :: ws) ({ frames := 0, cells := 0, slots := 0, locals := 0 } : Room)) (fun a U => a = #[(.int (0 : Int32)), (.int (27 : Int32))] ∧ Z.Warmed39 U.vm ∧ U.heap = h0) (fun _ _ _ _ _ => True) (fun _ U o U' => ∃ v L, o = .returned v ∧ Qckl27 Z  h0 n0 v U'.heap L ∧ FrameEnd U o U' L ({ frames := 0, cells := 0, slots := 0, locals := 0 } : Room).cells ({ frames := 0, cells := 0, slots := 0, locals := 0 } : Room).slots) := by
  refine MetFree.of_bodySF (plainFor_of_name pn_6) hisR ?_
  intro p e s m args below meth c s₁ Bd hml0 hP hK
  obtain ⟨rfl, hZ, hh⟩ := hP
  have hx := Bd.exec
  have hby := Bd.bytes
  have hml : c.maxLocals = 2 := hml0
  have hown : s.vm.findClass "java/util/Arrays" = some m.cls := findClass_of_methodNamed Bd.named
  have hnm := (name_of_methodNamed Bd.named Bd.method).1
  have X0 : Stand p l e ({ frames := 0, cells := 0, slots := 0, locals := 0 } : Room) s m #[(.int (0 : Int32)), (.int (27 : Int32))] below meth c s₁ [] 0 0 := Stand.of_body Bd
  have e0 : s₁.heap = h0 := by rw [← hh, Bd.state]; rfl
  have N0 := Fr.nil n0
  refine Ends.opn ?_
  intro QQ hQQ
  refine Ends.step (S' := s₁.setTop (mkF m 0 #[.val (.int (0 : Int32)), .val (.int (27 : Int32))] [])) (fun t k => castTop (ef_ckl27 m ) k) ?_
  show Ends p e below QQ (s₁.setTop (mkF m 0 #[.val (.int (0 : Int32)), .val (.int (27 : Int32))] []))
  refine Ends.step (fun _ k => XS.iloadN X0.here hx rfl (hb hby d35_0) rfl k) ?_
  show Ends p e below QQ (s₁.setTop (mkF m 1 #[.val (.int (0 : Int32)), .val (.int (27 : Int32))] [(.int (27 : Int32))]))
  refine Ends.step (fun _ k => XS.iloadN X0.here hx rfl (hb hby d35_1) rfl k) ?_
  show Ends p e below QQ (s₁.setTop (mkF m 2 #[.val (.int (0 : Int32)), .val (.int (27 : Int32))] [(.int (0 : Int32)), (.int (27 : Int32))]))
  refine Ends.step (fun _ k => XS.icmpYes X0.here hx rfl (pc0 := 2) (pc' := 37) rfl (hb hby d35_2) rfl (XT.ii_ge_t (by decide)) (by decide) (by decide) k) ?_
  show Ends p e below QQ (s₁.setTop (mkF m 37 #[.val (.int (0 : Int32)), .val (.int (27 : Int32))] []))
  exact Ends.fin (none) X0 hQQ (fun _ => rfl) Bd.notSynchronized (fun _ hr => X0.returnOut hx Bd.returns (hb hby d35_37) hr) e0 (by decide) (by decide) ⟨rfl, N0, rfl⟩
theorem d26_9 : decode jdk_29_method_69_code 9 = .ok (.iload_n 1, 1) := by decide +kernel
theorem ef_mnt27 (m : MethodId)  : entryFrame m #[(.int (34 : Int32)), (.int (27 : Int32))] 2 = mkF m 0 #[.val (.int (34 : Int32)), .val (.int (27 : Int32))] [] := by first | (simp [entryFrame, mkF, argsToLocals, Value.category]; done) | rfl
def Qmnt27 (Z : State)  (h0 : Heap) (n0 : Nat) (v : Option Value) (h : Heap) (L : List Loc) : Prop := (v = some (.int (27 : Int32))) ∧ (Fr n0 L) ∧ (h = h0)
set_option maxRecDepth 65536 in
set_option maxHeartbeats 40000000 in
theorem rmmnt27 (l : Launch) (Z : State) (a0 : Array Value) (hw : ∀ d ∈ tables_1, d.before a0 Z = true) (ws : List Jvm.Cond)  (h0 : Heap) (n0 : Nat) (Z0 : n0 ≤ h0.size) :
    MetFree l (⟨"java/lang/Math", "min", "(II)I"⟩ : MethodName) (head1 (Jvm.Cond.code (⟨"java/lang/Math", "min", "(II)I"⟩ : MethodName) jdk_29_method_69_code 2 (some .int) :: ws) ({ frames := 0, cells := 0, slots := 0, locals := 0 } : Room)) (fun a U => a = #[(.int (34 : Int32)), (.int (27 : Int32))] ∧ Z.Warmed39 U.vm ∧ U.heap = h0) (fun _ _ _ _ _ => True) (fun _ U o U' => ∃ v L, o = .returned v ∧ Qmnt27 Z  h0 n0 v U'.heap L ∧ FrameEnd U o U' L ({ frames := 0, cells := 0, slots := 0, locals := 0 } : Room).cells ({ frames := 0, cells := 0, slots := 0, locals := 0 } : Room).slots) := by
  refine MetFree.of_bodySF (Jvm.Free.JP.mathPlain rfl (by decide +kernel)) hisR ?_
  intro p e s m args below meth c s₁ Bd hml0 hP hK
  obtain ⟨rfl, hZ, hh⟩ := hP
  have hx := Bd.exec
  have hby := Bd.bytes
  have hml : c.maxLocals = 2 := hml0
  have hown : s.vm.findClass "java/lang/Math" = some m.cls := findClass_of_methodNamed Bd.named
  have hnm := (name_of_methodNamed Bd.named Bd.method).1
  have X0 : Stand p l e ({ frames := 0, cells := 0, slots := 0, locals := 0 } : Room) s m #[(.int (34 : Int32)), (.int (27 : Int32))] below meth c s₁ [] 0 0 := Stand.of_body Bd
  have e0 : s₁.heap = h0 := by rw [← hh, Bd.state]; rfl
  have N0 := Fr.nil n0
  refine Ends.opn ?_
  intro QQ hQQ
  refine Ends.step (S' := s₁.setTop (mkF m 0 #[.val (.int (34 : Int32)), .val (.int (27 : Int32))] [])) (fun t k => castTop (ef_mnt27 m ) k) ?_
  show Ends p e below QQ (s₁.setTop (mkF m 0 #[.val (.int (34 : Int32)), .val (.int (27 : Int32))] []))
  refine Ends.step (fun _ k => XS.iloadN X0.here hx rfl (hb hby d26_0) rfl k) ?_
  show Ends p e below QQ (s₁.setTop (mkF m 1 #[.val (.int (34 : Int32)), .val (.int (27 : Int32))] [(.int (34 : Int32))]))
  refine Ends.step (fun _ k => XS.iloadN X0.here hx rfl (hb hby d26_1) rfl k) ?_
  show Ends p e below QQ (s₁.setTop (mkF m 2 #[.val (.int (34 : Int32)), .val (.int (27 : Int32))] [(.int (27 : Int32)), (.int (34 : Int32))]))
  refine Ends.step (fun _ k => XS.icmpYes X0.here hx rfl (pc0 := 2) (pc' := 9) rfl (hb hby d26_2) rfl (XT.ii_gt_t (by decide)) (by decide) (by decide) k) ?_
  show Ends p e below QQ (s₁.setTop (mkF m 9 #[.val (.int (34 : Int32)), .val (.int (27 : Int32))] []))
  refine Ends.step (fun _ k => XS.iloadN X0.here hx rfl (hb hby d26_9) rfl k) ?_
  show Ends p e below QQ (s₁.setTop (mkF m 10 #[.val (.int (34 : Int32)), .val (.int (27 : Int32))] [(.int (27 : Int32))]))
  exact Ends.fin (some (.int (27 : Int32))) X0 hQQ (fun h => by rw [Bd.returns] at h; cases h) Bd.notSynchronized (fun _ hr => retOut X0 hx (t := .int) Bd.returns rfl (Or.inl ⟨rfl, Or.inl rfl, _, rfl⟩) (hb hby d26_10) hr) e0 (by decide) (by decide) ⟨rfl, N0, rfl⟩
theorem d34_0 : decode jdk_65_method_133_code 0 = .ok (.iload_n 1, 1) := by decide +kernel
theorem d34_1 : decode jdk_65_method_133_code 1 = .ok (.iload_n 2, 1) := by decide +kernel
theorem d34_2 : decode jdk_65_method_133_code 2 = .ok (.invokestatic 343, 3) := by decide +kernel
theorem d34_5 : decode jdk_65_method_133_code 5 = .ok (.iload_n 2, 1) := by decide +kernel
theorem d34_6 : decode jdk_65_method_133_code 6 = .ok (.iload_n 1, 1) := by decide +kernel
theorem d34_7 : decode jdk_65_method_133_code 7 = .ok (.isub, 1) := by decide +kernel
theorem d34_8 : decode jdk_65_method_133_code 8 = .ok (.istore_n 3, 1) := by decide +kernel
theorem d34_9 : decode jdk_65_method_133_code 9 = .ok (.iload_n 3, 1) := by decide +kernel
theorem d34_10 : decode jdk_65_method_133_code 10 = .ok (.newarray .byte, 2) := by decide +kernel
theorem d34_12 : decode jdk_65_method_133_code 12 = .ok (.astore 4, 2) := by decide +kernel
theorem d34_14 : decode jdk_65_method_133_code 14 = .ok (.aload_n 0, 1) := by decide +kernel
theorem d34_15 : decode jdk_65_method_133_code 15 = .ok (.iload_n 1, 1) := by decide +kernel
theorem d34_16 : decode jdk_65_method_133_code 16 = .ok (.aload 4, 2) := by decide +kernel
theorem d34_18 : decode jdk_65_method_133_code 18 = .ok (.iconst 0, 1) := by decide +kernel
theorem d34_19 : decode jdk_65_method_133_code 19 = .ok (.aload_n 0, 1) := by decide +kernel
theorem d34_20 : decode jdk_65_method_133_code 20 = .ok (.arraylength, 1) := by decide +kernel
theorem d34_21 : decode jdk_65_method_133_code 21 = .ok (.iload_n 1, 1) := by decide +kernel
theorem d34_22 : decode jdk_65_method_133_code 22 = .ok (.isub, 1) := by decide +kernel
theorem d34_23 : decode jdk_65_method_133_code 23 = .ok (.iload_n 3, 1) := by decide +kernel
theorem d34_24 : decode jdk_65_method_133_code 24 = .ok (.invokestatic 304, 3) := by decide +kernel
theorem d34_27 : decode jdk_65_method_133_code 27 = .ok (.invokestatic 150, 3) := by decide +kernel
theorem d34_30 : decode jdk_65_method_133_code 30 = .ok (.aload 4, 2) := by decide +kernel
theorem d34_32 : decode jdk_65_method_133_code 32 = .ok (.areturn, 1) := by decide +kernel
theorem ef_crb27 (m : MethodId) (x0 : Addr) : entryFrame m #[(.ref x0), (.int (0 : Int32)), (.int (27 : Int32))] 5 = mkF m 0 #[.val (.ref x0), .val (.int (0 : Int32)), .val (.int (27 : Int32)), .unset, .unset] [] := by first | (simp [entryFrame, mkF, argsToLocals, Value.category]; done) | rfl
def Qcrb27 (Z : State) (o0 : Addr) (kb : ClassId) (y0 : Int32) (y1 : Int32) (y2 : Int32) (y3 : Int32) (y4 : Int32) (y5 : Int32) (y6 : Int32) (y7 : Int32) (y8 : Int32) (y9 : Int32) (y10 : Int32) (y11 : Int32) (y12 : Int32) (y13 : Int32) (y14 : Int32) (y15 : Int32) (y16 : Int32) (y17 : Int32) (y18 : Int32) (y19 : Int32) (y20 : Int32) (y21 : Int32) (y22 : Int32) (y23 : Int32) (y24 : Int32) (y25 : Int32) (y26 : Int32) (h0 : Heap) (n0 : Nat) (v : Option Value) (h : Heap) (L : List Loc) : Prop := ∃ (b : Addr), ∃ (k2 : ClassId), (v = some (.ref b)) ∧ (Fr n0 L) ∧ (Keep h0 h []) ∧ (h0.size ≤ b) ∧ (n0 ≤ b) ∧ (Exa Z h b "[B") ∧ (Arv Z h b k2 .byte (27 : Int32) [(.int y0), (.int y1), (.int y2), (.int y3), (.int y4), (.int y5), (.int y6), (.int y7), (.int y8), (.int y9), (.int y10), (.int y11), (.int y12), (.int y13), (.int y14), (.int y15), (.int y16), (.int y17), (.int y18), (.int y19), (.int y20), (.int y21), (.int y22), (.int y23), (.int y24), (.int y25), (.int y26)] (.int (0 : Int32)))
set_option maxRecDepth 65536 in
set_option maxHeartbeats 40000000 in
theorem rmcrb27 (l : Launch) (Z : State) (a0 : Array Value) (hw : ∀ d ∈ tables_1, d.before a0 Z = true) (ws : List Jvm.Cond) (o0 : Addr) (kb : ClassId) (y0 : Int32) (y1 : Int32) (y2 : Int32) (y3 : Int32) (y4 : Int32) (y5 : Int32) (y6 : Int32) (y7 : Int32) (y8 : Int32) (y9 : Int32) (y10 : Int32) (y11 : Int32) (y12 : Int32) (y13 : Int32) (y14 : Int32) (y15 : Int32) (y16 : Int32) (y17 : Int32) (y18 : Int32) (y19 : Int32) (y20 : Int32) (y21 : Int32) (y22 : Int32) (y23 : Int32) (y24 : Int32) (y25 : Int32) (y26 : Int32) (h0 : Heap) (n0 : Nat) (Z0 : n0 ≤ h0.size) (A_o0 : Arv Z h0 o0 kb .byte (34 : Int32) [(.int y0), (.int y1), (.int y2), (.int y3), (.int y4), (.int y5), (.int y6), (.int y7), (.int y8), (.int y9), (.int y10), (.int y11), (.int y12), (.int y13), (.int y14), (.int y15), (.int y16), (.int y17), (.int y18), (.int y19), (.int y20), (.int y21), (.int y22), (.int y23), (.int y24), (.int y25), (.int y26), (.int (0 : Int32)), (.int (0 : Int32)), (.int (0 : Int32)), (.int (0 : Int32)), (.int (0 : Int32)), (.int (0 : Int32)), (.int (0 : Int32))] (.int (0 : Int32))) :
    MetFree l (⟨"java/util/Arrays", "copyOfRangeByte", "([BII)[B"⟩ : MethodName) (head1 (Jvm.Cond.code (⟨"java/util/Arrays", "copyOfRangeByte", "([BII)[B"⟩ : MethodName) jdk_65_method_133_code 5 (some (.array .byte)) :: ws) ({ frames := 1, cells := 1, slots := 27, locals := 24 } : Room)) (fun a U => a = #[(.ref o0), (.int (0 : Int32)), (.int (27 : Int32))] ∧ Z.Warmed39 U.vm ∧ U.heap = h0) (fun _ _ _ _ _ => True) (fun _ U o U' => ∃ v L, o = .returned v ∧ Qcrb27 Z o0 kb y0 y1 y2 y3 y4 y5 y6 y7 y8 y9 y10 y11 y12 y13 y14 y15 y16 y17 y18 y19 y20 y21 y22 y23 y24 y25 y26 h0 n0 v U'.heap L ∧ FrameEnd U o U' L ({ frames := 1, cells := 1, slots := 27, locals := 24 } : Room).cells ({ frames := 1, cells := 1, slots := 27, locals := 24 } : Room).slots) := by
  refine MetFree.of_bodySF (plainFor_of_name pn_6) hisR ?_
  intro p e s m args below meth c s₁ Bd hml0 hP hK
  obtain ⟨rfl, hZ, hh⟩ := hP
  have hx := Bd.exec
  have hby := Bd.bytes
  have hml : c.maxLocals = 5 := hml0
  have hown : s.vm.findClass "java/util/Arrays" = some m.cls := findClass_of_methodNamed Bd.named
  have hnm := (name_of_methodNamed Bd.named Bd.method).1
  have X0 : Stand p l e ({ frames := 1, cells := 1, slots := 27, locals := 24 } : Room) s m #[(.ref o0), (.int (0 : Int32)), (.int (27 : Int32))] below meth c s₁ [] 0 0 := Stand.of_body Bd
  have e0 : s₁.heap = h0 := by rw [← hh, Bd.state]; rfl
  have N0 := Fr.nil n0
  refine Ends.opn ?_
  intro QQ hQQ
  refine Ends.step (S' := s₁.setTop (mkF m 0 #[.val (.ref o0), .val (.int (0 : Int32)), .val (.int (27 : Int32)), .unset, .unset] [])) (fun t k => castTop (ef_crb27 m o0) k) ?_
  show Ends p e below QQ (s₁.setTop (mkF m 0 #[.val (.ref o0), .val (.int (0 : Int32)), .val (.int (27 : Int32)), .unset, .unset] []))
  refine Ends.step (fun _ k => XS.iloadN X0.here hx rfl (hb hby d34_0) rfl k) ?_
  show Ends p e below QQ (s₁.setTop (mkF m 1 #[.val (.ref o0), .val (.int (0 : Int32)), .val (.int (27 : Int32)), .unset, .unset] [(.int (0 : Int32))]))
  refine Ends.step (fun _ k => XS.iloadN X0.here hx rfl (hb hby d34_1) rfl k) ?_
  show Ends p e below QQ (s₁.setTop (mkF m 2 #[.val (.ref o0), .val (.int (0 : Int32)), .val (.int (27 : Int32)), .unset, .unset] [(.int (27 : Int32)), (.int (0 : Int32))]))
  obtain ⟨_, _, ⟨T107, L107, k107, n107⟩, -, X107, ⟨Lc107, hQ107, l107, y107, z107⟩, st107⟩ := Jvm.LawKit.callS X0 hx (y := (⟨"java/util/Arrays", "checkLength", "(II)V"⟩ : MethodName)) hown (mvT hZ (hw _ (List.mem_of_getElem? (i := 192) rfl))) (mvT hZ (hw _ (List.mem_of_getElem? (i := 193) rfl))) (mvT hZ (hw _ (List.mem_of_getElem? (i := 151) rfl))) (mvT hZ (hw _ (List.mem_of_getElem? (i := 194) rfl))) (by decide) (backOf (W := 0) (rmckl27 l Z a0 hw []  h0 n0 (Nat.le_trans Z0 (Keep.refl h0 []).1)) hZ (hw _ (List.mem_of_getElem? (i := 194) rfl)) (hw _ (List.mem_of_getElem? (i := 151) rfl)) (by decide) (by decide)) (g := (mkF m 2 #[.val (.ref o0), .val (.int (0 : Int32)), .val (.int (27 : Int32)), .unset, .unset] [(.int (27 : Int32)), (.int (0 : Int32))])) rfl (by rw [hml]; rfl) (argsL := [(.int (0 : Int32)), (.int (27 : Int32))]) (rest := []) (lenOf pd_2 rfl) rfl (by show 2 * 0 + _ ≤ _; exact Nat.le_of_eq rfl) (hb hby d34_2) (fun _ _ => ⟨rfl, e0, (by decide : 0 + 0 ≤ _), (by decide : 0 + 0 ≤ _)⟩)
  dsimp only [Pt.U, Pt.locs, Pt.cells, Pt.slots] at X107 l107 y107 z107 st107 hQ107
  subst l107 y107 z107
  obtain ⟨rfl, Nq107, hh107⟩ := hQ107
  have N107 := Fr.app N0 Nq107
  refine Ends.step st107 ?_
  show Ends p e below QQ (T107.setTop (mkF m 5 #[.val (.ref o0), .val (.int (0 : Int32)), .val (.int (27 : Int32)), .unset, .unset] []))
  refine Ends.step (fun _ k => XS.iloadN X107.here hx rfl (hb hby d34_5) rfl k) ?_
  show Ends p e below QQ (T107.setTop (mkF m 6 #[.val (.ref o0), .val (.int (0 : Int32)), .val (.int (27 : Int32)), .unset, .unset] [(.int (27 : Int32))]))
  refine Ends.step (fun _ k => XS.iloadN X107.here hx rfl (hb hby d34_6) rfl k) ?_
  show Ends p e below QQ (T107.setTop (mkF m 7 #[.val (.ref o0), .val (.int (0 : Int32)), .val (.int (27 : Int32)), .unset, .unset] [(.int (0 : Int32)), (.int (27 : Int32))]))
  refine Ends.step (fun _ k => XS.isub X107.here hx rfl (hb hby d34_7) rfl k) ?_
  show Ends p e below QQ (T107.setTop (mkF m 8 #[.val (.ref o0), .val (.int (0 : Int32)), .val (.int (27 : Int32)), .unset, .unset] [(.int (27 : Int32))]))
  refine Ends.step (fun _ k => XS.istoreN X107.here hx rfl (hb hby d34_8) rfl (l' := #[.val (.ref o0), .val (.int (0 : Int32)), .val (.int (27 : Int32)), .val (.int (27 : Int32)), .unset]) rfl k) ?_
  show Ends p e below QQ (T107.setTop (mkF m 9 #[.val (.ref o0), .val (.int (0 : Int32)), .val (.int (27 : Int32)), .val (.int (27 : Int32)), .unset] []))
  refine Ends.step (fun _ k => XS.iloadN X107.here hx rfl (hb hby d34_9) rfl k) ?_
  show Ends p e below QQ (T107.setTop (mkF m 10 #[.val (.ref o0), .val (.int (0 : Int32)), .val (.int (27 : Int32)), .val (.int (27 : Int32)), .unset] [(.int (27 : Int32))]))
  obtain ⟨T108, h108, k108, X108, e108, E108, A108, Y108, st108⟩ := newPE X107 hx hZ (hw _ (List.mem_of_getElem? (i := 45) rfl)) hh107 (g := (mkF m 10 #[.val (.ref o0), .val (.int (0 : Int32)), .val (.int (27 : Int32)), .val (.int (27 : Int32)), .unset] [(.int (27 : Int32))])) rfl (hb hby d34_10) rfl (by decide) (cap := 27) (by decide) (by decide) (by decide) (by decide) (ad := "[B") (by decide)
  obtain ⟨b108, g108⟩ : ∃ z, z = h0.size := ⟨_, rfl⟩
  rw [← g108] at A108 Y108 st108
  have ne_o0_b108 : o0 ≠ b108 := Nat.ne_of_lt (Nat.lt_of_lt_of_le A_o0.lt (Nat.le_of_eq g108.symm))
  have g_b108 : n0 ≤ b108 := Nat.le_trans Z0 (Nat.le_trans (Keep.refl h0 []).1 (Nat.le_of_eq g108.symm))
  have sz_b108 : h0.size ≤ b108 := Nat.le_trans (Keep.refl h0 []).1 (Nat.le_of_eq g108.symm)
  have A_o0 := A_o0.ext E108
  have K108 := (Keep.refl h0 []).ext E108
  have E_b108 := Y108
  have A_b108 : Arv Z h108 b108 k108 .byte (27 : Int32) [(.int (0 : Int32)), (.int (0 : Int32)), (.int (0 : Int32)), (.int (0 : Int32)), (.int (0 : Int32)), (.int (0 : Int32)), (.int (0 : Int32)), (.int (0 : Int32)), (.int (0 : Int32)), (.int (0 : Int32)), (.int (0 : Int32)), (.int (0 : Int32)), (.int (0 : Int32)), (.int (0 : Int32)), (.int (0 : Int32)), (.int (0 : Int32)), (.int (0 : Int32)), (.int (0 : Int32)), (.int (0 : Int32)), (.int (0 : Int32)), (.int (0 : Int32)), (.int (0 : Int32)), (.int (0 : Int32)), (.int (0 : Int32)), (.int (0 : Int32)), (.int (0 : Int32)), (.int (0 : Int32))] (.int (0 : Int32)) := (Arv.new A108 (by decide)).pad (pad_rep [] (.int (0 : Int32)) 27)
  refine Ends.step st108 ?_
  show Ends p e below QQ (T108.setTop (mkF m 12 #[.val (.ref o0), .val (.int (0 : Int32)), .val (.int (27 : Int32)), .val (.int (27 : Int32)), .unset] [(.ref b108)]))
  refine Ends.step (fun _ k => XS.astore X108.here hx rfl (hb hby d34_12) rfl rfl (l' := #[.val (.ref o0), .val (.int (0 : Int32)), .val (.int (27 : Int32)), .val (.int (27 : Int32)), .val (.ref b108)]) rfl k) ?_
  show Ends p e below QQ (T108.setTop (mkF m 14 #[.val (.ref o0), .val (.int (0 : Int32)), .val (.int (27 : Int32)), .val (.int (27 : Int32)), .val (.ref b108)] []))
  refine Ends.step (fun _ k => XS.aloadN X108.here hx rfl (hb hby d34_14) rfl rfl k) ?_
  show Ends p e below QQ (T108.setTop (mkF m 15 #[.val (.ref o0), .val (.int (0 : Int32)), .val (.int (27 : Int32)), .val (.int (27 : Int32)), .val (.ref b108)] [(.ref o0)]))
  refine Ends.step (fun _ k => XS.iloadN X108.here hx rfl (hb hby d34_15) rfl k) ?_
  show Ends p e below QQ (T108.setTop (mkF m 16 #[.val (.ref o0), .val (.int (0 : Int32)), .val (.int (27 : Int32)), .val (.int (27 : Int32)), .val (.ref b108)] [(.int (0 : Int32)), (.ref o0)]))
  refine Ends.step (fun _ k => XS.aload X108.here hx rfl (hb hby d34_16) rfl rfl k) ?_
  show Ends p e below QQ (T108.setTop (mkF m 18 #[.val (.ref o0), .val (.int (0 : Int32)), .val (.int (27 : Int32)), .val (.int (27 : Int32)), .val (.ref b108)] [(.ref b108), (.int (0 : Int32)), (.ref o0)]))
  refine Ends.step (fun _ k => XT.iconstV X108.here hx rfl (0 : Int32) (hb hby d34_18) rfl k) ?_
  show Ends p e below QQ (T108.setTop (mkF m 19 #[.val (.ref o0), .val (.int (0 : Int32)), .val (.int (27 : Int32)), .val (.int (27 : Int32)), .val (.ref b108)] [(.int (0 : Int32)), (.ref b108), (.int (0 : Int32)), (.ref o0)]))
  refine Ends.step (fun _ k => XS.aloadN X108.here hx rfl (hb hby d34_19) rfl rfl k) ?_
  show Ends p e below QQ (T108.setTop (mkF m 20 #[.val (.ref o0), .val (.int (0 : Int32)), .val (.int (27 : Int32)), .val (.int (27 : Int32)), .val (.ref b108)] [(.ref o0), (.int (0 : Int32)), (.ref b108), (.int (0 : Int32)), (.ref o0)]))
  obtain ⟨cl109, Ar109, -, S109, P109, -, -⟩ := id A_o0
  refine Ends.step (S' := T108.setTop (mkF m 21 #[.val (.ref o0), .val (.int (0 : Int32)), .val (.int (27 : Int32)), .val (.int (27 : Int32)), .val (.ref b108)] [(.int (34 : Int32)), (.int (0 : Int32)), (.ref b108), (.int (0 : Int32)), (.ref o0)])) (fun _ k => X108.arraylength hx (by rw [e108]; exact Ar109.1) (State.isArrayOf_alike hZ.alike Ar109.2.1) (g := (mkF m 20 #[.val (.ref o0), .val (.int (0 : Int32)), .val (.int (27 : Int32)), .val (.int (27 : Int32)), .val (.ref b108)] [(.ref o0), (.int (0 : Int32)), (.ref b108), (.int (0 : Int32)), (.ref o0)])) rfl rfl (hb hby d34_20) _ (by rw [len_of S109 P109]; exact k)) ?_
  show Ends p e below QQ (T108.setTop (mkF m 21 #[.val (.ref o0), .val (.int (0 : Int32)), .val (.int (27 : Int32)), .val (.int (27 : Int32)), .val (.ref b108)] [(.int (34 : Int32)), (.int (0 : Int32)), (.ref b108), (.int (0 : Int32)), (.ref o0)]))
  refine Ends.step (fun _ k => XS.iloadN X108.here hx rfl (hb hby d34_21) rfl k) ?_
  show Ends p e below QQ (T108.setTop (mkF m 22 #[.val (.ref o0), .val (.int (0 : Int32)), .val (.int (27 : Int32)), .val (.int (27 : Int32)), .val (.ref b108)] [(.int (0 : Int32)), (.int (34 : Int32)), (.int (0 : Int32)), (.ref b108), (.int (0 : Int32)), (.ref o0)]))
  refine Ends.step (fun _ k => XS.isub X108.here hx rfl (hb hby d34_22) rfl k) ?_
  show Ends p e below QQ (T108.setTop (mkF m 23 #[.val (.ref o0), .val (.int (0 : Int32)), .val (.int (27 : Int32)), .val (.int (27 : Int32)), .val (.ref b108)] [(.int (34 : Int32)), (.int (0 : Int32)), (.ref b108), (.int (0 : Int32)), (.ref o0)]))
  refine Ends.step (fun _ k => XS.iloadN X108.here hx rfl (hb hby d34_23) rfl k) ?_
  show Ends p e below QQ (T108.setTop (mkF m 24 #[.val (.ref o0), .val (.int (0 : Int32)), .val (.int (27 : Int32)), .val (.int (27 : Int32)), .val (.ref b108)] [(.int (27 : Int32)), (.int (34 : Int32)), (.int (0 : Int32)), (.ref b108), (.int (0 : Int32)), (.ref o0)]))
  obtain ⟨_, _, ⟨T110, L110, k110, n110⟩, -, X110, ⟨Lc110, hQ110, l110, y110, z110⟩, st110⟩ := Jvm.LawKit.callS X108 hx (y := (⟨"java/lang/Math", "min", "(II)I"⟩ : MethodName)) hown (mvT hZ (hw _ (List.mem_of_getElem? (i := 153) rfl))) (mvT hZ (hw _ (List.mem_of_getElem? (i := 154) rfl))) (mvT hZ (hw _ (List.mem_of_getElem? (i := 145) rfl))) (mvT hZ (hw _ (List.mem_of_getElem? (i := 155) rfl))) (by decide) (backOf (W := 4) (rmmnt27 l Z a0 hw []  h108 n0 (Nat.le_trans Z0 K108.1)) hZ (hw _ (List.mem_of_getElem? (i := 155) rfl)) (hw _ (List.mem_of_getElem? (i := 145) rfl)) (by decide) (by decide)) (g := (mkF m 24 #[.val (.ref o0), .val (.int (0 : Int32)), .val (.int (27 : Int32)), .val (.int (27 : Int32)), .val (.ref b108)] [(.int (27 : Int32)), (.int (34 : Int32)), (.int (0 : Int32)), (.ref b108), (.int (0 : Int32)), (.ref o0)])) rfl (by rw [hml]; rfl) (argsL := [(.int (34 : Int32)), (.int (27 : Int32))]) (rest := [(.int (0 : Int32)), (.ref b108), (.int (0 : Int32)), (.ref o0)]) (lenOf pd_11 rfl) rfl (by show 2 * 0 + _ ≤ _; exact Nat.le_of_eq rfl) (hb hby d34_24) (fun _ _ => ⟨rfl, e108, (by decide : 1 + 0 ≤ _), (by decide : 27 + 0 ≤ _)⟩)
  dsimp only [Pt.U, Pt.locs, Pt.cells, Pt.slots] at X110 l110 y110 z110 st110 hQ110
  subst l110 y110 z110
  obtain ⟨rfl, Nq110, hh110⟩ := hQ110
  have N110 := Fr.app N107 Nq110
  refine Ends.step st110 ?_
  show Ends p e below QQ (T110.setTop (mkF m 27 #[.val (.ref o0), .val (.int (0 : Int32)), .val (.int (27 : Int32)), .val (.int (27 : Int32)), .val (.ref b108)] [(.int (27 : Int32)), (.int (0 : Int32)), (.ref b108), (.int (0 : Int32)), (.ref o0)]))
  obtain ⟨T111, h111, L111, X111, e111, N111, Kq111, AA111, st111⟩ := cpA X110 hx hZ hown (hw _ (List.mem_of_getElem? (i := 156) rfl)) (hw _ (List.mem_of_getElem? (i := 105) rfl)) (hw _ (List.mem_of_getElem? (i := 103) rfl)) (hw _ (List.mem_of_getElem? (i := 104) rfl)) hh110 A_o0 A_b108 (Or.inl ⟨rfl, rfl⟩) (by decide) (by decide) (by decide) (by decide) (by decide) (us := [(.int y0), (.int y1), (.int y2), (.int y3), (.int y4), (.int y5), (.int y6), (.int y7), (.int y8), (.int y9), (.int y10), (.int y11), (.int y12), (.int y13), (.int y14), (.int y15), (.int y16), (.int y17), (.int y18), (.int y19), (.int y20), (.int y21), (.int y22), (.int y23), (.int y24), (.int y25), (.int y26)]) (by rfl) (Nat.le_of_ble_eq_true rfl) N110 g_b108 (g := (mkF m 27 #[.val (.ref o0), .val (.int (0 : Int32)), .val (.int (27 : Int32)), .val (.int (27 : Int32)), .val (.ref b108)] [(.int (27 : Int32)), (.int (0 : Int32)), (.ref b108), (.int (0 : Int32)), (.ref o0)])) rfl (by rw [hml]; rfl) rfl (hb hby d34_27) (by decide) (W := 0) (by show 2 * 0 + _ ≤ _; exact Nat.le_of_eq rfl) (by decide)
  have A_o0 := A_o0.keep Kq111 (ninS ne_o0_b108 nin0)
  have E_b108 := E_b108.keep Kq111
  have A_b108 : Arv Z h111 b108 k108 .byte (27 : Int32) [(.int y0), (.int y1), (.int y2), (.int y3), (.int y4), (.int y5), (.int y6), (.int y7), (.int y8), (.int y9), (.int y10), (.int y11), (.int y12), (.int y13), (.int y14), (.int y15), (.int y16), (.int y17), (.int y18), (.int y19), (.int y20), (.int y21), (.int y22), (.int y23), (.int y24), (.int y25), (.int y26)] (.int (0 : Int32)) := AA111
  have K111 := K108.trans Kq111 (allS (Or.inr sz_b108) all0)
  refine Ends.step st111 ?_
  show Ends p e below QQ (T111.setTop (mkF m 30 #[.val (.ref o0), .val (.int (0 : Int32)), .val (.int (27 : Int32)), .val (.int (27 : Int32)), .val (.ref b108)] []))
  refine Ends.step (fun _ k => XS.aload X111.here hx rfl (hb hby d34_30) rfl rfl k) ?_
  show Ends p e below QQ (T111.setTop (mkF m 32 #[.val (.ref o0), .val (.int (0 : Int32)), .val (.int (27 : Int32)), .val (.int (27 : Int32)), .val (.ref b108)] [(.ref b108)]))
  exact Ends.fin (some (.ref b108)) X111 hQQ (fun h => by rw [Bd.returns] at h; cases h) Bd.notSynchronized (fun _ hr => retOut X111 hx (t := (.array .byte)) Bd.returns rfl (Or.inr (Or.inr (Or.inr (Or.inr ⟨rfl, rfl, rfl⟩)))) (hb hby d34_32) hr) e111 (by decide) (by decide) ⟨b108, k108, rfl, N111, K111, sz_b108, g_b108, E_b108, A_b108⟩
theorem d33_0 : decode jdk_65_method_132_code 0 = .ok (.iload_n 1, 1) := by decide +kernel
theorem d33_1 : decode jdk_65_method_132_code 1 = .ok (.ifCond .ne 9, 3) := by decide +kernel
theorem d33_4 : decode jdk_65_method_132_code 4 = .ok (.iload_n 2, 1) := by decide +kernel
theorem d33_5 : decode jdk_65_method_132_code 5 = .ok (.aload_n 0, 1) := by decide +kernel
theorem d33_6 : decode jdk_65_method_132_code 6 = .ok (.arraylength, 1) := by decide +kernel
theorem d33_7 : decode jdk_65_method_132_code 7 = .ok (.if_icmp .eq 10, 3) := by decide +kernel
theorem d33_10 : decode jdk_65_method_132_code 10 = .ok (.aload_n 0, 1) := by decide +kernel
theorem d33_11 : decode jdk_65_method_132_code 11 = .ok (.iload_n 1, 1) := by decide +kernel
theorem d33_12 : decode jdk_65_method_132_code 12 = .ok (.iload_n 2, 1) := by decide +kernel
theorem d33_13 : decode jdk_65_method_132_code 13 = .ok (.invokestatic 339, 3) := by decide +kernel
theorem d33_16 : decode jdk_65_method_132_code 16 = .ok (.areturn, 1) := by decide +kernel
theorem ef_cor27 (m : MethodId) (x0 : Addr) : entryFrame m #[(.ref x0), (.int (0 : Int32)), (.int (27 : Int32))] 3 = mkF m 0 #[.val (.ref x0), .val (.int (0 : Int32)), .val (.int (27 : Int32))] [] := by first | (simp [entryFrame, mkF, argsToLocals, Value.category]; done) | rfl
def Qcor27 (Z : State) (o0 : Addr) (kb : ClassId) (y0 : Int32) (y1 : Int32) (y2 : Int32) (y3 : Int32) (y4 : Int32) (y5 : Int32) (y6 : Int32) (y7 : Int32) (y8 : Int32) (y9 : Int32) (y10 : Int32) (y11 : Int32) (y12 : Int32) (y13 : Int32) (y14 : Int32) (y15 : Int32) (y16 : Int32) (y17 : Int32) (y18 : Int32) (y19 : Int32) (y20 : Int32) (y21 : Int32) (y22 : Int32) (y23 : Int32) (y24 : Int32) (y25 : Int32) (y26 : Int32) (h0 : Heap) (n0 : Nat) (v : Option Value) (h : Heap) (L : List Loc) : Prop := ∃ (b : Addr), ∃ (k2 : ClassId), (v = some (.ref b)) ∧ (Fr n0 L) ∧ (Keep h0 h []) ∧ (h0.size ≤ b) ∧ (n0 ≤ b) ∧ (Exa Z h b "[B") ∧ (Arv Z h b k2 .byte (27 : Int32) [(.int y0), (.int y1), (.int y2), (.int y3), (.int y4), (.int y5), (.int y6), (.int y7), (.int y8), (.int y9), (.int y10), (.int y11), (.int y12), (.int y13), (.int y14), (.int y15), (.int y16), (.int y17), (.int y18), (.int y19), (.int y20), (.int y21), (.int y22), (.int y23), (.int y24), (.int y25), (.int y26)] (.int (0 : Int32)))
set_option maxRecDepth 65536 in
set_option maxHeartbeats 40000000 in
theorem rmcor27 (l : Launch) (Z : State) (a0 : Array Value) (hw : ∀ d ∈ tables_1, d.before a0 Z = true) (ws : List Jvm.Cond) (o0 : Addr) (kb : ClassId) (y0 : Int32) (y1 : Int32) (y2 : Int32) (y3 : Int32) (y4 : Int32) (y5 : Int32) (y6 : Int32) (y7 : Int32) (y8 : Int32) (y9 : Int32) (y10 : Int32) (y11 : Int32) (y12 : Int32) (y13 : Int32) (y14 : Int32) (y15 : Int32) (y16 : Int32) (y17 : Int32) (y18 : Int32) (y19 : Int32) (y20 : Int32) (y21 : Int32) (y22 : Int32) (y23 : Int32) (y24 : Int32) (y25 : Int32) (y26 : Int32) (h0 : Heap) (n0 : Nat) (Z0 : n0 ≤ h0.size) (A_o0 : Arv Z h0 o0 kb .byte (34 : Int32) [(.int y0), (.int y1), (.int y2), (.int y3), (.int y4), (.int y5), (.int y6), (.int y7), (.int y8), (.int y9), (.int y10), (.int y11), (.int y12), (.int y13), (.int y14), (.int y15), (.int y16), (.int y17), (.int y18), (.int y19), (.int y20), (.int y21), (.int y22), (.int y23), (.int y24), (.int y25), (.int y26), (.int (0 : Int32)), (.int (0 : Int32)), (.int (0 : Int32)), (.int (0 : Int32)), (.int (0 : Int32)), (.int (0 : Int32)), (.int (0 : Int32))] (.int (0 : Int32))) (E_o0 : Exa Z h0 o0 "[B") :
    MetFree l (⟨"java/util/Arrays", "copyOfRange", "([BII)[B"⟩ : MethodName) (head1 (Jvm.Cond.code (⟨"java/util/Arrays", "copyOfRange", "([BII)[B"⟩ : MethodName) jdk_65_method_132_code 3 (some (.array .byte)) :: ws) ({ frames := 2, cells := 1, slots := 27, locals := 40 } : Room)) (fun a U => a = #[(.ref o0), (.int (0 : Int32)), (.int (27 : Int32))] ∧ Z.Warmed39 U.vm ∧ U.heap = h0) (fun _ _ _ _ _ => True) (fun _ U o U' => ∃ v L, o = .returned v ∧ Qcor27 Z o0 kb y0 y1 y2 y3 y4 y5 y6 y7 y8 y9 y10 y11 y12 y13 y14 y15 y16 y17 y18 y19 y20 y21 y22 y23 y24 y25 y26 h0 n0 v U'.heap L ∧ FrameEnd U o U' L ({ frames := 2, cells := 1, slots := 27, locals := 40 } : Room).cells ({ frames := 2, cells := 1, slots := 27, locals := 40 } : Room).slots) := by
  refine MetFree.of_bodySF (plainFor_of_name pn_6) hisR ?_
  intro p e s m args below meth c s₁ Bd hml0 hP hK
  obtain ⟨rfl, hZ, hh⟩ := hP
  have hx := Bd.exec
  have hby := Bd.bytes
  have hml : c.maxLocals = 3 := hml0
  have hown : s.vm.findClass "java/util/Arrays" = some m.cls := findClass_of_methodNamed Bd.named
  have hnm := (name_of_methodNamed Bd.named Bd.method).1
  have X0 : Stand p l e ({ frames := 2, cells := 1, slots := 27, locals := 40 } : Room) s m #[(.ref o0), (.int (0 : Int32)), (.int (27 : Int32))] below meth c s₁ [] 0 0 := Stand.of_body Bd
  have e0 : s₁.heap = h0 := by rw [← hh, Bd.state]; rfl
  have N0 := Fr.nil n0
  refine Ends.opn ?_
  intro QQ hQQ
  refine Ends.step (S' := s₁.setTop (mkF m 0 #[.val (.ref o0), .val (.int (0 : Int32)), .val (.int (27 : Int32))] [])) (fun t k => castTop (ef_cor27 m o0) k) ?_
  show Ends p e below QQ (s₁.setTop (mkF m 0 #[.val (.ref o0), .val (.int (0 : Int32)), .val (.int (27 : Int32))] []))
  refine Ends.step (fun _ k => XS.iloadN X0.here hx rfl (hb hby d33_0) rfl k) ?_
  show Ends p e below QQ (s₁.setTop (mkF m 1 #[.val (.ref o0), .val (.int (0 : Int32)), .val (.int (27 : Int32))] [(.int (0 : Int32))]))
  refine Ends.step (fun _ k => XS.ifNo X0.here hx rfl (hb hby d33_1) rfl (XT.i0_ne_f (by decide)) k) ?_
  show Ends p e below QQ (s₁.setTop (mkF m 4 #[.val (.ref o0), .val (.int (0 : Int32)), .val (.int (27 : Int32))] []))
  refine Ends.step (fun _ k => XS.iloadN X0.here hx rfl (hb hby d33_4) rfl k) ?_
  show Ends p e below QQ (s₁.setTop (mkF m 5 #[.val (.ref o0), .val (.int (0 : Int32)), .val (.int (27 : Int32))] [(.int (27 : Int32))]))
  refine Ends.step (fun _ k => XS.aloadN X0.here hx rfl (hb hby d33_5) rfl rfl k) ?_
  show Ends p e below QQ (s₁.setTop (mkF m 6 #[.val (.ref o0), .val (.int (0 : Int32)), .val (.int (27 : Int32))] [(.ref o0), (.int (27 : Int32))]))
  obtain ⟨cl112, Ar112, -, S112, P112, -, -⟩ := id A_o0
  refine Ends.step (S' := s₁.setTop (mkF m 7 #[.val (.ref o0), .val (.int (0 : Int32)), .val (.int (27 : Int32))] [(.int (34 : Int32)), (.int (27 : Int32))])) (fun _ k => X0.arraylength hx (by rw [e0]; exact Ar112.1) (State.isArrayOf_alike hZ.alike Ar112.2.1) (g := (mkF m 6 #[.val (.ref o0), .val (.int (0 : Int32)), .val (.int (27 : Int32))] [(.ref o0), (.int (27 : Int32))])) rfl rfl (hb hby d33_6) _ (by rw [len_of S112 P112]; exact k)) ?_
  show Ends p e below QQ (s₁.setTop (mkF m 7 #[.val (.ref o0), .val (.int (0 : Int32)), .val (.int (27 : Int32))] [(.int (34 : Int32)), (.int (27 : Int32))]))
  refine Ends.step (fun _ k => XS.icmpNo X0.here hx rfl (hb hby d33_7) rfl (XT.ii_eq_f (by decide)) k) ?_
  show Ends p e below QQ (s₁.setTop (mkF m 10 #[.val (.ref o0), .val (.int (0 : Int32)), .val (.int (27 : Int32))] []))
  refine Ends.step (fun _ k => XS.aloadN X0.here hx rfl (hb hby d33_10) rfl rfl k) ?_
  show Ends p e below QQ (s₁.setTop (mkF m 11 #[.val (.ref o0), .val (.int (0 : Int32)), .val (.int (27 : Int32))] [(.ref o0)]))
  refine Ends.step (fun _ k => XS.iloadN X0.here hx rfl (hb hby d33_11) rfl k) ?_
  show Ends p e below QQ (s₁.setTop (mkF m 12 #[.val (.ref o0), .val (.int (0 : Int32)), .val (.int (27 : Int32))] [(.int (0 : Int32)), (.ref o0)]))
  refine Ends.step (fun _ k => XS.iloadN X0.here hx rfl (hb hby d33_12) rfl k) ?_
  show Ends p e below QQ (s₁.setTop (mkF m 13 #[.val (.ref o0), .val (.int (0 : Int32)), .val (.int (27 : Int32))] [(.int (27 : Int32)), (.int (0 : Int32)), (.ref o0)]))
  obtain ⟨_, _, ⟨T113, L113, k113, n113⟩, -, X113, ⟨Lc113, hQ113, l113, y113, z113⟩, st113⟩ := Jvm.LawKit.callS X0 hx (y := (⟨"java/util/Arrays", "copyOfRangeByte", "([BII)[B"⟩ : MethodName)) hown (mvT hZ (hw _ (List.mem_of_getElem? (i := 189) rfl))) (mvT hZ (hw _ (List.mem_of_getElem? (i := 190) rfl))) (mvT hZ (hw _ (List.mem_of_getElem? (i := 151) rfl))) (mvT hZ (hw _ (List.mem_of_getElem? (i := 191) rfl))) (by decide) (backOf (W := 0) (rmcrb27 l Z a0 hw [] o0 kb y0 y1 y2 y3 y4 y5 y6 y7 y8 y9 y10 y11 y12 y13 y14 y15 y16 y17 y18 y19 y20 y21 y22 y23 y24 y25 y26 h0 n0 (Nat.le_trans Z0 (Keep.refl h0 []).1) A_o0) hZ (hw _ (List.mem_of_getElem? (i := 191) rfl)) (hw _ (List.mem_of_getElem? (i := 151) rfl)) (by decide) (by decide)) (g := (mkF m 13 #[.val (.ref o0), .val (.int (0 : Int32)), .val (.int (27 : Int32))] [(.int (27 : Int32)), (.int (0 : Int32)), (.ref o0)])) rfl (by rw [hml]; rfl) (argsL := [(.ref o0), (.int (0 : Int32)), (.int (27 : Int32))]) (rest := []) (lenOf pd_15 rfl) rfl (by show 2 * 0 + _ ≤ _; exact Nat.le_of_eq rfl) (hb hby d33_13) (fun _ _ => ⟨rfl, e0, (by decide : 0 + 1 ≤ _), (by decide : 0 + 27 ≤ _)⟩)
  dsimp only [Pt.U, Pt.locs, Pt.cells, Pt.slots] at X113 l113 y113 z113 st113 hQ113
  subst l113 y113 z113
  obtain ⟨b_113, k2_113, rfl, Nq113, Kq113, fq113_0, fq113_1, fq113_2, fq113_3⟩ := hQ113
  have N113 := Fr.app N0 Nq113
  have ne_o0_b_113 : o0 ≠ b_113 := Nat.ne_of_lt (Nat.lt_of_lt_of_le A_o0.lt fq113_0)
  have sz_b_113 := Nat.le_trans (Keep.refl h0 []).1 fq113_0
  have A_o0 := A_o0.keep Kq113 nin0
  have E_o0 := E_o0.keep Kq113
  have g_b_113 := fq113_1
  have E_b_113 := fq113_2
  have A_b_113 := fq113_3
  have K113 := (Keep.refl h0 []).trans Kq113 all0
  refine Ends.step st113 ?_
  show Ends p e below QQ (T113.setTop (mkF m 16 #[.val (.ref o0), .val (.int (0 : Int32)), .val (.int (27 : Int32))] [(.ref b_113)]))
  exact Ends.fin (some (.ref b_113)) X113 hQQ (fun h => by rw [Bd.returns] at h; cases h) Bd.notSynchronized (fun _ hr => retOut X113 hx (t := (.array .byte)) Bd.returns rfl (Or.inr (Or.inr (Or.inr (Or.inr ⟨rfl, rfl, rfl⟩)))) (hb hby d33_16) hr) rfl (by decide) (by decide) ⟨b_113, k2_113, rfl, N113, K113, sz_b_113, g_b_113, E_b_113, A_b_113⟩
theorem d29_0 : decode jdk_42_method_150_code 0 = .ok (.aload_n 0, 1) := by decide +kernel
theorem d29_1 : decode jdk_42_method_150_code 1 = .ok (.invokespecial 1, 3) := by decide +kernel
theorem d29_4 : decode jdk_42_method_150_code 4 = .ok (.aload_n 1, 1) := by decide +kernel
theorem d29_5 : decode jdk_42_method_150_code 5 = .ok (.invokevirtual 552, 3) := by decide +kernel
theorem d29_8 : decode jdk_42_method_150_code 8 = .ok (.astore_n 3, 1) := by decide +kernel
theorem d29_9 : decode jdk_42_method_150_code 9 = .ok (.aload_n 1, 1) := by decide +kernel
theorem d29_10 : decode jdk_42_method_150_code 10 = .ok (.invokevirtual 549, 3) := by decide +kernel
theorem d29_13 : decode jdk_42_method_150_code 13 = .ok (.istore 4, 2) := by decide +kernel
theorem d29_15 : decode jdk_42_method_150_code 15 = .ok (.aload_n 1, 1) := by decide +kernel
theorem d29_16 : decode jdk_42_method_150_code 16 = .ok (.invokevirtual 1047, 3) := by decide +kernel
theorem d29_19 : decode jdk_42_method_150_code 19 = .ok (.ifCond .eq 22, 3) := by decide +kernel
theorem d29_22 : decode jdk_42_method_150_code 22 = .ok (.aload_n 0, 1) := by decide +kernel
theorem d29_23 : decode jdk_42_method_150_code 23 = .ok (.iconst 0, 1) := by decide +kernel
theorem d29_24 : decode jdk_42_method_150_code 24 = .ok (.putfield 15, 3) := by decide +kernel
theorem d29_27 : decode jdk_42_method_150_code 27 = .ok (.aload_n 0, 1) := by decide +kernel
theorem d29_28 : decode jdk_42_method_150_code 28 = .ok (.aload_n 3, 1) := by decide +kernel
theorem d29_29 : decode jdk_42_method_150_code 29 = .ok (.iconst 0, 1) := by decide +kernel
theorem d29_30 : decode jdk_42_method_150_code 30 = .ok (.iload 4, 2) := by decide +kernel
theorem d29_32 : decode jdk_42_method_150_code 32 = .ok (.invokestatic 54, 3) := by decide +kernel
theorem d29_35 : decode jdk_42_method_150_code 35 = .ok (.putfield 9, 3) := by decide +kernel
theorem d29_38 : decode jdk_42_method_150_code 38 = .ok (.goto 59, 3) := by decide +kernel
theorem d29_97 : decode jdk_42_method_150_code 97 = .ok (.return_, 1) := by decide +kernel
theorem ef_sia27 (m : MethodId) (x0 : Addr) (x1 : Addr) : entryFrame m #[(.ref x0), (.ref x1), .null] 5 = mkF m 0 #[.val (.ref x0), .val (.ref x1), .val .null, .unset, .unset] [] := by first | (simp [entryFrame, mkF, argsToLocals, Value.category]; done) | rfl
def Qsia27 (Z : State) (o0 : Addr) (o1 : Addr) (u1 : Value) (u2 : Int32) (vb : Addr) (kb : ClassId) (cs : Int32) (y0 : Int32) (y1 : Int32) (y2 : Int32) (y3 : Int32) (y4 : Int32) (y5 : Int32) (y6 : Int32) (y7 : Int32) (y8 : Int32) (y9 : Int32) (y10 : Int32) (y11 : Int32) (y12 : Int32) (y13 : Int32) (y14 : Int32) (y15 : Int32) (y16 : Int32) (y17 : Int32) (y18 : Int32) (y19 : Int32) (y20 : Int32) (y21 : Int32) (y22 : Int32) (y23 : Int32) (y24 : Int32) (y25 : Int32) (y26 : Int32) (h0 : Heap) (n0 : Nat) (v : Option Value) (h : Heap) (L : List Loc) : Prop := ∃ (b : Addr), ∃ (k2 : ClassId), (v = none) ∧ (Fr n0 L) ∧ (Keep h0 h [o0]) ∧ (h0.size ≤ b) ∧ (n0 ≤ b) ∧ (Exa Z h o0 "java/lang/String") ∧ (Fld Z h o0 "java/lang/String" "value" "[B" (.ref b)) ∧ (Fld Z h o0 "java/lang/String" "coder" "B" (.int (0 : Int32))) ∧ (Exa Z h b "[B") ∧ (Arv Z h b k2 .byte (27 : Int32) [(.int y0), (.int y1), (.int y2), (.int y3), (.int y4), (.int y5), (.int y6), (.int y7), (.int y8), (.int y9), (.int y10), (.int y11), (.int y12), (.int y13), (.int y14), (.int y15), (.int y16), (.int y17), (.int y18), (.int y19), (.int y20), (.int y21), (.int y22), (.int y23), (.int y24), (.int y25), (.int y26)] (.int (0 : Int32)))
set_option maxRecDepth 65536 in
set_option maxHeartbeats 40000000 in
theorem rmsia27 (l : Launch) (Z : State) (a0 : Array Value) (hw : ∀ d ∈ tables_1, d.before a0 Z = true) (ws : List Jvm.Cond) (o0 : Addr) (o1 : Addr) (u1 : Value) (u2 : Int32) (vb : Addr) (kb : ClassId) (cs : Int32) (y0 : Int32) (y1 : Int32) (y2 : Int32) (y3 : Int32) (y4 : Int32) (y5 : Int32) (y6 : Int32) (y7 : Int32) (y8 : Int32) (y9 : Int32) (y10 : Int32) (y11 : Int32) (y12 : Int32) (y13 : Int32) (y14 : Int32) (y15 : Int32) (y16 : Int32) (y17 : Int32) (y18 : Int32) (y19 : Int32) (y20 : Int32) (y21 : Int32) (y22 : Int32) (y23 : Int32) (y24 : Int32) (y25 : Int32) (y26 : Int32) (h0 : Heap) (n0 : Nat) (Z0 : n0 ≤ h0.size) (E_o0 : Exa Z h0 o0 "java/lang/String") (F_value_o0 : Fld Z h0 o0 "java/lang/String" "value" "[B" u1) (F_coder_o0 : Fld Z h0 o0 "java/lang/String" "coder" "B" (.int u2)) (g_o0 : n0 ≤ o0) (ne_o0_o1 : o0 ≠ o1) (ne_o0_vb : o0 ≠ vb) (E_o1 : Exa Z h0 o1 "java/lang/StringBuilder") (F_value_o1 : Fld Z h0 o1 "java/lang/AbstractStringBuilder" "value" "[B" (.ref vb)) (F_coder_o1 : Fld Z h0 o1 "java/lang/AbstractStringBuilder" "coder" "B" (.int (0 : Int32))) (F_count_o1 : Fld Z h0 o1 "java/lang/AbstractStringBuilder" "count" "I" (.int (27 : Int32))) (E_vb : Exa Z h0 vb "[B") (A_vb : Arv Z h0 vb kb .byte (34 : Int32) [(.int y0), (.int y1), (.int y2), (.int y3), (.int y4), (.int y5), (.int y6), (.int y7), (.int y8), (.int y9), (.int y10), (.int y11), (.int y12), (.int y13), (.int y14), (.int y15), (.int y16), (.int y17), (.int y18), (.int y19), (.int y20), (.int y21), (.int y22), (.int y23), (.int y24), (.int y25), (.int y26), (.int (0 : Int32)), (.int (0 : Int32)), (.int (0 : Int32)), (.int (0 : Int32)), (.int (0 : Int32)), (.int (0 : Int32)), (.int (0 : Int32))] (.int (0 : Int32))) (ne_o1_vb : o1 ≠ vb) (S_COMPACT_STRINGS : Sta Z h0 "java/lang/String" "COMPACT_STRINGS" "Z" (.int cs)) (hcs : ¬ cs = (0 : Int32)) :
    MetFree l (⟨"java/lang/String", "<init>", "(Ljava/lang/AbstractStringBuilder;Ljava/lang/Void;)V"⟩ : MethodName) (head1 (Jvm.Cond.code (⟨"java/lang/String", "<init>", "(Ljava/lang/AbstractStringBuilder;Ljava/lang/Void;)V"⟩ : MethodName) jdk_42_method_150_code 5 none :: ws) ({ frames := 3, cells := 1, slots := 27, locals := 55 } : Room)) (fun a U => a = #[(.ref o0), (.ref o1), .null] ∧ Z.Warmed39 U.vm ∧ U.heap = h0) (fun _ _ _ _ _ => True) (fun _ U o U' => ∃ v L, o = .returned v ∧ Qsia27 Z o0 o1 u1 u2 vb kb cs y0 y1 y2 y3 y4 y5 y6 y7 y8 y9 y10 y11 y12 y13 y14 y15 y16 y17 y18 y19 y20 y21 y22 y23 y24 y25 y26 h0 n0 v U'.heap L ∧ FrameEnd U o U' L ({ frames := 3, cells := 1, slots := 27, locals := 55 } : Room).cells ({ frames := 3, cells := 1, slots := 27, locals := 55 } : Room).slots) := by
  refine MetFree.of_bodySF (plainFor_of_name pn_0) hisR ?_
  intro p e s m args below meth c s₁ Bd hml0 hP hK
  obtain ⟨rfl, hZ, hh⟩ := hP
  have hx := Bd.exec
  have hby := Bd.bytes
  have hml : c.maxLocals = 5 := hml0
  have hown : s.vm.findClass "java/lang/String" = some m.cls := findClass_of_methodNamed Bd.named
  have hnm := (name_of_methodNamed Bd.named Bd.method).1
  have X0 : Stand p l e ({ frames := 3, cells := 1, slots := 27, locals := 55 } : Room) s m #[(.ref o0), (.ref o1), .null] below meth c s₁ [] 0 0 := Stand.of_body Bd
  have e0 : s₁.heap = h0 := by rw [← hh, Bd.state]; rfl
  have N0 := Fr.nil n0
  refine Ends.opn ?_
  intro QQ hQQ
  refine Ends.step (S' := s₁.setTop (mkF m 0 #[.val (.ref o0), .val (.ref o1), .val .null, .unset, .unset] [])) (fun t k => castTop (ef_sia27 m o0 o1) k) ?_
  show Ends p e below QQ (s₁.setTop (mkF m 0 #[.val (.ref o0), .val (.ref o1), .val .null, .unset, .unset] []))
  refine Ends.step (fun _ k => XS.aloadN X0.here hx rfl (hb hby d29_0) rfl rfl k) ?_
  show Ends p e below QQ (s₁.setTop (mkF m 1 #[.val (.ref o0), .val (.ref o1), .val .null, .unset, .unset] [(.ref o0)]))
  obtain ⟨T114, X114, e114, st114⟩ := initO X0 hx hZ hown (hw _ (List.mem_of_getElem? (i := 171) rfl)) (hw _ (List.mem_of_getElem? (i := 7) rfl)) (hw _ (List.mem_of_getElem? (i := 8) rfl)) e0 (g := (mkF m 1 #[.val (.ref o0), .val (.ref o1), .val .null, .unset, .unset] [(.ref o0)])) rfl (by rw [hml]; rfl) rfl (hb hby d29_1) (by decide) (W := 0) (by show 2 * 0 + _ ≤ _; exact Nat.le_of_eq rfl) (by decide)
  refine Ends.step st114 ?_
  show Ends p e below QQ (T114.setTop (mkF m 4 #[.val (.ref o0), .val (.ref o1), .val .null, .unset, .unset] []))
  refine Ends.step (fun _ k => XS.aloadN X114.here hx rfl (hb hby d29_4) rfl rfl k) ?_
  show Ends p e below QQ (T114.setTop (mkF m 5 #[.val (.ref o0), .val (.ref o1), .val .null, .unset, .unset] [(.ref o1)]))
  obtain ⟨cq115, kq115, q115a, q115b, q115c⟩ := isOf hZ e114 E_o1
  obtain ⟨_, _, ⟨T115, L115, k115, n115⟩, -, X115, ⟨Lc115, hQ115, l115, y115, z115⟩, st115⟩ := X114.virtualBack hx (y := (⟨"java/lang/AbstractStringBuilder", "getValue", "()[B"⟩ : MethodName)) (z := (⟨"java/lang/AbstractStringBuilder", "getValue", "()[B"⟩ : MethodName)) hown (mvT hZ (hw _ (List.mem_of_getElem? (i := 172) rfl))) (mvT hZ (hw _ (List.mem_of_getElem? (i := 173) rfl))) (notFace_of_selects (args := #[]) (mvT hZ (hw _ (List.mem_of_getElem? (i := 175) rfl)))) (mvT hZ (hw _ (List.mem_of_getElem? (i := 175) rfl))) (mvT hZ (hw _ (List.mem_of_getElem? (i := 174) rfl))) (by decide) (backOf (W := 0) (rmgv l Z a0 hw [] o1 vb h0 n0 (Nat.le_trans Z0 (Keep.refl h0 [o0]).1) F_value_o1) hZ (hw _ (List.mem_of_getElem? (i := 176) rfl)) (hw _ (List.mem_of_getElem? (i := 40) rfl)) (by decide) (by decide)) q115a q115c (g := (mkF m 5 #[.val (.ref o0), .val (.ref o1), .val .null, .unset, .unset] [(.ref o1)])) rfl (by rw [hml]; rfl) (Steps.refl _) (argsL := []) (rest := []) (lenOf pd_16 rfl) rfl (by show 2 * 0 + _ ≤ _; exact Nat.le_of_eq rfl) (hb hby d29_5) (fun _ _ => ⟨rfl, e114, (by decide : 0 + 0 ≤ _), (by decide : 0 + 0 ≤ _)⟩)
  dsimp only [Pt.U, Pt.locs, Pt.cells, Pt.slots] at X115 l115 y115 z115 st115 hQ115
  subst l115 y115 z115
  obtain ⟨rfl, Nq115, hh115⟩ := hQ115
  have N115 := Fr.app N0 Nq115
  refine Ends.step (fun _ k => st115.trans k) ?_
  show Ends p e below QQ (T115.setTop (mkF m 8 #[.val (.ref o0), .val (.ref o1), .val .null, .unset, .unset] [(.ref vb)]))
  refine Ends.step (fun _ k => XS.astoreN X115.here hx rfl (hb hby d29_8) rfl rfl (l' := #[.val (.ref o0), .val (.ref o1), .val .null, .val (.ref vb), .unset]) rfl k) ?_
  show Ends p e below QQ (T115.setTop (mkF m 9 #[.val (.ref o0), .val (.ref o1), .val .null, .val (.ref vb), .unset] []))
  refine Ends.step (fun _ k => XS.aloadN X115.here hx rfl (hb hby d29_9) rfl rfl k) ?_
  show Ends p e below QQ (T115.setTop (mkF m 10 #[.val (.ref o0), .val (.ref o1), .val .null, .val (.ref vb), .unset] [(.ref o1)]))
  obtain ⟨cq116, kq116, q116a, q116b, q116c⟩ := isOf hZ hh115 E_o1
  obtain ⟨_, _, ⟨T116, L116, k116, n116⟩, -, X116, ⟨Lc116, hQ116, l116, y116, z116⟩, st116⟩ := X115.virtualBack hx (y := (⟨"java/lang/AbstractStringBuilder", "length", "()I"⟩ : MethodName)) (z := (⟨"java/lang/StringBuilder", "length", "()I"⟩ : MethodName)) hown (mvT hZ (hw _ (List.mem_of_getElem? (i := 177) rfl))) (mvT hZ (hw _ (List.mem_of_getElem? (i := 178) rfl))) (own_notface (args := #[]) (mvT hZ (hw _ (List.mem_of_getElem? (i := 84) rfl))) rfl) (mvT hZ (hw _ (List.mem_of_getElem? (i := 180) rfl))) (mvT hZ (hw _ (List.mem_of_getElem? (i := 181) rfl))) (by decide) (backOf (W := 0) (rmsbl l Z a0 hw [] o1 (27 : Int32) h0 n0 (Nat.le_trans Z0 (Keep.refl h0 [o0]).1) E_o1 F_count_o1) hZ (hw _ (List.mem_of_getElem? (i := 182) rfl)) (hw _ (List.mem_of_getElem? (i := 32) rfl)) (by decide) (by decide)) q116a q116c (g := (mkF m 10 #[.val (.ref o0), .val (.ref o1), .val .null, .val (.ref vb), .unset] [(.ref o1)])) rfl (by rw [hml]; rfl) (Steps.refl _) (argsL := []) (rest := []) (lenOf pd_8 rfl) rfl (by show 2 * 0 + _ ≤ _; exact Nat.le_of_eq rfl) (hb hby d29_10) (fun _ _ => ⟨rfl, hh115, (by decide : 0 + 0 ≤ _), (by decide : 0 + 0 ≤ _)⟩)
  dsimp only [Pt.U, Pt.locs, Pt.cells, Pt.slots] at X116 l116 y116 z116 st116 hQ116
  subst l116 y116 z116
  obtain ⟨rfl, Nq116, hh116⟩ := hQ116
  have N116 := Fr.app N115 Nq116
  refine Ends.step (fun _ k => st116.trans k) ?_
  show Ends p e below QQ (T116.setTop (mkF m 13 #[.val (.ref o0), .val (.ref o1), .val .null, .val (.ref vb), .unset] [(.int (27 : Int32))]))
  refine Ends.step (fun _ k => XS.istore X116.here hx rfl (hb hby d29_13) rfl (l' := #[.val (.ref o0), .val (.ref o1), .val .null, .val (.ref vb), .val (.int (27 : Int32))]) rfl k) ?_
  show Ends p e below QQ (T116.setTop (mkF m 15 #[.val (.ref o0), .val (.ref o1), .val .null, .val (.ref vb), .val (.int (27 : Int32))] []))
  refine Ends.step (fun _ k => XS.aloadN X116.here hx rfl (hb hby d29_15) rfl rfl k) ?_
  show Ends p e below QQ (T116.setTop (mkF m 16 #[.val (.ref o0), .val (.ref o1), .val .null, .val (.ref vb), .val (.int (27 : Int32))] [(.ref o1)]))
  obtain ⟨cq117, kq117, q117a, q117b, q117c⟩ := isOf hZ hh116 E_o1
  obtain ⟨_, _, ⟨T117, L117, k117, n117⟩, -, X117, ⟨Lc117, hQ117, l117, y117, z117⟩, st117⟩ := X116.virtualBack hx (y := (⟨"java/lang/AbstractStringBuilder", "isLatin1", "()Z"⟩ : MethodName)) (z := (⟨"java/lang/AbstractStringBuilder", "isLatin1", "()Z"⟩ : MethodName)) hown (mvT hZ (hw _ (List.mem_of_getElem? (i := 185) rfl))) (mvT hZ (hw _ (List.mem_of_getElem? (i := 123) rfl))) (notFace_of_selects (args := #[]) (mvT hZ (hw _ (List.mem_of_getElem? (i := 125) rfl)))) (mvT hZ (hw _ (List.mem_of_getElem? (i := 125) rfl))) (mvT hZ (hw _ (List.mem_of_getElem? (i := 124) rfl))) (by decide) (backOf (W := 0) (rmasi l Z a0 hw [] o1 cs h0 n0 (Nat.le_trans Z0 (Keep.refl h0 [o0]).1) S_COMPACT_STRINGS hcs F_coder_o1) hZ (hw _ (List.mem_of_getElem? (i := 126) rfl)) (hw _ (List.mem_of_getElem? (i := 40) rfl)) (by decide) (by decide)) q117a q117c (g := (mkF m 16 #[.val (.ref o0), .val (.ref o1), .val .null, .val (.ref vb), .val (.int (27 : Int32))] [(.ref o1)])) rfl (by rw [hml]; rfl) (Steps.refl _) (argsL := []) (rest := []) (lenOf pd_3 rfl) rfl (by show 2 * 0 + _ ≤ _; exact Nat.le_of_eq rfl) (hb hby d29_16) (fun _ _ => ⟨rfl, hh116, (by decide : 0 + 0 ≤ _), (by decide : 0 + 0 ≤ _)⟩)
  dsimp only [Pt.U, Pt.locs, Pt.cells, Pt.slots] at X117 l117 y117 z117 st117 hQ117
  subst l117 y117 z117
  obtain ⟨rfl, Nq117, hh117⟩ := hQ117
  have N117 := Fr.app N116 Nq117
  refine Ends.step (fun _ k => st117.trans k) ?_
  show Ends p e below QQ (T117.setTop (mkF m 19 #[.val (.ref o0), .val (.ref o1), .val .null, .val (.ref vb), .val (.int (27 : Int32))] [(.int (1 : Int32))]))
  refine Ends.step (fun _ k => XS.ifNo X117.here hx rfl (hb hby d29_19) rfl (XT.i0_eq_f (by decide)) k) ?_
  show Ends p e below QQ (T117.setTop (mkF m 22 #[.val (.ref o0), .val (.ref o1), .val .null, .val (.ref vb), .val (.int (27 : Int32))] []))
  refine Ends.step (fun _ k => XS.aloadN X117.here hx rfl (hb hby d29_22) rfl rfl k) ?_
  show Ends p e below QQ (T117.setTop (mkF m 23 #[.val (.ref o0), .val (.ref o1), .val .null, .val (.ref vb), .val (.int (27 : Int32))] [(.ref o0)]))
  refine Ends.step (fun _ k => XT.iconstV X117.here hx rfl (0 : Int32) (hb hby d29_23) rfl k) ?_
  show Ends p e below QQ (T117.setTop (mkF m 24 #[.val (.ref o0), .val (.ref o1), .val .null, .val (.ref vb), .val (.int (27 : Int32))] [(.int (0 : Int32)), (.ref o0)]))
  obtain ⟨T118, h118, X118, e118, W118, st118⟩ := putFN X117 hx hZ hown (hw _ (List.mem_of_getElem? (i := 78) rfl)) Via.refl hh117 F_coder_o0 E_o0 (Or.inr ⟨(hw _ (List.mem_of_getElem? (i := 53) rfl)), rfl, hnm⟩) (hw _ (List.mem_of_getElem? (i := 51) rfl)) (ty := .byte) (v' := (.int (0 : Int32))) (by decide) rfl rfl (g := (mkF m 24 #[.val (.ref o0), .val (.ref o1), .val .null, .val (.ref vb), .val (.int (27 : Int32))] [(.int (0 : Int32)), (.ref o0)])) rfl rfl (hb hby d29_24)
  have E_o0 := E_o0.wr W118
  have F_value_o0 := F_value_o0.other W118 (Or.inr (slot_ne (Or.inr (hw _ (List.mem_of_getElem? (i := 52) rfl))) (Or.inr (hw _ (List.mem_of_getElem? (i := 53) rfl))) (by decide) (t := (.array .byte)) (t' := .byte) (by decide) (by decide)))
  have E_o1 := E_o1.wr W118
  have F_value_o1 := F_value_o1.other W118 (Or.inl (Ne.symm ne_o0_o1))
  have F_coder_o1 := F_coder_o1.other W118 (Or.inl (Ne.symm ne_o0_o1))
  have F_count_o1 := F_count_o1.other W118 (Or.inl (Ne.symm ne_o0_o1))
  have E_vb := E_vb.wr W118
  have A_vb := A_vb.other W118 (Ne.symm ne_o0_vb)
  have S_COMPACT_STRINGS := S_COMPACT_STRINGS.wr W118
  have F_coder_o0 : Fld Z h118 o0 "java/lang/String" "coder" "B" (.int (0 : Int32)) := F_coder_o0.same W118
  have K118 := (Keep.refl h0 [o0]).wr W118 (Or.inl (List.mem_of_getElem? (i := 0) rfl))
  have N118 := Fr.snoc X118 N117 g_o0
  refine Ends.step st118 ?_
  show Ends p e below QQ (T118.setTop (mkF m 27 #[.val (.ref o0), .val (.ref o1), .val .null, .val (.ref vb), .val (.int (27 : Int32))] []))
  refine Ends.step (fun _ k => XS.aloadN X118.here hx rfl (hb hby d29_27) rfl rfl k) ?_
  show Ends p e below QQ (T118.setTop (mkF m 28 #[.val (.ref o0), .val (.ref o1), .val .null, .val (.ref vb), .val (.int (27 : Int32))] [(.ref o0)]))
  refine Ends.step (fun _ k => XS.aloadN X118.here hx rfl (hb hby d29_28) rfl rfl k) ?_
  show Ends p e below QQ (T118.setTop (mkF m 29 #[.val (.ref o0), .val (.ref o1), .val .null, .val (.ref vb), .val (.int (27 : Int32))] [(.ref vb), (.ref o0)]))
  refine Ends.step (fun _ k => XT.iconstV X118.here hx rfl (0 : Int32) (hb hby d29_29) rfl k) ?_
  show Ends p e below QQ (T118.setTop (mkF m 30 #[.val (.ref o0), .val (.ref o1), .val .null, .val (.ref vb), .val (.int (27 : Int32))] [(.int (0 : Int32)), (.ref vb), (.ref o0)]))
  refine Ends.step (fun _ k => XS.iload X118.here hx rfl (hb hby d29_30) rfl k) ?_
  show Ends p e below QQ (T118.setTop (mkF m 32 #[.val (.ref o0), .val (.ref o1), .val .null, .val (.ref vb), .val (.int (27 : Int32))] [(.int (27 : Int32)), (.int (0 : Int32)), (.ref vb), (.ref o0)]))
  obtain ⟨_, _, ⟨T119, L119, k119, n119⟩, -, X119, ⟨Lc119, hQ119, l119, y119, z119⟩, st119⟩ := Jvm.LawKit.callS X118 hx (y := (⟨"java/util/Arrays", "copyOfRange", "([BII)[B"⟩ : MethodName)) hown (mvT hZ (hw _ (List.mem_of_getElem? (i := 186) rfl))) (mvT hZ (hw _ (List.mem_of_getElem? (i := 187) rfl))) (mvT hZ (hw _ (List.mem_of_getElem? (i := 151) rfl))) (mvT hZ (hw _ (List.mem_of_getElem? (i := 188) rfl))) (by decide) (backOf (W := 1) (rmcor27 l Z a0 hw [] vb kb y0 y1 y2 y3 y4 y5 y6 y7 y8 y9 y10 y11 y12 y13 y14 y15 y16 y17 y18 y19 y20 y21 y22 y23 y24 y25 y26 h118 n0 (Nat.le_trans Z0 K118.1) A_vb E_vb) hZ (hw _ (List.mem_of_getElem? (i := 188) rfl)) (hw _ (List.mem_of_getElem? (i := 151) rfl)) (by decide) (by decide)) (g := (mkF m 32 #[.val (.ref o0), .val (.ref o1), .val .null, .val (.ref vb), .val (.int (27 : Int32))] [(.int (27 : Int32)), (.int (0 : Int32)), (.ref vb), (.ref o0)])) rfl (by rw [hml]; rfl) (argsL := [(.ref vb), (.int (0 : Int32)), (.int (27 : Int32))]) (rest := [(.ref o0)]) (lenOf pd_15 rfl) rfl (by show 2 * 0 + _ ≤ _; exact Nat.le_of_eq rfl) (hb hby d29_32) (fun _ _ => ⟨rfl, e118, (by decide : 0 + 1 ≤ _), (by decide : 0 + 27 ≤ _)⟩)
  dsimp only [Pt.U, Pt.locs, Pt.cells, Pt.slots] at X119 l119 y119 z119 st119 hQ119
  subst l119 y119 z119
  obtain ⟨b_119, k2_119, rfl, Nq119, Kq119, fq119_0, fq119_1, fq119_2, fq119_3⟩ := hQ119
  have N119 := Fr.app N118 Nq119
  have ne_o0_b_119 : o0 ≠ b_119 := Nat.ne_of_lt (Nat.lt_of_lt_of_le E_o0.lt fq119_0)
  have ne_o1_b_119 : o1 ≠ b_119 := Nat.ne_of_lt (Nat.lt_of_lt_of_le E_o1.lt fq119_0)
  have ne_vb_b_119 : vb ≠ b_119 := Nat.ne_of_lt (Nat.lt_of_lt_of_le E_vb.lt fq119_0)
  have sz_b_119 := Nat.le_trans K118.1 fq119_0
  have S_COMPACT_STRINGS := own_sta_keep S_COMPACT_STRINGS Kq119 all0
  have E_o0 := E_o0.keep Kq119
  have F_value_o0 := F_value_o0.keep Kq119 nin0
  have F_coder_o0 := F_coder_o0.keep Kq119 nin0
  have E_o1 := E_o1.keep Kq119
  have F_value_o1 := F_value_o1.keep Kq119 nin0
  have F_coder_o1 := F_coder_o1.keep Kq119 nin0
  have F_count_o1 := F_count_o1.keep Kq119 nin0
  have E_vb := E_vb.keep Kq119
  have A_vb := A_vb.keep Kq119 nin0
  have g_b_119 := fq119_1
  have E_b_119 := fq119_2
  have A_b_119 := fq119_3
  have K119 := K118.trans Kq119 all0
  refine Ends.step st119 ?_
  show Ends p e below QQ (T119.setTop (mkF m 35 #[.val (.ref o0), .val (.ref o1), .val .null, .val (.ref vb), .val (.int (27 : Int32))] [(.ref b_119), (.ref o0)]))
  obtain ⟨T120, h120, X120, e120, W120, st120⟩ := putF X119 hx hZ hown (host := "") (Or.inl (hw _ (List.mem_of_getElem? (i := 71) rfl))) Via.refl rfl F_value_o0 E_o0 (Or.inr ⟨(hw _ (List.mem_of_getElem? (i := 52) rfl)), rfl, hnm⟩) (hw _ (List.mem_of_getElem? (i := 51) rfl)) (ty := (.array .byte)) (by decide) rfl rfl (g := (mkF m 35 #[.val (.ref o0), .val (.ref o1), .val .null, .val (.ref vb), .val (.int (27 : Int32))] [(.ref b_119), (.ref o0)])) rfl rfl (hb hby d29_35)
  have E_o0 := E_o0.wr W120
  have F_coder_o0 := F_coder_o0.other W120 (Or.inr (slot_ne (Or.inr (hw _ (List.mem_of_getElem? (i := 53) rfl))) (Or.inr (hw _ (List.mem_of_getElem? (i := 52) rfl))) (by decide) (t := .byte) (t' := (.array .byte)) (by decide) (by decide)))
  have E_o1 := E_o1.wr W120
  have F_value_o1 := F_value_o1.other W120 (Or.inl (Ne.symm ne_o0_o1))
  have F_coder_o1 := F_coder_o1.other W120 (Or.inl (Ne.symm ne_o0_o1))
  have F_count_o1 := F_count_o1.other W120 (Or.inl (Ne.symm ne_o0_o1))
  have E_vb := E_vb.wr W120
  have A_vb := A_vb.other W120 (Ne.symm ne_o0_vb)
  have S_COMPACT_STRINGS := S_COMPACT_STRINGS.wr W120
  have E_b_119 := E_b_119.wr W120
  have A_b_119 := A_b_119.other W120 (Ne.symm ne_o0_b_119)
  have F_value_o0 : Fld Z h120 o0 "java/lang/String" "value" "[B" (.ref b_119) := F_value_o0.same W120
  have K120 := K119.wr W120 (Or.inl (List.mem_of_getElem? (i := 0) rfl))
  have N120 := Fr.snoc X120 N119 g_o0
  refine Ends.step st120 ?_
  show Ends p e below QQ (T120.setTop (mkF m 38 #[.val (.ref o0), .val (.ref o1), .val .null, .val (.ref vb), .val (.int (27 : Int32))] []))
  refine Ends.step (fun _ k => XS.goto X120.here hx rfl (pc0 := 38) (pc' := 97) rfl (hb hby d29_38) (by decide) (by decide) k) ?_
  show Ends p e below QQ (T120.setTop (mkF m 97 #[.val (.ref o0), .val (.ref o1), .val .null, .val (.ref vb), .val (.int (27 : Int32))] []))
  exact Ends.fin (none) X120 hQQ (fun _ => rfl) Bd.notSynchronized (fun _ hr => X120.returnOut hx Bd.returns (hb hby d29_97) hr) e120 (by decide) (by decide) ⟨b_119, k2_119, rfl, N120, K120, sz_b_119, g_b_119, E_o0, F_value_o0, F_coder_o0, E_b_119, A_b_119⟩
theorem d28_0 : decode jdk_42_method_53_code 0 = .ok (.aload_n 0, 1) := by decide +kernel
theorem d28_1 : decode jdk_42_method_53_code 1 = .ok (.aload_n 1, 1) := by decide +kernel
theorem d28_2 : decode jdk_42_method_53_code 2 = .ok (.aconst_null, 1) := by decide +kernel
theorem d28_3 : decode jdk_42_method_53_code 3 = .ok (.invokespecial 489, 3) := by decide +kernel
theorem d28_6 : decode jdk_42_method_53_code 6 = .ok (.return_, 1) := by decide +kernel
theorem ef_sis27 (m : MethodId) (x0 : Addr) (x1 : Addr) : entryFrame m #[(.ref x0), (.ref x1)] 2 = mkF m 0 #[.val (.ref x0), .val (.ref x1)] [] := by first | (simp [entryFrame, mkF, argsToLocals, Value.category]; done) | rfl
def Qsis27 (Z : State) (o0 : Addr) (o1 : Addr) (u1 : Value) (u2 : Int32) (vb : Addr) (kb : ClassId) (cs : Int32) (y0 : Int32) (y1 : Int32) (y2 : Int32) (y3 : Int32) (y4 : Int32) (y5 : Int32) (y6 : Int32) (y7 : Int32) (y8 : Int32) (y9 : Int32) (y10 : Int32) (y11 : Int32) (y12 : Int32) (y13 : Int32) (y14 : Int32) (y15 : Int32) (y16 : Int32) (y17 : Int32) (y18 : Int32) (y19 : Int32) (y20 : Int32) (y21 : Int32) (y22 : Int32) (y23 : Int32) (y24 : Int32) (y25 : Int32) (y26 : Int32) (h0 : Heap) (n0 : Nat) (v : Option Value) (h : Heap) (L : List Loc) : Prop := ∃ (b : Addr), ∃ (k2 : ClassId), (v = none) ∧ (Fr n0 L) ∧ (Keep h0 h [o0]) ∧ (h0.size ≤ b) ∧ (n0 ≤ b) ∧ (Exa Z h o0 "java/lang/String") ∧ (Fld Z h o0 "java/lang/String" "value" "[B" (.ref b)) ∧ (Fld Z h o0 "java/lang/String" "coder" "B" (.int (0 : Int32))) ∧ (Exa Z h b "[B") ∧ (Arv Z h b k2 .byte (27 : Int32) [(.int y0), (.int y1), (.int y2), (.int y3), (.int y4), (.int y5), (.int y6), (.int y7), (.int y8), (.int y9), (.int y10), (.int y11), (.int y12), (.int y13), (.int y14), (.int y15), (.int y16), (.int y17), (.int y18), (.int y19), (.int y20), (.int y21), (.int y22), (.int y23), (.int y24), (.int y25), (.int y26)] (.int (0 : Int32)))
set_option maxRecDepth 65536 in
set_option maxHeartbeats 40000000 in
theorem rmsis27 (l : Launch) (Z : State) (a0 : Array Value) (hw : ∀ d ∈ tables_1, d.before a0 Z = true) (ws : List Jvm.Cond) (o0 : Addr) (o1 : Addr) (u1 : Value) (u2 : Int32) (vb : Addr) (kb : ClassId) (cs : Int32) (y0 : Int32) (y1 : Int32) (y2 : Int32) (y3 : Int32) (y4 : Int32) (y5 : Int32) (y6 : Int32) (y7 : Int32) (y8 : Int32) (y9 : Int32) (y10 : Int32) (y11 : Int32) (y12 : Int32) (y13 : Int32) (y14 : Int32) (y15 : Int32) (y16 : Int32) (y17 : Int32) (y18 : Int32) (y19 : Int32) (y20 : Int32) (y21 : Int32) (y22 : Int32) (y23 : Int32) (y24 : Int32) (y25 : Int32) (y26 : Int32) (h0 : Heap) (n0 : Nat) (Z0 : n0 ≤ h0.size) (E_o0 : Exa Z h0 o0 "java/lang/String") (F_value_o0 : Fld Z h0 o0 "java/lang/String" "value" "[B" u1) (F_coder_o0 : Fld Z h0 o0 "java/lang/String" "coder" "B" (.int u2)) (g_o0 : n0 ≤ o0) (ne_o0_o1 : o0 ≠ o1) (ne_o0_vb : o0 ≠ vb) (E_o1 : Exa Z h0 o1 "java/lang/StringBuilder") (F_value_o1 : Fld Z h0 o1 "java/lang/AbstractStringBuilder" "value" "[B" (.ref vb)) (F_coder_o1 : Fld Z h0 o1 "java/lang/AbstractStringBuilder" "coder" "B" (.int (0 : Int32))) (F_count_o1 : Fld Z h0 o1 "java/lang/AbstractStringBuilder" "count" "I" (.int (27 : Int32))) (E_vb : Exa Z h0 vb "[B") (A_vb : Arv Z h0 vb kb .byte (34 : Int32) [(.int y0), (.int y1), (.int y2), (.int y3), (.int y4), (.int y5), (.int y6), (.int y7), (.int y8), (.int y9), (.int y10), (.int y11), (.int y12), (.int y13), (.int y14), (.int y15), (.int y16), (.int y17), (.int y18), (.int y19), (.int y20), (.int y21), (.int y22), (.int y23), (.int y24), (.int y25), (.int y26), (.int (0 : Int32)), (.int (0 : Int32)), (.int (0 : Int32)), (.int (0 : Int32)), (.int (0 : Int32)), (.int (0 : Int32)), (.int (0 : Int32))] (.int (0 : Int32))) (ne_o1_vb : o1 ≠ vb) (S_COMPACT_STRINGS : Sta Z h0 "java/lang/String" "COMPACT_STRINGS" "Z" (.int cs)) (hcs : ¬ cs = (0 : Int32)) :
    MetFree l (⟨"java/lang/String", "<init>", "(Ljava/lang/StringBuilder;)V"⟩ : MethodName) (head1 (Jvm.Cond.code (⟨"java/lang/String", "<init>", "(Ljava/lang/StringBuilder;)V"⟩ : MethodName) jdk_42_method_53_code 2 none :: ws) ({ frames := 4, cells := 1, slots := 27, locals := 71 } : Room)) (fun a U => a = #[(.ref o0), (.ref o1)] ∧ Z.Warmed39 U.vm ∧ U.heap = h0) (fun _ _ _ _ _ => True) (fun _ U o U' => ∃ v L, o = .returned v ∧ Qsis27 Z o0 o1 u1 u2 vb kb cs y0 y1 y2 y3 y4 y5 y6 y7 y8 y9 y10 y11 y12 y13 y14 y15 y16 y17 y18 y19 y20 y21 y22 y23 y24 y25 y26 h0 n0 v U'.heap L ∧ FrameEnd U o U' L ({ frames := 4, cells := 1, slots := 27, locals := 71 } : Room).cells ({ frames := 4, cells := 1, slots := 27, locals := 71 } : Room).slots) := by
  refine MetFree.of_bodySF (plainFor_of_name pn_0) hisR ?_
  intro p e s m args below meth c s₁ Bd hml0 hP hK
  obtain ⟨rfl, hZ, hh⟩ := hP
  have hx := Bd.exec
  have hby := Bd.bytes
  have hml : c.maxLocals = 2 := hml0
  have hown : s.vm.findClass "java/lang/String" = some m.cls := findClass_of_methodNamed Bd.named
  have hnm := (name_of_methodNamed Bd.named Bd.method).1
  have X0 : Stand p l e ({ frames := 4, cells := 1, slots := 27, locals := 71 } : Room) s m #[(.ref o0), (.ref o1)] below meth c s₁ [] 0 0 := Stand.of_body Bd
  have e0 : s₁.heap = h0 := by rw [← hh, Bd.state]; rfl
  have N0 := Fr.nil n0
  refine Ends.opn ?_
  intro QQ hQQ
  refine Ends.step (S' := s₁.setTop (mkF m 0 #[.val (.ref o0), .val (.ref o1)] [])) (fun t k => castTop (ef_sis27 m o0 o1) k) ?_
  show Ends p e below QQ (s₁.setTop (mkF m 0 #[.val (.ref o0), .val (.ref o1)] []))
  refine Ends.step (fun _ k => XS.aloadN X0.here hx rfl (hb hby d28_0) rfl rfl k) ?_
  show Ends p e below QQ (s₁.setTop (mkF m 1 #[.val (.ref o0), .val (.ref o1)] [(.ref o0)]))
  refine Ends.step (fun _ k => XS.aloadN X0.here hx rfl (hb hby d28_1) rfl rfl k) ?_
  show Ends p e below QQ (s₁.setTop (mkF m 2 #[.val (.ref o0), .val (.ref o1)] [(.ref o1), (.ref o0)]))
  refine Ends.step (fun _ k => XS.aconstNull X0.here hx rfl (hb hby d28_2) k) ?_
  show Ends p e below QQ (s₁.setTop (mkF m 3 #[.val (.ref o0), .val (.ref o1)] [.null, (.ref o1), (.ref o0)]))
  obtain ⟨_, _, ⟨T121, L121, k121, n121⟩, -, X121, ⟨Lc121, hQ121, l121, y121, z121⟩, st121⟩ := X0.specialBack hx (y := (⟨"java/lang/String", "<init>", "(Ljava/lang/AbstractStringBuilder;Ljava/lang/Void;)V"⟩ : MethodName)) rfl hown (mvT hZ (hw _ (List.mem_of_getElem? (i := 168) rfl))) (mvT hZ (hw _ (List.mem_of_getElem? (i := 169) rfl))) (mvT hZ (hw _ (List.mem_of_getElem? (i := 170) rfl))) (by decide) (backOf (W := 0) (rmsia27 l Z a0 hw [] o0 o1 u1 u2 vb kb cs y0 y1 y2 y3 y4 y5 y6 y7 y8 y9 y10 y11 y12 y13 y14 y15 y16 y17 y18 y19 y20 y21 y22 y23 y24 y25 y26 h0 n0 (Nat.le_trans Z0 (Keep.refl h0 [o0]).1) E_o0 F_value_o0 F_coder_o0 g_o0 ne_o0_o1 ne_o0_vb E_o1 F_value_o1 F_coder_o1 F_count_o1 E_vb A_vb ne_o1_vb S_COMPACT_STRINGS hcs) hZ (hw _ (List.mem_of_getElem? (i := 170) rfl)) (hw _ (List.mem_of_getElem? (i := 44) rfl)) (by decide) (by decide)) (g := (mkF m 3 #[.val (.ref o0), .val (.ref o1)] [.null, (.ref o1), (.ref o0)])) rfl (by rw [hml]; rfl) (Steps.refl _) (a := o0) (argsL := [(.ref o1), .null]) (rest := []) (lenOf pd_17 rfl) rfl (by show 2 * 0 + _ ≤ _; exact Nat.le_of_eq rfl) (hb hby d28_3) (fun _ _ => ⟨rfl, e0, (by decide : 0 + 1 ≤ _), (by decide : 0 + 27 ≤ _)⟩)
  dsimp only [Pt.U, Pt.locs, Pt.cells, Pt.slots] at X121 l121 y121 z121 st121 hQ121
  subst l121 y121 z121
  obtain ⟨b_121, k2_121, rfl, Nq121, Kq121, fq121_0, fq121_1, fq121_2, fq121_3, fq121_4, fq121_5, fq121_6⟩ := hQ121
  have N121 := Fr.app N0 Nq121
  have ne_o0_b_121 : o0 ≠ b_121 := Nat.ne_of_lt (Nat.lt_of_lt_of_le E_o0.lt fq121_0)
  have ne_o1_b_121 : o1 ≠ b_121 := Nat.ne_of_lt (Nat.lt_of_lt_of_le E_o1.lt fq121_0)
  have ne_vb_b_121 : vb ≠ b_121 := Nat.ne_of_lt (Nat.lt_of_lt_of_le E_vb.lt fq121_0)
  have sz_b_121 := Nat.le_trans (Keep.refl h0 [o0]).1 fq121_0
  have S_COMPACT_STRINGS := own_sta_keep S_COMPACT_STRINGS Kq121 (allS E_o0.cell all0)
  have E_o1 := E_o1.keep Kq121
  have F_value_o1 := F_value_o1.keep Kq121 (ninS (Ne.symm ne_o0_o1) nin0)
  have F_coder_o1 := F_coder_o1.keep Kq121 (ninS (Ne.symm ne_o0_o1) nin0)
  have F_count_o1 := F_count_o1.keep Kq121 (ninS (Ne.symm ne_o0_o1) nin0)
  have E_vb := E_vb.keep Kq121
  have A_vb := A_vb.keep Kq121 (ninS (Ne.symm ne_o0_vb) nin0)
  have g_b_121 := fq121_1
  have E_o0 := fq121_2
  have F_value_o0 := fq121_3
  have F_coder_o0 := fq121_4
  have E_b_121 := fq121_5
  have A_b_121 := fq121_6
  have K121 := (Keep.refl h0 [o0]).trans Kq121 (allS (Or.inl (List.mem_of_getElem? (i := 0) rfl)) all0)
  refine Ends.step (fun _ k => st121.trans k) ?_
  show Ends p e below QQ (T121.setTop (mkF m 6 #[.val (.ref o0), .val (.ref o1)] []))
  exact Ends.fin (none) X121 hQQ (fun _ => rfl) Bd.notSynchronized (fun _ hr => X121.returnOut hx Bd.returns (hb hby d28_6) hr) rfl (by decide) (by decide) ⟨b_121, k2_121, rfl, N121, K121, sz_b_121, g_b_121, E_o0, F_value_o0, F_coder_o0, E_b_121, A_b_121⟩
theorem d27_0 : decode jdk_67_method_42_code 0 = .ok (.new 18, 3) := by decide +kernel
theorem d27_3 : decode jdk_67_method_42_code 3 = .ok (.dup, 1) := by decide +kernel
theorem d27_4 : decode jdk_67_method_42_code 4 = .ok (.aload_n 0, 1) := by decide +kernel
theorem d27_5 : decode jdk_67_method_42_code 5 = .ok (.invokespecial 137, 3) := by decide +kernel
theorem d27_8 : decode jdk_67_method_42_code 8 = .ok (.areturn, 1) := by decide +kernel
theorem ef_tos27 (m : MethodId) (x0 : Addr) : entryFrame m #[(.ref x0)] 1 = mkF m 0 #[.val (.ref x0)] [] := by first | (simp [entryFrame, mkF, argsToLocals, Value.category]; done) | rfl
def Qtos27 (Z : State) (o0 : Addr) (vb : Addr) (kb : ClassId) (cs : Int32) (y0 : Int32) (y1 : Int32) (y2 : Int32) (y3 : Int32) (y4 : Int32) (y5 : Int32) (y6 : Int32) (y7 : Int32) (y8 : Int32) (y9 : Int32) (y10 : Int32) (y11 : Int32) (y12 : Int32) (y13 : Int32) (y14 : Int32) (y15 : Int32) (y16 : Int32) (y17 : Int32) (y18 : Int32) (y19 : Int32) (y20 : Int32) (y21 : Int32) (y22 : Int32) (y23 : Int32) (y24 : Int32) (y25 : Int32) (y26 : Int32) (h0 : Heap) (n0 : Nat) (v : Option Value) (h : Heap) (L : List Loc) : Prop := ∃ (x : Addr), ∃ (b : Addr), ∃ (k2 : ClassId), (v = some (.ref x)) ∧ (Fr n0 L) ∧ (Keep h0 h []) ∧ (h0.size ≤ x) ∧ (h0.size ≤ b) ∧ (n0 ≤ x) ∧ (n0 ≤ b) ∧ (Exa Z h x "java/lang/String") ∧ (Fld Z h x "java/lang/String" "value" "[B" (.ref b)) ∧ (Fld Z h x "java/lang/String" "coder" "B" (.int (0 : Int32))) ∧ (Exa Z h b "[B") ∧ (Arv Z h b k2 .byte (27 : Int32) [(.int y0), (.int y1), (.int y2), (.int y3), (.int y4), (.int y5), (.int y6), (.int y7), (.int y8), (.int y9), (.int y10), (.int y11), (.int y12), (.int y13), (.int y14), (.int y15), (.int y16), (.int y17), (.int y18), (.int y19), (.int y20), (.int y21), (.int y22), (.int y23), (.int y24), (.int y25), (.int y26)] (.int (0 : Int32))) ∧ (x ≠ b)
set_option maxRecDepth 65536 in
set_option maxHeartbeats 40000000 in
theorem rmtos27 (l : Launch) (Z : State) (a0 : Array Value) (hw : ∀ d ∈ tables_1, d.before a0 Z = true) (ws : List Jvm.Cond) (o0 : Addr) (vb : Addr) (kb : ClassId) (cs : Int32) (y0 : Int32) (y1 : Int32) (y2 : Int32) (y3 : Int32) (y4 : Int32) (y5 : Int32) (y6 : Int32) (y7 : Int32) (y8 : Int32) (y9 : Int32) (y10 : Int32) (y11 : Int32) (y12 : Int32) (y13 : Int32) (y14 : Int32) (y15 : Int32) (y16 : Int32) (y17 : Int32) (y18 : Int32) (y19 : Int32) (y20 : Int32) (y21 : Int32) (y22 : Int32) (y23 : Int32) (y24 : Int32) (y25 : Int32) (y26 : Int32) (h0 : Heap) (n0 : Nat) (Z0 : n0 ≤ h0.size) (E_o0 : Exa Z h0 o0 "java/lang/StringBuilder") (F_value_o0 : Fld Z h0 o0 "java/lang/AbstractStringBuilder" "value" "[B" (.ref vb)) (F_coder_o0 : Fld Z h0 o0 "java/lang/AbstractStringBuilder" "coder" "B" (.int (0 : Int32))) (F_count_o0 : Fld Z h0 o0 "java/lang/AbstractStringBuilder" "count" "I" (.int (27 : Int32))) (E_vb : Exa Z h0 vb "[B") (A_vb : Arv Z h0 vb kb .byte (34 : Int32) [(.int y0), (.int y1), (.int y2), (.int y3), (.int y4), (.int y5), (.int y6), (.int y7), (.int y8), (.int y9), (.int y10), (.int y11), (.int y12), (.int y13), (.int y14), (.int y15), (.int y16), (.int y17), (.int y18), (.int y19), (.int y20), (.int y21), (.int y22), (.int y23), (.int y24), (.int y25), (.int y26), (.int (0 : Int32)), (.int (0 : Int32)), (.int (0 : Int32)), (.int (0 : Int32)), (.int (0 : Int32)), (.int (0 : Int32)), (.int (0 : Int32))] (.int (0 : Int32))) (ne_o0_vb : o0 ≠ vb) (S_COMPACT_STRINGS : Sta Z h0 "java/lang/String" "COMPACT_STRINGS" "Z" (.int cs)) (hcs : ¬ cs = (0 : Int32)) :
    MetFree l (⟨"java/lang/StringBuilder", "toString", "()Ljava/lang/String;"⟩ : MethodName) (head1 (Jvm.Cond.code (⟨"java/lang/StringBuilder", "toString", "()Ljava/lang/String;"⟩ : MethodName) jdk_67_method_42_code 1 (some (.object "java/lang/String")) :: ws) ({ frames := 5, cells := 2, slots := 31, locals := 85 } : Room)) (fun a U => a = #[(.ref o0)] ∧ Z.Warmed39 U.vm ∧ U.heap = h0) (fun _ _ _ _ _ => True) (fun _ U o U' => ∃ v L, o = .returned v ∧ Qtos27 Z o0 vb kb cs y0 y1 y2 y3 y4 y5 y6 y7 y8 y9 y10 y11 y12 y13 y14 y15 y16 y17 y18 y19 y20 y21 y22 y23 y24 y25 y26 h0 n0 v U'.heap L ∧ FrameEnd U o U' L ({ frames := 5, cells := 2, slots := 31, locals := 85 } : Room).cells ({ frames := 5, cells := 2, slots := 31, locals := 85 } : Room).slots) := by
  refine MetFree.of_bodySF (plainFor_of_name pn_4) hisR ?_
  intro p e s m args below meth c s₁ Bd hml0 hP hK
  obtain ⟨rfl, hZ, hh⟩ := hP
  have hx := Bd.exec
  have hby := Bd.bytes
  have hml : c.maxLocals = 1 := hml0
  have hown : s.vm.findClass "java/lang/StringBuilder" = some m.cls := findClass_of_methodNamed Bd.named
  have hnm := (name_of_methodNamed Bd.named Bd.method).1
  have X0 : Stand p l e ({ frames := 5, cells := 2, slots := 31, locals := 85 } : Room) s m #[(.ref o0)] below meth c s₁ [] 0 0 := Stand.of_body Bd
  have e0 : s₁.heap = h0 := by rw [← hh, Bd.state]; rfl
  have N0 := Fr.nil n0
  refine Ends.opn ?_
  intro QQ hQQ
  refine Ends.step (S' := s₁.setTop (mkF m 0 #[.val (.ref o0)] [])) (fun t k => castTop (ef_tos27 m o0) k) ?_
  show Ends p e below QQ (s₁.setTop (mkF m 0 #[.val (.ref o0)] []))
  obtain ⟨T122, h122, X122, e122, E122, A122, D122, U122, st122⟩ := newO X0 hx hZ hown (hw _ (List.mem_of_getElem? (i := 163) rfl)) (hw _ (List.mem_of_getElem? (i := 51) rfl)) (hw _ (List.mem_of_getElem? (i := 44) rfl)) e0 (g := (mkF m 0 #[.val (.ref o0)] [])) rfl (hb hby d27_0) (by decide) (by decide)
  obtain ⟨b122, g122⟩ : ∃ z, z = h0.size := ⟨_, rfl⟩
  rw [← g122] at A122 D122 U122 st122
  have ne_o0_b122 : o0 ≠ b122 := Nat.ne_of_lt (Nat.lt_of_lt_of_le E_o0.lt (Nat.le_of_eq g122.symm))
  have ne_vb_b122 : vb ≠ b122 := Nat.ne_of_lt (Nat.lt_of_lt_of_le E_vb.lt (Nat.le_of_eq g122.symm))
  have g_b122 : n0 ≤ b122 := Nat.le_trans Z0 (Nat.le_trans (Keep.refl h0 []).1 (Nat.le_of_eq g122.symm))
  have sz_b122 : h0.size ≤ b122 := Nat.le_trans (Keep.refl h0 []).1 (Nat.le_of_eq g122.symm)
  have E_o0 := E_o0.ext E122
  have F_value_o0 := F_value_o0.ext E122
  have F_coder_o0 := F_coder_o0.ext E122
  have F_count_o0 := F_count_o0.ext E122
  have E_vb := E_vb.ext E122
  have A_vb := A_vb.ext E122
  have S_COMPACT_STRINGS := S_COMPACT_STRINGS.ext E122
  have K122 := (Keep.refl h0 []).ext E122
  have E_b122 := A122
  have F_value_b122 : Fld Z h122 b122 "java/lang/String" "value" "[B" .null := D122 (Or.inr (hw _ (List.mem_of_getElem? (i := 52) rfl))) (ty := (.array .byte)) (by decide)
  have F_coder_b122 : Fld Z h122 b122 "java/lang/String" "coder" "B" (.int (0 : Int32)) := D122 (Or.inr (hw _ (List.mem_of_getElem? (i := 53) rfl))) (ty := .byte) (by decide)
  refine Ends.step st122 ?_
  show Ends p e below QQ (T122.setTop (mkF m 3 #[.val (.ref o0)] [(.ref b122)]))
  refine Ends.step (fun _ k => XS.dup X122.here hx rfl (hb hby d27_3) rfl rfl k) ?_
  show Ends p e below QQ (T122.setTop (mkF m 4 #[.val (.ref o0)] [(.ref b122), (.ref b122)]))
  refine Ends.step (fun _ k => XS.aloadN X122.here hx rfl (hb hby d27_4) rfl rfl k) ?_
  show Ends p e below QQ (T122.setTop (mkF m 5 #[.val (.ref o0)] [(.ref o0), (.ref b122), (.ref b122)]))
  obtain ⟨_, _, ⟨T123, L123, k123, n123⟩, -, X123, ⟨Lc123, hQ123, l123, y123, z123⟩, st123⟩ := X122.specialBack hx (y := (⟨"java/lang/String", "<init>", "(Ljava/lang/StringBuilder;)V"⟩ : MethodName)) rfl hown (mvT hZ (hw _ (List.mem_of_getElem? (i := 164) rfl))) (mvT hZ (hw _ (List.mem_of_getElem? (i := 165) rfl))) (mvT hZ (hw _ (List.mem_of_getElem? (i := 167) rfl))) (by decide) (backOf (W := 1) (rmsis27 l Z a0 hw [] b122 o0 (.null : Value) (0 : Int32) vb kb cs y0 y1 y2 y3 y4 y5 y6 y7 y8 y9 y10 y11 y12 y13 y14 y15 y16 y17 y18 y19 y20 y21 y22 y23 y24 y25 y26 h122 n0 (Nat.le_trans Z0 K122.1) E_b122 F_value_b122 F_coder_b122 g_b122 (Ne.symm ne_o0_b122) (Ne.symm ne_vb_b122) E_o0 F_value_o0 F_coder_o0 F_count_o0 E_vb A_vb ne_o0_vb S_COMPACT_STRINGS hcs) hZ (hw _ (List.mem_of_getElem? (i := 167) rfl)) (hw _ (List.mem_of_getElem? (i := 44) rfl)) (by decide) (by decide)) (g := (mkF m 5 #[.val (.ref o0)] [(.ref o0), (.ref b122), (.ref b122)])) rfl (by rw [hml]; rfl) (Steps.refl _) (a := b122) (argsL := [(.ref o0)]) (rest := [(.ref b122)]) (lenOf pd_18 rfl) rfl (by show 2 * 0 + _ ≤ _; exact Nat.le_of_eq rfl) (hb hby d27_5) (fun _ _ => ⟨rfl, e122, (by decide : 1 + 1 ≤ _), (by decide : 4 + 27 ≤ _)⟩)
  dsimp only [Pt.U, Pt.locs, Pt.cells, Pt.slots] at X123 l123 y123 z123 st123 hQ123
  subst l123 y123 z123
  obtain ⟨b_123, k2_123, rfl, Nq123, Kq123, fq123_0, fq123_1, fq123_2, fq123_3, fq123_4, fq123_5, fq123_6⟩ := hQ123
  have N123 := Fr.app N0 Nq123
  have ne_o0_b_123 : o0 ≠ b_123 := Nat.ne_of_lt (Nat.lt_of_lt_of_le E_o0.lt fq123_0)
  have ne_vb_b_123 : vb ≠ b_123 := Nat.ne_of_lt (Nat.lt_of_lt_of_le E_vb.lt fq123_0)
  have ne_b122_b_123 : b122 ≠ b_123 := Nat.ne_of_lt (Nat.lt_of_lt_of_le E_b122.lt fq123_0)
  have sz_b_123 := Nat.le_trans K122.1 fq123_0
  have S_COMPACT_STRINGS := own_sta_keep S_COMPACT_STRINGS Kq123 (allS E_b122.cell all0)
  have E_o0 := E_o0.keep Kq123
  have F_value_o0 := F_value_o0.keep Kq123 (ninS ne_o0_b122 nin0)
  have F_coder_o0 := F_coder_o0.keep Kq123 (ninS ne_o0_b122 nin0)
  have F_count_o0 := F_count_o0.keep Kq123 (ninS ne_o0_b122 nin0)
  have E_vb := E_vb.keep Kq123
  have A_vb := A_vb.keep Kq123 (ninS ne_vb_b122 nin0)
  have g_b_123 := fq123_1
  have E_b122 := fq123_2
  have F_value_b122 := fq123_3
  have F_coder_b122 := fq123_4
  have E_b_123 := fq123_5
  have A_b_123 := fq123_6
  have K123 := K122.trans Kq123 (allS (Or.inr sz_b122) all0)
  refine Ends.step (fun _ k => st123.trans k) ?_
  show Ends p e below QQ (T123.setTop (mkF m 8 #[.val (.ref o0)] [(.ref b122)]))
  exact Ends.fin (some (.ref b122)) X123 hQQ (fun h => by rw [Bd.returns] at h; cases h) Bd.notSynchronized (fun _ hr => retOut X123 hx (t := (.object "java/lang/String")) Bd.returns rfl (Or.inr (Or.inr (Or.inr (Or.inr ⟨rfl, rfl, rfl⟩)))) (hb hby d27_8) hr) rfl (by decide) (by decide) ⟨b122, b_123, k2_123, rfl, N123, K123, sz_b122, sz_b_123, g_b122, g_b_123, E_b122, F_value_b122, F_coder_b122, E_b_123, A_b_123, ne_b122_b_123⟩
theorem d19_0 : decode jdk_35_method_15_code 0 = .ok (.iconst 1, 1) := by decide +kernel
theorem d19_1 : decode jdk_35_method_15_code 1 = .ok (.istore_n 2, 1) := by decide +kernel
theorem d19_2 : decode jdk_35_method_15_code 2 = .ok (.lload_n 0, 1) := by decide +kernel
theorem d19_3 : decode jdk_35_method_15_code 3 = .ok (.lconst 0, 1) := by decide +kernel
theorem d19_4 : decode jdk_35_method_15_code 4 = .ok (.lcmp, 1) := by decide +kernel
theorem d19_5 : decode jdk_35_method_15_code 5 = .ok (.ifCond .lt 8, 3) := by decide +kernel
theorem d19_8 : decode jdk_35_method_15_code 8 = .ok (.iconst 0, 1) := by decide +kernel
theorem d19_9 : decode jdk_35_method_15_code 9 = .ok (.istore_n 2, 1) := by decide +kernel
theorem d19_10 : decode jdk_35_method_15_code 10 = .ok (.lload_n 0, 1) := by decide +kernel
theorem d19_11 : decode jdk_35_method_15_code 11 = .ok (.lneg, 1) := by decide +kernel
theorem d19_12 : decode jdk_35_method_15_code 12 = .ok (.lstore_n 0, 1) := by decide +kernel
theorem d19_13 : decode jdk_35_method_15_code 13 = .ok (.ldc2_w 140, 3) := by decide +kernel
theorem d19_16 : decode jdk_35_method_15_code 16 = .ok (.lstore_n 3, 1) := by decide +kernel
theorem d19_17 : decode jdk_35_method_15_code 17 = .ok (.iconst 1, 1) := by decide +kernel
theorem d19_18 : decode jdk_35_method_15_code 18 = .ok (.istore 5, 2) := by decide +kernel
theorem d19_20 : decode jdk_35_method_15_code 20 = .ok (.iload 5, 2) := by decide +kernel
theorem d19_22 : decode jdk_35_method_15_code 22 = .ok (.bipush 19, 2) := by decide +kernel
theorem d19_24 : decode jdk_35_method_15_code 24 = .ok (.if_icmp .ge 26, 3) := by decide +kernel
theorem d19_27 : decode jdk_35_method_15_code 27 = .ok (.lload_n 0, 1) := by decide +kernel
theorem d19_28 : decode jdk_35_method_15_code 28 = .ok (.lload_n 3, 1) := by decide +kernel
theorem d19_29 : decode jdk_35_method_15_code 29 = .ok (.lcmp, 1) := by decide +kernel
theorem d19_30 : decode jdk_35_method_15_code 30 = .ok (.ifCond .le 8, 3) := by decide +kernel
theorem d19_33 : decode jdk_35_method_15_code 33 = .ok (.iload 5, 2) := by decide +kernel
theorem d19_35 : decode jdk_35_method_15_code 35 = .ok (.iload_n 2, 1) := by decide +kernel
theorem d19_36 : decode jdk_35_method_15_code 36 = .ok (.iadd, 1) := by decide +kernel
theorem d19_37 : decode jdk_35_method_15_code 37 = .ok (.ireturn, 1) := by decide +kernel
theorem ef_ss (m : MethodId) (x0 : Int64) : entryFrame m #[(.long x0)] 6 = mkF m 0 #[.val (.long x0), .second, .unset, .unset, .unset, .unset] [] := by first | (simp [entryFrame, mkF, argsToLocals, Value.category]; done) | rfl
def Qss (Z : State) (q0 : Int64) (h0 : Heap) (n0 : Nat) (v : Option Value) (h : Heap) (L : List Loc) : Prop := (v = some (.int (1 : Int32))) ∧ (Fr n0 L) ∧ (h = h0)
set_option maxRecDepth 65536 in
set_option maxHeartbeats 40000000 in
theorem rmss (l : Launch) (Z : State) (a0 : Array Value) (hw : ∀ d ∈ tables_1, d.before a0 Z = true) (ws : List Jvm.Cond) (q0 : Int64) (h0 : Heap) (n0 : Nat) (Z0 : n0 ≤ h0.size) (g1 : (q0).toInt < 10) (g2 : 0 ≤ (q0).toInt) :
    MetFree l (⟨"java/lang/Long", "stringSize", "(J)I"⟩ : MethodName) (head1 (Jvm.Cond.code (⟨"java/lang/Long", "stringSize", "(J)I"⟩ : MethodName) jdk_35_method_15_code 6 (some .int) :: ws) ({ frames := 0, cells := 0, slots := 0, locals := 0 } : Room)) (fun a U => a = #[(.long q0)] ∧ Z.Warmed39 U.vm ∧ U.heap = h0) (fun _ _ _ _ _ => True) (fun _ U o U' => ∃ v L, o = .returned v ∧ Qss Z q0 h0 n0 v U'.heap L ∧ FrameEnd U o U' L ({ frames := 0, cells := 0, slots := 0, locals := 0 } : Room).cells ({ frames := 0, cells := 0, slots := 0, locals := 0 } : Room).slots) := by
  refine MetFree.of_bodySF (plainFor_of_name pn_7) hisR ?_
  intro p e s m args below meth c s₁ Bd hml0 hP hK
  obtain ⟨rfl, hZ, hh⟩ := hP
  have hx := Bd.exec
  have hby := Bd.bytes
  have hml : c.maxLocals = 6 := hml0
  have hown : s.vm.findClass "java/lang/Long" = some m.cls := findClass_of_methodNamed Bd.named
  have hnm := (name_of_methodNamed Bd.named Bd.method).1
  have X0 : Stand p l e ({ frames := 0, cells := 0, slots := 0, locals := 0 } : Room) s m #[(.long q0)] below meth c s₁ [] 0 0 := Stand.of_body Bd
  have e0 : s₁.heap = h0 := by rw [← hh, Bd.state]; rfl
  have N0 := Fr.nil n0
  refine Ends.opn ?_
  intro QQ hQQ
  refine Ends.step (S' := s₁.setTop (mkF m 0 #[.val (.long q0), .second, .unset, .unset, .unset, .unset] [])) (fun t k => castTop (ef_ss m q0) k) ?_
  show Ends p e below QQ (s₁.setTop (mkF m 0 #[.val (.long q0), .second, .unset, .unset, .unset, .unset] []))
  refine Ends.step (fun _ k => XT.iconstV X0.here hx rfl (1 : Int32) (hb hby d19_0) rfl k) ?_
  show Ends p e below QQ (s₁.setTop (mkF m 1 #[.val (.long q0), .second, .unset, .unset, .unset, .unset] [(.int (1 : Int32))]))
  refine Ends.step (fun _ k => XS.istoreN X0.here hx rfl (hb hby d19_1) rfl (l' := #[.val (.long q0), .second, .val (.int (1 : Int32)), .unset, .unset, .unset]) rfl k) ?_
  show Ends p e below QQ (s₁.setTop (mkF m 2 #[.val (.long q0), .second, .val (.int (1 : Int32)), .unset, .unset, .unset] []))
  refine Ends.step (fun _ k => XT.lloadN X0.here hx rfl (hb hby d19_2) rfl k) ?_
  show Ends p e below QQ (s₁.setTop (mkF m 3 #[.val (.long q0), .second, .val (.int (1 : Int32)), .unset, .unset, .unset] [(.long q0)]))
  refine Ends.step (fun _ k => XT.lconstV X0.here hx rfl (0 : Int64) (hb hby d19_3) rfl k) ?_
  show Ends p e below QQ (s₁.setTop (mkF m 4 #[.val (.long q0), .second, .val (.int (1 : Int32)), .unset, .unset, .unset] [(.long (0 : Int64)), (.long q0)]))
  refine Ends.step (fun _ k => XT.lcmp X0.here hx rfl (hb hby d19_4) rfl k) ?_
  show Ends p e below QQ (s₁.setTop (mkF m 5 #[.val (.long q0), .second, .val (.int (1 : Int32)), .unset, .unset, .unset] [(.int (XT.cmpL q0 (0 : Int64)))]))
  have hc5 : ¬ (q0 < (0 : Int64)) := (own_ge0 (by omega))
  refine Ends.step (fun _ k => XS.ifNo X0.here hx rfl (hb hby d19_5) rfl (XT.ll_lt_f hc5) k) ?_
  show Ends p e below QQ (s₁.setTop (mkF m 8 #[.val (.long q0), .second, .val (.int (1 : Int32)), .unset, .unset, .unset] []))
  refine Ends.step (fun _ k => XT.iconstV X0.here hx rfl (0 : Int32) (hb hby d19_8) rfl k) ?_
  show Ends p e below QQ (s₁.setTop (mkF m 9 #[.val (.long q0), .second, .val (.int (1 : Int32)), .unset, .unset, .unset] [(.int (0 : Int32))]))
  refine Ends.step (fun _ k => XS.istoreN X0.here hx rfl (hb hby d19_9) rfl (l' := #[.val (.long q0), .second, .val (.int (0 : Int32)), .unset, .unset, .unset]) rfl k) ?_
  show Ends p e below QQ (s₁.setTop (mkF m 10 #[.val (.long q0), .second, .val (.int (0 : Int32)), .unset, .unset, .unset] []))
  refine Ends.step (fun _ k => XT.lloadN X0.here hx rfl (hb hby d19_10) rfl k) ?_
  show Ends p e below QQ (s₁.setTop (mkF m 11 #[.val (.long q0), .second, .val (.int (0 : Int32)), .unset, .unset, .unset] [(.long q0)]))
  refine Ends.step (fun _ k => XT.lneg X0.here hx rfl (hb hby d19_11) rfl k) ?_
  show Ends p e below QQ (s₁.setTop (mkF m 12 #[.val (.long q0), .second, .val (.int (0 : Int32)), .unset, .unset, .unset] [(.long (-q0))]))
  refine Ends.step (fun _ k => XT.lstoreN X0.here hx rfl (hb hby d19_12) rfl (l' := #[.val (.long (-q0)), .second, .val (.int (0 : Int32)), .unset, .unset, .unset]) rfl k) ?_
  show Ends p e below QQ (s₁.setTop (mkF m 13 #[.val (.long (-q0)), .second, .val (.int (0 : Int32)), .unset, .unset, .unset] []))
  refine Ends.step (fun _ k => X0.ldc2J hx hown (mvT hZ (hw _ (List.mem_of_getElem? (i := 121) rfl))) (g := (mkF m 13 #[.val (.long (-q0)), .second, .val (.int (0 : Int32)), .unset, .unset, .unset] [])) rfl (hb hby d19_13) k) ?_
  show Ends p e below QQ (s₁.setTop (mkF m 16 #[.val (.long (-q0)), .second, .val (.int (0 : Int32)), .unset, .unset, .unset] [(.long (-10 : Int64))]))
  refine Ends.step (fun _ k => XT.lstoreN X0.here hx rfl (hb hby d19_16) rfl (l' := #[.val (.long (-q0)), .second, .val (.int (0 : Int32)), .val (.long (-10 : Int64)), .second, .unset]) rfl k) ?_
  show Ends p e below QQ (s₁.setTop (mkF m 17 #[.val (.long (-q0)), .second, .val (.int (0 : Int32)), .val (.long (-10 : Int64)), .second, .unset] []))
  refine Ends.step (fun _ k => XT.iconstV X0.here hx rfl (1 : Int32) (hb hby d19_17) rfl k) ?_
  show Ends p e below QQ (s₁.setTop (mkF m 18 #[.val (.long (-q0)), .second, .val (.int (0 : Int32)), .val (.long (-10 : Int64)), .second, .unset] [(.int (1 : Int32))]))
  refine Ends.step (fun _ k => XS.istore X0.here hx rfl (hb hby d19_18) rfl (l' := #[.val (.long (-q0)), .second, .val (.int (0 : Int32)), .val (.long (-10 : Int64)), .second, .val (.int (1 : Int32))]) rfl k) ?_
  show Ends p e below QQ (s₁.setTop (mkF m 20 #[.val (.long (-q0)), .second, .val (.int (0 : Int32)), .val (.long (-10 : Int64)), .second, .val (.int (1 : Int32))] []))
  refine Ends.step (fun _ k => XS.iload X0.here hx rfl (hb hby d19_20) rfl k) ?_
  show Ends p e below QQ (s₁.setTop (mkF m 22 #[.val (.long (-q0)), .second, .val (.int (0 : Int32)), .val (.long (-10 : Int64)), .second, .val (.int (1 : Int32))] [(.int (1 : Int32))]))
  refine Ends.step (fun _ k => XT.bipushV X0.here hx rfl (19 : Int32) (hb hby d19_22) rfl k) ?_
  show Ends p e below QQ (s₁.setTop (mkF m 24 #[.val (.long (-q0)), .second, .val (.int (0 : Int32)), .val (.long (-10 : Int64)), .second, .val (.int (1 : Int32))] [(.int (19 : Int32)), (.int (1 : Int32))]))
  refine Ends.step (fun _ k => XS.icmpNo X0.here hx rfl (hb hby d19_24) rfl (XT.ii_ge_f (by decide)) k) ?_
  show Ends p e below QQ (s₁.setTop (mkF m 27 #[.val (.long (-q0)), .second, .val (.int (0 : Int32)), .val (.long (-10 : Int64)), .second, .val (.int (1 : Int32))] []))
  refine Ends.step (fun _ k => XT.lloadN X0.here hx rfl (hb hby d19_27) rfl k) ?_
  show Ends p e below QQ (s₁.setTop (mkF m 28 #[.val (.long (-q0)), .second, .val (.int (0 : Int32)), .val (.long (-10 : Int64)), .second, .val (.int (1 : Int32))] [(.long (-q0))]))
  refine Ends.step (fun _ k => XT.lloadN X0.here hx rfl (hb hby d19_28) rfl k) ?_
  show Ends p e below QQ (s₁.setTop (mkF m 29 #[.val (.long (-q0)), .second, .val (.int (0 : Int32)), .val (.long (-10 : Int64)), .second, .val (.int (1 : Int32))] [(.long (-10 : Int64)), (.long (-q0))]))
  refine Ends.step (fun _ k => XT.lcmp X0.here hx rfl (hb hby d19_29) rfl k) ?_
  show Ends p e below QQ (s₁.setTop (mkF m 30 #[.val (.long (-q0)), .second, .val (.int (0 : Int32)), .val (.long (-10 : Int64)), .second, .val (.int (1 : Int32))] [(.int (XT.cmpL (-q0) (-10 : Int64)))]))
  have hc30 : (-10 : Int64) < (-q0) := (own_ng (P := 10) (by decide) (by omega) (by omega))
  refine Ends.step (fun _ k => XS.ifNo X0.here hx rfl (hb hby d19_30) rfl (XT.ll_le_f hc30) k) ?_
  show Ends p e below QQ (s₁.setTop (mkF m 33 #[.val (.long (-q0)), .second, .val (.int (0 : Int32)), .val (.long (-10 : Int64)), .second, .val (.int (1 : Int32))] []))
  refine Ends.step (fun _ k => XS.iload X0.here hx rfl (hb hby d19_33) rfl k) ?_
  show Ends p e below QQ (s₁.setTop (mkF m 35 #[.val (.long (-q0)), .second, .val (.int (0 : Int32)), .val (.long (-10 : Int64)), .second, .val (.int (1 : Int32))] [(.int (1 : Int32))]))
  refine Ends.step (fun _ k => XS.iloadN X0.here hx rfl (hb hby d19_35) rfl k) ?_
  show Ends p e below QQ (s₁.setTop (mkF m 36 #[.val (.long (-q0)), .second, .val (.int (0 : Int32)), .val (.long (-10 : Int64)), .second, .val (.int (1 : Int32))] [(.int (0 : Int32)), (.int (1 : Int32))]))
  refine Ends.step (fun _ k => XS.iadd X0.here hx rfl (hb hby d19_36) rfl k) ?_
  show Ends p e below QQ (s₁.setTop (mkF m 37 #[.val (.long (-q0)), .second, .val (.int (0 : Int32)), .val (.long (-10 : Int64)), .second, .val (.int (1 : Int32))] [(.int (1 : Int32))]))
  exact Ends.fin (some (.int (1 : Int32))) X0 hQQ (fun h => by rw [Bd.returns] at h; cases h) Bd.notSynchronized (fun _ hr => retOut X0 hx (t := .int) Bd.returns rfl (Or.inl ⟨rfl, Or.inl rfl, _, rfl⟩) (hb hby d19_37) hr) e0 (by decide) (by decide) ⟨rfl, N0, rfl⟩
theorem d21_0 : decode jdk_35_method_14_code 0 = .ok (.iload_n 2, 1) := by decide +kernel
theorem d21_1 : decode jdk_35_method_14_code 1 = .ok (.istore 7, 2) := by decide +kernel
theorem d21_3 : decode jdk_35_method_14_code 3 = .ok (.lload_n 0, 1) := by decide +kernel
theorem d21_4 : decode jdk_35_method_14_code 4 = .ok (.lconst 0, 1) := by decide +kernel
theorem d21_5 : decode jdk_35_method_14_code 5 = .ok (.lcmp, 1) := by decide +kernel
theorem d21_6 : decode jdk_35_method_14_code 6 = .ok (.ifCond .ge 7, 3) := by decide +kernel
theorem d21_13 : decode jdk_35_method_14_code 13 = .ok (.iconst 0, 1) := by decide +kernel
theorem d21_14 : decode jdk_35_method_14_code 14 = .ok (.istore 8, 2) := by decide +kernel
theorem d21_16 : decode jdk_35_method_14_code 16 = .ok (.iload 8, 2) := by decide +kernel
theorem d21_18 : decode jdk_35_method_14_code 18 = .ok (.ifCond .ne 6, 3) := by decide +kernel
theorem d21_21 : decode jdk_35_method_14_code 21 = .ok (.lload_n 0, 1) := by decide +kernel
theorem d21_22 : decode jdk_35_method_14_code 22 = .ok (.lneg, 1) := by decide +kernel
theorem d21_23 : decode jdk_35_method_14_code 23 = .ok (.lstore_n 0, 1) := by decide +kernel
theorem d21_24 : decode jdk_35_method_14_code 24 = .ok (.lload_n 0, 1) := by decide +kernel
theorem d21_25 : decode jdk_35_method_14_code 25 = .ok (.ldc2_w 129, 3) := by decide +kernel
theorem d21_28 : decode jdk_35_method_14_code 28 = .ok (.lcmp, 1) := by decide +kernel
theorem d21_29 : decode jdk_35_method_14_code 29 = .ok (.ifCond .gt 53, 3) := by decide +kernel
theorem d21_82 : decode jdk_35_method_14_code 82 = .ok (.lload_n 0, 1) := by decide +kernel
theorem d21_83 : decode jdk_35_method_14_code 83 = .ok (.l2i, 1) := by decide +kernel
theorem d21_84 : decode jdk_35_method_14_code 84 = .ok (.istore 10, 2) := by decide +kernel
theorem d21_86 : decode jdk_35_method_14_code 86 = .ok (.iload 10, 2) := by decide +kernel
theorem d21_88 : decode jdk_35_method_14_code 88 = .ok (.bipush (-100), 2) := by decide +kernel
theorem d21_90 : decode jdk_35_method_14_code 90 = .ok (.if_icmp .gt 53, 3) := by decide +kernel
theorem d21_143 : decode jdk_35_method_14_code 143 = .ok (.aload_n 3, 1) := by decide +kernel
theorem d21_144 : decode jdk_35_method_14_code 144 = .ok (.iinc 7 (-1), 3) := by decide +kernel
theorem d21_147 : decode jdk_35_method_14_code 147 = .ok (.iload 7, 2) := by decide +kernel
theorem d21_149 : decode jdk_35_method_14_code 149 = .ok (.getstatic 133, 3) := by decide +kernel
theorem d21_152 : decode jdk_35_method_14_code 152 = .ok (.iload 10, 2) := by decide +kernel
theorem d21_154 : decode jdk_35_method_14_code 154 = .ok (.ineg, 1) := by decide +kernel
theorem d21_155 : decode jdk_35_method_14_code 155 = .ok (.baload, 1) := by decide +kernel
theorem d21_156 : decode jdk_35_method_14_code 156 = .ok (.bastore, 1) := by decide +kernel
theorem d21_157 : decode jdk_35_method_14_code 157 = .ok (.iload 10, 2) := by decide +kernel
theorem d21_159 : decode jdk_35_method_14_code 159 = .ok (.bipush (-9), 2) := by decide +kernel
theorem d21_161 : decode jdk_35_method_14_code 161 = .ok (.if_icmp .ge 17, 3) := by decide +kernel
theorem d21_178 : decode jdk_35_method_14_code 178 = .ok (.iload 8, 2) := by decide +kernel
theorem d21_180 : decode jdk_35_method_14_code 180 = .ok (.ifCond .eq 12, 3) := by decide +kernel
theorem d21_192 : decode jdk_35_method_14_code 192 = .ok (.iload 7, 2) := by decide +kernel
theorem d21_194 : decode jdk_35_method_14_code 194 = .ok (.ireturn, 1) := by decide +kernel
theorem ef_gc9 (m : MethodId) (x0 : Int64) (x2 : Addr) : entryFrame m #[(.long x0), (.int (10 : Int32)), (.ref x2)] 11 = mkF m 0 #[.val (.long x0), .second, .val (.int (10 : Int32)), .val (.ref x2), .unset, .unset, .unset, .unset, .unset, .unset, .unset] [] := by first | (simp [entryFrame, mkF, argsToLocals, Value.category]; done) | rfl
def Qgc9 (Z : State) (q0 : Int64) (o2 : Addr) (kb : ClassId) (a_D1 : Addr) (k_a_D1 : ClassId) (x0 : Int32) (x1 : Int32) (x2 : Int32) (x3 : Int32) (x4 : Int32) (x5 : Int32) (x6 : Int32) (x7 : Int32) (x8 : Int32) (h0 : Heap) (n0 : Nat) (v : Option Value) (h : Heap) (L : List Loc) : Prop := (v = some (.int (9 : Int32))) ∧ (Fr n0 L) ∧ (Keep h0 h [o2]) ∧ (Arv Z h o2 kb .byte (16 : Int32) [(.int x0), (.int x1), (.int x2), (.int x3), (.int x4), (.int x5), (.int x6), (.int x7), (.int x8), (.int (own_dg ((q0).toInt))), (.int (0 : Int32)), (.int (0 : Int32)), (.int (0 : Int32)), (.int (0 : Int32)), (.int (0 : Int32)), (.int (0 : Int32))] (.int (0 : Int32)))
set_option maxRecDepth 65536 in
set_option maxHeartbeats 40000000 in
theorem rmgc9 (l : Launch) (Z : State) (a0 : Array Value) (hw : ∀ d ∈ tables_1, d.before a0 Z = true) (ws : List Jvm.Cond) (q0 : Int64) (o2 : Addr) (kb : ClassId) (a_D1 : Addr) (k_a_D1 : ClassId) (x0 : Int32) (x1 : Int32) (x2 : Int32) (x3 : Int32) (x4 : Int32) (x5 : Int32) (x6 : Int32) (x7 : Int32) (x8 : Int32) (h0 : Heap) (n0 : Nat) (Z0 : n0 ≤ h0.size) (A_o2 : Arv Z h0 o2 kb .byte (16 : Int32) [(.int x0), (.int x1), (.int x2), (.int x3), (.int x4), (.int x5), (.int x6), (.int x7), (.int x8), (.int (0 : Int32)), (.int (0 : Int32)), (.int (0 : Int32)), (.int (0 : Int32)), (.int (0 : Int32)), (.int (0 : Int32)), (.int (0 : Int32))] (.int (0 : Int32))) (g_o2 : n0 ≤ o2) (ne_o2_a_D1 : o2 ≠ a_D1) (A_a_D1 : Arv Z h0 a_D1 k_a_D1 .byte (100 : Int32) own_ones (.int (0 : Int32))) (S_DigitOnes : Sta Z h0 "java/lang/Integer" "DigitOnes" "[B" (.ref a_D1)) (g1 : (q0).toInt < 10) (g2 : 0 ≤ (q0).toInt) :
    MetFree l (⟨"java/lang/Long", "getChars", "(JI[B)I"⟩ : MethodName) (head1 (Jvm.Cond.code (⟨"java/lang/Long", "getChars", "(JI[B)I"⟩ : MethodName) jdk_35_method_14_code 11 (some .int) :: ws) ({ frames := 0, cells := 0, slots := 0, locals := 0 } : Room)) (fun a U => a = #[(.long q0), (.int (10 : Int32)), (.ref o2)] ∧ Z.Warmed39 U.vm ∧ U.heap = h0) (fun _ _ _ _ _ => True) (fun _ U o U' => ∃ v L, o = .returned v ∧ Qgc9 Z q0 o2 kb a_D1 k_a_D1 x0 x1 x2 x3 x4 x5 x6 x7 x8 h0 n0 v U'.heap L ∧ FrameEnd U o U' L ({ frames := 0, cells := 0, slots := 0, locals := 0 } : Room).cells ({ frames := 0, cells := 0, slots := 0, locals := 0 } : Room).slots) := by
  refine MetFree.of_bodySF (plainFor_of_name pn_7) hisR ?_
  intro p e s m args below meth c s₁ Bd hml0 hP hK
  obtain ⟨rfl, hZ, hh⟩ := hP
  have hx := Bd.exec
  have hby := Bd.bytes
  have hml : c.maxLocals = 11 := hml0
  have hown : s.vm.findClass "java/lang/Long" = some m.cls := findClass_of_methodNamed Bd.named
  have hnm := (name_of_methodNamed Bd.named Bd.method).1
  have X0 : Stand p l e ({ frames := 0, cells := 0, slots := 0, locals := 0 } : Room) s m #[(.long q0), (.int (10 : Int32)), (.ref o2)] below meth c s₁ [] 0 0 := Stand.of_body Bd
  have e0 : s₁.heap = h0 := by rw [← hh, Bd.state]; rfl
  have N0 := Fr.nil n0
  refine Ends.opn ?_
  intro QQ hQQ
  refine Ends.step (S' := s₁.setTop (mkF m 0 #[.val (.long q0), .second, .val (.int (10 : Int32)), .val (.ref o2), .unset, .unset, .unset, .unset, .unset, .unset, .unset] [])) (fun t k => castTop (ef_gc9 m q0 o2) k) ?_
  show Ends p e below QQ (s₁.setTop (mkF m 0 #[.val (.long q0), .second, .val (.int (10 : Int32)), .val (.ref o2), .unset, .unset, .unset, .unset, .unset, .unset, .unset] []))
  refine Ends.step (fun _ k => XS.iloadN X0.here hx rfl (hb hby d21_0) rfl k) ?_
  show Ends p e below QQ (s₁.setTop (mkF m 1 #[.val (.long q0), .second, .val (.int (10 : Int32)), .val (.ref o2), .unset, .unset, .unset, .unset, .unset, .unset, .unset] [(.int (10 : Int32))]))
  refine Ends.step (fun _ k => XS.istore X0.here hx rfl (hb hby d21_1) rfl (l' := #[.val (.long q0), .second, .val (.int (10 : Int32)), .val (.ref o2), .unset, .unset, .unset, .val (.int (10 : Int32)), .unset, .unset, .unset]) rfl k) ?_
  show Ends p e below QQ (s₁.setTop (mkF m 3 #[.val (.long q0), .second, .val (.int (10 : Int32)), .val (.ref o2), .unset, .unset, .unset, .val (.int (10 : Int32)), .unset, .unset, .unset] []))
  refine Ends.step (fun _ k => XT.lloadN X0.here hx rfl (hb hby d21_3) rfl k) ?_
  show Ends p e below QQ (s₁.setTop (mkF m 4 #[.val (.long q0), .second, .val (.int (10 : Int32)), .val (.ref o2), .unset, .unset, .unset, .val (.int (10 : Int32)), .unset, .unset, .unset] [(.long q0)]))
  refine Ends.step (fun _ k => XT.lconstV X0.here hx rfl (0 : Int64) (hb hby d21_4) rfl k) ?_
  show Ends p e below QQ (s₁.setTop (mkF m 5 #[.val (.long q0), .second, .val (.int (10 : Int32)), .val (.ref o2), .unset, .unset, .unset, .val (.int (10 : Int32)), .unset, .unset, .unset] [(.long (0 : Int64)), (.long q0)]))
  refine Ends.step (fun _ k => XT.lcmp X0.here hx rfl (hb hby d21_5) rfl k) ?_
  show Ends p e below QQ (s₁.setTop (mkF m 6 #[.val (.long q0), .second, .val (.int (10 : Int32)), .val (.ref o2), .unset, .unset, .unset, .val (.int (10 : Int32)), .unset, .unset, .unset] [(.int (XT.cmpL q0 (0 : Int64)))]))
  have hc6 : ¬ (q0 < (0 : Int64)) := (own_ge0 (by omega))
  refine Ends.step (fun _ k => XS.ifYes X0.here hx rfl (pc0 := 6) (pc' := 13) rfl (hb hby d21_6) rfl (XT.ll_ge_t hc6) (by decide) (by decide) k) ?_
  show Ends p e below QQ (s₁.setTop (mkF m 13 #[.val (.long q0), .second, .val (.int (10 : Int32)), .val (.ref o2), .unset, .unset, .unset, .val (.int (10 : Int32)), .unset, .unset, .unset] []))
  refine Ends.step (fun _ k => XT.iconstV X0.here hx rfl (0 : Int32) (hb hby d21_13) rfl k) ?_
  show Ends p e below QQ (s₁.setTop (mkF m 14 #[.val (.long q0), .second, .val (.int (10 : Int32)), .val (.ref o2), .unset, .unset, .unset, .val (.int (10 : Int32)), .unset, .unset, .unset] [(.int (0 : Int32))]))
  refine Ends.step (fun _ k => XS.istore X0.here hx rfl (hb hby d21_14) rfl (l' := #[.val (.long q0), .second, .val (.int (10 : Int32)), .val (.ref o2), .unset, .unset, .unset, .val (.int (10 : Int32)), .val (.int (0 : Int32)), .unset, .unset]) rfl k) ?_
  show Ends p e below QQ (s₁.setTop (mkF m 16 #[.val (.long q0), .second, .val (.int (10 : Int32)), .val (.ref o2), .unset, .unset, .unset, .val (.int (10 : Int32)), .val (.int (0 : Int32)), .unset, .unset] []))
  refine Ends.step (fun _ k => XS.iload X0.here hx rfl (hb hby d21_16) rfl k) ?_
  show Ends p e below QQ (s₁.setTop (mkF m 18 #[.val (.long q0), .second, .val (.int (10 : Int32)), .val (.ref o2), .unset, .unset, .unset, .val (.int (10 : Int32)), .val (.int (0 : Int32)), .unset, .unset] [(.int (0 : Int32))]))
  refine Ends.step (fun _ k => XS.ifNo X0.here hx rfl (hb hby d21_18) rfl (XT.i0_ne_f (by decide)) k) ?_
  show Ends p e below QQ (s₁.setTop (mkF m 21 #[.val (.long q0), .second, .val (.int (10 : Int32)), .val (.ref o2), .unset, .unset, .unset, .val (.int (10 : Int32)), .val (.int (0 : Int32)), .unset, .unset] []))
  refine Ends.step (fun _ k => XT.lloadN X0.here hx rfl (hb hby d21_21) rfl k) ?_
  show Ends p e below QQ (s₁.setTop (mkF m 22 #[.val (.long q0), .second, .val (.int (10 : Int32)), .val (.ref o2), .unset, .unset, .unset, .val (.int (10 : Int32)), .val (.int (0 : Int32)), .unset, .unset] [(.long q0)]))
  refine Ends.step (fun _ k => XT.lneg X0.here hx rfl (hb hby d21_22) rfl k) ?_
  show Ends p e below QQ (s₁.setTop (mkF m 23 #[.val (.long q0), .second, .val (.int (10 : Int32)), .val (.ref o2), .unset, .unset, .unset, .val (.int (10 : Int32)), .val (.int (0 : Int32)), .unset, .unset] [(.long (-q0))]))
  refine Ends.step (fun _ k => XT.lstoreN X0.here hx rfl (hb hby d21_23) rfl (l' := #[.val (.long (-q0)), .second, .val (.int (10 : Int32)), .val (.ref o2), .unset, .unset, .unset, .val (.int (10 : Int32)), .val (.int (0 : Int32)), .unset, .unset]) rfl k) ?_
  show Ends p e below QQ (s₁.setTop (mkF m 24 #[.val (.long (-q0)), .second, .val (.int (10 : Int32)), .val (.ref o2), .unset, .unset, .unset, .val (.int (10 : Int32)), .val (.int (0 : Int32)), .unset, .unset] []))
  refine Ends.step (fun _ k => XT.lloadN X0.here hx rfl (hb hby d21_24) rfl k) ?_
  show Ends p e below QQ (s₁.setTop (mkF m 25 #[.val (.long (-q0)), .second, .val (.int (10 : Int32)), .val (.ref o2), .unset, .unset, .unset, .val (.int (10 : Int32)), .val (.int (0 : Int32)), .unset, .unset] [(.long (-q0))]))
  refine Ends.step (fun _ k => X0.ldc2J hx hown (mvT hZ (hw _ (List.mem_of_getElem? (i := 130) rfl))) (g := (mkF m 25 #[.val (.long (-q0)), .second, .val (.int (10 : Int32)), .val (.ref o2), .unset, .unset, .unset, .val (.int (10 : Int32)), .val (.int (0 : Int32)), .unset, .unset] [(.long (-q0))])) rfl (hb hby d21_25) k) ?_
  show Ends p e below QQ (s₁.setTop (mkF m 28 #[.val (.long (-q0)), .second, .val (.int (10 : Int32)), .val (.ref o2), .unset, .unset, .unset, .val (.int (10 : Int32)), .val (.int (0 : Int32)), .unset, .unset] [(.long (-2147483648 : Int64)), (.long (-q0))]))
  refine Ends.step (fun _ k => XT.lcmp X0.here hx rfl (hb hby d21_28) rfl k) ?_
  show Ends p e below QQ (s₁.setTop (mkF m 29 #[.val (.long (-q0)), .second, .val (.int (10 : Int32)), .val (.ref o2), .unset, .unset, .unset, .val (.int (10 : Int32)), .val (.int (0 : Int32)), .unset, .unset] [(.int (XT.cmpL (-q0) (-2147483648 : Int64)))]))
  have hc29 : (-2147483648 : Int64) < (-q0) := (own_ng (P := 2147483648) (by decide) (by omega) (by omega))
  refine Ends.step (fun _ k => XS.ifYes X0.here hx rfl (pc0 := 29) (pc' := 82) rfl (hb hby d21_29) rfl (XT.ll_gt_t hc29) (by decide) (by decide) k) ?_
  show Ends p e below QQ (s₁.setTop (mkF m 82 #[.val (.long (-q0)), .second, .val (.int (10 : Int32)), .val (.ref o2), .unset, .unset, .unset, .val (.int (10 : Int32)), .val (.int (0 : Int32)), .unset, .unset] []))
  refine Ends.step (fun _ k => XT.lloadN X0.here hx rfl (hb hby d21_82) rfl k) ?_
  show Ends p e below QQ (s₁.setTop (mkF m 83 #[.val (.long (-q0)), .second, .val (.int (10 : Int32)), .val (.ref o2), .unset, .unset, .unset, .val (.int (10 : Int32)), .val (.int (0 : Int32)), .unset, .unset] [(.long (-q0))]))
  refine Ends.step (fun _ k => XT.l2i X0.here hx rfl (hb hby d21_83) rfl k) ?_
  show Ends p e below QQ (s₁.setTop (mkF m 84 #[.val (.long (-q0)), .second, .val (.int (10 : Int32)), .val (.ref o2), .unset, .unset, .unset, .val (.int (10 : Int32)), .val (.int (0 : Int32)), .unset, .unset] [(.int (-q0).toInt32)]))
  refine Ends.step (fun _ k => XS.istore X0.here hx rfl (hb hby d21_84) rfl (l' := #[.val (.long (-q0)), .second, .val (.int (10 : Int32)), .val (.ref o2), .unset, .unset, .unset, .val (.int (10 : Int32)), .val (.int (0 : Int32)), .unset, .val (.int (-q0).toInt32)]) rfl k) ?_
  show Ends p e below QQ (s₁.setTop (mkF m 86 #[.val (.long (-q0)), .second, .val (.int (10 : Int32)), .val (.ref o2), .unset, .unset, .unset, .val (.int (10 : Int32)), .val (.int (0 : Int32)), .unset, .val (.int (-q0).toInt32)] []))
  generalize hv10_1 : (-q0).toInt32 = x10_1
  have hI0 : x10_1.toInt = -((q0).toInt) := by rw [← hv10_1]; exact own_i0 (by omega) (by omega)
  show Ends p e below QQ (s₁.setTop (mkF m 86 #[.val (.long (-q0)), .second, .val (.int (10 : Int32)), .val (.ref o2), .unset, .unset, .unset, .val (.int (10 : Int32)), .val (.int (0 : Int32)), .unset, .val (.int x10_1)] []))
  refine Ends.step (fun _ k => XS.iload X0.here hx rfl (hb hby d21_86) rfl k) ?_
  show Ends p e below QQ (s₁.setTop (mkF m 88 #[.val (.long (-q0)), .second, .val (.int (10 : Int32)), .val (.ref o2), .unset, .unset, .unset, .val (.int (10 : Int32)), .val (.int (0 : Int32)), .unset, .val (.int x10_1)] [(.int x10_1)]))
  refine Ends.step (fun _ k => XT.bipushV X0.here hx rfl (-100 : Int32) (hb hby d21_88) rfl k) ?_
  show Ends p e below QQ (s₁.setTop (mkF m 90 #[.val (.long (-q0)), .second, .val (.int (10 : Int32)), .val (.ref o2), .unset, .unset, .unset, .val (.int (10 : Int32)), .val (.int (0 : Int32)), .unset, .val (.int x10_1)] [(.int (-100 : Int32)), (.int x10_1)]))
  have hc90 : (-100 : Int32) < x10_1 := (own_exit hI0 (by omega))
  refine Ends.step (fun _ k => XS.icmpYes X0.here hx rfl (pc0 := 90) (pc' := 143) rfl (hb hby d21_90) rfl (XT.ii_gt_t hc90) (by decide) (by decide) k) ?_
  show Ends p e below QQ (s₁.setTop (mkF m 143 #[.val (.long (-q0)), .second, .val (.int (10 : Int32)), .val (.ref o2), .unset, .unset, .unset, .val (.int (10 : Int32)), .val (.int (0 : Int32)), .unset, .val (.int x10_1)] []))
  refine Ends.step (fun _ k => XS.aloadN X0.here hx rfl (hb hby d21_143) rfl rfl k) ?_
  show Ends p e below QQ (s₁.setTop (mkF m 144 #[.val (.long (-q0)), .second, .val (.int (10 : Int32)), .val (.ref o2), .unset, .unset, .unset, .val (.int (10 : Int32)), .val (.int (0 : Int32)), .unset, .val (.int x10_1)] [(.ref o2)]))
  refine Ends.step (fun _ k => XT.iincV X0.here hx rfl (-1 : Int32) (hb hby d21_144) rfl rfl (l' := #[.val (.long (-q0)), .second, .val (.int (10 : Int32)), .val (.ref o2), .unset, .unset, .unset, .val (.int (9 : Int32)), .val (.int (0 : Int32)), .unset, .val (.int x10_1)]) rfl k) ?_
  show Ends p e below QQ (s₁.setTop (mkF m 147 #[.val (.long (-q0)), .second, .val (.int (10 : Int32)), .val (.ref o2), .unset, .unset, .unset, .val (.int (9 : Int32)), .val (.int (0 : Int32)), .unset, .val (.int x10_1)] [(.ref o2)]))
  refine Ends.step (fun _ k => XS.iload X0.here hx rfl (hb hby d21_147) rfl k) ?_
  show Ends p e below QQ (s₁.setTop (mkF m 149 #[.val (.long (-q0)), .second, .val (.int (10 : Int32)), .val (.ref o2), .unset, .unset, .unset, .val (.int (9 : Int32)), .val (.int (0 : Int32)), .unset, .val (.int x10_1)] [(.int (9 : Int32)), (.ref o2)]))
  obtain ⟨T124, X124, e124, st124⟩ := getS2 X0 hx hZ hown (host := "") (Or.inl (hw _ (List.mem_of_getElem? (i := 131) rfl))) Via.refl e0 S_DigitOnes (g := (mkF m 149 #[.val (.long (-q0)), .second, .val (.int (10 : Int32)), .val (.ref o2), .unset, .unset, .unset, .val (.int (9 : Int32)), .val (.int (0 : Int32)), .unset, .val (.int x10_1)] [(.int (9 : Int32)), (.ref o2)])) rfl (hb hby d21_149)
  refine Ends.step st124 ?_
  show Ends p e below QQ (T124.setTop (mkF m 152 #[.val (.long (-q0)), .second, .val (.int (10 : Int32)), .val (.ref o2), .unset, .unset, .unset, .val (.int (9 : Int32)), .val (.int (0 : Int32)), .unset, .val (.int x10_1)] [(.ref a_D1), (.int (9 : Int32)), (.ref o2)]))
  refine Ends.step (fun _ k => XS.iload X124.here hx rfl (hb hby d21_152) rfl k) ?_
  show Ends p e below QQ (T124.setTop (mkF m 154 #[.val (.long (-q0)), .second, .val (.int (10 : Int32)), .val (.ref o2), .unset, .unset, .unset, .val (.int (9 : Int32)), .val (.int (0 : Int32)), .unset, .val (.int x10_1)] [(.int x10_1), (.ref a_D1), (.int (9 : Int32)), (.ref o2)]))
  refine Ends.step (fun _ k => XS.ineg X124.here hx rfl (hb hby d21_154) rfl k) ?_
  show Ends p e below QQ (T124.setTop (mkF m 155 #[.val (.long (-q0)), .second, .val (.int (10 : Int32)), .val (.ref o2), .unset, .unset, .unset, .val (.int (9 : Int32)), .val (.int (0 : Int32)), .unset, .val (.int x10_1)] [(.int (-x10_1)), (.ref a_D1), (.int (9 : Int32)), (.ref o2)]))
  have hr0 : ((-x10_1)).toInt = ((q0).toInt) % 100 := own_nr hI0 (by omega) (by omega)
  obtain ⟨cl125, Ar125, q125, S125, P125, H125, G125⟩ := id A_a_D1
  have hin125 : ¬ ((-x10_1) < 0 ∨ cl125.slots.size ≤ ((-x10_1)).toNatClampNeg) := inb_of S125 (own_in hr0)
  have hat125 : cl125.slots[((-x10_1)).toNatClampNeg]? = some (.int (own_dg ((q0).toInt))) := H125.at hin125 (own_oneat hr0)
  refine Ends.step (fun _ k => X124.baloadBytes hx (j := (-x10_1)) (v := (.int (own_dg ((q0).toInt)))) (by rw [e124]; exact Ar125.1) (State.isArrayOf_alike hZ.alike Ar125.2.1) Ar125.2.2 hin125 hat125 (g := (mkF m 155 #[.val (.long (-q0)), .second, .val (.int (10 : Int32)), .val (.ref o2), .unset, .unset, .unset, .val (.int (9 : Int32)), .val (.int (0 : Int32)), .unset, .val (.int x10_1)] [(.int (-x10_1)), (.ref a_D1), (.int (9 : Int32)), (.ref o2)])) rfl rfl (hb hby d21_155) _ k) ?_
  show Ends p e below QQ (T124.setTop (mkF m 156 #[.val (.long (-q0)), .second, .val (.int (10 : Int32)), .val (.ref o2), .unset, .unset, .unset, .val (.int (9 : Int32)), .val (.int (0 : Int32)), .unset, .val (.int x10_1)] [(.int (own_dg ((q0).toInt))), (.int (9 : Int32)), (.ref o2)]))
  obtain ⟨cl126, Ar126, q126, S126, P126, H126, G126⟩ := id A_o2
  have hin126 : ¬ ((9 : Int32) < 0 ∨ cl126.slots.size ≤ ((9 : Int32)).toNatClampNeg) := inb_of S126 ⟨by decide, by decide⟩
  obtain ⟨T127, h127, X127, e127, W127, st127⟩ := stB X124 hx hZ e124 Ar126 (j := (9 : Int32)) hin126 (g := (mkF m 156 #[.val (.long (-q0)), .second, .val (.int (10 : Int32)), .val (.ref o2), .unset, .unset, .unset, .val (.int (9 : Int32)), .val (.int (0 : Int32)), .unset, .val (.int x10_1)] [(.int (own_dg ((q0).toInt))), (.int (9 : Int32)), (.ref o2)])) rfl rfl (hb hby d21_156)
  rw [own_nardg] at W127
  have A_a_D1 := A_a_D1.other W127 (Ne.symm ne_o2_a_D1)
  have S_DigitOnes := S_DigitOnes.wr W127
  have A_o2 : Arv Z h127 o2 kb .byte (16 : Int32) [(.int x0), (.int x1), (.int x2), (.int x3), (.int x4), (.int x5), (.int x6), (.int x7), (.int x8), (.int (own_dg ((q0).toInt))), (.int (0 : Int32)), (.int (0 : Int32)), (.int (0 : Int32)), (.int (0 : Int32)), (.int (0 : Int32)), (.int (0 : Int32))] (.int (0 : Int32)) := Arv.set Ar126 q126 S126 P126 H126 G126 (own_fitdg _) W127 9 rfl (Nat.le_of_ble_eq_true rfl)
  have K127 := (Keep.refl h0 [o2]).wr W127 (Or.inl (List.mem_of_getElem? (i := 0) rfl))
  have N127 := Fr.snoc X127 N0 g_o2
  refine Ends.step st127 ?_
  show Ends p e below QQ (T127.setTop (mkF m 157 #[.val (.long (-q0)), .second, .val (.int (10 : Int32)), .val (.ref o2), .unset, .unset, .unset, .val (.int (9 : Int32)), .val (.int (0 : Int32)), .unset, .val (.int x10_1)] []))
  refine Ends.step (fun _ k => XS.iload X127.here hx rfl (hb hby d21_157) rfl k) ?_
  show Ends p e below QQ (T127.setTop (mkF m 159 #[.val (.long (-q0)), .second, .val (.int (10 : Int32)), .val (.ref o2), .unset, .unset, .unset, .val (.int (9 : Int32)), .val (.int (0 : Int32)), .unset, .val (.int x10_1)] [(.int x10_1)]))
  refine Ends.step (fun _ k => XT.bipushV X127.here hx rfl (-9 : Int32) (hb hby d21_159) rfl k) ?_
  show Ends p e below QQ (T127.setTop (mkF m 161 #[.val (.long (-q0)), .second, .val (.int (10 : Int32)), .val (.ref o2), .unset, .unset, .unset, .val (.int (9 : Int32)), .val (.int (0 : Int32)), .unset, .val (.int x10_1)] [(.int (-9 : Int32)), (.int x10_1)]))
  have hc161 : ¬ (x10_1 < (-9 : Int32)) := (own_one hI0 (by omega))
  refine Ends.step (fun _ k => XS.icmpYes X127.here hx rfl (pc0 := 161) (pc' := 178) rfl (hb hby d21_161) rfl (XT.ii_ge_t hc161) (by decide) (by decide) k) ?_
  show Ends p e below QQ (T127.setTop (mkF m 178 #[.val (.long (-q0)), .second, .val (.int (10 : Int32)), .val (.ref o2), .unset, .unset, .unset, .val (.int (9 : Int32)), .val (.int (0 : Int32)), .unset, .val (.int x10_1)] []))
  refine Ends.step (fun _ k => XS.iload X127.here hx rfl (hb hby d21_178) rfl k) ?_
  show Ends p e below QQ (T127.setTop (mkF m 180 #[.val (.long (-q0)), .second, .val (.int (10 : Int32)), .val (.ref o2), .unset, .unset, .unset, .val (.int (9 : Int32)), .val (.int (0 : Int32)), .unset, .val (.int x10_1)] [(.int (0 : Int32))]))
  refine Ends.step (fun _ k => XS.ifYes X127.here hx rfl (pc0 := 180) (pc' := 192) rfl (hb hby d21_180) rfl (XT.i0_eq_t (by decide)) (by decide) (by decide) k) ?_
  show Ends p e below QQ (T127.setTop (mkF m 192 #[.val (.long (-q0)), .second, .val (.int (10 : Int32)), .val (.ref o2), .unset, .unset, .unset, .val (.int (9 : Int32)), .val (.int (0 : Int32)), .unset, .val (.int x10_1)] []))
  refine Ends.step (fun _ k => XS.iload X127.here hx rfl (hb hby d21_192) rfl k) ?_
  show Ends p e below QQ (T127.setTop (mkF m 194 #[.val (.long (-q0)), .second, .val (.int (10 : Int32)), .val (.ref o2), .unset, .unset, .unset, .val (.int (9 : Int32)), .val (.int (0 : Int32)), .unset, .val (.int x10_1)] [(.int (9 : Int32))]))
  exact Ends.fin (some (.int (9 : Int32))) X127 hQQ (fun h => by rw [Bd.returns] at h; cases h) Bd.notSynchronized (fun _ hr => retOut X127 hx (t := .int) Bd.returns rfl (Or.inl ⟨rfl, Or.inl rfl, _, rfl⟩) (hb hby d21_194) hr) e127 (by decide) (by decide) ⟨rfl, N127, K127, A_o2⟩
theorem ef_ens10_16 (m : MethodId) (x0 : Addr) : entryFrame m #[(.ref x0), (.int (10 : Int32))] 3 = mkF m 0 #[.val (.ref x0), .val (.int (10 : Int32)), .unset] [] := by first | (simp [entryFrame, mkF, argsToLocals, Value.category]; done) | rfl
def Qens10_16 (Z : State) (o0 : Addr) (vb : Addr) (kb : ClassId) (vs : List Value) (h0 : Heap) (n0 : Nat) (v : Option Value) (h : Heap) (L : List Loc) : Prop := (v = none) ∧ (Fr n0 L) ∧ (h = h0)
set_option maxRecDepth 65536 in
set_option maxHeartbeats 40000000 in
theorem rmens10_16 (l : Launch) (Z : State) (a0 : Array Value) (hw : ∀ d ∈ tables_1, d.before a0 Z = true) (ws : List Jvm.Cond) (o0 : Addr) (vb : Addr) (kb : ClassId) (vs : List Value) (h0 : Heap) (n0 : Nat) (Z0 : n0 ≤ h0.size) (F_value_o0 : Fld Z h0 o0 "java/lang/AbstractStringBuilder" "value" "[B" (.ref vb)) (F_coder_o0 : Fld Z h0 o0 "java/lang/AbstractStringBuilder" "coder" "B" (.int (0 : Int32))) (A_vb : Arv Z h0 vb kb .byte (16 : Int32) vs (.int (0 : Int32))) :
    MetFree l (⟨"java/lang/AbstractStringBuilder", "ensureCapacityInternal", "(I)V"⟩ : MethodName) (head1 (Jvm.Cond.code (⟨"java/lang/AbstractStringBuilder", "ensureCapacityInternal", "(I)V"⟩ : MethodName) jdk_68_method_9_code 3 none :: ws) ({ frames := 0, cells := 0, slots := 0, locals := 0 } : Room)) (fun a U => a = #[(.ref o0), (.int (10 : Int32))] ∧ Z.Warmed39 U.vm ∧ U.heap = h0) (fun _ _ _ _ _ => True) (fun _ U o U' => ∃ v L, o = .returned v ∧ Qens10_16 Z o0 vb kb vs h0 n0 v U'.heap L ∧ FrameEnd U o U' L ({ frames := 0, cells := 0, slots := 0, locals := 0 } : Room).cells ({ frames := 0, cells := 0, slots := 0, locals := 0 } : Room).slots) := by
  refine MetFree.of_bodySF (plainFor_of_name pn_3) hisR ?_
  intro p e s m args below meth c s₁ Bd hml0 hP hK
  obtain ⟨rfl, hZ, hh⟩ := hP
  have hx := Bd.exec
  have hby := Bd.bytes
  have hml : c.maxLocals = 3 := hml0
  have hown : s.vm.findClass "java/lang/AbstractStringBuilder" = some m.cls := findClass_of_methodNamed Bd.named
  have hnm := (name_of_methodNamed Bd.named Bd.method).1
  have X0 : Stand p l e ({ frames := 0, cells := 0, slots := 0, locals := 0 } : Room) s m #[(.ref o0), (.int (10 : Int32))] below meth c s₁ [] 0 0 := Stand.of_body Bd
  have e0 : s₁.heap = h0 := by rw [← hh, Bd.state]; rfl
  have N0 := Fr.nil n0
  refine Ends.opn ?_
  intro QQ hQQ
  refine Ends.step (S' := s₁.setTop (mkF m 0 #[.val (.ref o0), .val (.int (10 : Int32)), .unset] [])) (fun t k => castTop (ef_ens10_16 m o0) k) ?_
  show Ends p e below QQ (s₁.setTop (mkF m 0 #[.val (.ref o0), .val (.int (10 : Int32)), .unset] []))
  refine Ends.step (fun _ k => XS.aloadN X0.here hx rfl (hb hby d13_0) rfl rfl k) ?_
  show Ends p e below QQ (s₁.setTop (mkF m 1 #[.val (.ref o0), .val (.int (10 : Int32)), .unset] [(.ref o0)]))
  obtain ⟨T128, X128, e128, st128⟩ := getF X0 hx hZ hown (host := "") (Or.inl (hw _ (List.mem_of_getElem? (i := 46) rfl))) Via.refl e0 F_value_o0 (g := (mkF m 1 #[.val (.ref o0), .val (.int (10 : Int32)), .unset] [(.ref o0)])) rfl rfl (hb hby d13_1)
  refine Ends.step st128 ?_
  show Ends p e below QQ (T128.setTop (mkF m 4 #[.val (.ref o0), .val (.int (10 : Int32)), .unset] [(.ref vb)]))
  obtain ⟨cl129, Ar129, -, S129, P129, -, -⟩ := id A_vb
  refine Ends.step (S' := T128.setTop (mkF m 5 #[.val (.ref o0), .val (.int (10 : Int32)), .unset] [(.int (16 : Int32))])) (fun _ k => X128.arraylength hx (by rw [e128]; exact Ar129.1) (State.isArrayOf_alike hZ.alike Ar129.2.1) (g := (mkF m 4 #[.val (.ref o0), .val (.int (10 : Int32)), .unset] [(.ref vb)])) rfl rfl (hb hby d13_4) _ (by rw [len_of S129 P129]; exact k)) ?_
  show Ends p e below QQ (T128.setTop (mkF m 5 #[.val (.ref o0), .val (.int (10 : Int32)), .unset] [(.int (16 : Int32))]))
  refine Ends.step (fun _ k => XS.aloadN X128.here hx rfl (hb hby d13_5) rfl rfl k) ?_
  show Ends p e below QQ (T128.setTop (mkF m 6 #[.val (.ref o0), .val (.int (10 : Int32)), .unset] [(.ref o0), (.int (16 : Int32))]))
  obtain ⟨T130, X130, e130, st130⟩ := getF X128 hx hZ hown (host := "") (Or.inl (hw _ (List.mem_of_getElem? (i := 48) rfl))) Via.refl e128 F_coder_o0 (g := (mkF m 6 #[.val (.ref o0), .val (.int (10 : Int32)), .unset] [(.ref o0), (.int (16 : Int32))])) rfl rfl (hb hby d13_6)
  refine Ends.step st130 ?_
  show Ends p e below QQ (T130.setTop (mkF m 9 #[.val (.ref o0), .val (.int (10 : Int32)), .unset] [(.int (0 : Int32)), (.int (16 : Int32))]))
  refine Ends.step (fun _ k => XS.ishr X130.here hx rfl (hb hby d13_9) rfl k) ?_
  show Ends p e below QQ (T130.setTop (mkF m 10 #[.val (.ref o0), .val (.int (10 : Int32)), .unset] [(.int (16 : Int32))]))
  refine Ends.step (fun _ k => XS.istoreN X130.here hx rfl (hb hby d13_10) rfl (l' := #[.val (.ref o0), .val (.int (10 : Int32)), .val (.int (16 : Int32))]) rfl k) ?_
  show Ends p e below QQ (T130.setTop (mkF m 11 #[.val (.ref o0), .val (.int (10 : Int32)), .val (.int (16 : Int32))] []))
  refine Ends.step (fun _ k => XS.iloadN X130.here hx rfl (hb hby d13_11) rfl k) ?_
  show Ends p e below QQ (T130.setTop (mkF m 12 #[.val (.ref o0), .val (.int (10 : Int32)), .val (.int (16 : Int32))] [(.int (10 : Int32))]))
  refine Ends.step (fun _ k => XS.iloadN X130.here hx rfl (hb hby d13_12) rfl k) ?_
  show Ends p e below QQ (T130.setTop (mkF m 13 #[.val (.ref o0), .val (.int (10 : Int32)), .val (.int (16 : Int32))] [(.int (16 : Int32)), (.int (10 : Int32))]))
  refine Ends.step (fun _ k => XS.isub X130.here hx rfl (hb hby d13_13) rfl k) ?_
  show Ends p e below QQ (T130.setTop (mkF m 14 #[.val (.ref o0), .val (.int (10 : Int32)), .val (.int (16 : Int32))] [(.int (-6 : Int32))]))
  refine Ends.step (fun _ k => XS.ifYes X130.here hx rfl (pc0 := 14) (pc' := 38) rfl (hb hby d13_14) rfl (XT.i0_le_t (by decide)) (by decide) (by decide) k) ?_
  show Ends p e below QQ (T130.setTop (mkF m 38 #[.val (.ref o0), .val (.int (10 : Int32)), .val (.int (16 : Int32))] []))
  exact Ends.fin (none) X130 hQQ (fun _ => rfl) Bd.notSynchronized (fun _ hr => X130.returnOut hx Bd.returns (hb hby d13_38) hr) e130 (by decide) (by decide) ⟨rfl, N0, rfl⟩
theorem d18_0 : decode jdk_68_method_33_code 0 = .ok (.aload_n 0, 1) := by decide +kernel
theorem d18_1 : decode jdk_68_method_33_code 1 = .ok (.getfield 79, 3) := by decide +kernel
theorem d18_4 : decode jdk_68_method_33_code 4 = .ok (.istore_n 3, 1) := by decide +kernel
theorem d18_5 : decode jdk_68_method_33_code 5 = .ok (.iload_n 3, 1) := by decide +kernel
theorem d18_6 : decode jdk_68_method_33_code 6 = .ok (.lload_n 1, 1) := by decide +kernel
theorem d18_7 : decode jdk_68_method_33_code 7 = .ok (.invokestatic 254, 3) := by decide +kernel
theorem d18_10 : decode jdk_68_method_33_code 10 = .ok (.iadd, 1) := by decide +kernel
theorem d18_11 : decode jdk_68_method_33_code 11 = .ok (.istore 4, 2) := by decide +kernel
theorem d18_13 : decode jdk_68_method_33_code 13 = .ok (.aload_n 0, 1) := by decide +kernel
theorem d18_14 : decode jdk_68_method_33_code 14 = .ok (.iload 4, 2) := by decide +kernel
theorem d18_16 : decode jdk_68_method_33_code 16 = .ok (.invokevirtual 100, 3) := by decide +kernel
theorem d18_19 : decode jdk_68_method_33_code 19 = .ok (.aload_n 0, 1) := by decide +kernel
theorem d18_20 : decode jdk_68_method_33_code 20 = .ok (.invokevirtual 83, 3) := by decide +kernel
theorem d18_23 : decode jdk_68_method_33_code 23 = .ok (.ifCond .eq 17, 3) := by decide +kernel
theorem d18_26 : decode jdk_68_method_33_code 26 = .ok (.lload_n 1, 1) := by decide +kernel
theorem d18_27 : decode jdk_68_method_33_code 27 = .ok (.iload 4, 2) := by decide +kernel
theorem d18_29 : decode jdk_68_method_33_code 29 = .ok (.aload_n 0, 1) := by decide +kernel
theorem d18_30 : decode jdk_68_method_33_code 30 = .ok (.getfield 15, 3) := by decide +kernel
theorem d18_33 : decode jdk_68_method_33_code 33 = .ok (.invokestatic 259, 3) := by decide +kernel
theorem d18_36 : decode jdk_68_method_33_code 36 = .ok (.pop, 1) := by decide +kernel
theorem d18_37 : decode jdk_68_method_33_code 37 = .ok (.goto 15, 3) := by decide +kernel
theorem d18_52 : decode jdk_68_method_33_code 52 = .ok (.aload_n 0, 1) := by decide +kernel
theorem d18_53 : decode jdk_68_method_33_code 53 = .ok (.iload 4, 2) := by decide +kernel
theorem d18_55 : decode jdk_68_method_33_code 55 = .ok (.putfield 79, 3) := by decide +kernel
theorem d18_58 : decode jdk_68_method_33_code 58 = .ok (.aload_n 0, 1) := by decide +kernel
theorem d18_59 : decode jdk_68_method_33_code 59 = .ok (.areturn, 1) := by decide +kernel
theorem ef_aj9 (m : MethodId) (x0 : Addr) (x1 : Int64) : entryFrame m #[(.ref x0), (.long x1)] 5 = mkF m 0 #[.val (.ref x0), .val (.long x1), .second, .unset, .unset] [] := by first | (simp [entryFrame, mkF, argsToLocals, Value.category]; done) | rfl
def Qaj9 (Z : State) (o0 : Addr) (q1 : Int64) (vb : Addr) (kb : ClassId) (cs : Int32) (a_D1 : Addr) (k_a_D1 : ClassId) (x0 : Int32) (x1 : Int32) (x2 : Int32) (x3 : Int32) (x4 : Int32) (x5 : Int32) (x6 : Int32) (x7 : Int32) (x8 : Int32) (h0 : Heap) (n0 : Nat) (v : Option Value) (h : Heap) (L : List Loc) : Prop := (v = some (.ref o0)) ∧ (Fr n0 L) ∧ (Keep h0 h [o0, vb]) ∧ (Exa Z h o0 "java/lang/StringBuilder") ∧ (Fld Z h o0 "java/lang/AbstractStringBuilder" "value" "[B" (.ref vb)) ∧ (Fld Z h o0 "java/lang/AbstractStringBuilder" "coder" "B" (.int (0 : Int32))) ∧ (Fld Z h o0 "java/lang/AbstractStringBuilder" "count" "I" (.int (10 : Int32))) ∧ (Exa Z h vb "[B") ∧ (Arv Z h vb kb .byte (16 : Int32) [(.int x0), (.int x1), (.int x2), (.int x3), (.int x4), (.int x5), (.int x6), (.int x7), (.int x8), (.int (own_dg ((q1).toInt))), (.int (0 : Int32)), (.int (0 : Int32)), (.int (0 : Int32)), (.int (0 : Int32)), (.int (0 : Int32)), (.int (0 : Int32))] (.int (0 : Int32)))
set_option maxRecDepth 65536 in
set_option maxHeartbeats 40000000 in
theorem rmaj9 (l : Launch) (Z : State) (a0 : Array Value) (hw : ∀ d ∈ tables_1, d.before a0 Z = true) (ws : List Jvm.Cond) (o0 : Addr) (q1 : Int64) (vb : Addr) (kb : ClassId) (cs : Int32) (a_D1 : Addr) (k_a_D1 : ClassId) (x0 : Int32) (x1 : Int32) (x2 : Int32) (x3 : Int32) (x4 : Int32) (x5 : Int32) (x6 : Int32) (x7 : Int32) (x8 : Int32) (h0 : Heap) (n0 : Nat) (Z0 : n0 ≤ h0.size) (E_o0 : Exa Z h0 o0 "java/lang/StringBuilder") (F_value_o0 : Fld Z h0 o0 "java/lang/AbstractStringBuilder" "value" "[B" (.ref vb)) (F_coder_o0 : Fld Z h0 o0 "java/lang/AbstractStringBuilder" "coder" "B" (.int (0 : Int32))) (F_count_o0 : Fld Z h0 o0 "java/lang/AbstractStringBuilder" "count" "I" (.int (9 : Int32))) (E_vb : Exa Z h0 vb "[B") (A_vb : Arv Z h0 vb kb .byte (16 : Int32) [(.int x0), (.int x1), (.int x2), (.int x3), (.int x4), (.int x5), (.int x6), (.int x7), (.int x8), (.int (0 : Int32)), (.int (0 : Int32)), (.int (0 : Int32)), (.int (0 : Int32)), (.int (0 : Int32)), (.int (0 : Int32)), (.int (0 : Int32))] (.int (0 : Int32))) (g_o0 : n0 ≤ o0) (g_vb : n0 ≤ vb) (ne_o0_vb : o0 ≠ vb) (S_COMPACT_STRINGS : Sta Z h0 "java/lang/String" "COMPACT_STRINGS" "Z" (.int cs)) (hcs : ¬ cs = (0 : Int32)) (A_a_D1 : Arv Z h0 a_D1 k_a_D1 .byte (100 : Int32) own_ones (.int (0 : Int32))) (S_DigitOnes : Sta Z h0 "java/lang/Integer" "DigitOnes" "[B" (.ref a_D1)) (ne_a_D1_vb : a_D1 ≠ vb) (g1 : (q1).toInt < 10) (g2 : 0 ≤ (q1).toInt) :
    MetFree l (⟨"java/lang/AbstractStringBuilder", "append", "(J)Ljava/lang/AbstractStringBuilder;"⟩ : MethodName) (head1 (Jvm.Cond.code (⟨"java/lang/AbstractStringBuilder", "append", "(J)Ljava/lang/AbstractStringBuilder;"⟩ : MethodName) jdk_68_method_33_code 5 (some (.object "java/lang/AbstractStringBuilder")) :: ws) ({ frames := 1, cells := 0, slots := 0, locals := 22 } : Room)) (fun a U => a = #[(.ref o0), (.long q1)] ∧ Z.Warmed39 U.vm ∧ U.heap = h0) (fun _ _ _ _ _ => True) (fun _ U o U' => ∃ v L, o = .returned v ∧ Qaj9 Z o0 q1 vb kb cs a_D1 k_a_D1 x0 x1 x2 x3 x4 x5 x6 x7 x8 h0 n0 v U'.heap L ∧ FrameEnd U o U' L ({ frames := 1, cells := 0, slots := 0, locals := 22 } : Room).cells ({ frames := 1, cells := 0, slots := 0, locals := 22 } : Room).slots) := by
  refine MetFree.of_bodySF (plainFor_of_name pn_3) hisR ?_
  intro p e s m args below meth c s₁ Bd hml0 hP hK
  obtain ⟨rfl, hZ, hh⟩ := hP
  have hx := Bd.exec
  have hby := Bd.bytes
  have hml : c.maxLocals = 5 := hml0
  have hown : s.vm.findClass "java/lang/AbstractStringBuilder" = some m.cls := findClass_of_methodNamed Bd.named
  have hnm := (name_of_methodNamed Bd.named Bd.method).1
  have X0 : Stand p l e ({ frames := 1, cells := 0, slots := 0, locals := 22 } : Room) s m #[(.ref o0), (.long q1)] below meth c s₁ [] 0 0 := Stand.of_body Bd
  have e0 : s₁.heap = h0 := by rw [← hh, Bd.state]; rfl
  have N0 := Fr.nil n0
  refine Ends.opn ?_
  intro QQ hQQ
  refine Ends.step (S' := s₁.setTop (mkF m 0 #[.val (.ref o0), .val (.long q1), .second, .unset, .unset] [])) (fun t k => castTop (ef_aj9 m o0 q1) k) ?_
  show Ends p e below QQ (s₁.setTop (mkF m 0 #[.val (.ref o0), .val (.long q1), .second, .unset, .unset] []))
  refine Ends.step (fun _ k => XS.aloadN X0.here hx rfl (hb hby d18_0) rfl rfl k) ?_
  show Ends p e below QQ (s₁.setTop (mkF m 1 #[.val (.ref o0), .val (.long q1), .second, .unset, .unset] [(.ref o0)]))
  obtain ⟨T131, X131, e131, st131⟩ := getF X0 hx hZ hown (host := "") (Or.inl (hw _ (List.mem_of_getElem? (i := 79) rfl))) Via.refl e0 F_count_o0 (g := (mkF m 1 #[.val (.ref o0), .val (.long q1), .second, .unset, .unset] [(.ref o0)])) rfl rfl (hb hby d18_1)
  refine Ends.step st131 ?_
  show Ends p e below QQ (T131.setTop (mkF m 4 #[.val (.ref o0), .val (.long q1), .second, .unset, .unset] [(.int (9 : Int32))]))
  refine Ends.step (fun _ k => XS.istoreN X131.here hx rfl (hb hby d18_4) rfl (l' := #[.val (.ref o0), .val (.long q1), .second, .val (.int (9 : Int32)), .unset]) rfl k) ?_
  show Ends p e below QQ (T131.setTop (mkF m 5 #[.val (.ref o0), .val (.long q1), .second, .val (.int (9 : Int32)), .unset] []))
  refine Ends.step (fun _ k => XS.iloadN X131.here hx rfl (hb hby d18_5) rfl k) ?_
  show Ends p e below QQ (T131.setTop (mkF m 6 #[.val (.ref o0), .val (.long q1), .second, .val (.int (9 : Int32)), .unset] [(.int (9 : Int32))]))
  refine Ends.step (fun _ k => XT.lloadN X131.here hx rfl (hb hby d18_6) rfl k) ?_
  show Ends p e below QQ (T131.setTop (mkF m 7 #[.val (.ref o0), .val (.long q1), .second, .val (.int (9 : Int32)), .unset] [(.long q1), (.int (9 : Int32))]))
  obtain ⟨_, _, ⟨T132, L132, k132, n132⟩, -, X132, ⟨Lc132, hQ132, l132, y132, z132⟩, st132⟩ := Jvm.LawKit.callS X131 hx (y := (⟨"java/lang/Long", "stringSize", "(J)I"⟩ : MethodName)) hown (mvT hZ (hw _ (List.mem_of_getElem? (i := 117) rfl))) (mvT hZ (hw _ (List.mem_of_getElem? (i := 118) rfl))) (mvT hZ (hw _ (List.mem_of_getElem? (i := 119) rfl))) (mvT hZ (hw _ (List.mem_of_getElem? (i := 120) rfl))) (by decide) (backOf (W := 1) (rmss l Z a0 hw [] q1 h0 n0 (Nat.le_trans Z0 (Keep.refl h0 [o0, vb]).1) g1 g2) hZ (hw _ (List.mem_of_getElem? (i := 120) rfl)) (hw _ (List.mem_of_getElem? (i := 119) rfl)) (by decide) (by decide)) (g := (mkF m 7 #[.val (.ref o0), .val (.long q1), .second, .val (.int (9 : Int32)), .unset] [(.long q1), (.int (9 : Int32))])) rfl (by rw [hml]; rfl) (argsL := [(.long q1)]) (rest := [(.int (9 : Int32))]) (lenOf pd_19 rfl) rfl (by show 2 * 0 + _ ≤ _; exact Nat.le_of_eq rfl) (hb hby d18_7) (fun _ _ => ⟨rfl, e131, (by decide : 0 + 0 ≤ _), (by decide : 0 + 0 ≤ _)⟩)
  dsimp only [Pt.U, Pt.locs, Pt.cells, Pt.slots] at X132 l132 y132 z132 st132 hQ132
  subst l132 y132 z132
  obtain ⟨rfl, Nq132, hh132⟩ := hQ132
  have N132 := Fr.app N0 Nq132
  refine Ends.step st132 ?_
  show Ends p e below QQ (T132.setTop (mkF m 10 #[.val (.ref o0), .val (.long q1), .second, .val (.int (9 : Int32)), .unset] [(.int (1 : Int32)), (.int (9 : Int32))]))
  refine Ends.step (fun _ k => XS.iadd X132.here hx rfl (hb hby d18_10) rfl k) ?_
  show Ends p e below QQ (T132.setTop (mkF m 11 #[.val (.ref o0), .val (.long q1), .second, .val (.int (9 : Int32)), .unset] [(.int (10 : Int32))]))
  refine Ends.step (fun _ k => XS.istore X132.here hx rfl (hb hby d18_11) rfl (l' := #[.val (.ref o0), .val (.long q1), .second, .val (.int (9 : Int32)), .val (.int (10 : Int32))]) rfl k) ?_
  show Ends p e below QQ (T132.setTop (mkF m 13 #[.val (.ref o0), .val (.long q1), .second, .val (.int (9 : Int32)), .val (.int (10 : Int32))] []))
  refine Ends.step (fun _ k => XS.aloadN X132.here hx rfl (hb hby d18_13) rfl rfl k) ?_
  show Ends p e below QQ (T132.setTop (mkF m 14 #[.val (.ref o0), .val (.long q1), .second, .val (.int (9 : Int32)), .val (.int (10 : Int32))] [(.ref o0)]))
  refine Ends.step (fun _ k => XS.iload X132.here hx rfl (hb hby d18_14) rfl k) ?_
  show Ends p e below QQ (T132.setTop (mkF m 16 #[.val (.ref o0), .val (.long q1), .second, .val (.int (9 : Int32)), .val (.int (10 : Int32))] [(.int (10 : Int32)), (.ref o0)]))
  obtain ⟨cq133, q133, q133'⟩ := E_o0.cell
  obtain ⟨_, _, ⟨T133, L133, k133, n133⟩, -, X133, ⟨Lc133, hQ133, l133, y133, z133⟩, st133⟩ := X132.privateBack hx (y := (⟨"java/lang/AbstractStringBuilder", "ensureCapacityInternal", "(I)V"⟩ : MethodName)) hown (mvT hZ (hw _ (List.mem_of_getElem? (i := 81) rfl))) (mvT hZ (hw _ (List.mem_of_getElem? (i := 82) rfl))) (mvT hZ (own_selq (y := (⟨"java/lang/AbstractStringBuilder", "ensureCapacityInternal", "(I)V"⟩ : MethodName)) (hw _ (List.mem_of_getElem? (i := 84) rfl)) rfl (hw _ (List.mem_of_getElem? (i := 83) rfl)) (hw _ (List.mem_of_getElem? (i := 82) rfl)) (by decide))) (Cond.privateMethod_at (mvP hZ (hw _ (List.mem_of_getElem? (i := 83) rfl)) (args := #[]))) (mvT hZ (hw _ (List.mem_of_getElem? (i := 85) rfl))) (by decide) (backOf (W := 0) (rmens10_16 l Z a0 hw [] o0 vb kb [(.int x0), (.int x1), (.int x2), (.int x3), (.int x4), (.int x5), (.int x6), (.int x7), (.int x8), (.int (0 : Int32)), (.int (0 : Int32)), (.int (0 : Int32)), (.int (0 : Int32)), (.int (0 : Int32)), (.int (0 : Int32)), (.int (0 : Int32))] h0 n0 (Nat.le_trans Z0 (Keep.refl h0 [o0, vb]).1) F_value_o0 F_coder_o0 A_vb) hZ (hw _ (List.mem_of_getElem? (i := 85) rfl)) (hw _ (List.mem_of_getElem? (i := 40) rfl)) (by decide) (by decide)) (g := (mkF m 16 #[.val (.ref o0), .val (.long q1), .second, .val (.int (9 : Int32)), .val (.int (10 : Int32))] [(.int (10 : Int32)), (.ref o0)])) rfl (by rw [hml]; rfl) (Steps.refl _) (a := o0) (by rw [hh132]; exact q133) q133' (argsL := [(.int (10 : Int32))]) (rest := []) (lenOf pd_5 rfl) rfl (by show 2 * 0 + _ ≤ _; exact Nat.le_of_eq rfl) (hb hby d18_16) (fun _ _ => ⟨rfl, hh132, (by decide : 0 + 0 ≤ _), (by decide : 0 + 0 ≤ _)⟩)
  dsimp only [Pt.U, Pt.locs, Pt.cells, Pt.slots] at X133 l133 y133 z133 st133 hQ133
  subst l133 y133 z133
  obtain ⟨rfl, Nq133, hh133⟩ := hQ133
  have N133 := Fr.app N132 Nq133
  refine Ends.step (fun _ k => st133.trans k) ?_
  show Ends p e below QQ (T133.setTop (mkF m 19 #[.val (.ref o0), .val (.long q1), .second, .val (.int (9 : Int32)), .val (.int (10 : Int32))] []))
  refine Ends.step (fun _ k => XS.aloadN X133.here hx rfl (hb hby d18_19) rfl rfl k) ?_
  show Ends p e below QQ (T133.setTop (mkF m 20 #[.val (.ref o0), .val (.long q1), .second, .val (.int (9 : Int32)), .val (.int (10 : Int32))] [(.ref o0)]))
  obtain ⟨cq134, kq134, q134a, q134b, q134c⟩ := isOf hZ hh133 E_o0
  obtain ⟨_, _, ⟨T134, L134, k134, n134⟩, -, X134, ⟨Lc134, hQ134, l134, y134, z134⟩, st134⟩ := X133.virtualBack hx (y := (⟨"java/lang/AbstractStringBuilder", "isLatin1", "()Z"⟩ : MethodName)) (z := (⟨"java/lang/AbstractStringBuilder", "isLatin1", "()Z"⟩ : MethodName)) hown (mvT hZ (hw _ (List.mem_of_getElem? (i := 122) rfl))) (mvT hZ (hw _ (List.mem_of_getElem? (i := 123) rfl))) (notFace_of_selects (args := #[]) (mvT hZ (hw _ (List.mem_of_getElem? (i := 125) rfl)))) (mvT hZ (hw _ (List.mem_of_getElem? (i := 125) rfl))) (mvT hZ (hw _ (List.mem_of_getElem? (i := 124) rfl))) (by decide) (backOf (W := 0) (rmasi l Z a0 hw [] o0 cs h0 n0 (Nat.le_trans Z0 (Keep.refl h0 [o0, vb]).1) S_COMPACT_STRINGS hcs F_coder_o0) hZ (hw _ (List.mem_of_getElem? (i := 126) rfl)) (hw _ (List.mem_of_getElem? (i := 40) rfl)) (by decide) (by decide)) q134a q134c (g := (mkF m 20 #[.val (.ref o0), .val (.long q1), .second, .val (.int (9 : Int32)), .val (.int (10 : Int32))] [(.ref o0)])) rfl (by rw [hml]; rfl) (Steps.refl _) (argsL := []) (rest := []) (lenOf pd_3 rfl) rfl (by show 2 * 0 + _ ≤ _; exact Nat.le_of_eq rfl) (hb hby d18_20) (fun _ _ => ⟨rfl, hh133, (by decide : 0 + 0 ≤ _), (by decide : 0 + 0 ≤ _)⟩)
  dsimp only [Pt.U, Pt.locs, Pt.cells, Pt.slots] at X134 l134 y134 z134 st134 hQ134
  subst l134 y134 z134
  obtain ⟨rfl, Nq134, hh134⟩ := hQ134
  have N134 := Fr.app N133 Nq134
  refine Ends.step (fun _ k => st134.trans k) ?_
  show Ends p e below QQ (T134.setTop (mkF m 23 #[.val (.ref o0), .val (.long q1), .second, .val (.int (9 : Int32)), .val (.int (10 : Int32))] [(.int (1 : Int32))]))
  refine Ends.step (fun _ k => XS.ifNo X134.here hx rfl (hb hby d18_23) rfl (XT.i0_eq_f (by decide)) k) ?_
  show Ends p e below QQ (T134.setTop (mkF m 26 #[.val (.ref o0), .val (.long q1), .second, .val (.int (9 : Int32)), .val (.int (10 : Int32))] []))
  refine Ends.step (fun _ k => XT.lloadN X134.here hx rfl (hb hby d18_26) rfl k) ?_
  show Ends p e below QQ (T134.setTop (mkF m 27 #[.val (.ref o0), .val (.long q1), .second, .val (.int (9 : Int32)), .val (.int (10 : Int32))] [(.long q1)]))
  refine Ends.step (fun _ k => XS.iload X134.here hx rfl (hb hby d18_27) rfl k) ?_
  show Ends p e below QQ (T134.setTop (mkF m 29 #[.val (.ref o0), .val (.long q1), .second, .val (.int (9 : Int32)), .val (.int (10 : Int32))] [(.int (10 : Int32)), (.long q1)]))
  refine Ends.step (fun _ k => XS.aloadN X134.here hx rfl (hb hby d18_29) rfl rfl k) ?_
  show Ends p e below QQ (T134.setTop (mkF m 30 #[.val (.ref o0), .val (.long q1), .second, .val (.int (9 : Int32)), .val (.int (10 : Int32))] [(.ref o0), (.int (10 : Int32)), (.long q1)]))
  obtain ⟨T135, X135, e135, st135⟩ := getF X134 hx hZ hown (host := "") (Or.inl (hw _ (List.mem_of_getElem? (i := 46) rfl))) Via.refl hh134 F_value_o0 (g := (mkF m 30 #[.val (.ref o0), .val (.long q1), .second, .val (.int (9 : Int32)), .val (.int (10 : Int32))] [(.ref o0), (.int (10 : Int32)), (.long q1)])) rfl rfl (hb hby d18_30)
  refine Ends.step st135 ?_
  show Ends p e below QQ (T135.setTop (mkF m 33 #[.val (.ref o0), .val (.long q1), .second, .val (.int (9 : Int32)), .val (.int (10 : Int32))] [(.ref vb), (.int (10 : Int32)), (.long q1)]))
  obtain ⟨_, _, ⟨T136, L136, k136, n136⟩, -, X136, ⟨Lc136, hQ136, l136, y136, z136⟩, st136⟩ := Jvm.LawKit.callS X135 hx (y := (⟨"java/lang/Long", "getChars", "(JI[B)I"⟩ : MethodName)) hown (mvT hZ (hw _ (List.mem_of_getElem? (i := 127) rfl))) (mvT hZ (hw _ (List.mem_of_getElem? (i := 128) rfl))) (mvT hZ (hw _ (List.mem_of_getElem? (i := 119) rfl))) (mvT hZ (hw _ (List.mem_of_getElem? (i := 129) rfl))) (by decide) (backOf (W := 0) (rmgc9 l Z a0 hw [] q1 vb kb a_D1 k_a_D1 x0 x1 x2 x3 x4 x5 x6 x7 x8 h0 n0 (Nat.le_trans Z0 (Keep.refl h0 [o0, vb]).1) A_vb g_vb (Ne.symm ne_a_D1_vb) A_a_D1 S_DigitOnes g1 g2) hZ (hw _ (List.mem_of_getElem? (i := 129) rfl)) (hw _ (List.mem_of_getElem? (i := 119) rfl)) (by decide) (by decide)) (g := (mkF m 33 #[.val (.ref o0), .val (.long q1), .second, .val (.int (9 : Int32)), .val (.int (10 : Int32))] [(.ref vb), (.int (10 : Int32)), (.long q1)])) rfl (by rw [hml]; rfl) (argsL := [(.long q1), (.int (10 : Int32)), (.ref vb)]) (rest := []) (lenOf pd_20 rfl) rfl (by show 2 * 0 + _ ≤ _; exact Nat.le_of_eq rfl) (hb hby d18_33) (fun _ _ => ⟨rfl, e135, (by decide : 0 + 0 ≤ _), (by decide : 0 + 0 ≤ _)⟩)
  dsimp only [Pt.U, Pt.locs, Pt.cells, Pt.slots] at X136 l136 y136 z136 st136 hQ136
  subst l136 y136 z136
  obtain ⟨rfl, Nq136, Kq136, fq136_0⟩ := hQ136
  have N136 := Fr.app N134 Nq136
  have S_COMPACT_STRINGS := own_sta_keep S_COMPACT_STRINGS Kq136 (allS E_vb.cell all0)
  have S_DigitOnes := own_sta_keep S_DigitOnes Kq136 (allS E_vb.cell all0)
  have E_o0 := E_o0.keep Kq136
  have F_value_o0 := F_value_o0.keep Kq136 (ninS ne_o0_vb nin0)
  have F_coder_o0 := F_coder_o0.keep Kq136 (ninS ne_o0_vb nin0)
  have F_count_o0 := F_count_o0.keep Kq136 (ninS ne_o0_vb nin0)
  have E_vb := E_vb.keep Kq136
  have A_a_D1 := A_a_D1.keep Kq136 (ninS ne_a_D1_vb nin0)
  have A_vb := fq136_0
  have K136 := (Keep.refl h0 [o0, vb]).trans Kq136 (allS (Or.inl (List.mem_of_getElem? (i := 1) rfl)) all0)
  refine Ends.step st136 ?_
  show Ends p e below QQ (T136.setTop (mkF m 36 #[.val (.ref o0), .val (.long q1), .second, .val (.int (9 : Int32)), .val (.int (10 : Int32))] [(.int (9 : Int32))]))
  refine Ends.step (fun _ k => XT.pop X136.here hx rfl (hb hby d18_36) rfl rfl k) ?_
  show Ends p e below QQ (T136.setTop (mkF m 37 #[.val (.ref o0), .val (.long q1), .second, .val (.int (9 : Int32)), .val (.int (10 : Int32))] []))
  refine Ends.step (fun _ k => XS.goto X136.here hx rfl (pc0 := 37) (pc' := 52) rfl (hb hby d18_37) (by decide) (by decide) k) ?_
  show Ends p e below QQ (T136.setTop (mkF m 52 #[.val (.ref o0), .val (.long q1), .second, .val (.int (9 : Int32)), .val (.int (10 : Int32))] []))
  refine Ends.step (fun _ k => XS.aloadN X136.here hx rfl (hb hby d18_52) rfl rfl k) ?_
  show Ends p e below QQ (T136.setTop (mkF m 53 #[.val (.ref o0), .val (.long q1), .second, .val (.int (9 : Int32)), .val (.int (10 : Int32))] [(.ref o0)]))
  refine Ends.step (fun _ k => XS.iload X136.here hx rfl (hb hby d18_53) rfl k) ?_
  show Ends p e below QQ (T136.setTop (mkF m 55 #[.val (.ref o0), .val (.long q1), .second, .val (.int (9 : Int32)), .val (.int (10 : Int32))] [(.int (10 : Int32)), (.ref o0)]))
  obtain ⟨T137, h137, X137, e137, W137, st137⟩ := putF X136 hx hZ hown (host := "") (Or.inl (hw _ (List.mem_of_getElem? (i := 79) rfl))) Via.refl rfl F_count_o0 E_o0 (Or.inl (hw _ (List.mem_of_getElem? (i := 80) rfl))) (hw _ (List.mem_of_getElem? (i := 31) rfl)) (ty := .int) (by decide) rfl rfl (g := (mkF m 55 #[.val (.ref o0), .val (.long q1), .second, .val (.int (9 : Int32)), .val (.int (10 : Int32))] [(.int (10 : Int32)), (.ref o0)])) rfl rfl (hb hby d18_55)
  have E_o0 := E_o0.wr W137
  have F_value_o0 := F_value_o0.other W137 (Or.inr (slot_ne (Or.inl (hw _ (List.mem_of_getElem? (i := 47) rfl))) (Or.inl (hw _ (List.mem_of_getElem? (i := 80) rfl))) (by decide) (t := (.array .byte)) (t' := .int) (by decide) (by decide)))
  have F_coder_o0 := F_coder_o0.other W137 (Or.inr (slot_ne (Or.inl (hw _ (List.mem_of_getElem? (i := 49) rfl))) (Or.inl (hw _ (List.mem_of_getElem? (i := 80) rfl))) (by decide) (t := .byte) (t' := .int) (by decide) (by decide)))
  have E_vb := E_vb.wr W137
  have A_vb := A_vb.other W137 (Ne.symm ne_o0_vb)
  have S_COMPACT_STRINGS := S_COMPACT_STRINGS.wr W137
  have S_DigitOnes := S_DigitOnes.wr W137
  have F_count_o0 : Fld Z h137 o0 "java/lang/AbstractStringBuilder" "count" "I" (.int (10 : Int32)) := F_count_o0.same W137
  have K137 := K136.wr W137 (Or.inl (List.mem_of_getElem? (i := 0) rfl))
  have N137 := Fr.snoc X137 N136 g_o0
  refine Ends.step st137 ?_
  show Ends p e below QQ (T137.setTop (mkF m 58 #[.val (.ref o0), .val (.long q1), .second, .val (.int (9 : Int32)), .val (.int (10 : Int32))] []))
  refine Ends.step (fun _ k => XS.aloadN X137.here hx rfl (hb hby d18_58) rfl rfl k) ?_
  show Ends p e below QQ (T137.setTop (mkF m 59 #[.val (.ref o0), .val (.long q1), .second, .val (.int (9 : Int32)), .val (.int (10 : Int32))] [(.ref o0)]))
  exact Ends.fin (some (.ref o0)) X137 hQQ (fun h => by rw [Bd.returns] at h; cases h) Bd.notSynchronized (fun _ hr => retOut X137 hx (t := (.object "java/lang/AbstractStringBuilder")) Bd.returns rfl (Or.inr (Or.inr (Or.inr (Or.inr ⟨rfl, rfl, rfl⟩)))) (hb hby d18_59) hr) e137 (by decide) (by decide) ⟨rfl, N137, K137, E_o0, F_value_o0, F_coder_o0, F_count_o0, E_vb, A_vb⟩
theorem d17_0 : decode jdk_67_method_16_code 0 = .ok (.aload_n 0, 1) := by decide +kernel
theorem d17_1 : decode jdk_67_method_16_code 1 = .ok (.lload_n 1, 1) := by decide +kernel
theorem d17_2 : decode jdk_67_method_16_code 2 = .ok (.invokespecial 56, 3) := by decide +kernel
theorem d17_5 : decode jdk_67_method_16_code 5 = .ok (.pop, 1) := by decide +kernel
theorem d17_6 : decode jdk_67_method_16_code 6 = .ok (.aload_n 0, 1) := by decide +kernel
theorem d17_7 : decode jdk_67_method_16_code 7 = .ok (.areturn, 1) := by decide +kernel
theorem ef_sj9 (m : MethodId) (x0 : Addr) (x1 : Int64) : entryFrame m #[(.ref x0), (.long x1)] 3 = mkF m 0 #[.val (.ref x0), .val (.long x1), .second] [] := by first | (simp [entryFrame, mkF, argsToLocals, Value.category]; done) | rfl
def Qsj9 (Z : State) (o0 : Addr) (q1 : Int64) (vb : Addr) (kb : ClassId) (cs : Int32) (a_D1 : Addr) (k_a_D1 : ClassId) (x0 : Int32) (x1 : Int32) (x2 : Int32) (x3 : Int32) (x4 : Int32) (x5 : Int32) (x6 : Int32) (x7 : Int32) (x8 : Int32) (h0 : Heap) (n0 : Nat) (v : Option Value) (h : Heap) (L : List Loc) : Prop := (v = some (.ref o0)) ∧ (Fr n0 L) ∧ (Keep h0 h [o0, vb]) ∧ (Exa Z h o0 "java/lang/StringBuilder") ∧ (Fld Z h o0 "java/lang/AbstractStringBuilder" "value" "[B" (.ref vb)) ∧ (Fld Z h o0 "java/lang/AbstractStringBuilder" "coder" "B" (.int (0 : Int32))) ∧ (Fld Z h o0 "java/lang/AbstractStringBuilder" "count" "I" (.int (10 : Int32))) ∧ (Exa Z h vb "[B") ∧ (Arv Z h vb kb .byte (16 : Int32) [(.int x0), (.int x1), (.int x2), (.int x3), (.int x4), (.int x5), (.int x6), (.int x7), (.int x8), (.int (own_dg ((q1).toInt))), (.int (0 : Int32)), (.int (0 : Int32)), (.int (0 : Int32)), (.int (0 : Int32)), (.int (0 : Int32)), (.int (0 : Int32))] (.int (0 : Int32)))
set_option maxRecDepth 65536 in
set_option maxHeartbeats 40000000 in
theorem rmsj9 (l : Launch) (Z : State) (a0 : Array Value) (hw : ∀ d ∈ tables_1, d.before a0 Z = true) (ws : List Jvm.Cond) (o0 : Addr) (q1 : Int64) (vb : Addr) (kb : ClassId) (cs : Int32) (a_D1 : Addr) (k_a_D1 : ClassId) (x0 : Int32) (x1 : Int32) (x2 : Int32) (x3 : Int32) (x4 : Int32) (x5 : Int32) (x6 : Int32) (x7 : Int32) (x8 : Int32) (h0 : Heap) (n0 : Nat) (Z0 : n0 ≤ h0.size) (E_o0 : Exa Z h0 o0 "java/lang/StringBuilder") (F_value_o0 : Fld Z h0 o0 "java/lang/AbstractStringBuilder" "value" "[B" (.ref vb)) (F_coder_o0 : Fld Z h0 o0 "java/lang/AbstractStringBuilder" "coder" "B" (.int (0 : Int32))) (F_count_o0 : Fld Z h0 o0 "java/lang/AbstractStringBuilder" "count" "I" (.int (9 : Int32))) (E_vb : Exa Z h0 vb "[B") (A_vb : Arv Z h0 vb kb .byte (16 : Int32) [(.int x0), (.int x1), (.int x2), (.int x3), (.int x4), (.int x5), (.int x6), (.int x7), (.int x8), (.int (0 : Int32)), (.int (0 : Int32)), (.int (0 : Int32)), (.int (0 : Int32)), (.int (0 : Int32)), (.int (0 : Int32)), (.int (0 : Int32))] (.int (0 : Int32))) (g_o0 : n0 ≤ o0) (g_vb : n0 ≤ vb) (ne_o0_vb : o0 ≠ vb) (S_COMPACT_STRINGS : Sta Z h0 "java/lang/String" "COMPACT_STRINGS" "Z" (.int cs)) (hcs : ¬ cs = (0 : Int32)) (A_a_D1 : Arv Z h0 a_D1 k_a_D1 .byte (100 : Int32) own_ones (.int (0 : Int32))) (S_DigitOnes : Sta Z h0 "java/lang/Integer" "DigitOnes" "[B" (.ref a_D1)) (ne_a_D1_vb : a_D1 ≠ vb) (g1 : (q1).toInt < 10) (g2 : 0 ≤ (q1).toInt) :
    MetFree l (⟨"java/lang/StringBuilder", "append", "(J)Ljava/lang/StringBuilder;"⟩ : MethodName) (head1 (Jvm.Cond.code (⟨"java/lang/StringBuilder", "append", "(J)Ljava/lang/StringBuilder;"⟩ : MethodName) jdk_67_method_16_code 3 (some (.object "java/lang/StringBuilder")) :: ws) ({ frames := 2, cells := 0, slots := 0, locals := 38 } : Room)) (fun a U => a = #[(.ref o0), (.long q1)] ∧ Z.Warmed39 U.vm ∧ U.heap = h0) (fun _ _ _ _ _ => True) (fun _ U o U' => ∃ v L, o = .returned v ∧ Qsj9 Z o0 q1 vb kb cs a_D1 k_a_D1 x0 x1 x2 x3 x4 x5 x6 x7 x8 h0 n0 v U'.heap L ∧ FrameEnd U o U' L ({ frames := 2, cells := 0, slots := 0, locals := 38 } : Room).cells ({ frames := 2, cells := 0, slots := 0, locals := 38 } : Room).slots) := by
  refine MetFree.of_bodySF (plainFor_of_name pn_4) hisR ?_
  intro p e s m args below meth c s₁ Bd hml0 hP hK
  obtain ⟨rfl, hZ, hh⟩ := hP
  have hx := Bd.exec
  have hby := Bd.bytes
  have hml : c.maxLocals = 3 := hml0
  have hown : s.vm.findClass "java/lang/StringBuilder" = some m.cls := findClass_of_methodNamed Bd.named
  have hnm := (name_of_methodNamed Bd.named Bd.method).1
  have X0 : Stand p l e ({ frames := 2, cells := 0, slots := 0, locals := 38 } : Room) s m #[(.ref o0), (.long q1)] below meth c s₁ [] 0 0 := Stand.of_body Bd
  have e0 : s₁.heap = h0 := by rw [← hh, Bd.state]; rfl
  have N0 := Fr.nil n0
  refine Ends.opn ?_
  intro QQ hQQ
  refine Ends.step (S' := s₁.setTop (mkF m 0 #[.val (.ref o0), .val (.long q1), .second] [])) (fun t k => castTop (ef_sj9 m o0 q1) k) ?_
  show Ends p e below QQ (s₁.setTop (mkF m 0 #[.val (.ref o0), .val (.long q1), .second] []))
  refine Ends.step (fun _ k => XS.aloadN X0.here hx rfl (hb hby d17_0) rfl rfl k) ?_
  show Ends p e below QQ (s₁.setTop (mkF m 1 #[.val (.ref o0), .val (.long q1), .second] [(.ref o0)]))
  refine Ends.step (fun _ k => XT.lloadN X0.here hx rfl (hb hby d17_1) rfl k) ?_
  show Ends p e below QQ (s₁.setTop (mkF m 2 #[.val (.ref o0), .val (.long q1), .second] [(.long q1), (.ref o0)]))
  obtain ⟨_, _, ⟨T138, L138, k138, n138⟩, -, X138, ⟨Lc138, hQ138, l138, y138, z138⟩, st138⟩ := superBack X0 hx hZ (y := (⟨"java/lang/AbstractStringBuilder", "append", "(J)Ljava/lang/AbstractStringBuilder;"⟩ : MethodName)) hown (hw _ (List.mem_of_getElem? (i := 113) rfl)) (own_same (hw _ (List.mem_of_getElem? (i := 114) rfl)) (by decide) (hw _ (List.mem_of_getElem? (i := 84) rfl)) rfl) (hw _ (List.mem_of_getElem? (i := 114) rfl)) (hw _ (List.mem_of_getElem? (i := 63) rfl)) (by decide) (backOf (W := 0) (rmaj9 l Z a0 hw [] o0 q1 vb kb cs a_D1 k_a_D1 x0 x1 x2 x3 x4 x5 x6 x7 x8 h0 n0 (Nat.le_trans Z0 (Keep.refl h0 [o0, vb]).1) E_o0 F_value_o0 F_coder_o0 F_count_o0 E_vb A_vb g_o0 g_vb ne_o0_vb S_COMPACT_STRINGS hcs A_a_D1 S_DigitOnes ne_a_D1_vb g1 g2) hZ (hw _ (List.mem_of_getElem? (i := 116) rfl)) (hw _ (List.mem_of_getElem? (i := 40) rfl)) (by decide) (by decide)) e0 (Ins.self E_o0) (g := (mkF m 2 #[.val (.ref o0), .val (.long q1), .second] [(.long q1), (.ref o0)])) rfl (by rw [hml]; rfl) (hw _ (List.mem_of_getElem? (i := 116) rfl)) (argsL := [(.long q1)]) (rest := []) (lenOf pd_21 rfl) rfl (by show 2 * 0 + _ ≤ _; exact Nat.le_of_eq rfl) (hb hby d17_2) (fun _ _ => ⟨rfl, e0, (by decide : 0 + 0 ≤ _), (by decide : 0 + 0 ≤ _)⟩)
  dsimp only [Pt.U, Pt.locs, Pt.cells, Pt.slots] at X138 l138 y138 z138 st138 hQ138
  subst l138 y138 z138
  obtain ⟨rfl, Nq138, Kq138, fq138_0, fq138_1, fq138_2, fq138_3, fq138_4, fq138_5⟩ := hQ138
  have N138 := Fr.app N0 Nq138
  have S_COMPACT_STRINGS := own_sta_keep S_COMPACT_STRINGS Kq138 (allS E_o0.cell (allS E_vb.cell all0))
  have S_DigitOnes := own_sta_keep S_DigitOnes Kq138 (allS E_o0.cell (allS E_vb.cell all0))
  have E_o0 := fq138_0
  have F_value_o0 := fq138_1
  have F_coder_o0 := fq138_2
  have F_count_o0 := fq138_3
  have E_vb := fq138_4
  have A_vb := fq138_5
  have K138 := (Keep.refl h0 [o0, vb]).trans Kq138 (allS (Or.inl (List.mem_of_getElem? (i := 0) rfl)) (allS (Or.inl (List.mem_of_getElem? (i := 1) rfl)) all0))
  refine Ends.step (fun _ k => st138.trans k) ?_
  show Ends p e below QQ (T138.setTop (mkF m 5 #[.val (.ref o0), .val (.long q1), .second] [(.ref o0)]))
  refine Ends.step (fun _ k => XT.pop X138.here hx rfl (hb hby d17_5) rfl rfl k) ?_
  show Ends p e below QQ (T138.setTop (mkF m 6 #[.val (.ref o0), .val (.long q1), .second] []))
  refine Ends.step (fun _ k => XS.aloadN X138.here hx rfl (hb hby d17_6) rfl rfl k) ?_
  show Ends p e below QQ (T138.setTop (mkF m 7 #[.val (.ref o0), .val (.long q1), .second] [(.ref o0)]))
  exact Ends.fin (some (.ref o0)) X138 hQQ (fun h => by rw [Bd.returns] at h; cases h) Bd.notSynchronized (fun _ hr => retOut X138 hx (t := (.object "java/lang/StringBuilder")) Bd.returns rfl (Or.inr (Or.inr (Or.inr (Or.inr ⟨rfl, rfl, rfl⟩)))) (hb hby d17_7) hr) rfl (by decide) (by decide) ⟨rfl, N138, K138, E_o0, F_value_o0, F_coder_o0, F_count_o0, E_vb, A_vb⟩
theorem ef_gc17 (m : MethodId) (x0 : Int64) (x2 : Addr) : entryFrame m #[(.long x0), (.int (18 : Int32)), (.ref x2)] 11 = mkF m 0 #[.val (.long x0), .second, .val (.int (18 : Int32)), .val (.ref x2), .unset, .unset, .unset, .unset, .unset, .unset, .unset] [] := by first | (simp [entryFrame, mkF, argsToLocals, Value.category]; done) | rfl
def Qgc17 (Z : State) (q0 : Int64) (o2 : Addr) (kb : ClassId) (a_D1 : Addr) (k_a_D1 : ClassId) (x0 : Int32) (x1 : Int32) (x2 : Int32) (x3 : Int32) (x4 : Int32) (x5 : Int32) (x6 : Int32) (x7 : Int32) (x8 : Int32) (x9 : Int32) (x10 : Int32) (x11 : Int32) (x12 : Int32) (x13 : Int32) (x14 : Int32) (x15 : Int32) (x16 : Int32) (h0 : Heap) (n0 : Nat) (v : Option Value) (h : Heap) (L : List Loc) : Prop := (v = some (.int (17 : Int32))) ∧ (Fr n0 L) ∧ (Keep h0 h [o2]) ∧ (Arv Z h o2 kb .byte (34 : Int32) [(.int x0), (.int x1), (.int x2), (.int x3), (.int x4), (.int x5), (.int x6), (.int x7), (.int x8), (.int x9), (.int x10), (.int x11), (.int x12), (.int x13), (.int x14), (.int x15), (.int x16), (.int (own_dg ((q0).toInt))), (.int (0 : Int32)), (.int (0 : Int32)), (.int (0 : Int32)), (.int (0 : Int32)), (.int (0 : Int32)), (.int (0 : Int32)), (.int (0 : Int32)), (.int (0 : Int32)), (.int (0 : Int32)), (.int (0 : Int32)), (.int (0 : Int32)), (.int (0 : Int32)), (.int (0 : Int32)), (.int (0 : Int32)), (.int (0 : Int32)), (.int (0 : Int32))] (.int (0 : Int32)))
set_option maxRecDepth 65536 in
set_option maxHeartbeats 40000000 in
theorem rmgc17 (l : Launch) (Z : State) (a0 : Array Value) (hw : ∀ d ∈ tables_1, d.before a0 Z = true) (ws : List Jvm.Cond) (q0 : Int64) (o2 : Addr) (kb : ClassId) (a_D1 : Addr) (k_a_D1 : ClassId) (x0 : Int32) (x1 : Int32) (x2 : Int32) (x3 : Int32) (x4 : Int32) (x5 : Int32) (x6 : Int32) (x7 : Int32) (x8 : Int32) (x9 : Int32) (x10 : Int32) (x11 : Int32) (x12 : Int32) (x13 : Int32) (x14 : Int32) (x15 : Int32) (x16 : Int32) (h0 : Heap) (n0 : Nat) (Z0 : n0 ≤ h0.size) (A_o2 : Arv Z h0 o2 kb .byte (34 : Int32) [(.int x0), (.int x1), (.int x2), (.int x3), (.int x4), (.int x5), (.int x6), (.int x7), (.int x8), (.int x9), (.int x10), (.int x11), (.int x12), (.int x13), (.int x14), (.int x15), (.int x16), (.int (0 : Int32)), (.int (0 : Int32)), (.int (0 : Int32)), (.int (0 : Int32)), (.int (0 : Int32)), (.int (0 : Int32)), (.int (0 : Int32)), (.int (0 : Int32)), (.int (0 : Int32)), (.int (0 : Int32)), (.int (0 : Int32)), (.int (0 : Int32)), (.int (0 : Int32)), (.int (0 : Int32)), (.int (0 : Int32)), (.int (0 : Int32)), (.int (0 : Int32))] (.int (0 : Int32))) (g_o2 : n0 ≤ o2) (ne_o2_a_D1 : o2 ≠ a_D1) (A_a_D1 : Arv Z h0 a_D1 k_a_D1 .byte (100 : Int32) own_ones (.int (0 : Int32))) (S_DigitOnes : Sta Z h0 "java/lang/Integer" "DigitOnes" "[B" (.ref a_D1)) (g1 : (q0).toInt < 10) (g2 : 0 ≤ (q0).toInt) :
    MetFree l (⟨"java/lang/Long", "getChars", "(JI[B)I"⟩ : MethodName) (head1 (Jvm.Cond.code (⟨"java/lang/Long", "getChars", "(JI[B)I"⟩ : MethodName) jdk_35_method_14_code 11 (some .int) :: ws) ({ frames := 0, cells := 0, slots := 0, locals := 0 } : Room)) (fun a U => a = #[(.long q0), (.int (18 : Int32)), (.ref o2)] ∧ Z.Warmed39 U.vm ∧ U.heap = h0) (fun _ _ _ _ _ => True) (fun _ U o U' => ∃ v L, o = .returned v ∧ Qgc17 Z q0 o2 kb a_D1 k_a_D1 x0 x1 x2 x3 x4 x5 x6 x7 x8 x9 x10 x11 x12 x13 x14 x15 x16 h0 n0 v U'.heap L ∧ FrameEnd U o U' L ({ frames := 0, cells := 0, slots := 0, locals := 0 } : Room).cells ({ frames := 0, cells := 0, slots := 0, locals := 0 } : Room).slots) := by
  refine MetFree.of_bodySF (plainFor_of_name pn_7) hisR ?_
  intro p e s m args below meth c s₁ Bd hml0 hP hK
  obtain ⟨rfl, hZ, hh⟩ := hP
  have hx := Bd.exec
  have hby := Bd.bytes
  have hml : c.maxLocals = 11 := hml0
  have hown : s.vm.findClass "java/lang/Long" = some m.cls := findClass_of_methodNamed Bd.named
  have hnm := (name_of_methodNamed Bd.named Bd.method).1
  have X0 : Stand p l e ({ frames := 0, cells := 0, slots := 0, locals := 0 } : Room) s m #[(.long q0), (.int (18 : Int32)), (.ref o2)] below meth c s₁ [] 0 0 := Stand.of_body Bd
  have e0 : s₁.heap = h0 := by rw [← hh, Bd.state]; rfl
  have N0 := Fr.nil n0
  refine Ends.opn ?_
  intro QQ hQQ
  refine Ends.step (S' := s₁.setTop (mkF m 0 #[.val (.long q0), .second, .val (.int (18 : Int32)), .val (.ref o2), .unset, .unset, .unset, .unset, .unset, .unset, .unset] [])) (fun t k => castTop (ef_gc17 m q0 o2) k) ?_
  show Ends p e below QQ (s₁.setTop (mkF m 0 #[.val (.long q0), .second, .val (.int (18 : Int32)), .val (.ref o2), .unset, .unset, .unset, .unset, .unset, .unset, .unset] []))
  refine Ends.step (fun _ k => XS.iloadN X0.here hx rfl (hb hby d21_0) rfl k) ?_
  show Ends p e below QQ (s₁.setTop (mkF m 1 #[.val (.long q0), .second, .val (.int (18 : Int32)), .val (.ref o2), .unset, .unset, .unset, .unset, .unset, .unset, .unset] [(.int (18 : Int32))]))
  refine Ends.step (fun _ k => XS.istore X0.here hx rfl (hb hby d21_1) rfl (l' := #[.val (.long q0), .second, .val (.int (18 : Int32)), .val (.ref o2), .unset, .unset, .unset, .val (.int (18 : Int32)), .unset, .unset, .unset]) rfl k) ?_
  show Ends p e below QQ (s₁.setTop (mkF m 3 #[.val (.long q0), .second, .val (.int (18 : Int32)), .val (.ref o2), .unset, .unset, .unset, .val (.int (18 : Int32)), .unset, .unset, .unset] []))
  refine Ends.step (fun _ k => XT.lloadN X0.here hx rfl (hb hby d21_3) rfl k) ?_
  show Ends p e below QQ (s₁.setTop (mkF m 4 #[.val (.long q0), .second, .val (.int (18 : Int32)), .val (.ref o2), .unset, .unset, .unset, .val (.int (18 : Int32)), .unset, .unset, .unset] [(.long q0)]))
  refine Ends.step (fun _ k => XT.lconstV X0.here hx rfl (0 : Int64) (hb hby d21_4) rfl k) ?_
  show Ends p e below QQ (s₁.setTop (mkF m 5 #[.val (.long q0), .second, .val (.int (18 : Int32)), .val (.ref o2), .unset, .unset, .unset, .val (.int (18 : Int32)), .unset, .unset, .unset] [(.long (0 : Int64)), (.long q0)]))
  refine Ends.step (fun _ k => XT.lcmp X0.here hx rfl (hb hby d21_5) rfl k) ?_
  show Ends p e below QQ (s₁.setTop (mkF m 6 #[.val (.long q0), .second, .val (.int (18 : Int32)), .val (.ref o2), .unset, .unset, .unset, .val (.int (18 : Int32)), .unset, .unset, .unset] [(.int (XT.cmpL q0 (0 : Int64)))]))
  have hc6 : ¬ (q0 < (0 : Int64)) := (own_ge0 (by omega))
  refine Ends.step (fun _ k => XS.ifYes X0.here hx rfl (pc0 := 6) (pc' := 13) rfl (hb hby d21_6) rfl (XT.ll_ge_t hc6) (by decide) (by decide) k) ?_
  show Ends p e below QQ (s₁.setTop (mkF m 13 #[.val (.long q0), .second, .val (.int (18 : Int32)), .val (.ref o2), .unset, .unset, .unset, .val (.int (18 : Int32)), .unset, .unset, .unset] []))
  refine Ends.step (fun _ k => XT.iconstV X0.here hx rfl (0 : Int32) (hb hby d21_13) rfl k) ?_
  show Ends p e below QQ (s₁.setTop (mkF m 14 #[.val (.long q0), .second, .val (.int (18 : Int32)), .val (.ref o2), .unset, .unset, .unset, .val (.int (18 : Int32)), .unset, .unset, .unset] [(.int (0 : Int32))]))
  refine Ends.step (fun _ k => XS.istore X0.here hx rfl (hb hby d21_14) rfl (l' := #[.val (.long q0), .second, .val (.int (18 : Int32)), .val (.ref o2), .unset, .unset, .unset, .val (.int (18 : Int32)), .val (.int (0 : Int32)), .unset, .unset]) rfl k) ?_
  show Ends p e below QQ (s₁.setTop (mkF m 16 #[.val (.long q0), .second, .val (.int (18 : Int32)), .val (.ref o2), .unset, .unset, .unset, .val (.int (18 : Int32)), .val (.int (0 : Int32)), .unset, .unset] []))
  refine Ends.step (fun _ k => XS.iload X0.here hx rfl (hb hby d21_16) rfl k) ?_
  show Ends p e below QQ (s₁.setTop (mkF m 18 #[.val (.long q0), .second, .val (.int (18 : Int32)), .val (.ref o2), .unset, .unset, .unset, .val (.int (18 : Int32)), .val (.int (0 : Int32)), .unset, .unset] [(.int (0 : Int32))]))
  refine Ends.step (fun _ k => XS.ifNo X0.here hx rfl (hb hby d21_18) rfl (XT.i0_ne_f (by decide)) k) ?_
  show Ends p e below QQ (s₁.setTop (mkF m 21 #[.val (.long q0), .second, .val (.int (18 : Int32)), .val (.ref o2), .unset, .unset, .unset, .val (.int (18 : Int32)), .val (.int (0 : Int32)), .unset, .unset] []))
  refine Ends.step (fun _ k => XT.lloadN X0.here hx rfl (hb hby d21_21) rfl k) ?_
  show Ends p e below QQ (s₁.setTop (mkF m 22 #[.val (.long q0), .second, .val (.int (18 : Int32)), .val (.ref o2), .unset, .unset, .unset, .val (.int (18 : Int32)), .val (.int (0 : Int32)), .unset, .unset] [(.long q0)]))
  refine Ends.step (fun _ k => XT.lneg X0.here hx rfl (hb hby d21_22) rfl k) ?_
  show Ends p e below QQ (s₁.setTop (mkF m 23 #[.val (.long q0), .second, .val (.int (18 : Int32)), .val (.ref o2), .unset, .unset, .unset, .val (.int (18 : Int32)), .val (.int (0 : Int32)), .unset, .unset] [(.long (-q0))]))
  refine Ends.step (fun _ k => XT.lstoreN X0.here hx rfl (hb hby d21_23) rfl (l' := #[.val (.long (-q0)), .second, .val (.int (18 : Int32)), .val (.ref o2), .unset, .unset, .unset, .val (.int (18 : Int32)), .val (.int (0 : Int32)), .unset, .unset]) rfl k) ?_
  show Ends p e below QQ (s₁.setTop (mkF m 24 #[.val (.long (-q0)), .second, .val (.int (18 : Int32)), .val (.ref o2), .unset, .unset, .unset, .val (.int (18 : Int32)), .val (.int (0 : Int32)), .unset, .unset] []))
  refine Ends.step (fun _ k => XT.lloadN X0.here hx rfl (hb hby d21_24) rfl k) ?_
  show Ends p e below QQ (s₁.setTop (mkF m 25 #[.val (.long (-q0)), .second, .val (.int (18 : Int32)), .val (.ref o2), .unset, .unset, .unset, .val (.int (18 : Int32)), .val (.int (0 : Int32)), .unset, .unset] [(.long (-q0))]))
  refine Ends.step (fun _ k => X0.ldc2J hx hown (mvT hZ (hw _ (List.mem_of_getElem? (i := 130) rfl))) (g := (mkF m 25 #[.val (.long (-q0)), .second, .val (.int (18 : Int32)), .val (.ref o2), .unset, .unset, .unset, .val (.int (18 : Int32)), .val (.int (0 : Int32)), .unset, .unset] [(.long (-q0))])) rfl (hb hby d21_25) k) ?_
  show Ends p e below QQ (s₁.setTop (mkF m 28 #[.val (.long (-q0)), .second, .val (.int (18 : Int32)), .val (.ref o2), .unset, .unset, .unset, .val (.int (18 : Int32)), .val (.int (0 : Int32)), .unset, .unset] [(.long (-2147483648 : Int64)), (.long (-q0))]))
  refine Ends.step (fun _ k => XT.lcmp X0.here hx rfl (hb hby d21_28) rfl k) ?_
  show Ends p e below QQ (s₁.setTop (mkF m 29 #[.val (.long (-q0)), .second, .val (.int (18 : Int32)), .val (.ref o2), .unset, .unset, .unset, .val (.int (18 : Int32)), .val (.int (0 : Int32)), .unset, .unset] [(.int (XT.cmpL (-q0) (-2147483648 : Int64)))]))
  have hc29 : (-2147483648 : Int64) < (-q0) := (own_ng (P := 2147483648) (by decide) (by omega) (by omega))
  refine Ends.step (fun _ k => XS.ifYes X0.here hx rfl (pc0 := 29) (pc' := 82) rfl (hb hby d21_29) rfl (XT.ll_gt_t hc29) (by decide) (by decide) k) ?_
  show Ends p e below QQ (s₁.setTop (mkF m 82 #[.val (.long (-q0)), .second, .val (.int (18 : Int32)), .val (.ref o2), .unset, .unset, .unset, .val (.int (18 : Int32)), .val (.int (0 : Int32)), .unset, .unset] []))
  refine Ends.step (fun _ k => XT.lloadN X0.here hx rfl (hb hby d21_82) rfl k) ?_
  show Ends p e below QQ (s₁.setTop (mkF m 83 #[.val (.long (-q0)), .second, .val (.int (18 : Int32)), .val (.ref o2), .unset, .unset, .unset, .val (.int (18 : Int32)), .val (.int (0 : Int32)), .unset, .unset] [(.long (-q0))]))
  refine Ends.step (fun _ k => XT.l2i X0.here hx rfl (hb hby d21_83) rfl k) ?_
  show Ends p e below QQ (s₁.setTop (mkF m 84 #[.val (.long (-q0)), .second, .val (.int (18 : Int32)), .val (.ref o2), .unset, .unset, .unset, .val (.int (18 : Int32)), .val (.int (0 : Int32)), .unset, .unset] [(.int (-q0).toInt32)]))
  refine Ends.step (fun _ k => XS.istore X0.here hx rfl (hb hby d21_84) rfl (l' := #[.val (.long (-q0)), .second, .val (.int (18 : Int32)), .val (.ref o2), .unset, .unset, .unset, .val (.int (18 : Int32)), .val (.int (0 : Int32)), .unset, .val (.int (-q0).toInt32)]) rfl k) ?_
  show Ends p e below QQ (s₁.setTop (mkF m 86 #[.val (.long (-q0)), .second, .val (.int (18 : Int32)), .val (.ref o2), .unset, .unset, .unset, .val (.int (18 : Int32)), .val (.int (0 : Int32)), .unset, .val (.int (-q0).toInt32)] []))
  generalize hv10_1 : (-q0).toInt32 = x10_1
  have hI0 : x10_1.toInt = -((q0).toInt) := by rw [← hv10_1]; exact own_i0 (by omega) (by omega)
  show Ends p e below QQ (s₁.setTop (mkF m 86 #[.val (.long (-q0)), .second, .val (.int (18 : Int32)), .val (.ref o2), .unset, .unset, .unset, .val (.int (18 : Int32)), .val (.int (0 : Int32)), .unset, .val (.int x10_1)] []))
  refine Ends.step (fun _ k => XS.iload X0.here hx rfl (hb hby d21_86) rfl k) ?_
  show Ends p e below QQ (s₁.setTop (mkF m 88 #[.val (.long (-q0)), .second, .val (.int (18 : Int32)), .val (.ref o2), .unset, .unset, .unset, .val (.int (18 : Int32)), .val (.int (0 : Int32)), .unset, .val (.int x10_1)] [(.int x10_1)]))
  refine Ends.step (fun _ k => XT.bipushV X0.here hx rfl (-100 : Int32) (hb hby d21_88) rfl k) ?_
  show Ends p e below QQ (s₁.setTop (mkF m 90 #[.val (.long (-q0)), .second, .val (.int (18 : Int32)), .val (.ref o2), .unset, .unset, .unset, .val (.int (18 : Int32)), .val (.int (0 : Int32)), .unset, .val (.int x10_1)] [(.int (-100 : Int32)), (.int x10_1)]))
  have hc90 : (-100 : Int32) < x10_1 := (own_exit hI0 (by omega))
  refine Ends.step (fun _ k => XS.icmpYes X0.here hx rfl (pc0 := 90) (pc' := 143) rfl (hb hby d21_90) rfl (XT.ii_gt_t hc90) (by decide) (by decide) k) ?_
  show Ends p e below QQ (s₁.setTop (mkF m 143 #[.val (.long (-q0)), .second, .val (.int (18 : Int32)), .val (.ref o2), .unset, .unset, .unset, .val (.int (18 : Int32)), .val (.int (0 : Int32)), .unset, .val (.int x10_1)] []))
  refine Ends.step (fun _ k => XS.aloadN X0.here hx rfl (hb hby d21_143) rfl rfl k) ?_
  show Ends p e below QQ (s₁.setTop (mkF m 144 #[.val (.long (-q0)), .second, .val (.int (18 : Int32)), .val (.ref o2), .unset, .unset, .unset, .val (.int (18 : Int32)), .val (.int (0 : Int32)), .unset, .val (.int x10_1)] [(.ref o2)]))
  refine Ends.step (fun _ k => XT.iincV X0.here hx rfl (-1 : Int32) (hb hby d21_144) rfl rfl (l' := #[.val (.long (-q0)), .second, .val (.int (18 : Int32)), .val (.ref o2), .unset, .unset, .unset, .val (.int (17 : Int32)), .val (.int (0 : Int32)), .unset, .val (.int x10_1)]) rfl k) ?_
  show Ends p e below QQ (s₁.setTop (mkF m 147 #[.val (.long (-q0)), .second, .val (.int (18 : Int32)), .val (.ref o2), .unset, .unset, .unset, .val (.int (17 : Int32)), .val (.int (0 : Int32)), .unset, .val (.int x10_1)] [(.ref o2)]))
  refine Ends.step (fun _ k => XS.iload X0.here hx rfl (hb hby d21_147) rfl k) ?_
  show Ends p e below QQ (s₁.setTop (mkF m 149 #[.val (.long (-q0)), .second, .val (.int (18 : Int32)), .val (.ref o2), .unset, .unset, .unset, .val (.int (17 : Int32)), .val (.int (0 : Int32)), .unset, .val (.int x10_1)] [(.int (17 : Int32)), (.ref o2)]))
  obtain ⟨T139, X139, e139, st139⟩ := getS2 X0 hx hZ hown (host := "") (Or.inl (hw _ (List.mem_of_getElem? (i := 131) rfl))) Via.refl e0 S_DigitOnes (g := (mkF m 149 #[.val (.long (-q0)), .second, .val (.int (18 : Int32)), .val (.ref o2), .unset, .unset, .unset, .val (.int (17 : Int32)), .val (.int (0 : Int32)), .unset, .val (.int x10_1)] [(.int (17 : Int32)), (.ref o2)])) rfl (hb hby d21_149)
  refine Ends.step st139 ?_
  show Ends p e below QQ (T139.setTop (mkF m 152 #[.val (.long (-q0)), .second, .val (.int (18 : Int32)), .val (.ref o2), .unset, .unset, .unset, .val (.int (17 : Int32)), .val (.int (0 : Int32)), .unset, .val (.int x10_1)] [(.ref a_D1), (.int (17 : Int32)), (.ref o2)]))
  refine Ends.step (fun _ k => XS.iload X139.here hx rfl (hb hby d21_152) rfl k) ?_
  show Ends p e below QQ (T139.setTop (mkF m 154 #[.val (.long (-q0)), .second, .val (.int (18 : Int32)), .val (.ref o2), .unset, .unset, .unset, .val (.int (17 : Int32)), .val (.int (0 : Int32)), .unset, .val (.int x10_1)] [(.int x10_1), (.ref a_D1), (.int (17 : Int32)), (.ref o2)]))
  refine Ends.step (fun _ k => XS.ineg X139.here hx rfl (hb hby d21_154) rfl k) ?_
  show Ends p e below QQ (T139.setTop (mkF m 155 #[.val (.long (-q0)), .second, .val (.int (18 : Int32)), .val (.ref o2), .unset, .unset, .unset, .val (.int (17 : Int32)), .val (.int (0 : Int32)), .unset, .val (.int x10_1)] [(.int (-x10_1)), (.ref a_D1), (.int (17 : Int32)), (.ref o2)]))
  have hr0 : ((-x10_1)).toInt = ((q0).toInt) % 100 := own_nr hI0 (by omega) (by omega)
  obtain ⟨cl140, Ar140, q140, S140, P140, H140, G140⟩ := id A_a_D1
  have hin140 : ¬ ((-x10_1) < 0 ∨ cl140.slots.size ≤ ((-x10_1)).toNatClampNeg) := inb_of S140 (own_in hr0)
  have hat140 : cl140.slots[((-x10_1)).toNatClampNeg]? = some (.int (own_dg ((q0).toInt))) := H140.at hin140 (own_oneat hr0)
  refine Ends.step (fun _ k => X139.baloadBytes hx (j := (-x10_1)) (v := (.int (own_dg ((q0).toInt)))) (by rw [e139]; exact Ar140.1) (State.isArrayOf_alike hZ.alike Ar140.2.1) Ar140.2.2 hin140 hat140 (g := (mkF m 155 #[.val (.long (-q0)), .second, .val (.int (18 : Int32)), .val (.ref o2), .unset, .unset, .unset, .val (.int (17 : Int32)), .val (.int (0 : Int32)), .unset, .val (.int x10_1)] [(.int (-x10_1)), (.ref a_D1), (.int (17 : Int32)), (.ref o2)])) rfl rfl (hb hby d21_155) _ k) ?_
  show Ends p e below QQ (T139.setTop (mkF m 156 #[.val (.long (-q0)), .second, .val (.int (18 : Int32)), .val (.ref o2), .unset, .unset, .unset, .val (.int (17 : Int32)), .val (.int (0 : Int32)), .unset, .val (.int x10_1)] [(.int (own_dg ((q0).toInt))), (.int (17 : Int32)), (.ref o2)]))
  obtain ⟨cl141, Ar141, q141, S141, P141, H141, G141⟩ := id A_o2
  have hin141 : ¬ ((17 : Int32) < 0 ∨ cl141.slots.size ≤ ((17 : Int32)).toNatClampNeg) := inb_of S141 ⟨by decide, by decide⟩
  obtain ⟨T142, h142, X142, e142, W142, st142⟩ := stB X139 hx hZ e139 Ar141 (j := (17 : Int32)) hin141 (g := (mkF m 156 #[.val (.long (-q0)), .second, .val (.int (18 : Int32)), .val (.ref o2), .unset, .unset, .unset, .val (.int (17 : Int32)), .val (.int (0 : Int32)), .unset, .val (.int x10_1)] [(.int (own_dg ((q0).toInt))), (.int (17 : Int32)), (.ref o2)])) rfl rfl (hb hby d21_156)
  rw [own_nardg] at W142
  have A_a_D1 := A_a_D1.other W142 (Ne.symm ne_o2_a_D1)
  have S_DigitOnes := S_DigitOnes.wr W142
  have A_o2 : Arv Z h142 o2 kb .byte (34 : Int32) [(.int x0), (.int x1), (.int x2), (.int x3), (.int x4), (.int x5), (.int x6), (.int x7), (.int x8), (.int x9), (.int x10), (.int x11), (.int x12), (.int x13), (.int x14), (.int x15), (.int x16), (.int (own_dg ((q0).toInt))), (.int (0 : Int32)), (.int (0 : Int32)), (.int (0 : Int32)), (.int (0 : Int32)), (.int (0 : Int32)), (.int (0 : Int32)), (.int (0 : Int32)), (.int (0 : Int32)), (.int (0 : Int32)), (.int (0 : Int32)), (.int (0 : Int32)), (.int (0 : Int32)), (.int (0 : Int32)), (.int (0 : Int32)), (.int (0 : Int32)), (.int (0 : Int32))] (.int (0 : Int32)) := Arv.set Ar141 q141 S141 P141 H141 G141 (own_fitdg _) W142 17 rfl (Nat.le_of_ble_eq_true rfl)
  have K142 := (Keep.refl h0 [o2]).wr W142 (Or.inl (List.mem_of_getElem? (i := 0) rfl))
  have N142 := Fr.snoc X142 N0 g_o2
  refine Ends.step st142 ?_
  show Ends p e below QQ (T142.setTop (mkF m 157 #[.val (.long (-q0)), .second, .val (.int (18 : Int32)), .val (.ref o2), .unset, .unset, .unset, .val (.int (17 : Int32)), .val (.int (0 : Int32)), .unset, .val (.int x10_1)] []))
  refine Ends.step (fun _ k => XS.iload X142.here hx rfl (hb hby d21_157) rfl k) ?_
  show Ends p e below QQ (T142.setTop (mkF m 159 #[.val (.long (-q0)), .second, .val (.int (18 : Int32)), .val (.ref o2), .unset, .unset, .unset, .val (.int (17 : Int32)), .val (.int (0 : Int32)), .unset, .val (.int x10_1)] [(.int x10_1)]))
  refine Ends.step (fun _ k => XT.bipushV X142.here hx rfl (-9 : Int32) (hb hby d21_159) rfl k) ?_
  show Ends p e below QQ (T142.setTop (mkF m 161 #[.val (.long (-q0)), .second, .val (.int (18 : Int32)), .val (.ref o2), .unset, .unset, .unset, .val (.int (17 : Int32)), .val (.int (0 : Int32)), .unset, .val (.int x10_1)] [(.int (-9 : Int32)), (.int x10_1)]))
  have hc161 : ¬ (x10_1 < (-9 : Int32)) := (own_one hI0 (by omega))
  refine Ends.step (fun _ k => XS.icmpYes X142.here hx rfl (pc0 := 161) (pc' := 178) rfl (hb hby d21_161) rfl (XT.ii_ge_t hc161) (by decide) (by decide) k) ?_
  show Ends p e below QQ (T142.setTop (mkF m 178 #[.val (.long (-q0)), .second, .val (.int (18 : Int32)), .val (.ref o2), .unset, .unset, .unset, .val (.int (17 : Int32)), .val (.int (0 : Int32)), .unset, .val (.int x10_1)] []))
  refine Ends.step (fun _ k => XS.iload X142.here hx rfl (hb hby d21_178) rfl k) ?_
  show Ends p e below QQ (T142.setTop (mkF m 180 #[.val (.long (-q0)), .second, .val (.int (18 : Int32)), .val (.ref o2), .unset, .unset, .unset, .val (.int (17 : Int32)), .val (.int (0 : Int32)), .unset, .val (.int x10_1)] [(.int (0 : Int32))]))
  refine Ends.step (fun _ k => XS.ifYes X142.here hx rfl (pc0 := 180) (pc' := 192) rfl (hb hby d21_180) rfl (XT.i0_eq_t (by decide)) (by decide) (by decide) k) ?_
  show Ends p e below QQ (T142.setTop (mkF m 192 #[.val (.long (-q0)), .second, .val (.int (18 : Int32)), .val (.ref o2), .unset, .unset, .unset, .val (.int (17 : Int32)), .val (.int (0 : Int32)), .unset, .val (.int x10_1)] []))
  refine Ends.step (fun _ k => XS.iload X142.here hx rfl (hb hby d21_192) rfl k) ?_
  show Ends p e below QQ (T142.setTop (mkF m 194 #[.val (.long (-q0)), .second, .val (.int (18 : Int32)), .val (.ref o2), .unset, .unset, .unset, .val (.int (17 : Int32)), .val (.int (0 : Int32)), .unset, .val (.int x10_1)] [(.int (17 : Int32))]))
  exact Ends.fin (some (.int (17 : Int32))) X142 hQQ (fun h => by rw [Bd.returns] at h; cases h) Bd.notSynchronized (fun _ hr => retOut X142 hx (t := .int) Bd.returns rfl (Or.inl ⟨rfl, Or.inl rfl, _, rfl⟩) (hb hby d21_194) hr) e142 (by decide) (by decide) ⟨rfl, N142, K142, A_o2⟩
theorem ef_ens18_34 (m : MethodId) (x0 : Addr) : entryFrame m #[(.ref x0), (.int (18 : Int32))] 3 = mkF m 0 #[.val (.ref x0), .val (.int (18 : Int32)), .unset] [] := by first | (simp [entryFrame, mkF, argsToLocals, Value.category]; done) | rfl
def Qens18_34 (Z : State) (o0 : Addr) (vb : Addr) (kb : ClassId) (vs : List Value) (h0 : Heap) (n0 : Nat) (v : Option Value) (h : Heap) (L : List Loc) : Prop := (v = none) ∧ (Fr n0 L) ∧ (h = h0)
set_option maxRecDepth 65536 in
set_option maxHeartbeats 40000000 in
theorem rmens18_34 (l : Launch) (Z : State) (a0 : Array Value) (hw : ∀ d ∈ tables_1, d.before a0 Z = true) (ws : List Jvm.Cond) (o0 : Addr) (vb : Addr) (kb : ClassId) (vs : List Value) (h0 : Heap) (n0 : Nat) (Z0 : n0 ≤ h0.size) (F_value_o0 : Fld Z h0 o0 "java/lang/AbstractStringBuilder" "value" "[B" (.ref vb)) (F_coder_o0 : Fld Z h0 o0 "java/lang/AbstractStringBuilder" "coder" "B" (.int (0 : Int32))) (A_vb : Arv Z h0 vb kb .byte (34 : Int32) vs (.int (0 : Int32))) :
    MetFree l (⟨"java/lang/AbstractStringBuilder", "ensureCapacityInternal", "(I)V"⟩ : MethodName) (head1 (Jvm.Cond.code (⟨"java/lang/AbstractStringBuilder", "ensureCapacityInternal", "(I)V"⟩ : MethodName) jdk_68_method_9_code 3 none :: ws) ({ frames := 0, cells := 0, slots := 0, locals := 0 } : Room)) (fun a U => a = #[(.ref o0), (.int (18 : Int32))] ∧ Z.Warmed39 U.vm ∧ U.heap = h0) (fun _ _ _ _ _ => True) (fun _ U o U' => ∃ v L, o = .returned v ∧ Qens18_34 Z o0 vb kb vs h0 n0 v U'.heap L ∧ FrameEnd U o U' L ({ frames := 0, cells := 0, slots := 0, locals := 0 } : Room).cells ({ frames := 0, cells := 0, slots := 0, locals := 0 } : Room).slots) := by
  refine MetFree.of_bodySF (plainFor_of_name pn_3) hisR ?_
  intro p e s m args below meth c s₁ Bd hml0 hP hK
  obtain ⟨rfl, hZ, hh⟩ := hP
  have hx := Bd.exec
  have hby := Bd.bytes
  have hml : c.maxLocals = 3 := hml0
  have hown : s.vm.findClass "java/lang/AbstractStringBuilder" = some m.cls := findClass_of_methodNamed Bd.named
  have hnm := (name_of_methodNamed Bd.named Bd.method).1
  have X0 : Stand p l e ({ frames := 0, cells := 0, slots := 0, locals := 0 } : Room) s m #[(.ref o0), (.int (18 : Int32))] below meth c s₁ [] 0 0 := Stand.of_body Bd
  have e0 : s₁.heap = h0 := by rw [← hh, Bd.state]; rfl
  have N0 := Fr.nil n0
  refine Ends.opn ?_
  intro QQ hQQ
  refine Ends.step (S' := s₁.setTop (mkF m 0 #[.val (.ref o0), .val (.int (18 : Int32)), .unset] [])) (fun t k => castTop (ef_ens18_34 m o0) k) ?_
  show Ends p e below QQ (s₁.setTop (mkF m 0 #[.val (.ref o0), .val (.int (18 : Int32)), .unset] []))
  refine Ends.step (fun _ k => XS.aloadN X0.here hx rfl (hb hby d13_0) rfl rfl k) ?_
  show Ends p e below QQ (s₁.setTop (mkF m 1 #[.val (.ref o0), .val (.int (18 : Int32)), .unset] [(.ref o0)]))
  obtain ⟨T143, X143, e143, st143⟩ := getF X0 hx hZ hown (host := "") (Or.inl (hw _ (List.mem_of_getElem? (i := 46) rfl))) Via.refl e0 F_value_o0 (g := (mkF m 1 #[.val (.ref o0), .val (.int (18 : Int32)), .unset] [(.ref o0)])) rfl rfl (hb hby d13_1)
  refine Ends.step st143 ?_
  show Ends p e below QQ (T143.setTop (mkF m 4 #[.val (.ref o0), .val (.int (18 : Int32)), .unset] [(.ref vb)]))
  obtain ⟨cl144, Ar144, -, S144, P144, -, -⟩ := id A_vb
  refine Ends.step (S' := T143.setTop (mkF m 5 #[.val (.ref o0), .val (.int (18 : Int32)), .unset] [(.int (34 : Int32))])) (fun _ k => X143.arraylength hx (by rw [e143]; exact Ar144.1) (State.isArrayOf_alike hZ.alike Ar144.2.1) (g := (mkF m 4 #[.val (.ref o0), .val (.int (18 : Int32)), .unset] [(.ref vb)])) rfl rfl (hb hby d13_4) _ (by rw [len_of S144 P144]; exact k)) ?_
  show Ends p e below QQ (T143.setTop (mkF m 5 #[.val (.ref o0), .val (.int (18 : Int32)), .unset] [(.int (34 : Int32))]))
  refine Ends.step (fun _ k => XS.aloadN X143.here hx rfl (hb hby d13_5) rfl rfl k) ?_
  show Ends p e below QQ (T143.setTop (mkF m 6 #[.val (.ref o0), .val (.int (18 : Int32)), .unset] [(.ref o0), (.int (34 : Int32))]))
  obtain ⟨T145, X145, e145, st145⟩ := getF X143 hx hZ hown (host := "") (Or.inl (hw _ (List.mem_of_getElem? (i := 48) rfl))) Via.refl e143 F_coder_o0 (g := (mkF m 6 #[.val (.ref o0), .val (.int (18 : Int32)), .unset] [(.ref o0), (.int (34 : Int32))])) rfl rfl (hb hby d13_6)
  refine Ends.step st145 ?_
  show Ends p e below QQ (T145.setTop (mkF m 9 #[.val (.ref o0), .val (.int (18 : Int32)), .unset] [(.int (0 : Int32)), (.int (34 : Int32))]))
  refine Ends.step (fun _ k => XS.ishr X145.here hx rfl (hb hby d13_9) rfl k) ?_
  show Ends p e below QQ (T145.setTop (mkF m 10 #[.val (.ref o0), .val (.int (18 : Int32)), .unset] [(.int (34 : Int32))]))
  refine Ends.step (fun _ k => XS.istoreN X145.here hx rfl (hb hby d13_10) rfl (l' := #[.val (.ref o0), .val (.int (18 : Int32)), .val (.int (34 : Int32))]) rfl k) ?_
  show Ends p e below QQ (T145.setTop (mkF m 11 #[.val (.ref o0), .val (.int (18 : Int32)), .val (.int (34 : Int32))] []))
  refine Ends.step (fun _ k => XS.iloadN X145.here hx rfl (hb hby d13_11) rfl k) ?_
  show Ends p e below QQ (T145.setTop (mkF m 12 #[.val (.ref o0), .val (.int (18 : Int32)), .val (.int (34 : Int32))] [(.int (18 : Int32))]))
  refine Ends.step (fun _ k => XS.iloadN X145.here hx rfl (hb hby d13_12) rfl k) ?_
  show Ends p e below QQ (T145.setTop (mkF m 13 #[.val (.ref o0), .val (.int (18 : Int32)), .val (.int (34 : Int32))] [(.int (34 : Int32)), (.int (18 : Int32))]))
  refine Ends.step (fun _ k => XS.isub X145.here hx rfl (hb hby d13_13) rfl k) ?_
  show Ends p e below QQ (T145.setTop (mkF m 14 #[.val (.ref o0), .val (.int (18 : Int32)), .val (.int (34 : Int32))] [(.int (-16 : Int32))]))
  refine Ends.step (fun _ k => XS.ifYes X145.here hx rfl (pc0 := 14) (pc' := 38) rfl (hb hby d13_14) rfl (XT.i0_le_t (by decide)) (by decide) (by decide) k) ?_
  show Ends p e below QQ (T145.setTop (mkF m 38 #[.val (.ref o0), .val (.int (18 : Int32)), .val (.int (34 : Int32))] []))
  exact Ends.fin (none) X145 hQQ (fun _ => rfl) Bd.notSynchronized (fun _ hr => X145.returnOut hx Bd.returns (hb hby d13_38) hr) e145 (by decide) (by decide) ⟨rfl, N0, rfl⟩
theorem ef_aj17 (m : MethodId) (x0 : Addr) (x1 : Int64) : entryFrame m #[(.ref x0), (.long x1)] 5 = mkF m 0 #[.val (.ref x0), .val (.long x1), .second, .unset, .unset] [] := by first | (simp [entryFrame, mkF, argsToLocals, Value.category]; done) | rfl
def Qaj17 (Z : State) (o0 : Addr) (q1 : Int64) (vb : Addr) (kb : ClassId) (cs : Int32) (a_D1 : Addr) (k_a_D1 : ClassId) (x0 : Int32) (x1 : Int32) (x2 : Int32) (x3 : Int32) (x4 : Int32) (x5 : Int32) (x6 : Int32) (x7 : Int32) (x8 : Int32) (x9 : Int32) (x10 : Int32) (x11 : Int32) (x12 : Int32) (x13 : Int32) (x14 : Int32) (x15 : Int32) (x16 : Int32) (h0 : Heap) (n0 : Nat) (v : Option Value) (h : Heap) (L : List Loc) : Prop := (v = some (.ref o0)) ∧ (Fr n0 L) ∧ (Keep h0 h [o0, vb]) ∧ (Exa Z h o0 "java/lang/StringBuilder") ∧ (Fld Z h o0 "java/lang/AbstractStringBuilder" "value" "[B" (.ref vb)) ∧ (Fld Z h o0 "java/lang/AbstractStringBuilder" "coder" "B" (.int (0 : Int32))) ∧ (Fld Z h o0 "java/lang/AbstractStringBuilder" "count" "I" (.int (18 : Int32))) ∧ (Exa Z h vb "[B") ∧ (Arv Z h vb kb .byte (34 : Int32) [(.int x0), (.int x1), (.int x2), (.int x3), (.int x4), (.int x5), (.int x6), (.int x7), (.int x8), (.int x9), (.int x10), (.int x11), (.int x12), (.int x13), (.int x14), (.int x15), (.int x16), (.int (own_dg ((q1).toInt))), (.int (0 : Int32)), (.int (0 : Int32)), (.int (0 : Int32)), (.int (0 : Int32)), (.int (0 : Int32)), (.int (0 : Int32)), (.int (0 : Int32)), (.int (0 : Int32)), (.int (0 : Int32)), (.int (0 : Int32)), (.int (0 : Int32)), (.int (0 : Int32)), (.int (0 : Int32)), (.int (0 : Int32)), (.int (0 : Int32)), (.int (0 : Int32))] (.int (0 : Int32)))
set_option maxRecDepth 65536 in
set_option maxHeartbeats 40000000 in
theorem rmaj17 (l : Launch) (Z : State) (a0 : Array Value) (hw : ∀ d ∈ tables_1, d.before a0 Z = true) (ws : List Jvm.Cond) (o0 : Addr) (q1 : Int64) (vb : Addr) (kb : ClassId) (cs : Int32) (a_D1 : Addr) (k_a_D1 : ClassId) (x0 : Int32) (x1 : Int32) (x2 : Int32) (x3 : Int32) (x4 : Int32) (x5 : Int32) (x6 : Int32) (x7 : Int32) (x8 : Int32) (x9 : Int32) (x10 : Int32) (x11 : Int32) (x12 : Int32) (x13 : Int32) (x14 : Int32) (x15 : Int32) (x16 : Int32) (h0 : Heap) (n0 : Nat) (Z0 : n0 ≤ h0.size) (E_o0 : Exa Z h0 o0 "java/lang/StringBuilder") (F_value_o0 : Fld Z h0 o0 "java/lang/AbstractStringBuilder" "value" "[B" (.ref vb)) (F_coder_o0 : Fld Z h0 o0 "java/lang/AbstractStringBuilder" "coder" "B" (.int (0 : Int32))) (F_count_o0 : Fld Z h0 o0 "java/lang/AbstractStringBuilder" "count" "I" (.int (17 : Int32))) (E_vb : Exa Z h0 vb "[B") (A_vb : Arv Z h0 vb kb .byte (34 : Int32) [(.int x0), (.int x1), (.int x2), (.int x3), (.int x4), (.int x5), (.int x6), (.int x7), (.int x8), (.int x9), (.int x10), (.int x11), (.int x12), (.int x13), (.int x14), (.int x15), (.int x16), (.int (0 : Int32)), (.int (0 : Int32)), (.int (0 : Int32)), (.int (0 : Int32)), (.int (0 : Int32)), (.int (0 : Int32)), (.int (0 : Int32)), (.int (0 : Int32)), (.int (0 : Int32)), (.int (0 : Int32)), (.int (0 : Int32)), (.int (0 : Int32)), (.int (0 : Int32)), (.int (0 : Int32)), (.int (0 : Int32)), (.int (0 : Int32)), (.int (0 : Int32))] (.int (0 : Int32))) (g_o0 : n0 ≤ o0) (g_vb : n0 ≤ vb) (ne_o0_vb : o0 ≠ vb) (S_COMPACT_STRINGS : Sta Z h0 "java/lang/String" "COMPACT_STRINGS" "Z" (.int cs)) (hcs : ¬ cs = (0 : Int32)) (A_a_D1 : Arv Z h0 a_D1 k_a_D1 .byte (100 : Int32) own_ones (.int (0 : Int32))) (S_DigitOnes : Sta Z h0 "java/lang/Integer" "DigitOnes" "[B" (.ref a_D1)) (ne_a_D1_vb : a_D1 ≠ vb) (g1 : (q1).toInt < 10) (g2 : 0 ≤ (q1).toInt) :
    MetFree l (⟨"java/lang/AbstractStringBuilder", "append", "(J)Ljava/lang/AbstractStringBuilder;"⟩ : MethodName) (head1 (Jvm.Cond.code (⟨"java/lang/AbstractStringBuilder", "append", "(J)Ljava/lang/AbstractStringBuilder;"⟩ : MethodName) jdk_68_method_33_code 5 (some (.object "java/lang/AbstractStringBuilder")) :: ws) ({ frames := 1, cells := 0, slots := 0, locals := 22 } : Room)) (fun a U => a = #[(.ref o0), (.long q1)] ∧ Z.Warmed39 U.vm ∧ U.heap = h0) (fun _ _ _ _ _ => True) (fun _ U o U' => ∃ v L, o = .returned v ∧ Qaj17 Z o0 q1 vb kb cs a_D1 k_a_D1 x0 x1 x2 x3 x4 x5 x6 x7 x8 x9 x10 x11 x12 x13 x14 x15 x16 h0 n0 v U'.heap L ∧ FrameEnd U o U' L ({ frames := 1, cells := 0, slots := 0, locals := 22 } : Room).cells ({ frames := 1, cells := 0, slots := 0, locals := 22 } : Room).slots) := by
  refine MetFree.of_bodySF (plainFor_of_name pn_3) hisR ?_
  intro p e s m args below meth c s₁ Bd hml0 hP hK
  obtain ⟨rfl, hZ, hh⟩ := hP
  have hx := Bd.exec
  have hby := Bd.bytes
  have hml : c.maxLocals = 5 := hml0
  have hown : s.vm.findClass "java/lang/AbstractStringBuilder" = some m.cls := findClass_of_methodNamed Bd.named
  have hnm := (name_of_methodNamed Bd.named Bd.method).1
  have X0 : Stand p l e ({ frames := 1, cells := 0, slots := 0, locals := 22 } : Room) s m #[(.ref o0), (.long q1)] below meth c s₁ [] 0 0 := Stand.of_body Bd
  have e0 : s₁.heap = h0 := by rw [← hh, Bd.state]; rfl
  have N0 := Fr.nil n0
  refine Ends.opn ?_
  intro QQ hQQ
  refine Ends.step (S' := s₁.setTop (mkF m 0 #[.val (.ref o0), .val (.long q1), .second, .unset, .unset] [])) (fun t k => castTop (ef_aj17 m o0 q1) k) ?_
  show Ends p e below QQ (s₁.setTop (mkF m 0 #[.val (.ref o0), .val (.long q1), .second, .unset, .unset] []))
  refine Ends.step (fun _ k => XS.aloadN X0.here hx rfl (hb hby d18_0) rfl rfl k) ?_
  show Ends p e below QQ (s₁.setTop (mkF m 1 #[.val (.ref o0), .val (.long q1), .second, .unset, .unset] [(.ref o0)]))
  obtain ⟨T146, X146, e146, st146⟩ := getF X0 hx hZ hown (host := "") (Or.inl (hw _ (List.mem_of_getElem? (i := 79) rfl))) Via.refl e0 F_count_o0 (g := (mkF m 1 #[.val (.ref o0), .val (.long q1), .second, .unset, .unset] [(.ref o0)])) rfl rfl (hb hby d18_1)
  refine Ends.step st146 ?_
  show Ends p e below QQ (T146.setTop (mkF m 4 #[.val (.ref o0), .val (.long q1), .second, .unset, .unset] [(.int (17 : Int32))]))
  refine Ends.step (fun _ k => XS.istoreN X146.here hx rfl (hb hby d18_4) rfl (l' := #[.val (.ref o0), .val (.long q1), .second, .val (.int (17 : Int32)), .unset]) rfl k) ?_
  show Ends p e below QQ (T146.setTop (mkF m 5 #[.val (.ref o0), .val (.long q1), .second, .val (.int (17 : Int32)), .unset] []))
  refine Ends.step (fun _ k => XS.iloadN X146.here hx rfl (hb hby d18_5) rfl k) ?_
  show Ends p e below QQ (T146.setTop (mkF m 6 #[.val (.ref o0), .val (.long q1), .second, .val (.int (17 : Int32)), .unset] [(.int (17 : Int32))]))
  refine Ends.step (fun _ k => XT.lloadN X146.here hx rfl (hb hby d18_6) rfl k) ?_
  show Ends p e below QQ (T146.setTop (mkF m 7 #[.val (.ref o0), .val (.long q1), .second, .val (.int (17 : Int32)), .unset] [(.long q1), (.int (17 : Int32))]))
  obtain ⟨_, _, ⟨T147, L147, k147, n147⟩, -, X147, ⟨Lc147, hQ147, l147, y147, z147⟩, st147⟩ := Jvm.LawKit.callS X146 hx (y := (⟨"java/lang/Long", "stringSize", "(J)I"⟩ : MethodName)) hown (mvT hZ (hw _ (List.mem_of_getElem? (i := 117) rfl))) (mvT hZ (hw _ (List.mem_of_getElem? (i := 118) rfl))) (mvT hZ (hw _ (List.mem_of_getElem? (i := 119) rfl))) (mvT hZ (hw _ (List.mem_of_getElem? (i := 120) rfl))) (by decide) (backOf (W := 1) (rmss l Z a0 hw [] q1 h0 n0 (Nat.le_trans Z0 (Keep.refl h0 [o0, vb]).1) g1 g2) hZ (hw _ (List.mem_of_getElem? (i := 120) rfl)) (hw _ (List.mem_of_getElem? (i := 119) rfl)) (by decide) (by decide)) (g := (mkF m 7 #[.val (.ref o0), .val (.long q1), .second, .val (.int (17 : Int32)), .unset] [(.long q1), (.int (17 : Int32))])) rfl (by rw [hml]; rfl) (argsL := [(.long q1)]) (rest := [(.int (17 : Int32))]) (lenOf pd_19 rfl) rfl (by show 2 * 0 + _ ≤ _; exact Nat.le_of_eq rfl) (hb hby d18_7) (fun _ _ => ⟨rfl, e146, (by decide : 0 + 0 ≤ _), (by decide : 0 + 0 ≤ _)⟩)
  dsimp only [Pt.U, Pt.locs, Pt.cells, Pt.slots] at X147 l147 y147 z147 st147 hQ147
  subst l147 y147 z147
  obtain ⟨rfl, Nq147, hh147⟩ := hQ147
  have N147 := Fr.app N0 Nq147
  refine Ends.step st147 ?_
  show Ends p e below QQ (T147.setTop (mkF m 10 #[.val (.ref o0), .val (.long q1), .second, .val (.int (17 : Int32)), .unset] [(.int (1 : Int32)), (.int (17 : Int32))]))
  refine Ends.step (fun _ k => XS.iadd X147.here hx rfl (hb hby d18_10) rfl k) ?_
  show Ends p e below QQ (T147.setTop (mkF m 11 #[.val (.ref o0), .val (.long q1), .second, .val (.int (17 : Int32)), .unset] [(.int (18 : Int32))]))
  refine Ends.step (fun _ k => XS.istore X147.here hx rfl (hb hby d18_11) rfl (l' := #[.val (.ref o0), .val (.long q1), .second, .val (.int (17 : Int32)), .val (.int (18 : Int32))]) rfl k) ?_
  show Ends p e below QQ (T147.setTop (mkF m 13 #[.val (.ref o0), .val (.long q1), .second, .val (.int (17 : Int32)), .val (.int (18 : Int32))] []))
  refine Ends.step (fun _ k => XS.aloadN X147.here hx rfl (hb hby d18_13) rfl rfl k) ?_
  show Ends p e below QQ (T147.setTop (mkF m 14 #[.val (.ref o0), .val (.long q1), .second, .val (.int (17 : Int32)), .val (.int (18 : Int32))] [(.ref o0)]))
  refine Ends.step (fun _ k => XS.iload X147.here hx rfl (hb hby d18_14) rfl k) ?_
  show Ends p e below QQ (T147.setTop (mkF m 16 #[.val (.ref o0), .val (.long q1), .second, .val (.int (17 : Int32)), .val (.int (18 : Int32))] [(.int (18 : Int32)), (.ref o0)]))
  obtain ⟨cq148, q148, q148'⟩ := E_o0.cell
  obtain ⟨_, _, ⟨T148, L148, k148, n148⟩, -, X148, ⟨Lc148, hQ148, l148, y148, z148⟩, st148⟩ := X147.privateBack hx (y := (⟨"java/lang/AbstractStringBuilder", "ensureCapacityInternal", "(I)V"⟩ : MethodName)) hown (mvT hZ (hw _ (List.mem_of_getElem? (i := 81) rfl))) (mvT hZ (hw _ (List.mem_of_getElem? (i := 82) rfl))) (mvT hZ (own_selq (y := (⟨"java/lang/AbstractStringBuilder", "ensureCapacityInternal", "(I)V"⟩ : MethodName)) (hw _ (List.mem_of_getElem? (i := 84) rfl)) rfl (hw _ (List.mem_of_getElem? (i := 83) rfl)) (hw _ (List.mem_of_getElem? (i := 82) rfl)) (by decide))) (Cond.privateMethod_at (mvP hZ (hw _ (List.mem_of_getElem? (i := 83) rfl)) (args := #[]))) (mvT hZ (hw _ (List.mem_of_getElem? (i := 85) rfl))) (by decide) (backOf (W := 0) (rmens18_34 l Z a0 hw [] o0 vb kb [(.int x0), (.int x1), (.int x2), (.int x3), (.int x4), (.int x5), (.int x6), (.int x7), (.int x8), (.int x9), (.int x10), (.int x11), (.int x12), (.int x13), (.int x14), (.int x15), (.int x16), (.int (0 : Int32)), (.int (0 : Int32)), (.int (0 : Int32)), (.int (0 : Int32)), (.int (0 : Int32)), (.int (0 : Int32)), (.int (0 : Int32)), (.int (0 : Int32)), (.int (0 : Int32)), (.int (0 : Int32)), (.int (0 : Int32)), (.int (0 : Int32)), (.int (0 : Int32)), (.int (0 : Int32)), (.int (0 : Int32)), (.int (0 : Int32)), (.int (0 : Int32))] h0 n0 (Nat.le_trans Z0 (Keep.refl h0 [o0, vb]).1) F_value_o0 F_coder_o0 A_vb) hZ (hw _ (List.mem_of_getElem? (i := 85) rfl)) (hw _ (List.mem_of_getElem? (i := 40) rfl)) (by decide) (by decide)) (g := (mkF m 16 #[.val (.ref o0), .val (.long q1), .second, .val (.int (17 : Int32)), .val (.int (18 : Int32))] [(.int (18 : Int32)), (.ref o0)])) rfl (by rw [hml]; rfl) (Steps.refl _) (a := o0) (by rw [hh147]; exact q148) q148' (argsL := [(.int (18 : Int32))]) (rest := []) (lenOf pd_5 rfl) rfl (by show 2 * 0 + _ ≤ _; exact Nat.le_of_eq rfl) (hb hby d18_16) (fun _ _ => ⟨rfl, hh147, (by decide : 0 + 0 ≤ _), (by decide : 0 + 0 ≤ _)⟩)
  dsimp only [Pt.U, Pt.locs, Pt.cells, Pt.slots] at X148 l148 y148 z148 st148 hQ148
  subst l148 y148 z148
  obtain ⟨rfl, Nq148, hh148⟩ := hQ148
  have N148 := Fr.app N147 Nq148
  refine Ends.step (fun _ k => st148.trans k) ?_
  show Ends p e below QQ (T148.setTop (mkF m 19 #[.val (.ref o0), .val (.long q1), .second, .val (.int (17 : Int32)), .val (.int (18 : Int32))] []))
  refine Ends.step (fun _ k => XS.aloadN X148.here hx rfl (hb hby d18_19) rfl rfl k) ?_
  show Ends p e below QQ (T148.setTop (mkF m 20 #[.val (.ref o0), .val (.long q1), .second, .val (.int (17 : Int32)), .val (.int (18 : Int32))] [(.ref o0)]))
  obtain ⟨cq149, kq149, q149a, q149b, q149c⟩ := isOf hZ hh148 E_o0
  obtain ⟨_, _, ⟨T149, L149, k149, n149⟩, -, X149, ⟨Lc149, hQ149, l149, y149, z149⟩, st149⟩ := X148.virtualBack hx (y := (⟨"java/lang/AbstractStringBuilder", "isLatin1", "()Z"⟩ : MethodName)) (z := (⟨"java/lang/AbstractStringBuilder", "isLatin1", "()Z"⟩ : MethodName)) hown (mvT hZ (hw _ (List.mem_of_getElem? (i := 122) rfl))) (mvT hZ (hw _ (List.mem_of_getElem? (i := 123) rfl))) (notFace_of_selects (args := #[]) (mvT hZ (hw _ (List.mem_of_getElem? (i := 125) rfl)))) (mvT hZ (hw _ (List.mem_of_getElem? (i := 125) rfl))) (mvT hZ (hw _ (List.mem_of_getElem? (i := 124) rfl))) (by decide) (backOf (W := 0) (rmasi l Z a0 hw [] o0 cs h0 n0 (Nat.le_trans Z0 (Keep.refl h0 [o0, vb]).1) S_COMPACT_STRINGS hcs F_coder_o0) hZ (hw _ (List.mem_of_getElem? (i := 126) rfl)) (hw _ (List.mem_of_getElem? (i := 40) rfl)) (by decide) (by decide)) q149a q149c (g := (mkF m 20 #[.val (.ref o0), .val (.long q1), .second, .val (.int (17 : Int32)), .val (.int (18 : Int32))] [(.ref o0)])) rfl (by rw [hml]; rfl) (Steps.refl _) (argsL := []) (rest := []) (lenOf pd_3 rfl) rfl (by show 2 * 0 + _ ≤ _; exact Nat.le_of_eq rfl) (hb hby d18_20) (fun _ _ => ⟨rfl, hh148, (by decide : 0 + 0 ≤ _), (by decide : 0 + 0 ≤ _)⟩)
  dsimp only [Pt.U, Pt.locs, Pt.cells, Pt.slots] at X149 l149 y149 z149 st149 hQ149
  subst l149 y149 z149
  obtain ⟨rfl, Nq149, hh149⟩ := hQ149
  have N149 := Fr.app N148 Nq149
  refine Ends.step (fun _ k => st149.trans k) ?_
  show Ends p e below QQ (T149.setTop (mkF m 23 #[.val (.ref o0), .val (.long q1), .second, .val (.int (17 : Int32)), .val (.int (18 : Int32))] [(.int (1 : Int32))]))
  refine Ends.step (fun _ k => XS.ifNo X149.here hx rfl (hb hby d18_23) rfl (XT.i0_eq_f (by decide)) k) ?_
  show Ends p e below QQ (T149.setTop (mkF m 26 #[.val (.ref o0), .val (.long q1), .second, .val (.int (17 : Int32)), .val (.int (18 : Int32))] []))
  refine Ends.step (fun _ k => XT.lloadN X149.here hx rfl (hb hby d18_26) rfl k) ?_
  show Ends p e below QQ (T149.setTop (mkF m 27 #[.val (.ref o0), .val (.long q1), .second, .val (.int (17 : Int32)), .val (.int (18 : Int32))] [(.long q1)]))
  refine Ends.step (fun _ k => XS.iload X149.here hx rfl (hb hby d18_27) rfl k) ?_
  show Ends p e below QQ (T149.setTop (mkF m 29 #[.val (.ref o0), .val (.long q1), .second, .val (.int (17 : Int32)), .val (.int (18 : Int32))] [(.int (18 : Int32)), (.long q1)]))
  refine Ends.step (fun _ k => XS.aloadN X149.here hx rfl (hb hby d18_29) rfl rfl k) ?_
  show Ends p e below QQ (T149.setTop (mkF m 30 #[.val (.ref o0), .val (.long q1), .second, .val (.int (17 : Int32)), .val (.int (18 : Int32))] [(.ref o0), (.int (18 : Int32)), (.long q1)]))
  obtain ⟨T150, X150, e150, st150⟩ := getF X149 hx hZ hown (host := "") (Or.inl (hw _ (List.mem_of_getElem? (i := 46) rfl))) Via.refl hh149 F_value_o0 (g := (mkF m 30 #[.val (.ref o0), .val (.long q1), .second, .val (.int (17 : Int32)), .val (.int (18 : Int32))] [(.ref o0), (.int (18 : Int32)), (.long q1)])) rfl rfl (hb hby d18_30)
  refine Ends.step st150 ?_
  show Ends p e below QQ (T150.setTop (mkF m 33 #[.val (.ref o0), .val (.long q1), .second, .val (.int (17 : Int32)), .val (.int (18 : Int32))] [(.ref vb), (.int (18 : Int32)), (.long q1)]))
  obtain ⟨_, _, ⟨T151, L151, k151, n151⟩, -, X151, ⟨Lc151, hQ151, l151, y151, z151⟩, st151⟩ := Jvm.LawKit.callS X150 hx (y := (⟨"java/lang/Long", "getChars", "(JI[B)I"⟩ : MethodName)) hown (mvT hZ (hw _ (List.mem_of_getElem? (i := 127) rfl))) (mvT hZ (hw _ (List.mem_of_getElem? (i := 128) rfl))) (mvT hZ (hw _ (List.mem_of_getElem? (i := 119) rfl))) (mvT hZ (hw _ (List.mem_of_getElem? (i := 129) rfl))) (by decide) (backOf (W := 0) (rmgc17 l Z a0 hw [] q1 vb kb a_D1 k_a_D1 x0 x1 x2 x3 x4 x5 x6 x7 x8 x9 x10 x11 x12 x13 x14 x15 x16 h0 n0 (Nat.le_trans Z0 (Keep.refl h0 [o0, vb]).1) A_vb g_vb (Ne.symm ne_a_D1_vb) A_a_D1 S_DigitOnes g1 g2) hZ (hw _ (List.mem_of_getElem? (i := 129) rfl)) (hw _ (List.mem_of_getElem? (i := 119) rfl)) (by decide) (by decide)) (g := (mkF m 33 #[.val (.ref o0), .val (.long q1), .second, .val (.int (17 : Int32)), .val (.int (18 : Int32))] [(.ref vb), (.int (18 : Int32)), (.long q1)])) rfl (by rw [hml]; rfl) (argsL := [(.long q1), (.int (18 : Int32)), (.ref vb)]) (rest := []) (lenOf pd_20 rfl) rfl (by show 2 * 0 + _ ≤ _; exact Nat.le_of_eq rfl) (hb hby d18_33) (fun _ _ => ⟨rfl, e150, (by decide : 0 + 0 ≤ _), (by decide : 0 + 0 ≤ _)⟩)
  dsimp only [Pt.U, Pt.locs, Pt.cells, Pt.slots] at X151 l151 y151 z151 st151 hQ151
  subst l151 y151 z151
  obtain ⟨rfl, Nq151, Kq151, fq151_0⟩ := hQ151
  have N151 := Fr.app N149 Nq151
  have S_COMPACT_STRINGS := own_sta_keep S_COMPACT_STRINGS Kq151 (allS E_vb.cell all0)
  have S_DigitOnes := own_sta_keep S_DigitOnes Kq151 (allS E_vb.cell all0)
  have E_o0 := E_o0.keep Kq151
  have F_value_o0 := F_value_o0.keep Kq151 (ninS ne_o0_vb nin0)
  have F_coder_o0 := F_coder_o0.keep Kq151 (ninS ne_o0_vb nin0)
  have F_count_o0 := F_count_o0.keep Kq151 (ninS ne_o0_vb nin0)
  have E_vb := E_vb.keep Kq151
  have A_a_D1 := A_a_D1.keep Kq151 (ninS ne_a_D1_vb nin0)
  have A_vb := fq151_0
  have K151 := (Keep.refl h0 [o0, vb]).trans Kq151 (allS (Or.inl (List.mem_of_getElem? (i := 1) rfl)) all0)
  refine Ends.step st151 ?_
  show Ends p e below QQ (T151.setTop (mkF m 36 #[.val (.ref o0), .val (.long q1), .second, .val (.int (17 : Int32)), .val (.int (18 : Int32))] [(.int (17 : Int32))]))
  refine Ends.step (fun _ k => XT.pop X151.here hx rfl (hb hby d18_36) rfl rfl k) ?_
  show Ends p e below QQ (T151.setTop (mkF m 37 #[.val (.ref o0), .val (.long q1), .second, .val (.int (17 : Int32)), .val (.int (18 : Int32))] []))
  refine Ends.step (fun _ k => XS.goto X151.here hx rfl (pc0 := 37) (pc' := 52) rfl (hb hby d18_37) (by decide) (by decide) k) ?_
  show Ends p e below QQ (T151.setTop (mkF m 52 #[.val (.ref o0), .val (.long q1), .second, .val (.int (17 : Int32)), .val (.int (18 : Int32))] []))
  refine Ends.step (fun _ k => XS.aloadN X151.here hx rfl (hb hby d18_52) rfl rfl k) ?_
  show Ends p e below QQ (T151.setTop (mkF m 53 #[.val (.ref o0), .val (.long q1), .second, .val (.int (17 : Int32)), .val (.int (18 : Int32))] [(.ref o0)]))
  refine Ends.step (fun _ k => XS.iload X151.here hx rfl (hb hby d18_53) rfl k) ?_
  show Ends p e below QQ (T151.setTop (mkF m 55 #[.val (.ref o0), .val (.long q1), .second, .val (.int (17 : Int32)), .val (.int (18 : Int32))] [(.int (18 : Int32)), (.ref o0)]))
  obtain ⟨T152, h152, X152, e152, W152, st152⟩ := putF X151 hx hZ hown (host := "") (Or.inl (hw _ (List.mem_of_getElem? (i := 79) rfl))) Via.refl rfl F_count_o0 E_o0 (Or.inl (hw _ (List.mem_of_getElem? (i := 80) rfl))) (hw _ (List.mem_of_getElem? (i := 31) rfl)) (ty := .int) (by decide) rfl rfl (g := (mkF m 55 #[.val (.ref o0), .val (.long q1), .second, .val (.int (17 : Int32)), .val (.int (18 : Int32))] [(.int (18 : Int32)), (.ref o0)])) rfl rfl (hb hby d18_55)
  have E_o0 := E_o0.wr W152
  have F_value_o0 := F_value_o0.other W152 (Or.inr (slot_ne (Or.inl (hw _ (List.mem_of_getElem? (i := 47) rfl))) (Or.inl (hw _ (List.mem_of_getElem? (i := 80) rfl))) (by decide) (t := (.array .byte)) (t' := .int) (by decide) (by decide)))
  have F_coder_o0 := F_coder_o0.other W152 (Or.inr (slot_ne (Or.inl (hw _ (List.mem_of_getElem? (i := 49) rfl))) (Or.inl (hw _ (List.mem_of_getElem? (i := 80) rfl))) (by decide) (t := .byte) (t' := .int) (by decide) (by decide)))
  have E_vb := E_vb.wr W152
  have A_vb := A_vb.other W152 (Ne.symm ne_o0_vb)
  have S_COMPACT_STRINGS := S_COMPACT_STRINGS.wr W152
  have S_DigitOnes := S_DigitOnes.wr W152
  have F_count_o0 : Fld Z h152 o0 "java/lang/AbstractStringBuilder" "count" "I" (.int (18 : Int32)) := F_count_o0.same W152
  have K152 := K151.wr W152 (Or.inl (List.mem_of_getElem? (i := 0) rfl))
  have N152 := Fr.snoc X152 N151 g_o0
  refine Ends.step st152 ?_
  show Ends p e below QQ (T152.setTop (mkF m 58 #[.val (.ref o0), .val (.long q1), .second, .val (.int (17 : Int32)), .val (.int (18 : Int32))] []))
  refine Ends.step (fun _ k => XS.aloadN X152.here hx rfl (hb hby d18_58) rfl rfl k) ?_
  show Ends p e below QQ (T152.setTop (mkF m 59 #[.val (.ref o0), .val (.long q1), .second, .val (.int (17 : Int32)), .val (.int (18 : Int32))] [(.ref o0)]))
  exact Ends.fin (some (.ref o0)) X152 hQQ (fun h => by rw [Bd.returns] at h; cases h) Bd.notSynchronized (fun _ hr => retOut X152 hx (t := (.object "java/lang/AbstractStringBuilder")) Bd.returns rfl (Or.inr (Or.inr (Or.inr (Or.inr ⟨rfl, rfl, rfl⟩)))) (hb hby d18_59) hr) e152 (by decide) (by decide) ⟨rfl, N152, K152, E_o0, F_value_o0, F_coder_o0, F_count_o0, E_vb, A_vb⟩
theorem ef_sj17 (m : MethodId) (x0 : Addr) (x1 : Int64) : entryFrame m #[(.ref x0), (.long x1)] 3 = mkF m 0 #[.val (.ref x0), .val (.long x1), .second] [] := by first | (simp [entryFrame, mkF, argsToLocals, Value.category]; done) | rfl
def Qsj17 (Z : State) (o0 : Addr) (q1 : Int64) (vb : Addr) (kb : ClassId) (cs : Int32) (a_D1 : Addr) (k_a_D1 : ClassId) (x0 : Int32) (x1 : Int32) (x2 : Int32) (x3 : Int32) (x4 : Int32) (x5 : Int32) (x6 : Int32) (x7 : Int32) (x8 : Int32) (x9 : Int32) (x10 : Int32) (x11 : Int32) (x12 : Int32) (x13 : Int32) (x14 : Int32) (x15 : Int32) (x16 : Int32) (h0 : Heap) (n0 : Nat) (v : Option Value) (h : Heap) (L : List Loc) : Prop := (v = some (.ref o0)) ∧ (Fr n0 L) ∧ (Keep h0 h [o0, vb]) ∧ (Exa Z h o0 "java/lang/StringBuilder") ∧ (Fld Z h o0 "java/lang/AbstractStringBuilder" "value" "[B" (.ref vb)) ∧ (Fld Z h o0 "java/lang/AbstractStringBuilder" "coder" "B" (.int (0 : Int32))) ∧ (Fld Z h o0 "java/lang/AbstractStringBuilder" "count" "I" (.int (18 : Int32))) ∧ (Exa Z h vb "[B") ∧ (Arv Z h vb kb .byte (34 : Int32) [(.int x0), (.int x1), (.int x2), (.int x3), (.int x4), (.int x5), (.int x6), (.int x7), (.int x8), (.int x9), (.int x10), (.int x11), (.int x12), (.int x13), (.int x14), (.int x15), (.int x16), (.int (own_dg ((q1).toInt))), (.int (0 : Int32)), (.int (0 : Int32)), (.int (0 : Int32)), (.int (0 : Int32)), (.int (0 : Int32)), (.int (0 : Int32)), (.int (0 : Int32)), (.int (0 : Int32)), (.int (0 : Int32)), (.int (0 : Int32)), (.int (0 : Int32)), (.int (0 : Int32)), (.int (0 : Int32)), (.int (0 : Int32)), (.int (0 : Int32)), (.int (0 : Int32))] (.int (0 : Int32)))
set_option maxRecDepth 65536 in
set_option maxHeartbeats 40000000 in
theorem rmsj17 (l : Launch) (Z : State) (a0 : Array Value) (hw : ∀ d ∈ tables_1, d.before a0 Z = true) (ws : List Jvm.Cond) (o0 : Addr) (q1 : Int64) (vb : Addr) (kb : ClassId) (cs : Int32) (a_D1 : Addr) (k_a_D1 : ClassId) (x0 : Int32) (x1 : Int32) (x2 : Int32) (x3 : Int32) (x4 : Int32) (x5 : Int32) (x6 : Int32) (x7 : Int32) (x8 : Int32) (x9 : Int32) (x10 : Int32) (x11 : Int32) (x12 : Int32) (x13 : Int32) (x14 : Int32) (x15 : Int32) (x16 : Int32) (h0 : Heap) (n0 : Nat) (Z0 : n0 ≤ h0.size) (E_o0 : Exa Z h0 o0 "java/lang/StringBuilder") (F_value_o0 : Fld Z h0 o0 "java/lang/AbstractStringBuilder" "value" "[B" (.ref vb)) (F_coder_o0 : Fld Z h0 o0 "java/lang/AbstractStringBuilder" "coder" "B" (.int (0 : Int32))) (F_count_o0 : Fld Z h0 o0 "java/lang/AbstractStringBuilder" "count" "I" (.int (17 : Int32))) (E_vb : Exa Z h0 vb "[B") (A_vb : Arv Z h0 vb kb .byte (34 : Int32) [(.int x0), (.int x1), (.int x2), (.int x3), (.int x4), (.int x5), (.int x6), (.int x7), (.int x8), (.int x9), (.int x10), (.int x11), (.int x12), (.int x13), (.int x14), (.int x15), (.int x16), (.int (0 : Int32)), (.int (0 : Int32)), (.int (0 : Int32)), (.int (0 : Int32)), (.int (0 : Int32)), (.int (0 : Int32)), (.int (0 : Int32)), (.int (0 : Int32)), (.int (0 : Int32)), (.int (0 : Int32)), (.int (0 : Int32)), (.int (0 : Int32)), (.int (0 : Int32)), (.int (0 : Int32)), (.int (0 : Int32)), (.int (0 : Int32)), (.int (0 : Int32))] (.int (0 : Int32))) (g_o0 : n0 ≤ o0) (g_vb : n0 ≤ vb) (ne_o0_vb : o0 ≠ vb) (S_COMPACT_STRINGS : Sta Z h0 "java/lang/String" "COMPACT_STRINGS" "Z" (.int cs)) (hcs : ¬ cs = (0 : Int32)) (A_a_D1 : Arv Z h0 a_D1 k_a_D1 .byte (100 : Int32) own_ones (.int (0 : Int32))) (S_DigitOnes : Sta Z h0 "java/lang/Integer" "DigitOnes" "[B" (.ref a_D1)) (ne_a_D1_vb : a_D1 ≠ vb) (g1 : (q1).toInt < 10) (g2 : 0 ≤ (q1).toInt) :
    MetFree l (⟨"java/lang/StringBuilder", "append", "(J)Ljava/lang/StringBuilder;"⟩ : MethodName) (head1 (Jvm.Cond.code (⟨"java/lang/StringBuilder", "append", "(J)Ljava/lang/StringBuilder;"⟩ : MethodName) jdk_67_method_16_code 3 (some (.object "java/lang/StringBuilder")) :: ws) ({ frames := 2, cells := 0, slots := 0, locals := 38 } : Room)) (fun a U => a = #[(.ref o0), (.long q1)] ∧ Z.Warmed39 U.vm ∧ U.heap = h0) (fun _ _ _ _ _ => True) (fun _ U o U' => ∃ v L, o = .returned v ∧ Qsj17 Z o0 q1 vb kb cs a_D1 k_a_D1 x0 x1 x2 x3 x4 x5 x6 x7 x8 x9 x10 x11 x12 x13 x14 x15 x16 h0 n0 v U'.heap L ∧ FrameEnd U o U' L ({ frames := 2, cells := 0, slots := 0, locals := 38 } : Room).cells ({ frames := 2, cells := 0, slots := 0, locals := 38 } : Room).slots) := by
  refine MetFree.of_bodySF (plainFor_of_name pn_4) hisR ?_
  intro p e s m args below meth c s₁ Bd hml0 hP hK
  obtain ⟨rfl, hZ, hh⟩ := hP
  have hx := Bd.exec
  have hby := Bd.bytes
  have hml : c.maxLocals = 3 := hml0
  have hown : s.vm.findClass "java/lang/StringBuilder" = some m.cls := findClass_of_methodNamed Bd.named
  have hnm := (name_of_methodNamed Bd.named Bd.method).1
  have X0 : Stand p l e ({ frames := 2, cells := 0, slots := 0, locals := 38 } : Room) s m #[(.ref o0), (.long q1)] below meth c s₁ [] 0 0 := Stand.of_body Bd
  have e0 : s₁.heap = h0 := by rw [← hh, Bd.state]; rfl
  have N0 := Fr.nil n0
  refine Ends.opn ?_
  intro QQ hQQ
  refine Ends.step (S' := s₁.setTop (mkF m 0 #[.val (.ref o0), .val (.long q1), .second] [])) (fun t k => castTop (ef_sj17 m o0 q1) k) ?_
  show Ends p e below QQ (s₁.setTop (mkF m 0 #[.val (.ref o0), .val (.long q1), .second] []))
  refine Ends.step (fun _ k => XS.aloadN X0.here hx rfl (hb hby d17_0) rfl rfl k) ?_
  show Ends p e below QQ (s₁.setTop (mkF m 1 #[.val (.ref o0), .val (.long q1), .second] [(.ref o0)]))
  refine Ends.step (fun _ k => XT.lloadN X0.here hx rfl (hb hby d17_1) rfl k) ?_
  show Ends p e below QQ (s₁.setTop (mkF m 2 #[.val (.ref o0), .val (.long q1), .second] [(.long q1), (.ref o0)]))
  obtain ⟨_, _, ⟨T153, L153, k153, n153⟩, -, X153, ⟨Lc153, hQ153, l153, y153, z153⟩, st153⟩ := superBack X0 hx hZ (y := (⟨"java/lang/AbstractStringBuilder", "append", "(J)Ljava/lang/AbstractStringBuilder;"⟩ : MethodName)) hown (hw _ (List.mem_of_getElem? (i := 113) rfl)) (own_same (hw _ (List.mem_of_getElem? (i := 114) rfl)) (by decide) (hw _ (List.mem_of_getElem? (i := 84) rfl)) rfl) (hw _ (List.mem_of_getElem? (i := 114) rfl)) (hw _ (List.mem_of_getElem? (i := 63) rfl)) (by decide) (backOf (W := 0) (rmaj17 l Z a0 hw [] o0 q1 vb kb cs a_D1 k_a_D1 x0 x1 x2 x3 x4 x5 x6 x7 x8 x9 x10 x11 x12 x13 x14 x15 x16 h0 n0 (Nat.le_trans Z0 (Keep.refl h0 [o0, vb]).1) E_o0 F_value_o0 F_coder_o0 F_count_o0 E_vb A_vb g_o0 g_vb ne_o0_vb S_COMPACT_STRINGS hcs A_a_D1 S_DigitOnes ne_a_D1_vb g1 g2) hZ (hw _ (List.mem_of_getElem? (i := 116) rfl)) (hw _ (List.mem_of_getElem? (i := 40) rfl)) (by decide) (by decide)) e0 (Ins.self E_o0) (g := (mkF m 2 #[.val (.ref o0), .val (.long q1), .second] [(.long q1), (.ref o0)])) rfl (by rw [hml]; rfl) (hw _ (List.mem_of_getElem? (i := 116) rfl)) (argsL := [(.long q1)]) (rest := []) (lenOf pd_21 rfl) rfl (by show 2 * 0 + _ ≤ _; exact Nat.le_of_eq rfl) (hb hby d17_2) (fun _ _ => ⟨rfl, e0, (by decide : 0 + 0 ≤ _), (by decide : 0 + 0 ≤ _)⟩)
  dsimp only [Pt.U, Pt.locs, Pt.cells, Pt.slots] at X153 l153 y153 z153 st153 hQ153
  subst l153 y153 z153
  obtain ⟨rfl, Nq153, Kq153, fq153_0, fq153_1, fq153_2, fq153_3, fq153_4, fq153_5⟩ := hQ153
  have N153 := Fr.app N0 Nq153
  have S_COMPACT_STRINGS := own_sta_keep S_COMPACT_STRINGS Kq153 (allS E_o0.cell (allS E_vb.cell all0))
  have S_DigitOnes := own_sta_keep S_DigitOnes Kq153 (allS E_o0.cell (allS E_vb.cell all0))
  have E_o0 := fq153_0
  have F_value_o0 := fq153_1
  have F_coder_o0 := fq153_2
  have F_count_o0 := fq153_3
  have E_vb := fq153_4
  have A_vb := fq153_5
  have K153 := (Keep.refl h0 [o0, vb]).trans Kq153 (allS (Or.inl (List.mem_of_getElem? (i := 0) rfl)) (allS (Or.inl (List.mem_of_getElem? (i := 1) rfl)) all0))
  refine Ends.step (fun _ k => st153.trans k) ?_
  show Ends p e below QQ (T153.setTop (mkF m 5 #[.val (.ref o0), .val (.long q1), .second] [(.ref o0)]))
  refine Ends.step (fun _ k => XT.pop X153.here hx rfl (hb hby d17_5) rfl rfl k) ?_
  show Ends p e below QQ (T153.setTop (mkF m 6 #[.val (.ref o0), .val (.long q1), .second] []))
  refine Ends.step (fun _ k => XS.aloadN X153.here hx rfl (hb hby d17_6) rfl rfl k) ?_
  show Ends p e below QQ (T153.setTop (mkF m 7 #[.val (.ref o0), .val (.long q1), .second] [(.ref o0)]))
  exact Ends.fin (some (.ref o0)) X153 hQQ (fun h => by rw [Bd.returns] at h; cases h) Bd.notSynchronized (fun _ hr => retOut X153 hx (t := (.object "java/lang/StringBuilder")) Bd.returns rfl (Or.inr (Or.inr (Or.inr (Or.inr ⟨rfl, rfl, rfl⟩)))) (hb hby d17_7) hr) rfl (by decide) (by decide) ⟨rfl, N153, K153, E_o0, F_value_o0, F_coder_o0, F_count_o0, E_vb, A_vb⟩
theorem ef_gc26 (m : MethodId) (x0 : Int64) (x2 : Addr) : entryFrame m #[(.long x0), (.int (27 : Int32)), (.ref x2)] 11 = mkF m 0 #[.val (.long x0), .second, .val (.int (27 : Int32)), .val (.ref x2), .unset, .unset, .unset, .unset, .unset, .unset, .unset] [] := by first | (simp [entryFrame, mkF, argsToLocals, Value.category]; done) | rfl
def Qgc26 (Z : State) (q0 : Int64) (o2 : Addr) (kb : ClassId) (a_D1 : Addr) (k_a_D1 : ClassId) (x0 : Int32) (x1 : Int32) (x2 : Int32) (x3 : Int32) (x4 : Int32) (x5 : Int32) (x6 : Int32) (x7 : Int32) (x8 : Int32) (x9 : Int32) (x10 : Int32) (x11 : Int32) (x12 : Int32) (x13 : Int32) (x14 : Int32) (x15 : Int32) (x16 : Int32) (x17 : Int32) (x18 : Int32) (x19 : Int32) (x20 : Int32) (x21 : Int32) (x22 : Int32) (x23 : Int32) (x24 : Int32) (x25 : Int32) (h0 : Heap) (n0 : Nat) (v : Option Value) (h : Heap) (L : List Loc) : Prop := (v = some (.int (26 : Int32))) ∧ (Fr n0 L) ∧ (Keep h0 h [o2]) ∧ (Arv Z h o2 kb .byte (34 : Int32) [(.int x0), (.int x1), (.int x2), (.int x3), (.int x4), (.int x5), (.int x6), (.int x7), (.int x8), (.int x9), (.int x10), (.int x11), (.int x12), (.int x13), (.int x14), (.int x15), (.int x16), (.int x17), (.int x18), (.int x19), (.int x20), (.int x21), (.int x22), (.int x23), (.int x24), (.int x25), (.int (own_dg ((q0).toInt))), (.int (0 : Int32)), (.int (0 : Int32)), (.int (0 : Int32)), (.int (0 : Int32)), (.int (0 : Int32)), (.int (0 : Int32)), (.int (0 : Int32))] (.int (0 : Int32)))
set_option maxRecDepth 65536 in
set_option maxHeartbeats 40000000 in
theorem rmgc26 (l : Launch) (Z : State) (a0 : Array Value) (hw : ∀ d ∈ tables_1, d.before a0 Z = true) (ws : List Jvm.Cond) (q0 : Int64) (o2 : Addr) (kb : ClassId) (a_D1 : Addr) (k_a_D1 : ClassId) (x0 : Int32) (x1 : Int32) (x2 : Int32) (x3 : Int32) (x4 : Int32) (x5 : Int32) (x6 : Int32) (x7 : Int32) (x8 : Int32) (x9 : Int32) (x10 : Int32) (x11 : Int32) (x12 : Int32) (x13 : Int32) (x14 : Int32) (x15 : Int32) (x16 : Int32) (x17 : Int32) (x18 : Int32) (x19 : Int32) (x20 : Int32) (x21 : Int32) (x22 : Int32) (x23 : Int32) (x24 : Int32) (x25 : Int32) (h0 : Heap) (n0 : Nat) (Z0 : n0 ≤ h0.size) (A_o2 : Arv Z h0 o2 kb .byte (34 : Int32) [(.int x0), (.int x1), (.int x2), (.int x3), (.int x4), (.int x5), (.int x6), (.int x7), (.int x8), (.int x9), (.int x10), (.int x11), (.int x12), (.int x13), (.int x14), (.int x15), (.int x16), (.int x17), (.int x18), (.int x19), (.int x20), (.int x21), (.int x22), (.int x23), (.int x24), (.int x25), (.int (0 : Int32)), (.int (0 : Int32)), (.int (0 : Int32)), (.int (0 : Int32)), (.int (0 : Int32)), (.int (0 : Int32)), (.int (0 : Int32)), (.int (0 : Int32))] (.int (0 : Int32))) (g_o2 : n0 ≤ o2) (ne_o2_a_D1 : o2 ≠ a_D1) (A_a_D1 : Arv Z h0 a_D1 k_a_D1 .byte (100 : Int32) own_ones (.int (0 : Int32))) (S_DigitOnes : Sta Z h0 "java/lang/Integer" "DigitOnes" "[B" (.ref a_D1)) (g1 : (q0).toInt < 10) (g2 : 0 ≤ (q0).toInt) :
    MetFree l (⟨"java/lang/Long", "getChars", "(JI[B)I"⟩ : MethodName) (head1 (Jvm.Cond.code (⟨"java/lang/Long", "getChars", "(JI[B)I"⟩ : MethodName) jdk_35_method_14_code 11 (some .int) :: ws) ({ frames := 0, cells := 0, slots := 0, locals := 0 } : Room)) (fun a U => a = #[(.long q0), (.int (27 : Int32)), (.ref o2)] ∧ Z.Warmed39 U.vm ∧ U.heap = h0) (fun _ _ _ _ _ => True) (fun _ U o U' => ∃ v L, o = .returned v ∧ Qgc26 Z q0 o2 kb a_D1 k_a_D1 x0 x1 x2 x3 x4 x5 x6 x7 x8 x9 x10 x11 x12 x13 x14 x15 x16 x17 x18 x19 x20 x21 x22 x23 x24 x25 h0 n0 v U'.heap L ∧ FrameEnd U o U' L ({ frames := 0, cells := 0, slots := 0, locals := 0 } : Room).cells ({ frames := 0, cells := 0, slots := 0, locals := 0 } : Room).slots) := by
  refine MetFree.of_bodySF (plainFor_of_name pn_7) hisR ?_
  intro p e s m args below meth c s₁ Bd hml0 hP hK
  obtain ⟨rfl, hZ, hh⟩ := hP
  have hx := Bd.exec
  have hby := Bd.bytes
  have hml : c.maxLocals = 11 := hml0
  have hown : s.vm.findClass "java/lang/Long" = some m.cls := findClass_of_methodNamed Bd.named
  have hnm := (name_of_methodNamed Bd.named Bd.method).1
  have X0 : Stand p l e ({ frames := 0, cells := 0, slots := 0, locals := 0 } : Room) s m #[(.long q0), (.int (27 : Int32)), (.ref o2)] below meth c s₁ [] 0 0 := Stand.of_body Bd
  have e0 : s₁.heap = h0 := by rw [← hh, Bd.state]; rfl
  have N0 := Fr.nil n0
  refine Ends.opn ?_
  intro QQ hQQ
  refine Ends.step (S' := s₁.setTop (mkF m 0 #[.val (.long q0), .second, .val (.int (27 : Int32)), .val (.ref o2), .unset, .unset, .unset, .unset, .unset, .unset, .unset] [])) (fun t k => castTop (ef_gc26 m q0 o2) k) ?_
  show Ends p e below QQ (s₁.setTop (mkF m 0 #[.val (.long q0), .second, .val (.int (27 : Int32)), .val (.ref o2), .unset, .unset, .unset, .unset, .unset, .unset, .unset] []))
  refine Ends.step (fun _ k => XS.iloadN X0.here hx rfl (hb hby d21_0) rfl k) ?_
  show Ends p e below QQ (s₁.setTop (mkF m 1 #[.val (.long q0), .second, .val (.int (27 : Int32)), .val (.ref o2), .unset, .unset, .unset, .unset, .unset, .unset, .unset] [(.int (27 : Int32))]))
  refine Ends.step (fun _ k => XS.istore X0.here hx rfl (hb hby d21_1) rfl (l' := #[.val (.long q0), .second, .val (.int (27 : Int32)), .val (.ref o2), .unset, .unset, .unset, .val (.int (27 : Int32)), .unset, .unset, .unset]) rfl k) ?_
  show Ends p e below QQ (s₁.setTop (mkF m 3 #[.val (.long q0), .second, .val (.int (27 : Int32)), .val (.ref o2), .unset, .unset, .unset, .val (.int (27 : Int32)), .unset, .unset, .unset] []))
  refine Ends.step (fun _ k => XT.lloadN X0.here hx rfl (hb hby d21_3) rfl k) ?_
  show Ends p e below QQ (s₁.setTop (mkF m 4 #[.val (.long q0), .second, .val (.int (27 : Int32)), .val (.ref o2), .unset, .unset, .unset, .val (.int (27 : Int32)), .unset, .unset, .unset] [(.long q0)]))
  refine Ends.step (fun _ k => XT.lconstV X0.here hx rfl (0 : Int64) (hb hby d21_4) rfl k) ?_
  show Ends p e below QQ (s₁.setTop (mkF m 5 #[.val (.long q0), .second, .val (.int (27 : Int32)), .val (.ref o2), .unset, .unset, .unset, .val (.int (27 : Int32)), .unset, .unset, .unset] [(.long (0 : Int64)), (.long q0)]))
  refine Ends.step (fun _ k => XT.lcmp X0.here hx rfl (hb hby d21_5) rfl k) ?_
  show Ends p e below QQ (s₁.setTop (mkF m 6 #[.val (.long q0), .second, .val (.int (27 : Int32)), .val (.ref o2), .unset, .unset, .unset, .val (.int (27 : Int32)), .unset, .unset, .unset] [(.int (XT.cmpL q0 (0 : Int64)))]))
  have hc6 : ¬ (q0 < (0 : Int64)) := (own_ge0 (by omega))
  refine Ends.step (fun _ k => XS.ifYes X0.here hx rfl (pc0 := 6) (pc' := 13) rfl (hb hby d21_6) rfl (XT.ll_ge_t hc6) (by decide) (by decide) k) ?_
  show Ends p e below QQ (s₁.setTop (mkF m 13 #[.val (.long q0), .second, .val (.int (27 : Int32)), .val (.ref o2), .unset, .unset, .unset, .val (.int (27 : Int32)), .unset, .unset, .unset] []))
  refine Ends.step (fun _ k => XT.iconstV X0.here hx rfl (0 : Int32) (hb hby d21_13) rfl k) ?_
  show Ends p e below QQ (s₁.setTop (mkF m 14 #[.val (.long q0), .second, .val (.int (27 : Int32)), .val (.ref o2), .unset, .unset, .unset, .val (.int (27 : Int32)), .unset, .unset, .unset] [(.int (0 : Int32))]))
  refine Ends.step (fun _ k => XS.istore X0.here hx rfl (hb hby d21_14) rfl (l' := #[.val (.long q0), .second, .val (.int (27 : Int32)), .val (.ref o2), .unset, .unset, .unset, .val (.int (27 : Int32)), .val (.int (0 : Int32)), .unset, .unset]) rfl k) ?_
  show Ends p e below QQ (s₁.setTop (mkF m 16 #[.val (.long q0), .second, .val (.int (27 : Int32)), .val (.ref o2), .unset, .unset, .unset, .val (.int (27 : Int32)), .val (.int (0 : Int32)), .unset, .unset] []))
  refine Ends.step (fun _ k => XS.iload X0.here hx rfl (hb hby d21_16) rfl k) ?_
  show Ends p e below QQ (s₁.setTop (mkF m 18 #[.val (.long q0), .second, .val (.int (27 : Int32)), .val (.ref o2), .unset, .unset, .unset, .val (.int (27 : Int32)), .val (.int (0 : Int32)), .unset, .unset] [(.int (0 : Int32))]))
  refine Ends.step (fun _ k => XS.ifNo X0.here hx rfl (hb hby d21_18) rfl (XT.i0_ne_f (by decide)) k) ?_
  show Ends p e below QQ (s₁.setTop (mkF m 21 #[.val (.long q0), .second, .val (.int (27 : Int32)), .val (.ref o2), .unset, .unset, .unset, .val (.int (27 : Int32)), .val (.int (0 : Int32)), .unset, .unset] []))
  refine Ends.step (fun _ k => XT.lloadN X0.here hx rfl (hb hby d21_21) rfl k) ?_
  show Ends p e below QQ (s₁.setTop (mkF m 22 #[.val (.long q0), .second, .val (.int (27 : Int32)), .val (.ref o2), .unset, .unset, .unset, .val (.int (27 : Int32)), .val (.int (0 : Int32)), .unset, .unset] [(.long q0)]))
  refine Ends.step (fun _ k => XT.lneg X0.here hx rfl (hb hby d21_22) rfl k) ?_
  show Ends p e below QQ (s₁.setTop (mkF m 23 #[.val (.long q0), .second, .val (.int (27 : Int32)), .val (.ref o2), .unset, .unset, .unset, .val (.int (27 : Int32)), .val (.int (0 : Int32)), .unset, .unset] [(.long (-q0))]))
  refine Ends.step (fun _ k => XT.lstoreN X0.here hx rfl (hb hby d21_23) rfl (l' := #[.val (.long (-q0)), .second, .val (.int (27 : Int32)), .val (.ref o2), .unset, .unset, .unset, .val (.int (27 : Int32)), .val (.int (0 : Int32)), .unset, .unset]) rfl k) ?_
  show Ends p e below QQ (s₁.setTop (mkF m 24 #[.val (.long (-q0)), .second, .val (.int (27 : Int32)), .val (.ref o2), .unset, .unset, .unset, .val (.int (27 : Int32)), .val (.int (0 : Int32)), .unset, .unset] []))
  refine Ends.step (fun _ k => XT.lloadN X0.here hx rfl (hb hby d21_24) rfl k) ?_
  show Ends p e below QQ (s₁.setTop (mkF m 25 #[.val (.long (-q0)), .second, .val (.int (27 : Int32)), .val (.ref o2), .unset, .unset, .unset, .val (.int (27 : Int32)), .val (.int (0 : Int32)), .unset, .unset] [(.long (-q0))]))
  refine Ends.step (fun _ k => X0.ldc2J hx hown (mvT hZ (hw _ (List.mem_of_getElem? (i := 130) rfl))) (g := (mkF m 25 #[.val (.long (-q0)), .second, .val (.int (27 : Int32)), .val (.ref o2), .unset, .unset, .unset, .val (.int (27 : Int32)), .val (.int (0 : Int32)), .unset, .unset] [(.long (-q0))])) rfl (hb hby d21_25) k) ?_
  show Ends p e below QQ (s₁.setTop (mkF m 28 #[.val (.long (-q0)), .second, .val (.int (27 : Int32)), .val (.ref o2), .unset, .unset, .unset, .val (.int (27 : Int32)), .val (.int (0 : Int32)), .unset, .unset] [(.long (-2147483648 : Int64)), (.long (-q0))]))
  refine Ends.step (fun _ k => XT.lcmp X0.here hx rfl (hb hby d21_28) rfl k) ?_
  show Ends p e below QQ (s₁.setTop (mkF m 29 #[.val (.long (-q0)), .second, .val (.int (27 : Int32)), .val (.ref o2), .unset, .unset, .unset, .val (.int (27 : Int32)), .val (.int (0 : Int32)), .unset, .unset] [(.int (XT.cmpL (-q0) (-2147483648 : Int64)))]))
  have hc29 : (-2147483648 : Int64) < (-q0) := (own_ng (P := 2147483648) (by decide) (by omega) (by omega))
  refine Ends.step (fun _ k => XS.ifYes X0.here hx rfl (pc0 := 29) (pc' := 82) rfl (hb hby d21_29) rfl (XT.ll_gt_t hc29) (by decide) (by decide) k) ?_
  show Ends p e below QQ (s₁.setTop (mkF m 82 #[.val (.long (-q0)), .second, .val (.int (27 : Int32)), .val (.ref o2), .unset, .unset, .unset, .val (.int (27 : Int32)), .val (.int (0 : Int32)), .unset, .unset] []))
  refine Ends.step (fun _ k => XT.lloadN X0.here hx rfl (hb hby d21_82) rfl k) ?_
  show Ends p e below QQ (s₁.setTop (mkF m 83 #[.val (.long (-q0)), .second, .val (.int (27 : Int32)), .val (.ref o2), .unset, .unset, .unset, .val (.int (27 : Int32)), .val (.int (0 : Int32)), .unset, .unset] [(.long (-q0))]))
  refine Ends.step (fun _ k => XT.l2i X0.here hx rfl (hb hby d21_83) rfl k) ?_
  show Ends p e below QQ (s₁.setTop (mkF m 84 #[.val (.long (-q0)), .second, .val (.int (27 : Int32)), .val (.ref o2), .unset, .unset, .unset, .val (.int (27 : Int32)), .val (.int (0 : Int32)), .unset, .unset] [(.int (-q0).toInt32)]))
  refine Ends.step (fun _ k => XS.istore X0.here hx rfl (hb hby d21_84) rfl (l' := #[.val (.long (-q0)), .second, .val (.int (27 : Int32)), .val (.ref o2), .unset, .unset, .unset, .val (.int (27 : Int32)), .val (.int (0 : Int32)), .unset, .val (.int (-q0).toInt32)]) rfl k) ?_
  show Ends p e below QQ (s₁.setTop (mkF m 86 #[.val (.long (-q0)), .second, .val (.int (27 : Int32)), .val (.ref o2), .unset, .unset, .unset, .val (.int (27 : Int32)), .val (.int (0 : Int32)), .unset, .val (.int (-q0).toInt32)] []))
  generalize hv10_1 : (-q0).toInt32 = x10_1
  have hI0 : x10_1.toInt = -((q0).toInt) := by rw [← hv10_1]; exact own_i0 (by omega) (by omega)
  show Ends p e below QQ (s₁.setTop (mkF m 86 #[.val (.long (-q0)), .second, .val (.int (27 : Int32)), .val (.ref o2), .unset, .unset, .unset, .val (.int (27 : Int32)), .val (.int (0 : Int32)), .unset, .val (.int x10_1)] []))
  refine Ends.step (fun _ k => XS.iload X0.here hx rfl (hb hby d21_86) rfl k) ?_
  show Ends p e below QQ (s₁.setTop (mkF m 88 #[.val (.long (-q0)), .second, .val (.int (27 : Int32)), .val (.ref o2), .unset, .unset, .unset, .val (.int (27 : Int32)), .val (.int (0 : Int32)), .unset, .val (.int x10_1)] [(.int x10_1)]))
  refine Ends.step (fun _ k => XT.bipushV X0.here hx rfl (-100 : Int32) (hb hby d21_88) rfl k) ?_
  show Ends p e below QQ (s₁.setTop (mkF m 90 #[.val (.long (-q0)), .second, .val (.int (27 : Int32)), .val (.ref o2), .unset, .unset, .unset, .val (.int (27 : Int32)), .val (.int (0 : Int32)), .unset, .val (.int x10_1)] [(.int (-100 : Int32)), (.int x10_1)]))
  have hc90 : (-100 : Int32) < x10_1 := (own_exit hI0 (by omega))
  refine Ends.step (fun _ k => XS.icmpYes X0.here hx rfl (pc0 := 90) (pc' := 143) rfl (hb hby d21_90) rfl (XT.ii_gt_t hc90) (by decide) (by decide) k) ?_
  show Ends p e below QQ (s₁.setTop (mkF m 143 #[.val (.long (-q0)), .second, .val (.int (27 : Int32)), .val (.ref o2), .unset, .unset, .unset, .val (.int (27 : Int32)), .val (.int (0 : Int32)), .unset, .val (.int x10_1)] []))
  refine Ends.step (fun _ k => XS.aloadN X0.here hx rfl (hb hby d21_143) rfl rfl k) ?_
  show Ends p e below QQ (s₁.setTop (mkF m 144 #[.val (.long (-q0)), .second, .val (.int (27 : Int32)), .val (.ref o2), .unset, .unset, .unset, .val (.int (27 : Int32)), .val (.int (0 : Int32)), .unset, .val (.int x10_1)] [(.ref o2)]))
  refine Ends.step (fun _ k => XT.iincV X0.here hx rfl (-1 : Int32) (hb hby d21_144) rfl rfl (l' := #[.val (.long (-q0)), .second, .val (.int (27 : Int32)), .val (.ref o2), .unset, .unset, .unset, .val (.int (26 : Int32)), .val (.int (0 : Int32)), .unset, .val (.int x10_1)]) rfl k) ?_
  show Ends p e below QQ (s₁.setTop (mkF m 147 #[.val (.long (-q0)), .second, .val (.int (27 : Int32)), .val (.ref o2), .unset, .unset, .unset, .val (.int (26 : Int32)), .val (.int (0 : Int32)), .unset, .val (.int x10_1)] [(.ref o2)]))
  refine Ends.step (fun _ k => XS.iload X0.here hx rfl (hb hby d21_147) rfl k) ?_
  show Ends p e below QQ (s₁.setTop (mkF m 149 #[.val (.long (-q0)), .second, .val (.int (27 : Int32)), .val (.ref o2), .unset, .unset, .unset, .val (.int (26 : Int32)), .val (.int (0 : Int32)), .unset, .val (.int x10_1)] [(.int (26 : Int32)), (.ref o2)]))
  obtain ⟨T154, X154, e154, st154⟩ := getS2 X0 hx hZ hown (host := "") (Or.inl (hw _ (List.mem_of_getElem? (i := 131) rfl))) Via.refl e0 S_DigitOnes (g := (mkF m 149 #[.val (.long (-q0)), .second, .val (.int (27 : Int32)), .val (.ref o2), .unset, .unset, .unset, .val (.int (26 : Int32)), .val (.int (0 : Int32)), .unset, .val (.int x10_1)] [(.int (26 : Int32)), (.ref o2)])) rfl (hb hby d21_149)
  refine Ends.step st154 ?_
  show Ends p e below QQ (T154.setTop (mkF m 152 #[.val (.long (-q0)), .second, .val (.int (27 : Int32)), .val (.ref o2), .unset, .unset, .unset, .val (.int (26 : Int32)), .val (.int (0 : Int32)), .unset, .val (.int x10_1)] [(.ref a_D1), (.int (26 : Int32)), (.ref o2)]))
  refine Ends.step (fun _ k => XS.iload X154.here hx rfl (hb hby d21_152) rfl k) ?_
  show Ends p e below QQ (T154.setTop (mkF m 154 #[.val (.long (-q0)), .second, .val (.int (27 : Int32)), .val (.ref o2), .unset, .unset, .unset, .val (.int (26 : Int32)), .val (.int (0 : Int32)), .unset, .val (.int x10_1)] [(.int x10_1), (.ref a_D1), (.int (26 : Int32)), (.ref o2)]))
  refine Ends.step (fun _ k => XS.ineg X154.here hx rfl (hb hby d21_154) rfl k) ?_
  show Ends p e below QQ (T154.setTop (mkF m 155 #[.val (.long (-q0)), .second, .val (.int (27 : Int32)), .val (.ref o2), .unset, .unset, .unset, .val (.int (26 : Int32)), .val (.int (0 : Int32)), .unset, .val (.int x10_1)] [(.int (-x10_1)), (.ref a_D1), (.int (26 : Int32)), (.ref o2)]))
  have hr0 : ((-x10_1)).toInt = ((q0).toInt) % 100 := own_nr hI0 (by omega) (by omega)
  obtain ⟨cl155, Ar155, q155, S155, P155, H155, G155⟩ := id A_a_D1
  have hin155 : ¬ ((-x10_1) < 0 ∨ cl155.slots.size ≤ ((-x10_1)).toNatClampNeg) := inb_of S155 (own_in hr0)
  have hat155 : cl155.slots[((-x10_1)).toNatClampNeg]? = some (.int (own_dg ((q0).toInt))) := H155.at hin155 (own_oneat hr0)
  refine Ends.step (fun _ k => X154.baloadBytes hx (j := (-x10_1)) (v := (.int (own_dg ((q0).toInt)))) (by rw [e154]; exact Ar155.1) (State.isArrayOf_alike hZ.alike Ar155.2.1) Ar155.2.2 hin155 hat155 (g := (mkF m 155 #[.val (.long (-q0)), .second, .val (.int (27 : Int32)), .val (.ref o2), .unset, .unset, .unset, .val (.int (26 : Int32)), .val (.int (0 : Int32)), .unset, .val (.int x10_1)] [(.int (-x10_1)), (.ref a_D1), (.int (26 : Int32)), (.ref o2)])) rfl rfl (hb hby d21_155) _ k) ?_
  show Ends p e below QQ (T154.setTop (mkF m 156 #[.val (.long (-q0)), .second, .val (.int (27 : Int32)), .val (.ref o2), .unset, .unset, .unset, .val (.int (26 : Int32)), .val (.int (0 : Int32)), .unset, .val (.int x10_1)] [(.int (own_dg ((q0).toInt))), (.int (26 : Int32)), (.ref o2)]))
  obtain ⟨cl156, Ar156, q156, S156, P156, H156, G156⟩ := id A_o2
  have hin156 : ¬ ((26 : Int32) < 0 ∨ cl156.slots.size ≤ ((26 : Int32)).toNatClampNeg) := inb_of S156 ⟨by decide, by decide⟩
  obtain ⟨T157, h157, X157, e157, W157, st157⟩ := stB X154 hx hZ e154 Ar156 (j := (26 : Int32)) hin156 (g := (mkF m 156 #[.val (.long (-q0)), .second, .val (.int (27 : Int32)), .val (.ref o2), .unset, .unset, .unset, .val (.int (26 : Int32)), .val (.int (0 : Int32)), .unset, .val (.int x10_1)] [(.int (own_dg ((q0).toInt))), (.int (26 : Int32)), (.ref o2)])) rfl rfl (hb hby d21_156)
  rw [own_nardg] at W157
  have A_a_D1 := A_a_D1.other W157 (Ne.symm ne_o2_a_D1)
  have S_DigitOnes := S_DigitOnes.wr W157
  have A_o2 : Arv Z h157 o2 kb .byte (34 : Int32) [(.int x0), (.int x1), (.int x2), (.int x3), (.int x4), (.int x5), (.int x6), (.int x7), (.int x8), (.int x9), (.int x10), (.int x11), (.int x12), (.int x13), (.int x14), (.int x15), (.int x16), (.int x17), (.int x18), (.int x19), (.int x20), (.int x21), (.int x22), (.int x23), (.int x24), (.int x25), (.int (own_dg ((q0).toInt))), (.int (0 : Int32)), (.int (0 : Int32)), (.int (0 : Int32)), (.int (0 : Int32)), (.int (0 : Int32)), (.int (0 : Int32)), (.int (0 : Int32))] (.int (0 : Int32)) := Arv.set Ar156 q156 S156 P156 H156 G156 (own_fitdg _) W157 26 rfl (Nat.le_of_ble_eq_true rfl)
  have K157 := (Keep.refl h0 [o2]).wr W157 (Or.inl (List.mem_of_getElem? (i := 0) rfl))
  have N157 := Fr.snoc X157 N0 g_o2
  refine Ends.step st157 ?_
  show Ends p e below QQ (T157.setTop (mkF m 157 #[.val (.long (-q0)), .second, .val (.int (27 : Int32)), .val (.ref o2), .unset, .unset, .unset, .val (.int (26 : Int32)), .val (.int (0 : Int32)), .unset, .val (.int x10_1)] []))
  refine Ends.step (fun _ k => XS.iload X157.here hx rfl (hb hby d21_157) rfl k) ?_
  show Ends p e below QQ (T157.setTop (mkF m 159 #[.val (.long (-q0)), .second, .val (.int (27 : Int32)), .val (.ref o2), .unset, .unset, .unset, .val (.int (26 : Int32)), .val (.int (0 : Int32)), .unset, .val (.int x10_1)] [(.int x10_1)]))
  refine Ends.step (fun _ k => XT.bipushV X157.here hx rfl (-9 : Int32) (hb hby d21_159) rfl k) ?_
  show Ends p e below QQ (T157.setTop (mkF m 161 #[.val (.long (-q0)), .second, .val (.int (27 : Int32)), .val (.ref o2), .unset, .unset, .unset, .val (.int (26 : Int32)), .val (.int (0 : Int32)), .unset, .val (.int x10_1)] [(.int (-9 : Int32)), (.int x10_1)]))
  have hc161 : ¬ (x10_1 < (-9 : Int32)) := (own_one hI0 (by omega))
  refine Ends.step (fun _ k => XS.icmpYes X157.here hx rfl (pc0 := 161) (pc' := 178) rfl (hb hby d21_161) rfl (XT.ii_ge_t hc161) (by decide) (by decide) k) ?_
  show Ends p e below QQ (T157.setTop (mkF m 178 #[.val (.long (-q0)), .second, .val (.int (27 : Int32)), .val (.ref o2), .unset, .unset, .unset, .val (.int (26 : Int32)), .val (.int (0 : Int32)), .unset, .val (.int x10_1)] []))
  refine Ends.step (fun _ k => XS.iload X157.here hx rfl (hb hby d21_178) rfl k) ?_
  show Ends p e below QQ (T157.setTop (mkF m 180 #[.val (.long (-q0)), .second, .val (.int (27 : Int32)), .val (.ref o2), .unset, .unset, .unset, .val (.int (26 : Int32)), .val (.int (0 : Int32)), .unset, .val (.int x10_1)] [(.int (0 : Int32))]))
  refine Ends.step (fun _ k => XS.ifYes X157.here hx rfl (pc0 := 180) (pc' := 192) rfl (hb hby d21_180) rfl (XT.i0_eq_t (by decide)) (by decide) (by decide) k) ?_
  show Ends p e below QQ (T157.setTop (mkF m 192 #[.val (.long (-q0)), .second, .val (.int (27 : Int32)), .val (.ref o2), .unset, .unset, .unset, .val (.int (26 : Int32)), .val (.int (0 : Int32)), .unset, .val (.int x10_1)] []))
  refine Ends.step (fun _ k => XS.iload X157.here hx rfl (hb hby d21_192) rfl k) ?_
  show Ends p e below QQ (T157.setTop (mkF m 194 #[.val (.long (-q0)), .second, .val (.int (27 : Int32)), .val (.ref o2), .unset, .unset, .unset, .val (.int (26 : Int32)), .val (.int (0 : Int32)), .unset, .val (.int x10_1)] [(.int (26 : Int32))]))
  exact Ends.fin (some (.int (26 : Int32))) X157 hQQ (fun h => by rw [Bd.returns] at h; cases h) Bd.notSynchronized (fun _ hr => retOut X157 hx (t := .int) Bd.returns rfl (Or.inl ⟨rfl, Or.inl rfl, _, rfl⟩) (hb hby d21_194) hr) e157 (by decide) (by decide) ⟨rfl, N157, K157, A_o2⟩
theorem ef_ens27_34 (m : MethodId) (x0 : Addr) : entryFrame m #[(.ref x0), (.int (27 : Int32))] 3 = mkF m 0 #[.val (.ref x0), .val (.int (27 : Int32)), .unset] [] := by first | (simp [entryFrame, mkF, argsToLocals, Value.category]; done) | rfl
def Qens27_34 (Z : State) (o0 : Addr) (vb : Addr) (kb : ClassId) (vs : List Value) (h0 : Heap) (n0 : Nat) (v : Option Value) (h : Heap) (L : List Loc) : Prop := (v = none) ∧ (Fr n0 L) ∧ (h = h0)
set_option maxRecDepth 65536 in
set_option maxHeartbeats 40000000 in
theorem rmens27_34 (l : Launch) (Z : State) (a0 : Array Value) (hw : ∀ d ∈ tables_1, d.before a0 Z = true) (ws : List Jvm.Cond) (o0 : Addr) (vb : Addr) (kb : ClassId) (vs : List Value) (h0 : Heap) (n0 : Nat) (Z0 : n0 ≤ h0.size) (F_value_o0 : Fld Z h0 o0 "java/lang/AbstractStringBuilder" "value" "[B" (.ref vb)) (F_coder_o0 : Fld Z h0 o0 "java/lang/AbstractStringBuilder" "coder" "B" (.int (0 : Int32))) (A_vb : Arv Z h0 vb kb .byte (34 : Int32) vs (.int (0 : Int32))) :
    MetFree l (⟨"java/lang/AbstractStringBuilder", "ensureCapacityInternal", "(I)V"⟩ : MethodName) (head1 (Jvm.Cond.code (⟨"java/lang/AbstractStringBuilder", "ensureCapacityInternal", "(I)V"⟩ : MethodName) jdk_68_method_9_code 3 none :: ws) ({ frames := 0, cells := 0, slots := 0, locals := 0 } : Room)) (fun a U => a = #[(.ref o0), (.int (27 : Int32))] ∧ Z.Warmed39 U.vm ∧ U.heap = h0) (fun _ _ _ _ _ => True) (fun _ U o U' => ∃ v L, o = .returned v ∧ Qens27_34 Z o0 vb kb vs h0 n0 v U'.heap L ∧ FrameEnd U o U' L ({ frames := 0, cells := 0, slots := 0, locals := 0 } : Room).cells ({ frames := 0, cells := 0, slots := 0, locals := 0 } : Room).slots) := by
  refine MetFree.of_bodySF (plainFor_of_name pn_3) hisR ?_
  intro p e s m args below meth c s₁ Bd hml0 hP hK
  obtain ⟨rfl, hZ, hh⟩ := hP
  have hx := Bd.exec
  have hby := Bd.bytes
  have hml : c.maxLocals = 3 := hml0
  have hown : s.vm.findClass "java/lang/AbstractStringBuilder" = some m.cls := findClass_of_methodNamed Bd.named
  have hnm := (name_of_methodNamed Bd.named Bd.method).1
  have X0 : Stand p l e ({ frames := 0, cells := 0, slots := 0, locals := 0 } : Room) s m #[(.ref o0), (.int (27 : Int32))] below meth c s₁ [] 0 0 := Stand.of_body Bd
  have e0 : s₁.heap = h0 := by rw [← hh, Bd.state]; rfl
  have N0 := Fr.nil n0
  refine Ends.opn ?_
  intro QQ hQQ
  refine Ends.step (S' := s₁.setTop (mkF m 0 #[.val (.ref o0), .val (.int (27 : Int32)), .unset] [])) (fun t k => castTop (ef_ens27_34 m o0) k) ?_
  show Ends p e below QQ (s₁.setTop (mkF m 0 #[.val (.ref o0), .val (.int (27 : Int32)), .unset] []))
  refine Ends.step (fun _ k => XS.aloadN X0.here hx rfl (hb hby d13_0) rfl rfl k) ?_
  show Ends p e below QQ (s₁.setTop (mkF m 1 #[.val (.ref o0), .val (.int (27 : Int32)), .unset] [(.ref o0)]))
  obtain ⟨T158, X158, e158, st158⟩ := getF X0 hx hZ hown (host := "") (Or.inl (hw _ (List.mem_of_getElem? (i := 46) rfl))) Via.refl e0 F_value_o0 (g := (mkF m 1 #[.val (.ref o0), .val (.int (27 : Int32)), .unset] [(.ref o0)])) rfl rfl (hb hby d13_1)
  refine Ends.step st158 ?_
  show Ends p e below QQ (T158.setTop (mkF m 4 #[.val (.ref o0), .val (.int (27 : Int32)), .unset] [(.ref vb)]))
  obtain ⟨cl159, Ar159, -, S159, P159, -, -⟩ := id A_vb
  refine Ends.step (S' := T158.setTop (mkF m 5 #[.val (.ref o0), .val (.int (27 : Int32)), .unset] [(.int (34 : Int32))])) (fun _ k => X158.arraylength hx (by rw [e158]; exact Ar159.1) (State.isArrayOf_alike hZ.alike Ar159.2.1) (g := (mkF m 4 #[.val (.ref o0), .val (.int (27 : Int32)), .unset] [(.ref vb)])) rfl rfl (hb hby d13_4) _ (by rw [len_of S159 P159]; exact k)) ?_
  show Ends p e below QQ (T158.setTop (mkF m 5 #[.val (.ref o0), .val (.int (27 : Int32)), .unset] [(.int (34 : Int32))]))
  refine Ends.step (fun _ k => XS.aloadN X158.here hx rfl (hb hby d13_5) rfl rfl k) ?_
  show Ends p e below QQ (T158.setTop (mkF m 6 #[.val (.ref o0), .val (.int (27 : Int32)), .unset] [(.ref o0), (.int (34 : Int32))]))
  obtain ⟨T160, X160, e160, st160⟩ := getF X158 hx hZ hown (host := "") (Or.inl (hw _ (List.mem_of_getElem? (i := 48) rfl))) Via.refl e158 F_coder_o0 (g := (mkF m 6 #[.val (.ref o0), .val (.int (27 : Int32)), .unset] [(.ref o0), (.int (34 : Int32))])) rfl rfl (hb hby d13_6)
  refine Ends.step st160 ?_
  show Ends p e below QQ (T160.setTop (mkF m 9 #[.val (.ref o0), .val (.int (27 : Int32)), .unset] [(.int (0 : Int32)), (.int (34 : Int32))]))
  refine Ends.step (fun _ k => XS.ishr X160.here hx rfl (hb hby d13_9) rfl k) ?_
  show Ends p e below QQ (T160.setTop (mkF m 10 #[.val (.ref o0), .val (.int (27 : Int32)), .unset] [(.int (34 : Int32))]))
  refine Ends.step (fun _ k => XS.istoreN X160.here hx rfl (hb hby d13_10) rfl (l' := #[.val (.ref o0), .val (.int (27 : Int32)), .val (.int (34 : Int32))]) rfl k) ?_
  show Ends p e below QQ (T160.setTop (mkF m 11 #[.val (.ref o0), .val (.int (27 : Int32)), .val (.int (34 : Int32))] []))
  refine Ends.step (fun _ k => XS.iloadN X160.here hx rfl (hb hby d13_11) rfl k) ?_
  show Ends p e below QQ (T160.setTop (mkF m 12 #[.val (.ref o0), .val (.int (27 : Int32)), .val (.int (34 : Int32))] [(.int (27 : Int32))]))
  refine Ends.step (fun _ k => XS.iloadN X160.here hx rfl (hb hby d13_12) rfl k) ?_
  show Ends p e below QQ (T160.setTop (mkF m 13 #[.val (.ref o0), .val (.int (27 : Int32)), .val (.int (34 : Int32))] [(.int (34 : Int32)), (.int (27 : Int32))]))
  refine Ends.step (fun _ k => XS.isub X160.here hx rfl (hb hby d13_13) rfl k) ?_
  show Ends p e below QQ (T160.setTop (mkF m 14 #[.val (.ref o0), .val (.int (27 : Int32)), .val (.int (34 : Int32))] [(.int (-7 : Int32))]))
  refine Ends.step (fun _ k => XS.ifYes X160.here hx rfl (pc0 := 14) (pc' := 38) rfl (hb hby d13_14) rfl (XT.i0_le_t (by decide)) (by decide) (by decide) k) ?_
  show Ends p e below QQ (T160.setTop (mkF m 38 #[.val (.ref o0), .val (.int (27 : Int32)), .val (.int (34 : Int32))] []))
  exact Ends.fin (none) X160 hQQ (fun _ => rfl) Bd.notSynchronized (fun _ hr => X160.returnOut hx Bd.returns (hb hby d13_38) hr) e160 (by decide) (by decide) ⟨rfl, N0, rfl⟩
theorem ef_aj26 (m : MethodId) (x0 : Addr) (x1 : Int64) : entryFrame m #[(.ref x0), (.long x1)] 5 = mkF m 0 #[.val (.ref x0), .val (.long x1), .second, .unset, .unset] [] := by first | (simp [entryFrame, mkF, argsToLocals, Value.category]; done) | rfl
def Qaj26 (Z : State) (o0 : Addr) (q1 : Int64) (vb : Addr) (kb : ClassId) (cs : Int32) (a_D1 : Addr) (k_a_D1 : ClassId) (x0 : Int32) (x1 : Int32) (x2 : Int32) (x3 : Int32) (x4 : Int32) (x5 : Int32) (x6 : Int32) (x7 : Int32) (x8 : Int32) (x9 : Int32) (x10 : Int32) (x11 : Int32) (x12 : Int32) (x13 : Int32) (x14 : Int32) (x15 : Int32) (x16 : Int32) (x17 : Int32) (x18 : Int32) (x19 : Int32) (x20 : Int32) (x21 : Int32) (x22 : Int32) (x23 : Int32) (x24 : Int32) (x25 : Int32) (h0 : Heap) (n0 : Nat) (v : Option Value) (h : Heap) (L : List Loc) : Prop := (v = some (.ref o0)) ∧ (Fr n0 L) ∧ (Keep h0 h [o0, vb]) ∧ (Exa Z h o0 "java/lang/StringBuilder") ∧ (Fld Z h o0 "java/lang/AbstractStringBuilder" "value" "[B" (.ref vb)) ∧ (Fld Z h o0 "java/lang/AbstractStringBuilder" "coder" "B" (.int (0 : Int32))) ∧ (Fld Z h o0 "java/lang/AbstractStringBuilder" "count" "I" (.int (27 : Int32))) ∧ (Exa Z h vb "[B") ∧ (Arv Z h vb kb .byte (34 : Int32) [(.int x0), (.int x1), (.int x2), (.int x3), (.int x4), (.int x5), (.int x6), (.int x7), (.int x8), (.int x9), (.int x10), (.int x11), (.int x12), (.int x13), (.int x14), (.int x15), (.int x16), (.int x17), (.int x18), (.int x19), (.int x20), (.int x21), (.int x22), (.int x23), (.int x24), (.int x25), (.int (own_dg ((q1).toInt))), (.int (0 : Int32)), (.int (0 : Int32)), (.int (0 : Int32)), (.int (0 : Int32)), (.int (0 : Int32)), (.int (0 : Int32)), (.int (0 : Int32))] (.int (0 : Int32)))
set_option maxRecDepth 65536 in
set_option maxHeartbeats 40000000 in
theorem rmaj26 (l : Launch) (Z : State) (a0 : Array Value) (hw : ∀ d ∈ tables_1, d.before a0 Z = true) (ws : List Jvm.Cond) (o0 : Addr) (q1 : Int64) (vb : Addr) (kb : ClassId) (cs : Int32) (a_D1 : Addr) (k_a_D1 : ClassId) (x0 : Int32) (x1 : Int32) (x2 : Int32) (x3 : Int32) (x4 : Int32) (x5 : Int32) (x6 : Int32) (x7 : Int32) (x8 : Int32) (x9 : Int32) (x10 : Int32) (x11 : Int32) (x12 : Int32) (x13 : Int32) (x14 : Int32) (x15 : Int32) (x16 : Int32) (x17 : Int32) (x18 : Int32) (x19 : Int32) (x20 : Int32) (x21 : Int32) (x22 : Int32) (x23 : Int32) (x24 : Int32) (x25 : Int32) (h0 : Heap) (n0 : Nat) (Z0 : n0 ≤ h0.size) (E_o0 : Exa Z h0 o0 "java/lang/StringBuilder") (F_value_o0 : Fld Z h0 o0 "java/lang/AbstractStringBuilder" "value" "[B" (.ref vb)) (F_coder_o0 : Fld Z h0 o0 "java/lang/AbstractStringBuilder" "coder" "B" (.int (0 : Int32))) (F_count_o0 : Fld Z h0 o0 "java/lang/AbstractStringBuilder" "count" "I" (.int (26 : Int32))) (E_vb : Exa Z h0 vb "[B") (A_vb : Arv Z h0 vb kb .byte (34 : Int32) [(.int x0), (.int x1), (.int x2), (.int x3), (.int x4), (.int x5), (.int x6), (.int x7), (.int x8), (.int x9), (.int x10), (.int x11), (.int x12), (.int x13), (.int x14), (.int x15), (.int x16), (.int x17), (.int x18), (.int x19), (.int x20), (.int x21), (.int x22), (.int x23), (.int x24), (.int x25), (.int (0 : Int32)), (.int (0 : Int32)), (.int (0 : Int32)), (.int (0 : Int32)), (.int (0 : Int32)), (.int (0 : Int32)), (.int (0 : Int32)), (.int (0 : Int32))] (.int (0 : Int32))) (g_o0 : n0 ≤ o0) (g_vb : n0 ≤ vb) (ne_o0_vb : o0 ≠ vb) (S_COMPACT_STRINGS : Sta Z h0 "java/lang/String" "COMPACT_STRINGS" "Z" (.int cs)) (hcs : ¬ cs = (0 : Int32)) (A_a_D1 : Arv Z h0 a_D1 k_a_D1 .byte (100 : Int32) own_ones (.int (0 : Int32))) (S_DigitOnes : Sta Z h0 "java/lang/Integer" "DigitOnes" "[B" (.ref a_D1)) (ne_a_D1_vb : a_D1 ≠ vb) (g1 : (q1).toInt < 10) (g2 : 0 ≤ (q1).toInt) :
    MetFree l (⟨"java/lang/AbstractStringBuilder", "append", "(J)Ljava/lang/AbstractStringBuilder;"⟩ : MethodName) (head1 (Jvm.Cond.code (⟨"java/lang/AbstractStringBuilder", "append", "(J)Ljava/lang/AbstractStringBuilder;"⟩ : MethodName) jdk_68_method_33_code 5 (some (.object "java/lang/AbstractStringBuilder")) :: ws) ({ frames := 1, cells := 0, slots := 0, locals := 22 } : Room)) (fun a U => a = #[(.ref o0), (.long q1)] ∧ Z.Warmed39 U.vm ∧ U.heap = h0) (fun _ _ _ _ _ => True) (fun _ U o U' => ∃ v L, o = .returned v ∧ Qaj26 Z o0 q1 vb kb cs a_D1 k_a_D1 x0 x1 x2 x3 x4 x5 x6 x7 x8 x9 x10 x11 x12 x13 x14 x15 x16 x17 x18 x19 x20 x21 x22 x23 x24 x25 h0 n0 v U'.heap L ∧ FrameEnd U o U' L ({ frames := 1, cells := 0, slots := 0, locals := 22 } : Room).cells ({ frames := 1, cells := 0, slots := 0, locals := 22 } : Room).slots) := by
  refine MetFree.of_bodySF (plainFor_of_name pn_3) hisR ?_
  intro p e s m args below meth c s₁ Bd hml0 hP hK
  obtain ⟨rfl, hZ, hh⟩ := hP
  have hx := Bd.exec
  have hby := Bd.bytes
  have hml : c.maxLocals = 5 := hml0
  have hown : s.vm.findClass "java/lang/AbstractStringBuilder" = some m.cls := findClass_of_methodNamed Bd.named
  have hnm := (name_of_methodNamed Bd.named Bd.method).1
  have X0 : Stand p l e ({ frames := 1, cells := 0, slots := 0, locals := 22 } : Room) s m #[(.ref o0), (.long q1)] below meth c s₁ [] 0 0 := Stand.of_body Bd
  have e0 : s₁.heap = h0 := by rw [← hh, Bd.state]; rfl
  have N0 := Fr.nil n0
  refine Ends.opn ?_
  intro QQ hQQ
  refine Ends.step (S' := s₁.setTop (mkF m 0 #[.val (.ref o0), .val (.long q1), .second, .unset, .unset] [])) (fun t k => castTop (ef_aj26 m o0 q1) k) ?_
  show Ends p e below QQ (s₁.setTop (mkF m 0 #[.val (.ref o0), .val (.long q1), .second, .unset, .unset] []))
  refine Ends.step (fun _ k => XS.aloadN X0.here hx rfl (hb hby d18_0) rfl rfl k) ?_
  show Ends p e below QQ (s₁.setTop (mkF m 1 #[.val (.ref o0), .val (.long q1), .second, .unset, .unset] [(.ref o0)]))
  obtain ⟨T161, X161, e161, st161⟩ := getF X0 hx hZ hown (host := "") (Or.inl (hw _ (List.mem_of_getElem? (i := 79) rfl))) Via.refl e0 F_count_o0 (g := (mkF m 1 #[.val (.ref o0), .val (.long q1), .second, .unset, .unset] [(.ref o0)])) rfl rfl (hb hby d18_1)
  refine Ends.step st161 ?_
  show Ends p e below QQ (T161.setTop (mkF m 4 #[.val (.ref o0), .val (.long q1), .second, .unset, .unset] [(.int (26 : Int32))]))
  refine Ends.step (fun _ k => XS.istoreN X161.here hx rfl (hb hby d18_4) rfl (l' := #[.val (.ref o0), .val (.long q1), .second, .val (.int (26 : Int32)), .unset]) rfl k) ?_
  show Ends p e below QQ (T161.setTop (mkF m 5 #[.val (.ref o0), .val (.long q1), .second, .val (.int (26 : Int32)), .unset] []))
  refine Ends.step (fun _ k => XS.iloadN X161.here hx rfl (hb hby d18_5) rfl k) ?_
  show Ends p e below QQ (T161.setTop (mkF m 6 #[.val (.ref o0), .val (.long q1), .second, .val (.int (26 : Int32)), .unset] [(.int (26 : Int32))]))
  refine Ends.step (fun _ k => XT.lloadN X161.here hx rfl (hb hby d18_6) rfl k) ?_
  show Ends p e below QQ (T161.setTop (mkF m 7 #[.val (.ref o0), .val (.long q1), .second, .val (.int (26 : Int32)), .unset] [(.long q1), (.int (26 : Int32))]))
  obtain ⟨_, _, ⟨T162, L162, k162, n162⟩, -, X162, ⟨Lc162, hQ162, l162, y162, z162⟩, st162⟩ := Jvm.LawKit.callS X161 hx (y := (⟨"java/lang/Long", "stringSize", "(J)I"⟩ : MethodName)) hown (mvT hZ (hw _ (List.mem_of_getElem? (i := 117) rfl))) (mvT hZ (hw _ (List.mem_of_getElem? (i := 118) rfl))) (mvT hZ (hw _ (List.mem_of_getElem? (i := 119) rfl))) (mvT hZ (hw _ (List.mem_of_getElem? (i := 120) rfl))) (by decide) (backOf (W := 1) (rmss l Z a0 hw [] q1 h0 n0 (Nat.le_trans Z0 (Keep.refl h0 [o0, vb]).1) g1 g2) hZ (hw _ (List.mem_of_getElem? (i := 120) rfl)) (hw _ (List.mem_of_getElem? (i := 119) rfl)) (by decide) (by decide)) (g := (mkF m 7 #[.val (.ref o0), .val (.long q1), .second, .val (.int (26 : Int32)), .unset] [(.long q1), (.int (26 : Int32))])) rfl (by rw [hml]; rfl) (argsL := [(.long q1)]) (rest := [(.int (26 : Int32))]) (lenOf pd_19 rfl) rfl (by show 2 * 0 + _ ≤ _; exact Nat.le_of_eq rfl) (hb hby d18_7) (fun _ _ => ⟨rfl, e161, (by decide : 0 + 0 ≤ _), (by decide : 0 + 0 ≤ _)⟩)
  dsimp only [Pt.U, Pt.locs, Pt.cells, Pt.slots] at X162 l162 y162 z162 st162 hQ162
  subst l162 y162 z162
  obtain ⟨rfl, Nq162, hh162⟩ := hQ162
  have N162 := Fr.app N0 Nq162
  refine Ends.step st162 ?_
  show Ends p e below QQ (T162.setTop (mkF m 10 #[.val (.ref o0), .val (.long q1), .second, .val (.int (26 : Int32)), .unset] [(.int (1 : Int32)), (.int (26 : Int32))]))
  refine Ends.step (fun _ k => XS.iadd X162.here hx rfl (hb hby d18_10) rfl k) ?_
  show Ends p e below QQ (T162.setTop (mkF m 11 #[.val (.ref o0), .val (.long q1), .second, .val (.int (26 : Int32)), .unset] [(.int (27 : Int32))]))
  refine Ends.step (fun _ k => XS.istore X162.here hx rfl (hb hby d18_11) rfl (l' := #[.val (.ref o0), .val (.long q1), .second, .val (.int (26 : Int32)), .val (.int (27 : Int32))]) rfl k) ?_
  show Ends p e below QQ (T162.setTop (mkF m 13 #[.val (.ref o0), .val (.long q1), .second, .val (.int (26 : Int32)), .val (.int (27 : Int32))] []))
  refine Ends.step (fun _ k => XS.aloadN X162.here hx rfl (hb hby d18_13) rfl rfl k) ?_
  show Ends p e below QQ (T162.setTop (mkF m 14 #[.val (.ref o0), .val (.long q1), .second, .val (.int (26 : Int32)), .val (.int (27 : Int32))] [(.ref o0)]))
  refine Ends.step (fun _ k => XS.iload X162.here hx rfl (hb hby d18_14) rfl k) ?_
  show Ends p e below QQ (T162.setTop (mkF m 16 #[.val (.ref o0), .val (.long q1), .second, .val (.int (26 : Int32)), .val (.int (27 : Int32))] [(.int (27 : Int32)), (.ref o0)]))
  obtain ⟨cq163, q163, q163'⟩ := E_o0.cell
  obtain ⟨_, _, ⟨T163, L163, k163, n163⟩, -, X163, ⟨Lc163, hQ163, l163, y163, z163⟩, st163⟩ := X162.privateBack hx (y := (⟨"java/lang/AbstractStringBuilder", "ensureCapacityInternal", "(I)V"⟩ : MethodName)) hown (mvT hZ (hw _ (List.mem_of_getElem? (i := 81) rfl))) (mvT hZ (hw _ (List.mem_of_getElem? (i := 82) rfl))) (mvT hZ (own_selq (y := (⟨"java/lang/AbstractStringBuilder", "ensureCapacityInternal", "(I)V"⟩ : MethodName)) (hw _ (List.mem_of_getElem? (i := 84) rfl)) rfl (hw _ (List.mem_of_getElem? (i := 83) rfl)) (hw _ (List.mem_of_getElem? (i := 82) rfl)) (by decide))) (Cond.privateMethod_at (mvP hZ (hw _ (List.mem_of_getElem? (i := 83) rfl)) (args := #[]))) (mvT hZ (hw _ (List.mem_of_getElem? (i := 85) rfl))) (by decide) (backOf (W := 0) (rmens27_34 l Z a0 hw [] o0 vb kb [(.int x0), (.int x1), (.int x2), (.int x3), (.int x4), (.int x5), (.int x6), (.int x7), (.int x8), (.int x9), (.int x10), (.int x11), (.int x12), (.int x13), (.int x14), (.int x15), (.int x16), (.int x17), (.int x18), (.int x19), (.int x20), (.int x21), (.int x22), (.int x23), (.int x24), (.int x25), (.int (0 : Int32)), (.int (0 : Int32)), (.int (0 : Int32)), (.int (0 : Int32)), (.int (0 : Int32)), (.int (0 : Int32)), (.int (0 : Int32)), (.int (0 : Int32))] h0 n0 (Nat.le_trans Z0 (Keep.refl h0 [o0, vb]).1) F_value_o0 F_coder_o0 A_vb) hZ (hw _ (List.mem_of_getElem? (i := 85) rfl)) (hw _ (List.mem_of_getElem? (i := 40) rfl)) (by decide) (by decide)) (g := (mkF m 16 #[.val (.ref o0), .val (.long q1), .second, .val (.int (26 : Int32)), .val (.int (27 : Int32))] [(.int (27 : Int32)), (.ref o0)])) rfl (by rw [hml]; rfl) (Steps.refl _) (a := o0) (by rw [hh162]; exact q163) q163' (argsL := [(.int (27 : Int32))]) (rest := []) (lenOf pd_5 rfl) rfl (by show 2 * 0 + _ ≤ _; exact Nat.le_of_eq rfl) (hb hby d18_16) (fun _ _ => ⟨rfl, hh162, (by decide : 0 + 0 ≤ _), (by decide : 0 + 0 ≤ _)⟩)
  dsimp only [Pt.U, Pt.locs, Pt.cells, Pt.slots] at X163 l163 y163 z163 st163 hQ163
  subst l163 y163 z163
  obtain ⟨rfl, Nq163, hh163⟩ := hQ163
  have N163 := Fr.app N162 Nq163
  refine Ends.step (fun _ k => st163.trans k) ?_
  show Ends p e below QQ (T163.setTop (mkF m 19 #[.val (.ref o0), .val (.long q1), .second, .val (.int (26 : Int32)), .val (.int (27 : Int32))] []))
  refine Ends.step (fun _ k => XS.aloadN X163.here hx rfl (hb hby d18_19) rfl rfl k) ?_
  show Ends p e below QQ (T163.setTop (mkF m 20 #[.val (.ref o0), .val (.long q1), .second, .val (.int (26 : Int32)), .val (.int (27 : Int32))] [(.ref o0)]))
  obtain ⟨cq164, kq164, q164a, q164b, q164c⟩ := isOf hZ hh163 E_o0
  obtain ⟨_, _, ⟨T164, L164, k164, n164⟩, -, X164, ⟨Lc164, hQ164, l164, y164, z164⟩, st164⟩ := X163.virtualBack hx (y := (⟨"java/lang/AbstractStringBuilder", "isLatin1", "()Z"⟩ : MethodName)) (z := (⟨"java/lang/AbstractStringBuilder", "isLatin1", "()Z"⟩ : MethodName)) hown (mvT hZ (hw _ (List.mem_of_getElem? (i := 122) rfl))) (mvT hZ (hw _ (List.mem_of_getElem? (i := 123) rfl))) (notFace_of_selects (args := #[]) (mvT hZ (hw _ (List.mem_of_getElem? (i := 125) rfl)))) (mvT hZ (hw _ (List.mem_of_getElem? (i := 125) rfl))) (mvT hZ (hw _ (List.mem_of_getElem? (i := 124) rfl))) (by decide) (backOf (W := 0) (rmasi l Z a0 hw [] o0 cs h0 n0 (Nat.le_trans Z0 (Keep.refl h0 [o0, vb]).1) S_COMPACT_STRINGS hcs F_coder_o0) hZ (hw _ (List.mem_of_getElem? (i := 126) rfl)) (hw _ (List.mem_of_getElem? (i := 40) rfl)) (by decide) (by decide)) q164a q164c (g := (mkF m 20 #[.val (.ref o0), .val (.long q1), .second, .val (.int (26 : Int32)), .val (.int (27 : Int32))] [(.ref o0)])) rfl (by rw [hml]; rfl) (Steps.refl _) (argsL := []) (rest := []) (lenOf pd_3 rfl) rfl (by show 2 * 0 + _ ≤ _; exact Nat.le_of_eq rfl) (hb hby d18_20) (fun _ _ => ⟨rfl, hh163, (by decide : 0 + 0 ≤ _), (by decide : 0 + 0 ≤ _)⟩)
  dsimp only [Pt.U, Pt.locs, Pt.cells, Pt.slots] at X164 l164 y164 z164 st164 hQ164
  subst l164 y164 z164
  obtain ⟨rfl, Nq164, hh164⟩ := hQ164
  have N164 := Fr.app N163 Nq164
  refine Ends.step (fun _ k => st164.trans k) ?_
  show Ends p e below QQ (T164.setTop (mkF m 23 #[.val (.ref o0), .val (.long q1), .second, .val (.int (26 : Int32)), .val (.int (27 : Int32))] [(.int (1 : Int32))]))
  refine Ends.step (fun _ k => XS.ifNo X164.here hx rfl (hb hby d18_23) rfl (XT.i0_eq_f (by decide)) k) ?_
  show Ends p e below QQ (T164.setTop (mkF m 26 #[.val (.ref o0), .val (.long q1), .second, .val (.int (26 : Int32)), .val (.int (27 : Int32))] []))
  refine Ends.step (fun _ k => XT.lloadN X164.here hx rfl (hb hby d18_26) rfl k) ?_
  show Ends p e below QQ (T164.setTop (mkF m 27 #[.val (.ref o0), .val (.long q1), .second, .val (.int (26 : Int32)), .val (.int (27 : Int32))] [(.long q1)]))
  refine Ends.step (fun _ k => XS.iload X164.here hx rfl (hb hby d18_27) rfl k) ?_
  show Ends p e below QQ (T164.setTop (mkF m 29 #[.val (.ref o0), .val (.long q1), .second, .val (.int (26 : Int32)), .val (.int (27 : Int32))] [(.int (27 : Int32)), (.long q1)]))
  refine Ends.step (fun _ k => XS.aloadN X164.here hx rfl (hb hby d18_29) rfl rfl k) ?_
  show Ends p e below QQ (T164.setTop (mkF m 30 #[.val (.ref o0), .val (.long q1), .second, .val (.int (26 : Int32)), .val (.int (27 : Int32))] [(.ref o0), (.int (27 : Int32)), (.long q1)]))
  obtain ⟨T165, X165, e165, st165⟩ := getF X164 hx hZ hown (host := "") (Or.inl (hw _ (List.mem_of_getElem? (i := 46) rfl))) Via.refl hh164 F_value_o0 (g := (mkF m 30 #[.val (.ref o0), .val (.long q1), .second, .val (.int (26 : Int32)), .val (.int (27 : Int32))] [(.ref o0), (.int (27 : Int32)), (.long q1)])) rfl rfl (hb hby d18_30)
  refine Ends.step st165 ?_
  show Ends p e below QQ (T165.setTop (mkF m 33 #[.val (.ref o0), .val (.long q1), .second, .val (.int (26 : Int32)), .val (.int (27 : Int32))] [(.ref vb), (.int (27 : Int32)), (.long q1)]))
  obtain ⟨_, _, ⟨T166, L166, k166, n166⟩, -, X166, ⟨Lc166, hQ166, l166, y166, z166⟩, st166⟩ := Jvm.LawKit.callS X165 hx (y := (⟨"java/lang/Long", "getChars", "(JI[B)I"⟩ : MethodName)) hown (mvT hZ (hw _ (List.mem_of_getElem? (i := 127) rfl))) (mvT hZ (hw _ (List.mem_of_getElem? (i := 128) rfl))) (mvT hZ (hw _ (List.mem_of_getElem? (i := 119) rfl))) (mvT hZ (hw _ (List.mem_of_getElem? (i := 129) rfl))) (by decide) (backOf (W := 0) (rmgc26 l Z a0 hw [] q1 vb kb a_D1 k_a_D1 x0 x1 x2 x3 x4 x5 x6 x7 x8 x9 x10 x11 x12 x13 x14 x15 x16 x17 x18 x19 x20 x21 x22 x23 x24 x25 h0 n0 (Nat.le_trans Z0 (Keep.refl h0 [o0, vb]).1) A_vb g_vb (Ne.symm ne_a_D1_vb) A_a_D1 S_DigitOnes g1 g2) hZ (hw _ (List.mem_of_getElem? (i := 129) rfl)) (hw _ (List.mem_of_getElem? (i := 119) rfl)) (by decide) (by decide)) (g := (mkF m 33 #[.val (.ref o0), .val (.long q1), .second, .val (.int (26 : Int32)), .val (.int (27 : Int32))] [(.ref vb), (.int (27 : Int32)), (.long q1)])) rfl (by rw [hml]; rfl) (argsL := [(.long q1), (.int (27 : Int32)), (.ref vb)]) (rest := []) (lenOf pd_20 rfl) rfl (by show 2 * 0 + _ ≤ _; exact Nat.le_of_eq rfl) (hb hby d18_33) (fun _ _ => ⟨rfl, e165, (by decide : 0 + 0 ≤ _), (by decide : 0 + 0 ≤ _)⟩)
  dsimp only [Pt.U, Pt.locs, Pt.cells, Pt.slots] at X166 l166 y166 z166 st166 hQ166
  subst l166 y166 z166
  obtain ⟨rfl, Nq166, Kq166, fq166_0⟩ := hQ166
  have N166 := Fr.app N164 Nq166
  have S_COMPACT_STRINGS := own_sta_keep S_COMPACT_STRINGS Kq166 (allS E_vb.cell all0)
  have S_DigitOnes := own_sta_keep S_DigitOnes Kq166 (allS E_vb.cell all0)
  have E_o0 := E_o0.keep Kq166
  have F_value_o0 := F_value_o0.keep Kq166 (ninS ne_o0_vb nin0)
  have F_coder_o0 := F_coder_o0.keep Kq166 (ninS ne_o0_vb nin0)
  have F_count_o0 := F_count_o0.keep Kq166 (ninS ne_o0_vb nin0)
  have E_vb := E_vb.keep Kq166
  have A_a_D1 := A_a_D1.keep Kq166 (ninS ne_a_D1_vb nin0)
  have A_vb := fq166_0
  have K166 := (Keep.refl h0 [o0, vb]).trans Kq166 (allS (Or.inl (List.mem_of_getElem? (i := 1) rfl)) all0)
  refine Ends.step st166 ?_
  show Ends p e below QQ (T166.setTop (mkF m 36 #[.val (.ref o0), .val (.long q1), .second, .val (.int (26 : Int32)), .val (.int (27 : Int32))] [(.int (26 : Int32))]))
  refine Ends.step (fun _ k => XT.pop X166.here hx rfl (hb hby d18_36) rfl rfl k) ?_
  show Ends p e below QQ (T166.setTop (mkF m 37 #[.val (.ref o0), .val (.long q1), .second, .val (.int (26 : Int32)), .val (.int (27 : Int32))] []))
  refine Ends.step (fun _ k => XS.goto X166.here hx rfl (pc0 := 37) (pc' := 52) rfl (hb hby d18_37) (by decide) (by decide) k) ?_
  show Ends p e below QQ (T166.setTop (mkF m 52 #[.val (.ref o0), .val (.long q1), .second, .val (.int (26 : Int32)), .val (.int (27 : Int32))] []))
  refine Ends.step (fun _ k => XS.aloadN X166.here hx rfl (hb hby d18_52) rfl rfl k) ?_
  show Ends p e below QQ (T166.setTop (mkF m 53 #[.val (.ref o0), .val (.long q1), .second, .val (.int (26 : Int32)), .val (.int (27 : Int32))] [(.ref o0)]))
  refine Ends.step (fun _ k => XS.iload X166.here hx rfl (hb hby d18_53) rfl k) ?_
  show Ends p e below QQ (T166.setTop (mkF m 55 #[.val (.ref o0), .val (.long q1), .second, .val (.int (26 : Int32)), .val (.int (27 : Int32))] [(.int (27 : Int32)), (.ref o0)]))
  obtain ⟨T167, h167, X167, e167, W167, st167⟩ := putF X166 hx hZ hown (host := "") (Or.inl (hw _ (List.mem_of_getElem? (i := 79) rfl))) Via.refl rfl F_count_o0 E_o0 (Or.inl (hw _ (List.mem_of_getElem? (i := 80) rfl))) (hw _ (List.mem_of_getElem? (i := 31) rfl)) (ty := .int) (by decide) rfl rfl (g := (mkF m 55 #[.val (.ref o0), .val (.long q1), .second, .val (.int (26 : Int32)), .val (.int (27 : Int32))] [(.int (27 : Int32)), (.ref o0)])) rfl rfl (hb hby d18_55)
  have E_o0 := E_o0.wr W167
  have F_value_o0 := F_value_o0.other W167 (Or.inr (slot_ne (Or.inl (hw _ (List.mem_of_getElem? (i := 47) rfl))) (Or.inl (hw _ (List.mem_of_getElem? (i := 80) rfl))) (by decide) (t := (.array .byte)) (t' := .int) (by decide) (by decide)))
  have F_coder_o0 := F_coder_o0.other W167 (Or.inr (slot_ne (Or.inl (hw _ (List.mem_of_getElem? (i := 49) rfl))) (Or.inl (hw _ (List.mem_of_getElem? (i := 80) rfl))) (by decide) (t := .byte) (t' := .int) (by decide) (by decide)))
  have E_vb := E_vb.wr W167
  have A_vb := A_vb.other W167 (Ne.symm ne_o0_vb)
  have S_COMPACT_STRINGS := S_COMPACT_STRINGS.wr W167
  have S_DigitOnes := S_DigitOnes.wr W167
  have F_count_o0 : Fld Z h167 o0 "java/lang/AbstractStringBuilder" "count" "I" (.int (27 : Int32)) := F_count_o0.same W167
  have K167 := K166.wr W167 (Or.inl (List.mem_of_getElem? (i := 0) rfl))
  have N167 := Fr.snoc X167 N166 g_o0
  refine Ends.step st167 ?_
  show Ends p e below QQ (T167.setTop (mkF m 58 #[.val (.ref o0), .val (.long q1), .second, .val (.int (26 : Int32)), .val (.int (27 : Int32))] []))
  refine Ends.step (fun _ k => XS.aloadN X167.here hx rfl (hb hby d18_58) rfl rfl k) ?_
  show Ends p e below QQ (T167.setTop (mkF m 59 #[.val (.ref o0), .val (.long q1), .second, .val (.int (26 : Int32)), .val (.int (27 : Int32))] [(.ref o0)]))
  exact Ends.fin (some (.ref o0)) X167 hQQ (fun h => by rw [Bd.returns] at h; cases h) Bd.notSynchronized (fun _ hr => retOut X167 hx (t := (.object "java/lang/AbstractStringBuilder")) Bd.returns rfl (Or.inr (Or.inr (Or.inr (Or.inr ⟨rfl, rfl, rfl⟩)))) (hb hby d18_59) hr) e167 (by decide) (by decide) ⟨rfl, N167, K167, E_o0, F_value_o0, F_coder_o0, F_count_o0, E_vb, A_vb⟩
theorem ef_sj26 (m : MethodId) (x0 : Addr) (x1 : Int64) : entryFrame m #[(.ref x0), (.long x1)] 3 = mkF m 0 #[.val (.ref x0), .val (.long x1), .second] [] := by first | (simp [entryFrame, mkF, argsToLocals, Value.category]; done) | rfl
def Qsj26 (Z : State) (o0 : Addr) (q1 : Int64) (vb : Addr) (kb : ClassId) (cs : Int32) (a_D1 : Addr) (k_a_D1 : ClassId) (x0 : Int32) (x1 : Int32) (x2 : Int32) (x3 : Int32) (x4 : Int32) (x5 : Int32) (x6 : Int32) (x7 : Int32) (x8 : Int32) (x9 : Int32) (x10 : Int32) (x11 : Int32) (x12 : Int32) (x13 : Int32) (x14 : Int32) (x15 : Int32) (x16 : Int32) (x17 : Int32) (x18 : Int32) (x19 : Int32) (x20 : Int32) (x21 : Int32) (x22 : Int32) (x23 : Int32) (x24 : Int32) (x25 : Int32) (h0 : Heap) (n0 : Nat) (v : Option Value) (h : Heap) (L : List Loc) : Prop := (v = some (.ref o0)) ∧ (Fr n0 L) ∧ (Keep h0 h [o0, vb]) ∧ (Exa Z h o0 "java/lang/StringBuilder") ∧ (Fld Z h o0 "java/lang/AbstractStringBuilder" "value" "[B" (.ref vb)) ∧ (Fld Z h o0 "java/lang/AbstractStringBuilder" "coder" "B" (.int (0 : Int32))) ∧ (Fld Z h o0 "java/lang/AbstractStringBuilder" "count" "I" (.int (27 : Int32))) ∧ (Exa Z h vb "[B") ∧ (Arv Z h vb kb .byte (34 : Int32) [(.int x0), (.int x1), (.int x2), (.int x3), (.int x4), (.int x5), (.int x6), (.int x7), (.int x8), (.int x9), (.int x10), (.int x11), (.int x12), (.int x13), (.int x14), (.int x15), (.int x16), (.int x17), (.int x18), (.int x19), (.int x20), (.int x21), (.int x22), (.int x23), (.int x24), (.int x25), (.int (own_dg ((q1).toInt))), (.int (0 : Int32)), (.int (0 : Int32)), (.int (0 : Int32)), (.int (0 : Int32)), (.int (0 : Int32)), (.int (0 : Int32)), (.int (0 : Int32))] (.int (0 : Int32)))
set_option maxRecDepth 65536 in
set_option maxHeartbeats 40000000 in
theorem rmsj26 (l : Launch) (Z : State) (a0 : Array Value) (hw : ∀ d ∈ tables_1, d.before a0 Z = true) (ws : List Jvm.Cond) (o0 : Addr) (q1 : Int64) (vb : Addr) (kb : ClassId) (cs : Int32) (a_D1 : Addr) (k_a_D1 : ClassId) (x0 : Int32) (x1 : Int32) (x2 : Int32) (x3 : Int32) (x4 : Int32) (x5 : Int32) (x6 : Int32) (x7 : Int32) (x8 : Int32) (x9 : Int32) (x10 : Int32) (x11 : Int32) (x12 : Int32) (x13 : Int32) (x14 : Int32) (x15 : Int32) (x16 : Int32) (x17 : Int32) (x18 : Int32) (x19 : Int32) (x20 : Int32) (x21 : Int32) (x22 : Int32) (x23 : Int32) (x24 : Int32) (x25 : Int32) (h0 : Heap) (n0 : Nat) (Z0 : n0 ≤ h0.size) (E_o0 : Exa Z h0 o0 "java/lang/StringBuilder") (F_value_o0 : Fld Z h0 o0 "java/lang/AbstractStringBuilder" "value" "[B" (.ref vb)) (F_coder_o0 : Fld Z h0 o0 "java/lang/AbstractStringBuilder" "coder" "B" (.int (0 : Int32))) (F_count_o0 : Fld Z h0 o0 "java/lang/AbstractStringBuilder" "count" "I" (.int (26 : Int32))) (E_vb : Exa Z h0 vb "[B") (A_vb : Arv Z h0 vb kb .byte (34 : Int32) [(.int x0), (.int x1), (.int x2), (.int x3), (.int x4), (.int x5), (.int x6), (.int x7), (.int x8), (.int x9), (.int x10), (.int x11), (.int x12), (.int x13), (.int x14), (.int x15), (.int x16), (.int x17), (.int x18), (.int x19), (.int x20), (.int x21), (.int x22), (.int x23), (.int x24), (.int x25), (.int (0 : Int32)), (.int (0 : Int32)), (.int (0 : Int32)), (.int (0 : Int32)), (.int (0 : Int32)), (.int (0 : Int32)), (.int (0 : Int32)), (.int (0 : Int32))] (.int (0 : Int32))) (g_o0 : n0 ≤ o0) (g_vb : n0 ≤ vb) (ne_o0_vb : o0 ≠ vb) (S_COMPACT_STRINGS : Sta Z h0 "java/lang/String" "COMPACT_STRINGS" "Z" (.int cs)) (hcs : ¬ cs = (0 : Int32)) (A_a_D1 : Arv Z h0 a_D1 k_a_D1 .byte (100 : Int32) own_ones (.int (0 : Int32))) (S_DigitOnes : Sta Z h0 "java/lang/Integer" "DigitOnes" "[B" (.ref a_D1)) (ne_a_D1_vb : a_D1 ≠ vb) (g1 : (q1).toInt < 10) (g2 : 0 ≤ (q1).toInt) :
    MetFree l (⟨"java/lang/StringBuilder", "append", "(J)Ljava/lang/StringBuilder;"⟩ : MethodName) (head1 (Jvm.Cond.code (⟨"java/lang/StringBuilder", "append", "(J)Ljava/lang/StringBuilder;"⟩ : MethodName) jdk_67_method_16_code 3 (some (.object "java/lang/StringBuilder")) :: ws) ({ frames := 2, cells := 0, slots := 0, locals := 38 } : Room)) (fun a U => a = #[(.ref o0), (.long q1)] ∧ Z.Warmed39 U.vm ∧ U.heap = h0) (fun _ _ _ _ _ => True) (fun _ U o U' => ∃ v L, o = .returned v ∧ Qsj26 Z o0 q1 vb kb cs a_D1 k_a_D1 x0 x1 x2 x3 x4 x5 x6 x7 x8 x9 x10 x11 x12 x13 x14 x15 x16 x17 x18 x19 x20 x21 x22 x23 x24 x25 h0 n0 v U'.heap L ∧ FrameEnd U o U' L ({ frames := 2, cells := 0, slots := 0, locals := 38 } : Room).cells ({ frames := 2, cells := 0, slots := 0, locals := 38 } : Room).slots) := by
  refine MetFree.of_bodySF (plainFor_of_name pn_4) hisR ?_
  intro p e s m args below meth c s₁ Bd hml0 hP hK
  obtain ⟨rfl, hZ, hh⟩ := hP
  have hx := Bd.exec
  have hby := Bd.bytes
  have hml : c.maxLocals = 3 := hml0
  have hown : s.vm.findClass "java/lang/StringBuilder" = some m.cls := findClass_of_methodNamed Bd.named
  have hnm := (name_of_methodNamed Bd.named Bd.method).1
  have X0 : Stand p l e ({ frames := 2, cells := 0, slots := 0, locals := 38 } : Room) s m #[(.ref o0), (.long q1)] below meth c s₁ [] 0 0 := Stand.of_body Bd
  have e0 : s₁.heap = h0 := by rw [← hh, Bd.state]; rfl
  have N0 := Fr.nil n0
  refine Ends.opn ?_
  intro QQ hQQ
  refine Ends.step (S' := s₁.setTop (mkF m 0 #[.val (.ref o0), .val (.long q1), .second] [])) (fun t k => castTop (ef_sj26 m o0 q1) k) ?_
  show Ends p e below QQ (s₁.setTop (mkF m 0 #[.val (.ref o0), .val (.long q1), .second] []))
  refine Ends.step (fun _ k => XS.aloadN X0.here hx rfl (hb hby d17_0) rfl rfl k) ?_
  show Ends p e below QQ (s₁.setTop (mkF m 1 #[.val (.ref o0), .val (.long q1), .second] [(.ref o0)]))
  refine Ends.step (fun _ k => XT.lloadN X0.here hx rfl (hb hby d17_1) rfl k) ?_
  show Ends p e below QQ (s₁.setTop (mkF m 2 #[.val (.ref o0), .val (.long q1), .second] [(.long q1), (.ref o0)]))
  obtain ⟨_, _, ⟨T168, L168, k168, n168⟩, -, X168, ⟨Lc168, hQ168, l168, y168, z168⟩, st168⟩ := superBack X0 hx hZ (y := (⟨"java/lang/AbstractStringBuilder", "append", "(J)Ljava/lang/AbstractStringBuilder;"⟩ : MethodName)) hown (hw _ (List.mem_of_getElem? (i := 113) rfl)) (own_same (hw _ (List.mem_of_getElem? (i := 114) rfl)) (by decide) (hw _ (List.mem_of_getElem? (i := 84) rfl)) rfl) (hw _ (List.mem_of_getElem? (i := 114) rfl)) (hw _ (List.mem_of_getElem? (i := 63) rfl)) (by decide) (backOf (W := 0) (rmaj26 l Z a0 hw [] o0 q1 vb kb cs a_D1 k_a_D1 x0 x1 x2 x3 x4 x5 x6 x7 x8 x9 x10 x11 x12 x13 x14 x15 x16 x17 x18 x19 x20 x21 x22 x23 x24 x25 h0 n0 (Nat.le_trans Z0 (Keep.refl h0 [o0, vb]).1) E_o0 F_value_o0 F_coder_o0 F_count_o0 E_vb A_vb g_o0 g_vb ne_o0_vb S_COMPACT_STRINGS hcs A_a_D1 S_DigitOnes ne_a_D1_vb g1 g2) hZ (hw _ (List.mem_of_getElem? (i := 116) rfl)) (hw _ (List.mem_of_getElem? (i := 40) rfl)) (by decide) (by decide)) e0 (Ins.self E_o0) (g := (mkF m 2 #[.val (.ref o0), .val (.long q1), .second] [(.long q1), (.ref o0)])) rfl (by rw [hml]; rfl) (hw _ (List.mem_of_getElem? (i := 116) rfl)) (argsL := [(.long q1)]) (rest := []) (lenOf pd_21 rfl) rfl (by show 2 * 0 + _ ≤ _; exact Nat.le_of_eq rfl) (hb hby d17_2) (fun _ _ => ⟨rfl, e0, (by decide : 0 + 0 ≤ _), (by decide : 0 + 0 ≤ _)⟩)
  dsimp only [Pt.U, Pt.locs, Pt.cells, Pt.slots] at X168 l168 y168 z168 st168 hQ168
  subst l168 y168 z168
  obtain ⟨rfl, Nq168, Kq168, fq168_0, fq168_1, fq168_2, fq168_3, fq168_4, fq168_5⟩ := hQ168
  have N168 := Fr.app N0 Nq168
  have S_COMPACT_STRINGS := own_sta_keep S_COMPACT_STRINGS Kq168 (allS E_o0.cell (allS E_vb.cell all0))
  have S_DigitOnes := own_sta_keep S_DigitOnes Kq168 (allS E_o0.cell (allS E_vb.cell all0))
  have E_o0 := fq168_0
  have F_value_o0 := fq168_1
  have F_coder_o0 := fq168_2
  have F_count_o0 := fq168_3
  have E_vb := fq168_4
  have A_vb := fq168_5
  have K168 := (Keep.refl h0 [o0, vb]).trans Kq168 (allS (Or.inl (List.mem_of_getElem? (i := 0) rfl)) (allS (Or.inl (List.mem_of_getElem? (i := 1) rfl)) all0))
  refine Ends.step (fun _ k => st168.trans k) ?_
  show Ends p e below QQ (T168.setTop (mkF m 5 #[.val (.ref o0), .val (.long q1), .second] [(.ref o0)]))
  refine Ends.step (fun _ k => XT.pop X168.here hx rfl (hb hby d17_5) rfl rfl k) ?_
  show Ends p e below QQ (T168.setTop (mkF m 6 #[.val (.ref o0), .val (.long q1), .second] []))
  refine Ends.step (fun _ k => XS.aloadN X168.here hx rfl (hb hby d17_6) rfl rfl k) ?_
  show Ends p e below QQ (T168.setTop (mkF m 7 #[.val (.ref o0), .val (.long q1), .second] [(.ref o0)]))
  exact Ends.fin (some (.ref o0)) X168 hQQ (fun h => by rw [Bd.returns] at h; cases h) Bd.notSynchronized (fun _ hr => retOut X168 hx (t := (.object "java/lang/StringBuilder")) Bd.returns rfl (Or.inr (Or.inr (Or.inr (Or.inr ⟨rfl, rfl, rfl⟩)))) (hb hby d17_7) hr) rfl (by decide) (by decide) ⟨rfl, N168, K168, E_o0, F_value_o0, F_coder_o0, F_count_o0, E_vb, A_vb⟩
theorem d1_0 : decode prog_7_method_1_code 0 = .ok (.aload_n 0, 1) := by decide +kernel
theorem d1_1 : decode prog_7_method_1_code 1 = .ok (.invokespecial 1, 3) := by decide +kernel
theorem d1_4 : decode prog_7_method_1_code 4 = .ok (.return_, 1) := by decide +kernel
theorem ef_cci (m : MethodId) (x0 : Addr) : entryFrame m #[(.ref x0)] 1 = mkF m 0 #[.val (.ref x0)] [] := by first | (simp [entryFrame, mkF, argsToLocals, Value.category]; done) | rfl
def Qcci (Z : State) (o0 : Addr) (h0 : Heap) (n0 : Nat) (v : Option Value) (h : Heap) (L : List Loc) : Prop := (v = none) ∧ (Fr n0 L) ∧ (h = h0)
set_option maxRecDepth 65536 in
set_option maxHeartbeats 40000000 in
theorem rmcci (l : Launch) (Z : State) (a0 : Array Value) (hw : ∀ d ∈ tables_1, d.before a0 Z = true) (ws : List Jvm.Cond) (o0 : Addr) (h0 : Heap) (n0 : Nat) (Z0 : n0 ≤ h0.size) (E_o0 : Exa Z h0 o0 "com/example/wide_area_crawler/wideareacrawler/CrawlCounts") :
    MetFree l (⟨"com/example/wide_area_crawler/wideareacrawler/CrawlCounts", "<init>", "()V"⟩ : MethodName) (head1 (Jvm.Cond.code (⟨"com/example/wide_area_crawler/wideareacrawler/CrawlCounts", "<init>", "()V"⟩ : MethodName) prog_7_method_1_code 1 none :: ws) ({ frames := 1, cells := 0, slots := 0, locals := 12 } : Room)) (fun a U => a = #[(.ref o0)] ∧ Z.Warmed39 U.vm ∧ U.heap = h0) (fun _ _ _ _ _ => True) (fun _ U o U' => ∃ v L, o = .returned v ∧ Qcci Z o0 h0 n0 v U'.heap L ∧ FrameEnd U o U' L ({ frames := 1, cells := 0, slots := 0, locals := 12 } : Room).cells ({ frames := 1, cells := 0, slots := 0, locals := 12 } : Room).slots) := by
  refine MetFree.of_bodySF (plainFor_of_name pn_8) hisR ?_
  intro p e s m args below meth c s₁ Bd hml0 hP hK
  obtain ⟨rfl, hZ, hh⟩ := hP
  have hx := Bd.exec
  have hby := Bd.bytes
  have hml : c.maxLocals = 1 := hml0
  have hown : s.vm.findClass "com/example/wide_area_crawler/wideareacrawler/CrawlCounts" = some m.cls := findClass_of_methodNamed Bd.named
  have hnm := (name_of_methodNamed Bd.named Bd.method).1
  have X0 : Stand p l e ({ frames := 1, cells := 0, slots := 0, locals := 12 } : Room) s m #[(.ref o0)] below meth c s₁ [] 0 0 := Stand.of_body Bd
  have e0 : s₁.heap = h0 := by rw [← hh, Bd.state]; rfl
  have N0 := Fr.nil n0
  refine Ends.opn ?_
  intro QQ hQQ
  refine Ends.step (S' := s₁.setTop (mkF m 0 #[.val (.ref o0)] [])) (fun t k => castTop (ef_cci m o0) k) ?_
  show Ends p e below QQ (s₁.setTop (mkF m 0 #[.val (.ref o0)] []))
  refine Ends.step (fun _ k => XS.aloadN X0.here hx rfl (hb hby d1_0) rfl rfl k) ?_
  show Ends p e below QQ (s₁.setTop (mkF m 1 #[.val (.ref o0)] [(.ref o0)]))
  obtain ⟨T169, X169, e169, st169⟩ := initO X0 hx hZ hown (hw _ (List.mem_of_getElem? (i := 6) rfl)) (hw _ (List.mem_of_getElem? (i := 7) rfl)) (hw _ (List.mem_of_getElem? (i := 8) rfl)) e0 (g := (mkF m 1 #[.val (.ref o0)] [(.ref o0)])) rfl (by rw [hml]; rfl) rfl (hb hby d1_1) (by decide) (W := 0) (by show 2 * 0 + _ ≤ _; exact Nat.le_of_eq rfl) (by decide)
  refine Ends.step st169 ?_
  show Ends p e below QQ (T169.setTop (mkF m 4 #[.val (.ref o0)] []))
  exact Ends.fin (none) X169 hQQ (fun _ => rfl) Bd.notSynchronized (fun _ hr => X169.returnOut hx Bd.returns (hb hby d1_4) hr) e169 (by decide) (by decide) ⟨rfl, N0, rfl⟩
theorem d3_0 : decode prog_7_method_2_code 0 = .ok (.iload_n 1, 1) := by decide +kernel
theorem d3_1 : decode prog_7_method_2_code 1 = .ok (.ifCond .ne 16, 3) := by decide +kernel
theorem d3_4 : decode prog_7_method_2_code 4 = .ok (.aload_n 0, 1) := by decide +kernel
theorem d3_5 : decode prog_7_method_2_code 5 = .ok (.dup, 1) := by decide +kernel
theorem d3_6 : decode prog_7_method_2_code 6 = .ok (.getfield 7, 3) := by decide +kernel
theorem d3_9 : decode prog_7_method_2_code 9 = .ok (.lconst 1, 1) := by decide +kernel
theorem d3_10 : decode prog_7_method_2_code 10 = .ok (.ladd, 1) := by decide +kernel
theorem d3_11 : decode prog_7_method_2_code 11 = .ok (.putfield 7, 3) := by decide +kernel
theorem d3_14 : decode prog_7_method_2_code 14 = .ok (.goto 40, 3) := by decide +kernel
theorem d3_17 : decode prog_7_method_2_code 17 = .ok (.iload_n 1, 1) := by decide +kernel
theorem d3_18 : decode prog_7_method_2_code 18 = .ok (.sipush 200, 3) := by decide +kernel
theorem d3_21 : decode prog_7_method_2_code 21 = .ok (.if_icmp .lt 23, 3) := by decide +kernel
theorem d3_24 : decode prog_7_method_2_code 24 = .ok (.iload_n 1, 1) := by decide +kernel
theorem d3_25 : decode prog_7_method_2_code 25 = .ok (.sipush 300, 3) := by decide +kernel
theorem d3_28 : decode prog_7_method_2_code 28 = .ok (.if_icmp .ge 16, 3) := by decide +kernel
theorem d3_31 : decode prog_7_method_2_code 31 = .ok (.aload_n 0, 1) := by decide +kernel
theorem d3_32 : decode prog_7_method_2_code 32 = .ok (.dup, 1) := by decide +kernel
theorem d3_33 : decode prog_7_method_2_code 33 = .ok (.getfield 13, 3) := by decide +kernel
theorem d3_36 : decode prog_7_method_2_code 36 = .ok (.lconst 1, 1) := by decide +kernel
theorem d3_37 : decode prog_7_method_2_code 37 = .ok (.ladd, 1) := by decide +kernel
theorem d3_38 : decode prog_7_method_2_code 38 = .ok (.putfield 13, 3) := by decide +kernel
theorem d3_41 : decode prog_7_method_2_code 41 = .ok (.goto 13, 3) := by decide +kernel
theorem d3_44 : decode prog_7_method_2_code 44 = .ok (.aload_n 0, 1) := by decide +kernel
theorem d3_45 : decode prog_7_method_2_code 45 = .ok (.dup, 1) := by decide +kernel
theorem d3_46 : decode prog_7_method_2_code 46 = .ok (.getfield 16, 3) := by decide +kernel
theorem d3_49 : decode prog_7_method_2_code 49 = .ok (.lconst 1, 1) := by decide +kernel
theorem d3_50 : decode prog_7_method_2_code 50 = .ok (.ladd, 1) := by decide +kernel
theorem d3_51 : decode prog_7_method_2_code 51 = .ok (.putfield 16, 3) := by decide +kernel
theorem d3_54 : decode prog_7_method_2_code 54 = .ok (.return_, 1) := by decide +kernel
theorem ef_cnt (m : MethodId) (x0 : Addr) (x1 : Int32) : entryFrame m #[(.ref x0), (.int x1)] 2 = mkF m 0 #[.val (.ref x0), .val (.int x1)] [] := by first | (simp [entryFrame, mkF, argsToLocals, Value.category]; done) | rfl
def Qcnt (Z : State) (o0 : Addr) (p1 : Int32) (u1 : Int64) (u2 : Int64) (u3 : Int64) (h0 : Heap) (n0 : Nat) (v : Option Value) (h : Heap) (L : List Loc) : Prop := (v = none) ∧ (Fr n0 L) ∧ (Keep h0 h [o0]) ∧ (Exa Z h o0 "com/example/wide_area_crawler/wideareacrawler/CrawlCounts") ∧ (Fld Z h o0 "com/example/wide_area_crawler/wideareacrawler/CrawlCounts" "ok" "J" (.long (own_ck p1 u1))) ∧ (Fld Z h o0 "com/example/wide_area_crawler/wideareacrawler/CrawlCounts" "other" "J" (.long (own_co p1 u2))) ∧ (Fld Z h o0 "com/example/wide_area_crawler/wideareacrawler/CrawlCounts" "errors" "J" (.long (own_ce p1 u3)))
set_option maxRecDepth 65536 in
set_option maxHeartbeats 40000000 in
theorem rmcnt (l : Launch) (Z : State) (a0 : Array Value) (hw : ∀ d ∈ tables_1, d.before a0 Z = true) (ws : List Jvm.Cond) (o0 : Addr) (p1 : Int32) (u1 : Int64) (u2 : Int64) (u3 : Int64) (h0 : Heap) (n0 : Nat) (Z0 : n0 ≤ h0.size) (E_o0 : Exa Z h0 o0 "com/example/wide_area_crawler/wideareacrawler/CrawlCounts") (F_ok_o0 : Fld Z h0 o0 "com/example/wide_area_crawler/wideareacrawler/CrawlCounts" "ok" "J" (.long u1)) (F_other_o0 : Fld Z h0 o0 "com/example/wide_area_crawler/wideareacrawler/CrawlCounts" "other" "J" (.long u2)) (F_errors_o0 : Fld Z h0 o0 "com/example/wide_area_crawler/wideareacrawler/CrawlCounts" "errors" "J" (.long u3)) (g_o0 : n0 ≤ o0) :
    MetFree l (⟨"com/example/wide_area_crawler/wideareacrawler/CrawlCounts", "count", "(I)V"⟩ : MethodName) (head1 (Jvm.Cond.code (⟨"com/example/wide_area_crawler/wideareacrawler/CrawlCounts", "count", "(I)V"⟩ : MethodName) prog_7_method_2_code 2 none :: ws) ({ frames := 0, cells := 0, slots := 0, locals := 0 } : Room)) (fun a U => a = #[(.ref o0), (.int p1)] ∧ Z.Warmed39 U.vm ∧ U.heap = h0) (fun _ _ _ _ _ => True) (fun _ U o U' => ∃ v L, o = .returned v ∧ Qcnt Z o0 p1 u1 u2 u3 h0 n0 v U'.heap L ∧ FrameEnd U o U' L ({ frames := 0, cells := 0, slots := 0, locals := 0 } : Room).cells ({ frames := 0, cells := 0, slots := 0, locals := 0 } : Room).slots) := by
  refine MetFree.of_bodySF (plainFor_of_name pn_8) hisR ?_
  intro p e s m args below meth c s₁ Bd hml0 hP hK
  obtain ⟨rfl, hZ, hh⟩ := hP
  have hx := Bd.exec
  have hby := Bd.bytes
  have hml : c.maxLocals = 2 := hml0
  have hown : s.vm.findClass "com/example/wide_area_crawler/wideareacrawler/CrawlCounts" = some m.cls := findClass_of_methodNamed Bd.named
  have hnm := (name_of_methodNamed Bd.named Bd.method).1
  have X0 : Stand p l e ({ frames := 0, cells := 0, slots := 0, locals := 0 } : Room) s m #[(.ref o0), (.int p1)] below meth c s₁ [] 0 0 := Stand.of_body Bd
  have e0 : s₁.heap = h0 := by rw [← hh, Bd.state]; rfl
  have N0 := Fr.nil n0
  refine Ends.opn ?_
  intro QQ hQQ
  refine Ends.step (S' := s₁.setTop (mkF m 0 #[.val (.ref o0), .val (.int p1)] [])) (fun t k => castTop (ef_cnt m o0 p1) k) ?_
  show Ends p e below QQ (s₁.setTop (mkF m 0 #[.val (.ref o0), .val (.int p1)] []))
  refine Ends.step (fun _ k => XS.iloadN X0.here hx rfl (hb hby d3_0) rfl k) ?_
  show Ends p e below QQ (s₁.setTop (mkF m 1 #[.val (.ref o0), .val (.int p1)] [(.int p1)]))
  by_cases hc1_170 : p1 = (0 : Int32)
  · refine Ends.step (fun _ k => XS.ifNo X0.here hx rfl (hb hby d3_1) rfl (XT.i0_ne_f hc1_170) k) ?_
    show Ends p e below QQ (s₁.setTop (mkF m 4 #[.val (.ref o0), .val (.int p1)] []))
    refine Ends.step (fun _ k => XS.aloadN X0.here hx rfl (hb hby d3_4) rfl rfl k) ?_
    show Ends p e below QQ (s₁.setTop (mkF m 5 #[.val (.ref o0), .val (.int p1)] [(.ref o0)]))
    refine Ends.step (fun _ k => XS.dup X0.here hx rfl (hb hby d3_5) rfl rfl k) ?_
    show Ends p e below QQ (s₁.setTop (mkF m 6 #[.val (.ref o0), .val (.int p1)] [(.ref o0), (.ref o0)]))
    obtain ⟨T171, X171, e171, st171⟩ := getF X0 hx hZ hown (host := "") (Or.inl (hw _ (List.mem_of_getElem? (i := 14) rfl))) Via.refl e0 F_errors_o0 (g := (mkF m 6 #[.val (.ref o0), .val (.int p1)] [(.ref o0), (.ref o0)])) rfl rfl (hb hby d3_6)
    refine Ends.step st171 ?_
    show Ends p e below QQ (T171.setTop (mkF m 9 #[.val (.ref o0), .val (.int p1)] [(.long u3), (.ref o0)]))
    refine Ends.step (fun _ k => XT.lconstV X171.here hx rfl (1 : Int64) (hb hby d3_9) rfl k) ?_
    show Ends p e below QQ (T171.setTop (mkF m 10 #[.val (.ref o0), .val (.int p1)] [(.long (1 : Int64)), (.long u3), (.ref o0)]))
    refine Ends.step (fun _ k => XT.ladd X171.here hx rfl (hb hby d3_10) rfl k) ?_
    show Ends p e below QQ (T171.setTop (mkF m 11 #[.val (.ref o0), .val (.int p1)] [(.long (u3 + (1 : Int64))), (.ref o0)]))
    obtain ⟨T172, h172, X172, e172, W172, st172⟩ := putF X171 hx hZ hown (host := "") (Or.inl (hw _ (List.mem_of_getElem? (i := 14) rfl))) Via.refl e171 F_errors_o0 E_o0 (Or.inl (hw _ (List.mem_of_getElem? (i := 15) rfl))) (hw _ (List.mem_of_getElem? (i := 1) rfl)) (ty := .long) (by decide) rfl rfl (g := (mkF m 11 #[.val (.ref o0), .val (.int p1)] [(.long (u3 + (1 : Int64))), (.ref o0)])) rfl rfl (hb hby d3_11)
    have E_o0 := E_o0.wr W172
    have F_ok_o0 := F_ok_o0.other W172 (Or.inr (slot_ne (Or.inl (hw _ (List.mem_of_getElem? (i := 107) rfl))) (Or.inl (hw _ (List.mem_of_getElem? (i := 15) rfl))) (by decide) (t := .long) (t' := .long) (by decide) (by decide)))
    have F_other_o0 := F_other_o0.other W172 (Or.inr (slot_ne (Or.inl (hw _ (List.mem_of_getElem? (i := 17) rfl))) (Or.inl (hw _ (List.mem_of_getElem? (i := 15) rfl))) (by decide) (t := .long) (t' := .long) (by decide) (by decide)))
    have F_errors_o0 : Fld Z h172 o0 "com/example/wide_area_crawler/wideareacrawler/CrawlCounts" "errors" "J" (.long (u3 + (1 : Int64))) := F_errors_o0.same W172
    have K172 := (Keep.refl h0 [o0]).wr W172 (Or.inl (List.mem_of_getElem? (i := 0) rfl))
    have N172 := Fr.snoc X172 N0 g_o0
    refine Ends.step st172 ?_
    show Ends p e below QQ (T172.setTop (mkF m 14 #[.val (.ref o0), .val (.int p1)] []))
    refine Ends.step (fun _ k => XS.goto X172.here hx rfl (pc0 := 14) (pc' := 54) rfl (hb hby d3_14) (by decide) (by decide) k) ?_
    show Ends p e below QQ (T172.setTop (mkF m 54 #[.val (.ref o0), .val (.int p1)] []))
    exact Ends.fin (none) X172 hQQ (fun _ => rfl) Bd.notSynchronized (fun _ hr => X172.returnOut hx Bd.returns (hb hby d3_54) hr) e172 (by decide) (by decide) ⟨rfl, N172, K172, E_o0, (by simpa only [if_pos hc1_170, own_ck] using F_ok_o0), (by simpa only [if_pos hc1_170, own_co] using F_other_o0), (by simpa only [if_pos hc1_170, own_ce] using F_errors_o0)⟩
  · refine Ends.step (fun _ k => XS.ifYes X0.here hx rfl (pc0 := 1) (pc' := 17) rfl (hb hby d3_1) rfl (XT.i0_ne_t hc1_170) (by decide) (by decide) k) ?_
    show Ends p e below QQ (s₁.setTop (mkF m 17 #[.val (.ref o0), .val (.int p1)] []))
    refine Ends.step (fun _ k => XS.iloadN X0.here hx rfl (hb hby d3_17) rfl k) ?_
    show Ends p e below QQ (s₁.setTop (mkF m 18 #[.val (.ref o0), .val (.int p1)] [(.int p1)]))
    refine Ends.step (fun _ k => XT.sipushV X0.here hx rfl (200 : Int32) (hb hby d3_18) rfl k) ?_
    show Ends p e below QQ (s₁.setTop (mkF m 21 #[.val (.ref o0), .val (.int p1)] [(.int (200 : Int32)), (.int p1)]))
    by_cases hc21_173 : p1 < (200 : Int32)
    · refine Ends.step (fun _ k => XS.icmpYes X0.here hx rfl (pc0 := 21) (pc' := 44) rfl (hb hby d3_21) rfl (XT.ii_lt_t hc21_173) (by decide) (by decide) k) ?_
      show Ends p e below QQ (s₁.setTop (mkF m 44 #[.val (.ref o0), .val (.int p1)] []))
      refine Ends.step (fun _ k => XS.aloadN X0.here hx rfl (hb hby d3_44) rfl rfl k) ?_
      show Ends p e below QQ (s₁.setTop (mkF m 45 #[.val (.ref o0), .val (.int p1)] [(.ref o0)]))
      refine Ends.step (fun _ k => XS.dup X0.here hx rfl (hb hby d3_45) rfl rfl k) ?_
      show Ends p e below QQ (s₁.setTop (mkF m 46 #[.val (.ref o0), .val (.int p1)] [(.ref o0), (.ref o0)]))
      obtain ⟨T174, X174, e174, st174⟩ := getF X0 hx hZ hown (host := "") (Or.inl (hw _ (List.mem_of_getElem? (i := 16) rfl))) Via.refl e0 F_other_o0 (g := (mkF m 46 #[.val (.ref o0), .val (.int p1)] [(.ref o0), (.ref o0)])) rfl rfl (hb hby d3_46)
      refine Ends.step st174 ?_
      show Ends p e below QQ (T174.setTop (mkF m 49 #[.val (.ref o0), .val (.int p1)] [(.long u2), (.ref o0)]))
      refine Ends.step (fun _ k => XT.lconstV X174.here hx rfl (1 : Int64) (hb hby d3_49) rfl k) ?_
      show Ends p e below QQ (T174.setTop (mkF m 50 #[.val (.ref o0), .val (.int p1)] [(.long (1 : Int64)), (.long u2), (.ref o0)]))
      refine Ends.step (fun _ k => XT.ladd X174.here hx rfl (hb hby d3_50) rfl k) ?_
      show Ends p e below QQ (T174.setTop (mkF m 51 #[.val (.ref o0), .val (.int p1)] [(.long (u2 + (1 : Int64))), (.ref o0)]))
      obtain ⟨T175, h175, X175, e175, W175, st175⟩ := putF X174 hx hZ hown (host := "") (Or.inl (hw _ (List.mem_of_getElem? (i := 16) rfl))) Via.refl e174 F_other_o0 E_o0 (Or.inl (hw _ (List.mem_of_getElem? (i := 17) rfl))) (hw _ (List.mem_of_getElem? (i := 1) rfl)) (ty := .long) (by decide) rfl rfl (g := (mkF m 51 #[.val (.ref o0), .val (.int p1)] [(.long (u2 + (1 : Int64))), (.ref o0)])) rfl rfl (hb hby d3_51)
      have E_o0 := E_o0.wr W175
      have F_ok_o0 := F_ok_o0.other W175 (Or.inr (slot_ne (Or.inl (hw _ (List.mem_of_getElem? (i := 107) rfl))) (Or.inl (hw _ (List.mem_of_getElem? (i := 17) rfl))) (by decide) (t := .long) (t' := .long) (by decide) (by decide)))
      have F_errors_o0 := F_errors_o0.other W175 (Or.inr (slot_ne (Or.inl (hw _ (List.mem_of_getElem? (i := 15) rfl))) (Or.inl (hw _ (List.mem_of_getElem? (i := 17) rfl))) (by decide) (t := .long) (t' := .long) (by decide) (by decide)))
      have F_other_o0 : Fld Z h175 o0 "com/example/wide_area_crawler/wideareacrawler/CrawlCounts" "other" "J" (.long (u2 + (1 : Int64))) := F_other_o0.same W175
      have K175 := (Keep.refl h0 [o0]).wr W175 (Or.inl (List.mem_of_getElem? (i := 0) rfl))
      have N175 := Fr.snoc X175 N0 g_o0
      refine Ends.step st175 ?_
      show Ends p e below QQ (T175.setTop (mkF m 54 #[.val (.ref o0), .val (.int p1)] []))
      exact Ends.fin (none) X175 hQQ (fun _ => rfl) Bd.notSynchronized (fun _ hr => X175.returnOut hx Bd.returns (hb hby d3_54) hr) e175 (by decide) (by decide) ⟨rfl, N175, K175, E_o0, (by simpa only [if_neg hc1_170, if_pos hc21_173, own_ck] using F_ok_o0), (by simpa only [if_neg hc1_170, if_pos hc21_173, own_co] using F_other_o0), (by simpa only [if_neg hc1_170, if_pos hc21_173, own_ce] using F_errors_o0)⟩
    · refine Ends.step (fun _ k => XS.icmpNo X0.here hx rfl (hb hby d3_21) rfl (XT.ii_lt_f hc21_173) k) ?_
      show Ends p e below QQ (s₁.setTop (mkF m 24 #[.val (.ref o0), .val (.int p1)] []))
      refine Ends.step (fun _ k => XS.iloadN X0.here hx rfl (hb hby d3_24) rfl k) ?_
      show Ends p e below QQ (s₁.setTop (mkF m 25 #[.val (.ref o0), .val (.int p1)] [(.int p1)]))
      refine Ends.step (fun _ k => XT.sipushV X0.here hx rfl (300 : Int32) (hb hby d3_25) rfl k) ?_
      show Ends p e below QQ (s₁.setTop (mkF m 28 #[.val (.ref o0), .val (.int p1)] [(.int (300 : Int32)), (.int p1)]))
      by_cases hc28_176 : p1 < (300 : Int32)
      · refine Ends.step (fun _ k => XS.icmpNo X0.here hx rfl (hb hby d3_28) rfl (XT.ii_ge_f hc28_176) k) ?_
        show Ends p e below QQ (s₁.setTop (mkF m 31 #[.val (.ref o0), .val (.int p1)] []))
        refine Ends.step (fun _ k => XS.aloadN X0.here hx rfl (hb hby d3_31) rfl rfl k) ?_
        show Ends p e below QQ (s₁.setTop (mkF m 32 #[.val (.ref o0), .val (.int p1)] [(.ref o0)]))
        refine Ends.step (fun _ k => XS.dup X0.here hx rfl (hb hby d3_32) rfl rfl k) ?_
        show Ends p e below QQ (s₁.setTop (mkF m 33 #[.val (.ref o0), .val (.int p1)] [(.ref o0), (.ref o0)]))
        obtain ⟨T177, X177, e177, st177⟩ := getF X0 hx hZ hown (host := "") (Or.inl (hw _ (List.mem_of_getElem? (i := 106) rfl))) Via.refl e0 F_ok_o0 (g := (mkF m 33 #[.val (.ref o0), .val (.int p1)] [(.ref o0), (.ref o0)])) rfl rfl (hb hby d3_33)
        refine Ends.step st177 ?_
        show Ends p e below QQ (T177.setTop (mkF m 36 #[.val (.ref o0), .val (.int p1)] [(.long u1), (.ref o0)]))
        refine Ends.step (fun _ k => XT.lconstV X177.here hx rfl (1 : Int64) (hb hby d3_36) rfl k) ?_
        show Ends p e below QQ (T177.setTop (mkF m 37 #[.val (.ref o0), .val (.int p1)] [(.long (1 : Int64)), (.long u1), (.ref o0)]))
        refine Ends.step (fun _ k => XT.ladd X177.here hx rfl (hb hby d3_37) rfl k) ?_
        show Ends p e below QQ (T177.setTop (mkF m 38 #[.val (.ref o0), .val (.int p1)] [(.long (u1 + (1 : Int64))), (.ref o0)]))
        obtain ⟨T178, h178, X178, e178, W178, st178⟩ := putF X177 hx hZ hown (host := "") (Or.inl (hw _ (List.mem_of_getElem? (i := 106) rfl))) Via.refl e177 F_ok_o0 E_o0 (Or.inl (hw _ (List.mem_of_getElem? (i := 107) rfl))) (hw _ (List.mem_of_getElem? (i := 1) rfl)) (ty := .long) (by decide) rfl rfl (g := (mkF m 38 #[.val (.ref o0), .val (.int p1)] [(.long (u1 + (1 : Int64))), (.ref o0)])) rfl rfl (hb hby d3_38)
        have E_o0 := E_o0.wr W178
        have F_other_o0 := F_other_o0.other W178 (Or.inr (slot_ne (Or.inl (hw _ (List.mem_of_getElem? (i := 17) rfl))) (Or.inl (hw _ (List.mem_of_getElem? (i := 107) rfl))) (by decide) (t := .long) (t' := .long) (by decide) (by decide)))
        have F_errors_o0 := F_errors_o0.other W178 (Or.inr (slot_ne (Or.inl (hw _ (List.mem_of_getElem? (i := 15) rfl))) (Or.inl (hw _ (List.mem_of_getElem? (i := 107) rfl))) (by decide) (t := .long) (t' := .long) (by decide) (by decide)))
        have F_ok_o0 : Fld Z h178 o0 "com/example/wide_area_crawler/wideareacrawler/CrawlCounts" "ok" "J" (.long (u1 + (1 : Int64))) := F_ok_o0.same W178
        have K178 := (Keep.refl h0 [o0]).wr W178 (Or.inl (List.mem_of_getElem? (i := 0) rfl))
        have N178 := Fr.snoc X178 N0 g_o0
        refine Ends.step st178 ?_
        show Ends p e below QQ (T178.setTop (mkF m 41 #[.val (.ref o0), .val (.int p1)] []))
        refine Ends.step (fun _ k => XS.goto X178.here hx rfl (pc0 := 41) (pc' := 54) rfl (hb hby d3_41) (by decide) (by decide) k) ?_
        show Ends p e below QQ (T178.setTop (mkF m 54 #[.val (.ref o0), .val (.int p1)] []))
        exact Ends.fin (none) X178 hQQ (fun _ => rfl) Bd.notSynchronized (fun _ hr => X178.returnOut hx Bd.returns (hb hby d3_54) hr) e178 (by decide) (by decide) ⟨rfl, N178, K178, E_o0, (by simpa only [if_neg hc1_170, if_neg hc21_173, if_pos hc28_176, own_ck] using F_ok_o0), (by simpa only [if_neg hc1_170, if_neg hc21_173, if_pos hc28_176, own_co] using F_other_o0), (by simpa only [if_neg hc1_170, if_neg hc21_173, if_pos hc28_176, own_ce] using F_errors_o0)⟩
      · refine Ends.step (fun _ k => XS.icmpYes X0.here hx rfl (pc0 := 28) (pc' := 44) rfl (hb hby d3_28) rfl (XT.ii_ge_t hc28_176) (by decide) (by decide) k) ?_
        show Ends p e below QQ (s₁.setTop (mkF m 44 #[.val (.ref o0), .val (.int p1)] []))
        refine Ends.step (fun _ k => XS.aloadN X0.here hx rfl (hb hby d3_44) rfl rfl k) ?_
        show Ends p e below QQ (s₁.setTop (mkF m 45 #[.val (.ref o0), .val (.int p1)] [(.ref o0)]))
        refine Ends.step (fun _ k => XS.dup X0.here hx rfl (hb hby d3_45) rfl rfl k) ?_
        show Ends p e below QQ (s₁.setTop (mkF m 46 #[.val (.ref o0), .val (.int p1)] [(.ref o0), (.ref o0)]))
        obtain ⟨T179, X179, e179, st179⟩ := getF X0 hx hZ hown (host := "") (Or.inl (hw _ (List.mem_of_getElem? (i := 16) rfl))) Via.refl e0 F_other_o0 (g := (mkF m 46 #[.val (.ref o0), .val (.int p1)] [(.ref o0), (.ref o0)])) rfl rfl (hb hby d3_46)
        refine Ends.step st179 ?_
        show Ends p e below QQ (T179.setTop (mkF m 49 #[.val (.ref o0), .val (.int p1)] [(.long u2), (.ref o0)]))
        refine Ends.step (fun _ k => XT.lconstV X179.here hx rfl (1 : Int64) (hb hby d3_49) rfl k) ?_
        show Ends p e below QQ (T179.setTop (mkF m 50 #[.val (.ref o0), .val (.int p1)] [(.long (1 : Int64)), (.long u2), (.ref o0)]))
        refine Ends.step (fun _ k => XT.ladd X179.here hx rfl (hb hby d3_50) rfl k) ?_
        show Ends p e below QQ (T179.setTop (mkF m 51 #[.val (.ref o0), .val (.int p1)] [(.long (u2 + (1 : Int64))), (.ref o0)]))
        obtain ⟨T180, h180, X180, e180, W180, st180⟩ := putF X179 hx hZ hown (host := "") (Or.inl (hw _ (List.mem_of_getElem? (i := 16) rfl))) Via.refl e179 F_other_o0 E_o0 (Or.inl (hw _ (List.mem_of_getElem? (i := 17) rfl))) (hw _ (List.mem_of_getElem? (i := 1) rfl)) (ty := .long) (by decide) rfl rfl (g := (mkF m 51 #[.val (.ref o0), .val (.int p1)] [(.long (u2 + (1 : Int64))), (.ref o0)])) rfl rfl (hb hby d3_51)
        have E_o0 := E_o0.wr W180
        have F_ok_o0 := F_ok_o0.other W180 (Or.inr (slot_ne (Or.inl (hw _ (List.mem_of_getElem? (i := 107) rfl))) (Or.inl (hw _ (List.mem_of_getElem? (i := 17) rfl))) (by decide) (t := .long) (t' := .long) (by decide) (by decide)))
        have F_errors_o0 := F_errors_o0.other W180 (Or.inr (slot_ne (Or.inl (hw _ (List.mem_of_getElem? (i := 15) rfl))) (Or.inl (hw _ (List.mem_of_getElem? (i := 17) rfl))) (by decide) (t := .long) (t' := .long) (by decide) (by decide)))
        have F_other_o0 : Fld Z h180 o0 "com/example/wide_area_crawler/wideareacrawler/CrawlCounts" "other" "J" (.long (u2 + (1 : Int64))) := F_other_o0.same W180
        have K180 := (Keep.refl h0 [o0]).wr W180 (Or.inl (List.mem_of_getElem? (i := 0) rfl))
        have N180 := Fr.snoc X180 N0 g_o0
        refine Ends.step st180 ?_
        show Ends p e below QQ (T180.setTop (mkF m 54 #[.val (.ref o0), .val (.int p1)] []))
        exact Ends.fin (none) X180 hQQ (fun _ => rfl) Bd.notSynchronized (fun _ hr => X180.returnOut hx Bd.returns (hb hby d3_54) hr) e180 (by decide) (by decide) ⟨rfl, N180, K180, E_o0, (by simpa only [if_neg hc1_170, if_neg hc21_173, if_neg hc28_176, own_ck] using F_ok_o0), (by simpa only [if_neg hc1_170, if_neg hc21_173, if_neg hc28_176, own_co] using F_other_o0), (by simpa only [if_neg hc1_170, if_neg hc21_173, if_neg hc28_176, own_ce] using F_errors_o0)⟩
theorem d5_0 : decode method_2_code 0 = .ok (.iload_n 0, 1) := by decide +kernel
theorem d5_1 : decode method_2_code 1 = .ok (.ifCond .ne 5, 3) := by decide +kernel
theorem d5_4 : decode method_2_code 4 = .ok (.iconst 2, 1) := by decide +kernel
theorem d5_5 : decode method_2_code 5 = .ok (.ireturn, 1) := by decide +kernel
theorem d5_6 : decode method_2_code 6 = .ok (.iload_n 0, 1) := by decide +kernel
theorem d5_7 : decode method_2_code 7 = .ok (.sipush 199, 3) := by decide +kernel
theorem d5_10 : decode method_2_code 10 = .ok (.if_icmp .le 12, 3) := by decide +kernel
theorem d5_13 : decode method_2_code 13 = .ok (.iload_n 0, 1) := by decide +kernel
theorem d5_14 : decode method_2_code 14 = .ok (.sipush 300, 3) := by decide +kernel
theorem d5_17 : decode method_2_code 17 = .ok (.if_icmp .ge 5, 3) := by decide +kernel
theorem d5_20 : decode method_2_code 20 = .ok (.iconst 0, 1) := by decide +kernel
theorem d5_21 : decode method_2_code 21 = .ok (.ireturn, 1) := by decide +kernel
theorem d5_22 : decode method_2_code 22 = .ok (.iconst 1, 1) := by decide +kernel
theorem d5_23 : decode method_2_code 23 = .ok (.ireturn, 1) := by decide +kernel
theorem ef_knd (m : MethodId) (x0 : Int32) : entryFrame m #[(.int x0)] 1 = mkF m 0 #[.val (.int x0)] [] := by first | (simp [entryFrame, mkF, argsToLocals, Value.category]; done) | rfl
def fknd (p0 : Int32) : Int32 := (if p0 = (0 : Int32) then (2 : Int32) else (if (199 : Int32) < p0 then (if p0 < (300 : Int32) then (0 : Int32) else (1 : Int32)) else (1 : Int32)))
def Qknd (Z : State) (p0 : Int32) (h0 : Heap) (n0 : Nat) (v : Option Value) (h : Heap) (L : List Loc) : Prop := (v = some (.int (fknd p0))) ∧ (Fr n0 L) ∧ (h = h0)
set_option maxRecDepth 65536 in
set_option maxHeartbeats 40000000 in
theorem rmknd (l : Launch) (Z : State) (a0 : Array Value) (hw : ∀ d ∈ tables_1, d.before a0 Z = true) (ws : List Jvm.Cond) (p0 : Int32) (h0 : Heap) (n0 : Nat) (Z0 : n0 ≤ h0.size) :
    MetFree l (⟨"com/example/wide_area_crawler/wideareacrawler/CrawlCountsCountPinLaw", "kind", "(I)I"⟩ : MethodName) (head1 (Jvm.Cond.code (⟨"com/example/wide_area_crawler/wideareacrawler/CrawlCountsCountPinLaw", "kind", "(I)I"⟩ : MethodName) method_2_code 1 (some .int) :: ws) ({ frames := 0, cells := 0, slots := 0, locals := 0 } : Room)) (fun a U => a = #[(.int p0)] ∧ Z.Warmed39 U.vm ∧ U.heap = h0) (fun _ _ _ _ _ => True) (fun _ U o U' => ∃ v L, o = .returned v ∧ Qknd Z p0 h0 n0 v U'.heap L ∧ FrameEnd U o U' L ({ frames := 0, cells := 0, slots := 0, locals := 0 } : Room).cells ({ frames := 0, cells := 0, slots := 0, locals := 0 } : Room).slots) := by
  refine MetFree.of_bodySF (plainFor_of_name pn_9) hisR ?_
  intro p e s m args below meth c s₁ Bd hml0 hP hK
  obtain ⟨rfl, hZ, hh⟩ := hP
  have hx := Bd.exec
  have hby := Bd.bytes
  have hml : c.maxLocals = 1 := hml0
  have hown : s.vm.findClass "com/example/wide_area_crawler/wideareacrawler/CrawlCountsCountPinLaw" = some m.cls := findClass_of_methodNamed Bd.named
  have hnm := (name_of_methodNamed Bd.named Bd.method).1
  have X0 : Stand p l e ({ frames := 0, cells := 0, slots := 0, locals := 0 } : Room) s m #[(.int p0)] below meth c s₁ [] 0 0 := Stand.of_body Bd
  have e0 : s₁.heap = h0 := by rw [← hh, Bd.state]; rfl
  have N0 := Fr.nil n0
  refine Ends.opn ?_
  intro QQ hQQ
  refine Ends.step (S' := s₁.setTop (mkF m 0 #[.val (.int p0)] [])) (fun t k => castTop (ef_knd m p0) k) ?_
  show Ends p e below QQ (s₁.setTop (mkF m 0 #[.val (.int p0)] []))
  refine Ends.step (fun _ k => XS.iloadN X0.here hx rfl (hb hby d5_0) rfl k) ?_
  show Ends p e below QQ (s₁.setTop (mkF m 1 #[.val (.int p0)] [(.int p0)]))
  by_cases hc1_181 : p0 = (0 : Int32)
  · refine Ends.step (fun _ k => XS.ifNo X0.here hx rfl (hb hby d5_1) rfl (XT.i0_ne_f hc1_181) k) ?_
    show Ends p e below QQ (s₁.setTop (mkF m 4 #[.val (.int p0)] []))
    refine Ends.step (fun _ k => XT.iconstV X0.here hx rfl (2 : Int32) (hb hby d5_4) rfl k) ?_
    show Ends p e below QQ (s₁.setTop (mkF m 5 #[.val (.int p0)] [(.int (2 : Int32))]))
    exact Ends.fin (some (.int (2 : Int32))) X0 hQQ (fun h => by rw [Bd.returns] at h; cases h) Bd.notSynchronized (fun _ hr => retOut X0 hx (t := .int) Bd.returns rfl (Or.inl ⟨rfl, Or.inl rfl, _, rfl⟩) (hb hby d5_5) hr) e0 (by decide) (by decide) ⟨(by simp only [fknd, if_pos hc1_181]), N0, rfl⟩
  · refine Ends.step (fun _ k => XS.ifYes X0.here hx rfl (pc0 := 1) (pc' := 6) rfl (hb hby d5_1) rfl (XT.i0_ne_t hc1_181) (by decide) (by decide) k) ?_
    show Ends p e below QQ (s₁.setTop (mkF m 6 #[.val (.int p0)] []))
    refine Ends.step (fun _ k => XS.iloadN X0.here hx rfl (hb hby d5_6) rfl k) ?_
    show Ends p e below QQ (s₁.setTop (mkF m 7 #[.val (.int p0)] [(.int p0)]))
    refine Ends.step (fun _ k => XT.sipushV X0.here hx rfl (199 : Int32) (hb hby d5_7) rfl k) ?_
    show Ends p e below QQ (s₁.setTop (mkF m 10 #[.val (.int p0)] [(.int (199 : Int32)), (.int p0)]))
    by_cases hc10_182 : (199 : Int32) < p0
    · refine Ends.step (fun _ k => XS.icmpNo X0.here hx rfl (hb hby d5_10) rfl (XT.ii_le_f hc10_182) k) ?_
      show Ends p e below QQ (s₁.setTop (mkF m 13 #[.val (.int p0)] []))
      refine Ends.step (fun _ k => XS.iloadN X0.here hx rfl (hb hby d5_13) rfl k) ?_
      show Ends p e below QQ (s₁.setTop (mkF m 14 #[.val (.int p0)] [(.int p0)]))
      refine Ends.step (fun _ k => XT.sipushV X0.here hx rfl (300 : Int32) (hb hby d5_14) rfl k) ?_
      show Ends p e below QQ (s₁.setTop (mkF m 17 #[.val (.int p0)] [(.int (300 : Int32)), (.int p0)]))
      by_cases hc17_183 : p0 < (300 : Int32)
      · refine Ends.step (fun _ k => XS.icmpNo X0.here hx rfl (hb hby d5_17) rfl (XT.ii_ge_f hc17_183) k) ?_
        show Ends p e below QQ (s₁.setTop (mkF m 20 #[.val (.int p0)] []))
        refine Ends.step (fun _ k => XT.iconstV X0.here hx rfl (0 : Int32) (hb hby d5_20) rfl k) ?_
        show Ends p e below QQ (s₁.setTop (mkF m 21 #[.val (.int p0)] [(.int (0 : Int32))]))
        exact Ends.fin (some (.int (0 : Int32))) X0 hQQ (fun h => by rw [Bd.returns] at h; cases h) Bd.notSynchronized (fun _ hr => retOut X0 hx (t := .int) Bd.returns rfl (Or.inl ⟨rfl, Or.inl rfl, _, rfl⟩) (hb hby d5_21) hr) e0 (by decide) (by decide) ⟨(by simp only [fknd, if_neg hc1_181, if_pos hc10_182, if_pos hc17_183]), N0, rfl⟩
      · refine Ends.step (fun _ k => XS.icmpYes X0.here hx rfl (pc0 := 17) (pc' := 22) rfl (hb hby d5_17) rfl (XT.ii_ge_t hc17_183) (by decide) (by decide) k) ?_
        show Ends p e below QQ (s₁.setTop (mkF m 22 #[.val (.int p0)] []))
        refine Ends.step (fun _ k => XT.iconstV X0.here hx rfl (1 : Int32) (hb hby d5_22) rfl k) ?_
        show Ends p e below QQ (s₁.setTop (mkF m 23 #[.val (.int p0)] [(.int (1 : Int32))]))
        exact Ends.fin (some (.int (1 : Int32))) X0 hQQ (fun h => by rw [Bd.returns] at h; cases h) Bd.notSynchronized (fun _ hr => retOut X0 hx (t := .int) Bd.returns rfl (Or.inl ⟨rfl, Or.inl rfl, _, rfl⟩) (hb hby d5_23) hr) e0 (by decide) (by decide) ⟨(by simp only [fknd, if_neg hc1_181, if_pos hc10_182, if_neg hc17_183]), N0, rfl⟩
    · refine Ends.step (fun _ k => XS.icmpYes X0.here hx rfl (pc0 := 10) (pc' := 22) rfl (hb hby d5_10) rfl (XT.ii_le_t hc10_182) (by decide) (by decide) k) ?_
      show Ends p e below QQ (s₁.setTop (mkF m 22 #[.val (.int p0)] []))
      refine Ends.step (fun _ k => XT.iconstV X0.here hx rfl (1 : Int32) (hb hby d5_22) rfl k) ?_
      show Ends p e below QQ (s₁.setTop (mkF m 23 #[.val (.int p0)] [(.int (1 : Int32))]))
      exact Ends.fin (some (.int (1 : Int32))) X0 hQQ (fun h => by rw [Bd.returns] at h; cases h) Bd.notSynchronized (fun _ hr => retOut X0 hx (t := .int) Bd.returns rfl (Or.inl ⟨rfl, Or.inl rfl, _, rfl⟩) (hb hby d5_23) hr) e0 (by decide) (by decide) ⟨(by simp only [fknd, if_neg hc1_181, if_neg hc10_182]), N0, rfl⟩
theorem d4_0 : decode method_3_code 0 = .ok (.iload_n 0, 1) := by decide +kernel
theorem d4_1 : decode method_3_code 1 = .ok (.invokestatic 7, 3) := by decide +kernel
theorem d4_4 : decode method_3_code 4 = .ok (.iload_n 1, 1) := by decide +kernel
theorem d4_5 : decode method_3_code 5 = .ok (.if_icmp .ne 7, 3) := by decide +kernel
theorem d4_8 : decode method_3_code 8 = .ok (.iconst 1, 1) := by decide +kernel
theorem d4_9 : decode method_3_code 9 = .ok (.goto 4, 3) := by decide +kernel
theorem d4_12 : decode method_3_code 12 = .ok (.iconst 0, 1) := by decide +kernel
theorem d4_13 : decode method_3_code 13 = .ok (.ireturn, 1) := by decide +kernel
theorem ef_hit (m : MethodId) (x0 : Int32) (x1 : Int32) : entryFrame m #[(.int x0), (.int x1)] 2 = mkF m 0 #[.val (.int x0), .val (.int x1)] [] := by first | (simp [entryFrame, mkF, argsToLocals, Value.category]; done) | rfl
def fhit_v13_1 (p0 : Int32) (p1 : Int32) : Int32 := (if (fknd p0) = p1 then (1 : Int32) else (0 : Int32))
def fhit (p0 : Int32) (p1 : Int32) : Int32 := (fhit_v13_1 p0 p1)
def Qhit (Z : State) (p0 : Int32) (p1 : Int32) (h0 : Heap) (n0 : Nat) (v : Option Value) (h : Heap) (L : List Loc) : Prop := (v = some (.int (fhit p0 p1))) ∧ (Fr n0 L) ∧ (h = h0)
set_option maxRecDepth 65536 in
set_option maxHeartbeats 40000000 in
theorem rmhit (l : Launch) (Z : State) (a0 : Array Value) (hw : ∀ d ∈ tables_1, d.before a0 Z = true) (ws : List Jvm.Cond) (p0 : Int32) (p1 : Int32) (h0 : Heap) (n0 : Nat) (Z0 : n0 ≤ h0.size) :
    MetFree l (⟨"com/example/wide_area_crawler/wideareacrawler/CrawlCountsCountPinLaw", "hit", "(II)I"⟩ : MethodName) (head1 (Jvm.Cond.code (⟨"com/example/wide_area_crawler/wideareacrawler/CrawlCountsCountPinLaw", "hit", "(II)I"⟩ : MethodName) method_3_code 2 (some .int) :: ws) ({ frames := 1, cells := 0, slots := 0, locals := 12 } : Room)) (fun a U => a = #[(.int p0), (.int p1)] ∧ Z.Warmed39 U.vm ∧ U.heap = h0) (fun _ _ _ _ _ => True) (fun _ U o U' => ∃ v L, o = .returned v ∧ Qhit Z p0 p1 h0 n0 v U'.heap L ∧ FrameEnd U o U' L ({ frames := 1, cells := 0, slots := 0, locals := 12 } : Room).cells ({ frames := 1, cells := 0, slots := 0, locals := 12 } : Room).slots) := by
  refine MetFree.of_bodySF (plainFor_of_name pn_9) hisR ?_
  intro p e s m args below meth c s₁ Bd hml0 hP hK
  obtain ⟨rfl, hZ, hh⟩ := hP
  have hx := Bd.exec
  have hby := Bd.bytes
  have hml : c.maxLocals = 2 := hml0
  have hown : s.vm.findClass "com/example/wide_area_crawler/wideareacrawler/CrawlCountsCountPinLaw" = some m.cls := findClass_of_methodNamed Bd.named
  have hnm := (name_of_methodNamed Bd.named Bd.method).1
  have X0 : Stand p l e ({ frames := 1, cells := 0, slots := 0, locals := 12 } : Room) s m #[(.int p0), (.int p1)] below meth c s₁ [] 0 0 := Stand.of_body Bd
  have e0 : s₁.heap = h0 := by rw [← hh, Bd.state]; rfl
  have N0 := Fr.nil n0
  refine Ends.opn ?_
  intro QQ hQQ
  refine Ends.step (S' := s₁.setTop (mkF m 0 #[.val (.int p0), .val (.int p1)] [])) (fun t k => castTop (ef_hit m p0 p1) k) ?_
  show Ends p e below QQ (s₁.setTop (mkF m 0 #[.val (.int p0), .val (.int p1)] []))
  refine Ends.step (fun _ k => XS.iloadN X0.here hx rfl (hb hby d4_0) rfl k) ?_
  show Ends p e below QQ (s₁.setTop (mkF m 1 #[.val (.int p0), .val (.int p1)] [(.int p0)]))
  obtain ⟨_, _, ⟨T184, L184, k184, n184⟩, -, X184, ⟨Lc184, hQ184, l184, y184, z184⟩, st184⟩ := Jvm.LawKit.callS X0 hx (y := (⟨"com/example/wide_area_crawler/wideareacrawler/CrawlCountsCountPinLaw", "kind", "(I)I"⟩ : MethodName)) hown (mvT hZ (hw _ (List.mem_of_getElem? (i := 22) rfl))) (mvT hZ (hw _ (List.mem_of_getElem? (i := 23) rfl))) (mvT hZ (hw _ (List.mem_of_getElem? (i := 20) rfl))) (mvT hZ (hw _ (List.mem_of_getElem? (i := 24) rfl))) (by decide) (backOf (W := 0) (rmknd l Z a0 hw [] p0 h0 n0 (Nat.le_trans Z0 (Keep.refl h0 []).1)) hZ (hw _ (List.mem_of_getElem? (i := 24) rfl)) (hw _ (List.mem_of_getElem? (i := 20) rfl)) (by decide) (by decide)) (g := (mkF m 1 #[.val (.int p0), .val (.int p1)] [(.int p0)])) rfl (by rw [hml]; rfl) (argsL := [(.int p0)]) (rest := []) (lenOf pd_13 rfl) rfl (by show 2 * 0 + _ ≤ _; exact Nat.le_of_eq rfl) (hb hby d4_1) (fun _ _ => ⟨rfl, e0, (by decide : 0 + 0 ≤ _), (by decide : 0 + 0 ≤ _)⟩)
  dsimp only [Pt.U, Pt.locs, Pt.cells, Pt.slots] at X184 l184 y184 z184 st184 hQ184
  subst l184 y184 z184
  obtain ⟨rfl, Nq184, hh184⟩ := hQ184
  have N184 := Fr.app N0 Nq184
  refine Ends.step st184 ?_
  show Ends p e below QQ (T184.setTop (mkF m 4 #[.val (.int p0), .val (.int p1)] [(.int (fknd p0))]))
  refine Ends.step (fun _ k => XS.iloadN X184.here hx rfl (hb hby d4_4) rfl k) ?_
  show Ends p e below QQ (T184.setTop (mkF m 5 #[.val (.int p0), .val (.int p1)] [(.int p1), (.int (fknd p0))]))
  have J13_185 : (∀ (v13_1 : Int32) (hv13_1 : v13_1 = (if (fknd p0) = p1 then (1 : Int32) else (0 : Int32))), Ends p e below QQ (T184.setTop (mkF m 13 #[.val (.int p0), .val (.int p1)] [(.int v13_1)]))) → Ends p e below QQ (T184.setTop (mkF m 5 #[.val (.int p0), .val (.int p1)] [(.int p1), (.int (fknd p0))])) := by
    intro hJ
    by_cases hc5_186 : (fknd p0) = p1
    · refine Ends.step (fun _ k => XS.icmpNo X184.here hx rfl (hb hby d4_5) rfl (XT.ii_ne_f hc5_186) k) ?_
      show Ends p e below QQ (T184.setTop (mkF m 8 #[.val (.int p0), .val (.int p1)] []))
      refine Ends.step (fun _ k => XT.iconstV X184.here hx rfl (1 : Int32) (hb hby d4_8) rfl k) ?_
      show Ends p e below QQ (T184.setTop (mkF m 9 #[.val (.int p0), .val (.int p1)] [(.int (1 : Int32))]))
      refine Ends.step (fun _ k => XS.goto X184.here hx rfl (pc0 := 9) (pc' := 13) rfl (hb hby d4_9) (by decide) (by decide) k) ?_
      exact hJ _ (by simp only [if_pos hc5_186])
    · refine Ends.step (fun _ k => XS.icmpYes X184.here hx rfl (pc0 := 5) (pc' := 12) rfl (hb hby d4_5) rfl (XT.ii_ne_t hc5_186) (by decide) (by decide) k) ?_
      show Ends p e below QQ (T184.setTop (mkF m 12 #[.val (.int p0), .val (.int p1)] []))
      refine Ends.step (fun _ k => XT.iconstV X184.here hx rfl (0 : Int32) (hb hby d4_12) rfl k) ?_
      exact hJ _ (by simp only [if_neg hc5_186])
  refine J13_185 fun v13_1 hv13_1 => ?_
  have dv13_1 : fhit_v13_1 p0 p1 = v13_1 := by
    simp only [fhit_v13_1]
    exact hv13_1.symm
  show Ends p e below QQ (T184.setTop (mkF m 13 #[.val (.int p0), .val (.int p1)] [(.int v13_1)]))
  exact Ends.fin (some (.int v13_1)) X184 hQQ (fun h => by rw [Bd.returns] at h; cases h) Bd.notSynchronized (fun _ hr => retOut X184 hx (t := .int) Bd.returns rfl (Or.inl ⟨rfl, Or.inl rfl, _, rfl⟩) (hb hby d4_13) hr) hh184 (by decide) (by decide) ⟨(by simp only [fhit, dv13_1]), N184, rfl⟩
theorem d6_0 : decode prog_7_method_3_code 0 = .ok (.new 19, 3) := by decide +kernel
theorem d6_3 : decode prog_7_method_3_code 3 = .ok (.dup, 1) := by decide +kernel
theorem d6_4 : decode prog_7_method_3_code 4 = .ok (.invokespecial 21, 3) := by decide +kernel
theorem d6_7 : decode prog_7_method_3_code 7 = .ok (.ldc 22, 2) := by decide +kernel
theorem d6_9 : decode prog_7_method_3_code 9 = .ok (.invokevirtual 24, 3) := by decide +kernel
theorem d6_12 : decode prog_7_method_3_code 12 = .ok (.aload_n 0, 1) := by decide +kernel
theorem d6_13 : decode prog_7_method_3_code 13 = .ok (.getfield 13, 3) := by decide +kernel
theorem d6_16 : decode prog_7_method_3_code 16 = .ok (.invokevirtual 28, 3) := by decide +kernel
theorem d6_19 : decode prog_7_method_3_code 19 = .ok (.ldc 31, 2) := by decide +kernel
theorem d6_21 : decode prog_7_method_3_code 21 = .ok (.invokevirtual 24, 3) := by decide +kernel
theorem d6_24 : decode prog_7_method_3_code 24 = .ok (.aload_n 0, 1) := by decide +kernel
theorem d6_25 : decode prog_7_method_3_code 25 = .ok (.getfield 16, 3) := by decide +kernel
theorem d6_28 : decode prog_7_method_3_code 28 = .ok (.invokevirtual 28, 3) := by decide +kernel
theorem d6_31 : decode prog_7_method_3_code 31 = .ok (.ldc 33, 2) := by decide +kernel
theorem d6_33 : decode prog_7_method_3_code 33 = .ok (.invokevirtual 24, 3) := by decide +kernel
theorem d6_36 : decode prog_7_method_3_code 36 = .ok (.aload_n 0, 1) := by decide +kernel
theorem d6_37 : decode prog_7_method_3_code 37 = .ok (.getfield 7, 3) := by decide +kernel
theorem d6_40 : decode prog_7_method_3_code 40 = .ok (.invokevirtual 28, 3) := by decide +kernel
theorem d6_43 : decode prog_7_method_3_code 43 = .ok (.invokevirtual 35, 3) := by decide +kernel
theorem d6_46 : decode prog_7_method_3_code 46 = .ok (.areturn, 1) := by decide +kernel
theorem ef_dl (m : MethodId) (x0 : Addr) : entryFrame m #[(.ref x0)] 1 = mkF m 0 #[.val (.ref x0)] [] := by first | (simp [entryFrame, mkF, argsToLocals, Value.category]; done) | rfl
def Qdl (Z : State) (o0 : Addr) (u1 : Int64) (u2 : Int64) (u3 : Int64) (cs : Int32) (a_D1 : Addr) (k_a_D1 : ClassId) (h0 : Heap) (n0 : Nat) (v : Option Value) (h : Heap) (L : List Loc) : Prop := ∃ (sx : Addr), ∃ (sa : Addr), ∃ (sk : ClassId), (v = some (.ref sx)) ∧ (Fr n0 L) ∧ (Keep h0 h []) ∧ (h0.size ≤ sx) ∧ (h0.size ≤ sa) ∧ (n0 ≤ sx) ∧ (n0 ≤ sa) ∧ (Exa Z h sx "java/lang/String") ∧ (Fld Z h sx "java/lang/String" "value" "[B" (.ref sa)) ∧ (Fld Z h sx "java/lang/String" "coder" "B" (.int (0 : Int32))) ∧ (Exa Z h sa "[B") ∧ (Arv Z h sa sk .byte (27 : Int32) [(.int (100 : Int32)), (.int (111 : Int32)), (.int (110 : Int32)), (.int (101 : Int32)), (.int (58 : Int32)), (.int (32 : Int32)), (.int (111 : Int32)), (.int (107 : Int32)), (.int (61 : Int32)), (.int (own_dg ((u1).toInt))), (.int (32 : Int32)), (.int (111 : Int32)), (.int (116 : Int32)), (.int (104 : Int32)), (.int (101 : Int32)), (.int (114 : Int32)), (.int (61 : Int32)), (.int (own_dg ((u2).toInt))), (.int (32 : Int32)), (.int (101 : Int32)), (.int (114 : Int32)), (.int (114 : Int32)), (.int (111 : Int32)), (.int (114 : Int32)), (.int (115 : Int32)), (.int (61 : Int32)), (.int (own_dg ((u3).toInt)))] (.int (0 : Int32))) ∧ (sx ≠ sa)
set_option maxRecDepth 65536 in
set_option maxHeartbeats 40000000 in
theorem rmdl (l : Launch) (Z : State) (a0 : Array Value) (hw : ∀ d ∈ tables_1, d.before a0 Z = true) (ws : List Jvm.Cond) (o0 : Addr) (u1 : Int64) (u2 : Int64) (u3 : Int64) (cs : Int32) (a_D1 : Addr) (k_a_D1 : ClassId) (h0 : Heap) (n0 : Nat) (Z0 : n0 ≤ h0.size) (E_o0 : Exa Z h0 o0 "com/example/wide_area_crawler/wideareacrawler/CrawlCounts") (F_ok_o0 : Fld Z h0 o0 "com/example/wide_area_crawler/wideareacrawler/CrawlCounts" "ok" "J" (.long u1)) (F_other_o0 : Fld Z h0 o0 "com/example/wide_area_crawler/wideareacrawler/CrawlCounts" "other" "J" (.long u2)) (F_errors_o0 : Fld Z h0 o0 "com/example/wide_area_crawler/wideareacrawler/CrawlCounts" "errors" "J" (.long u3)) (S_COMPACT_STRINGS : Sta Z h0 "java/lang/String" "COMPACT_STRINGS" "Z" (.int cs)) (hcs : ¬ cs = (0 : Int32)) (A_a_D1 : Arv Z h0 a_D1 k_a_D1 .byte (100 : Int32) own_ones (.int (0 : Int32))) (S_DigitOnes : Sta Z h0 "java/lang/Integer" "DigitOnes" "[B" (.ref a_D1)) (k1 : 0 ≤ u1.toInt ∧ u1.toInt < 10) (k2 : 0 ≤ u2.toInt ∧ u2.toInt < 10) (k3 : 0 ≤ u3.toInt ∧ u3.toInt < 10) (hheld_22 : Jvm.Lit.constHeld Z "com/example/wide_area_crawler/wideareacrawler/CrawlCounts" 22) (hheld_31 : Jvm.Lit.constHeld Z "com/example/wide_area_crawler/wideareacrawler/CrawlCounts" 31) (hheld_33 : Jvm.Lit.constHeld Z "com/example/wide_area_crawler/wideareacrawler/CrawlCounts" 33) (hcw : Jvm.Lit.compactW.before a0 Z = true) (hn0 : n0 = Array.size h0) (hkp : ∀ (b : Addr) (cl : Cell), Z.heap[b]? = some cl → h0[b]? = some cl) :
    MetFree l (⟨"com/example/wide_area_crawler/wideareacrawler/CrawlCounts", "doneLine", "()Ljava/lang/String;"⟩ : MethodName) (head1 (Jvm.Cond.code (⟨"com/example/wide_area_crawler/wideareacrawler/CrawlCounts", "doneLine", "()Ljava/lang/String;"⟩ : MethodName) prog_7_method_3_code 1 (some (.object "java/lang/String")) :: ws) ({ frames := 6, cells := 11, slots := 193, locals := 97 } : Room)) (fun a U => a = #[(.ref o0)] ∧ Z.Warmed39 U.vm ∧ U.heap = h0 ∧ IB Z U.vm []) (fun _ _ _ _ _ => True) (fun _ U o U' => ∃ v L, o = .returned v ∧ Qdl Z o0 u1 u2 u3 cs a_D1 k_a_D1 h0 n0 v U'.heap L ∧ ReturnedEndW U o U' L ({ frames := 6, cells := 11, slots := 193, locals := 97 } : Room).cells ({ frames := 6, cells := 11, slots := 193, locals := 97 } : Room).slots) := by
  refine MetFree.of_bodySF (plainFor_of_name pn_8) hisR ?_
  intro p e s m args below meth c s₁ Bd hml0 hP hK
  obtain ⟨rfl, hZ, hh, hIB⟩ := hP
  have hx := Bd.exec
  have hby := Bd.bytes
  have hml : c.maxLocals = 1 := hml0
  have hown : s.vm.findClass "com/example/wide_area_crawler/wideareacrawler/CrawlCounts" = some m.cls := findClass_of_methodNamed Bd.named
  have hnm := (name_of_methodNamed Bd.named Bd.method).1
  have X0 : Stand p l e ({ frames := 6, cells := 11, slots := 193, locals := 97 } : Room) (s.setVm s.vm) m #[(.ref o0)] below meth c s₁ [] 0 0 := Stand.of_body Bd
  have e0 : s₁.heap = h0 := by rw [← hh, Bd.state]; rfl
  have N0 := Fr.nil n0
  have hS : s.Since s.vm 0 := (State.WarmedH.refl s).since 0
  have hk : 0 ≤ Array.size h0 := Nat.zero_le _
  have hkeep : ∀ (b : Addr) (cl : Cell), Z.heap[b]? = some cl → s.heap[b]? = some cl := by rw [hh]; exact hkp
  have IBf : IB Z s.vm [] := hIB
  refine Ends.opn ?_
  intro QQ hQQ
  refine Ends.step (S' := s₁.setTop (mkF m 0 #[.val (.ref o0)] [])) (fun t k => castTop (ef_dl m o0) k) ?_
  show Ends p e below QQ (s₁.setTop (mkF m 0 #[.val (.ref o0)] []))
  obtain ⟨T187, h187, X187, e187, E187, A187, D187, U187, st187⟩ := newO X0 hx hZ hown (hw _ (List.mem_of_getElem? (i := 30) rfl)) (hw _ (List.mem_of_getElem? (i := 31) rfl)) (hw _ (List.mem_of_getElem? (i := 32) rfl)) e0 (g := (mkF m 0 #[.val (.ref o0)] [])) rfl (hb hby d6_0) (by decide) (by decide)
  obtain ⟨b187, g187⟩ : ∃ z, z = h0.size := ⟨_, rfl⟩
  rw [← g187] at A187 D187 U187 st187
  have ne_o0_b187 : o0 ≠ b187 := Nat.ne_of_lt (Nat.lt_of_lt_of_le E_o0.lt (Nat.le_of_eq g187.symm))
  have ne_a_D1_b187 : a_D1 ≠ b187 := Nat.ne_of_lt (Nat.lt_of_lt_of_le A_a_D1.lt (Nat.le_of_eq g187.symm))
  have g_b187 : n0 ≤ b187 := Nat.le_trans Z0 (Nat.le_trans (Keep.refl h0 []).1 (Nat.le_of_eq g187.symm))
  have sz_b187 : h0.size ≤ b187 := Nat.le_trans (Keep.refl h0 []).1 (Nat.le_of_eq g187.symm)
  have E_o0 := E_o0.ext E187
  have F_ok_o0 := F_ok_o0.ext E187
  have F_other_o0 := F_other_o0.ext E187
  have F_errors_o0 := F_errors_o0.ext E187
  have S_COMPACT_STRINGS := S_COMPACT_STRINGS.ext E187
  have A_a_D1 := A_a_D1.ext E187
  have S_DigitOnes := S_DigitOnes.ext E187
  have hk := Nat.le_trans hk E187.1
  have K187 := (Keep.refl h0 []).ext E187
  have E_b187 := A187
  have F_value_b187 : Fld Z h187 b187 "java/lang/AbstractStringBuilder" "value" "[B" .null := D187 (Or.inl (hw _ (List.mem_of_getElem? (i := 47) rfl))) (ty := (.array .byte)) (by decide)
  have F_coder_b187 : Fld Z h187 b187 "java/lang/AbstractStringBuilder" "coder" "B" (.int (0 : Int32)) := D187 (Or.inl (hw _ (List.mem_of_getElem? (i := 49) rfl))) (ty := .byte) (by decide)
  have F_count_b187 : Fld Z h187 b187 "java/lang/AbstractStringBuilder" "count" "I" (.int (0 : Int32)) := D187 (Or.inl (hw _ (List.mem_of_getElem? (i := 80) rfl))) (ty := .int) (by decide)
  refine Ends.step st187 ?_
  show Ends p e below QQ (T187.setTop (mkF m 3 #[.val (.ref o0)] [(.ref b187)]))
  refine Ends.step (fun _ k => XS.dup X187.here hx rfl (hb hby d6_3) rfl rfl k) ?_
  show Ends p e below QQ (T187.setTop (mkF m 4 #[.val (.ref o0)] [(.ref b187), (.ref b187)]))
  obtain ⟨_, _, ⟨T188, L188, k188, n188⟩, -, X188, ⟨Lc188, hQ188, l188, y188, z188⟩, st188⟩ := X187.specialBack hx (y := (⟨"java/lang/StringBuilder", "<init>", "()V"⟩ : MethodName)) rfl hown (mvT hZ (hw _ (List.mem_of_getElem? (i := 33) rfl))) (mvT hZ (hw _ (List.mem_of_getElem? (i := 34) rfl))) (mvT hZ (hw _ (List.mem_of_getElem? (i := 35) rfl))) (by decide) (backOf (W := 1) (rmsb l Z a0 hw [] b187 (.null : Value) (0 : Int32) cs h187 n0 (Nat.le_trans Z0 K187.1) E_b187 F_value_b187 F_coder_b187 F_count_b187 g_b187 S_COMPACT_STRINGS hcs) hZ (hw _ (List.mem_of_getElem? (i := 35) rfl)) (hw _ (List.mem_of_getElem? (i := 32) rfl)) (by decide) (by decide)) (g := (mkF m 4 #[.val (.ref o0)] [(.ref b187), (.ref b187)])) rfl (by rw [hml]; rfl) (Steps.refl _) (a := b187) (argsL := []) (rest := [(.ref b187)]) (lenOf pd_22 rfl) rfl (by show 2 * 0 + _ ≤ _; exact Nat.le_of_eq rfl) (hb hby d6_4) (fun _ _ => ⟨rfl, e187, (by decide : 1 + 1 ≤ _), (by decide : 4 + 16 ≤ _)⟩)
  dsimp only [Pt.U, Pt.locs, Pt.cells, Pt.slots] at X188 l188 y188 z188 st188 hQ188
  subst l188 y188 z188
  obtain ⟨vb_188, kb_188, rfl, Nq188, Kq188, fq188_0, fq188_1, fq188_2, fq188_3, fq188_4, fq188_5, fq188_6, fq188_7⟩ := hQ188
  have N188 := Fr.app N0 Nq188
  have ne_o0_vb_188 : o0 ≠ vb_188 := Nat.ne_of_lt (Nat.lt_of_lt_of_le E_o0.lt fq188_0)
  have ne_a_D1_vb_188 : a_D1 ≠ vb_188 := Nat.ne_of_lt (Nat.lt_of_lt_of_le A_a_D1.lt fq188_0)
  have ne_b187_vb_188 : b187 ≠ vb_188 := Nat.ne_of_lt (Nat.lt_of_lt_of_le E_b187.lt fq188_0)
  have sz_vb_188 := Nat.le_trans K187.1 fq188_0
  have S_COMPACT_STRINGS := own_sta_keep S_COMPACT_STRINGS Kq188 (allS E_b187.cell all0)
  have S_DigitOnes := own_sta_keep S_DigitOnes Kq188 (allS E_b187.cell all0)
  have E_o0 := E_o0.keep Kq188
  have F_ok_o0 := F_ok_o0.keep Kq188 (ninS ne_o0_b187 nin0)
  have F_other_o0 := F_other_o0.keep Kq188 (ninS ne_o0_b187 nin0)
  have F_errors_o0 := F_errors_o0.keep Kq188 (ninS ne_o0_b187 nin0)
  have A_a_D1 := A_a_D1.keep Kq188 (ninS ne_a_D1_b187 nin0)
  have hk := Nat.le_trans hk Kq188.1
  have g_vb_188 := fq188_1
  have E_b187 := fq188_2
  have F_value_b187 := fq188_3
  have F_coder_b187 := fq188_4
  have F_count_b187 := fq188_5
  have E_vb_188 := fq188_6
  have A_vb_188 := fq188_7
  have K188 := K187.trans Kq188 (allS (Or.inr sz_b187) all0)
  refine Ends.step (fun _ k => st188.trans k) ?_
  show Ends p e below QQ (T188.setTop (mkF m 7 #[.val (.ref o0)] [(.ref b187)]))
  obtain ⟨a189, T189, h189, kk189, b189, kc189, X189, e189, E189, hS, hk, hZ, hown, EA189, FC189, FV189, AV189, -, -, IBf, Lt189, st189⟩ := ldcSVL X188 hx hZ hown (hw _ (List.mem_of_getElem? (i := 50) rfl)) (own_wS hw) rfl hS hk (by rw [hh, ← hn0]; exact N188) hkeep IBf (by decide) hheld_22 hcw (vs := [(.int (100 : Int32)), (.int (111 : Int32)), (.int (110 : Int32)), (.int (101 : Int32)), (.int (58 : Int32)), (.int (32 : Int32)), (.int (111 : Int32)), (.int (107 : Int32)), (.int (61 : Int32))]) (z := (9 : Int32)) ⟨by decide +kernel, by decide +kernel⟩ (by decide) (by decide) (g := (mkF m 7 #[.val (.ref o0)] [(.ref b187)])) rfl (hb hby d6_7) (n := 36) (by decide +kernel) (by decide) (by decide) (by decide)
  have E_o0 := E_o0.ext E189
  have F_ok_o0 := F_ok_o0.ext E189
  have F_other_o0 := F_other_o0.ext E189
  have F_errors_o0 := F_errors_o0.ext E189
  have S_COMPACT_STRINGS := S_COMPACT_STRINGS.ext E189
  have A_a_D1 := A_a_D1.ext E189
  have S_DigitOnes := S_DigitOnes.ext E189
  have E_b187 := E_b187.ext E189
  have F_value_b187 := F_value_b187.ext E189
  have F_coder_b187 := F_coder_b187.ext E189
  have F_count_b187 := F_count_b187.ext E189
  have E_vb_188 := E_vb_188.ext E189
  have A_vb_188 := A_vb_188.ext E189
  have K189 := K188.ext E189
  have E_a189 := EA189
  have F_coder_a189 := FC189
  have F_value_a189 := FV189
  have A_b189 := AV189
  have ne_o0_a189 : o0 ≠ a189 := own_neE E_o0 E_a189 (by decide)
  have ne_o0_b189 : o0 ≠ b189 := own_neEA E_o0 (hw _ (List.mem_of_getElem? (i := 1) rfl)) A_b189 (by decide)
  have ne_a_D1_a189 : a_D1 ≠ a189 := Ne.symm (own_neEA E_a189 (hw _ (List.mem_of_getElem? (i := 51) rfl)) A_a_D1 (by decide))
  have ne_a_D1_b189 : a_D1 ≠ b189 := own_neA A_a_D1 A_b189 (by decide)
  have ne_b187_a189 : b187 ≠ a189 := own_neE E_b187 E_a189 (by decide)
  have ne_b187_b189 : b187 ≠ b189 := own_neEA E_b187 (hw _ (List.mem_of_getElem? (i := 31) rfl)) A_b189 (by decide)
  have ne_vb_188_a189 : vb_188 ≠ a189 := Ne.symm (own_neEA E_a189 (hw _ (List.mem_of_getElem? (i := 51) rfl)) A_vb_188 (by decide))
  have ne_vb_188_b189 : vb_188 ≠ b189 := own_neA A_vb_188 A_b189 (by decide)
  refine Ends.step st189 ?_
  show Ends p e below QQ (T189.setTop (mkF m 9 #[.val (.ref o0)] [(.ref a189), (.ref b187)]))
  obtain ⟨cq190, kq190, q190a, q190b, q190c⟩ := isOf hZ e189 E_b187
  obtain ⟨_, _, ⟨T190, L190, k190, n190⟩, -, X190, ⟨Lc190, hQ190, l190, y190, z190⟩, st190⟩ := X189.virtualBack hx (y := (⟨"java/lang/StringBuilder", "append", "(Ljava/lang/String;)Ljava/lang/StringBuilder;"⟩ : MethodName)) (z := (⟨"java/lang/StringBuilder", "append", "(Ljava/lang/String;)Ljava/lang/StringBuilder;"⟩ : MethodName)) hown (mvT hZ (hw _ (List.mem_of_getElem? (i := 56) rfl))) (mvT hZ (hw _ (List.mem_of_getElem? (i := 57) rfl))) (notFace_of_selects (args := #[]) (mvT hZ (hw _ (List.mem_of_getElem? (i := 59) rfl)))) (mvT hZ (hw _ (List.mem_of_getElem? (i := 59) rfl))) (mvT hZ (hw _ (List.mem_of_getElem? (i := 58) rfl))) (by decide) (backOf (W := 0) (rmspsA l Z a0 hw [] b187 a189 vb_188 kb_188 b189 kc189 cs (100 : Int32) (111 : Int32) (110 : Int32) (101 : Int32) (58 : Int32) (32 : Int32) (111 : Int32) (107 : Int32) (61 : Int32) h189 n0 (Nat.le_trans Z0 K189.1) E_b187 F_value_b187 F_coder_b187 F_count_b187 E_vb_188 A_vb_188 g_b187 g_vb_188 ne_b187_vb_188 E_a189 F_value_a189 F_coder_a189 A_b189 ne_vb_188_b189 ne_b187_b189 ne_b187_a189 ne_vb_188_a189 S_COMPACT_STRINGS hcs) hZ (hw _ (List.mem_of_getElem? (i := 60) rfl)) (hw _ (List.mem_of_getElem? (i := 32) rfl)) (by decide) (by decide)) q190a q190c (g := (mkF m 9 #[.val (.ref o0)] [(.ref a189), (.ref b187)])) rfl (by rw [hml]; rfl) (Steps.refl _) (argsL := [(.ref a189)]) (rest := []) (lenOf pd_23 rfl) rfl (by show 2 * 0 + _ ≤ _; exact Nat.le_of_eq rfl) (hb hby d6_9) (fun _ _ => ⟨rfl, e189, (by decide : 4 + 0 ≤ _), (by decide : 60 + 0 ≤ _)⟩)
  dsimp only [Pt.U, Pt.locs, Pt.cells, Pt.slots] at X190 l190 y190 z190 st190 hQ190
  subst l190 y190 z190
  obtain ⟨rfl, Nq190, Kq190, fq190_0, fq190_1, fq190_2, fq190_3, fq190_4, fq190_5⟩ := hQ190
  have N190 := Fr.app N188 Nq190
  have S_COMPACT_STRINGS := own_sta_keep S_COMPACT_STRINGS Kq190 (allS E_b187.cell (allS E_vb_188.cell all0))
  have S_DigitOnes := own_sta_keep S_DigitOnes Kq190 (allS E_b187.cell (allS E_vb_188.cell all0))
  have E_o0 := E_o0.keep Kq190
  have F_ok_o0 := F_ok_o0.keep Kq190 (ninS ne_o0_b187 (ninS ne_o0_vb_188 nin0))
  have F_other_o0 := F_other_o0.keep Kq190 (ninS ne_o0_b187 (ninS ne_o0_vb_188 nin0))
  have F_errors_o0 := F_errors_o0.keep Kq190 (ninS ne_o0_b187 (ninS ne_o0_vb_188 nin0))
  have A_a_D1 := A_a_D1.keep Kq190 (ninS ne_a_D1_b187 (ninS ne_a_D1_vb_188 nin0))
  have hk := Nat.le_trans hk Kq190.1
  have E_a189 := E_a189.keep Kq190
  have F_coder_a189 := F_coder_a189.keep Kq190 (ninS (Ne.symm ne_b187_a189) (ninS (Ne.symm ne_vb_188_a189) nin0))
  have F_value_a189 := F_value_a189.keep Kq190 (ninS (Ne.symm ne_b187_a189) (ninS (Ne.symm ne_vb_188_a189) nin0))
  have A_b189 := A_b189.keep Kq190 (ninS (Ne.symm ne_b187_b189) (ninS (Ne.symm ne_vb_188_b189) nin0))
  have E_b187 := fq190_0
  have F_value_b187 := fq190_1
  have F_coder_b187 := fq190_2
  have F_count_b187 := fq190_3
  have A_vb_188 := fq190_4
  have E_vb_188 := fq190_5
  have K190 := K189.trans Kq190 (allS (Or.inr sz_b187) (allS (Or.inr sz_vb_188) all0))
  refine Ends.step (fun _ k => st190.trans k) ?_
  show Ends p e below QQ (T190.setTop (mkF m 12 #[.val (.ref o0)] [(.ref b187)]))
  refine Ends.step (fun _ k => XS.aloadN X190.here hx rfl (hb hby d6_12) rfl rfl k) ?_
  show Ends p e below QQ (T190.setTop (mkF m 13 #[.val (.ref o0)] [(.ref o0), (.ref b187)]))
  obtain ⟨T191, X191, e191, st191⟩ := getF X190 hx hZ hown (host := "") (Or.inl (hw _ (List.mem_of_getElem? (i := 106) rfl))) Via.refl rfl F_ok_o0 (g := (mkF m 13 #[.val (.ref o0)] [(.ref o0), (.ref b187)])) rfl rfl (hb hby d6_13)
  refine Ends.step st191 ?_
  show Ends p e below QQ (T191.setTop (mkF m 16 #[.val (.ref o0)] [(.long u1), (.ref b187)]))
  obtain ⟨cq192, kq192, q192a, q192b, q192c⟩ := isOf hZ e191 E_b187
  obtain ⟨_, _, ⟨T192, L192, k192, n192⟩, -, X192, ⟨Lc192, hQ192, l192, y192, z192⟩, st192⟩ := X191.virtualBack hx (y := (⟨"java/lang/StringBuilder", "append", "(J)Ljava/lang/StringBuilder;"⟩ : MethodName)) (z := (⟨"java/lang/StringBuilder", "append", "(J)Ljava/lang/StringBuilder;"⟩ : MethodName)) hown (mvT hZ (hw _ (List.mem_of_getElem? (i := 108) rfl))) (mvT hZ (hw _ (List.mem_of_getElem? (i := 109) rfl))) (notFace_of_selects (args := #[]) (mvT hZ (hw _ (List.mem_of_getElem? (i := 111) rfl)))) (mvT hZ (hw _ (List.mem_of_getElem? (i := 111) rfl))) (mvT hZ (hw _ (List.mem_of_getElem? (i := 110) rfl))) (by decide) (backOf (W := 0) (rmsj9 l Z a0 hw [] b187 u1 vb_188 kb_188 cs a_D1 k_a_D1 (100 : Int32) (111 : Int32) (110 : Int32) (101 : Int32) (58 : Int32) (32 : Int32) (111 : Int32) (107 : Int32) (61 : Int32) T190.heap n0 (Nat.le_trans Z0 K190.1) E_b187 F_value_b187 F_coder_b187 F_count_b187 E_vb_188 A_vb_188 g_b187 g_vb_188 ne_b187_vb_188 S_COMPACT_STRINGS hcs A_a_D1 S_DigitOnes ne_a_D1_vb_188 k1.2 k1.1) hZ (hw _ (List.mem_of_getElem? (i := 112) rfl)) (hw _ (List.mem_of_getElem? (i := 32) rfl)) (by decide) (by decide)) q192a q192c (g := (mkF m 16 #[.val (.ref o0)] [(.long u1), (.ref b187)])) rfl (by rw [hml]; rfl) (Steps.refl _) (argsL := [(.long u1)]) (rest := []) (lenOf pd_24 rfl) rfl (by show 2 * 0 + _ ≤ _; exact Nat.le_of_eq rfl) (hb hby d6_16) (fun _ _ => ⟨rfl, e191, (by decide : 4 + 0 ≤ _), (by decide : 60 + 0 ≤ _)⟩)
  dsimp only [Pt.U, Pt.locs, Pt.cells, Pt.slots] at X192 l192 y192 z192 st192 hQ192
  subst l192 y192 z192
  obtain ⟨rfl, Nq192, Kq192, fq192_0, fq192_1, fq192_2, fq192_3, fq192_4, fq192_5⟩ := hQ192
  have N192 := Fr.app N190 Nq192
  have S_COMPACT_STRINGS := own_sta_keep S_COMPACT_STRINGS Kq192 (allS E_b187.cell (allS E_vb_188.cell all0))
  have S_DigitOnes := own_sta_keep S_DigitOnes Kq192 (allS E_b187.cell (allS E_vb_188.cell all0))
  have E_o0 := E_o0.keep Kq192
  have F_ok_o0 := F_ok_o0.keep Kq192 (ninS ne_o0_b187 (ninS ne_o0_vb_188 nin0))
  have F_other_o0 := F_other_o0.keep Kq192 (ninS ne_o0_b187 (ninS ne_o0_vb_188 nin0))
  have F_errors_o0 := F_errors_o0.keep Kq192 (ninS ne_o0_b187 (ninS ne_o0_vb_188 nin0))
  have A_a_D1 := A_a_D1.keep Kq192 (ninS ne_a_D1_b187 (ninS ne_a_D1_vb_188 nin0))
  have hk := Nat.le_trans hk Kq192.1
  have E_a189 := E_a189.keep Kq192
  have F_coder_a189 := F_coder_a189.keep Kq192 (ninS (Ne.symm ne_b187_a189) (ninS (Ne.symm ne_vb_188_a189) nin0))
  have F_value_a189 := F_value_a189.keep Kq192 (ninS (Ne.symm ne_b187_a189) (ninS (Ne.symm ne_vb_188_a189) nin0))
  have A_b189 := A_b189.keep Kq192 (ninS (Ne.symm ne_b187_b189) (ninS (Ne.symm ne_vb_188_b189) nin0))
  have E_b187 := fq192_0
  have F_value_b187 := fq192_1
  have F_coder_b187 := fq192_2
  have F_count_b187 := fq192_3
  have E_vb_188 := fq192_4
  have A_vb_188 := fq192_5
  have K192 := K190.trans Kq192 (allS (Or.inr sz_b187) (allS (Or.inr sz_vb_188) all0))
  refine Ends.step (fun _ k => st192.trans k) ?_
  show Ends p e below QQ (T192.setTop (mkF m 19 #[.val (.ref o0)] [(.ref b187)]))
  obtain ⟨a193, T193, h193, kk193, b193, kc193, X193, e193, E193, hS, hk, hZ, hown, EA193, FC193, FV193, AV193, -, -, IBf, Lt193, st193⟩ := ldcSVL X192 hx hZ hown (hw _ (List.mem_of_getElem? (i := 133) rfl)) (own_wS hw) rfl hS hk (by rw [hh, ← hn0]; exact N192) hkeep IBf (by decide) hheld_31 hcw (vs := [(.int (32 : Int32)), (.int (111 : Int32)), (.int (116 : Int32)), (.int (104 : Int32)), (.int (101 : Int32)), (.int (114 : Int32)), (.int (61 : Int32))]) (z := (7 : Int32)) ⟨by decide +kernel, by decide +kernel⟩ (by decide) (by decide) (g := (mkF m 19 #[.val (.ref o0)] [(.ref b187)])) rfl (hb hby d6_19) (n := 28) (by decide +kernel) (by decide) (by decide) (by decide)
  have E_o0 := E_o0.ext E193
  have F_ok_o0 := F_ok_o0.ext E193
  have F_other_o0 := F_other_o0.ext E193
  have F_errors_o0 := F_errors_o0.ext E193
  have S_COMPACT_STRINGS := S_COMPACT_STRINGS.ext E193
  have A_a_D1 := A_a_D1.ext E193
  have S_DigitOnes := S_DigitOnes.ext E193
  have E_b187 := E_b187.ext E193
  have F_value_b187 := F_value_b187.ext E193
  have F_coder_b187 := F_coder_b187.ext E193
  have F_count_b187 := F_count_b187.ext E193
  have E_vb_188 := E_vb_188.ext E193
  have A_vb_188 := A_vb_188.ext E193
  have E_a189 := E_a189.ext E193
  have F_coder_a189 := F_coder_a189.ext E193
  have F_value_a189 := F_value_a189.ext E193
  have A_b189 := A_b189.ext E193
  have K193 := K192.ext E193
  have E_a193 := EA193
  have F_coder_a193 := FC193
  have F_value_a193 := FV193
  have A_b193 := AV193
  have ne_o0_a193 : o0 ≠ a193 := own_neE E_o0 E_a193 (by decide)
  have ne_o0_b193 : o0 ≠ b193 := own_neEA E_o0 (hw _ (List.mem_of_getElem? (i := 1) rfl)) A_b193 (by decide)
  have ne_a_D1_a193 : a_D1 ≠ a193 := Ne.symm (own_neEA E_a193 (hw _ (List.mem_of_getElem? (i := 51) rfl)) A_a_D1 (by decide))
  have ne_a_D1_b193 : a_D1 ≠ b193 := own_neA A_a_D1 A_b193 (by decide)
  have ne_b187_a193 : b187 ≠ a193 := own_neE E_b187 E_a193 (by decide)
  have ne_b187_b193 : b187 ≠ b193 := own_neEA E_b187 (hw _ (List.mem_of_getElem? (i := 31) rfl)) A_b193 (by decide)
  have ne_vb_188_a193 : vb_188 ≠ a193 := Ne.symm (own_neEA E_a193 (hw _ (List.mem_of_getElem? (i := 51) rfl)) A_vb_188 (by decide))
  have ne_vb_188_b193 : vb_188 ≠ b193 := own_neA A_vb_188 A_b193 (by decide)
  have ne_a189_b193 : a189 ≠ b193 := own_neEA E_a189 (hw _ (List.mem_of_getElem? (i := 51) rfl)) A_b193 (by decide)
  have ne_b189_a193 : b189 ≠ a193 := Ne.symm (own_neEA E_a193 (hw _ (List.mem_of_getElem? (i := 51) rfl)) A_b189 (by decide))
  have ne_b189_b193 : b189 ≠ b193 := own_neA A_b189 A_b193 (by decide)
  refine Ends.step st193 ?_
  show Ends p e below QQ (T193.setTop (mkF m 21 #[.val (.ref o0)] [(.ref a193), (.ref b187)]))
  obtain ⟨cq194, kq194, q194a, q194b, q194c⟩ := isOf hZ e193 E_b187
  obtain ⟨_, _, ⟨T194, L194, k194, n194⟩, -, X194, ⟨Lc194, hQ194, l194, y194, z194⟩, st194⟩ := X193.virtualBack hx (y := (⟨"java/lang/StringBuilder", "append", "(Ljava/lang/String;)Ljava/lang/StringBuilder;"⟩ : MethodName)) (z := (⟨"java/lang/StringBuilder", "append", "(Ljava/lang/String;)Ljava/lang/StringBuilder;"⟩ : MethodName)) hown (mvT hZ (hw _ (List.mem_of_getElem? (i := 56) rfl))) (mvT hZ (hw _ (List.mem_of_getElem? (i := 57) rfl))) (notFace_of_selects (args := #[]) (mvT hZ (hw _ (List.mem_of_getElem? (i := 59) rfl)))) (mvT hZ (hw _ (List.mem_of_getElem? (i := 59) rfl))) (mvT hZ (hw _ (List.mem_of_getElem? (i := 58) rfl))) (by decide) (backOf (W := 0) (rmspsB l Z a0 hw [] b187 a193 vb_188 kb_188 b193 kc193 cs (100 : Int32) (111 : Int32) (110 : Int32) (101 : Int32) (58 : Int32) (32 : Int32) (111 : Int32) (107 : Int32) (61 : Int32) (own_dg ((u1).toInt)) (32 : Int32) (111 : Int32) (116 : Int32) (104 : Int32) (101 : Int32) (114 : Int32) (61 : Int32) h193 n0 (Nat.le_trans Z0 K193.1) E_b187 F_value_b187 F_coder_b187 F_count_b187 E_vb_188 A_vb_188 g_b187 g_vb_188 ne_b187_vb_188 E_a193 F_value_a193 F_coder_a193 A_b193 ne_vb_188_b193 ne_b187_b193 ne_b187_a193 ne_vb_188_a193 S_COMPACT_STRINGS hcs) hZ (hw _ (List.mem_of_getElem? (i := 60) rfl)) (hw _ (List.mem_of_getElem? (i := 32) rfl)) (by decide) (by decide)) q194a q194c (g := (mkF m 21 #[.val (.ref o0)] [(.ref a193), (.ref b187)])) rfl (by rw [hml]; rfl) (Steps.refl _) (argsL := [(.ref a193)]) (rest := []) (lenOf pd_23 rfl) rfl (by show 2 * 0 + _ ≤ _; exact Nat.le_of_eq rfl) (hb hby d6_21) (fun _ _ => ⟨rfl, e193, (by decide : 6 + 1 ≤ _), (by decide : 92 + 34 ≤ _)⟩)
  dsimp only [Pt.U, Pt.locs, Pt.cells, Pt.slots] at X194 l194 y194 z194 st194 hQ194
  subst l194 y194 z194
  obtain ⟨b_194, k2_194, rfl, Nq194, Kq194, fq194_0, fq194_1, fq194_2, fq194_3, fq194_4, fq194_5, fq194_6, fq194_7⟩ := hQ194
  have N194 := Fr.app N192 Nq194
  have ne_o0_b_194 : o0 ≠ b_194 := Nat.ne_of_lt (Nat.lt_of_lt_of_le E_o0.lt fq194_6)
  have ne_a_D1_b_194 : a_D1 ≠ b_194 := Nat.ne_of_lt (Nat.lt_of_lt_of_le A_a_D1.lt fq194_6)
  have ne_b187_b_194 : b187 ≠ b_194 := Nat.ne_of_lt (Nat.lt_of_lt_of_le E_b187.lt fq194_6)
  have ne_vb_188_b_194 : vb_188 ≠ b_194 := Nat.ne_of_lt (Nat.lt_of_lt_of_le E_vb_188.lt fq194_6)
  have ne_a189_b_194 : a189 ≠ b_194 := Nat.ne_of_lt (Nat.lt_of_lt_of_le E_a189.lt fq194_6)
  have ne_b189_b_194 : b189 ≠ b_194 := Nat.ne_of_lt (Nat.lt_of_lt_of_le A_b189.lt fq194_6)
  have ne_a193_b_194 : a193 ≠ b_194 := Nat.ne_of_lt (Nat.lt_of_lt_of_le E_a193.lt fq194_6)
  have ne_b193_b_194 : b193 ≠ b_194 := Nat.ne_of_lt (Nat.lt_of_lt_of_le A_b193.lt fq194_6)
  have sz_b_194 := Nat.le_trans K193.1 fq194_6
  have S_COMPACT_STRINGS := own_sta_keep S_COMPACT_STRINGS Kq194 (allS E_b187.cell all0)
  have S_DigitOnes := own_sta_keep S_DigitOnes Kq194 (allS E_b187.cell all0)
  have E_o0 := E_o0.keep Kq194
  have F_ok_o0 := F_ok_o0.keep Kq194 (ninS ne_o0_b187 nin0)
  have F_other_o0 := F_other_o0.keep Kq194 (ninS ne_o0_b187 nin0)
  have F_errors_o0 := F_errors_o0.keep Kq194 (ninS ne_o0_b187 nin0)
  have A_a_D1 := A_a_D1.keep Kq194 (ninS ne_a_D1_b187 nin0)
  have hk := Nat.le_trans hk Kq194.1
  have E_vb_188 := E_vb_188.keep Kq194
  have A_vb_188 := A_vb_188.keep Kq194 (ninS (Ne.symm ne_b187_vb_188) nin0)
  have E_a189 := E_a189.keep Kq194
  have F_coder_a189 := F_coder_a189.keep Kq194 (ninS (Ne.symm ne_b187_a189) nin0)
  have F_value_a189 := F_value_a189.keep Kq194 (ninS (Ne.symm ne_b187_a189) nin0)
  have A_b189 := A_b189.keep Kq194 (ninS (Ne.symm ne_b187_b189) nin0)
  have E_a193 := E_a193.keep Kq194
  have F_coder_a193 := F_coder_a193.keep Kq194 (ninS (Ne.symm ne_b187_a193) nin0)
  have F_value_a193 := F_value_a193.keep Kq194 (ninS (Ne.symm ne_b187_a193) nin0)
  have A_b193 := A_b193.keep Kq194 (ninS (Ne.symm ne_b187_b193) nin0)
  have E_b187 := fq194_0
  have F_value_b187 := fq194_1
  have F_coder_b187 := fq194_2
  have F_count_b187 := fq194_3
  have A_b_194 := fq194_4
  have E_b_194 := fq194_5
  have g_b_194 := fq194_7
  have K194 := K193.trans Kq194 (allS (Or.inr sz_b187) all0)
  refine Ends.step (fun _ k => st194.trans k) ?_
  show Ends p e below QQ (T194.setTop (mkF m 24 #[.val (.ref o0)] [(.ref b187)]))
  refine Ends.step (fun _ k => XS.aloadN X194.here hx rfl (hb hby d6_24) rfl rfl k) ?_
  show Ends p e below QQ (T194.setTop (mkF m 25 #[.val (.ref o0)] [(.ref o0), (.ref b187)]))
  obtain ⟨T195, X195, e195, st195⟩ := getF X194 hx hZ hown (host := "") (Or.inl (hw _ (List.mem_of_getElem? (i := 16) rfl))) Via.refl rfl F_other_o0 (g := (mkF m 25 #[.val (.ref o0)] [(.ref o0), (.ref b187)])) rfl rfl (hb hby d6_25)
  refine Ends.step st195 ?_
  show Ends p e below QQ (T195.setTop (mkF m 28 #[.val (.ref o0)] [(.long u2), (.ref b187)]))
  obtain ⟨cq196, kq196, q196a, q196b, q196c⟩ := isOf hZ e195 E_b187
  obtain ⟨_, _, ⟨T196, L196, k196, n196⟩, -, X196, ⟨Lc196, hQ196, l196, y196, z196⟩, st196⟩ := X195.virtualBack hx (y := (⟨"java/lang/StringBuilder", "append", "(J)Ljava/lang/StringBuilder;"⟩ : MethodName)) (z := (⟨"java/lang/StringBuilder", "append", "(J)Ljava/lang/StringBuilder;"⟩ : MethodName)) hown (mvT hZ (hw _ (List.mem_of_getElem? (i := 108) rfl))) (mvT hZ (hw _ (List.mem_of_getElem? (i := 109) rfl))) (notFace_of_selects (args := #[]) (mvT hZ (hw _ (List.mem_of_getElem? (i := 111) rfl)))) (mvT hZ (hw _ (List.mem_of_getElem? (i := 111) rfl))) (mvT hZ (hw _ (List.mem_of_getElem? (i := 110) rfl))) (by decide) (backOf (W := 0) (rmsj17 l Z a0 hw [] b187 u2 b_194 k2_194 cs a_D1 k_a_D1 (100 : Int32) (111 : Int32) (110 : Int32) (101 : Int32) (58 : Int32) (32 : Int32) (111 : Int32) (107 : Int32) (61 : Int32) (own_dg ((u1).toInt)) (32 : Int32) (111 : Int32) (116 : Int32) (104 : Int32) (101 : Int32) (114 : Int32) (61 : Int32) T194.heap n0 (Nat.le_trans Z0 K194.1) E_b187 F_value_b187 F_coder_b187 F_count_b187 E_b_194 A_b_194 g_b187 g_b_194 ne_b187_b_194 S_COMPACT_STRINGS hcs A_a_D1 S_DigitOnes ne_a_D1_b_194 k2.2 k2.1) hZ (hw _ (List.mem_of_getElem? (i := 112) rfl)) (hw _ (List.mem_of_getElem? (i := 32) rfl)) (by decide) (by decide)) q196a q196c (g := (mkF m 28 #[.val (.ref o0)] [(.long u2), (.ref b187)])) rfl (by rw [hml]; rfl) (Steps.refl _) (argsL := [(.long u2)]) (rest := []) (lenOf pd_24 rfl) rfl (by show 2 * 0 + _ ≤ _; exact Nat.le_of_eq rfl) (hb hby d6_28) (fun _ _ => ⟨rfl, e195, (by decide : 7 + 0 ≤ _), (by decide : 126 + 0 ≤ _)⟩)
  dsimp only [Pt.U, Pt.locs, Pt.cells, Pt.slots] at X196 l196 y196 z196 st196 hQ196
  subst l196 y196 z196
  obtain ⟨rfl, Nq196, Kq196, fq196_0, fq196_1, fq196_2, fq196_3, fq196_4, fq196_5⟩ := hQ196
  have N196 := Fr.app N194 Nq196
  have S_COMPACT_STRINGS := own_sta_keep S_COMPACT_STRINGS Kq196 (allS E_b187.cell (allS E_b_194.cell all0))
  have S_DigitOnes := own_sta_keep S_DigitOnes Kq196 (allS E_b187.cell (allS E_b_194.cell all0))
  have E_o0 := E_o0.keep Kq196
  have F_ok_o0 := F_ok_o0.keep Kq196 (ninS ne_o0_b187 (ninS ne_o0_b_194 nin0))
  have F_other_o0 := F_other_o0.keep Kq196 (ninS ne_o0_b187 (ninS ne_o0_b_194 nin0))
  have F_errors_o0 := F_errors_o0.keep Kq196 (ninS ne_o0_b187 (ninS ne_o0_b_194 nin0))
  have A_a_D1 := A_a_D1.keep Kq196 (ninS ne_a_D1_b187 (ninS ne_a_D1_b_194 nin0))
  have hk := Nat.le_trans hk Kq196.1
  have E_vb_188 := E_vb_188.keep Kq196
  have A_vb_188 := A_vb_188.keep Kq196 (ninS (Ne.symm ne_b187_vb_188) (ninS ne_vb_188_b_194 nin0))
  have E_a189 := E_a189.keep Kq196
  have F_coder_a189 := F_coder_a189.keep Kq196 (ninS (Ne.symm ne_b187_a189) (ninS ne_a189_b_194 nin0))
  have F_value_a189 := F_value_a189.keep Kq196 (ninS (Ne.symm ne_b187_a189) (ninS ne_a189_b_194 nin0))
  have A_b189 := A_b189.keep Kq196 (ninS (Ne.symm ne_b187_b189) (ninS ne_b189_b_194 nin0))
  have E_a193 := E_a193.keep Kq196
  have F_coder_a193 := F_coder_a193.keep Kq196 (ninS (Ne.symm ne_b187_a193) (ninS ne_a193_b_194 nin0))
  have F_value_a193 := F_value_a193.keep Kq196 (ninS (Ne.symm ne_b187_a193) (ninS ne_a193_b_194 nin0))
  have A_b193 := A_b193.keep Kq196 (ninS (Ne.symm ne_b187_b193) (ninS ne_b193_b_194 nin0))
  have E_b187 := fq196_0
  have F_value_b187 := fq196_1
  have F_coder_b187 := fq196_2
  have F_count_b187 := fq196_3
  have E_b_194 := fq196_4
  have A_b_194 := fq196_5
  have K196 := K194.trans Kq196 (allS (Or.inr sz_b187) (allS (Or.inr sz_b_194) all0))
  refine Ends.step (fun _ k => st196.trans k) ?_
  show Ends p e below QQ (T196.setTop (mkF m 31 #[.val (.ref o0)] [(.ref b187)]))
  obtain ⟨a197, T197, h197, kk197, b197, kc197, X197, e197, E197, hS, hk, hZ, hown, EA197, FC197, FV197, AV197, -, -, IBf, Lt197, st197⟩ := ldcSVL X196 hx hZ hown (hw _ (List.mem_of_getElem? (i := 157) rfl)) (own_wS hw) rfl hS hk (by rw [hh, ← hn0]; exact N196) hkeep IBf (by decide) hheld_33 hcw (vs := [(.int (32 : Int32)), (.int (101 : Int32)), (.int (114 : Int32)), (.int (114 : Int32)), (.int (111 : Int32)), (.int (114 : Int32)), (.int (115 : Int32)), (.int (61 : Int32))]) (z := (8 : Int32)) ⟨by decide +kernel, by decide +kernel⟩ (by decide) (by decide) (g := (mkF m 31 #[.val (.ref o0)] [(.ref b187)])) rfl (hb hby d6_31) (n := 32) (by decide +kernel) (by decide) (by decide) (by decide)
  have E_o0 := E_o0.ext E197
  have F_ok_o0 := F_ok_o0.ext E197
  have F_other_o0 := F_other_o0.ext E197
  have F_errors_o0 := F_errors_o0.ext E197
  have S_COMPACT_STRINGS := S_COMPACT_STRINGS.ext E197
  have A_a_D1 := A_a_D1.ext E197
  have S_DigitOnes := S_DigitOnes.ext E197
  have E_b187 := E_b187.ext E197
  have F_value_b187 := F_value_b187.ext E197
  have F_coder_b187 := F_coder_b187.ext E197
  have F_count_b187 := F_count_b187.ext E197
  have E_vb_188 := E_vb_188.ext E197
  have A_vb_188 := A_vb_188.ext E197
  have E_a189 := E_a189.ext E197
  have F_coder_a189 := F_coder_a189.ext E197
  have F_value_a189 := F_value_a189.ext E197
  have A_b189 := A_b189.ext E197
  have E_a193 := E_a193.ext E197
  have F_coder_a193 := F_coder_a193.ext E197
  have F_value_a193 := F_value_a193.ext E197
  have A_b193 := A_b193.ext E197
  have A_b_194 := A_b_194.ext E197
  have E_b_194 := E_b_194.ext E197
  have K197 := K196.ext E197
  have E_a197 := EA197
  have F_coder_a197 := FC197
  have F_value_a197 := FV197
  have A_b197 := AV197
  have ne_o0_a197 : o0 ≠ a197 := own_neE E_o0 E_a197 (by decide)
  have ne_o0_b197 : o0 ≠ b197 := own_neEA E_o0 (hw _ (List.mem_of_getElem? (i := 1) rfl)) A_b197 (by decide)
  have ne_a_D1_a197 : a_D1 ≠ a197 := Ne.symm (own_neEA E_a197 (hw _ (List.mem_of_getElem? (i := 51) rfl)) A_a_D1 (by decide))
  have ne_a_D1_b197 : a_D1 ≠ b197 := own_neA A_a_D1 A_b197 (by decide)
  have ne_b187_a197 : b187 ≠ a197 := own_neE E_b187 E_a197 (by decide)
  have ne_b187_b197 : b187 ≠ b197 := own_neEA E_b187 (hw _ (List.mem_of_getElem? (i := 31) rfl)) A_b197 (by decide)
  have ne_vb_188_a197 : vb_188 ≠ a197 := Ne.symm (own_neEA E_a197 (hw _ (List.mem_of_getElem? (i := 51) rfl)) A_vb_188 (by decide))
  have ne_vb_188_b197 : vb_188 ≠ b197 := own_neA A_vb_188 A_b197 (by decide)
  have ne_a189_b197 : a189 ≠ b197 := own_neEA E_a189 (hw _ (List.mem_of_getElem? (i := 51) rfl)) A_b197 (by decide)
  have ne_b189_a197 : b189 ≠ a197 := Ne.symm (own_neEA E_a197 (hw _ (List.mem_of_getElem? (i := 51) rfl)) A_b189 (by decide))
  have ne_b189_b197 : b189 ≠ b197 := own_neA A_b189 A_b197 (by decide)
  have ne_a193_b197 : a193 ≠ b197 := own_neEA E_a193 (hw _ (List.mem_of_getElem? (i := 51) rfl)) A_b197 (by decide)
  have ne_b193_a197 : b193 ≠ a197 := Ne.symm (own_neEA E_a197 (hw _ (List.mem_of_getElem? (i := 51) rfl)) A_b193 (by decide))
  have ne_b193_b197 : b193 ≠ b197 := own_neA A_b193 A_b197 (by decide)
  have ne_b_194_a197 : b_194 ≠ a197 := Ne.symm (own_neEA E_a197 (hw _ (List.mem_of_getElem? (i := 51) rfl)) A_b_194 (by decide))
  have ne_b_194_b197 : b_194 ≠ b197 := own_neA A_b_194 A_b197 (by decide)
  refine Ends.step st197 ?_
  show Ends p e below QQ (T197.setTop (mkF m 33 #[.val (.ref o0)] [(.ref a197), (.ref b187)]))
  obtain ⟨cq198, kq198, q198a, q198b, q198c⟩ := isOf hZ e197 E_b187
  obtain ⟨_, _, ⟨T198, L198, k198, n198⟩, -, X198, ⟨Lc198, hQ198, l198, y198, z198⟩, st198⟩ := X197.virtualBack hx (y := (⟨"java/lang/StringBuilder", "append", "(Ljava/lang/String;)Ljava/lang/StringBuilder;"⟩ : MethodName)) (z := (⟨"java/lang/StringBuilder", "append", "(Ljava/lang/String;)Ljava/lang/StringBuilder;"⟩ : MethodName)) hown (mvT hZ (hw _ (List.mem_of_getElem? (i := 56) rfl))) (mvT hZ (hw _ (List.mem_of_getElem? (i := 57) rfl))) (notFace_of_selects (args := #[]) (mvT hZ (hw _ (List.mem_of_getElem? (i := 59) rfl)))) (mvT hZ (hw _ (List.mem_of_getElem? (i := 59) rfl))) (mvT hZ (hw _ (List.mem_of_getElem? (i := 58) rfl))) (by decide) (backOf (W := 0) (rmspsC l Z a0 hw [] b187 a197 b_194 k2_194 b197 kc197 cs (100 : Int32) (111 : Int32) (110 : Int32) (101 : Int32) (58 : Int32) (32 : Int32) (111 : Int32) (107 : Int32) (61 : Int32) (own_dg ((u1).toInt)) (32 : Int32) (111 : Int32) (116 : Int32) (104 : Int32) (101 : Int32) (114 : Int32) (61 : Int32) (own_dg ((u2).toInt)) (32 : Int32) (101 : Int32) (114 : Int32) (114 : Int32) (111 : Int32) (114 : Int32) (115 : Int32) (61 : Int32) h197 n0 (Nat.le_trans Z0 K197.1) E_b187 F_value_b187 F_coder_b187 F_count_b187 E_b_194 A_b_194 g_b187 g_b_194 ne_b187_b_194 E_a197 F_value_a197 F_coder_a197 A_b197 ne_b_194_b197 ne_b187_b197 ne_b187_a197 ne_b_194_a197 S_COMPACT_STRINGS hcs) hZ (hw _ (List.mem_of_getElem? (i := 60) rfl)) (hw _ (List.mem_of_getElem? (i := 32) rfl)) (by decide) (by decide)) q198a q198c (g := (mkF m 33 #[.val (.ref o0)] [(.ref a197), (.ref b187)])) rfl (by rw [hml]; rfl) (Steps.refl _) (argsL := [(.ref a197)]) (rest := []) (lenOf pd_23 rfl) rfl (by show 2 * 0 + _ ≤ _; exact Nat.le_of_eq rfl) (hb hby d6_33) (fun _ _ => ⟨rfl, e197, (by decide : 9 + 0 ≤ _), (by decide : 162 + 0 ≤ _)⟩)
  dsimp only [Pt.U, Pt.locs, Pt.cells, Pt.slots] at X198 l198 y198 z198 st198 hQ198
  subst l198 y198 z198
  obtain ⟨rfl, Nq198, Kq198, fq198_0, fq198_1, fq198_2, fq198_3, fq198_4, fq198_5⟩ := hQ198
  have N198 := Fr.app N196 Nq198
  have S_COMPACT_STRINGS := own_sta_keep S_COMPACT_STRINGS Kq198 (allS E_b187.cell (allS E_b_194.cell all0))
  have S_DigitOnes := own_sta_keep S_DigitOnes Kq198 (allS E_b187.cell (allS E_b_194.cell all0))
  have E_o0 := E_o0.keep Kq198
  have F_ok_o0 := F_ok_o0.keep Kq198 (ninS ne_o0_b187 (ninS ne_o0_b_194 nin0))
  have F_other_o0 := F_other_o0.keep Kq198 (ninS ne_o0_b187 (ninS ne_o0_b_194 nin0))
  have F_errors_o0 := F_errors_o0.keep Kq198 (ninS ne_o0_b187 (ninS ne_o0_b_194 nin0))
  have A_a_D1 := A_a_D1.keep Kq198 (ninS ne_a_D1_b187 (ninS ne_a_D1_b_194 nin0))
  have hk := Nat.le_trans hk Kq198.1
  have E_vb_188 := E_vb_188.keep Kq198
  have A_vb_188 := A_vb_188.keep Kq198 (ninS (Ne.symm ne_b187_vb_188) (ninS ne_vb_188_b_194 nin0))
  have E_a189 := E_a189.keep Kq198
  have F_coder_a189 := F_coder_a189.keep Kq198 (ninS (Ne.symm ne_b187_a189) (ninS ne_a189_b_194 nin0))
  have F_value_a189 := F_value_a189.keep Kq198 (ninS (Ne.symm ne_b187_a189) (ninS ne_a189_b_194 nin0))
  have A_b189 := A_b189.keep Kq198 (ninS (Ne.symm ne_b187_b189) (ninS ne_b189_b_194 nin0))
  have E_a193 := E_a193.keep Kq198
  have F_coder_a193 := F_coder_a193.keep Kq198 (ninS (Ne.symm ne_b187_a193) (ninS ne_a193_b_194 nin0))
  have F_value_a193 := F_value_a193.keep Kq198 (ninS (Ne.symm ne_b187_a193) (ninS ne_a193_b_194 nin0))
  have A_b193 := A_b193.keep Kq198 (ninS (Ne.symm ne_b187_b193) (ninS ne_b193_b_194 nin0))
  have E_a197 := E_a197.keep Kq198
  have F_coder_a197 := F_coder_a197.keep Kq198 (ninS (Ne.symm ne_b187_a197) (ninS (Ne.symm ne_b_194_a197) nin0))
  have F_value_a197 := F_value_a197.keep Kq198 (ninS (Ne.symm ne_b187_a197) (ninS (Ne.symm ne_b_194_a197) nin0))
  have A_b197 := A_b197.keep Kq198 (ninS (Ne.symm ne_b187_b197) (ninS (Ne.symm ne_b_194_b197) nin0))
  have E_b187 := fq198_0
  have F_value_b187 := fq198_1
  have F_coder_b187 := fq198_2
  have F_count_b187 := fq198_3
  have A_b_194 := fq198_4
  have E_b_194 := fq198_5
  have K198 := K197.trans Kq198 (allS (Or.inr sz_b187) (allS (Or.inr sz_b_194) all0))
  refine Ends.step (fun _ k => st198.trans k) ?_
  show Ends p e below QQ (T198.setTop (mkF m 36 #[.val (.ref o0)] [(.ref b187)]))
  refine Ends.step (fun _ k => XS.aloadN X198.here hx rfl (hb hby d6_36) rfl rfl k) ?_
  show Ends p e below QQ (T198.setTop (mkF m 37 #[.val (.ref o0)] [(.ref o0), (.ref b187)]))
  obtain ⟨T199, X199, e199, st199⟩ := getF X198 hx hZ hown (host := "") (Or.inl (hw _ (List.mem_of_getElem? (i := 14) rfl))) Via.refl rfl F_errors_o0 (g := (mkF m 37 #[.val (.ref o0)] [(.ref o0), (.ref b187)])) rfl rfl (hb hby d6_37)
  refine Ends.step st199 ?_
  show Ends p e below QQ (T199.setTop (mkF m 40 #[.val (.ref o0)] [(.long u3), (.ref b187)]))
  obtain ⟨cq200, kq200, q200a, q200b, q200c⟩ := isOf hZ e199 E_b187
  obtain ⟨_, _, ⟨T200, L200, k200, n200⟩, -, X200, ⟨Lc200, hQ200, l200, y200, z200⟩, st200⟩ := X199.virtualBack hx (y := (⟨"java/lang/StringBuilder", "append", "(J)Ljava/lang/StringBuilder;"⟩ : MethodName)) (z := (⟨"java/lang/StringBuilder", "append", "(J)Ljava/lang/StringBuilder;"⟩ : MethodName)) hown (mvT hZ (hw _ (List.mem_of_getElem? (i := 108) rfl))) (mvT hZ (hw _ (List.mem_of_getElem? (i := 109) rfl))) (notFace_of_selects (args := #[]) (mvT hZ (hw _ (List.mem_of_getElem? (i := 111) rfl)))) (mvT hZ (hw _ (List.mem_of_getElem? (i := 111) rfl))) (mvT hZ (hw _ (List.mem_of_getElem? (i := 110) rfl))) (by decide) (backOf (W := 0) (rmsj26 l Z a0 hw [] b187 u3 b_194 k2_194 cs a_D1 k_a_D1 (100 : Int32) (111 : Int32) (110 : Int32) (101 : Int32) (58 : Int32) (32 : Int32) (111 : Int32) (107 : Int32) (61 : Int32) (own_dg ((u1).toInt)) (32 : Int32) (111 : Int32) (116 : Int32) (104 : Int32) (101 : Int32) (114 : Int32) (61 : Int32) (own_dg ((u2).toInt)) (32 : Int32) (101 : Int32) (114 : Int32) (114 : Int32) (111 : Int32) (114 : Int32) (115 : Int32) (61 : Int32) T198.heap n0 (Nat.le_trans Z0 K198.1) E_b187 F_value_b187 F_coder_b187 F_count_b187 E_b_194 A_b_194 g_b187 g_b_194 ne_b187_b_194 S_COMPACT_STRINGS hcs A_a_D1 S_DigitOnes ne_a_D1_b_194 k3.2 k3.1) hZ (hw _ (List.mem_of_getElem? (i := 112) rfl)) (hw _ (List.mem_of_getElem? (i := 32) rfl)) (by decide) (by decide)) q200a q200c (g := (mkF m 40 #[.val (.ref o0)] [(.long u3), (.ref b187)])) rfl (by rw [hml]; rfl) (Steps.refl _) (argsL := [(.long u3)]) (rest := []) (lenOf pd_24 rfl) rfl (by show 2 * 0 + _ ≤ _; exact Nat.le_of_eq rfl) (hb hby d6_40) (fun _ _ => ⟨rfl, e199, (by decide : 9 + 0 ≤ _), (by decide : 162 + 0 ≤ _)⟩)
  dsimp only [Pt.U, Pt.locs, Pt.cells, Pt.slots] at X200 l200 y200 z200 st200 hQ200
  subst l200 y200 z200
  obtain ⟨rfl, Nq200, Kq200, fq200_0, fq200_1, fq200_2, fq200_3, fq200_4, fq200_5⟩ := hQ200
  have N200 := Fr.app N198 Nq200
  have S_COMPACT_STRINGS := own_sta_keep S_COMPACT_STRINGS Kq200 (allS E_b187.cell (allS E_b_194.cell all0))
  have S_DigitOnes := own_sta_keep S_DigitOnes Kq200 (allS E_b187.cell (allS E_b_194.cell all0))
  have E_o0 := E_o0.keep Kq200
  have F_ok_o0 := F_ok_o0.keep Kq200 (ninS ne_o0_b187 (ninS ne_o0_b_194 nin0))
  have F_other_o0 := F_other_o0.keep Kq200 (ninS ne_o0_b187 (ninS ne_o0_b_194 nin0))
  have F_errors_o0 := F_errors_o0.keep Kq200 (ninS ne_o0_b187 (ninS ne_o0_b_194 nin0))
  have A_a_D1 := A_a_D1.keep Kq200 (ninS ne_a_D1_b187 (ninS ne_a_D1_b_194 nin0))
  have hk := Nat.le_trans hk Kq200.1
  have E_vb_188 := E_vb_188.keep Kq200
  have A_vb_188 := A_vb_188.keep Kq200 (ninS (Ne.symm ne_b187_vb_188) (ninS ne_vb_188_b_194 nin0))
  have E_a189 := E_a189.keep Kq200
  have F_coder_a189 := F_coder_a189.keep Kq200 (ninS (Ne.symm ne_b187_a189) (ninS ne_a189_b_194 nin0))
  have F_value_a189 := F_value_a189.keep Kq200 (ninS (Ne.symm ne_b187_a189) (ninS ne_a189_b_194 nin0))
  have A_b189 := A_b189.keep Kq200 (ninS (Ne.symm ne_b187_b189) (ninS ne_b189_b_194 nin0))
  have E_a193 := E_a193.keep Kq200
  have F_coder_a193 := F_coder_a193.keep Kq200 (ninS (Ne.symm ne_b187_a193) (ninS ne_a193_b_194 nin0))
  have F_value_a193 := F_value_a193.keep Kq200 (ninS (Ne.symm ne_b187_a193) (ninS ne_a193_b_194 nin0))
  have A_b193 := A_b193.keep Kq200 (ninS (Ne.symm ne_b187_b193) (ninS ne_b193_b_194 nin0))
  have E_a197 := E_a197.keep Kq200
  have F_coder_a197 := F_coder_a197.keep Kq200 (ninS (Ne.symm ne_b187_a197) (ninS (Ne.symm ne_b_194_a197) nin0))
  have F_value_a197 := F_value_a197.keep Kq200 (ninS (Ne.symm ne_b187_a197) (ninS (Ne.symm ne_b_194_a197) nin0))
  have A_b197 := A_b197.keep Kq200 (ninS (Ne.symm ne_b187_b197) (ninS (Ne.symm ne_b_194_b197) nin0))
  have E_b187 := fq200_0
  have F_value_b187 := fq200_1
  have F_coder_b187 := fq200_2
  have F_count_b187 := fq200_3
  have E_b_194 := fq200_4
  have A_b_194 := fq200_5
  have K200 := K198.trans Kq200 (allS (Or.inr sz_b187) (allS (Or.inr sz_b_194) all0))
  refine Ends.step (fun _ k => st200.trans k) ?_
  show Ends p e below QQ (T200.setTop (mkF m 43 #[.val (.ref o0)] [(.ref b187)]))
  obtain ⟨cq201, kq201, q201a, q201b, q201c⟩ := isOf hZ rfl E_b187
  obtain ⟨_, _, ⟨T201, L201, k201, n201⟩, -, X201, ⟨Lc201, hQ201, l201, y201, z201⟩, st201⟩ := X200.virtualBack hx (y := (⟨"java/lang/StringBuilder", "toString", "()Ljava/lang/String;"⟩ : MethodName)) (z := (⟨"java/lang/StringBuilder", "toString", "()Ljava/lang/String;"⟩ : MethodName)) hown (mvT hZ (hw _ (List.mem_of_getElem? (i := 158) rfl))) (mvT hZ (hw _ (List.mem_of_getElem? (i := 159) rfl))) (notFace_of_selects (args := #[]) (mvT hZ (hw _ (List.mem_of_getElem? (i := 161) rfl)))) (mvT hZ (hw _ (List.mem_of_getElem? (i := 161) rfl))) (mvT hZ (hw _ (List.mem_of_getElem? (i := 160) rfl))) (by decide) (backOf (W := 0) (rmtos27 l Z a0 hw [] b187 b_194 k2_194 cs (100 : Int32) (111 : Int32) (110 : Int32) (101 : Int32) (58 : Int32) (32 : Int32) (111 : Int32) (107 : Int32) (61 : Int32) (own_dg ((u1).toInt)) (32 : Int32) (111 : Int32) (116 : Int32) (104 : Int32) (101 : Int32) (114 : Int32) (61 : Int32) (own_dg ((u2).toInt)) (32 : Int32) (101 : Int32) (114 : Int32) (114 : Int32) (111 : Int32) (114 : Int32) (115 : Int32) (61 : Int32) (own_dg ((u3).toInt)) T200.heap n0 (Nat.le_trans Z0 K200.1) E_b187 F_value_b187 F_coder_b187 F_count_b187 E_b_194 A_b_194 ne_b187_b_194 S_COMPACT_STRINGS hcs) hZ (hw _ (List.mem_of_getElem? (i := 162) rfl)) (hw _ (List.mem_of_getElem? (i := 32) rfl)) (by decide) (by decide)) q201a q201c (g := (mkF m 43 #[.val (.ref o0)] [(.ref b187)])) rfl (by rw [hml]; rfl) (Steps.refl _) (argsL := []) (rest := []) (lenOf pd_25 rfl) rfl (by show 2 * 0 + _ ≤ _; exact Nat.le_of_eq rfl) (hb hby d6_43) (fun _ _ => ⟨rfl, rfl, (by decide : 9 + 2 ≤ _), (by decide : 162 + 31 ≤ _)⟩)
  dsimp only [Pt.U, Pt.locs, Pt.cells, Pt.slots] at X201 l201 y201 z201 st201 hQ201
  subst l201 y201 z201
  obtain ⟨x_201, b_201, k2_201, rfl, Nq201, Kq201, fq201_0, fq201_1, fq201_2, fq201_3, fq201_4, fq201_5, fq201_6, fq201_7, fq201_8, fq201_9⟩ := hQ201
  have N201 := Fr.app N200 Nq201
  have ne_o0_x_201 : o0 ≠ x_201 := Nat.ne_of_lt (Nat.lt_of_lt_of_le E_o0.lt fq201_0)
  have ne_a_D1_x_201 : a_D1 ≠ x_201 := Nat.ne_of_lt (Nat.lt_of_lt_of_le A_a_D1.lt fq201_0)
  have ne_b187_x_201 : b187 ≠ x_201 := Nat.ne_of_lt (Nat.lt_of_lt_of_le E_b187.lt fq201_0)
  have ne_vb_188_x_201 : vb_188 ≠ x_201 := Nat.ne_of_lt (Nat.lt_of_lt_of_le E_vb_188.lt fq201_0)
  have ne_a189_x_201 : a189 ≠ x_201 := Nat.ne_of_lt (Nat.lt_of_lt_of_le E_a189.lt fq201_0)
  have ne_b189_x_201 : b189 ≠ x_201 := Nat.ne_of_lt (Nat.lt_of_lt_of_le A_b189.lt fq201_0)
  have ne_a193_x_201 : a193 ≠ x_201 := Nat.ne_of_lt (Nat.lt_of_lt_of_le E_a193.lt fq201_0)
  have ne_b193_x_201 : b193 ≠ x_201 := Nat.ne_of_lt (Nat.lt_of_lt_of_le A_b193.lt fq201_0)
  have ne_b_194_x_201 : b_194 ≠ x_201 := Nat.ne_of_lt (Nat.lt_of_lt_of_le A_b_194.lt fq201_0)
  have ne_a197_x_201 : a197 ≠ x_201 := Nat.ne_of_lt (Nat.lt_of_lt_of_le E_a197.lt fq201_0)
  have ne_b197_x_201 : b197 ≠ x_201 := Nat.ne_of_lt (Nat.lt_of_lt_of_le A_b197.lt fq201_0)
  have sz_x_201 := Nat.le_trans K200.1 fq201_0
  have ne_o0_b_201 : o0 ≠ b_201 := Nat.ne_of_lt (Nat.lt_of_lt_of_le E_o0.lt fq201_1)
  have ne_a_D1_b_201 : a_D1 ≠ b_201 := Nat.ne_of_lt (Nat.lt_of_lt_of_le A_a_D1.lt fq201_1)
  have ne_b187_b_201 : b187 ≠ b_201 := Nat.ne_of_lt (Nat.lt_of_lt_of_le E_b187.lt fq201_1)
  have ne_vb_188_b_201 : vb_188 ≠ b_201 := Nat.ne_of_lt (Nat.lt_of_lt_of_le E_vb_188.lt fq201_1)
  have ne_a189_b_201 : a189 ≠ b_201 := Nat.ne_of_lt (Nat.lt_of_lt_of_le E_a189.lt fq201_1)
  have ne_b189_b_201 : b189 ≠ b_201 := Nat.ne_of_lt (Nat.lt_of_lt_of_le A_b189.lt fq201_1)
  have ne_a193_b_201 : a193 ≠ b_201 := Nat.ne_of_lt (Nat.lt_of_lt_of_le E_a193.lt fq201_1)
  have ne_b193_b_201 : b193 ≠ b_201 := Nat.ne_of_lt (Nat.lt_of_lt_of_le A_b193.lt fq201_1)
  have ne_b_194_b_201 : b_194 ≠ b_201 := Nat.ne_of_lt (Nat.lt_of_lt_of_le A_b_194.lt fq201_1)
  have ne_a197_b_201 : a197 ≠ b_201 := Nat.ne_of_lt (Nat.lt_of_lt_of_le E_a197.lt fq201_1)
  have ne_b197_b_201 : b197 ≠ b_201 := Nat.ne_of_lt (Nat.lt_of_lt_of_le A_b197.lt fq201_1)
  have sz_b_201 := Nat.le_trans K200.1 fq201_1
  have S_COMPACT_STRINGS := own_sta_keep S_COMPACT_STRINGS Kq201 all0
  have S_DigitOnes := own_sta_keep S_DigitOnes Kq201 all0
  have E_o0 := E_o0.keep Kq201
  have F_ok_o0 := F_ok_o0.keep Kq201 nin0
  have F_other_o0 := F_other_o0.keep Kq201 nin0
  have F_errors_o0 := F_errors_o0.keep Kq201 nin0
  have A_a_D1 := A_a_D1.keep Kq201 nin0
  have hk := Nat.le_trans hk Kq201.1
  have E_b187 := E_b187.keep Kq201
  have F_value_b187 := F_value_b187.keep Kq201 nin0
  have F_coder_b187 := F_coder_b187.keep Kq201 nin0
  have F_count_b187 := F_count_b187.keep Kq201 nin0
  have E_vb_188 := E_vb_188.keep Kq201
  have A_vb_188 := A_vb_188.keep Kq201 nin0
  have E_a189 := E_a189.keep Kq201
  have F_coder_a189 := F_coder_a189.keep Kq201 nin0
  have F_value_a189 := F_value_a189.keep Kq201 nin0
  have A_b189 := A_b189.keep Kq201 nin0
  have E_a193 := E_a193.keep Kq201
  have F_coder_a193 := F_coder_a193.keep Kq201 nin0
  have F_value_a193 := F_value_a193.keep Kq201 nin0
  have A_b193 := A_b193.keep Kq201 nin0
  have A_b_194 := A_b_194.keep Kq201 nin0
  have E_b_194 := E_b_194.keep Kq201
  have E_a197 := E_a197.keep Kq201
  have F_coder_a197 := F_coder_a197.keep Kq201 nin0
  have F_value_a197 := F_value_a197.keep Kq201 nin0
  have A_b197 := A_b197.keep Kq201 nin0
  have g_x_201 := fq201_2
  have g_b_201 := fq201_3
  have E_x_201 := fq201_4
  have F_value_x_201 := fq201_5
  have F_coder_x_201 := fq201_6
  have E_b_201 := fq201_7
  have A_b_201 := fq201_8
  have ne_x_201_b_201 := fq201_9
  have K201 := K200.trans Kq201 all0
  refine Ends.step (fun _ k => st201.trans k) ?_
  show Ends p e below QQ (T201.setTop (mkF m 46 #[.val (.ref o0)] [(.ref x_201)]))
  exact Ends.finW (some (.ref x_201)) X201 hS hk hQQ (fun h => by rw [Bd.returns] at h; cases h) Bd.notSynchronized (fun _ hr => retOut X201 hx (t := (.object "java/lang/String")) Bd.returns rfl (Or.inr (Or.inr (Or.inr (Or.inr ⟨rfl, rfl, rfl⟩)))) (hb hby d6_46) hr) rfl (by decide) (by decide) ⟨x_201, b_201, k2_201, rfl, N201, K201, sz_x_201, sz_b_201, g_x_201, g_b_201, E_x_201, F_value_x_201, F_coder_x_201, E_b_201, A_b_201, ne_x_201_b_201⟩
theorem own_1 (k : Int64) (h0 : 0 ≤ k.toInt) (h1 : k.toInt < 100) : (k + (1 : Int64)).toInt = k.toInt + 1 := by
  have e : (1 : Int64).toInt = 1 := by decide
  rw [Int64.toInt_add, e, Int.bmod_eq_of_le (by omega) (by omega)]
theorem own_knd (p : Int32) : fknd p = if p = (0 : Int32) then (2 : Int32) else if p < (200 : Int32) then (1 : Int32) else if p < (300 : Int32) then (0 : Int32) else (1 : Int32) := by
  unfold fknd
  by_cases c1 : p = (0 : Int32)
  · rw [if_pos c1, if_pos c1]
  · rw [if_neg c1, if_neg c1]
    by_cases c2 : p < (200 : Int32)
    · have c3 : ¬ (199 : Int32) < p := by
        simp only [Int32.lt_iff_toInt_lt, Int32.reduceToInt] at c2 ⊢
        omega
      rw [if_pos c2, if_neg c3]
    · have c3 : (199 : Int32) < p := by
        simp only [Int32.lt_iff_toInt_lt, Int32.reduceToInt] at c2 ⊢
        omega
      rw [if_neg c2, if_pos c3]
theorem own_fh (p q : Int32) : fhit p q = if fknd p = q then (1 : Int32) else (0 : Int32) := rfl
theorem own_ckh (p : Int32) (k : Int64) (h0 : 0 ≤ k.toInt) (h1 : k.toInt < 100) : (own_ck p k).toInt = k.toInt + (fhit p (0 : Int32)).toInt ∧ 0 ≤ (fhit p (0 : Int32)).toInt ∧ (fhit p (0 : Int32)).toInt ≤ 1 := by
  have a := own_1 k h0 h1
  rw [own_fh, own_knd]
  unfold own_ck
  by_cases c1 : p = (0 : Int32)
  · rw [if_pos c1, if_pos c1, if_neg (by decide)]; exact ⟨(Int.add_zero _).symm, by decide, by decide⟩
  · rw [if_neg c1, if_neg c1]
    by_cases c2 : p < (200 : Int32)
    · rw [if_pos c2, if_pos c2, if_neg (by decide)]; exact ⟨(Int.add_zero _).symm, by decide, by decide⟩
    · rw [if_neg c2, if_neg c2]
      by_cases c3 : p < (300 : Int32)
      · rw [if_pos c3, if_pos c3, if_pos rfl]; exact ⟨a, by decide, by decide⟩
      · rw [if_neg c3, if_neg c3, if_neg (by decide)]; exact ⟨(Int.add_zero _).symm, by decide, by decide⟩
theorem own_coh (p : Int32) (k : Int64) (h0 : 0 ≤ k.toInt) (h1 : k.toInt < 100) : (own_co p k).toInt = k.toInt + (fhit p (1 : Int32)).toInt ∧ 0 ≤ (fhit p (1 : Int32)).toInt ∧ (fhit p (1 : Int32)).toInt ≤ 1 := by
  have a := own_1 k h0 h1
  rw [own_fh, own_knd]
  unfold own_co
  by_cases c1 : p = (0 : Int32)
  · rw [if_pos c1, if_pos c1, if_neg (by decide)]; exact ⟨(Int.add_zero _).symm, by decide, by decide⟩
  · rw [if_neg c1, if_neg c1]
    by_cases c2 : p < (200 : Int32)
    · rw [if_pos c2, if_pos c2, if_pos rfl]; exact ⟨a, by decide, by decide⟩
    · rw [if_neg c2, if_neg c2]
      by_cases c3 : p < (300 : Int32)
      · rw [if_pos c3, if_pos c3, if_neg (by decide)]; exact ⟨(Int.add_zero _).symm, by decide, by decide⟩
      · rw [if_neg c3, if_neg c3, if_pos rfl]; exact ⟨a, by decide, by decide⟩
theorem own_ceh (p : Int32) (k : Int64) (h0 : 0 ≤ k.toInt) (h1 : k.toInt < 100) : (own_ce p k).toInt = k.toInt + (fhit p (2 : Int32)).toInt ∧ 0 ≤ (fhit p (2 : Int32)).toInt ∧ (fhit p (2 : Int32)).toInt ≤ 1 := by
  have a := own_1 k h0 h1
  rw [own_fh, own_knd]
  unfold own_ce
  by_cases c1 : p = (0 : Int32)
  · rw [if_pos c1, if_pos c1, if_pos rfl]; exact ⟨a, by decide, by decide⟩
  · rw [if_neg c1, if_neg c1]
    by_cases c2 : p < (200 : Int32)
    · rw [if_pos c2, if_neg (by decide)]; exact ⟨(Int.add_zero _).symm, by decide, by decide⟩
    · rw [if_neg c2]
      by_cases c3 : p < (300 : Int32)
      · rw [if_pos c3, if_neg (by decide)]; exact ⟨(Int.add_zero _).symm, by decide, by decide⟩
      · rw [if_neg c3, if_neg (by decide)]; exact ⟨(Int.add_zero _).symm, by decide, by decide⟩
theorem own_dig {n : Int} {x : Int32} (h0 : 0 ≤ n) (h1 : n < 10) (hx : x.toInt = n) : (own_dg n &&& (255 : Int32)) = ((48 : Int32) + x).toUInt32.toUInt16.toUInt32.toInt32 := by
  apply Int32.toInt_inj.mp
  rw [own_dm, own_dgi]
  have c1 := c_iadd 48 x
  have c2 := c_i2c ((48 : Int32) + x)
  have e : (48 : Int32).toInt = 48 := by decide
  have b1 := Int32.toInt_lt ((48 : Int32) + x)
  have b2 := Int32.le_toInt ((48 : Int32) + x)
  omega
theorem own_ck4 (a b c d : Int32) : (own_ck d (own_ck c (own_ck b (own_ck a (0 : Int64))))).toInt = ((((fhit a (0 : Int32)) + (fhit b (0 : Int32))) + (fhit c (0 : Int32))) + (fhit d (0 : Int32))).toInt ∧ 0 ≤ (own_ck d (own_ck c (own_ck b (own_ck a (0 : Int64))))).toInt ∧ (own_ck d (own_ck c (own_ck b (own_ck a (0 : Int64))))).toInt < 10 := by
  have z : (0 : Int64).toInt = 0 := by decide
  have h1 := own_ckh a (0 : Int64) (by omega) (by omega)
  have h2 := own_ckh b (own_ck a (0 : Int64)) (by omega) (by omega)
  have h3 := own_ckh c (own_ck b (own_ck a (0 : Int64))) (by omega) (by omega)
  have h4 := own_ckh d (own_ck c (own_ck b (own_ck a (0 : Int64)))) (by omega) (by omega)
  have s1 := c_iadd (fhit a (0 : Int32)) (fhit b (0 : Int32))
  have s2 := c_iadd ((fhit a (0 : Int32)) + (fhit b (0 : Int32))) (fhit c (0 : Int32))
  have s3 := c_iadd (((fhit a (0 : Int32)) + (fhit b (0 : Int32))) + (fhit c (0 : Int32))) (fhit d (0 : Int32))
  have t1 := Int32.toInt_lt ((fhit a (0 : Int32)) + (fhit b (0 : Int32))); have t2 := Int32.le_toInt ((fhit a (0 : Int32)) + (fhit b (0 : Int32)))
  have t3 := Int32.toInt_lt (((fhit a (0 : Int32)) + (fhit b (0 : Int32))) + (fhit c (0 : Int32))); have t4 := Int32.le_toInt (((fhit a (0 : Int32)) + (fhit b (0 : Int32))) + (fhit c (0 : Int32)))
  have t5 := Int32.toInt_lt ((((fhit a (0 : Int32)) + (fhit b (0 : Int32))) + (fhit c (0 : Int32))) + (fhit d (0 : Int32))); have t6 := Int32.le_toInt ((((fhit a (0 : Int32)) + (fhit b (0 : Int32))) + (fhit c (0 : Int32))) + (fhit d (0 : Int32)))
  omega
theorem own_ckb (a b c d : Int32) : 0 ≤ (own_ck d (own_ck c (own_ck b (own_ck a (0 : Int64))))).toInt ∧ (own_ck d (own_ck c (own_ck b (own_ck a (0 : Int64))))).toInt < 10 := (own_ck4 a b c d).2
theorem own_ckq (a b c d : Int32) {x : Int32} (h : ((((fhit a (0 : Int32)) + (fhit b (0 : Int32))) + (fhit c (0 : Int32))) + (fhit d (0 : Int32))) = x) : (own_dg ((own_ck d (own_ck c (own_ck b (own_ck a (0 : Int64))))).toInt) &&& (255 : Int32)) = ((48 : Int32) + x).toUInt32.toUInt16.toUInt32.toInt32 :=
  own_dig (own_ck4 a b c d).2.1 (own_ck4 a b c d).2.2 (by rw [← h]; exact (own_ck4 a b c d).1.symm)
theorem own_co4 (a b c d : Int32) : (own_co d (own_co c (own_co b (own_co a (0 : Int64))))).toInt = ((((fhit a (1 : Int32)) + (fhit b (1 : Int32))) + (fhit c (1 : Int32))) + (fhit d (1 : Int32))).toInt ∧ 0 ≤ (own_co d (own_co c (own_co b (own_co a (0 : Int64))))).toInt ∧ (own_co d (own_co c (own_co b (own_co a (0 : Int64))))).toInt < 10 := by
  have z : (0 : Int64).toInt = 0 := by decide
  have h1 := own_coh a (0 : Int64) (by omega) (by omega)
  have h2 := own_coh b (own_co a (0 : Int64)) (by omega) (by omega)
  have h3 := own_coh c (own_co b (own_co a (0 : Int64))) (by omega) (by omega)
  have h4 := own_coh d (own_co c (own_co b (own_co a (0 : Int64)))) (by omega) (by omega)
  have s1 := c_iadd (fhit a (1 : Int32)) (fhit b (1 : Int32))
  have s2 := c_iadd ((fhit a (1 : Int32)) + (fhit b (1 : Int32))) (fhit c (1 : Int32))
  have s3 := c_iadd (((fhit a (1 : Int32)) + (fhit b (1 : Int32))) + (fhit c (1 : Int32))) (fhit d (1 : Int32))
  have t1 := Int32.toInt_lt ((fhit a (1 : Int32)) + (fhit b (1 : Int32))); have t2 := Int32.le_toInt ((fhit a (1 : Int32)) + (fhit b (1 : Int32)))
  have t3 := Int32.toInt_lt (((fhit a (1 : Int32)) + (fhit b (1 : Int32))) + (fhit c (1 : Int32))); have t4 := Int32.le_toInt (((fhit a (1 : Int32)) + (fhit b (1 : Int32))) + (fhit c (1 : Int32)))
  have t5 := Int32.toInt_lt ((((fhit a (1 : Int32)) + (fhit b (1 : Int32))) + (fhit c (1 : Int32))) + (fhit d (1 : Int32))); have t6 := Int32.le_toInt ((((fhit a (1 : Int32)) + (fhit b (1 : Int32))) + (fhit c (1 : Int32))) + (fhit d (1 : Int32)))
  omega
theorem own_cob (a b c d : Int32) : 0 ≤ (own_co d (own_co c (own_co b (own_co a (0 : Int64))))).toInt ∧ (own_co d (own_co c (own_co b (own_co a (0 : Int64))))).toInt < 10 := (own_co4 a b c d).2
theorem own_coq (a b c d : Int32) {x : Int32} (h : ((((fhit a (1 : Int32)) + (fhit b (1 : Int32))) + (fhit c (1 : Int32))) + (fhit d (1 : Int32))) = x) : (own_dg ((own_co d (own_co c (own_co b (own_co a (0 : Int64))))).toInt) &&& (255 : Int32)) = ((48 : Int32) + x).toUInt32.toUInt16.toUInt32.toInt32 :=
  own_dig (own_co4 a b c d).2.1 (own_co4 a b c d).2.2 (by rw [← h]; exact (own_co4 a b c d).1.symm)
theorem own_ce4 (a b c d : Int32) : (own_ce d (own_ce c (own_ce b (own_ce a (0 : Int64))))).toInt = ((((fhit a (2 : Int32)) + (fhit b (2 : Int32))) + (fhit c (2 : Int32))) + (fhit d (2 : Int32))).toInt ∧ 0 ≤ (own_ce d (own_ce c (own_ce b (own_ce a (0 : Int64))))).toInt ∧ (own_ce d (own_ce c (own_ce b (own_ce a (0 : Int64))))).toInt < 10 := by
  have z : (0 : Int64).toInt = 0 := by decide
  have h1 := own_ceh a (0 : Int64) (by omega) (by omega)
  have h2 := own_ceh b (own_ce a (0 : Int64)) (by omega) (by omega)
  have h3 := own_ceh c (own_ce b (own_ce a (0 : Int64))) (by omega) (by omega)
  have h4 := own_ceh d (own_ce c (own_ce b (own_ce a (0 : Int64)))) (by omega) (by omega)
  have s1 := c_iadd (fhit a (2 : Int32)) (fhit b (2 : Int32))
  have s2 := c_iadd ((fhit a (2 : Int32)) + (fhit b (2 : Int32))) (fhit c (2 : Int32))
  have s3 := c_iadd (((fhit a (2 : Int32)) + (fhit b (2 : Int32))) + (fhit c (2 : Int32))) (fhit d (2 : Int32))
  have t1 := Int32.toInt_lt ((fhit a (2 : Int32)) + (fhit b (2 : Int32))); have t2 := Int32.le_toInt ((fhit a (2 : Int32)) + (fhit b (2 : Int32)))
  have t3 := Int32.toInt_lt (((fhit a (2 : Int32)) + (fhit b (2 : Int32))) + (fhit c (2 : Int32))); have t4 := Int32.le_toInt (((fhit a (2 : Int32)) + (fhit b (2 : Int32))) + (fhit c (2 : Int32)))
  have t5 := Int32.toInt_lt ((((fhit a (2 : Int32)) + (fhit b (2 : Int32))) + (fhit c (2 : Int32))) + (fhit d (2 : Int32))); have t6 := Int32.le_toInt ((((fhit a (2 : Int32)) + (fhit b (2 : Int32))) + (fhit c (2 : Int32))) + (fhit d (2 : Int32)))
  omega
theorem own_ceb (a b c d : Int32) : 0 ≤ (own_ce d (own_ce c (own_ce b (own_ce a (0 : Int64))))).toInt ∧ (own_ce d (own_ce c (own_ce b (own_ce a (0 : Int64))))).toInt < 10 := (own_ce4 a b c d).2
theorem own_ceq (a b c d : Int32) {x : Int32} (h : ((((fhit a (2 : Int32)) + (fhit b (2 : Int32))) + (fhit c (2 : Int32))) + (fhit d (2 : Int32))) = x) : (own_dg ((own_ce d (own_ce c (own_ce b (own_ce a (0 : Int64))))).toInt) &&& (255 : Int32)) = ((48 : Int32) + x).toUInt32.toUInt16.toUInt32.toInt32 :=
  own_dig (own_ce4 a b c d).2.1 (own_ce4 a b c d).2.2 (by rw [← h]; exact (own_ce4 a b c d).1.symm)
theorem ef_0 (m : MethodId) (x0 : Int32) (x1 : Int32) (x2 : Int32) (x3 : Int32) : entryFrame m #[(.int x0), (.int x1), (.int x2), (.int x3)] maxLocals = mkF m 0 #[.val (.int x0), .val (.int x1), .val (.int x2), .val (.int x3), .unset, .unset, .unset, .unset, .unset] [] := by first | (simp [entryFrame, mkF, argsToLocals, Value.category, maxLocals]; done) | rfl
def Q0 (Z : State) (p0 : Int32) (p1 : Int32) (p2 : Int32) (p3 : Int32) (cs : Int32) (sf : Value) (a_D1 : Addr) (k_a_D1 : ClassId) (h0 : Heap) (n0 : Nat) (v : Option Value) (h : Heap) (L : List Loc) : Prop := (v = some (.int (1 : Int32))) ∧ (Fr n0 L) ∧ (Keep h0 h [])
set_option maxRecDepth 65536 in
set_option maxHeartbeats 40000000 in
theorem rm0 (l : Launch) (Z : State) (a0 : Array Value) (hw : ∀ d ∈ tables_1, d.before a0 Z = true) (ws : List Jvm.Cond) (p0 : Int32) (p1 : Int32) (p2 : Int32) (p3 : Int32) (cs : Int32) (sf : Value) (a_D1 : Addr) (k_a_D1 : ClassId) (h0 : Heap) (n0 : Nat) (Z0 : n0 ≤ h0.size) (S_COMPACT_STRINGS : Sta Z h0 "java/lang/String" "COMPACT_STRINGS" "Z" (.int cs)) (hcs : ¬ cs = (0 : Int32)) (S_SIOOBE_FORMATTER : Sta Z h0 "jdk/internal/util/Preconditions" "SIOOBE_FORMATTER" "Ljava/util/function/BiFunction;" sf) (hr_sf : sf.isRef = true) (A_a_D1 : Arv Z h0 a_D1 k_a_D1 .byte (100 : Int32) own_ones (.int (0 : Int32))) (S_DigitOnes : Sta Z h0 "java/lang/Integer" "DigitOnes" "[B" (.ref a_D1)) (hheld_22 : Jvm.Lit.constHeld Z "com/example/wide_area_crawler/wideareacrawler/CrawlCounts" 22) (hheld_31 : Jvm.Lit.constHeld Z "com/example/wide_area_crawler/wideareacrawler/CrawlCounts" 31) (hheld_33 : Jvm.Lit.constHeld Z "com/example/wide_area_crawler/wideareacrawler/CrawlCounts" 33) (hcw : Jvm.Lit.compactW.before a0 Z = true) (hn0 : n0 = Array.size h0) (hkp : ∀ (b : Addr) (cl : Cell), Z.heap[b]? = some cl → h0[b]? = some cl) :
    MetFree l x (head1 (Jvm.Cond.code x code maxLocals ret :: ws) room_1) (fun a U => a = #[(.int p0), (.int p1), (.int p2), (.int p3)] ∧ Z.Warmed39 U.vm ∧ U.heap = h0 ∧ U = Z) (fun _ _ _ _ _ => True) (fun _ U o U' => ∃ v L, o = .returned v ∧ Q0 Z p0 p1 p2 p3 cs sf a_D1 k_a_D1 h0 n0 v U'.heap L ∧ ReturnedEndW U o U' L room_1.cells room_1.slots) := by
  refine MetFree.of_bodySF (plainFor_of_name pn_9) hisR ?_
  intro p e s m args below meth c s₁ Bd hml0 hP hK
  obtain ⟨rfl, hZ, hh, hUZ⟩ := hP
  have hx := Bd.exec
  have hby := Bd.bytes
  have hml : c.maxLocals = 9 := hml0
  have hown : s.vm.findClass "com/example/wide_area_crawler/wideareacrawler/CrawlCountsCountPinLaw" = some m.cls := findClass_of_methodNamed Bd.named
  have hnm := (name_of_methodNamed Bd.named Bd.method).1
  have X0 : Stand p l e room_1 (s.setVm s.vm) m #[(.int p0), (.int p1), (.int p2), (.int p3)] below meth c s₁ [] 0 0 := Stand.of_body Bd
  have e0 : s₁.heap = h0 := by rw [← hh, Bd.state]; rfl
  have N0 := Fr.nil n0
  have hS : s.Since s.vm 0 := (State.WarmedH.refl s).since 0
  have hk : 0 ≤ Array.size h0 := Nat.zero_le _
  have hkeep : ∀ (b : Addr) (cl : Cell), Z.heap[b]? = some cl → s.heap[b]? = some cl := by rw [hUZ]; exact fun _ _ q => q
  have IBf : IB Z s.vm [] := by rw [hUZ]; exact IB.start
  have hnz : n0 = Z.heap.size := by rw [hn0, ← hh, hUZ]
  refine Ends.opn ?_
  intro QQ hQQ
  refine Ends.step (S' := s₁.setTop (mkF m 0 #[.val (.int p0), .val (.int p1), .val (.int p2), .val (.int p3), .unset, .unset, .unset, .unset, .unset] [])) (fun t k => castTop (ef_0 m p0 p1 p2 p3) k) ?_
  show Ends p e below QQ (s₁.setTop (mkF m 0 #[.val (.int p0), .val (.int p1), .val (.int p2), .val (.int p3), .unset, .unset, .unset, .unset, .unset] []))
  obtain ⟨T202, h202, X202, e202, E202, A202, D202, U202, st202⟩ := newO X0 hx hZ hown (hw _ (List.mem_of_getElem? (i := 0) rfl)) (hw _ (List.mem_of_getElem? (i := 1) rfl)) (hw _ (List.mem_of_getElem? (i := 2) rfl)) e0 (g := (mkF m 0 #[.val (.int p0), .val (.int p1), .val (.int p2), .val (.int p3), .unset, .unset, .unset, .unset, .unset] [])) rfl (hb hby at_0) (by decide) (by decide)
  obtain ⟨b202, g202⟩ : ∃ z, z = h0.size := ⟨_, rfl⟩
  rw [← g202] at A202 D202 U202 st202
  have ne_a_D1_b202 : a_D1 ≠ b202 := Nat.ne_of_lt (Nat.lt_of_lt_of_le A_a_D1.lt (Nat.le_of_eq g202.symm))
  have g_b202 : n0 ≤ b202 := Nat.le_trans Z0 (Nat.le_trans (Keep.refl h0 []).1 (Nat.le_of_eq g202.symm))
  have sz_b202 : h0.size ≤ b202 := Nat.le_trans (Keep.refl h0 []).1 (Nat.le_of_eq g202.symm)
  have S_COMPACT_STRINGS := S_COMPACT_STRINGS.ext E202
  have S_SIOOBE_FORMATTER := S_SIOOBE_FORMATTER.ext E202
  have A_a_D1 := A_a_D1.ext E202
  have S_DigitOnes := S_DigitOnes.ext E202
  have hkp := fun b cl q => E202.2 _ _ (hkp b cl q)
  have hk := Nat.le_trans hk E202.1
  have K202 := (Keep.refl h0 []).ext E202
  have E_b202 := A202
  have F_errors_b202 : Fld Z h202 b202 "com/example/wide_area_crawler/wideareacrawler/CrawlCounts" "errors" "J" (.long (0 : Int64)) := D202 (Or.inl (hw _ (List.mem_of_getElem? (i := 15) rfl))) (ty := .long) (by decide)
  have F_other_b202 : Fld Z h202 b202 "com/example/wide_area_crawler/wideareacrawler/CrawlCounts" "other" "J" (.long (0 : Int64)) := D202 (Or.inl (hw _ (List.mem_of_getElem? (i := 17) rfl))) (ty := .long) (by decide)
  have F_ok_b202 : Fld Z h202 b202 "com/example/wide_area_crawler/wideareacrawler/CrawlCounts" "ok" "J" (.long (0 : Int64)) := D202 (Or.inl (hw _ (List.mem_of_getElem? (i := 107) rfl))) (ty := .long) (by decide)
  refine Ends.step st202 ?_
  show Ends p e below QQ (T202.setTop (mkF m 3 #[.val (.int p0), .val (.int p1), .val (.int p2), .val (.int p3), .unset, .unset, .unset, .unset, .unset] [(.ref b202)]))
  refine Ends.step (fun _ k => XS.dup X202.here hx rfl (hb hby at_3) rfl rfl k) ?_
  show Ends p e below QQ (T202.setTop (mkF m 4 #[.val (.int p0), .val (.int p1), .val (.int p2), .val (.int p3), .unset, .unset, .unset, .unset, .unset] [(.ref b202), (.ref b202)]))
  obtain ⟨_, _, ⟨T203, L203, k203, n203⟩, -, X203, ⟨Lc203, hQ203, l203, y203, z203⟩, st203⟩ := X202.specialBack hx (y := (⟨"com/example/wide_area_crawler/wideareacrawler/CrawlCounts", "<init>", "()V"⟩ : MethodName)) rfl hown (mvT hZ (hw _ (List.mem_of_getElem? (i := 3) rfl))) (mvT hZ (hw _ (List.mem_of_getElem? (i := 4) rfl))) (mvT hZ (hw _ (List.mem_of_getElem? (i := 5) rfl))) (by decide) (backOf (W := 1) (rmcci l Z a0 hw [] b202 h202 n0 (Nat.le_trans Z0 K202.1) E_b202) hZ (hw _ (List.mem_of_getElem? (i := 5) rfl)) (hw _ (List.mem_of_getElem? (i := 2) rfl)) (by decide) (by decide)) (g := (mkF m 4 #[.val (.int p0), .val (.int p1), .val (.int p2), .val (.int p3), .unset, .unset, .unset, .unset, .unset] [(.ref b202), (.ref b202)])) rfl (by rw [hml]; rfl) (Steps.refl _) (a := b202) (argsL := []) (rest := [(.ref b202)]) (lenOf pd_22 rfl) rfl (by show 2 * 0 + _ ≤ _; exact Nat.le_of_eq rfl) (hb hby at_4) (fun _ _ => ⟨rfl, e202, (by decide : 1 + 0 ≤ _), (by decide : 3 + 0 ≤ _)⟩)
  dsimp only [Pt.U, Pt.locs, Pt.cells, Pt.slots] at X203 l203 y203 z203 st203 hQ203
  subst l203 y203 z203
  obtain ⟨rfl, Nq203, hh203⟩ := hQ203
  have N203 := Fr.app N0 Nq203
  refine Ends.step (fun _ k => st203.trans k) ?_
  show Ends p e below QQ (T203.setTop (mkF m 7 #[.val (.int p0), .val (.int p1), .val (.int p2), .val (.int p3), .unset, .unset, .unset, .unset, .unset] [(.ref b202)]))
  refine Ends.step (fun _ k => XS.astore X203.here hx rfl (hb hby at_7) rfl rfl (l' := #[.val (.int p0), .val (.int p1), .val (.int p2), .val (.int p3), .val (.ref b202), .unset, .unset, .unset, .unset]) rfl k) ?_
  show Ends p e below QQ (T203.setTop (mkF m 9 #[.val (.int p0), .val (.int p1), .val (.int p2), .val (.int p3), .val (.ref b202), .unset, .unset, .unset, .unset] []))
  refine Ends.step (fun _ k => XS.aload X203.here hx rfl (hb hby at_9) rfl rfl k) ?_
  show Ends p e below QQ (T203.setTop (mkF m 11 #[.val (.int p0), .val (.int p1), .val (.int p2), .val (.int p3), .val (.ref b202), .unset, .unset, .unset, .unset] [(.ref b202)]))
  refine Ends.step (fun _ k => XS.iloadN X203.here hx rfl (hb hby at_11) rfl k) ?_
  show Ends p e below QQ (T203.setTop (mkF m 12 #[.val (.int p0), .val (.int p1), .val (.int p2), .val (.int p3), .val (.ref b202), .unset, .unset, .unset, .unset] [(.int p0), (.ref b202)]))
  obtain ⟨cq204, kq204, q204a, q204b, q204c⟩ := isOf hZ hh203 E_b202
  obtain ⟨_, _, ⟨T204, L204, k204, n204⟩, -, X204, ⟨Lc204, hQ204, l204, y204, z204⟩, st204⟩ := X203.virtualBack hx (y := (⟨"com/example/wide_area_crawler/wideareacrawler/CrawlCounts", "count", "(I)V"⟩ : MethodName)) (z := (⟨"com/example/wide_area_crawler/wideareacrawler/CrawlCounts", "count", "(I)V"⟩ : MethodName)) hown (mvT hZ (hw _ (List.mem_of_getElem? (i := 9) rfl))) (mvT hZ (hw _ (List.mem_of_getElem? (i := 10) rfl))) (notFace_of_selects (args := #[]) (mvT hZ (hw _ (List.mem_of_getElem? (i := 12) rfl)))) (mvT hZ (hw _ (List.mem_of_getElem? (i := 12) rfl))) (mvT hZ (hw _ (List.mem_of_getElem? (i := 11) rfl))) (by decide) (backOf (W := 0) (rmcnt l Z a0 hw [] b202 p0 (0 : Int64) (0 : Int64) (0 : Int64) h202 n0 (Nat.le_trans Z0 K202.1) E_b202 F_ok_b202 F_other_b202 F_errors_b202 g_b202) hZ (hw _ (List.mem_of_getElem? (i := 13) rfl)) (hw _ (List.mem_of_getElem? (i := 2) rfl)) (by decide) (by decide)) q204a q204c (g := (mkF m 12 #[.val (.int p0), .val (.int p1), .val (.int p2), .val (.int p3), .val (.ref b202), .unset, .unset, .unset, .unset] [(.int p0), (.ref b202)])) rfl (by rw [hml]; rfl) (Steps.refl _) (argsL := [(.int p0)]) (rest := []) (lenOf pd_5 rfl) rfl (by show 2 * 0 + _ ≤ _; exact Nat.le_of_eq rfl) (hb hby at_12) (fun _ _ => ⟨rfl, hh203, (by decide : 1 + 0 ≤ _), (by decide : 3 + 0 ≤ _)⟩)
  dsimp only [Pt.U, Pt.locs, Pt.cells, Pt.slots] at X204 l204 y204 z204 st204 hQ204
  subst l204 y204 z204
  obtain ⟨rfl, Nq204, Kq204, fq204_0, fq204_1, fq204_2, fq204_3⟩ := hQ204
  have N204 := Fr.app N203 Nq204
  have S_COMPACT_STRINGS := own_sta_keep S_COMPACT_STRINGS Kq204 (allS E_b202.cell all0)
  have S_SIOOBE_FORMATTER := own_sta_keep S_SIOOBE_FORMATTER Kq204 (allS E_b202.cell all0)
  have S_DigitOnes := own_sta_keep S_DigitOnes Kq204 (allS E_b202.cell all0)
  have A_a_D1 := A_a_D1.keep Kq204 (ninS ne_a_D1_b202 nin0)
  have hkp := own_kpk Kq204 hkp (allS g_b202 all0) hnz
  have hk := Nat.le_trans hk Kq204.1
  have E_b202 := fq204_0
  have F_ok_b202 := fq204_1
  have F_other_b202 := fq204_2
  have F_errors_b202 := fq204_3
  have K204 := K202.trans Kq204 (allS (Or.inr sz_b202) all0)
  refine Ends.step (fun _ k => st204.trans k) ?_
  show Ends p e below QQ (T204.setTop (mkF m 15 #[.val (.int p0), .val (.int p1), .val (.int p2), .val (.int p3), .val (.ref b202), .unset, .unset, .unset, .unset] []))
  refine Ends.step (fun _ k => XS.aload X204.here hx rfl (hb hby at_15) rfl rfl k) ?_
  show Ends p e below QQ (T204.setTop (mkF m 17 #[.val (.int p0), .val (.int p1), .val (.int p2), .val (.int p3), .val (.ref b202), .unset, .unset, .unset, .unset] [(.ref b202)]))
  refine Ends.step (fun _ k => XS.iloadN X204.here hx rfl (hb hby at_17) rfl k) ?_
  show Ends p e below QQ (T204.setTop (mkF m 18 #[.val (.int p0), .val (.int p1), .val (.int p2), .val (.int p3), .val (.ref b202), .unset, .unset, .unset, .unset] [(.int p1), (.ref b202)]))
  obtain ⟨cq205, kq205, q205a, q205b, q205c⟩ := isOf hZ rfl E_b202
  obtain ⟨_, _, ⟨T205, L205, k205, n205⟩, -, X205, ⟨Lc205, hQ205, l205, y205, z205⟩, st205⟩ := X204.virtualBack hx (y := (⟨"com/example/wide_area_crawler/wideareacrawler/CrawlCounts", "count", "(I)V"⟩ : MethodName)) (z := (⟨"com/example/wide_area_crawler/wideareacrawler/CrawlCounts", "count", "(I)V"⟩ : MethodName)) hown (mvT hZ (hw _ (List.mem_of_getElem? (i := 9) rfl))) (mvT hZ (hw _ (List.mem_of_getElem? (i := 10) rfl))) (notFace_of_selects (args := #[]) (mvT hZ (hw _ (List.mem_of_getElem? (i := 12) rfl)))) (mvT hZ (hw _ (List.mem_of_getElem? (i := 12) rfl))) (mvT hZ (hw _ (List.mem_of_getElem? (i := 11) rfl))) (by decide) (backOf (W := 0) (rmcnt l Z a0 hw [] b202 p1 (own_ck p0 (0 : Int64)) (own_co p0 (0 : Int64)) (own_ce p0 (0 : Int64)) T204.heap n0 (Nat.le_trans Z0 K204.1) E_b202 F_ok_b202 F_other_b202 F_errors_b202 g_b202) hZ (hw _ (List.mem_of_getElem? (i := 13) rfl)) (hw _ (List.mem_of_getElem? (i := 2) rfl)) (by decide) (by decide)) q205a q205c (g := (mkF m 18 #[.val (.int p0), .val (.int p1), .val (.int p2), .val (.int p3), .val (.ref b202), .unset, .unset, .unset, .unset] [(.int p1), (.ref b202)])) rfl (by rw [hml]; rfl) (Steps.refl _) (argsL := [(.int p1)]) (rest := []) (lenOf pd_5 rfl) rfl (by show 2 * 0 + _ ≤ _; exact Nat.le_of_eq rfl) (hb hby at_18) (fun _ _ => ⟨rfl, rfl, (by decide : 1 + 0 ≤ _), (by decide : 3 + 0 ≤ _)⟩)
  dsimp only [Pt.U, Pt.locs, Pt.cells, Pt.slots] at X205 l205 y205 z205 st205 hQ205
  subst l205 y205 z205
  obtain ⟨rfl, Nq205, Kq205, fq205_0, fq205_1, fq205_2, fq205_3⟩ := hQ205
  have N205 := Fr.app N204 Nq205
  have S_COMPACT_STRINGS := own_sta_keep S_COMPACT_STRINGS Kq205 (allS E_b202.cell all0)
  have S_SIOOBE_FORMATTER := own_sta_keep S_SIOOBE_FORMATTER Kq205 (allS E_b202.cell all0)
  have S_DigitOnes := own_sta_keep S_DigitOnes Kq205 (allS E_b202.cell all0)
  have A_a_D1 := A_a_D1.keep Kq205 (ninS ne_a_D1_b202 nin0)
  have hkp := own_kpk Kq205 hkp (allS g_b202 all0) hnz
  have hk := Nat.le_trans hk Kq205.1
  have E_b202 := fq205_0
  have F_ok_b202 := fq205_1
  have F_other_b202 := fq205_2
  have F_errors_b202 := fq205_3
  have K205 := K204.trans Kq205 (allS (Or.inr sz_b202) all0)
  refine Ends.step (fun _ k => st205.trans k) ?_
  show Ends p e below QQ (T205.setTop (mkF m 21 #[.val (.int p0), .val (.int p1), .val (.int p2), .val (.int p3), .val (.ref b202), .unset, .unset, .unset, .unset] []))
  refine Ends.step (fun _ k => XS.aload X205.here hx rfl (hb hby at_21) rfl rfl k) ?_
  show Ends p e below QQ (T205.setTop (mkF m 23 #[.val (.int p0), .val (.int p1), .val (.int p2), .val (.int p3), .val (.ref b202), .unset, .unset, .unset, .unset] [(.ref b202)]))
  refine Ends.step (fun _ k => XS.iloadN X205.here hx rfl (hb hby at_23) rfl k) ?_
  show Ends p e below QQ (T205.setTop (mkF m 24 #[.val (.int p0), .val (.int p1), .val (.int p2), .val (.int p3), .val (.ref b202), .unset, .unset, .unset, .unset] [(.int p2), (.ref b202)]))
  obtain ⟨cq206, kq206, q206a, q206b, q206c⟩ := isOf hZ rfl E_b202
  obtain ⟨_, _, ⟨T206, L206, k206, n206⟩, -, X206, ⟨Lc206, hQ206, l206, y206, z206⟩, st206⟩ := X205.virtualBack hx (y := (⟨"com/example/wide_area_crawler/wideareacrawler/CrawlCounts", "count", "(I)V"⟩ : MethodName)) (z := (⟨"com/example/wide_area_crawler/wideareacrawler/CrawlCounts", "count", "(I)V"⟩ : MethodName)) hown (mvT hZ (hw _ (List.mem_of_getElem? (i := 9) rfl))) (mvT hZ (hw _ (List.mem_of_getElem? (i := 10) rfl))) (notFace_of_selects (args := #[]) (mvT hZ (hw _ (List.mem_of_getElem? (i := 12) rfl)))) (mvT hZ (hw _ (List.mem_of_getElem? (i := 12) rfl))) (mvT hZ (hw _ (List.mem_of_getElem? (i := 11) rfl))) (by decide) (backOf (W := 0) (rmcnt l Z a0 hw [] b202 p2 (own_ck p1 (own_ck p0 (0 : Int64))) (own_co p1 (own_co p0 (0 : Int64))) (own_ce p1 (own_ce p0 (0 : Int64))) T205.heap n0 (Nat.le_trans Z0 K205.1) E_b202 F_ok_b202 F_other_b202 F_errors_b202 g_b202) hZ (hw _ (List.mem_of_getElem? (i := 13) rfl)) (hw _ (List.mem_of_getElem? (i := 2) rfl)) (by decide) (by decide)) q206a q206c (g := (mkF m 24 #[.val (.int p0), .val (.int p1), .val (.int p2), .val (.int p3), .val (.ref b202), .unset, .unset, .unset, .unset] [(.int p2), (.ref b202)])) rfl (by rw [hml]; rfl) (Steps.refl _) (argsL := [(.int p2)]) (rest := []) (lenOf pd_5 rfl) rfl (by show 2 * 0 + _ ≤ _; exact Nat.le_of_eq rfl) (hb hby at_24) (fun _ _ => ⟨rfl, rfl, (by decide : 1 + 0 ≤ _), (by decide : 3 + 0 ≤ _)⟩)
  dsimp only [Pt.U, Pt.locs, Pt.cells, Pt.slots] at X206 l206 y206 z206 st206 hQ206
  subst l206 y206 z206
  obtain ⟨rfl, Nq206, Kq206, fq206_0, fq206_1, fq206_2, fq206_3⟩ := hQ206
  have N206 := Fr.app N205 Nq206
  have S_COMPACT_STRINGS := own_sta_keep S_COMPACT_STRINGS Kq206 (allS E_b202.cell all0)
  have S_SIOOBE_FORMATTER := own_sta_keep S_SIOOBE_FORMATTER Kq206 (allS E_b202.cell all0)
  have S_DigitOnes := own_sta_keep S_DigitOnes Kq206 (allS E_b202.cell all0)
  have A_a_D1 := A_a_D1.keep Kq206 (ninS ne_a_D1_b202 nin0)
  have hkp := own_kpk Kq206 hkp (allS g_b202 all0) hnz
  have hk := Nat.le_trans hk Kq206.1
  have E_b202 := fq206_0
  have F_ok_b202 := fq206_1
  have F_other_b202 := fq206_2
  have F_errors_b202 := fq206_3
  have K206 := K205.trans Kq206 (allS (Or.inr sz_b202) all0)
  refine Ends.step (fun _ k => st206.trans k) ?_
  show Ends p e below QQ (T206.setTop (mkF m 27 #[.val (.int p0), .val (.int p1), .val (.int p2), .val (.int p3), .val (.ref b202), .unset, .unset, .unset, .unset] []))
  refine Ends.step (fun _ k => XS.aload X206.here hx rfl (hb hby at_27) rfl rfl k) ?_
  show Ends p e below QQ (T206.setTop (mkF m 29 #[.val (.int p0), .val (.int p1), .val (.int p2), .val (.int p3), .val (.ref b202), .unset, .unset, .unset, .unset] [(.ref b202)]))
  refine Ends.step (fun _ k => XS.iloadN X206.here hx rfl (hb hby at_29) rfl k) ?_
  show Ends p e below QQ (T206.setTop (mkF m 30 #[.val (.int p0), .val (.int p1), .val (.int p2), .val (.int p3), .val (.ref b202), .unset, .unset, .unset, .unset] [(.int p3), (.ref b202)]))
  obtain ⟨cq207, kq207, q207a, q207b, q207c⟩ := isOf hZ rfl E_b202
  obtain ⟨_, _, ⟨T207, L207, k207, n207⟩, -, X207, ⟨Lc207, hQ207, l207, y207, z207⟩, st207⟩ := X206.virtualBack hx (y := (⟨"com/example/wide_area_crawler/wideareacrawler/CrawlCounts", "count", "(I)V"⟩ : MethodName)) (z := (⟨"com/example/wide_area_crawler/wideareacrawler/CrawlCounts", "count", "(I)V"⟩ : MethodName)) hown (mvT hZ (hw _ (List.mem_of_getElem? (i := 9) rfl))) (mvT hZ (hw _ (List.mem_of_getElem? (i := 10) rfl))) (notFace_of_selects (args := #[]) (mvT hZ (hw _ (List.mem_of_getElem? (i := 12) rfl)))) (mvT hZ (hw _ (List.mem_of_getElem? (i := 12) rfl))) (mvT hZ (hw _ (List.mem_of_getElem? (i := 11) rfl))) (by decide) (backOf (W := 0) (rmcnt l Z a0 hw [] b202 p3 (own_ck p2 (own_ck p1 (own_ck p0 (0 : Int64)))) (own_co p2 (own_co p1 (own_co p0 (0 : Int64)))) (own_ce p2 (own_ce p1 (own_ce p0 (0 : Int64)))) T206.heap n0 (Nat.le_trans Z0 K206.1) E_b202 F_ok_b202 F_other_b202 F_errors_b202 g_b202) hZ (hw _ (List.mem_of_getElem? (i := 13) rfl)) (hw _ (List.mem_of_getElem? (i := 2) rfl)) (by decide) (by decide)) q207a q207c (g := (mkF m 30 #[.val (.int p0), .val (.int p1), .val (.int p2), .val (.int p3), .val (.ref b202), .unset, .unset, .unset, .unset] [(.int p3), (.ref b202)])) rfl (by rw [hml]; rfl) (Steps.refl _) (argsL := [(.int p3)]) (rest := []) (lenOf pd_5 rfl) rfl (by show 2 * 0 + _ ≤ _; exact Nat.le_of_eq rfl) (hb hby at_30) (fun _ _ => ⟨rfl, rfl, (by decide : 1 + 0 ≤ _), (by decide : 3 + 0 ≤ _)⟩)
  dsimp only [Pt.U, Pt.locs, Pt.cells, Pt.slots] at X207 l207 y207 z207 st207 hQ207
  subst l207 y207 z207
  obtain ⟨rfl, Nq207, Kq207, fq207_0, fq207_1, fq207_2, fq207_3⟩ := hQ207
  have N207 := Fr.app N206 Nq207
  have S_COMPACT_STRINGS := own_sta_keep S_COMPACT_STRINGS Kq207 (allS E_b202.cell all0)
  have S_SIOOBE_FORMATTER := own_sta_keep S_SIOOBE_FORMATTER Kq207 (allS E_b202.cell all0)
  have S_DigitOnes := own_sta_keep S_DigitOnes Kq207 (allS E_b202.cell all0)
  have A_a_D1 := A_a_D1.keep Kq207 (ninS ne_a_D1_b202 nin0)
  have hkp := own_kpk Kq207 hkp (allS g_b202 all0) hnz
  have hk := Nat.le_trans hk Kq207.1
  have E_b202 := fq207_0
  have F_ok_b202 := fq207_1
  have F_other_b202 := fq207_2
  have F_errors_b202 := fq207_3
  have K207 := K206.trans Kq207 (allS (Or.inr sz_b202) all0)
  refine Ends.step (fun _ k => st207.trans k) ?_
  show Ends p e below QQ (T207.setTop (mkF m 33 #[.val (.int p0), .val (.int p1), .val (.int p2), .val (.int p3), .val (.ref b202), .unset, .unset, .unset, .unset] []))
  refine Ends.step (fun _ k => XS.iloadN X207.here hx rfl (hb hby at_33) rfl k) ?_
  show Ends p e below QQ (T207.setTop (mkF m 34 #[.val (.int p0), .val (.int p1), .val (.int p2), .val (.int p3), .val (.ref b202), .unset, .unset, .unset, .unset] [(.int p0)]))
  refine Ends.step (fun _ k => XT.iconstV X207.here hx rfl (0 : Int32) (hb hby at_34) rfl k) ?_
  show Ends p e below QQ (T207.setTop (mkF m 35 #[.val (.int p0), .val (.int p1), .val (.int p2), .val (.int p3), .val (.ref b202), .unset, .unset, .unset, .unset] [(.int (0 : Int32)), (.int p0)]))
  obtain ⟨_, _, ⟨T208, L208, k208, n208⟩, -, X208, ⟨Lc208, hQ208, l208, y208, z208⟩, st208⟩ := Jvm.LawKit.callS X207 hx (y := (⟨"com/example/wide_area_crawler/wideareacrawler/CrawlCountsCountPinLaw", "hit", "(II)I"⟩ : MethodName)) hown (mvT hZ (hw _ (List.mem_of_getElem? (i := 18) rfl))) (mvT hZ (hw _ (List.mem_of_getElem? (i := 19) rfl))) (mvT hZ (hw _ (List.mem_of_getElem? (i := 20) rfl))) (mvT hZ (hw _ (List.mem_of_getElem? (i := 21) rfl))) (by decide) (backOf (W := 0) (rmhit l Z a0 hw [] p0 (0 : Int32) T207.heap n0 (Nat.le_trans Z0 K207.1)) hZ (hw _ (List.mem_of_getElem? (i := 21) rfl)) (hw _ (List.mem_of_getElem? (i := 20) rfl)) (by decide) (by decide)) (g := (mkF m 35 #[.val (.int p0), .val (.int p1), .val (.int p2), .val (.int p3), .val (.ref b202), .unset, .unset, .unset, .unset] [(.int (0 : Int32)), (.int p0)])) rfl (by rw [hml]; rfl) (argsL := [(.int p0), (.int (0 : Int32))]) (rest := []) (lenOf pd_11 rfl) rfl (by show 2 * 0 + _ ≤ _; exact Nat.le_of_eq rfl) (hb hby at_35) (fun _ _ => ⟨rfl, rfl, (by decide : 1 + 0 ≤ _), (by decide : 3 + 0 ≤ _)⟩)
  dsimp only [Pt.U, Pt.locs, Pt.cells, Pt.slots] at X208 l208 y208 z208 st208 hQ208
  subst l208 y208 z208
  obtain ⟨rfl, Nq208, hh208⟩ := hQ208
  have N208 := Fr.app N207 Nq208
  refine Ends.step st208 ?_
  show Ends p e below QQ (T208.setTop (mkF m 38 #[.val (.int p0), .val (.int p1), .val (.int p2), .val (.int p3), .val (.ref b202), .unset, .unset, .unset, .unset] [(.int (fhit p0 (0 : Int32)))]))
  refine Ends.step (fun _ k => XS.iloadN X208.here hx rfl (hb hby at_38) rfl k) ?_
  show Ends p e below QQ (T208.setTop (mkF m 39 #[.val (.int p0), .val (.int p1), .val (.int p2), .val (.int p3), .val (.ref b202), .unset, .unset, .unset, .unset] [(.int p1), (.int (fhit p0 (0 : Int32)))]))
  refine Ends.step (fun _ k => XT.iconstV X208.here hx rfl (0 : Int32) (hb hby at_39) rfl k) ?_
  show Ends p e below QQ (T208.setTop (mkF m 40 #[.val (.int p0), .val (.int p1), .val (.int p2), .val (.int p3), .val (.ref b202), .unset, .unset, .unset, .unset] [(.int (0 : Int32)), (.int p1), (.int (fhit p0 (0 : Int32)))]))
  obtain ⟨_, _, ⟨T209, L209, k209, n209⟩, -, X209, ⟨Lc209, hQ209, l209, y209, z209⟩, st209⟩ := Jvm.LawKit.callS X208 hx (y := (⟨"com/example/wide_area_crawler/wideareacrawler/CrawlCountsCountPinLaw", "hit", "(II)I"⟩ : MethodName)) hown (mvT hZ (hw _ (List.mem_of_getElem? (i := 18) rfl))) (mvT hZ (hw _ (List.mem_of_getElem? (i := 19) rfl))) (mvT hZ (hw _ (List.mem_of_getElem? (i := 20) rfl))) (mvT hZ (hw _ (List.mem_of_getElem? (i := 21) rfl))) (by decide) (backOf (W := 1) (rmhit l Z a0 hw [] p1 (0 : Int32) T207.heap n0 (Nat.le_trans Z0 K207.1)) hZ (hw _ (List.mem_of_getElem? (i := 21) rfl)) (hw _ (List.mem_of_getElem? (i := 20) rfl)) (by decide) (by decide)) (g := (mkF m 40 #[.val (.int p0), .val (.int p1), .val (.int p2), .val (.int p3), .val (.ref b202), .unset, .unset, .unset, .unset] [(.int (0 : Int32)), (.int p1), (.int (fhit p0 (0 : Int32)))])) rfl (by rw [hml]; rfl) (argsL := [(.int p1), (.int (0 : Int32))]) (rest := [(.int (fhit p0 (0 : Int32)))]) (lenOf pd_11 rfl) rfl (by show 2 * 0 + _ ≤ _; exact Nat.le_of_eq rfl) (hb hby at_40) (fun _ _ => ⟨rfl, hh208, (by decide : 1 + 0 ≤ _), (by decide : 3 + 0 ≤ _)⟩)
  dsimp only [Pt.U, Pt.locs, Pt.cells, Pt.slots] at X209 l209 y209 z209 st209 hQ209
  subst l209 y209 z209
  obtain ⟨rfl, Nq209, hh209⟩ := hQ209
  have N209 := Fr.app N208 Nq209
  refine Ends.step st209 ?_
  show Ends p e below QQ (T209.setTop (mkF m 43 #[.val (.int p0), .val (.int p1), .val (.int p2), .val (.int p3), .val (.ref b202), .unset, .unset, .unset, .unset] [(.int (fhit p1 (0 : Int32))), (.int (fhit p0 (0 : Int32)))]))
  refine Ends.step (fun _ k => XS.iadd X209.here hx rfl (hb hby at_43) rfl k) ?_
  show Ends p e below QQ (T209.setTop (mkF m 44 #[.val (.int p0), .val (.int p1), .val (.int p2), .val (.int p3), .val (.ref b202), .unset, .unset, .unset, .unset] [(.int ((fhit p0 (0 : Int32)) + (fhit p1 (0 : Int32))))]))
  refine Ends.step (fun _ k => XS.iloadN X209.here hx rfl (hb hby at_44) rfl k) ?_
  show Ends p e below QQ (T209.setTop (mkF m 45 #[.val (.int p0), .val (.int p1), .val (.int p2), .val (.int p3), .val (.ref b202), .unset, .unset, .unset, .unset] [(.int p2), (.int ((fhit p0 (0 : Int32)) + (fhit p1 (0 : Int32))))]))
  refine Ends.step (fun _ k => XT.iconstV X209.here hx rfl (0 : Int32) (hb hby at_45) rfl k) ?_
  show Ends p e below QQ (T209.setTop (mkF m 46 #[.val (.int p0), .val (.int p1), .val (.int p2), .val (.int p3), .val (.ref b202), .unset, .unset, .unset, .unset] [(.int (0 : Int32)), (.int p2), (.int ((fhit p0 (0 : Int32)) + (fhit p1 (0 : Int32))))]))
  obtain ⟨_, _, ⟨T210, L210, k210, n210⟩, -, X210, ⟨Lc210, hQ210, l210, y210, z210⟩, st210⟩ := Jvm.LawKit.callS X209 hx (y := (⟨"com/example/wide_area_crawler/wideareacrawler/CrawlCountsCountPinLaw", "hit", "(II)I"⟩ : MethodName)) hown (mvT hZ (hw _ (List.mem_of_getElem? (i := 18) rfl))) (mvT hZ (hw _ (List.mem_of_getElem? (i := 19) rfl))) (mvT hZ (hw _ (List.mem_of_getElem? (i := 20) rfl))) (mvT hZ (hw _ (List.mem_of_getElem? (i := 21) rfl))) (by decide) (backOf (W := 1) (rmhit l Z a0 hw [] p2 (0 : Int32) T207.heap n0 (Nat.le_trans Z0 K207.1)) hZ (hw _ (List.mem_of_getElem? (i := 21) rfl)) (hw _ (List.mem_of_getElem? (i := 20) rfl)) (by decide) (by decide)) (g := (mkF m 46 #[.val (.int p0), .val (.int p1), .val (.int p2), .val (.int p3), .val (.ref b202), .unset, .unset, .unset, .unset] [(.int (0 : Int32)), (.int p2), (.int ((fhit p0 (0 : Int32)) + (fhit p1 (0 : Int32))))])) rfl (by rw [hml]; rfl) (argsL := [(.int p2), (.int (0 : Int32))]) (rest := [(.int ((fhit p0 (0 : Int32)) + (fhit p1 (0 : Int32))))]) (lenOf pd_11 rfl) rfl (by show 2 * 0 + _ ≤ _; exact Nat.le_of_eq rfl) (hb hby at_46) (fun _ _ => ⟨rfl, hh209, (by decide : 1 + 0 ≤ _), (by decide : 3 + 0 ≤ _)⟩)
  dsimp only [Pt.U, Pt.locs, Pt.cells, Pt.slots] at X210 l210 y210 z210 st210 hQ210
  subst l210 y210 z210
  obtain ⟨rfl, Nq210, hh210⟩ := hQ210
  have N210 := Fr.app N209 Nq210
  refine Ends.step st210 ?_
  show Ends p e below QQ (T210.setTop (mkF m 49 #[.val (.int p0), .val (.int p1), .val (.int p2), .val (.int p3), .val (.ref b202), .unset, .unset, .unset, .unset] [(.int (fhit p2 (0 : Int32))), (.int ((fhit p0 (0 : Int32)) + (fhit p1 (0 : Int32))))]))
  refine Ends.step (fun _ k => XS.iadd X210.here hx rfl (hb hby at_49) rfl k) ?_
  show Ends p e below QQ (T210.setTop (mkF m 50 #[.val (.int p0), .val (.int p1), .val (.int p2), .val (.int p3), .val (.ref b202), .unset, .unset, .unset, .unset] [(.int (((fhit p0 (0 : Int32)) + (fhit p1 (0 : Int32))) + (fhit p2 (0 : Int32))))]))
  refine Ends.step (fun _ k => XS.iloadN X210.here hx rfl (hb hby at_50) rfl k) ?_
  show Ends p e below QQ (T210.setTop (mkF m 51 #[.val (.int p0), .val (.int p1), .val (.int p2), .val (.int p3), .val (.ref b202), .unset, .unset, .unset, .unset] [(.int p3), (.int (((fhit p0 (0 : Int32)) + (fhit p1 (0 : Int32))) + (fhit p2 (0 : Int32))))]))
  refine Ends.step (fun _ k => XT.iconstV X210.here hx rfl (0 : Int32) (hb hby at_51) rfl k) ?_
  show Ends p e below QQ (T210.setTop (mkF m 52 #[.val (.int p0), .val (.int p1), .val (.int p2), .val (.int p3), .val (.ref b202), .unset, .unset, .unset, .unset] [(.int (0 : Int32)), (.int p3), (.int (((fhit p0 (0 : Int32)) + (fhit p1 (0 : Int32))) + (fhit p2 (0 : Int32))))]))
  obtain ⟨_, _, ⟨T211, L211, k211, n211⟩, -, X211, ⟨Lc211, hQ211, l211, y211, z211⟩, st211⟩ := Jvm.LawKit.callS X210 hx (y := (⟨"com/example/wide_area_crawler/wideareacrawler/CrawlCountsCountPinLaw", "hit", "(II)I"⟩ : MethodName)) hown (mvT hZ (hw _ (List.mem_of_getElem? (i := 18) rfl))) (mvT hZ (hw _ (List.mem_of_getElem? (i := 19) rfl))) (mvT hZ (hw _ (List.mem_of_getElem? (i := 20) rfl))) (mvT hZ (hw _ (List.mem_of_getElem? (i := 21) rfl))) (by decide) (backOf (W := 1) (rmhit l Z a0 hw [] p3 (0 : Int32) T207.heap n0 (Nat.le_trans Z0 K207.1)) hZ (hw _ (List.mem_of_getElem? (i := 21) rfl)) (hw _ (List.mem_of_getElem? (i := 20) rfl)) (by decide) (by decide)) (g := (mkF m 52 #[.val (.int p0), .val (.int p1), .val (.int p2), .val (.int p3), .val (.ref b202), .unset, .unset, .unset, .unset] [(.int (0 : Int32)), (.int p3), (.int (((fhit p0 (0 : Int32)) + (fhit p1 (0 : Int32))) + (fhit p2 (0 : Int32))))])) rfl (by rw [hml]; rfl) (argsL := [(.int p3), (.int (0 : Int32))]) (rest := [(.int (((fhit p0 (0 : Int32)) + (fhit p1 (0 : Int32))) + (fhit p2 (0 : Int32))))]) (lenOf pd_11 rfl) rfl (by show 2 * 0 + _ ≤ _; exact Nat.le_of_eq rfl) (hb hby at_52) (fun _ _ => ⟨rfl, hh210, (by decide : 1 + 0 ≤ _), (by decide : 3 + 0 ≤ _)⟩)
  dsimp only [Pt.U, Pt.locs, Pt.cells, Pt.slots] at X211 l211 y211 z211 st211 hQ211
  subst l211 y211 z211
  obtain ⟨rfl, Nq211, hh211⟩ := hQ211
  have N211 := Fr.app N210 Nq211
  refine Ends.step st211 ?_
  show Ends p e below QQ (T211.setTop (mkF m 55 #[.val (.int p0), .val (.int p1), .val (.int p2), .val (.int p3), .val (.ref b202), .unset, .unset, .unset, .unset] [(.int (fhit p3 (0 : Int32))), (.int (((fhit p0 (0 : Int32)) + (fhit p1 (0 : Int32))) + (fhit p2 (0 : Int32))))]))
  refine Ends.step (fun _ k => XS.iadd X211.here hx rfl (hb hby at_55) rfl k) ?_
  show Ends p e below QQ (T211.setTop (mkF m 56 #[.val (.int p0), .val (.int p1), .val (.int p2), .val (.int p3), .val (.ref b202), .unset, .unset, .unset, .unset] [(.int ((((fhit p0 (0 : Int32)) + (fhit p1 (0 : Int32))) + (fhit p2 (0 : Int32))) + (fhit p3 (0 : Int32))))]))
  refine Ends.step (fun _ k => XS.istore X211.here hx rfl (hb hby at_56) rfl (l' := #[.val (.int p0), .val (.int p1), .val (.int p2), .val (.int p3), .val (.ref b202), .val (.int ((((fhit p0 (0 : Int32)) + (fhit p1 (0 : Int32))) + (fhit p2 (0 : Int32))) + (fhit p3 (0 : Int32)))), .unset, .unset, .unset]) rfl k) ?_
  show Ends p e below QQ (T211.setTop (mkF m 58 #[.val (.int p0), .val (.int p1), .val (.int p2), .val (.int p3), .val (.ref b202), .val (.int ((((fhit p0 (0 : Int32)) + (fhit p1 (0 : Int32))) + (fhit p2 (0 : Int32))) + (fhit p3 (0 : Int32)))), .unset, .unset, .unset] []))
  generalize hv5_1 : ((((fhit p0 (0 : Int32)) + (fhit p1 (0 : Int32))) + (fhit p2 (0 : Int32))) + (fhit p3 (0 : Int32))) = x5_1
  show Ends p e below QQ (T211.setTop (mkF m 58 #[.val (.int p0), .val (.int p1), .val (.int p2), .val (.int p3), .val (.ref b202), .val (.int x5_1), .unset, .unset, .unset] []))
  refine Ends.step (fun _ k => XS.iloadN X211.here hx rfl (hb hby at_58) rfl k) ?_
  show Ends p e below QQ (T211.setTop (mkF m 59 #[.val (.int p0), .val (.int p1), .val (.int p2), .val (.int p3), .val (.ref b202), .val (.int x5_1), .unset, .unset, .unset] [(.int p0)]))
  refine Ends.step (fun _ k => XT.iconstV X211.here hx rfl (1 : Int32) (hb hby at_59) rfl k) ?_
  show Ends p e below QQ (T211.setTop (mkF m 60 #[.val (.int p0), .val (.int p1), .val (.int p2), .val (.int p3), .val (.ref b202), .val (.int x5_1), .unset, .unset, .unset] [(.int (1 : Int32)), (.int p0)]))
  obtain ⟨_, _, ⟨T212, L212, k212, n212⟩, -, X212, ⟨Lc212, hQ212, l212, y212, z212⟩, st212⟩ := Jvm.LawKit.callS X211 hx (y := (⟨"com/example/wide_area_crawler/wideareacrawler/CrawlCountsCountPinLaw", "hit", "(II)I"⟩ : MethodName)) hown (mvT hZ (hw _ (List.mem_of_getElem? (i := 18) rfl))) (mvT hZ (hw _ (List.mem_of_getElem? (i := 19) rfl))) (mvT hZ (hw _ (List.mem_of_getElem? (i := 20) rfl))) (mvT hZ (hw _ (List.mem_of_getElem? (i := 21) rfl))) (by decide) (backOf (W := 0) (rmhit l Z a0 hw [] p0 (1 : Int32) T207.heap n0 (Nat.le_trans Z0 K207.1)) hZ (hw _ (List.mem_of_getElem? (i := 21) rfl)) (hw _ (List.mem_of_getElem? (i := 20) rfl)) (by decide) (by decide)) (g := (mkF m 60 #[.val (.int p0), .val (.int p1), .val (.int p2), .val (.int p3), .val (.ref b202), .val (.int x5_1), .unset, .unset, .unset] [(.int (1 : Int32)), (.int p0)])) rfl (by rw [hml]; rfl) (argsL := [(.int p0), (.int (1 : Int32))]) (rest := []) (lenOf pd_11 rfl) rfl (by show 2 * 0 + _ ≤ _; exact Nat.le_of_eq rfl) (hb hby at_60) (fun _ _ => ⟨rfl, hh211, (by decide : 1 + 0 ≤ _), (by decide : 3 + 0 ≤ _)⟩)
  dsimp only [Pt.U, Pt.locs, Pt.cells, Pt.slots] at X212 l212 y212 z212 st212 hQ212
  subst l212 y212 z212
  obtain ⟨rfl, Nq212, hh212⟩ := hQ212
  have N212 := Fr.app N211 Nq212
  refine Ends.step st212 ?_
  show Ends p e below QQ (T212.setTop (mkF m 63 #[.val (.int p0), .val (.int p1), .val (.int p2), .val (.int p3), .val (.ref b202), .val (.int x5_1), .unset, .unset, .unset] [(.int (fhit p0 (1 : Int32)))]))
  refine Ends.step (fun _ k => XS.iloadN X212.here hx rfl (hb hby at_63) rfl k) ?_
  show Ends p e below QQ (T212.setTop (mkF m 64 #[.val (.int p0), .val (.int p1), .val (.int p2), .val (.int p3), .val (.ref b202), .val (.int x5_1), .unset, .unset, .unset] [(.int p1), (.int (fhit p0 (1 : Int32)))]))
  refine Ends.step (fun _ k => XT.iconstV X212.here hx rfl (1 : Int32) (hb hby at_64) rfl k) ?_
  show Ends p e below QQ (T212.setTop (mkF m 65 #[.val (.int p0), .val (.int p1), .val (.int p2), .val (.int p3), .val (.ref b202), .val (.int x5_1), .unset, .unset, .unset] [(.int (1 : Int32)), (.int p1), (.int (fhit p0 (1 : Int32)))]))
  obtain ⟨_, _, ⟨T213, L213, k213, n213⟩, -, X213, ⟨Lc213, hQ213, l213, y213, z213⟩, st213⟩ := Jvm.LawKit.callS X212 hx (y := (⟨"com/example/wide_area_crawler/wideareacrawler/CrawlCountsCountPinLaw", "hit", "(II)I"⟩ : MethodName)) hown (mvT hZ (hw _ (List.mem_of_getElem? (i := 18) rfl))) (mvT hZ (hw _ (List.mem_of_getElem? (i := 19) rfl))) (mvT hZ (hw _ (List.mem_of_getElem? (i := 20) rfl))) (mvT hZ (hw _ (List.mem_of_getElem? (i := 21) rfl))) (by decide) (backOf (W := 1) (rmhit l Z a0 hw [] p1 (1 : Int32) T207.heap n0 (Nat.le_trans Z0 K207.1)) hZ (hw _ (List.mem_of_getElem? (i := 21) rfl)) (hw _ (List.mem_of_getElem? (i := 20) rfl)) (by decide) (by decide)) (g := (mkF m 65 #[.val (.int p0), .val (.int p1), .val (.int p2), .val (.int p3), .val (.ref b202), .val (.int x5_1), .unset, .unset, .unset] [(.int (1 : Int32)), (.int p1), (.int (fhit p0 (1 : Int32)))])) rfl (by rw [hml]; rfl) (argsL := [(.int p1), (.int (1 : Int32))]) (rest := [(.int (fhit p0 (1 : Int32)))]) (lenOf pd_11 rfl) rfl (by show 2 * 0 + _ ≤ _; exact Nat.le_of_eq rfl) (hb hby at_65) (fun _ _ => ⟨rfl, hh212, (by decide : 1 + 0 ≤ _), (by decide : 3 + 0 ≤ _)⟩)
  dsimp only [Pt.U, Pt.locs, Pt.cells, Pt.slots] at X213 l213 y213 z213 st213 hQ213
  subst l213 y213 z213
  obtain ⟨rfl, Nq213, hh213⟩ := hQ213
  have N213 := Fr.app N212 Nq213
  refine Ends.step st213 ?_
  show Ends p e below QQ (T213.setTop (mkF m 68 #[.val (.int p0), .val (.int p1), .val (.int p2), .val (.int p3), .val (.ref b202), .val (.int x5_1), .unset, .unset, .unset] [(.int (fhit p1 (1 : Int32))), (.int (fhit p0 (1 : Int32)))]))
  refine Ends.step (fun _ k => XS.iadd X213.here hx rfl (hb hby at_68) rfl k) ?_
  show Ends p e below QQ (T213.setTop (mkF m 69 #[.val (.int p0), .val (.int p1), .val (.int p2), .val (.int p3), .val (.ref b202), .val (.int x5_1), .unset, .unset, .unset] [(.int ((fhit p0 (1 : Int32)) + (fhit p1 (1 : Int32))))]))
  refine Ends.step (fun _ k => XS.iloadN X213.here hx rfl (hb hby at_69) rfl k) ?_
  show Ends p e below QQ (T213.setTop (mkF m 70 #[.val (.int p0), .val (.int p1), .val (.int p2), .val (.int p3), .val (.ref b202), .val (.int x5_1), .unset, .unset, .unset] [(.int p2), (.int ((fhit p0 (1 : Int32)) + (fhit p1 (1 : Int32))))]))
  refine Ends.step (fun _ k => XT.iconstV X213.here hx rfl (1 : Int32) (hb hby at_70) rfl k) ?_
  show Ends p e below QQ (T213.setTop (mkF m 71 #[.val (.int p0), .val (.int p1), .val (.int p2), .val (.int p3), .val (.ref b202), .val (.int x5_1), .unset, .unset, .unset] [(.int (1 : Int32)), (.int p2), (.int ((fhit p0 (1 : Int32)) + (fhit p1 (1 : Int32))))]))
  obtain ⟨_, _, ⟨T214, L214, k214, n214⟩, -, X214, ⟨Lc214, hQ214, l214, y214, z214⟩, st214⟩ := Jvm.LawKit.callS X213 hx (y := (⟨"com/example/wide_area_crawler/wideareacrawler/CrawlCountsCountPinLaw", "hit", "(II)I"⟩ : MethodName)) hown (mvT hZ (hw _ (List.mem_of_getElem? (i := 18) rfl))) (mvT hZ (hw _ (List.mem_of_getElem? (i := 19) rfl))) (mvT hZ (hw _ (List.mem_of_getElem? (i := 20) rfl))) (mvT hZ (hw _ (List.mem_of_getElem? (i := 21) rfl))) (by decide) (backOf (W := 1) (rmhit l Z a0 hw [] p2 (1 : Int32) T207.heap n0 (Nat.le_trans Z0 K207.1)) hZ (hw _ (List.mem_of_getElem? (i := 21) rfl)) (hw _ (List.mem_of_getElem? (i := 20) rfl)) (by decide) (by decide)) (g := (mkF m 71 #[.val (.int p0), .val (.int p1), .val (.int p2), .val (.int p3), .val (.ref b202), .val (.int x5_1), .unset, .unset, .unset] [(.int (1 : Int32)), (.int p2), (.int ((fhit p0 (1 : Int32)) + (fhit p1 (1 : Int32))))])) rfl (by rw [hml]; rfl) (argsL := [(.int p2), (.int (1 : Int32))]) (rest := [(.int ((fhit p0 (1 : Int32)) + (fhit p1 (1 : Int32))))]) (lenOf pd_11 rfl) rfl (by show 2 * 0 + _ ≤ _; exact Nat.le_of_eq rfl) (hb hby at_71) (fun _ _ => ⟨rfl, hh213, (by decide : 1 + 0 ≤ _), (by decide : 3 + 0 ≤ _)⟩)
  dsimp only [Pt.U, Pt.locs, Pt.cells, Pt.slots] at X214 l214 y214 z214 st214 hQ214
  subst l214 y214 z214
  obtain ⟨rfl, Nq214, hh214⟩ := hQ214
  have N214 := Fr.app N213 Nq214
  refine Ends.step st214 ?_
  show Ends p e below QQ (T214.setTop (mkF m 74 #[.val (.int p0), .val (.int p1), .val (.int p2), .val (.int p3), .val (.ref b202), .val (.int x5_1), .unset, .unset, .unset] [(.int (fhit p2 (1 : Int32))), (.int ((fhit p0 (1 : Int32)) + (fhit p1 (1 : Int32))))]))
  refine Ends.step (fun _ k => XS.iadd X214.here hx rfl (hb hby at_74) rfl k) ?_
  show Ends p e below QQ (T214.setTop (mkF m 75 #[.val (.int p0), .val (.int p1), .val (.int p2), .val (.int p3), .val (.ref b202), .val (.int x5_1), .unset, .unset, .unset] [(.int (((fhit p0 (1 : Int32)) + (fhit p1 (1 : Int32))) + (fhit p2 (1 : Int32))))]))
  refine Ends.step (fun _ k => XS.iloadN X214.here hx rfl (hb hby at_75) rfl k) ?_
  show Ends p e below QQ (T214.setTop (mkF m 76 #[.val (.int p0), .val (.int p1), .val (.int p2), .val (.int p3), .val (.ref b202), .val (.int x5_1), .unset, .unset, .unset] [(.int p3), (.int (((fhit p0 (1 : Int32)) + (fhit p1 (1 : Int32))) + (fhit p2 (1 : Int32))))]))
  refine Ends.step (fun _ k => XT.iconstV X214.here hx rfl (1 : Int32) (hb hby at_76) rfl k) ?_
  show Ends p e below QQ (T214.setTop (mkF m 77 #[.val (.int p0), .val (.int p1), .val (.int p2), .val (.int p3), .val (.ref b202), .val (.int x5_1), .unset, .unset, .unset] [(.int (1 : Int32)), (.int p3), (.int (((fhit p0 (1 : Int32)) + (fhit p1 (1 : Int32))) + (fhit p2 (1 : Int32))))]))
  obtain ⟨_, _, ⟨T215, L215, k215, n215⟩, -, X215, ⟨Lc215, hQ215, l215, y215, z215⟩, st215⟩ := Jvm.LawKit.callS X214 hx (y := (⟨"com/example/wide_area_crawler/wideareacrawler/CrawlCountsCountPinLaw", "hit", "(II)I"⟩ : MethodName)) hown (mvT hZ (hw _ (List.mem_of_getElem? (i := 18) rfl))) (mvT hZ (hw _ (List.mem_of_getElem? (i := 19) rfl))) (mvT hZ (hw _ (List.mem_of_getElem? (i := 20) rfl))) (mvT hZ (hw _ (List.mem_of_getElem? (i := 21) rfl))) (by decide) (backOf (W := 1) (rmhit l Z a0 hw [] p3 (1 : Int32) T207.heap n0 (Nat.le_trans Z0 K207.1)) hZ (hw _ (List.mem_of_getElem? (i := 21) rfl)) (hw _ (List.mem_of_getElem? (i := 20) rfl)) (by decide) (by decide)) (g := (mkF m 77 #[.val (.int p0), .val (.int p1), .val (.int p2), .val (.int p3), .val (.ref b202), .val (.int x5_1), .unset, .unset, .unset] [(.int (1 : Int32)), (.int p3), (.int (((fhit p0 (1 : Int32)) + (fhit p1 (1 : Int32))) + (fhit p2 (1 : Int32))))])) rfl (by rw [hml]; rfl) (argsL := [(.int p3), (.int (1 : Int32))]) (rest := [(.int (((fhit p0 (1 : Int32)) + (fhit p1 (1 : Int32))) + (fhit p2 (1 : Int32))))]) (lenOf pd_11 rfl) rfl (by show 2 * 0 + _ ≤ _; exact Nat.le_of_eq rfl) (hb hby at_77) (fun _ _ => ⟨rfl, hh214, (by decide : 1 + 0 ≤ _), (by decide : 3 + 0 ≤ _)⟩)
  dsimp only [Pt.U, Pt.locs, Pt.cells, Pt.slots] at X215 l215 y215 z215 st215 hQ215
  subst l215 y215 z215
  obtain ⟨rfl, Nq215, hh215⟩ := hQ215
  have N215 := Fr.app N214 Nq215
  refine Ends.step st215 ?_
  show Ends p e below QQ (T215.setTop (mkF m 80 #[.val (.int p0), .val (.int p1), .val (.int p2), .val (.int p3), .val (.ref b202), .val (.int x5_1), .unset, .unset, .unset] [(.int (fhit p3 (1 : Int32))), (.int (((fhit p0 (1 : Int32)) + (fhit p1 (1 : Int32))) + (fhit p2 (1 : Int32))))]))
  refine Ends.step (fun _ k => XS.iadd X215.here hx rfl (hb hby at_80) rfl k) ?_
  show Ends p e below QQ (T215.setTop (mkF m 81 #[.val (.int p0), .val (.int p1), .val (.int p2), .val (.int p3), .val (.ref b202), .val (.int x5_1), .unset, .unset, .unset] [(.int ((((fhit p0 (1 : Int32)) + (fhit p1 (1 : Int32))) + (fhit p2 (1 : Int32))) + (fhit p3 (1 : Int32))))]))
  refine Ends.step (fun _ k => XS.istore X215.here hx rfl (hb hby at_81) rfl (l' := #[.val (.int p0), .val (.int p1), .val (.int p2), .val (.int p3), .val (.ref b202), .val (.int x5_1), .val (.int ((((fhit p0 (1 : Int32)) + (fhit p1 (1 : Int32))) + (fhit p2 (1 : Int32))) + (fhit p3 (1 : Int32)))), .unset, .unset]) rfl k) ?_
  show Ends p e below QQ (T215.setTop (mkF m 83 #[.val (.int p0), .val (.int p1), .val (.int p2), .val (.int p3), .val (.ref b202), .val (.int x5_1), .val (.int ((((fhit p0 (1 : Int32)) + (fhit p1 (1 : Int32))) + (fhit p2 (1 : Int32))) + (fhit p3 (1 : Int32)))), .unset, .unset] []))
  generalize hv6_2 : ((((fhit p0 (1 : Int32)) + (fhit p1 (1 : Int32))) + (fhit p2 (1 : Int32))) + (fhit p3 (1 : Int32))) = x6_2
  show Ends p e below QQ (T215.setTop (mkF m 83 #[.val (.int p0), .val (.int p1), .val (.int p2), .val (.int p3), .val (.ref b202), .val (.int x5_1), .val (.int x6_2), .unset, .unset] []))
  refine Ends.step (fun _ k => XS.iloadN X215.here hx rfl (hb hby at_83) rfl k) ?_
  show Ends p e below QQ (T215.setTop (mkF m 84 #[.val (.int p0), .val (.int p1), .val (.int p2), .val (.int p3), .val (.ref b202), .val (.int x5_1), .val (.int x6_2), .unset, .unset] [(.int p0)]))
  refine Ends.step (fun _ k => XT.iconstV X215.here hx rfl (2 : Int32) (hb hby at_84) rfl k) ?_
  show Ends p e below QQ (T215.setTop (mkF m 85 #[.val (.int p0), .val (.int p1), .val (.int p2), .val (.int p3), .val (.ref b202), .val (.int x5_1), .val (.int x6_2), .unset, .unset] [(.int (2 : Int32)), (.int p0)]))
  obtain ⟨_, _, ⟨T216, L216, k216, n216⟩, -, X216, ⟨Lc216, hQ216, l216, y216, z216⟩, st216⟩ := Jvm.LawKit.callS X215 hx (y := (⟨"com/example/wide_area_crawler/wideareacrawler/CrawlCountsCountPinLaw", "hit", "(II)I"⟩ : MethodName)) hown (mvT hZ (hw _ (List.mem_of_getElem? (i := 18) rfl))) (mvT hZ (hw _ (List.mem_of_getElem? (i := 19) rfl))) (mvT hZ (hw _ (List.mem_of_getElem? (i := 20) rfl))) (mvT hZ (hw _ (List.mem_of_getElem? (i := 21) rfl))) (by decide) (backOf (W := 0) (rmhit l Z a0 hw [] p0 (2 : Int32) T207.heap n0 (Nat.le_trans Z0 K207.1)) hZ (hw _ (List.mem_of_getElem? (i := 21) rfl)) (hw _ (List.mem_of_getElem? (i := 20) rfl)) (by decide) (by decide)) (g := (mkF m 85 #[.val (.int p0), .val (.int p1), .val (.int p2), .val (.int p3), .val (.ref b202), .val (.int x5_1), .val (.int x6_2), .unset, .unset] [(.int (2 : Int32)), (.int p0)])) rfl (by rw [hml]; rfl) (argsL := [(.int p0), (.int (2 : Int32))]) (rest := []) (lenOf pd_11 rfl) rfl (by show 2 * 0 + _ ≤ _; exact Nat.le_of_eq rfl) (hb hby at_85) (fun _ _ => ⟨rfl, hh215, (by decide : 1 + 0 ≤ _), (by decide : 3 + 0 ≤ _)⟩)
  dsimp only [Pt.U, Pt.locs, Pt.cells, Pt.slots] at X216 l216 y216 z216 st216 hQ216
  subst l216 y216 z216
  obtain ⟨rfl, Nq216, hh216⟩ := hQ216
  have N216 := Fr.app N215 Nq216
  refine Ends.step st216 ?_
  show Ends p e below QQ (T216.setTop (mkF m 88 #[.val (.int p0), .val (.int p1), .val (.int p2), .val (.int p3), .val (.ref b202), .val (.int x5_1), .val (.int x6_2), .unset, .unset] [(.int (fhit p0 (2 : Int32)))]))
  refine Ends.step (fun _ k => XS.iloadN X216.here hx rfl (hb hby at_88) rfl k) ?_
  show Ends p e below QQ (T216.setTop (mkF m 89 #[.val (.int p0), .val (.int p1), .val (.int p2), .val (.int p3), .val (.ref b202), .val (.int x5_1), .val (.int x6_2), .unset, .unset] [(.int p1), (.int (fhit p0 (2 : Int32)))]))
  refine Ends.step (fun _ k => XT.iconstV X216.here hx rfl (2 : Int32) (hb hby at_89) rfl k) ?_
  show Ends p e below QQ (T216.setTop (mkF m 90 #[.val (.int p0), .val (.int p1), .val (.int p2), .val (.int p3), .val (.ref b202), .val (.int x5_1), .val (.int x6_2), .unset, .unset] [(.int (2 : Int32)), (.int p1), (.int (fhit p0 (2 : Int32)))]))
  obtain ⟨_, _, ⟨T217, L217, k217, n217⟩, -, X217, ⟨Lc217, hQ217, l217, y217, z217⟩, st217⟩ := Jvm.LawKit.callS X216 hx (y := (⟨"com/example/wide_area_crawler/wideareacrawler/CrawlCountsCountPinLaw", "hit", "(II)I"⟩ : MethodName)) hown (mvT hZ (hw _ (List.mem_of_getElem? (i := 18) rfl))) (mvT hZ (hw _ (List.mem_of_getElem? (i := 19) rfl))) (mvT hZ (hw _ (List.mem_of_getElem? (i := 20) rfl))) (mvT hZ (hw _ (List.mem_of_getElem? (i := 21) rfl))) (by decide) (backOf (W := 1) (rmhit l Z a0 hw [] p1 (2 : Int32) T207.heap n0 (Nat.le_trans Z0 K207.1)) hZ (hw _ (List.mem_of_getElem? (i := 21) rfl)) (hw _ (List.mem_of_getElem? (i := 20) rfl)) (by decide) (by decide)) (g := (mkF m 90 #[.val (.int p0), .val (.int p1), .val (.int p2), .val (.int p3), .val (.ref b202), .val (.int x5_1), .val (.int x6_2), .unset, .unset] [(.int (2 : Int32)), (.int p1), (.int (fhit p0 (2 : Int32)))])) rfl (by rw [hml]; rfl) (argsL := [(.int p1), (.int (2 : Int32))]) (rest := [(.int (fhit p0 (2 : Int32)))]) (lenOf pd_11 rfl) rfl (by show 2 * 0 + _ ≤ _; exact Nat.le_of_eq rfl) (hb hby at_90) (fun _ _ => ⟨rfl, hh216, (by decide : 1 + 0 ≤ _), (by decide : 3 + 0 ≤ _)⟩)
  dsimp only [Pt.U, Pt.locs, Pt.cells, Pt.slots] at X217 l217 y217 z217 st217 hQ217
  subst l217 y217 z217
  obtain ⟨rfl, Nq217, hh217⟩ := hQ217
  have N217 := Fr.app N216 Nq217
  refine Ends.step st217 ?_
  show Ends p e below QQ (T217.setTop (mkF m 93 #[.val (.int p0), .val (.int p1), .val (.int p2), .val (.int p3), .val (.ref b202), .val (.int x5_1), .val (.int x6_2), .unset, .unset] [(.int (fhit p1 (2 : Int32))), (.int (fhit p0 (2 : Int32)))]))
  refine Ends.step (fun _ k => XS.iadd X217.here hx rfl (hb hby at_93) rfl k) ?_
  show Ends p e below QQ (T217.setTop (mkF m 94 #[.val (.int p0), .val (.int p1), .val (.int p2), .val (.int p3), .val (.ref b202), .val (.int x5_1), .val (.int x6_2), .unset, .unset] [(.int ((fhit p0 (2 : Int32)) + (fhit p1 (2 : Int32))))]))
  refine Ends.step (fun _ k => XS.iloadN X217.here hx rfl (hb hby at_94) rfl k) ?_
  show Ends p e below QQ (T217.setTop (mkF m 95 #[.val (.int p0), .val (.int p1), .val (.int p2), .val (.int p3), .val (.ref b202), .val (.int x5_1), .val (.int x6_2), .unset, .unset] [(.int p2), (.int ((fhit p0 (2 : Int32)) + (fhit p1 (2 : Int32))))]))
  refine Ends.step (fun _ k => XT.iconstV X217.here hx rfl (2 : Int32) (hb hby at_95) rfl k) ?_
  show Ends p e below QQ (T217.setTop (mkF m 96 #[.val (.int p0), .val (.int p1), .val (.int p2), .val (.int p3), .val (.ref b202), .val (.int x5_1), .val (.int x6_2), .unset, .unset] [(.int (2 : Int32)), (.int p2), (.int ((fhit p0 (2 : Int32)) + (fhit p1 (2 : Int32))))]))
  obtain ⟨_, _, ⟨T218, L218, k218, n218⟩, -, X218, ⟨Lc218, hQ218, l218, y218, z218⟩, st218⟩ := Jvm.LawKit.callS X217 hx (y := (⟨"com/example/wide_area_crawler/wideareacrawler/CrawlCountsCountPinLaw", "hit", "(II)I"⟩ : MethodName)) hown (mvT hZ (hw _ (List.mem_of_getElem? (i := 18) rfl))) (mvT hZ (hw _ (List.mem_of_getElem? (i := 19) rfl))) (mvT hZ (hw _ (List.mem_of_getElem? (i := 20) rfl))) (mvT hZ (hw _ (List.mem_of_getElem? (i := 21) rfl))) (by decide) (backOf (W := 1) (rmhit l Z a0 hw [] p2 (2 : Int32) T207.heap n0 (Nat.le_trans Z0 K207.1)) hZ (hw _ (List.mem_of_getElem? (i := 21) rfl)) (hw _ (List.mem_of_getElem? (i := 20) rfl)) (by decide) (by decide)) (g := (mkF m 96 #[.val (.int p0), .val (.int p1), .val (.int p2), .val (.int p3), .val (.ref b202), .val (.int x5_1), .val (.int x6_2), .unset, .unset] [(.int (2 : Int32)), (.int p2), (.int ((fhit p0 (2 : Int32)) + (fhit p1 (2 : Int32))))])) rfl (by rw [hml]; rfl) (argsL := [(.int p2), (.int (2 : Int32))]) (rest := [(.int ((fhit p0 (2 : Int32)) + (fhit p1 (2 : Int32))))]) (lenOf pd_11 rfl) rfl (by show 2 * 0 + _ ≤ _; exact Nat.le_of_eq rfl) (hb hby at_96) (fun _ _ => ⟨rfl, hh217, (by decide : 1 + 0 ≤ _), (by decide : 3 + 0 ≤ _)⟩)
  dsimp only [Pt.U, Pt.locs, Pt.cells, Pt.slots] at X218 l218 y218 z218 st218 hQ218
  subst l218 y218 z218
  obtain ⟨rfl, Nq218, hh218⟩ := hQ218
  have N218 := Fr.app N217 Nq218
  refine Ends.step st218 ?_
  show Ends p e below QQ (T218.setTop (mkF m 99 #[.val (.int p0), .val (.int p1), .val (.int p2), .val (.int p3), .val (.ref b202), .val (.int x5_1), .val (.int x6_2), .unset, .unset] [(.int (fhit p2 (2 : Int32))), (.int ((fhit p0 (2 : Int32)) + (fhit p1 (2 : Int32))))]))
  refine Ends.step (fun _ k => XS.iadd X218.here hx rfl (hb hby at_99) rfl k) ?_
  show Ends p e below QQ (T218.setTop (mkF m 100 #[.val (.int p0), .val (.int p1), .val (.int p2), .val (.int p3), .val (.ref b202), .val (.int x5_1), .val (.int x6_2), .unset, .unset] [(.int (((fhit p0 (2 : Int32)) + (fhit p1 (2 : Int32))) + (fhit p2 (2 : Int32))))]))
  refine Ends.step (fun _ k => XS.iloadN X218.here hx rfl (hb hby at_100) rfl k) ?_
  show Ends p e below QQ (T218.setTop (mkF m 101 #[.val (.int p0), .val (.int p1), .val (.int p2), .val (.int p3), .val (.ref b202), .val (.int x5_1), .val (.int x6_2), .unset, .unset] [(.int p3), (.int (((fhit p0 (2 : Int32)) + (fhit p1 (2 : Int32))) + (fhit p2 (2 : Int32))))]))
  refine Ends.step (fun _ k => XT.iconstV X218.here hx rfl (2 : Int32) (hb hby at_101) rfl k) ?_
  show Ends p e below QQ (T218.setTop (mkF m 102 #[.val (.int p0), .val (.int p1), .val (.int p2), .val (.int p3), .val (.ref b202), .val (.int x5_1), .val (.int x6_2), .unset, .unset] [(.int (2 : Int32)), (.int p3), (.int (((fhit p0 (2 : Int32)) + (fhit p1 (2 : Int32))) + (fhit p2 (2 : Int32))))]))
  obtain ⟨_, _, ⟨T219, L219, k219, n219⟩, -, X219, ⟨Lc219, hQ219, l219, y219, z219⟩, st219⟩ := Jvm.LawKit.callS X218 hx (y := (⟨"com/example/wide_area_crawler/wideareacrawler/CrawlCountsCountPinLaw", "hit", "(II)I"⟩ : MethodName)) hown (mvT hZ (hw _ (List.mem_of_getElem? (i := 18) rfl))) (mvT hZ (hw _ (List.mem_of_getElem? (i := 19) rfl))) (mvT hZ (hw _ (List.mem_of_getElem? (i := 20) rfl))) (mvT hZ (hw _ (List.mem_of_getElem? (i := 21) rfl))) (by decide) (backOf (W := 1) (rmhit l Z a0 hw [] p3 (2 : Int32) T207.heap n0 (Nat.le_trans Z0 K207.1)) hZ (hw _ (List.mem_of_getElem? (i := 21) rfl)) (hw _ (List.mem_of_getElem? (i := 20) rfl)) (by decide) (by decide)) (g := (mkF m 102 #[.val (.int p0), .val (.int p1), .val (.int p2), .val (.int p3), .val (.ref b202), .val (.int x5_1), .val (.int x6_2), .unset, .unset] [(.int (2 : Int32)), (.int p3), (.int (((fhit p0 (2 : Int32)) + (fhit p1 (2 : Int32))) + (fhit p2 (2 : Int32))))])) rfl (by rw [hml]; rfl) (argsL := [(.int p3), (.int (2 : Int32))]) (rest := [(.int (((fhit p0 (2 : Int32)) + (fhit p1 (2 : Int32))) + (fhit p2 (2 : Int32))))]) (lenOf pd_11 rfl) rfl (by show 2 * 0 + _ ≤ _; exact Nat.le_of_eq rfl) (hb hby at_102) (fun _ _ => ⟨rfl, hh218, (by decide : 1 + 0 ≤ _), (by decide : 3 + 0 ≤ _)⟩)
  dsimp only [Pt.U, Pt.locs, Pt.cells, Pt.slots] at X219 l219 y219 z219 st219 hQ219
  subst l219 y219 z219
  obtain ⟨rfl, Nq219, hh219⟩ := hQ219
  have N219 := Fr.app N218 Nq219
  refine Ends.step st219 ?_
  show Ends p e below QQ (T219.setTop (mkF m 105 #[.val (.int p0), .val (.int p1), .val (.int p2), .val (.int p3), .val (.ref b202), .val (.int x5_1), .val (.int x6_2), .unset, .unset] [(.int (fhit p3 (2 : Int32))), (.int (((fhit p0 (2 : Int32)) + (fhit p1 (2 : Int32))) + (fhit p2 (2 : Int32))))]))
  refine Ends.step (fun _ k => XS.iadd X219.here hx rfl (hb hby at_105) rfl k) ?_
  show Ends p e below QQ (T219.setTop (mkF m 106 #[.val (.int p0), .val (.int p1), .val (.int p2), .val (.int p3), .val (.ref b202), .val (.int x5_1), .val (.int x6_2), .unset, .unset] [(.int ((((fhit p0 (2 : Int32)) + (fhit p1 (2 : Int32))) + (fhit p2 (2 : Int32))) + (fhit p3 (2 : Int32))))]))
  refine Ends.step (fun _ k => XS.istore X219.here hx rfl (hb hby at_106) rfl (l' := #[.val (.int p0), .val (.int p1), .val (.int p2), .val (.int p3), .val (.ref b202), .val (.int x5_1), .val (.int x6_2), .val (.int ((((fhit p0 (2 : Int32)) + (fhit p1 (2 : Int32))) + (fhit p2 (2 : Int32))) + (fhit p3 (2 : Int32)))), .unset]) rfl k) ?_
  show Ends p e below QQ (T219.setTop (mkF m 108 #[.val (.int p0), .val (.int p1), .val (.int p2), .val (.int p3), .val (.ref b202), .val (.int x5_1), .val (.int x6_2), .val (.int ((((fhit p0 (2 : Int32)) + (fhit p1 (2 : Int32))) + (fhit p2 (2 : Int32))) + (fhit p3 (2 : Int32)))), .unset] []))
  generalize hv7_3 : ((((fhit p0 (2 : Int32)) + (fhit p1 (2 : Int32))) + (fhit p2 (2 : Int32))) + (fhit p3 (2 : Int32))) = x7_3
  show Ends p e below QQ (T219.setTop (mkF m 108 #[.val (.int p0), .val (.int p1), .val (.int p2), .val (.int p3), .val (.ref b202), .val (.int x5_1), .val (.int x6_2), .val (.int x7_3), .unset] []))
  refine Ends.step (fun _ k => XS.aload X219.here hx rfl (hb hby at_108) rfl rfl k) ?_
  show Ends p e below QQ (T219.setTop (mkF m 110 #[.val (.int p0), .val (.int p1), .val (.int p2), .val (.int p3), .val (.ref b202), .val (.int x5_1), .val (.int x6_2), .val (.int x7_3), .unset] [(.ref b202)]))
  obtain ⟨cq220, kq220, q220a, q220b, q220c⟩ := isOf hZ hh219 E_b202
  obtain ⟨_, _, ⟨T220, L220, k220, n220⟩, -, X220, hS220, hgr220, ⟨Lc220, hQ220, l220, y220, z220⟩, st220⟩ := X219.virtualBackS hx (y := (⟨"com/example/wide_area_crawler/wideareacrawler/CrawlCounts", "doneLine", "()Ljava/lang/String;"⟩ : MethodName)) (z := (⟨"com/example/wide_area_crawler/wideareacrawler/CrawlCounts", "doneLine", "()Ljava/lang/String;"⟩ : MethodName)) hown (mvT hZ (hw _ (List.mem_of_getElem? (i := 25) rfl))) (mvT hZ (hw _ (List.mem_of_getElem? (i := 26) rfl))) (notFace_of_selects (args := #[]) (mvT hZ (hw _ (List.mem_of_getElem? (i := 28) rfl)))) (mvT hZ (hw _ (List.mem_of_getElem? (i := 28) rfl))) (mvT hZ (hw _ (List.mem_of_getElem? (i := 27) rfl))) (by decide) (own_backI (W := 0) (rmdl l Z a0 hw [] b202 (own_ck p3 (own_ck p2 (own_ck p1 (own_ck p0 (0 : Int64))))) (own_co p3 (own_co p2 (own_co p1 (own_co p0 (0 : Int64))))) (own_ce p3 (own_ce p2 (own_ce p1 (own_ce p0 (0 : Int64))))) cs a_D1 k_a_D1 T207.heap (Array.size T207.heap) (Nat.le_refl _) E_b202 F_ok_b202 F_other_b202 F_errors_b202 S_COMPACT_STRINGS hcs A_a_D1 S_DigitOnes (own_ckb p0 p1 p2 p3) (own_cob p0 p1 p2 p3) (own_ceb p0 p1 p2 p3) hheld_22 hheld_31 hheld_33 hcw rfl hkp) hZ (hw _ (List.mem_of_getElem? (i := 29) rfl)) (hw _ (List.mem_of_getElem? (i := 2) rfl)) (by decide) (by decide) IBf) q220a q220c (g := (mkF m 110 #[.val (.int p0), .val (.int p1), .val (.int p2), .val (.int p3), .val (.ref b202), .val (.int x5_1), .val (.int x6_2), .val (.int x7_3), .unset] [(.ref b202)])) rfl (by rw [hml]; rfl) (Steps.refl _) (argsL := []) (rest := []) (lenOf pd_25 rfl) rfl (by show 2 * 0 + _ ≤ _; exact Nat.le_of_eq rfl) (hb hby at_110) (fun _ _ => ⟨rfl, hh219, (by decide : 1 + 11 ≤ _), (by decide : 3 + 193 ≤ _)⟩)
  dsimp only [Pt.U, Pt.locs, Pt.cells, Pt.slots] at hS220 hgr220
  have hZo := hZ
  have hZ := State.Warmed39.trans hZo hS220.1
  have hown := (hS220.1.alike.findClass _ _).trans hown
  have hSn220 := State.Since.trans hS hS220 (Nat.le_trans hk (by rw [← hh219]; exact hgr220))
  dsimp only [Pt.U, Pt.locs, Pt.cells, Pt.slots] at X220 l220 y220 z220 st220 hQ220
  subst l220 y220 z220
  obtain ⟨sx_220, sa_220, sk_220, rfl, Nq220, Kq220, fq220_0, fq220_1, fq220_2, fq220_3, fq220_4, fq220_5, fq220_6, fq220_7, fq220_8, fq220_9⟩ := hQ220
  have Nq220 := own_frm (Nat.le_trans Z0 K207.1) Nq220
  have N220 := Fr.app N219 Nq220
  have ne_a_D1_sx_220 : a_D1 ≠ sx_220 := Nat.ne_of_lt (Nat.lt_of_lt_of_le A_a_D1.lt fq220_0)
  have ne_b202_sx_220 : b202 ≠ sx_220 := Nat.ne_of_lt (Nat.lt_of_lt_of_le E_b202.lt fq220_0)
  have sz_sx_220 := Nat.le_trans K207.1 fq220_0
  have ne_a_D1_sa_220 : a_D1 ≠ sa_220 := Nat.ne_of_lt (Nat.lt_of_lt_of_le A_a_D1.lt fq220_1)
  have ne_b202_sa_220 : b202 ≠ sa_220 := Nat.ne_of_lt (Nat.lt_of_lt_of_le E_b202.lt fq220_1)
  have sz_sa_220 := Nat.le_trans K207.1 fq220_1
  have S_COMPACT_STRINGS := own_sta_keep S_COMPACT_STRINGS Kq220 all0
  have S_SIOOBE_FORMATTER := own_sta_keep S_SIOOBE_FORMATTER Kq220 all0
  have S_DigitOnes := own_sta_keep S_DigitOnes Kq220 all0
  have A_a_D1 := A_a_D1.keep Kq220 nin0
  have hkp := own_kpk Kq220 hkp all0 hnz
  have hk := Nat.le_trans hk Kq220.1
  have E_b202 := E_b202.keep Kq220
  have F_errors_b202 := F_errors_b202.keep Kq220 nin0
  have F_other_b202 := F_other_b202.keep Kq220 nin0
  have F_ok_b202 := F_ok_b202.keep Kq220 nin0
  have g_sx_220 := fq220_2
  have g_sa_220 := fq220_3
  have E_sx_220 := fq220_4
  have F_value_sx_220 := fq220_5
  have F_coder_sx_220 := fq220_6
  have E_sa_220 := fq220_7
  have A_sa_220 := fq220_8
  have ne_sx_220_sa_220 := fq220_9
  have K220 := K207.trans Kq220 all0
  refine Ends.step (fun _ k => st220.trans k) ?_
  have hS := hSn220
  have hk := Nat.le_refl (Array.size T220.heap)
  show Ends p e below QQ (T220.setTop (mkF m 113 #[.val (.int p0), .val (.int p1), .val (.int p2), .val (.int p3), .val (.ref b202), .val (.int x5_1), .val (.int x6_2), .val (.int x7_3), .unset] [(.ref sx_220)]))
  refine Ends.step (fun _ k => XS.astore X220.here hx rfl (hb hby at_113) rfl rfl (l' := #[.val (.int p0), .val (.int p1), .val (.int p2), .val (.int p3), .val (.ref b202), .val (.int x5_1), .val (.int x6_2), .val (.int x7_3), .val (.ref sx_220)]) rfl k) ?_
  show Ends p e below QQ (T220.setTop (mkF m 115 #[.val (.int p0), .val (.int p1), .val (.int p2), .val (.int p3), .val (.ref b202), .val (.int x5_1), .val (.int x6_2), .val (.int x7_3), .val (.ref sx_220)] []))
  refine Ends.step (fun _ k => XS.aload X220.here hx rfl (hb hby at_115) rfl rfl k) ?_
  show Ends p e below QQ (T220.setTop (mkF m 117 #[.val (.int p0), .val (.int p1), .val (.int p2), .val (.int p3), .val (.ref b202), .val (.int x5_1), .val (.int x6_2), .val (.int x7_3), .val (.ref sx_220)] [(.ref sx_220)]))
  obtain ⟨cq221, kq221, q221a, q221b, q221c⟩ := isOf hZ rfl E_sx_220
  obtain ⟨_, _, ⟨T221, L221, k221, n221⟩, -, X221, ⟨Lc221, hQ221, l221, y221, z221⟩, st221⟩ := X220.virtualBack hx (y := (⟨"java/lang/String", "length", "()I"⟩ : MethodName)) (z := (⟨"java/lang/String", "length", "()I"⟩ : MethodName)) hown (mvT hZ (hw _ (List.mem_of_getElem? (i := 195) rfl))) (mvT hZ (hw _ (List.mem_of_getElem? (i := 67) rfl))) (notFace_of_selects (args := #[]) (mvT hZ (hw _ (List.mem_of_getElem? (i := 69) rfl)))) (mvT hZ (hw _ (List.mem_of_getElem? (i := 69) rfl))) (mvT hZ (hw _ (List.mem_of_getElem? (i := 68) rfl))) (by decide) (backOf (W := 0) (rmlen l Z a0 hw [] sx_220 sa_220 sk_220 (27 : Int32) [(.int (100 : Int32)), (.int (111 : Int32)), (.int (110 : Int32)), (.int (101 : Int32)), (.int (58 : Int32)), (.int (32 : Int32)), (.int (111 : Int32)), (.int (107 : Int32)), (.int (61 : Int32)), (.int (own_dg (((own_ck p3 (own_ck p2 (own_ck p1 (own_ck p0 (0 : Int64)))))).toInt))), (.int (32 : Int32)), (.int (111 : Int32)), (.int (116 : Int32)), (.int (104 : Int32)), (.int (101 : Int32)), (.int (114 : Int32)), (.int (61 : Int32)), (.int (own_dg (((own_co p3 (own_co p2 (own_co p1 (own_co p0 (0 : Int64)))))).toInt))), (.int (32 : Int32)), (.int (101 : Int32)), (.int (114 : Int32)), (.int (114 : Int32)), (.int (111 : Int32)), (.int (114 : Int32)), (.int (115 : Int32)), (.int (61 : Int32)), (.int (own_dg (((own_ce p3 (own_ce p2 (own_ce p1 (own_ce p0 (0 : Int64)))))).toInt)))] cs T220.heap n0 (Nat.le_trans Z0 K220.1) E_sx_220 F_value_sx_220 A_sa_220 S_COMPACT_STRINGS hcs F_coder_sx_220) hZ (hw _ (List.mem_of_getElem? (i := 70) rfl)) (hw _ (List.mem_of_getElem? (i := 44) rfl)) (by decide) (by decide)) q221a q221c (g := (mkF m 117 #[.val (.int p0), .val (.int p1), .val (.int p2), .val (.int p3), .val (.ref b202), .val (.int x5_1), .val (.int x6_2), .val (.int x7_3), .val (.ref sx_220)] [(.ref sx_220)])) rfl (by rw [hml]; rfl) (Steps.refl _) (argsL := []) (rest := []) (lenOf pd_8 rfl) rfl (by show 2 * 0 + _ ≤ _; exact Nat.le_of_eq rfl) (hb hby at_117) (fun _ _ => ⟨rfl, rfl, (by decide : 12 + 0 ≤ _), (by decide : 196 + 0 ≤ _)⟩)
  dsimp only [Pt.U, Pt.locs, Pt.cells, Pt.slots] at X221 l221 y221 z221 st221 hQ221
  subst l221 y221 z221
  obtain ⟨rfl, Nq221, hh221⟩ := hQ221
  have N221 := Fr.app N220 Nq221
  refine Ends.step (fun _ k => st221.trans k) ?_
  show Ends p e below QQ (T221.setTop (mkF m 120 #[.val (.int p0), .val (.int p1), .val (.int p2), .val (.int p3), .val (.ref b202), .val (.int x5_1), .val (.int x6_2), .val (.int x7_3), .val (.ref sx_220)] [(.int (27 : Int32))]))
  refine Ends.step (fun _ k => XT.bipushV X221.here hx rfl (27 : Int32) (hb hby at_120) rfl k) ?_
  show Ends p e below QQ (T221.setTop (mkF m 122 #[.val (.int p0), .val (.int p1), .val (.int p2), .val (.int p3), .val (.ref b202), .val (.int x5_1), .val (.int x6_2), .val (.int x7_3), .val (.ref sx_220)] [(.int (27 : Int32)), (.int (27 : Int32))]))
  refine Ends.step (fun _ k => XS.icmpYes X221.here hx rfl (pc0 := 122) (pc' := 127) rfl (hb hby at_122) rfl (XT.ii_eq_t (by decide)) (by decide) (by decide) k) ?_
  show Ends p e below QQ (T221.setTop (mkF m 127 #[.val (.int p0), .val (.int p1), .val (.int p2), .val (.int p3), .val (.ref b202), .val (.int x5_1), .val (.int x6_2), .val (.int x7_3), .val (.ref sx_220)] []))
  refine Ends.step (fun _ k => XS.aload X221.here hx rfl (hb hby at_127) rfl rfl k) ?_
  show Ends p e below QQ (T221.setTop (mkF m 129 #[.val (.int p0), .val (.int p1), .val (.int p2), .val (.int p3), .val (.ref b202), .val (.int x5_1), .val (.int x6_2), .val (.int x7_3), .val (.ref sx_220)] [(.ref sx_220)]))
  refine Ends.step (fun _ k => XT.bipushV X221.here hx rfl (9 : Int32) (hb hby at_129) rfl k) ?_
  show Ends p e below QQ (T221.setTop (mkF m 131 #[.val (.int p0), .val (.int p1), .val (.int p2), .val (.int p3), .val (.ref b202), .val (.int x5_1), .val (.int x6_2), .val (.int x7_3), .val (.ref sx_220)] [(.int (9 : Int32)), (.ref sx_220)]))
  obtain ⟨cq222, kq222, q222a, q222b, q222c⟩ := isOf hZ hh221 E_sx_220
  obtain ⟨_, _, ⟨T222, L222, k222, n222⟩, -, X222, ⟨Lc222, hQ222, l222, y222, z222⟩, st222⟩ := X221.virtualBack hx (y := (⟨"java/lang/String", "charAt", "(I)C"⟩ : MethodName)) (z := (⟨"java/lang/String", "charAt", "(I)C"⟩ : MethodName)) hown (mvT hZ (hw _ (List.mem_of_getElem? (i := 196) rfl))) (mvT hZ (hw _ (List.mem_of_getElem? (i := 197) rfl))) (notFace_of_selects (args := #[]) (mvT hZ (hw _ (List.mem_of_getElem? (i := 199) rfl)))) (mvT hZ (hw _ (List.mem_of_getElem? (i := 199) rfl))) (mvT hZ (hw _ (List.mem_of_getElem? (i := 198) rfl))) (by decide) (backOf (W := 0) (rmcha l Z a0 hw [] sx_220 (9 : Int32) sa_220 sk_220 (27 : Int32) [(.int (100 : Int32)), (.int (111 : Int32)), (.int (110 : Int32)), (.int (101 : Int32)), (.int (58 : Int32)), (.int (32 : Int32)), (.int (111 : Int32)), (.int (107 : Int32)), (.int (61 : Int32)), (.int (own_dg (((own_ck p3 (own_ck p2 (own_ck p1 (own_ck p0 (0 : Int64)))))).toInt))), (.int (32 : Int32)), (.int (111 : Int32)), (.int (116 : Int32)), (.int (104 : Int32)), (.int (101 : Int32)), (.int (114 : Int32)), (.int (61 : Int32)), (.int (own_dg (((own_co p3 (own_co p2 (own_co p1 (own_co p0 (0 : Int64)))))).toInt))), (.int (32 : Int32)), (.int (101 : Int32)), (.int (114 : Int32)), (.int (114 : Int32)), (.int (111 : Int32)), (.int (114 : Int32)), (.int (115 : Int32)), (.int (61 : Int32)), (.int (own_dg (((own_ce p3 (own_ce p2 (own_ce p1 (own_ce p0 (0 : Int64)))))).toInt)))] (own_dg (((own_ck p3 (own_ck p2 (own_ck p1 (own_ck p0 (0 : Int64)))))).toInt)) cs sf T220.heap n0 (Nat.le_trans Z0 K220.1) E_sx_220 F_value_sx_220 A_sa_220 S_COMPACT_STRINGS hcs F_coder_sx_220 S_SIOOBE_FORMATTER hr_sf (by decide) (by decide) rfl) hZ (hw _ (List.mem_of_getElem? (i := 200) rfl)) (hw _ (List.mem_of_getElem? (i := 44) rfl)) (by decide) (by decide)) q222a q222c (g := (mkF m 131 #[.val (.int p0), .val (.int p1), .val (.int p2), .val (.int p3), .val (.ref b202), .val (.int x5_1), .val (.int x6_2), .val (.int x7_3), .val (.ref sx_220)] [(.int (9 : Int32)), (.ref sx_220)])) rfl (by rw [hml]; rfl) (Steps.refl _) (argsL := [(.int (9 : Int32))]) (rest := []) (lenOf pd_26 rfl) rfl (by show 2 * 0 + _ ≤ _; exact Nat.le_of_eq rfl) (hb hby at_131) (fun _ _ => ⟨rfl, hh221, (by decide : 12 + 0 ≤ _), (by decide : 196 + 0 ≤ _)⟩)
  dsimp only [Pt.U, Pt.locs, Pt.cells, Pt.slots] at X222 l222 y222 z222 st222 hQ222
  subst l222 y222 z222
  obtain ⟨rfl, Nq222, hh222⟩ := hQ222
  have N222 := Fr.app N221 Nq222
  refine Ends.step (fun _ k => st222.trans k) ?_
  show Ends p e below QQ (T222.setTop (mkF m 134 #[.val (.int p0), .val (.int p1), .val (.int p2), .val (.int p3), .val (.ref b202), .val (.int x5_1), .val (.int x6_2), .val (.int x7_3), .val (.ref sx_220)] [(.int ((own_dg (((own_ck p3 (own_ck p2 (own_ck p1 (own_ck p0 (0 : Int64)))))).toInt)) &&& (255 : Int32)))]))
  refine Ends.step (fun _ k => XT.bipushV X222.here hx rfl (48 : Int32) (hb hby at_134) rfl k) ?_
  show Ends p e below QQ (T222.setTop (mkF m 136 #[.val (.int p0), .val (.int p1), .val (.int p2), .val (.int p3), .val (.ref b202), .val (.int x5_1), .val (.int x6_2), .val (.int x7_3), .val (.ref sx_220)] [(.int (48 : Int32)), (.int ((own_dg (((own_ck p3 (own_ck p2 (own_ck p1 (own_ck p0 (0 : Int64)))))).toInt)) &&& (255 : Int32)))]))
  refine Ends.step (fun _ k => XS.iload X222.here hx rfl (hb hby at_136) rfl k) ?_
  show Ends p e below QQ (T222.setTop (mkF m 138 #[.val (.int p0), .val (.int p1), .val (.int p2), .val (.int p3), .val (.ref b202), .val (.int x5_1), .val (.int x6_2), .val (.int x7_3), .val (.ref sx_220)] [(.int x5_1), (.int (48 : Int32)), (.int ((own_dg (((own_ck p3 (own_ck p2 (own_ck p1 (own_ck p0 (0 : Int64)))))).toInt)) &&& (255 : Int32)))]))
  refine Ends.step (fun _ k => XS.iadd X222.here hx rfl (hb hby at_138) rfl k) ?_
  show Ends p e below QQ (T222.setTop (mkF m 139 #[.val (.int p0), .val (.int p1), .val (.int p2), .val (.int p3), .val (.ref b202), .val (.int x5_1), .val (.int x6_2), .val (.int x7_3), .val (.ref sx_220)] [(.int ((48 : Int32) + x5_1)), (.int ((own_dg (((own_ck p3 (own_ck p2 (own_ck p1 (own_ck p0 (0 : Int64)))))).toInt)) &&& (255 : Int32)))]))
  refine Ends.step (fun _ k => XT.i2c X222.here hx rfl (hb hby at_139) rfl k) ?_
  show Ends p e below QQ (T222.setTop (mkF m 140 #[.val (.int p0), .val (.int p1), .val (.int p2), .val (.int p3), .val (.ref b202), .val (.int x5_1), .val (.int x6_2), .val (.int x7_3), .val (.ref sx_220)] [(.int ((48 : Int32) + x5_1).toUInt32.toUInt16.toUInt32.toInt32), (.int ((own_dg (((own_ck p3 (own_ck p2 (own_ck p1 (own_ck p0 (0 : Int64)))))).toInt)) &&& (255 : Int32)))]))
  have hc140 : ((own_dg (((own_ck p3 (own_ck p2 (own_ck p1 (own_ck p0 (0 : Int64)))))).toInt)) &&& (255 : Int32)) = ((48 : Int32) + x5_1).toUInt32.toUInt16.toUInt32.toInt32 := (own_ckq p0 p1 p2 p3 hv5_1)
  refine Ends.step (fun _ k => XS.icmpNo X222.here hx rfl (hb hby at_140) rfl (XT.ii_ne_f hc140) k) ?_
  show Ends p e below QQ (T222.setTop (mkF m 143 #[.val (.int p0), .val (.int p1), .val (.int p2), .val (.int p3), .val (.ref b202), .val (.int x5_1), .val (.int x6_2), .val (.int x7_3), .val (.ref sx_220)] []))
  refine Ends.step (fun _ k => XS.aload X222.here hx rfl (hb hby at_143) rfl rfl k) ?_
  show Ends p e below QQ (T222.setTop (mkF m 145 #[.val (.int p0), .val (.int p1), .val (.int p2), .val (.int p3), .val (.ref b202), .val (.int x5_1), .val (.int x6_2), .val (.int x7_3), .val (.ref sx_220)] [(.ref sx_220)]))
  refine Ends.step (fun _ k => XT.bipushV X222.here hx rfl (17 : Int32) (hb hby at_145) rfl k) ?_
  show Ends p e below QQ (T222.setTop (mkF m 147 #[.val (.int p0), .val (.int p1), .val (.int p2), .val (.int p3), .val (.ref b202), .val (.int x5_1), .val (.int x6_2), .val (.int x7_3), .val (.ref sx_220)] [(.int (17 : Int32)), (.ref sx_220)]))
  obtain ⟨cq223, kq223, q223a, q223b, q223c⟩ := isOf hZ hh222 E_sx_220
  obtain ⟨_, _, ⟨T223, L223, k223, n223⟩, -, X223, ⟨Lc223, hQ223, l223, y223, z223⟩, st223⟩ := X222.virtualBack hx (y := (⟨"java/lang/String", "charAt", "(I)C"⟩ : MethodName)) (z := (⟨"java/lang/String", "charAt", "(I)C"⟩ : MethodName)) hown (mvT hZ (hw _ (List.mem_of_getElem? (i := 196) rfl))) (mvT hZ (hw _ (List.mem_of_getElem? (i := 197) rfl))) (notFace_of_selects (args := #[]) (mvT hZ (hw _ (List.mem_of_getElem? (i := 199) rfl)))) (mvT hZ (hw _ (List.mem_of_getElem? (i := 199) rfl))) (mvT hZ (hw _ (List.mem_of_getElem? (i := 198) rfl))) (by decide) (backOf (W := 0) (rmcha l Z a0 hw [] sx_220 (17 : Int32) sa_220 sk_220 (27 : Int32) [(.int (100 : Int32)), (.int (111 : Int32)), (.int (110 : Int32)), (.int (101 : Int32)), (.int (58 : Int32)), (.int (32 : Int32)), (.int (111 : Int32)), (.int (107 : Int32)), (.int (61 : Int32)), (.int (own_dg (((own_ck p3 (own_ck p2 (own_ck p1 (own_ck p0 (0 : Int64)))))).toInt))), (.int (32 : Int32)), (.int (111 : Int32)), (.int (116 : Int32)), (.int (104 : Int32)), (.int (101 : Int32)), (.int (114 : Int32)), (.int (61 : Int32)), (.int (own_dg (((own_co p3 (own_co p2 (own_co p1 (own_co p0 (0 : Int64)))))).toInt))), (.int (32 : Int32)), (.int (101 : Int32)), (.int (114 : Int32)), (.int (114 : Int32)), (.int (111 : Int32)), (.int (114 : Int32)), (.int (115 : Int32)), (.int (61 : Int32)), (.int (own_dg (((own_ce p3 (own_ce p2 (own_ce p1 (own_ce p0 (0 : Int64)))))).toInt)))] (own_dg (((own_co p3 (own_co p2 (own_co p1 (own_co p0 (0 : Int64)))))).toInt)) cs sf T220.heap n0 (Nat.le_trans Z0 K220.1) E_sx_220 F_value_sx_220 A_sa_220 S_COMPACT_STRINGS hcs F_coder_sx_220 S_SIOOBE_FORMATTER hr_sf (by decide) (by decide) rfl) hZ (hw _ (List.mem_of_getElem? (i := 200) rfl)) (hw _ (List.mem_of_getElem? (i := 44) rfl)) (by decide) (by decide)) q223a q223c (g := (mkF m 147 #[.val (.int p0), .val (.int p1), .val (.int p2), .val (.int p3), .val (.ref b202), .val (.int x5_1), .val (.int x6_2), .val (.int x7_3), .val (.ref sx_220)] [(.int (17 : Int32)), (.ref sx_220)])) rfl (by rw [hml]; rfl) (Steps.refl _) (argsL := [(.int (17 : Int32))]) (rest := []) (lenOf pd_26 rfl) rfl (by show 2 * 0 + _ ≤ _; exact Nat.le_of_eq rfl) (hb hby at_147) (fun _ _ => ⟨rfl, hh222, (by decide : 12 + 0 ≤ _), (by decide : 196 + 0 ≤ _)⟩)
  dsimp only [Pt.U, Pt.locs, Pt.cells, Pt.slots] at X223 l223 y223 z223 st223 hQ223
  subst l223 y223 z223
  obtain ⟨rfl, Nq223, hh223⟩ := hQ223
  have N223 := Fr.app N222 Nq223
  refine Ends.step (fun _ k => st223.trans k) ?_
  show Ends p e below QQ (T223.setTop (mkF m 150 #[.val (.int p0), .val (.int p1), .val (.int p2), .val (.int p3), .val (.ref b202), .val (.int x5_1), .val (.int x6_2), .val (.int x7_3), .val (.ref sx_220)] [(.int ((own_dg (((own_co p3 (own_co p2 (own_co p1 (own_co p0 (0 : Int64)))))).toInt)) &&& (255 : Int32)))]))
  refine Ends.step (fun _ k => XT.bipushV X223.here hx rfl (48 : Int32) (hb hby at_150) rfl k) ?_
  show Ends p e below QQ (T223.setTop (mkF m 152 #[.val (.int p0), .val (.int p1), .val (.int p2), .val (.int p3), .val (.ref b202), .val (.int x5_1), .val (.int x6_2), .val (.int x7_3), .val (.ref sx_220)] [(.int (48 : Int32)), (.int ((own_dg (((own_co p3 (own_co p2 (own_co p1 (own_co p0 (0 : Int64)))))).toInt)) &&& (255 : Int32)))]))
  refine Ends.step (fun _ k => XS.iload X223.here hx rfl (hb hby at_152) rfl k) ?_
  show Ends p e below QQ (T223.setTop (mkF m 154 #[.val (.int p0), .val (.int p1), .val (.int p2), .val (.int p3), .val (.ref b202), .val (.int x5_1), .val (.int x6_2), .val (.int x7_3), .val (.ref sx_220)] [(.int x6_2), (.int (48 : Int32)), (.int ((own_dg (((own_co p3 (own_co p2 (own_co p1 (own_co p0 (0 : Int64)))))).toInt)) &&& (255 : Int32)))]))
  refine Ends.step (fun _ k => XS.iadd X223.here hx rfl (hb hby at_154) rfl k) ?_
  show Ends p e below QQ (T223.setTop (mkF m 155 #[.val (.int p0), .val (.int p1), .val (.int p2), .val (.int p3), .val (.ref b202), .val (.int x5_1), .val (.int x6_2), .val (.int x7_3), .val (.ref sx_220)] [(.int ((48 : Int32) + x6_2)), (.int ((own_dg (((own_co p3 (own_co p2 (own_co p1 (own_co p0 (0 : Int64)))))).toInt)) &&& (255 : Int32)))]))
  refine Ends.step (fun _ k => XT.i2c X223.here hx rfl (hb hby at_155) rfl k) ?_
  show Ends p e below QQ (T223.setTop (mkF m 156 #[.val (.int p0), .val (.int p1), .val (.int p2), .val (.int p3), .val (.ref b202), .val (.int x5_1), .val (.int x6_2), .val (.int x7_3), .val (.ref sx_220)] [(.int ((48 : Int32) + x6_2).toUInt32.toUInt16.toUInt32.toInt32), (.int ((own_dg (((own_co p3 (own_co p2 (own_co p1 (own_co p0 (0 : Int64)))))).toInt)) &&& (255 : Int32)))]))
  have hc156 : ((own_dg (((own_co p3 (own_co p2 (own_co p1 (own_co p0 (0 : Int64)))))).toInt)) &&& (255 : Int32)) = ((48 : Int32) + x6_2).toUInt32.toUInt16.toUInt32.toInt32 := (own_coq p0 p1 p2 p3 hv6_2)
  refine Ends.step (fun _ k => XS.icmpNo X223.here hx rfl (hb hby at_156) rfl (XT.ii_ne_f hc156) k) ?_
  show Ends p e below QQ (T223.setTop (mkF m 159 #[.val (.int p0), .val (.int p1), .val (.int p2), .val (.int p3), .val (.ref b202), .val (.int x5_1), .val (.int x6_2), .val (.int x7_3), .val (.ref sx_220)] []))
  refine Ends.step (fun _ k => XS.aload X223.here hx rfl (hb hby at_159) rfl rfl k) ?_
  show Ends p e below QQ (T223.setTop (mkF m 161 #[.val (.int p0), .val (.int p1), .val (.int p2), .val (.int p3), .val (.ref b202), .val (.int x5_1), .val (.int x6_2), .val (.int x7_3), .val (.ref sx_220)] [(.ref sx_220)]))
  refine Ends.step (fun _ k => XT.bipushV X223.here hx rfl (26 : Int32) (hb hby at_161) rfl k) ?_
  show Ends p e below QQ (T223.setTop (mkF m 163 #[.val (.int p0), .val (.int p1), .val (.int p2), .val (.int p3), .val (.ref b202), .val (.int x5_1), .val (.int x6_2), .val (.int x7_3), .val (.ref sx_220)] [(.int (26 : Int32)), (.ref sx_220)]))
  obtain ⟨cq224, kq224, q224a, q224b, q224c⟩ := isOf hZ hh223 E_sx_220
  obtain ⟨_, _, ⟨T224, L224, k224, n224⟩, -, X224, ⟨Lc224, hQ224, l224, y224, z224⟩, st224⟩ := X223.virtualBack hx (y := (⟨"java/lang/String", "charAt", "(I)C"⟩ : MethodName)) (z := (⟨"java/lang/String", "charAt", "(I)C"⟩ : MethodName)) hown (mvT hZ (hw _ (List.mem_of_getElem? (i := 196) rfl))) (mvT hZ (hw _ (List.mem_of_getElem? (i := 197) rfl))) (notFace_of_selects (args := #[]) (mvT hZ (hw _ (List.mem_of_getElem? (i := 199) rfl)))) (mvT hZ (hw _ (List.mem_of_getElem? (i := 199) rfl))) (mvT hZ (hw _ (List.mem_of_getElem? (i := 198) rfl))) (by decide) (backOf (W := 0) (rmcha l Z a0 hw [] sx_220 (26 : Int32) sa_220 sk_220 (27 : Int32) [(.int (100 : Int32)), (.int (111 : Int32)), (.int (110 : Int32)), (.int (101 : Int32)), (.int (58 : Int32)), (.int (32 : Int32)), (.int (111 : Int32)), (.int (107 : Int32)), (.int (61 : Int32)), (.int (own_dg (((own_ck p3 (own_ck p2 (own_ck p1 (own_ck p0 (0 : Int64)))))).toInt))), (.int (32 : Int32)), (.int (111 : Int32)), (.int (116 : Int32)), (.int (104 : Int32)), (.int (101 : Int32)), (.int (114 : Int32)), (.int (61 : Int32)), (.int (own_dg (((own_co p3 (own_co p2 (own_co p1 (own_co p0 (0 : Int64)))))).toInt))), (.int (32 : Int32)), (.int (101 : Int32)), (.int (114 : Int32)), (.int (114 : Int32)), (.int (111 : Int32)), (.int (114 : Int32)), (.int (115 : Int32)), (.int (61 : Int32)), (.int (own_dg (((own_ce p3 (own_ce p2 (own_ce p1 (own_ce p0 (0 : Int64)))))).toInt)))] (own_dg (((own_ce p3 (own_ce p2 (own_ce p1 (own_ce p0 (0 : Int64)))))).toInt)) cs sf T220.heap n0 (Nat.le_trans Z0 K220.1) E_sx_220 F_value_sx_220 A_sa_220 S_COMPACT_STRINGS hcs F_coder_sx_220 S_SIOOBE_FORMATTER hr_sf (by decide) (by decide) rfl) hZ (hw _ (List.mem_of_getElem? (i := 200) rfl)) (hw _ (List.mem_of_getElem? (i := 44) rfl)) (by decide) (by decide)) q224a q224c (g := (mkF m 163 #[.val (.int p0), .val (.int p1), .val (.int p2), .val (.int p3), .val (.ref b202), .val (.int x5_1), .val (.int x6_2), .val (.int x7_3), .val (.ref sx_220)] [(.int (26 : Int32)), (.ref sx_220)])) rfl (by rw [hml]; rfl) (Steps.refl _) (argsL := [(.int (26 : Int32))]) (rest := []) (lenOf pd_26 rfl) rfl (by show 2 * 0 + _ ≤ _; exact Nat.le_of_eq rfl) (hb hby at_163) (fun _ _ => ⟨rfl, hh223, (by decide : 12 + 0 ≤ _), (by decide : 196 + 0 ≤ _)⟩)
  dsimp only [Pt.U, Pt.locs, Pt.cells, Pt.slots] at X224 l224 y224 z224 st224 hQ224
  subst l224 y224 z224
  obtain ⟨rfl, Nq224, hh224⟩ := hQ224
  have N224 := Fr.app N223 Nq224
  refine Ends.step (fun _ k => st224.trans k) ?_
  show Ends p e below QQ (T224.setTop (mkF m 166 #[.val (.int p0), .val (.int p1), .val (.int p2), .val (.int p3), .val (.ref b202), .val (.int x5_1), .val (.int x6_2), .val (.int x7_3), .val (.ref sx_220)] [(.int ((own_dg (((own_ce p3 (own_ce p2 (own_ce p1 (own_ce p0 (0 : Int64)))))).toInt)) &&& (255 : Int32)))]))
  refine Ends.step (fun _ k => XT.bipushV X224.here hx rfl (48 : Int32) (hb hby at_166) rfl k) ?_
  show Ends p e below QQ (T224.setTop (mkF m 168 #[.val (.int p0), .val (.int p1), .val (.int p2), .val (.int p3), .val (.ref b202), .val (.int x5_1), .val (.int x6_2), .val (.int x7_3), .val (.ref sx_220)] [(.int (48 : Int32)), (.int ((own_dg (((own_ce p3 (own_ce p2 (own_ce p1 (own_ce p0 (0 : Int64)))))).toInt)) &&& (255 : Int32)))]))
  refine Ends.step (fun _ k => XS.iload X224.here hx rfl (hb hby at_168) rfl k) ?_
  show Ends p e below QQ (T224.setTop (mkF m 170 #[.val (.int p0), .val (.int p1), .val (.int p2), .val (.int p3), .val (.ref b202), .val (.int x5_1), .val (.int x6_2), .val (.int x7_3), .val (.ref sx_220)] [(.int x7_3), (.int (48 : Int32)), (.int ((own_dg (((own_ce p3 (own_ce p2 (own_ce p1 (own_ce p0 (0 : Int64)))))).toInt)) &&& (255 : Int32)))]))
  refine Ends.step (fun _ k => XS.iadd X224.here hx rfl (hb hby at_170) rfl k) ?_
  show Ends p e below QQ (T224.setTop (mkF m 171 #[.val (.int p0), .val (.int p1), .val (.int p2), .val (.int p3), .val (.ref b202), .val (.int x5_1), .val (.int x6_2), .val (.int x7_3), .val (.ref sx_220)] [(.int ((48 : Int32) + x7_3)), (.int ((own_dg (((own_ce p3 (own_ce p2 (own_ce p1 (own_ce p0 (0 : Int64)))))).toInt)) &&& (255 : Int32)))]))
  refine Ends.step (fun _ k => XT.i2c X224.here hx rfl (hb hby at_171) rfl k) ?_
  show Ends p e below QQ (T224.setTop (mkF m 172 #[.val (.int p0), .val (.int p1), .val (.int p2), .val (.int p3), .val (.ref b202), .val (.int x5_1), .val (.int x6_2), .val (.int x7_3), .val (.ref sx_220)] [(.int ((48 : Int32) + x7_3).toUInt32.toUInt16.toUInt32.toInt32), (.int ((own_dg (((own_ce p3 (own_ce p2 (own_ce p1 (own_ce p0 (0 : Int64)))))).toInt)) &&& (255 : Int32)))]))
  have hc172 : ((own_dg (((own_ce p3 (own_ce p2 (own_ce p1 (own_ce p0 (0 : Int64)))))).toInt)) &&& (255 : Int32)) = ((48 : Int32) + x7_3).toUInt32.toUInt16.toUInt32.toInt32 := (own_ceq p0 p1 p2 p3 hv7_3)
  refine Ends.step (fun _ k => XS.icmpNo X224.here hx rfl (hb hby at_172) rfl (XT.ii_ne_f hc172) k) ?_
  show Ends p e below QQ (T224.setTop (mkF m 175 #[.val (.int p0), .val (.int p1), .val (.int p2), .val (.int p3), .val (.ref b202), .val (.int x5_1), .val (.int x6_2), .val (.int x7_3), .val (.ref sx_220)] []))
  refine Ends.step (fun _ k => XT.iconstV X224.here hx rfl (1 : Int32) (hb hby at_175) rfl k) ?_
  show Ends p e below QQ (T224.setTop (mkF m 176 #[.val (.int p0), .val (.int p1), .val (.int p2), .val (.int p3), .val (.ref b202), .val (.int x5_1), .val (.int x6_2), .val (.int x7_3), .val (.ref sx_220)] [(.int (1 : Int32))]))
  refine Ends.step (fun _ k => XS.goto X224.here hx rfl (pc0 := 176) (pc' := 180) rfl (hb hby at_176) (by decide) (by decide) k) ?_
  show Ends p e below QQ (T224.setTop (mkF m 180 #[.val (.int p0), .val (.int p1), .val (.int p2), .val (.int p3), .val (.ref b202), .val (.int x5_1), .val (.int x6_2), .val (.int x7_3), .val (.ref sx_220)] [(.int (1 : Int32))]))
  exact Ends.finW (some (.int (1 : Int32))) X224 hS hk hQQ (fun h => by rw [Bd.returns] at h; cases h) Bd.notSynchronized (fun _ hr => retOut X224 hx (t := .boolean) Bd.returns rfl (Or.inl ⟨rfl, (by simp), _, rfl⟩) (hb hby at_180) hr) hh224 (by decide) (by decide) ⟨rfl, N224, K220⟩
set_option maxRecDepth 65536 in
set_option maxHeartbeats 40000000 in
theorem comes_1 {Post : Tables → Env → Array Value → State → Outcome → State → Prop} (hpost : ∀ tb e args s v u, (limb_1_1.after args s (.returned v) u = true ∧ limb_1_2.after args s (.returned v) u = true ∧ True) → ReturnedEndW s (.returned v) u (Jvm.fieldLocs frame_1_writes args s ++ Jvm.arrayLocs frame_1_arrays args s ++ Jvm.staticLocs frame_1_statics s) 32 3328 → Post tb e args s (.returned v) u) :
    ArmFor flags0 classFile x code maxLocals ret World_1 tables_1 room_1 Calls_1 rest_1 Pre_1 Post := by
  intro l hfl _ _ p e ha hc hk s m args below hf hA hF happ hP
  obtain ⟨hcalls, hrest, hpre⟩ := hP
  obtain ⟨-, -, -, hnamed, -, -, -, hat⟩ := (Spec.applies_iff hf).mp happ
  obtain ⟨hg, hn⟩ := and_e (Cond.before_iff.mp (show (Jvm.Cond.and given_1 narrow_1).before args s = true from hpre))
  obtain ⟨gl1, gr1⟩ := and_e hg
  obtain ⟨gl2, gr2⟩ := and_e gr1
  obtain ⟨gl3, gr3⟩ := and_e gr2
  obtain ⟨gl4, gr4⟩ := and_e gr3
  obtain ⟨w0, w1, w2, w3, rfl⟩ : ∃ w0 w1 w2 w3 : Value, args = #[w0, w1, w2, w3] := by
    have hs : args.size = 4 := by simpa [Cond.value, given_1] using gl1
    obtain ⟨L⟩ := args
    match L, hs with
    | [w0, w1, w2, w3], _ => exact ⟨w0, w1, w2, w3, rfl⟩
  have hw := fun d (hd : d ∈ tables_1) => atoms_spec (ws := Jvm.Cond.code x code maxLocals ret :: tables_1) hat d (List.mem_cons_of_mem _ hd)
  have hfit : Fit s := fun {y c} hc i hi => by
    obtain ⟨ha, rfl⟩ := Array.getElem?_eq_some_iff.mp hc
    have q := List.all_eq_true.mp ((Array.all_eq_true_iff_forall_mem.mp hF) _ (Array.getElem_mem ha)) i (List.mem_range.mpr hi)
    simpa [Array.getElem?_eq_getElem hi] using q
  obtain ⟨hsets, hown0⟩ := atoms_of _ (rest_1_c_eq ▸ (show rest_1_c.before _ s = true from hrest))
  have hr0 := Cond.before_iff.mp hown0
  obtain ⟨i0, ei0⟩ := is_v gl2
  obtain rfl : w0 = (.int i0) := Option.some.inj ei0
  obtain ⟨i1, ei1⟩ := is_v gl3
  obtain rfl : w1 = (.int i1) := Option.some.inj ei1
  obtain ⟨i2, ei2⟩ := is_v gl4
  obtain rfl : w2 = (.int i2) := Option.some.inj ei2
  obtain ⟨i3, ei3⟩ := is_v gr4
  obtain rfl : w3 = (.int i3) := Option.some.inj ei3
  obtain ⟨cs, ev_cs⟩ := is_v (Cond.before_iff.mp (hsets _ (List.mem_of_getElem? (i := 1) rfl)))
  have hcs : ¬ cs = (0 : Int32) := own_nz (Cond.before_iff.mp (hsets _ (List.mem_of_getElem? (i := 2) rfl))) ev_cs
  have S_COMPACT_STRINGS := Sta.start ev_cs (Or.inl (hsets _ (List.mem_of_getElem? (i := 0) rfl)))
  obtain ⟨sf, ev_sf, hr_sf⟩ := isR_v (Cond.before_iff.mp (hsets _ (List.mem_of_getElem? (i := 8) rfl)))
  have S_SIOOBE_FORMATTER := Sta.start ev_sf (Or.inl (hsets _ (List.mem_of_getElem? (i := 7) rfl)))
  obtain ⟨a_D1, k_a_D1, ev_a_D1, A_a_D1⟩ := own_t1 (hsets _ (List.mem_of_getElem? (i := 12) rfl)) (hsets _ (List.mem_of_getElem? (i := 13) rfl)) (hsets _ (List.mem_of_getElem? (i := 14) rfl)) (hw _ (List.mem_of_getElem? (i := 45) rfl))
  have S_DigitOnes := Sta.start ev_a_D1 (Or.inl (hsets _ (List.mem_of_getElem? (i := 11) rfl)))
  have hheld_22 : Jvm.Lit.constHeld s "com/example/wide_area_crawler/wideareacrawler/CrawlCounts" 22 := hcalls.1 ("com/example/wide_area_crawler/wideareacrawler/CrawlCounts", 22) (List.mem_of_getElem? (i := 0) rfl)
  have hheld_31 : Jvm.Lit.constHeld s "com/example/wide_area_crawler/wideareacrawler/CrawlCounts" 31 := hcalls.1 ("com/example/wide_area_crawler/wideareacrawler/CrawlCounts", 31) (List.mem_of_getElem? (i := 1) rfl)
  have hheld_33 : Jvm.Lit.constHeld s "com/example/wide_area_crawler/wideareacrawler/CrawlCounts" 33 := hcalls.1 ("com/example/wide_area_crawler/wideareacrawler/CrawlCounts", 33) (List.mem_of_getElem? (i := 2) rfl)
  have hcw : Jvm.Lit.compactW.before #[(Value.int i0), (Value.int i1), (Value.int i2), (Value.int i3)] s = true := hsets _ (List.mem_of_getElem? (i := 2) rfl)
  obtain ⟨n, o, h1, h2, h3, _, L, rfl, hQ, hq⟩ := rm0 l s _ hw tables_1 i0 i1 i2 i3 cs sf a_D1 k_a_D1 s.heap s.heap.size (Nat.le_refl _) S_COMPACT_STRINGS hcs S_SIOOBE_FORMATTER hr_sf A_a_D1 S_DigitOnes hheld_22 hheld_31 hheld_33 hcw rfl (fun _ _ q => q) p e ha hc hk s m _ below hf ((Spec.applies_iff_loose hf).mp happ).1 ⟨rfl, State.Warmed39.refl s, rfl, rfl⟩ trivial
  obtain ⟨hv, N, -⟩ := hQ
  have hlaw : (1 : Int32) = 1 := rfl
  rw [hlaw] at hv
  subst hv
  refine ⟨n, _, h1, h2, h3, hpost _ _ _ _ _ _ ⟨Cond.after_iff.mpr rfl, Cond.after_iff.mpr (eq_i res_at (Term.int_eval (1)) rfl), trivial⟩ ⟨hq.1, hq.2.1, hq.2.2.1, (hq.2.2.2.sift fun y hy => Or.inr (N y hy)).mono (by decide) (by decide)⟩⟩
theorem main_1_1 : Claimed_1_1 := comes_1 fun _ _ _ _ _ _ h hF => ⟨h.1, hF⟩
theorem main_1_2 : Claimed_1_2 := comes_1 fun _ _ _ _ _ _ h hF => ⟨h.2.1, hF⟩
end Jvm.Pilot.@@N@@
namespace Jvm.Pilot.@@N@@
open Jvm Jvm.ClassFile Sem Op Lib Jvm.Free Jvm.Stand Jvm.Pilot.@@N@@.Jvm.D
/-! MADE BY PROGRAM (witnessworld.py) out of the Statement's table words and the real class files: 26 classes; the members and pool entries that the words name. The judged class is class 1, her method 3. -/
namespace start1
open Jvm.ClassFile
def u (s : String) : CpInfo := .utf8 (stringToUtf16 s)
/-- a pool by its gaps: so many unusable entries, then the entry; so many at the end -/
def gap : Nat → List CpInfo → List CpInfo
  | 0, r => r
  | n + 1, r => .unusable :: gap n r
def poolList (es : List (Nat × CpInfo)) (last : Nat) : List CpInfo := es.foldr (fun e r => gap e.1 (e.2 :: r)) (gap last [])
def pool (es : List (Nat × CpInfo)) (last : Nat) : Array CpInfo := ⟨poolList es last⟩
def fileOf (pool : Array CpInfo) (this : Nat) (attrs : Array Attribute := #[]) (ms : Array MethodInfo := #[]) (fl : Nat := 33) (sup : Nat := 0) (ifs : Array Nat := #[]) (fds : Array FieldInfo := #[]) : ClassFile where
  minorVersion := 0
  majorVersion := 65
  constantPool := pool
  accessFlags := fl
  thisClass := this
  superClass := sup
  interfaces := ifs
  fields := fds
  methods := ms
  attributes := attrs
def plain (name : String) (sup : Option ClassId) : Class where
  name := name
  kind := .ordinary
  loader := none
  accessFlags := 33
  super := sup
  interfaces := #[]
  cf := none
  fields := #[]
  methods := #[]
  instanceTypes := #[]
  staticTypes := #[]
  resolved := #[]
  callSites := []
  init := .initialized
  statics := none
  mirror := none

def pool0 : Array CpInfo := pool [(5, u "<init>"), (0, u "()V"), (1, .class_ 10), (1, u "java/lang/Object")] 113

def k0c0 : Code := { maxStack := 0, maxLocals := 1, code := object_method_1_code, exceptionTable := #[], attributes := #[] }
def k0m0 : Method := { name := "<init>", desc := "()V", sig := { parameters := [], returnType := none }, accessFlags := 1, code := some k0c0 }
/-- java/lang/Object -/
def k0 : Class := { plain "java/lang/Object" none with
  accessFlags := 33
  interfaces := #[]
  cf := some (fileOf pool0 8 #[] #[{ accessFlags := 1, nameIndex := 5, descriptorIndex := 6, attributes := #[] }] 33 0 #[] #[])
  fields := #[]
  methods := #[k0m0]
  instanceTypes := #[]
  staticTypes := #[]
  resolved := Array.replicate 124 none
  statics := none }

def pool1 : Array CpInfo := pool [(2, .class_ 4), (0, .nameAndType 5 6), (0, u "java/lang/Object"), (0, u "<init>"), (0, u "()V"), (0, .methodref 8 9), (0, .class_ 10), (0, .nameAndType 11 12), (0, u "com/example/wide_area_crawler/wideareacrawler/CrawlCountsCountPinLaw"), (0, u "kind"), (0, u "(I)I"), (0, .class_ 14), (0, u "com/example/wide_area_crawler/wideareacrawler/CrawlCounts"), (0, .methodref 13 3), (0, .methodref 13 17), (0, .nameAndType 18 19), (0, u "count"), (0, u "(I)V"), (0, .methodref 8 21), (0, .nameAndType 22 23), (0, u "hit"), (0, u "(II)I"), (0, .methodref 13 25), (0, .nameAndType 26 27), (0, u "doneLine"), (0, u "()Ljava/lang/String;"), (0, .methodref 29 30), (0, .class_ 31), (0, .nameAndType 32 33), (0, u "java/lang/String"), (0, u "length"), (0, u "()I"), (0, .methodref 29 35), (0, .nameAndType 36 37), (0, u "charAt"), (0, u "(I)C"), (3, u "law"), (0, u "(IIII)Z")] 2

def k1m0 : Method := { name := "<init>", desc := "()V", sig := { parameters := [], returnType := none }, accessFlags := 1, code := none }
def k1c1 : Code := { maxStack := 2, maxLocals := 1, code := method_2_code, exceptionTable := #[], attributes := #[] }
def k1m1 : Method := { name := "kind", desc := "(I)I", sig := { parameters := [.int], returnType := some .int }, accessFlags := 10, code := some k1c1 }
def k1c2 : Code := { maxStack := 2, maxLocals := 2, code := method_3_code, exceptionTable := #[], attributes := #[] }
def k1m2 : Method := { name := "hit", desc := "(II)I", sig := { parameters := [.int, .int], returnType := some .int }, accessFlags := 10, code := some k1c2 }
def k1c3 : Code := { maxStack := 3, maxLocals := 9, code := code, exceptionTable := #[], attributes := #[] }
def k1m3 : Method := { name := "law", desc := "(IIII)Z", sig := { parameters := [.int, .int, .int, .int], returnType := some .boolean }, accessFlags := 9, code := some k1c3 }
/-- com/example/wide_area_crawler/wideareacrawler/CrawlCountsCountPinLaw -/
def k1 : Class := { plain "com/example/wide_area_crawler/wideareacrawler/CrawlCountsCountPinLaw" (some 0) with
  accessFlags := 49
  interfaces := #[]
  cf := some (fileOf pool1 8 #[] #[{ accessFlags := 1, nameIndex := 5, descriptorIndex := 6, attributes := #[] }, { accessFlags := 10, nameIndex := 11, descriptorIndex := 12, attributes := #[] }, { accessFlags := 10, nameIndex := 22, descriptorIndex := 23, attributes := #[] }, { accessFlags := 9, nameIndex := 41, descriptorIndex := 42, attributes := #[] }] 49 2 #[] #[])
  fields := #[]
  methods := #[k1m0, k1m1, k1m2, k1m3]
  instanceTypes := #[]
  staticTypes := #[]
  resolved := Array.replicate 45 none
  statics := none }

def pool2 : Array CpInfo := pool [(1, .methodref 2 3), (0, .class_ 4), (0, .nameAndType 5 6), (0, u "java/lang/Object"), (0, u "<init>"), (0, u "()V"), (0, .fieldref 8 9), (0, .class_ 10), (0, .nameAndType 11 12), (0, u "com/example/wide_area_crawler/wideareacrawler/CrawlCounts"), (0, u "errors"), (0, u "J"), (0, .fieldref 8 14), (0, .nameAndType 15 12), (0, u "ok"), (0, .fieldref 8 17), (0, .nameAndType 18 12), (0, u "other"), (0, .class_ 20), (0, u "java/lang/StringBuilder"), (0, .methodref 19 3), (0, .string 23), (0, u "done: ok="), (0, .methodref 19 25), (0, .nameAndType 26 27), (0, u "append"), (0, u "(Ljava/lang/String;)Ljava/lang/StringBuilder;"), (0, .methodref 19 29), (0, .nameAndType 26 30), (0, u "(J)Ljava/lang/StringBuilder;"), (0, .string 32), (0, u " other="), (0, .string 34), (0, u " errors="), (0, .methodref 19 36), (0, .nameAndType 37 38), (0, u "toString"), (0, u "()Ljava/lang/String;"), (2, u "count"), (0, u "(I)V"), (1, u "doneLine")] 2

def k2c0 : Code := { maxStack := 1, maxLocals := 1, code := prog_7_method_1_code, exceptionTable := #[], attributes := #[] }
def k2m0 : Method := { name := "<init>", desc := "()V", sig := { parameters := [], returnType := none }, accessFlags := 1, code := some k2c0 }
def k2c1 : Code := { maxStack := 5, maxLocals := 2, code := prog_7_method_2_code, exceptionTable := #[], attributes := #[] }
def k2m1 : Method := { name := "count", desc := "(I)V", sig := { parameters := [.int], returnType := none }, accessFlags := 1, code := some k2c1 }
def k2c2 : Code := { maxStack := 3, maxLocals := 1, code := prog_7_method_3_code, exceptionTable := #[], attributes := #[] }
def k2m2 : Method := { name := "doneLine", desc := "()Ljava/lang/String;", sig := { parameters := [], returnType := some (.object "java/lang/String") }, accessFlags := 1, code := some k2c2 }
/-- com/example/wide_area_crawler/wideareacrawler/CrawlCounts -/
def k2 : Class := { plain "com/example/wide_area_crawler/wideareacrawler/CrawlCounts" (some 0) with
  accessFlags := 33
  interfaces := #[]
  cf := some (fileOf pool2 8 #[] #[{ accessFlags := 1, nameIndex := 5, descriptorIndex := 6, attributes := #[] }, { accessFlags := 1, nameIndex := 41, descriptorIndex := 42, attributes := #[] }, { accessFlags := 1, nameIndex := 44, descriptorIndex := 38, attributes := #[] }] 33 2 #[] #[{ accessFlags := 2, nameIndex := 15, descriptorIndex := 12, attributes := #[] }, { accessFlags := 2, nameIndex := 18, descriptorIndex := 12, attributes := #[] }, { accessFlags := 2, nameIndex := 11, descriptorIndex := 12, attributes := #[] }])
  fields := #[{ name := "ok", type := .long, accessFlags := 2, slot := 0, constantValue := 0 }, { name := "other", type := .long, accessFlags := 2, slot := 1, constantValue := 0 }, { name := "errors", type := .long, accessFlags := 2, slot := 2, constantValue := 0 }]
  methods := #[k2m0, k2m1, k2m2]
  instanceTypes := #[.long, .long, .long]
  staticTypes := #[]
  resolved := Array.replicate 47 none
  statics := none }

def pool3 : Array CpInfo := pool [(1, .class_ 2), (0, u "java/lang/Appendable"), (0, .class_ 4), (0, u "java/lang/Object")] 9

/-- java/lang/Appendable -/
def k3 : Class := { plain "java/lang/Appendable" (some 0) with
  accessFlags := 1537
  interfaces := #[]
  cf := some (fileOf pool3 1 #[] #[] 1537 3 #[] #[])
  fields := #[]
  methods := #[]
  instanceTypes := #[]
  staticTypes := #[]
  resolved := Array.replicate 14 none
  statics := none }

def pool4 : Array CpInfo := pool [(2, .class_ 4), (1, u "java/lang/CharSequence"), (42, .class_ 48), (0, u "java/lang/CharSequence$1CodePointIterator"), (10, .class_ 60), (0, u "java/lang/CharSequence$1CharIterator"), (5, .class_ 67), (0, u "java/lang/Object")] 63

/-- java/lang/CharSequence -/
def k4 : Class := { plain "java/lang/CharSequence" (some 0) with
  accessFlags := 1537
  interfaces := #[]
  cf := some (fileOf pool4 2 #[.nestMembers #[47, 59]] #[] 1537 66 #[] #[])
  fields := #[]
  methods := #[]
  instanceTypes := #[]
  staticTypes := #[]
  resolved := Array.replicate 131 none
  statics := none }

def pool5 : Array CpInfo := pool [(1, .class_ 2), (0, u "java/lang/String"), (0, .methodref 4 5), (0, .class_ 6), (0, .nameAndType 7 8), (0, u "java/lang/Object"), (0, u "<init>"), (0, u "()V"), (1, .class_ 12), (1, u "java/lang/AbstractStringBuilder"), (0, u "EMPTYVALUE"), (0, u "[B"), (0, .fieldref 10 16), (0, .nameAndType 17 14), (0, u "value"), (0, .fieldref 1 19), (0, .nameAndType 20 21), (0, u "COMPACT_STRINGS"), (0, u "Z"), (0, .fieldref 10 23), (0, .nameAndType 24 25), (0, u "coder"), (0, u "B"), (6, .methodref 1 33), (0, .nameAndType 34 35), (0, u "length"), (0, u "()I"), (3, .integer 2147483647), (0, .methodref 1 41), (0, .nameAndType 24 42), (0, u "()B"), (2, u "append"), (0, u "(Ljava/lang/String;)Ljava/lang/AbstractStringBuilder;"), (1, .class_ 49), (0, u "java/lang/CharSequence"), (19, u "(Ljava/lang/String;)V"), (5, u "maybeLatin1"), (3, .fieldref 10 80), (0, .nameAndType 81 82), (0, u "count"), (0, u "I"), (0, .methodref 10 84), (0, .nameAndType 85 86), (0, u "isLatin1"), (0, u "()Z"), (13, .methodref 10 101), (0, .nameAndType 102 103), (0, u "ensureCapacityInternal"), (0, u "(I)V"), (0, .methodref 10 105), (0, .nameAndType 106 107), (0, u "newCapacity"), (0, u "(I)I"), (0, .methodref 109 110), (0, .class_ 111), (0, .nameAndType 112 113), (0, u "java/util/Arrays"), (0, u "copyOf"), (0, u "([BI)[B"), (0, .methodref 115 116), (0, .class_ 117), (0, .nameAndType 118 119), (0, u "jdk/internal/util/ArraysSupport"), (0, u "newLength"), (0, u "(III)I"), (68, u "getChars"), (19, .methodref 10 209), (0, .nameAndType 210 211), (0, u "putStringAt"), (0, u "(ILjava/lang/String;)V"), (5, u "inflateIfNeededFor"), (2, .nameAndType 221 222), (0, u "getBytes"), (0, u "([BIB)V"), (24, u "stringSize"), (6, .methodref 255 256), (0, .class_ 257), (0, .nameAndType 247 258), (0, u "java/lang/Long"), (0, u "(J)I"), (0, .methodref 255 260), (0, .nameAndType 188 261), (0, u "(JI[B)I"), (135, .methodref 10 398), (0, .nameAndType 217 69), (0, .methodref 1 220), (3, u "()[B"), (40, .class_ 445), (0, u "java/lang/Appendable"), (67, u "(J)Ljava/lang/AbstractStringBuilder;"), (38, u "getValue")] 56

def k5m0 : Method := { name := "<init>", desc := "()V", sig := { parameters := [], returnType := none }, accessFlags := 0, code := none }
def k5c1 : Code := { maxStack := 2, maxLocals := 2, code := jdk_68_method_2_code, exceptionTable := #[], attributes := #[] }
def k5m1 : Method := { name := "<init>", desc := "(I)V", sig := { parameters := [.int], returnType := none }, accessFlags := 0, code := some k5c1 }
def k5c2 : Code := { maxStack := 1, maxLocals := 1, code := jdk_68_method_6_code, exceptionTable := #[], attributes := #[] }
def k5m2 : Method := { name := "length", desc := "()I", sig := { parameters := [], returnType := some .int }, accessFlags := 1, code := some k5c2 }
def k5c3 : Code := { maxStack := 4, maxLocals := 3, code := jdk_68_method_9_code, exceptionTable := #[], attributes := #[] }
def k5m3 : Method := { name := "ensureCapacityInternal", desc := "(I)V", sig := { parameters := [.int], returnType := none }, accessFlags := 2, code := some k5c3 }
def k5c4 : Code := { maxStack := 5, maxLocals := 6, code := jdk_68_method_10_code, exceptionTable := #[], attributes := #[] }
def k5m4 : Method := { name := "newCapacity", desc := "(I)I", sig := { parameters := [.int], returnType := some .int }, accessFlags := 2, code := some k5c4 }
def k5c5 : Code := { maxStack := 3, maxLocals := 3, code := jdk_68_method_22_code, exceptionTable := #[], attributes := #[] }
def k5m5 : Method := { name := "append", desc := "(Ljava/lang/String;)Ljava/lang/AbstractStringBuilder;", sig := { parameters := [(.object "java/lang/String")], returnType := some (.object "java/lang/AbstractStringBuilder") }, accessFlags := 1, code := some k5c5 }
def k5c6 : Code := { maxStack := 5, maxLocals := 5, code := jdk_68_method_33_code, exceptionTable := #[], attributes := #[] }
def k5m6 : Method := { name := "append", desc := "(J)Ljava/lang/AbstractStringBuilder;", sig := { parameters := [.long], returnType := some (.object "java/lang/AbstractStringBuilder") }, accessFlags := 1, code := some k5c6 }
def k5c7 : Code := { maxStack := 1, maxLocals := 1, code := jdk_68_method_64_code, exceptionTable := #[], attributes := #[] }
def k5m7 : Method := { name := "getValue", desc := "()[B", sig := { parameters := [], returnType := some (.array .byte) }, accessFlags := 16, code := some k5c7 }
def k5c8 : Code := { maxStack := 1, maxLocals := 1, code := jdk_68_method_68_code, exceptionTable := #[], attributes := #[] }
def k5m8 : Method := { name := "isLatin1", desc := "()Z", sig := { parameters := [], returnType := some .boolean }, accessFlags := 16, code := some k5c8 }
def k5c9 : Code := { maxStack := 2, maxLocals := 2, code := jdk_68_method_71_code, exceptionTable := #[], attributes := #[] }
def k5m9 : Method := { name := "inflateIfNeededFor", desc := "(Ljava/lang/String;)V", sig := { parameters := [(.object "java/lang/String")], returnType := none }, accessFlags := 2, code := some k5c9 }
def k5c10 : Code := { maxStack := 4, maxLocals := 3, code := jdk_68_method_73_code, exceptionTable := #[], attributes := #[] }
def k5m10 : Method := { name := "putStringAt", desc := "(ILjava/lang/String;)V", sig := { parameters := [.int, (.object "java/lang/String")], returnType := none }, accessFlags := 2, code := some k5c10 }
/-- java/lang/AbstractStringBuilder -/
def k5 : Class := { plain "java/lang/AbstractStringBuilder" (some 0) with
  accessFlags := 1056
  interfaces := #[3, 4]
  cf := some (fileOf pool5 10 #[] #[{ accessFlags := 0, nameIndex := 7, descriptorIndex := 8, attributes := #[] }, { accessFlags := 0, nameIndex := 7, descriptorIndex := 103, attributes := #[] }, { accessFlags := 1, nameIndex := 34, descriptorIndex := 35, attributes := #[] }, { accessFlags := 2, nameIndex := 102, descriptorIndex := 103, attributes := #[] }, { accessFlags := 2, nameIndex := 106, descriptorIndex := 107, attributes := #[] }, { accessFlags := 1, nameIndex := 45, descriptorIndex := 46, attributes := #[] }, { accessFlags := 1, nameIndex := 45, descriptorIndex := 513, attributes := #[] }, { accessFlags := 16, nameIndex := 552, descriptorIndex := 403, attributes := #[] }, { accessFlags := 16, nameIndex := 85, descriptorIndex := 86, attributes := #[] }, { accessFlags := 2, nameIndex := 217, descriptorIndex := 69, attributes := #[] }, { accessFlags := 2, nameIndex := 210, descriptorIndex := 211, attributes := #[] }] 1056 4 #[444, 48] #[{ accessFlags := 0, nameIndex := 17, descriptorIndex := 14, attributes := #[] }, { accessFlags := 0, nameIndex := 24, descriptorIndex := 25, attributes := #[] }, { accessFlags := 0, nameIndex := 75, descriptorIndex := 21, attributes := #[] }, { accessFlags := 0, nameIndex := 81, descriptorIndex := 82, attributes := #[] }, { accessFlags := 26, nameIndex := 13, descriptorIndex := 14, attributes := #[] }])
  fields := #[{ name := "value", type := (.array .byte), accessFlags := 0, slot := 0, constantValue := 0 }, { name := "coder", type := .byte, accessFlags := 0, slot := 1, constantValue := 0 }, { name := "maybeLatin1", type := .boolean, accessFlags := 0, slot := 2, constantValue := 0 }, { name := "count", type := .int, accessFlags := 0, slot := 3, constantValue := 0 }, { name := "EMPTYVALUE", type := (.array .byte), accessFlags := 26, slot := 0, constantValue := 0 }]
  methods := #[k5m0, k5m1, k5m2, k5m3, k5m4, k5m5, k5m6, k5m7, k5m8, k5m9, k5m10]
  instanceTypes := #[(.array .byte), .byte, .boolean, .int]
  staticTypes := #[(.array .byte)]
  resolved := Array.replicate 609 none
  statics := none }

def pool6 : Array CpInfo := pool [(1, .class_ 2), (0, u "java/io/Serializable"), (0, .class_ 4), (0, u "java/lang/Object")] 2

/-- java/io/Serializable -/
def k6 : Class := { plain "java/io/Serializable" (some 0) with
  accessFlags := 1537
  interfaces := #[]
  cf := some (fileOf pool6 1 #[] #[] 1537 3 #[] #[])
  fields := #[]
  methods := #[]
  instanceTypes := #[]
  staticTypes := #[]
  resolved := Array.replicate 7 none
  statics := none }

def pool7 : Array CpInfo := pool [(1, .class_ 2), (0, u "java/lang/Comparable"), (0, .class_ 4), (0, u "java/lang/Object")] 7

/-- java/lang/Comparable -/
def k7 : Class := { plain "java/lang/Comparable" (some 0) with
  accessFlags := 1537
  interfaces := #[]
  cf := some (fileOf pool7 1 #[] #[] 1537 3 #[] #[])
  fields := #[]
  methods := #[]
  instanceTypes := #[]
  staticTypes := #[]
  resolved := Array.replicate 12 none
  statics := none }

def pool8 : Array CpInfo := pool [(1, .methodref 2 3), (0, .class_ 4), (0, .nameAndType 5 6), (0, u "java/lang/AbstractStringBuilder"), (0, u "<init>"), (0, u "(I)V"), (11, .class_ 20), (1, u "java/lang/String"), (3, .class_ 26), (1, u "java/lang/StringBuilder"), (0, u "append"), (0, u "(Ljava/lang/String;)Ljava/lang/StringBuilder;"), (0, .methodref 2 30), (0, .nameAndType 27 31), (0, u "(Ljava/lang/String;)Ljava/lang/AbstractStringBuilder;"), (24, .methodref 2 57), (0, .nameAndType 27 58), (0, u "(J)Ljava/lang/AbstractStringBuilder;"), (78, .methodref 18 138), (0, .nameAndType 5 139), (0, u "(Ljava/lang/StringBuilder;)V"), (5, u "()V"), (10, u "()I"), (124, u "(J)Ljava/lang/StringBuilder;"), (61, .methodref 2 344), (0, .nameAndType 345 156), (0, u "length"), (3, .class_ 350), (0, u "java/lang/Appendable"), (0, .class_ 352), (0, u "java/io/Serializable"), (0, .class_ 354), (0, u "java/lang/Comparable"), (0, .class_ 356), (0, u "java/lang/CharSequence"), (0, u "serialVersionUID"), (0, u "J"), (40, u "toString"), (0, u "()Ljava/lang/String;")] 21

def k8c0 : Code := { maxStack := 2, maxLocals := 1, code := jdk_67_method_1_code, exceptionTable := #[], attributes := #[] }
def k8m0 : Method := { name := "<init>", desc := "()V", sig := { parameters := [], returnType := none }, accessFlags := 1, code := some k8c0 }
def k8c1 : Code := { maxStack := 2, maxLocals := 2, code := jdk_67_method_7_code, exceptionTable := #[], attributes := #[] }
def k8m1 : Method := { name := "append", desc := "(Ljava/lang/String;)Ljava/lang/StringBuilder;", sig := { parameters := [(.object "java/lang/String")], returnType := some (.object "java/lang/StringBuilder") }, accessFlags := 1, code := some k8c1 }
def k8c2 : Code := { maxStack := 3, maxLocals := 3, code := jdk_67_method_16_code, exceptionTable := #[], attributes := #[] }
def k8m2 : Method := { name := "append", desc := "(J)Ljava/lang/StringBuilder;", sig := { parameters := [.long], returnType := some (.object "java/lang/StringBuilder") }, accessFlags := 1, code := some k8c2 }
def k8c3 : Code := { maxStack := 3, maxLocals := 1, code := jdk_67_method_42_code, exceptionTable := #[], attributes := #[] }
def k8m3 : Method := { name := "toString", desc := "()Ljava/lang/String;", sig := { parameters := [], returnType := some (.object "java/lang/String") }, accessFlags := 1, code := some k8c3 }
def k8c4 : Code := { maxStack := 1, maxLocals := 1, code := jdk_67_method_93_code, exceptionTable := #[], attributes := #[] }
def k8m4 : Method := { name := "length", desc := "()I", sig := { parameters := [], returnType := some .int }, accessFlags := 4161, code := some k8c4 }
/-- java/lang/StringBuilder -/
def k8 : Class := { plain "java/lang/StringBuilder" (some 5) with
  accessFlags := 49
  interfaces := #[3, 6, 7, 4]
  cf := some (fileOf pool8 24 #[] #[{ accessFlags := 1, nameIndex := 5, descriptorIndex := 145, attributes := #[] }, { accessFlags := 1, nameIndex := 27, descriptorIndex := 28, attributes := #[] }, { accessFlags := 1, nameIndex := 27, descriptorIndex := 281, attributes := #[] }, { accessFlags := 1, nameIndex := 399, descriptorIndex := 400, attributes := #[] }, { accessFlags := 4161, nameIndex := 345, descriptorIndex := 156, attributes := #[] }] 49 2 #[349, 351, 353, 355] #[{ accessFlags := 24, nameIndex := 357, descriptorIndex := 358, attributes := #[] }])
  fields := #[{ name := "serialVersionUID", type := .long, accessFlags := 24, slot := 0, constantValue := 0 }]
  methods := #[k8m0, k8m1, k8m2, k8m3, k8m4]
  instanceTypes := #[(.array .byte), .byte, .boolean, .int]
  staticTypes := #[.long]
  resolved := Array.replicate 422 none
  statics := none }

def pool9 : Array CpInfo := pool [(1, .class_ 2), (0, u "java/lang/constant/Constable"), (0, .class_ 4), (0, u "java/lang/Object")] 6

/-- java/lang/constant/Constable -/
def k9 : Class := { plain "java/lang/constant/Constable" (some 0) with
  accessFlags := 1537
  interfaces := #[]
  cf := some (fileOf pool9 1 #[] #[] 1537 3 #[] #[])
  fields := #[]
  methods := #[]
  instanceTypes := #[]
  staticTypes := #[]
  resolved := Array.replicate 11 none
  statics := none }

def pool10 : Array CpInfo := pool [(1, .class_ 2), (0, u "java/lang/constant/ConstantDesc"), (0, .class_ 4), (0, u "java/lang/Object")] 32

/-- java/lang/constant/ConstantDesc -/
def k10 : Class := { plain "java/lang/constant/ConstantDesc" (some 0) with
  accessFlags := 1537
  interfaces := #[]
  cf := some (fileOf pool10 1 #[] #[] 1537 3 #[] #[])
  fields := #[]
  methods := #[]
  instanceTypes := #[]
  staticTypes := #[]
  resolved := Array.replicate 37 none
  statics := none }

def pool11 : Array CpInfo := pool [(1, .methodref 2 3), (0, .class_ 4), (0, .nameAndType 5 6), (0, u "java/lang/Object"), (0, u "<init>"), (0, u "()V"), (2, .fieldref 10 11), (0, .class_ 12), (0, .nameAndType 13 14), (0, u "java/lang/String"), (0, u "value"), (0, u "[B"), (0, .fieldref 10 16), (0, .nameAndType 17 18), (0, u "coder"), (0, u "B"), (2, u "hash"), (0, u "I"), (2, u "hashIsZero"), (0, u "Z"), (11, .fieldref 10 39), (0, .nameAndType 40 26), (0, u "COMPACT_STRINGS"), (13, .methodref 55 56), (0, .class_ 57), (0, .nameAndType 58 59), (0, u "java/util/Arrays"), (0, u "copyOfRange"), (0, u "([BII)[B"), (47, .class_ 109), (1, u "java/lang/StringLatin1"), (32, u "()Z"), (50, .class_ 195), (1, u "java/lang/System"), (16, .methodref 193 213), (0, .nameAndType 214 215), (0, u "arraycopy"), (0, u "(Ljava/lang/Object;ILjava/lang/Object;II)V"), (118, u "()I"), (0, .methodref 10 336), (0, .nameAndType 17 337), (0, u "()B"), (2, u "()[B"), (22, u "([BI)C"), (27, u "(II)V"), (35, u "(I)C"), (61, .methodref 10 490), (0, .nameAndType 5 491), (0, u "(Ljava/lang/AbstractStringBuilder;Ljava/lang/Void;)V"), (0, .methodref 10 493), (0, .nameAndType 494 142), (0, u "isLatin1"), (0, .methodref 107 496), (0, .nameAndType 497 363), (0, u "charAt"), (3, u "checkIndex"), (4, .nameAndType 507 334), (0, u "length"), (24, u "getBytes"), (16, .methodref 550 506), (0, .class_ 551), (0, u "java/lang/AbstractStringBuilder"), (0, .methodref 550 553), (0, .nameAndType 554 340), (0, u "getValue"), (20, .class_ 576), (0, u "java/lang/CharSequence"), (22, u "CASE_INSENSITIVE_ORDER"), (0, u "Ljava/util/Comparator;"), (220, u "([BIB)V"), (225, .methodref 550 493), (5, .fieldref 1054 1055), (0, .class_ 1056), (0, .nameAndType 1057 1058), (0, u "jdk/internal/util/Preconditions"), (0, u "SIOOBE_FORMATTER"), (0, u "Ljava/util/function/BiFunction;"), (0, .methodref 1054 1060), (0, .nameAndType 501 1061), (0, u "(IILjava/util/function/BiFunction;)I"), (39, u "serialPersistentFields"), (0, u "[Ljava/io/ObjectStreamField;"), (0, .class_ 1104), (0, u "java/lang/String$CaseInsensitiveComparator"), (1, .class_ 1107), (0, u "java/io/Serializable"), (0, .class_ 1109), (0, u "java/lang/Comparable"), (0, .class_ 1111), (0, u "java/lang/constant/Constable"), (0, .class_ 1113), (0, u "java/lang/constant/ConstantDesc"), (2, u "serialVersionUID"), (0, u "J"), (3, u "REPL"), (0, u "C"), (2, u "LATIN1"), (1, u "UTF16"), (105, u "(Ljava/lang/StringBuilder;)V")] 217

def k11m0 : Method := { name := "<init>", desc := "()V", sig := { parameters := [], returnType := none }, accessFlags := 1, code := none }
def k11c1 : Code := { maxStack := 3, maxLocals := 2, code := jdk_42_method_53_code, exceptionTable := #[], attributes := #[] }
def k11m1 : Method := { name := "<init>", desc := "(Ljava/lang/StringBuilder;)V", sig := { parameters := [(.object "java/lang/StringBuilder")], returnType := none }, accessFlags := 1, code := some k11c1 }
def k11c2 : Code := { maxStack := 2, maxLocals := 1, code := jdk_42_method_54_code, exceptionTable := #[], attributes := #[] }
def k11m2 : Method := { name := "length", desc := "()I", sig := { parameters := [], returnType := some .int }, accessFlags := 1, code := some k11c2 }
def k11c3 : Code := { maxStack := 2, maxLocals := 2, code := jdk_42_method_56_code, exceptionTable := #[], attributes := #[] }
def k11m3 : Method := { name := "charAt", desc := "(I)C", sig := { parameters := [.int], returnType := some .char }, accessFlags := 1, code := some k11c3 }
def k11c4 : Code := { maxStack := 5, maxLocals := 4, code := jdk_42_method_147_code, exceptionTable := #[], attributes := #[] }
def k11m4 : Method := { name := "getBytes", desc := "([BIB)V", sig := { parameters := [(.array .byte), .int, .byte], returnType := none }, accessFlags := 0, code := some k11c4 }
def k11c5 : Code := { maxStack := 5, maxLocals := 5, code := jdk_42_method_150_code, exceptionTable := #[], attributes := #[] }
def k11m5 : Method := { name := "<init>", desc := "(Ljava/lang/AbstractStringBuilder;Ljava/lang/Void;)V", sig := { parameters := [(.object "java/lang/AbstractStringBuilder"), (.object "java/lang/Void")], returnType := none }, accessFlags := 0, code := some k11c5 }
def k11c6 : Code := { maxStack := 1, maxLocals := 1, code := jdk_42_method_152_code, exceptionTable := #[], attributes := #[] }
def k11m6 : Method := { name := "coder", desc := "()B", sig := { parameters := [], returnType := some .byte }, accessFlags := 0, code := some k11c6 }
def k11c7 : Code := { maxStack := 1, maxLocals := 1, code := jdk_42_method_154_code, exceptionTable := #[], attributes := #[] }
def k11m7 : Method := { name := "isLatin1", desc := "()Z", sig := { parameters := [], returnType := some .boolean }, accessFlags := 0, code := some k11c7 }
def k11c8 : Code := { maxStack := 3, maxLocals := 2, code := jdk_42_method_155_code, exceptionTable := #[], attributes := #[] }
def k11m8 : Method := { name := "checkIndex", desc := "(II)V", sig := { parameters := [.int, .int], returnType := none }, accessFlags := 8, code := some k11c8 }
/-- java/lang/String -/
def k11 : Class := { plain "java/lang/String" (some 0) with
  accessFlags := 49
  interfaces := #[6, 7, 4, 9, 10]
  cf := some (fileOf pool11 10 #[.nestMembers #[1103]] #[{ accessFlags := 1, nameIndex := 5, descriptorIndex := 6, attributes := #[] }, { accessFlags := 1, nameIndex := 5, descriptorIndex := 1233, attributes := #[] }, { accessFlags := 1, nameIndex := 507, descriptorIndex := 334, attributes := #[] }, { accessFlags := 1, nameIndex := 497, descriptorIndex := 427, attributes := #[] }, { accessFlags := 0, nameIndex := 532, descriptorIndex := 821, attributes := #[] }, { accessFlags := 0, nameIndex := 5, descriptorIndex := 491, attributes := #[] }, { accessFlags := 0, nameIndex := 17, descriptorIndex := 337, attributes := #[] }, { accessFlags := 0, nameIndex := 494, descriptorIndex := 142, attributes := #[] }, { accessFlags := 8, nameIndex := 501, descriptorIndex := 391, attributes := #[] }] 49 2 #[1106, 1108, 575, 1110, 1112] #[{ accessFlags := 18, nameIndex := 13, descriptorIndex := 14, attributes := #[] }, { accessFlags := 18, nameIndex := 17, descriptorIndex := 18, attributes := #[] }, { accessFlags := 2, nameIndex := 21, descriptorIndex := 22, attributes := #[] }, { accessFlags := 2, nameIndex := 25, descriptorIndex := 26, attributes := #[] }, { accessFlags := 26, nameIndex := 1116, descriptorIndex := 1117, attributes := #[] }, { accessFlags := 24, nameIndex := 40, descriptorIndex := 26, attributes := #[] }, { accessFlags := 26, nameIndex := 1101, descriptorIndex := 1102, attributes := #[] }, { accessFlags := 26, nameIndex := 1121, descriptorIndex := 1122, attributes := #[] }, { accessFlags := 25, nameIndex := 599, descriptorIndex := 600, attributes := #[] }, { accessFlags := 24, nameIndex := 1125, descriptorIndex := 18, attributes := #[] }, { accessFlags := 24, nameIndex := 1127, descriptorIndex := 18, attributes := #[] }])
  fields := #[{ name := "value", type := (.array .byte), accessFlags := 18, slot := 0, constantValue := 0 }, { name := "coder", type := .byte, accessFlags := 18, slot := 1, constantValue := 0 }, { name := "hash", type := .int, accessFlags := 2, slot := 2, constantValue := 0 }, { name := "hashIsZero", type := .boolean, accessFlags := 2, slot := 3, constantValue := 0 }, { name := "serialVersionUID", type := .long, accessFlags := 26, slot := 0, constantValue := 0 }, { name := "COMPACT_STRINGS", type := .boolean, accessFlags := 24, slot := 1, constantValue := 0 }, { name := "serialPersistentFields", type := (.array (.object "java/io/ObjectStreamField")), accessFlags := 26, slot := 2, constantValue := 0 }, { name := "REPL", type := .char, accessFlags := 26, slot := 3, constantValue := 0 }, { name := "CASE_INSENSITIVE_ORDER", type := (.object "java/util/Comparator"), accessFlags := 25, slot := 4, constantValue := 0 }, { name := "LATIN1", type := .byte, accessFlags := 24, slot := 5, constantValue := 0 }, { name := "UTF16", type := .byte, accessFlags := 24, slot := 6, constantValue := 0 }]
  methods := #[k11m0, k11m1, k11m2, k11m3, k11m4, k11m5, k11m6, k11m7, k11m8]
  instanceTypes := #[(.array .byte), .byte, .int, .boolean]
  staticTypes := #[.long, .boolean, (.array (.object "java/io/ObjectStreamField")), .char, (.object "java/util/Comparator"), .byte, .byte]
  resolved := Array.replicate 1451 none
  statics := some 0 }

def pool12 : Array CpInfo := pool [(2, .class_ 4), (1, u "java/lang/Object"), (0, u "<init>"), (0, u "()V"), (1, .class_ 10), (1, u "java/lang/System"), (0, u "allowSecurityManager"), (0, u "I"), (16, u "cons"), (0, u "Ljava/io/Console;"), (77, .class_ 110), (1, u "java/lang/System$CallersHolder"), (43, u "initialErrStream"), (0, u "Ljava/io/PrintStream;"), (19, u "security"), (0, u "Ljava/lang/SecurityManager;"), (31, .class_ 209), (0, u "java/lang/System$1"), (7, u "props"), (0, u "Ljava/util/Properties;"), (2, u "lineSeparator"), (0, u "Ljava/lang/String;"), (96, .class_ 321), (1, u "java/lang/System$LoggerFinder"), (5, .class_ 328), (0, u "java/lang/System$Logger"), (67, u "err"), (2, u "out"), (91, u "notSupportedJnuEncoding"), (15, u "in"), (17, u "initialIn"), (0, u "Ljava/io/InputStream;"), (35, u "bootLayer"), (0, u "Ljava/lang/ModuleLayer;"), (99, .class_ 664), (0, u "java/lang/System$2"), (9, u "NEVER"), (2, u "MAYBE"), (49, u "arraycopy"), (0, u "(Ljava/lang/Object;ILjava/lang/Object;II)V"), (72, .class_ 802), (0, u "java/lang/System$Logger$Level")] 31

def k12m0 : Method := { name := "<init>", desc := "()V", sig := { parameters := [], returnType := none }, accessFlags := 2, code := none }
def k12m1 : Method := { name := "arraycopy", desc := "(Ljava/lang/Object;ILjava/lang/Object;II)V", sig := { parameters := [(.object "java/lang/Object"), .int, (.object "java/lang/Object"), .int, .int], returnType := none }, accessFlags := 265, code := none }
/-- java/lang/System -/
def k12 : Class := { plain "java/lang/System" (some 0) with
  accessFlags := 49
  interfaces := #[]
  cf := some (fileOf pool12 8 #[.nestMembers #[319, 327, 801, 108, 663, 208]] #[{ accessFlags := 2, nameIndex := 5, descriptorIndex := 6, attributes := #[] }, { accessFlags := 265, nameIndex := 727, descriptorIndex := 728, attributes := #[] }] 49 2 #[] #[{ accessFlags := 25, nameIndex := 507, descriptorIndex := 526, attributes := #[] }, { accessFlags := 25, nameIndex := 399, descriptorIndex := 155, attributes := #[] }, { accessFlags := 25, nameIndex := 396, descriptorIndex := 155, attributes := #[] }, { accessFlags := 10, nameIndex := 525, descriptorIndex := 526, attributes := #[] }, { accessFlags := 26, nameIndex := 674, descriptorIndex := 12, attributes := #[] }, { accessFlags := 26, nameIndex := 677, descriptorIndex := 12, attributes := #[] }, { accessFlags := 10, nameIndex := 11, descriptorIndex := 12, attributes := #[] }, { accessFlags := 74, nameIndex := 175, descriptorIndex := 176, attributes := #[] }, { accessFlags := 10, nameIndex := 491, descriptorIndex := 222, attributes := #[] }, { accessFlags := 74, nameIndex := 29, descriptorIndex := 30, attributes := #[] }, { accessFlags := 74, nameIndex := 154, descriptorIndex := 155, attributes := #[] }, { accessFlags := 10, nameIndex := 217, descriptorIndex := 218, attributes := #[] }, { accessFlags := 10, nameIndex := 221, descriptorIndex := 222, attributes := #[] }, { accessFlags := 8, nameIndex := 562, descriptorIndex := 563, attributes := #[] }])
  fields := #[{ name := "in", type := (.object "java/io/InputStream"), accessFlags := 25, slot := 0, constantValue := 0 }, { name := "out", type := (.object "java/io/PrintStream"), accessFlags := 25, slot := 1, constantValue := 0 }, { name := "err", type := (.object "java/io/PrintStream"), accessFlags := 25, slot := 2, constantValue := 0 }, { name := "initialIn", type := (.object "java/io/InputStream"), accessFlags := 10, slot := 3, constantValue := 0 }, { name := "NEVER", type := .int, accessFlags := 26, slot := 4, constantValue := 0 }, { name := "MAYBE", type := .int, accessFlags := 26, slot := 5, constantValue := 0 }, { name := "allowSecurityManager", type := .int, accessFlags := 10, slot := 6, constantValue := 0 }, { name := "security", type := (.object "java/lang/SecurityManager"), accessFlags := 74, slot := 7, constantValue := 0 }, { name := "notSupportedJnuEncoding", type := (.object "java/lang/String"), accessFlags := 10, slot := 8, constantValue := 0 }, { name := "cons", type := (.object "java/io/Console"), accessFlags := 74, slot := 9, constantValue := 0 }, { name := "initialErrStream", type := (.object "java/io/PrintStream"), accessFlags := 74, slot := 10, constantValue := 0 }, { name := "props", type := (.object "java/util/Properties"), accessFlags := 10, slot := 11, constantValue := 0 }, { name := "lineSeparator", type := (.object "java/lang/String"), accessFlags := 10, slot := 12, constantValue := 0 }, { name := "bootLayer", type := (.object "java/lang/ModuleLayer"), accessFlags := 8, slot := 13, constantValue := 0 }]
  methods := #[k12m0, k12m1]
  instanceTypes := #[]
  staticTypes := #[(.object "java/io/InputStream"), (.object "java/io/PrintStream"), (.object "java/io/PrintStream"), (.object "java/io/InputStream"), .int, .int, .int, (.object "java/lang/SecurityManager"), (.object "java/lang/String"), (.object "java/io/Console"), (.object "java/io/PrintStream"), (.object "java/util/Properties"), (.object "java/lang/String"), (.object "java/lang/ModuleLayer")]
  resolved := Array.replicate 834 none
  statics := none }

def pool13 : Array CpInfo := pool [(2, .class_ 4), (1, u "java/lang/Object"), (0, u "<init>"), (0, u "()V"), (1, .class_ 10), (1, u "java/lang/Number"), (2, .class_ 14), (0, u "java/io/Serializable"), (0, u "serialVersionUID"), (0, u "J")] 20

def k13m0 : Method := { name := "<init>", desc := "()V", sig := { parameters := [], returnType := none }, accessFlags := 1, code := none }
/-- java/lang/Number -/
def k13 : Class := { plain "java/lang/Number" (some 0) with
  accessFlags := 1057
  interfaces := #[6]
  cf := some (fileOf pool13 8 #[] #[{ accessFlags := 1, nameIndex := 5, descriptorIndex := 6, attributes := #[] }] 1057 2 #[13] #[{ accessFlags := 26, nameIndex := 15, descriptorIndex := 16, attributes := #[] }])
  fields := #[{ name := "serialVersionUID", type := .long, accessFlags := 26, slot := 0, constantValue := 0 }]
  methods := #[k13m0]
  instanceTypes := #[]
  staticTypes := #[.long]
  resolved := Array.replicate 37 none
  statics := none }

def pool14 : Array CpInfo := pool [(1, .class_ 2), (0, u "java/lang/Long"), (15, .class_ 20), (1, u "java/lang/Integer"), (80, u "(J)I"), (18, u "stringSize"), (2, u "getChars"), (0, u "(JI[B)I"), (4, .long 18446744071562067968), (3, .fieldref 18 134), (0, .nameAndType 135 136), (0, u "DigitOnes"), (0, u "[B"), (3, .long 18446744073709551606), (94, .class_ 237), (1, u "java/lang/Long$LongCache"), (33, .class_ 272), (0, u "java/lang/Number"), (2, u "value"), (0, u "J"), (84, u "TYPE"), (0, u "Ljava/lang/Class;"), (0, .class_ 364), (0, u "java/lang/Comparable"), (0, .class_ 366), (0, u "java/lang/constant/Constable"), (0, .class_ 368), (0, u "java/lang/constant/ConstantDesc"), (0, u "MIN_VALUE"), (1, u "MAX_VALUE"), (4, u "SIZE"), (0, u "I"), (1, u "BYTES"), (1, u "serialVersionUID")] 142

def k14c0 : Code := { maxStack := 4, maxLocals := 11, code := jdk_35_method_14_code, exceptionTable := #[], attributes := #[] }
def k14m0 : Method := { name := "getChars", desc := "(JI[B)I", sig := { parameters := [.long, .int, (.array .byte)], returnType := some .int }, accessFlags := 8, code := some k14c0 }
def k14c1 : Code := { maxStack := 4, maxLocals := 6, code := jdk_35_method_15_code, exceptionTable := #[], attributes := #[] }
def k14m1 : Method := { name := "stringSize", desc := "(J)I", sig := { parameters := [.long], returnType := some .int }, accessFlags := 8, code := some k14c1 }
/-- java/lang/Long -/
def k14 : Class := { plain "java/lang/Long" (some 13) with
  accessFlags := 49
  interfaces := #[7, 9, 10]
  cf := some (fileOf pool14 1 #[.nestMembers #[235]] #[{ accessFlags := 8, nameIndex := 123, descriptorIndex := 124, attributes := #[] }, { accessFlags := 8, nameIndex := 120, descriptorIndex := 101, attributes := #[] }] 49 271 #[363, 365, 367] #[{ accessFlags := 25, nameIndex := 369, descriptorIndex := 276, attributes := #[] }, { accessFlags := 25, nameIndex := 371, descriptorIndex := 276, attributes := #[] }, { accessFlags := 25, nameIndex := 361, descriptorIndex := 362, attributes := #[] }, { accessFlags := 18, nameIndex := 275, descriptorIndex := 276, attributes := #[] }, { accessFlags := 25, nameIndex := 376, descriptorIndex := 377, attributes := #[] }, { accessFlags := 25, nameIndex := 379, descriptorIndex := 377, attributes := #[] }, { accessFlags := 26, nameIndex := 381, descriptorIndex := 276, attributes := #[] }])
  fields := #[{ name := "MIN_VALUE", type := .long, accessFlags := 25, slot := 0, constantValue := 0 }, { name := "MAX_VALUE", type := .long, accessFlags := 25, slot := 1, constantValue := 0 }, { name := "TYPE", type := (.object "java/lang/Class"), accessFlags := 25, slot := 2, constantValue := 0 }, { name := "value", type := .long, accessFlags := 18, slot := 0, constantValue := 0 }, { name := "SIZE", type := .int, accessFlags := 25, slot := 3, constantValue := 0 }, { name := "BYTES", type := .int, accessFlags := 25, slot := 4, constantValue := 0 }, { name := "serialVersionUID", type := .long, accessFlags := 26, slot := 5, constantValue := 0 }]
  methods := #[k14m0, k14m1]
  instanceTypes := #[.long]
  staticTypes := #[.long, .long, (.object "java/lang/Class"), .int, .int, .long]
  resolved := Array.replicate 524 none
  statics := none }

def pool15 : Array CpInfo := pool [(1, .class_ 2), (0, u "java/lang/Integer"), (16, u "digits"), (0, u "[C"), (64, u "DigitOnes"), (0, u "[B"), (2, u "DigitTens"), (99, .class_ 190), (0, u "java/lang/Integer$IntegerCache"), (3, u "I"), (8, .class_ 204), (0, u "java/lang/Number"), (2, u "value"), (94, u "TYPE"), (0, u "Ljava/lang/Class;"), (0, .class_ 305), (0, u "java/lang/Comparable"), (0, .class_ 307), (0, u "java/lang/constant/Constable"), (0, .class_ 309), (0, u "java/lang/constant/ConstantDesc"), (0, u "MIN_VALUE"), (1, u "MAX_VALUE"), (3, u "SIZE"), (1, u "BYTES"), (1, u "serialVersionUID"), (0, u "J")] 131

/-- java/lang/Integer -/
def k15 : Class := { plain "java/lang/Integer" (some 13) with
  accessFlags := 49
  interfaces := #[7, 9, 10]
  cf := some (fileOf pool15 1 #[.nestMembers #[189]] #[] 49 203 #[304, 306, 308] #[{ accessFlags := 25, nameIndex := 310, descriptorIndex := 194, attributes := #[] }, { accessFlags := 25, nameIndex := 312, descriptorIndex := 194, attributes := #[] }, { accessFlags := 25, nameIndex := 302, descriptorIndex := 303, attributes := #[] }, { accessFlags := 24, nameIndex := 19, descriptorIndex := 20, attributes := #[] }, { accessFlags := 24, nameIndex := 89, descriptorIndex := 86, attributes := #[] }, { accessFlags := 24, nameIndex := 85, descriptorIndex := 86, attributes := #[] }, { accessFlags := 18, nameIndex := 207, descriptorIndex := 194, attributes := #[] }, { accessFlags := 25, nameIndex := 316, descriptorIndex := 194, attributes := #[] }, { accessFlags := 25, nameIndex := 318, descriptorIndex := 194, attributes := #[] }, { accessFlags := 26, nameIndex := 320, descriptorIndex := 321, attributes := #[] }])
  fields := #[{ name := "MIN_VALUE", type := .int, accessFlags := 25, slot := 0, constantValue := 0 }, { name := "MAX_VALUE", type := .int, accessFlags := 25, slot := 1, constantValue := 0 }, { name := "TYPE", type := (.object "java/lang/Class"), accessFlags := 25, slot := 2, constantValue := 0 }, { name := "digits", type := (.array .char), accessFlags := 24, slot := 3, constantValue := 0 }, { name := "DigitTens", type := (.array .byte), accessFlags := 24, slot := 4, constantValue := 0 }, { name := "DigitOnes", type := (.array .byte), accessFlags := 24, slot := 5, constantValue := 0 }, { name := "value", type := .int, accessFlags := 18, slot := 0, constantValue := 0 }, { name := "SIZE", type := .int, accessFlags := 25, slot := 6, constantValue := 0 }, { name := "BYTES", type := .int, accessFlags := 25, slot := 7, constantValue := 0 }, { name := "serialVersionUID", type := .long, accessFlags := 26, slot := 8, constantValue := 0 }]
  methods := #[]
  instanceTypes := #[.int]
  staticTypes := #[.int, .int, (.object "java/lang/Class"), (.array .char), (.array .byte), (.array .byte), .int, .int, .long]
  resolved := Array.replicate 453 none
  statics := some 1 }

def pool16 : Array CpInfo := pool [(9, u "<init>"), (6, .class_ 18), (1, u "java/lang/Object"), (0, u "()V"), (1, .class_ 23), (1, u "jdk/internal/util/ArraysSupport"), (0, u "LOG2_ARRAY_LONG_INDEX_SCALE"), (0, u "I"), (2, u "U"), (0, u "Ljdk/internal/misc/Unsafe;"), (8, u "BIG_ENDIAN"), (0, u "Z"), (8, u "LOG2_BYTE_BIT_SIZE"), (4, u "LOG2_ARRAY_INT_INDEX_SCALE"), (54, u "JLA"), (0, u "Ljdk/internal/access/JavaLangAccess;"), (11, u "LOG2_ARRAY_BOOLEAN_INDEX_SCALE"), (9, u "LOG2_ARRAY_BYTE_INDEX_SCALE"), (5, u "LOG2_ARRAY_CHAR_INDEX_SCALE"), (5, u "LOG2_ARRAY_SHORT_INDEX_SCALE"), (18, u "LOG2_ARRAY_FLOAT_INDEX_SCALE"), (24, u "LOG2_ARRAY_DOUBLE_INDEX_SCALE"), (6, .methodref 195 196), (0, .class_ 197), (0, .nameAndType 198 199), (0, u "java/lang/Math"), (0, u "max"), (0, u "(II)I"), (0, .integer 2147483639), (76, u "T_BOOLEAN"), (2, u "T_CHAR"), (1, u "T_FLOAT"), (1, u "T_DOUBLE"), (1, u "T_BYTE"), (1, u "T_SHORT"), (1, u "T_INT"), (1, u "T_LONG"), (1, u "SOFT_MAX_ARRAY_LENGTH"), (56, u "newLength"), (0, u "(III)I")] 25

def k16m0 : Method := { name := "<init>", desc := "()V", sig := { parameters := [], returnType := none }, accessFlags := 2, code := none }
def k16c1 : Code := { maxStack := 3, maxLocals := 4, code := jdk_48_method_27_code, exceptionTable := #[], attributes := #[] }
def k16m1 : Method := { name := "newLength", desc := "(III)I", sig := { parameters := [.int, .int, .int], returnType := some .int }, accessFlags := 9, code := some k16c1 }
/-- jdk/internal/util/ArraysSupport -/
def k16 : Class := { plain "jdk/internal/util/ArraysSupport" (some 0) with
  accessFlags := 33
  interfaces := #[]
  cf := some (fileOf pool16 21 #[] #[{ accessFlags := 2, nameIndex := 9, descriptorIndex := 19, attributes := #[] }, { accessFlags := 9, nameIndex := 351, descriptorIndex := 352, attributes := #[] }] 33 16 #[] #[{ accessFlags := 24, nameIndex := 28, descriptorIndex := 29, attributes := #[] }, { accessFlags := 26, nameIndex := 38, descriptorIndex := 39, attributes := #[] }, { accessFlags := 25, nameIndex := 121, descriptorIndex := 25, attributes := #[] }, { accessFlags := 25, nameIndex := 131, descriptorIndex := 25, attributes := #[] }, { accessFlags := 25, nameIndex := 137, descriptorIndex := 25, attributes := #[] }, { accessFlags := 25, nameIndex := 143, descriptorIndex := 25, attributes := #[] }, { accessFlags := 25, nameIndex := 53, descriptorIndex := 25, attributes := #[] }, { accessFlags := 25, nameIndex := 24, descriptorIndex := 25, attributes := #[] }, { accessFlags := 25, nameIndex := 162, descriptorIndex := 25, attributes := #[] }, { accessFlags := 25, nameIndex := 187, descriptorIndex := 25, attributes := #[] }, { accessFlags := 26, nameIndex := 48, descriptorIndex := 25, attributes := #[] }, { accessFlags := 25, nameIndex := 277, descriptorIndex := 25, attributes := #[] }, { accessFlags := 25, nameIndex := 280, descriptorIndex := 25, attributes := #[] }, { accessFlags := 25, nameIndex := 282, descriptorIndex := 25, attributes := #[] }, { accessFlags := 25, nameIndex := 284, descriptorIndex := 25, attributes := #[] }, { accessFlags := 25, nameIndex := 286, descriptorIndex := 25, attributes := #[] }, { accessFlags := 25, nameIndex := 288, descriptorIndex := 25, attributes := #[] }, { accessFlags := 25, nameIndex := 290, descriptorIndex := 25, attributes := #[] }, { accessFlags := 25, nameIndex := 292, descriptorIndex := 25, attributes := #[] }, { accessFlags := 26, nameIndex := 108, descriptorIndex := 109, attributes := #[] }, { accessFlags := 25, nameIndex := 294, descriptorIndex := 25, attributes := #[] }])
  fields := #[{ name := "U", type := (.object "jdk/internal/misc/Unsafe"), accessFlags := 24, slot := 0, constantValue := 0 }, { name := "BIG_ENDIAN", type := .boolean, accessFlags := 26, slot := 1, constantValue := 0 }, { name := "LOG2_ARRAY_BOOLEAN_INDEX_SCALE", type := .int, accessFlags := 25, slot := 2, constantValue := 0 }, { name := "LOG2_ARRAY_BYTE_INDEX_SCALE", type := .int, accessFlags := 25, slot := 3, constantValue := 0 }, { name := "LOG2_ARRAY_CHAR_INDEX_SCALE", type := .int, accessFlags := 25, slot := 4, constantValue := 0 }, { name := "LOG2_ARRAY_SHORT_INDEX_SCALE", type := .int, accessFlags := 25, slot := 5, constantValue := 0 }, { name := "LOG2_ARRAY_INT_INDEX_SCALE", type := .int, accessFlags := 25, slot := 6, constantValue := 0 }, { name := "LOG2_ARRAY_LONG_INDEX_SCALE", type := .int, accessFlags := 25, slot := 7, constantValue := 0 }, { name := "LOG2_ARRAY_FLOAT_INDEX_SCALE", type := .int, accessFlags := 25, slot := 8, constantValue := 0 }, { name := "LOG2_ARRAY_DOUBLE_INDEX_SCALE", type := .int, accessFlags := 25, slot := 9, constantValue := 0 }, { name := "LOG2_BYTE_BIT_SIZE", type := .int, accessFlags := 26, slot := 10, constantValue := 0 }, { name := "T_BOOLEAN", type := .int, accessFlags := 25, slot := 11, constantValue := 0 }, { name := "T_CHAR", type := .int, accessFlags := 25, slot := 12, constantValue := 0 }, { name := "T_FLOAT", type := .int, accessFlags := 25, slot := 13, constantValue := 0 }, { name := "T_DOUBLE", type := .int, accessFlags := 25, slot := 14, constantValue := 0 }, { name := "T_BYTE", type := .int, accessFlags := 25, slot := 15, constantValue := 0 }, { name := "T_SHORT", type := .int, accessFlags := 25, slot := 16, constantValue := 0 }, { name := "T_INT", type := .int, accessFlags := 25, slot := 17, constantValue := 0 }, { name := "T_LONG", type := .int, accessFlags := 25, slot := 18, constantValue := 0 }, { name := "JLA", type := (.object "jdk/internal/access/JavaLangAccess"), accessFlags := 26, slot := 19, constantValue := 0 }, { name := "SOFT_MAX_ARRAY_LENGTH", type := .int, accessFlags := 25, slot := 20, constantValue := 0 }]
  methods := #[k16m0, k16m1]
  instanceTypes := #[]
  staticTypes := #[(.object "jdk/internal/misc/Unsafe"), .boolean, .int, .int, .int, .int, .int, .int, .int, .int, .int, .int, .int, .int, .int, .int, .int, .int, .int, (.object "jdk/internal/access/JavaLangAccess"), .int]
  resolved := Array.replicate 378 none
  statics := none }

def pool17 : Array CpInfo := pool [(1, .class_ 2), (0, u "java/lang/Math"), (1, .class_ 6), (1, u "java/lang/Object"), (0, u "<init>"), (0, u "()V"), (89, .class_ 100), (1, u "java/lang/Math$RandomNumberGeneratorHolder"), (71, u "negativeZeroFloatBits"), (0, u "J"), (2, u "negativeZeroDoubleBits"), (21, u "max"), (2, u "min"), (43, u "$assertionsDisabled"), (0, u "Z"), (88, u "(II)I"), (2, u "twoToTheDoubleScaleDown"), (0, u "D"), (4, u "twoToTheDoubleScaleUp"), (9, u "E"), (3, u "PI"), (2, u "TAU"), (2, u "DEGREES_TO_RADIANS"), (0, u "RADIANS_TO_DEGREES")] 94

def k17m0 : Method := { name := "<init>", desc := "()V", sig := { parameters := [], returnType := none }, accessFlags := 2, code := none }
def k17c1 : Code := { maxStack := 2, maxLocals := 2, code := jdk_29_method_65_code, exceptionTable := #[], attributes := #[] }
def k17m1 : Method := { name := "max", desc := "(II)I", sig := { parameters := [.int, .int], returnType := some .int }, accessFlags := 9, code := some k17c1 }
def k17c2 : Code := { maxStack := 2, maxLocals := 2, code := jdk_29_method_69_code, exceptionTable := #[], attributes := #[] }
def k17m2 : Method := { name := "min", desc := "(II)I", sig := { parameters := [.int, .int], returnType := some .int }, accessFlags := 9, code := some k17c2 }
/-- java/lang/Math -/
def k17 : Class := { plain "java/lang/Math" (some 0) with
  accessFlags := 49
  interfaces := #[]
  cf := some (fileOf pool17 1 #[.nestMembers #[98]] #[{ accessFlags := 2, nameIndex := 7, descriptorIndex := 8, attributes := #[] }, { accessFlags := 9, nameIndex := 198, descriptorIndex := 335, attributes := #[] }, { accessFlags := 9, nameIndex := 201, descriptorIndex := 335, attributes := #[] }] 49 4 #[] #[{ accessFlags := 25, nameIndex := 354, descriptorIndex := 339, attributes := #[] }, { accessFlags := 25, nameIndex := 358, descriptorIndex := 339, attributes := #[] }, { accessFlags := 25, nameIndex := 361, descriptorIndex := 339, attributes := #[] }, { accessFlags := 26, nameIndex := 364, descriptorIndex := 339, attributes := #[] }, { accessFlags := 26, nameIndex := 365, descriptorIndex := 339, attributes := #[] }, { accessFlags := 26, nameIndex := 172, descriptorIndex := 173, attributes := #[] }, { accessFlags := 26, nameIndex := 176, descriptorIndex := 173, attributes := #[] }, { accessFlags := 8, nameIndex := 344, descriptorIndex := 339, attributes := #[] }, { accessFlags := 8, nameIndex := 338, descriptorIndex := 339, attributes := #[] }, { accessFlags := 4120, nameIndex := 245, descriptorIndex := 246, attributes := #[] }])
  fields := #[{ name := "E", type := .double, accessFlags := 25, slot := 0, constantValue := 0 }, { name := "PI", type := .double, accessFlags := 25, slot := 1, constantValue := 0 }, { name := "TAU", type := .double, accessFlags := 25, slot := 2, constantValue := 0 }, { name := "DEGREES_TO_RADIANS", type := .double, accessFlags := 26, slot := 3, constantValue := 0 }, { name := "RADIANS_TO_DEGREES", type := .double, accessFlags := 26, slot := 4, constantValue := 0 }, { name := "negativeZeroFloatBits", type := .long, accessFlags := 26, slot := 5, constantValue := 0 }, { name := "negativeZeroDoubleBits", type := .long, accessFlags := 26, slot := 6, constantValue := 0 }, { name := "twoToTheDoubleScaleUp", type := .double, accessFlags := 8, slot := 7, constantValue := 0 }, { name := "twoToTheDoubleScaleDown", type := .double, accessFlags := 8, slot := 8, constantValue := 0 }, { name := "$assertionsDisabled", type := .boolean, accessFlags := 4120, slot := 9, constantValue := 0 }]
  methods := #[k17m0, k17m1, k17m2]
  instanceTypes := #[]
  staticTypes := #[.double, .double, .double, .double, .double, .long, .long, .double, .double, .boolean]
  resolved := Array.replicate 460 none
  statics := none }

def pool18 : Array CpInfo := pool [(2, .class_ 4), (1, u "java/lang/Object"), (0, u "<init>"), (0, u "()V"), (7, .class_ 16), (1, u "java/util/Arrays"), (57, .class_ 76), (1, u "java/util/Arrays$NaturalOrder"), (36, .class_ 115), (1, u "java/util/Arrays$LegacyMergeSort"), (1, u "Z"), (21, u "copyOfRange"), (10, .methodref 151 152), (0, .class_ 153), (0, .nameAndType 154 155), (0, u "java/lang/System"), (0, u "arraycopy"), (0, u "(Ljava/lang/Object;ILjava/lang/Object;II)V"), (146, u "copyOf"), (1, .methodref 305 306), (0, .class_ 307), (0, .nameAndType 308 309), (0, u "java/lang/Math"), (0, u "min"), (0, u "(II)I"), (29, .methodref 14 340), (0, .nameAndType 341 342), (0, u "copyOfRangeByte"), (0, u "([BII)[B"), (0, .methodref 14 344), (0, .nameAndType 345 346), (0, u "checkLength"), (0, u "(II)V"), (28, .class_ 376), (0, u "java/util/Arrays$ArrayList"), (68, u "$assertionsDisabled"), (269, u "MIN_ARRAY_SORT_GRAN"), (0, u "I"), (2, u "INSERTIONSORT_THRESHOLD"), (149, u "([BI)[B"), (105, .class_ 976), (0, u "java/util/Arrays$ArrayItr")] 52

def k18m0 : Method := { name := "<init>", desc := "()V", sig := { parameters := [], returnType := none }, accessFlags := 2, code := none }
def k18c1 : Code := { maxStack := 6, maxLocals := 3, code := jdk_65_method_121_code, exceptionTable := #[], attributes := #[] }
def k18m1 : Method := { name := "copyOf", desc := "([BI)[B", sig := { parameters := [(.array .byte), .int], returnType := some (.array .byte) }, accessFlags := 9, code := some k18c1 }
def k18c2 : Code := { maxStack := 4, maxLocals := 2, code := jdk_65_method_131_code, exceptionTable := #[], attributes := #[] }
def k18m2 : Method := { name := "checkLength", desc := "(II)V", sig := { parameters := [.int, .int], returnType := none }, accessFlags := 10, code := some k18c2 }
def k18c3 : Code := { maxStack := 3, maxLocals := 3, code := jdk_65_method_132_code, exceptionTable := #[], attributes := #[] }
def k18m3 : Method := { name := "copyOfRange", desc := "([BII)[B", sig := { parameters := [(.array .byte), .int, .int], returnType := some (.array .byte) }, accessFlags := 9, code := some k18c3 }
def k18c4 : Code := { maxStack := 6, maxLocals := 5, code := jdk_65_method_133_code, exceptionTable := #[], attributes := #[] }
def k18m4 : Method := { name := "copyOfRangeByte", desc := "([BII)[B", sig := { parameters := [(.array .byte), .int, .int], returnType := some (.array .byte) }, accessFlags := 10, code := some k18c4 }
/-- java/util/Arrays -/
def k18 : Class := { plain "java/util/Arrays" (some 0) with
  accessFlags := 49
  interfaces := #[]
  cf := some (fileOf pool18 14 #[.nestMembers #[975, 375, 113, 74]] #[{ accessFlags := 2, nameIndex := 5, descriptorIndex := 6, attributes := #[] }, { accessFlags := 9, nameIndex := 302, descriptorIndex := 869, attributes := #[] }, { accessFlags := 10, nameIndex := 345, descriptorIndex := 346, attributes := #[] }, { accessFlags := 9, nameIndex := 139, descriptorIndex := 342, attributes := #[] }, { accessFlags := 10, nameIndex := 341, descriptorIndex := 342, attributes := #[] }] 49 2 #[] #[{ accessFlags := 26, nameIndex := 715, descriptorIndex := 716, attributes := #[] }, { accessFlags := 26, nameIndex := 719, descriptorIndex := 716, attributes := #[] }, { accessFlags := 4120, nameIndex := 445, descriptorIndex := 117, attributes := #[] }])
  fields := #[{ name := "MIN_ARRAY_SORT_GRAN", type := .int, accessFlags := 26, slot := 0, constantValue := 0 }, { name := "INSERTIONSORT_THRESHOLD", type := .int, accessFlags := 26, slot := 1, constantValue := 0 }, { name := "$assertionsDisabled", type := .boolean, accessFlags := 4120, slot := 2, constantValue := 0 }]
  methods := #[k18m0, k18m1, k18m2, k18m3, k18m4]
  instanceTypes := #[]
  staticTypes := #[.int, .int, .boolean]
  resolved := Array.replicate 1029 none
  statics := none }

def pool19 : Array CpInfo := pool [(1, .class_ 2), (0, u "java/lang/String"), (1, .class_ 6), (1, u "java/lang/Object"), (0, u "<init>"), (0, u "()V"), (0, .methodref 1 10), (0, .nameAndType 11 12), (0, u "checkIndex"), (0, u "(II)V"), (1, .class_ 16), (1, u "java/lang/StringLatin1"), (36, u "([BI)C"), (67, u "$assertionsDisabled"), (0, u "Z"), (98, .class_ 223), (1, u "java/lang/StringLatin1$LinesSpliterator"), (28, u "charAt"), (137, .class_ 391), (0, u "java/lang/StringLatin1$CharsSpliterator")] 3

def k19m0 : Method := { name := "<init>", desc := "()V", sig := { parameters := [], returnType := none }, accessFlags := 0, code := none }
def k19c1 : Code := { maxStack := 2, maxLocals := 2, code := jdk_43_method_2_code, exceptionTable := #[], attributes := #[] }
def k19m1 : Method := { name := "charAt", desc := "([BI)C", sig := { parameters := [(.array .byte), .int], returnType := some .char }, accessFlags := 9, code := some k19c1 }
/-- java/lang/StringLatin1 -/
def k19 : Class := { plain "java/lang/StringLatin1" (some 0) with
  accessFlags := 48
  interfaces := #[]
  cf := some (fileOf pool19 14 #[.nestMembers #[390, 221]] #[{ accessFlags := 0, nameIndex := 7, descriptorIndex := 8, attributes := #[] }, { accessFlags := 9, nameIndex := 252, descriptorIndex := 53, attributes := #[] }] 48 4 #[] #[{ accessFlags := 4120, nameIndex := 121, descriptorIndex := 122, attributes := #[] }])
  fields := #[{ name := "$assertionsDisabled", type := .boolean, accessFlags := 4120, slot := 0, constantValue := 0 }]
  methods := #[k19m0, k19m1]
  instanceTypes := #[]
  staticTypes := #[.boolean]
  resolved := Array.replicate 395 none
  statics := none }

def pool20 : Array CpInfo := pool [(2, .class_ 4), (1, u "java/lang/Object"), (0, u "<init>"), (0, u "()V"), (17, .class_ 26), (1, u "jdk/internal/util/Preconditions"), (6, u "checkIndex"), (21, .class_ 56), (0, u "jdk/internal/util/Preconditions$4"), (57, .class_ 115), (0, u "jdk/internal/util/Preconditions$1"), (7, u "SIOOBE_FORMATTER"), (0, u "Ljava/util/function/BiFunction;"), (0, .class_ 126), (0, u "jdk/internal/util/Preconditions$2"), (3, u "AIOOBE_FORMATTER"), (0, .class_ 132), (0, u "jdk/internal/util/Preconditions$3"), (3, u "IOOBE_FORMATTER"), (41, u "(IILjava/util/function/BiFunction;)I")] 15

def k20m0 : Method := { name := "<init>", desc := "()V", sig := { parameters := [], returnType := none }, accessFlags := 1, code := none }
def k20c1 : Code := { maxStack := 3, maxLocals := 3, code := jdk_41_method_11_code, exceptionTable := #[], attributes := #[] }
def k20m1 : Method := { name := "checkIndex", desc := "(IILjava/util/function/BiFunction;)I", sig := { parameters := [.int, .int, (.object "java/util/function/BiFunction")], returnType := some .int }, accessFlags := 9, code := some k20c1 }
/-- jdk/internal/util/Preconditions -/
def k20 : Class := { plain "jdk/internal/util/Preconditions" (some 0) with
  accessFlags := 33
  interfaces := #[]
  cf := some (fileOf pool20 24 #[.nestMembers #[55, 131, 125, 114]] #[{ accessFlags := 1, nameIndex := 5, descriptorIndex := 6, attributes := #[] }, { accessFlags := 9, nameIndex := 33, descriptorIndex := 178, attributes := #[] }] 33 2 #[] #[{ accessFlags := 25, nameIndex := 123, descriptorIndex := 124, attributes := #[] }, { accessFlags := 25, nameIndex := 130, descriptorIndex := 124, attributes := #[] }, { accessFlags := 25, nameIndex := 136, descriptorIndex := 124, attributes := #[] }])
  fields := #[{ name := "SIOOBE_FORMATTER", type := (.object "java/util/function/BiFunction"), accessFlags := 25, slot := 0, constantValue := 0 }, { name := "AIOOBE_FORMATTER", type := (.object "java/util/function/BiFunction"), accessFlags := 25, slot := 1, constantValue := 0 }, { name := "IOOBE_FORMATTER", type := (.object "java/util/function/BiFunction"), accessFlags := 25, slot := 2, constantValue := 0 }]
  methods := #[k20m0, k20m1]
  instanceTypes := #[]
  staticTypes := #[(.object "java/util/function/BiFunction"), (.object "java/util/function/BiFunction"), (.object "java/util/function/BiFunction")]
  resolved := Array.replicate 194 none
  statics := some 2 }

def pool21 : Array CpInfo := pool [(1, u "java/lang/Cloneable"), (0, .class_ 1), (0, u "java/lang/Object"), (0, .class_ 3)] 3

/-- java/lang/Cloneable -/
def k21 : Class := { plain "java/lang/Cloneable" (some 0) with
  accessFlags := 1537
  interfaces := #[]
  cf := some (fileOf pool21 2 #[] #[] 1537 4 #[] #[])
  fields := #[]
  methods := #[]
  instanceTypes := #[]
  staticTypes := #[]
  resolved := Array.replicate 8 none
  statics := none }

/-- the primitive byte -/
def k22 : Class := { plain "byte" none with kind := .primitive 'B', accessFlags := 0x411 }
/-- [B -/
def k23 : Class := { plain "[B" (some 0) with kind := .array 22 .byte, interfaces := #[21, 6], accessFlags := 1041 }

/-- the primitive int -/
def k24 : Class := { plain "int" none with kind := .primitive 'I', accessFlags := 0x411 }
/-- [I -/
def k25 : Class := { plain "[I" (some 0) with kind := .array 24 .int, interfaces := #[21, 6], accessFlags := 1041 }

def heap : Heap := #[{ cls := 11, slots := #[.long 0, .int 1, .null, .int 0, .null, .int 0, .int 0], vm := .statics 11 },
  { cls := 15, slots := #[.int 0, .int 0, .null, .null, .ref 4, .ref 3, .int 0, .int 0, .long 0], vm := .statics 15 },
  { cls := 20, slots := #[.null, .null, .null], vm := .statics 20 },
  { cls := 23, slots := #[.int 48, .int 49, .int 50, .int 51, .int 52, .int 53, .int 54, .int 55, .int 56, .int 57, .int 48, .int 49, .int 50, .int 51, .int 52, .int 53, .int 54, .int 55, .int 56, .int 57, .int 48, .int 49, .int 50, .int 51, .int 52, .int 53, .int 54, .int 55, .int 56, .int 57, .int 48, .int 49, .int 50, .int 51, .int 52, .int 53, .int 54, .int 55, .int 56, .int 57, .int 48, .int 49, .int 50, .int 51, .int 52, .int 53, .int 54, .int 55, .int 56, .int 57, .int 48, .int 49, .int 50, .int 51, .int 52, .int 53, .int 54, .int 55, .int 56, .int 57, .int 48, .int 49, .int 50, .int 51, .int 52, .int 53, .int 54, .int 55, .int 56, .int 57, .int 48, .int 49, .int 50, .int 51, .int 52, .int 53, .int 54, .int 55, .int 56, .int 57, .int 48, .int 49, .int 50, .int 51, .int 52, .int 53, .int 54, .int 55, .int 56, .int 57, .int 48, .int 49, .int 50, .int 51, .int 52, .int 53, .int 54, .int 55, .int 56, .int 57], vm := .none },
  { cls := 23, slots := #[.int 48, .int 48, .int 48, .int 48, .int 48, .int 48, .int 48, .int 48, .int 48, .int 48, .int 49, .int 49, .int 49, .int 49, .int 49, .int 49, .int 49, .int 49, .int 49, .int 49, .int 50, .int 50, .int 50, .int 50, .int 50, .int 50, .int 50, .int 50, .int 50, .int 50, .int 51, .int 51, .int 51, .int 51, .int 51, .int 51, .int 51, .int 51, .int 51, .int 51, .int 52, .int 52, .int 52, .int 52, .int 52, .int 52, .int 52, .int 52, .int 52, .int 52, .int 53, .int 53, .int 53, .int 53, .int 53, .int 53, .int 53, .int 53, .int 53, .int 53, .int 54, .int 54, .int 54, .int 54, .int 54, .int 54, .int 54, .int 54, .int 54, .int 54, .int 55, .int 55, .int 55, .int 55, .int 55, .int 55, .int 55, .int 55, .int 55, .int 55, .int 56, .int 56, .int 56, .int 56, .int 56, .int 56, .int 56, .int 56, .int 56, .int 56, .int 57, .int 57, .int 57, .int 57, .int 57, .int 57, .int 57, .int 57, .int 57, .int 57], vm := .none }]
def classes : Array Class := #[k0, k1, k2, k3, k4, k5, k6, k7, k8, k9, k10, k11, k12, k13, k14, k15, k16, k17, k18, k19, k20, k21, k22, k23, k24, k25]
def interned : List (Array UInt16 × Addr) := []
def slotsUsed : Nat := 219
def theMethod : MethodId := ⟨1, 3⟩
def args0 : Array Value := #[.int 5, .int 200, .int 0, .int 404]
def aboutOver (below : List Frame) : State where
  vm := { classes := classes, interned := interned.toArray }
  heap := heap
  slotsUsed := slotsUsed
  threads := #[{ frames := .invoking theMethod args0 :: below }]
def below0 : List Frame := [.native { method := ⟨0, 0⟩, args := #[] }]
def about1 : State := aboutOver below0
def p0 : Program := .bare "" "" ""
def e0 : Env := launch0.env 0 0 0
theorem w_frames : about1.frames = Frame.invoking theMethod args0 :: below0 := rfl
set_option maxRecDepth 65536 in
theorem w_args : argsFit about1.vm theMethod args0 = true := by decide +kernel
set_option maxRecDepth 65536 in
theorem w_heap : heapFits about1 = true := by decide +kernel
set_option maxRecDepth 65536 in
theorem w_runnable : about1.curStatus? = some .runnable := by decide +kernel
set_option maxRecDepth 65536 in
theorem w_alone : about1.alone = true := by decide +kernel
set_option maxRecDepth 65536 in
theorem w_named : about1.methodNamed? x = some theMethod := by decide +kernel
set_option maxRecDepth 65536 in
theorem w_hears : about1.hears theMethod below0 = true := by decide +kernel
set_option maxRecDepth 65536 in
theorem w_ripe : about1.ripe theMethod args0 below0 = true := by decide +kernel
theorem w_running : about1.status = .running := rfl
set_option maxRecDepth 65536 in
theorem w_room : about1.hasRoom e0.platform room_1 = true :=
  launch0.hasRoom_least _ room_1 (by decide +kernel) (by decide +kernel) (by decide +kernel) (by decide +kernel) (by decide +kernel) (by decide +kernel)
theorem allAtoms_all (ts : List Jvm.Cond) (a : Array Jvm.Value) (st : Jvm.State) : (allAtoms ts).before a st = ts.all (fun c => c.before a st) := by
  induction ts with
  | nil => rfl
  | cons c t ih =>
    show (Jvm.Cond.and c (allAtoms t)).before a st = _
    rw [Jvm.Cond.before_and, ih, List.all_cons]
def words1 : List Jvm.Cond := Jvm.Cond.code x code maxLocals ret :: tables_1
/-- a 'code' word, met by the world's own term for the bytes: nothing is compared byte by byte -/
theorem code_word {y : MethodName} {bytes : ByteArray} {mx : Nat} {rt : Option FieldType} {a : Array Value} {s : State} {m : MethodId} {meth : Method} {c : Code} (h1 : s.methodNamed? y = some m) (h2 : s.vm.method? m = some meth) (h3 : meth.code = some c) (h4 : c.code = bytes)
    (h5 : (c.maxLocals == mx && c.exceptionTable.isEmpty && decide (c.maxStack ≤ mostOperands) && decide (meth.sig.returnType = rt) && !meth.locks && decide (parseMethodDescriptor y.desc = some meth.sig)) = true) : (Jvm.Cond.code y bytes mx rt).before a s = true := by
  simp only [Bool.and_eq_true, beq_iff_eq, Bool.not_eq_true', decide_eq_true_eq] at h5
  obtain ⟨⟨⟨⟨⟨g1, g2⟩, g3⟩, g4⟩, g5⟩, g6⟩ := h5
  simp [Cond.before, Cond.holds, Cond.value, h1, h2, h3, h4, g1, g2, g3, g4, g5, g6]
def isCode : Jvm.Cond → Bool
  | .code _ _ _ _ => true
  | _ => false
theorem all_split {L : List Jvm.Cond} {P : Jvm.Cond → Bool} (h1 : L.all (fun c => isCode c || P c) = true) (h2 : ∀ c ∈ L.filter isCode, P c = true) : L.all P = true := by
  refine List.all_eq_true.mpr fun c hc => ?_
  have h := List.all_eq_true.mp h1 c hc
  rcases Bool.eq_false_or_eq_true (isCode c) with hi | hi
  · exact h2 c (List.mem_filter.mpr ⟨hc, hi⟩)
  · simpa [hi] using h
set_option maxRecDepth 65536 in
theorem w_c0 : (Jvm.Cond.code x code maxLocals ret).before args0 about1 = true := code_word (m := ⟨1, 3⟩) (meth := k1m3) (c := k1c3) (by decide +kernel) rfl rfl rfl (by decide +kernel)
set_option maxRecDepth 65536 in
theorem w_c1 : (Jvm.Cond.code ({ cls := "com/example/wide_area_crawler/wideareacrawler/CrawlCounts", name := "<init>", desc := "()V" } : Jvm.MethodName) prog_7_method_1_code (1 : Nat) (Option.none : Option Jvm.ClassFile.FieldType)).before args0 about1 = true := code_word (m := ⟨2, 0⟩) (meth := k2m0) (c := k2c0) (by decide +kernel) rfl rfl rfl (by decide +kernel)
set_option maxRecDepth 65536 in
theorem w_c2 : (Jvm.Cond.code ({ cls := "java/lang/Object", name := "<init>", desc := "()V" } : Jvm.MethodName) object_method_1_code (1 : Nat) (Option.none : Option Jvm.ClassFile.FieldType)).before args0 about1 = true := code_word (m := ⟨0, 0⟩) (meth := k0m0) (c := k0c0) (by decide +kernel) rfl rfl rfl (by decide +kernel)
set_option maxRecDepth 65536 in
theorem w_c3 : (Jvm.Cond.code ({ cls := "com/example/wide_area_crawler/wideareacrawler/CrawlCounts", name := "count", desc := "(I)V" } : Jvm.MethodName) prog_7_method_2_code (2 : Nat) (Option.none : Option Jvm.ClassFile.FieldType)).before args0 about1 = true := code_word (m := ⟨2, 1⟩) (meth := k2m1) (c := k2c1) (by decide +kernel) rfl rfl rfl (by decide +kernel)
set_option maxRecDepth 65536 in
theorem w_c4 : (Jvm.Cond.code ({ cls := "com/example/wide_area_crawler/wideareacrawler/CrawlCountsCountPinLaw", name := "hit", desc := "(II)I" } : Jvm.MethodName) method_3_code (2 : Nat) (Option.some Jvm.ClassFile.FieldType.int)).before args0 about1 = true := code_word (m := ⟨1, 2⟩) (meth := k1m2) (c := k1c2) (by decide +kernel) rfl rfl rfl (by decide +kernel)
set_option maxRecDepth 65536 in
theorem w_c5 : (Jvm.Cond.code ({ cls := "com/example/wide_area_crawler/wideareacrawler/CrawlCountsCountPinLaw", name := "kind", desc := "(I)I" } : Jvm.MethodName) method_2_code (1 : Nat) (Option.some Jvm.ClassFile.FieldType.int)).before args0 about1 = true := code_word (m := ⟨1, 1⟩) (meth := k1m1) (c := k1c1) (by decide +kernel) rfl rfl rfl (by decide +kernel)
set_option maxRecDepth 65536 in
theorem w_c6 : (Jvm.Cond.code ({ cls := "com/example/wide_area_crawler/wideareacrawler/CrawlCounts", name := "doneLine", desc := "()Ljava/lang/String;" } : Jvm.MethodName) prog_7_method_3_code (1 : Nat) (Option.some (Jvm.ClassFile.FieldType.object "java/lang/String"))).before args0 about1 = true := code_word (m := ⟨2, 2⟩) (meth := k2m2) (c := k2c2) (by decide +kernel) rfl rfl rfl (by decide +kernel)
set_option maxRecDepth 65536 in
theorem w_c7 : (Jvm.Cond.code ({ cls := "java/lang/StringBuilder", name := "<init>", desc := "()V" } : Jvm.MethodName) jdk_67_method_1_code (1 : Nat) (Option.none : Option Jvm.ClassFile.FieldType)).before args0 about1 = true := code_word (m := ⟨8, 0⟩) (meth := k8m0) (c := k8c0) (by decide +kernel) rfl rfl rfl (by decide +kernel)
set_option maxRecDepth 65536 in
theorem w_c8 : (Jvm.Cond.code ({ cls := "java/lang/AbstractStringBuilder", name := "<init>", desc := "(I)V" } : Jvm.MethodName) jdk_68_method_2_code (2 : Nat) (Option.none : Option Jvm.ClassFile.FieldType)).before args0 about1 = true := code_word (m := ⟨5, 1⟩) (meth := k5m1) (c := k5c1) (by decide +kernel) rfl rfl rfl (by decide +kernel)
set_option maxRecDepth 65536 in
theorem w_c9 : (Jvm.Cond.code ({ cls := "java/lang/StringBuilder", name := "append", desc := "(Ljava/lang/String;)Ljava/lang/StringBuilder;" } : Jvm.MethodName) jdk_67_method_7_code (2 : Nat) (Option.some (Jvm.ClassFile.FieldType.object "java/lang/StringBuilder"))).before args0 about1 = true := code_word (m := ⟨8, 1⟩) (meth := k8m1) (c := k8c1) (by decide +kernel) rfl rfl rfl (by decide +kernel)
set_option maxRecDepth 65536 in
theorem w_c10 : (Jvm.Cond.code ({ cls := "java/lang/AbstractStringBuilder", name := "append", desc := "(Ljava/lang/String;)Ljava/lang/AbstractStringBuilder;" } : Jvm.MethodName) jdk_68_method_22_code (3 : Nat) (Option.some (Jvm.ClassFile.FieldType.object "java/lang/AbstractStringBuilder"))).before args0 about1 = true := code_word (m := ⟨5, 5⟩) (meth := k5m5) (c := k5c5) (by decide +kernel) rfl rfl rfl (by decide +kernel)
set_option maxRecDepth 65536 in
theorem w_c11 : (Jvm.Cond.code ({ cls := "java/lang/String", name := "length", desc := "()I" } : Jvm.MethodName) jdk_42_method_54_code (1 : Nat) (Option.some Jvm.ClassFile.FieldType.int)).before args0 about1 = true := code_word (m := ⟨11, 2⟩) (meth := k11m2) (c := k11c2) (by decide +kernel) rfl rfl rfl (by decide +kernel)
set_option maxRecDepth 65536 in
theorem w_c12 : (Jvm.Cond.code ({ cls := "java/lang/String", name := "coder", desc := "()B" } : Jvm.MethodName) jdk_42_method_152_code (1 : Nat) (Option.some Jvm.ClassFile.FieldType.byte)).before args0 about1 = true := code_word (m := ⟨11, 6⟩) (meth := k11m6) (c := k11c6) (by decide +kernel) rfl rfl rfl (by decide +kernel)
set_option maxRecDepth 65536 in
theorem w_c13 : (Jvm.Cond.code ({ cls := "java/lang/AbstractStringBuilder", name := "ensureCapacityInternal", desc := "(I)V" } : Jvm.MethodName) jdk_68_method_9_code (3 : Nat) (Option.none : Option Jvm.ClassFile.FieldType)).before args0 about1 = true := code_word (m := ⟨5, 3⟩) (meth := k5m3) (c := k5c3) (by decide +kernel) rfl rfl rfl (by decide +kernel)
set_option maxRecDepth 65536 in
theorem w_c14 : (Jvm.Cond.code ({ cls := "java/lang/AbstractStringBuilder", name := "putStringAt", desc := "(ILjava/lang/String;)V" } : Jvm.MethodName) jdk_68_method_73_code (3 : Nat) (Option.none : Option Jvm.ClassFile.FieldType)).before args0 about1 = true := code_word (m := ⟨5, 10⟩) (meth := k5m10) (c := k5c10) (by decide +kernel) rfl rfl rfl (by decide +kernel)
set_option maxRecDepth 65536 in
theorem w_c15 : (Jvm.Cond.code ({ cls := "java/lang/AbstractStringBuilder", name := "inflateIfNeededFor", desc := "(Ljava/lang/String;)V" } : Jvm.MethodName) jdk_68_method_71_code (2 : Nat) (Option.none : Option Jvm.ClassFile.FieldType)).before args0 about1 = true := code_word (m := ⟨5, 9⟩) (meth := k5m9) (c := k5c9) (by decide +kernel) rfl rfl rfl (by decide +kernel)
set_option maxRecDepth 65536 in
theorem w_c16 : (Jvm.Cond.code ({ cls := "java/lang/String", name := "getBytes", desc := "([BIB)V" } : Jvm.MethodName) jdk_42_method_147_code (4 : Nat) (Option.none : Option Jvm.ClassFile.FieldType)).before args0 about1 = true := code_word (m := ⟨11, 4⟩) (meth := k11m4) (c := k11c4) (by decide +kernel) rfl rfl rfl (by decide +kernel)
set_option maxRecDepth 65536 in
theorem w_c17 : (Jvm.Cond.code ({ cls := "java/lang/StringBuilder", name := "append", desc := "(J)Ljava/lang/StringBuilder;" } : Jvm.MethodName) jdk_67_method_16_code (3 : Nat) (Option.some (Jvm.ClassFile.FieldType.object "java/lang/StringBuilder"))).before args0 about1 = true := code_word (m := ⟨8, 2⟩) (meth := k8m2) (c := k8c2) (by decide +kernel) rfl rfl rfl (by decide +kernel)
set_option maxRecDepth 65536 in
theorem w_c18 : (Jvm.Cond.code ({ cls := "java/lang/AbstractStringBuilder", name := "append", desc := "(J)Ljava/lang/AbstractStringBuilder;" } : Jvm.MethodName) jdk_68_method_33_code (5 : Nat) (Option.some (Jvm.ClassFile.FieldType.object "java/lang/AbstractStringBuilder"))).before args0 about1 = true := code_word (m := ⟨5, 6⟩) (meth := k5m6) (c := k5c6) (by decide +kernel) rfl rfl rfl (by decide +kernel)
set_option maxRecDepth 65536 in
theorem w_c19 : (Jvm.Cond.code ({ cls := "java/lang/Long", name := "stringSize", desc := "(J)I" } : Jvm.MethodName) jdk_35_method_15_code (6 : Nat) (Option.some Jvm.ClassFile.FieldType.int)).before args0 about1 = true := code_word (m := ⟨14, 1⟩) (meth := k14m1) (c := k14c1) (by decide +kernel) rfl rfl rfl (by decide +kernel)
set_option maxRecDepth 65536 in
theorem w_c20 : (Jvm.Cond.code ({ cls := "java/lang/AbstractStringBuilder", name := "isLatin1", desc := "()Z" } : Jvm.MethodName) jdk_68_method_68_code (1 : Nat) (Option.some Jvm.ClassFile.FieldType.boolean)).before args0 about1 = true := code_word (m := ⟨5, 8⟩) (meth := k5m8) (c := k5c8) (by decide +kernel) rfl rfl rfl (by decide +kernel)
set_option maxRecDepth 65536 in
theorem w_c21 : (Jvm.Cond.code ({ cls := "java/lang/Long", name := "getChars", desc := "(JI[B)I" } : Jvm.MethodName) jdk_35_method_14_code (11 : Nat) (Option.some Jvm.ClassFile.FieldType.int)).before args0 about1 = true := code_word (m := ⟨14, 0⟩) (meth := k14m0) (c := k14c0) (by decide +kernel) rfl rfl rfl (by decide +kernel)
set_option maxRecDepth 65536 in
theorem w_c22 : (Jvm.Cond.code ({ cls := "java/lang/AbstractStringBuilder", name := "newCapacity", desc := "(I)I" } : Jvm.MethodName) jdk_68_method_10_code (6 : Nat) (Option.some Jvm.ClassFile.FieldType.int)).before args0 about1 = true := code_word (m := ⟨5, 4⟩) (meth := k5m4) (c := k5c4) (by decide +kernel) rfl rfl rfl (by decide +kernel)
set_option maxRecDepth 65536 in
theorem w_c23 : (Jvm.Cond.code ({ cls := "jdk/internal/util/ArraysSupport", name := "newLength", desc := "(III)I" } : Jvm.MethodName) jdk_48_method_27_code (4 : Nat) (Option.some Jvm.ClassFile.FieldType.int)).before args0 about1 = true := code_word (m := ⟨16, 1⟩) (meth := k16m1) (c := k16c1) (by decide +kernel) rfl rfl rfl (by decide +kernel)
set_option maxRecDepth 65536 in
theorem w_c24 : (Jvm.Cond.code ({ cls := "java/lang/Math", name := "max", desc := "(II)I" } : Jvm.MethodName) jdk_29_method_65_code (2 : Nat) (Option.some Jvm.ClassFile.FieldType.int)).before args0 about1 = true := code_word (m := ⟨17, 1⟩) (meth := k17m1) (c := k17c1) (by decide +kernel) rfl rfl rfl (by decide +kernel)
set_option maxRecDepth 65536 in
theorem w_c25 : (Jvm.Cond.code ({ cls := "java/util/Arrays", name := "copyOf", desc := "([BI)[B" } : Jvm.MethodName) jdk_65_method_121_code (3 : Nat) (Option.some (Jvm.ClassFile.FieldType.array Jvm.ClassFile.FieldType.byte))).before args0 about1 = true := code_word (m := ⟨18, 1⟩) (meth := k18m1) (c := k18c1) (by decide +kernel) rfl rfl rfl (by decide +kernel)
set_option maxRecDepth 65536 in
theorem w_c26 : (Jvm.Cond.code ({ cls := "java/lang/Math", name := "min", desc := "(II)I" } : Jvm.MethodName) jdk_29_method_69_code (2 : Nat) (Option.some Jvm.ClassFile.FieldType.int)).before args0 about1 = true := code_word (m := ⟨17, 2⟩) (meth := k17m2) (c := k17c2) (by decide +kernel) rfl rfl rfl (by decide +kernel)
set_option maxRecDepth 65536 in
theorem w_c27 : (Jvm.Cond.code ({ cls := "java/lang/StringBuilder", name := "toString", desc := "()Ljava/lang/String;" } : Jvm.MethodName) jdk_67_method_42_code (1 : Nat) (Option.some (Jvm.ClassFile.FieldType.object "java/lang/String"))).before args0 about1 = true := code_word (m := ⟨8, 3⟩) (meth := k8m3) (c := k8c3) (by decide +kernel) rfl rfl rfl (by decide +kernel)
set_option maxRecDepth 65536 in
theorem w_c28 : (Jvm.Cond.code ({ cls := "java/lang/String", name := "<init>", desc := "(Ljava/lang/StringBuilder;)V" } : Jvm.MethodName) jdk_42_method_53_code (2 : Nat) (Option.none : Option Jvm.ClassFile.FieldType)).before args0 about1 = true := code_word (m := ⟨11, 1⟩) (meth := k11m1) (c := k11c1) (by decide +kernel) rfl rfl rfl (by decide +kernel)
set_option maxRecDepth 65536 in
theorem w_c29 : (Jvm.Cond.code ({ cls := "java/lang/String", name := "<init>", desc := "(Ljava/lang/AbstractStringBuilder;Ljava/lang/Void;)V" } : Jvm.MethodName) jdk_42_method_150_code (5 : Nat) (Option.none : Option Jvm.ClassFile.FieldType)).before args0 about1 = true := code_word (m := ⟨11, 5⟩) (meth := k11m5) (c := k11c5) (by decide +kernel) rfl rfl rfl (by decide +kernel)
set_option maxRecDepth 65536 in
theorem w_c30 : (Jvm.Cond.code ({ cls := "java/lang/AbstractStringBuilder", name := "getValue", desc := "()[B" } : Jvm.MethodName) jdk_68_method_64_code (1 : Nat) (Option.some (Jvm.ClassFile.FieldType.array Jvm.ClassFile.FieldType.byte))).before args0 about1 = true := code_word (m := ⟨5, 7⟩) (meth := k5m7) (c := k5c7) (by decide +kernel) rfl rfl rfl (by decide +kernel)
set_option maxRecDepth 65536 in
theorem w_c31 : (Jvm.Cond.code ({ cls := "java/lang/StringBuilder", name := "length", desc := "()I" } : Jvm.MethodName) jdk_67_method_93_code (1 : Nat) (Option.some Jvm.ClassFile.FieldType.int)).before args0 about1 = true := code_word (m := ⟨8, 4⟩) (meth := k8m4) (c := k8c4) (by decide +kernel) rfl rfl rfl (by decide +kernel)
set_option maxRecDepth 65536 in
theorem w_c32 : (Jvm.Cond.code ({ cls := "java/lang/AbstractStringBuilder", name := "length", desc := "()I" } : Jvm.MethodName) jdk_68_method_6_code (1 : Nat) (Option.some Jvm.ClassFile.FieldType.int)).before args0 about1 = true := code_word (m := ⟨5, 2⟩) (meth := k5m2) (c := k5c2) (by decide +kernel) rfl rfl rfl (by decide +kernel)
set_option maxRecDepth 65536 in
theorem w_c33 : (Jvm.Cond.code ({ cls := "java/util/Arrays", name := "copyOfRange", desc := "([BII)[B" } : Jvm.MethodName) jdk_65_method_132_code (3 : Nat) (Option.some (Jvm.ClassFile.FieldType.array Jvm.ClassFile.FieldType.byte))).before args0 about1 = true := code_word (m := ⟨18, 3⟩) (meth := k18m3) (c := k18c3) (by decide +kernel) rfl rfl rfl (by decide +kernel)
set_option maxRecDepth 65536 in
theorem w_c34 : (Jvm.Cond.code ({ cls := "java/util/Arrays", name := "copyOfRangeByte", desc := "([BII)[B" } : Jvm.MethodName) jdk_65_method_133_code (5 : Nat) (Option.some (Jvm.ClassFile.FieldType.array Jvm.ClassFile.FieldType.byte))).before args0 about1 = true := code_word (m := ⟨18, 4⟩) (meth := k18m4) (c := k18c4) (by decide +kernel) rfl rfl rfl (by decide +kernel)
set_option maxRecDepth 65536 in
theorem w_c35 : (Jvm.Cond.code ({ cls := "java/util/Arrays", name := "checkLength", desc := "(II)V" } : Jvm.MethodName) jdk_65_method_131_code (2 : Nat) (Option.none : Option Jvm.ClassFile.FieldType)).before args0 about1 = true := code_word (m := ⟨18, 2⟩) (meth := k18m2) (c := k18c2) (by decide +kernel) rfl rfl rfl (by decide +kernel)
set_option maxRecDepth 65536 in
theorem w_c36 : (Jvm.Cond.code ({ cls := "java/lang/String", name := "charAt", desc := "(I)C" } : Jvm.MethodName) jdk_42_method_56_code (2 : Nat) (Option.some Jvm.ClassFile.FieldType.char)).before args0 about1 = true := code_word (m := ⟨11, 3⟩) (meth := k11m3) (c := k11c3) (by decide +kernel) rfl rfl rfl (by decide +kernel)
set_option maxRecDepth 65536 in
theorem w_c37 : (Jvm.Cond.code ({ cls := "java/lang/String", name := "isLatin1", desc := "()Z" } : Jvm.MethodName) jdk_42_method_154_code (1 : Nat) (Option.some Jvm.ClassFile.FieldType.boolean)).before args0 about1 = true := code_word (m := ⟨11, 7⟩) (meth := k11m7) (c := k11c7) (by decide +kernel) rfl rfl rfl (by decide +kernel)
set_option maxRecDepth 65536 in
theorem w_c38 : (Jvm.Cond.code ({ cls := "java/lang/StringLatin1", name := "charAt", desc := "([BI)C" } : Jvm.MethodName) jdk_43_method_2_code (2 : Nat) (Option.some Jvm.ClassFile.FieldType.char)).before args0 about1 = true := code_word (m := ⟨19, 1⟩) (meth := k19m1) (c := k19c1) (by decide +kernel) rfl rfl rfl (by decide +kernel)
set_option maxRecDepth 65536 in
theorem w_c39 : (Jvm.Cond.code ({ cls := "java/lang/String", name := "checkIndex", desc := "(II)V" } : Jvm.MethodName) jdk_42_method_155_code (2 : Nat) (Option.none : Option Jvm.ClassFile.FieldType)).before args0 about1 = true := code_word (m := ⟨11, 8⟩) (meth := k11m8) (c := k11c8) (by decide +kernel) rfl rfl rfl (by decide +kernel)
set_option maxRecDepth 65536 in
theorem w_c40 : (Jvm.Cond.code ({ cls := "jdk/internal/util/Preconditions", name := "checkIndex", desc := "(IILjava/util/function/BiFunction;)I" } : Jvm.MethodName) jdk_41_method_11_code (3 : Nat) (Option.some Jvm.ClassFile.FieldType.int)).before args0 about1 = true := code_word (m := ⟨20, 1⟩) (meth := k20m1) (c := k20c1) (by decide +kernel) rfl rfl rfl (by decide +kernel)
def codes1 : List Jvm.Cond := [Jvm.Cond.code x code maxLocals ret, Jvm.Cond.code ({ cls := "com/example/wide_area_crawler/wideareacrawler/CrawlCounts", name := "<init>", desc := "()V" } : Jvm.MethodName) prog_7_method_1_code (1 : Nat) (Option.none : Option Jvm.ClassFile.FieldType), Jvm.Cond.code ({ cls := "java/lang/Object", name := "<init>", desc := "()V" } : Jvm.MethodName) object_method_1_code (1 : Nat) (Option.none : Option Jvm.ClassFile.FieldType), Jvm.Cond.code ({ cls := "com/example/wide_area_crawler/wideareacrawler/CrawlCounts", name := "count", desc := "(I)V" } : Jvm.MethodName) prog_7_method_2_code (2 : Nat) (Option.none : Option Jvm.ClassFile.FieldType), Jvm.Cond.code ({ cls := "com/example/wide_area_crawler/wideareacrawler/CrawlCountsCountPinLaw", name := "hit", desc := "(II)I" } : Jvm.MethodName) method_3_code (2 : Nat) (Option.some Jvm.ClassFile.FieldType.int), Jvm.Cond.code ({ cls := "com/example/wide_area_crawler/wideareacrawler/CrawlCountsCountPinLaw", name := "kind", desc := "(I)I" } : Jvm.MethodName) method_2_code (1 : Nat) (Option.some Jvm.ClassFile.FieldType.int), Jvm.Cond.code ({ cls := "com/example/wide_area_crawler/wideareacrawler/CrawlCounts", name := "doneLine", desc := "()Ljava/lang/String;" } : Jvm.MethodName) prog_7_method_3_code (1 : Nat) (Option.some (Jvm.ClassFile.FieldType.object "java/lang/String")), Jvm.Cond.code ({ cls := "java/lang/StringBuilder", name := "<init>", desc := "()V" } : Jvm.MethodName) jdk_67_method_1_code (1 : Nat) (Option.none : Option Jvm.ClassFile.FieldType), Jvm.Cond.code ({ cls := "java/lang/AbstractStringBuilder", name := "<init>", desc := "(I)V" } : Jvm.MethodName) jdk_68_method_2_code (2 : Nat) (Option.none : Option Jvm.ClassFile.FieldType), Jvm.Cond.code ({ cls := "java/lang/StringBuilder", name := "append", desc := "(Ljava/lang/String;)Ljava/lang/StringBuilder;" } : Jvm.MethodName) jdk_67_method_7_code (2 : Nat) (Option.some (Jvm.ClassFile.FieldType.object "java/lang/StringBuilder")), Jvm.Cond.code ({ cls := "java/lang/AbstractStringBuilder", name := "append", desc := "(Ljava/lang/String;)Ljava/lang/AbstractStringBuilder;" } : Jvm.MethodName) jdk_68_method_22_code (3 : Nat) (Option.some (Jvm.ClassFile.FieldType.object "java/lang/AbstractStringBuilder")), Jvm.Cond.code ({ cls := "java/lang/String", name := "length", desc := "()I" } : Jvm.MethodName) jdk_42_method_54_code (1 : Nat) (Option.some Jvm.ClassFile.FieldType.int), Jvm.Cond.code ({ cls := "java/lang/String", name := "coder", desc := "()B" } : Jvm.MethodName) jdk_42_method_152_code (1 : Nat) (Option.some Jvm.ClassFile.FieldType.byte), Jvm.Cond.code ({ cls := "java/lang/AbstractStringBuilder", name := "ensureCapacityInternal", desc := "(I)V" } : Jvm.MethodName) jdk_68_method_9_code (3 : Nat) (Option.none : Option Jvm.ClassFile.FieldType), Jvm.Cond.code ({ cls := "java/lang/AbstractStringBuilder", name := "putStringAt", desc := "(ILjava/lang/String;)V" } : Jvm.MethodName) jdk_68_method_73_code (3 : Nat) (Option.none : Option Jvm.ClassFile.FieldType), Jvm.Cond.code ({ cls := "java/lang/AbstractStringBuilder", name := "inflateIfNeededFor", desc := "(Ljava/lang/String;)V" } : Jvm.MethodName) jdk_68_method_71_code (2 : Nat) (Option.none : Option Jvm.ClassFile.FieldType), Jvm.Cond.code ({ cls := "java/lang/String", name := "getBytes", desc := "([BIB)V" } : Jvm.MethodName) jdk_42_method_147_code (4 : Nat) (Option.none : Option Jvm.ClassFile.FieldType), Jvm.Cond.code ({ cls := "java/lang/StringBuilder", name := "append", desc := "(J)Ljava/lang/StringBuilder;" } : Jvm.MethodName) jdk_67_method_16_code (3 : Nat) (Option.some (Jvm.ClassFile.FieldType.object "java/lang/StringBuilder")), Jvm.Cond.code ({ cls := "java/lang/AbstractStringBuilder", name := "append", desc := "(J)Ljava/lang/AbstractStringBuilder;" } : Jvm.MethodName) jdk_68_method_33_code (5 : Nat) (Option.some (Jvm.ClassFile.FieldType.object "java/lang/AbstractStringBuilder")), Jvm.Cond.code ({ cls := "java/lang/Long", name := "stringSize", desc := "(J)I" } : Jvm.MethodName) jdk_35_method_15_code (6 : Nat) (Option.some Jvm.ClassFile.FieldType.int), Jvm.Cond.code ({ cls := "java/lang/AbstractStringBuilder", name := "isLatin1", desc := "()Z" } : Jvm.MethodName) jdk_68_method_68_code (1 : Nat) (Option.some Jvm.ClassFile.FieldType.boolean), Jvm.Cond.code ({ cls := "java/lang/Long", name := "getChars", desc := "(JI[B)I" } : Jvm.MethodName) jdk_35_method_14_code (11 : Nat) (Option.some Jvm.ClassFile.FieldType.int), Jvm.Cond.code ({ cls := "java/lang/AbstractStringBuilder", name := "newCapacity", desc := "(I)I" } : Jvm.MethodName) jdk_68_method_10_code (6 : Nat) (Option.some Jvm.ClassFile.FieldType.int), Jvm.Cond.code ({ cls := "jdk/internal/util/ArraysSupport", name := "newLength", desc := "(III)I" } : Jvm.MethodName) jdk_48_method_27_code (4 : Nat) (Option.some Jvm.ClassFile.FieldType.int), Jvm.Cond.code ({ cls := "java/lang/Math", name := "max", desc := "(II)I" } : Jvm.MethodName) jdk_29_method_65_code (2 : Nat) (Option.some Jvm.ClassFile.FieldType.int), Jvm.Cond.code ({ cls := "java/util/Arrays", name := "copyOf", desc := "([BI)[B" } : Jvm.MethodName) jdk_65_method_121_code (3 : Nat) (Option.some (Jvm.ClassFile.FieldType.array Jvm.ClassFile.FieldType.byte)), Jvm.Cond.code ({ cls := "java/lang/Math", name := "min", desc := "(II)I" } : Jvm.MethodName) jdk_29_method_69_code (2 : Nat) (Option.some Jvm.ClassFile.FieldType.int), Jvm.Cond.code ({ cls := "java/lang/StringBuilder", name := "toString", desc := "()Ljava/lang/String;" } : Jvm.MethodName) jdk_67_method_42_code (1 : Nat) (Option.some (Jvm.ClassFile.FieldType.object "java/lang/String")), Jvm.Cond.code ({ cls := "java/lang/String", name := "<init>", desc := "(Ljava/lang/StringBuilder;)V" } : Jvm.MethodName) jdk_42_method_53_code (2 : Nat) (Option.none : Option Jvm.ClassFile.FieldType), Jvm.Cond.code ({ cls := "java/lang/String", name := "<init>", desc := "(Ljava/lang/AbstractStringBuilder;Ljava/lang/Void;)V" } : Jvm.MethodName) jdk_42_method_150_code (5 : Nat) (Option.none : Option Jvm.ClassFile.FieldType), Jvm.Cond.code ({ cls := "java/lang/AbstractStringBuilder", name := "getValue", desc := "()[B" } : Jvm.MethodName) jdk_68_method_64_code (1 : Nat) (Option.some (Jvm.ClassFile.FieldType.array Jvm.ClassFile.FieldType.byte)), Jvm.Cond.code ({ cls := "java/lang/StringBuilder", name := "length", desc := "()I" } : Jvm.MethodName) jdk_67_method_93_code (1 : Nat) (Option.some Jvm.ClassFile.FieldType.int), Jvm.Cond.code ({ cls := "java/lang/AbstractStringBuilder", name := "length", desc := "()I" } : Jvm.MethodName) jdk_68_method_6_code (1 : Nat) (Option.some Jvm.ClassFile.FieldType.int), Jvm.Cond.code ({ cls := "java/util/Arrays", name := "copyOfRange", desc := "([BII)[B" } : Jvm.MethodName) jdk_65_method_132_code (3 : Nat) (Option.some (Jvm.ClassFile.FieldType.array Jvm.ClassFile.FieldType.byte)), Jvm.Cond.code ({ cls := "java/util/Arrays", name := "copyOfRangeByte", desc := "([BII)[B" } : Jvm.MethodName) jdk_65_method_133_code (5 : Nat) (Option.some (Jvm.ClassFile.FieldType.array Jvm.ClassFile.FieldType.byte)), Jvm.Cond.code ({ cls := "java/util/Arrays", name := "checkLength", desc := "(II)V" } : Jvm.MethodName) jdk_65_method_131_code (2 : Nat) (Option.none : Option Jvm.ClassFile.FieldType), Jvm.Cond.code ({ cls := "java/lang/String", name := "charAt", desc := "(I)C" } : Jvm.MethodName) jdk_42_method_56_code (2 : Nat) (Option.some Jvm.ClassFile.FieldType.char), Jvm.Cond.code ({ cls := "java/lang/String", name := "isLatin1", desc := "()Z" } : Jvm.MethodName) jdk_42_method_154_code (1 : Nat) (Option.some Jvm.ClassFile.FieldType.boolean), Jvm.Cond.code ({ cls := "java/lang/StringLatin1", name := "charAt", desc := "([BI)C" } : Jvm.MethodName) jdk_43_method_2_code (2 : Nat) (Option.some Jvm.ClassFile.FieldType.char), Jvm.Cond.code ({ cls := "java/lang/String", name := "checkIndex", desc := "(II)V" } : Jvm.MethodName) jdk_42_method_155_code (2 : Nat) (Option.none : Option Jvm.ClassFile.FieldType), Jvm.Cond.code ({ cls := "jdk/internal/util/Preconditions", name := "checkIndex", desc := "(IILjava/util/function/BiFunction;)I" } : Jvm.MethodName) jdk_41_method_11_code (3 : Nat) (Option.some Jvm.ClassFile.FieldType.int)]
set_option maxRecDepth 65536 in
theorem codes_eq : words1.filter isCode = codes1 := rfl
theorem w_codes : ∀ c ∈ words1.filter isCode, c.before args0 about1 = true := by
  rw [codes_eq]
  intro c hc
  simp only [codes1, List.mem_cons, List.not_mem_nil, or_false] at hc
  rcases hc with rfl | rfl | rfl | rfl | rfl | rfl | rfl | rfl | rfl | rfl | rfl | rfl | rfl | rfl | rfl | rfl | rfl | rfl | rfl | rfl | rfl | rfl | rfl | rfl | rfl | rfl | rfl | rfl | rfl | rfl | rfl | rfl | rfl | rfl | rfl | rfl | rfl | rfl | rfl | rfl | rfl
  · exact w_c0
  · exact w_c1
  · exact w_c2
  · exact w_c3
  · exact w_c4
  · exact w_c5
  · exact w_c6
  · exact w_c7
  · exact w_c8
  · exact w_c9
  · exact w_c10
  · exact w_c11
  · exact w_c12
  · exact w_c13
  · exact w_c14
  · exact w_c15
  · exact w_c16
  · exact w_c17
  · exact w_c18
  · exact w_c19
  · exact w_c20
  · exact w_c21
  · exact w_c22
  · exact w_c23
  · exact w_c24
  · exact w_c25
  · exact w_c26
  · exact w_c27
  · exact w_c28
  · exact w_c29
  · exact w_c30
  · exact w_c31
  · exact w_c32
  · exact w_c33
  · exact w_c34
  · exact w_c35
  · exact w_c36
  · exact w_c37
  · exact w_c38
  · exact w_c39
  · exact w_c40
set_option maxRecDepth 65536 in
theorem w_t1 : (words1.take 24).all (fun c => isCode c || c.before args0 about1) = true := by decide +kernel
set_option maxRecDepth 65536 in
theorem w_t2 : ((words1.drop 24).take 24).all (fun c => isCode c || c.before args0 about1) = true := by decide +kernel
set_option maxRecDepth 65536 in
theorem w_t3 : (((words1.drop 24).drop 24).take 24).all (fun c => isCode c || c.before args0 about1) = true := by decide +kernel
set_option maxRecDepth 65536 in
theorem w_t4 : ((((words1.drop 24).drop 24).drop 24).take 24).all (fun c => isCode c || c.before args0 about1) = true := by decide +kernel
set_option maxRecDepth 65536 in
theorem w_t5 : (((((words1.drop 24).drop 24).drop 24).drop 24).take 24).all (fun c => isCode c || c.before args0 about1) = true := by decide +kernel
set_option maxRecDepth 65536 in
theorem w_t6 : ((((((words1.drop 24).drop 24).drop 24).drop 24).drop 24).take 24).all (fun c => isCode c || c.before args0 about1) = true := by decide +kernel
set_option maxRecDepth 65536 in
theorem w_t7 : (((((((words1.drop 24).drop 24).drop 24).drop 24).drop 24).drop 24).take 24).all (fun c => isCode c || c.before args0 about1) = true := by decide +kernel
set_option maxRecDepth 65536 in
theorem w_t8 : ((((((((words1.drop 24).drop 24).drop 24).drop 24).drop 24).drop 24).drop 24).take 24).all (fun c => isCode c || c.before args0 about1) = true := by decide +kernel
set_option maxRecDepth 65536 in
theorem w_t9 : (((((((((words1.drop 24).drop 24).drop 24).drop 24).drop 24).drop 24).drop 24).drop 24).take 24).all (fun c => isCode c || c.before args0 about1) = true := by decide +kernel
set_option maxRecDepth 65536 in
theorem w_t10 : (((((((((words1.drop 24).drop 24).drop 24).drop 24).drop 24).drop 24).drop 24).drop 24).drop 24).all (fun c => isCode c || c.before args0 about1) = true := by decide +kernel
theorem w_tables : (allAtoms (Jvm.Cond.code x code maxLocals ret :: tables_1)).before args0 about1 = true := by
  rw [allAtoms_all]
  show words1.all (fun c => c.before args0 about1) = true
  refine all_split ?_ w_codes
  rw [← List.take_append_drop 24 words1, List.all_append, w_t1, ← List.take_append_drop 24 (words1.drop 24), List.all_append, w_t2, ← List.take_append_drop 24 ((words1.drop 24).drop 24), List.all_append, w_t3, ← List.take_append_drop 24 (((words1.drop 24).drop 24).drop 24), List.all_append, w_t4, ← List.take_append_drop 24 ((((words1.drop 24).drop 24).drop 24).drop 24), List.all_append, w_t5, ← List.take_append_drop 24 (((((words1.drop 24).drop 24).drop 24).drop 24).drop 24), List.all_append, w_t6, ← List.take_append_drop 24 ((((((words1.drop 24).drop 24).drop 24).drop 24).drop 24).drop 24), List.all_append, w_t7, ← List.take_append_drop 24 (((((((words1.drop 24).drop 24).drop 24).drop 24).drop 24).drop 24).drop 24), List.all_append, w_t8, ← List.take_append_drop 24 ((((((((words1.drop 24).drop 24).drop 24).drop 24).drop 24).drop 24).drop 24).drop 24), List.all_append, w_t9, w_t10]
  rfl
set_option maxRecDepth 65536 in
theorem w_rest : rest_1_c.before args0 about1 = true := by decide +kernel
set_option maxRecDepth 65536 in
theorem w_case : (Jvm.Cond.and given_1 narrow_1).before args0 about1 = true := by decide +kernel
set_option maxRecDepth 65536 in
theorem w_consts : constsHeld consts_1 about1 := Jvm.Lit.constsHeldB_iff.mp (by decide +kernel)
theorem w_applies : (headSpec (Jvm.Cond.code x code maxLocals ret :: tables_1) room_1).applies x e0.platform about1 = true :=
  (Spec.applies_iff w_frames).mpr ⟨w_running, w_runnable, w_alone, w_named, w_hears, w_ripe, w_room, w_tables⟩
theorem atStart : AtStart classFile x code maxLocals ret World_1 tables_1 room_1 Calls_1 rest_1 Pre_1 launch0 p0 e0 about1 theMethod args0 below0 :=
  ⟨lists_1, trivial, launch0.admits_env _ _ _, launch0.least_env, fairChoices_fair.cas, fairChoices_fair.clock, w_frames, w_args, w_heap, w_applies, ⟨w_consts, trivial⟩, w_rest, w_case⟩
end start1
theorem witness_1 : WitnessClaimed_1 := ⟨start1.p0, start1.e0, start1.about1, start1.theMethod, start1.args0, start1.below0, start1.atStart⟩
end Jvm.Pilot.@@N@@
