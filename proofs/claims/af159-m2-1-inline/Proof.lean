import JvmDerived
import JvmDerived.Pilot.@@N@@Statement
import JvmDerived.Pilot.@@N@@Code
set_option linter.unusedVariables false
set_option linter.unusedSimpArgs false
namespace Jvm.Pilot.@@N@@
open Jvm Jvm.ClassFile Sem Op Lib Jvm.Free Jvm.Stand Jvm.LawKit Jvm.RoadKit Bundle Jvm.Pilot.@@N@@.Jvm.D
section Own
variable {p : Program} {l : Launch} {e : Env} {R : Room} {s : State} {m : MethodId} {args : Array Value} {below : List Frame} {meth : Method} {c : Code} {T : State} {locs : List Loc} {cells slots : Nat}
def Ends (p : Program) (e : Env) (below : List Frame) (Q : Outcome → State → Prop) (S : State) : Prop := ∃ s₂ o, Steps p.tables e below S s₂ ∧ s₂.status = .running ∧ Ended s₂ below o ∧ Q o s₂
theorem Ends.opn {Q : Outcome → State → Prop} {S : State} (h : ∀ QQ : Outcome → State → Prop, (∀ o t, Q o t → QQ o t) → Ends p e below QQ S) : ∃ s₂ o, Steps p.tables e below S s₂ ∧ s₂.status = .running ∧ Ended s₂ below o ∧ Q o s₂ := h Q fun _ _ q => q
theorem Ends.step {Q : Outcome → State → Prop} {S S' : State} (k : ∀ t, Steps p.tables e below S' t → Steps p.tables e below S t) (h : Ends p e below Q S') : Ends p e below Q S := by
  obtain ⟨a, o, h1, h2⟩ := h
  exact ⟨a, o, k _ h1, h2⟩
theorem Ends.fin {QQ : Outcome → State → Prop} {Q : Option Value → Heap → List Loc → Prop} {cl sl : Nat} {g : JFrame} {h : Heap} (v : Option Value) (X : Stand p l e R s m args below meth c T locs cells slots)
    (hQQ : ∀ o t, (∃ v L, o = .returned v ∧ Q v t.heap L ∧ FrameEnd s o t L cl sl) → QQ o t) (hv : meth.sig.returnType = none → v = none) (hlocks : meth.locks = false)
    (hstep : ∀ fs, (∀ (f : JFrame) (acts : List Action), f.method = m → f.locked = none → f.entered = [] → (doReturn e (T.setTop f) acts v).1 = T.setFrames fs) → Steps p.tables e below (T.setTop g) (T.setFrames fs))
    (eT : T.heap = h) (hc : cells ≤ cl) (hs : slots ≤ sl) (q : Q v h locs) : Ends p e below QQ (T.setTop g) := by
  obtain ⟨fs, hr, hrun, hended, hW, hsame⟩ := X.leave hv hlocks
  subst eT
  exact ⟨_, _, hstep fs hr, hrun, hended, hQQ _ _ ⟨v, locs, rfl, q, ⟨_, rfl⟩, hW, hsame.mono hc hs⟩⟩
theorem Ends.finW {QQ : Outcome → State → Prop} {Q : Option Value → Heap → List Loc → Prop} {cl sl : Nat} {g : JFrame} {h : Heap} {vm0 : Vm} {n : Nat} (v : Option Value) (X : Stand p l e R (s.setVm vm0) m args below meth c T locs cells slots) (hS : s.Since vm0 n) (hn : n ≤ h.size)
    (hQQ : ∀ o t, (∃ v L, o = .returned v ∧ Q v t.heap L ∧ ReturnedEndW s o t L cl sl) → QQ o t) (hv : meth.sig.returnType = none → v = none) (hlocks : meth.locks = false)
    (hstep : ∀ fs, (∀ (f : JFrame) (acts : List Action), f.method = m → f.locked = none → f.entered = [] → (doReturn e (T.setTop f) acts v).1 = T.setFrames fs) → Steps p.tables e below (T.setTop g) (T.setFrames fs))
    (eT : T.heap = h) (hc : cells ≤ cl) (hs : slots ≤ sl) (q : Q v h locs) : Ends p e below QQ (T.setTop g) := by
  subst eT
  obtain ⟨fs, hr, hrun, hended, hW⟩ := X.leaveW hS hn hv hlocks
  exact ⟨_, _, hstep fs hr, hrun, hended, hQQ _ _ ⟨v, locs, rfl, q, hW.1, hW.2.1, hW.2.2.1, hW.2.2.2.mono hc hs⟩⟩
theorem Ends.finI {QQ : Outcome → State → Prop} {Q : Option Value → Heap → List Loc → Prop} {cl sl : Nat} {g : JFrame} {h : Heap} {vm0 : Vm} {n : Nat} {Z : State} {Ts : List String} (v : Option Value) (X : Stand p l e R (s.setVm vm0) m args below meth c T locs cells slots) (hS : s.Since vm0 n) (hn : n ≤ h.size)
    (hQQ : ∀ o t, (∃ v L, o = .returned v ∧ Q v t.heap L ∧ ReturnedEndW s o t L cl sl ∧ IB Z t.vm Ts) → QQ o t) (hv : meth.sig.returnType = none → v = none) (hlocks : meth.locks = false)
    (hstep : ∀ fs, (∀ (f : JFrame) (acts : List Action), f.method = m → f.locked = none → f.entered = [] → (doReturn e (T.setTop f) acts v).1 = T.setFrames fs) → Steps p.tables e below (T.setTop g) (T.setFrames fs))
    (eT : T.heap = h) (hc : cells ≤ cl) (hs : slots ≤ sl) (q : Q v h locs) (I : IB Z T.vm Ts) : Ends p e below QQ (T.setTop g) := by
  subst eT
  obtain ⟨fs, hr, hrun, hended, hW⟩ := X.leaveW hS hn hv hlocks
  exact ⟨_, _, hstep fs hr, hrun, hended, hQQ _ _ ⟨v, locs, rfl, q, ⟨hW.1, hW.2.1, hW.2.2.1, hW.2.2.2.mono hc hs⟩, I⟩⟩
theorem own_cp0 (X : Stand p l e R s m args below meth c T locs cells slots) (hx : p.tables.exec = Jvm.exec) {Z : State} (hZ : Z.Warmed39 s.vm) {a0 : Array Value} {own : String} {index : Nat} (hown : s.vm.findClass own = some m.cls)
    (w1 : (Jvm.Cond.methodLink own index Jvm.Stand.acN).before a0 Z = true) (w2 : (Jvm.Cond.native Jvm.Stand.acN).before a0 Z = true) (w3 : (Jvm.Cond.static Jvm.Stand.acN).before a0 Z = true) (w4 : (Jvm.Cond.initialized "java/lang/System").before a0 Z = true) {h : Heap} (eT : T.heap = h)
    {a b : Addr} {k k' : ClassId} {ty : FieldType} {z z' sp dp : Int32} {vs vd : List Value} {dv dd : Value} (A : Arv Z h a k ty z vs dv) (B : Arv Z h b k' ty z' vd dd) (h1 : sp = 0) (h2 : dp = 0)
    {g : JFrame} (hg : g.method = m) (hsize : g.locals.size = c.maxLocals) {rest : List Value} (hs : g.stack = .int 0 :: .int dp :: .ref b :: .int sp :: .ref a :: rest) (hd : decode c.code g.pc = .ok (.invokestatic index, 3))
    (hf : 1 ≤ R.frames) {W : Nat} (hW : 2 * g.monitorRoom + (rest.map fun v => v.category).sum ≤ W) (hlo : W + (nativeFrameWords "java/lang/System" "arraycopy" 5 + 11) ≤ R.locals) :
    ∃ T', Stand p l e R s m args below meth c T' locs cells slots ∧ T'.heap = h ∧ ∀ target, Steps p.tables e below (T'.setTop { g with pc := g.pc + 3, stack := rest }) target → Steps p.tables e below (T.setTop g) target := by
  subst h1 h2 eT
  obtain ⟨cs, As, -, Ss, -, Hs, Gs⟩ := A
  obtain ⟨cd, Ad, qd, Sd, Nd, Hd, Gd⟩ := B
  obtain ⟨os, ks, hks, sc, hsk⟩ := State.isArrayOf_alike hZ.alike As.2.1
  obtain ⟨od, kd, hkd, dc, hdk⟩ := State.isArrayOf_alike hZ.alike Ad.2.1
  obtain ⟨vm₁, hW₁, X', st⟩ := X.arraycopyK hx hown (mvT hZ w1) (mvT hZ w2) (mvT hZ w3) (mvT hZ w4) As.1 Ad.1 os od As.2.2 Ad.2.2 hks hkd hsk hdk (by cases refKind ty <;> simp) (by decide) (by decide) (by decide)
    (by show ¬ ((0 : Int) + 0 > _); omega) (by show ¬ ((0 : Int) + 0 > _); omega) (fun vm₁ hw i hi => absurd hi (by show ¬ i < 0; omega)) hg hsize hs hd hf (Nat.le_trans (Nat.add_le_add_right hW _) hlo)
  have hL : locs ++ copyLocs b (0 : Int32).toNatClampNeg (0 : Int32).toNatClampNeg = locs := by simp [copyLocs]
  rw [hL] at X'
  refine ⟨_, X', ?_, st⟩
  have hc : copied cs cd (0 : Int32) (0 : Int32) (0 : Int32) = cd := rfl
  show T.heap.setIfInBounds b (copied cs cd (0 : Int32) (0 : Int32) (0 : Int32)) = T.heap
  rw [hc]
  apply Array.ext_getElem?
  intro i
  by_cases q : b = i
  · subst q
    rw [Array.getElem?_setIfInBounds_self_of_lt (Array.getElem?_eq_some_iff.mp Ad.1).1, Ad.1]
  · rw [Array.getElem?_setIfInBounds_ne q]
theorem own_arv_cell {Z : State} {h : Heap} {a : Addr} {k : ClassId} {ty : FieldType} {z : Int32} {vs : List Value} {dv : Value} (F : Arv Z h a k ty z vs dv) : ∃ c : Cell, h[a]? = some c ∧ ∀ q, c.vm ≠ .statics q := by
  obtain ⟨c, A, -⟩ := F
  exact ⟨c, A.1, fun q e => by have := A.plain; rw [e] at this; cases this⟩
theorem own_same {Z : State} {a0 : Array Value} {y x : MethodName} {K : String} (w3 : (Jvm.Cond.instanceMethod y).before a0 Z = true) (hy : y.cls ≠ "java/lang/invoke/MethodHandle" ∧ y.cls ≠ "java/lang/invoke/VarHandle") (hsel : (Jvm.Cond.selects K x x).before a0 Z = true) (hc : x.cls = y.cls) : (Jvm.Cond.sameMethod y.cls y.cls y.name y.desc).before a0 Z = true := by
  obtain ⟨mk, methM, hn, hm, -, -⟩ := Cond.instanceMethod_spec w3
  have hf := State.methodFound?_of_named hn hy
  have h1 := findClass_of_methodNamed hn
  obtain ⟨c2, r2, m2, q1, q2, q3, q4, kP, hkP, hkPi⟩ := Cond.selects_spec hsel
  have h2 := findClass_of_methodNamed q3
  rw [hc] at h2
  have e := Option.some.inj (h1.symm.trans h2)
  rw [← e] at hkP
  simp [Cond.before, Cond.holds, Cond.value, h1, hf, hn, hkP, hkPi]
theorem own_decl {Z : State} {a0 : Array Value} {y : MethodName} {bytes : ByteArray} {maxL : Nat} {ret : Option FieldType} (w3 : (Jvm.Cond.instanceMethod y).before a0 Z = true) (wc : (Jvm.Cond.code y bytes maxL ret).before a0 Z = true) : (Jvm.Cond.declares y).before a0 Z = true := by
  obtain ⟨mk, methM, hn, hm, hs, -⟩ := Cond.instanceMethod_spec w3
  obtain ⟨m2, cM, q1, -, -, -, -, -, -, hsig⟩ := Cond.code_spec hn wc
  cases hm.symm.trans q1
  simp [Cond.before, Cond.holds, Cond.value, hn, hm, hs, hsig]
theorem own_selp {Z : State} {a0 : Array Value} {y : MethodName} {n : Nat} (w1 : (Jvm.Cond.instantiable y.cls n).before a0 Z = true) (w2 : (Jvm.Cond.privateMethod y).before a0 Z = true) (w3 : (Jvm.Cond.instanceMethod y).before a0 Z = true) (hy : y.cls ≠ "java/lang/invoke/MethodHandle" ∧ y.cls ≠ "java/lang/invoke/VarHandle") : (Jvm.Cond.selects y.cls y y).before a0 Z = true := by
  obtain ⟨c1, k1, hc1, hk1, -, hb1, -, -⟩ := Cond.instantiable_spec w1
  exact selects_self_of_private hc1 hk1 (by simp at hb1; exact hb1.1) (Cond.privateMethod_at w2) w3 hy
theorem own_selq {Z : State} {a0 : Array Value} {y x : MethodName} {K : String} (hsel : (Jvm.Cond.selects K x x).before a0 Z = true) (hc : x.cls = y.cls) (w2 : (Jvm.Cond.privateMethod y).before a0 Z = true) (w3 : (Jvm.Cond.instanceMethod y).before a0 Z = true) (hy : y.cls ≠ "java/lang/invoke/MethodHandle" ∧ y.cls ≠ "java/lang/invoke/VarHandle") : (Jvm.Cond.selects y.cls y y).before a0 Z = true := by
  obtain ⟨c2, r2, m2, q1, q2, q3, q4, kP, hkP, hkPi⟩ := Cond.selects_spec hsel
  have h2 := findClass_of_methodNamed q3
  rw [hc] at h2
  exact selects_self_of_private h2 hkP hkPi (Cond.privateMethod_at w2) w3 hy
theorem own_notface {args : Array Value} {s : State} {C : String} {x y : MethodName} (hsel : (Cond.selects C x x).before args s = true) (hc : x.cls = y.cls) : NotFace s y := fun r0 h0 => by
  obtain ⟨c2, r2, m2, q1, q2, q3, q4, kP, hkP, hkPi⟩ := Cond.selects_spec hsel
  have h1 := findClass_of_methodNamed h0
  have h2 := findClass_of_methodNamed q3
  rw [hc] at h2
  have e := Option.some.inj (h1.symm.trans h2)
  exact ⟨kP, by rw [e]; exact hkP, hkPi⟩
theorem own_ibAt {Z : State} {vm0 vm1 : Vm} {Ts : List String} (I : IB Z vm0 Ts) (q : vm1.interned = vm0.interned) : IB Z vm1 Ts := by
  obtain ⟨more, e1, hm⟩ := I
  exact ⟨more, q.trans e1, hm⟩
theorem own_backI {Z : State} {a0 : Array Value} {h : Heap} {y : MethodName} {bytes : ByteArray} {maxL : Nat} {ret : Option FieldType} {rm : Room} {len W : Nat} {as' : Array Value} {Q : Option Value → Heap → List Loc → Prop}
    (hM : MetFree l y (head1 [Cond.code y bytes maxL ret] rm) (fun a U => a = as' ∧ Z.Warmed39 U.vm ∧ U.heap = h ∧ IB Z U.vm []) (fun _ _ _ _ _ => True) (fun _ U o U' => ∃ v L, o = .returned v ∧ Q v U'.heap L ∧ ReturnedEndW U o U' L rm.cells rm.slots))
    (hZ : Z.Warmed39 s.vm) (wc : (Cond.code y bytes maxL ret).before a0 Z = true) (wz : (Cond.initialized y.cls).before a0 Z = true) (hf : rm.frames + 1 ≤ R.frames) (hl : W + (maxL + 11) + rm.locals ≤ R.locals) (hI : IB Z s.vm []) :
    BackS l R p e below s args y len W (fun A a => a = as' ∧ A.U.heap = h ∧ A.cells + rm.cells ≤ R.cells ∧ A.slots + rm.slots ≤ R.slots)
      (fun A _ v B => ∃ L, Q v B.U.heap L ∧ B.locs = A.locs ++ L ∧ B.cells = A.cells + rm.cells ∧ B.slots = A.slots + rm.slots) :=
  BackS.of_freeW (bytes := bytes) (maxL := maxL) (ret := ret) (E := fun _ _ o t L k n => k = rm.cells ∧ n = rm.slots ∧ ∃ v, o = .returned v ∧ Q v t.heap L) hM hf hl
    (fun m meth c A a Y hp => ⟨by show (Cond.and _ .tt).before a A.U = true; rw [Cond.before_and, mv (wtrans hZ Y.warmed) wc]; rfl, mv (wtrans hZ Y.warmed) wc, mv (wtrans hZ Y.warmed) wz, hp.2.2.1, hp.2.2.2⟩)
    (fun m meth c A a g mk Y hp => ⟨hp.1, wtrans hZ Y.warmed, hp.2.1, own_ibAt hI Y.warmed.interned_eq⟩) (fun _ _ _ _ _ _ _ _ _ => trivial)
    (fun _ _ _ _ z => by obtain ⟨v, L, h1, h2, h3⟩ := z; exact ⟨L, _, _, h3, rfl, rfl, v, h1, h2⟩)
    (fun m meth c A a g mk v t L k n Y hp _ _ z => by obtain ⟨e1, e2, v', e3, e4⟩ := z; cases e3; subst e1 e2; exact ⟨L, e4, rfl, rfl, rfl⟩)
theorem own_backJ {Z : State} {a0 : Array Value} {h : Heap} {y : MethodName} {bytes : ByteArray} {maxL : Nat} {ret : Option FieldType} {rm : Room} {len W : Nat} {as' : Array Value} {Q : Option Value → Heap → List Loc → Prop} {Ts : List String}
    (hM : MetFree l y (head1 [Cond.code y bytes maxL ret] rm) (fun a U => a = as' ∧ Z.Warmed39 U.vm ∧ U.heap = h ∧ IB Z U.vm []) (fun _ _ _ _ _ => True) (fun _ U o U' => ∃ v L, o = .returned v ∧ Q v U'.heap L ∧ ReturnedEndW U o U' L rm.cells rm.slots ∧ IB Z U'.vm Ts))
    (hZ : Z.Warmed39 s.vm) (wc : (Cond.code y bytes maxL ret).before a0 Z = true) (wz : (Cond.initialized y.cls).before a0 Z = true) (hf : rm.frames + 1 ≤ R.frames) (hl : W + (maxL + 11) + rm.locals ≤ R.locals) (hI : IB Z s.vm []) :
    BackS l R p e below s args y len W (fun A a => a = as' ∧ A.U.heap = h ∧ A.cells + rm.cells ≤ R.cells ∧ A.slots + rm.slots ≤ R.slots)
      (fun A _ v B => ∃ L, Q v B.U.heap L ∧ B.locs = A.locs ++ L ∧ B.cells = A.cells + rm.cells ∧ B.slots = A.slots + rm.slots ∧ IB Z B.U.vm Ts) :=
  BackS.of_freeW (bytes := bytes) (maxL := maxL) (ret := ret) (E := fun _ _ o t L k n => k = rm.cells ∧ n = rm.slots ∧ ∃ v, o = .returned v ∧ Q v t.heap L ∧ IB Z t.vm Ts) hM hf hl
    (fun m meth c A a Y hp => ⟨by show (Cond.and _ .tt).before a A.U = true; rw [Cond.before_and, mv (wtrans hZ Y.warmed) wc]; rfl, mv (wtrans hZ Y.warmed) wc, mv (wtrans hZ Y.warmed) wz, hp.2.2.1, hp.2.2.2⟩)
    (fun m meth c A a g mk Y hp => ⟨hp.1, wtrans hZ Y.warmed, hp.2.1, own_ibAt hI Y.warmed.interned_eq⟩) (fun _ _ _ _ _ _ _ _ _ => trivial)
    (fun _ _ _ _ z => by obtain ⟨v, L, h1, h2, h3, h4⟩ := z; exact ⟨L, _, _, h3, rfl, rfl, v, h1, h2, h4⟩)
    (fun m meth c A a g mk v t L k n Y hp _ _ z => by obtain ⟨e1, e2, v', e3, e4, e5⟩ := z; cases e3; subst e1 e2; exact ⟨L, e4, rfl, rfl, rfl, e5⟩)
theorem own_frm {k k' : Nat} {L : List Loc} (h : k' ≤ k) (N : Fr k L) : Fr k' L := fun y q => Nat.le_trans h (N y q)
theorem own_kpw {Z : State} {h h' : Heap} {a : Addr} {sl n0 : Nat} {v : Value} (W : Wr h h' a sl v) (N : ∀ (b : Addr) (cl : Cell), Z.heap[b]? = some cl → h[b]? = some cl) (g : n0 ≤ a) (e : n0 = Z.heap.size) : ∀ (b : Addr) (cl : Cell), Z.heap[b]? = some cl → h'[b]? = some cl := fun b cl q => by
  have hb : b < Z.heap.size := (Array.getElem?_eq_some_iff.mp q).1
  obtain ⟨c', q1, -, -, -, q5, -, -⟩ := wr_at W (N b cl q)
  rw [e] at g
  rw [q1, q5 (Nat.ne_of_lt (Nat.lt_of_lt_of_le hb g))]
theorem own_kpk {Z : State} {h h' : Heap} {ws : List Addr} {n0 : Nat} (K : Keep h h' ws) (N : ∀ (b : Addr) (cl : Cell), Z.heap[b]? = some cl → h[b]? = some cl) (g : ∀ x ∈ ws, n0 ≤ x) (e : n0 = Z.heap.size) : ∀ (b : Addr) (cl : Cell), Z.heap[b]? = some cl → h'[b]? = some cl := fun b cl q => by
  have hb : b < Z.heap.size := (Array.getElem?_eq_some_iff.mp q).1
  exact K.2.1 _ _ (N b cl q) fun hm => Nat.lt_irrefl _ (Nat.lt_of_lt_of_le hb (e ▸ g _ hm))
theorem own_neA {Z : State} {h : Heap} {a b : Addr} {k k' : ClassId} {ty ty' : FieldType} {n n' : Int32} {vs vs' : List Value} {d d' : Value} (A : Arv Z h a k ty n vs d) (B : Arv Z h b k' ty' n' vs' d') (hne : n.toNatClampNeg ≠ n'.toNatClampNeg) : a ≠ b := by
  rintro rfl
  obtain ⟨c1, A1, -, s1, -⟩ := A
  obtain ⟨c2, B1, -, s2, -⟩ := B
  cases A1.1.symm.trans B1.1
  exact hne (s1.symm.trans s2)
theorem own_neEA {Z : State} {a0 : Array Value} {h : Heap} {a b : Addr} {C : String} {q : Nat} {k : ClassId} {ty : FieldType} {n : Int32} {vs : List Value} {d : Value} (E : Exa Z h a C) (wi : (Cond.instantiable C q).before a0 Z = true) (B : Arv Z h b k ty n vs d) (hne : q ≠ n.toNatClampNeg) : a ≠ b := by
  rintro rfl
  obtain ⟨cell, kc, h1, h2, h3, h4, h5⟩ := E
  obtain ⟨c2, B1, -, s2, -⟩ := B
  cases h1.symm.trans B1.1
  obtain ⟨c4, k2, i1, i2, i3, -, -, i4⟩ := Cond.instantiable_spec wi
  cases h2.symm.trans i1
  cases h3.symm.trans i2
  exact hne (i4.symm.trans ((h5 i3).symm.trans s2))
theorem own_neE {Z : State} {h : Heap} {a b : Addr} {C C' : String} (E : Exa Z h a C) (E' : Exa Z h b C') (hne : C ≠ C') : a ≠ b := by
  rintro rfl
  obtain ⟨cell, kc, h1, h2, h3, h4, h5⟩ := E
  obtain ⟨cell', kc', g1, g2, g3, g4, g5⟩ := E'
  cases h1.symm.trans g1
  obtain ⟨k1, u1, u2⟩ := Vm.findClass_spec h2
  obtain ⟨k2, v1, v2⟩ := Vm.findClass_spec g2
  cases u1.symm.trans v1
  exact hne (u2.symm.trans v2)
theorem own_narBy {x : Int32} (h : nar .byte x = x) : narrow .byte (.int x) = .int x := congrArg Value.int h
theorem own_iteN {c : Prop} [Decidable c] {a b : Int32} {t : FieldType} (ha : nar t a = a) (hb : nar t b = b) : nar t (if c then a else b) = if c then a else b := by
  split <;> assumption
theorem own_01 {c : Prop} [Decidable c] {a b : Int32} (ha : a = 0 ∨ a = 1) (hb : b = 0 ∨ b = 1) : (if c then a else b) = 0 ∨ (if c then a else b) = 1 := by
  split <;> assumption
theorem own_narB {x : Int32} (h : x = 0 ∨ x = 1) : narrow .boolean (.int x) = .int x := by rcases h with rfl | rfl <;> rfl
theorem own_narref {v : Value} {t : FieldType} (h : v.isRef = true) (ht : t.isReference = true) : narrow t v = v := by
  cases t <;> first | (cases ht; done) | (cases v <;> first | rfl | cases h)
theorem own_fitref {v : Value} {t : FieldType} (h : v.isRef = true) (ht : t.isReference = true) : fits t v = true := by
  cases t <;> first | (cases ht; done) | (cases v <;> first | rfl | cases h)
theorem own_nar255 (b : Int32) : narrow .char (.int (b &&& (255 : Int32))) = .int (b &&& (255 : Int32)) := by
  have h := XT.narrow_c (b &&& 255)
  rw [i2c_mask] at h
  exact h
theorem own_narc (x : Int32) : nar .char x.toUInt32.toUInt16.toUInt32.toInt32 = x.toUInt32.toUInt16.toUInt32.toInt32 := by
  apply Int32.toInt_inj.mp
  show x.toUInt32.toUInt16.toUInt32.toInt32.toUInt32.toUInt16.toUInt32.toInt32.toInt = _
  have h1 := c_i2c x
  have h2 := c_i2c x.toUInt32.toUInt16.toUInt32.toInt32
  omega
theorem own_fitc {v : Int32} (h : nar .char v = v) : fits .char (.int v) = true := by
  have q := fits_nar_char v
  rw [h] at q
  exact q
theorem own_narb (x : Int32) : nar .byte x.toInt8.toInt32 = x.toInt8.toInt32 := by simp [nar]
theorem own_ins_keep {Z : State} {h h' : Heap} {a : Addr} {C : String} {b : Bool} {ws : List Addr} (F : Ins Z h a C b) (K : Keep h h' ws) : Ins Z h' a C b := by
  obtain ⟨cell, cT, h1, h2, h3⟩ := F
  obtain ⟨c', q1, q2, q3, -⟩ := K.2.2 _ _ h1
  exact ⟨c', cT, q1, h2, by rw [q2, q3]; exact h3⟩
theorem own_sta_keep {Z : State} {h h' : Heap} {C n d : String} {v : Value} {ws : List Addr} (F : Sta Z h C n d v) (K : Keep h h' ws) (q : ∀ x ∈ ws, ∃ c : Cell, h[x]? = some c ∧ ∀ q, c.vm ≠ .statics q) : Sta Z h' C n d v := by
  obtain ⟨cf, i, k, f, st, cell, h1, h2, h3, h4, h5, h6, h7⟩ := F
  refine ⟨cf, i, k, f, st, cell, h1, h2, h3, h4, K.2.1 _ _ h5 fun hm => ?_, h6, h7⟩
  obtain ⟨c, q1, q2⟩ := q _ hm
  cases h5.symm.trans q1
  cases hq : cell.vm <;> first | exact q2 _ hq | (rw [hq] at h6; cases h6)
theorem lremM {g : JFrame} {target : State} (X : Stand p l e R s m args below meth c T locs cells slots) (hx : p.tables.exec = Jvm.exec) (hg : g.method = m) {x y : Int64} {rest : List Value} (hd : decode c.code g.pc = .ok (.lrem, 1)) (hs : g.stack = .long y :: .long x :: rest) (hy : y ≠ 0)
    (hr : Steps p.tables e below (T.setTop { g with pc := g.pc + 1, stack := .long (x % y) :: rest }) target) : Steps p.tables e below (T.setTop g) target := by
  have q : x - x / y * y = x % y := lrem_mod x y
  exact XT.lrem X.here hx hg hd hs hy (by rw [q]; exact hr)
end Own
section Ops
variable {p : Program} {l : Launch} {e : Env} {R : Room} {s : State} {m : MethodId} {args : Array Value} {below : List Frame} {meth : Method} {c : Code} {T T' : State} {locs : List Loc} {cells slots : Nat} {Q : Outcome → State → Prop} {code : ByteArray} {pc : Nat} {L : Array Slot} {st S : List Value}
abbrev jv (x : Int64) : Slot := .val (.long x)
abbrev uu : Slot := .unset
abbrev ss : Slot := .second
theorem oA (X : Stand p l e R s m args below meth c T locs cells slots) (hy : p.tables.exec = Jvm.exec ∧ c.code = code) {k : Fin 4} {a : Addr} (d : decode code pc = .ok (.aload_n k, 1)) (pc' : Nat) (hl : L[k.val]? = some (.val (.ref a))) (h : Ends p e below Q (T.setTop (mkF m pc' L (.ref a :: st)))) (hp : pc + 1 = pc' := by exact rfl) : Ends p e below Q (T.setTop (mkF m pc L (st))) := by
  subst hp
  exact Ends.step (fun _ kk => XS.aloadN X.here hy.1 rfl (hb hy.2 d) hl rfl kk) h
theorem oB (X : Stand p l e R s m args below meth c T locs cells slots) (hy : p.tables.exec = Jvm.exec ∧ c.code = code) {k : Nat} {a : Addr} (d : decode code pc = .ok (.aload k, 2)) (pc' : Nat) (hl : L[k]? = some (.val (.ref a))) (h : Ends p e below Q (T.setTop (mkF m pc' L (.ref a :: st)))) (hp : pc + 2 = pc' := by exact rfl) : Ends p e below Q (T.setTop (mkF m pc L (st))) := by
  subst hp
  exact Ends.step (fun _ kk => XS.aload X.here hy.1 rfl (hb hy.2 d) hl rfl kk) h
theorem oC (X : Stand p l e R s m args below meth c T locs cells slots) (hy : p.tables.exec = Jvm.exec ∧ c.code = code) {k : Fin 4} {v : Int32} (d : decode code pc = .ok (.iload_n k, 1)) (pc' : Nat) (hl : L[k.val]? = some (.val (.int v))) (h : Ends p e below Q (T.setTop (mkF m pc' L (.int v :: st)))) (hp : pc + 1 = pc' := by exact rfl) : Ends p e below Q (T.setTop (mkF m pc L (st))) := by
  subst hp
  exact Ends.step (fun _ kk => XS.iloadN X.here hy.1 rfl (hb hy.2 d) hl kk) h
theorem oD (X : Stand p l e R s m args below meth c T locs cells slots) (hy : p.tables.exec = Jvm.exec ∧ c.code = code) {k : Nat} {v : Int32} (d : decode code pc = .ok (.iload k, 2)) (pc' : Nat) (hl : L[k]? = some (.val (.int v))) (h : Ends p e below Q (T.setTop (mkF m pc' L (.int v :: st)))) (hp : pc + 2 = pc' := by exact rfl) : Ends p e below Q (T.setTop (mkF m pc L (st))) := by
  subst hp
  exact Ends.step (fun _ kk => XS.iload X.here hy.1 rfl (hb hy.2 d) hl kk) h
theorem oE (X : Stand p l e R s m args below meth c T locs cells slots) (hy : p.tables.exec = Jvm.exec ∧ c.code = code) {k : Fin 4} {v : Int64} (d : decode code pc = .ok (.lload_n k, 1)) (pc' : Nat) (hl : L[k.val]? = some (.val (.long v))) (h : Ends p e below Q (T.setTop (mkF m pc' L (.long v :: st)))) (hp : pc + 1 = pc' := by exact rfl) : Ends p e below Q (T.setTop (mkF m pc L (st))) := by
  subst hp
  exact Ends.step (fun _ kk => XT.lloadN X.here hy.1 rfl (hb hy.2 d) hl kk) h
theorem oF (X : Stand p l e R s m args below meth c T locs cells slots) (hy : p.tables.exec = Jvm.exec ∧ c.code = code) {k : Nat} {v : Int64} (d : decode code pc = .ok (.lload k, 2)) (pc' : Nat) (hl : L[k]? = some (.val (.long v))) (h : Ends p e below Q (T.setTop (mkF m pc' L (.long v :: st)))) (hp : pc + 2 = pc' := by exact rfl) : Ends p e below Q (T.setTop (mkF m pc L (st))) := by
  subst hp
  exact Ends.step (fun _ kk => XT.lload X.here hy.1 rfl (hb hy.2 d) hl kk) h
theorem oG (X : Stand p l e R s m args below meth c T locs cells slots) (hy : p.tables.exec = Jvm.exec ∧ c.code = code) {i : Int} (d : decode code pc = .ok (.iconst i, 1)) (pc' : Nat) (v : Int32) (hv : Int32.ofInt i = v) (h : Ends p e below Q (T.setTop (mkF m pc' L (.int v :: st)))) (hp : pc + 1 = pc' := by exact rfl) : Ends p e below Q (T.setTop (mkF m pc L (st))) := by
  subst hp
  exact Ends.step (fun _ kk => XT.iconstV X.here hy.1 rfl v (hb hy.2 d) hv kk) h
theorem oH (X : Stand p l e R s m args below meth c T locs cells slots) (hy : p.tables.exec = Jvm.exec ∧ c.code = code) {i : Int} (d : decode code pc = .ok (.bipush i, 2)) (pc' : Nat) (v : Int32) (hv : (Int8.ofInt i).toInt32 = v) (h : Ends p e below Q (T.setTop (mkF m pc' L (.int v :: st)))) (hp : pc + 2 = pc' := by exact rfl) : Ends p e below Q (T.setTop (mkF m pc L (st))) := by
  subst hp
  exact Ends.step (fun _ kk => XT.bipushV X.here hy.1 rfl v (hb hy.2 d) hv kk) h
theorem oI (X : Stand p l e R s m args below meth c T locs cells slots) (hy : p.tables.exec = Jvm.exec ∧ c.code = code) {i : Int} (d : decode code pc = .ok (.sipush i, 3)) (pc' : Nat) (v : Int32) (hv : (Int16.ofInt i).toInt32 = v) (h : Ends p e below Q (T.setTop (mkF m pc' L (.int v :: st)))) (hp : pc + 3 = pc' := by exact rfl) : Ends p e below Q (T.setTop (mkF m pc L (st))) := by
  subst hp
  exact Ends.step (fun _ kk => XT.sipushV X.here hy.1 rfl v (hb hy.2 d) hv kk) h
theorem oJ (X : Stand p l e R s m args below meth c T locs cells slots) (hy : p.tables.exec = Jvm.exec ∧ c.code = code) {k : Fin 2} (d : decode code pc = .ok (.lconst k, 1)) (pc' : Nat) (v : Int64) (hv : Int64.ofNat k = v) (h : Ends p e below Q (T.setTop (mkF m pc' L (.long v :: st)))) (hp : pc + 1 = pc' := by exact rfl) : Ends p e below Q (T.setTop (mkF m pc L (st))) := by
  subst hp
  exact Ends.step (fun _ kk => XT.lconstV X.here hy.1 rfl v (hb hy.2 d) hv kk) h
theorem oK (X : Stand p l e R s m args below meth c T locs cells slots) (hy : p.tables.exec = Jvm.exec ∧ c.code = code) {x y : Int32} (d : decode code pc = .ok (.iadd, 1)) (pc' : Nat)  (h : Ends p e below Q (T.setTop (mkF m pc' L (.int (x + y) :: st)))) (hp : pc + 1 = pc' := by exact rfl) : Ends p e below Q (T.setTop (mkF m pc L (.int y :: .int x :: st))) := by
  subst hp
  exact Ends.step (fun _ kk => XS.iadd X.here hy.1 rfl (hb hy.2 d) rfl kk) h
theorem oL (X : Stand p l e R s m args below meth c T locs cells slots) (hy : p.tables.exec = Jvm.exec ∧ c.code = code) {x y : Int32} (d : decode code pc = .ok (.isub, 1)) (pc' : Nat)  (h : Ends p e below Q (T.setTop (mkF m pc' L (.int (x - y) :: st)))) (hp : pc + 1 = pc' := by exact rfl) : Ends p e below Q (T.setTop (mkF m pc L (.int y :: .int x :: st))) := by
  subst hp
  exact Ends.step (fun _ kk => XS.isub X.here hy.1 rfl (hb hy.2 d) rfl kk) h
theorem oM (X : Stand p l e R s m args below meth c T locs cells slots) (hy : p.tables.exec = Jvm.exec ∧ c.code = code) {x y : Int32} (d : decode code pc = .ok (.imul, 1)) (pc' : Nat)  (h : Ends p e below Q (T.setTop (mkF m pc' L (.int (x * y) :: st)))) (hp : pc + 1 = pc' := by exact rfl) : Ends p e below Q (T.setTop (mkF m pc L (.int y :: .int x :: st))) := by
  subst hp
  exact Ends.step (fun _ kk => XS.imul X.here hy.1 rfl (hb hy.2 d) rfl kk) h
theorem oN (X : Stand p l e R s m args below meth c T locs cells slots) (hy : p.tables.exec = Jvm.exec ∧ c.code = code) {x y : Int32} (d : decode code pc = .ok (.iand, 1)) (pc' : Nat)  (h : Ends p e below Q (T.setTop (mkF m pc' L (.int (x &&& y) :: st)))) (hp : pc + 1 = pc' := by exact rfl) : Ends p e below Q (T.setTop (mkF m pc L (.int y :: .int x :: st))) := by
  subst hp
  exact Ends.step (fun _ kk => XS.iand X.here hy.1 rfl (hb hy.2 d) rfl kk) h
theorem oO (X : Stand p l e R s m args below meth c T locs cells slots) (hy : p.tables.exec = Jvm.exec ∧ c.code = code) {x y : Int32} (d : decode code pc = .ok (.ishl, 1)) (pc' : Nat)  (h : Ends p e below Q (T.setTop (mkF m pc' L (.int (x <<< (y &&& 31)) :: st)))) (hp : pc + 1 = pc' := by exact rfl) : Ends p e below Q (T.setTop (mkF m pc L (.int y :: .int x :: st))) := by
  subst hp
  exact Ends.step (fun _ kk => XS.ishl X.here hy.1 rfl (hb hy.2 d) rfl kk) h
theorem oP (X : Stand p l e R s m args below meth c T locs cells slots) (hy : p.tables.exec = Jvm.exec ∧ c.code = code) {x y : Int32} (d : decode code pc = .ok (.ishr, 1)) (pc' : Nat)  (h : Ends p e below Q (T.setTop (mkF m pc' L (.int (x >>> (y &&& 31)) :: st)))) (hp : pc + 1 = pc' := by exact rfl) : Ends p e below Q (T.setTop (mkF m pc L (.int y :: .int x :: st))) := by
  subst hp
  exact Ends.step (fun _ kk => XS.ishr X.here hy.1 rfl (hb hy.2 d) rfl kk) h
theorem oQ (X : Stand p l e R s m args below meth c T locs cells slots) (hy : p.tables.exec = Jvm.exec ∧ c.code = code) {x : Int32} (d : decode code pc = .ok (.ineg, 1)) (pc' : Nat)  (h : Ends p e below Q (T.setTop (mkF m pc' L (.int (-x) :: st)))) (hp : pc + 1 = pc' := by exact rfl) : Ends p e below Q (T.setTop (mkF m pc L (.int x :: st))) := by
  subst hp
  exact Ends.step (fun _ kk => XS.ineg X.here hy.1 rfl (hb hy.2 d) rfl kk) h
theorem oR (X : Stand p l e R s m args below meth c T locs cells slots) (hy : p.tables.exec = Jvm.exec ∧ c.code = code) {x y : Int32} (d : decode code pc = .ok (.idiv, 1)) (pc' : Nat) (h0 : y ≠ 0) (h : Ends p e below Q (T.setTop (mkF m pc' L (.int (x / y) :: st)))) (hp : pc + 1 = pc' := by exact rfl) : Ends p e below Q (T.setTop (mkF m pc L (.int y :: .int x :: st))) := by
  subst hp
  exact Ends.step (fun _ kk => XS.idiv X.here hy.1 rfl (hb hy.2 d) rfl h0 kk) h
theorem oS (X : Stand p l e R s m args below meth c T locs cells slots) (hy : p.tables.exec = Jvm.exec ∧ c.code = code) {x y : Int64} (d : decode code pc = .ok (.ladd, 1)) (pc' : Nat)  (h : Ends p e below Q (T.setTop (mkF m pc' L (.long (x + y) :: st)))) (hp : pc + 1 = pc' := by exact rfl) : Ends p e below Q (T.setTop (mkF m pc L (.long y :: .long x :: st))) := by
  subst hp
  exact Ends.step (fun _ kk => XT.ladd X.here hy.1 rfl (hb hy.2 d) rfl kk) h
theorem oT (X : Stand p l e R s m args below meth c T locs cells slots) (hy : p.tables.exec = Jvm.exec ∧ c.code = code) {x y : Int64} (d : decode code pc = .ok (.lsub, 1)) (pc' : Nat)  (h : Ends p e below Q (T.setTop (mkF m pc' L (.long (x - y) :: st)))) (hp : pc + 1 = pc' := by exact rfl) : Ends p e below Q (T.setTop (mkF m pc L (.long y :: .long x :: st))) := by
  subst hp
  exact Ends.step (fun _ kk => XT.lsub X.here hy.1 rfl (hb hy.2 d) rfl kk) h
theorem oU (X : Stand p l e R s m args below meth c T locs cells slots) (hy : p.tables.exec = Jvm.exec ∧ c.code = code) {x y : Int64} (d : decode code pc = .ok (.lmul, 1)) (pc' : Nat)  (h : Ends p e below Q (T.setTop (mkF m pc' L (.long (x * y) :: st)))) (hp : pc + 1 = pc' := by exact rfl) : Ends p e below Q (T.setTop (mkF m pc L (.long y :: .long x :: st))) := by
  subst hp
  exact Ends.step (fun _ kk => XT.lmul X.here hy.1 rfl (hb hy.2 d) rfl kk) h
theorem oV (X : Stand p l e R s m args below meth c T locs cells slots) (hy : p.tables.exec = Jvm.exec ∧ c.code = code) {x y : Int64} (d : decode code pc = .ok (.land, 1)) (pc' : Nat)  (h : Ends p e below Q (T.setTop (mkF m pc' L (.long (x &&& y) :: st)))) (hp : pc + 1 = pc' := by exact rfl) : Ends p e below Q (T.setTop (mkF m pc L (.long y :: .long x :: st))) := by
  subst hp
  exact Ends.step (fun _ kk => XT.land X.here hy.1 rfl (hb hy.2 d) rfl kk) h
theorem oW (X : Stand p l e R s m args below meth c T locs cells slots) (hy : p.tables.exec = Jvm.exec ∧ c.code = code) {x y : Int64} (d : decode code pc = .ok (.ldiv, 1)) (pc' : Nat) (h0 : y ≠ 0) (h : Ends p e below Q (T.setTop (mkF m pc' L (.long (x / y) :: st)))) (hp : pc + 1 = pc' := by exact rfl) : Ends p e below Q (T.setTop (mkF m pc L (.long y :: .long x :: st))) := by
  subst hp
  exact Ends.step (fun _ kk => XT.ldiv X.here hy.1 rfl (hb hy.2 d) rfl h0 kk) h
theorem oX (X : Stand p l e R s m args below meth c T locs cells slots) (hy : p.tables.exec = Jvm.exec ∧ c.code = code) {x : Int64} (d : decode code pc = .ok (.lneg, 1)) (pc' : Nat)  (h : Ends p e below Q (T.setTop (mkF m pc' L (.long (-x) :: st)))) (hp : pc + 1 = pc' := by exact rfl) : Ends p e below Q (T.setTop (mkF m pc L (.long x :: st))) := by
  subst hp
  exact Ends.step (fun _ kk => XT.lneg X.here hy.1 rfl (hb hy.2 d) rfl kk) h
theorem oY (X : Stand p l e R s m args below meth c T locs cells slots) (hy : p.tables.exec = Jvm.exec ∧ c.code = code) {x y : Int64} (d : decode code pc = .ok (.lcmp, 1)) (pc' : Nat)  (h : Ends p e below Q (T.setTop (mkF m pc' L (.int (XT.cmpL x y) :: st)))) (hp : pc + 1 = pc' := by exact rfl) : Ends p e below Q (T.setTop (mkF m pc L (.long y :: .long x :: st))) := by
  subst hp
  exact Ends.step (fun _ kk => XT.lcmp X.here hy.1 rfl (hb hy.2 d) rfl kk) h
theorem oZ (X : Stand p l e R s m args below meth c T locs cells slots) (hy : p.tables.exec = Jvm.exec ∧ c.code = code) {x : Int64} (d : decode code pc = .ok (.l2i, 1)) (pc' : Nat)  (h : Ends p e below Q (T.setTop (mkF m pc' L (.int x.toInt32 :: st)))) (hp : pc + 1 = pc' := by exact rfl) : Ends p e below Q (T.setTop (mkF m pc L (.long x :: st))) := by
  subst hp
  exact Ends.step (fun _ kk => XT.l2i X.here hy.1 rfl (hb hy.2 d) rfl kk) h
theorem oxa (X : Stand p l e R s m args below meth c T locs cells slots) (hy : p.tables.exec = Jvm.exec ∧ c.code = code) {x : Int32} (d : decode code pc = .ok (.i2l, 1)) (pc' : Nat)  (h : Ends p e below Q (T.setTop (mkF m pc' L (.long x.toInt64 :: st)))) (hp : pc + 1 = pc' := by exact rfl) : Ends p e below Q (T.setTop (mkF m pc L (.int x :: st))) := by
  subst hp
  exact Ends.step (fun _ kk => XT.i2l X.here hy.1 rfl (hb hy.2 d) rfl kk) h
theorem oxb (X : Stand p l e R s m args below meth c T locs cells slots) (hy : p.tables.exec = Jvm.exec ∧ c.code = code) {x : Int32} (d : decode code pc = .ok (.i2b, 1)) (pc' : Nat)  (h : Ends p e below Q (T.setTop (mkF m pc' L (.int x.toInt8.toInt32 :: st)))) (hp : pc + 1 = pc' := by exact rfl) : Ends p e below Q (T.setTop (mkF m pc L (.int x :: st))) := by
  subst hp
  exact Ends.step (fun _ kk => XT.i2b X.here hy.1 rfl (hb hy.2 d) rfl kk) h
theorem oxc (X : Stand p l e R s m args below meth c T locs cells slots) (hy : p.tables.exec = Jvm.exec ∧ c.code = code) {x : Int32} (d : decode code pc = .ok (.i2c, 1)) (pc' : Nat)  (h : Ends p e below Q (T.setTop (mkF m pc' L (.int x.toUInt32.toUInt16.toUInt32.toInt32 :: st)))) (hp : pc + 1 = pc' := by exact rfl) : Ends p e below Q (T.setTop (mkF m pc L (.int x :: st))) := by
  subst hp
  exact Ends.step (fun _ kk => XT.i2c X.here hy.1 rfl (hb hy.2 d) rfl kk) h
theorem oxd (X : Stand p l e R s m args below meth c T locs cells slots) (hy : p.tables.exec = Jvm.exec ∧ c.code = code) {x : Value} (d : decode code pc = .ok (.dup, 1)) (pc' : Nat) (hc : x.category = 1) (h : Ends p e below Q (T.setTop (mkF m pc' L (x :: x :: st)))) (hp : pc + 1 = pc' := by exact rfl) : Ends p e below Q (T.setTop (mkF m pc L (x :: st))) := by
  subst hp
  exact Ends.step (fun _ kk => XS.dup X.here hy.1 rfl (hb hy.2 d) rfl hc kk) h
theorem oxe (X : Stand p l e R s m args below meth c T locs cells slots) (hy : p.tables.exec = Jvm.exec ∧ c.code = code) {x : Value} (d : decode code pc = .ok (.pop, 1)) (pc' : Nat) (hc : x.category = 1) (h : Ends p e below Q (T.setTop (mkF m pc' L (st)))) (hp : pc + 1 = pc' := by exact rfl) : Ends p e below Q (T.setTop (mkF m pc L (x :: st))) := by
  subst hp
  exact Ends.step (fun _ kk => XT.pop X.here hy.1 rfl (hb hy.2 d) rfl hc kk) h
theorem oxf (X : Stand p l e R s m args below meth c T locs cells slots) (hy : p.tables.exec = Jvm.exec ∧ c.code = code) {x y : Value} (d : decode code pc = .ok (.dup_x1, 1)) (pc' : Nat) (hc : x.category = 1) (hc' : y.category = 1) (h : Ends p e below Q (T.setTop (mkF m pc' L (x :: y :: x :: st)))) (hp : pc + 1 = pc' := by exact rfl) : Ends p e below Q (T.setTop (mkF m pc L (x :: y :: st))) := by
  subst hp
  exact Ends.step (fun _ kk => XT.dupX1 X.here hy.1 rfl (hb hy.2 d) rfl hc hc' kk) h
theorem oxg (X : Stand p l e R s m args below meth c T locs cells slots) (hy : p.tables.exec = Jvm.exec ∧ c.code = code)  (d : decode code pc = .ok (.aconst_null, 1)) (pc' : Nat)  (h : Ends p e below Q (T.setTop (mkF m pc' L (.null :: st)))) (hp : pc + 1 = pc' := by exact rfl) : Ends p e below Q (T.setTop (mkF m pc L (st))) := by
  subst hp
  exact Ends.step (fun _ kk => XS.aconstNull X.here hy.1 rfl (hb hy.2 d)  kk) h
theorem oxh (X : Stand p l e R s m args below meth c T locs cells slots) (hy : p.tables.exec = Jvm.exec ∧ c.code = code) {cd : ClassFile.Cond} {o : Int} {x : Int32} (d : decode code pc = .ok (.ifCond cd o, 3)) (pc' : Nat) (hc : ifCond.holds cd x = false) (h : Ends p e below Q (T.setTop (mkF m pc' L (st)))) (hp : pc + 3 = pc' := by exact rfl) : Ends p e below Q (T.setTop (mkF m pc L (.int x :: st))) := by
  subst hp
  exact Ends.step (fun _ kk => XS.ifNo X.here hy.1 rfl (hb hy.2 d) rfl hc kk) h
theorem oxi (X : Stand p l e R s m args below meth c T locs cells slots) (hy : p.tables.exec = Jvm.exec ∧ c.code = code) {cd : ClassFile.Cond} {o : Int} {x y : Int32} (d : decode code pc = .ok (.if_icmp cd o, 3)) (pc' : Nat) (hc : if_icmp.holds cd x y = false) (h : Ends p e below Q (T.setTop (mkF m pc' L (st)))) (hp : pc + 3 = pc' := by exact rfl) : Ends p e below Q (T.setTop (mkF m pc L (.int y :: .int x :: st))) := by
  subst hp
  exact Ends.step (fun _ kk => XS.icmpNo X.here hy.1 rfl (hb hy.2 d) rfl hc kk) h
theorem oxj (X : Stand p l e R s m args below meth c T locs cells slots) (hy : p.tables.exec = Jvm.exec ∧ c.code = code) {o : Int} {b : Addr} (d : decode code pc = .ok (.ifnull o, 3)) (pc' : Nat)  (h : Ends p e below Q (T.setTop (mkF m pc' L (st)))) (hp : pc + 3 = pc' := by exact rfl) : Ends p e below Q (T.setTop (mkF m pc L (.ref b :: st))) := by
  subst hp
  exact Ends.step (fun _ kk => XS.ifnullNo X.here hy.1 rfl (hb hy.2 d) rfl kk) h
theorem oxk (X : Stand p l e R s m args below meth c T locs cells slots) (hy : p.tables.exec = Jvm.exec ∧ c.code = code) {cd : ClassFile.Cond} {o : Int} {x : Int32} (d : decode code pc = .ok (.ifCond cd o, 3)) (pc' : Nat) (hc : ifCond.holds cd x = true) (h : Ends p e below Q (T.setTop (mkF m pc' L (st)))) (hp : (0 ≤ (pc : Int) + o) ∧ ((pc : Int) + o).toNat = pc' := by decide) : Ends p e below Q (T.setTop (mkF m pc L (.int x :: st))) :=
  Ends.step (fun _ kk => XS.ifYes X.here hy.1 rfl rfl (hb hy.2 d) rfl hc hp.1 hp.2 kk) h
theorem oxl (X : Stand p l e R s m args below meth c T locs cells slots) (hy : p.tables.exec = Jvm.exec ∧ c.code = code) {cd : ClassFile.Cond} {o : Int} {x y : Int32} (d : decode code pc = .ok (.if_icmp cd o, 3)) (pc' : Nat) (hc : if_icmp.holds cd x y = true) (h : Ends p e below Q (T.setTop (mkF m pc' L (st)))) (hp : (0 ≤ (pc : Int) + o) ∧ ((pc : Int) + o).toNat = pc' := by decide) : Ends p e below Q (T.setTop (mkF m pc L (.int y :: .int x :: st))) :=
  Ends.step (fun _ kk => XS.icmpYes X.here hy.1 rfl rfl (hb hy.2 d) rfl hc hp.1 hp.2 kk) h
theorem oxm (X : Stand p l e R s m args below meth c T locs cells slots) (hy : p.tables.exec = Jvm.exec ∧ c.code = code) {o : Int} (d : decode code pc = .ok (.goto o, 3)) (pc' : Nat)  (h : Ends p e below Q (T.setTop (mkF m pc' L (st)))) (hp : (0 ≤ (pc : Int) + o) ∧ ((pc : Int) + o).toNat = pc' := by decide) : Ends p e below Q (T.setTop (mkF m pc L (st))) :=
  Ends.step (fun _ kk => XS.goto X.here hy.1 rfl rfl (hb hy.2 d)  hp.1 hp.2 kk) h
theorem oxn (X : Stand p l e R s m args below meth c T locs cells slots) (hy : p.tables.exec = Jvm.exec ∧ c.code = code) {o : Int} {b : Addr} (d : decode code pc = .ok (.ifnonnull o, 3)) (pc' : Nat)  (h : Ends p e below Q (T.setTop (mkF m pc' L (st)))) (hp : (0 ≤ (pc : Int) + o) ∧ ((pc : Int) + o).toNat = pc' := by decide) : Ends p e below Q (T.setTop (mkF m pc L (.ref b :: st))) :=
  Ends.step (fun _ kk => XT.ifnonnullYes X.here hy.1 rfl rfl (hb hy.2 d) rfl hp.1 hp.2 kk) h
theorem oxo (X : Stand p l e R s m args below meth c T locs cells slots) (hy : p.tables.exec = Jvm.exec ∧ c.code = code) {k : Nat} {x : Int32} (d : decode code pc = .ok (.istore k, 2)) (pc' : Nat) (L' : Array Slot) (hl : storeLocals L k (.int x) = some L') (h : Ends p e below Q (T.setTop (mkF m pc' L' (st)))) (hp : pc + 2 = pc' := by exact rfl) : Ends p e below Q (T.setTop (mkF m pc L (.int x :: st))) := by
  subst hp
  exact Ends.step (fun _ kk => XS.istore X.here hy.1 rfl (hb hy.2 d) rfl hl kk) h
theorem oxp (X : Stand p l e R s m args below meth c T locs cells slots) (hy : p.tables.exec = Jvm.exec ∧ c.code = code) {k : Fin 4} {x : Int32} (d : decode code pc = .ok (.istore_n k, 1)) (pc' : Nat) (L' : Array Slot) (hl : storeLocals L k.val (.int x) = some L') (h : Ends p e below Q (T.setTop (mkF m pc' L' (st)))) (hp : pc + 1 = pc' := by exact rfl) : Ends p e below Q (T.setTop (mkF m pc L (.int x :: st))) := by
  subst hp
  exact Ends.step (fun _ kk => XS.istoreN X.here hy.1 rfl (hb hy.2 d) rfl hl kk) h
theorem oxq (X : Stand p l e R s m args below meth c T locs cells slots) (hy : p.tables.exec = Jvm.exec ∧ c.code = code) {k : Nat} {x : Int64} (d : decode code pc = .ok (.lstore k, 2)) (pc' : Nat) (L' : Array Slot) (hl : storeLocals L k (.long x) = some L') (h : Ends p e below Q (T.setTop (mkF m pc' L' (st)))) (hp : pc + 2 = pc' := by exact rfl) : Ends p e below Q (T.setTop (mkF m pc L (.long x :: st))) := by
  subst hp
  exact Ends.step (fun _ kk => XT.lstore X.here hy.1 rfl (hb hy.2 d) rfl hl kk) h
theorem oxr (X : Stand p l e R s m args below meth c T locs cells slots) (hy : p.tables.exec = Jvm.exec ∧ c.code = code) {k : Fin 4} {x : Int64} (d : decode code pc = .ok (.lstore_n k, 1)) (pc' : Nat) (L' : Array Slot) (hl : storeLocals L k.val (.long x) = some L') (h : Ends p e below Q (T.setTop (mkF m pc' L' (st)))) (hp : pc + 1 = pc' := by exact rfl) : Ends p e below Q (T.setTop (mkF m pc L (.long x :: st))) := by
  subst hp
  exact Ends.step (fun _ kk => XT.lstoreN X.here hy.1 rfl (hb hy.2 d) rfl hl kk) h
theorem oxs (X : Stand p l e R s m args below meth c T locs cells slots) (hy : p.tables.exec = Jvm.exec ∧ c.code = code) {k : Nat} {x : Addr} (d : decode code pc = .ok (.astore k, 2)) (pc' : Nat) (L' : Array Slot) (hl : storeLocals L k (.ref x) = some L') (h : Ends p e below Q (T.setTop (mkF m pc' L' (st)))) (hp : pc + 2 = pc' := by exact rfl) : Ends p e below Q (T.setTop (mkF m pc L (.ref x :: st))) := by
  subst hp
  exact Ends.step (fun _ kk => XS.astore X.here hy.1 rfl (hb hy.2 d) rfl rfl hl kk) h
theorem oxt (X : Stand p l e R s m args below meth c T locs cells slots) (hy : p.tables.exec = Jvm.exec ∧ c.code = code) {k : Fin 4} {x : Addr} (d : decode code pc = .ok (.astore_n k, 1)) (pc' : Nat) (L' : Array Slot) (hl : storeLocals L k.val (.ref x) = some L') (h : Ends p e below Q (T.setTop (mkF m pc' L' (st)))) (hp : pc + 1 = pc' := by exact rfl) : Ends p e below Q (T.setTop (mkF m pc L (.ref x :: st))) := by
  subst hp
  exact Ends.step (fun _ kk => XS.astoreN X.here hy.1 rfl (hb hy.2 d) rfl rfl hl kk) h
theorem oxz (X : Stand p l e R s m args below meth c T locs cells slots) (hy : p.tables.exec = Jvm.exec ∧ c.code = code) {k : Nat} {cst : Int} {x : Int32} (d : decode code pc = .ok (.iinc k cst, 3)) (pc' : Nat) (L' : Array Slot) (v : Int32) (hv : Int32.ofInt cst = v) (h1 : L[k]? = some (.val (.int x))) (hl : storeLocals L k (.int (x + v)) = some L') (h : Ends p e below Q (T.setTop (mkF m pc' L' (st)))) (hp : pc + 3 = pc' := by exact rfl) : Ends p e below Q (T.setTop (mkF m pc L (st))) := by
  subst hp
  exact Ends.step (fun _ kk => XT.iincV X.here hy.1 rfl v (hb hy.2 d) hv h1 hl kk) h
theorem Ends.j (pc' : Nat) (S' : List Value) (k : ∀ t, Steps p.tables e below (T'.setTop (mkF m pc' L S')) t → Steps p.tables e below (T.setTop (mkF m pc L S)) t) (h : Ends p e below Q (T'.setTop (mkF m pc' L S'))) : Ends p e below Q (T.setTop (mkF m pc L S)) := Ends.step k h
theorem Ends.i (L : Array Slot) {f : JFrame} (h : Ends p e below Q (T.setTop (mkF m 0 L []))) (k : f = mkF m 0 L [] := by first | (simp [entryFrame, argsToLocals, Value.category]; done) | rfl) : Ends p e below Q (T.setTop f) := by
  rw [k]
  exact h
theorem oJ2 (X : Stand p l e R s m args below meth c T locs cells slots) (hy : p.tables.exec = Jvm.exec ∧ c.code = code) {own : String} {index : Nat} {Z : State} {a0 : Array Value} (hown : s.vm.findClass own = some m.cls) (hZ : Z.Warmed39 s.vm) (hw : ∀ d ∈ tables_1, d.before a0 Z = true) (d : decode code pc = .ok (.ldc2_w index, 3)) (pc' : Nat) (v : Int64) (i : Nat) (hi : tables_1[i]? = some (.constantLong own index v)) (h : Ends p e below Q (T.setTop (mkF m pc' L (.long v :: st)))) (hp : pc + 3 = pc' := by exact rfl) : Ends p e below Q (T.setTop (mkF m pc L (st))) := by
  subst hp
  exact Ends.step (fun _ kk => X.ldc2J hy.1 hown (mvT hZ (hw _ (List.mem_of_getElem? hi))) rfl (hb hy.2 d) kk) h
theorem lremO (X : Stand p l e R s m args below meth c T locs cells slots) (hy : p.tables.exec = Jvm.exec ∧ c.code = code) {x y : Int64} (d : decode code pc = .ok (.lrem, 1)) (pc' : Nat) (h0 : y ≠ 0) (h : Ends p e below Q (T.setTop (mkF m pc' L (.long (x % y) :: st)))) (hp : pc + 1 = pc' := by exact rfl) : Ends p e below Q (T.setTop (mkF m pc L (.long y :: .long x :: st))) := by
  subst hp
  exact Ends.step (fun _ kk => lremM X hy.1 rfl (hb hy.2 d) rfl h0 kk) h
theorem tb {Z : State} {a0 : Array Value} (hw : ∀ d ∈ tables_1, d.before a0 Z = true) (i : Nat) {d : Jvm.Cond} (hi : tables_1[i]? = some d) : d.before a0 Z = true := hw _ (List.mem_of_getElem? hi)
abbrev rmm (f a b d : Nat) : Room := { frames := f, cells := a, slots := b, locals := d }
abbrev MF (l : Launch) (y : MethodName) (bytes : ByteArray) (maxL : Nat) (ret : Option FieldType) (ws : List Jvm.Cond) (rm : Room) (as' : Array Value) (Z : State) (h : Heap) (QC : Option Value → Heap → List Loc → Prop) : Prop :=
  MetFree l y (head1 (Jvm.Cond.code y bytes maxL ret :: ws) rm) (fun a U => a = as' ∧ Z.Warmed39 U.vm ∧ U.heap = h) (fun _ _ _ _ _ => True) (fun _ U o U' => ∃ v L, o = .returned v ∧ QC v U'.heap L ∧ FrameEnd U o U' L rm.cells rm.slots)
theorem Ends.v {v : Value} (h : Ends p e below Q (T.setTop (mkF m pc L (v :: st)))) : Ends p e below Q (T.setTop (mkF m pc L ((some v).toList ++ st))) := h
theorem Ends.u (h : Ends p e below Q (T.setTop (mkF m pc L st))) : Ends p e below Q (T.setTop (mkF m pc L ((none : Option Value).toList ++ st))) := h
theorem cS (X : Stand p l e R s m args below meth c T locs cells slots) (hy : p.tables.exec = Jvm.exec ∧ c.code = code) {ml : Nat} (hml : c.maxLocals = ml) {own : String} (hown : s.vm.findClass own = some m.cls) {Z : State} {a0 : Array Value} (hZ : Z.Warmed39 s.vm) (hw : ∀ d ∈ tables_1, d.before a0 Z = true)
    {index : Nat} {y : MethodName} {bytes : ByteArray} {maxL : Nat} {ret : Option FieldType} (d : decode code pc = .ok (.invokestatic index, 3)) (pc' W i1 i2 i3 i4 : Nat) (h1 : tables_1[i1]? = some (.methodLink own index y)) (h2 : tables_1[i2]? = some (.static y)) (h3 : tables_1[i3]? = some (.initialized y.cls)) (h4 : tables_1[i4]? = some (.code y bytes maxL ret))
    {rm : Room} {as' : Array Value} {QC : Option Value → Heap → List Loc → Prop} {h : Heap} (hM : MF l y bytes maxL ret [] rm as' Z h QC)
    (eT : T.heap = h) {ps : List FieldType} {r : Option FieldType} (hd : parseMethodDescriptor y.desc = some ⟨ps, r⟩)
    {argsL rest : List Value} (ha : as' = argsL.toArray) (hS : S = argsL.reverse ++ rest)
    (K : ∀ v T' Lc, Stand p l e R s m args below meth c T' (locs ++ Lc) (cells + rm.cells) (slots + rm.slots) → QC v T'.heap Lc → Ends p e below Q (T'.setTop (mkF m pc' L (v.toList ++ rest)))) (hn : y.cls ≠ "java/lang/invoke/MethodHandle" ∧ y.cls ≠ "java/lang/invoke/VarHandle" := by decide) (hr : rm.frames + 1 ≤ R.frames ∧ W + (maxL + 11) + rm.locals ≤ R.locals ∧ cells + rm.cells ≤ R.cells ∧ slots + rm.slots ≤ R.slots := by decide) (hl : argsL.length = ps.length := by exact rfl) (hW : (rest.map fun v => v.category).sum = W := by exact rfl) (hL : L.size = ml := by exact rfl) (hp : pc + 3 = pc' := by exact rfl) : Ends p e below Q (T.setTop (mkF m pc L S)) := by
  subst hp hS ha hW
  obtain ⟨v, _, ⟨T', L', k', n'⟩, -, X', ⟨Lc, hq, l1, y1, z1⟩, stp⟩ := Jvm.LawKit.callS X hy.1 hown (mvT hZ (tb hw i1 h1)) (mvT hZ (tb hw i2 h2)) (mvT hZ (tb hw i3 h3)) (mvT hZ (tb hw i4 h4)) hn (backOf (W := (rest.map fun v => v.category).sum) hM hZ (tb hw i4 h4) (tb hw i3 h3) hr.1 hr.2.1)
    (g := mkF m pc L (argsL.reverse ++ rest)) rfl (by rw [hml]; exact hL) (argsL := argsL) (rest := rest) (lenOf hd hl) rfl (by show 2 * 0 + _ ≤ _; omega) (hb hy.2 d) (fun _ _ => ⟨rfl, eT, hr.2.2⟩)
  dsimp only [Pt.U, Pt.locs, Pt.cells, Pt.slots] at X' l1 y1 z1 stp hq
  subst l1 y1 z1
  exact Ends.step stp (K v T' Lc X' hq)
theorem cV (X : Stand p l e R s m args below meth c T locs cells slots) (hy : p.tables.exec = Jvm.exec ∧ c.code = code) {ml : Nat} (hml : c.maxLocals = ml) {own C : String} (hown : s.vm.findClass own = some m.cls) {Z : State} {a0 : Array Value} (hZ : Z.Warmed39 s.vm) (hw : ∀ d ∈ tables_1, d.before a0 Z = true)
    {index : Nat} {y : MethodName} {bytes : ByteArray} {maxL : Nat} {ret : Option FieldType} (d : decode code pc = .ok (.invokevirtual index, 3)) (pc' W i1 i2 i3 i4 i5 i6 : Nat) (h1 : tables_1[i1]? = some (.methodLink own index y)) (h2 : tables_1[i2]? = some (.declares y)) (h3 : tables_1[i3]? = some (.selects C y y)) (h4 : tables_1[i4]? = some (.instanceMethod y)) (h5 : tables_1[i5]? = some (.code y bytes maxL ret)) (h6 : tables_1[i6]? = some (.initialized y.cls))
    {rm : Room} {as' : Array Value} {QC : Option Value → Heap → List Loc → Prop} {h : Heap} (hM : MF l y bytes maxL ret [] rm as' Z h QC)
    (eT : T.heap = h) {ps : List FieldType} {r : Option FieldType} (hd : parseMethodDescriptor y.desc = some ⟨ps, r⟩)
    {b : Addr} (E : Exa Z h b C) {argsL rest : List Value} (ha : as' = (Value.ref b :: argsL).toArray) (hS : S = argsL.reverse ++ .ref b :: rest)
    (K : ∀ v T' Lc, Stand p l e R s m args below meth c T' (locs ++ Lc) (cells + rm.cells) (slots + rm.slots) → QC v T'.heap Lc → Ends p e below Q (T'.setTop (mkF m pc' L (v.toList ++ rest)))) (hn : y.cls ≠ "java/lang/invoke/MethodHandle" ∧ y.cls ≠ "java/lang/invoke/VarHandle" := by decide) (hr : rm.frames + 1 ≤ R.frames ∧ W + (maxL + 11) + rm.locals ≤ R.locals ∧ cells + rm.cells ≤ R.cells ∧ slots + rm.slots ≤ R.slots := by decide) (hl : argsL.length = ps.length := by exact rfl) (hW : (rest.map fun v => v.category).sum = W := by exact rfl) (hL : L.size = ml := by exact rfl) (hp : pc + 3 = pc' := by exact rfl) : Ends p e below Q (T.setTop (mkF m pc L S)) := by
  subst hp hS ha hW
  obtain ⟨cq, kq, qa, qb, qc⟩ := isOf hZ eT E
  obtain ⟨v, _, ⟨T', L', k', n'⟩, -, X', ⟨Lc, hq, l1, y1, z1⟩, stp⟩ := X.virtualBack hy.1 (y := y) (z := y) hown (mvT hZ (tb hw i1 h1)) (mvT hZ (tb hw i2 h2)) (notFace_of_selects (args := #[]) (mvT hZ (tb hw i3 h3))) (mvT hZ (tb hw i3 h3)) (mvT hZ (tb hw i4 h4)) hn (backOf (W := (rest.map fun v => v.category).sum) hM hZ (tb hw i5 h5) (tb hw i6 h6) hr.1 hr.2.1) qa qc
    (g := mkF m pc L (argsL.reverse ++ .ref b :: rest)) rfl (by rw [hml]; exact hL) (Steps.refl _) (argsL := argsL) (rest := rest) (lenOf hd hl) rfl (by show 2 * 0 + _ ≤ _; omega) (hb hy.2 d) (fun _ _ => ⟨rfl, eT, hr.2.2⟩)
  dsimp only [Pt.U, Pt.locs, Pt.cells, Pt.slots] at X' l1 y1 z1 stp hq
  subst l1 y1 z1
  exact Ends.step (fun _ kk => stp.trans kk) (K v T' Lc X' hq)
theorem cP (X : Stand p l e R s m args below meth c T locs cells slots) (hy : p.tables.exec = Jvm.exec ∧ c.code = code) {ml : Nat} (hml : c.maxLocals = ml) {own C : String} (hown : s.vm.findClass own = some m.cls) {Z : State} {a0 : Array Value} (hZ : Z.Warmed39 s.vm) (hw : ∀ d ∈ tables_1, d.before a0 Z = true)
    {index : Nat} {y x : MethodName} {K' : String} {bytes : ByteArray} {maxL : Nat} {ret : Option FieldType} (d : decode code pc = .ok (.invokevirtual index, 3)) (pc' W i1 i2 i3 i4 i5 i6 : Nat) (h1 : tables_1[i1]? = some (.methodLink own index y)) (h2 : tables_1[i2]? = some (.instanceMethod y)) (h3 : tables_1[i3]? = some (.selects K' x x)) (h4 : tables_1[i4]? = some (.privateMethod y)) (h5 : tables_1[i5]? = some (.code y bytes maxL ret)) (h6 : tables_1[i6]? = some (.initialized y.cls)) (hxy : x.cls = y.cls)
    {rm : Room} {as' : Array Value} {QC : Option Value → Heap → List Loc → Prop} {h : Heap} (hM : MF l y bytes maxL ret [] rm as' Z h QC)
    (eT : T.heap = h) {ps : List FieldType} {r : Option FieldType} (hd : parseMethodDescriptor y.desc = some ⟨ps, r⟩)
    {b : Addr} (E : Exa Z h b C) {argsL rest : List Value} (ha : as' = (Value.ref b :: argsL).toArray) (hS : S = argsL.reverse ++ .ref b :: rest)
    (K : ∀ v T' Lc, Stand p l e R s m args below meth c T' (locs ++ Lc) (cells + rm.cells) (slots + rm.slots) → QC v T'.heap Lc → Ends p e below Q (T'.setTop (mkF m pc' L (v.toList ++ rest)))) (hn : y.cls ≠ "java/lang/invoke/MethodHandle" ∧ y.cls ≠ "java/lang/invoke/VarHandle" := by decide) (hr : rm.frames + 1 ≤ R.frames ∧ W + (maxL + 11) + rm.locals ≤ R.locals ∧ cells + rm.cells ≤ R.cells ∧ slots + rm.slots ≤ R.slots := by decide) (hl : argsL.length = ps.length := by exact rfl) (hW : (rest.map fun v => v.category).sum = W := by exact rfl) (hL : L.size = ml := by exact rfl) (hp : pc + 3 = pc' := by exact rfl) : Ends p e below Q (T.setTop (mkF m pc L S)) := by
  subst hp hS ha hW
  obtain ⟨cq, q1, q2⟩ := E.cell
  obtain ⟨v, _, ⟨T', L', k', n'⟩, -, X', ⟨Lc, hq, l1, y1, z1⟩, stp⟩ := X.privateBack hy.1 (y := y) hown (mvT hZ (tb hw i1 h1)) (mvT hZ (tb hw i2 h2)) (mvT hZ (own_selq (y := y) (tb hw i3 h3) hxy (tb hw i4 h4) (tb hw i2 h2) hn)) (Cond.privateMethod_at (mvP hZ (tb hw i4 h4) (args := #[]))) (mvT hZ (tb hw i5 h5)) hn (backOf (W := (rest.map fun v => v.category).sum) hM hZ (tb hw i5 h5) (tb hw i6 h6) hr.1 hr.2.1)
    (g := mkF m pc L (argsL.reverse ++ .ref b :: rest)) rfl (by rw [hml]; exact hL) (Steps.refl _) (a := b) (by rw [eT]; exact q1) q2 (argsL := argsL) (rest := rest) (lenOf hd hl) rfl (by show 2 * 0 + _ ≤ _; omega) (hb hy.2 d) (fun _ _ => ⟨rfl, eT, hr.2.2⟩)
  dsimp only [Pt.U, Pt.locs, Pt.cells, Pt.slots] at X' l1 y1 z1 stp hq
  subst l1 y1 z1
  exact Ends.step (fun _ kk => stp.trans kk) (K v T' Lc X' hq)
theorem cI (X : Stand p l e R s m args below meth c T locs cells slots) (hy : p.tables.exec = Jvm.exec ∧ c.code = code) {ml : Nat} (hml : c.maxLocals = ml) {own : String} (hown : s.vm.findClass own = some m.cls) {Z : State} {a0 : Array Value} (hZ : Z.Warmed39 s.vm) (hw : ∀ d ∈ tables_1, d.before a0 Z = true)
    {index : Nat} {y : MethodName} {bytes : ByteArray} {maxL : Nat} (d : decode code pc = .ok (.invokespecial index, 3)) (pc' W i1 i2 i3 i4 : Nat) (h1 : tables_1[i1]? = some (.methodLink own index y)) (h2 : tables_1[i2]? = some (.instanceMethod y)) (h3 : tables_1[i3]? = some (.code y bytes maxL none)) (h4 : tables_1[i4]? = some (.initialized y.cls)) (hi : y.name = "<init>")
    {rm : Room} {as' : Array Value} {QC : Option Value → Heap → List Loc → Prop} {h : Heap} (hM : MF l y bytes maxL none [] rm as' Z h QC)
    (eT : T.heap = h) {ps : List FieldType} {r : Option FieldType} (hd : parseMethodDescriptor y.desc = some ⟨ps, r⟩)
    {b : Addr} {argsL rest : List Value} (ha : as' = (Value.ref b :: argsL).toArray) (hS : S = argsL.reverse ++ .ref b :: rest)
    (K : ∀ v T' Lc, Stand p l e R s m args below meth c T' (locs ++ Lc) (cells + rm.cells) (slots + rm.slots) → QC v T'.heap Lc → Ends p e below Q (T'.setTop (mkF m pc' L (v.toList ++ rest)))) (hn : y.cls ≠ "java/lang/invoke/MethodHandle" ∧ y.cls ≠ "java/lang/invoke/VarHandle" := by decide) (hr : rm.frames + 1 ≤ R.frames ∧ W + (maxL + 11) + rm.locals ≤ R.locals ∧ cells + rm.cells ≤ R.cells ∧ slots + rm.slots ≤ R.slots := by decide) (hl : argsL.length = ps.length := by exact rfl) (hW : (rest.map fun v => v.category).sum = W := by exact rfl) (hL : L.size = ml := by exact rfl) (hp : pc + 3 = pc' := by exact rfl) : Ends p e below Q (T.setTop (mkF m pc L S)) := by
  subst hp hS ha hW
  obtain ⟨v, _, ⟨T', L', k', n'⟩, -, X', ⟨Lc, hq, l1, y1, z1⟩, stp⟩ := X.specialBack hy.1 (y := y) hi hown (mvT hZ (tb hw i1 h1)) (mvT hZ (tb hw i2 h2)) (mvT hZ (tb hw i3 h3)) hn (backOf (W := (rest.map fun v => v.category).sum) hM hZ (tb hw i3 h3) (tb hw i4 h4) hr.1 hr.2.1)
    (g := mkF m pc L (argsL.reverse ++ .ref b :: rest)) rfl (by rw [hml]; exact hL) (Steps.refl _) (a := b) (argsL := argsL) (rest := rest) (lenOf hd hl) rfl (by show 2 * 0 + _ ≤ _; omega) (hb hy.2 d) (fun _ _ => ⟨rfl, eT, hr.2.2⟩)
  dsimp only [Pt.U, Pt.locs, Pt.cells, Pt.slots] at X' l1 y1 z1 stp hq
  subst l1 y1 z1
  exact Ends.step (fun _ kk => stp.trans kk) (K v T' Lc X' hq)
theorem cU (X : Stand p l e R s m args below meth c T locs cells slots) (hy : p.tables.exec = Jvm.exec ∧ c.code = code) {ml : Nat} (hml : c.maxLocals = ml) {own C : String} (hown : s.vm.findClass own = some m.cls) {Z : State} {a0 : Array Value} (hZ : Z.Warmed39 s.vm) (hw : ∀ d ∈ tables_1, d.before a0 Z = true)
    {index : Nat} {y x : MethodName} {K' : String} {bytes : ByteArray} {maxL : Nat} {ret : Option FieldType} (d : decode code pc = .ok (.invokespecial index, 3)) (pc' W i1 i2 i3 i4 i5 i6 : Nat) (h1 : tables_1[i1]? = some (.methodLink own index y)) (h2 : tables_1[i2]? = some (.instanceMethod y)) (h3 : tables_1[i3]? = some (.selects K' x x)) (h4 : tables_1[i4]? = some (.superclass own y.cls)) (h5 : tables_1[i5]? = some (.code y bytes maxL ret)) (h6 : tables_1[i6]? = some (.initialized y.cls)) (hxy : x.cls = y.cls)
    {rm : Room} {as' : Array Value} {QC : Option Value → Heap → List Loc → Prop} {h : Heap} (hM : MF l y bytes maxL ret [] rm as' Z h QC)
    (eT : T.heap = h) {ps : List FieldType} {r : Option FieldType} (hd : parseMethodDescriptor y.desc = some ⟨ps, r⟩)
    {b : Addr} (E : Exa Z h b C) {argsL rest : List Value} (ha : as' = (Value.ref b :: argsL).toArray) (hS : S = argsL.reverse ++ .ref b :: rest)
    (K : ∀ v T' Lc, Stand p l e R s m args below meth c T' (locs ++ Lc) (cells + rm.cells) (slots + rm.slots) → QC v T'.heap Lc → Ends p e below Q (T'.setTop (mkF m pc' L (v.toList ++ rest)))) (hn : y.cls ≠ "java/lang/invoke/MethodHandle" ∧ y.cls ≠ "java/lang/invoke/VarHandle" := by decide) (hr : rm.frames + 1 ≤ R.frames ∧ W + (maxL + 11) + rm.locals ≤ R.locals ∧ cells + rm.cells ≤ R.cells ∧ slots + rm.slots ≤ R.slots := by decide) (hi : y.name ≠ "<init>" := by decide) (hl : argsL.length = ps.length := by exact rfl) (hW : (rest.map fun v => v.category).sum = W := by exact rfl) (hL : L.size = ml := by exact rfl) (hp : pc + 3 = pc' := by exact rfl) : Ends p e below Q (T.setTop (mkF m pc L S)) := by
  subst hp hS ha hW
  obtain ⟨v, _, ⟨T', L', k', n'⟩, -, X', ⟨Lc, hq, l1, y1, z1⟩, stp⟩ := superBack X hy.1 hZ (y := y) hown (tb hw i1 h1) (own_same (tb hw i2 h2) hn (tb hw i3 h3) hxy) (tb hw i2 h2) (tb hw i4 h4) hi (backOf (W := (rest.map fun v => v.category).sum) hM hZ (tb hw i5 h5) (tb hw i6 h6) hr.1 hr.2.1) eT (Ins.self E)
    (g := mkF m pc L (argsL.reverse ++ .ref b :: rest)) rfl (by rw [hml]; exact hL) (tb hw i5 h5) (argsL := argsL) (rest := rest) (lenOf hd hl) rfl (by show 2 * 0 + _ ≤ _; omega) (hb hy.2 d) (fun _ _ => ⟨rfl, eT, hr.2.2⟩)
  dsimp only [Pt.U, Pt.locs, Pt.cells, Pt.slots] at X' l1 y1 z1 stp hq
  subst l1 y1 z1
  exact Ends.step (fun _ kk => stp.trans kk) (K v T' Lc X' hq)
theorem MF.of {y : MethodName} {bytes : ByteArray} {maxL : Nat} {ret : Option FieldType} {ws : List Jvm.Cond} {rm : Room} {as' : Array Value} {Z : State} {h : Heap} {QC : Option Value → Heap → List Loc → Prop} (pl : plainFor y = true)
    (F : ∀ (p : Program) (e : Env) (s : State) (m : MethodId) (below : List Frame) (meth : Method) (c : Code) (T : State) (QQ : Outcome → State → Prop), (p.tables.exec = Jvm.exec ∧ c.code = bytes) → c.maxLocals = maxL → s.vm.findClass y.cls = some m.cls → Z.Warmed39 s.vm → Stand p l e rm s m as' below meth c T [] 0 0 → T.heap = h → meth.sig.returnType = ret → meth.locks = false → meth.name = y.name →
      (∀ o t, (∃ v L, o = .returned v ∧ QC v t.heap L ∧ FrameEnd s o t L rm.cells rm.slots) → QQ o t) → Ends p e below QQ (T.setTop (entryFrame m as' maxL))) : MF l y bytes maxL ret ws rm as' Z h QC := by
  refine MetFree.of_bodySF pl hisR ?_
  intro p e s m args below meth c s₁ Bd hml0 hP hK
  obtain ⟨rfl, hZ, hh⟩ := hP
  refine Ends.opn ?_
  intro QQ hQQ
  exact F p e s m below meth c s₁ QQ ⟨Bd.exec, Bd.bytes⟩ hml0 (findClass_of_methodNamed Bd.named) hZ (Stand.of_body Bd) (by rw [← hh, Bd.state]; rfl) Bd.returns Bd.notSynchronized (name_of_methodNamed Bd.named Bd.method).1 hQQ
theorem fI (X : Stand p l e R s m args below meth c T locs cells slots) (hy : p.tables.exec = Jvm.exec ∧ c.code = code) {t : FieldType} {x : Int32} {QC : Option Value → Heap → List Loc → Prop} {cl sl : Nat} {h : Heap} (hrt : meth.sig.returnType = some t) (hlk : meth.locks = false)
    (hQQ : ∀ o t, (∃ v L, o = .returned v ∧ QC v t.heap L ∧ FrameEnd s o t L cl sl) → Q o t) (d : decode code pc = .ok (.ireturn, 1)) (hn : narrow t (.int x) = .int x) (hi : t = .int ∨ t = .boolean ∨ t = .byte ∨ t = .char ∨ t = .short) (eT : T.heap = h) (hcs : cells ≤ cl ∧ slots ≤ sl) (q : QC (some (.int x)) h locs) : Ends p e below Q (T.setTop (mkF m pc L (.int x :: st))) :=
  Ends.fin (some (.int x)) X hQQ (fun h => by rw [hrt] at h; cases h) hlk (fun _ hr => retOut X hy.1 hrt hn (Or.inl ⟨rfl, hi, _, rfl⟩) (hb hy.2 d) hr) eT hcs.1 hcs.2 q
theorem fJ (X : Stand p l e R s m args below meth c T locs cells slots) (hy : p.tables.exec = Jvm.exec ∧ c.code = code) {x : Int64} {QC : Option Value → Heap → List Loc → Prop} {cl sl : Nat} {h : Heap} (hrt : meth.sig.returnType = some .long) (hlk : meth.locks = false)
    (hQQ : ∀ o t, (∃ v L, o = .returned v ∧ QC v t.heap L ∧ FrameEnd s o t L cl sl) → Q o t) (d : decode code pc = .ok (.lreturn, 1)) (eT : T.heap = h) (hcs : cells ≤ cl ∧ slots ≤ sl) (q : QC (some (.long x)) h locs) : Ends p e below Q (T.setTop (mkF m pc L (.long x :: st))) :=
  Ends.fin (some (.long x)) X hQQ (fun h => by rw [hrt] at h; cases h) hlk (fun _ hr => retOut X hy.1 hrt rfl (Or.inr (Or.inl ⟨rfl, rfl, _, rfl⟩)) (hb hy.2 d) hr) eT hcs.1 hcs.2 q
theorem fA (X : Stand p l e R s m args below meth c T locs cells slots) (hy : p.tables.exec = Jvm.exec ∧ c.code = code) {t : FieldType} {x : Addr} {QC : Option Value → Heap → List Loc → Prop} {cl sl : Nat} {h : Heap} (hrt : meth.sig.returnType = some t) (hlk : meth.locks = false)
    (hQQ : ∀ o t, (∃ v L, o = .returned v ∧ QC v t.heap L ∧ FrameEnd s o t L cl sl) → Q o t) (d : decode code pc = .ok (.areturn, 1)) (hn : narrow t (.ref x) = .ref x) (hi : t.isReference = true) (eT : T.heap = h) (hcs : cells ≤ cl ∧ slots ≤ sl) (q : QC (some (.ref x)) h locs) : Ends p e below Q (T.setTop (mkF m pc L (.ref x :: st))) :=
  Ends.fin (some (.ref x)) X hQQ (fun h => by rw [hrt] at h; cases h) hlk (fun _ hr => retOut X hy.1 hrt hn (Or.inr (Or.inr (Or.inr (Or.inr ⟨rfl, hi, rfl⟩)))) (hb hy.2 d) hr) eT hcs.1 hcs.2 q
theorem fV (X : Stand p l e R s m args below meth c T locs cells slots) (hy : p.tables.exec = Jvm.exec ∧ c.code = code) {QC : Option Value → Heap → List Loc → Prop} {cl sl : Nat} {h : Heap} (hrt : meth.sig.returnType = none) (hlk : meth.locks = false)
    (hQQ : ∀ o t, (∃ v L, o = .returned v ∧ QC v t.heap L ∧ FrameEnd s o t L cl sl) → Q o t) (d : decode code pc = .ok (.return_, 1)) (eT : T.heap = h) (hcs : cells ≤ cl ∧ slots ≤ sl) (q : QC none h locs) : Ends p e below Q (T.setTop (mkF m pc L [])) :=
  Ends.fin none X hQQ (fun _ => rfl) hlk (fun _ hr => X.returnOut hy.1 hrt (hb hy.2 d) hr) eT hcs.1 hcs.2 q
theorem gF (X : Stand p l e R s m args below meth c T locs cells slots) (hy : p.tables.exec = Jvm.exec ∧ c.code = code) {own O n dd : String} {index : Nat} {Z : State} {a0 : Array Value} {h : Heap} {a : Addr} {v : Value} (hown : s.vm.findClass own = some m.cls) (hZ : Z.Warmed39 s.vm) (hw : ∀ d ∈ tables_1, d.before a0 Z = true) (eT : T.heap = h) (F : Fld Z h a O n dd v)
    (d : decode code pc = .ok (.getfield index, 3)) (pc' i : Nat) (hi : tables_1[i]? = some (.fieldLink own index O n dd)) (K : ∀ T', Stand p l e R s m args below meth c T' locs cells slots → T'.heap = h → Ends p e below Q (T'.setTop (mkF m pc' L (v :: st)))) (hp : pc + 3 = pc' := by exact rfl) : Ends p e below Q (T.setTop (mkF m pc L (.ref a :: st))) := by
  subst hp
  obtain ⟨T', X', e', stp⟩ := getF X hy.1 hZ hown (host := "") (Or.inl (tb hw i hi)) Via.refl eT F (g := mkF m pc L (.ref a :: st)) rfl rfl (hb hy.2 d)
  exact Ends.step stp (K T' X' e')
theorem gS (X : Stand p l e R s m args below meth c T locs cells slots) (hy : p.tables.exec = Jvm.exec ∧ c.code = code) {own O n dd : String} {index : Nat} {Z : State} {a0 : Array Value} {h : Heap} {v : Value} (hown : s.vm.findClass own = some m.cls) (hZ : Z.Warmed39 s.vm) (hw : ∀ d ∈ tables_1, d.before a0 Z = true) (eT : T.heap = h) (F : Sta Z h O n dd v)
    (d : decode code pc = .ok (.getstatic index, 3)) (pc' i : Nat) (hi : tables_1[i]? = some (.fieldLink own index O n dd)) (K : ∀ T', Stand p l e R s m args below meth c T' locs cells slots → T'.heap = h → Ends p e below Q (T'.setTop (mkF m pc' L (v :: st)))) (hp : pc + 3 = pc' := by exact rfl) : Ends p e below Q (T.setTop (mkF m pc L st)) := by
  subst hp
  obtain ⟨T', X', e', stp⟩ := getS2 X hy.1 hZ hown (host := "") (Or.inl (tb hw i hi)) Via.refl eT F (g := mkF m pc L st) rfl (hb hy.2 d)
  exact Ends.step stp (K T' X' e')
section Arrs
variable {Z : State} {h : Heap} {a : Addr} {kk : ClassId} {z j : Int32} {vs : List Value} {dv : Value}
theorem aLB (X : Stand p l e R s m args below meth c T locs cells slots) (hy : p.tables.exec = Jvm.exec ∧ c.code = code) (hZ : Z.Warmed39 s.vm) (eT : T.heap = h) (A : Arv Z h a kk .byte z vs dv) (d : decode code pc = .ok (.baload, 1)) (pc' : Nat) (v : Value) (q : ¬ j < 0 ∧ j < z) (u : vs.getD j.toNatClampNeg dv = v) (hh : Ends p e below Q (T.setTop (mkF m pc' L (v :: st)))) (hp : pc + 1 = pc' := by exact rfl) : Ends p e below Q (T.setTop (mkF m pc L (.int j :: .ref a :: st))) := by
  subst hp
  obtain ⟨cl, Ar, -, S, P, H, -⟩ := A
  have hin := inb_of S q
  exact Ends.step (fun _ k => X.baloadBytes hy.1 (by rw [eT]; exact Ar.1) (State.isArrayOf_alike hZ.alike Ar.2.1) Ar.2.2 hin (H.at hin u) (g := mkF m pc L (.int j :: .ref a :: st)) rfl rfl (hb hy.2 d) _ k) hh
theorem aLJ (X : Stand p l e R s m args below meth c T locs cells slots) (hy : p.tables.exec = Jvm.exec ∧ c.code = code) (hZ : Z.Warmed39 s.vm) (eT : T.heap = h) (A : Arv Z h a kk .long z vs dv) (d : decode code pc = .ok (.laload, 1)) (pc' : Nat) (v : Value) (q : ¬ j < 0 ∧ j < z) (u : vs.getD j.toNatClampNeg dv = v) (hh : Ends p e below Q (T.setTop (mkF m pc' L (v :: st)))) (hp : pc + 1 = pc' := by exact rfl) : Ends p e below Q (T.setTop (mkF m pc L (.int j :: .ref a :: st))) := by
  subst hp
  obtain ⟨cl, Ar, -, S, P, H, -⟩ := A
  have hin := inb_of S q
  exact Ends.step (fun _ k => X.laload hy.1 (by rw [eT]; exact Ar.1) (State.isArrayOf_alike hZ.alike Ar.2.1) Ar.2.2 hin (H.at hin u) (g := mkF m pc L (.int j :: .ref a :: st)) rfl rfl (hb hy.2 d) _ k) hh
theorem aLC (X : Stand p l e R s m args below meth c T locs cells slots) (hy : p.tables.exec = Jvm.exec ∧ c.code = code) (hZ : Z.Warmed39 s.vm) (eT : T.heap = h) (A : Arv Z h a kk .char z vs dv) (d : decode code pc = .ok (.caload, 1)) (pc' : Nat) (v : Value) (q : ¬ j < 0 ∧ j < z) (u : vs.getD j.toNatClampNeg dv = v) (hh : Ends p e below Q (T.setTop (mkF m pc' L (v :: st)))) (hp : pc + 1 = pc' := by exact rfl) : Ends p e below Q (T.setTop (mkF m pc L (.int j :: .ref a :: st))) := by
  subst hp
  obtain ⟨cl, Ar, -, S, P, H, -⟩ := A
  have hin := inb_of S q
  exact Ends.step (fun _ k => X.caload hy.1 (by rw [eT]; exact Ar.1) (State.isArrayOf_alike hZ.alike Ar.2.1) Ar.2.2 hin (H.at hin u) (g := mkF m pc L (.int j :: .ref a :: st)) rfl rfl (hb hy.2 d) _ k) hh
theorem aLn {ty : FieldType} (X : Stand p l e R s m args below meth c T locs cells slots) (hy : p.tables.exec = Jvm.exec ∧ c.code = code) (hZ : Z.Warmed39 s.vm) (eT : T.heap = h) (A : Arv Z h a kk ty z vs dv) (d : decode code pc = .ok (.arraylength, 1)) (pc' : Nat) (hh : Ends p e below Q (T.setTop (mkF m pc' L (.int z :: st)))) (hp : pc + 1 = pc' := by exact rfl) : Ends p e below Q (T.setTop (mkF m pc L (.ref a :: st))) := by
  subst hp
  obtain ⟨cl, Ar, -, S, P, -, -⟩ := A
  exact Ends.step (S' := T.setTop (mkF m (pc + 1) L (.int z :: st))) (fun _ k => X.arraylength hy.1 (by rw [eT]; exact Ar.1) (State.isArrayOf_alike hZ.alike Ar.2.1) (g := mkF m pc L (.ref a :: st)) rfl rfl (hb hy.2 d) _ (by rw [len_of S P]; exact k)) hh
theorem aSB {x : Int32} (X : Stand p l e R s m args below meth c T locs cells slots) (hy : p.tables.exec = Jvm.exec ∧ c.code = code) (hZ : Z.Warmed39 s.vm) (eT : T.heap = h) (A : Arv Z h a kk .byte z vs dv) (d : decode code pc = .ok (.bastore, 1)) (pc' : Nat) (q : ¬ j < 0 ∧ j < z) (K : ∀ T' h', Stand p l e R s m args below meth c T' (locs ++ [⟨a, j.toNatClampNeg⟩]) cells slots → T'.heap = h' → Wr h h' a j.toNatClampNeg (.int (nar .byte x)) → Ends p e below Q (T'.setTop (mkF m pc' L st))) (hp : pc + 1 = pc' := by exact rfl) : Ends p e below Q (T.setTop (mkF m pc L (.int x :: .int j :: .ref a :: st))) := by
  subst hp
  obtain ⟨cl, Ar, -, S, P, H, -⟩ := A
  obtain ⟨T', h', X', e', W', stp⟩ := stB X hy.1 hZ eT Ar (j := j) (inb_of S q) (g := mkF m pc L (.int x :: .int j :: .ref a :: st)) rfl rfl (hb hy.2 d)
  exact Ends.step stp (K T' h' X' e' W')
theorem aSC {x : Int32} (X : Stand p l e R s m args below meth c T locs cells slots) (hy : p.tables.exec = Jvm.exec ∧ c.code = code) (hZ : Z.Warmed39 s.vm) (eT : T.heap = h) (A : Arv Z h a kk .char z vs dv) (d : decode code pc = .ok (.castore, 1)) (pc' : Nat) (q : ¬ j < 0 ∧ j < z) (K : ∀ T' h', Stand p l e R s m args below meth c T' (locs ++ [⟨a, j.toNatClampNeg⟩]) cells slots → T'.heap = h' → Wr h h' a j.toNatClampNeg (.int (nar .char x)) → Ends p e below Q (T'.setTop (mkF m pc' L st))) (hp : pc + 1 = pc' := by exact rfl) : Ends p e below Q (T.setTop (mkF m pc L (.int x :: .int j :: .ref a :: st))) := by
  subst hp
  obtain ⟨cl, Ar, -, S, P, H, -⟩ := A
  obtain ⟨T', h', X', e', W', stp⟩ := stC X hy.1 hZ eT Ar (j := j) (inb_of S q) (g := mkF m pc L (.int x :: .int j :: .ref a :: st)) rfl rfl (hb hy.2 d)
  exact Ends.step stp (K T' h' X' e' W')
theorem aSJ {x : Int64} (X : Stand p l e R s m args below meth c T locs cells slots) (hy : p.tables.exec = Jvm.exec ∧ c.code = code) (hZ : Z.Warmed39 s.vm) (eT : T.heap = h) (A : Arv Z h a kk .long z vs dv) (d : decode code pc = .ok (.lastore, 1)) (pc' : Nat) (q : ¬ j < 0 ∧ j < z) (K : ∀ T' h', Stand p l e R s m args below meth c T' (locs ++ [⟨a, j.toNatClampNeg⟩]) cells slots → T'.heap = h' → Wr h h' a j.toNatClampNeg (.long x) → Ends p e below Q (T'.setTop (mkF m pc' L st))) (hp : pc + 1 = pc' := by exact rfl) : Ends p e below Q (T.setTop (mkF m pc L (.long x :: .int j :: .ref a :: st))) := by
  subst hp
  obtain ⟨cl, Ar, -, S, P, H, -⟩ := A
  obtain ⟨T', h', X', e', W', stp⟩ := stJ X hy.1 hZ eT Ar (j := j) (inb_of S q) (g := mkF m pc L (.long x :: .int j :: .ref a :: st)) rfl rfl (hb hy.2 d)
  exact Ends.step stp (K T' h' X' e' W')
theorem As {ty : FieldType} {h' : Heap} {v : Value} (A : Arv Z h a kk ty z vs dv) (hv : fits ty v = true) (W : Wr h h' a j.toNatClampNeg v) (i : Nat) (hj : j.toNatClampNeg = i) (hi : i < vs.length) : Arv Z h' a kk ty z (vs.set i v) dv := by
  obtain ⟨c, A, q1, S, q3, H, G⟩ := A
  exact Arv.set A q1 S q3 H G hv W i hj hi
end Arrs
end Ops
abbrev mN0 : MethodName := ⟨"java/lang/AbstractStringBuilder", "ensureCapacityInternal", "(I)V"⟩
abbrev mN1 : MethodName := ⟨"java/lang/StringBuilder", "append", "(J)Ljava/lang/StringBuilder;"⟩
abbrev mN2 : MethodName := ⟨"java/lang/String", "getBytes", "([BIB)V"⟩
abbrev mN3 : MethodName := ⟨"java/lang/AbstractStringBuilder", "putStringAt", "(ILjava/lang/String;)V"⟩
abbrev mN4 : MethodName := ⟨"java/lang/AbstractStringBuilder", "append", "(Ljava/lang/String;)Ljava/lang/AbstractStringBuilder;"⟩
abbrev mN5 : MethodName := ⟨"java/lang/StringBuilder", "append", "(Ljava/lang/String;)Ljava/lang/StringBuilder;"⟩
abbrev mN6 : MethodName := ⟨"java/lang/AbstractStringBuilder", "append", "(J)Ljava/lang/AbstractStringBuilder;"⟩
abbrev mN7 : MethodName := ⟨"com/example/wunce/wunce/VersionUpdate", "toString", "()Ljava/lang/String;"⟩
abbrev mN8 : MethodName := ⟨"java/lang/Math", "max", "(II)I"⟩
abbrev mN9 : MethodName := ⟨"jdk/internal/util/ArraysSupport", "newLength", "(III)I"⟩
abbrev mN10 : MethodName := ⟨"java/lang/AbstractStringBuilder", "newCapacity", "(I)I"⟩
abbrev mN11 : MethodName := ⟨"java/lang/Math", "min", "(II)I"⟩
abbrev mN12 : MethodName := ⟨"java/util/Arrays", "copyOf", "([BI)[B"⟩
abbrev mN13 : MethodName := ⟨"java/lang/AbstractStringBuilder", "length", "()I"⟩
abbrev mN14 : MethodName := ⟨"java/lang/StringBuilder", "length", "()I"⟩
abbrev mN15 : MethodName := ⟨"java/util/Arrays", "copyOfRange", "([BII)[B"⟩
abbrev mN16 : MethodName := ⟨"java/lang/String", "<init>", "(Ljava/lang/AbstractStringBuilder;Ljava/lang/Void;)V"⟩
abbrev mN17 : MethodName := ⟨"java/lang/String", "<init>", "(Ljava/lang/StringBuilder;)V"⟩
abbrev mN18 : MethodName := ⟨"java/lang/StringBuilder", "toString", "()Ljava/lang/String;"⟩
abbrev mN19 : MethodName := ⟨"com/example/wunce/wunce/VersionUpdate", "<init>", "(ZJ)V"⟩
abbrev mN20 : MethodName := ⟨"java/lang/Long", "getChars", "(JI[B)I"⟩
abbrev mN21 : MethodName := ⟨"java/lang/String", "coder", "()B"⟩
abbrev mN22 : MethodName := ⟨"java/lang/String", "length", "()I"⟩
abbrev mN23 : MethodName := ⟨"java/lang/String", "isLatin1", "()Z"⟩
abbrev mN24 : MethodName := ⟨"jdk/internal/util/Preconditions", "checkIndex", "(IILjava/util/function/BiFunction;)I"⟩
abbrev mN25 : MethodName := ⟨"java/lang/String", "checkIndex", "(II)V"⟩
abbrev mN26 : MethodName := ⟨"java/lang/StringLatin1", "charAt", "([BI)C"⟩
abbrev mN27 : MethodName := ⟨"java/lang/String", "charAt", "(I)C"⟩
abbrev mN28 : MethodName := ⟨"java/lang/AbstractStringBuilder", "isLatin1", "()Z"⟩
abbrev mN29 : MethodName := ⟨"java/lang/AbstractStringBuilder", "inflateIfNeededFor", "(Ljava/lang/String;)V"⟩
abbrev mN30 : MethodName := ⟨"java/lang/AbstractStringBuilder", "<init>", "(I)V"⟩
abbrev mN31 : MethodName := ⟨"java/lang/StringBuilder", "<init>", "()V"⟩
abbrev mN32 : MethodName := ⟨"java/lang/Long", "stringSize", "(J)I"⟩
abbrev mN33 : MethodName := ⟨"java/lang/AbstractStringBuilder", "getValue", "()[B"⟩
abbrev mN34 : MethodName := ⟨"java/util/Arrays", "checkLength", "(II)V"⟩
abbrev mN35 : MethodName := ⟨"java/util/Arrays", "copyOfRangeByte", "([BII)[B"⟩
abbrev mN36 : MethodName := ⟨"java/lang/Math", "abs", "(J)J"⟩
abbrev mN37 : MethodName := ⟨"com/example/wunce/wunce/VersionUpdateToStringPinLaw", "nz", "(JJ)I"⟩
abbrev mN38 : MethodName := ⟨"com/example/wunce/wunce/VersionUpdateToStringPinLaw", "at", "(Ljava/lang/String;Ljava/lang/String;J[JIII)Z"⟩
abbrev fAQ (Z : State) (h : Heap) (a : Addr) (v : Value) : Prop := Fld Z h a "java/lang/String" "coder" "B" v
abbrev fBQ (Z : State) (h : Heap) (a : Addr) (v : Value) : Prop := Fld Z h a "java/lang/String" "value" "[B" v
abbrev fCQ (Z : State) (h : Heap) (a : Addr) (v : Value) : Prop := Fld Z h a "java/lang/AbstractStringBuilder" "coder" "B" v
abbrev fDQ (Z : State) (h : Heap) (a : Addr) (v : Value) : Prop := Fld Z h a "java/lang/AbstractStringBuilder" "value" "[B" v
abbrev fEQ (Z : State) (h : Heap) (a : Addr) (v : Value) : Prop := Fld Z h a "java/lang/AbstractStringBuilder" "count" "I" v
abbrev fFQ (Z : State) (h : Heap) (a : Addr) (v : Value) : Prop := Fld Z h a "com/example/wunce/wunce/VersionUpdate" "_applied" "Z" v
abbrev fGQ (Z : State) (h : Heap) (a : Addr) (v : Value) : Prop := Fld Z h a "com/example/wunce/wunce/VersionUpdate" "_currentVersion" "J" v
abbrev sHQ (Z : State) (h : Heap) (v : Value) : Prop := Sta Z h "java/lang/Integer" "DigitOnes" "[B" v
abbrev sIQ (Z : State) (h : Heap) (v : Value) : Prop := Sta Z h "java/lang/Integer" "DigitTens" "[B" v
abbrev sJQ (Z : State) (h : Heap) (v : Value) : Prop := Sta Z h "java/lang/String" "COMPACT_STRINGS" "Z" v
abbrev sKQ (Z : State) (h : Heap) (v : Value) : Prop := Sta Z h "jdk/internal/util/Preconditions" "SIOOBE_FORMATTER" "Ljava/util/function/BiFunction;" v
abbrev eAQ (Z : State) (h : Heap) (a : Addr) : Prop := Exa Z h a "java/lang/String"
abbrev eBQ (Z : State) (h : Heap) (a : Addr) : Prop := Exa Z h a "java/lang/StringBuilder"
abbrev eCQ (Z : State) (h : Heap) (a : Addr) : Prop := Exa Z h a "[B"
abbrev eDQ (Z : State) (h : Heap) (a : Addr) : Prop := Exa Z h a "com/example/wunce/wunce/VersionUpdate"
abbrev cD0 := jdk_35_method_14_code
abbrev cD1 := method_4_code
abbrev cD2 := jdk_35_method_15_code
abbrev cD3 := jdk_68_method_10_code
abbrev cD4 := jdk_68_method_33_code
abbrev cD5 := jdk_68_method_22_code
abbrev cD6 := jdk_68_method_9_code
abbrev cD7 := jdk_65_method_133_code
abbrev cD8 := jdk_42_method_150_code
abbrev cD9 := jdk_65_method_121_code
abbrev cD10 := jdk_42_method_147_code
abbrev cD11 := prog_31_method_4_code
abbrev cD12 := jdk_65_method_132_code
abbrev cD13 := jdk_48_method_27_code
abbrev cD14 := jdk_68_method_2_code
abbrev cD15 := jdk_43_method_2_code
abbrev cD16 := jdk_68_method_73_code
abbrev cD17 := method_3_code
abbrev cD18 := prog_31_method_1_code
abbrev cD19 := jdk_29_method_61_code
abbrev cD20 := jdk_42_method_154_code
abbrev cD21 := jdk_42_method_56_code
abbrev cD22 := jdk_68_method_68_code
abbrev cD23 := jdk_68_method_71_code
abbrev cD24 := jdk_42_method_54_code
abbrev cD25 := jdk_41_method_11_code
abbrev cD26 := jdk_29_method_69_code
abbrev cD27 := jdk_42_method_152_code
abbrev cD28 := jdk_42_method_155_code
abbrev cD29 := jdk_67_method_7_code
abbrev cD30 := jdk_67_method_16_code
abbrev cD31 := jdk_29_method_65_code
abbrev cD32 := jdk_42_method_53_code
abbrev cD33 := jdk_67_method_42_code
abbrev cD34 := jdk_67_method_1_code
abbrev cD35 := jdk_65_method_131_code
theorem mm0 {α : Type} {a : α} {l : List α} : a ∈ a :: l := List.mem_of_getElem? (i := 0) rfl
theorem mm1 {α : Type} {a b : α} {l : List α} : b ∈ a :: b :: l := List.mem_of_getElem? (i := 1) rfl
abbrev TW (a0 : Array Value) (Z : State) : Prop := ∀ d ∈ tables_1, d.before a0 Z = true
abbrev QT := Option Value → Heap → List Loc → Prop
set_option maxRecDepth 65536
set_option maxHeartbeats 40000000
theorem pn_0 : plainName "java/lang/Long" = true := by first | (simp [plainName, overriddenIn]; done) | decide +kernel
theorem pn_1 : plainName "java/lang/String" = true := by first | (simp [plainName, overriddenIn]; done) | decide +kernel
theorem pn_2 : plainName "jdk/internal/util/Preconditions" = true := by first | (simp [plainName, overriddenIn]; done) | decide +kernel
theorem pn_3 : plainName "java/lang/StringLatin1" = true := by first | (simp [plainName, overriddenIn]; done) | decide +kernel
theorem pn_4 : plainName "java/lang/AbstractStringBuilder" = true := by first | (simp [plainName, overriddenIn]; done) | decide +kernel
theorem pn_5 : plainName "java/lang/StringBuilder" = true := by first | (simp [plainName, overriddenIn]; done) | decide +kernel
theorem pn_6 : plainName "jdk/internal/util/ArraysSupport" = true := by first | (simp [plainName, overriddenIn]; done) | decide +kernel
theorem pn_7 : plainName "java/util/Arrays" = true := by first | (simp [plainName, overriddenIn]; done) | decide +kernel
theorem pn_8 : plainName "com/example/wunce/wunce/VersionUpdate" = true := by first | (simp [plainName, overriddenIn]; done) | decide +kernel
theorem pn_9 : plainName "com/example/wunce/wunce/VersionUpdateToStringPinLaw" = true := by first | (simp [plainName, overriddenIn]; done) | decide +kernel
theorem pd_0 : parseMethodDescriptor "()B" = some ⟨[], some .byte⟩ := by decide +kernel
theorem pd_1 : parseMethodDescriptor "(IILjava/util/function/BiFunction;)I" = some ⟨[.int, .int, (.object "java/util/function/BiFunction")], some .int⟩ := by decide +kernel
theorem pd_2 : parseMethodDescriptor "(II)V" = some ⟨[.int, .int], none⟩ := by decide +kernel
theorem pd_3 : parseMethodDescriptor "()Z" = some ⟨[], some .boolean⟩ := by decide +kernel
theorem pd_4 : parseMethodDescriptor "([BI)C" = some ⟨[(.array .byte), .int], some .char⟩ := by decide +kernel
theorem pd_5 : parseMethodDescriptor "(I)V" = some ⟨[.int], none⟩ := by decide +kernel
theorem pd_6 : parseMethodDescriptor "(Ljava/lang/String;)V" = some ⟨[(.object "java/lang/String")], none⟩ := by decide +kernel
theorem pd_7 : parseMethodDescriptor "([BIB)V" = some ⟨[(.array .byte), .int, .byte], none⟩ := by decide +kernel
theorem pd_8 : parseMethodDescriptor "()I" = some ⟨[], some .int⟩ := by decide +kernel
theorem pd_9 : parseMethodDescriptor "(ILjava/lang/String;)V" = some ⟨[.int, (.object "java/lang/String")], none⟩ := by decide +kernel
theorem pd_10 : parseMethodDescriptor "(Ljava/lang/String;)Ljava/lang/AbstractStringBuilder;" = some ⟨[(.object "java/lang/String")], some (.object "java/lang/AbstractStringBuilder")⟩ := by decide +kernel
theorem pd_11 : parseMethodDescriptor "(II)I" = some ⟨[.int, .int], some .int⟩ := by decide +kernel
theorem pd_12 : parseMethodDescriptor "(III)I" = some ⟨[.int, .int, .int], some .int⟩ := by decide +kernel
theorem pd_13 : parseMethodDescriptor "(I)I" = some ⟨[.int], some .int⟩ := by decide +kernel
theorem pd_14 : parseMethodDescriptor "([BI)[B" = some ⟨[(.array .byte), .int], some (.array .byte)⟩ := by decide +kernel
theorem pd_15 : parseMethodDescriptor "(J)I" = some ⟨[.long], some .int⟩ := by decide +kernel
theorem pd_16 : parseMethodDescriptor "(JI[B)I" = some ⟨[.long, .int, (.array .byte)], some .int⟩ := by decide +kernel
theorem pd_17 : parseMethodDescriptor "(J)Ljava/lang/AbstractStringBuilder;" = some ⟨[.long], some (.object "java/lang/AbstractStringBuilder")⟩ := by decide +kernel
theorem pd_18 : parseMethodDescriptor "([BII)[B" = some ⟨[(.array .byte), .int, .int], some (.array .byte)⟩ := by decide +kernel
theorem pd_19 : parseMethodDescriptor "()[B" = some ⟨[], some (.array .byte)⟩ := by decide +kernel
theorem pd_20 : parseMethodDescriptor "(Ljava/lang/AbstractStringBuilder;Ljava/lang/Void;)V" = some ⟨[(.object "java/lang/AbstractStringBuilder"), (.object "java/lang/Void")], none⟩ := by decide +kernel
theorem pd_21 : parseMethodDescriptor "(Ljava/lang/StringBuilder;)V" = some ⟨[(.object "java/lang/StringBuilder")], none⟩ := by decide +kernel
theorem pd_22 : parseMethodDescriptor "()V" = some ⟨[], none⟩ := by decide +kernel
theorem pd_23 : parseMethodDescriptor "(Ljava/lang/String;)Ljava/lang/StringBuilder;" = some ⟨[(.object "java/lang/String")], some (.object "java/lang/StringBuilder")⟩ := by decide +kernel
theorem pd_24 : parseMethodDescriptor "(J)Ljava/lang/StringBuilder;" = some ⟨[.long], some (.object "java/lang/StringBuilder")⟩ := by decide +kernel
theorem pd_25 : parseMethodDescriptor "()Ljava/lang/String;" = some ⟨[], some (.object "java/lang/String")⟩ := by decide +kernel
theorem pd_26 : parseMethodDescriptor "(I)C" = some ⟨[.int], some .char⟩ := by decide +kernel
theorem pd_27 : parseMethodDescriptor "(J)J" = some ⟨[.long], some .long⟩ := by decide +kernel
theorem pd_28 : parseMethodDescriptor "(ZJ)V" = some ⟨[.boolean, .long], none⟩ := by decide +kernel
theorem pd_29 : parseMethodDescriptor "(JJ)I" = some ⟨[.long, .long], some .int⟩ := by decide +kernel
theorem pd_30 : parseMethodDescriptor "(Ljava/lang/String;Ljava/lang/String;J[JIII)Z" = some ⟨[(.object "java/lang/String"), (.object "java/lang/String"), .long, (.array .long), .int, .int, .int], some .boolean⟩ := by decide +kernel
theorem own_len {args : Array Value} {s : State} {t : Term} {n : Int32} {x : Addr} {cl : Cell} {ty : FieldType} (h : (Jvm.Cond.eq (Term.length t) (Term.int n)).value args s none s [] = some true) (ev : t.eval args s none [] s = some (.ref x)) (A : Arr s s.heap x cl ty) : cl.slots.size < 2 ^ 31 ∧ cl.slots.size.toInt32 = n := by
  obtain ⟨v, w, h1, h2, -, -⟩ := cmp_v (Or.inl h)
  have ha := A.fin (Vm.Alike.refl _)
  by_cases hl : cl.slots.size < 2 ^ 31
  · refine ⟨hl, ?_⟩
    have e := len_f ev ha hl (args := args) (first := s) (o := none) (idx := [])
    simp only [Cond.value, e, Term.int_eval] at h
    simpa using h
  · simp [Term.eval, ev, ha, hl] at h1
theorem own_elem {args : Array Value} {s : State} {t u : Term} {j : Int32} {x : Addr} {cl : Cell} {ty : FieldType} {v : Value} (h : (Jvm.Cond.eq (Term.elem t (Term.int j)) u).value args s none s [] = some true) (ev : t.eval args s none [] s = some (.ref x)) (A : Arr s s.heap x cl ty) (eu : u.eval args s none [] s = some v) : cl.slots[j.toNatClampNeg]? = some v := by
  obtain ⟨a, b, h1, h2, k1, k2⟩ := cmp_v (Or.inl h)
  cases eu.symm.trans h2
  have q := elem_in h1 ev (Term.int_eval j) A.1
  rw [q.2]
  simp only [Cond.value, h1, h2] at h
  cases a <;> cases v <;> simp_all [Kin, Value.isRef]
theorem own_elemJ {args : Array Value} {s : State} {t : Term} {j : Nat} {x : Addr} {cl : Cell} {ty : FieldType} {v : Int32} (h : (Jvm.Cond.eq (Term.elem t (Term.index 0)) (Term.int v)).value args s none s [j] = some true) (ev : t.eval args s none [j] s = some (.ref x)) (A : Arr s s.heap x cl ty) (hl : cl.slots.size < 2 ^ 31) (hj : j < cl.slots.size) : cl.slots[j]? = some (.int v) := by
  obtain ⟨a, b, h1, h2, k1, k2⟩ := cmp_v (Or.inl h)
  have q := elem_in h1 ev (Term.index_eval j) A.1
  have ej : j.toInt32.toNatClampNeg = j := by have := len_toInt (show j < 2 ^ 31 by omega); simp only [Int32.toNatClampNeg]; omega
  rw [ej] at q
  rw [q.2]
  cases (Term.int_eval v).symm.trans h2
  simp only [Cond.value, h1, h2] at h
  cases a <;> simp_all [Kin, Value.isRef]
theorem own_fld {args : Array Value} {s : State} {t u : Term} {x : Addr} {C f d : String} {v : Value} (h : (Jvm.Cond.eq (Term.field t C f d) u).value args s none s [] = some true) (ev : t.eval args s none [] s = some (.ref x)) (eu : u.eval args s none [] s = some v) : Fld s s.heap x C f d v := by
  obtain ⟨a, b, h1, h2, k1, k2⟩ := cmp_v (Or.inl h)
  cases eu.symm.trans h2
  have e : a = v := by
    simp only [Cond.value, h1, h2] at h
    cases a <;> cases v <;> simp_all [Kin, Value.isRef]
  subst e
  exact Fld.start ((fld_at ev).symm.trans h1)
theorem own_idx {args : Array Value} {s : State} {C n d : String} {v : Value} (ev : (Term.static C n d).eval args s none [] s = some v) (idx : List Nat := []) : (Term.static C n d).eval args s none idx s = some v := ev
theorem own_lt {k : Nat} {n : Int32} {j : Nat} (h : k.toInt32 = n) (h2 : k < 2 ^ 31) (h3 : (j : Int) < n.toInt) : j < k := by
  have := len_toInt h2
  rw [h] at this
  omega
theorem own_all3 {args : Array Value} {s : State} {t : Term} {a b v : Int32} {x : Addr} {cl : Cell} {ty : FieldType} (h : (Jvm.Cond.all t (.or (.lt (.index 0) (.int a)) (.or (.le (.int b) (.index 0)) (.eq (.elem t (.index 0)) (.int v))))).value args s none s [] = some true)
    (ev : ∀ idx, t.eval args s none idx s = some (.ref x)) (A : Arr s s.heap x cl ty) (hl : cl.slots.size < 2 ^ 31) (j : Nat) (hj : j < cl.slots.size) (h1 : a.toInt ≤ j) (h2 : (j : Int) < b.toInt) : cl.slots[j]? = some (.int v) := by
  have e := Cond.all_elim (ev []) (A.fin (Vm.Alike.refl _)) h j hj
  have ej : j.toInt32.toInt = j := len_toInt (by omega)
  have g1 : (Jvm.Cond.lt (.index 0) (.int a)).value args s none s [j] = some false := by
    simp only [Cond.value, Term.index_eval, Term.int_eval, Int32.lt_iff_toInt_lt, ej]; simp; omega
  have g2 : (Jvm.Cond.le (.int b) (.index 0)).value args s none s [j] = some false := by
    simp only [Cond.value, Term.index_eval, Term.int_eval, Int32.le_iff_toInt_le, ej]; simp; omega
  rw [Cond.or_of_right g1, Cond.or_of_right g2] at e
  exact own_elemJ e (ev [j]) A hl hj
theorem own_allH {args : Array Value} {s : State} {t : Term} {b v : Int32} {x : Addr} {cl : Cell} {ty : FieldType} (h : (Jvm.Cond.all t (.or (.le (.int b) (.index 0)) (.eq (.elem t (.index 0)) (.int v)))).value args s none s [] = some true)
    (ev : ∀ idx, t.eval args s none idx s = some (.ref x)) (A : Arr s s.heap x cl ty) (hl : cl.slots.size < 2 ^ 31) (j : Nat) (hj : j < cl.slots.size) (h2 : (j : Int) < b.toInt) : cl.slots[j]? = some (.int v) := by
  have e := Cond.all_elim (ev []) (A.fin (Vm.Alike.refl _)) h j hj
  have ej : j.toInt32.toInt = j := len_toInt (by omega)
  have g2 : (Jvm.Cond.le (.int b) (.index 0)).value args s none s [j] = some false := by
    simp only [Cond.value, Term.index_eval, Term.int_eval, Int32.le_iff_toInt_le, ej]; simp; omega
  rw [Cond.or_of_right g2] at e
  exact own_elemJ e (ev [j]) A hl hj
theorem own_nz {args : Array Value} {s : State} {t : Term} {x : Int32} (h : (Jvm.Cond.not (Jvm.Cond.eq t (Term.int 0))).value args s none s [] = some true) (ev : t.eval args s none [] s = some (.int x)) : ¬ x = (0 : Int32) := by
  simpa [Cond.value, ev, Term.eval] using h
theorem own_shr0 (n : Int32) : n >>> ((0 : Int32) &&& 31) = n := by
  apply Int32.toInt_inj.mp
  rw [c_ishr n 0 0 (by decide)]
  simp
def own_dg (N : Int) : Int32 := Int32.ofInt (48 + N % 10)
def own_ones : List Value := (List.range 100).map fun r => Value.int (Int32.ofNat (48 + r % 10))
def own_tens : List Value := (List.range 100).map fun r => Value.int (Int32.ofNat (48 + r / 10))
theorem own_dgi (N : Int) : (own_dg N).toInt = 48 + N % 10 := by
  unfold own_dg
  rw [Int32.toInt_ofInt, show Int32.size = 4294967296 from rfl, Int.bmod_eq_of_le (by omega) (by omega)]
theorem own_nardg (N : Int) : nar .byte (own_dg N) = own_dg N := by
  apply Int32.toInt_inj.mp
  have h := c_i2b (own_dg N)
  have e := own_dgi N
  show (own_dg N).toInt8.toInt32.toInt = _
  omega
theorem own_fitdg (N : Int) : fits .byte (.int (own_dg N)) = true := by
  have h := fits_nar_byte (own_dg N)
  have e : (own_dg N).toInt8.toInt32 = own_dg N := own_nardg N
  rw [e] at h
  exact h
theorem own_ofn (n : Nat) (h : n < 1000) : (Int32.ofNat n).toInt = n := by
  rw [Int32.toInt_ofNat', show Int32.size = 4294967296 from rfl, Int.bmod_eq_of_le (by omega) (by omega)]
theorem own_oneat {r : Int32} {N : Int} (h : r.toInt = N % 100) : own_ones.getD r.toNatClampNeg (.int 0) = .int (own_dg N) := by
  have key : ∀ j : Fin 100, own_ones.getD j.1 (Value.int 0) = .int (Int32.ofNat (48 + j.1 % 10)) := by decide +kernel
  have hj : r.toNatClampNeg < 100 := by simp only [Int32.toNatClampNeg]; omega
  rw [key ⟨_, hj⟩]
  congr 1
  apply Int32.toInt_inj.mp
  rw [own_ofn _ (by omega), own_dgi]
  simp only [Int32.toNatClampNeg]
  omega
theorem own_tenat {r : Int32} {N : Int} (h : r.toInt = N % 100) : own_tens.getD r.toNatClampNeg (.int 0) = .int (own_dg (N / 10)) := by
  have key : ∀ j : Fin 100, own_tens.getD j.1 (Value.int 0) = .int (Int32.ofNat (48 + j.1 / 10)) := by decide +kernel
  have hj : r.toNatClampNeg < 100 := by simp only [Int32.toNatClampNeg]; omega
  rw [key ⟨_, hj⟩]
  congr 1
  apply Int32.toInt_inj.mp
  rw [own_ofn _ (by omega), own_dgi]
  simp only [Int32.toNatClampNeg]
  omega
theorem own_in {r : Int32} {N : Int} (h : r.toInt = N % 100) : ¬ r < 0 ∧ r < (100 : Int32) := by
  simp only [Int32.lt_iff_toInt_lt, Int32.reduceToInt]
  omega
theorem own_q {x : Int32} {N : Int} (h : x.toInt = -N) (h0 : 0 ≤ N) : (x / (100 : Int32)).toInt = -(N / 100) := by
  have c := c_idiv x 100 100 (by decide) (by decide)
  by_cases z : x.toInt < 0
  · rw [c.2 z]; omega
  · rw [c.1 (by omega)]; omega
theorem own_r {x : Int32} {N : Int} (h : x.toInt = -N) (h0 : 0 ≤ N) : (((x / (100 : Int32)) * (100 : Int32)) - x).toInt = N % 100 := by
  have q := own_q h h0
  have c1 := c_imul (x / 100) 100
  have c2 := c_isub ((x / 100) * 100) x
  have b1 := Int32.toInt_lt ((x / 100) * 100 - x)
  have b2 := Int32.le_toInt ((x / 100) * 100 - x)
  have e : (100 : Int32).toInt = 100 := by decide
  have b3 := Int32.le_toInt x
  rw [q, e] at c1
  omega
theorem own_nr {x : Int32} {N : Int} (h : x.toInt = -N) (h0 : 0 ≤ N) (h1 : N < 100) : (-x).toInt = N % 100 := by
  have c := c_ineg x
  have b1 := Int32.toInt_lt (-x)
  have b2 := Int32.le_toInt (-x)
  omega
theorem own_i0 {q : Int64} (h0 : 0 ≤ q.toInt) (h1 : q.toInt < 1000000000) : (-q).toInt32.toInt = -q.toInt := by
  have c := c_lneg q
  have c2 := c_l2i (-q)
  have b1 := Int64.toInt_lt (-q)
  have b2 := Int64.le_toInt (-q)
  have b3 := Int32.toInt_lt (-q).toInt32
  have b4 := Int32.le_toInt (-q).toInt32
  omega
theorem own_cont {x : Int32} {N : Int} (h : x.toInt = -N) (h1 : 100 ≤ N) : ¬ (-100 : Int32) < x := by
  have e : (-100 : Int32).toInt = -100 := by decide
  rw [Int32.lt_iff_toInt_lt, e]
  omega
theorem own_exit {x : Int32} {N : Int} (h : x.toInt = -N) (h1 : N < 100) : (-100 : Int32) < x := by
  have e : (-100 : Int32).toInt = -100 := by decide
  rw [Int32.lt_iff_toInt_lt, e]
  omega
theorem own_two {x : Int32} {N : Int} (h : x.toInt = -N) (h1 : 10 ≤ N) : x < (-9 : Int32) := by
  have e : (-9 : Int32).toInt = -9 := by decide
  rw [Int32.lt_iff_toInt_lt, e]
  omega
theorem own_one {x : Int32} {N : Int} (h : x.toInt = -N) (h1 : N < 10) : ¬ x < (-9 : Int32) := by
  have e : (-9 : Int32).toInt = -9 := by decide
  rw [Int32.lt_iff_toInt_lt, e]
  omega
theorem own_ge0 {q : Int64} (h : 0 ≤ q.toInt) : ¬ q < (0 : Int64) := by
  have e : (0 : Int64).toInt = 0 := by decide
  rw [Int64.lt_iff_toInt_lt, e]
  omega
theorem own_ng {q p : Int64} {P : Int} (e : p.toInt = -P) (h0 : 0 ≤ q.toInt) (h : q.toInt < P) : p < (-q) := by
  have c := c_lneg q
  have b1 := Int64.toInt_lt (-q)
  have b2 := Int64.le_toInt (-q)
  have b3 := Int64.toInt_lt q
  rw [Int64.lt_iff_toInt_lt, e]
  omega
theorem own_nl {q p : Int64} {P : Int} (e : p.toInt = -P) (h0 : 0 ≤ q.toInt) (h : P ≤ q.toInt) : ¬ p < (-q) := by
  have c := c_lneg q
  have b1 := Int64.toInt_lt (-q)
  have b2 := Int64.le_toInt (-q)
  have b3 := Int64.toInt_lt q
  rw [Int64.lt_iff_toInt_lt, e]
  omega
theorem own_rm {x y : Int64} (hx : 0 ≤ x.toInt) (hy : 0 < y.toInt) : (x % y).toInt = x.toInt % y.toInt := by
  rw [Int64.toInt_mod, Int.tmod_eq_emod_of_nonneg hx]
theorem own_wn {K PL : Int64} (hk : 0 ≤ K.toInt) (h1 : 1 ≤ PL.toInt) (h2 : PL.toInt ≤ 1000000000) : (((K % PL) * (7919 : Int64)) % PL).toInt = (K.toInt % PL.toInt * 7919) % PL.toInt := by
  have a := own_rm hk (show 0 < PL.toInt by omega)
  have b1 := Int.emod_nonneg K.toInt (show PL.toInt ≠ 0 by omega)
  have b2 := Int.emod_lt_of_pos K.toInt (show 0 < PL.toInt by omega)
  have e : (7919 : Int64).toInt = 7919 := by decide
  have m : ((K % PL) * (7919 : Int64)).toInt = K.toInt % PL.toInt * 7919 := by
    rw [Int64.toInt_mul, a, e, Int.bmod_eq_of_le (by omega) (by omega)]
  rw [own_rm (by rw [m]; omega) (by omega), m]
theorem own_wl {K PL : Int64} (hk : 0 ≤ K.toInt) (h1 : 1 ≤ PL.toInt) (h2 : PL.toInt ≤ 1000000000) : (((K % PL) * ((7919 : Int64) % PL)) % PL) = (((K % PL) * (7919 : Int64)) % PL) := by
  apply Int64.toInt_inj.mp
  rw [own_wn hk h1 h2]
  have a := own_rm hk (show 0 < PL.toInt by omega)
  have b1 := Int.emod_nonneg K.toInt (show PL.toInt ≠ 0 by omega)
  have b2 := Int.emod_lt_of_pos K.toInt (show 0 < PL.toInt by omega)
  have e : (7919 : Int64).toInt = 7919 := by decide
  have d := own_rm (x := 7919) (y := PL) (by decide) (show 0 < PL.toInt by omega)
  rw [e] at d
  have d1 := Int.emod_nonneg 7919 (show PL.toInt ≠ 0 by omega)
  have d2 : (7919 : Int) % PL.toInt ≤ 7919 := by rw [Int.emod_def]; exact Int.sub_le_self _ (Int.mul_nonneg (by omega) (Int.ediv_nonneg (by decide) (by omega)))
  have m : ((K % PL) * ((7919 : Int64) % PL)).toInt = K.toInt % PL.toInt * (7919 % PL.toInt) := by
    have u : K.toInt % PL.toInt * (7919 % PL.toInt) ≤ 1000000000 * 7919 := Int.mul_le_mul (by omega) d2 d1 (by omega)
    have w : 0 ≤ K.toInt % PL.toInt * (7919 % PL.toInt) := Int.mul_nonneg b1 d1
    rw [Int64.toInt_mul, a, d, Int.bmod_eq_of_le (by omega) (by omega)]
  rw [own_rm (by rw [m]; exact Int.mul_nonneg b1 d1) (by omega), m]
  rw [Int.mul_emod (K.toInt % PL.toInt) (7919 % PL.toInt), Int.emod_emod_of_dvd 7919 (Int.dvd_refl _), ← Int.mul_emod]
theorem own_oi {M : Int} (h0 : 0 ≤ M) (h1 : M < 10000000000) : (Int64.ofInt M).toInt = M := by
  rw [Int64.toInt_ofInt, show Int64.size = 18446744073709551616 from rfl, Int.bmod_eq_of_le (by omega) (by omega)]
theorem own_dm (M : Int) : (own_dg M &&& (255 : Int32)) = own_dg M := by
  apply Int32.toInt_inj.mp
  have c := c_mask (own_dg M) 255 8 (by decide) (by decide)
  have e := own_dgi M
  omega
theorem own_step {M M' : Int} (h : M' = M / 10) (h0 : 0 ≤ M) (h1 : M < 1000000000) : ((Int64.ofInt M') * (10 : Int64)) + ((own_dg M &&& (255 : Int32)) - (48 : Int32)).toInt64 = Int64.ofInt M := by
  apply Int64.toInt_inj.mp
  rw [own_oi h0 (by omega), own_dm]
  have e := own_dgi M
  have c := c_isub (own_dg M) 48
  have b1 := Int32.toInt_lt (own_dg M - 48)
  have b2 := Int32.le_toInt (own_dg M - 48)
  have e48 : (48 : Int32).toInt = 48 := by decide
  have i := c_i2l (own_dg M - 48)
  have e10 : (10 : Int64).toInt = 10 := by decide
  have mm : ((Int64.ofInt M') * (10 : Int64)).toInt = M' * 10 := by
    rw [Int64.toInt_mul, own_oi (by omega) (by omega), e10, Int.bmod_eq_of_le (by omega) (by omega)]
  rw [Int64.toInt_add, mm, i, Int.bmod_eq_of_le (by omega) (by omega)]
  omega
theorem own_d1 (M : Int) : ¬ (own_dg M &&& (255 : Int32)) < (48 : Int32) := by
  rw [own_dm, Int32.lt_iff_toInt_lt, own_dgi]
  have e48 : (48 : Int32).toInt = 48 := by decide
  omega
theorem own_d2 (M : Int) : ¬ (57 : Int32) < (own_dg M &&& (255 : Int32)) := by
  rw [own_dm, Int32.lt_iff_toInt_lt, own_dgi]
  have e48 : (57 : Int32).toInt = 57 := by decide
  omega
theorem own_v0 {M : Int} (h0 : 0 ≤ M) (h1 : M < 1000000000) : ¬ Int64.ofInt M < (0 : Int64) := own_ge0 (by rw [own_oi h0 (by omega)]; exact h0)
theorem own_elemR {args : Array Value} {s : State} {t u : Term} {j : Nat} {x : Addr} {cl : Cell} {ty : FieldType} {v : Int32} (h : (Jvm.Cond.eq (Term.elem t (Term.index 0)) u).value args s none s [j] = some true) (ev : t.eval args s none [j] s = some (.ref x)) (A : Arr s s.heap x cl ty) (hl : cl.slots.size < 2 ^ 31) (hj : j < cl.slots.size) (eu : u.eval args s none [j] s = some (.int v)) : cl.slots[j]? = some (.int v) := by
  obtain ⟨a, b, h1, h2, k1, k2⟩ := cmp_v (Or.inl h)
  have q := elem_in h1 ev (Term.index_eval j) A.1
  have ej : j.toInt32.toNatClampNeg = j := by have := len_toInt (show j < 2 ^ 31 by omega); simp only [Int32.toNatClampNeg]; omega
  rw [ej] at q
  rw [q.2]
  cases eu.symm.trans h2
  simp only [Cond.value, h1, h2] at h
  cases a <;> simp_all [Kin, Value.isRef]
theorem own_dtab {args a0 : Array Value} {s : State} {nm : String} {rhs : Term} {F : Nat → Nat} (hx : (Jvm.Cond.exactly (.static "java/lang/Integer" nm "[B") "[B").before args s = true) (hl : (Jvm.Cond.eq (.length (.static "java/lang/Integer" nm "[B")) (.int 100)).before args s = true)
    (ha : (Jvm.Cond.all (.static "java/lang/Integer" nm "[B") (.eq (.elem (.static "java/lang/Integer" nm "[B") (.index 0)) rhs)).before args s = true) (harr : (Jvm.Cond.arrayClass .byte).before a0 s = true) (hr : ∀ r, r < 100 → rhs.eval args s none [r] s = some (.int (Int32.ofNat (F r)))) (hF : ∀ r, r < 100 → fits .byte (.int (Int32.ofNat (F r))) = true) :
    ∃ (d : Addr) (k : ClassId), (Term.static "java/lang/Integer" nm "[B").eval args s none [] s = some (.ref d) ∧ Arv s s.heap d k .byte 100 ((List.range 100).map fun r => Value.int (Int32.ofNat (F r))) (.int 0) := by
  obtain ⟨d, cB, D, kB, hev, hfcB, hcellD, hkB, hstatD, hclsD, -⟩ := Cond.exactly_spec hx
  obtain ⟨d', D', hev', harrAt, hlen⟩ := Term.length_spec (Cond.eq_int hl rfl)
  cases hev.symm.trans hev'
  obtain ⟨hcellD', hknD, -, -⟩ := State.arrayAt?_spec harrAt
  cases hcellD.symm.trans hcellD'
  obtain ⟨cB', kB', comp, hnameB, hkB', hkindB⟩ := Cond.arrayClass_spec harr
  rw [show ("[" ++ FieldType.toString .byte) = "[B" from by decide] at hnameB
  cases hfcB.symm.trans hnameB
  cases hkB.symm.trans hkB'
  have A : Arr s s.heap d D .byte := ⟨hcellD, ⟨(fun q h => by rw [h] at hstatD; cases hstatD), kB, (by rw [hclsD]; exact hkB), comp, hkindB⟩, hknD⟩
  obtain ⟨lt, sz⟩ := own_len (Cond.before_iff.mp hl) hev A
  have hsz : D.slots.size = 100 := by
    have q := len_toInt lt
    rw [sz] at q
    have e : (100 : Int32).toInt = 100 := by decide
    omega
  refine ⟨d, D.cls, hev, D, A, rfl, by rw [hsz]; rfl, by decide, ?_, ?_⟩
  · intro k hk
    have hk2 : k < 100 := by omega
    have e := Cond.all_elim hev (A.fin (Vm.Alike.refl _)) (Cond.before_iff.mp ha) k (by omega)
    rw [own_elemR e (own_idx hev [k]) A lt (by omega) (hr k hk2)]
    simp [List.getD, hk2]
  · intro i hi
    have hi2 : i < 100 := by omega
    have q := hF i hi2
    simpa [List.getD, hi2] using q
theorem own_onum : ∀ r, r < 100 → (48 : Int32) + Int32.ofNat r % 10 = Int32.ofNat (48 + r % 10) := by decide +kernel
theorem own_tnum : ∀ r, r < 100 → (48 : Int32) + Int32.ofNat r / 10 = Int32.ofNat (48 + r / 10) := by decide +kernel
theorem own_t1 {args a0 : Array Value} {s : State} (hx : (Jvm.Cond.exactly (.static "java/lang/Integer" "DigitOnes" "[B") "[B").before args s = true) (hl : (Jvm.Cond.eq (.length (.static "java/lang/Integer" "DigitOnes" "[B")) (.int 100)).before args s = true)
    (ha : (Jvm.Cond.all (.static "java/lang/Integer" "DigitOnes" "[B") (.eq (.elem (.static "java/lang/Integer" "DigitOnes" "[B") (.index 0)) (.add (.int 48) (.rem (.index 0) (.int 10))))).before args s = true) (harr : (Jvm.Cond.arrayClass .byte).before a0 s = true) :
    ∃ (d : Addr) (k : ClassId), (Term.static "java/lang/Integer" "DigitOnes" "[B").eval args s none [] s = some (.ref d) ∧ Arv s s.heap d k .byte 100 own_ones (.int 0) :=
  own_dtab (F := fun r => 48 + r % 10) hx hl ha harr (fun r hr => by rw [← own_onum r hr]; rfl) (by decide +kernel)
theorem own_t2 {args a0 : Array Value} {s : State} (hx : (Jvm.Cond.exactly (.static "java/lang/Integer" "DigitTens" "[B") "[B").before args s = true) (hl : (Jvm.Cond.eq (.length (.static "java/lang/Integer" "DigitTens" "[B")) (.int 100)).before args s = true)
    (ha : (Jvm.Cond.all (.static "java/lang/Integer" "DigitTens" "[B") (.eq (.elem (.static "java/lang/Integer" "DigitTens" "[B") (.index 0)) (.add (.int 48) (.div (.index 0) (.int 10))))).before args s = true) (harr : (Jvm.Cond.arrayClass .byte).before a0 s = true) :
    ∃ (d : Addr) (k : ClassId), (Term.static "java/lang/Integer" "DigitTens" "[B").eval args s none [] s = some (.ref d) ∧ Arv s s.heap d k .byte 100 own_tens (.int 0) :=
  own_dtab (F := fun r => 48 + r / 10) hx hl ha harr (fun r hr => by rw [← own_tnum r hr]; rfl) (by decide +kernel)
def own_L (n : Nat) (g : Nat → Int32) : List Value := (List.range n).map fun i => Value.int (g i)
theorem own_Ll {n : Nat} {g : Nat → Int32} : (own_L n g).length = n := by simp [own_L]
theorem own_Lg {n : Nat} {g : Nat → Int32} {i : Nat} (h : i < n) : (own_L n g).getD i (.int 0) = .int (g i) := by
  simp [own_L, List.getD_eq_getElem?_getD, h]
theorem own_Lset {n : Nat} {g g' : Nat → Int32} {j : Nat} {v : Int32} (hg : ∀ i, (if i = j then v else g i) = g' i) : (own_L n g).set j (.int v) = own_L n g' := by
  apply List.ext_getElem
  · simp [own_L]
  · intro i h1 h2
    have q := hg i
    simp only [own_L, List.getElem_set, List.getElem_map, List.getElem_range]
    by_cases e : j = i
    · subst e
      rw [if_pos rfl] at q ⊢
      rw [q]
    · rw [if_neg e]
      rw [if_neg (fun z => e z.symm)] at q
      rw [q]
theorem own_Aset {Z : State} {h h' : Heap} {a : Addr} {c : Cell} {k : ClassId} {ty : FieldType} {z j v : Int32} {g g' : Nat → Int32} {dv : Value} (A : Arr Z h a c ty) (q1 : c.cls = k) (S : c.slots.size = z.toNatClampNeg) (q3 : ¬ z < 0) (H : Has c (own_L z.toNatClampNeg g) dv) (G : ∀ i, i < c.slots.size → fits ty ((own_L z.toNatClampNeg g).getD i dv) = true) (hv : fits ty (.int v) = true) (W : Wr h h' a j.toNatClampNeg (.int v))
    (hg : ∀ i, (if i = j.toNatClampNeg then v else g i) = g' i) (hj : j.toNatClampNeg < z.toNatClampNeg) : Arv Z h' a k ty z (own_L z.toNatClampNeg g') dv := by
  have q := Arv.set A q1 S q3 H G hv W j.toNatClampNeg rfl (by rw [own_Ll]; exact hj)
  rw [own_Lset hg] at q
  exact q
theorem Asg {Z : State} {h : Heap} {a : Addr} {kk : ClassId} {z j : Int32} {dv : Value} {ty : FieldType} {h' : Heap} {v : Int32} {g g' : Nat → Int32} (A : Arv Z h a kk ty z (own_L z.toNatClampNeg g) dv) (hv : fits ty (.int v) = true) (W : Wr h h' a j.toNatClampNeg (.int v)) (hg : ∀ i, (if i = j.toNatClampNeg then v else g i) = g' i) (hj : j.toNatClampNeg < z.toNatClampNeg) : Arv Z h' a kk ty z (own_L z.toNatClampNeg g') dv := by
  obtain ⟨c, A, q1, S, q3, H, G⟩ := A
  exact own_Aset A q1 S q3 H G hv W hg hj
theorem own_Acv {Z : State} {h : Heap} {a : Addr} {k : ClassId} {ty : FieldType} {z : Int32} {n : Nat} {g g' : Nat → Int32} {dv : Value} (A : Arv Z h a k ty z (own_L n g) dv) (hg : ∀ i, g i = g' i) : Arv Z h a k ty z (own_L n g') dv := by
  have e : g = g' := funext hg
  exact e ▸ A
def own_M (q : Int64) : Int := if q.toInt < 0 then -q.toInt else q.toInt
def own_w (M : Int) (p m : Nat) (g : Nat → Int32) (i : Nat) : Int32 := if p ≤ i + m ∧ i < p then own_dg (M / 10 ^ (p - 1 - i)) else g i
def own_gf (q : Int64) (p m : Nat) (g : Nat → Int32) (i : Nat) : Int32 := if q.toInt < 0 ∧ i + m + 1 = p then (45 : Int32) else own_w (own_M q) p m g i
def own_isnd (M : Int) (m : Nat) : Prop := 1 ≤ m ∧ m ≤ 19 ∧ M / 10 ^ m = 0 ∧ (m = 1 ∨ 1 ≤ M / 10 ^ (m - 1))
theorem own_M0 (q : Int64) : 0 ≤ own_M q ∧ own_M q < 10000000000000000000 := by
  have h1 := Int64.toInt_lt q
  have h2 := Int64.le_toInt q
  unfold own_M
  by_cases h : q.toInt < 0
  · rw [if_pos h]; omega
  · rw [if_neg h]; omega
theorem own_pow0 (m : Nat) : (0 : Int) < 10 ^ m := Int.pow_pos (by decide)
theorem own_ed (M : Int) (m : Nat) : M / 10 ^ (m + 1) = M / 10 ^ m / 10 := by
  rw [Int.pow_succ, Int.ediv_ediv_of_nonneg (Int.le_of_lt (own_pow0 m))]
theorem own_N0 (q : Int64) (m : Nat) : 0 ≤ own_M q / 10 ^ m := Int.ediv_nonneg (own_M0 q).1 (Int.le_of_lt (own_pow0 m))
theorem own_bd {q : Int64} {m k : Nat} (hk : k ≤ 19) (h : (10 : Int) ^ k ≤ own_M q / 10 ^ m) : m + k < 19 + 0 ∨ m + k ≤ 18 := by
  right
  refine Nat.le_of_lt_succ (Nat.lt_of_not_le fun hc => ?_)
  have h1 : (10 : Int) ^ k * 10 ^ m ≤ own_M q := Int.le_trans (Int.mul_le_mul_of_nonneg_right h (Int.le_of_lt (own_pow0 m))) (Int.ediv_mul_le _ (Int.ne_of_gt (own_pow0 m)))
  rw [← Int.pow_add] at h1
  have h2 : (10 : Int) ^ 19 ≤ 10 ^ (k + m) := by
    have := Nat.pow_le_pow_right (n := 10) (by decide) (show 19 ≤ k + m by omega)
    exact_mod_cast this
  have h3 := (own_M0 q).2
  have h4 : (10 : Int) ^ 19 = 10000000000000000000 := by decide
  omega
theorem own_mb1 {q : Int64} {m : Nat} (h : m = 0 ∨ 1 ≤ own_M q / 10 ^ m) : m ≤ 18 := by
  rcases h with h | h
  · omega
  · have := own_bd (q := q) (m := m) (k := 0) (by decide) (by simpa using h)
    omega
theorem own_mb2 {q : Int64} {m : Nat} (h : 10 ≤ own_M q / 10 ^ m) : m ≤ 17 := by
  have := own_bd (q := q) (m := m) (k := 1) (by decide) (by simpa using h)
  omega
theorem own_mb3 {q : Int64} {m : Nat} (h : 100 ≤ own_M q / 10 ^ m) : m ≤ 16 := by
  have := own_bd (q := q) (m := m) (k := 2) (by decide) (by simpa using h)
  omega
theorem own_dec {cp p1 : Int32} {m : Nat} (h : cp.toInt = p1.toInt - (m : Int)) (h0 : 20 ≤ p1.toInt) (h1 : p1.toInt ≤ 100) (hm : m ≤ 19) : (cp + (-1 : Int32)).toInt = p1.toInt - ((m + 1 : Nat) : Int) := by
  have c := c_iadd cp (-1 : Int32)
  have e : (-1 : Int32).toInt = -1 := by decide
  have b1 := Int32.toInt_lt (cp + (-1 : Int32))
  have b2 := Int32.le_toInt (cp + (-1 : Int32))
  rw [e] at c
  push_cast
  omega
theorem own_inb {j n p1 : Int32} {m : Nat} (h : j.toInt = p1.toInt - ((m + 1 : Nat) : Int)) (h0 : 20 ≤ p1.toInt) (hn : p1.toInt ≤ n.toInt) (hm : m ≤ 19) : ¬ j < 0 ∧ j < n := by
  have e : (0 : Int32).toInt = 0 := by decide
  rw [Int32.lt_iff_toInt_lt, Int32.lt_iff_toInt_lt, e]
  push_cast at h
  omega
theorem own_jl {j n p1 : Int32} {m : Nat} (h : j.toInt = p1.toInt - ((m + 1 : Nat) : Int)) (h0 : 20 ≤ p1.toInt) (hn : p1.toInt ≤ n.toInt) (hm : m ≤ 19) : j.toNatClampNeg < n.toNatClampNeg := by
  push_cast at h
  simp only [Int32.toNatClampNeg]
  omega
theorem own_je {j p1 : Int32} {m : Nat} (h : j.toInt = p1.toInt - ((m + 1 : Nat) : Int)) (h0 : 20 ≤ p1.toInt) (hm : m ≤ 19) : j.toNatClampNeg + m + 1 = p1.toNatClampNeg := by
  push_cast at h
  simp only [Int32.toNatClampNeg]
  omega
theorem own_wT {M : Int} {j p1 : Int32} {m : Nat} {g : Nat → Int32} (h : j.toInt = p1.toInt - ((m + 1 : Nat) : Int)) (h0 : 20 ≤ p1.toInt) (hm : m ≤ 19) : ∀ i, (if i = j.toNatClampNeg then own_dg (M / 10 ^ m) else own_w M p1.toNatClampNeg m g i) = own_w M p1.toNatClampNeg (m + 1) g i := by
  intro i
  have e := own_je h h0 hm
  generalize j.toNatClampNeg = y at e ⊢
  generalize p1.toNatClampNeg = p at e ⊢
  unfold own_w
  by_cases q : i = y
  · rw [if_pos q, if_pos (by omega), show p - 1 - i = m by omega]
  · rw [if_neg q]
    by_cases r : p ≤ i + m ∧ i < p
    · rw [if_pos r, if_pos (by omega)]
    · rw [if_neg r, if_neg (by omega)]
theorem own_gS {q : Int64} {j p1 : Int32} {m : Nat} {g : Nat → Int32} (h : j.toInt = p1.toInt - ((m + 1 : Nat) : Int)) (h0 : 20 ≤ p1.toInt) (hm : m ≤ 19) (hq : q.toInt < 0) : ∀ i, (if i = j.toNatClampNeg then (45 : Int32) else own_w (own_M q) p1.toNatClampNeg m g i) = own_gf q p1.toNatClampNeg m g i := by
  intro i
  have e := own_je h h0 hm
  generalize j.toNatClampNeg = y at e ⊢
  generalize p1.toNatClampNeg = p at e ⊢
  unfold own_gf
  by_cases r : i = y
  · rw [if_pos r, if_pos ⟨hq, by omega⟩]
  · rw [if_neg r, if_neg (fun z => r (by omega))]
theorem own_gP {q : Int64} {p m : Nat} {g : Nat → Int32} (hq : ¬ q.toInt < 0) : ∀ i, own_w (own_M q) p m g i = own_gf q p m g i := fun i => by
  unfold own_gf
  rw [if_neg (fun z => hq z.1)]
theorem own_w0 {M : Int} {p : Nat} {g : Nat → Int32} : ∀ i, g i = own_w M p 0 g i := fun i => by
  unfold own_w
  rw [if_neg (by omega)]
theorem own_tenat' {r : Int32} {M : Int} {m : Nat} (h : r.toInt = M / 10 ^ m % 100) : own_tens.getD r.toNatClampNeg (.int 0) = .int (own_dg (M / 10 ^ (m + 1))) := by
  rw [own_ed]; exact own_tenat h
theorem own_rJ {i : Int64} {N : Int} (h : i.toInt = -N) (h0 : 0 ≤ N) : (((i / (100 : Int64)) * (100 : Int64)) - i).toInt32.toInt = N % 100 := by
  have e : (100 : Int64).toInt = 100 := by decide
  have hb := Int64.le_toInt i
  have d := c_ldiv i (100 : Int64) 100 e (by decide)
  have dq : (i / (100 : Int64)).toInt = -(N / 100) := by
    rcases Int.lt_or_le i.toInt 0 with z | z
    · rw [d.2 z, h, Int.neg_neg]
    · have : N = 0 := by omega
      rw [d.1 z, h, this]; rfl
  generalize i / (100 : Int64) = y at dq ⊢
  have m := c_lmul y (100 : Int64)
  rw [e] at m
  generalize y * (100 : Int64) = w at m ⊢
  have w0 := Int64.toInt_lt w
  have w1 := Int64.le_toInt w
  have s := c_lsub w i
  generalize w - i = u at s ⊢
  have u0 := Int64.toInt_lt u
  have u1 := Int64.le_toInt u
  have l := c_l2i u
  have v0 := Int32.toInt_lt u.toInt32
  have v1 := Int32.le_toInt u.toInt32
  omega
theorem own_qJ {i : Int64} {M : Int} {m : Nat} (h : i.toInt = -(M / 10 ^ m)) (h0 : 0 ≤ M / 10 ^ m) : (i / (100 : Int64)).toInt = -(M / 10 ^ (m + 1 + 1)) := by
  have e : (100 : Int64).toInt = 100 := by decide
  rw [own_ed, own_ed]
  generalize M / 10 ^ m = N at h h0 ⊢
  have d := c_ldiv i (100 : Int64) 100 e (by decide)
  rcases Int.lt_or_le i.toInt 0 with z | z
  · rw [d.2 z, h, Int.neg_neg]; omega
  · have : N = 0 := by omega
    rw [d.1 z, h, this]; rfl
theorem own_rI {i : Int32} {N : Int} (h : i.toInt = -N) (h0 : 0 ≤ N) : (((i / (100 : Int32)) * (100 : Int32)) - i).toInt = N % 100 := by
  have e : (100 : Int32).toInt = 100 := by decide
  have hb := Int32.le_toInt i
  have d := c_idiv i (100 : Int32) 100 e (by decide)
  have dq : (i / (100 : Int32)).toInt = -(N / 100) := by
    rcases Int.lt_or_le i.toInt 0 with z | z
    · rw [d.2 z, h, Int.neg_neg]
    · have : N = 0 := by omega
      rw [d.1 z, h, this]; rfl
  generalize i / (100 : Int32) = y at dq ⊢
  have m := c_imul y (100 : Int32)
  rw [e] at m
  generalize y * (100 : Int32) = w at m ⊢
  have w0 := Int32.toInt_lt w
  have w1 := Int32.le_toInt w
  have s := c_isub w i
  generalize w - i = u at s ⊢
  have u0 := Int32.toInt_lt u
  have u1 := Int32.le_toInt u
  omega
theorem own_qI {i : Int32} {M : Int} {m : Nat} (h : i.toInt = -(M / 10 ^ m)) (h0 : 0 ≤ M / 10 ^ m) : (i / (100 : Int32)).toInt = -(M / 10 ^ (m + 1 + 1)) := by
  have e : (100 : Int32).toInt = 100 := by decide
  rw [own_ed, own_ed]
  generalize M / 10 ^ m = N at h h0 ⊢
  have d := c_idiv i (100 : Int32) 100 e (by decide)
  rcases Int.lt_or_le i.toInt 0 with z | z
  · rw [d.2 z, h, Int.neg_neg]; omega
  · have : N = 0 := by omega
    rw [d.1 z, h, this]; rfl
theorem own_hiP {q : Int64} (h : ¬ q < (0 : Int64)) : (-q).toInt = -(own_M q / 10 ^ 0) ∧ ¬ q.toInt < 0 := by
  have e : (0 : Int64).toInt = 0 := by decide
  rw [Int64.lt_iff_toInt_lt, e] at h
  have c := c_lneg q
  have b1 := Int64.toInt_lt (-q)
  have b2 := Int64.le_toInt (-q)
  have b3 := Int64.toInt_lt q
  refine ⟨?_, h⟩
  unfold own_M
  rw [if_neg h, Int.pow_zero, Int.ediv_one]
  omega
theorem own_hiN {q : Int64} (h : q < (0 : Int64)) : q.toInt = -(own_M q / 10 ^ 0) ∧ q.toInt < 0 := by
  have e : (0 : Int64).toInt = 0 := by decide
  rw [Int64.lt_iff_toInt_lt, e] at h
  refine ⟨?_, h⟩
  unfold own_M
  rw [if_pos h, Int.pow_zero, Int.ediv_one, Int.neg_neg]
theorem own_hi10 {i : Int64} {N : Int} (h : i.toInt = -N) (h0 : 0 ≤ N) (hn : (-2147483648 : Int64) < i) : i.toInt32.toInt = -N := by
  have e : (-2147483648 : Int64).toInt = -2147483648 := by decide
  rw [Int64.lt_iff_toInt_lt, e] at hn
  have l := c_l2i i
  have b1 := Int32.toInt_lt i.toInt32
  have b2 := Int32.le_toInt i.toInt32
  omega
theorem own_geJ {i : Int64} {N : Int} (h : i.toInt = -N) (hn : ¬ (-2147483648 : Int64) < i) : 100 ≤ N := by
  have e : (-2147483648 : Int64).toInt = -2147483648 := by decide
  rw [Int64.lt_iff_toInt_lt, e] at hn
  omega
theorem own_geI {i : Int32} {N : Int} (h : i.toInt = -N) (hn : ¬ (-100 : Int32) < i) : 100 ≤ N := by
  have e : (-100 : Int32).toInt = -100 := by decide
  rw [Int32.lt_iff_toInt_lt, e] at hn
  omega
theorem own_ltI {i : Int32} {N : Int} (h : i.toInt = -N) (hn : (-100 : Int32) < i) : N < 100 := by
  have e : (-100 : Int32).toInt = -100 := by decide
  rw [Int32.lt_iff_toInt_lt, e] at hn
  omega
theorem own_ngI {i : Int32} {N : Int} (h : i.toInt = -N) (h0 : 0 ≤ N) (h1 : N < 100) : (-i).toInt = N % 100 := by
  have c := c_ineg i
  have b1 := Int32.toInt_lt (-i)
  have b2 := Int32.le_toInt (-i)
  omega
theorem own_fu {M : Int} {m f : Nat} (h : 100 ≤ M / 10 ^ m) (hf : (M / 10 ^ m).toNat < f + 1) : (M / 10 ^ (m + 1 + 1)).toNat < f := by
  rw [own_ed, own_ed]
  generalize M / 10 ^ m = N at h hf ⊢
  omega
theorem own_hN {M : Int} {m : Nat} (h : 100 ≤ M / 10 ^ m) : m + 1 + 1 = 0 ∨ 1 ≤ M / 10 ^ (m + 1 + 1) := by
  right
  rw [own_ed, own_ed]
  omega
theorem own_nd1 {i : Int32} {q : Int64} {m : Nat} (h : i.toInt = -(own_M q / 10 ^ m)) (hn : m = 0 ∨ 1 ≤ own_M q / 10 ^ m) (h9 : ¬ i < (-9 : Int32)) : own_isnd (own_M q) (m + 1) := by
  have e : (-9 : Int32).toInt = -9 := by decide
  rw [Int32.lt_iff_toInt_lt, e] at h9
  have n0 := own_N0 q m
  have b := own_mb1 hn
  refine ⟨by omega, by omega, by rw [own_ed]; omega, ?_⟩
  rcases hn with z | z
  · exact Or.inl (by omega)
  · exact Or.inr z
theorem own_ten {i : Int32} {N : Int} (h : i.toInt = -N) (h9 : i < (-9 : Int32)) : 10 ≤ N := by
  have e : (-9 : Int32).toInt = -9 := by decide
  rw [Int32.lt_iff_toInt_lt, e] at h9
  omega
theorem own_nd2 {i : Int32} {q : Int64} {m : Nat} (h : i.toInt = -(own_M q / 10 ^ m)) (h9 : i < (-9 : Int32)) (h100 : own_M q / 10 ^ m < 100) : own_isnd (own_M q) (m + 1 + 1) := by
  have n0 := own_N0 q m
  have t := own_ten h h9
  have b := own_mb2 t
  refine ⟨by omega, by omega, by rw [own_ed, own_ed]; omega, Or.inr ?_⟩
  show 1 ≤ own_M q / 10 ^ (m + 1)
  rw [own_ed]; omega
def own_lit (l : List Int32) (i : Nat) : Int32 := l.getD i (0 : Int32)
abbrev qL0 : Nat → Int32 := own_lit [110, 111, 116, 32, 97, 112, 112, 108, 105, 101, 100, 44, 32, 97, 116, 32, 118, 101, 114, 115, 105, 111, 110, 32]
abbrev qL1 : Nat → Int32 := own_lit [97, 112, 112, 108, 105, 101, 100, 44, 32, 97, 116, 32, 118, 101, 114, 115, 105, 111, 110, 32]
abbrev qL2 : Nat → Int32 := own_lit [97, 112, 112, 108, 105, 101, 100, 44, 32, 97, 116, 32, 118, 101, 114, 115, 105, 111, 110, 32, 0, 0, 0, 0, 0, 0, 0, 0, 0, 0, 0, 0, 0, 0]
abbrev qL3 : Nat → Int32 := own_lit [110, 111, 116, 32, 97, 112, 112, 108, 105, 101, 100, 44, 32, 97, 116, 32, 118, 101, 114, 115, 105, 111, 110, 32, 0, 0, 0, 0, 0, 0, 0, 0, 0, 0]
theorem own_shl0 (n : Int32) : n <<< ((0 : Int32) &&& 31) = n := by
  have c := c_ishl n 0 0 (by decide)
  apply Int32.toInt_inj.mp
  have b1 := Int32.toInt_lt (n <<< ((0 : Int32) &&& 31))
  have b2 := Int32.le_toInt (n <<< ((0 : Int32) &&& 31))
  have b3 := Int32.toInt_lt n
  have b4 := Int32.le_toInt n
  omega
theorem own_sub0 (n : Int32) : n - (0 : Int32) = n := by
  have c := c_isub n 0
  have e : (0 : Int32).toInt = 0 := by decide
  rw [e] at c
  apply Int32.toInt_inj.mp
  have b1 := Int32.toInt_lt (n - (0 : Int32))
  have b2 := Int32.le_toInt (n - (0 : Int32))
  have b3 := Int32.toInt_lt n
  have b4 := Int32.le_toInt n
  omega
theorem own_new {Z : State} {h : Heap} {a : Addr} {k : ClassId} {z : Int32} (A : Arv Z h a k .byte z [] (.int 0)) : Arv Z h a k .byte z (own_L z.toNatClampNeg (fun _ => (0 : Int32))) (.int 0) := by
  refine A.pad fun i => ?_
  by_cases q : i < z.toNatClampNeg
  · rw [own_Lg q]; rfl
  · rw [List.getD_eq_getElem?_getD, List.getElem?_eq_none (by rw [own_Ll]; omega)]; rfl
theorem own_z0 : (0 : Int32).toNatClampNeg = 0 := by decide
theorem own_cl0 {u : Int32} : (0 : Int32).toNatClampNeg + u.toNatClampNeg ≤ u.toNatClampNeg := by rw [own_z0]; omega
theorem own_cl {u n : Int32} (h : u < n) : (0 : Int32).toNatClampNeg + u.toNatClampNeg ≤ n.toNatClampNeg := by
  rw [Int32.lt_iff_toInt_lt] at h
  rw [own_z0]
  simp only [Int32.toNatClampNeg]
  omega
theorem own_c44 {u : Int32} (h : u.toInt ≤ 44) : u.toNatClampNeg ≤ 44 := by
  simp only [Int32.toNatClampNeg]; omega
theorem own_nen {u n : Int32} (h : u < n) : ¬ u = n := fun e => by
  rw [e, Int32.lt_iff_toInt_lt] at h; omega
theorem own_cpl {u n : Int32} {g : Nat → Int32} (h : u < n) : (own_L u.toNatClampNeg (fun _ => (0 : Int32))).take (0 : Int32).toNatClampNeg ++ ((List.range u.toNatClampNeg).map fun i => (own_L n.toNatClampNeg g).getD ((0 : Int32).toNatClampNeg + i) (.int 0)) ++ (own_L u.toNatClampNeg (fun _ => (0 : Int32))).drop ((0 : Int32).toNatClampNeg + u.toNatClampNeg) = own_L u.toNatClampNeg g := by
  have c := own_cl h
  rw [own_z0] at c ⊢
  rw [List.take_zero, List.nil_append, List.drop_of_length_le (by rw [own_Ll]; omega), List.append_nil]
  unfold own_L
  apply List.map_congr_left
  intro i hi
  have hi := List.mem_range.mp hi
  have e : (own_L n.toNatClampNeg g).getD (0 + i) (.int 0) = .int (g (0 + i)) := own_Lg (by omega)
  rw [Nat.zero_add] at e ⊢
  exact e
theorem own_ixv {n k : Int32} (hk : 0 ≤ k.toInt ∧ k.toInt ≤ 43) (hn : 0 < n.toInt ∧ n.toInt ≤ 100) : ((n - (1 : Int32)) - k).toInt = n.toInt - 1 - k.toInt := by
  have e : (1 : Int32).toInt = 1 := by decide
  have c1 := c_isub n (1 : Int32)
  rw [e] at c1
  generalize n - (1 : Int32) = y at c1 ⊢
  have y0 := Int32.toInt_lt y
  have y1 := Int32.le_toInt y
  have c2 := c_isub y k
  have z0 := Int32.toInt_lt (y - k)
  have z1 := Int32.le_toInt (y - k)
  omega
theorem own_ix1 {n k : Int32} (hk : 0 ≤ k.toInt ∧ k.toInt ≤ 43) (hn : 0 < n.toInt ∧ n.toInt ≤ 100) (h : k < n) : ¬ ((n - (1 : Int32)) - k) < (0 : Int32) ∧ ((n - (1 : Int32)) - k) < n := by
  have e : (0 : Int32).toInt = 0 := by decide
  have v := own_ixv hk hn
  rw [Int32.lt_iff_toInt_lt] at h
  rw [Int32.lt_iff_toInt_lt, Int32.lt_iff_toInt_lt, v, e]
  omega
theorem own_ipv {np d k : Int32} (hk : 0 ≤ k.toInt ∧ k.toInt ≤ 43) (hn : 0 < np.toInt ∧ np.toInt ≤ 100) (hd : 0 ≤ d.toInt) (h : d.toInt ≤ k.toInt) : ((np - (1 : Int32)) - (k - d)).toInt = np.toInt - 1 - k.toInt + d.toInt := by
  have e : (1 : Int32).toInt = 1 := by decide
  have c1 := c_isub np (1 : Int32)
  rw [e] at c1
  generalize np - (1 : Int32) = y at c1 ⊢
  have y0 := Int32.toInt_lt y
  have y1 := Int32.le_toInt y
  have c3 := c_isub k d
  generalize k - d = w at c3 ⊢
  have w0 := Int32.toInt_lt w
  have w1 := Int32.le_toInt w
  have c2 := c_isub y w
  have z0 := Int32.toInt_lt (y - w)
  have z1 := Int32.le_toInt (y - w)
  omega
theorem own_ix2 {n np nd d k : Int32} (hk : 0 ≤ k.toInt ∧ k.toInt ≤ 43) (hn : n.toInt = np.toInt + d.toInt ∧ 0 ≤ d.toInt ∧ 0 < np.toInt ∧ np.toInt ≤ 100 ∧ nd.toInt ≤ 19 ∧ nd.toInt ≤ d.toInt) (h : k < n) (h2 : ¬ k < d) : ¬ ((np - (1 : Int32)) - (k - d)) < (0 : Int32) ∧ ((np - (1 : Int32)) - (k - d)) < np := by
  have e : (0 : Int32).toInt = 0 := by decide
  rw [Int32.lt_iff_toInt_lt] at h h2
  have v := own_ipv (np := np) (d := d) hk ⟨hn.2.2.1, hn.2.2.2.1⟩ hn.2.1 (by omega)
  rw [Int32.lt_iff_toInt_lt, Int32.lt_iff_toInt_lt, v, e]
  omega
theorem own_ltn {j n : Int32} (h : ¬ j < (0 : Int32) ∧ j < n) : j.toNatClampNeg < n.toNatClampNeg := by
  have e : (0 : Int32).toInt = 0 := by decide
  obtain ⟨h1, h2⟩ := h
  rw [Int32.lt_iff_toInt_lt] at h1 h2
  simp only [Int32.toNatClampNeg]
  omega
theorem own_pin {n np nd d k : Int32} (hk : 0 ≤ k.toInt ∧ k.toInt ≤ 43) (hn : n.toInt = np.toInt + d.toInt ∧ 0 ≤ d.toInt ∧ 0 < np.toInt ∧ np.toInt ≤ 100 ∧ nd.toInt ≤ 19 ∧ nd.toInt ≤ d.toInt) (h : k < nd) : (¬ k < (0 : Int32) ∧ k < (19 : Int32)) ∧ k.toInt < 19 := by
  have e : (0 : Int32).toInt = 0 := by decide
  have e2 : (19 : Int32).toInt = 19 := by decide
  rw [Int32.lt_iff_toInt_lt] at h
  rw [Int32.lt_iff_toInt_lt, Int32.lt_iff_toInt_lt, e, e2]
  omega
theorem own_wS {Z : State} {a0 : Array Value} (hw : TW a0 Z) : ∀ a ∈ Bundle.stringAtoms, a.before a0 Z = true := by
  intro d hd
  simp only [Bundle.stringAtoms, List.mem_cons, List.not_mem_nil, or_false] at hd
  rcases hd with rfl | rfl | rfl | rfl | rfl | rfl | rfl
  · exact hw _ (List.mem_of_getElem? (i := 32) rfl)
  · exact hw _ (List.mem_of_getElem? (i := 39) rfl)
  · exact hw _ (List.mem_of_getElem? (i := 33) rfl)
  · exact hw _ (List.mem_of_getElem? (i := 40) rfl)
  · exact hw _ (List.mem_of_getElem? (i := 41) rfl)
  · exact hw _ (List.mem_of_getElem? (i := 42) rfl)
  · exact hw _ (List.mem_of_getElem? (i := 43) rfl)

theorem d23_0 : decode cD0 0 = .ok (.iload_n 2, 1) := by decide +kernel
theorem d23_1 : decode cD0 1 = .ok (.istore 7, 2) := by decide +kernel
theorem d23_3 : decode cD0 3 = .ok (.lload_n 0, 1) := by decide +kernel
theorem d23_4 : decode cD0 4 = .ok (.lconst 0, 1) := by decide +kernel
theorem d23_5 : decode cD0 5 = .ok (.lcmp, 1) := by decide +kernel
theorem d23_6 : decode cD0 6 = .ok (.ifCond .ge 7, 3) := by decide +kernel
theorem d23_9 : decode cD0 9 = .ok (.iconst 1, 1) := by decide +kernel
theorem d23_10 : decode cD0 10 = .ok (.goto 4, 3) := by decide +kernel
theorem d23_13 : decode cD0 13 = .ok (.iconst 0, 1) := by decide +kernel
theorem d23_14 : decode cD0 14 = .ok (.istore 8, 2) := by decide +kernel
theorem d23_16 : decode cD0 16 = .ok (.iload 8, 2) := by decide +kernel
theorem d23_18 : decode cD0 18 = .ok (.ifCond .ne 6, 3) := by decide +kernel
theorem d23_21 : decode cD0 21 = .ok (.lload_n 0, 1) := by decide +kernel
theorem d23_22 : decode cD0 22 = .ok (.lneg, 1) := by decide +kernel
theorem d23_23 : decode cD0 23 = .ok (.lstore_n 0, 1) := by decide +kernel
theorem d23_24 : decode cD0 24 = .ok (.lload_n 0, 1) := by decide +kernel
theorem d23_25 : decode cD0 25 = .ok (.ldc2_w 129, 3) := by decide +kernel
theorem d23_28 : decode cD0 28 = .ok (.lcmp, 1) := by decide +kernel
theorem d23_29 : decode cD0 29 = .ok (.ifCond .gt 53, 3) := by decide +kernel
theorem d23_32 : decode cD0 32 = .ok (.lload_n 0, 1) := by decide +kernel
theorem d23_33 : decode cD0 33 = .ok (.ldc2_w 131, 3) := by decide +kernel
theorem d23_36 : decode cD0 36 = .ok (.ldiv, 1) := by decide +kernel
theorem d23_37 : decode cD0 37 = .ok (.lstore 4, 2) := by decide +kernel
theorem d23_39 : decode cD0 39 = .ok (.lload 4, 2) := by decide +kernel
theorem d23_41 : decode cD0 41 = .ok (.ldc2_w 131, 3) := by decide +kernel
theorem d23_44 : decode cD0 44 = .ok (.lmul, 1) := by decide +kernel
theorem d23_45 : decode cD0 45 = .ok (.lload_n 0, 1) := by decide +kernel
theorem d23_46 : decode cD0 46 = .ok (.lsub, 1) := by decide +kernel
theorem d23_47 : decode cD0 47 = .ok (.l2i, 1) := by decide +kernel
theorem d23_48 : decode cD0 48 = .ok (.istore 6, 2) := by decide +kernel
theorem d23_50 : decode cD0 50 = .ok (.lload 4, 2) := by decide +kernel
theorem d23_52 : decode cD0 52 = .ok (.lstore_n 0, 1) := by decide +kernel
theorem d23_53 : decode cD0 53 = .ok (.aload_n 3, 1) := by decide +kernel
theorem d23_54 : decode cD0 54 = .ok (.iinc 7 (-1), 3) := by decide +kernel
theorem d23_57 : decode cD0 57 = .ok (.iload 7, 2) := by decide +kernel
theorem d23_59 : decode cD0 59 = .ok (.getstatic 133, 3) := by decide +kernel
theorem d23_62 : decode cD0 62 = .ok (.iload 6, 2) := by decide +kernel
theorem d23_64 : decode cD0 64 = .ok (.baload, 1) := by decide +kernel
theorem d23_65 : decode cD0 65 = .ok (.bastore, 1) := by decide +kernel
theorem d23_66 : decode cD0 66 = .ok (.aload_n 3, 1) := by decide +kernel
theorem d23_67 : decode cD0 67 = .ok (.iinc 7 (-1), 3) := by decide +kernel
theorem d23_70 : decode cD0 70 = .ok (.iload 7, 2) := by decide +kernel
theorem d23_72 : decode cD0 72 = .ok (.getstatic 137, 3) := by decide +kernel
theorem d23_75 : decode cD0 75 = .ok (.iload 6, 2) := by decide +kernel
theorem d23_77 : decode cD0 77 = .ok (.baload, 1) := by decide +kernel
theorem d23_78 : decode cD0 78 = .ok (.bastore, 1) := by decide +kernel
theorem d23_79 : decode cD0 79 = .ok (.goto (-55), 3) := by decide +kernel
theorem d23_82 : decode cD0 82 = .ok (.lload_n 0, 1) := by decide +kernel
theorem d23_83 : decode cD0 83 = .ok (.l2i, 1) := by decide +kernel
theorem d23_84 : decode cD0 84 = .ok (.istore 10, 2) := by decide +kernel
theorem d23_86 : decode cD0 86 = .ok (.iload 10, 2) := by decide +kernel
theorem d23_88 : decode cD0 88 = .ok (.bipush (-100), 2) := by decide +kernel
theorem d23_90 : decode cD0 90 = .ok (.if_icmp .gt 53, 3) := by decide +kernel
theorem d23_93 : decode cD0 93 = .ok (.iload 10, 2) := by decide +kernel
theorem d23_95 : decode cD0 95 = .ok (.bipush 100, 2) := by decide +kernel
theorem d23_97 : decode cD0 97 = .ok (.idiv, 1) := by decide +kernel
theorem d23_98 : decode cD0 98 = .ok (.istore 9, 2) := by decide +kernel
theorem d23_100 : decode cD0 100 = .ok (.iload 9, 2) := by decide +kernel
theorem d23_102 : decode cD0 102 = .ok (.bipush 100, 2) := by decide +kernel
theorem d23_104 : decode cD0 104 = .ok (.imul, 1) := by decide +kernel
theorem d23_105 : decode cD0 105 = .ok (.iload 10, 2) := by decide +kernel
theorem d23_107 : decode cD0 107 = .ok (.isub, 1) := by decide +kernel
theorem d23_108 : decode cD0 108 = .ok (.istore 6, 2) := by decide +kernel
theorem d23_110 : decode cD0 110 = .ok (.iload 9, 2) := by decide +kernel
theorem d23_112 : decode cD0 112 = .ok (.istore 10, 2) := by decide +kernel
theorem d23_114 : decode cD0 114 = .ok (.aload_n 3, 1) := by decide +kernel
theorem d23_115 : decode cD0 115 = .ok (.iinc 7 (-1), 3) := by decide +kernel
theorem d23_118 : decode cD0 118 = .ok (.iload 7, 2) := by decide +kernel
theorem d23_120 : decode cD0 120 = .ok (.getstatic 133, 3) := by decide +kernel
theorem d23_123 : decode cD0 123 = .ok (.iload 6, 2) := by decide +kernel
theorem d23_125 : decode cD0 125 = .ok (.baload, 1) := by decide +kernel
theorem d23_126 : decode cD0 126 = .ok (.bastore, 1) := by decide +kernel
theorem d23_127 : decode cD0 127 = .ok (.aload_n 3, 1) := by decide +kernel
theorem d23_128 : decode cD0 128 = .ok (.iinc 7 (-1), 3) := by decide +kernel
theorem d23_131 : decode cD0 131 = .ok (.iload 7, 2) := by decide +kernel
theorem d23_133 : decode cD0 133 = .ok (.getstatic 137, 3) := by decide +kernel
theorem d23_136 : decode cD0 136 = .ok (.iload 6, 2) := by decide +kernel
theorem d23_138 : decode cD0 138 = .ok (.baload, 1) := by decide +kernel
theorem d23_139 : decode cD0 139 = .ok (.bastore, 1) := by decide +kernel
theorem d23_140 : decode cD0 140 = .ok (.goto (-54), 3) := by decide +kernel
theorem d23_143 : decode cD0 143 = .ok (.aload_n 3, 1) := by decide +kernel
theorem d23_144 : decode cD0 144 = .ok (.iinc 7 (-1), 3) := by decide +kernel
theorem d23_147 : decode cD0 147 = .ok (.iload 7, 2) := by decide +kernel
theorem d23_149 : decode cD0 149 = .ok (.getstatic 133, 3) := by decide +kernel
theorem d23_152 : decode cD0 152 = .ok (.iload 10, 2) := by decide +kernel
theorem d23_154 : decode cD0 154 = .ok (.ineg, 1) := by decide +kernel
theorem d23_155 : decode cD0 155 = .ok (.baload, 1) := by decide +kernel
theorem d23_156 : decode cD0 156 = .ok (.bastore, 1) := by decide +kernel
theorem d23_157 : decode cD0 157 = .ok (.iload 10, 2) := by decide +kernel
theorem d23_159 : decode cD0 159 = .ok (.bipush (-9), 2) := by decide +kernel
theorem d23_161 : decode cD0 161 = .ok (.if_icmp .ge 17, 3) := by decide +kernel
theorem d23_164 : decode cD0 164 = .ok (.aload_n 3, 1) := by decide +kernel
theorem d23_165 : decode cD0 165 = .ok (.iinc 7 (-1), 3) := by decide +kernel
theorem d23_168 : decode cD0 168 = .ok (.iload 7, 2) := by decide +kernel
theorem d23_170 : decode cD0 170 = .ok (.getstatic 137, 3) := by decide +kernel
theorem d23_173 : decode cD0 173 = .ok (.iload 10, 2) := by decide +kernel
theorem d23_175 : decode cD0 175 = .ok (.ineg, 1) := by decide +kernel
theorem d23_176 : decode cD0 176 = .ok (.baload, 1) := by decide +kernel
theorem d23_177 : decode cD0 177 = .ok (.bastore, 1) := by decide +kernel
theorem d23_178 : decode cD0 178 = .ok (.iload 8, 2) := by decide +kernel
theorem d23_180 : decode cD0 180 = .ok (.ifCond .eq 12, 3) := by decide +kernel
theorem d23_183 : decode cD0 183 = .ok (.aload_n 3, 1) := by decide +kernel
theorem d23_184 : decode cD0 184 = .ok (.iinc 7 (-1), 3) := by decide +kernel
theorem d23_187 : decode cD0 187 = .ok (.iload 7, 2) := by decide +kernel
theorem d23_189 : decode cD0 189 = .ok (.bipush 45, 2) := by decide +kernel
theorem d23_191 : decode cD0 191 = .ok (.bastore, 1) := by decide +kernel
theorem d23_192 : decode cD0 192 = .ok (.iload 7, 2) := by decide +kernel
theorem d23_194 : decode cD0 194 = .ok (.ireturn, 1) := by decide +kernel
def Qgc (Z : State) (q0 : Int64) (p1 : Int32) (o2 : Addr) (kb : ClassId) (n : Int32) (g : Nat → Int32) (a_D1 : Addr) (k_a_D1 : ClassId) (a_D2 : Addr) (k_a_D2 : ClassId) (h0 : Heap) (n0 : Nat) : QT := fun v h L => ∃ (rv : Int32), ∃ (mm : Nat), (v = some (.int rv)) ∧ (Fr n0 L) ∧ (Keep h0 h [o2]) ∧ (Arv Z h o2 kb .byte n (own_L n.toNatClampNeg (own_gf q0 p1.toNatClampNeg mm g)) (.int 0)) ∧ (own_isnd (own_M q0) mm)
theorem rmgc (l : Launch) (Z : State) (a0 : Array Value) (hw : TW a0 Z) (ws : List Jvm.Cond) (q0 : Int64) (p1 : Int32) (o2 : Addr) (kb : ClassId) (n : Int32) (g : Nat → Int32) (a_D1 : Addr) (k_a_D1 : ClassId) (a_D2 : Addr) (k_a_D2 : ClassId) (h0 : Heap) (n0 : Nat) (Z0 : n0 ≤ h0.size) (ww : Arv Z h0 o2 kb .byte n (own_L n.toNatClampNeg g) (.int 0)) (vn : n0 ≤ o2) (va : o2 ≠ a_D1) (wT : o2 ≠ a_D2) (wv : Arv Z h0 a_D1 k_a_D1 .byte 100 own_ones (.int 0)) (wg : sHQ Z h0 (.ref a_D1)) (wn : Arv Z h0 a_D2 k_a_D2 .byte 100 own_tens (.int 0)) (wf : sIQ Z h0 (.ref a_D2)) (hp0 : 20 ≤ p1.toInt) (hp1 : p1.toInt ≤ 100) (hpn : p1.toInt ≤ n.toInt) :
  MF l mN20 jdk_35_method_14_code 11 (some .int) ws (rmm 0 0 0 0) #[.long q0, .int p1, .ref o2] Z h0 (Qgc Z q0 p1 o2 kb n g a_D1 k_a_D1 a_D2 k_a_D2 h0 n0) := by
 refine MF.of (plainFor_of_name pn_0) ?_
 intro p e s m below meth c s₁ QQ hy hml hown hZ X0 e0 hrt hlk hnm hQQ
 have hx := hy.1
 have hby := hy.2
 have N0 := Fr.nil n0
 refine Ends.i #[jv q0, ss, iv p1, rv o2, uu, uu, uu, uu, uu, uu, uu] (oC X0 hy d23_0 1 rfl (oxo X0 hy d23_1 3 #[jv q0, ss, iv p1, rv o2, uu, uu, uu, iv p1, uu, uu, uu] rfl (oE X0 hy d23_3 4 rfl (oJ X0 hy d23_4 5 0 rfl (oY X0 hy d23_5 6 ?_)))))
 by_cases hc6_1 : q0 < (0 : Int64)
 ·refine oxh X0 hy d23_6 9 (XT.ll_ge_f hc6_1) (oG X0 hy d23_9 10 1 rfl (oxm X0 hy d23_10 14 (oxo X0 hy d23_14 16 #[jv q0, ss, iv p1, rv o2, uu, uu, uu, iv p1, iv 1, uu, uu] rfl (oD X0 hy d23_16 18 rfl ?_))))
  refine Ends.step (fun _ k => XS.ifYes X0.here hx rfl (pc0 := 18) (pc' := 24) rfl (hb hby d23_18) rfl (XT.i0_ne_t (by decide)) (by decide) (by decide) k) ?_
  obtain ⟨hi2, hq2⟩ := own_hiN hc6_1
  have hp2 : (p1).toInt = p1.toInt - ((0 : Nat) : Int) := by simp
  have ww := own_Acv ww (own_w0 (M := own_M q0) (p := p1.toNatClampNeg))
  show Ends p e below QQ (s₁.setTop (mkF m 24 #[jv q0, ss, iv p1, rv o2, uu, uu, uu, iv p1, iv 1, uu, uu] []))
  refine oE X0 hy d23_24 25 rfl (oJ2 X0 hy hown hZ hw d23_25 28 (-2147483648) 140 rfl (oY X0 hy d23_28 29 ?_))
  by_cases hc29_3 : (-2147483648 : Int64) < q0
  ·refine oxk X0 hy d23_29 82 (XT.ll_gt_t hc29_3) (oE X0 hy d23_82 83 rfl (oZ X0 hy d23_83 84 ?_))
   refine Ends.step (fun _ k => XS.istore X0.here hx rfl (hb hby d23_84) rfl (l' := #[jv q0, ss, iv p1, rv o2, uu, uu, uu, iv p1, iv 1, uu, iv q0.toInt32]) rfl k) ?_
   have hI4 := own_hi10 hi2 (own_N0 q0 0) hc29_3
   show Ends p e below QQ (s₁.setTop (mkF m 86 #[jv q0, ss, iv p1, rv o2, uu, uu, uu, iv p1, iv 1, uu, iv q0.toInt32] []))
   refine oD X0 hy d23_86 88 rfl (oH X0 hy d23_88 90 (-100) rfl ?_)
   by_cases hc90_5 : (-100 : Int32) < q0.toInt32
   ·refine Ends.step (fun _ k => XS.icmpYes X0.here hx rfl (pc0 := 90) (pc' := 143) rfl (hb hby d23_90) rfl (XT.ii_gt_t hc90_5) (by decide) (by decide) k) ?_
    have hl6 := own_ltI hI4 hc90_5
    have hr6 := own_ngI hI4 (own_N0 q0 0) hl6
    have hb6 := own_mb1 (q := q0) (m := 0) (Or.inl rfl)
    show Ends p e below QQ (s₁.setTop (mkF m 143 #[jv q0, ss, iv p1, rv o2, uu, uu, uu, iv p1, iv 1, uu, iv q0.toInt32] []))
    refine oA X0 hy d23_143 144 rfl (oxz X0 hy d23_144 147 #[jv q0, ss, iv p1, rv o2, uu, uu, uu, iv (p1 + (-1 : Int32)), iv 1, uu, iv q0.toInt32] (-1) rfl rfl rfl (oD X0 hy d23_147 149 rfl (gS X0 hy hown hZ hw e0 wg d23_149 152 141 rfl fun T7 X7 e7 => oD X7 hy d23_152 154 rfl (oQ X7 hy d23_154 155 (aLB X7 hy hZ e7 wv d23_155 156 (.int (own_dg ((own_M q0) / 10 ^ 0))) (own_in hr6) (own_oneat hr6) ?_)))))
    have hj10 := own_dec hp2 hp0 hp1 (by omega : 0 ≤ 19)
    refine aSB X7 hy hZ e7 ww d23_156 157 (own_inb hj10 hp0 hpn (by omega)) fun T11 h11 X11 e11 W11 => ?_
    rw [own_nardg] at W11
    have wn := wn.other W11 (Ne.symm wT)
    have wf := wf.wr W11
    have ww : Arv Z h11 o2 kb .byte n (own_L n.toNatClampNeg (own_w (own_M q0) p1.toNatClampNeg (0 + 1) g)) (.int 0) := Asg ww (own_fitdg _) W11 (own_wT hj10 hp0 (by omega)) (own_jl hj10 hp0 hpn (by omega))
    have K11 := (Keep.refl h0 [o2]).wr W11 (Or.inl mm0)
    have N11 := Fr.snoc X11 N0 vn
    refine oD X11 hy d23_157 159 rfl (oH X11 hy d23_159 161 (-9) rfl ?_)
    by_cases hc161_12 : q0.toInt32 < (-9 : Int32)
    ·refine Ends.step (fun _ k => XS.icmpNo X11.here hx rfl (hb hby d23_161) rfl (XT.ii_ge_f hc161_12) k) ?_
     have hB13 := own_mb2 (own_ten hI4 hc161_12)
     show Ends p e below QQ (T11.setTop (mkF m 164 #[jv q0, ss, iv p1, rv o2, uu, uu, uu, iv (p1 + (-1 : Int32)), iv 1, uu, iv q0.toInt32] []))
     refine oA X11 hy d23_164 165 rfl (oxz X11 hy d23_165 168 #[jv q0, ss, iv p1, rv o2, uu, uu, uu, iv ((p1 + (-1 : Int32)) + (-1 : Int32)), iv 1, uu, iv q0.toInt32] (-1) rfl rfl rfl (oD X11 hy d23_168 170 rfl (gS X11 hy hown hZ hw e11 wf d23_170 173 237 rfl fun T14 X14 e14 => oD X14 hy d23_173 175 rfl (oQ X14 hy d23_175 176 (aLB X14 hy hZ e14 wn d23_176 177 (.int (own_dg ((own_M q0) / 10 ^ (0 + 1)))) (own_in hr6) (own_tenat' hr6) ?_)))))
     have hj17 := own_dec hj10 hp0 hp1 (by omega : (0 + 1) ≤ 19)
     refine aSB X14 hy hZ e14 ww d23_177 178 (own_inb hj17 hp0 hpn (by omega)) fun T18 h18 X18 e18 W18 => ?_
     rw [own_nardg] at W18
     have ww : Arv Z h18 o2 kb .byte n (own_L n.toNatClampNeg (own_w (own_M q0) p1.toNatClampNeg ((0 + 1) + 1) g)) (.int 0) := Asg ww (own_fitdg _) W18 (own_wT hj17 hp0 (by omega)) (own_jl hj17 hp0 hpn (by omega))
     have K18 := K11.wr W18 (Or.inl mm0)
     have N18 := Fr.snoc X18 N11 vn
     refine oD X18 hy d23_178 180 rfl (oxh X18 hy d23_180 183 (XT.i0_eq_f (by decide)) (oA X18 hy d23_183 184 rfl (oxz X18 hy d23_184 187 #[jv q0, ss, iv p1, rv o2, uu, uu, uu, iv (((p1 + (-1 : Int32)) + (-1 : Int32)) + (-1 : Int32)), iv 1, uu, iv q0.toInt32] (-1) rfl rfl rfl (oD X18 hy d23_187 189 rfl (oH X18 hy d23_189 191 45 rfl ?_)))))
     have hj20 := own_dec hj17 hp0 hp1 (by omega : ((0 + 1) + 1) ≤ 19)
     refine aSB X18 hy hZ e18 ww d23_191 192 (own_inb hj20 hp0 hpn (by omega)) fun T21 h21 X21 e21 W21 => ?_
     have ww : Arv Z h21 o2 kb .byte n (own_L n.toNatClampNeg (own_gf q0 p1.toNatClampNeg ((0 + 1) + 1) g)) (.int 0) := Asg ww (fits_nar_byte _) W21 (own_gS hj20 hp0 (by omega) hq2) (own_jl hj20 hp0 hpn (by omega))
     have K21 := K18.wr W21 (Or.inl mm0)
     have N21 := Fr.snoc X21 N18 vn
     refine oD X21 hy d23_192 194 rfl ?_
     exact fI X21 hy hrt hlk hQQ d23_194 rfl (Or.inl rfl) e21 (by decide) ⟨((((p1 + (-1 : Int32)) + (-1 : Int32)) + (-1 : Int32))), ((0 + 1) + 1), rfl, N21, K21, ww, (own_nd2 hI4 hc161_12 hl6)⟩
    ·refine oxl X11 hy d23_161 178 (XT.ii_ge_t hc161_12) (oD X11 hy d23_178 180 rfl (oxh X11 hy d23_180 183 (XT.i0_eq_f (by decide)) (oA X11 hy d23_183 184 rfl (oxz X11 hy d23_184 187 #[jv q0, ss, iv p1, rv o2, uu, uu, uu, iv ((p1 + (-1 : Int32)) + (-1 : Int32)), iv 1, uu, iv q0.toInt32] (-1) rfl rfl rfl (oD X11 hy d23_187 189 rfl (oH X11 hy d23_189 191 45 rfl ?_))))))
     have hj23 := own_dec hj10 hp0 hp1 (by omega : (0 + 1) ≤ 19)
     refine aSB X11 hy hZ e11 ww d23_191 192 (own_inb hj23 hp0 hpn (by omega)) fun T24 h24 X24 e24 W24 => ?_
     have ww : Arv Z h24 o2 kb .byte n (own_L n.toNatClampNeg (own_gf q0 p1.toNatClampNeg (0 + 1) g)) (.int 0) := Asg ww (fits_nar_byte _) W24 (own_gS hj23 hp0 (by omega) hq2) (own_jl hj23 hp0 hpn (by omega))
     have K24 := K11.wr W24 (Or.inl mm0)
     have N24 := Fr.snoc X24 N11 vn
     refine oD X24 hy d23_192 194 rfl ?_
     exact fI X24 hy hrt hlk hQQ d23_194 rfl (Or.inl rfl) e24 (by decide) ⟨(((p1 + (-1 : Int32)) + (-1 : Int32))), (0 + 1), rfl, N24, K24, ww, (own_nd1 hI4 (Or.inl rfl) hc161_12)⟩
   ·refine oxi X0 hy d23_90 93 (XT.ii_gt_f hc90_5) (oD X0 hy d23_93 95 rfl (oH X0 hy d23_95 97 100 rfl (oR X0 hy d23_97 98 (by decide) (oxo X0 hy d23_98 100 #[jv q0, ss, iv p1, rv o2, uu, uu, uu, iv p1, iv 1, iv (q0.toInt32 / (100 : Int32)), iv q0.toInt32] rfl (oD X0 hy d23_100 102 rfl (oH X0 hy d23_102 104 100 rfl (oM X0 hy d23_104 105 (oD X0 hy d23_105 107 rfl (oL X0 hy d23_107 108 ?_)))))))))
    refine oxo X0 hy d23_108 110 #[jv q0, ss, iv p1, rv o2, uu, uu, iv (((q0.toInt32 / (100 : Int32)) * (100 : Int32)) - q0.toInt32), iv p1, iv 1, iv (q0.toInt32 / (100 : Int32)), iv q0.toInt32] rfl (oD X0 hy d23_110 112 rfl ?_)
    refine Ends.step (fun _ k => XS.istore X0.here hx rfl (hb hby d23_112) rfl (l' := #[jv q0, ss, iv p1, rv o2, uu, uu, iv (((q0.toInt32 / (100 : Int32)) * (100 : Int32)) - q0.toInt32), iv p1, iv 1, iv (q0.toInt32 / (100 : Int32)), iv (q0.toInt32 / (100 : Int32))]) rfl k) ?_
    have hg25 := own_geI hI4 hc90_5
    have hr25 := own_rI hI4 (own_N0 q0 0)
    have hb25 := own_mb3 hg25
    show Ends p e below QQ (s₁.setTop (mkF m 114 #[jv q0, ss, iv p1, rv o2, uu, uu, iv (((q0.toInt32 / (100 : Int32)) * (100 : Int32)) - q0.toInt32), iv p1, iv 1, iv (q0.toInt32 / (100 : Int32)), iv (q0.toInt32 / (100 : Int32))] []))
    refine oA X0 hy d23_114 115 rfl (oxz X0 hy d23_115 118 #[jv q0, ss, iv p1, rv o2, uu, uu, iv (((q0.toInt32 / (100 : Int32)) * (100 : Int32)) - q0.toInt32), iv (p1 + (-1 : Int32)), iv 1, iv (q0.toInt32 / (100 : Int32)), iv (q0.toInt32 / (100 : Int32))] (-1) rfl rfl rfl (oD X0 hy d23_118 120 rfl (gS X0 hy hown hZ hw e0 wg d23_120 123 141 rfl fun T26 X26 e26 => oD X26 hy d23_123 125 rfl (aLB X26 hy hZ e26 wv d23_125 126 (.int (own_dg ((own_M q0) / 10 ^ 0))) (own_in hr25) (own_oneat hr25) ?_))))
    have hj29 := own_dec hp2 hp0 hp1 (by omega : 0 ≤ 19)
    refine aSB X26 hy hZ e26 ww d23_126 127 (own_inb hj29 hp0 hpn (by omega)) fun T30 h30 X30 e30 W30 => ?_
    rw [own_nardg] at W30
    have wv := wv.other W30 (Ne.symm va)
    have wg := wg.wr W30
    have wn := wn.other W30 (Ne.symm wT)
    have wf := wf.wr W30
    have ww : Arv Z h30 o2 kb .byte n (own_L n.toNatClampNeg (own_w (own_M q0) p1.toNatClampNeg (0 + 1) g)) (.int 0) := Asg ww (own_fitdg _) W30 (own_wT hj29 hp0 (by omega)) (own_jl hj29 hp0 hpn (by omega))
    have K30 := (Keep.refl h0 [o2]).wr W30 (Or.inl mm0)
    have N30 := Fr.snoc X30 N0 vn
    refine oA X30 hy d23_127 128 rfl (oxz X30 hy d23_128 131 #[jv q0, ss, iv p1, rv o2, uu, uu, iv (((q0.toInt32 / (100 : Int32)) * (100 : Int32)) - q0.toInt32), iv ((p1 + (-1 : Int32)) + (-1 : Int32)), iv 1, iv (q0.toInt32 / (100 : Int32)), iv (q0.toInt32 / (100 : Int32))] (-1) rfl rfl rfl (oD X30 hy d23_131 133 rfl (gS X30 hy hown hZ hw e30 wf d23_133 136 237 rfl fun T31 X31 e31 => oD X31 hy d23_136 138 rfl (aLB X31 hy hZ e31 wn d23_138 139 (.int (own_dg ((own_M q0) / 10 ^ (0 + 1)))) (own_in hr25) (own_tenat' hr25) ?_))))
    obtain ⟨cl33, Ar33, q33, S33, P33, H33, G33⟩ := id ww
    have hj34 := own_dec hj29 hp0 hp1 (by omega : (0 + 1) ≤ 19)
    have hin33 : ¬ (((p1 + (-1 : Int32)) + (-1 : Int32)) < 0 ∨ cl33.slots.size ≤ (((p1 + (-1 : Int32)) + (-1 : Int32))).toNatClampNeg) := inb_of S33 (own_inb hj34 hp0 hpn (by omega))
    obtain ⟨T35, h35, X35, e35, W35, st35⟩ := stB X31 hx hZ e31 Ar33 (j := ((p1 + (-1 : Int32)) + (-1 : Int32))) hin33 (g := (mkF m 139 #[jv q0, ss, iv p1, rv o2, uu, uu, iv (((q0.toInt32 / (100 : Int32)) * (100 : Int32)) - q0.toInt32), iv ((p1 + (-1 : Int32)) + (-1 : Int32)), iv 1, iv (q0.toInt32 / (100 : Int32)), iv (q0.toInt32 / (100 : Int32))] [(.int (own_dg ((own_M q0) / 10 ^ (0 + 1)))), (.int ((p1 + (-1 : Int32)) + (-1 : Int32))), .ref o2])) rfl rfl (hb hby d23_139)
    rw [own_nardg] at W35
    have wv := wv.other W35 (Ne.symm va)
    have wg := wg.wr W35
    have wn := wn.other W35 (Ne.symm wT)
    have wf := wf.wr W35
    have ww : Arv Z h35 o2 kb .byte n (own_L n.toNatClampNeg (own_w (own_M q0) p1.toNatClampNeg ((0 + 1) + 1) g)) (.int 0) := Asg ww (own_fitdg _) W35 (own_wT hj34 hp0 (by omega)) (own_jl hj34 hp0 hpn (by omega))
    have K35 := K30.wr W35 (Or.inl mm0)
    have N35 := Fr.snoc X35 N30 vn
    refine Ends.step st35 ?_
    have hj36 := own_qI hI4 (own_N0 q0 0)
    have hn36 := own_hN hg25
    show Ends p e below QQ (T35.setTop (mkF m 140 #[jv q0, ss, iv p1, rv o2, uu, uu, iv (((q0.toInt32 / (100 : Int32)) * (100 : Int32)) - q0.toInt32), iv ((p1 + (-1 : Int32)) + (-1 : Int32)), iv 1, iv (q0.toInt32 / (100 : Int32)), iv (q0.toInt32 / (100 : Int32))] []))
    refine Ends.step (fun _ k => XS.goto X35.here hx rfl (pc0 := 140) (pc' := 86) rfl (hb hby d23_140) (by decide) (by decide) k) ?_
    have LP37 : ∀ (fu37 : Nat) (m38 : Nat) (i38 : Int32) (c38 : Int32) (r38 : Int32) (q38 : Int32) (T37 : State) (h37 : Heap) (L37 : List Loc) (X37 : Stand p l e (rmm 0 0 0 0) s m #[.long q0, .int p1, .ref o2] below meth c T37 L37 0 0) (e37 : T37.heap = h37) (N37 : Fr n0 L37) (K37 : Keep h0 h37 [o2]) (ww : Arv Z h37 o2 kb .byte n (own_L n.toNatClampNeg (own_w (own_M q0) p1.toNatClampNeg m38 g)) (.int 0)) (wv : Arv Z h37 a_D1 k_a_D1 .byte 100 own_ones (.int 0)) (wg : sHQ Z h37 (.ref a_D1)) (wn : Arv Z h37 a_D2 k_a_D2 .byte 100 own_tens (.int 0)) (wf : sIQ Z h37 (.ref a_D2)) (hI38 : i38.toInt = -((own_M q0) / 10 ^ m38)) (hC38 : c38.toInt = p1.toInt - (m38 : Int)) (hN38 : m38 = 0 ∨ 1 ≤ (own_M q0) / 10 ^ m38) (hf37 : ((own_M q0) / 10 ^ m38).toNat < fu37), Ends p e below QQ (T37.setTop (mkF m 86 #[jv q0, ss, iv p1, rv o2, uu, uu, iv r38, iv c38, iv 1, iv q38, iv i38] [])) := by
     intro fu37
     induction fu37 with
     | zero => intro m38 i38 c38 r38 q38 T37 h37 L37 X37 e37 N37 K37 ww wv wg wn wf hI38 hC38 hN38 hf37; exact absurd hf37 (Nat.not_lt_zero _)
     | succ fu37 ih37 =>
      intro m38 i38 c38 r38 q38 T37 h37 L37 X37 e37 N37 K37 ww wv wg wn wf hI38 hC38 hN38 hf37
      show Ends p e below QQ (T37.setTop (mkF m 86 #[jv q0, ss, iv p1, rv o2, uu, uu, iv r38, iv c38, iv 1, iv q38, iv i38] []))
      refine oD X37 hy d23_86 88 rfl (oH X37 hy d23_88 90 (-100) rfl ?_)
      by_cases hc90_39 : (-100 : Int32) < i38
      ·refine Ends.step (fun _ k => XS.icmpYes X37.here hx rfl (pc0 := 90) (pc' := 143) rfl (hb hby d23_90) rfl (XT.ii_gt_t hc90_39) (by decide) (by decide) k) ?_
       have hl40 := own_ltI hI38 hc90_39
       have hr40 := own_ngI hI38 (own_N0 q0 m38) hl40
       have hb40 := own_mb1 (q := q0) (m := m38) hN38
       show Ends p e below QQ (T37.setTop (mkF m 143 #[jv q0, ss, iv p1, rv o2, uu, uu, iv r38, iv c38, iv 1, iv q38, iv i38] []))
       refine oA X37 hy d23_143 144 rfl (oxz X37 hy d23_144 147 #[jv q0, ss, iv p1, rv o2, uu, uu, iv r38, iv (c38 + (-1 : Int32)), iv 1, iv q38, iv i38] (-1) rfl rfl rfl (oD X37 hy d23_147 149 rfl (gS X37 hy hown hZ hw e37 wg d23_149 152 141 rfl fun T41 X41 e41 => oD X41 hy d23_152 154 rfl (oQ X41 hy d23_154 155 (aLB X41 hy hZ e41 wv d23_155 156 (.int (own_dg ((own_M q0) / 10 ^ m38))) (own_in hr40) (own_oneat hr40) ?_)))))
       have hj44 := own_dec hC38 hp0 hp1 (by omega : m38 ≤ 19)
       refine aSB X41 hy hZ e41 ww d23_156 157 (own_inb hj44 hp0 hpn (by omega)) fun T45 h45 X45 e45 W45 => ?_
       rw [own_nardg] at W45
       have wn := wn.other W45 (Ne.symm wT)
       have wf := wf.wr W45
       have ww : Arv Z h45 o2 kb .byte n (own_L n.toNatClampNeg (own_w (own_M q0) p1.toNatClampNeg (m38 + 1) g)) (.int 0) := Asg ww (own_fitdg _) W45 (own_wT hj44 hp0 (by omega)) (own_jl hj44 hp0 hpn (by omega))
       have K45 := K37.wr W45 (Or.inl mm0)
       have N45 := Fr.snoc X45 N37 vn
       refine oD X45 hy d23_157 159 rfl (oH X45 hy d23_159 161 (-9) rfl ?_)
       by_cases hc161_46 : i38 < (-9 : Int32)
       ·refine Ends.step (fun _ k => XS.icmpNo X45.here hx rfl (hb hby d23_161) rfl (XT.ii_ge_f hc161_46) k) ?_
        have hB47 := own_mb2 (own_ten hI38 hc161_46)
        show Ends p e below QQ (T45.setTop (mkF m 164 #[jv q0, ss, iv p1, rv o2, uu, uu, iv r38, iv (c38 + (-1 : Int32)), iv 1, iv q38, iv i38] []))
        refine oA X45 hy d23_164 165 rfl (oxz X45 hy d23_165 168 #[jv q0, ss, iv p1, rv o2, uu, uu, iv r38, iv ((c38 + (-1 : Int32)) + (-1 : Int32)), iv 1, iv q38, iv i38] (-1) rfl rfl rfl (oD X45 hy d23_168 170 rfl (gS X45 hy hown hZ hw e45 wf d23_170 173 237 rfl fun T48 X48 e48 => oD X48 hy d23_173 175 rfl (oQ X48 hy d23_175 176 (aLB X48 hy hZ e48 wn d23_176 177 (.int (own_dg ((own_M q0) / 10 ^ (m38 + 1)))) (own_in hr40) (own_tenat' hr40) ?_)))))
        have hj51 := own_dec hj44 hp0 hp1 (by omega : (m38 + 1) ≤ 19)
        refine aSB X48 hy hZ e48 ww d23_177 178 (own_inb hj51 hp0 hpn (by omega)) fun T52 h52 X52 e52 W52 => ?_
        rw [own_nardg] at W52
        have ww : Arv Z h52 o2 kb .byte n (own_L n.toNatClampNeg (own_w (own_M q0) p1.toNatClampNeg ((m38 + 1) + 1) g)) (.int 0) := Asg ww (own_fitdg _) W52 (own_wT hj51 hp0 (by omega)) (own_jl hj51 hp0 hpn (by omega))
        have K52 := K45.wr W52 (Or.inl mm0)
        have N52 := Fr.snoc X52 N45 vn
        refine oD X52 hy d23_178 180 rfl (oxh X52 hy d23_180 183 (XT.i0_eq_f (by decide)) (oA X52 hy d23_183 184 rfl (oxz X52 hy d23_184 187 #[jv q0, ss, iv p1, rv o2, uu, uu, iv r38, iv (((c38 + (-1 : Int32)) + (-1 : Int32)) + (-1 : Int32)), iv 1, iv q38, iv i38] (-1) rfl rfl rfl (oD X52 hy d23_187 189 rfl (oH X52 hy d23_189 191 45 rfl ?_)))))
        have hj54 := own_dec hj51 hp0 hp1 (by omega : ((m38 + 1) + 1) ≤ 19)
        refine aSB X52 hy hZ e52 ww d23_191 192 (own_inb hj54 hp0 hpn (by omega)) fun T55 h55 X55 e55 W55 => ?_
        have ww : Arv Z h55 o2 kb .byte n (own_L n.toNatClampNeg (own_gf q0 p1.toNatClampNeg ((m38 + 1) + 1) g)) (.int 0) := Asg ww (fits_nar_byte _) W55 (own_gS hj54 hp0 (by omega) hq2) (own_jl hj54 hp0 hpn (by omega))
        have K55 := K52.wr W55 (Or.inl mm0)
        have N55 := Fr.snoc X55 N52 vn
        refine oD X55 hy d23_192 194 rfl ?_
        exact fI X55 hy hrt hlk hQQ d23_194 rfl (Or.inl rfl) e55 (by decide) ⟨((((c38 + (-1 : Int32)) + (-1 : Int32)) + (-1 : Int32))), ((m38 + 1) + 1), rfl, N55, K55, ww, (own_nd2 hI38 hc161_46 hl40)⟩
       ·refine oxl X45 hy d23_161 178 (XT.ii_ge_t hc161_46) (oD X45 hy d23_178 180 rfl (oxh X45 hy d23_180 183 (XT.i0_eq_f (by decide)) (oA X45 hy d23_183 184 rfl (oxz X45 hy d23_184 187 #[jv q0, ss, iv p1, rv o2, uu, uu, iv r38, iv ((c38 + (-1 : Int32)) + (-1 : Int32)), iv 1, iv q38, iv i38] (-1) rfl rfl rfl (oD X45 hy d23_187 189 rfl (oH X45 hy d23_189 191 45 rfl ?_))))))
        have hj57 := own_dec hj44 hp0 hp1 (by omega : (m38 + 1) ≤ 19)
        refine aSB X45 hy hZ e45 ww d23_191 192 (own_inb hj57 hp0 hpn (by omega)) fun T58 h58 X58 e58 W58 => ?_
        have ww : Arv Z h58 o2 kb .byte n (own_L n.toNatClampNeg (own_gf q0 p1.toNatClampNeg (m38 + 1) g)) (.int 0) := Asg ww (fits_nar_byte _) W58 (own_gS hj57 hp0 (by omega) hq2) (own_jl hj57 hp0 hpn (by omega))
        have K58 := K45.wr W58 (Or.inl mm0)
        have N58 := Fr.snoc X58 N45 vn
        refine oD X58 hy d23_192 194 rfl ?_
        exact fI X58 hy hrt hlk hQQ d23_194 rfl (Or.inl rfl) e58 (by decide) ⟨(((c38 + (-1 : Int32)) + (-1 : Int32))), (m38 + 1), rfl, N58, K58, ww, (own_nd1 hI38 hN38 hc161_46)⟩
      ·refine oxi X37 hy d23_90 93 (XT.ii_gt_f hc90_39) (oD X37 hy d23_93 95 rfl (oH X37 hy d23_95 97 100 rfl (oR X37 hy d23_97 98 (by decide) (oxo X37 hy d23_98 100 #[jv q0, ss, iv p1, rv o2, uu, uu, iv r38, iv c38, iv 1, iv (i38 / (100 : Int32)), iv i38] rfl (oD X37 hy d23_100 102 rfl (oH X37 hy d23_102 104 100 rfl (oM X37 hy d23_104 105 (oD X37 hy d23_105 107 rfl (oL X37 hy d23_107 108 ?_)))))))))
       refine oxo X37 hy d23_108 110 #[jv q0, ss, iv p1, rv o2, uu, uu, iv (((i38 / (100 : Int32)) * (100 : Int32)) - i38), iv c38, iv 1, iv (i38 / (100 : Int32)), iv i38] rfl (oD X37 hy d23_110 112 rfl ?_)
       refine Ends.step (fun _ k => XS.istore X37.here hx rfl (hb hby d23_112) rfl (l' := #[jv q0, ss, iv p1, rv o2, uu, uu, iv (((i38 / (100 : Int32)) * (100 : Int32)) - i38), iv c38, iv 1, iv (i38 / (100 : Int32)), iv (i38 / (100 : Int32))]) rfl k) ?_
       have hg59 := own_geI hI38 hc90_39
       have hr59 := own_rI hI38 (own_N0 q0 m38)
       have hb59 := own_mb3 hg59
       show Ends p e below QQ (T37.setTop (mkF m 114 #[jv q0, ss, iv p1, rv o2, uu, uu, iv (((i38 / (100 : Int32)) * (100 : Int32)) - i38), iv c38, iv 1, iv (i38 / (100 : Int32)), iv (i38 / (100 : Int32))] []))
       refine oA X37 hy d23_114 115 rfl (oxz X37 hy d23_115 118 #[jv q0, ss, iv p1, rv o2, uu, uu, iv (((i38 / (100 : Int32)) * (100 : Int32)) - i38), iv (c38 + (-1 : Int32)), iv 1, iv (i38 / (100 : Int32)), iv (i38 / (100 : Int32))] (-1) rfl rfl rfl (oD X37 hy d23_118 120 rfl (gS X37 hy hown hZ hw e37 wg d23_120 123 141 rfl fun T60 X60 e60 => oD X60 hy d23_123 125 rfl (aLB X60 hy hZ e60 wv d23_125 126 (.int (own_dg ((own_M q0) / 10 ^ m38))) (own_in hr59) (own_oneat hr59) ?_))))
       have hj63 := own_dec hC38 hp0 hp1 (by omega : m38 ≤ 19)
       refine aSB X60 hy hZ e60 ww d23_126 127 (own_inb hj63 hp0 hpn (by omega)) fun T64 h64 X64 e64 W64 => ?_
       rw [own_nardg] at W64
       have wv := wv.other W64 (Ne.symm va)
       have wg := wg.wr W64
       have wn := wn.other W64 (Ne.symm wT)
       have wf := wf.wr W64
       have ww : Arv Z h64 o2 kb .byte n (own_L n.toNatClampNeg (own_w (own_M q0) p1.toNatClampNeg (m38 + 1) g)) (.int 0) := Asg ww (own_fitdg _) W64 (own_wT hj63 hp0 (by omega)) (own_jl hj63 hp0 hpn (by omega))
       have K64 := K37.wr W64 (Or.inl mm0)
       have N64 := Fr.snoc X64 N37 vn
       refine oA X64 hy d23_127 128 rfl (oxz X64 hy d23_128 131 #[jv q0, ss, iv p1, rv o2, uu, uu, iv (((i38 / (100 : Int32)) * (100 : Int32)) - i38), iv ((c38 + (-1 : Int32)) + (-1 : Int32)), iv 1, iv (i38 / (100 : Int32)), iv (i38 / (100 : Int32))] (-1) rfl rfl rfl (oD X64 hy d23_131 133 rfl (gS X64 hy hown hZ hw e64 wf d23_133 136 237 rfl fun T65 X65 e65 => oD X65 hy d23_136 138 rfl (aLB X65 hy hZ e65 wn d23_138 139 (.int (own_dg ((own_M q0) / 10 ^ (m38 + 1)))) (own_in hr59) (own_tenat' hr59) ?_))))
       obtain ⟨cl67, Ar67, q67, S67, P67, H67, G67⟩ := id ww
       have hj68 := own_dec hj63 hp0 hp1 (by omega : (m38 + 1) ≤ 19)
       have hin67 : ¬ (((c38 + (-1 : Int32)) + (-1 : Int32)) < 0 ∨ cl67.slots.size ≤ (((c38 + (-1 : Int32)) + (-1 : Int32))).toNatClampNeg) := inb_of S67 (own_inb hj68 hp0 hpn (by omega))
       obtain ⟨T69, h69, X69, e69, W69, st69⟩ := stB X65 hx hZ e65 Ar67 (j := ((c38 + (-1 : Int32)) + (-1 : Int32))) hin67 (g := (mkF m 139 #[jv q0, ss, iv p1, rv o2, uu, uu, iv (((i38 / (100 : Int32)) * (100 : Int32)) - i38), iv ((c38 + (-1 : Int32)) + (-1 : Int32)), iv 1, iv (i38 / (100 : Int32)), iv (i38 / (100 : Int32))] [(.int (own_dg ((own_M q0) / 10 ^ (m38 + 1)))), (.int ((c38 + (-1 : Int32)) + (-1 : Int32))), .ref o2])) rfl rfl (hb hby d23_139)
       rw [own_nardg] at W69
       have wv := wv.other W69 (Ne.symm va)
       have wg := wg.wr W69
       have wn := wn.other W69 (Ne.symm wT)
       have wf := wf.wr W69
       have ww : Arv Z h69 o2 kb .byte n (own_L n.toNatClampNeg (own_w (own_M q0) p1.toNatClampNeg ((m38 + 1) + 1) g)) (.int 0) := Asg ww (own_fitdg _) W69 (own_wT hj68 hp0 (by omega)) (own_jl hj68 hp0 hpn (by omega))
       have K69 := K64.wr W69 (Or.inl mm0)
       have N69 := Fr.snoc X69 N64 vn
       refine Ends.step st69 ?_
       have hj70 := own_qI hI38 (own_N0 q0 m38)
       have hn70 := own_hN hg59
       show Ends p e below QQ (T69.setTop (mkF m 140 #[jv q0, ss, iv p1, rv o2, uu, uu, iv (((i38 / (100 : Int32)) * (100 : Int32)) - i38), iv ((c38 + (-1 : Int32)) + (-1 : Int32)), iv 1, iv (i38 / (100 : Int32)), iv (i38 / (100 : Int32))] []))
       refine Ends.step (fun _ k => XS.goto X69.here hx rfl (pc0 := 140) (pc' := 86) rfl (hb hby d23_140) (by decide) (by decide) k) ?_
       exact ih37 (((m38 + 1) + 1)) ((i38 / (100 : Int32))) (((c38 + (-1 : Int32)) + (-1 : Int32))) ((((i38 / (100 : Int32)) * (100 : Int32)) - i38)) ((i38 / (100 : Int32))) T69 h69 _ X69 e69 N69 K69 ww wv wg wn wf hj70 hj68 hn70 (own_fu hg59 hf37)
    exact LP37 (((own_M q0) / 10 ^ ((0 + 1) + 1)).toNat + 1) ((0 + 1) + 1) ((q0.toInt32 / (100 : Int32))) (((p1 + (-1 : Int32)) + (-1 : Int32))) ((((q0.toInt32 / (100 : Int32)) * (100 : Int32)) - q0.toInt32)) ((q0.toInt32 / (100 : Int32))) T35 h35 _ X35 e35 N35 K35 ww wv wg wn wf hj36 hj34 hn36 (Nat.lt_succ_self _)
  ·refine oxh X0 hy d23_29 32 (XT.ll_gt_f hc29_3) (oE X0 hy d23_32 33 rfl (oJ2 X0 hy hown hZ hw d23_33 36 100 236 rfl (oW X0 hy d23_36 37 (by decide) (oxq X0 hy d23_37 39 #[jv q0, ss, iv p1, rv o2, jv (q0 / (100 : Int64)), ss, uu, iv p1, iv 1, uu, uu] rfl (oF X0 hy d23_39 41 rfl (oJ2 X0 hy hown hZ hw d23_41 44 100 236 rfl (oU X0 hy d23_44 45 (oE X0 hy d23_45 46 rfl (oT X0 hy d23_46 47 ?_)))))))))
   refine oZ X0 hy d23_47 48 (oxo X0 hy d23_48 50 #[jv q0, ss, iv p1, rv o2, jv (q0 / (100 : Int64)), ss, iv (((q0 / (100 : Int64)) * (100 : Int64)) - q0).toInt32, iv p1, iv 1, uu, uu] rfl (oF X0 hy d23_50 52 rfl ?_))
   refine Ends.step (fun _ k => XT.lstoreN X0.here hx rfl (hb hby d23_52) rfl (l' := #[jv (q0 / (100 : Int64)), ss, iv p1, rv o2, jv (q0 / (100 : Int64)), ss, iv (((q0 / (100 : Int64)) * (100 : Int64)) - q0).toInt32, iv p1, iv 1, uu, uu]) rfl k) ?_
   have hg71 := own_geJ hi2 hc29_3
   have hr71 := own_rJ hi2 (own_N0 q0 0)
   have hb71 := own_mb3 hg71
   show Ends p e below QQ (s₁.setTop (mkF m 53 #[jv (q0 / (100 : Int64)), ss, iv p1, rv o2, jv (q0 / (100 : Int64)), ss, iv (((q0 / (100 : Int64)) * (100 : Int64)) - q0).toInt32, iv p1, iv 1, uu, uu] []))
   refine oA X0 hy d23_53 54 rfl (oxz X0 hy d23_54 57 #[jv (q0 / (100 : Int64)), ss, iv p1, rv o2, jv (q0 / (100 : Int64)), ss, iv (((q0 / (100 : Int64)) * (100 : Int64)) - q0).toInt32, iv (p1 + (-1 : Int32)), iv 1, uu, uu] (-1) rfl rfl rfl (oD X0 hy d23_57 59 rfl (gS X0 hy hown hZ hw e0 wg d23_59 62 141 rfl fun T72 X72 e72 => oD X72 hy d23_62 64 rfl (aLB X72 hy hZ e72 wv d23_64 65 (.int (own_dg ((own_M q0) / 10 ^ 0))) (own_in hr71) (own_oneat hr71) ?_))))
   have hj75 := own_dec hp2 hp0 hp1 (by omega : 0 ≤ 19)
   refine aSB X72 hy hZ e72 ww d23_65 66 (own_inb hj75 hp0 hpn (by omega)) fun T76 h76 X76 e76 W76 => ?_
   rw [own_nardg] at W76
   have wv := wv.other W76 (Ne.symm va)
   have wg := wg.wr W76
   have wn := wn.other W76 (Ne.symm wT)
   have wf := wf.wr W76
   have ww : Arv Z h76 o2 kb .byte n (own_L n.toNatClampNeg (own_w (own_M q0) p1.toNatClampNeg (0 + 1) g)) (.int 0) := Asg ww (own_fitdg _) W76 (own_wT hj75 hp0 (by omega)) (own_jl hj75 hp0 hpn (by omega))
   have K76 := (Keep.refl h0 [o2]).wr W76 (Or.inl mm0)
   have N76 := Fr.snoc X76 N0 vn
   refine oA X76 hy d23_66 67 rfl (oxz X76 hy d23_67 70 #[jv (q0 / (100 : Int64)), ss, iv p1, rv o2, jv (q0 / (100 : Int64)), ss, iv (((q0 / (100 : Int64)) * (100 : Int64)) - q0).toInt32, iv ((p1 + (-1 : Int32)) + (-1 : Int32)), iv 1, uu, uu] (-1) rfl rfl rfl (oD X76 hy d23_70 72 rfl (gS X76 hy hown hZ hw e76 wf d23_72 75 237 rfl fun T77 X77 e77 => oD X77 hy d23_75 77 rfl (aLB X77 hy hZ e77 wn d23_77 78 (.int (own_dg ((own_M q0) / 10 ^ (0 + 1)))) (own_in hr71) (own_tenat' hr71) ?_))))
   obtain ⟨cl79, Ar79, q79, S79, P79, H79, G79⟩ := id ww
   have hj80 := own_dec hj75 hp0 hp1 (by omega : (0 + 1) ≤ 19)
   have hin79 : ¬ (((p1 + (-1 : Int32)) + (-1 : Int32)) < 0 ∨ cl79.slots.size ≤ (((p1 + (-1 : Int32)) + (-1 : Int32))).toNatClampNeg) := inb_of S79 (own_inb hj80 hp0 hpn (by omega))
   obtain ⟨T81, h81, X81, e81, W81, st81⟩ := stB X77 hx hZ e77 Ar79 (j := ((p1 + (-1 : Int32)) + (-1 : Int32))) hin79 (g := (mkF m 78 #[jv (q0 / (100 : Int64)), ss, iv p1, rv o2, jv (q0 / (100 : Int64)), ss, iv (((q0 / (100 : Int64)) * (100 : Int64)) - q0).toInt32, iv ((p1 + (-1 : Int32)) + (-1 : Int32)), iv 1, uu, uu] [(.int (own_dg ((own_M q0) / 10 ^ (0 + 1)))), (.int ((p1 + (-1 : Int32)) + (-1 : Int32))), .ref o2])) rfl rfl (hb hby d23_78)
   rw [own_nardg] at W81
   have wv := wv.other W81 (Ne.symm va)
   have wg := wg.wr W81
   have wn := wn.other W81 (Ne.symm wT)
   have wf := wf.wr W81
   have ww : Arv Z h81 o2 kb .byte n (own_L n.toNatClampNeg (own_w (own_M q0) p1.toNatClampNeg ((0 + 1) + 1) g)) (.int 0) := Asg ww (own_fitdg _) W81 (own_wT hj80 hp0 (by omega)) (own_jl hj80 hp0 hpn (by omega))
   have K81 := K76.wr W81 (Or.inl mm0)
   have N81 := Fr.snoc X81 N76 vn
   refine Ends.step st81 ?_
   have hj82 := own_qJ hi2 (own_N0 q0 0)
   have hn82 := own_hN hg71
   show Ends p e below QQ (T81.setTop (mkF m 79 #[jv (q0 / (100 : Int64)), ss, iv p1, rv o2, jv (q0 / (100 : Int64)), ss, iv (((q0 / (100 : Int64)) * (100 : Int64)) - q0).toInt32, iv ((p1 + (-1 : Int32)) + (-1 : Int32)), iv 1, uu, uu] []))
   refine Ends.step (fun _ k => XS.goto X81.here hx rfl (pc0 := 79) (pc' := 24) rfl (hb hby d23_79) (by decide) (by decide) k) ?_
   have LP83 : ∀ (fu83 : Nat) (m84 : Nat) (i84 : Int64) (c84 : Int32) (r84 : Int32) (q84 : Int64) (T83 : State) (h83 : Heap) (L83 : List Loc) (X83 : Stand p l e (rmm 0 0 0 0) s m #[.long q0, .int p1, .ref o2] below meth c T83 L83 0 0) (e83 : T83.heap = h83) (N83 : Fr n0 L83) (K83 : Keep h0 h83 [o2]) (ww : Arv Z h83 o2 kb .byte n (own_L n.toNatClampNeg (own_w (own_M q0) p1.toNatClampNeg m84 g)) (.int 0)) (wv : Arv Z h83 a_D1 k_a_D1 .byte 100 own_ones (.int 0)) (wg : sHQ Z h83 (.ref a_D1)) (wn : Arv Z h83 a_D2 k_a_D2 .byte 100 own_tens (.int 0)) (wf : sIQ Z h83 (.ref a_D2)) (hI84 : i84.toInt = -((own_M q0) / 10 ^ m84)) (hC84 : c84.toInt = p1.toInt - (m84 : Int)) (hN84 : m84 = 0 ∨ 1 ≤ (own_M q0) / 10 ^ m84) (hf83 : ((own_M q0) / 10 ^ m84).toNat < fu83), Ends p e below QQ (T83.setTop (mkF m 24 #[jv i84, ss, iv p1, rv o2, jv q84, ss, iv r84, iv c84, iv 1, uu, uu] [])) := by
    intro fu83
    induction fu83 with
    | zero => intro m84 i84 c84 r84 q84 T83 h83 L83 X83 e83 N83 K83 ww wv wg wn wf hI84 hC84 hN84 hf83; exact absurd hf83 (Nat.not_lt_zero _)
    | succ fu83 ih83 =>
     intro m84 i84 c84 r84 q84 T83 h83 L83 X83 e83 N83 K83 ww wv wg wn wf hI84 hC84 hN84 hf83
     show Ends p e below QQ (T83.setTop (mkF m 24 #[jv i84, ss, iv p1, rv o2, jv q84, ss, iv r84, iv c84, iv 1, uu, uu] []))
     refine oE X83 hy d23_24 25 rfl (oJ2 X83 hy hown hZ hw d23_25 28 (-2147483648) 140 rfl (oY X83 hy d23_28 29 ?_))
     by_cases hc29_85 : (-2147483648 : Int64) < i84
     ·refine oxk X83 hy d23_29 82 (XT.ll_gt_t hc29_85) (oE X83 hy d23_82 83 rfl (oZ X83 hy d23_83 84 ?_))
      refine Ends.step (fun _ k => XS.istore X83.here hx rfl (hb hby d23_84) rfl (l' := #[jv i84, ss, iv p1, rv o2, jv q84, ss, iv r84, iv c84, iv 1, uu, iv i84.toInt32]) rfl k) ?_
      have hI86 := own_hi10 hI84 (own_N0 q0 m84) hc29_85
      show Ends p e below QQ (T83.setTop (mkF m 86 #[jv i84, ss, iv p1, rv o2, jv q84, ss, iv r84, iv c84, iv 1, uu, iv i84.toInt32] []))
      refine oD X83 hy d23_86 88 rfl (oH X83 hy d23_88 90 (-100) rfl ?_)
      by_cases hc90_87 : (-100 : Int32) < i84.toInt32
      ·refine Ends.step (fun _ k => XS.icmpYes X83.here hx rfl (pc0 := 90) (pc' := 143) rfl (hb hby d23_90) rfl (XT.ii_gt_t hc90_87) (by decide) (by decide) k) ?_
       have hl88 := own_ltI hI86 hc90_87
       have hr88 := own_ngI hI86 (own_N0 q0 m84) hl88
       have hb88 := own_mb1 (q := q0) (m := m84) hN84
       show Ends p e below QQ (T83.setTop (mkF m 143 #[jv i84, ss, iv p1, rv o2, jv q84, ss, iv r84, iv c84, iv 1, uu, iv i84.toInt32] []))
       refine oA X83 hy d23_143 144 rfl (oxz X83 hy d23_144 147 #[jv i84, ss, iv p1, rv o2, jv q84, ss, iv r84, iv (c84 + (-1 : Int32)), iv 1, uu, iv i84.toInt32] (-1) rfl rfl rfl (oD X83 hy d23_147 149 rfl (gS X83 hy hown hZ hw e83 wg d23_149 152 141 rfl fun T89 X89 e89 => oD X89 hy d23_152 154 rfl (oQ X89 hy d23_154 155 (aLB X89 hy hZ e89 wv d23_155 156 (.int (own_dg ((own_M q0) / 10 ^ m84))) (own_in hr88) (own_oneat hr88) ?_)))))
       have hj92 := own_dec hC84 hp0 hp1 (by omega : m84 ≤ 19)
       refine aSB X89 hy hZ e89 ww d23_156 157 (own_inb hj92 hp0 hpn (by omega)) fun T93 h93 X93 e93 W93 => ?_
       rw [own_nardg] at W93
       have wn := wn.other W93 (Ne.symm wT)
       have wf := wf.wr W93
       have ww : Arv Z h93 o2 kb .byte n (own_L n.toNatClampNeg (own_w (own_M q0) p1.toNatClampNeg (m84 + 1) g)) (.int 0) := Asg ww (own_fitdg _) W93 (own_wT hj92 hp0 (by omega)) (own_jl hj92 hp0 hpn (by omega))
       have K93 := K83.wr W93 (Or.inl mm0)
       have N93 := Fr.snoc X93 N83 vn
       refine oD X93 hy d23_157 159 rfl (oH X93 hy d23_159 161 (-9) rfl ?_)
       by_cases hc161_94 : i84.toInt32 < (-9 : Int32)
       ·refine Ends.step (fun _ k => XS.icmpNo X93.here hx rfl (hb hby d23_161) rfl (XT.ii_ge_f hc161_94) k) ?_
        have hB95 := own_mb2 (own_ten hI86 hc161_94)
        show Ends p e below QQ (T93.setTop (mkF m 164 #[jv i84, ss, iv p1, rv o2, jv q84, ss, iv r84, iv (c84 + (-1 : Int32)), iv 1, uu, iv i84.toInt32] []))
        refine oA X93 hy d23_164 165 rfl (oxz X93 hy d23_165 168 #[jv i84, ss, iv p1, rv o2, jv q84, ss, iv r84, iv ((c84 + (-1 : Int32)) + (-1 : Int32)), iv 1, uu, iv i84.toInt32] (-1) rfl rfl rfl (oD X93 hy d23_168 170 rfl (gS X93 hy hown hZ hw e93 wf d23_170 173 237 rfl fun T96 X96 e96 => oD X96 hy d23_173 175 rfl (oQ X96 hy d23_175 176 (aLB X96 hy hZ e96 wn d23_176 177 (.int (own_dg ((own_M q0) / 10 ^ (m84 + 1)))) (own_in hr88) (own_tenat' hr88) ?_)))))
        have hj99 := own_dec hj92 hp0 hp1 (by omega : (m84 + 1) ≤ 19)
        refine aSB X96 hy hZ e96 ww d23_177 178 (own_inb hj99 hp0 hpn (by omega)) fun T100 h100 X100 e100 W100 => ?_
        rw [own_nardg] at W100
        have ww : Arv Z h100 o2 kb .byte n (own_L n.toNatClampNeg (own_w (own_M q0) p1.toNatClampNeg ((m84 + 1) + 1) g)) (.int 0) := Asg ww (own_fitdg _) W100 (own_wT hj99 hp0 (by omega)) (own_jl hj99 hp0 hpn (by omega))
        have K100 := K93.wr W100 (Or.inl mm0)
        have N100 := Fr.snoc X100 N93 vn
        refine oD X100 hy d23_178 180 rfl (oxh X100 hy d23_180 183 (XT.i0_eq_f (by decide)) (oA X100 hy d23_183 184 rfl (oxz X100 hy d23_184 187 #[jv i84, ss, iv p1, rv o2, jv q84, ss, iv r84, iv (((c84 + (-1 : Int32)) + (-1 : Int32)) + (-1 : Int32)), iv 1, uu, iv i84.toInt32] (-1) rfl rfl rfl (oD X100 hy d23_187 189 rfl (oH X100 hy d23_189 191 45 rfl ?_)))))
        have hj102 := own_dec hj99 hp0 hp1 (by omega : ((m84 + 1) + 1) ≤ 19)
        refine aSB X100 hy hZ e100 ww d23_191 192 (own_inb hj102 hp0 hpn (by omega)) fun T103 h103 X103 e103 W103 => ?_
        have ww : Arv Z h103 o2 kb .byte n (own_L n.toNatClampNeg (own_gf q0 p1.toNatClampNeg ((m84 + 1) + 1) g)) (.int 0) := Asg ww (fits_nar_byte _) W103 (own_gS hj102 hp0 (by omega) hq2) (own_jl hj102 hp0 hpn (by omega))
        have K103 := K100.wr W103 (Or.inl mm0)
        have N103 := Fr.snoc X103 N100 vn
        refine oD X103 hy d23_192 194 rfl ?_
        exact fI X103 hy hrt hlk hQQ d23_194 rfl (Or.inl rfl) e103 (by decide) ⟨((((c84 + (-1 : Int32)) + (-1 : Int32)) + (-1 : Int32))), ((m84 + 1) + 1), rfl, N103, K103, ww, (own_nd2 hI86 hc161_94 hl88)⟩
       ·refine oxl X93 hy d23_161 178 (XT.ii_ge_t hc161_94) (oD X93 hy d23_178 180 rfl (oxh X93 hy d23_180 183 (XT.i0_eq_f (by decide)) (oA X93 hy d23_183 184 rfl (oxz X93 hy d23_184 187 #[jv i84, ss, iv p1, rv o2, jv q84, ss, iv r84, iv ((c84 + (-1 : Int32)) + (-1 : Int32)), iv 1, uu, iv i84.toInt32] (-1) rfl rfl rfl (oD X93 hy d23_187 189 rfl (oH X93 hy d23_189 191 45 rfl ?_))))))
        have hj105 := own_dec hj92 hp0 hp1 (by omega : (m84 + 1) ≤ 19)
        refine aSB X93 hy hZ e93 ww d23_191 192 (own_inb hj105 hp0 hpn (by omega)) fun T106 h106 X106 e106 W106 => ?_
        have ww : Arv Z h106 o2 kb .byte n (own_L n.toNatClampNeg (own_gf q0 p1.toNatClampNeg (m84 + 1) g)) (.int 0) := Asg ww (fits_nar_byte _) W106 (own_gS hj105 hp0 (by omega) hq2) (own_jl hj105 hp0 hpn (by omega))
        have K106 := K93.wr W106 (Or.inl mm0)
        have N106 := Fr.snoc X106 N93 vn
        refine oD X106 hy d23_192 194 rfl ?_
        exact fI X106 hy hrt hlk hQQ d23_194 rfl (Or.inl rfl) e106 (by decide) ⟨(((c84 + (-1 : Int32)) + (-1 : Int32))), (m84 + 1), rfl, N106, K106, ww, (own_nd1 hI86 hN84 hc161_94)⟩
      ·refine oxi X83 hy d23_90 93 (XT.ii_gt_f hc90_87) (oD X83 hy d23_93 95 rfl (oH X83 hy d23_95 97 100 rfl (oR X83 hy d23_97 98 (by decide) (oxo X83 hy d23_98 100 #[jv i84, ss, iv p1, rv o2, jv q84, ss, iv r84, iv c84, iv 1, iv (i84.toInt32 / (100 : Int32)), iv i84.toInt32] rfl (oD X83 hy d23_100 102 rfl (oH X83 hy d23_102 104 100 rfl (oM X83 hy d23_104 105 (oD X83 hy d23_105 107 rfl (oL X83 hy d23_107 108 ?_)))))))))
       refine oxo X83 hy d23_108 110 #[jv i84, ss, iv p1, rv o2, jv q84, ss, iv (((i84.toInt32 / (100 : Int32)) * (100 : Int32)) - i84.toInt32), iv c84, iv 1, iv (i84.toInt32 / (100 : Int32)), iv i84.toInt32] rfl (oD X83 hy d23_110 112 rfl ?_)
       refine Ends.step (fun _ k => XS.istore X83.here hx rfl (hb hby d23_112) rfl (l' := #[jv i84, ss, iv p1, rv o2, jv q84, ss, iv (((i84.toInt32 / (100 : Int32)) * (100 : Int32)) - i84.toInt32), iv c84, iv 1, iv (i84.toInt32 / (100 : Int32)), iv (i84.toInt32 / (100 : Int32))]) rfl k) ?_
       have hg107 := own_geI hI86 hc90_87
       have hr107 := own_rI hI86 (own_N0 q0 m84)
       have hb107 := own_mb3 hg107
       show Ends p e below QQ (T83.setTop (mkF m 114 #[jv i84, ss, iv p1, rv o2, jv q84, ss, iv (((i84.toInt32 / (100 : Int32)) * (100 : Int32)) - i84.toInt32), iv c84, iv 1, iv (i84.toInt32 / (100 : Int32)), iv (i84.toInt32 / (100 : Int32))] []))
       refine oA X83 hy d23_114 115 rfl (oxz X83 hy d23_115 118 #[jv i84, ss, iv p1, rv o2, jv q84, ss, iv (((i84.toInt32 / (100 : Int32)) * (100 : Int32)) - i84.toInt32), iv (c84 + (-1 : Int32)), iv 1, iv (i84.toInt32 / (100 : Int32)), iv (i84.toInt32 / (100 : Int32))] (-1) rfl rfl rfl (oD X83 hy d23_118 120 rfl (gS X83 hy hown hZ hw e83 wg d23_120 123 141 rfl fun T108 X108 e108 => oD X108 hy d23_123 125 rfl (aLB X108 hy hZ e108 wv d23_125 126 (.int (own_dg ((own_M q0) / 10 ^ m84))) (own_in hr107) (own_oneat hr107) ?_))))
       have hj111 := own_dec hC84 hp0 hp1 (by omega : m84 ≤ 19)
       refine aSB X108 hy hZ e108 ww d23_126 127 (own_inb hj111 hp0 hpn (by omega)) fun T112 h112 X112 e112 W112 => ?_
       rw [own_nardg] at W112
       have wv := wv.other W112 (Ne.symm va)
       have wg := wg.wr W112
       have wn := wn.other W112 (Ne.symm wT)
       have wf := wf.wr W112
       have ww : Arv Z h112 o2 kb .byte n (own_L n.toNatClampNeg (own_w (own_M q0) p1.toNatClampNeg (m84 + 1) g)) (.int 0) := Asg ww (own_fitdg _) W112 (own_wT hj111 hp0 (by omega)) (own_jl hj111 hp0 hpn (by omega))
       have K112 := K83.wr W112 (Or.inl mm0)
       have N112 := Fr.snoc X112 N83 vn
       refine oA X112 hy d23_127 128 rfl (oxz X112 hy d23_128 131 #[jv i84, ss, iv p1, rv o2, jv q84, ss, iv (((i84.toInt32 / (100 : Int32)) * (100 : Int32)) - i84.toInt32), iv ((c84 + (-1 : Int32)) + (-1 : Int32)), iv 1, iv (i84.toInt32 / (100 : Int32)), iv (i84.toInt32 / (100 : Int32))] (-1) rfl rfl rfl (oD X112 hy d23_131 133 rfl (gS X112 hy hown hZ hw e112 wf d23_133 136 237 rfl fun T113 X113 e113 => oD X113 hy d23_136 138 rfl (aLB X113 hy hZ e113 wn d23_138 139 (.int (own_dg ((own_M q0) / 10 ^ (m84 + 1)))) (own_in hr107) (own_tenat' hr107) ?_))))
       obtain ⟨cl115, Ar115, q115, S115, P115, H115, G115⟩ := id ww
       have hj116 := own_dec hj111 hp0 hp1 (by omega : (m84 + 1) ≤ 19)
       have hin115 : ¬ (((c84 + (-1 : Int32)) + (-1 : Int32)) < 0 ∨ cl115.slots.size ≤ (((c84 + (-1 : Int32)) + (-1 : Int32))).toNatClampNeg) := inb_of S115 (own_inb hj116 hp0 hpn (by omega))
       obtain ⟨T117, h117, X117, e117, W117, st117⟩ := stB X113 hx hZ e113 Ar115 (j := ((c84 + (-1 : Int32)) + (-1 : Int32))) hin115 (g := (mkF m 139 #[jv i84, ss, iv p1, rv o2, jv q84, ss, iv (((i84.toInt32 / (100 : Int32)) * (100 : Int32)) - i84.toInt32), iv ((c84 + (-1 : Int32)) + (-1 : Int32)), iv 1, iv (i84.toInt32 / (100 : Int32)), iv (i84.toInt32 / (100 : Int32))] [(.int (own_dg ((own_M q0) / 10 ^ (m84 + 1)))), (.int ((c84 + (-1 : Int32)) + (-1 : Int32))), .ref o2])) rfl rfl (hb hby d23_139)
       rw [own_nardg] at W117
       have wv := wv.other W117 (Ne.symm va)
       have wg := wg.wr W117
       have wn := wn.other W117 (Ne.symm wT)
       have wf := wf.wr W117
       have ww : Arv Z h117 o2 kb .byte n (own_L n.toNatClampNeg (own_w (own_M q0) p1.toNatClampNeg ((m84 + 1) + 1) g)) (.int 0) := Asg ww (own_fitdg _) W117 (own_wT hj116 hp0 (by omega)) (own_jl hj116 hp0 hpn (by omega))
       have K117 := K112.wr W117 (Or.inl mm0)
       have N117 := Fr.snoc X117 N112 vn
       refine Ends.step st117 ?_
       have hj118 := own_qI hI86 (own_N0 q0 m84)
       have hn118 := own_hN hg107
       show Ends p e below QQ (T117.setTop (mkF m 140 #[jv i84, ss, iv p1, rv o2, jv q84, ss, iv (((i84.toInt32 / (100 : Int32)) * (100 : Int32)) - i84.toInt32), iv ((c84 + (-1 : Int32)) + (-1 : Int32)), iv 1, iv (i84.toInt32 / (100 : Int32)), iv (i84.toInt32 / (100 : Int32))] []))
       refine Ends.step (fun _ k => XS.goto X117.here hx rfl (pc0 := 140) (pc' := 86) rfl (hb hby d23_140) (by decide) (by decide) k) ?_
       have LP119 : ∀ (fu119 : Nat) (m120 : Nat) (i120 : Int32) (c120 : Int32) (r120 : Int32) (q120 : Int32) (T119 : State) (h119 : Heap) (L119 : List Loc) (X119 : Stand p l e (rmm 0 0 0 0) s m #[.long q0, .int p1, .ref o2] below meth c T119 L119 0 0) (e119 : T119.heap = h119) (N119 : Fr n0 L119) (K119 : Keep h0 h119 [o2]) (ww : Arv Z h119 o2 kb .byte n (own_L n.toNatClampNeg (own_w (own_M q0) p1.toNatClampNeg m120 g)) (.int 0)) (wv : Arv Z h119 a_D1 k_a_D1 .byte 100 own_ones (.int 0)) (wg : sHQ Z h119 (.ref a_D1)) (wn : Arv Z h119 a_D2 k_a_D2 .byte 100 own_tens (.int 0)) (wf : sIQ Z h119 (.ref a_D2)) (hI120 : i120.toInt = -((own_M q0) / 10 ^ m120)) (hC120 : c120.toInt = p1.toInt - (m120 : Int)) (hN120 : m120 = 0 ∨ 1 ≤ (own_M q0) / 10 ^ m120) (hf119 : ((own_M q0) / 10 ^ m120).toNat < fu119), Ends p e below QQ (T119.setTop (mkF m 86 #[jv i84, ss, iv p1, rv o2, jv q84, ss, iv r120, iv c120, iv 1, iv q120, iv i120] [])) := by
        intro fu119
        induction fu119 with
        | zero => intro m120 i120 c120 r120 q120 T119 h119 L119 X119 e119 N119 K119 ww wv wg wn wf hI120 hC120 hN120 hf119; exact absurd hf119 (Nat.not_lt_zero _)
        | succ fu119 ih119 =>
         intro m120 i120 c120 r120 q120 T119 h119 L119 X119 e119 N119 K119 ww wv wg wn wf hI120 hC120 hN120 hf119
         show Ends p e below QQ (T119.setTop (mkF m 86 #[jv i84, ss, iv p1, rv o2, jv q84, ss, iv r120, iv c120, iv 1, iv q120, iv i120] []))
         refine oD X119 hy d23_86 88 rfl (oH X119 hy d23_88 90 (-100) rfl ?_)
         by_cases hc90_121 : (-100 : Int32) < i120
         ·refine Ends.step (fun _ k => XS.icmpYes X119.here hx rfl (pc0 := 90) (pc' := 143) rfl (hb hby d23_90) rfl (XT.ii_gt_t hc90_121) (by decide) (by decide) k) ?_
          have hl122 := own_ltI hI120 hc90_121
          have hr122 := own_ngI hI120 (own_N0 q0 m120) hl122
          have hb122 := own_mb1 (q := q0) (m := m120) hN120
          show Ends p e below QQ (T119.setTop (mkF m 143 #[jv i84, ss, iv p1, rv o2, jv q84, ss, iv r120, iv c120, iv 1, iv q120, iv i120] []))
          refine oA X119 hy d23_143 144 rfl (oxz X119 hy d23_144 147 #[jv i84, ss, iv p1, rv o2, jv q84, ss, iv r120, iv (c120 + (-1 : Int32)), iv 1, iv q120, iv i120] (-1) rfl rfl rfl (oD X119 hy d23_147 149 rfl (gS X119 hy hown hZ hw e119 wg d23_149 152 141 rfl fun T123 X123 e123 => oD X123 hy d23_152 154 rfl (oQ X123 hy d23_154 155 (aLB X123 hy hZ e123 wv d23_155 156 (.int (own_dg ((own_M q0) / 10 ^ m120))) (own_in hr122) (own_oneat hr122) ?_)))))
          have hj126 := own_dec hC120 hp0 hp1 (by omega : m120 ≤ 19)
          refine aSB X123 hy hZ e123 ww d23_156 157 (own_inb hj126 hp0 hpn (by omega)) fun T127 h127 X127 e127 W127 => ?_
          rw [own_nardg] at W127
          have wn := wn.other W127 (Ne.symm wT)
          have wf := wf.wr W127
          have ww : Arv Z h127 o2 kb .byte n (own_L n.toNatClampNeg (own_w (own_M q0) p1.toNatClampNeg (m120 + 1) g)) (.int 0) := Asg ww (own_fitdg _) W127 (own_wT hj126 hp0 (by omega)) (own_jl hj126 hp0 hpn (by omega))
          have K127 := K119.wr W127 (Or.inl mm0)
          have N127 := Fr.snoc X127 N119 vn
          refine oD X127 hy d23_157 159 rfl (oH X127 hy d23_159 161 (-9) rfl ?_)
          by_cases hc161_128 : i120 < (-9 : Int32)
          ·refine Ends.step (fun _ k => XS.icmpNo X127.here hx rfl (hb hby d23_161) rfl (XT.ii_ge_f hc161_128) k) ?_
           have hB129 := own_mb2 (own_ten hI120 hc161_128)
           show Ends p e below QQ (T127.setTop (mkF m 164 #[jv i84, ss, iv p1, rv o2, jv q84, ss, iv r120, iv (c120 + (-1 : Int32)), iv 1, iv q120, iv i120] []))
           refine oA X127 hy d23_164 165 rfl (oxz X127 hy d23_165 168 #[jv i84, ss, iv p1, rv o2, jv q84, ss, iv r120, iv ((c120 + (-1 : Int32)) + (-1 : Int32)), iv 1, iv q120, iv i120] (-1) rfl rfl rfl (oD X127 hy d23_168 170 rfl (gS X127 hy hown hZ hw e127 wf d23_170 173 237 rfl fun T130 X130 e130 => oD X130 hy d23_173 175 rfl (oQ X130 hy d23_175 176 (aLB X130 hy hZ e130 wn d23_176 177 (.int (own_dg ((own_M q0) / 10 ^ (m120 + 1)))) (own_in hr122) (own_tenat' hr122) ?_)))))
           have hj133 := own_dec hj126 hp0 hp1 (by omega : (m120 + 1) ≤ 19)
           refine aSB X130 hy hZ e130 ww d23_177 178 (own_inb hj133 hp0 hpn (by omega)) fun T134 h134 X134 e134 W134 => ?_
           rw [own_nardg] at W134
           have ww : Arv Z h134 o2 kb .byte n (own_L n.toNatClampNeg (own_w (own_M q0) p1.toNatClampNeg ((m120 + 1) + 1) g)) (.int 0) := Asg ww (own_fitdg _) W134 (own_wT hj133 hp0 (by omega)) (own_jl hj133 hp0 hpn (by omega))
           have K134 := K127.wr W134 (Or.inl mm0)
           have N134 := Fr.snoc X134 N127 vn
           refine oD X134 hy d23_178 180 rfl (oxh X134 hy d23_180 183 (XT.i0_eq_f (by decide)) (oA X134 hy d23_183 184 rfl (oxz X134 hy d23_184 187 #[jv i84, ss, iv p1, rv o2, jv q84, ss, iv r120, iv (((c120 + (-1 : Int32)) + (-1 : Int32)) + (-1 : Int32)), iv 1, iv q120, iv i120] (-1) rfl rfl rfl (oD X134 hy d23_187 189 rfl (oH X134 hy d23_189 191 45 rfl ?_)))))
           have hj136 := own_dec hj133 hp0 hp1 (by omega : ((m120 + 1) + 1) ≤ 19)
           refine aSB X134 hy hZ e134 ww d23_191 192 (own_inb hj136 hp0 hpn (by omega)) fun T137 h137 X137 e137 W137 => ?_
           have ww : Arv Z h137 o2 kb .byte n (own_L n.toNatClampNeg (own_gf q0 p1.toNatClampNeg ((m120 + 1) + 1) g)) (.int 0) := Asg ww (fits_nar_byte _) W137 (own_gS hj136 hp0 (by omega) hq2) (own_jl hj136 hp0 hpn (by omega))
           have K137 := K134.wr W137 (Or.inl mm0)
           have N137 := Fr.snoc X137 N134 vn
           refine oD X137 hy d23_192 194 rfl ?_
           exact fI X137 hy hrt hlk hQQ d23_194 rfl (Or.inl rfl) e137 (by decide) ⟨((((c120 + (-1 : Int32)) + (-1 : Int32)) + (-1 : Int32))), ((m120 + 1) + 1), rfl, N137, K137, ww, (own_nd2 hI120 hc161_128 hl122)⟩
          ·refine oxl X127 hy d23_161 178 (XT.ii_ge_t hc161_128) (oD X127 hy d23_178 180 rfl (oxh X127 hy d23_180 183 (XT.i0_eq_f (by decide)) (oA X127 hy d23_183 184 rfl (oxz X127 hy d23_184 187 #[jv i84, ss, iv p1, rv o2, jv q84, ss, iv r120, iv ((c120 + (-1 : Int32)) + (-1 : Int32)), iv 1, iv q120, iv i120] (-1) rfl rfl rfl (oD X127 hy d23_187 189 rfl (oH X127 hy d23_189 191 45 rfl ?_))))))
           have hj139 := own_dec hj126 hp0 hp1 (by omega : (m120 + 1) ≤ 19)
           refine aSB X127 hy hZ e127 ww d23_191 192 (own_inb hj139 hp0 hpn (by omega)) fun T140 h140 X140 e140 W140 => ?_
           have ww : Arv Z h140 o2 kb .byte n (own_L n.toNatClampNeg (own_gf q0 p1.toNatClampNeg (m120 + 1) g)) (.int 0) := Asg ww (fits_nar_byte _) W140 (own_gS hj139 hp0 (by omega) hq2) (own_jl hj139 hp0 hpn (by omega))
           have K140 := K127.wr W140 (Or.inl mm0)
           have N140 := Fr.snoc X140 N127 vn
           refine oD X140 hy d23_192 194 rfl ?_
           exact fI X140 hy hrt hlk hQQ d23_194 rfl (Or.inl rfl) e140 (by decide) ⟨(((c120 + (-1 : Int32)) + (-1 : Int32))), (m120 + 1), rfl, N140, K140, ww, (own_nd1 hI120 hN120 hc161_128)⟩
         ·refine oxi X119 hy d23_90 93 (XT.ii_gt_f hc90_121) (oD X119 hy d23_93 95 rfl (oH X119 hy d23_95 97 100 rfl (oR X119 hy d23_97 98 (by decide) (oxo X119 hy d23_98 100 #[jv i84, ss, iv p1, rv o2, jv q84, ss, iv r120, iv c120, iv 1, iv (i120 / (100 : Int32)), iv i120] rfl (oD X119 hy d23_100 102 rfl (oH X119 hy d23_102 104 100 rfl (oM X119 hy d23_104 105 (oD X119 hy d23_105 107 rfl (oL X119 hy d23_107 108 ?_)))))))))
          refine oxo X119 hy d23_108 110 #[jv i84, ss, iv p1, rv o2, jv q84, ss, iv (((i120 / (100 : Int32)) * (100 : Int32)) - i120), iv c120, iv 1, iv (i120 / (100 : Int32)), iv i120] rfl (oD X119 hy d23_110 112 rfl ?_)
          refine Ends.step (fun _ k => XS.istore X119.here hx rfl (hb hby d23_112) rfl (l' := #[jv i84, ss, iv p1, rv o2, jv q84, ss, iv (((i120 / (100 : Int32)) * (100 : Int32)) - i120), iv c120, iv 1, iv (i120 / (100 : Int32)), iv (i120 / (100 : Int32))]) rfl k) ?_
          have hg141 := own_geI hI120 hc90_121
          have hr141 := own_rI hI120 (own_N0 q0 m120)
          have hb141 := own_mb3 hg141
          show Ends p e below QQ (T119.setTop (mkF m 114 #[jv i84, ss, iv p1, rv o2, jv q84, ss, iv (((i120 / (100 : Int32)) * (100 : Int32)) - i120), iv c120, iv 1, iv (i120 / (100 : Int32)), iv (i120 / (100 : Int32))] []))
          refine oA X119 hy d23_114 115 rfl (oxz X119 hy d23_115 118 #[jv i84, ss, iv p1, rv o2, jv q84, ss, iv (((i120 / (100 : Int32)) * (100 : Int32)) - i120), iv (c120 + (-1 : Int32)), iv 1, iv (i120 / (100 : Int32)), iv (i120 / (100 : Int32))] (-1) rfl rfl rfl (oD X119 hy d23_118 120 rfl (gS X119 hy hown hZ hw e119 wg d23_120 123 141 rfl fun T142 X142 e142 => oD X142 hy d23_123 125 rfl (aLB X142 hy hZ e142 wv d23_125 126 (.int (own_dg ((own_M q0) / 10 ^ m120))) (own_in hr141) (own_oneat hr141) ?_))))
          have hj145 := own_dec hC120 hp0 hp1 (by omega : m120 ≤ 19)
          refine aSB X142 hy hZ e142 ww d23_126 127 (own_inb hj145 hp0 hpn (by omega)) fun T146 h146 X146 e146 W146 => ?_
          rw [own_nardg] at W146
          have wv := wv.other W146 (Ne.symm va)
          have wg := wg.wr W146
          have wn := wn.other W146 (Ne.symm wT)
          have wf := wf.wr W146
          have ww : Arv Z h146 o2 kb .byte n (own_L n.toNatClampNeg (own_w (own_M q0) p1.toNatClampNeg (m120 + 1) g)) (.int 0) := Asg ww (own_fitdg _) W146 (own_wT hj145 hp0 (by omega)) (own_jl hj145 hp0 hpn (by omega))
          have K146 := K119.wr W146 (Or.inl mm0)
          have N146 := Fr.snoc X146 N119 vn
          refine oA X146 hy d23_127 128 rfl (oxz X146 hy d23_128 131 #[jv i84, ss, iv p1, rv o2, jv q84, ss, iv (((i120 / (100 : Int32)) * (100 : Int32)) - i120), iv ((c120 + (-1 : Int32)) + (-1 : Int32)), iv 1, iv (i120 / (100 : Int32)), iv (i120 / (100 : Int32))] (-1) rfl rfl rfl (oD X146 hy d23_131 133 rfl (gS X146 hy hown hZ hw e146 wf d23_133 136 237 rfl fun T147 X147 e147 => oD X147 hy d23_136 138 rfl (aLB X147 hy hZ e147 wn d23_138 139 (.int (own_dg ((own_M q0) / 10 ^ (m120 + 1)))) (own_in hr141) (own_tenat' hr141) ?_))))
          obtain ⟨cl149, Ar149, q149, S149, P149, H149, G149⟩ := id ww
          have hj150 := own_dec hj145 hp0 hp1 (by omega : (m120 + 1) ≤ 19)
          have hin149 : ¬ (((c120 + (-1 : Int32)) + (-1 : Int32)) < 0 ∨ cl149.slots.size ≤ (((c120 + (-1 : Int32)) + (-1 : Int32))).toNatClampNeg) := inb_of S149 (own_inb hj150 hp0 hpn (by omega))
          obtain ⟨T151, h151, X151, e151, W151, st151⟩ := stB X147 hx hZ e147 Ar149 (j := ((c120 + (-1 : Int32)) + (-1 : Int32))) hin149 (g := (mkF m 139 #[jv i84, ss, iv p1, rv o2, jv q84, ss, iv (((i120 / (100 : Int32)) * (100 : Int32)) - i120), iv ((c120 + (-1 : Int32)) + (-1 : Int32)), iv 1, iv (i120 / (100 : Int32)), iv (i120 / (100 : Int32))] [(.int (own_dg ((own_M q0) / 10 ^ (m120 + 1)))), (.int ((c120 + (-1 : Int32)) + (-1 : Int32))), .ref o2])) rfl rfl (hb hby d23_139)
          rw [own_nardg] at W151
          have wv := wv.other W151 (Ne.symm va)
          have wg := wg.wr W151
          have wn := wn.other W151 (Ne.symm wT)
          have wf := wf.wr W151
          have ww : Arv Z h151 o2 kb .byte n (own_L n.toNatClampNeg (own_w (own_M q0) p1.toNatClampNeg ((m120 + 1) + 1) g)) (.int 0) := Asg ww (own_fitdg _) W151 (own_wT hj150 hp0 (by omega)) (own_jl hj150 hp0 hpn (by omega))
          have K151 := K146.wr W151 (Or.inl mm0)
          have N151 := Fr.snoc X151 N146 vn
          refine Ends.step st151 ?_
          have hj152 := own_qI hI120 (own_N0 q0 m120)
          have hn152 := own_hN hg141
          show Ends p e below QQ (T151.setTop (mkF m 140 #[jv i84, ss, iv p1, rv o2, jv q84, ss, iv (((i120 / (100 : Int32)) * (100 : Int32)) - i120), iv ((c120 + (-1 : Int32)) + (-1 : Int32)), iv 1, iv (i120 / (100 : Int32)), iv (i120 / (100 : Int32))] []))
          refine Ends.step (fun _ k => XS.goto X151.here hx rfl (pc0 := 140) (pc' := 86) rfl (hb hby d23_140) (by decide) (by decide) k) ?_
          exact ih119 (((m120 + 1) + 1)) ((i120 / (100 : Int32))) (((c120 + (-1 : Int32)) + (-1 : Int32))) ((((i120 / (100 : Int32)) * (100 : Int32)) - i120)) ((i120 / (100 : Int32))) T151 h151 _ X151 e151 N151 K151 ww wv wg wn wf hj152 hj150 hn152 (own_fu hg141 hf119)
       exact LP119 (((own_M q0) / 10 ^ ((m84 + 1) + 1)).toNat + 1) ((m84 + 1) + 1) ((i84.toInt32 / (100 : Int32))) (((c84 + (-1 : Int32)) + (-1 : Int32))) ((((i84.toInt32 / (100 : Int32)) * (100 : Int32)) - i84.toInt32)) ((i84.toInt32 / (100 : Int32))) T117 h117 _ X117 e117 N117 K117 ww wv wg wn wf hj118 hj116 hn118 (Nat.lt_succ_self _)
     ·refine oxh X83 hy d23_29 32 (XT.ll_gt_f hc29_85) (oE X83 hy d23_32 33 rfl (oJ2 X83 hy hown hZ hw d23_33 36 100 236 rfl (oW X83 hy d23_36 37 (by decide) (oxq X83 hy d23_37 39 #[jv i84, ss, iv p1, rv o2, jv (i84 / (100 : Int64)), ss, iv r84, iv c84, iv 1, uu, uu] rfl (oF X83 hy d23_39 41 rfl (oJ2 X83 hy hown hZ hw d23_41 44 100 236 rfl (oU X83 hy d23_44 45 (oE X83 hy d23_45 46 rfl (oT X83 hy d23_46 47 ?_)))))))))
      refine oZ X83 hy d23_47 48 (oxo X83 hy d23_48 50 #[jv i84, ss, iv p1, rv o2, jv (i84 / (100 : Int64)), ss, iv (((i84 / (100 : Int64)) * (100 : Int64)) - i84).toInt32, iv c84, iv 1, uu, uu] rfl (oF X83 hy d23_50 52 rfl ?_))
      refine Ends.step (fun _ k => XT.lstoreN X83.here hx rfl (hb hby d23_52) rfl (l' := #[jv (i84 / (100 : Int64)), ss, iv p1, rv o2, jv (i84 / (100 : Int64)), ss, iv (((i84 / (100 : Int64)) * (100 : Int64)) - i84).toInt32, iv c84, iv 1, uu, uu]) rfl k) ?_
      have hg153 := own_geJ hI84 hc29_85
      have hr153 := own_rJ hI84 (own_N0 q0 m84)
      have hb153 := own_mb3 hg153
      show Ends p e below QQ (T83.setTop (mkF m 53 #[jv (i84 / (100 : Int64)), ss, iv p1, rv o2, jv (i84 / (100 : Int64)), ss, iv (((i84 / (100 : Int64)) * (100 : Int64)) - i84).toInt32, iv c84, iv 1, uu, uu] []))
      refine oA X83 hy d23_53 54 rfl (oxz X83 hy d23_54 57 #[jv (i84 / (100 : Int64)), ss, iv p1, rv o2, jv (i84 / (100 : Int64)), ss, iv (((i84 / (100 : Int64)) * (100 : Int64)) - i84).toInt32, iv (c84 + (-1 : Int32)), iv 1, uu, uu] (-1) rfl rfl rfl (oD X83 hy d23_57 59 rfl (gS X83 hy hown hZ hw e83 wg d23_59 62 141 rfl fun T154 X154 e154 => oD X154 hy d23_62 64 rfl (aLB X154 hy hZ e154 wv d23_64 65 (.int (own_dg ((own_M q0) / 10 ^ m84))) (own_in hr153) (own_oneat hr153) ?_))))
      have hj157 := own_dec hC84 hp0 hp1 (by omega : m84 ≤ 19)
      refine aSB X154 hy hZ e154 ww d23_65 66 (own_inb hj157 hp0 hpn (by omega)) fun T158 h158 X158 e158 W158 => ?_
      rw [own_nardg] at W158
      have wv := wv.other W158 (Ne.symm va)
      have wg := wg.wr W158
      have wn := wn.other W158 (Ne.symm wT)
      have wf := wf.wr W158
      have ww : Arv Z h158 o2 kb .byte n (own_L n.toNatClampNeg (own_w (own_M q0) p1.toNatClampNeg (m84 + 1) g)) (.int 0) := Asg ww (own_fitdg _) W158 (own_wT hj157 hp0 (by omega)) (own_jl hj157 hp0 hpn (by omega))
      have K158 := K83.wr W158 (Or.inl mm0)
      have N158 := Fr.snoc X158 N83 vn
      refine oA X158 hy d23_66 67 rfl (oxz X158 hy d23_67 70 #[jv (i84 / (100 : Int64)), ss, iv p1, rv o2, jv (i84 / (100 : Int64)), ss, iv (((i84 / (100 : Int64)) * (100 : Int64)) - i84).toInt32, iv ((c84 + (-1 : Int32)) + (-1 : Int32)), iv 1, uu, uu] (-1) rfl rfl rfl (oD X158 hy d23_70 72 rfl (gS X158 hy hown hZ hw e158 wf d23_72 75 237 rfl fun T159 X159 e159 => oD X159 hy d23_75 77 rfl (aLB X159 hy hZ e159 wn d23_77 78 (.int (own_dg ((own_M q0) / 10 ^ (m84 + 1)))) (own_in hr153) (own_tenat' hr153) ?_))))
      obtain ⟨cl161, Ar161, q161, S161, P161, H161, G161⟩ := id ww
      have hj162 := own_dec hj157 hp0 hp1 (by omega : (m84 + 1) ≤ 19)
      have hin161 : ¬ (((c84 + (-1 : Int32)) + (-1 : Int32)) < 0 ∨ cl161.slots.size ≤ (((c84 + (-1 : Int32)) + (-1 : Int32))).toNatClampNeg) := inb_of S161 (own_inb hj162 hp0 hpn (by omega))
      obtain ⟨T163, h163, X163, e163, W163, st163⟩ := stB X159 hx hZ e159 Ar161 (j := ((c84 + (-1 : Int32)) + (-1 : Int32))) hin161 (g := (mkF m 78 #[jv (i84 / (100 : Int64)), ss, iv p1, rv o2, jv (i84 / (100 : Int64)), ss, iv (((i84 / (100 : Int64)) * (100 : Int64)) - i84).toInt32, iv ((c84 + (-1 : Int32)) + (-1 : Int32)), iv 1, uu, uu] [(.int (own_dg ((own_M q0) / 10 ^ (m84 + 1)))), (.int ((c84 + (-1 : Int32)) + (-1 : Int32))), .ref o2])) rfl rfl (hb hby d23_78)
      rw [own_nardg] at W163
      have wv := wv.other W163 (Ne.symm va)
      have wg := wg.wr W163
      have wn := wn.other W163 (Ne.symm wT)
      have wf := wf.wr W163
      have ww : Arv Z h163 o2 kb .byte n (own_L n.toNatClampNeg (own_w (own_M q0) p1.toNatClampNeg ((m84 + 1) + 1) g)) (.int 0) := Asg ww (own_fitdg _) W163 (own_wT hj162 hp0 (by omega)) (own_jl hj162 hp0 hpn (by omega))
      have K163 := K158.wr W163 (Or.inl mm0)
      have N163 := Fr.snoc X163 N158 vn
      refine Ends.step st163 ?_
      have hj164 := own_qJ hI84 (own_N0 q0 m84)
      have hn164 := own_hN hg153
      show Ends p e below QQ (T163.setTop (mkF m 79 #[jv (i84 / (100 : Int64)), ss, iv p1, rv o2, jv (i84 / (100 : Int64)), ss, iv (((i84 / (100 : Int64)) * (100 : Int64)) - i84).toInt32, iv ((c84 + (-1 : Int32)) + (-1 : Int32)), iv 1, uu, uu] []))
      refine Ends.step (fun _ k => XS.goto X163.here hx rfl (pc0 := 79) (pc' := 24) rfl (hb hby d23_79) (by decide) (by decide) k) ?_
      exact ih83 (((m84 + 1) + 1)) ((i84 / (100 : Int64))) (((c84 + (-1 : Int32)) + (-1 : Int32))) ((((i84 / (100 : Int64)) * (100 : Int64)) - i84).toInt32) ((i84 / (100 : Int64))) T163 h163 _ X163 e163 N163 K163 ww wv wg wn wf hj164 hj162 hn164 (own_fu hg153 hf83)
   exact LP83 (((own_M q0) / 10 ^ ((0 + 1) + 1)).toNat + 1) ((0 + 1) + 1) ((q0 / (100 : Int64))) (((p1 + (-1 : Int32)) + (-1 : Int32))) ((((q0 / (100 : Int64)) * (100 : Int64)) - q0).toInt32) ((q0 / (100 : Int64))) T81 h81 _ X81 e81 N81 K81 ww wv wg wn wf hj82 hj80 hn82 (Nat.lt_succ_self _)
 ·refine oxk X0 hy d23_6 13 (XT.ll_ge_t hc6_1) (oG X0 hy d23_13 14 0 rfl (oxo X0 hy d23_14 16 #[jv q0, ss, iv p1, rv o2, uu, uu, uu, iv p1, iv 0, uu, uu] rfl (oD X0 hy d23_16 18 rfl (oxh X0 hy d23_18 21 (XT.i0_ne_f (by decide)) (oE X0 hy d23_21 22 rfl (oX X0 hy d23_22 23 ?_))))))
  refine Ends.step (fun _ k => XT.lstoreN X0.here hx rfl (hb hby d23_23) rfl (l' := #[jv (-q0), ss, iv p1, rv o2, uu, uu, uu, iv p1, iv 0, uu, uu]) rfl k) ?_
  obtain ⟨hi165, hq165⟩ := own_hiP hc6_1
  have hp165 : (p1).toInt = p1.toInt - ((0 : Nat) : Int) := by simp
  have ww := own_Acv ww (own_w0 (M := own_M q0) (p := p1.toNatClampNeg))
  show Ends p e below QQ (s₁.setTop (mkF m 24 #[jv (-q0), ss, iv p1, rv o2, uu, uu, uu, iv p1, iv 0, uu, uu] []))
  refine oE X0 hy d23_24 25 rfl (oJ2 X0 hy hown hZ hw d23_25 28 (-2147483648) 140 rfl (oY X0 hy d23_28 29 ?_))
  by_cases hc29_166 : (-2147483648 : Int64) < (-q0)
  ·refine oxk X0 hy d23_29 82 (XT.ll_gt_t hc29_166) (oE X0 hy d23_82 83 rfl (oZ X0 hy d23_83 84 ?_))
   refine Ends.step (fun _ k => XS.istore X0.here hx rfl (hb hby d23_84) rfl (l' := #[jv (-q0), ss, iv p1, rv o2, uu, uu, uu, iv p1, iv 0, uu, iv (-q0).toInt32]) rfl k) ?_
   have hI167 := own_hi10 hi165 (own_N0 q0 0) hc29_166
   show Ends p e below QQ (s₁.setTop (mkF m 86 #[jv (-q0), ss, iv p1, rv o2, uu, uu, uu, iv p1, iv 0, uu, iv (-q0).toInt32] []))
   refine oD X0 hy d23_86 88 rfl (oH X0 hy d23_88 90 (-100) rfl ?_)
   by_cases hc90_168 : (-100 : Int32) < (-q0).toInt32
   ·refine Ends.step (fun _ k => XS.icmpYes X0.here hx rfl (pc0 := 90) (pc' := 143) rfl (hb hby d23_90) rfl (XT.ii_gt_t hc90_168) (by decide) (by decide) k) ?_
    have hl169 := own_ltI hI167 hc90_168
    have hr169 := own_ngI hI167 (own_N0 q0 0) hl169
    have hb169 := own_mb1 (q := q0) (m := 0) (Or.inl rfl)
    show Ends p e below QQ (s₁.setTop (mkF m 143 #[jv (-q0), ss, iv p1, rv o2, uu, uu, uu, iv p1, iv 0, uu, iv (-q0).toInt32] []))
    refine oA X0 hy d23_143 144 rfl (oxz X0 hy d23_144 147 #[jv (-q0), ss, iv p1, rv o2, uu, uu, uu, iv (p1 + (-1 : Int32)), iv 0, uu, iv (-q0).toInt32] (-1) rfl rfl rfl (oD X0 hy d23_147 149 rfl (gS X0 hy hown hZ hw e0 wg d23_149 152 141 rfl fun T170 X170 e170 => oD X170 hy d23_152 154 rfl (oQ X170 hy d23_154 155 (aLB X170 hy hZ e170 wv d23_155 156 (.int (own_dg ((own_M q0) / 10 ^ 0))) (own_in hr169) (own_oneat hr169) ?_)))))
    have hj173 := own_dec hp165 hp0 hp1 (by omega : 0 ≤ 19)
    refine aSB X170 hy hZ e170 ww d23_156 157 (own_inb hj173 hp0 hpn (by omega)) fun T174 h174 X174 e174 W174 => ?_
    rw [own_nardg] at W174
    have wn := wn.other W174 (Ne.symm wT)
    have wf := wf.wr W174
    have ww : Arv Z h174 o2 kb .byte n (own_L n.toNatClampNeg (own_w (own_M q0) p1.toNatClampNeg (0 + 1) g)) (.int 0) := Asg ww (own_fitdg _) W174 (own_wT hj173 hp0 (by omega)) (own_jl hj173 hp0 hpn (by omega))
    have K174 := (Keep.refl h0 [o2]).wr W174 (Or.inl mm0)
    have N174 := Fr.snoc X174 N0 vn
    refine oD X174 hy d23_157 159 rfl (oH X174 hy d23_159 161 (-9) rfl ?_)
    by_cases hc161_175 : (-q0).toInt32 < (-9 : Int32)
    ·refine Ends.step (fun _ k => XS.icmpNo X174.here hx rfl (hb hby d23_161) rfl (XT.ii_ge_f hc161_175) k) ?_
     have hB176 := own_mb2 (own_ten hI167 hc161_175)
     show Ends p e below QQ (T174.setTop (mkF m 164 #[jv (-q0), ss, iv p1, rv o2, uu, uu, uu, iv (p1 + (-1 : Int32)), iv 0, uu, iv (-q0).toInt32] []))
     refine oA X174 hy d23_164 165 rfl (oxz X174 hy d23_165 168 #[jv (-q0), ss, iv p1, rv o2, uu, uu, uu, iv ((p1 + (-1 : Int32)) + (-1 : Int32)), iv 0, uu, iv (-q0).toInt32] (-1) rfl rfl rfl (oD X174 hy d23_168 170 rfl (gS X174 hy hown hZ hw e174 wf d23_170 173 237 rfl fun T177 X177 e177 => oD X177 hy d23_173 175 rfl (oQ X177 hy d23_175 176 (aLB X177 hy hZ e177 wn d23_176 177 (.int (own_dg ((own_M q0) / 10 ^ (0 + 1)))) (own_in hr169) (own_tenat' hr169) ?_)))))
     have hj180 := own_dec hj173 hp0 hp1 (by omega : (0 + 1) ≤ 19)
     refine aSB X177 hy hZ e177 ww d23_177 178 (own_inb hj180 hp0 hpn (by omega)) fun T181 h181 X181 e181 W181 => ?_
     rw [own_nardg] at W181
     have ww : Arv Z h181 o2 kb .byte n (own_L n.toNatClampNeg (own_w (own_M q0) p1.toNatClampNeg ((0 + 1) + 1) g)) (.int 0) := Asg ww (own_fitdg _) W181 (own_wT hj180 hp0 (by omega)) (own_jl hj180 hp0 hpn (by omega))
     have K181 := K174.wr W181 (Or.inl mm0)
     have N181 := Fr.snoc X181 N174 vn
     refine oD X181 hy d23_178 180 rfl ?_
     refine Ends.step (fun _ k => XS.ifYes X181.here hx rfl (pc0 := 180) (pc' := 192) rfl (hb hby d23_180) rfl (XT.i0_eq_t (by decide)) (by decide) (by decide) k) ?_
     have ww := own_Acv ww (own_gP (p := p1.toNatClampNeg) (m := ((0 + 1) + 1)) (g := g) hq165)
     show Ends p e below QQ (T181.setTop (mkF m 192 #[jv (-q0), ss, iv p1, rv o2, uu, uu, uu, iv ((p1 + (-1 : Int32)) + (-1 : Int32)), iv 0, uu, iv (-q0).toInt32] []))
     refine oD X181 hy d23_192 194 rfl ?_
     exact fI X181 hy hrt hlk hQQ d23_194 rfl (Or.inl rfl) e181 (by decide) ⟨(((p1 + (-1 : Int32)) + (-1 : Int32))), ((0 + 1) + 1), rfl, N181, K181, ww, (own_nd2 hI167 hc161_175 hl169)⟩
    ·refine oxl X174 hy d23_161 178 (XT.ii_ge_t hc161_175) (oD X174 hy d23_178 180 rfl ?_)
     refine Ends.step (fun _ k => XS.ifYes X174.here hx rfl (pc0 := 180) (pc' := 192) rfl (hb hby d23_180) rfl (XT.i0_eq_t (by decide)) (by decide) (by decide) k) ?_
     have ww := own_Acv ww (own_gP (p := p1.toNatClampNeg) (m := (0 + 1)) (g := g) hq165)
     show Ends p e below QQ (T174.setTop (mkF m 192 #[jv (-q0), ss, iv p1, rv o2, uu, uu, uu, iv (p1 + (-1 : Int32)), iv 0, uu, iv (-q0).toInt32] []))
     refine oD X174 hy d23_192 194 rfl ?_
     exact fI X174 hy hrt hlk hQQ d23_194 rfl (Or.inl rfl) e174 (by decide) ⟨((p1 + (-1 : Int32))), (0 + 1), rfl, N174, K174, ww, (own_nd1 hI167 (Or.inl rfl) hc161_175)⟩
   ·refine oxi X0 hy d23_90 93 (XT.ii_gt_f hc90_168) (oD X0 hy d23_93 95 rfl (oH X0 hy d23_95 97 100 rfl (oR X0 hy d23_97 98 (by decide) (oxo X0 hy d23_98 100 #[jv (-q0), ss, iv p1, rv o2, uu, uu, uu, iv p1, iv 0, iv ((-q0).toInt32 / (100 : Int32)), iv (-q0).toInt32] rfl (oD X0 hy d23_100 102 rfl (oH X0 hy d23_102 104 100 rfl (oM X0 hy d23_104 105 (oD X0 hy d23_105 107 rfl (oL X0 hy d23_107 108 ?_)))))))))
    refine oxo X0 hy d23_108 110 #[jv (-q0), ss, iv p1, rv o2, uu, uu, iv ((((-q0).toInt32 / (100 : Int32)) * (100 : Int32)) - (-q0).toInt32), iv p1, iv 0, iv ((-q0).toInt32 / (100 : Int32)), iv (-q0).toInt32] rfl (oD X0 hy d23_110 112 rfl ?_)
    refine Ends.step (fun _ k => XS.istore X0.here hx rfl (hb hby d23_112) rfl (l' := #[jv (-q0), ss, iv p1, rv o2, uu, uu, iv ((((-q0).toInt32 / (100 : Int32)) * (100 : Int32)) - (-q0).toInt32), iv p1, iv 0, iv ((-q0).toInt32 / (100 : Int32)), iv ((-q0).toInt32 / (100 : Int32))]) rfl k) ?_
    have hg182 := own_geI hI167 hc90_168
    have hr182 := own_rI hI167 (own_N0 q0 0)
    have hb182 := own_mb3 hg182
    show Ends p e below QQ (s₁.setTop (mkF m 114 #[jv (-q0), ss, iv p1, rv o2, uu, uu, iv ((((-q0).toInt32 / (100 : Int32)) * (100 : Int32)) - (-q0).toInt32), iv p1, iv 0, iv ((-q0).toInt32 / (100 : Int32)), iv ((-q0).toInt32 / (100 : Int32))] []))
    refine oA X0 hy d23_114 115 rfl (oxz X0 hy d23_115 118 #[jv (-q0), ss, iv p1, rv o2, uu, uu, iv ((((-q0).toInt32 / (100 : Int32)) * (100 : Int32)) - (-q0).toInt32), iv (p1 + (-1 : Int32)), iv 0, iv ((-q0).toInt32 / (100 : Int32)), iv ((-q0).toInt32 / (100 : Int32))] (-1) rfl rfl rfl (oD X0 hy d23_118 120 rfl (gS X0 hy hown hZ hw e0 wg d23_120 123 141 rfl fun T183 X183 e183 => oD X183 hy d23_123 125 rfl (aLB X183 hy hZ e183 wv d23_125 126 (.int (own_dg ((own_M q0) / 10 ^ 0))) (own_in hr182) (own_oneat hr182) ?_))))
    have hj186 := own_dec hp165 hp0 hp1 (by omega : 0 ≤ 19)
    refine aSB X183 hy hZ e183 ww d23_126 127 (own_inb hj186 hp0 hpn (by omega)) fun T187 h187 X187 e187 W187 => ?_
    rw [own_nardg] at W187
    have wv := wv.other W187 (Ne.symm va)
    have wg := wg.wr W187
    have wn := wn.other W187 (Ne.symm wT)
    have wf := wf.wr W187
    have ww : Arv Z h187 o2 kb .byte n (own_L n.toNatClampNeg (own_w (own_M q0) p1.toNatClampNeg (0 + 1) g)) (.int 0) := Asg ww (own_fitdg _) W187 (own_wT hj186 hp0 (by omega)) (own_jl hj186 hp0 hpn (by omega))
    have K187 := (Keep.refl h0 [o2]).wr W187 (Or.inl mm0)
    have N187 := Fr.snoc X187 N0 vn
    refine oA X187 hy d23_127 128 rfl (oxz X187 hy d23_128 131 #[jv (-q0), ss, iv p1, rv o2, uu, uu, iv ((((-q0).toInt32 / (100 : Int32)) * (100 : Int32)) - (-q0).toInt32), iv ((p1 + (-1 : Int32)) + (-1 : Int32)), iv 0, iv ((-q0).toInt32 / (100 : Int32)), iv ((-q0).toInt32 / (100 : Int32))] (-1) rfl rfl rfl (oD X187 hy d23_131 133 rfl (gS X187 hy hown hZ hw e187 wf d23_133 136 237 rfl fun T188 X188 e188 => oD X188 hy d23_136 138 rfl (aLB X188 hy hZ e188 wn d23_138 139 (.int (own_dg ((own_M q0) / 10 ^ (0 + 1)))) (own_in hr182) (own_tenat' hr182) ?_))))
    obtain ⟨cl190, Ar190, q190, S190, P190, H190, G190⟩ := id ww
    have hj191 := own_dec hj186 hp0 hp1 (by omega : (0 + 1) ≤ 19)
    have hin190 : ¬ (((p1 + (-1 : Int32)) + (-1 : Int32)) < 0 ∨ cl190.slots.size ≤ (((p1 + (-1 : Int32)) + (-1 : Int32))).toNatClampNeg) := inb_of S190 (own_inb hj191 hp0 hpn (by omega))
    obtain ⟨T192, h192, X192, e192, W192, st192⟩ := stB X188 hx hZ e188 Ar190 (j := ((p1 + (-1 : Int32)) + (-1 : Int32))) hin190 (g := (mkF m 139 #[jv (-q0), ss, iv p1, rv o2, uu, uu, iv ((((-q0).toInt32 / (100 : Int32)) * (100 : Int32)) - (-q0).toInt32), iv ((p1 + (-1 : Int32)) + (-1 : Int32)), iv 0, iv ((-q0).toInt32 / (100 : Int32)), iv ((-q0).toInt32 / (100 : Int32))] [(.int (own_dg ((own_M q0) / 10 ^ (0 + 1)))), (.int ((p1 + (-1 : Int32)) + (-1 : Int32))), .ref o2])) rfl rfl (hb hby d23_139)
    rw [own_nardg] at W192
    have wv := wv.other W192 (Ne.symm va)
    have wg := wg.wr W192
    have wn := wn.other W192 (Ne.symm wT)
    have wf := wf.wr W192
    have ww : Arv Z h192 o2 kb .byte n (own_L n.toNatClampNeg (own_w (own_M q0) p1.toNatClampNeg ((0 + 1) + 1) g)) (.int 0) := Asg ww (own_fitdg _) W192 (own_wT hj191 hp0 (by omega)) (own_jl hj191 hp0 hpn (by omega))
    have K192 := K187.wr W192 (Or.inl mm0)
    have N192 := Fr.snoc X192 N187 vn
    refine Ends.step st192 ?_
    have hj193 := own_qI hI167 (own_N0 q0 0)
    have hn193 := own_hN hg182
    show Ends p e below QQ (T192.setTop (mkF m 140 #[jv (-q0), ss, iv p1, rv o2, uu, uu, iv ((((-q0).toInt32 / (100 : Int32)) * (100 : Int32)) - (-q0).toInt32), iv ((p1 + (-1 : Int32)) + (-1 : Int32)), iv 0, iv ((-q0).toInt32 / (100 : Int32)), iv ((-q0).toInt32 / (100 : Int32))] []))
    refine Ends.step (fun _ k => XS.goto X192.here hx rfl (pc0 := 140) (pc' := 86) rfl (hb hby d23_140) (by decide) (by decide) k) ?_
    have LP194 : ∀ (fu194 : Nat) (m195 : Nat) (i195 : Int32) (c195 : Int32) (r195 : Int32) (q195 : Int32) (T194 : State) (h194 : Heap) (L194 : List Loc) (X194 : Stand p l e (rmm 0 0 0 0) s m #[.long q0, .int p1, .ref o2] below meth c T194 L194 0 0) (e194 : T194.heap = h194) (N194 : Fr n0 L194) (K194 : Keep h0 h194 [o2]) (ww : Arv Z h194 o2 kb .byte n (own_L n.toNatClampNeg (own_w (own_M q0) p1.toNatClampNeg m195 g)) (.int 0)) (wv : Arv Z h194 a_D1 k_a_D1 .byte 100 own_ones (.int 0)) (wg : sHQ Z h194 (.ref a_D1)) (wn : Arv Z h194 a_D2 k_a_D2 .byte 100 own_tens (.int 0)) (wf : sIQ Z h194 (.ref a_D2)) (hI195 : i195.toInt = -((own_M q0) / 10 ^ m195)) (hC195 : c195.toInt = p1.toInt - (m195 : Int)) (hN195 : m195 = 0 ∨ 1 ≤ (own_M q0) / 10 ^ m195) (hf194 : ((own_M q0) / 10 ^ m195).toNat < fu194), Ends p e below QQ (T194.setTop (mkF m 86 #[jv (-q0), ss, iv p1, rv o2, uu, uu, iv r195, iv c195, iv 0, iv q195, iv i195] [])) := by
     intro fu194
     induction fu194 with
     | zero => intro m195 i195 c195 r195 q195 T194 h194 L194 X194 e194 N194 K194 ww wv wg wn wf hI195 hC195 hN195 hf194; exact absurd hf194 (Nat.not_lt_zero _)
     | succ fu194 ih194 =>
      intro m195 i195 c195 r195 q195 T194 h194 L194 X194 e194 N194 K194 ww wv wg wn wf hI195 hC195 hN195 hf194
      show Ends p e below QQ (T194.setTop (mkF m 86 #[jv (-q0), ss, iv p1, rv o2, uu, uu, iv r195, iv c195, iv 0, iv q195, iv i195] []))
      refine oD X194 hy d23_86 88 rfl (oH X194 hy d23_88 90 (-100) rfl ?_)
      by_cases hc90_196 : (-100 : Int32) < i195
      ·refine Ends.step (fun _ k => XS.icmpYes X194.here hx rfl (pc0 := 90) (pc' := 143) rfl (hb hby d23_90) rfl (XT.ii_gt_t hc90_196) (by decide) (by decide) k) ?_
       have hl197 := own_ltI hI195 hc90_196
       have hr197 := own_ngI hI195 (own_N0 q0 m195) hl197
       have hb197 := own_mb1 (q := q0) (m := m195) hN195
       show Ends p e below QQ (T194.setTop (mkF m 143 #[jv (-q0), ss, iv p1, rv o2, uu, uu, iv r195, iv c195, iv 0, iv q195, iv i195] []))
       refine oA X194 hy d23_143 144 rfl (oxz X194 hy d23_144 147 #[jv (-q0), ss, iv p1, rv o2, uu, uu, iv r195, iv (c195 + (-1 : Int32)), iv 0, iv q195, iv i195] (-1) rfl rfl rfl (oD X194 hy d23_147 149 rfl (gS X194 hy hown hZ hw e194 wg d23_149 152 141 rfl fun T198 X198 e198 => oD X198 hy d23_152 154 rfl (oQ X198 hy d23_154 155 (aLB X198 hy hZ e198 wv d23_155 156 (.int (own_dg ((own_M q0) / 10 ^ m195))) (own_in hr197) (own_oneat hr197) ?_)))))
       have hj201 := own_dec hC195 hp0 hp1 (by omega : m195 ≤ 19)
       refine aSB X198 hy hZ e198 ww d23_156 157 (own_inb hj201 hp0 hpn (by omega)) fun T202 h202 X202 e202 W202 => ?_
       rw [own_nardg] at W202
       have wn := wn.other W202 (Ne.symm wT)
       have wf := wf.wr W202
       have ww : Arv Z h202 o2 kb .byte n (own_L n.toNatClampNeg (own_w (own_M q0) p1.toNatClampNeg (m195 + 1) g)) (.int 0) := Asg ww (own_fitdg _) W202 (own_wT hj201 hp0 (by omega)) (own_jl hj201 hp0 hpn (by omega))
       have K202 := K194.wr W202 (Or.inl mm0)
       have N202 := Fr.snoc X202 N194 vn
       refine oD X202 hy d23_157 159 rfl (oH X202 hy d23_159 161 (-9) rfl ?_)
       by_cases hc161_203 : i195 < (-9 : Int32)
       ·refine Ends.step (fun _ k => XS.icmpNo X202.here hx rfl (hb hby d23_161) rfl (XT.ii_ge_f hc161_203) k) ?_
        have hB204 := own_mb2 (own_ten hI195 hc161_203)
        show Ends p e below QQ (T202.setTop (mkF m 164 #[jv (-q0), ss, iv p1, rv o2, uu, uu, iv r195, iv (c195 + (-1 : Int32)), iv 0, iv q195, iv i195] []))
        refine oA X202 hy d23_164 165 rfl (oxz X202 hy d23_165 168 #[jv (-q0), ss, iv p1, rv o2, uu, uu, iv r195, iv ((c195 + (-1 : Int32)) + (-1 : Int32)), iv 0, iv q195, iv i195] (-1) rfl rfl rfl (oD X202 hy d23_168 170 rfl (gS X202 hy hown hZ hw e202 wf d23_170 173 237 rfl fun T205 X205 e205 => oD X205 hy d23_173 175 rfl (oQ X205 hy d23_175 176 (aLB X205 hy hZ e205 wn d23_176 177 (.int (own_dg ((own_M q0) / 10 ^ (m195 + 1)))) (own_in hr197) (own_tenat' hr197) ?_)))))
        have hj208 := own_dec hj201 hp0 hp1 (by omega : (m195 + 1) ≤ 19)
        refine aSB X205 hy hZ e205 ww d23_177 178 (own_inb hj208 hp0 hpn (by omega)) fun T209 h209 X209 e209 W209 => ?_
        rw [own_nardg] at W209
        have ww : Arv Z h209 o2 kb .byte n (own_L n.toNatClampNeg (own_w (own_M q0) p1.toNatClampNeg ((m195 + 1) + 1) g)) (.int 0) := Asg ww (own_fitdg _) W209 (own_wT hj208 hp0 (by omega)) (own_jl hj208 hp0 hpn (by omega))
        have K209 := K202.wr W209 (Or.inl mm0)
        have N209 := Fr.snoc X209 N202 vn
        refine oD X209 hy d23_178 180 rfl ?_
        refine Ends.step (fun _ k => XS.ifYes X209.here hx rfl (pc0 := 180) (pc' := 192) rfl (hb hby d23_180) rfl (XT.i0_eq_t (by decide)) (by decide) (by decide) k) ?_
        have ww := own_Acv ww (own_gP (p := p1.toNatClampNeg) (m := ((m195 + 1) + 1)) (g := g) hq165)
        show Ends p e below QQ (T209.setTop (mkF m 192 #[jv (-q0), ss, iv p1, rv o2, uu, uu, iv r195, iv ((c195 + (-1 : Int32)) + (-1 : Int32)), iv 0, iv q195, iv i195] []))
        refine oD X209 hy d23_192 194 rfl ?_
        exact fI X209 hy hrt hlk hQQ d23_194 rfl (Or.inl rfl) e209 (by decide) ⟨(((c195 + (-1 : Int32)) + (-1 : Int32))), ((m195 + 1) + 1), rfl, N209, K209, ww, (own_nd2 hI195 hc161_203 hl197)⟩
       ·refine oxl X202 hy d23_161 178 (XT.ii_ge_t hc161_203) (oD X202 hy d23_178 180 rfl ?_)
        refine Ends.step (fun _ k => XS.ifYes X202.here hx rfl (pc0 := 180) (pc' := 192) rfl (hb hby d23_180) rfl (XT.i0_eq_t (by decide)) (by decide) (by decide) k) ?_
        have ww := own_Acv ww (own_gP (p := p1.toNatClampNeg) (m := (m195 + 1)) (g := g) hq165)
        show Ends p e below QQ (T202.setTop (mkF m 192 #[jv (-q0), ss, iv p1, rv o2, uu, uu, iv r195, iv (c195 + (-1 : Int32)), iv 0, iv q195, iv i195] []))
        refine oD X202 hy d23_192 194 rfl ?_
        exact fI X202 hy hrt hlk hQQ d23_194 rfl (Or.inl rfl) e202 (by decide) ⟨((c195 + (-1 : Int32))), (m195 + 1), rfl, N202, K202, ww, (own_nd1 hI195 hN195 hc161_203)⟩
      ·refine oxi X194 hy d23_90 93 (XT.ii_gt_f hc90_196) (oD X194 hy d23_93 95 rfl (oH X194 hy d23_95 97 100 rfl (oR X194 hy d23_97 98 (by decide) (oxo X194 hy d23_98 100 #[jv (-q0), ss, iv p1, rv o2, uu, uu, iv r195, iv c195, iv 0, iv (i195 / (100 : Int32)), iv i195] rfl (oD X194 hy d23_100 102 rfl (oH X194 hy d23_102 104 100 rfl (oM X194 hy d23_104 105 (oD X194 hy d23_105 107 rfl (oL X194 hy d23_107 108 ?_)))))))))
       refine oxo X194 hy d23_108 110 #[jv (-q0), ss, iv p1, rv o2, uu, uu, iv (((i195 / (100 : Int32)) * (100 : Int32)) - i195), iv c195, iv 0, iv (i195 / (100 : Int32)), iv i195] rfl (oD X194 hy d23_110 112 rfl ?_)
       refine Ends.step (fun _ k => XS.istore X194.here hx rfl (hb hby d23_112) rfl (l' := #[jv (-q0), ss, iv p1, rv o2, uu, uu, iv (((i195 / (100 : Int32)) * (100 : Int32)) - i195), iv c195, iv 0, iv (i195 / (100 : Int32)), iv (i195 / (100 : Int32))]) rfl k) ?_
       have hg210 := own_geI hI195 hc90_196
       have hr210 := own_rI hI195 (own_N0 q0 m195)
       have hb210 := own_mb3 hg210
       show Ends p e below QQ (T194.setTop (mkF m 114 #[jv (-q0), ss, iv p1, rv o2, uu, uu, iv (((i195 / (100 : Int32)) * (100 : Int32)) - i195), iv c195, iv 0, iv (i195 / (100 : Int32)), iv (i195 / (100 : Int32))] []))
       refine oA X194 hy d23_114 115 rfl (oxz X194 hy d23_115 118 #[jv (-q0), ss, iv p1, rv o2, uu, uu, iv (((i195 / (100 : Int32)) * (100 : Int32)) - i195), iv (c195 + (-1 : Int32)), iv 0, iv (i195 / (100 : Int32)), iv (i195 / (100 : Int32))] (-1) rfl rfl rfl (oD X194 hy d23_118 120 rfl (gS X194 hy hown hZ hw e194 wg d23_120 123 141 rfl fun T211 X211 e211 => oD X211 hy d23_123 125 rfl (aLB X211 hy hZ e211 wv d23_125 126 (.int (own_dg ((own_M q0) / 10 ^ m195))) (own_in hr210) (own_oneat hr210) ?_))))
       have hj214 := own_dec hC195 hp0 hp1 (by omega : m195 ≤ 19)
       refine aSB X211 hy hZ e211 ww d23_126 127 (own_inb hj214 hp0 hpn (by omega)) fun T215 h215 X215 e215 W215 => ?_
       rw [own_nardg] at W215
       have wv := wv.other W215 (Ne.symm va)
       have wg := wg.wr W215
       have wn := wn.other W215 (Ne.symm wT)
       have wf := wf.wr W215
       have ww : Arv Z h215 o2 kb .byte n (own_L n.toNatClampNeg (own_w (own_M q0) p1.toNatClampNeg (m195 + 1) g)) (.int 0) := Asg ww (own_fitdg _) W215 (own_wT hj214 hp0 (by omega)) (own_jl hj214 hp0 hpn (by omega))
       have K215 := K194.wr W215 (Or.inl mm0)
       have N215 := Fr.snoc X215 N194 vn
       refine oA X215 hy d23_127 128 rfl (oxz X215 hy d23_128 131 #[jv (-q0), ss, iv p1, rv o2, uu, uu, iv (((i195 / (100 : Int32)) * (100 : Int32)) - i195), iv ((c195 + (-1 : Int32)) + (-1 : Int32)), iv 0, iv (i195 / (100 : Int32)), iv (i195 / (100 : Int32))] (-1) rfl rfl rfl (oD X215 hy d23_131 133 rfl (gS X215 hy hown hZ hw e215 wf d23_133 136 237 rfl fun T216 X216 e216 => oD X216 hy d23_136 138 rfl (aLB X216 hy hZ e216 wn d23_138 139 (.int (own_dg ((own_M q0) / 10 ^ (m195 + 1)))) (own_in hr210) (own_tenat' hr210) ?_))))
       obtain ⟨cl218, Ar218, q218, S218, P218, H218, G218⟩ := id ww
       have hj219 := own_dec hj214 hp0 hp1 (by omega : (m195 + 1) ≤ 19)
       have hin218 : ¬ (((c195 + (-1 : Int32)) + (-1 : Int32)) < 0 ∨ cl218.slots.size ≤ (((c195 + (-1 : Int32)) + (-1 : Int32))).toNatClampNeg) := inb_of S218 (own_inb hj219 hp0 hpn (by omega))
       obtain ⟨T220, h220, X220, e220, W220, st220⟩ := stB X216 hx hZ e216 Ar218 (j := ((c195 + (-1 : Int32)) + (-1 : Int32))) hin218 (g := (mkF m 139 #[jv (-q0), ss, iv p1, rv o2, uu, uu, iv (((i195 / (100 : Int32)) * (100 : Int32)) - i195), iv ((c195 + (-1 : Int32)) + (-1 : Int32)), iv 0, iv (i195 / (100 : Int32)), iv (i195 / (100 : Int32))] [(.int (own_dg ((own_M q0) / 10 ^ (m195 + 1)))), (.int ((c195 + (-1 : Int32)) + (-1 : Int32))), .ref o2])) rfl rfl (hb hby d23_139)
       rw [own_nardg] at W220
       have wv := wv.other W220 (Ne.symm va)
       have wg := wg.wr W220
       have wn := wn.other W220 (Ne.symm wT)
       have wf := wf.wr W220
       have ww : Arv Z h220 o2 kb .byte n (own_L n.toNatClampNeg (own_w (own_M q0) p1.toNatClampNeg ((m195 + 1) + 1) g)) (.int 0) := Asg ww (own_fitdg _) W220 (own_wT hj219 hp0 (by omega)) (own_jl hj219 hp0 hpn (by omega))
       have K220 := K215.wr W220 (Or.inl mm0)
       have N220 := Fr.snoc X220 N215 vn
       refine Ends.step st220 ?_
       have hj221 := own_qI hI195 (own_N0 q0 m195)
       have hn221 := own_hN hg210
       show Ends p e below QQ (T220.setTop (mkF m 140 #[jv (-q0), ss, iv p1, rv o2, uu, uu, iv (((i195 / (100 : Int32)) * (100 : Int32)) - i195), iv ((c195 + (-1 : Int32)) + (-1 : Int32)), iv 0, iv (i195 / (100 : Int32)), iv (i195 / (100 : Int32))] []))
       refine Ends.step (fun _ k => XS.goto X220.here hx rfl (pc0 := 140) (pc' := 86) rfl (hb hby d23_140) (by decide) (by decide) k) ?_
       exact ih194 (((m195 + 1) + 1)) ((i195 / (100 : Int32))) (((c195 + (-1 : Int32)) + (-1 : Int32))) ((((i195 / (100 : Int32)) * (100 : Int32)) - i195)) ((i195 / (100 : Int32))) T220 h220 _ X220 e220 N220 K220 ww wv wg wn wf hj221 hj219 hn221 (own_fu hg210 hf194)
    exact LP194 (((own_M q0) / 10 ^ ((0 + 1) + 1)).toNat + 1) ((0 + 1) + 1) (((-q0).toInt32 / (100 : Int32))) (((p1 + (-1 : Int32)) + (-1 : Int32))) (((((-q0).toInt32 / (100 : Int32)) * (100 : Int32)) - (-q0).toInt32)) (((-q0).toInt32 / (100 : Int32))) T192 h192 _ X192 e192 N192 K192 ww wv wg wn wf hj193 hj191 hn193 (Nat.lt_succ_self _)
  ·refine oxh X0 hy d23_29 32 (XT.ll_gt_f hc29_166) (oE X0 hy d23_32 33 rfl (oJ2 X0 hy hown hZ hw d23_33 36 100 236 rfl (oW X0 hy d23_36 37 (by decide) (oxq X0 hy d23_37 39 #[jv (-q0), ss, iv p1, rv o2, jv ((-q0) / (100 : Int64)), ss, uu, iv p1, iv 0, uu, uu] rfl (oF X0 hy d23_39 41 rfl (oJ2 X0 hy hown hZ hw d23_41 44 100 236 rfl (oU X0 hy d23_44 45 (oE X0 hy d23_45 46 rfl (oT X0 hy d23_46 47 ?_)))))))))
   refine oZ X0 hy d23_47 48 (oxo X0 hy d23_48 50 #[jv (-q0), ss, iv p1, rv o2, jv ((-q0) / (100 : Int64)), ss, iv ((((-q0) / (100 : Int64)) * (100 : Int64)) - (-q0)).toInt32, iv p1, iv 0, uu, uu] rfl (oF X0 hy d23_50 52 rfl ?_))
   refine Ends.step (fun _ k => XT.lstoreN X0.here hx rfl (hb hby d23_52) rfl (l' := #[jv ((-q0) / (100 : Int64)), ss, iv p1, rv o2, jv ((-q0) / (100 : Int64)), ss, iv ((((-q0) / (100 : Int64)) * (100 : Int64)) - (-q0)).toInt32, iv p1, iv 0, uu, uu]) rfl k) ?_
   have hg222 := own_geJ hi165 hc29_166
   have hr222 := own_rJ hi165 (own_N0 q0 0)
   have hb222 := own_mb3 hg222
   show Ends p e below QQ (s₁.setTop (mkF m 53 #[jv ((-q0) / (100 : Int64)), ss, iv p1, rv o2, jv ((-q0) / (100 : Int64)), ss, iv ((((-q0) / (100 : Int64)) * (100 : Int64)) - (-q0)).toInt32, iv p1, iv 0, uu, uu] []))
   refine oA X0 hy d23_53 54 rfl (oxz X0 hy d23_54 57 #[jv ((-q0) / (100 : Int64)), ss, iv p1, rv o2, jv ((-q0) / (100 : Int64)), ss, iv ((((-q0) / (100 : Int64)) * (100 : Int64)) - (-q0)).toInt32, iv (p1 + (-1 : Int32)), iv 0, uu, uu] (-1) rfl rfl rfl (oD X0 hy d23_57 59 rfl (gS X0 hy hown hZ hw e0 wg d23_59 62 141 rfl fun T223 X223 e223 => oD X223 hy d23_62 64 rfl (aLB X223 hy hZ e223 wv d23_64 65 (.int (own_dg ((own_M q0) / 10 ^ 0))) (own_in hr222) (own_oneat hr222) ?_))))
   have hj226 := own_dec hp165 hp0 hp1 (by omega : 0 ≤ 19)
   refine aSB X223 hy hZ e223 ww d23_65 66 (own_inb hj226 hp0 hpn (by omega)) fun T227 h227 X227 e227 W227 => ?_
   rw [own_nardg] at W227
   have wv := wv.other W227 (Ne.symm va)
   have wg := wg.wr W227
   have wn := wn.other W227 (Ne.symm wT)
   have wf := wf.wr W227
   have ww : Arv Z h227 o2 kb .byte n (own_L n.toNatClampNeg (own_w (own_M q0) p1.toNatClampNeg (0 + 1) g)) (.int 0) := Asg ww (own_fitdg _) W227 (own_wT hj226 hp0 (by omega)) (own_jl hj226 hp0 hpn (by omega))
   have K227 := (Keep.refl h0 [o2]).wr W227 (Or.inl mm0)
   have N227 := Fr.snoc X227 N0 vn
   refine oA X227 hy d23_66 67 rfl (oxz X227 hy d23_67 70 #[jv ((-q0) / (100 : Int64)), ss, iv p1, rv o2, jv ((-q0) / (100 : Int64)), ss, iv ((((-q0) / (100 : Int64)) * (100 : Int64)) - (-q0)).toInt32, iv ((p1 + (-1 : Int32)) + (-1 : Int32)), iv 0, uu, uu] (-1) rfl rfl rfl (oD X227 hy d23_70 72 rfl (gS X227 hy hown hZ hw e227 wf d23_72 75 237 rfl fun T228 X228 e228 => oD X228 hy d23_75 77 rfl (aLB X228 hy hZ e228 wn d23_77 78 (.int (own_dg ((own_M q0) / 10 ^ (0 + 1)))) (own_in hr222) (own_tenat' hr222) ?_))))
   obtain ⟨cl230, Ar230, q230, S230, P230, H230, G230⟩ := id ww
   have hj231 := own_dec hj226 hp0 hp1 (by omega : (0 + 1) ≤ 19)
   have hin230 : ¬ (((p1 + (-1 : Int32)) + (-1 : Int32)) < 0 ∨ cl230.slots.size ≤ (((p1 + (-1 : Int32)) + (-1 : Int32))).toNatClampNeg) := inb_of S230 (own_inb hj231 hp0 hpn (by omega))
   obtain ⟨T232, h232, X232, e232, W232, st232⟩ := stB X228 hx hZ e228 Ar230 (j := ((p1 + (-1 : Int32)) + (-1 : Int32))) hin230 (g := (mkF m 78 #[jv ((-q0) / (100 : Int64)), ss, iv p1, rv o2, jv ((-q0) / (100 : Int64)), ss, iv ((((-q0) / (100 : Int64)) * (100 : Int64)) - (-q0)).toInt32, iv ((p1 + (-1 : Int32)) + (-1 : Int32)), iv 0, uu, uu] [(.int (own_dg ((own_M q0) / 10 ^ (0 + 1)))), (.int ((p1 + (-1 : Int32)) + (-1 : Int32))), .ref o2])) rfl rfl (hb hby d23_78)
   rw [own_nardg] at W232
   have wv := wv.other W232 (Ne.symm va)
   have wg := wg.wr W232
   have wn := wn.other W232 (Ne.symm wT)
   have wf := wf.wr W232
   have ww : Arv Z h232 o2 kb .byte n (own_L n.toNatClampNeg (own_w (own_M q0) p1.toNatClampNeg ((0 + 1) + 1) g)) (.int 0) := Asg ww (own_fitdg _) W232 (own_wT hj231 hp0 (by omega)) (own_jl hj231 hp0 hpn (by omega))
   have K232 := K227.wr W232 (Or.inl mm0)
   have N232 := Fr.snoc X232 N227 vn
   refine Ends.step st232 ?_
   have hj233 := own_qJ hi165 (own_N0 q0 0)
   have hn233 := own_hN hg222
   show Ends p e below QQ (T232.setTop (mkF m 79 #[jv ((-q0) / (100 : Int64)), ss, iv p1, rv o2, jv ((-q0) / (100 : Int64)), ss, iv ((((-q0) / (100 : Int64)) * (100 : Int64)) - (-q0)).toInt32, iv ((p1 + (-1 : Int32)) + (-1 : Int32)), iv 0, uu, uu] []))
   refine Ends.step (fun _ k => XS.goto X232.here hx rfl (pc0 := 79) (pc' := 24) rfl (hb hby d23_79) (by decide) (by decide) k) ?_
   have LP234 : ∀ (fu234 : Nat) (m235 : Nat) (i235 : Int64) (c235 : Int32) (r235 : Int32) (q235 : Int64) (T234 : State) (h234 : Heap) (L234 : List Loc) (X234 : Stand p l e (rmm 0 0 0 0) s m #[.long q0, .int p1, .ref o2] below meth c T234 L234 0 0) (e234 : T234.heap = h234) (N234 : Fr n0 L234) (K234 : Keep h0 h234 [o2]) (ww : Arv Z h234 o2 kb .byte n (own_L n.toNatClampNeg (own_w (own_M q0) p1.toNatClampNeg m235 g)) (.int 0)) (wv : Arv Z h234 a_D1 k_a_D1 .byte 100 own_ones (.int 0)) (wg : sHQ Z h234 (.ref a_D1)) (wn : Arv Z h234 a_D2 k_a_D2 .byte 100 own_tens (.int 0)) (wf : sIQ Z h234 (.ref a_D2)) (hI235 : i235.toInt = -((own_M q0) / 10 ^ m235)) (hC235 : c235.toInt = p1.toInt - (m235 : Int)) (hN235 : m235 = 0 ∨ 1 ≤ (own_M q0) / 10 ^ m235) (hf234 : ((own_M q0) / 10 ^ m235).toNat < fu234), Ends p e below QQ (T234.setTop (mkF m 24 #[jv i235, ss, iv p1, rv o2, jv q235, ss, iv r235, iv c235, iv 0, uu, uu] [])) := by
    intro fu234
    induction fu234 with
    | zero => intro m235 i235 c235 r235 q235 T234 h234 L234 X234 e234 N234 K234 ww wv wg wn wf hI235 hC235 hN235 hf234; exact absurd hf234 (Nat.not_lt_zero _)
    | succ fu234 ih234 =>
     intro m235 i235 c235 r235 q235 T234 h234 L234 X234 e234 N234 K234 ww wv wg wn wf hI235 hC235 hN235 hf234
     show Ends p e below QQ (T234.setTop (mkF m 24 #[jv i235, ss, iv p1, rv o2, jv q235, ss, iv r235, iv c235, iv 0, uu, uu] []))
     refine oE X234 hy d23_24 25 rfl (oJ2 X234 hy hown hZ hw d23_25 28 (-2147483648) 140 rfl (oY X234 hy d23_28 29 ?_))
     by_cases hc29_236 : (-2147483648 : Int64) < i235
     ·refine oxk X234 hy d23_29 82 (XT.ll_gt_t hc29_236) (oE X234 hy d23_82 83 rfl (oZ X234 hy d23_83 84 ?_))
      refine Ends.step (fun _ k => XS.istore X234.here hx rfl (hb hby d23_84) rfl (l' := #[jv i235, ss, iv p1, rv o2, jv q235, ss, iv r235, iv c235, iv 0, uu, iv i235.toInt32]) rfl k) ?_
      have hI237 := own_hi10 hI235 (own_N0 q0 m235) hc29_236
      show Ends p e below QQ (T234.setTop (mkF m 86 #[jv i235, ss, iv p1, rv o2, jv q235, ss, iv r235, iv c235, iv 0, uu, iv i235.toInt32] []))
      refine oD X234 hy d23_86 88 rfl (oH X234 hy d23_88 90 (-100) rfl ?_)
      by_cases hc90_238 : (-100 : Int32) < i235.toInt32
      ·refine Ends.step (fun _ k => XS.icmpYes X234.here hx rfl (pc0 := 90) (pc' := 143) rfl (hb hby d23_90) rfl (XT.ii_gt_t hc90_238) (by decide) (by decide) k) ?_
       have hl239 := own_ltI hI237 hc90_238
       have hr239 := own_ngI hI237 (own_N0 q0 m235) hl239
       have hb239 := own_mb1 (q := q0) (m := m235) hN235
       show Ends p e below QQ (T234.setTop (mkF m 143 #[jv i235, ss, iv p1, rv o2, jv q235, ss, iv r235, iv c235, iv 0, uu, iv i235.toInt32] []))
       refine oA X234 hy d23_143 144 rfl (oxz X234 hy d23_144 147 #[jv i235, ss, iv p1, rv o2, jv q235, ss, iv r235, iv (c235 + (-1 : Int32)), iv 0, uu, iv i235.toInt32] (-1) rfl rfl rfl (oD X234 hy d23_147 149 rfl (gS X234 hy hown hZ hw e234 wg d23_149 152 141 rfl fun T240 X240 e240 => oD X240 hy d23_152 154 rfl (oQ X240 hy d23_154 155 (aLB X240 hy hZ e240 wv d23_155 156 (.int (own_dg ((own_M q0) / 10 ^ m235))) (own_in hr239) (own_oneat hr239) ?_)))))
       have hj243 := own_dec hC235 hp0 hp1 (by omega : m235 ≤ 19)
       refine aSB X240 hy hZ e240 ww d23_156 157 (own_inb hj243 hp0 hpn (by omega)) fun T244 h244 X244 e244 W244 => ?_
       rw [own_nardg] at W244
       have wn := wn.other W244 (Ne.symm wT)
       have wf := wf.wr W244
       have ww : Arv Z h244 o2 kb .byte n (own_L n.toNatClampNeg (own_w (own_M q0) p1.toNatClampNeg (m235 + 1) g)) (.int 0) := Asg ww (own_fitdg _) W244 (own_wT hj243 hp0 (by omega)) (own_jl hj243 hp0 hpn (by omega))
       have K244 := K234.wr W244 (Or.inl mm0)
       have N244 := Fr.snoc X244 N234 vn
       refine oD X244 hy d23_157 159 rfl (oH X244 hy d23_159 161 (-9) rfl ?_)
       by_cases hc161_245 : i235.toInt32 < (-9 : Int32)
       ·refine Ends.step (fun _ k => XS.icmpNo X244.here hx rfl (hb hby d23_161) rfl (XT.ii_ge_f hc161_245) k) ?_
        have hB246 := own_mb2 (own_ten hI237 hc161_245)
        show Ends p e below QQ (T244.setTop (mkF m 164 #[jv i235, ss, iv p1, rv o2, jv q235, ss, iv r235, iv (c235 + (-1 : Int32)), iv 0, uu, iv i235.toInt32] []))
        refine oA X244 hy d23_164 165 rfl (oxz X244 hy d23_165 168 #[jv i235, ss, iv p1, rv o2, jv q235, ss, iv r235, iv ((c235 + (-1 : Int32)) + (-1 : Int32)), iv 0, uu, iv i235.toInt32] (-1) rfl rfl rfl (oD X244 hy d23_168 170 rfl (gS X244 hy hown hZ hw e244 wf d23_170 173 237 rfl fun T247 X247 e247 => oD X247 hy d23_173 175 rfl (oQ X247 hy d23_175 176 (aLB X247 hy hZ e247 wn d23_176 177 (.int (own_dg ((own_M q0) / 10 ^ (m235 + 1)))) (own_in hr239) (own_tenat' hr239) ?_)))))
        have hj250 := own_dec hj243 hp0 hp1 (by omega : (m235 + 1) ≤ 19)
        refine aSB X247 hy hZ e247 ww d23_177 178 (own_inb hj250 hp0 hpn (by omega)) fun T251 h251 X251 e251 W251 => ?_
        rw [own_nardg] at W251
        have ww : Arv Z h251 o2 kb .byte n (own_L n.toNatClampNeg (own_w (own_M q0) p1.toNatClampNeg ((m235 + 1) + 1) g)) (.int 0) := Asg ww (own_fitdg _) W251 (own_wT hj250 hp0 (by omega)) (own_jl hj250 hp0 hpn (by omega))
        have K251 := K244.wr W251 (Or.inl mm0)
        have N251 := Fr.snoc X251 N244 vn
        refine oD X251 hy d23_178 180 rfl ?_
        refine Ends.step (fun _ k => XS.ifYes X251.here hx rfl (pc0 := 180) (pc' := 192) rfl (hb hby d23_180) rfl (XT.i0_eq_t (by decide)) (by decide) (by decide) k) ?_
        have ww := own_Acv ww (own_gP (p := p1.toNatClampNeg) (m := ((m235 + 1) + 1)) (g := g) hq165)
        show Ends p e below QQ (T251.setTop (mkF m 192 #[jv i235, ss, iv p1, rv o2, jv q235, ss, iv r235, iv ((c235 + (-1 : Int32)) + (-1 : Int32)), iv 0, uu, iv i235.toInt32] []))
        refine oD X251 hy d23_192 194 rfl ?_
        exact fI X251 hy hrt hlk hQQ d23_194 rfl (Or.inl rfl) e251 (by decide) ⟨(((c235 + (-1 : Int32)) + (-1 : Int32))), ((m235 + 1) + 1), rfl, N251, K251, ww, (own_nd2 hI237 hc161_245 hl239)⟩
       ·refine oxl X244 hy d23_161 178 (XT.ii_ge_t hc161_245) (oD X244 hy d23_178 180 rfl ?_)
        refine Ends.step (fun _ k => XS.ifYes X244.here hx rfl (pc0 := 180) (pc' := 192) rfl (hb hby d23_180) rfl (XT.i0_eq_t (by decide)) (by decide) (by decide) k) ?_
        have ww := own_Acv ww (own_gP (p := p1.toNatClampNeg) (m := (m235 + 1)) (g := g) hq165)
        show Ends p e below QQ (T244.setTop (mkF m 192 #[jv i235, ss, iv p1, rv o2, jv q235, ss, iv r235, iv (c235 + (-1 : Int32)), iv 0, uu, iv i235.toInt32] []))
        refine oD X244 hy d23_192 194 rfl ?_
        exact fI X244 hy hrt hlk hQQ d23_194 rfl (Or.inl rfl) e244 (by decide) ⟨((c235 + (-1 : Int32))), (m235 + 1), rfl, N244, K244, ww, (own_nd1 hI237 hN235 hc161_245)⟩
      ·refine oxi X234 hy d23_90 93 (XT.ii_gt_f hc90_238) (oD X234 hy d23_93 95 rfl (oH X234 hy d23_95 97 100 rfl (oR X234 hy d23_97 98 (by decide) (oxo X234 hy d23_98 100 #[jv i235, ss, iv p1, rv o2, jv q235, ss, iv r235, iv c235, iv 0, iv (i235.toInt32 / (100 : Int32)), iv i235.toInt32] rfl (oD X234 hy d23_100 102 rfl (oH X234 hy d23_102 104 100 rfl (oM X234 hy d23_104 105 (oD X234 hy d23_105 107 rfl (oL X234 hy d23_107 108 ?_)))))))))
       refine oxo X234 hy d23_108 110 #[jv i235, ss, iv p1, rv o2, jv q235, ss, iv (((i235.toInt32 / (100 : Int32)) * (100 : Int32)) - i235.toInt32), iv c235, iv 0, iv (i235.toInt32 / (100 : Int32)), iv i235.toInt32] rfl (oD X234 hy d23_110 112 rfl ?_)
       refine Ends.step (fun _ k => XS.istore X234.here hx rfl (hb hby d23_112) rfl (l' := #[jv i235, ss, iv p1, rv o2, jv q235, ss, iv (((i235.toInt32 / (100 : Int32)) * (100 : Int32)) - i235.toInt32), iv c235, iv 0, iv (i235.toInt32 / (100 : Int32)), iv (i235.toInt32 / (100 : Int32))]) rfl k) ?_
       have hg252 := own_geI hI237 hc90_238
       have hr252 := own_rI hI237 (own_N0 q0 m235)
       have hb252 := own_mb3 hg252
       show Ends p e below QQ (T234.setTop (mkF m 114 #[jv i235, ss, iv p1, rv o2, jv q235, ss, iv (((i235.toInt32 / (100 : Int32)) * (100 : Int32)) - i235.toInt32), iv c235, iv 0, iv (i235.toInt32 / (100 : Int32)), iv (i235.toInt32 / (100 : Int32))] []))
       refine oA X234 hy d23_114 115 rfl (oxz X234 hy d23_115 118 #[jv i235, ss, iv p1, rv o2, jv q235, ss, iv (((i235.toInt32 / (100 : Int32)) * (100 : Int32)) - i235.toInt32), iv (c235 + (-1 : Int32)), iv 0, iv (i235.toInt32 / (100 : Int32)), iv (i235.toInt32 / (100 : Int32))] (-1) rfl rfl rfl (oD X234 hy d23_118 120 rfl (gS X234 hy hown hZ hw e234 wg d23_120 123 141 rfl fun T253 X253 e253 => oD X253 hy d23_123 125 rfl (aLB X253 hy hZ e253 wv d23_125 126 (.int (own_dg ((own_M q0) / 10 ^ m235))) (own_in hr252) (own_oneat hr252) ?_))))
       have hj256 := own_dec hC235 hp0 hp1 (by omega : m235 ≤ 19)
       refine aSB X253 hy hZ e253 ww d23_126 127 (own_inb hj256 hp0 hpn (by omega)) fun T257 h257 X257 e257 W257 => ?_
       rw [own_nardg] at W257
       have wv := wv.other W257 (Ne.symm va)
       have wg := wg.wr W257
       have wn := wn.other W257 (Ne.symm wT)
       have wf := wf.wr W257
       have ww : Arv Z h257 o2 kb .byte n (own_L n.toNatClampNeg (own_w (own_M q0) p1.toNatClampNeg (m235 + 1) g)) (.int 0) := Asg ww (own_fitdg _) W257 (own_wT hj256 hp0 (by omega)) (own_jl hj256 hp0 hpn (by omega))
       have K257 := K234.wr W257 (Or.inl mm0)
       have N257 := Fr.snoc X257 N234 vn
       refine oA X257 hy d23_127 128 rfl (oxz X257 hy d23_128 131 #[jv i235, ss, iv p1, rv o2, jv q235, ss, iv (((i235.toInt32 / (100 : Int32)) * (100 : Int32)) - i235.toInt32), iv ((c235 + (-1 : Int32)) + (-1 : Int32)), iv 0, iv (i235.toInt32 / (100 : Int32)), iv (i235.toInt32 / (100 : Int32))] (-1) rfl rfl rfl (oD X257 hy d23_131 133 rfl (gS X257 hy hown hZ hw e257 wf d23_133 136 237 rfl fun T258 X258 e258 => oD X258 hy d23_136 138 rfl (aLB X258 hy hZ e258 wn d23_138 139 (.int (own_dg ((own_M q0) / 10 ^ (m235 + 1)))) (own_in hr252) (own_tenat' hr252) ?_))))
       obtain ⟨cl260, Ar260, q260, S260, P260, H260, G260⟩ := id ww
       have hj261 := own_dec hj256 hp0 hp1 (by omega : (m235 + 1) ≤ 19)
       have hin260 : ¬ (((c235 + (-1 : Int32)) + (-1 : Int32)) < 0 ∨ cl260.slots.size ≤ (((c235 + (-1 : Int32)) + (-1 : Int32))).toNatClampNeg) := inb_of S260 (own_inb hj261 hp0 hpn (by omega))
       obtain ⟨T262, h262, X262, e262, W262, st262⟩ := stB X258 hx hZ e258 Ar260 (j := ((c235 + (-1 : Int32)) + (-1 : Int32))) hin260 (g := (mkF m 139 #[jv i235, ss, iv p1, rv o2, jv q235, ss, iv (((i235.toInt32 / (100 : Int32)) * (100 : Int32)) - i235.toInt32), iv ((c235 + (-1 : Int32)) + (-1 : Int32)), iv 0, iv (i235.toInt32 / (100 : Int32)), iv (i235.toInt32 / (100 : Int32))] [(.int (own_dg ((own_M q0) / 10 ^ (m235 + 1)))), (.int ((c235 + (-1 : Int32)) + (-1 : Int32))), .ref o2])) rfl rfl (hb hby d23_139)
       rw [own_nardg] at W262
       have wv := wv.other W262 (Ne.symm va)
       have wg := wg.wr W262
       have wn := wn.other W262 (Ne.symm wT)
       have wf := wf.wr W262
       have ww : Arv Z h262 o2 kb .byte n (own_L n.toNatClampNeg (own_w (own_M q0) p1.toNatClampNeg ((m235 + 1) + 1) g)) (.int 0) := Asg ww (own_fitdg _) W262 (own_wT hj261 hp0 (by omega)) (own_jl hj261 hp0 hpn (by omega))
       have K262 := K257.wr W262 (Or.inl mm0)
       have N262 := Fr.snoc X262 N257 vn
       refine Ends.step st262 ?_
       have hj263 := own_qI hI237 (own_N0 q0 m235)
       have hn263 := own_hN hg252
       show Ends p e below QQ (T262.setTop (mkF m 140 #[jv i235, ss, iv p1, rv o2, jv q235, ss, iv (((i235.toInt32 / (100 : Int32)) * (100 : Int32)) - i235.toInt32), iv ((c235 + (-1 : Int32)) + (-1 : Int32)), iv 0, iv (i235.toInt32 / (100 : Int32)), iv (i235.toInt32 / (100 : Int32))] []))
       refine Ends.step (fun _ k => XS.goto X262.here hx rfl (pc0 := 140) (pc' := 86) rfl (hb hby d23_140) (by decide) (by decide) k) ?_
       have LP264 : ∀ (fu264 : Nat) (m265 : Nat) (i265 : Int32) (c265 : Int32) (r265 : Int32) (q265 : Int32) (T264 : State) (h264 : Heap) (L264 : List Loc) (X264 : Stand p l e (rmm 0 0 0 0) s m #[.long q0, .int p1, .ref o2] below meth c T264 L264 0 0) (e264 : T264.heap = h264) (N264 : Fr n0 L264) (K264 : Keep h0 h264 [o2]) (ww : Arv Z h264 o2 kb .byte n (own_L n.toNatClampNeg (own_w (own_M q0) p1.toNatClampNeg m265 g)) (.int 0)) (wv : Arv Z h264 a_D1 k_a_D1 .byte 100 own_ones (.int 0)) (wg : sHQ Z h264 (.ref a_D1)) (wn : Arv Z h264 a_D2 k_a_D2 .byte 100 own_tens (.int 0)) (wf : sIQ Z h264 (.ref a_D2)) (hI265 : i265.toInt = -((own_M q0) / 10 ^ m265)) (hC265 : c265.toInt = p1.toInt - (m265 : Int)) (hN265 : m265 = 0 ∨ 1 ≤ (own_M q0) / 10 ^ m265) (hf264 : ((own_M q0) / 10 ^ m265).toNat < fu264), Ends p e below QQ (T264.setTop (mkF m 86 #[jv i235, ss, iv p1, rv o2, jv q235, ss, iv r265, iv c265, iv 0, iv q265, iv i265] [])) := by
        intro fu264
        induction fu264 with
        | zero => intro m265 i265 c265 r265 q265 T264 h264 L264 X264 e264 N264 K264 ww wv wg wn wf hI265 hC265 hN265 hf264; exact absurd hf264 (Nat.not_lt_zero _)
        | succ fu264 ih264 =>
         intro m265 i265 c265 r265 q265 T264 h264 L264 X264 e264 N264 K264 ww wv wg wn wf hI265 hC265 hN265 hf264
         show Ends p e below QQ (T264.setTop (mkF m 86 #[jv i235, ss, iv p1, rv o2, jv q235, ss, iv r265, iv c265, iv 0, iv q265, iv i265] []))
         refine oD X264 hy d23_86 88 rfl (oH X264 hy d23_88 90 (-100) rfl ?_)
         by_cases hc90_266 : (-100 : Int32) < i265
         ·refine Ends.step (fun _ k => XS.icmpYes X264.here hx rfl (pc0 := 90) (pc' := 143) rfl (hb hby d23_90) rfl (XT.ii_gt_t hc90_266) (by decide) (by decide) k) ?_
          have hl267 := own_ltI hI265 hc90_266
          have hr267 := own_ngI hI265 (own_N0 q0 m265) hl267
          have hb267 := own_mb1 (q := q0) (m := m265) hN265
          show Ends p e below QQ (T264.setTop (mkF m 143 #[jv i235, ss, iv p1, rv o2, jv q235, ss, iv r265, iv c265, iv 0, iv q265, iv i265] []))
          refine oA X264 hy d23_143 144 rfl (oxz X264 hy d23_144 147 #[jv i235, ss, iv p1, rv o2, jv q235, ss, iv r265, iv (c265 + (-1 : Int32)), iv 0, iv q265, iv i265] (-1) rfl rfl rfl (oD X264 hy d23_147 149 rfl (gS X264 hy hown hZ hw e264 wg d23_149 152 141 rfl fun T268 X268 e268 => oD X268 hy d23_152 154 rfl (oQ X268 hy d23_154 155 (aLB X268 hy hZ e268 wv d23_155 156 (.int (own_dg ((own_M q0) / 10 ^ m265))) (own_in hr267) (own_oneat hr267) ?_)))))
          have hj271 := own_dec hC265 hp0 hp1 (by omega : m265 ≤ 19)
          refine aSB X268 hy hZ e268 ww d23_156 157 (own_inb hj271 hp0 hpn (by omega)) fun T272 h272 X272 e272 W272 => ?_
          rw [own_nardg] at W272
          have wn := wn.other W272 (Ne.symm wT)
          have wf := wf.wr W272
          have ww : Arv Z h272 o2 kb .byte n (own_L n.toNatClampNeg (own_w (own_M q0) p1.toNatClampNeg (m265 + 1) g)) (.int 0) := Asg ww (own_fitdg _) W272 (own_wT hj271 hp0 (by omega)) (own_jl hj271 hp0 hpn (by omega))
          have K272 := K264.wr W272 (Or.inl mm0)
          have N272 := Fr.snoc X272 N264 vn
          refine oD X272 hy d23_157 159 rfl (oH X272 hy d23_159 161 (-9) rfl ?_)
          by_cases hc161_273 : i265 < (-9 : Int32)
          ·refine Ends.step (fun _ k => XS.icmpNo X272.here hx rfl (hb hby d23_161) rfl (XT.ii_ge_f hc161_273) k) ?_
           have hB274 := own_mb2 (own_ten hI265 hc161_273)
           show Ends p e below QQ (T272.setTop (mkF m 164 #[jv i235, ss, iv p1, rv o2, jv q235, ss, iv r265, iv (c265 + (-1 : Int32)), iv 0, iv q265, iv i265] []))
           refine oA X272 hy d23_164 165 rfl (oxz X272 hy d23_165 168 #[jv i235, ss, iv p1, rv o2, jv q235, ss, iv r265, iv ((c265 + (-1 : Int32)) + (-1 : Int32)), iv 0, iv q265, iv i265] (-1) rfl rfl rfl (oD X272 hy d23_168 170 rfl (gS X272 hy hown hZ hw e272 wf d23_170 173 237 rfl fun T275 X275 e275 => oD X275 hy d23_173 175 rfl (oQ X275 hy d23_175 176 (aLB X275 hy hZ e275 wn d23_176 177 (.int (own_dg ((own_M q0) / 10 ^ (m265 + 1)))) (own_in hr267) (own_tenat' hr267) ?_)))))
           have hj278 := own_dec hj271 hp0 hp1 (by omega : (m265 + 1) ≤ 19)
           refine aSB X275 hy hZ e275 ww d23_177 178 (own_inb hj278 hp0 hpn (by omega)) fun T279 h279 X279 e279 W279 => ?_
           rw [own_nardg] at W279
           have ww : Arv Z h279 o2 kb .byte n (own_L n.toNatClampNeg (own_w (own_M q0) p1.toNatClampNeg ((m265 + 1) + 1) g)) (.int 0) := Asg ww (own_fitdg _) W279 (own_wT hj278 hp0 (by omega)) (own_jl hj278 hp0 hpn (by omega))
           have K279 := K272.wr W279 (Or.inl mm0)
           have N279 := Fr.snoc X279 N272 vn
           refine oD X279 hy d23_178 180 rfl ?_
           refine Ends.step (fun _ k => XS.ifYes X279.here hx rfl (pc0 := 180) (pc' := 192) rfl (hb hby d23_180) rfl (XT.i0_eq_t (by decide)) (by decide) (by decide) k) ?_
           have ww := own_Acv ww (own_gP (p := p1.toNatClampNeg) (m := ((m265 + 1) + 1)) (g := g) hq165)
           show Ends p e below QQ (T279.setTop (mkF m 192 #[jv i235, ss, iv p1, rv o2, jv q235, ss, iv r265, iv ((c265 + (-1 : Int32)) + (-1 : Int32)), iv 0, iv q265, iv i265] []))
           refine oD X279 hy d23_192 194 rfl ?_
           exact fI X279 hy hrt hlk hQQ d23_194 rfl (Or.inl rfl) e279 (by decide) ⟨(((c265 + (-1 : Int32)) + (-1 : Int32))), ((m265 + 1) + 1), rfl, N279, K279, ww, (own_nd2 hI265 hc161_273 hl267)⟩
          ·refine oxl X272 hy d23_161 178 (XT.ii_ge_t hc161_273) (oD X272 hy d23_178 180 rfl ?_)
           refine Ends.step (fun _ k => XS.ifYes X272.here hx rfl (pc0 := 180) (pc' := 192) rfl (hb hby d23_180) rfl (XT.i0_eq_t (by decide)) (by decide) (by decide) k) ?_
           have ww := own_Acv ww (own_gP (p := p1.toNatClampNeg) (m := (m265 + 1)) (g := g) hq165)
           show Ends p e below QQ (T272.setTop (mkF m 192 #[jv i235, ss, iv p1, rv o2, jv q235, ss, iv r265, iv (c265 + (-1 : Int32)), iv 0, iv q265, iv i265] []))
           refine oD X272 hy d23_192 194 rfl ?_
           exact fI X272 hy hrt hlk hQQ d23_194 rfl (Or.inl rfl) e272 (by decide) ⟨((c265 + (-1 : Int32))), (m265 + 1), rfl, N272, K272, ww, (own_nd1 hI265 hN265 hc161_273)⟩
         ·refine oxi X264 hy d23_90 93 (XT.ii_gt_f hc90_266) (oD X264 hy d23_93 95 rfl (oH X264 hy d23_95 97 100 rfl (oR X264 hy d23_97 98 (by decide) (oxo X264 hy d23_98 100 #[jv i235, ss, iv p1, rv o2, jv q235, ss, iv r265, iv c265, iv 0, iv (i265 / (100 : Int32)), iv i265] rfl (oD X264 hy d23_100 102 rfl (oH X264 hy d23_102 104 100 rfl (oM X264 hy d23_104 105 (oD X264 hy d23_105 107 rfl (oL X264 hy d23_107 108 ?_)))))))))
          refine oxo X264 hy d23_108 110 #[jv i235, ss, iv p1, rv o2, jv q235, ss, iv (((i265 / (100 : Int32)) * (100 : Int32)) - i265), iv c265, iv 0, iv (i265 / (100 : Int32)), iv i265] rfl (oD X264 hy d23_110 112 rfl ?_)
          refine Ends.step (fun _ k => XS.istore X264.here hx rfl (hb hby d23_112) rfl (l' := #[jv i235, ss, iv p1, rv o2, jv q235, ss, iv (((i265 / (100 : Int32)) * (100 : Int32)) - i265), iv c265, iv 0, iv (i265 / (100 : Int32)), iv (i265 / (100 : Int32))]) rfl k) ?_
          have hg280 := own_geI hI265 hc90_266
          have hr280 := own_rI hI265 (own_N0 q0 m265)
          have hb280 := own_mb3 hg280
          show Ends p e below QQ (T264.setTop (mkF m 114 #[jv i235, ss, iv p1, rv o2, jv q235, ss, iv (((i265 / (100 : Int32)) * (100 : Int32)) - i265), iv c265, iv 0, iv (i265 / (100 : Int32)), iv (i265 / (100 : Int32))] []))
          refine oA X264 hy d23_114 115 rfl (oxz X264 hy d23_115 118 #[jv i235, ss, iv p1, rv o2, jv q235, ss, iv (((i265 / (100 : Int32)) * (100 : Int32)) - i265), iv (c265 + (-1 : Int32)), iv 0, iv (i265 / (100 : Int32)), iv (i265 / (100 : Int32))] (-1) rfl rfl rfl (oD X264 hy d23_118 120 rfl (gS X264 hy hown hZ hw e264 wg d23_120 123 141 rfl fun T281 X281 e281 => oD X281 hy d23_123 125 rfl (aLB X281 hy hZ e281 wv d23_125 126 (.int (own_dg ((own_M q0) / 10 ^ m265))) (own_in hr280) (own_oneat hr280) ?_))))
          have hj284 := own_dec hC265 hp0 hp1 (by omega : m265 ≤ 19)
          refine aSB X281 hy hZ e281 ww d23_126 127 (own_inb hj284 hp0 hpn (by omega)) fun T285 h285 X285 e285 W285 => ?_
          rw [own_nardg] at W285
          have wv := wv.other W285 (Ne.symm va)
          have wg := wg.wr W285
          have wn := wn.other W285 (Ne.symm wT)
          have wf := wf.wr W285
          have ww : Arv Z h285 o2 kb .byte n (own_L n.toNatClampNeg (own_w (own_M q0) p1.toNatClampNeg (m265 + 1) g)) (.int 0) := Asg ww (own_fitdg _) W285 (own_wT hj284 hp0 (by omega)) (own_jl hj284 hp0 hpn (by omega))
          have K285 := K264.wr W285 (Or.inl mm0)
          have N285 := Fr.snoc X285 N264 vn
          refine oA X285 hy d23_127 128 rfl (oxz X285 hy d23_128 131 #[jv i235, ss, iv p1, rv o2, jv q235, ss, iv (((i265 / (100 : Int32)) * (100 : Int32)) - i265), iv ((c265 + (-1 : Int32)) + (-1 : Int32)), iv 0, iv (i265 / (100 : Int32)), iv (i265 / (100 : Int32))] (-1) rfl rfl rfl (oD X285 hy d23_131 133 rfl (gS X285 hy hown hZ hw e285 wf d23_133 136 237 rfl fun T286 X286 e286 => oD X286 hy d23_136 138 rfl (aLB X286 hy hZ e286 wn d23_138 139 (.int (own_dg ((own_M q0) / 10 ^ (m265 + 1)))) (own_in hr280) (own_tenat' hr280) ?_))))
          obtain ⟨cl288, Ar288, q288, S288, P288, H288, G288⟩ := id ww
          have hj289 := own_dec hj284 hp0 hp1 (by omega : (m265 + 1) ≤ 19)
          have hin288 : ¬ (((c265 + (-1 : Int32)) + (-1 : Int32)) < 0 ∨ cl288.slots.size ≤ (((c265 + (-1 : Int32)) + (-1 : Int32))).toNatClampNeg) := inb_of S288 (own_inb hj289 hp0 hpn (by omega))
          obtain ⟨T290, h290, X290, e290, W290, st290⟩ := stB X286 hx hZ e286 Ar288 (j := ((c265 + (-1 : Int32)) + (-1 : Int32))) hin288 (g := (mkF m 139 #[jv i235, ss, iv p1, rv o2, jv q235, ss, iv (((i265 / (100 : Int32)) * (100 : Int32)) - i265), iv ((c265 + (-1 : Int32)) + (-1 : Int32)), iv 0, iv (i265 / (100 : Int32)), iv (i265 / (100 : Int32))] [(.int (own_dg ((own_M q0) / 10 ^ (m265 + 1)))), (.int ((c265 + (-1 : Int32)) + (-1 : Int32))), .ref o2])) rfl rfl (hb hby d23_139)
          rw [own_nardg] at W290
          have wv := wv.other W290 (Ne.symm va)
          have wg := wg.wr W290
          have wn := wn.other W290 (Ne.symm wT)
          have wf := wf.wr W290
          have ww : Arv Z h290 o2 kb .byte n (own_L n.toNatClampNeg (own_w (own_M q0) p1.toNatClampNeg ((m265 + 1) + 1) g)) (.int 0) := Asg ww (own_fitdg _) W290 (own_wT hj289 hp0 (by omega)) (own_jl hj289 hp0 hpn (by omega))
          have K290 := K285.wr W290 (Or.inl mm0)
          have N290 := Fr.snoc X290 N285 vn
          refine Ends.step st290 ?_
          have hj291 := own_qI hI265 (own_N0 q0 m265)
          have hn291 := own_hN hg280
          show Ends p e below QQ (T290.setTop (mkF m 140 #[jv i235, ss, iv p1, rv o2, jv q235, ss, iv (((i265 / (100 : Int32)) * (100 : Int32)) - i265), iv ((c265 + (-1 : Int32)) + (-1 : Int32)), iv 0, iv (i265 / (100 : Int32)), iv (i265 / (100 : Int32))] []))
          refine Ends.step (fun _ k => XS.goto X290.here hx rfl (pc0 := 140) (pc' := 86) rfl (hb hby d23_140) (by decide) (by decide) k) ?_
          exact ih264 (((m265 + 1) + 1)) ((i265 / (100 : Int32))) (((c265 + (-1 : Int32)) + (-1 : Int32))) ((((i265 / (100 : Int32)) * (100 : Int32)) - i265)) ((i265 / (100 : Int32))) T290 h290 _ X290 e290 N290 K290 ww wv wg wn wf hj291 hj289 hn291 (own_fu hg280 hf264)
       exact LP264 (((own_M q0) / 10 ^ ((m235 + 1) + 1)).toNat + 1) ((m235 + 1) + 1) ((i235.toInt32 / (100 : Int32))) (((c235 + (-1 : Int32)) + (-1 : Int32))) ((((i235.toInt32 / (100 : Int32)) * (100 : Int32)) - i235.toInt32)) ((i235.toInt32 / (100 : Int32))) T262 h262 _ X262 e262 N262 K262 ww wv wg wn wf hj263 hj261 hn263 (Nat.lt_succ_self _)
     ·refine oxh X234 hy d23_29 32 (XT.ll_gt_f hc29_236) (oE X234 hy d23_32 33 rfl (oJ2 X234 hy hown hZ hw d23_33 36 100 236 rfl (oW X234 hy d23_36 37 (by decide) (oxq X234 hy d23_37 39 #[jv i235, ss, iv p1, rv o2, jv (i235 / (100 : Int64)), ss, iv r235, iv c235, iv 0, uu, uu] rfl (oF X234 hy d23_39 41 rfl (oJ2 X234 hy hown hZ hw d23_41 44 100 236 rfl (oU X234 hy d23_44 45 (oE X234 hy d23_45 46 rfl (oT X234 hy d23_46 47 ?_)))))))))
      refine oZ X234 hy d23_47 48 (oxo X234 hy d23_48 50 #[jv i235, ss, iv p1, rv o2, jv (i235 / (100 : Int64)), ss, iv (((i235 / (100 : Int64)) * (100 : Int64)) - i235).toInt32, iv c235, iv 0, uu, uu] rfl (oF X234 hy d23_50 52 rfl ?_))
      refine Ends.step (fun _ k => XT.lstoreN X234.here hx rfl (hb hby d23_52) rfl (l' := #[jv (i235 / (100 : Int64)), ss, iv p1, rv o2, jv (i235 / (100 : Int64)), ss, iv (((i235 / (100 : Int64)) * (100 : Int64)) - i235).toInt32, iv c235, iv 0, uu, uu]) rfl k) ?_
      have hg292 := own_geJ hI235 hc29_236
      have hr292 := own_rJ hI235 (own_N0 q0 m235)
      have hb292 := own_mb3 hg292
      show Ends p e below QQ (T234.setTop (mkF m 53 #[jv (i235 / (100 : Int64)), ss, iv p1, rv o2, jv (i235 / (100 : Int64)), ss, iv (((i235 / (100 : Int64)) * (100 : Int64)) - i235).toInt32, iv c235, iv 0, uu, uu] []))
      refine oA X234 hy d23_53 54 rfl (oxz X234 hy d23_54 57 #[jv (i235 / (100 : Int64)), ss, iv p1, rv o2, jv (i235 / (100 : Int64)), ss, iv (((i235 / (100 : Int64)) * (100 : Int64)) - i235).toInt32, iv (c235 + (-1 : Int32)), iv 0, uu, uu] (-1) rfl rfl rfl (oD X234 hy d23_57 59 rfl (gS X234 hy hown hZ hw e234 wg d23_59 62 141 rfl fun T293 X293 e293 => oD X293 hy d23_62 64 rfl (aLB X293 hy hZ e293 wv d23_64 65 (.int (own_dg ((own_M q0) / 10 ^ m235))) (own_in hr292) (own_oneat hr292) ?_))))
      have hj296 := own_dec hC235 hp0 hp1 (by omega : m235 ≤ 19)
      refine aSB X293 hy hZ e293 ww d23_65 66 (own_inb hj296 hp0 hpn (by omega)) fun T297 h297 X297 e297 W297 => ?_
      rw [own_nardg] at W297
      have wv := wv.other W297 (Ne.symm va)
      have wg := wg.wr W297
      have wn := wn.other W297 (Ne.symm wT)
      have wf := wf.wr W297
      have ww : Arv Z h297 o2 kb .byte n (own_L n.toNatClampNeg (own_w (own_M q0) p1.toNatClampNeg (m235 + 1) g)) (.int 0) := Asg ww (own_fitdg _) W297 (own_wT hj296 hp0 (by omega)) (own_jl hj296 hp0 hpn (by omega))
      have K297 := K234.wr W297 (Or.inl mm0)
      have N297 := Fr.snoc X297 N234 vn
      refine oA X297 hy d23_66 67 rfl (oxz X297 hy d23_67 70 #[jv (i235 / (100 : Int64)), ss, iv p1, rv o2, jv (i235 / (100 : Int64)), ss, iv (((i235 / (100 : Int64)) * (100 : Int64)) - i235).toInt32, iv ((c235 + (-1 : Int32)) + (-1 : Int32)), iv 0, uu, uu] (-1) rfl rfl rfl (oD X297 hy d23_70 72 rfl (gS X297 hy hown hZ hw e297 wf d23_72 75 237 rfl fun T298 X298 e298 => oD X298 hy d23_75 77 rfl (aLB X298 hy hZ e298 wn d23_77 78 (.int (own_dg ((own_M q0) / 10 ^ (m235 + 1)))) (own_in hr292) (own_tenat' hr292) ?_))))
      obtain ⟨cl300, Ar300, q300, S300, P300, H300, G300⟩ := id ww
      have hj301 := own_dec hj296 hp0 hp1 (by omega : (m235 + 1) ≤ 19)
      have hin300 : ¬ (((c235 + (-1 : Int32)) + (-1 : Int32)) < 0 ∨ cl300.slots.size ≤ (((c235 + (-1 : Int32)) + (-1 : Int32))).toNatClampNeg) := inb_of S300 (own_inb hj301 hp0 hpn (by omega))
      obtain ⟨T302, h302, X302, e302, W302, st302⟩ := stB X298 hx hZ e298 Ar300 (j := ((c235 + (-1 : Int32)) + (-1 : Int32))) hin300 (g := (mkF m 78 #[jv (i235 / (100 : Int64)), ss, iv p1, rv o2, jv (i235 / (100 : Int64)), ss, iv (((i235 / (100 : Int64)) * (100 : Int64)) - i235).toInt32, iv ((c235 + (-1 : Int32)) + (-1 : Int32)), iv 0, uu, uu] [(.int (own_dg ((own_M q0) / 10 ^ (m235 + 1)))), (.int ((c235 + (-1 : Int32)) + (-1 : Int32))), .ref o2])) rfl rfl (hb hby d23_78)
      rw [own_nardg] at W302
      have wv := wv.other W302 (Ne.symm va)
      have wg := wg.wr W302
      have wn := wn.other W302 (Ne.symm wT)
      have wf := wf.wr W302
      have ww : Arv Z h302 o2 kb .byte n (own_L n.toNatClampNeg (own_w (own_M q0) p1.toNatClampNeg ((m235 + 1) + 1) g)) (.int 0) := Asg ww (own_fitdg _) W302 (own_wT hj301 hp0 (by omega)) (own_jl hj301 hp0 hpn (by omega))
      have K302 := K297.wr W302 (Or.inl mm0)
      have N302 := Fr.snoc X302 N297 vn
      refine Ends.step st302 ?_
      have hj303 := own_qJ hI235 (own_N0 q0 m235)
      have hn303 := own_hN hg292
      show Ends p e below QQ (T302.setTop (mkF m 79 #[jv (i235 / (100 : Int64)), ss, iv p1, rv o2, jv (i235 / (100 : Int64)), ss, iv (((i235 / (100 : Int64)) * (100 : Int64)) - i235).toInt32, iv ((c235 + (-1 : Int32)) + (-1 : Int32)), iv 0, uu, uu] []))
      refine Ends.step (fun _ k => XS.goto X302.here hx rfl (pc0 := 79) (pc' := 24) rfl (hb hby d23_79) (by decide) (by decide) k) ?_
      exact ih234 (((m235 + 1) + 1)) ((i235 / (100 : Int64))) (((c235 + (-1 : Int32)) + (-1 : Int32))) ((((i235 / (100 : Int64)) * (100 : Int64)) - i235).toInt32) ((i235 / (100 : Int64))) T302 h302 _ X302 e302 N302 K302 ww wv wg wn wf hj303 hj301 hn303 (own_fu hg292 hf234)
   exact LP234 (((own_M q0) / 10 ^ ((0 + 1) + 1)).toNat + 1) ((0 + 1) + 1) (((-q0) / (100 : Int64))) (((p1 + (-1 : Int32)) + (-1 : Int32))) (((((-q0) / (100 : Int64)) * (100 : Int64)) - (-q0)).toInt32) (((-q0) / (100 : Int64))) T232 h232 _ X232 e232 N232 K232 ww wv wg wn wf hj233 hj231 hn233 (Nat.lt_succ_self _)
theorem d9_0 : decode cD27 0 = .ok (.getstatic 38, 3) := by decide +kernel
theorem d9_3 : decode cD27 3 = .ok (.ifCond .eq 10, 3) := by decide +kernel
theorem d9_6 : decode cD27 6 = .ok (.aload_n 0, 1) := by decide +kernel
theorem d9_7 : decode cD27 7 = .ok (.getfield 15, 3) := by decide +kernel
theorem d9_10 : decode cD27 10 = .ok (.goto 4, 3) := by decide +kernel
theorem d9_14 : decode cD27 14 = .ok (.ireturn, 1) := by decide +kernel
def Qcod (Z : State) (o0 : Addr) (cs : Int32) (h0 : Heap) (n0 : Nat) : QT := fun v h L => (v = some (.int 0)) ∧ (Fr n0 L) ∧ (h = h0)
theorem rmcod (l : Launch) (Z : State) (a0 : Array Value) (hw : TW a0 Z) (ws : List Jvm.Cond) (o0 : Addr) (cs : Int32) (h0 : Heap) (n0 : Nat) (Z0 : n0 ≤ h0.size) (wa : sJQ Z h0 (.int cs)) (hcs : ¬ cs = (0 : Int32)) (wd : fAQ Z h0 o0 (.int 0)) :
  MF l mN21 jdk_42_method_152_code 1 (some .byte) ws (rmm 0 0 0 0) #[.ref o0] Z h0 (Qcod Z o0 cs h0 n0) := by
 refine MF.of (plainFor_of_name pn_1) ?_
 intro p e s m below meth c s₁ QQ hy hml hown hZ X0 e0 hrt hlk hnm hQQ
 have N0 := Fr.nil n0
 refine Ends.i #[rv o0] (gS X0 hy hown hZ hw e0 wa d9_0 3 65 rfl fun T304 X304 e304 => ?_)
 have hc3 : ¬ (cs = (0 : Int32)) := hcs
 refine oxh X304 hy d9_3 6 (XT.i0_eq_f hc3) (oA X304 hy d9_6 7 rfl (gF X304 hy hown hZ hw e304 wd d9_7 10 66 rfl fun T305 X305 e305 => oxm X305 hy d9_10 14 ?_))
 exact fI X305 hy hrt hlk hQQ d9_14 rfl (by simp) e305 (by decide) ⟨rfl, N0, rfl⟩
theorem d8_0 : decode cD24 0 = .ok (.aload_n 0, 1) := by decide +kernel
theorem d8_1 : decode cD24 1 = .ok (.getfield 9, 3) := by decide +kernel
theorem d8_4 : decode cD24 4 = .ok (.arraylength, 1) := by decide +kernel
theorem d8_5 : decode cD24 5 = .ok (.aload_n 0, 1) := by decide +kernel
theorem d8_6 : decode cD24 6 = .ok (.invokevirtual 335, 3) := by decide +kernel
theorem d8_9 : decode cD24 9 = .ok (.ishr, 1) := by decide +kernel
theorem d8_10 : decode cD24 10 = .ok (.ireturn, 1) := by decide +kernel
def Qlen (Z : State) (o0 t : Addr) (k : ClassId) (n : Int32) (vs : List Value) (cs : Int32) (h0 : Heap) (n0 : Nat) : QT := fun v h L => (v = some (.int n)) ∧ (Fr n0 L) ∧ (h = h0)
theorem rmlen (l : Launch) (Z : State) (a0 : Array Value) (hw : TW a0 Z) (ws : List Jvm.Cond) (o0 t : Addr) (k : ClassId) (n : Int32) (vs : List Value) (cs : Int32) (h0 : Heap) (n0 : Nat) (Z0 : n0 ≤ h0.size) (wo : eAQ Z h0 o0) (we : fBQ Z h0 o0 (.ref t)) (A_t : Arv Z h0 t k .byte n vs (.int 0)) (wa : sJQ Z h0 (.int cs)) (hcs : ¬ cs = (0 : Int32)) (wd : fAQ Z h0 o0 (.int 0)) :
  MF l mN22 jdk_42_method_54_code 1 (some .int) ws (rmm 1 0 0 13) #[.ref o0] Z h0 (Qlen Z o0 t k n vs cs h0 n0) := by
 refine MF.of (plainFor_of_name pn_1) ?_
 intro p e s m below meth c s₁ QQ hy hml hown hZ X0 e0 hrt hlk hnm hQQ
 have N0 := Fr.nil n0
 refine Ends.i #[rv o0] (oA X0 hy d8_0 1 rfl (gF X0 hy hown hZ hw e0 we d8_1 4 59 rfl fun T306 X306 e306 => aLn X306 hy hZ e306 A_t d8_4 5 (oA X306 hy d8_5 6 rfl ?_)))
 refine cV X306 hy hml hown hZ hw d8_6 9 1 60 61 63 62 64 32 rfl rfl rfl rfl rfl rfl (rmcod l Z a0 hw [] o0 cs h0 n0 Z0 wa hcs wd) e306 pd_0 wo rfl rfl fun _ T308 Lc308 X308 hQ308 => ?_
 obtain ⟨rfl, Nq308, hh308⟩ := hQ308
 have N308 := Fr.app N0 Nq308
 refine Ends.v (oP X308 hy d8_9 10 ?_)
 exact fI X308 hy hrt hlk hQQ d8_10 rfl (Or.inl rfl) hh308 (by decide) ⟨(by rw [own_shr0]), N308, rfl⟩
theorem d36_0 : decode cD20 0 = .ok (.getstatic 38, 3) := by decide +kernel
theorem d36_3 : decode cD20 3 = .ok (.ifCond .eq 14, 3) := by decide +kernel
theorem d36_6 : decode cD20 6 = .ok (.aload_n 0, 1) := by decide +kernel
theorem d36_7 : decode cD20 7 = .ok (.getfield 15, 3) := by decide +kernel
theorem d36_10 : decode cD20 10 = .ok (.ifCond .ne 7, 3) := by decide +kernel
theorem d36_13 : decode cD20 13 = .ok (.iconst 1, 1) := by decide +kernel
theorem d36_14 : decode cD20 14 = .ok (.goto 4, 3) := by decide +kernel
theorem d36_18 : decode cD20 18 = .ok (.ireturn, 1) := by decide +kernel
def Qlat (Z : State) (o0 : Addr) (cs : Int32) (h0 : Heap) (n0 : Nat) : QT := fun v h L => (v = some (.int 1)) ∧ (Fr n0 L) ∧ (h = h0)
theorem rmlat (l : Launch) (Z : State) (a0 : Array Value) (hw : TW a0 Z) (ws : List Jvm.Cond) (o0 : Addr) (cs : Int32) (h0 : Heap) (n0 : Nat) (Z0 : n0 ≤ h0.size) (wa : sJQ Z h0 (.int cs)) (hcs : ¬ cs = (0 : Int32)) (wd : fAQ Z h0 o0 (.int 0)) :
  MF l mN23 jdk_42_method_154_code 1 (some .boolean) ws (rmm 0 0 0 0) #[.ref o0] Z h0 (Qlat Z o0 cs h0 n0) := by
 refine MF.of (plainFor_of_name pn_1) ?_
 intro p e s m below meth c s₁ QQ hy hml hown hZ X0 e0 hrt hlk hnm hQQ
 have N0 := Fr.nil n0
 refine Ends.i #[rv o0] (gS X0 hy hown hZ hw e0 wa d36_0 3 65 rfl fun T309 X309 e309 => ?_)
 have hc3 : ¬ (cs = (0 : Int32)) := hcs
 refine oxh X309 hy d36_3 6 (XT.i0_eq_f hc3) (oA X309 hy d36_6 7 rfl (gF X309 hy hown hZ hw e309 wd d36_7 10 66 rfl fun T310 X310 e310 => oxh X310 hy d36_10 13 (XT.i0_ne_f (by decide)) (oG X310 hy d36_13 14 1 rfl (oxm X310 hy d36_14 18 ?_))))
 exact fI X310 hy hrt hlk hQQ d36_18 rfl (by simp) e310 (by decide) ⟨rfl, N0, rfl⟩
theorem d39_0 : decode cD25 0 = .ok (.iload_n 0, 1) := by decide +kernel
theorem d39_1 : decode cD25 1 = .ok (.ifCond .lt 8, 3) := by decide +kernel
theorem d39_4 : decode cD25 4 = .ok (.iload_n 0, 1) := by decide +kernel
theorem d39_5 : decode cD25 5 = .ok (.iload_n 1, 1) := by decide +kernel
theorem d39_6 : decode cD25 6 = .ok (.if_icmp .lt 10, 3) := by decide +kernel
theorem d39_16 : decode cD25 16 = .ok (.iload_n 0, 1) := by decide +kernel
theorem d39_17 : decode cD25 17 = .ok (.ireturn, 1) := by decide +kernel
theorem ef_pci (m : MethodId) (x0 : Int32) (x1 : Int32) (x2 : Value) (hx2 : x2.isRef = true) : entryFrame m #[.int x0, .int x1, x2] 3 = mkF m 0 #[.val (.int x0), .val (.int x1), .val x2] [] := by
  rcases XT.refc hx2 with rfl | ⟨_, rfl⟩ <;> rfl
def Qpci (Z : State) (p0 p1 : Int32) (r2 : Value) (h0 : Heap) (n0 : Nat) : QT := fun v h L => (v = some (.int p0)) ∧ (Fr n0 L) ∧ (h = h0)
theorem rmpci (l : Launch) (Z : State) (a0 : Array Value) (hw : TW a0 Z) (ws : List Jvm.Cond) (p0 p1 : Int32) (r2 : Value) (h0 : Heap) (n0 : Nat) (Z0 : n0 ≤ h0.size) (VN : r2.isRef = true) (h1 : ¬ p0 < (0 : Int32)) (h2 : p0 < p1) :
  MF l mN24 jdk_41_method_11_code 3 (some .int) ws (rmm 0 0 0 0) #[.int p0, .int p1, r2] Z h0 (Qpci Z p0 p1 r2 h0 n0) := by
 refine MF.of (plainFor_of_name pn_2) ?_
 intro p e s m below meth c s₁ QQ hy hml hown hZ X0 e0 hrt hlk hnm hQQ
 have N0 := Fr.nil n0
 refine Ends.i #[iv p0, iv p1, .val r2] ?_ (ef_pci m p0 p1 r2 VN)
 refine oC X0 hy d39_0 1 rfl ?_
 have hc1 : ¬ (p0 < (0 : Int32)) := h1
 refine oxh X0 hy d39_1 4 (XT.i0_lt_f hc1) (oC X0 hy d39_4 5 rfl (oC X0 hy d39_5 6 rfl ?_))
 have hc6 : p0 < p1 := h2
 refine oxl X0 hy d39_6 16 (XT.ii_lt_t hc6) (oC X0 hy d39_16 17 rfl ?_)
 exact fI X0 hy hrt hlk hQQ d39_17 rfl (Or.inl rfl) e0 (by decide) ⟨rfl, N0, rfl⟩
theorem d38_0 : decode cD28 0 = .ok (.iload_n 0, 1) := by decide +kernel
theorem d38_1 : decode cD28 1 = .ok (.iload_n 1, 1) := by decide +kernel
theorem d38_2 : decode cD28 2 = .ok (.getstatic 1053, 3) := by decide +kernel
theorem d38_5 : decode cD28 5 = .ok (.invokestatic 1059, 3) := by decide +kernel
theorem d38_8 : decode cD28 8 = .ok (.pop, 1) := by decide +kernel
theorem d38_9 : decode cD28 9 = .ok (.return_, 1) := by decide +kernel
def Qsci (Z : State) (p0 p1 : Int32) (sf : Value) (h0 : Heap) (n0 : Nat) : QT := fun v h L => (v = none) ∧ (Fr n0 L) ∧ (h = h0)
theorem rmsci (l : Launch) (Z : State) (a0 : Array Value) (hw : TW a0 Z) (ws : List Jvm.Cond) (p0 p1 : Int32) (sf : Value) (h0 : Heap) (n0 : Nat) (Z0 : n0 ≤ h0.size) (wb : sKQ Z h0 sf) (wM : sf.isRef = true) (h1 : ¬ p0 < (0 : Int32)) (h2 : p0 < p1) :
  MF l mN25 jdk_42_method_155_code 2 none ws (rmm 1 0 0 14) #[.int p0, .int p1] Z h0 (Qsci Z p0 p1 sf h0 n0) := by
 refine MF.of (plainFor_of_name pn_1) ?_
 intro p e s m below meth c s₁ QQ hy hml hown hZ X0 e0 hrt hlk hnm hQQ
 have N0 := Fr.nil n0
 refine Ends.i #[iv p0, iv p1] (oC X0 hy d38_0 1 rfl (oC X0 hy d38_1 2 rfl (gS X0 hy hown hZ hw e0 wb d38_2 5 225 rfl fun T311 X311 e311 => ?_)))
 refine cS X311 hy hml hown hZ hw d38_5 8 0 227 228 226 229 rfl rfl rfl rfl (rmpci l Z a0 hw [] p0 p1 sf h0 n0 Z0 wM h1 h2) e311 pd_1 rfl rfl fun _ T312 Lc312 X312 hQ312 => ?_
 obtain ⟨rfl, Nq312, hh312⟩ := hQ312
 have N312 := Fr.app N0 Nq312
 refine Ends.v (oxe X312 hy d38_8 9 rfl ?_)
 exact fV X312 hy hrt hlk hQQ d38_9 hh312 (by decide) ⟨rfl, N312, rfl⟩
theorem d37_0 : decode cD15 0 = .ok (.iload_n 1, 1) := by decide +kernel
theorem d37_1 : decode cD15 1 = .ok (.aload_n 0, 1) := by decide +kernel
theorem d37_2 : decode cD15 2 = .ok (.arraylength, 1) := by decide +kernel
theorem d37_3 : decode cD15 3 = .ok (.invokestatic 9, 3) := by decide +kernel
theorem d37_6 : decode cD15 6 = .ok (.aload_n 0, 1) := by decide +kernel
theorem d37_7 : decode cD15 7 = .ok (.iload_n 1, 1) := by decide +kernel
theorem d37_8 : decode cD15 8 = .ok (.baload, 1) := by decide +kernel
theorem d37_9 : decode cD15 9 = .ok (.sipush 255, 3) := by decide +kernel
theorem d37_12 : decode cD15 12 = .ok (.iand, 1) := by decide +kernel
theorem d37_13 : decode cD15 13 = .ok (.i2c, 1) := by decide +kernel
theorem d37_14 : decode cD15 14 = .ok (.ireturn, 1) := by decide +kernel
def Qlca (Z : State) (o0 : Addr) (p1 : Int32) (k : ClassId) (n : Int32) (vs : List Value) (b : Int32) (sf : Value) (h0 : Heap) (n0 : Nat) : QT := fun v h L => (v = some (.int (b &&& (255 : Int32)))) ∧ (Fr n0 L) ∧ (h = h0)
theorem rmlca (l : Launch) (Z : State) (a0 : Array Value) (hw : TW a0 Z) (ws : List Jvm.Cond) (o0 : Addr) (p1 : Int32) (k : ClassId) (n : Int32) (vs : List Value) (b : Int32) (sf : Value) (h0 : Heap) (n0 : Nat) (Z0 : n0 ≤ h0.size) (vA : Arv Z h0 o0 k .byte n vs (.int 0)) (wb : sKQ Z h0 sf) (wM : sf.isRef = true) (h1 : ¬ p1 < (0 : Int32)) (h2 : p1 < n) (hbt : vs.getD p1.toNatClampNeg (.int 0) = .int b) :
  MF l mN26 jdk_43_method_2_code 2 (some .char) ws (rmm 2 0 0 27) #[.ref o0, .int p1] Z h0 (Qlca Z o0 p1 k n vs b sf h0 n0) := by
 refine MF.of (plainFor_of_name pn_3) ?_
 intro p e s m below meth c s₁ QQ hy hml hown hZ X0 e0 hrt hlk hnm hQQ
 have N0 := Fr.nil n0
 refine Ends.i #[rv o0, iv p1] (oC X0 hy d37_0 1 rfl (oA X0 hy d37_1 2 rfl (aLn X0 hy hZ e0 vA d37_2 3 ?_)))
 refine cS X0 hy hml hown hZ hw d37_3 6 0 222 223 32 224 rfl rfl rfl rfl (rmsci l Z a0 hw [] p1 n sf h0 n0 Z0 wb wM h1 h2) e0 pd_2 rfl rfl fun _ T314 Lc314 X314 hQ314 => ?_
 obtain ⟨rfl, Nq314, hh314⟩ := hQ314
 have N314 := Fr.app N0 Nq314
 refine Ends.u (oA X314 hy d37_6 7 rfl (oC X314 hy d37_7 8 rfl (aLB X314 hy hZ hh314 vA d37_8 9 (.int b) ⟨h1, h2⟩ (hbt) (oI X314 hy d37_9 12 255 rfl (oN X314 hy d37_12 13 (oxc X314 hy d37_13 14 ?_))))))
 exact fI X314 hy hrt hlk hQQ d37_14 (XT.narrow_c _) (by simp) hh314 (by decide) ⟨(by rw [i2c_mask]), N314, rfl⟩
theorem d35_0 : decode cD21 0 = .ok (.aload_n 0, 1) := by decide +kernel
theorem d35_1 : decode cD21 1 = .ok (.invokevirtual 492, 3) := by decide +kernel
theorem d35_4 : decode cD21 4 = .ok (.ifCond .eq 12, 3) := by decide +kernel
theorem d35_7 : decode cD21 7 = .ok (.aload_n 0, 1) := by decide +kernel
theorem d35_8 : decode cD21 8 = .ok (.getfield 9, 3) := by decide +kernel
theorem d35_11 : decode cD21 11 = .ok (.iload_n 1, 1) := by decide +kernel
theorem d35_12 : decode cD21 12 = .ok (.invokestatic 495, 3) := by decide +kernel
theorem d35_15 : decode cD21 15 = .ok (.ireturn, 1) := by decide +kernel
def Qcha (Z : State) (o0 : Addr) (p1 : Int32) (t : Addr) (k : ClassId) (n : Int32) (vs : List Value) (b cs : Int32) (sf : Value) (h0 : Heap) (n0 : Nat) : QT := fun v h L => (v = some (.int (b &&& (255 : Int32)))) ∧ (Fr n0 L) ∧ (h = h0)
theorem rmcha (l : Launch) (Z : State) (a0 : Array Value) (hw : TW a0 Z) (ws : List Jvm.Cond) (o0 : Addr) (p1 : Int32) (t : Addr) (k : ClassId) (n : Int32) (vs : List Value) (b cs : Int32) (sf : Value) (h0 : Heap) (n0 : Nat) (Z0 : n0 ≤ h0.size) (wo : eAQ Z h0 o0) (we : fBQ Z h0 o0 (.ref t)) (A_t : Arv Z h0 t k .byte n vs (.int 0)) (wa : sJQ Z h0 (.int cs)) (hcs : ¬ cs = (0 : Int32)) (wd : fAQ Z h0 o0 (.int 0)) (wb : sKQ Z h0 sf) (wM : sf.isRef = true) (h1 : ¬ p1 < (0 : Int32)) (h2 : p1 < n) (hbt : vs.getD p1.toNatClampNeg (.int 0) = .int b) :
  MF l mN27 jdk_42_method_56_code 2 (some .char) ws (rmm 3 0 0 40) #[.ref o0, .int p1] Z h0 (Qcha Z o0 p1 t k n vs b cs sf h0 n0) := by
 refine MF.of (plainFor_of_name pn_1) ?_
 intro p e s m below meth c s₁ QQ hy hml hown hZ X0 e0 hrt hlk hnm hQQ
 have N0 := Fr.nil n0
 refine Ends.i #[rv o0, iv p1] (oA X0 hy d35_0 1 rfl ?_)
 refine cV X0 hy hml hown hZ hw d35_1 4 0 213 214 216 215 217 32 rfl rfl rfl rfl rfl rfl (rmlat l Z a0 hw [] o0 cs h0 n0 Z0 wa hcs wd) e0 pd_3 wo rfl rfl fun _ T316 Lc316 X316 hQ316 => ?_
 obtain ⟨rfl, Nq316, hh316⟩ := hQ316
 have N316 := Fr.app N0 Nq316
 refine Ends.v (oxh X316 hy d35_4 7 (XT.i0_eq_f (by decide)) (oA X316 hy d35_7 8 rfl (gF X316 hy hown hZ hw hh316 we d35_8 11 59 rfl fun T317 X317 e317 => oC X317 hy d35_11 12 rfl ?_)))
 refine cS X317 hy hml hown hZ hw d35_12 15 0 218 219 220 221 rfl rfl rfl rfl (rmlca l Z a0 hw [] t p1 k n vs b sf h0 n0 Z0 A_t wb wM h1 h2 hbt) e317 pd_4 rfl rfl fun _ T318 Lc318 X318 hQ318 => ?_
 obtain ⟨rfl, Nq318, hh318⟩ := hQ318
 have N318 := Fr.app N316 Nq318
 refine Ends.v ?_
 exact fI X318 hy hrt hlk hQQ d35_15 (own_nar255 b) (by simp) hh318 (by decide) ⟨rfl, N318, rfl⟩
theorem d22_0 : decode cD22 0 = .ok (.getstatic 18, 3) := by decide +kernel
theorem d22_3 : decode cD22 3 = .ok (.ifCond .eq 14, 3) := by decide +kernel
theorem d22_6 : decode cD22 6 = .ok (.aload_n 0, 1) := by decide +kernel
theorem d22_7 : decode cD22 7 = .ok (.getfield 22, 3) := by decide +kernel
theorem d22_10 : decode cD22 10 = .ok (.ifCond .ne 7, 3) := by decide +kernel
theorem d22_13 : decode cD22 13 = .ok (.iconst 1, 1) := by decide +kernel
theorem d22_14 : decode cD22 14 = .ok (.goto 4, 3) := by decide +kernel
theorem d22_18 : decode cD22 18 = .ok (.ireturn, 1) := by decide +kernel
def Qasi (Z : State) (o0 : Addr) (cs : Int32) (h0 : Heap) (n0 : Nat) : QT := fun v h L => (v = some (.int 1)) ∧ (Fr n0 L) ∧ (h = h0)
theorem rmasi (l : Launch) (Z : State) (a0 : Array Value) (hw : TW a0 Z) (ws : List Jvm.Cond) (o0 : Addr) (cs : Int32) (h0 : Heap) (n0 : Nat) (Z0 : n0 ≤ h0.size) (wa : sJQ Z h0 (.int cs)) (hcs : ¬ cs = (0 : Int32)) (wd : fCQ Z h0 o0 (.int 0)) :
  MF l mN28 jdk_68_method_68_code 1 (some .boolean) ws (rmm 0 0 0 0) #[.ref o0] Z h0 (Qasi Z o0 cs h0 n0) := by
 refine MF.of (plainFor_of_name pn_4) ?_
 intro p e s m below meth c s₁ QQ hy hml hown hZ X0 e0 hrt hlk hnm hQQ
 have N0 := Fr.nil n0
 refine Ends.i #[rv o0] (gS X0 hy hown hZ hw e0 wa d22_0 3 31 rfl fun T319 X319 e319 => ?_)
 have hc3 : ¬ (cs = (0 : Int32)) := hcs
 refine oxh X319 hy d22_3 6 (XT.i0_eq_f hc3) (oA X319 hy d22_6 7 rfl (gF X319 hy hown hZ hw e319 wd d22_7 10 36 rfl fun T320 X320 e320 => oxh X320 hy d22_10 13 (XT.i0_ne_f (by decide)) (oG X320 hy d22_13 14 1 rfl (oxm X320 hy d22_14 18 ?_))))
 exact fI X320 hy hrt hlk hQQ d22_18 rfl (by simp) e320 (by decide) ⟨rfl, N0, rfl⟩
theorem d12_0 : decode cD23 0 = .ok (.getstatic 18, 3) := by decide +kernel
theorem d12_3 : decode cD23 3 = .ok (.ifCond .eq 18, 3) := by decide +kernel
theorem d12_6 : decode cD23 6 = .ok (.aload_n 0, 1) := by decide +kernel
theorem d12_7 : decode cD23 7 = .ok (.getfield 22, 3) := by decide +kernel
theorem d12_10 : decode cD23 10 = .ok (.aload_n 1, 1) := by decide +kernel
theorem d12_11 : decode cD23 11 = .ok (.invokevirtual 40, 3) := by decide +kernel
theorem d12_14 : decode cD23 14 = .ok (.if_icmp .eq 7, 3) := by decide +kernel
theorem d12_21 : decode cD23 21 = .ok (.return_, 1) := by decide +kernel
def Qinf (Z : State) (o0 o1 : Addr) (cs : Int32) (h0 : Heap) (n0 : Nat) : QT := fun v h L => (v = none) ∧ (Fr n0 L) ∧ (h = h0)
theorem rminf (l : Launch) (Z : State) (a0 : Array Value) (hw : TW a0 Z) (ws : List Jvm.Cond) (o0 o1 : Addr) (cs : Int32) (h0 : Heap) (n0 : Nat) (Z0 : n0 ≤ h0.size) (wa : sJQ Z h0 (.int cs)) (hcs : ¬ cs = (0 : Int32)) (wd : fCQ Z h0 o0 (.int 0)) (vl : eAQ Z h0 o1) (wQ : fAQ Z h0 o1 (.int 0)) :
  MF l mN29 jdk_68_method_71_code 2 none ws (rmm 1 0 0 13) #[.ref o0, .ref o1] Z h0 (Qinf Z o0 o1 cs h0 n0) := by
 refine MF.of (plainFor_of_name pn_4) ?_
 intro p e s m below meth c s₁ QQ hy hml hown hZ X0 e0 hrt hlk hnm hQQ
 have N0 := Fr.nil n0
 refine Ends.i #[rv o0, rv o1] (gS X0 hy hown hZ hw e0 wa d12_0 3 31 rfl fun T321 X321 e321 => ?_)
 have hc3 : ¬ (cs = (0 : Int32)) := hcs
 refine oxh X321 hy d12_3 6 (XT.i0_eq_f hc3) (oA X321 hy d12_6 7 rfl (gF X321 hy hown hZ hw e321 wd d12_7 10 36 rfl fun T322 X322 e322 => oA X322 hy d12_10 11 rfl ?_))
 refine cV X322 hy hml hown hZ hw d12_11 14 1 84 61 63 62 64 32 rfl rfl rfl rfl rfl rfl (rmcod l Z a0 hw [] o1 cs h0 n0 Z0 wa hcs wQ) e322 pd_0 vl rfl rfl fun _ T323 Lc323 X323 hQ323 => ?_
 obtain ⟨rfl, Nq323, hh323⟩ := hQ323
 have N323 := Fr.app N0 Nq323
 refine Ends.v (oxl X323 hy d12_14 21 (XT.ii_eq_t (by decide)) ?_)
 exact fV X323 hy hrt hlk hQQ d12_21 hh323 (by decide) ⟨rfl, N323, rfl⟩
theorem d5_0 : decode cD14 0 = .ok (.aload_n 0, 1) := by decide +kernel
theorem d5_1 : decode cD14 1 = .ok (.invokespecial 3, 3) := by decide +kernel
theorem d5_4 : decode cD14 4 = .ok (.getstatic 18, 3) := by decide +kernel
theorem d5_7 : decode cD14 7 = .ok (.ifCond .eq 18, 3) := by decide +kernel
theorem d5_10 : decode cD14 10 = .ok (.aload_n 0, 1) := by decide +kernel
theorem d5_11 : decode cD14 11 = .ok (.iload_n 1, 1) := by decide +kernel
theorem d5_12 : decode cD14 12 = .ok (.newarray .byte, 2) := by decide +kernel
theorem d5_14 : decode cD14 14 = .ok (.putfield 15, 3) := by decide +kernel
theorem d5_17 : decode cD14 17 = .ok (.aload_n 0, 1) := by decide +kernel
theorem d5_18 : decode cD14 18 = .ok (.iconst 0, 1) := by decide +kernel
theorem d5_19 : decode cD14 19 = .ok (.putfield 22, 3) := by decide +kernel
theorem d5_22 : decode cD14 22 = .ok (.goto 16, 3) := by decide +kernel
theorem d5_38 : decode cD14 38 = .ok (.return_, 1) := by decide +kernel
def Qas (Z : State) (o0 : Addr) (u : Value) (w cs : Int32) (h0 : Heap) (n0 : Nat) : QT := fun v h L => ∃ (vb : Addr), ∃ (kb : ClassId), (v = none) ∧ (Fr n0 L) ∧ (Keep h0 h [o0]) ∧ (h0.size ≤ vb) ∧ (n0 ≤ vb) ∧ (eBQ Z h o0) ∧ (fDQ Z h o0 (.ref vb)) ∧ (fCQ Z h o0 (.int 0)) ∧ (fEQ Z h o0 (.int 0)) ∧ (eCQ Z h vb) ∧ (Arv Z h vb kb .byte 16 [.int 0, .int 0, .int 0, .int 0, .int 0, .int 0, .int 0, .int 0, .int 0, .int 0, .int 0, .int 0, .int 0, .int 0, .int 0, .int 0] (.int 0))
theorem rmas (l : Launch) (Z : State) (a0 : Array Value) (hw : TW a0 Z) (ws : List Jvm.Cond) (o0 : Addr) (u : Value) (w cs : Int32) (h0 : Heap) (n0 : Nat) (Z0 : n0 ≤ h0.size) (wo : eBQ Z h0 o0) (we : fDQ Z h0 o0 u) (wd : fCQ Z h0 o0 (.int w)) (wh : fEQ Z h0 o0 (.int 0)) (wV : n0 ≤ o0) (wa : sJQ Z h0 (.int cs)) (hcs : ¬ cs = (0 : Int32)) :
  MF l mN30 jdk_68_method_2_code 2 none ws (rmm 1 1 16 12) #[.ref o0, .int 16] Z h0 (Qas Z o0 u w cs h0 n0) := by
 refine MF.of (plainFor_of_name pn_4) ?_
 intro p e s m below meth c s₁ QQ hy hml hown hZ X0 e0 hrt hlk hnm hQQ
 have hx := hy.1
 have hby := hy.2
 have N0 := Fr.nil n0
 refine Ends.i #[rv o0, iv 16] (oA X0 hy d5_0 1 rfl ?_)
 obtain ⟨T324, X324, e324, st324⟩ := initO X0 hx hZ hown (tb hw 30 rfl) (tb hw 7 rfl) (tb hw 8 rfl) e0 (g := (mkF m 1 #[rv o0, iv 16] [.ref o0])) rfl (by rw [hml]; rfl) rfl (hb hby d5_1) (by decide) (W := 0) (by show 2 * 0 + _ ≤ _; exact Nat.le_of_eq rfl) (by decide)
 refine Ends.j 4 [] st324 ?_
 refine gS X324 hy hown hZ hw e324 wa d5_4 7 31 rfl fun T325 X325 e325 => ?_
 have hc7 : ¬ (cs = (0 : Int32)) := hcs
 refine oxh X325 hy d5_7 10 (XT.i0_eq_f hc7) (oA X325 hy d5_10 11 rfl (oC X325 hy d5_11 12 rfl ?_))
 obtain ⟨T326, h326, k326, X326, e326, E326, A326, Y326, st326⟩ := newPE X325 hx hZ (tb hw 33 rfl) e325 (g := (mkF m 12 #[rv o0, iv 16] [.int 16, .ref o0])) rfl (hb hby d5_12) rfl (by decide) (cap := 16) (by decide) (by decide) (by decide) (by decide) (ad := "[B") (by decide)
 obtain ⟨b326, g326⟩ : ∃ z, z = h0.size := ⟨_, rfl⟩
 rw [← g326] at A326 Y326 st326
 have jg : o0 ≠ b326 := Nat.ne_of_lt (Nat.lt_of_lt_of_le wo.lt (Nat.le_of_eq g326.symm))
 have VL : n0 ≤ b326 := Nat.le_trans Z0 (Nat.le_trans (Keep.refl h0 [o0]).1 (Nat.le_of_eq g326.symm))
 have Wu : h0.size ≤ b326 := Nat.le_trans (Keep.refl h0 [o0]).1 (Nat.le_of_eq g326.symm)
 have wo := wo.ext E326
 have we := we.ext E326
 have wd := wd.ext E326
 have wh := wh.ext E326
 have K326 := (Keep.refl h0 [o0]).ext E326
 have kW := Y326
 have kY : Arv Z h326 b326 k326 .byte 16 [.int 0, .int 0, .int 0, .int 0, .int 0, .int 0, .int 0, .int 0, .int 0, .int 0, .int 0, .int 0, .int 0, .int 0, .int 0, .int 0] (.int 0) := (Arv.new A326 (by decide)).pad (pad_rep [] (.int 0) 16)
 refine Ends.j 14 [.ref b326, .ref o0] st326 ?_
 obtain ⟨T327, h327, X327, e327, W327, st327⟩ := putF X326 hx hZ hown (host := "") (Or.inl (tb hw 34 rfl)) Via.refl e326 we wo (Or.inl (tb hw 35 rfl)) (tb hw 19 rfl) (ty := (.array .byte)) (by decide) rfl rfl (g := (mkF m 14 #[rv o0, iv 16] [.ref b326, .ref o0])) rfl rfl (hb hby d5_14)
 have wo := wo.wr W327
 have wd := wd.other W327 (Or.inr (slot_ne (Or.inl (tb hw 37 rfl)) (Or.inl (tb hw 35 rfl)) (by decide) (t := .byte) (t' := (.array .byte)) (by decide) (by decide)))
 have wh := wh.other W327 (Or.inr (slot_ne (Or.inl (tb hw 68 rfl)) (Or.inl (tb hw 35 rfl)) (by decide) (t := .int) (t' := (.array .byte)) (by decide) (by decide)))
 have kW := kW.wr W327
 have kY := kY.other W327 (Ne.symm jg)
 have we : fDQ Z h327 o0 (.ref b326) := we.same W327
 have K327 := K326.wr W327 (Or.inl mm0)
 have N327 := Fr.snoc X327 N0 wV
 refine Ends.j 17 [] st327 ?_
 refine oA X327 hy d5_17 18 rfl (oG X327 hy d5_18 19 0 rfl ?_)
 obtain ⟨T328, h328, X328, e328, W328, st328⟩ := putFN X327 hx hZ hown (tb hw 36 rfl) Via.refl e327 wd wo (Or.inl (tb hw 37 rfl)) (tb hw 19 rfl) (ty := .byte) (v' := (.int 0)) (by decide) rfl rfl (g := (mkF m 19 #[rv o0, iv 16] [.int 0, .ref o0])) rfl rfl (hb hby d5_19)
 have wo := wo.wr W328
 have we := we.other W328 (Or.inr (slot_ne (Or.inl (tb hw 35 rfl)) (Or.inl (tb hw 37 rfl)) (by decide) (t := (.array .byte)) (t' := .byte) (by decide) (by decide)))
 have wh := wh.other W328 (Or.inr (slot_ne (Or.inl (tb hw 68 rfl)) (Or.inl (tb hw 37 rfl)) (by decide) (t := .int) (t' := .byte) (by decide) (by decide)))
 have kW := kW.wr W328
 have kY := kY.other W328 (Ne.symm jg)
 have wd : fCQ Z h328 o0 (.int 0) := wd.same W328
 have K328 := K327.wr W328 (Or.inl mm0)
 have N328 := Fr.snoc X328 N327 wV
 refine Ends.j 22 [] st328 ?_
 refine oxm X328 hy d5_22 38 ?_
 exact fV X328 hy hrt hlk hQQ d5_38 e328 (by decide) ⟨b326, k326, rfl, N328, K328, Wu, VL, wo, we, wd, wh, kW, kY⟩
theorem d4_0 : decode cD34 0 = .ok (.aload_n 0, 1) := by decide +kernel
theorem d4_1 : decode cD34 1 = .ok (.bipush 16, 2) := by decide +kernel
theorem d4_3 : decode cD34 3 = .ok (.invokespecial 1, 3) := by decide +kernel
theorem d4_6 : decode cD34 6 = .ok (.return_, 1) := by decide +kernel
def Qsb (Z : State) (o0 : Addr) (u : Value) (w cs : Int32) (h0 : Heap) (n0 : Nat) : QT := fun v h L => ∃ (vb : Addr), ∃ (kb : ClassId), (v = none) ∧ (Fr n0 L) ∧ (Keep h0 h [o0]) ∧ (h0.size ≤ vb) ∧ (n0 ≤ vb) ∧ (eBQ Z h o0) ∧ (fDQ Z h o0 (.ref vb)) ∧ (fCQ Z h o0 (.int 0)) ∧ (fEQ Z h o0 (.int 0)) ∧ (eCQ Z h vb) ∧ (Arv Z h vb kb .byte 16 [.int 0, .int 0, .int 0, .int 0, .int 0, .int 0, .int 0, .int 0, .int 0, .int 0, .int 0, .int 0, .int 0, .int 0, .int 0, .int 0] (.int 0))
theorem rmsb (l : Launch) (Z : State) (a0 : Array Value) (hw : TW a0 Z) (ws : List Jvm.Cond) (o0 : Addr) (u : Value) (w cs : Int32) (h0 : Heap) (n0 : Nat) (Z0 : n0 ≤ h0.size) (wo : eBQ Z h0 o0) (we : fDQ Z h0 o0 u) (wd : fCQ Z h0 o0 (.int w)) (wh : fEQ Z h0 o0 (.int 0)) (wV : n0 ≤ o0) (wa : sJQ Z h0 (.int cs)) (hcs : ¬ cs = (0 : Int32)) :
  MF l mN31 jdk_67_method_1_code 1 none ws (rmm 2 1 16 25) #[.ref o0] Z h0 (Qsb Z o0 u w cs h0 n0) := by
 refine MF.of (plainFor_of_name pn_5) ?_
 intro p e s m below meth c s₁ QQ hy hml hown hZ X0 e0 hrt hlk hnm hQQ
 have N0 := Fr.nil n0
 refine Ends.i #[rv o0] (oA X0 hy d4_0 1 rfl (oH X0 hy d4_1 3 16 rfl ?_))
 refine cI X0 hy hml hown hZ hw d4_3 6 0 24 25 29 28 rfl rfl rfl rfl rfl (rmas l Z a0 hw [] o0 u w cs h0 n0 Z0 wo we wd wh wV wa hcs) e0 pd_5 rfl rfl fun _ T329 Lc329 X329 hQ329 => ?_
 obtain ⟨vb_329, kb_329, rfl, Nq329, Kq329, fq329_0, Wn, wo, we, wd, wh, Wo, Wp⟩ := hQ329
 have N329 := Fr.app N0 Nq329
 have zB := Nat.le_trans (Keep.refl h0 [o0]).1 fq329_0
 have K329 := (Keep.refl h0 [o0]).trans Kq329 (allS (Or.inl mm0) all0)
 refine Ends.u ?_
 exact fV X329 hy hrt hlk hQQ d4_6 rfl (by decide) ⟨vb_329, kb_329, rfl, N329, K329, zB, Wn, wo, we, wd, wh, Wo, Wp⟩
theorem d10_0 : decode cD6 0 = .ok (.aload_n 0, 1) := by decide +kernel
theorem d10_1 : decode cD6 1 = .ok (.getfield 15, 3) := by decide +kernel
theorem d10_4 : decode cD6 4 = .ok (.arraylength, 1) := by decide +kernel
theorem d10_5 : decode cD6 5 = .ok (.aload_n 0, 1) := by decide +kernel
theorem d10_6 : decode cD6 6 = .ok (.getfield 22, 3) := by decide +kernel
theorem d10_9 : decode cD6 9 = .ok (.ishr, 1) := by decide +kernel
theorem d10_10 : decode cD6 10 = .ok (.istore_n 2, 1) := by decide +kernel
theorem d10_11 : decode cD6 11 = .ok (.iload_n 1, 1) := by decide +kernel
theorem d10_12 : decode cD6 12 = .ok (.iload_n 2, 1) := by decide +kernel
theorem d10_13 : decode cD6 13 = .ok (.isub, 1) := by decide +kernel
theorem d10_14 : decode cD6 14 = .ok (.ifCond .le 24, 3) := by decide +kernel
theorem d10_38 : decode cD6 38 = .ok (.return_, 1) := by decide +kernel
def Qens7_16 (Z : State) (o0 vb : Addr) (kb : ClassId) (vs : List Value) (h0 : Heap) (n0 : Nat) : QT := fun v h L => (v = none) ∧ (Fr n0 L) ∧ (h = h0)
theorem rmens7_16 (l : Launch) (Z : State) (a0 : Array Value) (hw : TW a0 Z) (ws : List Jvm.Cond) (o0 vb : Addr) (kb : ClassId) (vs : List Value) (h0 : Heap) (n0 : Nat) (Z0 : n0 ≤ h0.size) (we : fDQ Z h0 o0 (.ref vb)) (wd : fCQ Z h0 o0 (.int 0)) (wN : Arv Z h0 vb kb .byte 16 vs (.int 0)) :
  MF l mN0 jdk_68_method_9_code 3 none ws (rmm 0 0 0 0) #[.ref o0, .int 7] Z h0 (Qens7_16 Z o0 vb kb vs h0 n0) := by
 refine MF.of (plainFor_of_name pn_4) ?_
 intro p e s m below meth c s₁ QQ hy hml hown hZ X0 e0 hrt hlk hnm hQQ
 have N0 := Fr.nil n0
 refine Ends.i #[rv o0, iv 7, uu] (oA X0 hy d10_0 1 rfl (gF X0 hy hown hZ hw e0 we d10_1 4 34 rfl fun T330 X330 e330 => aLn X330 hy hZ e330 wN d10_4 5 (oA X330 hy d10_5 6 rfl (gF X330 hy hown hZ hw e330 wd d10_6 9 36 rfl fun T332 X332 e332 => oP X332 hy d10_9 10 ?_))))
 show Ends p e below QQ (T332.setTop (mkF m 10 #[rv o0, iv 7, uu] [.int 16]))
 refine oxp X332 hy d10_10 11 #[rv o0, iv 7, iv 16] rfl (oC X332 hy d10_11 12 rfl (oC X332 hy d10_12 13 rfl (oL X332 hy d10_13 14 ?_)))
 show Ends p e below QQ (T332.setTop (mkF m 14 #[rv o0, iv 7, iv 16] [.int (-9)]))
 refine oxk X332 hy d10_14 38 (XT.i0_le_t (by decide)) ?_
 exact fV X332 hy hrt hlk hQQ d10_38 e332 (by decide) ⟨rfl, N0, rfl⟩
theorem d13_0 : decode cD10 0 = .ok (.aload_n 0, 1) := by decide +kernel
theorem d13_1 : decode cD10 1 = .ok (.invokevirtual 335, 3) := by decide +kernel
theorem d13_4 : decode cD10 4 = .ok (.iload_n 3, 1) := by decide +kernel
theorem d13_5 : decode cD10 5 = .ok (.if_icmp .ne 23, 3) := by decide +kernel
theorem d13_8 : decode cD10 8 = .ok (.aload_n 0, 1) := by decide +kernel
theorem d13_9 : decode cD10 9 = .ok (.getfield 9, 3) := by decide +kernel
theorem d13_12 : decode cD10 12 = .ok (.iconst 0, 1) := by decide +kernel
theorem d13_13 : decode cD10 13 = .ok (.aload_n 1, 1) := by decide +kernel
theorem d13_14 : decode cD10 14 = .ok (.iload_n 2, 1) := by decide +kernel
theorem d13_15 : decode cD10 15 = .ok (.iload_n 3, 1) := by decide +kernel
theorem d13_16 : decode cD10 16 = .ok (.ishl, 1) := by decide +kernel
theorem d13_17 : decode cD10 17 = .ok (.aload_n 0, 1) := by decide +kernel
theorem d13_18 : decode cD10 18 = .ok (.getfield 9, 3) := by decide +kernel
theorem d13_21 : decode cD10 21 = .ok (.arraylength, 1) := by decide +kernel
theorem d13_22 : decode cD10 22 = .ok (.invokestatic 212, 3) := by decide +kernel
theorem d13_25 : decode cD10 25 = .ok (.goto 18, 3) := by decide +kernel
theorem d13_43 : decode cD10 43 = .ok (.return_, 1) := by decide +kernel
def QgbA (Z : State) (o0 o1 : Addr) (kb : ClassId) (tt : Addr) (kt : ClassId) (cs y0 y1 y2 y3 y4 y5 y6 : Int32) (h0 : Heap) (n0 : Nat) : QT := fun v h L => (v = none) ∧ (Fr n0 L) ∧ (Keep h0 h [o1]) ∧ (Arv Z h o1 kb .byte 16 [.int y0, .int y1, .int y2, .int y3, .int y4, .int y5, .int y6, .int 0, .int 0, .int 0, .int 0, .int 0, .int 0, .int 0, .int 0, .int 0] (.int 0))
theorem rmgbA (l : Launch) (Z : State) (a0 : Array Value) (hw : TW a0 Z) (ws : List Jvm.Cond) (o0 o1 : Addr) (kb : ClassId) (tt : Addr) (kt : ClassId) (cs y0 y1 y2 y3 y4 y5 y6 : Int32) (h0 : Heap) (n0 : Nat) (Z0 : n0 ≤ h0.size) (wo : eAQ Z h0 o0) (we : fBQ Z h0 o0 (.ref tt)) (wd : fAQ Z h0 o0 (.int 0)) (vo : Arv Z h0 tt kt .byte 7 [.int y0, .int y1, .int y2, .int y3, .int y4, .int y5, .int y6] (.int 0)) (ke : Arv Z h0 o1 kb .byte 16 [.int 0, .int 0, .int 0, .int 0, .int 0, .int 0, .int 0, .int 0, .int 0, .int 0, .int 0, .int 0, .int 0, .int 0, .int 0, .int 0] (.int 0)) (jd : n0 ≤ o1) (kZ : o1 ≠ tt) (ja : o1 ≠ o0) (wa : sJQ Z h0 (.int cs)) (hcs : ¬ cs = (0 : Int32)) :
  MF l mN2 jdk_42_method_147_code 4 none ws (rmm 1 0 0 24) #[.ref o0, .ref o1, .int 0, .int 0] Z h0 (QgbA Z o0 o1 kb tt kt cs y0 y1 y2 y3 y4 y5 y6 h0 n0) := by
 refine MF.of (plainFor_of_name pn_1) ?_
 intro p e s m below meth c s₁ QQ hy hml hown hZ X0 e0 hrt hlk hnm hQQ
 have hx := hy.1
 have hby := hy.2
 have N0 := Fr.nil n0
 refine Ends.i #[rv o0, rv o1, iv 0, iv 0] (oA X0 hy d13_0 1 rfl ?_)
 refine cV X0 hy hml hown hZ hw d13_1 4 0 60 61 63 62 64 32 rfl rfl rfl rfl rfl rfl (rmcod l Z a0 hw [] o0 cs h0 n0 Z0 wa hcs wd) e0 pd_0 wo rfl rfl fun _ T333 Lc333 X333 hQ333 => ?_
 obtain ⟨rfl, Nq333, hh333⟩ := hQ333
 have N333 := Fr.app N0 Nq333
 refine Ends.v (oC X333 hy d13_4 5 rfl (oxi X333 hy d13_5 8 (XT.ii_ne_f (by decide)) (oA X333 hy d13_8 9 rfl (gF X333 hy hown hZ hw hh333 we d13_9 12 59 rfl fun T334 X334 e334 => oG X334 hy d13_12 13 0 rfl (oA X334 hy d13_13 14 rfl (oC X334 hy d13_14 15 rfl (oC X334 hy d13_15 16 rfl (oO X334 hy d13_16 17 ?_))))))))
 show Ends p e below QQ (T334.setTop (mkF m 17 #[rv o0, rv o1, iv 0, iv 0] [.int 0, .ref o1, .int 0, .ref tt]))
 refine oA X334 hy d13_17 18 rfl (gF X334 hy hown hZ hw e334 we d13_18 21 59 rfl fun T335 X335 e335 => aLn X335 hy hZ e335 vo d13_21 22 ?_)
 obtain ⟨T337, h337, L337, X337, e337, N337, Kq337, AA337, st337⟩ := cpA X335 hx hZ hown (tb hw 90 rfl) (tb hw 93 rfl) (tb hw 91 rfl) (tb hw 92 rfl) e335 vo ke (Or.inl ⟨rfl, rfl⟩) (by decide) (by decide) (by decide) (by decide) (by decide) (us := [.int y0, .int y1, .int y2, .int y3, .int y4, .int y5, .int y6]) (by rfl) (Nat.le_of_ble_eq_true rfl) N333 jd (g := (mkF m 22 #[rv o0, rv o1, iv 0, iv 0] [.int 7, .int 0, .ref o1, .int 0, .ref tt])) rfl (by rw [hml]; rfl) rfl (hb hby d13_22) (by decide) (W := 0) (by show 2 * 0 + _ ≤ _; exact Nat.le_of_eq rfl) (by decide)
 have ke : Arv Z h337 o1 kb .byte 16 [.int y0, .int y1, .int y2, .int y3, .int y4, .int y5, .int y6, .int 0, .int 0, .int 0, .int 0, .int 0, .int 0, .int 0, .int 0, .int 0] (.int 0) := AA337
 have K337 := (Keep.refl h0 [o1]).trans Kq337 (allS (Or.inl mm0) all0)
 refine Ends.j 25 [] st337 ?_
 refine oxm X337 hy d13_25 43 ?_
 exact fV X337 hy hrt hlk hQQ d13_43 e337 (by decide) ⟨rfl, N337, K337, ke⟩
theorem d11_0 : decode cD16 0 = .ok (.aload_n 0, 1) := by decide +kernel
theorem d11_1 : decode cD16 1 = .ok (.aload_n 2, 1) := by decide +kernel
theorem d11_2 : decode cD16 2 = .ok (.invokevirtual 397, 3) := by decide +kernel
theorem d11_5 : decode cD16 5 = .ok (.aload_n 2, 1) := by decide +kernel
theorem d11_6 : decode cD16 6 = .ok (.aload_n 0, 1) := by decide +kernel
theorem d11_7 : decode cD16 7 = .ok (.getfield 15, 3) := by decide +kernel
theorem d11_10 : decode cD16 10 = .ok (.iload_n 1, 1) := by decide +kernel
theorem d11_11 : decode cD16 11 = .ok (.aload_n 0, 1) := by decide +kernel
theorem d11_12 : decode cD16 12 = .ok (.getfield 22, 3) := by decide +kernel
theorem d11_15 : decode cD16 15 = .ok (.invokevirtual 399, 3) := by decide +kernel
theorem d11_18 : decode cD16 18 = .ok (.return_, 1) := by decide +kernel
def QpsA (Z : State) (o0 o2 vb : Addr) (kb : ClassId) (tt : Addr) (kt : ClassId) (cs y0 y1 y2 y3 y4 y5 y6 : Int32) (h0 : Heap) (n0 : Nat) : QT := fun v h L => (v = none) ∧ (Fr n0 L) ∧ (Keep h0 h [vb]) ∧ (Arv Z h vb kb .byte 16 [.int y0, .int y1, .int y2, .int y3, .int y4, .int y5, .int y6, .int 0, .int 0, .int 0, .int 0, .int 0, .int 0, .int 0, .int 0, .int 0] (.int 0))
theorem rmpsA (l : Launch) (Z : State) (a0 : Array Value) (hw : TW a0 Z) (ws : List Jvm.Cond) (o0 o2 vb : Addr) (kb : ClassId) (tt : Addr) (kt : ClassId) (cs y0 y1 y2 y3 y4 y5 y6 : Int32) (h0 : Heap) (n0 : Nat) (Z0 : n0 ≤ h0.size) (wo : eBQ Z h0 o0) (we : fDQ Z h0 o0 (.ref vb)) (wd : fCQ Z h0 o0 (.int 0)) (wh : fEQ Z h0 o0 (.int 0)) (wU : eCQ Z h0 vb) (wN : Arv Z h0 vb kb .byte 16 [.int 0, .int 0, .int 0, .int 0, .int 0, .int 0, .int 0, .int 0, .int 0, .int 0, .int 0, .int 0, .int 0, .int 0, .int 0, .int 0] (.int 0)) (wV : n0 ≤ o0) (vr : n0 ≤ vb) (wL : o0 ≠ vb) (ka : eAQ Z h0 o2) (vM : fBQ Z h0 o2 (.ref tt)) (vD : fAQ Z h0 o2 (.int 0)) (vo : Arv Z h0 tt kt .byte 7 [.int y0, .int y1, .int y2, .int y3, .int y4, .int y5, .int y6] (.int 0)) (vp : vb ≠ tt) (vX : vb ≠ o2) (wa : sJQ Z h0 (.int cs)) (hcs : ¬ cs = (0 : Int32)) :
  MF l mN3 jdk_68_method_73_code 3 none ws (rmm 2 0 0 39) #[.ref o0, .int 0, .ref o2] Z h0 (QpsA Z o0 o2 vb kb tt kt cs y0 y1 y2 y3 y4 y5 y6 h0 n0) := by
 refine MF.of (plainFor_of_name pn_4) ?_
 intro p e s m below meth c s₁ QQ hy hml hown hZ X0 e0 hrt hlk hnm hQQ
 have N0 := Fr.nil n0
 refine Ends.i #[rv o0, iv 0, rv o2] (oA X0 hy d11_0 1 rfl (oA X0 hy d11_1 2 rfl ?_))
 refine cP X0 hy hml hown hZ hw d11_2 5 0 79 80 72 81 83 28 rfl rfl rfl rfl rfl rfl rfl (rminf l Z a0 hw [] o0 o2 cs h0 n0 Z0 wa hcs wd ka vD) e0 pd_6 wo rfl rfl fun _ T338 Lc338 X338 hQ338 => ?_
 obtain ⟨rfl, Nq338, hh338⟩ := hQ338
 have N338 := Fr.app N0 Nq338
 refine Ends.u (oA X338 hy d11_5 6 rfl (oA X338 hy d11_6 7 rfl (gF X338 hy hown hZ hw hh338 we d11_7 10 34 rfl fun T339 X339 e339 => oC X339 hy d11_10 11 rfl (oA X339 hy d11_11 12 rfl (gF X339 hy hown hZ hw e339 wd d11_12 15 36 rfl fun T340 X340 e340 => ?_)))))
 refine cV X340 hy hml hown hZ hw d11_15 18 0 85 86 88 87 89 32 rfl rfl rfl rfl rfl rfl (rmgbA l Z a0 hw [] o2 vb kb tt kt cs y0 y1 y2 y3 y4 y5 y6 h0 n0 Z0 ka vM vD vo wN vr vp vX wa hcs) e340 pd_7 ka rfl rfl fun _ T341 Lc341 X341 hQ341 => ?_
 obtain ⟨rfl, Nq341, Kq341, wN⟩ := hQ341
 have N341 := Fr.app N338 Nq341
 have K341 := (Keep.refl h0 [vb]).trans Kq341 (allS (Or.inl mm0) all0)
 refine Ends.u ?_
 exact fV X341 hy hrt hlk hQQ d11_18 rfl (by decide) ⟨rfl, N341, K341, wN⟩
theorem d7_0 : decode cD5 0 = .ok (.aload_n 1, 1) := by decide +kernel
theorem d7_1 : decode cD5 1 = .ok (.ifnonnull 8, 3) := by decide +kernel
theorem d7_9 : decode cD5 9 = .ok (.aload_n 1, 1) := by decide +kernel
theorem d7_10 : decode cD5 10 = .ok (.invokevirtual 32, 3) := by decide +kernel
theorem d7_13 : decode cD5 13 = .ok (.istore_n 2, 1) := by decide +kernel
theorem d7_14 : decode cD5 14 = .ok (.aload_n 0, 1) := by decide +kernel
theorem d7_15 : decode cD5 15 = .ok (.aload_n 0, 1) := by decide +kernel
theorem d7_16 : decode cD5 16 = .ok (.getfield 79, 3) := by decide +kernel
theorem d7_19 : decode cD5 19 = .ok (.iload_n 2, 1) := by decide +kernel
theorem d7_20 : decode cD5 20 = .ok (.iadd, 1) := by decide +kernel
theorem d7_21 : decode cD5 21 = .ok (.invokevirtual 100, 3) := by decide +kernel
theorem d7_24 : decode cD5 24 = .ok (.aload_n 0, 1) := by decide +kernel
theorem d7_25 : decode cD5 25 = .ok (.aload_n 0, 1) := by decide +kernel
theorem d7_26 : decode cD5 26 = .ok (.getfield 79, 3) := by decide +kernel
theorem d7_29 : decode cD5 29 = .ok (.aload_n 1, 1) := by decide +kernel
theorem d7_30 : decode cD5 30 = .ok (.invokevirtual 208, 3) := by decide +kernel
theorem d7_33 : decode cD5 33 = .ok (.aload_n 0, 1) := by decide +kernel
theorem d7_34 : decode cD5 34 = .ok (.dup, 1) := by decide +kernel
theorem d7_35 : decode cD5 35 = .ok (.getfield 79, 3) := by decide +kernel
theorem d7_38 : decode cD5 38 = .ok (.iload_n 2, 1) := by decide +kernel
theorem d7_39 : decode cD5 39 = .ok (.iadd, 1) := by decide +kernel
theorem d7_40 : decode cD5 40 = .ok (.putfield 79, 3) := by decide +kernel
theorem d7_43 : decode cD5 43 = .ok (.aload_n 0, 1) := by decide +kernel
theorem d7_44 : decode cD5 44 = .ok (.areturn, 1) := by decide +kernel
def QapsA (Z : State) (o0 o1 vb : Addr) (kb : ClassId) (tt : Addr) (kt : ClassId) (cs y0 y1 y2 y3 y4 y5 y6 : Int32) (h0 : Heap) (n0 : Nat) : QT := fun v h L => (v = some (.ref o0)) ∧ (Fr n0 L) ∧ (Keep h0 h [o0, vb]) ∧ (eBQ Z h o0) ∧ (fDQ Z h o0 (.ref vb)) ∧ (fCQ Z h o0 (.int 0)) ∧ (fEQ Z h o0 (.int 7)) ∧ (Arv Z h vb kb .byte 16 [.int y0, .int y1, .int y2, .int y3, .int y4, .int y5, .int y6, .int 0, .int 0, .int 0, .int 0, .int 0, .int 0, .int 0, .int 0, .int 0] (.int 0)) ∧ (eCQ Z h vb)
theorem rmapsA (l : Launch) (Z : State) (a0 : Array Value) (hw : TW a0 Z) (ws : List Jvm.Cond) (o0 o1 vb : Addr) (kb : ClassId) (tt : Addr) (kt : ClassId) (cs y0 y1 y2 y3 y4 y5 y6 : Int32) (h0 : Heap) (n0 : Nat) (Z0 : n0 ≤ h0.size) (wo : eBQ Z h0 o0) (we : fDQ Z h0 o0 (.ref vb)) (wd : fCQ Z h0 o0 (.int 0)) (wh : fEQ Z h0 o0 (.int 0)) (wU : eCQ Z h0 vb) (wN : Arv Z h0 vb kb .byte 16 [.int 0, .int 0, .int 0, .int 0, .int 0, .int 0, .int 0, .int 0, .int 0, .int 0, .int 0, .int 0, .int 0, .int 0, .int 0, .int 0] (.int 0)) (wV : n0 ≤ o0) (vr : n0 ≤ vb) (wL : o0 ≠ vb) (vl : eAQ Z h0 o1) (wR : fBQ Z h0 o1 (.ref tt)) (wQ : fAQ Z h0 o1 (.int 0)) (vo : Arv Z h0 tt kt .byte 7 [.int y0, .int y1, .int y2, .int y3, .int y4, .int y5, .int y6] (.int 0)) (vp : vb ≠ tt) (vF : o0 ≠ tt) (vq : o0 ≠ o1) (vE : vb ≠ o1) (wa : sJQ Z h0 (.int cs)) (hcs : ¬ cs = (0 : Int32)) :
  MF l mN4 jdk_68_method_22_code 3 (some (.object "java/lang/AbstractStringBuilder")) ws (rmm 3 0 0 53) #[.ref o0, .ref o1] Z h0 (QapsA Z o0 o1 vb kb tt kt cs y0 y1 y2 y3 y4 y5 y6 h0 n0) := by
 refine MF.of (plainFor_of_name pn_4) ?_
 intro p e s m below meth c s₁ QQ hy hml hown hZ X0 e0 hrt hlk hnm hQQ
 have hx := hy.1
 have hby := hy.2
 have N0 := Fr.nil n0
 refine Ends.i #[rv o0, rv o1, uu] (oA X0 hy d7_0 1 rfl (oxn X0 hy d7_1 9 (oA X0 hy d7_9 10 rfl ?_)))
 refine cV X0 hy hml hown hZ hw d7_10 13 0 54 55 57 56 58 32 rfl rfl rfl rfl rfl rfl (rmlen l Z a0 hw [] o1 tt kt (7 : Int32) [.int y0, .int y1, .int y2, .int y3, .int y4, .int y5, .int y6] cs h0 n0 Z0 vl wR vo wa hcs wQ) e0 pd_8 vl rfl rfl fun _ T342 Lc342 X342 hQ342 => ?_
 obtain ⟨rfl, Nq342, hh342⟩ := hQ342
 have N342 := Fr.app N0 Nq342
 refine Ends.v (oxp X342 hy d7_13 14 #[rv o0, rv o1, iv 7] rfl (oA X342 hy d7_14 15 rfl (oA X342 hy d7_15 16 rfl (gF X342 hy hown hZ hw hh342 wh d7_16 19 67 rfl fun T343 X343 e343 => oC X343 hy d7_19 20 rfl (oK X343 hy d7_20 21 ?_)))))
 show Ends p e below QQ (T343.setTop (mkF m 21 #[rv o0, rv o1, iv 7] [.int 7, .ref o0]))
 refine cP X343 hy hml hown hZ hw d7_21 24 0 69 70 72 71 73 28 rfl rfl rfl rfl rfl rfl rfl (rmens7_16 l Z a0 hw [] o0 vb kb [.int 0, .int 0, .int 0, .int 0, .int 0, .int 0, .int 0, .int 0, .int 0, .int 0, .int 0, .int 0, .int 0, .int 0, .int 0, .int 0] h0 n0 Z0 we wd wN) e343 pd_5 wo rfl rfl fun _ T344 Lc344 X344 hQ344 => ?_
 obtain ⟨rfl, Nq344, hh344⟩ := hQ344
 have N344 := Fr.app N342 Nq344
 refine Ends.u (oA X344 hy d7_24 25 rfl (oA X344 hy d7_25 26 rfl (gF X344 hy hown hZ hw hh344 wh d7_26 29 67 rfl fun T345 X345 e345 => oA X345 hy d7_29 30 rfl ?_)))
 refine cP X345 hy hml hown hZ hw d7_30 33 0 74 75 72 76 78 28 rfl rfl rfl rfl rfl rfl rfl (rmpsA l Z a0 hw [] o0 o1 vb kb tt kt cs y0 y1 y2 y3 y4 y5 y6 h0 n0 Z0 wo we wd wh wU wN wV vr wL vl wR wQ vo vp vE wa hcs) e345 pd_9 wo rfl rfl fun _ T346 Lc346 X346 hQ346 => ?_
 obtain ⟨rfl, Nq346, Kq346, wN⟩ := hQ346
 have N346 := Fr.app N344 Nq346
 have wo := wo.keep Kq346
 have we := we.keep Kq346 (ninS wL nin0)
 have wd := wd.keep Kq346 (ninS wL nin0)
 have wh := wh.keep Kq346 (ninS wL nin0)
 have wU := wU.keep Kq346
 have K346 := (Keep.refl h0 [o0, vb]).trans Kq346 (allS (Or.inl mm1) all0)
 refine Ends.u (oA X346 hy d7_33 34 rfl (oxd X346 hy d7_34 35 rfl (gF X346 hy hown hZ hw rfl wh d7_35 38 67 rfl fun T347 X347 e347 => oC X347 hy d7_38 39 rfl (oK X347 hy d7_39 40 ?_))))
 show Ends p e below QQ (T347.setTop (mkF m 40 #[rv o0, rv o1, iv 7] [.int 7, .ref o0]))
 obtain ⟨T348, h348, X348, e348, W348, st348⟩ := putF X347 hx hZ hown (host := "") (Or.inl (tb hw 67 rfl)) Via.refl e347 wh wo (Or.inl (tb hw 68 rfl)) (tb hw 19 rfl) (ty := .int) (by decide) rfl rfl (g := (mkF m 40 #[rv o0, rv o1, iv 7] [.int 7, .ref o0])) rfl rfl (hb hby d7_40)
 have wo := wo.wr W348
 have we := we.other W348 (Or.inr (slot_ne (Or.inl (tb hw 35 rfl)) (Or.inl (tb hw 68 rfl)) (by decide) (t := (.array .byte)) (t' := .int) (by decide) (by decide)))
 have wd := wd.other W348 (Or.inr (slot_ne (Or.inl (tb hw 37 rfl)) (Or.inl (tb hw 68 rfl)) (by decide) (t := .byte) (t' := .int) (by decide) (by decide)))
 have wU := wU.wr W348
 have wN := wN.other W348 (Ne.symm wL)
 have wh : fEQ Z h348 o0 (.int 7) := wh.same W348
 have K348 := K346.wr W348 (Or.inl mm0)
 have N348 := Fr.snoc X348 N346 wV
 refine Ends.j 43 [] st348 ?_
 refine oA X348 hy d7_43 44 rfl ?_
 exact fA X348 hy hrt hlk hQQ d7_44 rfl rfl e348 (by decide) ⟨rfl, N348, K348, wo, we, wd, wh, wN, wU⟩
theorem d6_0 : decode cD29 0 = .ok (.aload_n 0, 1) := by decide +kernel
theorem d6_1 : decode cD29 1 = .ok (.aload_n 1, 1) := by decide +kernel
theorem d6_2 : decode cD29 2 = .ok (.invokespecial 29, 3) := by decide +kernel
theorem d6_5 : decode cD29 5 = .ok (.pop, 1) := by decide +kernel
theorem d6_6 : decode cD29 6 = .ok (.aload_n 0, 1) := by decide +kernel
theorem d6_7 : decode cD29 7 = .ok (.areturn, 1) := by decide +kernel
def QspsA (Z : State) (o0 o1 vb : Addr) (kb : ClassId) (tt : Addr) (kt : ClassId) (cs y0 y1 y2 y3 y4 y5 y6 : Int32) (h0 : Heap) (n0 : Nat) : QT := fun v h L => (v = some (.ref o0)) ∧ (Fr n0 L) ∧ (Keep h0 h [o0, vb]) ∧ (eBQ Z h o0) ∧ (fDQ Z h o0 (.ref vb)) ∧ (fCQ Z h o0 (.int 0)) ∧ (fEQ Z h o0 (.int 7)) ∧ (Arv Z h vb kb .byte 16 [.int y0, .int y1, .int y2, .int y3, .int y4, .int y5, .int y6, .int 0, .int 0, .int 0, .int 0, .int 0, .int 0, .int 0, .int 0, .int 0] (.int 0)) ∧ (eCQ Z h vb)
theorem rmspsA (l : Launch) (Z : State) (a0 : Array Value) (hw : TW a0 Z) (ws : List Jvm.Cond) (o0 o1 vb : Addr) (kb : ClassId) (tt : Addr) (kt : ClassId) (cs y0 y1 y2 y3 y4 y5 y6 : Int32) (h0 : Heap) (n0 : Nat) (Z0 : n0 ≤ h0.size) (wo : eBQ Z h0 o0) (we : fDQ Z h0 o0 (.ref vb)) (wd : fCQ Z h0 o0 (.int 0)) (wh : fEQ Z h0 o0 (.int 0)) (wU : eCQ Z h0 vb) (wN : Arv Z h0 vb kb .byte 16 [.int 0, .int 0, .int 0, .int 0, .int 0, .int 0, .int 0, .int 0, .int 0, .int 0, .int 0, .int 0, .int 0, .int 0, .int 0, .int 0] (.int 0)) (wV : n0 ≤ o0) (vr : n0 ≤ vb) (wL : o0 ≠ vb) (vl : eAQ Z h0 o1) (wR : fBQ Z h0 o1 (.ref tt)) (wQ : fAQ Z h0 o1 (.int 0)) (vo : Arv Z h0 tt kt .byte 7 [.int y0, .int y1, .int y2, .int y3, .int y4, .int y5, .int y6] (.int 0)) (vp : vb ≠ tt) (vF : o0 ≠ tt) (vq : o0 ≠ o1) (vE : vb ≠ o1) (wa : sJQ Z h0 (.int cs)) (hcs : ¬ cs = (0 : Int32)) :
  MF l mN5 jdk_67_method_7_code 2 (some (.object "java/lang/StringBuilder")) ws (rmm 4 0 0 67) #[.ref o0, .ref o1] Z h0 (QspsA Z o0 o1 vb kb tt kt cs y0 y1 y2 y3 y4 y5 y6 h0 n0) := by
 refine MF.of (plainFor_of_name pn_5) ?_
 intro p e s m below meth c s₁ QQ hy hml hown hZ X0 e0 hrt hlk hnm hQQ
 have N0 := Fr.nil n0
 refine Ends.i #[rv o0, rv o1] (oA X0 hy d6_0 1 rfl (oA X0 hy d6_1 2 rfl ?_))
 refine cU X0 hy hml hown hZ hw d6_2 5 0 49 50 72 51 53 28 rfl rfl rfl rfl rfl rfl rfl (rmapsA l Z a0 hw [] o0 o1 vb kb tt kt cs y0 y1 y2 y3 y4 y5 y6 h0 n0 Z0 wo we wd wh wU wN wV vr wL vl wR wQ vo vp vF vq vE wa hcs) e0 pd_10 wo rfl rfl fun _ T349 Lc349 X349 hQ349 => ?_
 obtain ⟨rfl, Nq349, Kq349, wo, we, wd, wh, wN, wU⟩ := hQ349
 have N349 := Fr.app N0 Nq349
 have K349 := (Keep.refl h0 [o0, vb]).trans Kq349 (allS (Or.inl mm0) (allS (Or.inl mm1) all0))
 refine Ends.v (oxe X349 hy d6_5 6 rfl (oA X349 hy d6_6 7 rfl ?_))
 exact fA X349 hy hrt hlk hQQ d6_7 rfl rfl rfl (by decide) ⟨rfl, N349, K349, wo, we, wd, wh, wN, wU⟩
theorem d16_0 : decode cD31 0 = .ok (.iload_n 0, 1) := by decide +kernel
theorem d16_1 : decode cD31 1 = .ok (.iload_n 1, 1) := by decide +kernel
theorem d16_2 : decode cD31 2 = .ok (.if_icmp .lt 7, 3) := by decide +kernel
theorem d16_9 : decode cD31 9 = .ok (.iload_n 1, 1) := by decide +kernel
theorem d16_10 : decode cD31 10 = .ok (.ireturn, 1) := by decide +kernel
def Qmx20 (Z : State)  (h0 : Heap) (n0 : Nat) : QT := fun v h L => (v = some (.int 18)) ∧ (Fr n0 L) ∧ (h = h0)
theorem rmmx20 (l : Launch) (Z : State) (a0 : Array Value) (hw : TW a0 Z) (ws : List Jvm.Cond)  (h0 : Heap) (n0 : Nat) (Z0 : n0 ≤ h0.size) :
  MF l mN8 jdk_29_method_65_code 2 (some .int) ws (rmm 0 0 0 0) #[.int 4, .int 18] Z h0 (Qmx20 Z  h0 n0) := by
 refine MF.of (Jvm.Free.JP.mathPlain rfl (by decide +kernel)) ?_
 intro p e s m below meth c s₁ QQ hy hml hown hZ X0 e0 hrt hlk hnm hQQ
 have N0 := Fr.nil n0
 refine Ends.i #[iv 4, iv 18] (oC X0 hy d16_0 1 rfl (oC X0 hy d16_1 2 rfl (oxl X0 hy d16_2 9 (XT.ii_lt_t (by decide)) (oC X0 hy d16_9 10 rfl ?_))))
 exact fI X0 hy hrt hlk hQQ d16_10 rfl (Or.inl rfl) e0 (by decide) ⟨rfl, N0, rfl⟩
theorem d15_0 : decode cD13 0 = .ok (.iload_n 0, 1) := by decide +kernel
theorem d15_1 : decode cD13 1 = .ok (.iload_n 1, 1) := by decide +kernel
theorem d15_2 : decode cD13 2 = .ok (.iload_n 2, 1) := by decide +kernel
theorem d15_3 : decode cD13 3 = .ok (.invokestatic 194, 3) := by decide +kernel
theorem d15_6 : decode cD13 6 = .ok (.iadd, 1) := by decide +kernel
theorem d15_7 : decode cD13 7 = .ok (.istore_n 3, 1) := by decide +kernel
theorem d15_8 : decode cD13 8 = .ok (.iconst 0, 1) := by decide +kernel
theorem d15_9 : decode cD13 9 = .ok (.iload_n 3, 1) := by decide +kernel
theorem d15_10 : decode cD13 10 = .ok (.if_icmp .ge 11, 3) := by decide +kernel
theorem d15_13 : decode cD13 13 = .ok (.iload_n 3, 1) := by decide +kernel
theorem d15_14 : decode cD13 14 = .ok (.ldc 200, 2) := by decide +kernel
theorem d15_16 : decode cD13 16 = .ok (.if_icmp .gt 5, 3) := by decide +kernel
theorem d15_19 : decode cD13 19 = .ok (.iload_n 3, 1) := by decide +kernel
theorem d15_20 : decode cD13 20 = .ok (.ireturn, 1) := by decide +kernel
def Qnl20 (Z : State)  (h0 : Heap) (n0 : Nat) : QT := fun v h L => (v = some (.int 34)) ∧ (Fr n0 L) ∧ (h = h0)
theorem rmnl20 (l : Launch) (Z : State) (a0 : Array Value) (hw : TW a0 Z) (ws : List Jvm.Cond)  (h0 : Heap) (n0 : Nat) (Z0 : n0 ≤ h0.size) :
  MF l mN9 jdk_48_method_27_code 4 (some .int) ws (rmm 1 0 0 14) #[.int 16, .int 4, .int 18] Z h0 (Qnl20 Z  h0 n0) := by
 refine MF.of (plainFor_of_name pn_6) ?_
 intro p e s m below meth c s₁ QQ hy hml hown hZ X0 e0 hrt hlk hnm hQQ
 have hx := hy.1
 have hby := hy.2
 have N0 := Fr.nil n0
 refine Ends.i #[iv 16, iv 4, iv 18, uu] (oC X0 hy d15_0 1 rfl (oC X0 hy d15_1 2 rfl (oC X0 hy d15_2 3 rfl ?_)))
 refine cS X0 hy hml hown hZ hw d15_3 6 1 104 105 106 107 rfl rfl rfl rfl (rmmx20 l Z a0 hw []  h0 n0 Z0) e0 pd_11 rfl rfl fun _ T350 Lc350 X350 hQ350 => ?_
 obtain ⟨rfl, Nq350, hh350⟩ := hQ350
 have N350 := Fr.app N0 Nq350
 refine Ends.v (oK X350 hy d15_6 7 ?_)
 show Ends p e below QQ (T350.setTop (mkF m 7 #[iv 16, iv 4, iv 18, uu] [.int 34]))
 refine oxp X350 hy d15_7 8 #[iv 16, iv 4, iv 18, iv 34] rfl (oG X350 hy d15_8 9 0 rfl (oC X350 hy d15_9 10 rfl (oxi X350 hy d15_10 13 (XT.ii_ge_f (by decide)) (oC X350 hy d15_13 14 rfl ?_))))
 refine Ends.step (fun _ k => X350.ldcI hx hown (mvT hZ (tb hw 108 rfl)) (g := (mkF m 14 #[iv 16, iv 4, iv 18, iv 34] [.int 34])) rfl (hb hby d15_14) k) ?_
 show Ends p e below QQ (T350.setTop (mkF m 16 #[iv 16, iv 4, iv 18, iv 34] [.int 2147483639, .int 34]))
 refine oxi X350 hy d15_16 19 (XT.ii_gt_f (by decide)) (oC X350 hy d15_19 20 rfl ?_)
 exact fI X350 hy hrt hlk hQQ d15_20 rfl (Or.inl rfl) hh350 (by decide) ⟨rfl, N350, rfl⟩
theorem d14_0 : decode cD3 0 = .ok (.aload_n 0, 1) := by decide +kernel
theorem d14_1 : decode cD3 1 = .ok (.getfield 15, 3) := by decide +kernel
theorem d14_4 : decode cD3 4 = .ok (.arraylength, 1) := by decide +kernel
theorem d14_5 : decode cD3 5 = .ok (.istore_n 2, 1) := by decide +kernel
theorem d14_6 : decode cD3 6 = .ok (.iload_n 1, 1) := by decide +kernel
theorem d14_7 : decode cD3 7 = .ok (.aload_n 0, 1) := by decide +kernel
theorem d14_8 : decode cD3 8 = .ok (.getfield 22, 3) := by decide +kernel
theorem d14_11 : decode cD3 11 = .ok (.ishl, 1) := by decide +kernel
theorem d14_12 : decode cD3 12 = .ok (.istore_n 3, 1) := by decide +kernel
theorem d14_13 : decode cD3 13 = .ok (.iload_n 3, 1) := by decide +kernel
theorem d14_14 : decode cD3 14 = .ok (.iload_n 2, 1) := by decide +kernel
theorem d14_15 : decode cD3 15 = .ok (.isub, 1) := by decide +kernel
theorem d14_16 : decode cD3 16 = .ok (.istore 4, 2) := by decide +kernel
theorem d14_18 : decode cD3 18 = .ok (.iload_n 2, 1) := by decide +kernel
theorem d14_19 : decode cD3 19 = .ok (.iload 4, 2) := by decide +kernel
theorem d14_21 : decode cD3 21 = .ok (.iload_n 2, 1) := by decide +kernel
theorem d14_22 : decode cD3 22 = .ok (.iconst 2, 1) := by decide +kernel
theorem d14_23 : decode cD3 23 = .ok (.aload_n 0, 1) := by decide +kernel
theorem d14_24 : decode cD3 24 = .ok (.getfield 22, 3) := by decide +kernel
theorem d14_27 : decode cD3 27 = .ok (.ishl, 1) := by decide +kernel
theorem d14_28 : decode cD3 28 = .ok (.iadd, 1) := by decide +kernel
theorem d14_29 : decode cD3 29 = .ok (.invokestatic 114, 3) := by decide +kernel
theorem d14_32 : decode cD3 32 = .ok (.istore 5, 2) := by decide +kernel
theorem d14_34 : decode cD3 34 = .ok (.iload 5, 2) := by decide +kernel
theorem d14_36 : decode cD3 36 = .ok (.ldc 39, 2) := by decide +kernel
theorem d14_38 : decode cD3 38 = .ok (.if_icmp .ne 13, 3) := by decide +kernel
theorem d14_51 : decode cD3 51 = .ok (.iload 5, 2) := by decide +kernel
theorem d14_53 : decode cD3 53 = .ok (.aload_n 0, 1) := by decide +kernel
theorem d14_54 : decode cD3 54 = .ok (.getfield 22, 3) := by decide +kernel
theorem d14_57 : decode cD3 57 = .ok (.ishr, 1) := by decide +kernel
theorem d14_58 : decode cD3 58 = .ok (.ireturn, 1) := by decide +kernel
def Qnc20 (Z : State) (o0 vb : Addr) (kb : ClassId) (vs : List Value) (h0 : Heap) (n0 : Nat) : QT := fun v h L => (v = some (.int 34)) ∧ (Fr n0 L) ∧ (h = h0)
theorem rmnc20 (l : Launch) (Z : State) (a0 : Array Value) (hw : TW a0 Z) (ws : List Jvm.Cond) (o0 vb : Addr) (kb : ClassId) (vs : List Value) (h0 : Heap) (n0 : Nat) (Z0 : n0 ≤ h0.size) (we : fDQ Z h0 o0 (.ref vb)) (wd : fCQ Z h0 o0 (.int 0)) (wN : Arv Z h0 vb kb .byte 16 vs (.int 0)) :
  MF l mN10 jdk_68_method_10_code 6 (some .int) ws (rmm 2 0 0 29) #[.ref o0, .int 20] Z h0 (Qnc20 Z o0 vb kb vs h0 n0) := by
 refine MF.of (plainFor_of_name pn_4) ?_
 intro p e s m below meth c s₁ QQ hy hml hown hZ X0 e0 hrt hlk hnm hQQ
 have hx := hy.1
 have hby := hy.2
 have N0 := Fr.nil n0
 refine Ends.i #[rv o0, iv 20, uu, uu, uu, uu] (oA X0 hy d14_0 1 rfl (gF X0 hy hown hZ hw e0 we d14_1 4 34 rfl fun T351 X351 e351 => aLn X351 hy hZ e351 wN d14_4 5 (oxp X351 hy d14_5 6 #[rv o0, iv 20, iv 16, uu, uu, uu] rfl (oC X351 hy d14_6 7 rfl (oA X351 hy d14_7 8 rfl (gF X351 hy hown hZ hw e351 wd d14_8 11 36 rfl fun T353 X353 e353 => oO X353 hy d14_11 12 ?_))))))
 show Ends p e below QQ (T353.setTop (mkF m 12 #[rv o0, iv 20, iv 16, uu, uu, uu] [.int 20]))
 refine oxp X353 hy d14_12 13 #[rv o0, iv 20, iv 16, iv 20, uu, uu] rfl (oC X353 hy d14_13 14 rfl (oC X353 hy d14_14 15 rfl (oL X353 hy d14_15 16 ?_)))
 show Ends p e below QQ (T353.setTop (mkF m 16 #[rv o0, iv 20, iv 16, iv 20, uu, uu] [.int 4]))
 refine oxo X353 hy d14_16 18 #[rv o0, iv 20, iv 16, iv 20, iv 4, uu] rfl (oC X353 hy d14_18 19 rfl (oD X353 hy d14_19 21 rfl (oC X353 hy d14_21 22 rfl (oG X353 hy d14_22 23 2 rfl (oA X353 hy d14_23 24 rfl (gF X353 hy hown hZ hw e353 wd d14_24 27 36 rfl fun T354 X354 e354 => oO X354 hy d14_27 28 ?_))))))
 show Ends p e below QQ (T354.setTop (mkF m 28 #[rv o0, iv 20, iv 16, iv 20, iv 4, uu] [.int 2, .int 16, .int 4, .int 16]))
 refine oK X354 hy d14_28 29 ?_
 show Ends p e below QQ (T354.setTop (mkF m 29 #[rv o0, iv 20, iv 16, iv 20, iv 4, uu] [.int 18, .int 4, .int 16]))
 refine cS X354 hy hml hown hZ hw d14_29 32 0 100 101 102 103 rfl rfl rfl rfl (rmnl20 l Z a0 hw []  h0 n0 Z0) e354 pd_12 rfl rfl fun _ T355 Lc355 X355 hQ355 => ?_
 obtain ⟨rfl, Nq355, hh355⟩ := hQ355
 have N355 := Fr.app N0 Nq355
 refine Ends.v (oxo X355 hy d14_32 34 #[rv o0, iv 20, iv 16, iv 20, iv 4, iv 34] rfl (oD X355 hy d14_34 36 rfl ?_))
 refine Ends.step (fun _ k => X355.ldcI hx hown (mvT hZ (tb hw 109 rfl)) (g := (mkF m 36 #[rv o0, iv 20, iv 16, iv 20, iv 4, iv 34] [.int 34])) rfl (hb hby d14_36) k) ?_
 show Ends p e below QQ (T355.setTop (mkF m 38 #[rv o0, iv 20, iv 16, iv 20, iv 4, iv 34] [.int 2147483647, .int 34]))
 refine oxl X355 hy d14_38 51 (XT.ii_ne_t (by decide)) (oD X355 hy d14_51 53 rfl (oA X355 hy d14_53 54 rfl (gF X355 hy hown hZ hw hh355 wd d14_54 57 36 rfl fun T356 X356 e356 => oP X356 hy d14_57 58 ?_)))
 show Ends p e below QQ (T356.setTop (mkF m 58 #[rv o0, iv 20, iv 16, iv 20, iv 4, iv 34] [.int 34]))
 exact fI X356 hy hrt hlk hQQ d14_58 rfl (Or.inl rfl) e356 (by decide) ⟨rfl, N355, rfl⟩
theorem d18_0 : decode cD26 0 = .ok (.iload_n 0, 1) := by decide +kernel
theorem d18_1 : decode cD26 1 = .ok (.iload_n 1, 1) := by decide +kernel
theorem d18_2 : decode cD26 2 = .ok (.if_icmp .gt 7, 3) := by decide +kernel
theorem d18_5 : decode cD26 5 = .ok (.iload_n 0, 1) := by decide +kernel
theorem d18_6 : decode cD26 6 = .ok (.goto 4, 3) := by decide +kernel
theorem d18_10 : decode cD26 10 = .ok (.ireturn, 1) := by decide +kernel
def Qmn34 (Z : State)  (h0 : Heap) (n0 : Nat) : QT := fun v h L => (v = some (.int 16)) ∧ (Fr n0 L) ∧ (h = h0)
theorem rmmn34 (l : Launch) (Z : State) (a0 : Array Value) (hw : TW a0 Z) (ws : List Jvm.Cond)  (h0 : Heap) (n0 : Nat) (Z0 : n0 ≤ h0.size) :
  MF l mN11 jdk_29_method_69_code 2 (some .int) ws (rmm 0 0 0 0) #[.int 16, .int 34] Z h0 (Qmn34 Z  h0 n0) := by
 refine MF.of (Jvm.Free.JP.mathPlain rfl (by decide +kernel)) ?_
 intro p e s m below meth c s₁ QQ hy hml hown hZ X0 e0 hrt hlk hnm hQQ
 have N0 := Fr.nil n0
 refine Ends.i #[iv 16, iv 34] (oC X0 hy d18_0 1 rfl (oC X0 hy d18_1 2 rfl (oxi X0 hy d18_2 5 (XT.ii_gt_f (by decide)) (oC X0 hy d18_5 6 rfl (oxm X0 hy d18_6 10 ?_)))))
 exact fI X0 hy hrt hlk hQQ d18_10 rfl (Or.inl rfl) e0 (by decide) ⟨rfl, N0, rfl⟩
theorem d17_0 : decode cD9 0 = .ok (.iload_n 1, 1) := by decide +kernel
theorem d17_1 : decode cD9 1 = .ok (.aload_n 0, 1) := by decide +kernel
theorem d17_2 : decode cD9 2 = .ok (.arraylength, 1) := by decide +kernel
theorem d17_3 : decode cD9 3 = .ok (.if_icmp .ne 11, 3) := by decide +kernel
theorem d17_14 : decode cD9 14 = .ok (.iload_n 1, 1) := by decide +kernel
theorem d17_15 : decode cD9 15 = .ok (.newarray .byte, 2) := by decide +kernel
theorem d17_17 : decode cD9 17 = .ok (.astore_n 2, 1) := by decide +kernel
theorem d17_18 : decode cD9 18 = .ok (.aload_n 0, 1) := by decide +kernel
theorem d17_19 : decode cD9 19 = .ok (.iconst 0, 1) := by decide +kernel
theorem d17_20 : decode cD9 20 = .ok (.aload_n 2, 1) := by decide +kernel
theorem d17_21 : decode cD9 21 = .ok (.iconst 0, 1) := by decide +kernel
theorem d17_22 : decode cD9 22 = .ok (.aload_n 0, 1) := by decide +kernel
theorem d17_23 : decode cD9 23 = .ok (.arraylength, 1) := by decide +kernel
theorem d17_24 : decode cD9 24 = .ok (.iload_n 1, 1) := by decide +kernel
theorem d17_25 : decode cD9 25 = .ok (.invokestatic 304, 3) := by decide +kernel
theorem d17_28 : decode cD9 28 = .ok (.invokestatic 150, 3) := by decide +kernel
theorem d17_31 : decode cD9 31 = .ok (.aload_n 2, 1) := by decide +kernel
theorem d17_32 : decode cD9 32 = .ok (.areturn, 1) := by decide +kernel
def Qcpo20 (Z : State) (o0 : Addr) (k : ClassId) (x0 x1 x2 x3 x4 x5 x6 : Int32) (h0 : Heap) (n0 : Nat) : QT := fun v h L => ∃ (b : Addr), ∃ (k2 : ClassId), (v = some (.ref b)) ∧ (Fr n0 L) ∧ (Keep h0 h []) ∧ (h0.size ≤ b) ∧ (n0 ≤ b) ∧ (eCQ Z h b) ∧ (Arv Z h b k2 .byte 34 [.int x0, .int x1, .int x2, .int x3, .int x4, .int x5, .int x6, .int 0, .int 0, .int 0, .int 0, .int 0, .int 0, .int 0, .int 0, .int 0, .int 0, .int 0, .int 0, .int 0, .int 0, .int 0, .int 0, .int 0, .int 0, .int 0, .int 0, .int 0, .int 0, .int 0, .int 0, .int 0, .int 0, .int 0] (.int 0))
theorem rmcpo20 (l : Launch) (Z : State) (a0 : Array Value) (hw : TW a0 Z) (ws : List Jvm.Cond) (o0 : Addr) (k : ClassId) (x0 x1 x2 x3 x4 x5 x6 : Int32) (h0 : Heap) (n0 : Nat) (Z0 : n0 ≤ h0.size) (vA : Arv Z h0 o0 k .byte 16 [.int x0, .int x1, .int x2, .int x3, .int x4, .int x5, .int x6, .int 0, .int 0, .int 0, .int 0, .int 0, .int 0, .int 0, .int 0, .int 0] (.int 0)) :
  MF l mN12 jdk_65_method_121_code 3 (some (.array .byte)) ws (rmm 1 1 34 24) #[.ref o0, .int 34] Z h0 (Qcpo20 Z o0 k x0 x1 x2 x3 x4 x5 x6 h0 n0) := by
 refine MF.of (plainFor_of_name pn_7) ?_
 intro p e s m below meth c s₁ QQ hy hml hown hZ X0 e0 hrt hlk hnm hQQ
 have hx := hy.1
 have hby := hy.2
 have N0 := Fr.nil n0
 refine Ends.i #[rv o0, iv 34, uu] (oC X0 hy d17_0 1 rfl (oA X0 hy d17_1 2 rfl (aLn X0 hy hZ e0 vA d17_2 3 (oxl X0 hy d17_3 14 (XT.ii_ne_t (by decide)) (oC X0 hy d17_14 15 rfl ?_)))))
 obtain ⟨T358, h358, k358, X358, e358, E358, A358, Y358, st358⟩ := newPE X0 hx hZ (tb hw 33 rfl) e0 (g := (mkF m 15 #[rv o0, iv 34, uu] [.int 34])) rfl (hb hby d17_15) rfl (by decide) (cap := 34) (by decide) (by decide) (by decide) (by decide) (ad := "[B") (by decide)
 obtain ⟨b358, g358⟩ : ∃ z, z = h0.size := ⟨_, rfl⟩
 rw [← g358] at A358 Y358 st358
 have zJ : n0 ≤ b358 := Nat.le_trans Z0 (Nat.le_trans (Keep.refl h0 []).1 (Nat.le_of_eq g358.symm))
 have zo : h0.size ≤ b358 := Nat.le_trans (Keep.refl h0 []).1 (Nat.le_of_eq g358.symm)
 have vA := vA.ext E358
 have K358 := (Keep.refl h0 []).ext E358
 have uN := Y358
 have uZ : Arv Z h358 b358 k358 .byte 34 [.int 0, .int 0, .int 0, .int 0, .int 0, .int 0, .int 0, .int 0, .int 0, .int 0, .int 0, .int 0, .int 0, .int 0, .int 0, .int 0, .int 0, .int 0, .int 0, .int 0, .int 0, .int 0, .int 0, .int 0, .int 0, .int 0, .int 0, .int 0, .int 0, .int 0, .int 0, .int 0, .int 0, .int 0] (.int 0) := (Arv.new A358 (by decide)).pad (pad_rep [] (.int 0) 34)
 refine Ends.j 17 [.ref b358] st358 ?_
 refine oxt X358 hy d17_17 18 #[rv o0, iv 34, rv b358] rfl (oA X358 hy d17_18 19 rfl (oG X358 hy d17_19 20 0 rfl (oA X358 hy d17_20 21 rfl (oG X358 hy d17_21 22 0 rfl (oA X358 hy d17_22 23 rfl (aLn X358 hy hZ e358 vA d17_23 24 (oC X358 hy d17_24 25 rfl ?_)))))))
 refine cS X358 hy hml hown hZ hw d17_25 28 4 114 115 106 116 rfl rfl rfl rfl (rmmn34 l Z a0 hw []  h358 n0 (Nat.le_trans Z0 K358.1)) e358 pd_11 rfl rfl fun _ T360 Lc360 X360 hQ360 => ?_
 obtain ⟨rfl, Nq360, hh360⟩ := hQ360
 have N360 := Fr.app N0 Nq360
 refine Ends.v ?_
 obtain ⟨T361, h361, L361, X361, e361, N361, Kq361, AA361, st361⟩ := cpA X360 hx hZ hown (tb hw 117 rfl) (tb hw 93 rfl) (tb hw 91 rfl) (tb hw 92 rfl) hh360 vA uZ (Or.inl ⟨rfl, rfl⟩) (by decide) (by decide) (by decide) (by decide) (by decide) (us := [.int x0, .int x1, .int x2, .int x3, .int x4, .int x5, .int x6, .int 0, .int 0, .int 0, .int 0, .int 0, .int 0, .int 0, .int 0, .int 0]) (by rfl) (Nat.le_of_ble_eq_true rfl) N360 zJ (g := (mkF m 28 #[rv o0, iv 34, rv b358] [.int 16, .int 0, .ref b358, .int 0, .ref o0])) rfl (by rw [hml]; rfl) rfl (hb hby d17_28) (by decide) (W := 0) (by show 2 * 0 + _ ≤ _; exact Nat.le_of_eq rfl) (by decide)
 have uN := uN.keep Kq361
 have uZ : Arv Z h361 b358 k358 .byte 34 [.int x0, .int x1, .int x2, .int x3, .int x4, .int x5, .int x6, .int 0, .int 0, .int 0, .int 0, .int 0, .int 0, .int 0, .int 0, .int 0, .int 0, .int 0, .int 0, .int 0, .int 0, .int 0, .int 0, .int 0, .int 0, .int 0, .int 0, .int 0, .int 0, .int 0, .int 0, .int 0, .int 0, .int 0] (.int 0) := AA361
 have K361 := K358.trans Kq361 (allS (Or.inr zo) all0)
 refine Ends.j 31 [] st361 ?_
 refine oA X361 hy d17_31 32 rfl ?_
 exact fA X361 hy hrt hlk hQQ d17_32 rfl rfl e361 (by decide) ⟨b358, k358, rfl, N361, K361, zo, zJ, uN, uZ⟩
theorem d10_17 : decode cD6 17 = .ok (.aload_n 0, 1) := by decide +kernel
theorem d10_18 : decode cD6 18 = .ok (.aload_n 0, 1) := by decide +kernel
theorem d10_19 : decode cD6 19 = .ok (.getfield 15, 3) := by decide +kernel
theorem d10_22 : decode cD6 22 = .ok (.aload_n 0, 1) := by decide +kernel
theorem d10_23 : decode cD6 23 = .ok (.iload_n 1, 1) := by decide +kernel
theorem d10_24 : decode cD6 24 = .ok (.invokevirtual 104, 3) := by decide +kernel
theorem d10_27 : decode cD6 27 = .ok (.aload_n 0, 1) := by decide +kernel
theorem d10_28 : decode cD6 28 = .ok (.getfield 22, 3) := by decide +kernel
theorem d10_31 : decode cD6 31 = .ok (.ishl, 1) := by decide +kernel
theorem d10_32 : decode cD6 32 = .ok (.invokestatic 108, 3) := by decide +kernel
theorem d10_35 : decode cD6 35 = .ok (.putfield 15, 3) := by decide +kernel
def Qeng20 (Z : State) (o0 vb : Addr) (kb : ClassId) (x0 x1 x2 x3 x4 x5 x6 : Int32) (h0 : Heap) (n0 : Nat) : QT := fun v h L => ∃ (b : Addr), ∃ (k2 : ClassId), (v = none) ∧ (Fr n0 L) ∧ (Keep h0 h [o0]) ∧ (h0.size ≤ b) ∧ (n0 ≤ b) ∧ (eBQ Z h o0) ∧ (fDQ Z h o0 (.ref b)) ∧ (fCQ Z h o0 (.int 0)) ∧ (fEQ Z h o0 (.int 7)) ∧ (eCQ Z h b) ∧ (Arv Z h b k2 .byte 34 [.int x0, .int x1, .int x2, .int x3, .int x4, .int x5, .int x6, .int 0, .int 0, .int 0, .int 0, .int 0, .int 0, .int 0, .int 0, .int 0, .int 0, .int 0, .int 0, .int 0, .int 0, .int 0, .int 0, .int 0, .int 0, .int 0, .int 0, .int 0, .int 0, .int 0, .int 0, .int 0, .int 0, .int 0] (.int 0))
theorem rmeng20 (l : Launch) (Z : State) (a0 : Array Value) (hw : TW a0 Z) (ws : List Jvm.Cond) (o0 vb : Addr) (kb : ClassId) (x0 x1 x2 x3 x4 x5 x6 : Int32) (h0 : Heap) (n0 : Nat) (Z0 : n0 ≤ h0.size) (wo : eBQ Z h0 o0) (we : fDQ Z h0 o0 (.ref vb)) (wd : fCQ Z h0 o0 (.int 0)) (wh : fEQ Z h0 o0 (.int 7)) (wV : n0 ≤ o0) (wN : Arv Z h0 vb kb .byte 16 [.int x0, .int x1, .int x2, .int x3, .int x4, .int x5, .int x6, .int 0, .int 0, .int 0, .int 0, .int 0, .int 0, .int 0, .int 0, .int 0] (.int 0)) (wL : o0 ≠ vb) :
  MF l mN0 jdk_68_method_9_code 3 none ws (rmm 3 1 34 48) #[.ref o0, .int 20] Z h0 (Qeng20 Z o0 vb kb x0 x1 x2 x3 x4 x5 x6 h0 n0) := by
 refine MF.of (plainFor_of_name pn_4) ?_
 intro p e s m below meth c s₁ QQ hy hml hown hZ X0 e0 hrt hlk hnm hQQ
 have hx := hy.1
 have hby := hy.2
 have N0 := Fr.nil n0
 refine Ends.i #[rv o0, iv 20, uu] (oA X0 hy d10_0 1 rfl (gF X0 hy hown hZ hw e0 we d10_1 4 34 rfl fun T362 X362 e362 => aLn X362 hy hZ e362 wN d10_4 5 (oA X362 hy d10_5 6 rfl (gF X362 hy hown hZ hw e362 wd d10_6 9 36 rfl fun T364 X364 e364 => oP X364 hy d10_9 10 ?_))))
 show Ends p e below QQ (T364.setTop (mkF m 10 #[rv o0, iv 20, uu] [.int 16]))
 refine oxp X364 hy d10_10 11 #[rv o0, iv 20, iv 16] rfl (oC X364 hy d10_11 12 rfl (oC X364 hy d10_12 13 rfl (oL X364 hy d10_13 14 ?_)))
 show Ends p e below QQ (T364.setTop (mkF m 14 #[rv o0, iv 20, iv 16] [.int 4]))
 refine oxh X364 hy d10_14 17 (XT.i0_le_f (by decide)) (oA X364 hy d10_17 18 rfl (oA X364 hy d10_18 19 rfl (gF X364 hy hown hZ hw e364 we d10_19 22 34 rfl fun T365 X365 e365 => oA X365 hy d10_22 23 rfl (oC X365 hy d10_23 24 rfl ?_))))
 refine cP X365 hy hml hown hZ hw d10_24 27 2 95 96 72 97 99 28 rfl rfl rfl rfl rfl rfl rfl (rmnc20 l Z a0 hw [] o0 vb kb [.int x0, .int x1, .int x2, .int x3, .int x4, .int x5, .int x6, .int 0, .int 0, .int 0, .int 0, .int 0, .int 0, .int 0, .int 0, .int 0] h0 n0 Z0 we wd wN) e365 pd_13 wo rfl rfl fun _ T366 Lc366 X366 hQ366 => ?_
 obtain ⟨rfl, Nq366, hh366⟩ := hQ366
 have N366 := Fr.app N0 Nq366
 refine Ends.v (oA X366 hy d10_27 28 rfl (gF X366 hy hown hZ hw hh366 wd d10_28 31 36 rfl fun T367 X367 e367 => oO X367 hy d10_31 32 ?_))
 show Ends p e below QQ (T367.setTop (mkF m 32 #[rv o0, iv 20, iv 16] [.int 34, .ref vb, .ref o0]))
 refine cS X367 hy hml hown hZ hw d10_32 35 1 110 111 112 113 rfl rfl rfl rfl (rmcpo20 l Z a0 hw [] vb kb x0 x1 x2 x3 x4 x5 x6 h0 n0 Z0 wN) e367 pd_14 rfl rfl fun _ T368 Lc368 X368 hQ368 => ?_
 obtain ⟨b_368, k2_368, rfl, Nq368, Kq368, fq368_0, WU, jG, jL⟩ := hQ368
 have N368 := Fr.app N366 Nq368
 have zi : o0 ≠ b_368 := Nat.ne_of_lt (Nat.lt_of_lt_of_le wo.lt fq368_0)
 have Wm := Nat.le_trans (Keep.refl h0 [o0]).1 fq368_0
 have wo := wo.keep Kq368
 have we := we.keep Kq368 nin0
 have wd := wd.keep Kq368 nin0
 have wh := wh.keep Kq368 nin0
 have K368 := (Keep.refl h0 [o0]).trans Kq368 all0
 refine Ends.v ?_
 obtain ⟨T369, h369, X369, e369, W369, st369⟩ := putF X368 hx hZ hown (host := "") (Or.inl (tb hw 34 rfl)) Via.refl rfl we wo (Or.inl (tb hw 35 rfl)) (tb hw 19 rfl) (ty := (.array .byte)) (by decide) rfl rfl (g := (mkF m 35 #[rv o0, iv 20, iv 16] [.ref b_368, .ref o0])) rfl rfl (hb hby d10_35)
 have wo := wo.wr W369
 have wd := wd.other W369 (Or.inr (slot_ne (Or.inl (tb hw 37 rfl)) (Or.inl (tb hw 35 rfl)) (by decide) (t := .byte) (t' := (.array .byte)) (by decide) (by decide)))
 have wh := wh.other W369 (Or.inr (slot_ne (Or.inl (tb hw 68 rfl)) (Or.inl (tb hw 35 rfl)) (by decide) (t := .int) (t' := (.array .byte)) (by decide) (by decide)))
 have jG := jG.wr W369
 have jL := jL.other W369 (Ne.symm zi)
 have we : fDQ Z h369 o0 (.ref b_368) := we.same W369
 have K369 := K368.wr W369 (Or.inl mm0)
 have N369 := Fr.snoc X369 N368 wV
 refine Ends.j 38 [] st369 ?_
 exact fV X369 hy hrt hlk hQQ d10_38 e369 (by decide) ⟨b_368, k2_368, rfl, N369, K369, Wm, WU, wo, we, wd, wh, jG, jL⟩
def QgbB (Z : State) (o0 o1 : Addr) (kb : ClassId) (tt : Addr) (kt : ClassId) (cs x0 x1 x2 x3 x4 x5 x6 y0 y1 y2 y3 y4 y5 y6 y7 y8 y9 y10 y11 y12 : Int32) (h0 : Heap) (n0 : Nat) : QT := fun v h L => (v = none) ∧ (Fr n0 L) ∧ (Keep h0 h [o1]) ∧ (Arv Z h o1 kb .byte 34 [.int x0, .int x1, .int x2, .int x3, .int x4, .int x5, .int x6, .int y0, .int y1, .int y2, .int y3, .int y4, .int y5, .int y6, .int y7, .int y8, .int y9, .int y10, .int y11, .int y12, .int 0, .int 0, .int 0, .int 0, .int 0, .int 0, .int 0, .int 0, .int 0, .int 0, .int 0, .int 0, .int 0, .int 0] (.int 0))
theorem rmgbB (l : Launch) (Z : State) (a0 : Array Value) (hw : TW a0 Z) (ws : List Jvm.Cond) (o0 o1 : Addr) (kb : ClassId) (tt : Addr) (kt : ClassId) (cs x0 x1 x2 x3 x4 x5 x6 y0 y1 y2 y3 y4 y5 y6 y7 y8 y9 y10 y11 y12 : Int32) (h0 : Heap) (n0 : Nat) (Z0 : n0 ≤ h0.size) (wo : eAQ Z h0 o0) (we : fBQ Z h0 o0 (.ref tt)) (wd : fAQ Z h0 o0 (.int 0)) (vo : Arv Z h0 tt kt .byte 13 [.int y0, .int y1, .int y2, .int y3, .int y4, .int y5, .int y6, .int y7, .int y8, .int y9, .int y10, .int y11, .int y12] (.int 0)) (ke : Arv Z h0 o1 kb .byte 34 [.int x0, .int x1, .int x2, .int x3, .int x4, .int x5, .int x6, .int 0, .int 0, .int 0, .int 0, .int 0, .int 0, .int 0, .int 0, .int 0, .int 0, .int 0, .int 0, .int 0, .int 0, .int 0, .int 0, .int 0, .int 0, .int 0, .int 0, .int 0, .int 0, .int 0, .int 0, .int 0, .int 0, .int 0] (.int 0)) (jd : n0 ≤ o1) (kZ : o1 ≠ tt) (ja : o1 ≠ o0) (wa : sJQ Z h0 (.int cs)) (hcs : ¬ cs = (0 : Int32)) :
  MF l mN2 jdk_42_method_147_code 4 none ws (rmm 1 0 0 24) #[.ref o0, .ref o1, .int 7, .int 0] Z h0 (QgbB Z o0 o1 kb tt kt cs x0 x1 x2 x3 x4 x5 x6 y0 y1 y2 y3 y4 y5 y6 y7 y8 y9 y10 y11 y12 h0 n0) := by
 refine MF.of (plainFor_of_name pn_1) ?_
 intro p e s m below meth c s₁ QQ hy hml hown hZ X0 e0 hrt hlk hnm hQQ
 have hx := hy.1
 have hby := hy.2
 have N0 := Fr.nil n0
 refine Ends.i #[rv o0, rv o1, iv 7, iv 0] (oA X0 hy d13_0 1 rfl ?_)
 refine cV X0 hy hml hown hZ hw d13_1 4 0 60 61 63 62 64 32 rfl rfl rfl rfl rfl rfl (rmcod l Z a0 hw [] o0 cs h0 n0 Z0 wa hcs wd) e0 pd_0 wo rfl rfl fun _ T370 Lc370 X370 hQ370 => ?_
 obtain ⟨rfl, Nq370, hh370⟩ := hQ370
 have N370 := Fr.app N0 Nq370
 refine Ends.v (oC X370 hy d13_4 5 rfl (oxi X370 hy d13_5 8 (XT.ii_ne_f (by decide)) (oA X370 hy d13_8 9 rfl (gF X370 hy hown hZ hw hh370 we d13_9 12 59 rfl fun T371 X371 e371 => oG X371 hy d13_12 13 0 rfl (oA X371 hy d13_13 14 rfl (oC X371 hy d13_14 15 rfl (oC X371 hy d13_15 16 rfl (oO X371 hy d13_16 17 ?_))))))))
 show Ends p e below QQ (T371.setTop (mkF m 17 #[rv o0, rv o1, iv 7, iv 0] [.int 7, .ref o1, .int 0, .ref tt]))
 refine oA X371 hy d13_17 18 rfl (gF X371 hy hown hZ hw e371 we d13_18 21 59 rfl fun T372 X372 e372 => aLn X372 hy hZ e372 vo d13_21 22 ?_)
 obtain ⟨T374, h374, L374, X374, e374, N374, Kq374, AA374, st374⟩ := cpA X372 hx hZ hown (tb hw 90 rfl) (tb hw 93 rfl) (tb hw 91 rfl) (tb hw 92 rfl) e372 vo ke (Or.inl ⟨rfl, rfl⟩) (by decide) (by decide) (by decide) (by decide) (by decide) (us := [.int y0, .int y1, .int y2, .int y3, .int y4, .int y5, .int y6, .int y7, .int y8, .int y9, .int y10, .int y11, .int y12]) (by rfl) (Nat.le_of_ble_eq_true rfl) N370 jd (g := (mkF m 22 #[rv o0, rv o1, iv 7, iv 0] [.int 13, .int 7, .ref o1, .int 0, .ref tt])) rfl (by rw [hml]; rfl) rfl (hb hby d13_22) (by decide) (W := 0) (by show 2 * 0 + _ ≤ _; exact Nat.le_of_eq rfl) (by decide)
 have ke : Arv Z h374 o1 kb .byte 34 [.int x0, .int x1, .int x2, .int x3, .int x4, .int x5, .int x6, .int y0, .int y1, .int y2, .int y3, .int y4, .int y5, .int y6, .int y7, .int y8, .int y9, .int y10, .int y11, .int y12, .int 0, .int 0, .int 0, .int 0, .int 0, .int 0, .int 0, .int 0, .int 0, .int 0, .int 0, .int 0, .int 0, .int 0] (.int 0) := AA374
 have K374 := (Keep.refl h0 [o1]).trans Kq374 (allS (Or.inl mm0) all0)
 refine Ends.j 25 [] st374 ?_
 refine oxm X374 hy d13_25 43 ?_
 exact fV X374 hy hrt hlk hQQ d13_43 e374 (by decide) ⟨rfl, N374, K374, ke⟩
def QpsB (Z : State) (o0 o2 vb : Addr) (kb : ClassId) (tt : Addr) (kt : ClassId) (cs x0 x1 x2 x3 x4 x5 x6 y0 y1 y2 y3 y4 y5 y6 y7 y8 y9 y10 y11 y12 : Int32) (h0 : Heap) (n0 : Nat) : QT := fun v h L => (v = none) ∧ (Fr n0 L) ∧ (Keep h0 h [vb]) ∧ (Arv Z h vb kb .byte 34 [.int x0, .int x1, .int x2, .int x3, .int x4, .int x5, .int x6, .int y0, .int y1, .int y2, .int y3, .int y4, .int y5, .int y6, .int y7, .int y8, .int y9, .int y10, .int y11, .int y12, .int 0, .int 0, .int 0, .int 0, .int 0, .int 0, .int 0, .int 0, .int 0, .int 0, .int 0, .int 0, .int 0, .int 0] (.int 0))
theorem rmpsB (l : Launch) (Z : State) (a0 : Array Value) (hw : TW a0 Z) (ws : List Jvm.Cond) (o0 o2 vb : Addr) (kb : ClassId) (tt : Addr) (kt : ClassId) (cs x0 x1 x2 x3 x4 x5 x6 y0 y1 y2 y3 y4 y5 y6 y7 y8 y9 y10 y11 y12 : Int32) (h0 : Heap) (n0 : Nat) (Z0 : n0 ≤ h0.size) (wo : eBQ Z h0 o0) (we : fDQ Z h0 o0 (.ref vb)) (wd : fCQ Z h0 o0 (.int 0)) (wh : fEQ Z h0 o0 (.int 7)) (wU : eCQ Z h0 vb) (wN : Arv Z h0 vb kb .byte 34 [.int x0, .int x1, .int x2, .int x3, .int x4, .int x5, .int x6, .int 0, .int 0, .int 0, .int 0, .int 0, .int 0, .int 0, .int 0, .int 0, .int 0, .int 0, .int 0, .int 0, .int 0, .int 0, .int 0, .int 0, .int 0, .int 0, .int 0, .int 0, .int 0, .int 0, .int 0, .int 0, .int 0, .int 0] (.int 0)) (wV : n0 ≤ o0) (vr : n0 ≤ vb) (wL : o0 ≠ vb) (ka : eAQ Z h0 o2) (vM : fBQ Z h0 o2 (.ref tt)) (vD : fAQ Z h0 o2 (.int 0)) (vo : Arv Z h0 tt kt .byte 13 [.int y0, .int y1, .int y2, .int y3, .int y4, .int y5, .int y6, .int y7, .int y8, .int y9, .int y10, .int y11, .int y12] (.int 0)) (vp : vb ≠ tt) (vX : vb ≠ o2) (wa : sJQ Z h0 (.int cs)) (hcs : ¬ cs = (0 : Int32)) :
  MF l mN3 jdk_68_method_73_code 3 none ws (rmm 2 0 0 39) #[.ref o0, .int 7, .ref o2] Z h0 (QpsB Z o0 o2 vb kb tt kt cs x0 x1 x2 x3 x4 x5 x6 y0 y1 y2 y3 y4 y5 y6 y7 y8 y9 y10 y11 y12 h0 n0) := by
 refine MF.of (plainFor_of_name pn_4) ?_
 intro p e s m below meth c s₁ QQ hy hml hown hZ X0 e0 hrt hlk hnm hQQ
 have N0 := Fr.nil n0
 refine Ends.i #[rv o0, iv 7, rv o2] (oA X0 hy d11_0 1 rfl (oA X0 hy d11_1 2 rfl ?_))
 refine cP X0 hy hml hown hZ hw d11_2 5 0 79 80 72 81 83 28 rfl rfl rfl rfl rfl rfl rfl (rminf l Z a0 hw [] o0 o2 cs h0 n0 Z0 wa hcs wd ka vD) e0 pd_6 wo rfl rfl fun _ T375 Lc375 X375 hQ375 => ?_
 obtain ⟨rfl, Nq375, hh375⟩ := hQ375
 have N375 := Fr.app N0 Nq375
 refine Ends.u (oA X375 hy d11_5 6 rfl (oA X375 hy d11_6 7 rfl (gF X375 hy hown hZ hw hh375 we d11_7 10 34 rfl fun T376 X376 e376 => oC X376 hy d11_10 11 rfl (oA X376 hy d11_11 12 rfl (gF X376 hy hown hZ hw e376 wd d11_12 15 36 rfl fun T377 X377 e377 => ?_)))))
 refine cV X377 hy hml hown hZ hw d11_15 18 0 85 86 88 87 89 32 rfl rfl rfl rfl rfl rfl (rmgbB l Z a0 hw [] o2 vb kb tt kt cs x0 x1 x2 x3 x4 x5 x6 y0 y1 y2 y3 y4 y5 y6 y7 y8 y9 y10 y11 y12 h0 n0 Z0 ka vM vD vo wN vr vp vX wa hcs) e377 pd_7 ka rfl rfl fun _ T378 Lc378 X378 hQ378 => ?_
 obtain ⟨rfl, Nq378, Kq378, wN⟩ := hQ378
 have N378 := Fr.app N375 Nq378
 have K378 := (Keep.refl h0 [vb]).trans Kq378 (allS (Or.inl mm0) all0)
 refine Ends.u ?_
 exact fV X378 hy hrt hlk hQQ d11_18 rfl (by decide) ⟨rfl, N378, K378, wN⟩
def QapsB (Z : State) (o0 o1 vb : Addr) (kb : ClassId) (tt : Addr) (kt : ClassId) (cs x0 x1 x2 x3 x4 x5 x6 y0 y1 y2 y3 y4 y5 y6 y7 y8 y9 y10 y11 y12 : Int32) (h0 : Heap) (n0 : Nat) : QT := fun v h L => ∃ (b : Addr), ∃ (k2 : ClassId), (v = some (.ref o0)) ∧ (Fr n0 L) ∧ (Keep h0 h [o0]) ∧ (eBQ Z h o0) ∧ (fDQ Z h o0 (.ref b)) ∧ (fCQ Z h o0 (.int 0)) ∧ (fEQ Z h o0 (.int 20)) ∧ (Arv Z h b k2 .byte 34 [.int x0, .int x1, .int x2, .int x3, .int x4, .int x5, .int x6, .int y0, .int y1, .int y2, .int y3, .int y4, .int y5, .int y6, .int y7, .int y8, .int y9, .int y10, .int y11, .int y12, .int 0, .int 0, .int 0, .int 0, .int 0, .int 0, .int 0, .int 0, .int 0, .int 0, .int 0, .int 0, .int 0, .int 0] (.int 0)) ∧ (eCQ Z h b) ∧ (h0.size ≤ b) ∧ (n0 ≤ b)
theorem rmapsB (l : Launch) (Z : State) (a0 : Array Value) (hw : TW a0 Z) (ws : List Jvm.Cond) (o0 o1 vb : Addr) (kb : ClassId) (tt : Addr) (kt : ClassId) (cs x0 x1 x2 x3 x4 x5 x6 y0 y1 y2 y3 y4 y5 y6 y7 y8 y9 y10 y11 y12 : Int32) (h0 : Heap) (n0 : Nat) (Z0 : n0 ≤ h0.size) (wo : eBQ Z h0 o0) (we : fDQ Z h0 o0 (.ref vb)) (wd : fCQ Z h0 o0 (.int 0)) (wh : fEQ Z h0 o0 (.int 7)) (wU : eCQ Z h0 vb) (wN : Arv Z h0 vb kb .byte 16 [.int x0, .int x1, .int x2, .int x3, .int x4, .int x5, .int x6, .int 0, .int 0, .int 0, .int 0, .int 0, .int 0, .int 0, .int 0, .int 0] (.int 0)) (wV : n0 ≤ o0) (vr : n0 ≤ vb) (wL : o0 ≠ vb) (vl : eAQ Z h0 o1) (wR : fBQ Z h0 o1 (.ref tt)) (wQ : fAQ Z h0 o1 (.int 0)) (vo : Arv Z h0 tt kt .byte 13 [.int y0, .int y1, .int y2, .int y3, .int y4, .int y5, .int y6, .int y7, .int y8, .int y9, .int y10, .int y11, .int y12] (.int 0)) (vp : vb ≠ tt) (vF : o0 ≠ tt) (vq : o0 ≠ o1) (vE : vb ≠ o1) (wa : sJQ Z h0 (.int cs)) (hcs : ¬ cs = (0 : Int32)) :
  MF l mN4 jdk_68_method_22_code 3 (some (.object "java/lang/AbstractStringBuilder")) ws (rmm 4 1 34 62) #[.ref o0, .ref o1] Z h0 (QapsB Z o0 o1 vb kb tt kt cs x0 x1 x2 x3 x4 x5 x6 y0 y1 y2 y3 y4 y5 y6 y7 y8 y9 y10 y11 y12 h0 n0) := by
 refine MF.of (plainFor_of_name pn_4) ?_
 intro p e s m below meth c s₁ QQ hy hml hown hZ X0 e0 hrt hlk hnm hQQ
 have hx := hy.1
 have hby := hy.2
 have N0 := Fr.nil n0
 refine Ends.i #[rv o0, rv o1, uu] (oA X0 hy d7_0 1 rfl (oxn X0 hy d7_1 9 (oA X0 hy d7_9 10 rfl ?_)))
 refine cV X0 hy hml hown hZ hw d7_10 13 0 54 55 57 56 58 32 rfl rfl rfl rfl rfl rfl (rmlen l Z a0 hw [] o1 tt kt (13 : Int32) [.int y0, .int y1, .int y2, .int y3, .int y4, .int y5, .int y6, .int y7, .int y8, .int y9, .int y10, .int y11, .int y12] cs h0 n0 Z0 vl wR vo wa hcs wQ) e0 pd_8 vl rfl rfl fun _ T379 Lc379 X379 hQ379 => ?_
 obtain ⟨rfl, Nq379, hh379⟩ := hQ379
 have N379 := Fr.app N0 Nq379
 refine Ends.v (oxp X379 hy d7_13 14 #[rv o0, rv o1, iv 13] rfl (oA X379 hy d7_14 15 rfl (oA X379 hy d7_15 16 rfl (gF X379 hy hown hZ hw hh379 wh d7_16 19 67 rfl fun T380 X380 e380 => oC X380 hy d7_19 20 rfl (oK X380 hy d7_20 21 ?_)))))
 show Ends p e below QQ (T380.setTop (mkF m 21 #[rv o0, rv o1, iv 13] [.int 20, .ref o0]))
 refine cP X380 hy hml hown hZ hw d7_21 24 0 69 70 72 71 73 28 rfl rfl rfl rfl rfl rfl rfl (rmeng20 l Z a0 hw [] o0 vb kb x0 x1 x2 x3 x4 x5 x6 h0 n0 Z0 wo we wd wh wV wN wL) e380 pd_5 wo rfl rfl fun _ T381 Lc381 X381 hQ381 => ?_
 obtain ⟨b_381, k2_381, rfl, Nq381, Kq381, fq381_0, zu, fq381_2, we, wd, wh, ky, kO⟩ := hQ381
 have N381 := Fr.app N379 Nq381
 have vU : o0 ≠ b_381 := Nat.ne_of_lt (Nat.lt_of_lt_of_le wo.lt fq381_0)
 have zd : o1 ≠ b_381 := Nat.ne_of_lt (Nat.lt_of_lt_of_le vl.lt fq381_0)
 have zb : tt ≠ b_381 := Nat.ne_of_lt (Nat.lt_of_lt_of_le vo.lt fq381_0)
 have uj := Nat.le_trans (Keep.refl h0 [o0]).1 fq381_0
 have wa := own_sta_keep wa Kq381 (allS wo.cell all0)
 have vl := vl.keep Kq381
 have wR := wR.keep Kq381 (ninS (Ne.symm vq) nin0)
 have wQ := wQ.keep Kq381 (ninS (Ne.symm vq) nin0)
 have vo := vo.keep Kq381 (ninS (Ne.symm vF) nin0)
 have wo := fq381_2
 have K381 := (Keep.refl h0 [o0]).trans Kq381 (allS (Or.inl mm0) all0)
 refine Ends.u (oA X381 hy d7_24 25 rfl (oA X381 hy d7_25 26 rfl (gF X381 hy hown hZ hw rfl wh d7_26 29 67 rfl fun T382 X382 e382 => oA X382 hy d7_29 30 rfl ?_)))
 refine cP X382 hy hml hown hZ hw d7_30 33 0 74 75 72 76 78 28 rfl rfl rfl rfl rfl rfl rfl (rmpsB l Z a0 hw [] o0 o1 b_381 k2_381 tt kt cs x0 x1 x2 x3 x4 x5 x6 y0 y1 y2 y3 y4 y5 y6 y7 y8 y9 y10 y11 y12 T381.heap n0 (Nat.le_trans Z0 K381.1) wo we wd wh ky kO wV zu vU vl wR wQ vo (Ne.symm zb) (Ne.symm zd) wa hcs) e382 pd_9 wo rfl rfl fun _ T383 Lc383 X383 hQ383 => ?_
 obtain ⟨rfl, Nq383, Kq383, kO⟩ := hQ383
 have N383 := Fr.app N381 Nq383
 have wo := wo.keep Kq383
 have we := we.keep Kq383 (ninS vU nin0)
 have wd := wd.keep Kq383 (ninS vU nin0)
 have wh := wh.keep Kq383 (ninS vU nin0)
 have ky := ky.keep Kq383
 have K383 := K381.trans Kq383 (allS (Or.inr uj) all0)
 refine Ends.u (oA X383 hy d7_33 34 rfl (oxd X383 hy d7_34 35 rfl (gF X383 hy hown hZ hw rfl wh d7_35 38 67 rfl fun T384 X384 e384 => oC X384 hy d7_38 39 rfl (oK X384 hy d7_39 40 ?_))))
 show Ends p e below QQ (T384.setTop (mkF m 40 #[rv o0, rv o1, iv 13] [.int 20, .ref o0]))
 obtain ⟨T385, h385, X385, e385, W385, st385⟩ := putF X384 hx hZ hown (host := "") (Or.inl (tb hw 67 rfl)) Via.refl e384 wh wo (Or.inl (tb hw 68 rfl)) (tb hw 19 rfl) (ty := .int) (by decide) rfl rfl (g := (mkF m 40 #[rv o0, rv o1, iv 13] [.int 20, .ref o0])) rfl rfl (hb hby d7_40)
 have wo := wo.wr W385
 have we := we.other W385 (Or.inr (slot_ne (Or.inl (tb hw 35 rfl)) (Or.inl (tb hw 68 rfl)) (by decide) (t := (.array .byte)) (t' := .int) (by decide) (by decide)))
 have wd := wd.other W385 (Or.inr (slot_ne (Or.inl (tb hw 37 rfl)) (Or.inl (tb hw 68 rfl)) (by decide) (t := .byte) (t' := .int) (by decide) (by decide)))
 have ky := ky.wr W385
 have kO := kO.other W385 (Ne.symm vU)
 have wh : fEQ Z h385 o0 (.int 20) := wh.same W385
 have K385 := K383.wr W385 (Or.inl mm0)
 have N385 := Fr.snoc X385 N383 wV
 refine Ends.j 43 [] st385 ?_
 refine oA X385 hy d7_43 44 rfl ?_
 exact fA X385 hy hrt hlk hQQ d7_44 rfl rfl e385 (by decide) ⟨b_381, k2_381, rfl, N385, K385, wo, we, wd, wh, kO, ky, uj, zu⟩
def QspsB (Z : State) (o0 o1 vb : Addr) (kb : ClassId) (tt : Addr) (kt : ClassId) (cs x0 x1 x2 x3 x4 x5 x6 y0 y1 y2 y3 y4 y5 y6 y7 y8 y9 y10 y11 y12 : Int32) (h0 : Heap) (n0 : Nat) : QT := fun v h L => ∃ (b : Addr), ∃ (k2 : ClassId), (v = some (.ref o0)) ∧ (Fr n0 L) ∧ (Keep h0 h [o0]) ∧ (eBQ Z h o0) ∧ (fDQ Z h o0 (.ref b)) ∧ (fCQ Z h o0 (.int 0)) ∧ (fEQ Z h o0 (.int 20)) ∧ (Arv Z h b k2 .byte 34 [.int x0, .int x1, .int x2, .int x3, .int x4, .int x5, .int x6, .int y0, .int y1, .int y2, .int y3, .int y4, .int y5, .int y6, .int y7, .int y8, .int y9, .int y10, .int y11, .int y12, .int 0, .int 0, .int 0, .int 0, .int 0, .int 0, .int 0, .int 0, .int 0, .int 0, .int 0, .int 0, .int 0, .int 0] (.int 0)) ∧ (eCQ Z h b) ∧ (h0.size ≤ b) ∧ (n0 ≤ b)
theorem rmspsB (l : Launch) (Z : State) (a0 : Array Value) (hw : TW a0 Z) (ws : List Jvm.Cond) (o0 o1 vb : Addr) (kb : ClassId) (tt : Addr) (kt : ClassId) (cs x0 x1 x2 x3 x4 x5 x6 y0 y1 y2 y3 y4 y5 y6 y7 y8 y9 y10 y11 y12 : Int32) (h0 : Heap) (n0 : Nat) (Z0 : n0 ≤ h0.size) (wo : eBQ Z h0 o0) (we : fDQ Z h0 o0 (.ref vb)) (wd : fCQ Z h0 o0 (.int 0)) (wh : fEQ Z h0 o0 (.int 7)) (wU : eCQ Z h0 vb) (wN : Arv Z h0 vb kb .byte 16 [.int x0, .int x1, .int x2, .int x3, .int x4, .int x5, .int x6, .int 0, .int 0, .int 0, .int 0, .int 0, .int 0, .int 0, .int 0, .int 0] (.int 0)) (wV : n0 ≤ o0) (vr : n0 ≤ vb) (wL : o0 ≠ vb) (vl : eAQ Z h0 o1) (wR : fBQ Z h0 o1 (.ref tt)) (wQ : fAQ Z h0 o1 (.int 0)) (vo : Arv Z h0 tt kt .byte 13 [.int y0, .int y1, .int y2, .int y3, .int y4, .int y5, .int y6, .int y7, .int y8, .int y9, .int y10, .int y11, .int y12] (.int 0)) (vp : vb ≠ tt) (vF : o0 ≠ tt) (vq : o0 ≠ o1) (vE : vb ≠ o1) (wa : sJQ Z h0 (.int cs)) (hcs : ¬ cs = (0 : Int32)) :
  MF l mN5 jdk_67_method_7_code 2 (some (.object "java/lang/StringBuilder")) ws (rmm 5 1 34 76) #[.ref o0, .ref o1] Z h0 (QspsB Z o0 o1 vb kb tt kt cs x0 x1 x2 x3 x4 x5 x6 y0 y1 y2 y3 y4 y5 y6 y7 y8 y9 y10 y11 y12 h0 n0) := by
 refine MF.of (plainFor_of_name pn_5) ?_
 intro p e s m below meth c s₁ QQ hy hml hown hZ X0 e0 hrt hlk hnm hQQ
 have N0 := Fr.nil n0
 refine Ends.i #[rv o0, rv o1] (oA X0 hy d6_0 1 rfl (oA X0 hy d6_1 2 rfl ?_))
 refine cU X0 hy hml hown hZ hw d6_2 5 0 49 50 72 51 53 28 rfl rfl rfl rfl rfl rfl rfl (rmapsB l Z a0 hw [] o0 o1 vb kb tt kt cs x0 x1 x2 x3 x4 x5 x6 y0 y1 y2 y3 y4 y5 y6 y7 y8 y9 y10 y11 y12 h0 n0 Z0 wo we wd wh wU wN wV vr wL vl wR wQ vo vp vF vq vE wa hcs) e0 pd_10 wo rfl rfl fun _ T386 Lc386 X386 hQ386 => ?_
 obtain ⟨b_386, k2_386, rfl, Nq386, Kq386, wo, we, wd, wh, VJ, Vs, fq386_6, WT⟩ := hQ386
 have N386 := Fr.app N0 Nq386
 have Wl := Nat.le_trans (Keep.refl h0 [o0]).1 fq386_6
 have K386 := (Keep.refl h0 [o0]).trans Kq386 (allS (Or.inl mm0) all0)
 refine Ends.v (oxe X386 hy d6_5 6 rfl (oA X386 hy d6_6 7 rfl ?_))
 exact fA X386 hy hrt hlk hQQ d6_7 rfl rfl rfl (by decide) ⟨b_386, k2_386, rfl, N386, K386, wo, we, wd, wh, VJ, Vs, Wl, WT⟩
def Qens11_16 (Z : State) (o0 vb : Addr) (kb : ClassId) (vs : List Value) (h0 : Heap) (n0 : Nat) : QT := fun v h L => (v = none) ∧ (Fr n0 L) ∧ (h = h0)
theorem rmens11_16 (l : Launch) (Z : State) (a0 : Array Value) (hw : TW a0 Z) (ws : List Jvm.Cond) (o0 vb : Addr) (kb : ClassId) (vs : List Value) (h0 : Heap) (n0 : Nat) (Z0 : n0 ≤ h0.size) (we : fDQ Z h0 o0 (.ref vb)) (wd : fCQ Z h0 o0 (.int 0)) (wN : Arv Z h0 vb kb .byte 16 vs (.int 0)) :
  MF l mN0 jdk_68_method_9_code 3 none ws (rmm 0 0 0 0) #[.ref o0, .int 11] Z h0 (Qens11_16 Z o0 vb kb vs h0 n0) := by
 refine MF.of (plainFor_of_name pn_4) ?_
 intro p e s m below meth c s₁ QQ hy hml hown hZ X0 e0 hrt hlk hnm hQQ
 have N0 := Fr.nil n0
 refine Ends.i #[rv o0, iv 11, uu] (oA X0 hy d10_0 1 rfl (gF X0 hy hown hZ hw e0 we d10_1 4 34 rfl fun T387 X387 e387 => aLn X387 hy hZ e387 wN d10_4 5 (oA X387 hy d10_5 6 rfl (gF X387 hy hown hZ hw e387 wd d10_6 9 36 rfl fun T389 X389 e389 => oP X389 hy d10_9 10 ?_))))
 show Ends p e below QQ (T389.setTop (mkF m 10 #[rv o0, iv 11, uu] [.int 16]))
 refine oxp X389 hy d10_10 11 #[rv o0, iv 11, iv 16] rfl (oC X389 hy d10_11 12 rfl (oC X389 hy d10_12 13 rfl (oL X389 hy d10_13 14 ?_)))
 show Ends p e below QQ (T389.setTop (mkF m 14 #[rv o0, iv 11, iv 16] [.int (-5)]))
 refine oxk X389 hy d10_14 38 (XT.i0_le_t (by decide)) ?_
 exact fV X389 hy hrt hlk hQQ d10_38 e389 (by decide) ⟨rfl, N0, rfl⟩
def QgbD (Z : State) (o0 o1 : Addr) (kb : ClassId) (tt : Addr) (kt : ClassId) (cs y0 y1 y2 y3 y4 y5 y6 y7 y8 y9 y10 : Int32) (h0 : Heap) (n0 : Nat) : QT := fun v h L => (v = none) ∧ (Fr n0 L) ∧ (Keep h0 h [o1]) ∧ (Arv Z h o1 kb .byte 16 [.int y0, .int y1, .int y2, .int y3, .int y4, .int y5, .int y6, .int y7, .int y8, .int y9, .int y10, .int 0, .int 0, .int 0, .int 0, .int 0] (.int 0))
theorem rmgbD (l : Launch) (Z : State) (a0 : Array Value) (hw : TW a0 Z) (ws : List Jvm.Cond) (o0 o1 : Addr) (kb : ClassId) (tt : Addr) (kt : ClassId) (cs y0 y1 y2 y3 y4 y5 y6 y7 y8 y9 y10 : Int32) (h0 : Heap) (n0 : Nat) (Z0 : n0 ≤ h0.size) (wo : eAQ Z h0 o0) (we : fBQ Z h0 o0 (.ref tt)) (wd : fAQ Z h0 o0 (.int 0)) (vo : Arv Z h0 tt kt .byte 11 [.int y0, .int y1, .int y2, .int y3, .int y4, .int y5, .int y6, .int y7, .int y8, .int y9, .int y10] (.int 0)) (ke : Arv Z h0 o1 kb .byte 16 [.int 0, .int 0, .int 0, .int 0, .int 0, .int 0, .int 0, .int 0, .int 0, .int 0, .int 0, .int 0, .int 0, .int 0, .int 0, .int 0] (.int 0)) (jd : n0 ≤ o1) (kZ : o1 ≠ tt) (ja : o1 ≠ o0) (wa : sJQ Z h0 (.int cs)) (hcs : ¬ cs = (0 : Int32)) :
  MF l mN2 jdk_42_method_147_code 4 none ws (rmm 1 0 0 24) #[.ref o0, .ref o1, .int 0, .int 0] Z h0 (QgbD Z o0 o1 kb tt kt cs y0 y1 y2 y3 y4 y5 y6 y7 y8 y9 y10 h0 n0) := by
 refine MF.of (plainFor_of_name pn_1) ?_
 intro p e s m below meth c s₁ QQ hy hml hown hZ X0 e0 hrt hlk hnm hQQ
 have hx := hy.1
 have hby := hy.2
 have N0 := Fr.nil n0
 refine Ends.i #[rv o0, rv o1, iv 0, iv 0] (oA X0 hy d13_0 1 rfl ?_)
 refine cV X0 hy hml hown hZ hw d13_1 4 0 60 61 63 62 64 32 rfl rfl rfl rfl rfl rfl (rmcod l Z a0 hw [] o0 cs h0 n0 Z0 wa hcs wd) e0 pd_0 wo rfl rfl fun _ T390 Lc390 X390 hQ390 => ?_
 obtain ⟨rfl, Nq390, hh390⟩ := hQ390
 have N390 := Fr.app N0 Nq390
 refine Ends.v (oC X390 hy d13_4 5 rfl (oxi X390 hy d13_5 8 (XT.ii_ne_f (by decide)) (oA X390 hy d13_8 9 rfl (gF X390 hy hown hZ hw hh390 we d13_9 12 59 rfl fun T391 X391 e391 => oG X391 hy d13_12 13 0 rfl (oA X391 hy d13_13 14 rfl (oC X391 hy d13_14 15 rfl (oC X391 hy d13_15 16 rfl (oO X391 hy d13_16 17 ?_))))))))
 show Ends p e below QQ (T391.setTop (mkF m 17 #[rv o0, rv o1, iv 0, iv 0] [.int 0, .ref o1, .int 0, .ref tt]))
 refine oA X391 hy d13_17 18 rfl (gF X391 hy hown hZ hw e391 we d13_18 21 59 rfl fun T392 X392 e392 => aLn X392 hy hZ e392 vo d13_21 22 ?_)
 obtain ⟨T394, h394, L394, X394, e394, N394, Kq394, AA394, st394⟩ := cpA X392 hx hZ hown (tb hw 90 rfl) (tb hw 93 rfl) (tb hw 91 rfl) (tb hw 92 rfl) e392 vo ke (Or.inl ⟨rfl, rfl⟩) (by decide) (by decide) (by decide) (by decide) (by decide) (us := [.int y0, .int y1, .int y2, .int y3, .int y4, .int y5, .int y6, .int y7, .int y8, .int y9, .int y10]) (by rfl) (Nat.le_of_ble_eq_true rfl) N390 jd (g := (mkF m 22 #[rv o0, rv o1, iv 0, iv 0] [.int 11, .int 0, .ref o1, .int 0, .ref tt])) rfl (by rw [hml]; rfl) rfl (hb hby d13_22) (by decide) (W := 0) (by show 2 * 0 + _ ≤ _; exact Nat.le_of_eq rfl) (by decide)
 have ke : Arv Z h394 o1 kb .byte 16 [.int y0, .int y1, .int y2, .int y3, .int y4, .int y5, .int y6, .int y7, .int y8, .int y9, .int y10, .int 0, .int 0, .int 0, .int 0, .int 0] (.int 0) := AA394
 have K394 := (Keep.refl h0 [o1]).trans Kq394 (allS (Or.inl mm0) all0)
 refine Ends.j 25 [] st394 ?_
 refine oxm X394 hy d13_25 43 ?_
 exact fV X394 hy hrt hlk hQQ d13_43 e394 (by decide) ⟨rfl, N394, K394, ke⟩
def QpsD (Z : State) (o0 o2 vb : Addr) (kb : ClassId) (tt : Addr) (kt : ClassId) (cs y0 y1 y2 y3 y4 y5 y6 y7 y8 y9 y10 : Int32) (h0 : Heap) (n0 : Nat) : QT := fun v h L => (v = none) ∧ (Fr n0 L) ∧ (Keep h0 h [vb]) ∧ (Arv Z h vb kb .byte 16 [.int y0, .int y1, .int y2, .int y3, .int y4, .int y5, .int y6, .int y7, .int y8, .int y9, .int y10, .int 0, .int 0, .int 0, .int 0, .int 0] (.int 0))
theorem rmpsD (l : Launch) (Z : State) (a0 : Array Value) (hw : TW a0 Z) (ws : List Jvm.Cond) (o0 o2 vb : Addr) (kb : ClassId) (tt : Addr) (kt : ClassId) (cs y0 y1 y2 y3 y4 y5 y6 y7 y8 y9 y10 : Int32) (h0 : Heap) (n0 : Nat) (Z0 : n0 ≤ h0.size) (wo : eBQ Z h0 o0) (we : fDQ Z h0 o0 (.ref vb)) (wd : fCQ Z h0 o0 (.int 0)) (wh : fEQ Z h0 o0 (.int 0)) (wU : eCQ Z h0 vb) (wN : Arv Z h0 vb kb .byte 16 [.int 0, .int 0, .int 0, .int 0, .int 0, .int 0, .int 0, .int 0, .int 0, .int 0, .int 0, .int 0, .int 0, .int 0, .int 0, .int 0] (.int 0)) (wV : n0 ≤ o0) (vr : n0 ≤ vb) (wL : o0 ≠ vb) (ka : eAQ Z h0 o2) (vM : fBQ Z h0 o2 (.ref tt)) (vD : fAQ Z h0 o2 (.int 0)) (vo : Arv Z h0 tt kt .byte 11 [.int y0, .int y1, .int y2, .int y3, .int y4, .int y5, .int y6, .int y7, .int y8, .int y9, .int y10] (.int 0)) (vp : vb ≠ tt) (vX : vb ≠ o2) (wa : sJQ Z h0 (.int cs)) (hcs : ¬ cs = (0 : Int32)) :
  MF l mN3 jdk_68_method_73_code 3 none ws (rmm 2 0 0 39) #[.ref o0, .int 0, .ref o2] Z h0 (QpsD Z o0 o2 vb kb tt kt cs y0 y1 y2 y3 y4 y5 y6 y7 y8 y9 y10 h0 n0) := by
 refine MF.of (plainFor_of_name pn_4) ?_
 intro p e s m below meth c s₁ QQ hy hml hown hZ X0 e0 hrt hlk hnm hQQ
 have N0 := Fr.nil n0
 refine Ends.i #[rv o0, iv 0, rv o2] (oA X0 hy d11_0 1 rfl (oA X0 hy d11_1 2 rfl ?_))
 refine cP X0 hy hml hown hZ hw d11_2 5 0 79 80 72 81 83 28 rfl rfl rfl rfl rfl rfl rfl (rminf l Z a0 hw [] o0 o2 cs h0 n0 Z0 wa hcs wd ka vD) e0 pd_6 wo rfl rfl fun _ T395 Lc395 X395 hQ395 => ?_
 obtain ⟨rfl, Nq395, hh395⟩ := hQ395
 have N395 := Fr.app N0 Nq395
 refine Ends.u (oA X395 hy d11_5 6 rfl (oA X395 hy d11_6 7 rfl (gF X395 hy hown hZ hw hh395 we d11_7 10 34 rfl fun T396 X396 e396 => oC X396 hy d11_10 11 rfl (oA X396 hy d11_11 12 rfl (gF X396 hy hown hZ hw e396 wd d11_12 15 36 rfl fun T397 X397 e397 => ?_)))))
 refine cV X397 hy hml hown hZ hw d11_15 18 0 85 86 88 87 89 32 rfl rfl rfl rfl rfl rfl (rmgbD l Z a0 hw [] o2 vb kb tt kt cs y0 y1 y2 y3 y4 y5 y6 y7 y8 y9 y10 h0 n0 Z0 ka vM vD vo wN vr vp vX wa hcs) e397 pd_7 ka rfl rfl fun _ T398 Lc398 X398 hQ398 => ?_
 obtain ⟨rfl, Nq398, Kq398, wN⟩ := hQ398
 have N398 := Fr.app N395 Nq398
 have K398 := (Keep.refl h0 [vb]).trans Kq398 (allS (Or.inl mm0) all0)
 refine Ends.u ?_
 exact fV X398 hy hrt hlk hQQ d11_18 rfl (by decide) ⟨rfl, N398, K398, wN⟩
def QapsD (Z : State) (o0 o1 vb : Addr) (kb : ClassId) (tt : Addr) (kt : ClassId) (cs y0 y1 y2 y3 y4 y5 y6 y7 y8 y9 y10 : Int32) (h0 : Heap) (n0 : Nat) : QT := fun v h L => (v = some (.ref o0)) ∧ (Fr n0 L) ∧ (Keep h0 h [o0, vb]) ∧ (eBQ Z h o0) ∧ (fDQ Z h o0 (.ref vb)) ∧ (fCQ Z h o0 (.int 0)) ∧ (fEQ Z h o0 (.int 11)) ∧ (Arv Z h vb kb .byte 16 [.int y0, .int y1, .int y2, .int y3, .int y4, .int y5, .int y6, .int y7, .int y8, .int y9, .int y10, .int 0, .int 0, .int 0, .int 0, .int 0] (.int 0)) ∧ (eCQ Z h vb)
theorem rmapsD (l : Launch) (Z : State) (a0 : Array Value) (hw : TW a0 Z) (ws : List Jvm.Cond) (o0 o1 vb : Addr) (kb : ClassId) (tt : Addr) (kt : ClassId) (cs y0 y1 y2 y3 y4 y5 y6 y7 y8 y9 y10 : Int32) (h0 : Heap) (n0 : Nat) (Z0 : n0 ≤ h0.size) (wo : eBQ Z h0 o0) (we : fDQ Z h0 o0 (.ref vb)) (wd : fCQ Z h0 o0 (.int 0)) (wh : fEQ Z h0 o0 (.int 0)) (wU : eCQ Z h0 vb) (wN : Arv Z h0 vb kb .byte 16 [.int 0, .int 0, .int 0, .int 0, .int 0, .int 0, .int 0, .int 0, .int 0, .int 0, .int 0, .int 0, .int 0, .int 0, .int 0, .int 0] (.int 0)) (wV : n0 ≤ o0) (vr : n0 ≤ vb) (wL : o0 ≠ vb) (vl : eAQ Z h0 o1) (wR : fBQ Z h0 o1 (.ref tt)) (wQ : fAQ Z h0 o1 (.int 0)) (vo : Arv Z h0 tt kt .byte 11 [.int y0, .int y1, .int y2, .int y3, .int y4, .int y5, .int y6, .int y7, .int y8, .int y9, .int y10] (.int 0)) (vp : vb ≠ tt) (vF : o0 ≠ tt) (vq : o0 ≠ o1) (vE : vb ≠ o1) (wa : sJQ Z h0 (.int cs)) (hcs : ¬ cs = (0 : Int32)) :
  MF l mN4 jdk_68_method_22_code 3 (some (.object "java/lang/AbstractStringBuilder")) ws (rmm 3 0 0 53) #[.ref o0, .ref o1] Z h0 (QapsD Z o0 o1 vb kb tt kt cs y0 y1 y2 y3 y4 y5 y6 y7 y8 y9 y10 h0 n0) := by
 refine MF.of (plainFor_of_name pn_4) ?_
 intro p e s m below meth c s₁ QQ hy hml hown hZ X0 e0 hrt hlk hnm hQQ
 have hx := hy.1
 have hby := hy.2
 have N0 := Fr.nil n0
 refine Ends.i #[rv o0, rv o1, uu] (oA X0 hy d7_0 1 rfl (oxn X0 hy d7_1 9 (oA X0 hy d7_9 10 rfl ?_)))
 refine cV X0 hy hml hown hZ hw d7_10 13 0 54 55 57 56 58 32 rfl rfl rfl rfl rfl rfl (rmlen l Z a0 hw [] o1 tt kt (11 : Int32) [.int y0, .int y1, .int y2, .int y3, .int y4, .int y5, .int y6, .int y7, .int y8, .int y9, .int y10] cs h0 n0 Z0 vl wR vo wa hcs wQ) e0 pd_8 vl rfl rfl fun _ T399 Lc399 X399 hQ399 => ?_
 obtain ⟨rfl, Nq399, hh399⟩ := hQ399
 have N399 := Fr.app N0 Nq399
 refine Ends.v (oxp X399 hy d7_13 14 #[rv o0, rv o1, iv 11] rfl (oA X399 hy d7_14 15 rfl (oA X399 hy d7_15 16 rfl (gF X399 hy hown hZ hw hh399 wh d7_16 19 67 rfl fun T400 X400 e400 => oC X400 hy d7_19 20 rfl (oK X400 hy d7_20 21 ?_)))))
 show Ends p e below QQ (T400.setTop (mkF m 21 #[rv o0, rv o1, iv 11] [.int 11, .ref o0]))
 refine cP X400 hy hml hown hZ hw d7_21 24 0 69 70 72 71 73 28 rfl rfl rfl rfl rfl rfl rfl (rmens11_16 l Z a0 hw [] o0 vb kb [.int 0, .int 0, .int 0, .int 0, .int 0, .int 0, .int 0, .int 0, .int 0, .int 0, .int 0, .int 0, .int 0, .int 0, .int 0, .int 0] h0 n0 Z0 we wd wN) e400 pd_5 wo rfl rfl fun _ T401 Lc401 X401 hQ401 => ?_
 obtain ⟨rfl, Nq401, hh401⟩ := hQ401
 have N401 := Fr.app N399 Nq401
 refine Ends.u (oA X401 hy d7_24 25 rfl (oA X401 hy d7_25 26 rfl (gF X401 hy hown hZ hw hh401 wh d7_26 29 67 rfl fun T402 X402 e402 => oA X402 hy d7_29 30 rfl ?_)))
 refine cP X402 hy hml hown hZ hw d7_30 33 0 74 75 72 76 78 28 rfl rfl rfl rfl rfl rfl rfl (rmpsD l Z a0 hw [] o0 o1 vb kb tt kt cs y0 y1 y2 y3 y4 y5 y6 y7 y8 y9 y10 h0 n0 Z0 wo we wd wh wU wN wV vr wL vl wR wQ vo vp vE wa hcs) e402 pd_9 wo rfl rfl fun _ T403 Lc403 X403 hQ403 => ?_
 obtain ⟨rfl, Nq403, Kq403, wN⟩ := hQ403
 have N403 := Fr.app N401 Nq403
 have wo := wo.keep Kq403
 have we := we.keep Kq403 (ninS wL nin0)
 have wd := wd.keep Kq403 (ninS wL nin0)
 have wh := wh.keep Kq403 (ninS wL nin0)
 have wU := wU.keep Kq403
 have K403 := (Keep.refl h0 [o0, vb]).trans Kq403 (allS (Or.inl mm1) all0)
 refine Ends.u (oA X403 hy d7_33 34 rfl (oxd X403 hy d7_34 35 rfl (gF X403 hy hown hZ hw rfl wh d7_35 38 67 rfl fun T404 X404 e404 => oC X404 hy d7_38 39 rfl (oK X404 hy d7_39 40 ?_))))
 show Ends p e below QQ (T404.setTop (mkF m 40 #[rv o0, rv o1, iv 11] [.int 11, .ref o0]))
 obtain ⟨T405, h405, X405, e405, W405, st405⟩ := putF X404 hx hZ hown (host := "") (Or.inl (tb hw 67 rfl)) Via.refl e404 wh wo (Or.inl (tb hw 68 rfl)) (tb hw 19 rfl) (ty := .int) (by decide) rfl rfl (g := (mkF m 40 #[rv o0, rv o1, iv 11] [.int 11, .ref o0])) rfl rfl (hb hby d7_40)
 have wo := wo.wr W405
 have we := we.other W405 (Or.inr (slot_ne (Or.inl (tb hw 35 rfl)) (Or.inl (tb hw 68 rfl)) (by decide) (t := (.array .byte)) (t' := .int) (by decide) (by decide)))
 have wd := wd.other W405 (Or.inr (slot_ne (Or.inl (tb hw 37 rfl)) (Or.inl (tb hw 68 rfl)) (by decide) (t := .byte) (t' := .int) (by decide) (by decide)))
 have wU := wU.wr W405
 have wN := wN.other W405 (Ne.symm wL)
 have wh : fEQ Z h405 o0 (.int 11) := wh.same W405
 have K405 := K403.wr W405 (Or.inl mm0)
 have N405 := Fr.snoc X405 N403 wV
 refine Ends.j 43 [] st405 ?_
 refine oA X405 hy d7_43 44 rfl ?_
 exact fA X405 hy hrt hlk hQQ d7_44 rfl rfl e405 (by decide) ⟨rfl, N405, K405, wo, we, wd, wh, wN, wU⟩
def QspsD (Z : State) (o0 o1 vb : Addr) (kb : ClassId) (tt : Addr) (kt : ClassId) (cs y0 y1 y2 y3 y4 y5 y6 y7 y8 y9 y10 : Int32) (h0 : Heap) (n0 : Nat) : QT := fun v h L => (v = some (.ref o0)) ∧ (Fr n0 L) ∧ (Keep h0 h [o0, vb]) ∧ (eBQ Z h o0) ∧ (fDQ Z h o0 (.ref vb)) ∧ (fCQ Z h o0 (.int 0)) ∧ (fEQ Z h o0 (.int 11)) ∧ (Arv Z h vb kb .byte 16 [.int y0, .int y1, .int y2, .int y3, .int y4, .int y5, .int y6, .int y7, .int y8, .int y9, .int y10, .int 0, .int 0, .int 0, .int 0, .int 0] (.int 0)) ∧ (eCQ Z h vb)
theorem rmspsD (l : Launch) (Z : State) (a0 : Array Value) (hw : TW a0 Z) (ws : List Jvm.Cond) (o0 o1 vb : Addr) (kb : ClassId) (tt : Addr) (kt : ClassId) (cs y0 y1 y2 y3 y4 y5 y6 y7 y8 y9 y10 : Int32) (h0 : Heap) (n0 : Nat) (Z0 : n0 ≤ h0.size) (wo : eBQ Z h0 o0) (we : fDQ Z h0 o0 (.ref vb)) (wd : fCQ Z h0 o0 (.int 0)) (wh : fEQ Z h0 o0 (.int 0)) (wU : eCQ Z h0 vb) (wN : Arv Z h0 vb kb .byte 16 [.int 0, .int 0, .int 0, .int 0, .int 0, .int 0, .int 0, .int 0, .int 0, .int 0, .int 0, .int 0, .int 0, .int 0, .int 0, .int 0] (.int 0)) (wV : n0 ≤ o0) (vr : n0 ≤ vb) (wL : o0 ≠ vb) (vl : eAQ Z h0 o1) (wR : fBQ Z h0 o1 (.ref tt)) (wQ : fAQ Z h0 o1 (.int 0)) (vo : Arv Z h0 tt kt .byte 11 [.int y0, .int y1, .int y2, .int y3, .int y4, .int y5, .int y6, .int y7, .int y8, .int y9, .int y10] (.int 0)) (vp : vb ≠ tt) (vF : o0 ≠ tt) (vq : o0 ≠ o1) (vE : vb ≠ o1) (wa : sJQ Z h0 (.int cs)) (hcs : ¬ cs = (0 : Int32)) :
  MF l mN5 jdk_67_method_7_code 2 (some (.object "java/lang/StringBuilder")) ws (rmm 4 0 0 67) #[.ref o0, .ref o1] Z h0 (QspsD Z o0 o1 vb kb tt kt cs y0 y1 y2 y3 y4 y5 y6 y7 y8 y9 y10 h0 n0) := by
 refine MF.of (plainFor_of_name pn_5) ?_
 intro p e s m below meth c s₁ QQ hy hml hown hZ X0 e0 hrt hlk hnm hQQ
 have N0 := Fr.nil n0
 refine Ends.i #[rv o0, rv o1] (oA X0 hy d6_0 1 rfl (oA X0 hy d6_1 2 rfl ?_))
 refine cU X0 hy hml hown hZ hw d6_2 5 0 49 50 72 51 53 28 rfl rfl rfl rfl rfl rfl rfl (rmapsD l Z a0 hw [] o0 o1 vb kb tt kt cs y0 y1 y2 y3 y4 y5 y6 y7 y8 y9 y10 h0 n0 Z0 wo we wd wh wU wN wV vr wL vl wR wQ vo vp vF vq vE wa hcs) e0 pd_10 wo rfl rfl fun _ T406 Lc406 X406 hQ406 => ?_
 obtain ⟨rfl, Nq406, Kq406, wo, we, wd, wh, wN, wU⟩ := hQ406
 have N406 := Fr.app N0 Nq406
 have K406 := (Keep.refl h0 [o0, vb]).trans Kq406 (allS (Or.inl mm0) (allS (Or.inl mm1) all0))
 refine Ends.v (oxe X406 hy d6_5 6 rfl (oA X406 hy d6_6 7 rfl ?_))
 exact fA X406 hy hrt hlk hQQ d6_7 rfl rfl rfl (by decide) ⟨rfl, N406, K406, wo, we, wd, wh, wN, wU⟩
def Qmx24 (Z : State)  (h0 : Heap) (n0 : Nat) : QT := fun v h L => (v = some (.int 18)) ∧ (Fr n0 L) ∧ (h = h0)
theorem rmmx24 (l : Launch) (Z : State) (a0 : Array Value) (hw : TW a0 Z) (ws : List Jvm.Cond)  (h0 : Heap) (n0 : Nat) (Z0 : n0 ≤ h0.size) :
  MF l mN8 jdk_29_method_65_code 2 (some .int) ws (rmm 0 0 0 0) #[.int 8, .int 18] Z h0 (Qmx24 Z  h0 n0) := by
 refine MF.of (Jvm.Free.JP.mathPlain rfl (by decide +kernel)) ?_
 intro p e s m below meth c s₁ QQ hy hml hown hZ X0 e0 hrt hlk hnm hQQ
 have N0 := Fr.nil n0
 refine Ends.i #[iv 8, iv 18] (oC X0 hy d16_0 1 rfl (oC X0 hy d16_1 2 rfl (oxl X0 hy d16_2 9 (XT.ii_lt_t (by decide)) (oC X0 hy d16_9 10 rfl ?_))))
 exact fI X0 hy hrt hlk hQQ d16_10 rfl (Or.inl rfl) e0 (by decide) ⟨rfl, N0, rfl⟩
def Qnl24 (Z : State)  (h0 : Heap) (n0 : Nat) : QT := fun v h L => (v = some (.int 34)) ∧ (Fr n0 L) ∧ (h = h0)
theorem rmnl24 (l : Launch) (Z : State) (a0 : Array Value) (hw : TW a0 Z) (ws : List Jvm.Cond)  (h0 : Heap) (n0 : Nat) (Z0 : n0 ≤ h0.size) :
  MF l mN9 jdk_48_method_27_code 4 (some .int) ws (rmm 1 0 0 14) #[.int 16, .int 8, .int 18] Z h0 (Qnl24 Z  h0 n0) := by
 refine MF.of (plainFor_of_name pn_6) ?_
 intro p e s m below meth c s₁ QQ hy hml hown hZ X0 e0 hrt hlk hnm hQQ
 have hx := hy.1
 have hby := hy.2
 have N0 := Fr.nil n0
 refine Ends.i #[iv 16, iv 8, iv 18, uu] (oC X0 hy d15_0 1 rfl (oC X0 hy d15_1 2 rfl (oC X0 hy d15_2 3 rfl ?_)))
 refine cS X0 hy hml hown hZ hw d15_3 6 1 104 105 106 107 rfl rfl rfl rfl (rmmx24 l Z a0 hw []  h0 n0 Z0) e0 pd_11 rfl rfl fun _ T407 Lc407 X407 hQ407 => ?_
 obtain ⟨rfl, Nq407, hh407⟩ := hQ407
 have N407 := Fr.app N0 Nq407
 refine Ends.v (oK X407 hy d15_6 7 ?_)
 show Ends p e below QQ (T407.setTop (mkF m 7 #[iv 16, iv 8, iv 18, uu] [.int 34]))
 refine oxp X407 hy d15_7 8 #[iv 16, iv 8, iv 18, iv 34] rfl (oG X407 hy d15_8 9 0 rfl (oC X407 hy d15_9 10 rfl (oxi X407 hy d15_10 13 (XT.ii_ge_f (by decide)) (oC X407 hy d15_13 14 rfl ?_))))
 refine Ends.step (fun _ k => X407.ldcI hx hown (mvT hZ (tb hw 108 rfl)) (g := (mkF m 14 #[iv 16, iv 8, iv 18, iv 34] [.int 34])) rfl (hb hby d15_14) k) ?_
 show Ends p e below QQ (T407.setTop (mkF m 16 #[iv 16, iv 8, iv 18, iv 34] [.int 2147483639, .int 34]))
 refine oxi X407 hy d15_16 19 (XT.ii_gt_f (by decide)) (oC X407 hy d15_19 20 rfl ?_)
 exact fI X407 hy hrt hlk hQQ d15_20 rfl (Or.inl rfl) hh407 (by decide) ⟨rfl, N407, rfl⟩
def Qnc24 (Z : State) (o0 vb : Addr) (kb : ClassId) (vs : List Value) (h0 : Heap) (n0 : Nat) : QT := fun v h L => (v = some (.int 34)) ∧ (Fr n0 L) ∧ (h = h0)
theorem rmnc24 (l : Launch) (Z : State) (a0 : Array Value) (hw : TW a0 Z) (ws : List Jvm.Cond) (o0 vb : Addr) (kb : ClassId) (vs : List Value) (h0 : Heap) (n0 : Nat) (Z0 : n0 ≤ h0.size) (we : fDQ Z h0 o0 (.ref vb)) (wd : fCQ Z h0 o0 (.int 0)) (wN : Arv Z h0 vb kb .byte 16 vs (.int 0)) :
  MF l mN10 jdk_68_method_10_code 6 (some .int) ws (rmm 2 0 0 29) #[.ref o0, .int 24] Z h0 (Qnc24 Z o0 vb kb vs h0 n0) := by
 refine MF.of (plainFor_of_name pn_4) ?_
 intro p e s m below meth c s₁ QQ hy hml hown hZ X0 e0 hrt hlk hnm hQQ
 have hx := hy.1
 have hby := hy.2
 have N0 := Fr.nil n0
 refine Ends.i #[rv o0, iv 24, uu, uu, uu, uu] (oA X0 hy d14_0 1 rfl (gF X0 hy hown hZ hw e0 we d14_1 4 34 rfl fun T408 X408 e408 => aLn X408 hy hZ e408 wN d14_4 5 (oxp X408 hy d14_5 6 #[rv o0, iv 24, iv 16, uu, uu, uu] rfl (oC X408 hy d14_6 7 rfl (oA X408 hy d14_7 8 rfl (gF X408 hy hown hZ hw e408 wd d14_8 11 36 rfl fun T410 X410 e410 => oO X410 hy d14_11 12 ?_))))))
 show Ends p e below QQ (T410.setTop (mkF m 12 #[rv o0, iv 24, iv 16, uu, uu, uu] [.int 24]))
 refine oxp X410 hy d14_12 13 #[rv o0, iv 24, iv 16, iv 24, uu, uu] rfl (oC X410 hy d14_13 14 rfl (oC X410 hy d14_14 15 rfl (oL X410 hy d14_15 16 ?_)))
 show Ends p e below QQ (T410.setTop (mkF m 16 #[rv o0, iv 24, iv 16, iv 24, uu, uu] [.int 8]))
 refine oxo X410 hy d14_16 18 #[rv o0, iv 24, iv 16, iv 24, iv 8, uu] rfl (oC X410 hy d14_18 19 rfl (oD X410 hy d14_19 21 rfl (oC X410 hy d14_21 22 rfl (oG X410 hy d14_22 23 2 rfl (oA X410 hy d14_23 24 rfl (gF X410 hy hown hZ hw e410 wd d14_24 27 36 rfl fun T411 X411 e411 => oO X411 hy d14_27 28 ?_))))))
 show Ends p e below QQ (T411.setTop (mkF m 28 #[rv o0, iv 24, iv 16, iv 24, iv 8, uu] [.int 2, .int 16, .int 8, .int 16]))
 refine oK X411 hy d14_28 29 ?_
 show Ends p e below QQ (T411.setTop (mkF m 29 #[rv o0, iv 24, iv 16, iv 24, iv 8, uu] [.int 18, .int 8, .int 16]))
 refine cS X411 hy hml hown hZ hw d14_29 32 0 100 101 102 103 rfl rfl rfl rfl (rmnl24 l Z a0 hw []  h0 n0 Z0) e411 pd_12 rfl rfl fun _ T412 Lc412 X412 hQ412 => ?_
 obtain ⟨rfl, Nq412, hh412⟩ := hQ412
 have N412 := Fr.app N0 Nq412
 refine Ends.v (oxo X412 hy d14_32 34 #[rv o0, iv 24, iv 16, iv 24, iv 8, iv 34] rfl (oD X412 hy d14_34 36 rfl ?_))
 refine Ends.step (fun _ k => X412.ldcI hx hown (mvT hZ (tb hw 109 rfl)) (g := (mkF m 36 #[rv o0, iv 24, iv 16, iv 24, iv 8, iv 34] [.int 34])) rfl (hb hby d14_36) k) ?_
 show Ends p e below QQ (T412.setTop (mkF m 38 #[rv o0, iv 24, iv 16, iv 24, iv 8, iv 34] [.int 2147483647, .int 34]))
 refine oxl X412 hy d14_38 51 (XT.ii_ne_t (by decide)) (oD X412 hy d14_51 53 rfl (oA X412 hy d14_53 54 rfl (gF X412 hy hown hZ hw hh412 wd d14_54 57 36 rfl fun T413 X413 e413 => oP X413 hy d14_57 58 ?_)))
 show Ends p e below QQ (T413.setTop (mkF m 58 #[rv o0, iv 24, iv 16, iv 24, iv 8, iv 34] [.int 34]))
 exact fI X413 hy hrt hlk hQQ d14_58 rfl (Or.inl rfl) e413 (by decide) ⟨rfl, N412, rfl⟩
def Qcpo24 (Z : State) (o0 : Addr) (k : ClassId) (x0 x1 x2 x3 x4 x5 x6 x7 x8 x9 x10 : Int32) (h0 : Heap) (n0 : Nat) : QT := fun v h L => ∃ (b : Addr), ∃ (k2 : ClassId), (v = some (.ref b)) ∧ (Fr n0 L) ∧ (Keep h0 h []) ∧ (h0.size ≤ b) ∧ (n0 ≤ b) ∧ (eCQ Z h b) ∧ (Arv Z h b k2 .byte 34 [.int x0, .int x1, .int x2, .int x3, .int x4, .int x5, .int x6, .int x7, .int x8, .int x9, .int x10, .int 0, .int 0, .int 0, .int 0, .int 0, .int 0, .int 0, .int 0, .int 0, .int 0, .int 0, .int 0, .int 0, .int 0, .int 0, .int 0, .int 0, .int 0, .int 0, .int 0, .int 0, .int 0, .int 0] (.int 0))
theorem rmcpo24 (l : Launch) (Z : State) (a0 : Array Value) (hw : TW a0 Z) (ws : List Jvm.Cond) (o0 : Addr) (k : ClassId) (x0 x1 x2 x3 x4 x5 x6 x7 x8 x9 x10 : Int32) (h0 : Heap) (n0 : Nat) (Z0 : n0 ≤ h0.size) (vA : Arv Z h0 o0 k .byte 16 [.int x0, .int x1, .int x2, .int x3, .int x4, .int x5, .int x6, .int x7, .int x8, .int x9, .int x10, .int 0, .int 0, .int 0, .int 0, .int 0] (.int 0)) :
  MF l mN12 jdk_65_method_121_code 3 (some (.array .byte)) ws (rmm 1 1 34 24) #[.ref o0, .int 34] Z h0 (Qcpo24 Z o0 k x0 x1 x2 x3 x4 x5 x6 x7 x8 x9 x10 h0 n0) := by
 refine MF.of (plainFor_of_name pn_7) ?_
 intro p e s m below meth c s₁ QQ hy hml hown hZ X0 e0 hrt hlk hnm hQQ
 have hx := hy.1
 have hby := hy.2
 have N0 := Fr.nil n0
 refine Ends.i #[rv o0, iv 34, uu] (oC X0 hy d17_0 1 rfl (oA X0 hy d17_1 2 rfl (aLn X0 hy hZ e0 vA d17_2 3 (oxl X0 hy d17_3 14 (XT.ii_ne_t (by decide)) (oC X0 hy d17_14 15 rfl ?_)))))
 obtain ⟨T415, h415, k415, X415, e415, E415, A415, Y415, st415⟩ := newPE X0 hx hZ (tb hw 33 rfl) e0 (g := (mkF m 15 #[rv o0, iv 34, uu] [.int 34])) rfl (hb hby d17_15) rfl (by decide) (cap := 34) (by decide) (by decide) (by decide) (by decide) (ad := "[B") (by decide)
 obtain ⟨b415, g415⟩ : ∃ z, z = h0.size := ⟨_, rfl⟩
 rw [← g415] at A415 Y415 st415
 have zI : n0 ≤ b415 := Nat.le_trans Z0 (Nat.le_trans (Keep.refl h0 []).1 (Nat.le_of_eq g415.symm))
 have zn : h0.size ≤ b415 := Nat.le_trans (Keep.refl h0 []).1 (Nat.le_of_eq g415.symm)
 have vA := vA.ext E415
 have K415 := (Keep.refl h0 []).ext E415
 have uM := Y415
 have uY : Arv Z h415 b415 k415 .byte 34 [.int 0, .int 0, .int 0, .int 0, .int 0, .int 0, .int 0, .int 0, .int 0, .int 0, .int 0, .int 0, .int 0, .int 0, .int 0, .int 0, .int 0, .int 0, .int 0, .int 0, .int 0, .int 0, .int 0, .int 0, .int 0, .int 0, .int 0, .int 0, .int 0, .int 0, .int 0, .int 0, .int 0, .int 0] (.int 0) := (Arv.new A415 (by decide)).pad (pad_rep [] (.int 0) 34)
 refine Ends.j 17 [.ref b415] st415 ?_
 refine oxt X415 hy d17_17 18 #[rv o0, iv 34, rv b415] rfl (oA X415 hy d17_18 19 rfl (oG X415 hy d17_19 20 0 rfl (oA X415 hy d17_20 21 rfl (oG X415 hy d17_21 22 0 rfl (oA X415 hy d17_22 23 rfl (aLn X415 hy hZ e415 vA d17_23 24 (oC X415 hy d17_24 25 rfl ?_)))))))
 refine cS X415 hy hml hown hZ hw d17_25 28 4 114 115 106 116 rfl rfl rfl rfl (rmmn34 l Z a0 hw []  h415 n0 (Nat.le_trans Z0 K415.1)) e415 pd_11 rfl rfl fun _ T417 Lc417 X417 hQ417 => ?_
 obtain ⟨rfl, Nq417, hh417⟩ := hQ417
 have N417 := Fr.app N0 Nq417
 refine Ends.v ?_
 obtain ⟨T418, h418, L418, X418, e418, N418, Kq418, AA418, st418⟩ := cpA X417 hx hZ hown (tb hw 117 rfl) (tb hw 93 rfl) (tb hw 91 rfl) (tb hw 92 rfl) hh417 vA uY (Or.inl ⟨rfl, rfl⟩) (by decide) (by decide) (by decide) (by decide) (by decide) (us := [.int x0, .int x1, .int x2, .int x3, .int x4, .int x5, .int x6, .int x7, .int x8, .int x9, .int x10, .int 0, .int 0, .int 0, .int 0, .int 0]) (by rfl) (Nat.le_of_ble_eq_true rfl) N417 zI (g := (mkF m 28 #[rv o0, iv 34, rv b415] [.int 16, .int 0, .ref b415, .int 0, .ref o0])) rfl (by rw [hml]; rfl) rfl (hb hby d17_28) (by decide) (W := 0) (by show 2 * 0 + _ ≤ _; exact Nat.le_of_eq rfl) (by decide)
 have uM := uM.keep Kq418
 have uY : Arv Z h418 b415 k415 .byte 34 [.int x0, .int x1, .int x2, .int x3, .int x4, .int x5, .int x6, .int x7, .int x8, .int x9, .int x10, .int 0, .int 0, .int 0, .int 0, .int 0, .int 0, .int 0, .int 0, .int 0, .int 0, .int 0, .int 0, .int 0, .int 0, .int 0, .int 0, .int 0, .int 0, .int 0, .int 0, .int 0, .int 0, .int 0] (.int 0) := AA418
 have K418 := K415.trans Kq418 (allS (Or.inr zn) all0)
 refine Ends.j 31 [] st418 ?_
 refine oA X418 hy d17_31 32 rfl ?_
 exact fA X418 hy hrt hlk hQQ d17_32 rfl rfl e418 (by decide) ⟨b415, k415, rfl, N418, K418, zn, zI, uM, uY⟩
def Qeng24 (Z : State) (o0 vb : Addr) (kb : ClassId) (x0 x1 x2 x3 x4 x5 x6 x7 x8 x9 x10 : Int32) (h0 : Heap) (n0 : Nat) : QT := fun v h L => ∃ (b : Addr), ∃ (k2 : ClassId), (v = none) ∧ (Fr n0 L) ∧ (Keep h0 h [o0]) ∧ (h0.size ≤ b) ∧ (n0 ≤ b) ∧ (eBQ Z h o0) ∧ (fDQ Z h o0 (.ref b)) ∧ (fCQ Z h o0 (.int 0)) ∧ (fEQ Z h o0 (.int 11)) ∧ (eCQ Z h b) ∧ (Arv Z h b k2 .byte 34 [.int x0, .int x1, .int x2, .int x3, .int x4, .int x5, .int x6, .int x7, .int x8, .int x9, .int x10, .int 0, .int 0, .int 0, .int 0, .int 0, .int 0, .int 0, .int 0, .int 0, .int 0, .int 0, .int 0, .int 0, .int 0, .int 0, .int 0, .int 0, .int 0, .int 0, .int 0, .int 0, .int 0, .int 0] (.int 0))
theorem rmeng24 (l : Launch) (Z : State) (a0 : Array Value) (hw : TW a0 Z) (ws : List Jvm.Cond) (o0 vb : Addr) (kb : ClassId) (x0 x1 x2 x3 x4 x5 x6 x7 x8 x9 x10 : Int32) (h0 : Heap) (n0 : Nat) (Z0 : n0 ≤ h0.size) (wo : eBQ Z h0 o0) (we : fDQ Z h0 o0 (.ref vb)) (wd : fCQ Z h0 o0 (.int 0)) (wh : fEQ Z h0 o0 (.int 11)) (wV : n0 ≤ o0) (wN : Arv Z h0 vb kb .byte 16 [.int x0, .int x1, .int x2, .int x3, .int x4, .int x5, .int x6, .int x7, .int x8, .int x9, .int x10, .int 0, .int 0, .int 0, .int 0, .int 0] (.int 0)) (wL : o0 ≠ vb) :
  MF l mN0 jdk_68_method_9_code 3 none ws (rmm 3 1 34 48) #[.ref o0, .int 24] Z h0 (Qeng24 Z o0 vb kb x0 x1 x2 x3 x4 x5 x6 x7 x8 x9 x10 h0 n0) := by
 refine MF.of (plainFor_of_name pn_4) ?_
 intro p e s m below meth c s₁ QQ hy hml hown hZ X0 e0 hrt hlk hnm hQQ
 have hx := hy.1
 have hby := hy.2
 have N0 := Fr.nil n0
 refine Ends.i #[rv o0, iv 24, uu] (oA X0 hy d10_0 1 rfl (gF X0 hy hown hZ hw e0 we d10_1 4 34 rfl fun T419 X419 e419 => aLn X419 hy hZ e419 wN d10_4 5 (oA X419 hy d10_5 6 rfl (gF X419 hy hown hZ hw e419 wd d10_6 9 36 rfl fun T421 X421 e421 => oP X421 hy d10_9 10 ?_))))
 show Ends p e below QQ (T421.setTop (mkF m 10 #[rv o0, iv 24, uu] [.int 16]))
 refine oxp X421 hy d10_10 11 #[rv o0, iv 24, iv 16] rfl (oC X421 hy d10_11 12 rfl (oC X421 hy d10_12 13 rfl (oL X421 hy d10_13 14 ?_)))
 show Ends p e below QQ (T421.setTop (mkF m 14 #[rv o0, iv 24, iv 16] [.int 8]))
 refine oxh X421 hy d10_14 17 (XT.i0_le_f (by decide)) (oA X421 hy d10_17 18 rfl (oA X421 hy d10_18 19 rfl (gF X421 hy hown hZ hw e421 we d10_19 22 34 rfl fun T422 X422 e422 => oA X422 hy d10_22 23 rfl (oC X422 hy d10_23 24 rfl ?_))))
 refine cP X422 hy hml hown hZ hw d10_24 27 2 95 96 72 97 99 28 rfl rfl rfl rfl rfl rfl rfl (rmnc24 l Z a0 hw [] o0 vb kb [.int x0, .int x1, .int x2, .int x3, .int x4, .int x5, .int x6, .int x7, .int x8, .int x9, .int x10, .int 0, .int 0, .int 0, .int 0, .int 0] h0 n0 Z0 we wd wN) e422 pd_13 wo rfl rfl fun _ T423 Lc423 X423 hQ423 => ?_
 obtain ⟨rfl, Nq423, hh423⟩ := hQ423
 have N423 := Fr.app N0 Nq423
 refine Ends.v (oA X423 hy d10_27 28 rfl (gF X423 hy hown hZ hw hh423 wd d10_28 31 36 rfl fun T424 X424 e424 => oO X424 hy d10_31 32 ?_))
 show Ends p e below QQ (T424.setTop (mkF m 32 #[rv o0, iv 24, iv 16] [.int 34, .ref vb, .ref o0]))
 refine cS X424 hy hml hown hZ hw d10_32 35 1 110 111 112 113 rfl rfl rfl rfl (rmcpo24 l Z a0 hw [] vb kb x0 x1 x2 x3 x4 x5 x6 x7 x8 x9 x10 h0 n0 Z0 wN) e424 pd_14 rfl rfl fun _ T425 Lc425 X425 hQ425 => ?_
 obtain ⟨b_425, k2_425, rfl, Nq425, Kq425, fq425_0, WS, jF, jK⟩ := hQ425
 have N425 := Fr.app N423 Nq425
 have zh : o0 ≠ b_425 := Nat.ne_of_lt (Nat.lt_of_lt_of_le wo.lt fq425_0)
 have Wk := Nat.le_trans (Keep.refl h0 [o0]).1 fq425_0
 have wo := wo.keep Kq425
 have we := we.keep Kq425 nin0
 have wd := wd.keep Kq425 nin0
 have wh := wh.keep Kq425 nin0
 have K425 := (Keep.refl h0 [o0]).trans Kq425 all0
 refine Ends.v ?_
 obtain ⟨T426, h426, X426, e426, W426, st426⟩ := putF X425 hx hZ hown (host := "") (Or.inl (tb hw 34 rfl)) Via.refl rfl we wo (Or.inl (tb hw 35 rfl)) (tb hw 19 rfl) (ty := (.array .byte)) (by decide) rfl rfl (g := (mkF m 35 #[rv o0, iv 24, iv 16] [.ref b_425, .ref o0])) rfl rfl (hb hby d10_35)
 have wo := wo.wr W426
 have wd := wd.other W426 (Or.inr (slot_ne (Or.inl (tb hw 37 rfl)) (Or.inl (tb hw 35 rfl)) (by decide) (t := .byte) (t' := (.array .byte)) (by decide) (by decide)))
 have wh := wh.other W426 (Or.inr (slot_ne (Or.inl (tb hw 68 rfl)) (Or.inl (tb hw 35 rfl)) (by decide) (t := .int) (t' := (.array .byte)) (by decide) (by decide)))
 have jF := jF.wr W426
 have jK := jK.other W426 (Ne.symm zh)
 have we : fDQ Z h426 o0 (.ref b_425) := we.same W426
 have K426 := K425.wr W426 (Or.inl mm0)
 have N426 := Fr.snoc X426 N425 wV
 refine Ends.j 38 [] st426 ?_
 exact fV X426 hy hrt hlk hQQ d10_38 e426 (by decide) ⟨b_425, k2_425, rfl, N426, K426, Wk, WS, wo, we, wd, wh, jF, jK⟩
def QgbE (Z : State) (o0 o1 : Addr) (kb : ClassId) (tt : Addr) (kt : ClassId) (cs x0 x1 x2 x3 x4 x5 x6 x7 x8 x9 x10 y0 y1 y2 y3 y4 y5 y6 y7 y8 y9 y10 y11 y12 : Int32) (h0 : Heap) (n0 : Nat) : QT := fun v h L => (v = none) ∧ (Fr n0 L) ∧ (Keep h0 h [o1]) ∧ (Arv Z h o1 kb .byte 34 [.int x0, .int x1, .int x2, .int x3, .int x4, .int x5, .int x6, .int x7, .int x8, .int x9, .int x10, .int y0, .int y1, .int y2, .int y3, .int y4, .int y5, .int y6, .int y7, .int y8, .int y9, .int y10, .int y11, .int y12, .int 0, .int 0, .int 0, .int 0, .int 0, .int 0, .int 0, .int 0, .int 0, .int 0] (.int 0))
theorem rmgbE (l : Launch) (Z : State) (a0 : Array Value) (hw : TW a0 Z) (ws : List Jvm.Cond) (o0 o1 : Addr) (kb : ClassId) (tt : Addr) (kt : ClassId) (cs x0 x1 x2 x3 x4 x5 x6 x7 x8 x9 x10 y0 y1 y2 y3 y4 y5 y6 y7 y8 y9 y10 y11 y12 : Int32) (h0 : Heap) (n0 : Nat) (Z0 : n0 ≤ h0.size) (wo : eAQ Z h0 o0) (we : fBQ Z h0 o0 (.ref tt)) (wd : fAQ Z h0 o0 (.int 0)) (vo : Arv Z h0 tt kt .byte 13 [.int y0, .int y1, .int y2, .int y3, .int y4, .int y5, .int y6, .int y7, .int y8, .int y9, .int y10, .int y11, .int y12] (.int 0)) (ke : Arv Z h0 o1 kb .byte 34 [.int x0, .int x1, .int x2, .int x3, .int x4, .int x5, .int x6, .int x7, .int x8, .int x9, .int x10, .int 0, .int 0, .int 0, .int 0, .int 0, .int 0, .int 0, .int 0, .int 0, .int 0, .int 0, .int 0, .int 0, .int 0, .int 0, .int 0, .int 0, .int 0, .int 0, .int 0, .int 0, .int 0, .int 0] (.int 0)) (jd : n0 ≤ o1) (kZ : o1 ≠ tt) (ja : o1 ≠ o0) (wa : sJQ Z h0 (.int cs)) (hcs : ¬ cs = (0 : Int32)) :
  MF l mN2 jdk_42_method_147_code 4 none ws (rmm 1 0 0 24) #[.ref o0, .ref o1, .int 11, .int 0] Z h0 (QgbE Z o0 o1 kb tt kt cs x0 x1 x2 x3 x4 x5 x6 x7 x8 x9 x10 y0 y1 y2 y3 y4 y5 y6 y7 y8 y9 y10 y11 y12 h0 n0) := by
 refine MF.of (plainFor_of_name pn_1) ?_
 intro p e s m below meth c s₁ QQ hy hml hown hZ X0 e0 hrt hlk hnm hQQ
 have hx := hy.1
 have hby := hy.2
 have N0 := Fr.nil n0
 refine Ends.i #[rv o0, rv o1, iv 11, iv 0] (oA X0 hy d13_0 1 rfl ?_)
 refine cV X0 hy hml hown hZ hw d13_1 4 0 60 61 63 62 64 32 rfl rfl rfl rfl rfl rfl (rmcod l Z a0 hw [] o0 cs h0 n0 Z0 wa hcs wd) e0 pd_0 wo rfl rfl fun _ T427 Lc427 X427 hQ427 => ?_
 obtain ⟨rfl, Nq427, hh427⟩ := hQ427
 have N427 := Fr.app N0 Nq427
 refine Ends.v (oC X427 hy d13_4 5 rfl (oxi X427 hy d13_5 8 (XT.ii_ne_f (by decide)) (oA X427 hy d13_8 9 rfl (gF X427 hy hown hZ hw hh427 we d13_9 12 59 rfl fun T428 X428 e428 => oG X428 hy d13_12 13 0 rfl (oA X428 hy d13_13 14 rfl (oC X428 hy d13_14 15 rfl (oC X428 hy d13_15 16 rfl (oO X428 hy d13_16 17 ?_))))))))
 show Ends p e below QQ (T428.setTop (mkF m 17 #[rv o0, rv o1, iv 11, iv 0] [.int 11, .ref o1, .int 0, .ref tt]))
 refine oA X428 hy d13_17 18 rfl (gF X428 hy hown hZ hw e428 we d13_18 21 59 rfl fun T429 X429 e429 => aLn X429 hy hZ e429 vo d13_21 22 ?_)
 obtain ⟨T431, h431, L431, X431, e431, N431, Kq431, AA431, st431⟩ := cpA X429 hx hZ hown (tb hw 90 rfl) (tb hw 93 rfl) (tb hw 91 rfl) (tb hw 92 rfl) e429 vo ke (Or.inl ⟨rfl, rfl⟩) (by decide) (by decide) (by decide) (by decide) (by decide) (us := [.int y0, .int y1, .int y2, .int y3, .int y4, .int y5, .int y6, .int y7, .int y8, .int y9, .int y10, .int y11, .int y12]) (by rfl) (Nat.le_of_ble_eq_true rfl) N427 jd (g := (mkF m 22 #[rv o0, rv o1, iv 11, iv 0] [.int 13, .int 11, .ref o1, .int 0, .ref tt])) rfl (by rw [hml]; rfl) rfl (hb hby d13_22) (by decide) (W := 0) (by show 2 * 0 + _ ≤ _; exact Nat.le_of_eq rfl) (by decide)
 have ke : Arv Z h431 o1 kb .byte 34 [.int x0, .int x1, .int x2, .int x3, .int x4, .int x5, .int x6, .int x7, .int x8, .int x9, .int x10, .int y0, .int y1, .int y2, .int y3, .int y4, .int y5, .int y6, .int y7, .int y8, .int y9, .int y10, .int y11, .int y12, .int 0, .int 0, .int 0, .int 0, .int 0, .int 0, .int 0, .int 0, .int 0, .int 0] (.int 0) := AA431
 have K431 := (Keep.refl h0 [o1]).trans Kq431 (allS (Or.inl mm0) all0)
 refine Ends.j 25 [] st431 ?_
 refine oxm X431 hy d13_25 43 ?_
 exact fV X431 hy hrt hlk hQQ d13_43 e431 (by decide) ⟨rfl, N431, K431, ke⟩
def QpsE (Z : State) (o0 o2 vb : Addr) (kb : ClassId) (tt : Addr) (kt : ClassId) (cs x0 x1 x2 x3 x4 x5 x6 x7 x8 x9 x10 y0 y1 y2 y3 y4 y5 y6 y7 y8 y9 y10 y11 y12 : Int32) (h0 : Heap) (n0 : Nat) : QT := fun v h L => (v = none) ∧ (Fr n0 L) ∧ (Keep h0 h [vb]) ∧ (Arv Z h vb kb .byte 34 [.int x0, .int x1, .int x2, .int x3, .int x4, .int x5, .int x6, .int x7, .int x8, .int x9, .int x10, .int y0, .int y1, .int y2, .int y3, .int y4, .int y5, .int y6, .int y7, .int y8, .int y9, .int y10, .int y11, .int y12, .int 0, .int 0, .int 0, .int 0, .int 0, .int 0, .int 0, .int 0, .int 0, .int 0] (.int 0))
theorem rmpsE (l : Launch) (Z : State) (a0 : Array Value) (hw : TW a0 Z) (ws : List Jvm.Cond) (o0 o2 vb : Addr) (kb : ClassId) (tt : Addr) (kt : ClassId) (cs x0 x1 x2 x3 x4 x5 x6 x7 x8 x9 x10 y0 y1 y2 y3 y4 y5 y6 y7 y8 y9 y10 y11 y12 : Int32) (h0 : Heap) (n0 : Nat) (Z0 : n0 ≤ h0.size) (wo : eBQ Z h0 o0) (we : fDQ Z h0 o0 (.ref vb)) (wd : fCQ Z h0 o0 (.int 0)) (wh : fEQ Z h0 o0 (.int 11)) (wU : eCQ Z h0 vb) (wN : Arv Z h0 vb kb .byte 34 [.int x0, .int x1, .int x2, .int x3, .int x4, .int x5, .int x6, .int x7, .int x8, .int x9, .int x10, .int 0, .int 0, .int 0, .int 0, .int 0, .int 0, .int 0, .int 0, .int 0, .int 0, .int 0, .int 0, .int 0, .int 0, .int 0, .int 0, .int 0, .int 0, .int 0, .int 0, .int 0, .int 0, .int 0] (.int 0)) (wV : n0 ≤ o0) (vr : n0 ≤ vb) (wL : o0 ≠ vb) (ka : eAQ Z h0 o2) (vM : fBQ Z h0 o2 (.ref tt)) (vD : fAQ Z h0 o2 (.int 0)) (vo : Arv Z h0 tt kt .byte 13 [.int y0, .int y1, .int y2, .int y3, .int y4, .int y5, .int y6, .int y7, .int y8, .int y9, .int y10, .int y11, .int y12] (.int 0)) (vp : vb ≠ tt) (vX : vb ≠ o2) (wa : sJQ Z h0 (.int cs)) (hcs : ¬ cs = (0 : Int32)) :
  MF l mN3 jdk_68_method_73_code 3 none ws (rmm 2 0 0 39) #[.ref o0, .int 11, .ref o2] Z h0 (QpsE Z o0 o2 vb kb tt kt cs x0 x1 x2 x3 x4 x5 x6 x7 x8 x9 x10 y0 y1 y2 y3 y4 y5 y6 y7 y8 y9 y10 y11 y12 h0 n0) := by
 refine MF.of (plainFor_of_name pn_4) ?_
 intro p e s m below meth c s₁ QQ hy hml hown hZ X0 e0 hrt hlk hnm hQQ
 have N0 := Fr.nil n0
 refine Ends.i #[rv o0, iv 11, rv o2] (oA X0 hy d11_0 1 rfl (oA X0 hy d11_1 2 rfl ?_))
 refine cP X0 hy hml hown hZ hw d11_2 5 0 79 80 72 81 83 28 rfl rfl rfl rfl rfl rfl rfl (rminf l Z a0 hw [] o0 o2 cs h0 n0 Z0 wa hcs wd ka vD) e0 pd_6 wo rfl rfl fun _ T432 Lc432 X432 hQ432 => ?_
 obtain ⟨rfl, Nq432, hh432⟩ := hQ432
 have N432 := Fr.app N0 Nq432
 refine Ends.u (oA X432 hy d11_5 6 rfl (oA X432 hy d11_6 7 rfl (gF X432 hy hown hZ hw hh432 we d11_7 10 34 rfl fun T433 X433 e433 => oC X433 hy d11_10 11 rfl (oA X433 hy d11_11 12 rfl (gF X433 hy hown hZ hw e433 wd d11_12 15 36 rfl fun T434 X434 e434 => ?_)))))
 refine cV X434 hy hml hown hZ hw d11_15 18 0 85 86 88 87 89 32 rfl rfl rfl rfl rfl rfl (rmgbE l Z a0 hw [] o2 vb kb tt kt cs x0 x1 x2 x3 x4 x5 x6 x7 x8 x9 x10 y0 y1 y2 y3 y4 y5 y6 y7 y8 y9 y10 y11 y12 h0 n0 Z0 ka vM vD vo wN vr vp vX wa hcs) e434 pd_7 ka rfl rfl fun _ T435 Lc435 X435 hQ435 => ?_
 obtain ⟨rfl, Nq435, Kq435, wN⟩ := hQ435
 have N435 := Fr.app N432 Nq435
 have K435 := (Keep.refl h0 [vb]).trans Kq435 (allS (Or.inl mm0) all0)
 refine Ends.u ?_
 exact fV X435 hy hrt hlk hQQ d11_18 rfl (by decide) ⟨rfl, N435, K435, wN⟩
def QapsE (Z : State) (o0 o1 vb : Addr) (kb : ClassId) (tt : Addr) (kt : ClassId) (cs x0 x1 x2 x3 x4 x5 x6 x7 x8 x9 x10 y0 y1 y2 y3 y4 y5 y6 y7 y8 y9 y10 y11 y12 : Int32) (h0 : Heap) (n0 : Nat) : QT := fun v h L => ∃ (b : Addr), ∃ (k2 : ClassId), (v = some (.ref o0)) ∧ (Fr n0 L) ∧ (Keep h0 h [o0]) ∧ (eBQ Z h o0) ∧ (fDQ Z h o0 (.ref b)) ∧ (fCQ Z h o0 (.int 0)) ∧ (fEQ Z h o0 (.int 24)) ∧ (Arv Z h b k2 .byte 34 [.int x0, .int x1, .int x2, .int x3, .int x4, .int x5, .int x6, .int x7, .int x8, .int x9, .int x10, .int y0, .int y1, .int y2, .int y3, .int y4, .int y5, .int y6, .int y7, .int y8, .int y9, .int y10, .int y11, .int y12, .int 0, .int 0, .int 0, .int 0, .int 0, .int 0, .int 0, .int 0, .int 0, .int 0] (.int 0)) ∧ (eCQ Z h b) ∧ (h0.size ≤ b) ∧ (n0 ≤ b)
theorem rmapsE (l : Launch) (Z : State) (a0 : Array Value) (hw : TW a0 Z) (ws : List Jvm.Cond) (o0 o1 vb : Addr) (kb : ClassId) (tt : Addr) (kt : ClassId) (cs x0 x1 x2 x3 x4 x5 x6 x7 x8 x9 x10 y0 y1 y2 y3 y4 y5 y6 y7 y8 y9 y10 y11 y12 : Int32) (h0 : Heap) (n0 : Nat) (Z0 : n0 ≤ h0.size) (wo : eBQ Z h0 o0) (we : fDQ Z h0 o0 (.ref vb)) (wd : fCQ Z h0 o0 (.int 0)) (wh : fEQ Z h0 o0 (.int 11)) (wU : eCQ Z h0 vb) (wN : Arv Z h0 vb kb .byte 16 [.int x0, .int x1, .int x2, .int x3, .int x4, .int x5, .int x6, .int x7, .int x8, .int x9, .int x10, .int 0, .int 0, .int 0, .int 0, .int 0] (.int 0)) (wV : n0 ≤ o0) (vr : n0 ≤ vb) (wL : o0 ≠ vb) (vl : eAQ Z h0 o1) (wR : fBQ Z h0 o1 (.ref tt)) (wQ : fAQ Z h0 o1 (.int 0)) (vo : Arv Z h0 tt kt .byte 13 [.int y0, .int y1, .int y2, .int y3, .int y4, .int y5, .int y6, .int y7, .int y8, .int y9, .int y10, .int y11, .int y12] (.int 0)) (vp : vb ≠ tt) (vF : o0 ≠ tt) (vq : o0 ≠ o1) (vE : vb ≠ o1) (wa : sJQ Z h0 (.int cs)) (hcs : ¬ cs = (0 : Int32)) :
  MF l mN4 jdk_68_method_22_code 3 (some (.object "java/lang/AbstractStringBuilder")) ws (rmm 4 1 34 62) #[.ref o0, .ref o1] Z h0 (QapsE Z o0 o1 vb kb tt kt cs x0 x1 x2 x3 x4 x5 x6 x7 x8 x9 x10 y0 y1 y2 y3 y4 y5 y6 y7 y8 y9 y10 y11 y12 h0 n0) := by
 refine MF.of (plainFor_of_name pn_4) ?_
 intro p e s m below meth c s₁ QQ hy hml hown hZ X0 e0 hrt hlk hnm hQQ
 have hx := hy.1
 have hby := hy.2
 have N0 := Fr.nil n0
 refine Ends.i #[rv o0, rv o1, uu] (oA X0 hy d7_0 1 rfl (oxn X0 hy d7_1 9 (oA X0 hy d7_9 10 rfl ?_)))
 refine cV X0 hy hml hown hZ hw d7_10 13 0 54 55 57 56 58 32 rfl rfl rfl rfl rfl rfl (rmlen l Z a0 hw [] o1 tt kt (13 : Int32) [.int y0, .int y1, .int y2, .int y3, .int y4, .int y5, .int y6, .int y7, .int y8, .int y9, .int y10, .int y11, .int y12] cs h0 n0 Z0 vl wR vo wa hcs wQ) e0 pd_8 vl rfl rfl fun _ T436 Lc436 X436 hQ436 => ?_
 obtain ⟨rfl, Nq436, hh436⟩ := hQ436
 have N436 := Fr.app N0 Nq436
 refine Ends.v (oxp X436 hy d7_13 14 #[rv o0, rv o1, iv 13] rfl (oA X436 hy d7_14 15 rfl (oA X436 hy d7_15 16 rfl (gF X436 hy hown hZ hw hh436 wh d7_16 19 67 rfl fun T437 X437 e437 => oC X437 hy d7_19 20 rfl (oK X437 hy d7_20 21 ?_)))))
 show Ends p e below QQ (T437.setTop (mkF m 21 #[rv o0, rv o1, iv 13] [.int 24, .ref o0]))
 refine cP X437 hy hml hown hZ hw d7_21 24 0 69 70 72 71 73 28 rfl rfl rfl rfl rfl rfl rfl (rmeng24 l Z a0 hw [] o0 vb kb x0 x1 x2 x3 x4 x5 x6 x7 x8 x9 x10 h0 n0 Z0 wo we wd wh wV wN wL) e437 pd_5 wo rfl rfl fun _ T438 Lc438 X438 hQ438 => ?_
 obtain ⟨b_438, k2_438, rfl, Nq438, Kq438, fq438_0, zt, fq438_2, we, wd, wh, kx, kN⟩ := hQ438
 have N438 := Fr.app N436 Nq438
 have vT : o0 ≠ b_438 := Nat.ne_of_lt (Nat.lt_of_lt_of_le wo.lt fq438_0)
 have zc : o1 ≠ b_438 := Nat.ne_of_lt (Nat.lt_of_lt_of_le vl.lt fq438_0)
 have za : tt ≠ b_438 := Nat.ne_of_lt (Nat.lt_of_lt_of_le vo.lt fq438_0)
 have ui := Nat.le_trans (Keep.refl h0 [o0]).1 fq438_0
 have wa := own_sta_keep wa Kq438 (allS wo.cell all0)
 have vl := vl.keep Kq438
 have wR := wR.keep Kq438 (ninS (Ne.symm vq) nin0)
 have wQ := wQ.keep Kq438 (ninS (Ne.symm vq) nin0)
 have vo := vo.keep Kq438 (ninS (Ne.symm vF) nin0)
 have wo := fq438_2
 have K438 := (Keep.refl h0 [o0]).trans Kq438 (allS (Or.inl mm0) all0)
 refine Ends.u (oA X438 hy d7_24 25 rfl (oA X438 hy d7_25 26 rfl (gF X438 hy hown hZ hw rfl wh d7_26 29 67 rfl fun T439 X439 e439 => oA X439 hy d7_29 30 rfl ?_)))
 refine cP X439 hy hml hown hZ hw d7_30 33 0 74 75 72 76 78 28 rfl rfl rfl rfl rfl rfl rfl (rmpsE l Z a0 hw [] o0 o1 b_438 k2_438 tt kt cs x0 x1 x2 x3 x4 x5 x6 x7 x8 x9 x10 y0 y1 y2 y3 y4 y5 y6 y7 y8 y9 y10 y11 y12 T438.heap n0 (Nat.le_trans Z0 K438.1) wo we wd wh kx kN wV zt vT vl wR wQ vo (Ne.symm za) (Ne.symm zc) wa hcs) e439 pd_9 wo rfl rfl fun _ T440 Lc440 X440 hQ440 => ?_
 obtain ⟨rfl, Nq440, Kq440, kN⟩ := hQ440
 have N440 := Fr.app N438 Nq440
 have wo := wo.keep Kq440
 have we := we.keep Kq440 (ninS vT nin0)
 have wd := wd.keep Kq440 (ninS vT nin0)
 have wh := wh.keep Kq440 (ninS vT nin0)
 have kx := kx.keep Kq440
 have K440 := K438.trans Kq440 (allS (Or.inr ui) all0)
 refine Ends.u (oA X440 hy d7_33 34 rfl (oxd X440 hy d7_34 35 rfl (gF X440 hy hown hZ hw rfl wh d7_35 38 67 rfl fun T441 X441 e441 => oC X441 hy d7_38 39 rfl (oK X441 hy d7_39 40 ?_))))
 show Ends p e below QQ (T441.setTop (mkF m 40 #[rv o0, rv o1, iv 13] [.int 24, .ref o0]))
 obtain ⟨T442, h442, X442, e442, W442, st442⟩ := putF X441 hx hZ hown (host := "") (Or.inl (tb hw 67 rfl)) Via.refl e441 wh wo (Or.inl (tb hw 68 rfl)) (tb hw 19 rfl) (ty := .int) (by decide) rfl rfl (g := (mkF m 40 #[rv o0, rv o1, iv 13] [.int 24, .ref o0])) rfl rfl (hb hby d7_40)
 have wo := wo.wr W442
 have we := we.other W442 (Or.inr (slot_ne (Or.inl (tb hw 35 rfl)) (Or.inl (tb hw 68 rfl)) (by decide) (t := (.array .byte)) (t' := .int) (by decide) (by decide)))
 have wd := wd.other W442 (Or.inr (slot_ne (Or.inl (tb hw 37 rfl)) (Or.inl (tb hw 68 rfl)) (by decide) (t := .byte) (t' := .int) (by decide) (by decide)))
 have kx := kx.wr W442
 have kN := kN.other W442 (Ne.symm vT)
 have wh : fEQ Z h442 o0 (.int 24) := wh.same W442
 have K442 := K440.wr W442 (Or.inl mm0)
 have N442 := Fr.snoc X442 N440 wV
 refine Ends.j 43 [] st442 ?_
 refine oA X442 hy d7_43 44 rfl ?_
 exact fA X442 hy hrt hlk hQQ d7_44 rfl rfl e442 (by decide) ⟨b_438, k2_438, rfl, N442, K442, wo, we, wd, wh, kN, kx, ui, zt⟩
def QspsE (Z : State) (o0 o1 vb : Addr) (kb : ClassId) (tt : Addr) (kt : ClassId) (cs x0 x1 x2 x3 x4 x5 x6 x7 x8 x9 x10 y0 y1 y2 y3 y4 y5 y6 y7 y8 y9 y10 y11 y12 : Int32) (h0 : Heap) (n0 : Nat) : QT := fun v h L => ∃ (b : Addr), ∃ (k2 : ClassId), (v = some (.ref o0)) ∧ (Fr n0 L) ∧ (Keep h0 h [o0]) ∧ (eBQ Z h o0) ∧ (fDQ Z h o0 (.ref b)) ∧ (fCQ Z h o0 (.int 0)) ∧ (fEQ Z h o0 (.int 24)) ∧ (Arv Z h b k2 .byte 34 [.int x0, .int x1, .int x2, .int x3, .int x4, .int x5, .int x6, .int x7, .int x8, .int x9, .int x10, .int y0, .int y1, .int y2, .int y3, .int y4, .int y5, .int y6, .int y7, .int y8, .int y9, .int y10, .int y11, .int y12, .int 0, .int 0, .int 0, .int 0, .int 0, .int 0, .int 0, .int 0, .int 0, .int 0] (.int 0)) ∧ (eCQ Z h b) ∧ (h0.size ≤ b) ∧ (n0 ≤ b)
theorem rmspsE (l : Launch) (Z : State) (a0 : Array Value) (hw : TW a0 Z) (ws : List Jvm.Cond) (o0 o1 vb : Addr) (kb : ClassId) (tt : Addr) (kt : ClassId) (cs x0 x1 x2 x3 x4 x5 x6 x7 x8 x9 x10 y0 y1 y2 y3 y4 y5 y6 y7 y8 y9 y10 y11 y12 : Int32) (h0 : Heap) (n0 : Nat) (Z0 : n0 ≤ h0.size) (wo : eBQ Z h0 o0) (we : fDQ Z h0 o0 (.ref vb)) (wd : fCQ Z h0 o0 (.int 0)) (wh : fEQ Z h0 o0 (.int 11)) (wU : eCQ Z h0 vb) (wN : Arv Z h0 vb kb .byte 16 [.int x0, .int x1, .int x2, .int x3, .int x4, .int x5, .int x6, .int x7, .int x8, .int x9, .int x10, .int 0, .int 0, .int 0, .int 0, .int 0] (.int 0)) (wV : n0 ≤ o0) (vr : n0 ≤ vb) (wL : o0 ≠ vb) (vl : eAQ Z h0 o1) (wR : fBQ Z h0 o1 (.ref tt)) (wQ : fAQ Z h0 o1 (.int 0)) (vo : Arv Z h0 tt kt .byte 13 [.int y0, .int y1, .int y2, .int y3, .int y4, .int y5, .int y6, .int y7, .int y8, .int y9, .int y10, .int y11, .int y12] (.int 0)) (vp : vb ≠ tt) (vF : o0 ≠ tt) (vq : o0 ≠ o1) (vE : vb ≠ o1) (wa : sJQ Z h0 (.int cs)) (hcs : ¬ cs = (0 : Int32)) :
  MF l mN5 jdk_67_method_7_code 2 (some (.object "java/lang/StringBuilder")) ws (rmm 5 1 34 76) #[.ref o0, .ref o1] Z h0 (QspsE Z o0 o1 vb kb tt kt cs x0 x1 x2 x3 x4 x5 x6 x7 x8 x9 x10 y0 y1 y2 y3 y4 y5 y6 y7 y8 y9 y10 y11 y12 h0 n0) := by
 refine MF.of (plainFor_of_name pn_5) ?_
 intro p e s m below meth c s₁ QQ hy hml hown hZ X0 e0 hrt hlk hnm hQQ
 have N0 := Fr.nil n0
 refine Ends.i #[rv o0, rv o1] (oA X0 hy d6_0 1 rfl (oA X0 hy d6_1 2 rfl ?_))
 refine cU X0 hy hml hown hZ hw d6_2 5 0 49 50 72 51 53 28 rfl rfl rfl rfl rfl rfl rfl (rmapsE l Z a0 hw [] o0 o1 vb kb tt kt cs x0 x1 x2 x3 x4 x5 x6 x7 x8 x9 x10 y0 y1 y2 y3 y4 y5 y6 y7 y8 y9 y10 y11 y12 h0 n0 Z0 wo we wd wh wU wN wV vr wL vl wR wQ vo vp vF vq vE wa hcs) e0 pd_10 wo rfl rfl fun _ T443 Lc443 X443 hQ443 => ?_
 obtain ⟨b_443, k2_443, rfl, Nq443, Kq443, wo, we, wd, wh, VI, Vr, fq443_6, WR⟩ := hQ443
 have N443 := Fr.app N0 Nq443
 have Wj := Nat.le_trans (Keep.refl h0 [o0]).1 fq443_6
 have K443 := (Keep.refl h0 [o0]).trans Kq443 (allS (Or.inl mm0) all0)
 refine Ends.v (oxe X443 hy d6_5 6 rfl (oA X443 hy d6_6 7 rfl ?_))
 exact fA X443 hy hrt hlk hQQ d6_7 rfl rfl rfl (by decide) ⟨b_443, k2_443, rfl, N443, K443, wo, we, wd, wh, VI, Vr, Wj, WR⟩
theorem d21_0 : decode cD2 0 = .ok (.iconst 1, 1) := by decide +kernel
theorem d21_1 : decode cD2 1 = .ok (.istore_n 2, 1) := by decide +kernel
theorem d21_2 : decode cD2 2 = .ok (.lload_n 0, 1) := by decide +kernel
theorem d21_3 : decode cD2 3 = .ok (.lconst 0, 1) := by decide +kernel
theorem d21_4 : decode cD2 4 = .ok (.lcmp, 1) := by decide +kernel
theorem d21_5 : decode cD2 5 = .ok (.ifCond .lt 8, 3) := by decide +kernel
theorem d21_8 : decode cD2 8 = .ok (.iconst 0, 1) := by decide +kernel
theorem d21_9 : decode cD2 9 = .ok (.istore_n 2, 1) := by decide +kernel
theorem d21_10 : decode cD2 10 = .ok (.lload_n 0, 1) := by decide +kernel
theorem d21_11 : decode cD2 11 = .ok (.lneg, 1) := by decide +kernel
theorem d21_12 : decode cD2 12 = .ok (.lstore_n 0, 1) := by decide +kernel
theorem d21_13 : decode cD2 13 = .ok (.ldc2_w 140, 3) := by decide +kernel
theorem d21_16 : decode cD2 16 = .ok (.lstore_n 3, 1) := by decide +kernel
theorem d21_17 : decode cD2 17 = .ok (.iconst 1, 1) := by decide +kernel
theorem d21_18 : decode cD2 18 = .ok (.istore 5, 2) := by decide +kernel
theorem d21_20 : decode cD2 20 = .ok (.iload 5, 2) := by decide +kernel
theorem d21_22 : decode cD2 22 = .ok (.bipush 19, 2) := by decide +kernel
theorem d21_24 : decode cD2 24 = .ok (.if_icmp .ge 26, 3) := by decide +kernel
theorem d21_27 : decode cD2 27 = .ok (.lload_n 0, 1) := by decide +kernel
theorem d21_28 : decode cD2 28 = .ok (.lload_n 3, 1) := by decide +kernel
theorem d21_29 : decode cD2 29 = .ok (.lcmp, 1) := by decide +kernel
theorem d21_30 : decode cD2 30 = .ok (.ifCond .le 8, 3) := by decide +kernel
theorem d21_33 : decode cD2 33 = .ok (.iload 5, 2) := by decide +kernel
theorem d21_35 : decode cD2 35 = .ok (.iload_n 2, 1) := by decide +kernel
theorem d21_36 : decode cD2 36 = .ok (.iadd, 1) := by decide +kernel
theorem d21_37 : decode cD2 37 = .ok (.ireturn, 1) := by decide +kernel
theorem d21_38 : decode cD2 38 = .ok (.ldc2_w 53, 3) := by decide +kernel
theorem d21_41 : decode cD2 41 = .ok (.lload_n 3, 1) := by decide +kernel
theorem d21_42 : decode cD2 42 = .ok (.lmul, 1) := by decide +kernel
theorem d21_43 : decode cD2 43 = .ok (.lstore_n 3, 1) := by decide +kernel
theorem d21_44 : decode cD2 44 = .ok (.iinc 5 1, 3) := by decide +kernel
theorem d21_47 : decode cD2 47 = .ok (.goto (-27), 3) := by decide +kernel
theorem d21_50 : decode cD2 50 = .ok (.bipush 19, 2) := by decide +kernel
theorem d21_52 : decode cD2 52 = .ok (.iload_n 2, 1) := by decide +kernel
theorem d21_53 : decode cD2 53 = .ok (.iadd, 1) := by decide +kernel
theorem d21_54 : decode cD2 54 = .ok (.ireturn, 1) := by decide +kernel
def fss_v13_1 (q0 : Int64) : Int64 := (if q0 < (0 : Int64) then q0 else (-q0))
def fss_v13_2 (q0 : Int64) : Int32 := (if q0 < (0 : Int64) then (1 : Int32) else (0 : Int32))
def fss (q0 : Int64) : Int32 := (if (-10 : Int64) < (fss_v13_1 q0) then ((1 : Int32) + (fss_v13_2 q0)) else (if (-100 : Int64) < (fss_v13_1 q0) then ((2 : Int32) + (fss_v13_2 q0)) else (if (-1000 : Int64) < (fss_v13_1 q0) then ((3 : Int32) + (fss_v13_2 q0)) else (if (-10000 : Int64) < (fss_v13_1 q0) then ((4 : Int32) + (fss_v13_2 q0)) else (if (-100000 : Int64) < (fss_v13_1 q0) then ((5 : Int32) + (fss_v13_2 q0)) else (if (-1000000 : Int64) < (fss_v13_1 q0) then ((6 : Int32) + (fss_v13_2 q0)) else (if (-10000000 : Int64) < (fss_v13_1 q0) then ((7 : Int32) + (fss_v13_2 q0)) else (if (-100000000 : Int64) < (fss_v13_1 q0) then ((8 : Int32) + (fss_v13_2 q0)) else (if (-1000000000 : Int64) < (fss_v13_1 q0) then ((9 : Int32) + (fss_v13_2 q0)) else (if (-10000000000 : Int64) < (fss_v13_1 q0) then ((10 : Int32) + (fss_v13_2 q0)) else (if (-100000000000 : Int64) < (fss_v13_1 q0) then ((11 : Int32) + (fss_v13_2 q0)) else (if (-1000000000000 : Int64) < (fss_v13_1 q0) then ((12 : Int32) + (fss_v13_2 q0)) else (if (-10000000000000 : Int64) < (fss_v13_1 q0) then ((13 : Int32) + (fss_v13_2 q0)) else (if (-100000000000000 : Int64) < (fss_v13_1 q0) then ((14 : Int32) + (fss_v13_2 q0)) else (if (-1000000000000000 : Int64) < (fss_v13_1 q0) then ((15 : Int32) + (fss_v13_2 q0)) else (if (-10000000000000000 : Int64) < (fss_v13_1 q0) then ((16 : Int32) + (fss_v13_2 q0)) else (if (-100000000000000000 : Int64) < (fss_v13_1 q0) then ((17 : Int32) + (fss_v13_2 q0)) else (if (-1000000000000000000 : Int64) < (fss_v13_1 q0) then ((18 : Int32) + (fss_v13_2 q0)) else ((19 : Int32) + (fss_v13_2 q0))))))))))))))))))))
def Qss (Z : State) (q0 : Int64) (h0 : Heap) (n0 : Nat) : QT := fun v h L => (v = some (.int (fss q0))) ∧ (Fr n0 L) ∧ (h = h0)
theorem rmss (l : Launch) (Z : State) (a0 : Array Value) (hw : TW a0 Z) (ws : List Jvm.Cond) (q0 : Int64) (h0 : Heap) (n0 : Nat) (Z0 : n0 ≤ h0.size) :
  MF l mN32 jdk_35_method_15_code 6 (some .int) ws (rmm 0 0 0 0) #[.long q0] Z h0 (Qss Z q0 h0 n0) := by
 refine MF.of (plainFor_of_name pn_0) ?_
 intro p e s m below meth c s₁ QQ hy hml hown hZ X0 e0 hrt hlk hnm hQQ
 have hx := hy.1
 have hby := hy.2
 have N0 := Fr.nil n0
 refine Ends.i #[jv q0, ss, uu, uu, uu, uu] (oG X0 hy d21_0 1 1 rfl (oxp X0 hy d21_1 2 #[jv q0, ss, iv 1, uu, uu, uu] rfl (oE X0 hy d21_2 3 rfl (oJ X0 hy d21_3 4 0 rfl (oY X0 hy d21_4 5 ?_)))))
 have J13_444 : (∀ (v13_1 : Int64) (hv13_1 : v13_1 = (if q0 < (0 : Int64) then q0 else (-q0))) (v13_2 : Int32) (hv13_2 : v13_2 = (if q0 < (0 : Int64) then (1 : Int32) else (0 : Int32))), Ends p e below QQ (s₁.setTop (mkF m 13 #[jv v13_1, ss, iv v13_2, uu, uu, uu] []))) → Ends p e below QQ (s₁.setTop (mkF m 5 #[jv q0, ss, iv 1, uu, uu, uu] [(.int (XT.cmpL q0 (0 : Int64)))])) := by
  intro hJ
  by_cases hc5_445 : q0 < (0 : Int64)
  ·refine Ends.step (fun _ k => XS.ifYes X0.here hx rfl (pc0 := 5) (pc' := 13) rfl (hb hby d21_5) rfl (XT.ll_lt_t hc5_445) (by decide) (by decide) k) ?_
   exact hJ _ (by simp only [if_pos hc5_445]) _ (by simp only [if_pos hc5_445])
  ·refine oxh X0 hy d21_5 8 (XT.ll_lt_f hc5_445) (oG X0 hy d21_8 9 0 rfl (oxp X0 hy d21_9 10 #[jv q0, ss, iv 0, uu, uu, uu] rfl (oE X0 hy d21_10 11 rfl (oX X0 hy d21_11 12 ?_))))
   refine Ends.step (fun _ k => XT.lstoreN X0.here hx rfl (hb hby d21_12) rfl (l' := #[jv (-q0), ss, iv 0, uu, uu, uu]) rfl k) ?_
   exact hJ _ (by simp only [if_neg hc5_445]) _ (by simp only [if_neg hc5_445])
 refine J13_444 fun v13_1 hv13_1 v13_2 hv13_2 => ?_
 have dv13_1 : fss_v13_1 q0 = v13_1 := by
  simp only [fss_v13_1]
  exact hv13_1.symm
 have dv13_2 : fss_v13_2 q0 = v13_2 := by
  simp only [fss_v13_2]
  exact hv13_2.symm
 show Ends p e below QQ (s₁.setTop (mkF m 13 #[jv v13_1, ss, iv v13_2, uu, uu, uu] []))
 refine oJ2 X0 hy hown hZ hw d21_13 16 (-10) 131 rfl (oxr X0 hy d21_16 17 #[jv v13_1, ss, iv v13_2, jv (-10), ss, uu] rfl (oG X0 hy d21_17 18 1 rfl (oxo X0 hy d21_18 20 #[jv v13_1, ss, iv v13_2, jv (-10), ss, iv 1] rfl (oD X0 hy d21_20 22 rfl (oH X0 hy d21_22 24 19 rfl (oxi X0 hy d21_24 27 (XT.ii_ge_f (by decide)) (oE X0 hy d21_27 28 rfl (oE X0 hy d21_28 29 rfl (oY X0 hy d21_29 30 ?_)))))))))
 by_cases hc30_446 : (-10 : Int64) < v13_1
 ·refine oxh X0 hy d21_30 33 (XT.ll_le_f hc30_446) (oD X0 hy d21_33 35 rfl (oC X0 hy d21_35 36 rfl (oK X0 hy d21_36 37 ?_)))
  exact fI X0 hy hrt hlk hQQ d21_37 rfl (Or.inl rfl) e0 (by decide) ⟨(by simp only [fss, dv13_1, dv13_2, if_pos hc30_446]), N0, rfl⟩
 ·refine oxk X0 hy d21_30 38 (XT.ll_le_t hc30_446) (oJ2 X0 hy hown hZ hw d21_38 41 10 235 rfl (oE X0 hy d21_41 42 rfl (oU X0 hy d21_42 43 ?_)))
  show Ends p e below QQ (s₁.setTop (mkF m 43 #[jv v13_1, ss, iv v13_2, jv (-10), ss, iv 1] [.long (-100)]))
  refine oxr X0 hy d21_43 44 #[jv v13_1, ss, iv v13_2, jv (-100), ss, iv 1] rfl (oxz X0 hy d21_44 47 #[jv v13_1, ss, iv v13_2, jv (-100), ss, iv 2] 1 rfl rfl rfl (oxm X0 hy d21_47 20 (oD X0 hy d21_20 22 rfl (oH X0 hy d21_22 24 19 rfl (oxi X0 hy d21_24 27 (XT.ii_ge_f (by decide)) (oE X0 hy d21_27 28 rfl (oE X0 hy d21_28 29 rfl (oY X0 hy d21_29 30 ?_))))))))
  by_cases hc30_447 : (-100 : Int64) < v13_1
  ·refine oxh X0 hy d21_30 33 (XT.ll_le_f hc30_447) (oD X0 hy d21_33 35 rfl (oC X0 hy d21_35 36 rfl (oK X0 hy d21_36 37 ?_)))
   exact fI X0 hy hrt hlk hQQ d21_37 rfl (Or.inl rfl) e0 (by decide) ⟨(by simp only [fss, dv13_1, dv13_2, if_neg hc30_446, if_pos hc30_447]), N0, rfl⟩
  ·refine oxk X0 hy d21_30 38 (XT.ll_le_t hc30_447) (oJ2 X0 hy hown hZ hw d21_38 41 10 235 rfl (oE X0 hy d21_41 42 rfl (oU X0 hy d21_42 43 ?_)))
   show Ends p e below QQ (s₁.setTop (mkF m 43 #[jv v13_1, ss, iv v13_2, jv (-100), ss, iv 2] [.long (-1000)]))
   refine oxr X0 hy d21_43 44 #[jv v13_1, ss, iv v13_2, jv (-1000), ss, iv 2] rfl (oxz X0 hy d21_44 47 #[jv v13_1, ss, iv v13_2, jv (-1000), ss, iv 3] 1 rfl rfl rfl (oxm X0 hy d21_47 20 (oD X0 hy d21_20 22 rfl (oH X0 hy d21_22 24 19 rfl (oxi X0 hy d21_24 27 (XT.ii_ge_f (by decide)) (oE X0 hy d21_27 28 rfl (oE X0 hy d21_28 29 rfl (oY X0 hy d21_29 30 ?_))))))))
   by_cases hc30_448 : (-1000 : Int64) < v13_1
   ·refine oxh X0 hy d21_30 33 (XT.ll_le_f hc30_448) (oD X0 hy d21_33 35 rfl (oC X0 hy d21_35 36 rfl (oK X0 hy d21_36 37 ?_)))
    exact fI X0 hy hrt hlk hQQ d21_37 rfl (Or.inl rfl) e0 (by decide) ⟨(by simp only [fss, dv13_1, dv13_2, if_neg hc30_446, if_neg hc30_447, if_pos hc30_448]), N0, rfl⟩
   ·refine oxk X0 hy d21_30 38 (XT.ll_le_t hc30_448) (oJ2 X0 hy hown hZ hw d21_38 41 10 235 rfl (oE X0 hy d21_41 42 rfl (oU X0 hy d21_42 43 ?_)))
    show Ends p e below QQ (s₁.setTop (mkF m 43 #[jv v13_1, ss, iv v13_2, jv (-1000), ss, iv 3] [.long (-10000)]))
    refine oxr X0 hy d21_43 44 #[jv v13_1, ss, iv v13_2, jv (-10000), ss, iv 3] rfl (oxz X0 hy d21_44 47 #[jv v13_1, ss, iv v13_2, jv (-10000), ss, iv 4] 1 rfl rfl rfl (oxm X0 hy d21_47 20 (oD X0 hy d21_20 22 rfl (oH X0 hy d21_22 24 19 rfl (oxi X0 hy d21_24 27 (XT.ii_ge_f (by decide)) (oE X0 hy d21_27 28 rfl (oE X0 hy d21_28 29 rfl (oY X0 hy d21_29 30 ?_))))))))
    by_cases hc30_449 : (-10000 : Int64) < v13_1
    ·refine oxh X0 hy d21_30 33 (XT.ll_le_f hc30_449) (oD X0 hy d21_33 35 rfl (oC X0 hy d21_35 36 rfl (oK X0 hy d21_36 37 ?_)))
     exact fI X0 hy hrt hlk hQQ d21_37 rfl (Or.inl rfl) e0 (by decide) ⟨(by simp only [fss, dv13_1, dv13_2, if_neg hc30_446, if_neg hc30_447, if_neg hc30_448, if_pos hc30_449]), N0, rfl⟩
    ·refine oxk X0 hy d21_30 38 (XT.ll_le_t hc30_449) (oJ2 X0 hy hown hZ hw d21_38 41 10 235 rfl (oE X0 hy d21_41 42 rfl (oU X0 hy d21_42 43 ?_)))
     show Ends p e below QQ (s₁.setTop (mkF m 43 #[jv v13_1, ss, iv v13_2, jv (-10000), ss, iv 4] [.long (-100000)]))
     refine oxr X0 hy d21_43 44 #[jv v13_1, ss, iv v13_2, jv (-100000), ss, iv 4] rfl (oxz X0 hy d21_44 47 #[jv v13_1, ss, iv v13_2, jv (-100000), ss, iv 5] 1 rfl rfl rfl (oxm X0 hy d21_47 20 (oD X0 hy d21_20 22 rfl (oH X0 hy d21_22 24 19 rfl (oxi X0 hy d21_24 27 (XT.ii_ge_f (by decide)) (oE X0 hy d21_27 28 rfl (oE X0 hy d21_28 29 rfl (oY X0 hy d21_29 30 ?_))))))))
     by_cases hc30_450 : (-100000 : Int64) < v13_1
     ·refine oxh X0 hy d21_30 33 (XT.ll_le_f hc30_450) (oD X0 hy d21_33 35 rfl (oC X0 hy d21_35 36 rfl (oK X0 hy d21_36 37 ?_)))
      exact fI X0 hy hrt hlk hQQ d21_37 rfl (Or.inl rfl) e0 (by decide) ⟨(by simp only [fss, dv13_1, dv13_2, if_neg hc30_446, if_neg hc30_447, if_neg hc30_448, if_neg hc30_449, if_pos hc30_450]), N0, rfl⟩
     ·refine oxk X0 hy d21_30 38 (XT.ll_le_t hc30_450) (oJ2 X0 hy hown hZ hw d21_38 41 10 235 rfl (oE X0 hy d21_41 42 rfl (oU X0 hy d21_42 43 ?_)))
      show Ends p e below QQ (s₁.setTop (mkF m 43 #[jv v13_1, ss, iv v13_2, jv (-100000), ss, iv 5] [.long (-1000000)]))
      refine oxr X0 hy d21_43 44 #[jv v13_1, ss, iv v13_2, jv (-1000000), ss, iv 5] rfl (oxz X0 hy d21_44 47 #[jv v13_1, ss, iv v13_2, jv (-1000000), ss, iv 6] 1 rfl rfl rfl (oxm X0 hy d21_47 20 (oD X0 hy d21_20 22 rfl (oH X0 hy d21_22 24 19 rfl (oxi X0 hy d21_24 27 (XT.ii_ge_f (by decide)) (oE X0 hy d21_27 28 rfl (oE X0 hy d21_28 29 rfl (oY X0 hy d21_29 30 ?_))))))))
      by_cases hc30_451 : (-1000000 : Int64) < v13_1
      ·refine oxh X0 hy d21_30 33 (XT.ll_le_f hc30_451) (oD X0 hy d21_33 35 rfl (oC X0 hy d21_35 36 rfl (oK X0 hy d21_36 37 ?_)))
       exact fI X0 hy hrt hlk hQQ d21_37 rfl (Or.inl rfl) e0 (by decide) ⟨(by simp only [fss, dv13_1, dv13_2, if_neg hc30_446, if_neg hc30_447, if_neg hc30_448, if_neg hc30_449, if_neg hc30_450, if_pos hc30_451]), N0, rfl⟩
      ·refine oxk X0 hy d21_30 38 (XT.ll_le_t hc30_451) (oJ2 X0 hy hown hZ hw d21_38 41 10 235 rfl (oE X0 hy d21_41 42 rfl (oU X0 hy d21_42 43 ?_)))
       show Ends p e below QQ (s₁.setTop (mkF m 43 #[jv v13_1, ss, iv v13_2, jv (-1000000), ss, iv 6] [.long (-10000000)]))
       refine oxr X0 hy d21_43 44 #[jv v13_1, ss, iv v13_2, jv (-10000000), ss, iv 6] rfl (oxz X0 hy d21_44 47 #[jv v13_1, ss, iv v13_2, jv (-10000000), ss, iv 7] 1 rfl rfl rfl (oxm X0 hy d21_47 20 (oD X0 hy d21_20 22 rfl (oH X0 hy d21_22 24 19 rfl (oxi X0 hy d21_24 27 (XT.ii_ge_f (by decide)) (oE X0 hy d21_27 28 rfl (oE X0 hy d21_28 29 rfl (oY X0 hy d21_29 30 ?_))))))))
       by_cases hc30_452 : (-10000000 : Int64) < v13_1
       ·refine oxh X0 hy d21_30 33 (XT.ll_le_f hc30_452) (oD X0 hy d21_33 35 rfl (oC X0 hy d21_35 36 rfl (oK X0 hy d21_36 37 ?_)))
        exact fI X0 hy hrt hlk hQQ d21_37 rfl (Or.inl rfl) e0 (by decide) ⟨(by simp only [fss, dv13_1, dv13_2, if_neg hc30_446, if_neg hc30_447, if_neg hc30_448, if_neg hc30_449, if_neg hc30_450, if_neg hc30_451, if_pos hc30_452]), N0, rfl⟩
       ·refine oxk X0 hy d21_30 38 (XT.ll_le_t hc30_452) (oJ2 X0 hy hown hZ hw d21_38 41 10 235 rfl (oE X0 hy d21_41 42 rfl (oU X0 hy d21_42 43 ?_)))
        show Ends p e below QQ (s₁.setTop (mkF m 43 #[jv v13_1, ss, iv v13_2, jv (-10000000), ss, iv 7] [.long (-100000000)]))
        refine oxr X0 hy d21_43 44 #[jv v13_1, ss, iv v13_2, jv (-100000000), ss, iv 7] rfl (oxz X0 hy d21_44 47 #[jv v13_1, ss, iv v13_2, jv (-100000000), ss, iv 8] 1 rfl rfl rfl (oxm X0 hy d21_47 20 (oD X0 hy d21_20 22 rfl (oH X0 hy d21_22 24 19 rfl (oxi X0 hy d21_24 27 (XT.ii_ge_f (by decide)) (oE X0 hy d21_27 28 rfl (oE X0 hy d21_28 29 rfl (oY X0 hy d21_29 30 ?_))))))))
        by_cases hc30_453 : (-100000000 : Int64) < v13_1
        ·refine oxh X0 hy d21_30 33 (XT.ll_le_f hc30_453) (oD X0 hy d21_33 35 rfl (oC X0 hy d21_35 36 rfl (oK X0 hy d21_36 37 ?_)))
         exact fI X0 hy hrt hlk hQQ d21_37 rfl (Or.inl rfl) e0 (by decide) ⟨(by simp only [fss, dv13_1, dv13_2, if_neg hc30_446, if_neg hc30_447, if_neg hc30_448, if_neg hc30_449, if_neg hc30_450, if_neg hc30_451, if_neg hc30_452, if_pos hc30_453]), N0, rfl⟩
        ·refine oxk X0 hy d21_30 38 (XT.ll_le_t hc30_453) (oJ2 X0 hy hown hZ hw d21_38 41 10 235 rfl (oE X0 hy d21_41 42 rfl (oU X0 hy d21_42 43 ?_)))
         show Ends p e below QQ (s₁.setTop (mkF m 43 #[jv v13_1, ss, iv v13_2, jv (-100000000), ss, iv 8] [.long (-1000000000)]))
         refine oxr X0 hy d21_43 44 #[jv v13_1, ss, iv v13_2, jv (-1000000000), ss, iv 8] rfl (oxz X0 hy d21_44 47 #[jv v13_1, ss, iv v13_2, jv (-1000000000), ss, iv 9] 1 rfl rfl rfl (oxm X0 hy d21_47 20 (oD X0 hy d21_20 22 rfl (oH X0 hy d21_22 24 19 rfl (oxi X0 hy d21_24 27 (XT.ii_ge_f (by decide)) (oE X0 hy d21_27 28 rfl (oE X0 hy d21_28 29 rfl (oY X0 hy d21_29 30 ?_))))))))
         by_cases hc30_454 : (-1000000000 : Int64) < v13_1
         ·refine oxh X0 hy d21_30 33 (XT.ll_le_f hc30_454) (oD X0 hy d21_33 35 rfl (oC X0 hy d21_35 36 rfl (oK X0 hy d21_36 37 ?_)))
          exact fI X0 hy hrt hlk hQQ d21_37 rfl (Or.inl rfl) e0 (by decide) ⟨(by simp only [fss, dv13_1, dv13_2, if_neg hc30_446, if_neg hc30_447, if_neg hc30_448, if_neg hc30_449, if_neg hc30_450, if_neg hc30_451, if_neg hc30_452, if_neg hc30_453, if_pos hc30_454]), N0, rfl⟩
         ·refine oxk X0 hy d21_30 38 (XT.ll_le_t hc30_454) (oJ2 X0 hy hown hZ hw d21_38 41 10 235 rfl (oE X0 hy d21_41 42 rfl (oU X0 hy d21_42 43 ?_)))
          show Ends p e below QQ (s₁.setTop (mkF m 43 #[jv v13_1, ss, iv v13_2, jv (-1000000000), ss, iv 9] [.long (-10000000000)]))
          refine oxr X0 hy d21_43 44 #[jv v13_1, ss, iv v13_2, jv (-10000000000), ss, iv 9] rfl (oxz X0 hy d21_44 47 #[jv v13_1, ss, iv v13_2, jv (-10000000000), ss, iv 10] 1 rfl rfl rfl (oxm X0 hy d21_47 20 (oD X0 hy d21_20 22 rfl (oH X0 hy d21_22 24 19 rfl (oxi X0 hy d21_24 27 (XT.ii_ge_f (by decide)) (oE X0 hy d21_27 28 rfl (oE X0 hy d21_28 29 rfl (oY X0 hy d21_29 30 ?_))))))))
          by_cases hc30_455 : (-10000000000 : Int64) < v13_1
          ·refine oxh X0 hy d21_30 33 (XT.ll_le_f hc30_455) (oD X0 hy d21_33 35 rfl (oC X0 hy d21_35 36 rfl (oK X0 hy d21_36 37 ?_)))
           exact fI X0 hy hrt hlk hQQ d21_37 rfl (Or.inl rfl) e0 (by decide) ⟨(by simp only [fss, dv13_1, dv13_2, if_neg hc30_446, if_neg hc30_447, if_neg hc30_448, if_neg hc30_449, if_neg hc30_450, if_neg hc30_451, if_neg hc30_452, if_neg hc30_453, if_neg hc30_454, if_pos hc30_455]), N0, rfl⟩
          ·refine oxk X0 hy d21_30 38 (XT.ll_le_t hc30_455) (oJ2 X0 hy hown hZ hw d21_38 41 10 235 rfl (oE X0 hy d21_41 42 rfl (oU X0 hy d21_42 43 ?_)))
           show Ends p e below QQ (s₁.setTop (mkF m 43 #[jv v13_1, ss, iv v13_2, jv (-10000000000), ss, iv 10] [.long (-100000000000)]))
           refine oxr X0 hy d21_43 44 #[jv v13_1, ss, iv v13_2, jv (-100000000000), ss, iv 10] rfl (oxz X0 hy d21_44 47 #[jv v13_1, ss, iv v13_2, jv (-100000000000), ss, iv 11] 1 rfl rfl rfl (oxm X0 hy d21_47 20 (oD X0 hy d21_20 22 rfl (oH X0 hy d21_22 24 19 rfl (oxi X0 hy d21_24 27 (XT.ii_ge_f (by decide)) (oE X0 hy d21_27 28 rfl (oE X0 hy d21_28 29 rfl (oY X0 hy d21_29 30 ?_))))))))
           by_cases hc30_456 : (-100000000000 : Int64) < v13_1
           ·refine oxh X0 hy d21_30 33 (XT.ll_le_f hc30_456) (oD X0 hy d21_33 35 rfl (oC X0 hy d21_35 36 rfl (oK X0 hy d21_36 37 ?_)))
            exact fI X0 hy hrt hlk hQQ d21_37 rfl (Or.inl rfl) e0 (by decide) ⟨(by simp only [fss, dv13_1, dv13_2, if_neg hc30_446, if_neg hc30_447, if_neg hc30_448, if_neg hc30_449, if_neg hc30_450, if_neg hc30_451, if_neg hc30_452, if_neg hc30_453, if_neg hc30_454, if_neg hc30_455, if_pos hc30_456]), N0, rfl⟩
           ·refine oxk X0 hy d21_30 38 (XT.ll_le_t hc30_456) (oJ2 X0 hy hown hZ hw d21_38 41 10 235 rfl (oE X0 hy d21_41 42 rfl (oU X0 hy d21_42 43 ?_)))
            show Ends p e below QQ (s₁.setTop (mkF m 43 #[jv v13_1, ss, iv v13_2, jv (-100000000000), ss, iv 11] [.long (-1000000000000)]))
            refine oxr X0 hy d21_43 44 #[jv v13_1, ss, iv v13_2, jv (-1000000000000), ss, iv 11] rfl (oxz X0 hy d21_44 47 #[jv v13_1, ss, iv v13_2, jv (-1000000000000), ss, iv 12] 1 rfl rfl rfl (oxm X0 hy d21_47 20 (oD X0 hy d21_20 22 rfl (oH X0 hy d21_22 24 19 rfl (oxi X0 hy d21_24 27 (XT.ii_ge_f (by decide)) (oE X0 hy d21_27 28 rfl (oE X0 hy d21_28 29 rfl (oY X0 hy d21_29 30 ?_))))))))
            by_cases hc30_457 : (-1000000000000 : Int64) < v13_1
            ·refine oxh X0 hy d21_30 33 (XT.ll_le_f hc30_457) (oD X0 hy d21_33 35 rfl (oC X0 hy d21_35 36 rfl (oK X0 hy d21_36 37 ?_)))
             exact fI X0 hy hrt hlk hQQ d21_37 rfl (Or.inl rfl) e0 (by decide) ⟨(by simp only [fss, dv13_1, dv13_2, if_neg hc30_446, if_neg hc30_447, if_neg hc30_448, if_neg hc30_449, if_neg hc30_450, if_neg hc30_451, if_neg hc30_452, if_neg hc30_453, if_neg hc30_454, if_neg hc30_455, if_neg hc30_456, if_pos hc30_457]), N0, rfl⟩
            ·refine oxk X0 hy d21_30 38 (XT.ll_le_t hc30_457) (oJ2 X0 hy hown hZ hw d21_38 41 10 235 rfl (oE X0 hy d21_41 42 rfl (oU X0 hy d21_42 43 ?_)))
             show Ends p e below QQ (s₁.setTop (mkF m 43 #[jv v13_1, ss, iv v13_2, jv (-1000000000000), ss, iv 12] [.long (-10000000000000)]))
             refine oxr X0 hy d21_43 44 #[jv v13_1, ss, iv v13_2, jv (-10000000000000), ss, iv 12] rfl (oxz X0 hy d21_44 47 #[jv v13_1, ss, iv v13_2, jv (-10000000000000), ss, iv 13] 1 rfl rfl rfl (oxm X0 hy d21_47 20 (oD X0 hy d21_20 22 rfl (oH X0 hy d21_22 24 19 rfl (oxi X0 hy d21_24 27 (XT.ii_ge_f (by decide)) (oE X0 hy d21_27 28 rfl (oE X0 hy d21_28 29 rfl (oY X0 hy d21_29 30 ?_))))))))
             by_cases hc30_458 : (-10000000000000 : Int64) < v13_1
             ·refine oxh X0 hy d21_30 33 (XT.ll_le_f hc30_458) (oD X0 hy d21_33 35 rfl (oC X0 hy d21_35 36 rfl (oK X0 hy d21_36 37 ?_)))
              exact fI X0 hy hrt hlk hQQ d21_37 rfl (Or.inl rfl) e0 (by decide) ⟨(by simp only [fss, dv13_1, dv13_2, if_neg hc30_446, if_neg hc30_447, if_neg hc30_448, if_neg hc30_449, if_neg hc30_450, if_neg hc30_451, if_neg hc30_452, if_neg hc30_453, if_neg hc30_454, if_neg hc30_455, if_neg hc30_456, if_neg hc30_457, if_pos hc30_458]), N0, rfl⟩
             ·refine oxk X0 hy d21_30 38 (XT.ll_le_t hc30_458) (oJ2 X0 hy hown hZ hw d21_38 41 10 235 rfl (oE X0 hy d21_41 42 rfl (oU X0 hy d21_42 43 ?_)))
              show Ends p e below QQ (s₁.setTop (mkF m 43 #[jv v13_1, ss, iv v13_2, jv (-10000000000000), ss, iv 13] [.long (-100000000000000)]))
              refine oxr X0 hy d21_43 44 #[jv v13_1, ss, iv v13_2, jv (-100000000000000), ss, iv 13] rfl (oxz X0 hy d21_44 47 #[jv v13_1, ss, iv v13_2, jv (-100000000000000), ss, iv 14] 1 rfl rfl rfl (oxm X0 hy d21_47 20 (oD X0 hy d21_20 22 rfl (oH X0 hy d21_22 24 19 rfl (oxi X0 hy d21_24 27 (XT.ii_ge_f (by decide)) (oE X0 hy d21_27 28 rfl (oE X0 hy d21_28 29 rfl (oY X0 hy d21_29 30 ?_))))))))
              by_cases hc30_459 : (-100000000000000 : Int64) < v13_1
              ·refine oxh X0 hy d21_30 33 (XT.ll_le_f hc30_459) (oD X0 hy d21_33 35 rfl (oC X0 hy d21_35 36 rfl (oK X0 hy d21_36 37 ?_)))
               exact fI X0 hy hrt hlk hQQ d21_37 rfl (Or.inl rfl) e0 (by decide) ⟨(by simp only [fss, dv13_1, dv13_2, if_neg hc30_446, if_neg hc30_447, if_neg hc30_448, if_neg hc30_449, if_neg hc30_450, if_neg hc30_451, if_neg hc30_452, if_neg hc30_453, if_neg hc30_454, if_neg hc30_455, if_neg hc30_456, if_neg hc30_457, if_neg hc30_458, if_pos hc30_459]), N0, rfl⟩
              ·refine oxk X0 hy d21_30 38 (XT.ll_le_t hc30_459) (oJ2 X0 hy hown hZ hw d21_38 41 10 235 rfl (oE X0 hy d21_41 42 rfl (oU X0 hy d21_42 43 ?_)))
               show Ends p e below QQ (s₁.setTop (mkF m 43 #[jv v13_1, ss, iv v13_2, jv (-100000000000000), ss, iv 14] [.long (-1000000000000000)]))
               refine oxr X0 hy d21_43 44 #[jv v13_1, ss, iv v13_2, jv (-1000000000000000), ss, iv 14] rfl (oxz X0 hy d21_44 47 #[jv v13_1, ss, iv v13_2, jv (-1000000000000000), ss, iv 15] 1 rfl rfl rfl (oxm X0 hy d21_47 20 (oD X0 hy d21_20 22 rfl (oH X0 hy d21_22 24 19 rfl (oxi X0 hy d21_24 27 (XT.ii_ge_f (by decide)) (oE X0 hy d21_27 28 rfl (oE X0 hy d21_28 29 rfl (oY X0 hy d21_29 30 ?_))))))))
               by_cases hc30_460 : (-1000000000000000 : Int64) < v13_1
               ·refine oxh X0 hy d21_30 33 (XT.ll_le_f hc30_460) (oD X0 hy d21_33 35 rfl (oC X0 hy d21_35 36 rfl (oK X0 hy d21_36 37 ?_)))
                exact fI X0 hy hrt hlk hQQ d21_37 rfl (Or.inl rfl) e0 (by decide) ⟨(by simp only [fss, dv13_1, dv13_2, if_neg hc30_446, if_neg hc30_447, if_neg hc30_448, if_neg hc30_449, if_neg hc30_450, if_neg hc30_451, if_neg hc30_452, if_neg hc30_453, if_neg hc30_454, if_neg hc30_455, if_neg hc30_456, if_neg hc30_457, if_neg hc30_458, if_neg hc30_459, if_pos hc30_460]), N0, rfl⟩
               ·refine oxk X0 hy d21_30 38 (XT.ll_le_t hc30_460) (oJ2 X0 hy hown hZ hw d21_38 41 10 235 rfl (oE X0 hy d21_41 42 rfl (oU X0 hy d21_42 43 ?_)))
                show Ends p e below QQ (s₁.setTop (mkF m 43 #[jv v13_1, ss, iv v13_2, jv (-1000000000000000), ss, iv 15] [.long (-10000000000000000)]))
                refine oxr X0 hy d21_43 44 #[jv v13_1, ss, iv v13_2, jv (-10000000000000000), ss, iv 15] rfl (oxz X0 hy d21_44 47 #[jv v13_1, ss, iv v13_2, jv (-10000000000000000), ss, iv 16] 1 rfl rfl rfl (oxm X0 hy d21_47 20 (oD X0 hy d21_20 22 rfl (oH X0 hy d21_22 24 19 rfl (oxi X0 hy d21_24 27 (XT.ii_ge_f (by decide)) (oE X0 hy d21_27 28 rfl (oE X0 hy d21_28 29 rfl (oY X0 hy d21_29 30 ?_))))))))
                by_cases hc30_461 : (-10000000000000000 : Int64) < v13_1
                ·refine oxh X0 hy d21_30 33 (XT.ll_le_f hc30_461) (oD X0 hy d21_33 35 rfl (oC X0 hy d21_35 36 rfl (oK X0 hy d21_36 37 ?_)))
                 exact fI X0 hy hrt hlk hQQ d21_37 rfl (Or.inl rfl) e0 (by decide) ⟨(by simp only [fss, dv13_1, dv13_2, if_neg hc30_446, if_neg hc30_447, if_neg hc30_448, if_neg hc30_449, if_neg hc30_450, if_neg hc30_451, if_neg hc30_452, if_neg hc30_453, if_neg hc30_454, if_neg hc30_455, if_neg hc30_456, if_neg hc30_457, if_neg hc30_458, if_neg hc30_459, if_neg hc30_460, if_pos hc30_461]), N0, rfl⟩
                ·refine oxk X0 hy d21_30 38 (XT.ll_le_t hc30_461) (oJ2 X0 hy hown hZ hw d21_38 41 10 235 rfl (oE X0 hy d21_41 42 rfl (oU X0 hy d21_42 43 ?_)))
                 show Ends p e below QQ (s₁.setTop (mkF m 43 #[jv v13_1, ss, iv v13_2, jv (-10000000000000000), ss, iv 16] [.long (-100000000000000000)]))
                 refine oxr X0 hy d21_43 44 #[jv v13_1, ss, iv v13_2, jv (-100000000000000000), ss, iv 16] rfl (oxz X0 hy d21_44 47 #[jv v13_1, ss, iv v13_2, jv (-100000000000000000), ss, iv 17] 1 rfl rfl rfl (oxm X0 hy d21_47 20 (oD X0 hy d21_20 22 rfl (oH X0 hy d21_22 24 19 rfl (oxi X0 hy d21_24 27 (XT.ii_ge_f (by decide)) (oE X0 hy d21_27 28 rfl (oE X0 hy d21_28 29 rfl (oY X0 hy d21_29 30 ?_))))))))
                 by_cases hc30_462 : (-100000000000000000 : Int64) < v13_1
                 ·refine oxh X0 hy d21_30 33 (XT.ll_le_f hc30_462) (oD X0 hy d21_33 35 rfl (oC X0 hy d21_35 36 rfl (oK X0 hy d21_36 37 ?_)))
                  exact fI X0 hy hrt hlk hQQ d21_37 rfl (Or.inl rfl) e0 (by decide) ⟨(by simp only [fss, dv13_1, dv13_2, if_neg hc30_446, if_neg hc30_447, if_neg hc30_448, if_neg hc30_449, if_neg hc30_450, if_neg hc30_451, if_neg hc30_452, if_neg hc30_453, if_neg hc30_454, if_neg hc30_455, if_neg hc30_456, if_neg hc30_457, if_neg hc30_458, if_neg hc30_459, if_neg hc30_460, if_neg hc30_461, if_pos hc30_462]), N0, rfl⟩
                 ·refine oxk X0 hy d21_30 38 (XT.ll_le_t hc30_462) (oJ2 X0 hy hown hZ hw d21_38 41 10 235 rfl (oE X0 hy d21_41 42 rfl (oU X0 hy d21_42 43 ?_)))
                  show Ends p e below QQ (s₁.setTop (mkF m 43 #[jv v13_1, ss, iv v13_2, jv (-100000000000000000), ss, iv 17] [.long (-1000000000000000000)]))
                  refine oxr X0 hy d21_43 44 #[jv v13_1, ss, iv v13_2, jv (-1000000000000000000), ss, iv 17] rfl (oxz X0 hy d21_44 47 #[jv v13_1, ss, iv v13_2, jv (-1000000000000000000), ss, iv 18] 1 rfl rfl rfl (oxm X0 hy d21_47 20 (oD X0 hy d21_20 22 rfl (oH X0 hy d21_22 24 19 rfl (oxi X0 hy d21_24 27 (XT.ii_ge_f (by decide)) (oE X0 hy d21_27 28 rfl (oE X0 hy d21_28 29 rfl (oY X0 hy d21_29 30 ?_))))))))
                  by_cases hc30_463 : (-1000000000000000000 : Int64) < v13_1
                  ·refine oxh X0 hy d21_30 33 (XT.ll_le_f hc30_463) (oD X0 hy d21_33 35 rfl (oC X0 hy d21_35 36 rfl (oK X0 hy d21_36 37 ?_)))
                   exact fI X0 hy hrt hlk hQQ d21_37 rfl (Or.inl rfl) e0 (by decide) ⟨(by simp only [fss, dv13_1, dv13_2, if_neg hc30_446, if_neg hc30_447, if_neg hc30_448, if_neg hc30_449, if_neg hc30_450, if_neg hc30_451, if_neg hc30_452, if_neg hc30_453, if_neg hc30_454, if_neg hc30_455, if_neg hc30_456, if_neg hc30_457, if_neg hc30_458, if_neg hc30_459, if_neg hc30_460, if_neg hc30_461, if_neg hc30_462, if_pos hc30_463]), N0, rfl⟩
                  ·refine oxk X0 hy d21_30 38 (XT.ll_le_t hc30_463) (oJ2 X0 hy hown hZ hw d21_38 41 10 235 rfl (oE X0 hy d21_41 42 rfl (oU X0 hy d21_42 43 ?_)))
                   show Ends p e below QQ (s₁.setTop (mkF m 43 #[jv v13_1, ss, iv v13_2, jv (-1000000000000000000), ss, iv 18] [.long 8446744073709551616]))
                   refine oxr X0 hy d21_43 44 #[jv v13_1, ss, iv v13_2, jv 8446744073709551616, ss, iv 18] rfl (oxz X0 hy d21_44 47 #[jv v13_1, ss, iv v13_2, jv 8446744073709551616, ss, iv 19] 1 rfl rfl rfl (oxm X0 hy d21_47 20 (oD X0 hy d21_20 22 rfl (oH X0 hy d21_22 24 19 rfl (oxl X0 hy d21_24 50 (XT.ii_ge_t (by decide)) (oH X0 hy d21_50 52 19 rfl (oC X0 hy d21_52 53 rfl (oK X0 hy d21_53 54 ?_))))))))
                   exact fI X0 hy hrt hlk hQQ d21_54 rfl (Or.inl rfl) e0 (by decide) ⟨(by simp only [fss, dv13_1, dv13_2, if_neg hc30_446, if_neg hc30_447, if_neg hc30_448, if_neg hc30_449, if_neg hc30_450, if_neg hc30_451, if_neg hc30_452, if_neg hc30_453, if_neg hc30_454, if_neg hc30_455, if_neg hc30_456, if_neg hc30_457, if_neg hc30_458, if_neg hc30_459, if_neg hc30_460, if_neg hc30_461, if_neg hc30_462, if_neg hc30_463]), N0, rfl⟩
theorem own_v13 (q : Int64) : (fss_v13_1 q).toInt = -(own_M q) := by
  unfold fss_v13_1
  by_cases h : q < (0 : Int64)
  · rw [if_pos h]
    have z := own_hiN h
    rw [Int.pow_zero, Int.ediv_one] at z
    exact z.1
  · rw [if_neg h]
    have z := own_hiP h
    rw [Int.pow_zero, Int.ediv_one] at z
    exact z.1
theorem own_d13 (q : Int64) : (fss_v13_2 q).toInt = (if q.toInt < 0 then 1 else 0) ∧ 0 ≤ (if q.toInt < 0 then (1 : Int) else 0) ∧ (if q.toInt < 0 then (1 : Int) else 0) ≤ 1 := by
  unfold fss_v13_2
  have e : (0 : Int64).toInt = 0 := by decide
  by_cases h : q < (0 : Int64)
  · have z := (own_hiN h).2
    rw [if_pos h, if_pos z]; exact ⟨by decide, by decide, by decide⟩
  · have z := (own_hiP h).2
    rw [if_neg h, if_neg z]; exact ⟨by decide, by decide, by decide⟩
theorem own_lt10 {M P : Int} {k : Nat} (hp : (10 : Int) ^ k = P) (h0 : 0 ≤ M) (h : M / 10 ^ k = 0) : M < P := by
  rw [← hp]
  have h1 := Int.lt_ediv_add_one_mul_self M (own_pow0 k)
  rw [h] at h1
  simpa using h1
theorem own_ge10 {M P : Int} {k : Nat} (hp : (10 : Int) ^ k = P) (h : 1 ≤ M / 10 ^ k) : P ≤ M := by
  rw [← hp]
  have h1 : (1 : Int) * 10 ^ k ≤ M := Int.le_trans (Int.mul_le_mul_of_nonneg_right h (Int.le_of_lt (own_pow0 k))) (Int.ediv_mul_le _ (Int.ne_of_gt (own_pow0 k)))
  simpa using h1
theorem own_x0 {x P : Int64} {M p : Int} (hx : x.toInt = -M) (hP : P.toInt = -p) (h : p ≤ M) : ¬ P < x := by
  rw [Int64.lt_iff_toInt_lt]; omega
theorem own_x1 {x P : Int64} {M p : Int} (hx : x.toInt = -M) (hP : P.toInt = -p) (h : M < p) : P < x := by
  rw [Int64.lt_iff_toInt_lt]; omega
theorem own_sgd {k d : Int32} {n : Nat} {sg : Int} (hd : d.toInt = sg ∧ 0 ≤ sg ∧ sg ≤ 1) (hk : k.toInt = (n : Int)) (hn : n ≤ 19) : (k + d).toInt = (n : Int) + sg := by
  have c := c_iadd k d
  have b1 := Int32.toInt_lt (k + d)
  have b2 := Int32.le_toInt (k + d)
  omega
theorem own_fssm {q : Int64} {mm : Nat} (h : own_isnd (own_M q) mm) : (fss q).toInt = mm + (if q.toInt < 0 then 1 else 0) := by
  obtain ⟨h1, h2, h3, h4⟩ := h
  have hx := own_v13 q
  have hd := own_d13 q
  have hM := own_M0 q
  unfold fss
  generalize fss_v13_1 q = x at hx ⊢
  generalize fss_v13_2 q = d at hd ⊢
  generalize own_M q = M at *
  generalize (if q.toInt < 0 then (1 : Int) else 0) = sg at *
  have hmm : mm = 1 ∨ mm = 2 ∨ mm = 3 ∨ mm = 4 ∨ mm = 5 ∨ mm = 6 ∨ mm = 7 ∨ mm = 8 ∨ mm = 9 ∨ mm = 10 ∨ mm = 11 ∨ mm = 12 ∨ mm = 13 ∨ mm = 14 ∨ mm = 15 ∨ mm = 16 ∨ mm = 17 ∨ mm = 18 ∨ mm = 19 := by omega
  rcases hmm with rfl | rfl | rfl | rfl | rfl | rfl | rfl | rfl | rfl | rfl | rfl | rfl | rfl | rfl | rfl | rfl | rfl | rfl | rfl
  · have e1 : M < 10 := own_lt10 (k := 1) (by decide) hM.1 h3
    rw [if_pos (own_x1 hx (by decide : (-10 : Int64).toInt = -10) (by omega))]
    exact own_sgd hd (by decide) (by decide)
  · have e1 : M < 100 := own_lt10 (k := 2) (by decide) hM.1 h3
    have e2 : 10 ≤ M := own_ge10 (k := 1) (by decide) (h4.resolve_left (by decide))
    rw [if_neg (own_x0 hx (by decide : (-10 : Int64).toInt = -10) (by omega)), if_pos (own_x1 hx (by decide : (-100 : Int64).toInt = -100) (by omega))]
    exact own_sgd hd (by decide) (by decide)
  · have e1 : M < 1000 := own_lt10 (k := 3) (by decide) hM.1 h3
    have e2 : 100 ≤ M := own_ge10 (k := 2) (by decide) (h4.resolve_left (by decide))
    rw [if_neg (own_x0 hx (by decide : (-10 : Int64).toInt = -10) (by omega)), if_neg (own_x0 hx (by decide : (-100 : Int64).toInt = -100) (by omega)), if_pos (own_x1 hx (by decide : (-1000 : Int64).toInt = -1000) (by omega))]
    exact own_sgd hd (by decide) (by decide)
  · have e1 : M < 10000 := own_lt10 (k := 4) (by decide) hM.1 h3
    have e2 : 1000 ≤ M := own_ge10 (k := 3) (by decide) (h4.resolve_left (by decide))
    rw [if_neg (own_x0 hx (by decide : (-10 : Int64).toInt = -10) (by omega)), if_neg (own_x0 hx (by decide : (-100 : Int64).toInt = -100) (by omega)), if_neg (own_x0 hx (by decide : (-1000 : Int64).toInt = -1000) (by omega)), if_pos (own_x1 hx (by decide : (-10000 : Int64).toInt = -10000) (by omega))]
    exact own_sgd hd (by decide) (by decide)
  · have e1 : M < 100000 := own_lt10 (k := 5) (by decide) hM.1 h3
    have e2 : 10000 ≤ M := own_ge10 (k := 4) (by decide) (h4.resolve_left (by decide))
    rw [if_neg (own_x0 hx (by decide : (-10 : Int64).toInt = -10) (by omega)), if_neg (own_x0 hx (by decide : (-100 : Int64).toInt = -100) (by omega)), if_neg (own_x0 hx (by decide : (-1000 : Int64).toInt = -1000) (by omega)), if_neg (own_x0 hx (by decide : (-10000 : Int64).toInt = -10000) (by omega)), if_pos (own_x1 hx (by decide : (-100000 : Int64).toInt = -100000) (by omega))]
    exact own_sgd hd (by decide) (by decide)
  · have e1 : M < 1000000 := own_lt10 (k := 6) (by decide) hM.1 h3
    have e2 : 100000 ≤ M := own_ge10 (k := 5) (by decide) (h4.resolve_left (by decide))
    rw [if_neg (own_x0 hx (by decide : (-10 : Int64).toInt = -10) (by omega)), if_neg (own_x0 hx (by decide : (-100 : Int64).toInt = -100) (by omega)), if_neg (own_x0 hx (by decide : (-1000 : Int64).toInt = -1000) (by omega)), if_neg (own_x0 hx (by decide : (-10000 : Int64).toInt = -10000) (by omega)), if_neg (own_x0 hx (by decide : (-100000 : Int64).toInt = -100000) (by omega)), if_pos (own_x1 hx (by decide : (-1000000 : Int64).toInt = -1000000) (by omega))]
    exact own_sgd hd (by decide) (by decide)
  · have e1 : M < 10000000 := own_lt10 (k := 7) (by decide) hM.1 h3
    have e2 : 1000000 ≤ M := own_ge10 (k := 6) (by decide) (h4.resolve_left (by decide))
    rw [if_neg (own_x0 hx (by decide : (-10 : Int64).toInt = -10) (by omega)), if_neg (own_x0 hx (by decide : (-100 : Int64).toInt = -100) (by omega)), if_neg (own_x0 hx (by decide : (-1000 : Int64).toInt = -1000) (by omega)), if_neg (own_x0 hx (by decide : (-10000 : Int64).toInt = -10000) (by omega)), if_neg (own_x0 hx (by decide : (-100000 : Int64).toInt = -100000) (by omega)), if_neg (own_x0 hx (by decide : (-1000000 : Int64).toInt = -1000000) (by omega)), if_pos (own_x1 hx (by decide : (-10000000 : Int64).toInt = -10000000) (by omega))]
    exact own_sgd hd (by decide) (by decide)
  · have e1 : M < 100000000 := own_lt10 (k := 8) (by decide) hM.1 h3
    have e2 : 10000000 ≤ M := own_ge10 (k := 7) (by decide) (h4.resolve_left (by decide))
    rw [if_neg (own_x0 hx (by decide : (-10 : Int64).toInt = -10) (by omega)), if_neg (own_x0 hx (by decide : (-100 : Int64).toInt = -100) (by omega)), if_neg (own_x0 hx (by decide : (-1000 : Int64).toInt = -1000) (by omega)), if_neg (own_x0 hx (by decide : (-10000 : Int64).toInt = -10000) (by omega)), if_neg (own_x0 hx (by decide : (-100000 : Int64).toInt = -100000) (by omega)), if_neg (own_x0 hx (by decide : (-1000000 : Int64).toInt = -1000000) (by omega)), if_neg (own_x0 hx (by decide : (-10000000 : Int64).toInt = -10000000) (by omega)), if_pos (own_x1 hx (by decide : (-100000000 : Int64).toInt = -100000000) (by omega))]
    exact own_sgd hd (by decide) (by decide)
  · have e1 : M < 1000000000 := own_lt10 (k := 9) (by decide) hM.1 h3
    have e2 : 100000000 ≤ M := own_ge10 (k := 8) (by decide) (h4.resolve_left (by decide))
    rw [if_neg (own_x0 hx (by decide : (-10 : Int64).toInt = -10) (by omega)), if_neg (own_x0 hx (by decide : (-100 : Int64).toInt = -100) (by omega)), if_neg (own_x0 hx (by decide : (-1000 : Int64).toInt = -1000) (by omega)), if_neg (own_x0 hx (by decide : (-10000 : Int64).toInt = -10000) (by omega)), if_neg (own_x0 hx (by decide : (-100000 : Int64).toInt = -100000) (by omega)), if_neg (own_x0 hx (by decide : (-1000000 : Int64).toInt = -1000000) (by omega)), if_neg (own_x0 hx (by decide : (-10000000 : Int64).toInt = -10000000) (by omega)), if_neg (own_x0 hx (by decide : (-100000000 : Int64).toInt = -100000000) (by omega)), if_pos (own_x1 hx (by decide : (-1000000000 : Int64).toInt = -1000000000) (by omega))]
    exact own_sgd hd (by decide) (by decide)
  · have e1 : M < 10000000000 := own_lt10 (k := 10) (by decide) hM.1 h3
    have e2 : 1000000000 ≤ M := own_ge10 (k := 9) (by decide) (h4.resolve_left (by decide))
    rw [if_neg (own_x0 hx (by decide : (-10 : Int64).toInt = -10) (by omega)), if_neg (own_x0 hx (by decide : (-100 : Int64).toInt = -100) (by omega)), if_neg (own_x0 hx (by decide : (-1000 : Int64).toInt = -1000) (by omega)), if_neg (own_x0 hx (by decide : (-10000 : Int64).toInt = -10000) (by omega)), if_neg (own_x0 hx (by decide : (-100000 : Int64).toInt = -100000) (by omega)), if_neg (own_x0 hx (by decide : (-1000000 : Int64).toInt = -1000000) (by omega)), if_neg (own_x0 hx (by decide : (-10000000 : Int64).toInt = -10000000) (by omega)), if_neg (own_x0 hx (by decide : (-100000000 : Int64).toInt = -100000000) (by omega)), if_neg (own_x0 hx (by decide : (-1000000000 : Int64).toInt = -1000000000) (by omega)), if_pos (own_x1 hx (by decide : (-10000000000 : Int64).toInt = -10000000000) (by omega))]
    exact own_sgd hd (by decide) (by decide)
  · have e1 : M < 100000000000 := own_lt10 (k := 11) (by decide) hM.1 h3
    have e2 : 10000000000 ≤ M := own_ge10 (k := 10) (by decide) (h4.resolve_left (by decide))
    rw [if_neg (own_x0 hx (by decide : (-10 : Int64).toInt = -10) (by omega)), if_neg (own_x0 hx (by decide : (-100 : Int64).toInt = -100) (by omega)), if_neg (own_x0 hx (by decide : (-1000 : Int64).toInt = -1000) (by omega)), if_neg (own_x0 hx (by decide : (-10000 : Int64).toInt = -10000) (by omega)), if_neg (own_x0 hx (by decide : (-100000 : Int64).toInt = -100000) (by omega)), if_neg (own_x0 hx (by decide : (-1000000 : Int64).toInt = -1000000) (by omega)), if_neg (own_x0 hx (by decide : (-10000000 : Int64).toInt = -10000000) (by omega)), if_neg (own_x0 hx (by decide : (-100000000 : Int64).toInt = -100000000) (by omega)), if_neg (own_x0 hx (by decide : (-1000000000 : Int64).toInt = -1000000000) (by omega)), if_neg (own_x0 hx (by decide : (-10000000000 : Int64).toInt = -10000000000) (by omega)), if_pos (own_x1 hx (by decide : (-100000000000 : Int64).toInt = -100000000000) (by omega))]
    exact own_sgd hd (by decide) (by decide)
  · have e1 : M < 1000000000000 := own_lt10 (k := 12) (by decide) hM.1 h3
    have e2 : 100000000000 ≤ M := own_ge10 (k := 11) (by decide) (h4.resolve_left (by decide))
    rw [if_neg (own_x0 hx (by decide : (-10 : Int64).toInt = -10) (by omega)), if_neg (own_x0 hx (by decide : (-100 : Int64).toInt = -100) (by omega)), if_neg (own_x0 hx (by decide : (-1000 : Int64).toInt = -1000) (by omega)), if_neg (own_x0 hx (by decide : (-10000 : Int64).toInt = -10000) (by omega)), if_neg (own_x0 hx (by decide : (-100000 : Int64).toInt = -100000) (by omega)), if_neg (own_x0 hx (by decide : (-1000000 : Int64).toInt = -1000000) (by omega)), if_neg (own_x0 hx (by decide : (-10000000 : Int64).toInt = -10000000) (by omega)), if_neg (own_x0 hx (by decide : (-100000000 : Int64).toInt = -100000000) (by omega)), if_neg (own_x0 hx (by decide : (-1000000000 : Int64).toInt = -1000000000) (by omega)), if_neg (own_x0 hx (by decide : (-10000000000 : Int64).toInt = -10000000000) (by omega)), if_neg (own_x0 hx (by decide : (-100000000000 : Int64).toInt = -100000000000) (by omega)), if_pos (own_x1 hx (by decide : (-1000000000000 : Int64).toInt = -1000000000000) (by omega))]
    exact own_sgd hd (by decide) (by decide)
  · have e1 : M < 10000000000000 := own_lt10 (k := 13) (by decide) hM.1 h3
    have e2 : 1000000000000 ≤ M := own_ge10 (k := 12) (by decide) (h4.resolve_left (by decide))
    rw [if_neg (own_x0 hx (by decide : (-10 : Int64).toInt = -10) (by omega)), if_neg (own_x0 hx (by decide : (-100 : Int64).toInt = -100) (by omega)), if_neg (own_x0 hx (by decide : (-1000 : Int64).toInt = -1000) (by omega)), if_neg (own_x0 hx (by decide : (-10000 : Int64).toInt = -10000) (by omega)), if_neg (own_x0 hx (by decide : (-100000 : Int64).toInt = -100000) (by omega)), if_neg (own_x0 hx (by decide : (-1000000 : Int64).toInt = -1000000) (by omega)), if_neg (own_x0 hx (by decide : (-10000000 : Int64).toInt = -10000000) (by omega)), if_neg (own_x0 hx (by decide : (-100000000 : Int64).toInt = -100000000) (by omega)), if_neg (own_x0 hx (by decide : (-1000000000 : Int64).toInt = -1000000000) (by omega)), if_neg (own_x0 hx (by decide : (-10000000000 : Int64).toInt = -10000000000) (by omega)), if_neg (own_x0 hx (by decide : (-100000000000 : Int64).toInt = -100000000000) (by omega)), if_neg (own_x0 hx (by decide : (-1000000000000 : Int64).toInt = -1000000000000) (by omega)), if_pos (own_x1 hx (by decide : (-10000000000000 : Int64).toInt = -10000000000000) (by omega))]
    exact own_sgd hd (by decide) (by decide)
  · have e1 : M < 100000000000000 := own_lt10 (k := 14) (by decide) hM.1 h3
    have e2 : 10000000000000 ≤ M := own_ge10 (k := 13) (by decide) (h4.resolve_left (by decide))
    rw [if_neg (own_x0 hx (by decide : (-10 : Int64).toInt = -10) (by omega)), if_neg (own_x0 hx (by decide : (-100 : Int64).toInt = -100) (by omega)), if_neg (own_x0 hx (by decide : (-1000 : Int64).toInt = -1000) (by omega)), if_neg (own_x0 hx (by decide : (-10000 : Int64).toInt = -10000) (by omega)), if_neg (own_x0 hx (by decide : (-100000 : Int64).toInt = -100000) (by omega)), if_neg (own_x0 hx (by decide : (-1000000 : Int64).toInt = -1000000) (by omega)), if_neg (own_x0 hx (by decide : (-10000000 : Int64).toInt = -10000000) (by omega)), if_neg (own_x0 hx (by decide : (-100000000 : Int64).toInt = -100000000) (by omega)), if_neg (own_x0 hx (by decide : (-1000000000 : Int64).toInt = -1000000000) (by omega)), if_neg (own_x0 hx (by decide : (-10000000000 : Int64).toInt = -10000000000) (by omega)), if_neg (own_x0 hx (by decide : (-100000000000 : Int64).toInt = -100000000000) (by omega)), if_neg (own_x0 hx (by decide : (-1000000000000 : Int64).toInt = -1000000000000) (by omega)), if_neg (own_x0 hx (by decide : (-10000000000000 : Int64).toInt = -10000000000000) (by omega)), if_pos (own_x1 hx (by decide : (-100000000000000 : Int64).toInt = -100000000000000) (by omega))]
    exact own_sgd hd (by decide) (by decide)
  · have e1 : M < 1000000000000000 := own_lt10 (k := 15) (by decide) hM.1 h3
    have e2 : 100000000000000 ≤ M := own_ge10 (k := 14) (by decide) (h4.resolve_left (by decide))
    rw [if_neg (own_x0 hx (by decide : (-10 : Int64).toInt = -10) (by omega)), if_neg (own_x0 hx (by decide : (-100 : Int64).toInt = -100) (by omega)), if_neg (own_x0 hx (by decide : (-1000 : Int64).toInt = -1000) (by omega)), if_neg (own_x0 hx (by decide : (-10000 : Int64).toInt = -10000) (by omega)), if_neg (own_x0 hx (by decide : (-100000 : Int64).toInt = -100000) (by omega)), if_neg (own_x0 hx (by decide : (-1000000 : Int64).toInt = -1000000) (by omega)), if_neg (own_x0 hx (by decide : (-10000000 : Int64).toInt = -10000000) (by omega)), if_neg (own_x0 hx (by decide : (-100000000 : Int64).toInt = -100000000) (by omega)), if_neg (own_x0 hx (by decide : (-1000000000 : Int64).toInt = -1000000000) (by omega)), if_neg (own_x0 hx (by decide : (-10000000000 : Int64).toInt = -10000000000) (by omega)), if_neg (own_x0 hx (by decide : (-100000000000 : Int64).toInt = -100000000000) (by omega)), if_neg (own_x0 hx (by decide : (-1000000000000 : Int64).toInt = -1000000000000) (by omega)), if_neg (own_x0 hx (by decide : (-10000000000000 : Int64).toInt = -10000000000000) (by omega)), if_neg (own_x0 hx (by decide : (-100000000000000 : Int64).toInt = -100000000000000) (by omega)), if_pos (own_x1 hx (by decide : (-1000000000000000 : Int64).toInt = -1000000000000000) (by omega))]
    exact own_sgd hd (by decide) (by decide)
  · have e1 : M < 10000000000000000 := own_lt10 (k := 16) (by decide) hM.1 h3
    have e2 : 1000000000000000 ≤ M := own_ge10 (k := 15) (by decide) (h4.resolve_left (by decide))
    rw [if_neg (own_x0 hx (by decide : (-10 : Int64).toInt = -10) (by omega)), if_neg (own_x0 hx (by decide : (-100 : Int64).toInt = -100) (by omega)), if_neg (own_x0 hx (by decide : (-1000 : Int64).toInt = -1000) (by omega)), if_neg (own_x0 hx (by decide : (-10000 : Int64).toInt = -10000) (by omega)), if_neg (own_x0 hx (by decide : (-100000 : Int64).toInt = -100000) (by omega)), if_neg (own_x0 hx (by decide : (-1000000 : Int64).toInt = -1000000) (by omega)), if_neg (own_x0 hx (by decide : (-10000000 : Int64).toInt = -10000000) (by omega)), if_neg (own_x0 hx (by decide : (-100000000 : Int64).toInt = -100000000) (by omega)), if_neg (own_x0 hx (by decide : (-1000000000 : Int64).toInt = -1000000000) (by omega)), if_neg (own_x0 hx (by decide : (-10000000000 : Int64).toInt = -10000000000) (by omega)), if_neg (own_x0 hx (by decide : (-100000000000 : Int64).toInt = -100000000000) (by omega)), if_neg (own_x0 hx (by decide : (-1000000000000 : Int64).toInt = -1000000000000) (by omega)), if_neg (own_x0 hx (by decide : (-10000000000000 : Int64).toInt = -10000000000000) (by omega)), if_neg (own_x0 hx (by decide : (-100000000000000 : Int64).toInt = -100000000000000) (by omega)), if_neg (own_x0 hx (by decide : (-1000000000000000 : Int64).toInt = -1000000000000000) (by omega)), if_pos (own_x1 hx (by decide : (-10000000000000000 : Int64).toInt = -10000000000000000) (by omega))]
    exact own_sgd hd (by decide) (by decide)
  · have e1 : M < 100000000000000000 := own_lt10 (k := 17) (by decide) hM.1 h3
    have e2 : 10000000000000000 ≤ M := own_ge10 (k := 16) (by decide) (h4.resolve_left (by decide))
    rw [if_neg (own_x0 hx (by decide : (-10 : Int64).toInt = -10) (by omega)), if_neg (own_x0 hx (by decide : (-100 : Int64).toInt = -100) (by omega)), if_neg (own_x0 hx (by decide : (-1000 : Int64).toInt = -1000) (by omega)), if_neg (own_x0 hx (by decide : (-10000 : Int64).toInt = -10000) (by omega)), if_neg (own_x0 hx (by decide : (-100000 : Int64).toInt = -100000) (by omega)), if_neg (own_x0 hx (by decide : (-1000000 : Int64).toInt = -1000000) (by omega)), if_neg (own_x0 hx (by decide : (-10000000 : Int64).toInt = -10000000) (by omega)), if_neg (own_x0 hx (by decide : (-100000000 : Int64).toInt = -100000000) (by omega)), if_neg (own_x0 hx (by decide : (-1000000000 : Int64).toInt = -1000000000) (by omega)), if_neg (own_x0 hx (by decide : (-10000000000 : Int64).toInt = -10000000000) (by omega)), if_neg (own_x0 hx (by decide : (-100000000000 : Int64).toInt = -100000000000) (by omega)), if_neg (own_x0 hx (by decide : (-1000000000000 : Int64).toInt = -1000000000000) (by omega)), if_neg (own_x0 hx (by decide : (-10000000000000 : Int64).toInt = -10000000000000) (by omega)), if_neg (own_x0 hx (by decide : (-100000000000000 : Int64).toInt = -100000000000000) (by omega)), if_neg (own_x0 hx (by decide : (-1000000000000000 : Int64).toInt = -1000000000000000) (by omega)), if_neg (own_x0 hx (by decide : (-10000000000000000 : Int64).toInt = -10000000000000000) (by omega)), if_pos (own_x1 hx (by decide : (-100000000000000000 : Int64).toInt = -100000000000000000) (by omega))]
    exact own_sgd hd (by decide) (by decide)
  · have e1 : M < 1000000000000000000 := own_lt10 (k := 18) (by decide) hM.1 h3
    have e2 : 100000000000000000 ≤ M := own_ge10 (k := 17) (by decide) (h4.resolve_left (by decide))
    rw [if_neg (own_x0 hx (by decide : (-10 : Int64).toInt = -10) (by omega)), if_neg (own_x0 hx (by decide : (-100 : Int64).toInt = -100) (by omega)), if_neg (own_x0 hx (by decide : (-1000 : Int64).toInt = -1000) (by omega)), if_neg (own_x0 hx (by decide : (-10000 : Int64).toInt = -10000) (by omega)), if_neg (own_x0 hx (by decide : (-100000 : Int64).toInt = -100000) (by omega)), if_neg (own_x0 hx (by decide : (-1000000 : Int64).toInt = -1000000) (by omega)), if_neg (own_x0 hx (by decide : (-10000000 : Int64).toInt = -10000000) (by omega)), if_neg (own_x0 hx (by decide : (-100000000 : Int64).toInt = -100000000) (by omega)), if_neg (own_x0 hx (by decide : (-1000000000 : Int64).toInt = -1000000000) (by omega)), if_neg (own_x0 hx (by decide : (-10000000000 : Int64).toInt = -10000000000) (by omega)), if_neg (own_x0 hx (by decide : (-100000000000 : Int64).toInt = -100000000000) (by omega)), if_neg (own_x0 hx (by decide : (-1000000000000 : Int64).toInt = -1000000000000) (by omega)), if_neg (own_x0 hx (by decide : (-10000000000000 : Int64).toInt = -10000000000000) (by omega)), if_neg (own_x0 hx (by decide : (-100000000000000 : Int64).toInt = -100000000000000) (by omega)), if_neg (own_x0 hx (by decide : (-1000000000000000 : Int64).toInt = -1000000000000000) (by omega)), if_neg (own_x0 hx (by decide : (-10000000000000000 : Int64).toInt = -10000000000000000) (by omega)), if_neg (own_x0 hx (by decide : (-100000000000000000 : Int64).toInt = -100000000000000000) (by omega)), if_pos (own_x1 hx (by decide : (-1000000000000000000 : Int64).toInt = -1000000000000000000) (by omega))]
    exact own_sgd hd (by decide) (by decide)
  · have e1 : M < 10000000000000000000 := own_lt10 (k := 19) (by decide) hM.1 h3
    have e2 : 1000000000000000000 ≤ M := own_ge10 (k := 18) (by decide) (h4.resolve_left (by decide))
    rw [if_neg (own_x0 hx (by decide : (-10 : Int64).toInt = -10) (by omega)), if_neg (own_x0 hx (by decide : (-100 : Int64).toInt = -100) (by omega)), if_neg (own_x0 hx (by decide : (-1000 : Int64).toInt = -1000) (by omega)), if_neg (own_x0 hx (by decide : (-10000 : Int64).toInt = -10000) (by omega)), if_neg (own_x0 hx (by decide : (-100000 : Int64).toInt = -100000) (by omega)), if_neg (own_x0 hx (by decide : (-1000000 : Int64).toInt = -1000000) (by omega)), if_neg (own_x0 hx (by decide : (-10000000 : Int64).toInt = -10000000) (by omega)), if_neg (own_x0 hx (by decide : (-100000000 : Int64).toInt = -100000000) (by omega)), if_neg (own_x0 hx (by decide : (-1000000000 : Int64).toInt = -1000000000) (by omega)), if_neg (own_x0 hx (by decide : (-10000000000 : Int64).toInt = -10000000000) (by omega)), if_neg (own_x0 hx (by decide : (-100000000000 : Int64).toInt = -100000000000) (by omega)), if_neg (own_x0 hx (by decide : (-1000000000000 : Int64).toInt = -1000000000000) (by omega)), if_neg (own_x0 hx (by decide : (-10000000000000 : Int64).toInt = -10000000000000) (by omega)), if_neg (own_x0 hx (by decide : (-100000000000000 : Int64).toInt = -100000000000000) (by omega)), if_neg (own_x0 hx (by decide : (-1000000000000000 : Int64).toInt = -1000000000000000) (by omega)), if_neg (own_x0 hx (by decide : (-10000000000000000 : Int64).toInt = -10000000000000000) (by omega)), if_neg (own_x0 hx (by decide : (-100000000000000000 : Int64).toInt = -100000000000000000) (by omega)), if_neg (own_x0 hx (by decide : (-1000000000000000000 : Int64).toInt = -1000000000000000000) (by omega))]
    exact own_sgd hd (by decide) (by decide)
theorem own_ndex (M : Int) (h0 : 0 ≤ M) (h1 : M < 10000000000000000000) : ∃ mm : Nat, own_isnd M mm := by
  have key : ∀ n : Nat, n ≤ 18 → M < 10 ^ (n + 1) → ∃ mm : Nat, own_isnd M mm := by
    intro n
    induction n with
    | zero => intro _ h; exact ⟨1, by decide, by decide, Int.ediv_eq_zero_of_lt h0 h, Or.inl rfl⟩
    | succ n ih =>
      intro hn h
      by_cases z : M < 10 ^ (n + 1)
      · exact ih (by omega) z
      · refine ⟨n + 1 + 1, by omega, by omega, Int.ediv_eq_zero_of_lt h0 h, Or.inr ?_⟩
        show 1 ≤ M / 10 ^ (n + 1)
        exact (Int.le_ediv_iff_mul_le (own_pow0 (n + 1))).mpr (by omega)
  exact key 18 (by decide) (by have e : (10 : Int) ^ (18 + 1) = 10000000000000000000 := by decide
                               omega)
theorem own_fssb (q : Int64) : 1 ≤ (fss q).toInt ∧ (fss q).toInt ≤ 20 := by
  obtain ⟨mm, h⟩ := own_ndex (own_M q) (own_M0 q).1 (own_M0 q).2
  have e := own_fssm h
  obtain ⟨h1, h2, -⟩ := h
  by_cases z : q.toInt < 0
  · rw [if_pos z] at e; omega
  · rw [if_neg z] at e; omega
theorem own_c20 (q : Int64) : 21 ≤ ((20 : Int32) + (fss q)).toInt ∧ ((20 : Int32) + (fss q)).toInt ≤ 44 ∧ ((20 : Int32) + (fss q)).toInt = 20 + (fss q).toInt := by
  have h := own_fssb q
  have c := c_iadd (20 : Int32) (fss q)
  have e : (20 : Int32).toInt = 20 := by decide
  rw [e] at c
  have b1 := Int32.toInt_lt ((20 : Int32) + (fss q))
  have b2 := Int32.le_toInt ((20 : Int32) + (fss q))
  omega
theorem own_c24 (q : Int64) : 21 ≤ ((24 : Int32) + (fss q)).toInt ∧ ((24 : Int32) + (fss q)).toInt ≤ 44 ∧ ((24 : Int32) + (fss q)).toInt = 24 + (fss q).toInt := by
  have h := own_fssb q
  have c := c_iadd (24 : Int32) (fss q)
  have e : (24 : Int32).toInt = 24 := by decide
  rw [e] at c
  have b1 := Int32.toInt_lt ((24 : Int32) + (fss q))
  have b2 := Int32.le_toInt ((24 : Int32) + (fss q))
  omega
theorem own_s34 (p : Int32) (h0 : 0 ≤ p.toInt) : (p - (34 : Int32)).toInt = p.toInt - 34 := by
  have c := c_isub p (34 : Int32)
  have e : (34 : Int32).toInt = 34 := by decide
  rw [e] at c
  have b0 := Int32.toInt_lt p
  have b1 := Int32.toInt_lt (p - (34 : Int32))
  have b2 := Int32.le_toInt (p - (34 : Int32))
  omega
theorem own_hmx {p : Int32} {x : Prop} (h : 21 ≤ p.toInt ∧ p.toInt ≤ 44 ∧ x) : (p - (34 : Int32)) < (36 : Int32) := by
  have e : (36 : Int32).toInt = 36 := by decide
  rw [Int32.lt_iff_toInt_lt, own_s34 p (by omega), e]
  omega
theorem own_pN {p : Int32} {x : Prop} (h : 21 ≤ p.toInt ∧ p.toInt ≤ 44 ∧ x) (hNo : ¬ (0 : Int32) < (p - (34 : Int32))) : p.toInt ≤ (34 : Int32).toInt := by
  have e : (34 : Int32).toInt = 34 := by decide
  have e0 : (0 : Int32).toInt = 0 := by decide
  rw [Int32.lt_iff_toInt_lt, own_s34 p (by omega), e0] at hNo
  omega
theorem own_tN {p : Int32} {x : Prop} (h : 21 ≤ p.toInt ∧ p.toInt ≤ 44 ∧ x) (hNo : ¬ (0 : Int32) < (p - (34 : Int32))) (hne : ¬ p = (34 : Int32)) : p < (34 : Int32) := by
  have e : (34 : Int32).toInt = 34 := by decide
  have q := own_pN h hNo
  have n : ¬ p.toInt = (34 : Int32).toInt := fun z => hne (Int32.toInt_inj.mp z)
  rw [Int32.lt_iff_toInt_lt]
  omega
theorem own_t0 {p : Int32} {x : Prop} (h : 21 ≤ p.toInt ∧ p.toInt ≤ 44 ∧ x) : ¬ p < (0 : Int32) := by
  have e : (0 : Int32).toInt = 0 := by decide
  rw [Int32.lt_iff_toInt_lt]
  omega
theorem own_t44 {p : Int32} {x : Prop} (h : 21 ≤ p.toInt ∧ p.toInt ≤ 44 ∧ x) : p.toInt ≤ 44 := h.2.1
theorem own_tG20 (q : Int64) : ((20 : Int32) + (fss q)) < (70 : Int32) := by
  have e : (70 : Int32).toInt = 70 := by decide
  have h := own_c20 q
  rw [Int32.lt_iff_toInt_lt]
  omega
theorem own_tG24 (q : Int64) : ((24 : Int32) + (fss q)) < (70 : Int32) := by
  have e : (70 : Int32).toInt = 70 := by decide
  have h := own_c24 q
  rw [Int32.lt_iff_toInt_lt]
  omega
theorem own_p020 (q : Int64) : 20 ≤ ((20 : Int32) + (fss q)).toInt := by have h := own_c20 q; omega
theorem own_p024 (q : Int64) : 20 ≤ ((24 : Int32) + (fss q)).toInt := by have h := own_c24 q; omega
theorem own_p120 (q : Int64) : ((20 : Int32) + (fss q)).toInt ≤ 100 := by have h := own_c20 q; omega
theorem own_p124 (q : Int64) : ((24 : Int32) + (fss q)).toInt ≤ 100 := by have h := own_c24 q; omega
theorem own_pn20 (q : Int64) : ((20 : Int32) + (fss q)).toInt ≤ (70 : Int32).toInt := by
  have e : (70 : Int32).toInt = 70 := by decide
  have h := own_c20 q; omega
theorem own_pn24 (q : Int64) : ((24 : Int32) + (fss q)).toInt ≤ (70 : Int32).toInt := by
  have e : (70 : Int32).toInt = 70 := by decide
  have h := own_c24 q; omega

theorem own_cv34_20 (x0 x1 x2 x3 x4 x5 x6 x7 x8 x9 x10 x11 x12 x13 x14 x15 x16 x17 x18 x19 : Int32) : own_L (34 : Int32).toNatClampNeg (own_lit [x0, x1, x2, x3, x4, x5, x6, x7, x8, x9, x10, x11, x12, x13, x14, x15, x16, x17, x18, x19, 0, 0, 0, 0, 0, 0, 0, 0, 0, 0, 0, 0, 0, 0]) = [.int x0, .int x1, .int x2, .int x3, .int x4, .int x5, .int x6, .int x7, .int x8, .int x9, .int x10, .int x11, .int x12, .int x13, .int x14, .int x15, .int x16, .int x17, .int x18, .int x19, .int 0, .int 0, .int 0, .int 0, .int 0, .int 0, .int 0, .int 0, .int 0, .int 0, .int 0, .int 0, .int 0, .int 0] := rfl
theorem own_cv34_24 (x0 x1 x2 x3 x4 x5 x6 x7 x8 x9 x10 x11 x12 x13 x14 x15 x16 x17 x18 x19 x20 x21 x22 x23 : Int32) : own_L (34 : Int32).toNatClampNeg (own_lit [x0, x1, x2, x3, x4, x5, x6, x7, x8, x9, x10, x11, x12, x13, x14, x15, x16, x17, x18, x19, x20, x21, x22, x23, 0, 0, 0, 0, 0, 0, 0, 0, 0, 0]) = [.int x0, .int x1, .int x2, .int x3, .int x4, .int x5, .int x6, .int x7, .int x8, .int x9, .int x10, .int x11, .int x12, .int x13, .int x14, .int x15, .int x16, .int x17, .int x18, .int x19, .int x20, .int x21, .int x22, .int x23, .int 0, .int 0, .int 0, .int 0, .int 0, .int 0, .int 0, .int 0, .int 0, .int 0] := rfl
theorem own_cv70_20 (x0 x1 x2 x3 x4 x5 x6 x7 x8 x9 x10 x11 x12 x13 x14 x15 x16 x17 x18 x19 : Int32) : own_L (70 : Int32).toNatClampNeg (own_lit [x0, x1, x2, x3, x4, x5, x6, x7, x8, x9, x10, x11, x12, x13, x14, x15, x16, x17, x18, x19, 0, 0, 0, 0, 0, 0, 0, 0, 0, 0, 0, 0, 0, 0, 0, 0, 0, 0, 0, 0, 0, 0, 0, 0, 0, 0, 0, 0, 0, 0, 0, 0, 0, 0, 0, 0, 0, 0, 0, 0, 0, 0, 0, 0, 0, 0, 0, 0, 0, 0]) = [.int x0, .int x1, .int x2, .int x3, .int x4, .int x5, .int x6, .int x7, .int x8, .int x9, .int x10, .int x11, .int x12, .int x13, .int x14, .int x15, .int x16, .int x17, .int x18, .int x19, .int 0, .int 0, .int 0, .int 0, .int 0, .int 0, .int 0, .int 0, .int 0, .int 0, .int 0, .int 0, .int 0, .int 0, .int 0, .int 0, .int 0, .int 0, .int 0, .int 0, .int 0, .int 0, .int 0, .int 0, .int 0, .int 0, .int 0, .int 0, .int 0, .int 0, .int 0, .int 0, .int 0, .int 0, .int 0, .int 0, .int 0, .int 0, .int 0, .int 0, .int 0, .int 0, .int 0, .int 0, .int 0, .int 0, .int 0, .int 0, .int 0, .int 0] := rfl
theorem own_cv70_24 (x0 x1 x2 x3 x4 x5 x6 x7 x8 x9 x10 x11 x12 x13 x14 x15 x16 x17 x18 x19 x20 x21 x22 x23 : Int32) : own_L (70 : Int32).toNatClampNeg (own_lit [x0, x1, x2, x3, x4, x5, x6, x7, x8, x9, x10, x11, x12, x13, x14, x15, x16, x17, x18, x19, x20, x21, x22, x23, 0, 0, 0, 0, 0, 0, 0, 0, 0, 0, 0, 0, 0, 0, 0, 0, 0, 0, 0, 0, 0, 0, 0, 0, 0, 0, 0, 0, 0, 0, 0, 0, 0, 0, 0, 0, 0, 0, 0, 0, 0, 0, 0, 0, 0, 0]) = [.int x0, .int x1, .int x2, .int x3, .int x4, .int x5, .int x6, .int x7, .int x8, .int x9, .int x10, .int x11, .int x12, .int x13, .int x14, .int x15, .int x16, .int x17, .int x18, .int x19, .int x20, .int x21, .int x22, .int x23, .int 0, .int 0, .int 0, .int 0, .int 0, .int 0, .int 0, .int 0, .int 0, .int 0, .int 0, .int 0, .int 0, .int 0, .int 0, .int 0, .int 0, .int 0, .int 0, .int 0, .int 0, .int 0, .int 0, .int 0, .int 0, .int 0, .int 0, .int 0, .int 0, .int 0, .int 0, .int 0, .int 0, .int 0, .int 0, .int 0, .int 0, .int 0, .int 0, .int 0, .int 0, .int 0, .int 0, .int 0, .int 0, .int 0] := rfl

def QmxG (Z : State) (p0 : Int32) (h0 : Heap) (n0 : Nat) : QT := fun v h L => (v = some (.int 36)) ∧ (Fr n0 L) ∧ (h = h0)
theorem rmmxG (l : Launch) (Z : State) (a0 : Array Value) (hw : TW a0 Z) (ws : List Jvm.Cond) (p0 : Int32) (h0 : Heap) (n0 : Nat) (Z0 : n0 ≤ h0.size) (hmx : p0 < (36 : Int32)) :
  MF l mN8 jdk_29_method_65_code 2 (some .int) ws (rmm 0 0 0 0) #[.int p0, .int 36] Z h0 (QmxG Z p0 h0 n0) := by
 refine MF.of (Jvm.Free.JP.mathPlain rfl (by decide +kernel)) ?_
 intro p e s m below meth c s₁ QQ hy hml hown hZ X0 e0 hrt hlk hnm hQQ
 have N0 := Fr.nil n0
 refine Ends.i #[iv p0, iv 36] (oC X0 hy d16_0 1 rfl (oC X0 hy d16_1 2 rfl ?_))
 have hc2 : p0 < (36 : Int32) := hmx
 refine oxl X0 hy d16_2 9 (XT.ii_lt_t hc2) (oC X0 hy d16_9 10 rfl ?_)
 exact fI X0 hy hrt hlk hQQ d16_10 rfl (Or.inl rfl) e0 (by decide) ⟨rfl, N0, rfl⟩
def QnlG (Z : State) (p1 : Int32) (h0 : Heap) (n0 : Nat) : QT := fun v h L => (v = some (.int 70)) ∧ (Fr n0 L) ∧ (h = h0)
theorem rmnlG (l : Launch) (Z : State) (a0 : Array Value) (hw : TW a0 Z) (ws : List Jvm.Cond) (p1 : Int32) (h0 : Heap) (n0 : Nat) (Z0 : n0 ≤ h0.size) (hmx : p1 < (36 : Int32)) :
  MF l mN9 jdk_48_method_27_code 4 (some .int) ws (rmm 1 0 0 14) #[.int 34, .int p1, .int 36] Z h0 (QnlG Z p1 h0 n0) := by
 refine MF.of (plainFor_of_name pn_6) ?_
 intro p e s m below meth c s₁ QQ hy hml hown hZ X0 e0 hrt hlk hnm hQQ
 have hx := hy.1
 have hby := hy.2
 have N0 := Fr.nil n0
 refine Ends.i #[iv 34, iv p1, iv 36, uu] (oC X0 hy d15_0 1 rfl (oC X0 hy d15_1 2 rfl (oC X0 hy d15_2 3 rfl ?_)))
 refine cS X0 hy hml hown hZ hw d15_3 6 1 104 105 106 107 rfl rfl rfl rfl (rmmxG l Z a0 hw [] p1 h0 n0 Z0 hmx) e0 pd_11 rfl rfl fun _ T464 Lc464 X464 hQ464 => ?_
 obtain ⟨rfl, Nq464, hh464⟩ := hQ464
 have N464 := Fr.app N0 Nq464
 refine Ends.v (oK X464 hy d15_6 7 ?_)
 show Ends p e below QQ (T464.setTop (mkF m 7 #[iv 34, iv p1, iv 36, uu] [.int 70]))
 refine oxp X464 hy d15_7 8 #[iv 34, iv p1, iv 36, iv 70] rfl (oG X464 hy d15_8 9 0 rfl (oC X464 hy d15_9 10 rfl (oxi X464 hy d15_10 13 (XT.ii_ge_f (by decide)) (oC X464 hy d15_13 14 rfl ?_))))
 refine Ends.step (fun _ k => X464.ldcI hx hown (mvT hZ (tb hw 108 rfl)) (g := (mkF m 14 #[iv 34, iv p1, iv 36, iv 70] [.int 70])) rfl (hb hby d15_14) k) ?_
 show Ends p e below QQ (T464.setTop (mkF m 16 #[iv 34, iv p1, iv 36, iv 70] [.int 2147483639, .int 70]))
 refine oxi X464 hy d15_16 19 (XT.ii_gt_f (by decide)) (oC X464 hy d15_19 20 rfl ?_)
 exact fI X464 hy hrt hlk hQQ d15_20 rfl (Or.inl rfl) hh464 (by decide) ⟨rfl, N464, rfl⟩
def QncG (Z : State) (o0 : Addr) (p1 : Int32) (vb : Addr) (kb : ClassId) (vs : List Value) (h0 : Heap) (n0 : Nat) : QT := fun v h L => (v = some (.int 70)) ∧ (Fr n0 L) ∧ (h = h0)
theorem rmncG (l : Launch) (Z : State) (a0 : Array Value) (hw : TW a0 Z) (ws : List Jvm.Cond) (o0 : Addr) (p1 : Int32) (vb : Addr) (kb : ClassId) (vs : List Value) (h0 : Heap) (n0 : Nat) (Z0 : n0 ≤ h0.size) (we : fDQ Z h0 o0 (.ref vb)) (wd : fCQ Z h0 o0 (.int 0)) (wN : Arv Z h0 vb kb .byte 34 vs (.int 0)) (hmx : (p1 - (34 : Int32)) < (36 : Int32)) :
  MF l mN10 jdk_68_method_10_code 6 (some .int) ws (rmm 2 0 0 29) #[.ref o0, .int p1] Z h0 (QncG Z o0 p1 vb kb vs h0 n0) := by
 refine MF.of (plainFor_of_name pn_4) ?_
 intro p e s m below meth c s₁ QQ hy hml hown hZ X0 e0 hrt hlk hnm hQQ
 have hx := hy.1
 have hby := hy.2
 have N0 := Fr.nil n0
 refine Ends.i #[rv o0, iv p1, uu, uu, uu, uu] (oA X0 hy d14_0 1 rfl (gF X0 hy hown hZ hw e0 we d14_1 4 34 rfl fun T465 X465 e465 => aLn X465 hy hZ e465 wN d14_4 5 (oxp X465 hy d14_5 6 #[rv o0, iv p1, iv 34, uu, uu, uu] rfl (oC X465 hy d14_6 7 rfl (oA X465 hy d14_7 8 rfl (gF X465 hy hown hZ hw e465 wd d14_8 11 36 rfl fun T467 X467 e467 => oO X467 hy d14_11 12 (oxp X467 hy d14_12 13 #[rv o0, iv p1, iv 34, iv (p1 <<< ((0 : Int32) &&& 31)), uu, uu] rfl ?_)))))))
 show Ends p e below QQ (T467.setTop (mkF m 13 #[rv o0, iv p1, iv 34, iv (p1 <<< ((0 : Int32) &&& 31)), uu, uu] []))
 rw [own_shl0]
 show Ends p e below QQ (T467.setTop (mkF m 13 #[rv o0, iv p1, iv 34, iv p1, uu, uu] []))
 refine oC X467 hy d14_13 14 rfl (oC X467 hy d14_14 15 rfl (oL X467 hy d14_15 16 (oxo X467 hy d14_16 18 #[rv o0, iv p1, iv 34, iv p1, iv (p1 - (34 : Int32)), uu] rfl (oC X467 hy d14_18 19 rfl (oD X467 hy d14_19 21 rfl (oC X467 hy d14_21 22 rfl (oG X467 hy d14_22 23 2 rfl (oA X467 hy d14_23 24 rfl (gF X467 hy hown hZ hw e467 wd d14_24 27 36 rfl fun T468 X468 e468 => ?_)))))))))
 refine oO X468 hy d14_27 28 ?_
 show Ends p e below QQ (T468.setTop (mkF m 28 #[rv o0, iv p1, iv 34, iv p1, iv (p1 - (34 : Int32)), uu] [.int 2, .int 34, (.int (p1 - (34 : Int32))), .int 34]))
 refine oK X468 hy d14_28 29 ?_
 show Ends p e below QQ (T468.setTop (mkF m 29 #[rv o0, iv p1, iv 34, iv p1, iv (p1 - (34 : Int32)), uu] [.int 36, (.int (p1 - (34 : Int32))), .int 34]))
 refine cS X468 hy hml hown hZ hw d14_29 32 0 100 101 102 103 rfl rfl rfl rfl (rmnlG l Z a0 hw [] (p1 - (34 : Int32)) h0 n0 Z0 hmx) e468 pd_12 rfl rfl fun _ T469 Lc469 X469 hQ469 => ?_
 obtain ⟨rfl, Nq469, hh469⟩ := hQ469
 have N469 := Fr.app N0 Nq469
 refine Ends.v (oxo X469 hy d14_32 34 #[rv o0, iv p1, iv 34, iv p1, iv (p1 - (34 : Int32)), iv 70] rfl (oD X469 hy d14_34 36 rfl ?_))
 refine Ends.step (fun _ k => X469.ldcI hx hown (mvT hZ (tb hw 109 rfl)) (g := (mkF m 36 #[rv o0, iv p1, iv 34, iv p1, iv (p1 - (34 : Int32)), iv 70] [.int 70])) rfl (hb hby d14_36) k) ?_
 show Ends p e below QQ (T469.setTop (mkF m 38 #[rv o0, iv p1, iv 34, iv p1, iv (p1 - (34 : Int32)), iv 70] [.int 2147483647, .int 70]))
 refine oxl X469 hy d14_38 51 (XT.ii_ne_t (by decide)) (oD X469 hy d14_51 53 rfl (oA X469 hy d14_53 54 rfl (gF X469 hy hown hZ hw hh469 wd d14_54 57 36 rfl fun T470 X470 e470 => oP X470 hy d14_57 58 ?_)))
 show Ends p e below QQ (T470.setTop (mkF m 58 #[rv o0, iv p1, iv 34, iv p1, iv (p1 - (34 : Int32)), iv 70] [.int 70]))
 exact fI X470 hy hrt hlk hQQ d14_58 rfl (Or.inl rfl) e470 (by decide) ⟨rfl, N469, rfl⟩
def QmnG (Z : State)  (h0 : Heap) (n0 : Nat) : QT := fun v h L => (v = some (.int 34)) ∧ (Fr n0 L) ∧ (h = h0)
theorem rmmnG (l : Launch) (Z : State) (a0 : Array Value) (hw : TW a0 Z) (ws : List Jvm.Cond)  (h0 : Heap) (n0 : Nat) (Z0 : n0 ≤ h0.size) :
  MF l mN11 jdk_29_method_69_code 2 (some .int) ws (rmm 0 0 0 0) #[.int 34, .int 70] Z h0 (QmnG Z  h0 n0) := by
 refine MF.of (Jvm.Free.JP.mathPlain rfl (by decide +kernel)) ?_
 intro p e s m below meth c s₁ QQ hy hml hown hZ X0 e0 hrt hlk hnm hQQ
 have N0 := Fr.nil n0
 refine Ends.i #[iv 34, iv 70] (oC X0 hy d18_0 1 rfl (oC X0 hy d18_1 2 rfl (oxi X0 hy d18_2 5 (XT.ii_gt_f (by decide)) (oC X0 hy d18_5 6 rfl (oxm X0 hy d18_6 10 ?_)))))
 exact fI X0 hy hrt hlk hQQ d18_10 rfl (Or.inl rfl) e0 (by decide) ⟨rfl, N0, rfl⟩
def QcpG (Z : State) (o0 : Addr) (k : ClassId) (y0 y1 y2 y3 y4 y5 y6 y7 y8 y9 y10 y11 y12 y13 y14 y15 y16 y17 y18 y19 y20 y21 y22 y23 y24 y25 y26 y27 y28 y29 y30 y31 y32 y33 : Int32) (h0 : Heap) (n0 : Nat) : QT := fun v h L => ∃ (b : Addr), ∃ (k2 : ClassId), (v = some (.ref b)) ∧ (Fr n0 L) ∧ (Keep h0 h []) ∧ (h0.size ≤ b) ∧ (n0 ≤ b) ∧ (eCQ Z h b) ∧ (Arv Z h b k2 .byte 70 [.int y0, .int y1, .int y2, .int y3, .int y4, .int y5, .int y6, .int y7, .int y8, .int y9, .int y10, .int y11, .int y12, .int y13, .int y14, .int y15, .int y16, .int y17, .int y18, .int y19, .int y20, .int y21, .int y22, .int y23, .int y24, .int y25, .int y26, .int y27, .int y28, .int y29, .int y30, .int y31, .int y32, .int y33, .int 0, .int 0, .int 0, .int 0, .int 0, .int 0, .int 0, .int 0, .int 0, .int 0, .int 0, .int 0, .int 0, .int 0, .int 0, .int 0, .int 0, .int 0, .int 0, .int 0, .int 0, .int 0, .int 0, .int 0, .int 0, .int 0, .int 0, .int 0, .int 0, .int 0, .int 0, .int 0, .int 0, .int 0, .int 0, .int 0] (.int 0))
theorem rmcpG (l : Launch) (Z : State) (a0 : Array Value) (hw : TW a0 Z) (ws : List Jvm.Cond) (o0 : Addr) (k : ClassId) (y0 y1 y2 y3 y4 y5 y6 y7 y8 y9 y10 y11 y12 y13 y14 y15 y16 y17 y18 y19 y20 y21 y22 y23 y24 y25 y26 y27 y28 y29 y30 y31 y32 y33 : Int32) (h0 : Heap) (n0 : Nat) (Z0 : n0 ≤ h0.size) (vA : Arv Z h0 o0 k .byte 34 [.int y0, .int y1, .int y2, .int y3, .int y4, .int y5, .int y6, .int y7, .int y8, .int y9, .int y10, .int y11, .int y12, .int y13, .int y14, .int y15, .int y16, .int y17, .int y18, .int y19, .int y20, .int y21, .int y22, .int y23, .int y24, .int y25, .int y26, .int y27, .int y28, .int y29, .int y30, .int y31, .int y32, .int y33] (.int 0)) :
  MF l mN12 jdk_65_method_121_code 3 (some (.array .byte)) ws (rmm 1 1 70 24) #[.ref o0, .int 70] Z h0 (QcpG Z o0 k y0 y1 y2 y3 y4 y5 y6 y7 y8 y9 y10 y11 y12 y13 y14 y15 y16 y17 y18 y19 y20 y21 y22 y23 y24 y25 y26 y27 y28 y29 y30 y31 y32 y33 h0 n0) := by
 refine MF.of (plainFor_of_name pn_7) ?_
 intro p e s m below meth c s₁ QQ hy hml hown hZ X0 e0 hrt hlk hnm hQQ
 have hx := hy.1
 have hby := hy.2
 have N0 := Fr.nil n0
 refine Ends.i #[rv o0, iv 70, uu] (oC X0 hy d17_0 1 rfl (oA X0 hy d17_1 2 rfl (aLn X0 hy hZ e0 vA d17_2 3 (oxl X0 hy d17_3 14 (XT.ii_ne_t (by decide)) (oC X0 hy d17_14 15 rfl ?_)))))
 obtain ⟨T472, h472, k472, X472, e472, E472, A472, Y472, st472⟩ := newPE X0 hx hZ (tb hw 33 rfl) e0 (g := (mkF m 15 #[rv o0, iv 70, uu] [.int 70])) rfl (hb hby d17_15) rfl (by decide) (cap := 70) (by decide) (by decide) (by decide) (by decide) (ad := "[B") (by decide)
 obtain ⟨b472, g472⟩ : ∃ z, z = h0.size := ⟨_, rfl⟩
 rw [← g472] at A472 Y472 st472
 have zH : n0 ≤ b472 := Nat.le_trans Z0 (Nat.le_trans (Keep.refl h0 []).1 (Nat.le_of_eq g472.symm))
 have zm : h0.size ≤ b472 := Nat.le_trans (Keep.refl h0 []).1 (Nat.le_of_eq g472.symm)
 have vA := vA.ext E472
 have K472 := (Keep.refl h0 []).ext E472
 have uL := Y472
 have uX : Arv Z h472 b472 k472 .byte 70 [.int 0, .int 0, .int 0, .int 0, .int 0, .int 0, .int 0, .int 0, .int 0, .int 0, .int 0, .int 0, .int 0, .int 0, .int 0, .int 0, .int 0, .int 0, .int 0, .int 0, .int 0, .int 0, .int 0, .int 0, .int 0, .int 0, .int 0, .int 0, .int 0, .int 0, .int 0, .int 0, .int 0, .int 0, .int 0, .int 0, .int 0, .int 0, .int 0, .int 0, .int 0, .int 0, .int 0, .int 0, .int 0, .int 0, .int 0, .int 0, .int 0, .int 0, .int 0, .int 0, .int 0, .int 0, .int 0, .int 0, .int 0, .int 0, .int 0, .int 0, .int 0, .int 0, .int 0, .int 0, .int 0, .int 0, .int 0, .int 0, .int 0, .int 0] (.int 0) := (Arv.new A472 (by decide)).pad (pad_rep [] (.int 0) 70)
 refine Ends.j 17 [.ref b472] st472 ?_
 refine oxt X472 hy d17_17 18 #[rv o0, iv 70, rv b472] rfl (oA X472 hy d17_18 19 rfl (oG X472 hy d17_19 20 0 rfl (oA X472 hy d17_20 21 rfl (oG X472 hy d17_21 22 0 rfl (oA X472 hy d17_22 23 rfl (aLn X472 hy hZ e472 vA d17_23 24 (oC X472 hy d17_24 25 rfl ?_)))))))
 refine cS X472 hy hml hown hZ hw d17_25 28 4 114 115 106 116 rfl rfl rfl rfl (rmmnG l Z a0 hw []  h472 n0 (Nat.le_trans Z0 K472.1)) e472 pd_11 rfl rfl fun _ T474 Lc474 X474 hQ474 => ?_
 obtain ⟨rfl, Nq474, hh474⟩ := hQ474
 have N474 := Fr.app N0 Nq474
 refine Ends.v ?_
 obtain ⟨T475, h475, L475, X475, e475, N475, Kq475, AA475, st475⟩ := cpA X474 hx hZ hown (tb hw 117 rfl) (tb hw 93 rfl) (tb hw 91 rfl) (tb hw 92 rfl) hh474 vA uX (Or.inl ⟨rfl, rfl⟩) (by decide) (by decide) (by decide) (by decide) (by decide) (us := [.int y0, .int y1, .int y2, .int y3, .int y4, .int y5, .int y6, .int y7, .int y8, .int y9, .int y10, .int y11, .int y12, .int y13, .int y14, .int y15, .int y16, .int y17, .int y18, .int y19, .int y20, .int y21, .int y22, .int y23, .int y24, .int y25, .int y26, .int y27, .int y28, .int y29, .int y30, .int y31, .int y32, .int y33]) (by rfl) (Nat.le_of_ble_eq_true rfl) N474 zH (g := (mkF m 28 #[rv o0, iv 70, rv b472] [.int 34, .int 0, .ref b472, .int 0, .ref o0])) rfl (by rw [hml]; rfl) rfl (hb hby d17_28) (by decide) (W := 0) (by show 2 * 0 + _ ≤ _; exact Nat.le_of_eq rfl) (by decide)
 have uL := uL.keep Kq475
 have uX : Arv Z h475 b472 k472 .byte 70 [.int y0, .int y1, .int y2, .int y3, .int y4, .int y5, .int y6, .int y7, .int y8, .int y9, .int y10, .int y11, .int y12, .int y13, .int y14, .int y15, .int y16, .int y17, .int y18, .int y19, .int y20, .int y21, .int y22, .int y23, .int y24, .int y25, .int y26, .int y27, .int y28, .int y29, .int y30, .int y31, .int y32, .int y33, .int 0, .int 0, .int 0, .int 0, .int 0, .int 0, .int 0, .int 0, .int 0, .int 0, .int 0, .int 0, .int 0, .int 0, .int 0, .int 0, .int 0, .int 0, .int 0, .int 0, .int 0, .int 0, .int 0, .int 0, .int 0, .int 0, .int 0, .int 0, .int 0, .int 0, .int 0, .int 0, .int 0, .int 0, .int 0, .int 0] (.int 0) := AA475
 have K475 := K472.trans Kq475 (allS (Or.inr zm) all0)
 refine Ends.j 31 [] st475 ?_
 refine oA X475 hy d17_31 32 rfl ?_
 exact fA X475 hy hrt hlk hQQ d17_32 rfl rfl e475 (by decide) ⟨b472, k472, rfl, N475, K475, zm, zH, uL, uX⟩
def QenG (Z : State) (o0 : Addr) (p1 : Int32) (vb : Addr) (kb : ClassId) (u y0 y1 y2 y3 y4 y5 y6 y7 y8 y9 y10 y11 y12 y13 y14 y15 y16 y17 y18 y19 y20 y21 y22 y23 y24 y25 y26 y27 y28 y29 y30 y31 y32 y33 : Int32) (h0 : Heap) (n0 : Nat) : QT := fun v h L => ∃ (b : Addr), ∃ (k2 : ClassId), (v = none) ∧ (Fr n0 L) ∧ (Keep h0 h [o0]) ∧ (h0.size ≤ b) ∧ (n0 ≤ b) ∧ (eBQ Z h o0) ∧ (fDQ Z h o0 (.ref b)) ∧ (fCQ Z h o0 (.int 0)) ∧ (fEQ Z h o0 (.int u)) ∧ (eCQ Z h b) ∧ (Arv Z h b k2 .byte 70 [.int y0, .int y1, .int y2, .int y3, .int y4, .int y5, .int y6, .int y7, .int y8, .int y9, .int y10, .int y11, .int y12, .int y13, .int y14, .int y15, .int y16, .int y17, .int y18, .int y19, .int y20, .int y21, .int y22, .int y23, .int y24, .int y25, .int y26, .int y27, .int y28, .int y29, .int y30, .int y31, .int y32, .int y33, .int 0, .int 0, .int 0, .int 0, .int 0, .int 0, .int 0, .int 0, .int 0, .int 0, .int 0, .int 0, .int 0, .int 0, .int 0, .int 0, .int 0, .int 0, .int 0, .int 0, .int 0, .int 0, .int 0, .int 0, .int 0, .int 0, .int 0, .int 0, .int 0, .int 0, .int 0, .int 0, .int 0, .int 0, .int 0, .int 0] (.int 0))
theorem rmenG (l : Launch) (Z : State) (a0 : Array Value) (hw : TW a0 Z) (ws : List Jvm.Cond) (o0 : Addr) (p1 : Int32) (vb : Addr) (kb : ClassId) (u y0 y1 y2 y3 y4 y5 y6 y7 y8 y9 y10 y11 y12 y13 y14 y15 y16 y17 y18 y19 y20 y21 y22 y23 y24 y25 y26 y27 y28 y29 y30 y31 y32 y33 : Int32) (h0 : Heap) (n0 : Nat) (Z0 : n0 ≤ h0.size) (wo : eBQ Z h0 o0) (we : fDQ Z h0 o0 (.ref vb)) (wd : fCQ Z h0 o0 (.int 0)) (wh : fEQ Z h0 o0 (.int u)) (wV : n0 ≤ o0) (wN : Arv Z h0 vb kb .byte 34 [.int y0, .int y1, .int y2, .int y3, .int y4, .int y5, .int y6, .int y7, .int y8, .int y9, .int y10, .int y11, .int y12, .int y13, .int y14, .int y15, .int y16, .int y17, .int y18, .int y19, .int y20, .int y21, .int y22, .int y23, .int y24, .int y25, .int y26, .int y27, .int y28, .int y29, .int y30, .int y31, .int y32, .int y33] (.int 0)) (wL : o0 ≠ vb) (hG : (0 : Int32) < (p1 - (34 : Int32))) (hmx : (p1 - (34 : Int32)) < (36 : Int32)) :
  MF l mN0 jdk_68_method_9_code 3 none ws (rmm 3 1 70 48) #[.ref o0, .int p1] Z h0 (QenG Z o0 p1 vb kb u y0 y1 y2 y3 y4 y5 y6 y7 y8 y9 y10 y11 y12 y13 y14 y15 y16 y17 y18 y19 y20 y21 y22 y23 y24 y25 y26 y27 y28 y29 y30 y31 y32 y33 h0 n0) := by
 refine MF.of (plainFor_of_name pn_4) ?_
 intro p e s m below meth c s₁ QQ hy hml hown hZ X0 e0 hrt hlk hnm hQQ
 have hx := hy.1
 have hby := hy.2
 have N0 := Fr.nil n0
 refine Ends.i #[rv o0, iv p1, uu] (oA X0 hy d10_0 1 rfl (gF X0 hy hown hZ hw e0 we d10_1 4 34 rfl fun T476 X476 e476 => aLn X476 hy hZ e476 wN d10_4 5 (oA X476 hy d10_5 6 rfl (gF X476 hy hown hZ hw e476 wd d10_6 9 36 rfl fun T478 X478 e478 => oP X478 hy d10_9 10 ?_))))
 show Ends p e below QQ (T478.setTop (mkF m 10 #[rv o0, iv p1, uu] [.int 34]))
 refine oxp X478 hy d10_10 11 #[rv o0, iv p1, iv 34] rfl (oC X478 hy d10_11 12 rfl (oC X478 hy d10_12 13 rfl (oL X478 hy d10_13 14 ?_)))
 have hc14 : (0 : Int32) < (p1 - (34 : Int32)) := hG
 refine oxh X478 hy d10_14 17 (XT.i0_le_f hc14) (oA X478 hy d10_17 18 rfl (oA X478 hy d10_18 19 rfl (gF X478 hy hown hZ hw e478 we d10_19 22 34 rfl fun T479 X479 e479 => oA X479 hy d10_22 23 rfl (oC X479 hy d10_23 24 rfl ?_))))
 refine cP X479 hy hml hown hZ hw d10_24 27 2 95 96 72 97 99 28 rfl rfl rfl rfl rfl rfl rfl (rmncG l Z a0 hw [] o0 p1 vb kb [.int y0, .int y1, .int y2, .int y3, .int y4, .int y5, .int y6, .int y7, .int y8, .int y9, .int y10, .int y11, .int y12, .int y13, .int y14, .int y15, .int y16, .int y17, .int y18, .int y19, .int y20, .int y21, .int y22, .int y23, .int y24, .int y25, .int y26, .int y27, .int y28, .int y29, .int y30, .int y31, .int y32, .int y33] h0 n0 Z0 we wd wN hmx) e479 pd_13 wo rfl rfl fun _ T480 Lc480 X480 hQ480 => ?_
 obtain ⟨rfl, Nq480, hh480⟩ := hQ480
 have N480 := Fr.app N0 Nq480
 refine Ends.v (oA X480 hy d10_27 28 rfl (gF X480 hy hown hZ hw hh480 wd d10_28 31 36 rfl fun T481 X481 e481 => oO X481 hy d10_31 32 ?_))
 show Ends p e below QQ (T481.setTop (mkF m 32 #[rv o0, iv p1, iv 34] [.int 70, .ref vb, .ref o0]))
 refine cS X481 hy hml hown hZ hw d10_32 35 1 110 111 112 113 rfl rfl rfl rfl (rmcpG l Z a0 hw [] vb kb y0 y1 y2 y3 y4 y5 y6 y7 y8 y9 y10 y11 y12 y13 y14 y15 y16 y17 y18 y19 y20 y21 y22 y23 y24 y25 y26 y27 y28 y29 y30 y31 y32 y33 h0 n0 Z0 wN) e481 pd_14 rfl rfl fun _ T482 Lc482 X482 hQ482 => ?_
 obtain ⟨b_482, k2_482, rfl, Nq482, Kq482, fq482_0, WQ, jE, jJ⟩ := hQ482
 have N482 := Fr.app N480 Nq482
 have zg : o0 ≠ b_482 := Nat.ne_of_lt (Nat.lt_of_lt_of_le wo.lt fq482_0)
 have Wi := Nat.le_trans (Keep.refl h0 [o0]).1 fq482_0
 have wo := wo.keep Kq482
 have we := we.keep Kq482 nin0
 have wd := wd.keep Kq482 nin0
 have wh := wh.keep Kq482 nin0
 have K482 := (Keep.refl h0 [o0]).trans Kq482 all0
 refine Ends.v ?_
 obtain ⟨T483, h483, X483, e483, W483, st483⟩ := putF X482 hx hZ hown (host := "") (Or.inl (tb hw 34 rfl)) Via.refl rfl we wo (Or.inl (tb hw 35 rfl)) (tb hw 19 rfl) (ty := (.array .byte)) (by decide) rfl rfl (g := (mkF m 35 #[rv o0, iv p1, iv 34] [.ref b_482, .ref o0])) rfl rfl (hb hby d10_35)
 have wo := wo.wr W483
 have wd := wd.other W483 (Or.inr (slot_ne (Or.inl (tb hw 37 rfl)) (Or.inl (tb hw 35 rfl)) (by decide) (t := .byte) (t' := (.array .byte)) (by decide) (by decide)))
 have wh := wh.other W483 (Or.inr (slot_ne (Or.inl (tb hw 68 rfl)) (Or.inl (tb hw 35 rfl)) (by decide) (t := .int) (t' := (.array .byte)) (by decide) (by decide)))
 have jE := jE.wr W483
 have jJ := jJ.other W483 (Ne.symm zg)
 have we : fDQ Z h483 o0 (.ref b_482) := we.same W483
 have K483 := K482.wr W483 (Or.inl mm0)
 have N483 := Fr.snoc X483 N482 wV
 refine Ends.j 38 [] st483 ?_
 exact fV X483 hy hrt hlk hQQ d10_38 e483 (by decide) ⟨b_482, k2_482, rfl, N483, K483, Wi, WQ, wo, we, wd, wh, jE, jJ⟩
def QenN (Z : State) (o0 : Addr) (p1 : Int32) (vb : Addr) (kb : ClassId) (vs : List Value) (h0 : Heap) (n0 : Nat) : QT := fun v h L => (v = none) ∧ (Fr n0 L) ∧ (h = h0)
theorem rmenN (l : Launch) (Z : State) (a0 : Array Value) (hw : TW a0 Z) (ws : List Jvm.Cond) (o0 : Addr) (p1 : Int32) (vb : Addr) (kb : ClassId) (vs : List Value) (h0 : Heap) (n0 : Nat) (Z0 : n0 ≤ h0.size) (we : fDQ Z h0 o0 (.ref vb)) (wd : fCQ Z h0 o0 (.int 0)) (wN : Arv Z h0 vb kb .byte 34 vs (.int 0)) (hNo : ¬ (0 : Int32) < (p1 - (34 : Int32))) :
  MF l mN0 jdk_68_method_9_code 3 none ws (rmm 0 0 0 0) #[.ref o0, .int p1] Z h0 (QenN Z o0 p1 vb kb vs h0 n0) := by
 refine MF.of (plainFor_of_name pn_4) ?_
 intro p e s m below meth c s₁ QQ hy hml hown hZ X0 e0 hrt hlk hnm hQQ
 have N0 := Fr.nil n0
 refine Ends.i #[rv o0, iv p1, uu] (oA X0 hy d10_0 1 rfl (gF X0 hy hown hZ hw e0 we d10_1 4 34 rfl fun T484 X484 e484 => aLn X484 hy hZ e484 wN d10_4 5 (oA X484 hy d10_5 6 rfl (gF X484 hy hown hZ hw e484 wd d10_6 9 36 rfl fun T486 X486 e486 => oP X486 hy d10_9 10 ?_))))
 show Ends p e below QQ (T486.setTop (mkF m 10 #[rv o0, iv p1, uu] [.int 34]))
 refine oxp X486 hy d10_10 11 #[rv o0, iv p1, iv 34] rfl (oC X486 hy d10_11 12 rfl (oC X486 hy d10_12 13 rfl (oL X486 hy d10_13 14 ?_)))
 have hc14 : ¬ ((0 : Int32) < (p1 - (34 : Int32))) := hNo
 refine oxk X486 hy d10_14 38 (XT.i0_le_t hc14) ?_
 exact fV X486 hy hrt hlk hQQ d10_38 e486 (by decide) ⟨rfl, N0, rfl⟩
theorem d20_0 : decode cD4 0 = .ok (.aload_n 0, 1) := by decide +kernel
theorem d20_1 : decode cD4 1 = .ok (.getfield 79, 3) := by decide +kernel
theorem d20_4 : decode cD4 4 = .ok (.istore_n 3, 1) := by decide +kernel
theorem d20_5 : decode cD4 5 = .ok (.iload_n 3, 1) := by decide +kernel
theorem d20_6 : decode cD4 6 = .ok (.lload_n 1, 1) := by decide +kernel
theorem d20_7 : decode cD4 7 = .ok (.invokestatic 254, 3) := by decide +kernel
theorem d20_10 : decode cD4 10 = .ok (.iadd, 1) := by decide +kernel
theorem d20_11 : decode cD4 11 = .ok (.istore 4, 2) := by decide +kernel
theorem d20_13 : decode cD4 13 = .ok (.aload_n 0, 1) := by decide +kernel
theorem d20_14 : decode cD4 14 = .ok (.iload 4, 2) := by decide +kernel
theorem d20_16 : decode cD4 16 = .ok (.invokevirtual 100, 3) := by decide +kernel
theorem d20_19 : decode cD4 19 = .ok (.aload_n 0, 1) := by decide +kernel
theorem d20_20 : decode cD4 20 = .ok (.invokevirtual 83, 3) := by decide +kernel
theorem d20_23 : decode cD4 23 = .ok (.ifCond .eq 17, 3) := by decide +kernel
theorem d20_26 : decode cD4 26 = .ok (.lload_n 1, 1) := by decide +kernel
theorem d20_27 : decode cD4 27 = .ok (.iload 4, 2) := by decide +kernel
theorem d20_29 : decode cD4 29 = .ok (.aload_n 0, 1) := by decide +kernel
theorem d20_30 : decode cD4 30 = .ok (.getfield 15, 3) := by decide +kernel
theorem d20_33 : decode cD4 33 = .ok (.invokestatic 259, 3) := by decide +kernel
theorem d20_36 : decode cD4 36 = .ok (.pop, 1) := by decide +kernel
theorem d20_37 : decode cD4 37 = .ok (.goto 15, 3) := by decide +kernel
theorem d20_52 : decode cD4 52 = .ok (.aload_n 0, 1) := by decide +kernel
theorem d20_53 : decode cD4 53 = .ok (.iload 4, 2) := by decide +kernel
theorem d20_55 : decode cD4 55 = .ok (.putfield 79, 3) := by decide +kernel
theorem d20_58 : decode cD4 58 = .ok (.aload_n 0, 1) := by decide +kernel
theorem d20_59 : decode cD4 59 = .ok (.areturn, 1) := by decide +kernel
def Qaj200 (Z : State) (o0 : Addr) (q1 : Int64) (vb : Addr) (kb : ClassId) (cs : Int32) (a_D1 : Addr) (k_a_D1 : ClassId) (a_D2 : Addr) (k_a_D2 : ClassId) (x0 x1 x2 x3 x4 x5 x6 x7 x8 x9 x10 x11 x12 x13 x14 x15 x16 x17 x18 x19 : Int32) (h0 : Heap) (n0 : Nat) : QT := fun v h L => ∃ (mm : Nat), (v = some (.ref o0)) ∧ (Fr n0 L) ∧ (Keep h0 h [o0, vb]) ∧ (eBQ Z h o0) ∧ (fDQ Z h o0 (.ref vb)) ∧ (fCQ Z h o0 (.int 0)) ∧ (fEQ Z h o0 (.int ((20 : Int32) + (fss q1)))) ∧ (eCQ Z h vb) ∧ (Arv Z h vb kb .byte 34 (own_L (34 : Int32).toNatClampNeg (own_gf q1 ((20 : Int32) + (fss q1)).toNatClampNeg mm (own_lit [x0, x1, x2, x3, x4, x5, x6, x7, x8, x9, x10, x11, x12, x13, x14, x15, x16, x17, x18, x19, 0, 0, 0, 0, 0, 0, 0, 0, 0, 0, 0, 0, 0, 0]))) (.int 0)) ∧ (own_isnd (own_M q1) mm)
theorem rmaj200 (l : Launch) (Z : State) (a0 : Array Value) (hw : TW a0 Z) (ws : List Jvm.Cond) (o0 : Addr) (q1 : Int64) (vb : Addr) (kb : ClassId) (cs : Int32) (a_D1 : Addr) (k_a_D1 : ClassId) (a_D2 : Addr) (k_a_D2 : ClassId) (x0 x1 x2 x3 x4 x5 x6 x7 x8 x9 x10 x11 x12 x13 x14 x15 x16 x17 x18 x19 : Int32) (h0 : Heap) (n0 : Nat) (Z0 : n0 ≤ h0.size) (wo : eBQ Z h0 o0) (we : fDQ Z h0 o0 (.ref vb)) (wd : fCQ Z h0 o0 (.int 0)) (wh : fEQ Z h0 o0 (.int 20)) (wU : eCQ Z h0 vb) (wN : Arv Z h0 vb kb .byte 34 [.int x0, .int x1, .int x2, .int x3, .int x4, .int x5, .int x6, .int x7, .int x8, .int x9, .int x10, .int x11, .int x12, .int x13, .int x14, .int x15, .int x16, .int x17, .int x18, .int x19, .int 0, .int 0, .int 0, .int 0, .int 0, .int 0, .int 0, .int 0, .int 0, .int 0, .int 0, .int 0, .int 0, .int 0] (.int 0)) (wV : n0 ≤ o0) (vr : n0 ≤ vb) (wL : o0 ≠ vb) (wa : sJQ Z h0 (.int cs)) (hcs : ¬ cs = (0 : Int32)) (wv : Arv Z h0 a_D1 k_a_D1 .byte 100 own_ones (.int 0)) (wg : sHQ Z h0 (.ref a_D1)) (wn : Arv Z h0 a_D2 k_a_D2 .byte 100 own_tens (.int 0)) (wf : sIQ Z h0 (.ref a_D2)) (vy : a_D1 ≠ vb) (vw : a_D2 ≠ vb) (vz : a_D1 ≠ o0) (vx : a_D2 ≠ o0) (hNo : ¬ (0 : Int32) < (((20 : Int32) + (fss q1)) - (34 : Int32))) :
  MF l mN6 jdk_68_method_33_code 5 (some (.object "java/lang/AbstractStringBuilder")) ws (rmm 1 0 0 22) #[.ref o0, .long q1] Z h0 (Qaj200 Z o0 q1 vb kb cs a_D1 k_a_D1 a_D2 k_a_D2 x0 x1 x2 x3 x4 x5 x6 x7 x8 x9 x10 x11 x12 x13 x14 x15 x16 x17 x18 x19 h0 n0) := by
 refine MF.of (plainFor_of_name pn_4) ?_
 intro p e s m below meth c s₁ QQ hy hml hown hZ X0 e0 hrt hlk hnm hQQ
 have hx := hy.1
 have hby := hy.2
 have N0 := Fr.nil n0
 refine Ends.i #[rv o0, jv q1, ss, uu, uu] (oA X0 hy d20_0 1 rfl (gF X0 hy hown hZ hw e0 wh d20_1 4 67 rfl fun T487 X487 e487 => oxp X487 hy d20_4 5 #[rv o0, jv q1, ss, iv 20, uu] rfl (oC X487 hy d20_5 6 rfl (oE X487 hy d20_6 7 rfl ?_))))
 refine cS X487 hy hml hown hZ hw d20_7 10 1 127 128 129 130 rfl rfl rfl rfl (rmss l Z a0 hw [] q1 h0 n0 Z0) e487 pd_15 rfl rfl fun _ T488 Lc488 X488 hQ488 => ?_
 obtain ⟨rfl, Nq488, hh488⟩ := hQ488
 have N488 := Fr.app N0 Nq488
 refine Ends.v (oK X488 hy d20_10 11 (oxo X488 hy d20_11 13 #[rv o0, jv q1, ss, iv 20, iv ((20 : Int32) + (fss q1))] rfl (oA X488 hy d20_13 14 rfl (oD X488 hy d20_14 16 rfl ?_))))
 refine cP X488 hy hml hown hZ hw d20_16 19 0 69 70 72 71 73 28 rfl rfl rfl rfl rfl rfl rfl (rmenN l Z a0 hw [] o0 ((20 : Int32) + (fss q1)) vb kb [.int x0, .int x1, .int x2, .int x3, .int x4, .int x5, .int x6, .int x7, .int x8, .int x9, .int x10, .int x11, .int x12, .int x13, .int x14, .int x15, .int x16, .int x17, .int x18, .int x19, .int 0, .int 0, .int 0, .int 0, .int 0, .int 0, .int 0, .int 0, .int 0, .int 0, .int 0, .int 0, .int 0, .int 0] h0 n0 Z0 we wd wN hNo) hh488 pd_5 wo rfl rfl fun _ T489 Lc489 X489 hQ489 => ?_
 obtain ⟨rfl, Nq489, hh489⟩ := hQ489
 have N489 := Fr.app N488 Nq489
 refine Ends.u (oA X489 hy d20_19 20 rfl ?_)
 refine cV X489 hy hml hown hZ hw d20_20 23 0 132 133 135 134 136 28 rfl rfl rfl rfl rfl rfl (rmasi l Z a0 hw [] o0 cs h0 n0 Z0 wa hcs wd) hh489 pd_3 wo rfl rfl fun _ T490 Lc490 X490 hQ490 => ?_
 obtain ⟨rfl, Nq490, hh490⟩ := hQ490
 have N490 := Fr.app N489 Nq490
 refine Ends.v (oxh X490 hy d20_23 26 (XT.i0_eq_f (by decide)) (oE X490 hy d20_26 27 rfl (oD X490 hy d20_27 29 rfl (oA X490 hy d20_29 30 rfl ?_))))
 obtain ⟨T491, X491, e491, st491⟩ := getF X490 hx hZ hown (host := "") (Or.inl (tb hw 34 rfl)) Via.refl hh490 we (g := (mkF m 30 #[rv o0, jv q1, ss, iv 20, iv ((20 : Int32) + (fss q1))] [.ref o0, (.int ((20 : Int32) + (fss q1))), .long q1])) rfl rfl (hb hby d20_30)
 refine Ends.step st491 ?_
 have wN : Arv Z h0 vb kb .byte 34 (own_L (34 : Int32).toNatClampNeg (own_lit [x0, x1, x2, x3, x4, x5, x6, x7, x8, x9, x10, x11, x12, x13, x14, x15, x16, x17, x18, x19, 0, 0, 0, 0, 0, 0, 0, 0, 0, 0, 0, 0, 0, 0])) (.int 0) := by rw [own_cv34_20]; exact wN
 show Ends p e below QQ (T491.setTop (mkF m 33 #[rv o0, jv q1, ss, iv 20, iv ((20 : Int32) + (fss q1))] [.ref vb, (.int ((20 : Int32) + (fss q1))), .long q1]))
 refine cS X491 hy hml hown hZ hw d20_33 36 0 137 138 129 139 rfl rfl rfl rfl (rmgc l Z a0 hw [] q1 ((20 : Int32) + (fss q1)) vb kb (34 : Int32) (own_lit [x0, x1, x2, x3, x4, x5, x6, x7, x8, x9, x10, x11, x12, x13, x14, x15, x16, x17, x18, x19, 0, 0, 0, 0, 0, 0, 0, 0, 0, 0, 0, 0, 0, 0]) a_D1 k_a_D1 a_D2 k_a_D2 h0 n0 Z0 wN vr (Ne.symm vy) (Ne.symm vw) wv wg wn wf (own_p020 q1) (own_p120 q1) (own_pN (own_c20 q1) hNo)) e491 pd_16 rfl rfl fun _ T492 Lc492 X492 hQ492 => ?_
 obtain ⟨rv_492, mm_492, rfl, Nq492, Kq492, wN, hmm⟩ := hQ492
 have N492 := Fr.app N490 Nq492
 have wo := wo.keep Kq492
 have we := we.keep Kq492 (ninS wL nin0)
 have wd := wd.keep Kq492 (ninS wL nin0)
 have wh := wh.keep Kq492 (ninS wL nin0)
 have wU := wU.keep Kq492
 have K492 := (Keep.refl h0 [o0, vb]).trans Kq492 (allS (Or.inl mm1) all0)
 refine Ends.v (oxe X492 hy d20_36 37 rfl (oxm X492 hy d20_37 52 (oA X492 hy d20_52 53 rfl (oD X492 hy d20_53 55 rfl ?_))))
 obtain ⟨T493, h493, X493, e493, W493, st493⟩ := putF X492 hx hZ hown (host := "") (Or.inl (tb hw 67 rfl)) Via.refl rfl wh wo (Or.inl (tb hw 68 rfl)) (tb hw 19 rfl) (ty := .int) (by decide) rfl rfl (g := (mkF m 55 #[rv o0, jv q1, ss, iv 20, iv ((20 : Int32) + (fss q1))] [(.int ((20 : Int32) + (fss q1))), .ref o0])) rfl rfl (hb hby d20_55)
 have wo := wo.wr W493
 have we := we.other W493 (Or.inr (slot_ne (Or.inl (tb hw 35 rfl)) (Or.inl (tb hw 68 rfl)) (by decide) (t := (.array .byte)) (t' := .int) (by decide) (by decide)))
 have wd := wd.other W493 (Or.inr (slot_ne (Or.inl (tb hw 37 rfl)) (Or.inl (tb hw 68 rfl)) (by decide) (t := .byte) (t' := .int) (by decide) (by decide)))
 have wU := wU.wr W493
 have wN := wN.other W493 (Ne.symm wL)
 have wh : fEQ Z h493 o0 (.int ((20 : Int32) + (fss q1))) := wh.same W493
 have K493 := K492.wr W493 (Or.inl mm0)
 have N493 := Fr.snoc X493 N492 wV
 refine Ends.j 58 [] st493 ?_
 refine oA X493 hy d20_58 59 rfl ?_
 exact fA X493 hy hrt hlk hQQ d20_59 rfl rfl e493 (by decide) ⟨mm_492, rfl, N493, K493, wo, we, wd, wh, wU, wN, hmm⟩
theorem d19_0 : decode cD30 0 = .ok (.aload_n 0, 1) := by decide +kernel
theorem d19_1 : decode cD30 1 = .ok (.lload_n 1, 1) := by decide +kernel
theorem d19_2 : decode cD30 2 = .ok (.invokespecial 56, 3) := by decide +kernel
theorem d19_5 : decode cD30 5 = .ok (.pop, 1) := by decide +kernel
theorem d19_6 : decode cD30 6 = .ok (.aload_n 0, 1) := by decide +kernel
theorem d19_7 : decode cD30 7 = .ok (.areturn, 1) := by decide +kernel
def Qsj200 (Z : State) (o0 : Addr) (q1 : Int64) (vb : Addr) (kb : ClassId) (cs : Int32) (a_D1 : Addr) (k_a_D1 : ClassId) (a_D2 : Addr) (k_a_D2 : ClassId) (x0 x1 x2 x3 x4 x5 x6 x7 x8 x9 x10 x11 x12 x13 x14 x15 x16 x17 x18 x19 : Int32) (h0 : Heap) (n0 : Nat) : QT := fun v h L => ∃ (mm : Nat), (v = some (.ref o0)) ∧ (Fr n0 L) ∧ (Keep h0 h [o0, vb]) ∧ (eBQ Z h o0) ∧ (fDQ Z h o0 (.ref vb)) ∧ (fCQ Z h o0 (.int 0)) ∧ (fEQ Z h o0 (.int ((20 : Int32) + (fss q1)))) ∧ (eCQ Z h vb) ∧ (Arv Z h vb kb .byte 34 (own_L (34 : Int32).toNatClampNeg (own_gf q1 ((20 : Int32) + (fss q1)).toNatClampNeg mm (own_lit [x0, x1, x2, x3, x4, x5, x6, x7, x8, x9, x10, x11, x12, x13, x14, x15, x16, x17, x18, x19, 0, 0, 0, 0, 0, 0, 0, 0, 0, 0, 0, 0, 0, 0]))) (.int 0)) ∧ (own_isnd (own_M q1) mm)
theorem rmsj200 (l : Launch) (Z : State) (a0 : Array Value) (hw : TW a0 Z) (ws : List Jvm.Cond) (o0 : Addr) (q1 : Int64) (vb : Addr) (kb : ClassId) (cs : Int32) (a_D1 : Addr) (k_a_D1 : ClassId) (a_D2 : Addr) (k_a_D2 : ClassId) (x0 x1 x2 x3 x4 x5 x6 x7 x8 x9 x10 x11 x12 x13 x14 x15 x16 x17 x18 x19 : Int32) (h0 : Heap) (n0 : Nat) (Z0 : n0 ≤ h0.size) (wo : eBQ Z h0 o0) (we : fDQ Z h0 o0 (.ref vb)) (wd : fCQ Z h0 o0 (.int 0)) (wh : fEQ Z h0 o0 (.int 20)) (wU : eCQ Z h0 vb) (wN : Arv Z h0 vb kb .byte 34 [.int x0, .int x1, .int x2, .int x3, .int x4, .int x5, .int x6, .int x7, .int x8, .int x9, .int x10, .int x11, .int x12, .int x13, .int x14, .int x15, .int x16, .int x17, .int x18, .int x19, .int 0, .int 0, .int 0, .int 0, .int 0, .int 0, .int 0, .int 0, .int 0, .int 0, .int 0, .int 0, .int 0, .int 0] (.int 0)) (wV : n0 ≤ o0) (vr : n0 ≤ vb) (wL : o0 ≠ vb) (wa : sJQ Z h0 (.int cs)) (hcs : ¬ cs = (0 : Int32)) (wv : Arv Z h0 a_D1 k_a_D1 .byte 100 own_ones (.int 0)) (wg : sHQ Z h0 (.ref a_D1)) (wn : Arv Z h0 a_D2 k_a_D2 .byte 100 own_tens (.int 0)) (wf : sIQ Z h0 (.ref a_D2)) (vy : a_D1 ≠ vb) (vw : a_D2 ≠ vb) (vz : a_D1 ≠ o0) (vx : a_D2 ≠ o0) (hNo : ¬ (0 : Int32) < (((20 : Int32) + (fss q1)) - (34 : Int32))) :
  MF l mN1 jdk_67_method_16_code 3 (some (.object "java/lang/StringBuilder")) ws (rmm 2 0 0 38) #[.ref o0, .long q1] Z h0 (Qsj200 Z o0 q1 vb kb cs a_D1 k_a_D1 a_D2 k_a_D2 x0 x1 x2 x3 x4 x5 x6 x7 x8 x9 x10 x11 x12 x13 x14 x15 x16 x17 x18 x19 h0 n0) := by
 refine MF.of (plainFor_of_name pn_5) ?_
 intro p e s m below meth c s₁ QQ hy hml hown hZ X0 e0 hrt hlk hnm hQQ
 have N0 := Fr.nil n0
 refine Ends.i #[rv o0, jv q1, ss] (oA X0 hy d19_0 1 rfl (oE X0 hy d19_1 2 rfl ?_))
 refine cU X0 hy hml hown hZ hw d19_2 5 0 123 124 72 51 126 28 rfl rfl rfl rfl rfl rfl rfl (rmaj200 l Z a0 hw [] o0 q1 vb kb cs a_D1 k_a_D1 a_D2 k_a_D2 x0 x1 x2 x3 x4 x5 x6 x7 x8 x9 x10 x11 x12 x13 x14 x15 x16 x17 x18 x19 h0 n0 Z0 wo we wd wh wU wN wV vr wL wa hcs wv wg wn wf vy vw vz vx hNo) e0 pd_17 wo rfl rfl fun _ T494 Lc494 X494 hQ494 => ?_
 obtain ⟨mm_494, rfl, Nq494, Kq494, wo, we, wd, wh, wU, wN, hmm⟩ := hQ494
 have N494 := Fr.app N0 Nq494
 have K494 := (Keep.refl h0 [o0, vb]).trans Kq494 (allS (Or.inl mm0) (allS (Or.inl mm1) all0))
 refine Ends.v (oxe X494 hy d19_5 6 rfl (oA X494 hy d19_6 7 rfl ?_))
 exact fA X494 hy hrt hlk hQQ d19_7 rfl rfl rfl (by decide) ⟨mm_494, rfl, N494, K494, wo, we, wd, wh, wU, wN, hmm⟩
def Qaj201 (Z : State) (o0 : Addr) (q1 : Int64) (vb : Addr) (kb : ClassId) (cs : Int32) (a_D1 : Addr) (k_a_D1 : ClassId) (a_D2 : Addr) (k_a_D2 : ClassId) (x0 x1 x2 x3 x4 x5 x6 x7 x8 x9 x10 x11 x12 x13 x14 x15 x16 x17 x18 x19 : Int32) (h0 : Heap) (n0 : Nat) : QT := fun v h L => ∃ (b : Addr), ∃ (k2 : ClassId), ∃ (mm : Nat), (v = some (.ref o0)) ∧ (Fr n0 L) ∧ (Keep h0 h [o0]) ∧ (h0.size ≤ b) ∧ (n0 ≤ b) ∧ (eBQ Z h o0) ∧ (fDQ Z h o0 (.ref b)) ∧ (fCQ Z h o0 (.int 0)) ∧ (fEQ Z h o0 (.int ((20 : Int32) + (fss q1)))) ∧ (eCQ Z h b) ∧ (Arv Z h b k2 .byte 70 (own_L (70 : Int32).toNatClampNeg (own_gf q1 ((20 : Int32) + (fss q1)).toNatClampNeg mm (own_lit [x0, x1, x2, x3, x4, x5, x6, x7, x8, x9, x10, x11, x12, x13, x14, x15, x16, x17, x18, x19, 0, 0, 0, 0, 0, 0, 0, 0, 0, 0, 0, 0, 0, 0, 0, 0, 0, 0, 0, 0, 0, 0, 0, 0, 0, 0, 0, 0, 0, 0, 0, 0, 0, 0, 0, 0, 0, 0, 0, 0, 0, 0, 0, 0, 0, 0, 0, 0, 0, 0]))) (.int 0)) ∧ (own_isnd (own_M q1) mm)
theorem rmaj201 (l : Launch) (Z : State) (a0 : Array Value) (hw : TW a0 Z) (ws : List Jvm.Cond) (o0 : Addr) (q1 : Int64) (vb : Addr) (kb : ClassId) (cs : Int32) (a_D1 : Addr) (k_a_D1 : ClassId) (a_D2 : Addr) (k_a_D2 : ClassId) (x0 x1 x2 x3 x4 x5 x6 x7 x8 x9 x10 x11 x12 x13 x14 x15 x16 x17 x18 x19 : Int32) (h0 : Heap) (n0 : Nat) (Z0 : n0 ≤ h0.size) (wo : eBQ Z h0 o0) (we : fDQ Z h0 o0 (.ref vb)) (wd : fCQ Z h0 o0 (.int 0)) (wh : fEQ Z h0 o0 (.int 20)) (wU : eCQ Z h0 vb) (wN : Arv Z h0 vb kb .byte 34 [.int x0, .int x1, .int x2, .int x3, .int x4, .int x5, .int x6, .int x7, .int x8, .int x9, .int x10, .int x11, .int x12, .int x13, .int x14, .int x15, .int x16, .int x17, .int x18, .int x19, .int 0, .int 0, .int 0, .int 0, .int 0, .int 0, .int 0, .int 0, .int 0, .int 0, .int 0, .int 0, .int 0, .int 0] (.int 0)) (wV : n0 ≤ o0) (vr : n0 ≤ vb) (wL : o0 ≠ vb) (wa : sJQ Z h0 (.int cs)) (hcs : ¬ cs = (0 : Int32)) (wv : Arv Z h0 a_D1 k_a_D1 .byte 100 own_ones (.int 0)) (wg : sHQ Z h0 (.ref a_D1)) (wn : Arv Z h0 a_D2 k_a_D2 .byte 100 own_tens (.int 0)) (wf : sIQ Z h0 (.ref a_D2)) (vy : a_D1 ≠ vb) (vw : a_D2 ≠ vb) (vz : a_D1 ≠ o0) (vx : a_D2 ≠ o0) (hG : (0 : Int32) < (((20 : Int32) + (fss q1)) - (34 : Int32))) :
  MF l mN6 jdk_68_method_33_code 5 (some (.object "java/lang/AbstractStringBuilder")) ws (rmm 4 1 70 62) #[.ref o0, .long q1] Z h0 (Qaj201 Z o0 q1 vb kb cs a_D1 k_a_D1 a_D2 k_a_D2 x0 x1 x2 x3 x4 x5 x6 x7 x8 x9 x10 x11 x12 x13 x14 x15 x16 x17 x18 x19 h0 n0) := by
 refine MF.of (plainFor_of_name pn_4) ?_
 intro p e s m below meth c s₁ QQ hy hml hown hZ X0 e0 hrt hlk hnm hQQ
 have hx := hy.1
 have hby := hy.2
 have N0 := Fr.nil n0
 refine Ends.i #[rv o0, jv q1, ss, uu, uu] (oA X0 hy d20_0 1 rfl (gF X0 hy hown hZ hw e0 wh d20_1 4 67 rfl fun T495 X495 e495 => oxp X495 hy d20_4 5 #[rv o0, jv q1, ss, iv 20, uu] rfl (oC X495 hy d20_5 6 rfl (oE X495 hy d20_6 7 rfl ?_))))
 refine cS X495 hy hml hown hZ hw d20_7 10 1 127 128 129 130 rfl rfl rfl rfl (rmss l Z a0 hw [] q1 h0 n0 Z0) e495 pd_15 rfl rfl fun _ T496 Lc496 X496 hQ496 => ?_
 obtain ⟨rfl, Nq496, hh496⟩ := hQ496
 have N496 := Fr.app N0 Nq496
 refine Ends.v (oK X496 hy d20_10 11 (oxo X496 hy d20_11 13 #[rv o0, jv q1, ss, iv 20, iv ((20 : Int32) + (fss q1))] rfl (oA X496 hy d20_13 14 rfl (oD X496 hy d20_14 16 rfl ?_))))
 refine cP X496 hy hml hown hZ hw d20_16 19 0 69 70 72 71 73 28 rfl rfl rfl rfl rfl rfl rfl (rmenG l Z a0 hw [] o0 ((20 : Int32) + (fss q1)) vb kb (20 : Int32) x0 x1 x2 x3 x4 x5 x6 x7 x8 x9 x10 x11 x12 x13 x14 x15 x16 x17 x18 x19 (0 : Int32) (0 : Int32) (0 : Int32) (0 : Int32) (0 : Int32) (0 : Int32) (0 : Int32) (0 : Int32) (0 : Int32) (0 : Int32) (0 : Int32) (0 : Int32) (0 : Int32) (0 : Int32) h0 n0 Z0 wo we wd wh wV wN wL hG (own_hmx (own_c20 q1))) hh496 pd_5 wo rfl rfl fun _ T497 Lc497 X497 hQ497 => ?_
 obtain ⟨b_497, k2_497, rfl, Nq497, Kq497, fq497_0, zs, fq497_2, we, wd, wh, kK, ki⟩ := hQ497
 have N497 := Fr.app N496 Nq497
 have kl : o0 ≠ b_497 := Nat.ne_of_lt (Nat.lt_of_lt_of_le wo.lt fq497_0)
 have jT : a_D1 ≠ b_497 := Nat.ne_of_lt (Nat.lt_of_lt_of_le wv.lt fq497_0)
 have jR : a_D2 ≠ b_497 := Nat.ne_of_lt (Nat.lt_of_lt_of_le wn.lt fq497_0)
 have uh := Nat.le_trans (Keep.refl h0 [o0]).1 fq497_0
 have wa := own_sta_keep wa Kq497 (allS wo.cell all0)
 have wg := own_sta_keep wg Kq497 (allS wo.cell all0)
 have wf := own_sta_keep wf Kq497 (allS wo.cell all0)
 have wv := wv.keep Kq497 (ninS vz nin0)
 have wn := wn.keep Kq497 (ninS vx nin0)
 have wo := fq497_2
 have K497 := (Keep.refl h0 [o0]).trans Kq497 (allS (Or.inl mm0) all0)
 refine Ends.u (oA X497 hy d20_19 20 rfl ?_)
 refine cV X497 hy hml hown hZ hw d20_20 23 0 132 133 135 134 136 28 rfl rfl rfl rfl rfl rfl (rmasi l Z a0 hw [] o0 cs T497.heap n0 (Nat.le_trans Z0 K497.1) wa hcs wd) rfl pd_3 wo rfl rfl fun _ T498 Lc498 X498 hQ498 => ?_
 obtain ⟨rfl, Nq498, hh498⟩ := hQ498
 have N498 := Fr.app N497 Nq498
 refine Ends.v (oxh X498 hy d20_23 26 (XT.i0_eq_f (by decide)) (oE X498 hy d20_26 27 rfl (oD X498 hy d20_27 29 rfl (oA X498 hy d20_29 30 rfl ?_))))
 obtain ⟨T499, X499, e499, st499⟩ := getF X498 hx hZ hown (host := "") (Or.inl (tb hw 34 rfl)) Via.refl hh498 we (g := (mkF m 30 #[rv o0, jv q1, ss, iv 20, iv ((20 : Int32) + (fss q1))] [.ref o0, (.int ((20 : Int32) + (fss q1))), .long q1])) rfl rfl (hb hby d20_30)
 refine Ends.step st499 ?_
 have ki : Arv Z T497.heap b_497 k2_497 .byte 70 (own_L (70 : Int32).toNatClampNeg (own_lit [x0, x1, x2, x3, x4, x5, x6, x7, x8, x9, x10, x11, x12, x13, x14, x15, x16, x17, x18, x19, 0, 0, 0, 0, 0, 0, 0, 0, 0, 0, 0, 0, 0, 0, 0, 0, 0, 0, 0, 0, 0, 0, 0, 0, 0, 0, 0, 0, 0, 0, 0, 0, 0, 0, 0, 0, 0, 0, 0, 0, 0, 0, 0, 0, 0, 0, 0, 0, 0, 0])) (.int 0) := by rw [own_cv70_20]; exact ki
 show Ends p e below QQ (T499.setTop (mkF m 33 #[rv o0, jv q1, ss, iv 20, iv ((20 : Int32) + (fss q1))] [.ref b_497, (.int ((20 : Int32) + (fss q1))), .long q1]))
 refine cS X499 hy hml hown hZ hw d20_33 36 0 137 138 129 139 rfl rfl rfl rfl (rmgc l Z a0 hw [] q1 ((20 : Int32) + (fss q1)) b_497 k2_497 (70 : Int32) (own_lit [x0, x1, x2, x3, x4, x5, x6, x7, x8, x9, x10, x11, x12, x13, x14, x15, x16, x17, x18, x19, 0, 0, 0, 0, 0, 0, 0, 0, 0, 0, 0, 0, 0, 0, 0, 0, 0, 0, 0, 0, 0, 0, 0, 0, 0, 0, 0, 0, 0, 0, 0, 0, 0, 0, 0, 0, 0, 0, 0, 0, 0, 0, 0, 0, 0, 0, 0, 0, 0, 0]) a_D1 k_a_D1 a_D2 k_a_D2 T497.heap n0 (Nat.le_trans Z0 K497.1) ki zs (Ne.symm jT) (Ne.symm jR) wv wg wn wf (own_p020 q1) (own_p120 q1) (own_pn20 q1)) e499 pd_16 rfl rfl fun _ T500 Lc500 X500 hQ500 => ?_
 obtain ⟨rv_500, mm_500, rfl, Nq500, Kq500, ki, hmm⟩ := hQ500
 have N500 := Fr.app N498 Nq500
 have wo := wo.keep Kq500
 have we := we.keep Kq500 (ninS kl nin0)
 have wd := wd.keep Kq500 (ninS kl nin0)
 have wh := wh.keep Kq500 (ninS kl nin0)
 have kK := kK.keep Kq500
 have K500 := K497.trans Kq500 (allS (Or.inr uh) all0)
 refine Ends.v (oxe X500 hy d20_36 37 rfl (oxm X500 hy d20_37 52 (oA X500 hy d20_52 53 rfl (oD X500 hy d20_53 55 rfl ?_))))
 obtain ⟨T501, h501, X501, e501, W501, st501⟩ := putF X500 hx hZ hown (host := "") (Or.inl (tb hw 67 rfl)) Via.refl rfl wh wo (Or.inl (tb hw 68 rfl)) (tb hw 19 rfl) (ty := .int) (by decide) rfl rfl (g := (mkF m 55 #[rv o0, jv q1, ss, iv 20, iv ((20 : Int32) + (fss q1))] [(.int ((20 : Int32) + (fss q1))), .ref o0])) rfl rfl (hb hby d20_55)
 have wo := wo.wr W501
 have we := we.other W501 (Or.inr (slot_ne (Or.inl (tb hw 35 rfl)) (Or.inl (tb hw 68 rfl)) (by decide) (t := (.array .byte)) (t' := .int) (by decide) (by decide)))
 have wd := wd.other W501 (Or.inr (slot_ne (Or.inl (tb hw 37 rfl)) (Or.inl (tb hw 68 rfl)) (by decide) (t := .byte) (t' := .int) (by decide) (by decide)))
 have kK := kK.wr W501
 have ki := ki.other W501 (Ne.symm kl)
 have wh : fEQ Z h501 o0 (.int ((20 : Int32) + (fss q1))) := wh.same W501
 have K501 := K500.wr W501 (Or.inl mm0)
 have N501 := Fr.snoc X501 N500 wV
 refine Ends.j 58 [] st501 ?_
 refine oA X501 hy d20_58 59 rfl ?_
 exact fA X501 hy hrt hlk hQQ d20_59 rfl rfl e501 (by decide) ⟨b_497, k2_497, mm_500, rfl, N501, K501, uh, zs, wo, we, wd, wh, kK, ki, hmm⟩
def Qsj201 (Z : State) (o0 : Addr) (q1 : Int64) (vb : Addr) (kb : ClassId) (cs : Int32) (a_D1 : Addr) (k_a_D1 : ClassId) (a_D2 : Addr) (k_a_D2 : ClassId) (x0 x1 x2 x3 x4 x5 x6 x7 x8 x9 x10 x11 x12 x13 x14 x15 x16 x17 x18 x19 : Int32) (h0 : Heap) (n0 : Nat) : QT := fun v h L => ∃ (b : Addr), ∃ (k2 : ClassId), ∃ (mm : Nat), (v = some (.ref o0)) ∧ (Fr n0 L) ∧ (Keep h0 h [o0]) ∧ (h0.size ≤ b) ∧ (n0 ≤ b) ∧ (eBQ Z h o0) ∧ (fDQ Z h o0 (.ref b)) ∧ (fCQ Z h o0 (.int 0)) ∧ (fEQ Z h o0 (.int ((20 : Int32) + (fss q1)))) ∧ (eCQ Z h b) ∧ (Arv Z h b k2 .byte 70 (own_L (70 : Int32).toNatClampNeg (own_gf q1 ((20 : Int32) + (fss q1)).toNatClampNeg mm (own_lit [x0, x1, x2, x3, x4, x5, x6, x7, x8, x9, x10, x11, x12, x13, x14, x15, x16, x17, x18, x19, 0, 0, 0, 0, 0, 0, 0, 0, 0, 0, 0, 0, 0, 0, 0, 0, 0, 0, 0, 0, 0, 0, 0, 0, 0, 0, 0, 0, 0, 0, 0, 0, 0, 0, 0, 0, 0, 0, 0, 0, 0, 0, 0, 0, 0, 0, 0, 0, 0, 0]))) (.int 0)) ∧ (own_isnd (own_M q1) mm)
theorem rmsj201 (l : Launch) (Z : State) (a0 : Array Value) (hw : TW a0 Z) (ws : List Jvm.Cond) (o0 : Addr) (q1 : Int64) (vb : Addr) (kb : ClassId) (cs : Int32) (a_D1 : Addr) (k_a_D1 : ClassId) (a_D2 : Addr) (k_a_D2 : ClassId) (x0 x1 x2 x3 x4 x5 x6 x7 x8 x9 x10 x11 x12 x13 x14 x15 x16 x17 x18 x19 : Int32) (h0 : Heap) (n0 : Nat) (Z0 : n0 ≤ h0.size) (wo : eBQ Z h0 o0) (we : fDQ Z h0 o0 (.ref vb)) (wd : fCQ Z h0 o0 (.int 0)) (wh : fEQ Z h0 o0 (.int 20)) (wU : eCQ Z h0 vb) (wN : Arv Z h0 vb kb .byte 34 [.int x0, .int x1, .int x2, .int x3, .int x4, .int x5, .int x6, .int x7, .int x8, .int x9, .int x10, .int x11, .int x12, .int x13, .int x14, .int x15, .int x16, .int x17, .int x18, .int x19, .int 0, .int 0, .int 0, .int 0, .int 0, .int 0, .int 0, .int 0, .int 0, .int 0, .int 0, .int 0, .int 0, .int 0] (.int 0)) (wV : n0 ≤ o0) (vr : n0 ≤ vb) (wL : o0 ≠ vb) (wa : sJQ Z h0 (.int cs)) (hcs : ¬ cs = (0 : Int32)) (wv : Arv Z h0 a_D1 k_a_D1 .byte 100 own_ones (.int 0)) (wg : sHQ Z h0 (.ref a_D1)) (wn : Arv Z h0 a_D2 k_a_D2 .byte 100 own_tens (.int 0)) (wf : sIQ Z h0 (.ref a_D2)) (vy : a_D1 ≠ vb) (vw : a_D2 ≠ vb) (vz : a_D1 ≠ o0) (vx : a_D2 ≠ o0) (hG : (0 : Int32) < (((20 : Int32) + (fss q1)) - (34 : Int32))) :
  MF l mN1 jdk_67_method_16_code 3 (some (.object "java/lang/StringBuilder")) ws (rmm 5 1 70 78) #[.ref o0, .long q1] Z h0 (Qsj201 Z o0 q1 vb kb cs a_D1 k_a_D1 a_D2 k_a_D2 x0 x1 x2 x3 x4 x5 x6 x7 x8 x9 x10 x11 x12 x13 x14 x15 x16 x17 x18 x19 h0 n0) := by
 refine MF.of (plainFor_of_name pn_5) ?_
 intro p e s m below meth c s₁ QQ hy hml hown hZ X0 e0 hrt hlk hnm hQQ
 have N0 := Fr.nil n0
 refine Ends.i #[rv o0, jv q1, ss] (oA X0 hy d19_0 1 rfl (oE X0 hy d19_1 2 rfl ?_))
 refine cU X0 hy hml hown hZ hw d19_2 5 0 123 124 72 51 126 28 rfl rfl rfl rfl rfl rfl rfl (rmaj201 l Z a0 hw [] o0 q1 vb kb cs a_D1 k_a_D1 a_D2 k_a_D2 x0 x1 x2 x3 x4 x5 x6 x7 x8 x9 x10 x11 x12 x13 x14 x15 x16 x17 x18 x19 h0 n0 Z0 wo we wd wh wU wN wV vr wL wa hcs wv wg wn wf vy vw vz vx hG) e0 pd_17 wo rfl rfl fun _ T502 Lc502 X502 hQ502 => ?_
 obtain ⟨b_502, k2_502, mm_502, rfl, Nq502, Kq502, fq502_0, WP, wo, we, wd, wh, Vq, VH, hmm⟩ := hQ502
 have N502 := Fr.app N0 Nq502
 have Wh := Nat.le_trans (Keep.refl h0 [o0]).1 fq502_0
 have K502 := (Keep.refl h0 [o0]).trans Kq502 (allS (Or.inl mm0) all0)
 refine Ends.v (oxe X502 hy d19_5 6 rfl (oA X502 hy d19_6 7 rfl ?_))
 exact fA X502 hy hrt hlk hQQ d19_7 rfl rfl rfl (by decide) ⟨b_502, k2_502, mm_502, rfl, N502, K502, Wh, WP, wo, we, wd, wh, Vq, VH, hmm⟩
def Qaj240 (Z : State) (o0 : Addr) (q1 : Int64) (vb : Addr) (kb : ClassId) (cs : Int32) (a_D1 : Addr) (k_a_D1 : ClassId) (a_D2 : Addr) (k_a_D2 : ClassId) (x0 x1 x2 x3 x4 x5 x6 x7 x8 x9 x10 x11 x12 x13 x14 x15 x16 x17 x18 x19 x20 x21 x22 x23 : Int32) (h0 : Heap) (n0 : Nat) : QT := fun v h L => ∃ (mm : Nat), (v = some (.ref o0)) ∧ (Fr n0 L) ∧ (Keep h0 h [o0, vb]) ∧ (eBQ Z h o0) ∧ (fDQ Z h o0 (.ref vb)) ∧ (fCQ Z h o0 (.int 0)) ∧ (fEQ Z h o0 (.int ((24 : Int32) + (fss q1)))) ∧ (eCQ Z h vb) ∧ (Arv Z h vb kb .byte 34 (own_L (34 : Int32).toNatClampNeg (own_gf q1 ((24 : Int32) + (fss q1)).toNatClampNeg mm (own_lit [x0, x1, x2, x3, x4, x5, x6, x7, x8, x9, x10, x11, x12, x13, x14, x15, x16, x17, x18, x19, x20, x21, x22, x23, 0, 0, 0, 0, 0, 0, 0, 0, 0, 0]))) (.int 0)) ∧ (own_isnd (own_M q1) mm)
theorem rmaj240 (l : Launch) (Z : State) (a0 : Array Value) (hw : TW a0 Z) (ws : List Jvm.Cond) (o0 : Addr) (q1 : Int64) (vb : Addr) (kb : ClassId) (cs : Int32) (a_D1 : Addr) (k_a_D1 : ClassId) (a_D2 : Addr) (k_a_D2 : ClassId) (x0 x1 x2 x3 x4 x5 x6 x7 x8 x9 x10 x11 x12 x13 x14 x15 x16 x17 x18 x19 x20 x21 x22 x23 : Int32) (h0 : Heap) (n0 : Nat) (Z0 : n0 ≤ h0.size) (wo : eBQ Z h0 o0) (we : fDQ Z h0 o0 (.ref vb)) (wd : fCQ Z h0 o0 (.int 0)) (wh : fEQ Z h0 o0 (.int 24)) (wU : eCQ Z h0 vb) (wN : Arv Z h0 vb kb .byte 34 [.int x0, .int x1, .int x2, .int x3, .int x4, .int x5, .int x6, .int x7, .int x8, .int x9, .int x10, .int x11, .int x12, .int x13, .int x14, .int x15, .int x16, .int x17, .int x18, .int x19, .int x20, .int x21, .int x22, .int x23, .int 0, .int 0, .int 0, .int 0, .int 0, .int 0, .int 0, .int 0, .int 0, .int 0] (.int 0)) (wV : n0 ≤ o0) (vr : n0 ≤ vb) (wL : o0 ≠ vb) (wa : sJQ Z h0 (.int cs)) (hcs : ¬ cs = (0 : Int32)) (wv : Arv Z h0 a_D1 k_a_D1 .byte 100 own_ones (.int 0)) (wg : sHQ Z h0 (.ref a_D1)) (wn : Arv Z h0 a_D2 k_a_D2 .byte 100 own_tens (.int 0)) (wf : sIQ Z h0 (.ref a_D2)) (vy : a_D1 ≠ vb) (vw : a_D2 ≠ vb) (vz : a_D1 ≠ o0) (vx : a_D2 ≠ o0) (hNo : ¬ (0 : Int32) < (((24 : Int32) + (fss q1)) - (34 : Int32))) :
  MF l mN6 jdk_68_method_33_code 5 (some (.object "java/lang/AbstractStringBuilder")) ws (rmm 1 0 0 22) #[.ref o0, .long q1] Z h0 (Qaj240 Z o0 q1 vb kb cs a_D1 k_a_D1 a_D2 k_a_D2 x0 x1 x2 x3 x4 x5 x6 x7 x8 x9 x10 x11 x12 x13 x14 x15 x16 x17 x18 x19 x20 x21 x22 x23 h0 n0) := by
 refine MF.of (plainFor_of_name pn_4) ?_
 intro p e s m below meth c s₁ QQ hy hml hown hZ X0 e0 hrt hlk hnm hQQ
 have hx := hy.1
 have hby := hy.2
 have N0 := Fr.nil n0
 refine Ends.i #[rv o0, jv q1, ss, uu, uu] (oA X0 hy d20_0 1 rfl (gF X0 hy hown hZ hw e0 wh d20_1 4 67 rfl fun T503 X503 e503 => oxp X503 hy d20_4 5 #[rv o0, jv q1, ss, iv 24, uu] rfl (oC X503 hy d20_5 6 rfl (oE X503 hy d20_6 7 rfl ?_))))
 refine cS X503 hy hml hown hZ hw d20_7 10 1 127 128 129 130 rfl rfl rfl rfl (rmss l Z a0 hw [] q1 h0 n0 Z0) e503 pd_15 rfl rfl fun _ T504 Lc504 X504 hQ504 => ?_
 obtain ⟨rfl, Nq504, hh504⟩ := hQ504
 have N504 := Fr.app N0 Nq504
 refine Ends.v (oK X504 hy d20_10 11 (oxo X504 hy d20_11 13 #[rv o0, jv q1, ss, iv 24, iv ((24 : Int32) + (fss q1))] rfl (oA X504 hy d20_13 14 rfl (oD X504 hy d20_14 16 rfl ?_))))
 refine cP X504 hy hml hown hZ hw d20_16 19 0 69 70 72 71 73 28 rfl rfl rfl rfl rfl rfl rfl (rmenN l Z a0 hw [] o0 ((24 : Int32) + (fss q1)) vb kb [.int x0, .int x1, .int x2, .int x3, .int x4, .int x5, .int x6, .int x7, .int x8, .int x9, .int x10, .int x11, .int x12, .int x13, .int x14, .int x15, .int x16, .int x17, .int x18, .int x19, .int x20, .int x21, .int x22, .int x23, .int 0, .int 0, .int 0, .int 0, .int 0, .int 0, .int 0, .int 0, .int 0, .int 0] h0 n0 Z0 we wd wN hNo) hh504 pd_5 wo rfl rfl fun _ T505 Lc505 X505 hQ505 => ?_
 obtain ⟨rfl, Nq505, hh505⟩ := hQ505
 have N505 := Fr.app N504 Nq505
 refine Ends.u (oA X505 hy d20_19 20 rfl ?_)
 refine cV X505 hy hml hown hZ hw d20_20 23 0 132 133 135 134 136 28 rfl rfl rfl rfl rfl rfl (rmasi l Z a0 hw [] o0 cs h0 n0 Z0 wa hcs wd) hh505 pd_3 wo rfl rfl fun _ T506 Lc506 X506 hQ506 => ?_
 obtain ⟨rfl, Nq506, hh506⟩ := hQ506
 have N506 := Fr.app N505 Nq506
 refine Ends.v (oxh X506 hy d20_23 26 (XT.i0_eq_f (by decide)) (oE X506 hy d20_26 27 rfl (oD X506 hy d20_27 29 rfl (oA X506 hy d20_29 30 rfl ?_))))
 obtain ⟨T507, X507, e507, st507⟩ := getF X506 hx hZ hown (host := "") (Or.inl (tb hw 34 rfl)) Via.refl hh506 we (g := (mkF m 30 #[rv o0, jv q1, ss, iv 24, iv ((24 : Int32) + (fss q1))] [.ref o0, (.int ((24 : Int32) + (fss q1))), .long q1])) rfl rfl (hb hby d20_30)
 refine Ends.step st507 ?_
 have wN : Arv Z h0 vb kb .byte 34 (own_L (34 : Int32).toNatClampNeg (own_lit [x0, x1, x2, x3, x4, x5, x6, x7, x8, x9, x10, x11, x12, x13, x14, x15, x16, x17, x18, x19, x20, x21, x22, x23, 0, 0, 0, 0, 0, 0, 0, 0, 0, 0])) (.int 0) := by rw [own_cv34_24]; exact wN
 show Ends p e below QQ (T507.setTop (mkF m 33 #[rv o0, jv q1, ss, iv 24, iv ((24 : Int32) + (fss q1))] [.ref vb, (.int ((24 : Int32) + (fss q1))), .long q1]))
 refine cS X507 hy hml hown hZ hw d20_33 36 0 137 138 129 139 rfl rfl rfl rfl (rmgc l Z a0 hw [] q1 ((24 : Int32) + (fss q1)) vb kb (34 : Int32) (own_lit [x0, x1, x2, x3, x4, x5, x6, x7, x8, x9, x10, x11, x12, x13, x14, x15, x16, x17, x18, x19, x20, x21, x22, x23, 0, 0, 0, 0, 0, 0, 0, 0, 0, 0]) a_D1 k_a_D1 a_D2 k_a_D2 h0 n0 Z0 wN vr (Ne.symm vy) (Ne.symm vw) wv wg wn wf (own_p024 q1) (own_p124 q1) (own_pN (own_c24 q1) hNo)) e507 pd_16 rfl rfl fun _ T508 Lc508 X508 hQ508 => ?_
 obtain ⟨rv_508, mm_508, rfl, Nq508, Kq508, wN, hmm⟩ := hQ508
 have N508 := Fr.app N506 Nq508
 have wo := wo.keep Kq508
 have we := we.keep Kq508 (ninS wL nin0)
 have wd := wd.keep Kq508 (ninS wL nin0)
 have wh := wh.keep Kq508 (ninS wL nin0)
 have wU := wU.keep Kq508
 have K508 := (Keep.refl h0 [o0, vb]).trans Kq508 (allS (Or.inl mm1) all0)
 refine Ends.v (oxe X508 hy d20_36 37 rfl (oxm X508 hy d20_37 52 (oA X508 hy d20_52 53 rfl (oD X508 hy d20_53 55 rfl ?_))))
 obtain ⟨T509, h509, X509, e509, W509, st509⟩ := putF X508 hx hZ hown (host := "") (Or.inl (tb hw 67 rfl)) Via.refl rfl wh wo (Or.inl (tb hw 68 rfl)) (tb hw 19 rfl) (ty := .int) (by decide) rfl rfl (g := (mkF m 55 #[rv o0, jv q1, ss, iv 24, iv ((24 : Int32) + (fss q1))] [(.int ((24 : Int32) + (fss q1))), .ref o0])) rfl rfl (hb hby d20_55)
 have wo := wo.wr W509
 have we := we.other W509 (Or.inr (slot_ne (Or.inl (tb hw 35 rfl)) (Or.inl (tb hw 68 rfl)) (by decide) (t := (.array .byte)) (t' := .int) (by decide) (by decide)))
 have wd := wd.other W509 (Or.inr (slot_ne (Or.inl (tb hw 37 rfl)) (Or.inl (tb hw 68 rfl)) (by decide) (t := .byte) (t' := .int) (by decide) (by decide)))
 have wU := wU.wr W509
 have wN := wN.other W509 (Ne.symm wL)
 have wh : fEQ Z h509 o0 (.int ((24 : Int32) + (fss q1))) := wh.same W509
 have K509 := K508.wr W509 (Or.inl mm0)
 have N509 := Fr.snoc X509 N508 wV
 refine Ends.j 58 [] st509 ?_
 refine oA X509 hy d20_58 59 rfl ?_
 exact fA X509 hy hrt hlk hQQ d20_59 rfl rfl e509 (by decide) ⟨mm_508, rfl, N509, K509, wo, we, wd, wh, wU, wN, hmm⟩
def Qsj240 (Z : State) (o0 : Addr) (q1 : Int64) (vb : Addr) (kb : ClassId) (cs : Int32) (a_D1 : Addr) (k_a_D1 : ClassId) (a_D2 : Addr) (k_a_D2 : ClassId) (x0 x1 x2 x3 x4 x5 x6 x7 x8 x9 x10 x11 x12 x13 x14 x15 x16 x17 x18 x19 x20 x21 x22 x23 : Int32) (h0 : Heap) (n0 : Nat) : QT := fun v h L => ∃ (mm : Nat), (v = some (.ref o0)) ∧ (Fr n0 L) ∧ (Keep h0 h [o0, vb]) ∧ (eBQ Z h o0) ∧ (fDQ Z h o0 (.ref vb)) ∧ (fCQ Z h o0 (.int 0)) ∧ (fEQ Z h o0 (.int ((24 : Int32) + (fss q1)))) ∧ (eCQ Z h vb) ∧ (Arv Z h vb kb .byte 34 (own_L (34 : Int32).toNatClampNeg (own_gf q1 ((24 : Int32) + (fss q1)).toNatClampNeg mm (own_lit [x0, x1, x2, x3, x4, x5, x6, x7, x8, x9, x10, x11, x12, x13, x14, x15, x16, x17, x18, x19, x20, x21, x22, x23, 0, 0, 0, 0, 0, 0, 0, 0, 0, 0]))) (.int 0)) ∧ (own_isnd (own_M q1) mm)
theorem rmsj240 (l : Launch) (Z : State) (a0 : Array Value) (hw : TW a0 Z) (ws : List Jvm.Cond) (o0 : Addr) (q1 : Int64) (vb : Addr) (kb : ClassId) (cs : Int32) (a_D1 : Addr) (k_a_D1 : ClassId) (a_D2 : Addr) (k_a_D2 : ClassId) (x0 x1 x2 x3 x4 x5 x6 x7 x8 x9 x10 x11 x12 x13 x14 x15 x16 x17 x18 x19 x20 x21 x22 x23 : Int32) (h0 : Heap) (n0 : Nat) (Z0 : n0 ≤ h0.size) (wo : eBQ Z h0 o0) (we : fDQ Z h0 o0 (.ref vb)) (wd : fCQ Z h0 o0 (.int 0)) (wh : fEQ Z h0 o0 (.int 24)) (wU : eCQ Z h0 vb) (wN : Arv Z h0 vb kb .byte 34 [.int x0, .int x1, .int x2, .int x3, .int x4, .int x5, .int x6, .int x7, .int x8, .int x9, .int x10, .int x11, .int x12, .int x13, .int x14, .int x15, .int x16, .int x17, .int x18, .int x19, .int x20, .int x21, .int x22, .int x23, .int 0, .int 0, .int 0, .int 0, .int 0, .int 0, .int 0, .int 0, .int 0, .int 0] (.int 0)) (wV : n0 ≤ o0) (vr : n0 ≤ vb) (wL : o0 ≠ vb) (wa : sJQ Z h0 (.int cs)) (hcs : ¬ cs = (0 : Int32)) (wv : Arv Z h0 a_D1 k_a_D1 .byte 100 own_ones (.int 0)) (wg : sHQ Z h0 (.ref a_D1)) (wn : Arv Z h0 a_D2 k_a_D2 .byte 100 own_tens (.int 0)) (wf : sIQ Z h0 (.ref a_D2)) (vy : a_D1 ≠ vb) (vw : a_D2 ≠ vb) (vz : a_D1 ≠ o0) (vx : a_D2 ≠ o0) (hNo : ¬ (0 : Int32) < (((24 : Int32) + (fss q1)) - (34 : Int32))) :
  MF l mN1 jdk_67_method_16_code 3 (some (.object "java/lang/StringBuilder")) ws (rmm 2 0 0 38) #[.ref o0, .long q1] Z h0 (Qsj240 Z o0 q1 vb kb cs a_D1 k_a_D1 a_D2 k_a_D2 x0 x1 x2 x3 x4 x5 x6 x7 x8 x9 x10 x11 x12 x13 x14 x15 x16 x17 x18 x19 x20 x21 x22 x23 h0 n0) := by
 refine MF.of (plainFor_of_name pn_5) ?_
 intro p e s m below meth c s₁ QQ hy hml hown hZ X0 e0 hrt hlk hnm hQQ
 have N0 := Fr.nil n0
 refine Ends.i #[rv o0, jv q1, ss] (oA X0 hy d19_0 1 rfl (oE X0 hy d19_1 2 rfl ?_))
 refine cU X0 hy hml hown hZ hw d19_2 5 0 123 124 72 51 126 28 rfl rfl rfl rfl rfl rfl rfl (rmaj240 l Z a0 hw [] o0 q1 vb kb cs a_D1 k_a_D1 a_D2 k_a_D2 x0 x1 x2 x3 x4 x5 x6 x7 x8 x9 x10 x11 x12 x13 x14 x15 x16 x17 x18 x19 x20 x21 x22 x23 h0 n0 Z0 wo we wd wh wU wN wV vr wL wa hcs wv wg wn wf vy vw vz vx hNo) e0 pd_17 wo rfl rfl fun _ T510 Lc510 X510 hQ510 => ?_
 obtain ⟨mm_510, rfl, Nq510, Kq510, wo, we, wd, wh, wU, wN, hmm⟩ := hQ510
 have N510 := Fr.app N0 Nq510
 have K510 := (Keep.refl h0 [o0, vb]).trans Kq510 (allS (Or.inl mm0) (allS (Or.inl mm1) all0))
 refine Ends.v (oxe X510 hy d19_5 6 rfl (oA X510 hy d19_6 7 rfl ?_))
 exact fA X510 hy hrt hlk hQQ d19_7 rfl rfl rfl (by decide) ⟨mm_510, rfl, N510, K510, wo, we, wd, wh, wU, wN, hmm⟩
def Qaj241 (Z : State) (o0 : Addr) (q1 : Int64) (vb : Addr) (kb : ClassId) (cs : Int32) (a_D1 : Addr) (k_a_D1 : ClassId) (a_D2 : Addr) (k_a_D2 : ClassId) (x0 x1 x2 x3 x4 x5 x6 x7 x8 x9 x10 x11 x12 x13 x14 x15 x16 x17 x18 x19 x20 x21 x22 x23 : Int32) (h0 : Heap) (n0 : Nat) : QT := fun v h L => ∃ (b : Addr), ∃ (k2 : ClassId), ∃ (mm : Nat), (v = some (.ref o0)) ∧ (Fr n0 L) ∧ (Keep h0 h [o0]) ∧ (h0.size ≤ b) ∧ (n0 ≤ b) ∧ (eBQ Z h o0) ∧ (fDQ Z h o0 (.ref b)) ∧ (fCQ Z h o0 (.int 0)) ∧ (fEQ Z h o0 (.int ((24 : Int32) + (fss q1)))) ∧ (eCQ Z h b) ∧ (Arv Z h b k2 .byte 70 (own_L (70 : Int32).toNatClampNeg (own_gf q1 ((24 : Int32) + (fss q1)).toNatClampNeg mm (own_lit [x0, x1, x2, x3, x4, x5, x6, x7, x8, x9, x10, x11, x12, x13, x14, x15, x16, x17, x18, x19, x20, x21, x22, x23, 0, 0, 0, 0, 0, 0, 0, 0, 0, 0, 0, 0, 0, 0, 0, 0, 0, 0, 0, 0, 0, 0, 0, 0, 0, 0, 0, 0, 0, 0, 0, 0, 0, 0, 0, 0, 0, 0, 0, 0, 0, 0, 0, 0, 0, 0]))) (.int 0)) ∧ (own_isnd (own_M q1) mm)
theorem rmaj241 (l : Launch) (Z : State) (a0 : Array Value) (hw : TW a0 Z) (ws : List Jvm.Cond) (o0 : Addr) (q1 : Int64) (vb : Addr) (kb : ClassId) (cs : Int32) (a_D1 : Addr) (k_a_D1 : ClassId) (a_D2 : Addr) (k_a_D2 : ClassId) (x0 x1 x2 x3 x4 x5 x6 x7 x8 x9 x10 x11 x12 x13 x14 x15 x16 x17 x18 x19 x20 x21 x22 x23 : Int32) (h0 : Heap) (n0 : Nat) (Z0 : n0 ≤ h0.size) (wo : eBQ Z h0 o0) (we : fDQ Z h0 o0 (.ref vb)) (wd : fCQ Z h0 o0 (.int 0)) (wh : fEQ Z h0 o0 (.int 24)) (wU : eCQ Z h0 vb) (wN : Arv Z h0 vb kb .byte 34 [.int x0, .int x1, .int x2, .int x3, .int x4, .int x5, .int x6, .int x7, .int x8, .int x9, .int x10, .int x11, .int x12, .int x13, .int x14, .int x15, .int x16, .int x17, .int x18, .int x19, .int x20, .int x21, .int x22, .int x23, .int 0, .int 0, .int 0, .int 0, .int 0, .int 0, .int 0, .int 0, .int 0, .int 0] (.int 0)) (wV : n0 ≤ o0) (vr : n0 ≤ vb) (wL : o0 ≠ vb) (wa : sJQ Z h0 (.int cs)) (hcs : ¬ cs = (0 : Int32)) (wv : Arv Z h0 a_D1 k_a_D1 .byte 100 own_ones (.int 0)) (wg : sHQ Z h0 (.ref a_D1)) (wn : Arv Z h0 a_D2 k_a_D2 .byte 100 own_tens (.int 0)) (wf : sIQ Z h0 (.ref a_D2)) (vy : a_D1 ≠ vb) (vw : a_D2 ≠ vb) (vz : a_D1 ≠ o0) (vx : a_D2 ≠ o0) (hG : (0 : Int32) < (((24 : Int32) + (fss q1)) - (34 : Int32))) :
  MF l mN6 jdk_68_method_33_code 5 (some (.object "java/lang/AbstractStringBuilder")) ws (rmm 4 1 70 62) #[.ref o0, .long q1] Z h0 (Qaj241 Z o0 q1 vb kb cs a_D1 k_a_D1 a_D2 k_a_D2 x0 x1 x2 x3 x4 x5 x6 x7 x8 x9 x10 x11 x12 x13 x14 x15 x16 x17 x18 x19 x20 x21 x22 x23 h0 n0) := by
 refine MF.of (plainFor_of_name pn_4) ?_
 intro p e s m below meth c s₁ QQ hy hml hown hZ X0 e0 hrt hlk hnm hQQ
 have hx := hy.1
 have hby := hy.2
 have N0 := Fr.nil n0
 refine Ends.i #[rv o0, jv q1, ss, uu, uu] (oA X0 hy d20_0 1 rfl (gF X0 hy hown hZ hw e0 wh d20_1 4 67 rfl fun T511 X511 e511 => oxp X511 hy d20_4 5 #[rv o0, jv q1, ss, iv 24, uu] rfl (oC X511 hy d20_5 6 rfl (oE X511 hy d20_6 7 rfl ?_))))
 refine cS X511 hy hml hown hZ hw d20_7 10 1 127 128 129 130 rfl rfl rfl rfl (rmss l Z a0 hw [] q1 h0 n0 Z0) e511 pd_15 rfl rfl fun _ T512 Lc512 X512 hQ512 => ?_
 obtain ⟨rfl, Nq512, hh512⟩ := hQ512
 have N512 := Fr.app N0 Nq512
 refine Ends.v (oK X512 hy d20_10 11 (oxo X512 hy d20_11 13 #[rv o0, jv q1, ss, iv 24, iv ((24 : Int32) + (fss q1))] rfl (oA X512 hy d20_13 14 rfl (oD X512 hy d20_14 16 rfl ?_))))
 refine cP X512 hy hml hown hZ hw d20_16 19 0 69 70 72 71 73 28 rfl rfl rfl rfl rfl rfl rfl (rmenG l Z a0 hw [] o0 ((24 : Int32) + (fss q1)) vb kb (24 : Int32) x0 x1 x2 x3 x4 x5 x6 x7 x8 x9 x10 x11 x12 x13 x14 x15 x16 x17 x18 x19 x20 x21 x22 x23 (0 : Int32) (0 : Int32) (0 : Int32) (0 : Int32) (0 : Int32) (0 : Int32) (0 : Int32) (0 : Int32) (0 : Int32) (0 : Int32) h0 n0 Z0 wo we wd wh wV wN wL hG (own_hmx (own_c24 q1))) hh512 pd_5 wo rfl rfl fun _ T513 Lc513 X513 hQ513 => ?_
 obtain ⟨b_513, k2_513, rfl, Nq513, Kq513, fq513_0, zr, fq513_2, we, wd, wh, kJ, kh⟩ := hQ513
 have N513 := Fr.app N512 Nq513
 have kj : o0 ≠ b_513 := Nat.ne_of_lt (Nat.lt_of_lt_of_le wo.lt fq513_0)
 have jS : a_D1 ≠ b_513 := Nat.ne_of_lt (Nat.lt_of_lt_of_le wv.lt fq513_0)
 have jQ : a_D2 ≠ b_513 := Nat.ne_of_lt (Nat.lt_of_lt_of_le wn.lt fq513_0)
 have ug := Nat.le_trans (Keep.refl h0 [o0]).1 fq513_0
 have wa := own_sta_keep wa Kq513 (allS wo.cell all0)
 have wg := own_sta_keep wg Kq513 (allS wo.cell all0)
 have wf := own_sta_keep wf Kq513 (allS wo.cell all0)
 have wv := wv.keep Kq513 (ninS vz nin0)
 have wn := wn.keep Kq513 (ninS vx nin0)
 have wo := fq513_2
 have K513 := (Keep.refl h0 [o0]).trans Kq513 (allS (Or.inl mm0) all0)
 refine Ends.u (oA X513 hy d20_19 20 rfl ?_)
 refine cV X513 hy hml hown hZ hw d20_20 23 0 132 133 135 134 136 28 rfl rfl rfl rfl rfl rfl (rmasi l Z a0 hw [] o0 cs T513.heap n0 (Nat.le_trans Z0 K513.1) wa hcs wd) rfl pd_3 wo rfl rfl fun _ T514 Lc514 X514 hQ514 => ?_
 obtain ⟨rfl, Nq514, hh514⟩ := hQ514
 have N514 := Fr.app N513 Nq514
 refine Ends.v (oxh X514 hy d20_23 26 (XT.i0_eq_f (by decide)) (oE X514 hy d20_26 27 rfl (oD X514 hy d20_27 29 rfl (oA X514 hy d20_29 30 rfl ?_))))
 obtain ⟨T515, X515, e515, st515⟩ := getF X514 hx hZ hown (host := "") (Or.inl (tb hw 34 rfl)) Via.refl hh514 we (g := (mkF m 30 #[rv o0, jv q1, ss, iv 24, iv ((24 : Int32) + (fss q1))] [.ref o0, (.int ((24 : Int32) + (fss q1))), .long q1])) rfl rfl (hb hby d20_30)
 refine Ends.step st515 ?_
 have kh : Arv Z T513.heap b_513 k2_513 .byte 70 (own_L (70 : Int32).toNatClampNeg (own_lit [x0, x1, x2, x3, x4, x5, x6, x7, x8, x9, x10, x11, x12, x13, x14, x15, x16, x17, x18, x19, x20, x21, x22, x23, 0, 0, 0, 0, 0, 0, 0, 0, 0, 0, 0, 0, 0, 0, 0, 0, 0, 0, 0, 0, 0, 0, 0, 0, 0, 0, 0, 0, 0, 0, 0, 0, 0, 0, 0, 0, 0, 0, 0, 0, 0, 0, 0, 0, 0, 0])) (.int 0) := by rw [own_cv70_24]; exact kh
 show Ends p e below QQ (T515.setTop (mkF m 33 #[rv o0, jv q1, ss, iv 24, iv ((24 : Int32) + (fss q1))] [.ref b_513, (.int ((24 : Int32) + (fss q1))), .long q1]))
 refine cS X515 hy hml hown hZ hw d20_33 36 0 137 138 129 139 rfl rfl rfl rfl (rmgc l Z a0 hw [] q1 ((24 : Int32) + (fss q1)) b_513 k2_513 (70 : Int32) (own_lit [x0, x1, x2, x3, x4, x5, x6, x7, x8, x9, x10, x11, x12, x13, x14, x15, x16, x17, x18, x19, x20, x21, x22, x23, 0, 0, 0, 0, 0, 0, 0, 0, 0, 0, 0, 0, 0, 0, 0, 0, 0, 0, 0, 0, 0, 0, 0, 0, 0, 0, 0, 0, 0, 0, 0, 0, 0, 0, 0, 0, 0, 0, 0, 0, 0, 0, 0, 0, 0, 0]) a_D1 k_a_D1 a_D2 k_a_D2 T513.heap n0 (Nat.le_trans Z0 K513.1) kh zr (Ne.symm jS) (Ne.symm jQ) wv wg wn wf (own_p024 q1) (own_p124 q1) (own_pn24 q1)) e515 pd_16 rfl rfl fun _ T516 Lc516 X516 hQ516 => ?_
 obtain ⟨rv_516, mm_516, rfl, Nq516, Kq516, kh, hmm⟩ := hQ516
 have N516 := Fr.app N514 Nq516
 have wo := wo.keep Kq516
 have we := we.keep Kq516 (ninS kj nin0)
 have wd := wd.keep Kq516 (ninS kj nin0)
 have wh := wh.keep Kq516 (ninS kj nin0)
 have kJ := kJ.keep Kq516
 have K516 := K513.trans Kq516 (allS (Or.inr ug) all0)
 refine Ends.v (oxe X516 hy d20_36 37 rfl (oxm X516 hy d20_37 52 (oA X516 hy d20_52 53 rfl (oD X516 hy d20_53 55 rfl ?_))))
 obtain ⟨T517, h517, X517, e517, W517, st517⟩ := putF X516 hx hZ hown (host := "") (Or.inl (tb hw 67 rfl)) Via.refl rfl wh wo (Or.inl (tb hw 68 rfl)) (tb hw 19 rfl) (ty := .int) (by decide) rfl rfl (g := (mkF m 55 #[rv o0, jv q1, ss, iv 24, iv ((24 : Int32) + (fss q1))] [(.int ((24 : Int32) + (fss q1))), .ref o0])) rfl rfl (hb hby d20_55)
 have wo := wo.wr W517
 have we := we.other W517 (Or.inr (slot_ne (Or.inl (tb hw 35 rfl)) (Or.inl (tb hw 68 rfl)) (by decide) (t := (.array .byte)) (t' := .int) (by decide) (by decide)))
 have wd := wd.other W517 (Or.inr (slot_ne (Or.inl (tb hw 37 rfl)) (Or.inl (tb hw 68 rfl)) (by decide) (t := .byte) (t' := .int) (by decide) (by decide)))
 have kJ := kJ.wr W517
 have kh := kh.other W517 (Ne.symm kj)
 have wh : fEQ Z h517 o0 (.int ((24 : Int32) + (fss q1))) := wh.same W517
 have K517 := K516.wr W517 (Or.inl mm0)
 have N517 := Fr.snoc X517 N516 wV
 refine Ends.j 58 [] st517 ?_
 refine oA X517 hy d20_58 59 rfl ?_
 exact fA X517 hy hrt hlk hQQ d20_59 rfl rfl e517 (by decide) ⟨b_513, k2_513, mm_516, rfl, N517, K517, ug, zr, wo, we, wd, wh, kJ, kh, hmm⟩
def Qsj241 (Z : State) (o0 : Addr) (q1 : Int64) (vb : Addr) (kb : ClassId) (cs : Int32) (a_D1 : Addr) (k_a_D1 : ClassId) (a_D2 : Addr) (k_a_D2 : ClassId) (x0 x1 x2 x3 x4 x5 x6 x7 x8 x9 x10 x11 x12 x13 x14 x15 x16 x17 x18 x19 x20 x21 x22 x23 : Int32) (h0 : Heap) (n0 : Nat) : QT := fun v h L => ∃ (b : Addr), ∃ (k2 : ClassId), ∃ (mm : Nat), (v = some (.ref o0)) ∧ (Fr n0 L) ∧ (Keep h0 h [o0]) ∧ (h0.size ≤ b) ∧ (n0 ≤ b) ∧ (eBQ Z h o0) ∧ (fDQ Z h o0 (.ref b)) ∧ (fCQ Z h o0 (.int 0)) ∧ (fEQ Z h o0 (.int ((24 : Int32) + (fss q1)))) ∧ (eCQ Z h b) ∧ (Arv Z h b k2 .byte 70 (own_L (70 : Int32).toNatClampNeg (own_gf q1 ((24 : Int32) + (fss q1)).toNatClampNeg mm (own_lit [x0, x1, x2, x3, x4, x5, x6, x7, x8, x9, x10, x11, x12, x13, x14, x15, x16, x17, x18, x19, x20, x21, x22, x23, 0, 0, 0, 0, 0, 0, 0, 0, 0, 0, 0, 0, 0, 0, 0, 0, 0, 0, 0, 0, 0, 0, 0, 0, 0, 0, 0, 0, 0, 0, 0, 0, 0, 0, 0, 0, 0, 0, 0, 0, 0, 0, 0, 0, 0, 0]))) (.int 0)) ∧ (own_isnd (own_M q1) mm)
theorem rmsj241 (l : Launch) (Z : State) (a0 : Array Value) (hw : TW a0 Z) (ws : List Jvm.Cond) (o0 : Addr) (q1 : Int64) (vb : Addr) (kb : ClassId) (cs : Int32) (a_D1 : Addr) (k_a_D1 : ClassId) (a_D2 : Addr) (k_a_D2 : ClassId) (x0 x1 x2 x3 x4 x5 x6 x7 x8 x9 x10 x11 x12 x13 x14 x15 x16 x17 x18 x19 x20 x21 x22 x23 : Int32) (h0 : Heap) (n0 : Nat) (Z0 : n0 ≤ h0.size) (wo : eBQ Z h0 o0) (we : fDQ Z h0 o0 (.ref vb)) (wd : fCQ Z h0 o0 (.int 0)) (wh : fEQ Z h0 o0 (.int 24)) (wU : eCQ Z h0 vb) (wN : Arv Z h0 vb kb .byte 34 [.int x0, .int x1, .int x2, .int x3, .int x4, .int x5, .int x6, .int x7, .int x8, .int x9, .int x10, .int x11, .int x12, .int x13, .int x14, .int x15, .int x16, .int x17, .int x18, .int x19, .int x20, .int x21, .int x22, .int x23, .int 0, .int 0, .int 0, .int 0, .int 0, .int 0, .int 0, .int 0, .int 0, .int 0] (.int 0)) (wV : n0 ≤ o0) (vr : n0 ≤ vb) (wL : o0 ≠ vb) (wa : sJQ Z h0 (.int cs)) (hcs : ¬ cs = (0 : Int32)) (wv : Arv Z h0 a_D1 k_a_D1 .byte 100 own_ones (.int 0)) (wg : sHQ Z h0 (.ref a_D1)) (wn : Arv Z h0 a_D2 k_a_D2 .byte 100 own_tens (.int 0)) (wf : sIQ Z h0 (.ref a_D2)) (vy : a_D1 ≠ vb) (vw : a_D2 ≠ vb) (vz : a_D1 ≠ o0) (vx : a_D2 ≠ o0) (hG : (0 : Int32) < (((24 : Int32) + (fss q1)) - (34 : Int32))) :
  MF l mN1 jdk_67_method_16_code 3 (some (.object "java/lang/StringBuilder")) ws (rmm 5 1 70 78) #[.ref o0, .long q1] Z h0 (Qsj241 Z o0 q1 vb kb cs a_D1 k_a_D1 a_D2 k_a_D2 x0 x1 x2 x3 x4 x5 x6 x7 x8 x9 x10 x11 x12 x13 x14 x15 x16 x17 x18 x19 x20 x21 x22 x23 h0 n0) := by
 refine MF.of (plainFor_of_name pn_5) ?_
 intro p e s m below meth c s₁ QQ hy hml hown hZ X0 e0 hrt hlk hnm hQQ
 have N0 := Fr.nil n0
 refine Ends.i #[rv o0, jv q1, ss] (oA X0 hy d19_0 1 rfl (oE X0 hy d19_1 2 rfl ?_))
 refine cU X0 hy hml hown hZ hw d19_2 5 0 123 124 72 51 126 28 rfl rfl rfl rfl rfl rfl rfl (rmaj241 l Z a0 hw [] o0 q1 vb kb cs a_D1 k_a_D1 a_D2 k_a_D2 x0 x1 x2 x3 x4 x5 x6 x7 x8 x9 x10 x11 x12 x13 x14 x15 x16 x17 x18 x19 x20 x21 x22 x23 h0 n0 Z0 wo we wd wh wU wN wV vr wL wa hcs wv wg wn wf vy vw vz vx hG) e0 pd_17 wo rfl rfl fun _ T518 Lc518 X518 hQ518 => ?_
 obtain ⟨b_518, k2_518, mm_518, rfl, Nq518, Kq518, fq518_0, WO, wo, we, wd, wh, Vp, VG, hmm⟩ := hQ518
 have N518 := Fr.app N0 Nq518
 have Wg := Nat.le_trans (Keep.refl h0 [o0]).1 fq518_0
 have K518 := (Keep.refl h0 [o0]).trans Kq518 (allS (Or.inl mm0) all0)
 refine Ends.v (oxe X518 hy d19_5 6 rfl (oA X518 hy d19_6 7 rfl ?_))
 exact fA X518 hy hrt hlk hQQ d19_7 rfl rfl rfl (by decide) ⟨b_518, k2_518, mm_518, rfl, N518, K518, Wg, WO, wo, we, wd, wh, Vp, VG, hmm⟩
theorem d27_0 : decode jdk_68_method_64_code 0 = .ok (.aload_n 0, 1) := by decide +kernel
theorem d27_1 : decode jdk_68_method_64_code 1 = .ok (.getfield 15, 3) := by decide +kernel
theorem d27_4 : decode jdk_68_method_64_code 4 = .ok (.areturn, 1) := by decide +kernel
def Qgv (Z : State) (o0 vb : Addr) (h0 : Heap) (n0 : Nat) : QT := fun v h L => (v = some (.ref vb)) ∧ (Fr n0 L) ∧ (h = h0)
theorem rmgv (l : Launch) (Z : State) (a0 : Array Value) (hw : TW a0 Z) (ws : List Jvm.Cond) (o0 vb : Addr) (h0 : Heap) (n0 : Nat) (Z0 : n0 ≤ h0.size) (we : fDQ Z h0 o0 (.ref vb)) :
  MF l mN33 jdk_68_method_64_code 1 (some (.array .byte)) ws (rmm 0 0 0 0) #[.ref o0] Z h0 (Qgv Z o0 vb h0 n0) := by
 refine MF.of (plainFor_of_name pn_4) ?_
 intro p e s m below meth c s₁ QQ hy hml hown hZ X0 e0 hrt hlk hnm hQQ
 have N0 := Fr.nil n0
 refine Ends.i #[rv o0] (oA X0 hy d27_0 1 rfl (gF X0 hy hown hZ hw e0 we d27_1 4 34 rfl fun T519 X519 e519 => ?_))
 exact fA X519 hy hrt hlk hQQ d27_4 rfl rfl e519 (by decide) ⟨rfl, N0, rfl⟩
theorem d29_0 : decode jdk_68_method_6_code 0 = .ok (.aload_n 0, 1) := by decide +kernel
theorem d29_1 : decode jdk_68_method_6_code 1 = .ok (.getfield 79, 3) := by decide +kernel
theorem d29_4 : decode jdk_68_method_6_code 4 = .ok (.ireturn, 1) := by decide +kernel
def Qasl (Z : State) (o0 : Addr) (u : Int32) (h0 : Heap) (n0 : Nat) : QT := fun v h L => (v = some (.int u)) ∧ (Fr n0 L) ∧ (h = h0)
theorem rmasl (l : Launch) (Z : State) (a0 : Array Value) (hw : TW a0 Z) (ws : List Jvm.Cond) (o0 : Addr) (u : Int32) (h0 : Heap) (n0 : Nat) (Z0 : n0 ≤ h0.size) (wh : fEQ Z h0 o0 (.int u)) :
  MF l mN13 jdk_68_method_6_code 1 (some .int) ws (rmm 0 0 0 0) #[.ref o0] Z h0 (Qasl Z o0 u h0 n0) := by
 refine MF.of (plainFor_of_name pn_4) ?_
 intro p e s m below meth c s₁ QQ hy hml hown hZ X0 e0 hrt hlk hnm hQQ
 have N0 := Fr.nil n0
 refine Ends.i #[rv o0] (oA X0 hy d29_0 1 rfl (gF X0 hy hown hZ hw e0 wh d29_1 4 67 rfl fun T520 X520 e520 => ?_))
 exact fI X520 hy hrt hlk hQQ d29_4 rfl (Or.inl rfl) e520 (by decide) ⟨rfl, N0, rfl⟩
theorem d28_0 : decode jdk_67_method_93_code 0 = .ok (.aload_n 0, 1) := by decide +kernel
theorem d28_1 : decode jdk_67_method_93_code 1 = .ok (.invokespecial 343, 3) := by decide +kernel
theorem d28_4 : decode jdk_67_method_93_code 4 = .ok (.ireturn, 1) := by decide +kernel
def Qsbl (Z : State) (o0 : Addr) (u : Int32) (h0 : Heap) (n0 : Nat) : QT := fun v h L => (v = some (.int u)) ∧ (Fr n0 L) ∧ (h = h0)
theorem rmsbl (l : Launch) (Z : State) (a0 : Array Value) (hw : TW a0 Z) (ws : List Jvm.Cond) (o0 : Addr) (u : Int32) (h0 : Heap) (n0 : Nat) (Z0 : n0 ≤ h0.size) (wo : eBQ Z h0 o0) (wh : fEQ Z h0 o0 (.int u)) :
  MF l mN14 jdk_67_method_93_code 1 (some .int) ws (rmm 1 0 0 12) #[.ref o0] Z h0 (Qsbl Z o0 u h0 n0) := by
 refine MF.of (plainFor_of_name pn_5) ?_
 intro p e s m below meth c s₁ QQ hy hml hown hZ X0 e0 hrt hlk hnm hQQ
 have N0 := Fr.nil n0
 refine Ends.i #[rv o0] (oA X0 hy d28_0 1 rfl ?_)
 refine cU X0 hy hml hown hZ hw d28_1 4 0 168 164 72 51 169 28 rfl rfl rfl rfl rfl rfl rfl (rmasl l Z a0 hw [] o0 u h0 n0 Z0 wh) e0 pd_8 wo rfl rfl fun _ T521 Lc521 X521 hQ521 => ?_
 obtain ⟨rfl, Nq521, hh521⟩ := hQ521
 have N521 := Fr.app N0 Nq521
 refine Ends.v ?_
 exact fI X521 hy hrt hlk hQQ d28_4 rfl (Or.inl rfl) hh521 (by decide) ⟨rfl, N521, rfl⟩
theorem d32_0 : decode cD35 0 = .ok (.iload_n 1, 1) := by decide +kernel
theorem d32_1 : decode cD35 1 = .ok (.iload_n 0, 1) := by decide +kernel
theorem d32_2 : decode cD35 2 = .ok (.if_icmp .ge 35, 3) := by decide +kernel
theorem d32_37 : decode cD35 37 = .ok (.return_, 1) := by decide +kernel
def Qckl (Z : State) (p1 : Int32) (h0 : Heap) (n0 : Nat) : QT := fun v h L => (v = none) ∧ (Fr n0 L) ∧ (h = h0)
theorem rmckl (l : Launch) (Z : State) (a0 : Array Value) (hw : TW a0 Z) (ws : List Jvm.Cond) (p1 : Int32) (h0 : Heap) (n0 : Nat) (Z0 : n0 ≤ h0.size) (hu0 : ¬ p1 < (0 : Int32)) :
  MF l mN34 jdk_65_method_131_code 2 none ws (rmm 0 0 0 0) #[.int 0, .int p1] Z h0 (Qckl Z p1 h0 n0) := by
 refine MF.of (plainFor_of_name pn_7) ?_
 intro p e s m below meth c s₁ QQ hy hml hown hZ X0 e0 hrt hlk hnm hQQ
 have N0 := Fr.nil n0
 refine Ends.i #[iv 0, iv p1] (oC X0 hy d32_0 1 rfl (oC X0 hy d32_1 2 rfl ?_))
 have hc2 : ¬ (p1 < (0 : Int32)) := hu0
 refine oxl X0 hy d32_2 37 (XT.ii_ge_t hc2) ?_
 exact fV X0 hy hrt hlk hQQ d32_37 e0 (by decide) ⟨rfl, N0, rfl⟩
theorem d18_9 : decode cD26 9 = .ok (.iload_n 1, 1) := by decide +kernel
def QmnT (Z : State) (p0 p1 : Int32) (h0 : Heap) (n0 : Nat) : QT := fun v h L => (v = some (.int p1)) ∧ (Fr n0 L) ∧ (h = h0)
theorem rmmnT (l : Launch) (Z : State) (a0 : Array Value) (hw : TW a0 Z) (ws : List Jvm.Cond) (p0 p1 : Int32) (h0 : Heap) (n0 : Nat) (Z0 : n0 ≤ h0.size) (hun : p1 < p0) :
  MF l mN11 jdk_29_method_69_code 2 (some .int) ws (rmm 0 0 0 0) #[.int p0, .int p1] Z h0 (QmnT Z p0 p1 h0 n0) := by
 refine MF.of (Jvm.Free.JP.mathPlain rfl (by decide +kernel)) ?_
 intro p e s m below meth c s₁ QQ hy hml hown hZ X0 e0 hrt hlk hnm hQQ
 have N0 := Fr.nil n0
 refine Ends.i #[iv p0, iv p1] (oC X0 hy d18_0 1 rfl (oC X0 hy d18_1 2 rfl ?_))
 have hc2 : p1 < p0 := hun
 refine oxl X0 hy d18_2 9 (XT.ii_gt_t hc2) (oC X0 hy d18_9 10 rfl ?_)
 exact fI X0 hy hrt hlk hQQ d18_10 rfl (Or.inl rfl) e0 (by decide) ⟨rfl, N0, rfl⟩
theorem d31_0 : decode cD7 0 = .ok (.iload_n 1, 1) := by decide +kernel
theorem d31_1 : decode cD7 1 = .ok (.iload_n 2, 1) := by decide +kernel
theorem d31_2 : decode cD7 2 = .ok (.invokestatic 343, 3) := by decide +kernel
theorem d31_5 : decode cD7 5 = .ok (.iload_n 2, 1) := by decide +kernel
theorem d31_6 : decode cD7 6 = .ok (.iload_n 1, 1) := by decide +kernel
theorem d31_7 : decode cD7 7 = .ok (.isub, 1) := by decide +kernel
theorem d31_8 : decode cD7 8 = .ok (.istore_n 3, 1) := by decide +kernel
theorem d31_9 : decode cD7 9 = .ok (.iload_n 3, 1) := by decide +kernel
theorem d31_10 : decode cD7 10 = .ok (.newarray .byte, 2) := by decide +kernel
theorem d31_12 : decode cD7 12 = .ok (.astore 4, 2) := by decide +kernel
theorem d31_14 : decode cD7 14 = .ok (.aload_n 0, 1) := by decide +kernel
theorem d31_15 : decode cD7 15 = .ok (.iload_n 1, 1) := by decide +kernel
theorem d31_16 : decode cD7 16 = .ok (.aload 4, 2) := by decide +kernel
theorem d31_18 : decode cD7 18 = .ok (.iconst 0, 1) := by decide +kernel
theorem d31_19 : decode cD7 19 = .ok (.aload_n 0, 1) := by decide +kernel
theorem d31_20 : decode cD7 20 = .ok (.arraylength, 1) := by decide +kernel
theorem d31_21 : decode cD7 21 = .ok (.iload_n 1, 1) := by decide +kernel
theorem d31_22 : decode cD7 22 = .ok (.isub, 1) := by decide +kernel
theorem d31_23 : decode cD7 23 = .ok (.iload_n 3, 1) := by decide +kernel
theorem d31_24 : decode cD7 24 = .ok (.invokestatic 304, 3) := by decide +kernel
theorem d31_27 : decode cD7 27 = .ok (.invokestatic 150, 3) := by decide +kernel
theorem d31_30 : decode cD7 30 = .ok (.aload 4, 2) := by decide +kernel
theorem d31_32 : decode cD7 32 = .ok (.areturn, 1) := by decide +kernel
def QcrN (Z : State) (o0 : Addr) (p2 : Int32) (kb : ClassId) (n : Int32) (g : Nat → Int32) (h0 : Heap) (n0 : Nat) : QT := fun v h L => ∃ (b : Addr), ∃ (k2 : ClassId), (v = some (.ref b)) ∧ (Fr n0 L) ∧ (Keep h0 h []) ∧ (h0.size ≤ b) ∧ (n0 ≤ b) ∧ (eCQ Z h b) ∧ (Arv Z h b k2 .byte p2 (own_L p2.toNatClampNeg g) (.int 0))
theorem rmcrN (l : Launch) (Z : State) (a0 : Array Value) (hw : TW a0 Z) (ws : List Jvm.Cond) (o0 : Addr) (p2 : Int32) (kb : ClassId) (n : Int32) (g : Nat → Int32) (h0 : Heap) (n0 : Nat) (Z0 : n0 ≤ h0.size) (vA : Arv Z h0 o0 kb .byte n (own_L n.toNatClampNeg g) (.int 0)) (hu0 : ¬ p2 < (0 : Int32)) (hu44 : p2.toInt ≤ 44) (hun : p2 < n) :
  MF l mN35 jdk_65_method_133_code 5 (some (.array .byte)) ws (rmm 1 1 44 24) #[.ref o0, .int 0, .int p2] Z h0 (QcrN Z o0 p2 kb n g h0 n0) := by
 refine MF.of (plainFor_of_name pn_7) ?_
 intro p e s m below meth c s₁ QQ hy hml hown hZ X0 e0 hrt hlk hnm hQQ
 have hx := hy.1
 have hby := hy.2
 have N0 := Fr.nil n0
 refine Ends.i #[rv o0, iv 0, iv p2, uu, uu] (oC X0 hy d31_0 1 rfl (oC X0 hy d31_1 2 rfl ?_))
 refine cS X0 hy hml hown hZ hw d31_2 5 0 177 178 112 179 rfl rfl rfl rfl (rmckl l Z a0 hw [] p2 h0 n0 Z0 hu0) e0 pd_2 rfl rfl fun _ T522 Lc522 X522 hQ522 => ?_
 obtain ⟨rfl, Nq522, hh522⟩ := hQ522
 have N522 := Fr.app N0 Nq522
 refine Ends.u (oC X522 hy d31_5 6 rfl (oC X522 hy d31_6 7 rfl (oL X522 hy d31_7 8 (oxp X522 hy d31_8 9 #[rv o0, iv 0, iv p2, iv (p2 - (0 : Int32)), uu] rfl ?_))))
 show Ends p e below QQ (T522.setTop (mkF m 9 #[rv o0, iv 0, iv p2, iv (p2 - (0 : Int32)), uu] []))
 rw [own_sub0]
 show Ends p e below QQ (T522.setTop (mkF m 9 #[rv o0, iv 0, iv p2, iv p2, uu] []))
 refine oC X522 hy d31_9 10 rfl ?_
 obtain ⟨T523, h523, k523, X523, e523, E523, A523, Y523, st523⟩ := newPE X522 hx hZ (tb hw 33 rfl) hh522 (g := (mkF m 10 #[rv o0, iv 0, iv p2, iv p2, uu] [.int p2])) rfl (hb hby d31_10) rfl hu0 (cap := 44) (own_c44 hu44) (by decide) (by decide) (by decide) (ad := "[B") (by decide)
 obtain ⟨b523, g523⟩ : ∃ z, z = h0.size := ⟨_, rfl⟩
 rw [← g523] at A523 Y523 st523
 have zG : n0 ≤ b523 := Nat.le_trans Z0 (Nat.le_trans (Keep.refl h0 []).1 (Nat.le_of_eq g523.symm))
 have zl : h0.size ≤ b523 := Nat.le_trans (Keep.refl h0 []).1 (Nat.le_of_eq g523.symm)
 have vA := vA.ext E523
 have K523 := (Keep.refl h0 []).ext E523
 have uK := Y523
 have kX : Arv Z h523 b523 k523 .byte p2 [] (.int 0) := Arv.new A523 hu0
 refine Ends.step st523 ?_
 have kX := own_new kX
 show Ends p e below QQ (T523.setTop (mkF m 12 #[rv o0, iv 0, iv p2, iv p2, uu] [.ref b523]))
 refine oxs X523 hy d31_12 14 #[rv o0, iv 0, iv p2, iv p2, rv b523] rfl (oA X523 hy d31_14 15 rfl (oC X523 hy d31_15 16 rfl (oB X523 hy d31_16 18 rfl (oG X523 hy d31_18 19 0 rfl (oA X523 hy d31_19 20 rfl (aLn X523 hy hZ e523 vA d31_20 21 (oC X523 hy d31_21 22 rfl (oL X523 hy d31_22 23 ?_))))))))
 show Ends p e below QQ (T523.setTop (mkF m 23 #[rv o0, iv 0, iv p2, iv p2, rv b523] [(.int (n - (0 : Int32))), .int 0, .ref b523, .int 0, .ref o0]))
 rw [own_sub0]
 show Ends p e below QQ (T523.setTop (mkF m 23 #[rv o0, iv 0, iv p2, iv p2, rv b523] [.int n, .int 0, .ref b523, .int 0, .ref o0]))
 refine oC X523 hy d31_23 24 rfl ?_
 refine cS X523 hy hml hown hZ hw d31_24 27 4 114 115 106 116 rfl rfl rfl rfl (rmmnT l Z a0 hw [] n p2 h523 n0 (Nat.le_trans Z0 K523.1) hun) e523 pd_11 rfl rfl fun _ T525 Lc525 X525 hQ525 => ?_
 obtain ⟨rfl, Nq525, hh525⟩ := hQ525
 have N525 := Fr.app N522 Nq525
 refine Ends.v ?_
 obtain ⟨T526, h526, L526, X526, e526, N526, Kq526, AA526, st526⟩ := cpA X525 hx hZ hown (tb hw 117 rfl) (tb hw 93 rfl) (tb hw 91 rfl) (tb hw 92 rfl) hh525 vA kX (Or.inl ⟨rfl, rfl⟩) (by decide) (by decide) hu0 (own_cl hun) own_cl0 (us := (List.range p2.toNatClampNeg).map fun i => (own_L n.toNatClampNeg g).getD ((0 : Int32).toNatClampNeg + i) (.int 0)) rfl (by rw [own_Ll]; exact own_cl0) N525 zG (g := (mkF m 27 #[rv o0, iv 0, iv p2, iv p2, rv b523] [.int p2, .int 0, .ref b523, .int 0, .ref o0])) rfl (by rw [hml]; rfl) rfl (hb hby d31_27) (by decide) (W := 0) (by show 2 * 0 + _ ≤ _; exact Nat.le_of_eq rfl) (by decide)
 have uK := uK.keep Kq526
 have kX : Arv Z h526 b523 k523 .byte p2 (own_L p2.toNatClampNeg g) (.int 0) := by rw [own_cpl hun] at AA526; exact AA526
 have K526 := K523.trans Kq526 (allS (Or.inr zl) all0)
 refine Ends.j 30 [] st526 ?_
 refine oB X526 hy d31_30 32 rfl ?_
 exact fA X526 hy hrt hlk hQQ d31_32 rfl rfl e526 (by decide) ⟨b523, k523, rfl, N526, K526, zl, zG, uK, kX⟩
theorem d30_0 : decode cD12 0 = .ok (.iload_n 1, 1) := by decide +kernel
theorem d30_1 : decode cD12 1 = .ok (.ifCond .ne 9, 3) := by decide +kernel
theorem d30_4 : decode cD12 4 = .ok (.iload_n 2, 1) := by decide +kernel
theorem d30_5 : decode cD12 5 = .ok (.aload_n 0, 1) := by decide +kernel
theorem d30_6 : decode cD12 6 = .ok (.arraylength, 1) := by decide +kernel
theorem d30_7 : decode cD12 7 = .ok (.if_icmp .eq 10, 3) := by decide +kernel
theorem d30_10 : decode cD12 10 = .ok (.aload_n 0, 1) := by decide +kernel
theorem d30_11 : decode cD12 11 = .ok (.iload_n 1, 1) := by decide +kernel
theorem d30_12 : decode cD12 12 = .ok (.iload_n 2, 1) := by decide +kernel
theorem d30_13 : decode cD12 13 = .ok (.invokestatic 339, 3) := by decide +kernel
theorem d30_16 : decode cD12 16 = .ok (.areturn, 1) := by decide +kernel
def QcoN (Z : State) (o0 : Addr) (p2 : Int32) (kb : ClassId) (n : Int32) (g : Nat → Int32) (h0 : Heap) (n0 : Nat) : QT := fun v h L => ∃ (b : Addr), ∃ (k2 : ClassId), (v = some (.ref b)) ∧ (Fr n0 L) ∧ (Keep h0 h []) ∧ (h0.size ≤ b) ∧ (n0 ≤ b) ∧ (eCQ Z h b) ∧ (Arv Z h b k2 .byte p2 (own_L p2.toNatClampNeg g) (.int 0))
theorem rmcoN (l : Launch) (Z : State) (a0 : Array Value) (hw : TW a0 Z) (ws : List Jvm.Cond) (o0 : Addr) (p2 : Int32) (kb : ClassId) (n : Int32) (g : Nat → Int32) (h0 : Heap) (n0 : Nat) (Z0 : n0 ≤ h0.size) (vA : Arv Z h0 o0 kb .byte n (own_L n.toNatClampNeg g) (.int 0)) (hu0 : ¬ p2 < (0 : Int32)) (hu44 : p2.toInt ≤ 44) (hun : p2 < n) :
  MF l mN15 jdk_65_method_132_code 3 (some (.array .byte)) ws (rmm 2 1 44 40) #[.ref o0, .int 0, .int p2] Z h0 (QcoN Z o0 p2 kb n g h0 n0) := by
 refine MF.of (plainFor_of_name pn_7) ?_
 intro p e s m below meth c s₁ QQ hy hml hown hZ X0 e0 hrt hlk hnm hQQ
 have N0 := Fr.nil n0
 refine Ends.i #[rv o0, iv 0, iv p2] (oC X0 hy d30_0 1 rfl (oxh X0 hy d30_1 4 (XT.i0_ne_f (by decide)) (oC X0 hy d30_4 5 rfl (oA X0 hy d30_5 6 rfl (aLn X0 hy hZ e0 vA d30_6 7 ?_)))))
 have hc7 : ¬ (p2 = n) := (own_nen hun)
 refine oxi X0 hy d30_7 10 (XT.ii_eq_f hc7) (oA X0 hy d30_10 11 rfl (oC X0 hy d30_11 12 rfl (oC X0 hy d30_12 13 rfl ?_)))
 refine cS X0 hy hml hown hZ hw d30_13 16 0 174 175 112 176 rfl rfl rfl rfl (rmcrN l Z a0 hw [] o0 p2 kb n g h0 n0 Z0 vA hu0 hu44 hun) e0 pd_18 rfl rfl fun _ T528 Lc528 X528 hQ528 => ?_
 obtain ⟨b_528, k2_528, rfl, Nq528, Kq528, fq528_0, WN, Vo, VF⟩ := hQ528
 have N528 := Fr.app N0 Nq528
 have Wf := Nat.le_trans (Keep.refl h0 []).1 fq528_0
 have K528 := (Keep.refl h0 []).trans Kq528 all0
 refine Ends.v ?_
 exact fA X528 hy hrt hlk hQQ d30_16 rfl rfl rfl (by decide) ⟨b_528, k2_528, rfl, N528, K528, Wf, WN, Vo, VF⟩
theorem d30_17 : decode cD12 17 = .ok (.aload_n 0, 1) := by decide +kernel
theorem d30_18 : decode cD12 18 = .ok (.invokevirtual 310, 3) := by decide +kernel
theorem d30_21 : decode cD12 21 = .ok (.checkcast 311, 3) := by decide +kernel
theorem d30_24 : decode cD12 24 = .ok (.areturn, 1) := by decide +kernel
def QcoC (Z : State) (o0 : Addr) (p2 : Int32) (kb : ClassId) (g : Nat → Int32) (h0 : Heap) (n0 : Nat) : QT := fun v h L => ∃ (b : Addr), ∃ (k2 : ClassId), (v = some (.ref b)) ∧ (Fr n0 L) ∧ (Keep h0 h []) ∧ (h0.size ≤ b) ∧ (n0 ≤ b) ∧ (eCQ Z h b) ∧ (Arv Z h b k2 .byte p2 (own_L p2.toNatClampNeg g) (.int 0))
theorem rmcoC (l : Launch) (Z : State) (a0 : Array Value) (hw : TW a0 Z) (ws : List Jvm.Cond) (o0 : Addr) (p2 : Int32) (kb : ClassId) (g : Nat → Int32) (h0 : Heap) (n0 : Nat) (Z0 : n0 ≤ h0.size) (vA : Arv Z h0 o0 kb .byte 34 (own_L (34 : Int32).toNatClampNeg g) (.int 0)) (wo : eCQ Z h0 o0) (hu : p2 = (34 : Int32)) :
  MF l mN15 jdk_65_method_132_code 3 (some (.array .byte)) ws (rmm 1 1 34 14) #[.ref o0, .int 0, .int p2] Z h0 (QcoC Z o0 p2 kb g h0 n0) := by
 refine MF.of (plainFor_of_name pn_7) ?_
 intro p e s m below meth c s₁ QQ hy hml hown hZ X0 e0 hrt hlk hnm hQQ
 have hx := hy.1
 have hby := hy.2
 have N0 := Fr.nil n0
 refine Ends.i #[rv o0, iv 0, iv p2] (oC X0 hy d30_0 1 rfl (oxh X0 hy d30_1 4 (XT.i0_ne_f (by decide)) (oC X0 hy d30_4 5 rfl (oA X0 hy d30_5 6 rfl (aLn X0 hy hZ e0 vA d30_6 7 ?_)))))
 have hc7 : p2 = (34 : Int32) := hu
 refine oxl X0 hy d30_7 17 (XT.ii_eq_t hc7) (oA X0 hy d30_17 18 rfl ?_)
 obtain ⟨T530, h530, X530, e530, E530, A530, D530, st530⟩ := cloneH X0 hx hZ hown (tb hw 239 rfl) (tb hw 240 rfl) (tb hw 244 rfl) (tb hw 242 rfl) (tb hw 243 rfl) (tb hw 245 rfl) e0 (Arv.arh vA) wo (g := (mkF m 18 #[rv o0, iv 0, iv p2] [.ref o0])) rfl (by rw [hml]; rfl) rfl (hb hby d30_18) (by decide) (W := 0) (cap := 34) (by show 2 * 0 + _ ≤ _; exact Nat.le_of_eq rfl) (by decide) (by decide) (by decide) (by decide)
 obtain ⟨b530, g530⟩ : ∃ z, z = h0.size := ⟨_, rfl⟩
 rw [← g530] at A530 D530 st530
 have VK : n0 ≤ b530 := Nat.le_trans Z0 (Nat.le_trans (Keep.refl h0 []).1 (Nat.le_of_eq g530.symm))
 have Wt : h0.size ≤ b530 := Nat.le_trans (Keep.refl h0 []).1 (Nat.le_of_eq g530.symm)
 have K530 := (Keep.refl h0 []).ext E530
 have uW : Arv Z h530 b530 kb .byte 34 (own_L (34 : Int32).toNatClampNeg g) (.int 0) := A530
 have zK := D530
 refine Ends.j 21 [.ref b530] st530 ?_
 obtain ⟨T531, X531, e531, st531⟩ := castY X530 hx hZ hown (tb hw 246 rfl) e530 (Ins.self zK) (g := (mkF m 21 #[rv o0, iv 0, iv p2] [.ref b530])) rfl rfl (hb hby d30_21)
 refine Ends.step st531 ?_
 have uW : Arv Z h530 b530 kb .byte p2 (own_L p2.toNatClampNeg g) (.int 0) := by rw [hu]; exact uW
 show Ends p e below QQ (T531.setTop (mkF m 24 #[rv o0, iv 0, iv p2] [.ref b530]))
 exact fA X531 hy hrt hlk hQQ d30_24 rfl rfl e531 (by decide) ⟨b530, kb, rfl, N0, K530, Wt, VK, zK, uW⟩
theorem d26_0 : decode cD8 0 = .ok (.aload_n 0, 1) := by decide +kernel
theorem d26_1 : decode cD8 1 = .ok (.invokespecial 1, 3) := by decide +kernel
theorem d26_4 : decode cD8 4 = .ok (.aload_n 1, 1) := by decide +kernel
theorem d26_5 : decode cD8 5 = .ok (.invokevirtual 552, 3) := by decide +kernel
theorem d26_8 : decode cD8 8 = .ok (.astore_n 3, 1) := by decide +kernel
theorem d26_9 : decode cD8 9 = .ok (.aload_n 1, 1) := by decide +kernel
theorem d26_10 : decode cD8 10 = .ok (.invokevirtual 549, 3) := by decide +kernel
theorem d26_13 : decode cD8 13 = .ok (.istore 4, 2) := by decide +kernel
theorem d26_15 : decode cD8 15 = .ok (.aload_n 1, 1) := by decide +kernel
theorem d26_16 : decode cD8 16 = .ok (.invokevirtual 1047, 3) := by decide +kernel
theorem d26_19 : decode cD8 19 = .ok (.ifCond .eq 22, 3) := by decide +kernel
theorem d26_22 : decode cD8 22 = .ok (.aload_n 0, 1) := by decide +kernel
theorem d26_23 : decode cD8 23 = .ok (.iconst 0, 1) := by decide +kernel
theorem d26_24 : decode cD8 24 = .ok (.putfield 15, 3) := by decide +kernel
theorem d26_27 : decode cD8 27 = .ok (.aload_n 0, 1) := by decide +kernel
theorem d26_28 : decode cD8 28 = .ok (.aload_n 3, 1) := by decide +kernel
theorem d26_29 : decode cD8 29 = .ok (.iconst 0, 1) := by decide +kernel
theorem d26_30 : decode cD8 30 = .ok (.iload 4, 2) := by decide +kernel
theorem d26_32 : decode cD8 32 = .ok (.invokestatic 54, 3) := by decide +kernel
theorem d26_35 : decode cD8 35 = .ok (.putfield 9, 3) := by decide +kernel
theorem d26_38 : decode cD8 38 = .ok (.goto 59, 3) := by decide +kernel
theorem d26_97 : decode cD8 97 = .ok (.return_, 1) := by decide +kernel
theorem ef_siaN (m : MethodId) (x0 : Addr) (x1 : Addr) : entryFrame m #[.ref x0, .ref x1, .null] 5 = mkF m 0 #[.val (.ref x0), .val (.ref x1), .val .null, .unset, .unset] [] := by first | (simp [entryFrame, mkF, argsToLocals, Value.category]; done) | rfl
def QsiaN (Z : State) (o0 o1 : Addr) (u1 : Value) (u2 : Int32) (vb : Addr) (kb : ClassId) (u cs : Int32) (g : Nat → Int32) (n : Int32) (h0 : Heap) (n0 : Nat) : QT := fun v h L => ∃ (b : Addr), ∃ (k2 : ClassId), (v = none) ∧ (Fr n0 L) ∧ (Keep h0 h [o0]) ∧ (h0.size ≤ b) ∧ (n0 ≤ b) ∧ (eAQ Z h o0) ∧ (fBQ Z h o0 (.ref b)) ∧ (fAQ Z h o0 (.int 0)) ∧ (eCQ Z h b) ∧ (Arv Z h b k2 .byte u (own_L u.toNatClampNeg g) (.int 0))
theorem rmsiaN (l : Launch) (Z : State) (a0 : Array Value) (hw : TW a0 Z) (ws : List Jvm.Cond) (o0 o1 : Addr) (u1 : Value) (u2 : Int32) (vb : Addr) (kb : ClassId) (u cs : Int32) (g : Nat → Int32) (n : Int32) (h0 : Heap) (n0 : Nat) (Z0 : n0 ≤ h0.size) (wo : eAQ Z h0 o0) (we : fBQ Z h0 o0 u1) (wd : fAQ Z h0 o0 (.int u2)) (wV : n0 ≤ o0) (vq : o0 ≠ o1) (wL : o0 ≠ vb) (vl : eBQ Z h0 o1) (wR : fDQ Z h0 o1 (.ref vb)) (wQ : fCQ Z h0 o1 (.int 0)) (vN : fEQ Z h0 o1 (.int u)) (wU : eCQ Z h0 vb) (wN : Arv Z h0 vb kb .byte n (own_L n.toNatClampNeg g) (.int 0)) (kz : o1 ≠ vb) (wa : sJQ Z h0 (.int cs)) (hcs : ¬ cs = (0 : Int32)) (hu0 : ¬ u < (0 : Int32)) (hu44 : u.toInt ≤ 44) (hun : u < n) :
  MF l mN16 jdk_42_method_150_code 5 none ws (rmm 3 1 44 55) #[.ref o0, .ref o1, .null] Z h0 (QsiaN Z o0 o1 u1 u2 vb kb u cs g n h0 n0) := by
 refine MF.of (plainFor_of_name pn_1) ?_
 intro p e s m below meth c s₁ QQ hy hml hown hZ X0 e0 hrt hlk hnm hQQ
 have hx := hy.1
 have hby := hy.2
 have N0 := Fr.nil n0
 refine Ends.i #[rv o0, rv o1, .val .null, uu, uu] ?_ (ef_siaN m o0 o1)
 refine oA X0 hy d26_0 1 rfl ?_
 obtain ⟨T532, X532, e532, st532⟩ := initO X0 hx hZ hown (tb hw 156 rfl) (tb hw 7 rfl) (tb hw 8 rfl) e0 (g := (mkF m 1 #[rv o0, rv o1, .val .null, uu, uu] [.ref o0])) rfl (by rw [hml]; rfl) rfl (hb hby d26_1) (by decide) (W := 0) (by show 2 * 0 + _ ≤ _; exact Nat.le_of_eq rfl) (by decide)
 refine Ends.j 4 [] st532 ?_
 refine oA X532 hy d26_4 5 rfl ?_
 refine cV X532 hy hml hown hZ hw d26_5 8 0 157 158 160 159 161 28 rfl rfl rfl rfl rfl rfl (rmgv l Z a0 hw [] o1 vb h0 n0 Z0 wR) e532 pd_19 vl rfl rfl fun _ T533 Lc533 X533 hQ533 => ?_
 obtain ⟨rfl, Nq533, hh533⟩ := hQ533
 have N533 := Fr.app N0 Nq533
 refine Ends.v (oxt X533 hy d26_8 9 #[rv o0, rv o1, .val .null, rv vb, uu] rfl (oA X533 hy d26_9 10 rfl ?_))
 obtain ⟨cq534, kq534, q534a, q534b, q534c⟩ := isOf hZ hh533 vl
 obtain ⟨_, _, ⟨T534, L534, k534, n534⟩, -, X534, ⟨Lc534, hQ534, l534, y534, z534⟩, st534⟩ := X533.virtualBack hx (y := mN13) (z := mN14) hown (mvT hZ (tb hw 162 rfl)) (mvT hZ (tb hw 163 rfl)) (own_notface (args := #[]) (mvT hZ (tb hw 72 rfl)) rfl) (mvT hZ (tb hw 165 rfl)) (mvT hZ (tb hw 166 rfl)) (by decide) (backOf (W := 0) (rmsbl l Z a0 hw [] o1 u h0 n0 (Nat.le_trans Z0 (Keep.refl h0 [o0]).1) vl vN) hZ (tb hw 167 rfl) (tb hw 20 rfl) (by decide) (by decide)) q534a q534c (g := (mkF m 10 #[rv o0, rv o1, .val .null, rv vb, uu] [.ref o1])) rfl (by rw [hml]; rfl) (Steps.refl _) (argsL := []) (rest := []) (lenOf pd_8 rfl) rfl (by show 2 * 0 + _ ≤ _; exact Nat.le_of_eq rfl) (hb hby d26_10) (fun _ _ => ⟨rfl, hh533, (by decide : 0 + 0 ≤ _), (by decide : 0 + 0 ≤ _)⟩)
 dsimp only [Pt.U, Pt.locs, Pt.cells, Pt.slots] at X534 l534 y534 z534 st534 hQ534
 subst l534 y534 z534
 obtain ⟨rfl, Nq534, hh534⟩ := hQ534
 have N534 := Fr.app N533 Nq534
 refine Ends.j 13 [.int u] (fun _ k => st534.trans k) ?_
 refine oxo X534 hy d26_13 15 #[rv o0, rv o1, .val .null, rv vb, iv u] rfl (oA X534 hy d26_15 16 rfl ?_)
 refine cV X534 hy hml hown hZ hw d26_16 19 0 170 133 135 134 136 28 rfl rfl rfl rfl rfl rfl (rmasi l Z a0 hw [] o1 cs h0 n0 Z0 wa hcs wQ) hh534 pd_3 vl rfl rfl fun _ T535 Lc535 X535 hQ535 => ?_
 obtain ⟨rfl, Nq535, hh535⟩ := hQ535
 have N535 := Fr.app N534 Nq535
 refine Ends.v (oxh X535 hy d26_19 22 (XT.i0_eq_f (by decide)) (oA X535 hy d26_22 23 rfl (oG X535 hy d26_23 24 0 rfl ?_)))
 obtain ⟨T536, h536, X536, e536, W536, st536⟩ := putFN X535 hx hZ hown (tb hw 66 rfl) Via.refl hh535 wd wo (Or.inr ⟨(tb hw 41 rfl), rfl, hnm⟩) (tb hw 39 rfl) (ty := .byte) (v' := (.int 0)) (by decide) rfl rfl (g := (mkF m 24 #[rv o0, rv o1, .val .null, rv vb, iv u] [.int 0, .ref o0])) rfl rfl (hb hby d26_24)
 have wo := wo.wr W536
 have we := we.other W536 (Or.inr (slot_ne (Or.inr (tb hw 40 rfl)) (Or.inr (tb hw 41 rfl)) (by decide) (t := (.array .byte)) (t' := .byte) (by decide) (by decide)))
 have wN := wN.other W536 (Ne.symm wL)
 have wd : fAQ Z h536 o0 (.int 0) := wd.same W536
 have K536 := (Keep.refl h0 [o0]).wr W536 (Or.inl mm0)
 have N536 := Fr.snoc X536 N535 wV
 refine Ends.j 27 [] st536 ?_
 refine oA X536 hy d26_27 28 rfl (oA X536 hy d26_28 29 rfl (oG X536 hy d26_29 30 0 rfl (oD X536 hy d26_30 32 rfl ?_)))
 refine cS X536 hy hml hown hZ hw d26_32 35 1 171 172 112 173 rfl rfl rfl rfl (rmcoN l Z a0 hw [] vb u kb n g h536 n0 (Nat.le_trans Z0 K536.1) wN hu0 hu44 hun) e536 pd_18 rfl rfl fun _ T537 Lc537 X537 hQ537 => ?_
 obtain ⟨b_537, k2_537, rfl, Nq537, Kq537, fq537_0, WM, jD, jI⟩ := hQ537
 have N537 := Fr.app N536 Nq537
 have zf : o0 ≠ b_537 := Nat.ne_of_lt (Nat.lt_of_lt_of_le wo.lt fq537_0)
 have We := Nat.le_trans K536.1 fq537_0
 have wo := wo.keep Kq537
 have we := we.keep Kq537 nin0
 have wd := wd.keep Kq537 nin0
 have K537 := K536.trans Kq537 all0
 refine Ends.v ?_
 obtain ⟨T538, h538, X538, e538, W538, st538⟩ := putF X537 hx hZ hown (host := "") (Or.inl (tb hw 59 rfl)) Via.refl rfl we wo (Or.inr ⟨(tb hw 40 rfl), rfl, hnm⟩) (tb hw 39 rfl) (ty := (.array .byte)) (by decide) rfl rfl (g := (mkF m 35 #[rv o0, rv o1, .val .null, rv vb, iv u] [.ref b_537, .ref o0])) rfl rfl (hb hby d26_35)
 have wo := wo.wr W538
 have wd := wd.other W538 (Or.inr (slot_ne (Or.inr (tb hw 41 rfl)) (Or.inr (tb hw 40 rfl)) (by decide) (t := .byte) (t' := (.array .byte)) (by decide) (by decide)))
 have jD := jD.wr W538
 have jI := jI.other W538 (Ne.symm zf)
 have we : fBQ Z h538 o0 (.ref b_537) := we.same W538
 have K538 := K537.wr W538 (Or.inl mm0)
 have N538 := Fr.snoc X538 N537 wV
 refine Ends.j 38 [] st538 ?_
 refine oxm X538 hy d26_38 97 ?_
 exact fV X538 hy hrt hlk hQQ d26_97 e538 (by decide) ⟨b_537, k2_537, rfl, N538, K538, We, WM, wo, we, wd, jD, jI⟩
theorem d25_0 : decode cD32 0 = .ok (.aload_n 0, 1) := by decide +kernel
theorem d25_1 : decode cD32 1 = .ok (.aload_n 1, 1) := by decide +kernel
theorem d25_2 : decode cD32 2 = .ok (.aconst_null, 1) := by decide +kernel
theorem d25_3 : decode cD32 3 = .ok (.invokespecial 489, 3) := by decide +kernel
theorem d25_6 : decode cD32 6 = .ok (.return_, 1) := by decide +kernel
def QsisN (Z : State) (o0 o1 : Addr) (u1 : Value) (u2 : Int32) (vb : Addr) (kb : ClassId) (u cs : Int32) (g : Nat → Int32) (n : Int32) (h0 : Heap) (n0 : Nat) : QT := fun v h L => ∃ (b : Addr), ∃ (k2 : ClassId), (v = none) ∧ (Fr n0 L) ∧ (Keep h0 h [o0]) ∧ (h0.size ≤ b) ∧ (n0 ≤ b) ∧ (eAQ Z h o0) ∧ (fBQ Z h o0 (.ref b)) ∧ (fAQ Z h o0 (.int 0)) ∧ (eCQ Z h b) ∧ (Arv Z h b k2 .byte u (own_L u.toNatClampNeg g) (.int 0))
theorem rmsisN (l : Launch) (Z : State) (a0 : Array Value) (hw : TW a0 Z) (ws : List Jvm.Cond) (o0 o1 : Addr) (u1 : Value) (u2 : Int32) (vb : Addr) (kb : ClassId) (u cs : Int32) (g : Nat → Int32) (n : Int32) (h0 : Heap) (n0 : Nat) (Z0 : n0 ≤ h0.size) (wo : eAQ Z h0 o0) (we : fBQ Z h0 o0 u1) (wd : fAQ Z h0 o0 (.int u2)) (wV : n0 ≤ o0) (vq : o0 ≠ o1) (wL : o0 ≠ vb) (vl : eBQ Z h0 o1) (wR : fDQ Z h0 o1 (.ref vb)) (wQ : fCQ Z h0 o1 (.int 0)) (vN : fEQ Z h0 o1 (.int u)) (wU : eCQ Z h0 vb) (wN : Arv Z h0 vb kb .byte n (own_L n.toNatClampNeg g) (.int 0)) (kz : o1 ≠ vb) (wa : sJQ Z h0 (.int cs)) (hcs : ¬ cs = (0 : Int32)) (hu0 : ¬ u < (0 : Int32)) (hu44 : u.toInt ≤ 44) (hun : u < n) :
  MF l mN17 jdk_42_method_53_code 2 none ws (rmm 4 1 44 71) #[.ref o0, .ref o1] Z h0 (QsisN Z o0 o1 u1 u2 vb kb u cs g n h0 n0) := by
 refine MF.of (plainFor_of_name pn_1) ?_
 intro p e s m below meth c s₁ QQ hy hml hown hZ X0 e0 hrt hlk hnm hQQ
 have N0 := Fr.nil n0
 refine Ends.i #[rv o0, rv o1] (oA X0 hy d25_0 1 rfl (oA X0 hy d25_1 2 rfl (oxg X0 hy d25_2 3 ?_)))
 refine cI X0 hy hml hown hZ hw d25_3 6 0 153 154 155 32 rfl rfl rfl rfl rfl (rmsiaN l Z a0 hw [] o0 o1 u1 u2 vb kb u cs g n h0 n0 Z0 wo we wd wV vq wL vl wR wQ vN wU wN kz wa hcs hu0 hu44 hun) e0 pd_20 rfl rfl fun _ T539 Lc539 X539 hQ539 => ?_
 obtain ⟨b_539, k2_539, rfl, Nq539, Kq539, fq539_0, WL, wo, we, wd, Vn, VE⟩ := hQ539
 have N539 := Fr.app N0 Nq539
 have Wd := Nat.le_trans (Keep.refl h0 [o0]).1 fq539_0
 have K539 := (Keep.refl h0 [o0]).trans Kq539 (allS (Or.inl mm0) all0)
 refine Ends.u ?_
 exact fV X539 hy hrt hlk hQQ d25_6 rfl (by decide) ⟨b_539, k2_539, rfl, N539, K539, Wd, WL, wo, we, wd, Vn, VE⟩
theorem d24_0 : decode cD33 0 = .ok (.new 18, 3) := by decide +kernel
theorem d24_3 : decode cD33 3 = .ok (.dup, 1) := by decide +kernel
theorem d24_4 : decode cD33 4 = .ok (.aload_n 0, 1) := by decide +kernel
theorem d24_5 : decode cD33 5 = .ok (.invokespecial 137, 3) := by decide +kernel
theorem d24_8 : decode cD33 8 = .ok (.areturn, 1) := by decide +kernel
def QtosN (Z : State) (o0 vb : Addr) (kb : ClassId) (u cs : Int32) (g : Nat → Int32) (n : Int32) (h0 : Heap) (n0 : Nat) : QT := fun v h L => ∃ (x : Addr), ∃ (b : Addr), ∃ (k2 : ClassId), (v = some (.ref x)) ∧ (Fr n0 L) ∧ (Keep h0 h []) ∧ (h0.size ≤ x) ∧ (h0.size ≤ b) ∧ (n0 ≤ x) ∧ (n0 ≤ b) ∧ (eAQ Z h x) ∧ (fBQ Z h x (.ref b)) ∧ (fAQ Z h x (.int 0)) ∧ (eCQ Z h b) ∧ (Arv Z h b k2 .byte u (own_L u.toNatClampNeg g) (.int 0)) ∧ (x ≠ b)
theorem rmtosN (l : Launch) (Z : State) (a0 : Array Value) (hw : TW a0 Z) (ws : List Jvm.Cond) (o0 vb : Addr) (kb : ClassId) (u cs : Int32) (g : Nat → Int32) (n : Int32) (h0 : Heap) (n0 : Nat) (Z0 : n0 ≤ h0.size) (wo : eBQ Z h0 o0) (we : fDQ Z h0 o0 (.ref vb)) (wd : fCQ Z h0 o0 (.int 0)) (wh : fEQ Z h0 o0 (.int u)) (wU : eCQ Z h0 vb) (wN : Arv Z h0 vb kb .byte n (own_L n.toNatClampNeg g) (.int 0)) (wL : o0 ≠ vb) (wa : sJQ Z h0 (.int cs)) (hcs : ¬ cs = (0 : Int32)) (hu0 : ¬ u < (0 : Int32)) (hu44 : u.toInt ≤ 44) (hun : u < n) :
  MF l mN18 jdk_67_method_42_code 1 (some (.object "java/lang/String")) ws (rmm 5 2 48 85) #[.ref o0] Z h0 (QtosN Z o0 vb kb u cs g n h0 n0) := by
 refine MF.of (plainFor_of_name pn_5) ?_
 intro p e s m below meth c s₁ QQ hy hml hown hZ X0 e0 hrt hlk hnm hQQ
 have hx := hy.1
 have hby := hy.2
 have N0 := Fr.nil n0
 refine Ends.i #[rv o0] ?_
 obtain ⟨T540, h540, X540, e540, E540, A540, D540, U540, st540⟩ := newO X0 hx hZ hown (tb hw 148 rfl) (tb hw 39 rfl) (tb hw 32 rfl) e0 (g := (mkF m 0 #[rv o0] [])) rfl (hb hby d24_0) (by decide) (by decide)
 obtain ⟨b540, g540⟩ : ∃ z, z = h0.size := ⟨_, rfl⟩
 rw [← g540] at A540 D540 U540 st540
 have zy : o0 ≠ b540 := Nat.ne_of_lt (Nat.lt_of_lt_of_le wo.lt (Nat.le_of_eq g540.symm))
 have zw : vb ≠ b540 := Nat.ne_of_lt (Nat.lt_of_lt_of_le wU.lt (Nat.le_of_eq g540.symm))
 have zF : n0 ≤ b540 := Nat.le_trans Z0 (Nat.le_trans (Keep.refl h0 []).1 (Nat.le_of_eq g540.symm))
 have zk : h0.size ≤ b540 := Nat.le_trans (Keep.refl h0 []).1 (Nat.le_of_eq g540.symm)
 have wo := wo.ext E540
 have we := we.ext E540
 have wd := wd.ext E540
 have wh := wh.ext E540
 have wU := wU.ext E540
 have wN := wN.ext E540
 have wa := wa.ext E540
 have K540 := (Keep.refl h0 []).ext E540
 have ji := A540
 have kC : fBQ Z h540 b540 .null := D540 (Or.inr (tb hw 40 rfl)) (ty := (.array .byte)) (by decide)
 have kE : fAQ Z h540 b540 (.int 0) := D540 (Or.inr (tb hw 41 rfl)) (ty := .byte) (by decide)
 refine Ends.j 3 [.ref b540] st540 ?_
 refine oxd X540 hy d24_3 4 rfl (oA X540 hy d24_4 5 rfl ?_)
 refine cI X540 hy hml hown hZ hw d24_5 8 1 149 150 152 32 rfl rfl rfl rfl rfl (rmsisN l Z a0 hw [] b540 o0 (.null : Value) (0 : Int32) vb kb u cs g n h540 n0 (Nat.le_trans Z0 K540.1) ji kC kE zF (Ne.symm zy) (Ne.symm zw) wo we wd wh wU wN wL wa hcs hu0 hu44 hun) e540 pd_21 rfl rfl fun _ T541 Lc541 X541 hQ541 => ?_
 obtain ⟨b_541, k2_541, rfl, Nq541, Kq541, fq541_0, WK, fq541_2, kC, kE, Vl, VD⟩ := hQ541
 have N541 := Fr.app N0 Nq541
 have jP : b540 ≠ b_541 := Nat.ne_of_lt (Nat.lt_of_lt_of_le ji.lt fq541_0)
 have Wc := Nat.le_trans K540.1 fq541_0
 have ji := fq541_2
 have K541 := K540.trans Kq541 (allS (Or.inr zk) all0)
 refine Ends.u ?_
 exact fA X541 hy hrt hlk hQQ d24_8 rfl rfl rfl (by decide) ⟨b540, b_541, k2_541, rfl, N541, K541, zk, Wc, zF, WK, ji, kC, kE, Vl, VD, jP⟩
theorem ef_siaC (m : MethodId) (x0 : Addr) (x1 : Addr) : entryFrame m #[.ref x0, .ref x1, .null] 5 = mkF m 0 #[.val (.ref x0), .val (.ref x1), .val .null, .unset, .unset] [] := by first | (simp [entryFrame, mkF, argsToLocals, Value.category]; done) | rfl
def QsiaC (Z : State) (o0 o1 : Addr) (u1 : Value) (u2 : Int32) (vb : Addr) (kb : ClassId) (u cs : Int32) (g : Nat → Int32) (h0 : Heap) (n0 : Nat) : QT := fun v h L => ∃ (b : Addr), ∃ (k2 : ClassId), (v = none) ∧ (Fr n0 L) ∧ (Keep h0 h [o0]) ∧ (h0.size ≤ b) ∧ (n0 ≤ b) ∧ (eAQ Z h o0) ∧ (fBQ Z h o0 (.ref b)) ∧ (fAQ Z h o0 (.int 0)) ∧ (eCQ Z h b) ∧ (Arv Z h b k2 .byte u (own_L u.toNatClampNeg g) (.int 0))
theorem rmsiaC (l : Launch) (Z : State) (a0 : Array Value) (hw : TW a0 Z) (ws : List Jvm.Cond) (o0 o1 : Addr) (u1 : Value) (u2 : Int32) (vb : Addr) (kb : ClassId) (u cs : Int32) (g : Nat → Int32) (h0 : Heap) (n0 : Nat) (Z0 : n0 ≤ h0.size) (wo : eAQ Z h0 o0) (we : fBQ Z h0 o0 u1) (wd : fAQ Z h0 o0 (.int u2)) (wV : n0 ≤ o0) (vq : o0 ≠ o1) (wL : o0 ≠ vb) (vl : eBQ Z h0 o1) (wR : fDQ Z h0 o1 (.ref vb)) (wQ : fCQ Z h0 o1 (.int 0)) (vN : fEQ Z h0 o1 (.int u)) (wU : eCQ Z h0 vb) (wN : Arv Z h0 vb kb .byte 34 (own_L (34 : Int32).toNatClampNeg g) (.int 0)) (kz : o1 ≠ vb) (wa : sJQ Z h0 (.int cs)) (hcs : ¬ cs = (0 : Int32)) (hu : u = (34 : Int32)) :
  MF l mN16 jdk_42_method_150_code 5 none ws (rmm 2 1 34 29) #[.ref o0, .ref o1, .null] Z h0 (QsiaC Z o0 o1 u1 u2 vb kb u cs g h0 n0) := by
 refine MF.of (plainFor_of_name pn_1) ?_
 intro p e s m below meth c s₁ QQ hy hml hown hZ X0 e0 hrt hlk hnm hQQ
 have hx := hy.1
 have hby := hy.2
 have N0 := Fr.nil n0
 refine Ends.i #[rv o0, rv o1, .val .null, uu, uu] ?_ (ef_siaC m o0 o1)
 refine oA X0 hy d26_0 1 rfl ?_
 obtain ⟨T542, X542, e542, st542⟩ := initO X0 hx hZ hown (tb hw 156 rfl) (tb hw 7 rfl) (tb hw 8 rfl) e0 (g := (mkF m 1 #[rv o0, rv o1, .val .null, uu, uu] [.ref o0])) rfl (by rw [hml]; rfl) rfl (hb hby d26_1) (by decide) (W := 0) (by show 2 * 0 + _ ≤ _; exact Nat.le_of_eq rfl) (by decide)
 refine Ends.j 4 [] st542 ?_
 refine oA X542 hy d26_4 5 rfl ?_
 refine cV X542 hy hml hown hZ hw d26_5 8 0 157 158 160 159 161 28 rfl rfl rfl rfl rfl rfl (rmgv l Z a0 hw [] o1 vb h0 n0 Z0 wR) e542 pd_19 vl rfl rfl fun _ T543 Lc543 X543 hQ543 => ?_
 obtain ⟨rfl, Nq543, hh543⟩ := hQ543
 have N543 := Fr.app N0 Nq543
 refine Ends.v (oxt X543 hy d26_8 9 #[rv o0, rv o1, .val .null, rv vb, uu] rfl (oA X543 hy d26_9 10 rfl ?_))
 obtain ⟨cq544, kq544, q544a, q544b, q544c⟩ := isOf hZ hh543 vl
 obtain ⟨_, _, ⟨T544, L544, k544, n544⟩, -, X544, ⟨Lc544, hQ544, l544, y544, z544⟩, st544⟩ := X543.virtualBack hx (y := mN13) (z := mN14) hown (mvT hZ (tb hw 162 rfl)) (mvT hZ (tb hw 163 rfl)) (own_notface (args := #[]) (mvT hZ (tb hw 72 rfl)) rfl) (mvT hZ (tb hw 165 rfl)) (mvT hZ (tb hw 166 rfl)) (by decide) (backOf (W := 0) (rmsbl l Z a0 hw [] o1 u h0 n0 (Nat.le_trans Z0 (Keep.refl h0 [o0]).1) vl vN) hZ (tb hw 167 rfl) (tb hw 20 rfl) (by decide) (by decide)) q544a q544c (g := (mkF m 10 #[rv o0, rv o1, .val .null, rv vb, uu] [.ref o1])) rfl (by rw [hml]; rfl) (Steps.refl _) (argsL := []) (rest := []) (lenOf pd_8 rfl) rfl (by show 2 * 0 + _ ≤ _; exact Nat.le_of_eq rfl) (hb hby d26_10) (fun _ _ => ⟨rfl, hh543, (by decide : 0 + 0 ≤ _), (by decide : 0 + 0 ≤ _)⟩)
 dsimp only [Pt.U, Pt.locs, Pt.cells, Pt.slots] at X544 l544 y544 z544 st544 hQ544
 subst l544 y544 z544
 obtain ⟨rfl, Nq544, hh544⟩ := hQ544
 have N544 := Fr.app N543 Nq544
 refine Ends.j 13 [.int u] (fun _ k => st544.trans k) ?_
 refine oxo X544 hy d26_13 15 #[rv o0, rv o1, .val .null, rv vb, iv u] rfl (oA X544 hy d26_15 16 rfl ?_)
 refine cV X544 hy hml hown hZ hw d26_16 19 0 170 133 135 134 136 28 rfl rfl rfl rfl rfl rfl (rmasi l Z a0 hw [] o1 cs h0 n0 Z0 wa hcs wQ) hh544 pd_3 vl rfl rfl fun _ T545 Lc545 X545 hQ545 => ?_
 obtain ⟨rfl, Nq545, hh545⟩ := hQ545
 have N545 := Fr.app N544 Nq545
 refine Ends.v (oxh X545 hy d26_19 22 (XT.i0_eq_f (by decide)) (oA X545 hy d26_22 23 rfl (oG X545 hy d26_23 24 0 rfl ?_)))
 obtain ⟨T546, h546, X546, e546, W546, st546⟩ := putFN X545 hx hZ hown (tb hw 66 rfl) Via.refl hh545 wd wo (Or.inr ⟨(tb hw 41 rfl), rfl, hnm⟩) (tb hw 39 rfl) (ty := .byte) (v' := (.int 0)) (by decide) rfl rfl (g := (mkF m 24 #[rv o0, rv o1, .val .null, rv vb, iv u] [.int 0, .ref o0])) rfl rfl (hb hby d26_24)
 have wo := wo.wr W546
 have we := we.other W546 (Or.inr (slot_ne (Or.inr (tb hw 40 rfl)) (Or.inr (tb hw 41 rfl)) (by decide) (t := (.array .byte)) (t' := .byte) (by decide) (by decide)))
 have wU := wU.wr W546
 have wN := wN.other W546 (Ne.symm wL)
 have wd : fAQ Z h546 o0 (.int 0) := wd.same W546
 have K546 := (Keep.refl h0 [o0]).wr W546 (Or.inl mm0)
 have N546 := Fr.snoc X546 N545 wV
 refine Ends.j 27 [] st546 ?_
 refine oA X546 hy d26_27 28 rfl (oA X546 hy d26_28 29 rfl (oG X546 hy d26_29 30 0 rfl (oD X546 hy d26_30 32 rfl ?_)))
 refine cS X546 hy hml hown hZ hw d26_32 35 1 171 172 112 173 rfl rfl rfl rfl (rmcoC l Z a0 hw [] vb u kb g h546 n0 (Nat.le_trans Z0 K546.1) wN wU hu) e546 pd_18 rfl rfl fun _ T547 Lc547 X547 hQ547 => ?_
 obtain ⟨b_547, k2_547, rfl, Nq547, Kq547, fq547_0, WJ, jC, jH⟩ := hQ547
 have N547 := Fr.app N546 Nq547
 have ze : o0 ≠ b_547 := Nat.ne_of_lt (Nat.lt_of_lt_of_le wo.lt fq547_0)
 have Wb := Nat.le_trans K546.1 fq547_0
 have wo := wo.keep Kq547
 have we := we.keep Kq547 nin0
 have wd := wd.keep Kq547 nin0
 have K547 := K546.trans Kq547 all0
 refine Ends.v ?_
 obtain ⟨T548, h548, X548, e548, W548, st548⟩ := putF X547 hx hZ hown (host := "") (Or.inl (tb hw 59 rfl)) Via.refl rfl we wo (Or.inr ⟨(tb hw 40 rfl), rfl, hnm⟩) (tb hw 39 rfl) (ty := (.array .byte)) (by decide) rfl rfl (g := (mkF m 35 #[rv o0, rv o1, .val .null, rv vb, iv u] [.ref b_547, .ref o0])) rfl rfl (hb hby d26_35)
 have wo := wo.wr W548
 have wd := wd.other W548 (Or.inr (slot_ne (Or.inr (tb hw 41 rfl)) (Or.inr (tb hw 40 rfl)) (by decide) (t := .byte) (t' := (.array .byte)) (by decide) (by decide)))
 have jC := jC.wr W548
 have jH := jH.other W548 (Ne.symm ze)
 have we : fBQ Z h548 o0 (.ref b_547) := we.same W548
 have K548 := K547.wr W548 (Or.inl mm0)
 have N548 := Fr.snoc X548 N547 wV
 refine Ends.j 38 [] st548 ?_
 refine oxm X548 hy d26_38 97 ?_
 exact fV X548 hy hrt hlk hQQ d26_97 e548 (by decide) ⟨b_547, k2_547, rfl, N548, K548, Wb, WJ, wo, we, wd, jC, jH⟩
def QsisC (Z : State) (o0 o1 : Addr) (u1 : Value) (u2 : Int32) (vb : Addr) (kb : ClassId) (u cs : Int32) (g : Nat → Int32) (h0 : Heap) (n0 : Nat) : QT := fun v h L => ∃ (b : Addr), ∃ (k2 : ClassId), (v = none) ∧ (Fr n0 L) ∧ (Keep h0 h [o0]) ∧ (h0.size ≤ b) ∧ (n0 ≤ b) ∧ (eAQ Z h o0) ∧ (fBQ Z h o0 (.ref b)) ∧ (fAQ Z h o0 (.int 0)) ∧ (eCQ Z h b) ∧ (Arv Z h b k2 .byte u (own_L u.toNatClampNeg g) (.int 0))
theorem rmsisC (l : Launch) (Z : State) (a0 : Array Value) (hw : TW a0 Z) (ws : List Jvm.Cond) (o0 o1 : Addr) (u1 : Value) (u2 : Int32) (vb : Addr) (kb : ClassId) (u cs : Int32) (g : Nat → Int32) (h0 : Heap) (n0 : Nat) (Z0 : n0 ≤ h0.size) (wo : eAQ Z h0 o0) (we : fBQ Z h0 o0 u1) (wd : fAQ Z h0 o0 (.int u2)) (wV : n0 ≤ o0) (vq : o0 ≠ o1) (wL : o0 ≠ vb) (vl : eBQ Z h0 o1) (wR : fDQ Z h0 o1 (.ref vb)) (wQ : fCQ Z h0 o1 (.int 0)) (vN : fEQ Z h0 o1 (.int u)) (wU : eCQ Z h0 vb) (wN : Arv Z h0 vb kb .byte 34 (own_L (34 : Int32).toNatClampNeg g) (.int 0)) (kz : o1 ≠ vb) (wa : sJQ Z h0 (.int cs)) (hcs : ¬ cs = (0 : Int32)) (hu : u = (34 : Int32)) :
  MF l mN17 jdk_42_method_53_code 2 none ws (rmm 3 1 34 45) #[.ref o0, .ref o1] Z h0 (QsisC Z o0 o1 u1 u2 vb kb u cs g h0 n0) := by
 refine MF.of (plainFor_of_name pn_1) ?_
 intro p e s m below meth c s₁ QQ hy hml hown hZ X0 e0 hrt hlk hnm hQQ
 have N0 := Fr.nil n0
 refine Ends.i #[rv o0, rv o1] (oA X0 hy d25_0 1 rfl (oA X0 hy d25_1 2 rfl (oxg X0 hy d25_2 3 ?_)))
 refine cI X0 hy hml hown hZ hw d25_3 6 0 153 154 155 32 rfl rfl rfl rfl rfl (rmsiaC l Z a0 hw [] o0 o1 u1 u2 vb kb u cs g h0 n0 Z0 wo we wd wV vq wL vl wR wQ vN wU wN kz wa hcs hu) e0 pd_20 rfl rfl fun _ T549 Lc549 X549 hQ549 => ?_
 obtain ⟨b_549, k2_549, rfl, Nq549, Kq549, fq549_0, WI, wo, we, wd, Vk, VC⟩ := hQ549
 have N549 := Fr.app N0 Nq549
 have Wa := Nat.le_trans (Keep.refl h0 [o0]).1 fq549_0
 have K549 := (Keep.refl h0 [o0]).trans Kq549 (allS (Or.inl mm0) all0)
 refine Ends.u ?_
 exact fV X549 hy hrt hlk hQQ d25_6 rfl (by decide) ⟨b_549, k2_549, rfl, N549, K549, Wa, WI, wo, we, wd, Vk, VC⟩
def QtosC (Z : State) (o0 vb : Addr) (kb : ClassId) (u cs : Int32) (g : Nat → Int32) (h0 : Heap) (n0 : Nat) : QT := fun v h L => ∃ (x : Addr), ∃ (b : Addr), ∃ (k2 : ClassId), (v = some (.ref x)) ∧ (Fr n0 L) ∧ (Keep h0 h []) ∧ (h0.size ≤ x) ∧ (h0.size ≤ b) ∧ (n0 ≤ x) ∧ (n0 ≤ b) ∧ (eAQ Z h x) ∧ (fBQ Z h x (.ref b)) ∧ (fAQ Z h x (.int 0)) ∧ (eCQ Z h b) ∧ (Arv Z h b k2 .byte u (own_L u.toNatClampNeg g) (.int 0)) ∧ (x ≠ b)
theorem rmtosC (l : Launch) (Z : State) (a0 : Array Value) (hw : TW a0 Z) (ws : List Jvm.Cond) (o0 vb : Addr) (kb : ClassId) (u cs : Int32) (g : Nat → Int32) (h0 : Heap) (n0 : Nat) (Z0 : n0 ≤ h0.size) (wo : eBQ Z h0 o0) (we : fDQ Z h0 o0 (.ref vb)) (wd : fCQ Z h0 o0 (.int 0)) (wh : fEQ Z h0 o0 (.int u)) (wU : eCQ Z h0 vb) (wN : Arv Z h0 vb kb .byte 34 (own_L (34 : Int32).toNatClampNeg g) (.int 0)) (wL : o0 ≠ vb) (wa : sJQ Z h0 (.int cs)) (hcs : ¬ cs = (0 : Int32)) (hu : u = (34 : Int32)) :
  MF l mN18 jdk_67_method_42_code 1 (some (.object "java/lang/String")) ws (rmm 4 2 38 59) #[.ref o0] Z h0 (QtosC Z o0 vb kb u cs g h0 n0) := by
 refine MF.of (plainFor_of_name pn_5) ?_
 intro p e s m below meth c s₁ QQ hy hml hown hZ X0 e0 hrt hlk hnm hQQ
 have hx := hy.1
 have hby := hy.2
 have N0 := Fr.nil n0
 refine Ends.i #[rv o0] ?_
 obtain ⟨T550, h550, X550, e550, E550, A550, D550, U550, st550⟩ := newO X0 hx hZ hown (tb hw 148 rfl) (tb hw 39 rfl) (tb hw 32 rfl) e0 (g := (mkF m 0 #[rv o0] [])) rfl (hb hby d24_0) (by decide) (by decide)
 obtain ⟨b550, g550⟩ : ∃ z, z = h0.size := ⟨_, rfl⟩
 rw [← g550] at A550 D550 U550 st550
 have zx : o0 ≠ b550 := Nat.ne_of_lt (Nat.lt_of_lt_of_le wo.lt (Nat.le_of_eq g550.symm))
 have zv : vb ≠ b550 := Nat.ne_of_lt (Nat.lt_of_lt_of_le wU.lt (Nat.le_of_eq g550.symm))
 have zE : n0 ≤ b550 := Nat.le_trans Z0 (Nat.le_trans (Keep.refl h0 []).1 (Nat.le_of_eq g550.symm))
 have zj : h0.size ≤ b550 := Nat.le_trans (Keep.refl h0 []).1 (Nat.le_of_eq g550.symm)
 have wo := wo.ext E550
 have we := we.ext E550
 have wd := wd.ext E550
 have wh := wh.ext E550
 have wU := wU.ext E550
 have wN := wN.ext E550
 have wa := wa.ext E550
 have K550 := (Keep.refl h0 []).ext E550
 have jh := A550
 have kA : fBQ Z h550 b550 .null := D550 (Or.inr (tb hw 40 rfl)) (ty := (.array .byte)) (by decide)
 have kD : fAQ Z h550 b550 (.int 0) := D550 (Or.inr (tb hw 41 rfl)) (ty := .byte) (by decide)
 refine Ends.j 3 [.ref b550] st550 ?_
 refine oxd X550 hy d24_3 4 rfl (oA X550 hy d24_4 5 rfl ?_)
 refine cI X550 hy hml hown hZ hw d24_5 8 1 149 150 152 32 rfl rfl rfl rfl rfl (rmsisC l Z a0 hw [] b550 o0 (.null : Value) (0 : Int32) vb kb u cs g h550 n0 (Nat.le_trans Z0 K550.1) jh kA kD zE (Ne.symm zx) (Ne.symm zv) wo we wd wh wU wN wL wa hcs hu) e550 pd_21 rfl rfl fun _ T551 Lc551 X551 hQ551 => ?_
 obtain ⟨b_551, k2_551, rfl, Nq551, Kq551, fq551_0, WH, fq551_2, kA, kD, Vj, VB⟩ := hQ551
 have N551 := Fr.app N0 Nq551
 have jO : b550 ≠ b_551 := Nat.ne_of_lt (Nat.lt_of_lt_of_le jh.lt fq551_0)
 have zZ := Nat.le_trans K550.1 fq551_0
 have jh := fq551_2
 have K551 := K550.trans Kq551 (allS (Or.inr zj) all0)
 refine Ends.u ?_
 exact fA X551 hy hrt hlk hQQ d24_8 rfl rfl rfl (by decide) ⟨b550, b_551, k2_551, rfl, N551, K551, zj, zZ, zE, WH, jh, kA, kD, Vj, VB, jO⟩
theorem d1_0 : decode cD18 0 = .ok (.aload_n 0, 1) := by decide +kernel
theorem d1_1 : decode cD18 1 = .ok (.invokespecial 1, 3) := by decide +kernel
theorem d1_4 : decode cD18 4 = .ok (.aload_n 0, 1) := by decide +kernel
theorem d1_5 : decode cD18 5 = .ok (.iload_n 1, 1) := by decide +kernel
theorem d1_6 : decode cD18 6 = .ok (.putfield 7, 3) := by decide +kernel
theorem d1_9 : decode cD18 9 = .ok (.aload_n 0, 1) := by decide +kernel
theorem d1_10 : decode cD18 10 = .ok (.lload_n 2, 1) := by decide +kernel
theorem d1_11 : decode cD18 11 = .ok (.putfield 13, 3) := by decide +kernel
theorem d1_14 : decode cD18 14 = .ok (.return_, 1) := by decide +kernel
def Qvui0 (Z : State) (o0 : Addr) (q2 : Int64) (w1 : Int32) (w2 : Int64) (h0 : Heap) (n0 : Nat) : QT := fun v h L => (v = none) ∧ (Fr n0 L) ∧ (Keep h0 h [o0]) ∧ (eDQ Z h o0) ∧ (fFQ Z h o0 (.int 0)) ∧ (fGQ Z h o0 (.long q2))
theorem rmvui0 (l : Launch) (Z : State) (a0 : Array Value) (hw : TW a0 Z) (ws : List Jvm.Cond) (o0 : Addr) (q2 : Int64) (w1 : Int32) (w2 : Int64) (h0 : Heap) (n0 : Nat) (Z0 : n0 ≤ h0.size) (wo : eDQ Z h0 o0) (wS : fFQ Z h0 o0 (.int w1)) (wx : fGQ Z h0 o0 (.long w2)) (wV : n0 ≤ o0) :
  MF l mN19 prog_31_method_1_code 4 none ws (rmm 1 0 0 12) #[.ref o0, .int 0, .long q2] Z h0 (Qvui0 Z o0 q2 w1 w2 h0 n0) := by
 refine MF.of (plainFor_of_name pn_8) ?_
 intro p e s m below meth c s₁ QQ hy hml hown hZ X0 e0 hrt hlk hnm hQQ
 have hx := hy.1
 have hby := hy.2
 have N0 := Fr.nil n0
 refine Ends.i #[rv o0, iv 0, jv q2, ss] (oA X0 hy d1_0 1 rfl ?_)
 obtain ⟨T552, X552, e552, st552⟩ := initO X0 hx hZ hown (tb hw 6 rfl) (tb hw 7 rfl) (tb hw 8 rfl) e0 (g := (mkF m 1 #[rv o0, iv 0, jv q2, ss] [.ref o0])) rfl (by rw [hml]; rfl) rfl (hb hby d1_1) (by decide) (W := 0) (by show 2 * 0 + _ ≤ _; exact Nat.le_of_eq rfl) (by decide)
 refine Ends.j 4 [] st552 ?_
 refine oA X552 hy d1_4 5 rfl (oC X552 hy d1_5 6 rfl ?_)
 obtain ⟨T553, h553, X553, e553, W553, st553⟩ := putFN X552 hx hZ hown (tb hw 9 rfl) Via.refl e552 wS wo (Or.inr ⟨(tb hw 10 rfl), rfl, hnm⟩) (tb hw 1 rfl) (ty := .boolean) (v' := (.int 0)) (by decide) rfl rfl (g := (mkF m 6 #[rv o0, iv 0, jv q2, ss] [.int 0, .ref o0])) rfl rfl (hb hby d1_6)
 have wo := wo.wr W553
 have wx := wx.other W553 (Or.inr (slot_ne (Or.inr (tb hw 12 rfl)) (Or.inr (tb hw 10 rfl)) (by decide) (t := .long) (t' := .boolean) (by decide) (by decide)))
 have wS : fFQ Z h553 o0 (.int 0) := wS.same W553
 have K553 := (Keep.refl h0 [o0]).wr W553 (Or.inl mm0)
 have N553 := Fr.snoc X553 N0 wV
 refine Ends.j 9 [] st553 ?_
 refine oA X553 hy d1_9 10 rfl (oE X553 hy d1_10 11 rfl ?_)
 obtain ⟨T554, h554, X554, e554, W554, st554⟩ := putF X553 hx hZ hown (host := "") (Or.inl (tb hw 11 rfl)) Via.refl e553 wx wo (Or.inr ⟨(tb hw 12 rfl), rfl, hnm⟩) (tb hw 1 rfl) (ty := .long) (by decide) rfl rfl (g := (mkF m 11 #[rv o0, iv 0, jv q2, ss] [.long q2, .ref o0])) rfl rfl (hb hby d1_11)
 have wo := wo.wr W554
 have wS := wS.other W554 (Or.inr (slot_ne (Or.inr (tb hw 10 rfl)) (Or.inr (tb hw 12 rfl)) (by decide) (t := .boolean) (t' := .long) (by decide) (by decide)))
 have wx : fGQ Z h554 o0 (.long q2) := wx.same W554
 have K554 := K553.wr W554 (Or.inl mm0)
 have N554 := Fr.snoc X554 N553 wV
 refine Ends.j 14 [] st554 ?_
 exact fV X554 hy hrt hlk hQQ d1_14 e554 (by decide) ⟨rfl, N554, K554, wo, wS, wx⟩
def Qvui1 (Z : State) (o0 : Addr) (q2 : Int64) (w1 : Int32) (w2 : Int64) (h0 : Heap) (n0 : Nat) : QT := fun v h L => (v = none) ∧ (Fr n0 L) ∧ (Keep h0 h [o0]) ∧ (eDQ Z h o0) ∧ (fFQ Z h o0 (.int 1)) ∧ (fGQ Z h o0 (.long q2))
theorem rmvui1 (l : Launch) (Z : State) (a0 : Array Value) (hw : TW a0 Z) (ws : List Jvm.Cond) (o0 : Addr) (q2 : Int64) (w1 : Int32) (w2 : Int64) (h0 : Heap) (n0 : Nat) (Z0 : n0 ≤ h0.size) (wo : eDQ Z h0 o0) (wS : fFQ Z h0 o0 (.int w1)) (wx : fGQ Z h0 o0 (.long w2)) (wV : n0 ≤ o0) :
  MF l mN19 prog_31_method_1_code 4 none ws (rmm 1 0 0 12) #[.ref o0, .int 1, .long q2] Z h0 (Qvui1 Z o0 q2 w1 w2 h0 n0) := by
 refine MF.of (plainFor_of_name pn_8) ?_
 intro p e s m below meth c s₁ QQ hy hml hown hZ X0 e0 hrt hlk hnm hQQ
 have hx := hy.1
 have hby := hy.2
 have N0 := Fr.nil n0
 refine Ends.i #[rv o0, iv 1, jv q2, ss] (oA X0 hy d1_0 1 rfl ?_)
 obtain ⟨T555, X555, e555, st555⟩ := initO X0 hx hZ hown (tb hw 6 rfl) (tb hw 7 rfl) (tb hw 8 rfl) e0 (g := (mkF m 1 #[rv o0, iv 1, jv q2, ss] [.ref o0])) rfl (by rw [hml]; rfl) rfl (hb hby d1_1) (by decide) (W := 0) (by show 2 * 0 + _ ≤ _; exact Nat.le_of_eq rfl) (by decide)
 refine Ends.j 4 [] st555 ?_
 refine oA X555 hy d1_4 5 rfl (oC X555 hy d1_5 6 rfl ?_)
 obtain ⟨T556, h556, X556, e556, W556, st556⟩ := putFN X555 hx hZ hown (tb hw 9 rfl) Via.refl e555 wS wo (Or.inr ⟨(tb hw 10 rfl), rfl, hnm⟩) (tb hw 1 rfl) (ty := .boolean) (v' := (.int 1)) (by decide) rfl rfl (g := (mkF m 6 #[rv o0, iv 1, jv q2, ss] [.int 1, .ref o0])) rfl rfl (hb hby d1_6)
 have wo := wo.wr W556
 have wx := wx.other W556 (Or.inr (slot_ne (Or.inr (tb hw 12 rfl)) (Or.inr (tb hw 10 rfl)) (by decide) (t := .long) (t' := .boolean) (by decide) (by decide)))
 have wS : fFQ Z h556 o0 (.int 1) := wS.same W556
 have K556 := (Keep.refl h0 [o0]).wr W556 (Or.inl mm0)
 have N556 := Fr.snoc X556 N0 wV
 refine Ends.j 9 [] st556 ?_
 refine oA X556 hy d1_9 10 rfl (oE X556 hy d1_10 11 rfl ?_)
 obtain ⟨T557, h557, X557, e557, W557, st557⟩ := putF X556 hx hZ hown (host := "") (Or.inl (tb hw 11 rfl)) Via.refl e556 wx wo (Or.inr ⟨(tb hw 12 rfl), rfl, hnm⟩) (tb hw 1 rfl) (ty := .long) (by decide) rfl rfl (g := (mkF m 11 #[rv o0, iv 1, jv q2, ss] [.long q2, .ref o0])) rfl rfl (hb hby d1_11)
 have wo := wo.wr W557
 have wS := wS.other W557 (Or.inr (slot_ne (Or.inr (tb hw 10 rfl)) (Or.inr (tb hw 12 rfl)) (by decide) (t := .boolean) (t' := .long) (by decide) (by decide)))
 have wx : fGQ Z h557 o0 (.long q2) := wx.same W557
 have K557 := K556.wr W557 (Or.inl mm0)
 have N557 := Fr.snoc X557 N556 wV
 refine Ends.j 14 [] st557 ?_
 exact fV X557 hy hrt hlk hQQ d1_14 e557 (by decide) ⟨rfl, N557, K557, wo, wS, wx⟩
theorem d3_0 : decode cD11 0 = .ok (.new 17, 3) := by decide +kernel
theorem d3_3 : decode cD11 3 = .ok (.dup, 1) := by decide +kernel
theorem d3_4 : decode cD11 4 = .ok (.invokespecial 19, 3) := by decide +kernel
theorem d3_7 : decode cD11 7 = .ok (.aload_n 0, 1) := by decide +kernel
theorem d3_8 : decode cD11 8 = .ok (.getfield 7, 3) := by decide +kernel
theorem d3_11 : decode cD11 11 = .ok (.ifCond .eq 8, 3) := by decide +kernel
theorem d3_14 : decode cD11 14 = .ok (.ldc 20, 2) := by decide +kernel
theorem d3_16 : decode cD11 16 = .ok (.goto 5, 3) := by decide +kernel
theorem d3_21 : decode cD11 21 = .ok (.invokevirtual 24, 3) := by decide +kernel
theorem d3_24 : decode cD11 24 = .ok (.ldc 28, 2) := by decide +kernel
theorem d3_26 : decode cD11 26 = .ok (.invokevirtual 24, 3) := by decide +kernel
theorem d3_29 : decode cD11 29 = .ok (.aload_n 0, 1) := by decide +kernel
theorem d3_30 : decode cD11 30 = .ok (.getfield 13, 3) := by decide +kernel
theorem d3_33 : decode cD11 33 = .ok (.invokevirtual 30, 3) := by decide +kernel
theorem d3_36 : decode cD11 36 = .ok (.invokevirtual 33, 3) := by decide +kernel
theorem d3_39 : decode cD11 39 = .ok (.areturn, 1) := by decide +kernel
def Qts1 (Z : State) (o0 : Addr) (vv : Int64) (cs : Int32) (a_D1 : Addr) (k_a_D1 : ClassId) (a_D2 : Addr) (k_a_D2 : ClassId) (h0 : Heap) (n0 : Nat) : QT := fun v h L => ∃ (sx : Addr), ∃ (sa : Addr), ∃ (sk : ClassId), ∃ (mm : Nat), ∃ (ll : Nat → Int32), (v = some (.ref sx)) ∧ (Fr n0 L) ∧ (Keep h0 h []) ∧ (h0.size ≤ sx) ∧ (h0.size ≤ sa) ∧ (n0 ≤ sx) ∧ (n0 ≤ sa) ∧ (eAQ Z h sx) ∧ (fBQ Z h sx (.ref sa)) ∧ (fAQ Z h sx (.int 0)) ∧ (eCQ Z h sa) ∧ (Arv Z h sa sk .byte ((20 : Int32) + (fss vv)) (own_L ((20 : Int32) + (fss vv)).toNatClampNeg (own_gf vv ((20 : Int32) + (fss vv)).toNatClampNeg mm ll)) (.int 0)) ∧ (sx ≠ sa) ∧ (own_isnd (own_M vv) mm) ∧ (∀ i : Nat, i < 20 → ll i = own_lit [97, 112, 112, 108, 105, 101, 100, 44, 32, 97, 116, 32, 118, 101, 114, 115, 105, 111, 110, 32] i)
theorem rmts1 (l : Launch) (Z : State) (a0 : Array Value) (hw : TW a0 Z) (ws : List Jvm.Cond) (o0 : Addr) (vv : Int64) (cs : Int32) (a_D1 : Addr) (k_a_D1 : ClassId) (a_D2 : Addr) (k_a_D2 : ClassId) (h0 : Heap) (n0 : Nat) (Z0 : n0 ≤ h0.size) (wo : eDQ Z h0 o0) (wS : fFQ Z h0 o0 (.int 1)) (wx : fGQ Z h0 o0 (.long vv)) (wa : sJQ Z h0 (.int cs)) (hcs : ¬ cs = (0 : Int32)) (wv : Arv Z h0 a_D1 k_a_D1 .byte 100 own_ones (.int 0)) (wg : sHQ Z h0 (.ref a_D1)) (wn : Arv Z h0 a_D2 k_a_D2 .byte 100 own_tens (.int 0)) (wf : sIQ Z h0 (.ref a_D2)) (vZ : Jvm.Lit.constHeld Z "com/example/wunce/wunce/VersionUpdate" 20) (vY : Jvm.Lit.constHeld Z "com/example/wunce/wunce/VersionUpdate" 22) (vS : Jvm.Lit.constHeld Z "com/example/wunce/wunce/VersionUpdate" 28) (hcw : Jvm.Lit.compactW.before a0 Z = true) (hn0 : n0 = Array.size h0) (hkp : ∀ (b : Addr) (cl : Cell), Z.heap[b]? = some cl → h0[b]? = some cl) :
  MetFree l mN7 (head1 (Jvm.Cond.code mN7 prog_31_method_4_code 1 (some (.object "java/lang/String")) :: ws) (rmm 6 10 260 97)) (fun a U => a = #[.ref o0] ∧ Z.Warmed39 U.vm ∧ U.heap = h0 ∧ IB Z U.vm []) (fun _ _ _ _ _ => True) (fun _ U o U' => ∃ v L, o = .returned v ∧ Qts1 Z o0 vv cs a_D1 k_a_D1 a_D2 k_a_D2 h0 n0 v U'.heap L ∧ ReturnedEndW U o U' L (rmm 6 10 260 97).cells (rmm 6 10 260 97).slots ∧ IB Z U'.vm [", at version ", "applied"]) := by
 refine MetFree.of_bodySF (plainFor_of_name pn_8) hisR ?_
 intro p e s m args below meth c s₁ Bd hml0 hP hK
 obtain ⟨rfl, hZ, hh, hIB⟩ := hP
 have hx := Bd.exec
 have hby := Bd.bytes
 have hy := And.intro hx hby
 have hml : c.maxLocals = 1 := hml0
 have hown : s.vm.findClass "com/example/wunce/wunce/VersionUpdate" = some m.cls := findClass_of_methodNamed Bd.named
 have hnm := (name_of_methodNamed Bd.named Bd.method).1
 have X0 : Stand p l e (rmm 6 10 260 97) (s.setVm s.vm) m #[.ref o0] below meth c s₁ [] 0 0 := Stand.of_body Bd
 have e0 : s₁.heap = h0 := by rw [← hh, Bd.state]; rfl
 have N0 := Fr.nil n0
 have hS : s.Since s.vm 0 := (State.WarmedH.refl s).since 0
 have hk : 0 ≤ Array.size h0 := Nat.zero_le _
 have hkeep : ∀ (b : Addr) (cl : Cell), Z.heap[b]? = some cl → s.heap[b]? = some cl := by rw [hh]; exact hkp
 have IBf : IB Z s.vm [] := hIB
 refine Ends.opn ?_
 intro QQ hQQ
 refine Ends.i #[rv o0] ?_
 obtain ⟨T558, h558, X558, e558, E558, A558, D558, U558, st558⟩ := newO X0 hx hZ hown (tb hw 18 rfl) (tb hw 19 rfl) (tb hw 20 rfl) e0 (g := (mkF m 0 #[rv o0] [])) rfl (hb hby d3_0) (by decide) (by decide)
 obtain ⟨b558, g558⟩ : ∃ z, z = h0.size := ⟨_, rfl⟩
 rw [← g558] at A558 D558 U558 st558
 have kr : o0 ≠ b558 := Nat.ne_of_lt (Nat.lt_of_lt_of_le wo.lt (Nat.le_of_eq g558.symm))
 have vR : a_D1 ≠ b558 := Nat.ne_of_lt (Nat.lt_of_lt_of_le wv.lt (Nat.le_of_eq g558.symm))
 have vP : a_D2 ≠ b558 := Nat.ne_of_lt (Nat.lt_of_lt_of_le wn.lt (Nat.le_of_eq g558.symm))
 have kV : n0 ≤ b558 := Nat.le_trans Z0 (Nat.le_trans (Keep.refl h0 []).1 (Nat.le_of_eq g558.symm))
 have kG : h0.size ≤ b558 := Nat.le_trans (Keep.refl h0 []).1 (Nat.le_of_eq g558.symm)
 have wo := wo.ext E558
 have wS := wS.ext E558
 have wx := wx.ext E558
 have wa := wa.ext E558
 have wv := wv.ext E558
 have wg := wg.ext E558
 have wn := wn.ext E558
 have wf := wf.ext E558
 have hk := Nat.le_trans hk E558.1
 have K558 := (Keep.refl h0 []).ext E558
 have wZ := A558
 have vg : fDQ Z h558 b558 .null := D558 (Or.inl (tb hw 35 rfl)) (ty := (.array .byte)) (by decide)
 have vk : fCQ Z h558 b558 (.int 0) := D558 (Or.inl (tb hw 37 rfl)) (ty := .byte) (by decide)
 have vi : fEQ Z h558 b558 (.int 0) := D558 (Or.inl (tb hw 68 rfl)) (ty := .int) (by decide)
 refine Ends.j 3 [.ref b558] st558 ?_
 refine oxd X558 hy d3_3 4 rfl ?_
 refine cI X558 hy hml hown hZ hw d3_4 7 1 21 22 23 20 rfl rfl rfl rfl rfl (rmsb l Z a0 hw [] b558 (.null : Value) (0 : Int32) cs h558 n0 (Nat.le_trans Z0 K558.1) wZ vg vk vi kV wa hcs) e558 pd_22 rfl rfl fun _ T559 Lc559 X559 hQ559 => ?_
 obtain ⟨vb_559, kb_559, rfl, Nq559, Kq559, fq559_0, uB, fq559_2, vg, vk, vi, vL, vH⟩ := hQ559
 have N559 := Fr.app N0 Nq559
 have ul : o0 ≠ vb_559 := Nat.ne_of_lt (Nat.lt_of_lt_of_le wo.lt fq559_0)
 have jB : a_D1 ≠ vb_559 := Nat.ne_of_lt (Nat.lt_of_lt_of_le wv.lt fq559_0)
 have jz : a_D2 ≠ vb_559 := Nat.ne_of_lt (Nat.lt_of_lt_of_le wn.lt fq559_0)
 have kI : b558 ≠ vb_559 := Nat.ne_of_lt (Nat.lt_of_lt_of_le wZ.lt fq559_0)
 have zA := Nat.le_trans K558.1 fq559_0
 have wa := own_sta_keep wa Kq559 (allS wZ.cell all0)
 have wg := own_sta_keep wg Kq559 (allS wZ.cell all0)
 have wf := own_sta_keep wf Kq559 (allS wZ.cell all0)
 have wS := wS.keep Kq559 (ninS kr nin0)
 have wx := wx.keep Kq559 (ninS kr nin0)
 have wv := wv.keep Kq559 (ninS vR nin0)
 have wn := wn.keep Kq559 (ninS vP nin0)
 have hk := Nat.le_trans hk Kq559.1
 have wZ := fq559_2
 have K559 := K558.trans Kq559 (allS (Or.inr kG) all0)
 refine Ends.u (oA X559 hy d3_7 8 rfl (gF X559 hy hown hZ hw rfl wS d3_8 11 9 rfl fun T560 X560 e560 => oxh X560 hy d3_11 14 (XT.i0_eq_f (by decide)) ?_))
 obtain ⟨a561, T561, h561, kk561, b561, kc561, X561, e561, E561, hS, hk, hZ, hown, EA561, FC561, FV561, AV561, -, -, IBf, Lt561, st561⟩ := ldcSVL X560 hx hZ hown (tb hw 234 rfl) (own_wS hw) e560 hS hk (by show Fr (Array.size s.heap) _; rw [hh, ← hn0]; exact N559) hkeep IBf (by decide) vZ hcw (vs := [.int 97, .int 112, .int 112, .int 108, .int 105, .int 101, .int 100]) (z := (7 : Int32)) ⟨by decide +kernel, by decide +kernel⟩ (by decide) (by decide) (g := (mkF m 14 #[rv o0] [.ref b558])) rfl (hb hby d3_14) (n := 28) (by decide +kernel) (by decide) (by decide) (by decide)
 have wx := wx.ext E561
 have wa := wa.ext E561
 have wv := wv.ext E561
 have wg := wg.ext E561
 have wn := wn.ext E561
 have wf := wf.ext E561
 have wZ := wZ.ext E561
 have vg := vg.ext E561
 have vk := vk.ext E561
 have vi := vi.ext E561
 have vL := vL.ext E561
 have vH := vH.ext E561
 have K561 := K559.ext E561
 have uR := EA561
 have uJ := FC561
 have uF := FV561
 have uV := AV561
 have uv : b558 ≠ a561 := own_neE wZ uR (by decide)
 have ur : b558 ≠ b561 := own_neEA wZ (tb hw 19 rfl) uV (by decide)
 have jx : vb_559 ≠ a561 := Ne.symm (own_neEA uR (tb hw 39 rfl) vH (by decide))
 have ju : vb_559 ≠ b561 := own_neA vH uV (by decide)
 refine Ends.j 16 [.ref a561, .ref b558] st561 ?_
 refine oxm X561 hy d3_16 21 ?_
 refine cV X561 hy hml hown hZ hw d3_21 24 0 44 45 47 46 48 20 rfl rfl rfl rfl rfl rfl (rmspsA l Z a0 hw [] b558 a561 vb_559 kb_559 b561 kc561 cs (97 : Int32) (112 : Int32) (112 : Int32) (108 : Int32) (105 : Int32) (101 : Int32) (100 : Int32) h561 n0 (Nat.le_trans Z0 K561.1) wZ vg vk vi vL vH kV uB kI uR uF uJ uV ju ur uv jx wa hcs) e561 pd_23 wZ rfl rfl fun _ T562 Lc562 X562 hQ562 => ?_
 obtain ⟨rfl, Nq562, Kq562, fq562_0, vg, vk, vi, vH, fq562_5⟩ := hQ562
 have N562 := Fr.app N559 Nq562
 have wa := own_sta_keep wa Kq562 (allS wZ.cell (allS vL.cell all0))
 have wg := own_sta_keep wg Kq562 (allS wZ.cell (allS vL.cell all0))
 have wf := own_sta_keep wf Kq562 (allS wZ.cell (allS vL.cell all0))
 have wx := wx.keep Kq562 (ninS kr (ninS ul nin0))
 have wv := wv.keep Kq562 (ninS vR (ninS jB nin0))
 have wn := wn.keep Kq562 (ninS vP (ninS jz nin0))
 have hk := Nat.le_trans hk Kq562.1
 have wZ := fq562_0
 have vL := fq562_5
 have K562 := K561.trans Kq562 (allS (Or.inr kG) (allS (Or.inr zA) all0))
 refine Ends.v ?_
 obtain ⟨a563, T563, h563, kk563, b563, kc563, X563, e563, E563, hS, hk, hZ, hown, EA563, FC563, FV563, AV563, -, -, IBf, Lt563, st563⟩ := ldcSVL X562 hx hZ hown (tb hw 94 rfl) (own_wS hw) rfl hS hk (by show Fr (Array.size s.heap) _; rw [hh, ← hn0]; exact N562) hkeep IBf (by decide) vS hcw (vs := [.int 44, .int 32, .int 97, .int 116, .int 32, .int 118, .int 101, .int 114, .int 115, .int 105, .int 111, .int 110, .int 32]) (z := (13 : Int32)) ⟨by decide +kernel, by decide +kernel⟩ (by decide) (by decide) (g := (mkF m 24 #[rv o0] [.ref b558])) rfl (hb hby d3_24) (n := 52) (by decide +kernel) (by decide) (by decide) (by decide)
 have wx := wx.ext E563
 have wa := wa.ext E563
 have wv := wv.ext E563
 have wg := wg.ext E563
 have wn := wn.ext E563
 have wf := wf.ext E563
 have wZ := wZ.ext E563
 have vg := vg.ext E563
 have vk := vk.ext E563
 have vi := vi.ext E563
 have vL := vL.ext E563
 have vH := vH.ext E563
 have K563 := K562.ext E563
 have uQ := EA563
 have uI := FC563
 have uE := FV563
 have uU := AV563
 have ut : b558 ≠ a563 := own_neE wZ uQ (by decide)
 have uq : b558 ≠ b563 := own_neEA wZ (tb hw 19 rfl) uU (by decide)
 have jw : vb_559 ≠ a563 := Ne.symm (own_neEA uQ (tb hw 39 rfl) vH (by decide))
 have jt : vb_559 ≠ b563 := own_neA vH uU (by decide)
 refine Ends.j 26 [.ref a563, .ref b558] st563 ?_
 refine cV X563 hy hml hown hZ hw d3_26 29 0 44 45 47 46 48 20 rfl rfl rfl rfl rfl rfl (rmspsB l Z a0 hw [] b558 a563 vb_559 kb_559 b563 kc563 cs (97 : Int32) (112 : Int32) (112 : Int32) (108 : Int32) (105 : Int32) (101 : Int32) (100 : Int32) (44 : Int32) (32 : Int32) (97 : Int32) (116 : Int32) (32 : Int32) (118 : Int32) (101 : Int32) (114 : Int32) (115 : Int32) (105 : Int32) (111 : Int32) (110 : Int32) (32 : Int32) h563 n0 (Nat.le_trans Z0 K563.1) wZ vg vk vi vL vH kV uB kI uQ uE uI uU jt uq ut jw wa hcs) e563 pd_23 wZ rfl rfl fun _ T564 Lc564 X564 hQ564 => ?_
 obtain ⟨b_564, k2_564, rfl, Nq564, Kq564, fq564_0, vg, vk, vi, kM, kv, fq564_6, zq⟩ := hQ564
 have N564 := Fr.app N562 Nq564
 have kT : a_D1 ≠ b_564 := Nat.ne_of_lt (Nat.lt_of_lt_of_le wv.lt fq564_6)
 have kR : a_D2 ≠ b_564 := Nat.ne_of_lt (Nat.lt_of_lt_of_le wn.lt fq564_6)
 have vW : b558 ≠ b_564 := Nat.ne_of_lt (Nat.lt_of_lt_of_le wZ.lt fq564_6)
 have zY := Nat.le_trans K563.1 fq564_6
 have wa := own_sta_keep wa Kq564 (allS wZ.cell all0)
 have wg := own_sta_keep wg Kq564 (allS wZ.cell all0)
 have wf := own_sta_keep wf Kq564 (allS wZ.cell all0)
 have wx := wx.keep Kq564 (ninS kr nin0)
 have wv := wv.keep Kq564 (ninS vR nin0)
 have wn := wn.keep Kq564 (ninS vP nin0)
 have hk := Nat.le_trans hk Kq564.1
 have wZ := fq564_0
 have K564 := K563.trans Kq564 (allS (Or.inr kG) all0)
 refine Ends.v (oA X564 hy d3_29 30 rfl ?_)
 obtain ⟨T565, X565, e565, st565⟩ := getF X564 hx hZ hown (host := "") (Or.inl (tb hw 11 rfl)) Via.refl rfl wx (g := (mkF m 30 #[rv o0] [.ref o0, .ref b558])) rfl rfl (hb hby d3_30)
 refine Ends.step st565 ?_
 by_cases hs33_566 : (0 : Int32) < (((20 : Int32) + (fss vv)) - (34 : Int32))
 ·show Ends p e below QQ (T565.setTop (mkF m 33 #[rv o0] [.long vv, .ref b558]))
  refine cV X565 hy hml hown hZ hw d3_33 36 0 118 119 121 120 122 20 rfl rfl rfl rfl rfl rfl (rmsj201 l Z a0 hw [] b558 vv b_564 k2_564 cs a_D1 k_a_D1 a_D2 k_a_D2 (97 : Int32) (112 : Int32) (112 : Int32) (108 : Int32) (105 : Int32) (101 : Int32) (100 : Int32) (44 : Int32) (32 : Int32) (97 : Int32) (116 : Int32) (32 : Int32) (118 : Int32) (101 : Int32) (114 : Int32) (115 : Int32) (105 : Int32) (111 : Int32) (110 : Int32) (32 : Int32) T564.heap n0 (Nat.le_trans Z0 K564.1) wZ vg vk vi kv kM kV zq vW wa hcs wv wg wn wf kT kR vR vP hs33_566) e565 pd_24 wZ rfl rfl fun _ T567 Lc567 X567 hQ567 => ?_
  obtain ⟨b_567, k2_567, mm_567, rfl, Nq567, Kq567, fq567_0, g_b_567, fq567_2, vg, vk, vi, Vi, VA, hmm⟩ := hQ567
  have N567 := Fr.app N564 Nq567
  have jN : b558 ≠ b_567 := Nat.ne_of_lt (Nat.lt_of_lt_of_le wZ.lt fq567_0)
  have wa := own_sta_keep wa Kq567 (allS wZ.cell all0)
  have hk := Nat.le_trans hk Kq567.1
  have wZ := fq567_2
  have K567 := K564.trans Kq567 (allS (Or.inr kG) all0)
  refine Ends.v ?_
  refine cV X567 hy hml hown hZ hw d3_36 39 0 143 144 146 145 147 20 rfl rfl rfl rfl rfl rfl (rmtosN l Z a0 hw [] b558 b_567 k2_567 ((20 : Int32) + (fss vv)) cs (own_gf vv ((20 : Int32) + (fss vv)).toNatClampNeg mm_567 (own_lit [97, 112, 112, 108, 105, 101, 100, 44, 32, 97, 116, 32, 118, 101, 114, 115, 105, 111, 110, 32, 0, 0, 0, 0, 0, 0, 0, 0, 0, 0, 0, 0, 0, 0, 0, 0, 0, 0, 0, 0, 0, 0, 0, 0, 0, 0, 0, 0, 0, 0, 0, 0, 0, 0, 0, 0, 0, 0, 0, 0, 0, 0, 0, 0, 0, 0, 0, 0, 0, 0])) (70 : Int32) T567.heap n0 (Nat.le_trans Z0 K567.1) wZ vg vk vi Vi VA jN wa hcs (own_t0 (own_c20 vv)) (own_t44 (own_c20 vv)) (own_tG20 vv)) rfl pd_25 wZ rfl rfl fun _ T568 Lc568 X568 hQ568 => ?_
  obtain ⟨x_568, b_568, k2_568, rfl, Nq568, Kq568, fq568_0, fq568_1, WA, WG, Va, jZ, uf, Vh, Vz, jo⟩ := hQ568
  have N568 := Fr.app N567 Nq568
  have zQ := Nat.le_trans K567.1 fq568_0
  have zX := Nat.le_trans K567.1 fq568_1
  have hk := Nat.le_trans hk Kq568.1
  have K568 := K567.trans Kq568 all0
  refine Ends.v ?_
  exact Ends.finI (some (.ref x_568)) X568 hS hk hQQ (fun h => by rw [Bd.returns] at h; cases h) Bd.notSynchronized (fun _ hr => retOut X568 hx (t := (.object "java/lang/String")) Bd.returns rfl (Or.inr (Or.inr (Or.inr (Or.inr ⟨rfl, rfl, rfl⟩)))) (hb hby d3_39) hr) rfl (by decide) (by decide) ⟨x_568, b_568, k2_568, mm_567, (own_lit [97, 112, 112, 108, 105, 101, 100, 44, 32, 97, 116, 32, 118, 101, 114, 115, 105, 111, 110, 32, 0, 0, 0, 0, 0, 0, 0, 0, 0, 0, 0, 0, 0, 0, 0, 0, 0, 0, 0, 0, 0, 0, 0, 0, 0, 0, 0, 0, 0, 0, 0, 0, 0, 0, 0, 0, 0, 0, 0, 0, 0, 0, 0, 0, 0, 0, 0, 0, 0, 0]), rfl, N568, K568, zQ, zX, WA, WG, Va, jZ, uf, Vh, Vz, jo, hmm, (by decide +kernel)⟩ (own_ibAt IBf X568.warmed.interned_eq)
 ·show Ends p e below QQ (T565.setTop (mkF m 33 #[rv o0] [.long vv, .ref b558]))
  obtain ⟨cq569, kq569, q569a, q569b, q569c⟩ := isOf hZ e565 wZ
  obtain ⟨_, _, ⟨T569, L569, k569, n569⟩, -, X569, ⟨Lc569, hQ569, l569, y569, z569⟩, st569⟩ := X565.virtualBack hx (y := mN1) (z := mN1) hown (mvT hZ (tb hw 118 rfl)) (mvT hZ (tb hw 119 rfl)) (notFace_of_selects (args := #[]) (mvT hZ (tb hw 121 rfl))) (mvT hZ (tb hw 121 rfl)) (mvT hZ (tb hw 120 rfl)) (by decide) (backOf (W := 0) (rmsj200 l Z a0 hw [] b558 vv b_564 k2_564 cs a_D1 k_a_D1 a_D2 k_a_D2 (97 : Int32) (112 : Int32) (112 : Int32) (108 : Int32) (105 : Int32) (101 : Int32) (100 : Int32) (44 : Int32) (32 : Int32) (97 : Int32) (116 : Int32) (32 : Int32) (118 : Int32) (101 : Int32) (114 : Int32) (115 : Int32) (105 : Int32) (111 : Int32) (110 : Int32) (32 : Int32) T564.heap n0 (Nat.le_trans Z0 K564.1) wZ vg vk vi kv kM kV zq vW wa hcs wv wg wn wf kT kR vR vP hs33_566) hZ (tb hw 122 rfl) (tb hw 20 rfl) (by decide) (by decide)) q569a q569c (g := (mkF m 33 #[rv o0] [.long vv, .ref b558])) rfl (by rw [hml]; rfl) (Steps.refl _) (argsL := [.long vv]) (rest := []) (lenOf pd_24 rfl) rfl (by show 2 * 0 + _ ≤ _; exact Nat.le_of_eq rfl) (hb hby d3_33) (fun _ _ => ⟨rfl, e565, (by decide : 7 + 0 ≤ _), (by decide : 142 + 0 ≤ _)⟩)
  dsimp only [Pt.U, Pt.locs, Pt.cells, Pt.slots] at X569 l569 y569 z569 st569 hQ569
  subst l569 y569 z569
  obtain ⟨mm_569, rfl, Nq569, Kq569, fq569_0, vg, vk, vi, fq569_4, kM, hmm⟩ := hQ569
  have N569 := Fr.app N564 Nq569
  have wa := own_sta_keep wa Kq569 (allS wZ.cell (allS kv.cell all0))
  have hk := Nat.le_trans hk Kq569.1
  have wZ := fq569_0
  have kv := fq569_4
  have K569 := K564.trans Kq569 (allS (Or.inr kG) (allS (Or.inr zY) all0))
  refine Ends.step (fun _ k => st569.trans k) ?_
  by_cases hs36_570 : ((20 : Int32) + (fss vv)) = (34 : Int32)
  ·show Ends p e below QQ (T569.setTop (mkF m 36 #[rv o0] [.ref b558]))
   refine cV X569 hy hml hown hZ hw d3_36 39 0 143 144 146 145 147 20 rfl rfl rfl rfl rfl rfl (rmtosC l Z a0 hw [] b558 b_564 k2_564 ((20 : Int32) + (fss vv)) cs (own_gf vv ((20 : Int32) + (fss vv)).toNatClampNeg mm_569 qL2) T569.heap n0 (Nat.le_trans Z0 K569.1) wZ vg vk vi kv kM vW wa hcs hs36_570) rfl pd_25 wZ rfl rfl fun _ T571 Lc571 X571 hQ571 => ?_
   obtain ⟨x_571, b_571, k2_571, rfl, Nq571, Kq571, fq571_0, fq571_1, Wz, WF, WZ, jY, ue, Vg, Vy, jn⟩ := hQ571
   have N571 := Fr.app N569 Nq571
   have zP := Nat.le_trans K569.1 fq571_0
   have zW := Nat.le_trans K569.1 fq571_1
   have hk := Nat.le_trans hk Kq571.1
   have K571 := K569.trans Kq571 all0
   refine Ends.v ?_
   exact Ends.finI (some (.ref x_571)) X571 hS hk hQQ (fun h => by rw [Bd.returns] at h; cases h) Bd.notSynchronized (fun _ hr => retOut X571 hx (t := (.object "java/lang/String")) Bd.returns rfl (Or.inr (Or.inr (Or.inr (Or.inr ⟨rfl, rfl, rfl⟩)))) (hb hby d3_39) hr) rfl (by decide) (by decide) ⟨x_571, b_571, k2_571, mm_569, qL2, rfl, N571, K571, zP, zW, Wz, WF, WZ, jY, ue, Vg, Vy, jn, hmm, (by decide +kernel)⟩ (own_ibAt IBf X571.warmed.interned_eq)
  ·show Ends p e below QQ (T569.setTop (mkF m 36 #[rv o0] [.ref b558]))
   refine cV X569 hy hml hown hZ hw d3_36 39 0 143 144 146 145 147 20 rfl rfl rfl rfl rfl rfl (rmtosN l Z a0 hw [] b558 b_564 k2_564 ((20 : Int32) + (fss vv)) cs (own_gf vv ((20 : Int32) + (fss vv)).toNatClampNeg mm_569 qL2) (34 : Int32) T569.heap n0 (Nat.le_trans Z0 K569.1) wZ vg vk vi kv kM vW wa hcs (own_t0 (own_c20 vv)) (own_t44 (own_c20 vv)) (own_tN (own_c20 vv) hs33_566 hs36_570)) rfl pd_25 wZ rfl rfl fun _ T572 Lc572 X572 hQ572 => ?_
   obtain ⟨x_572, b_572, k2_572, rfl, Nq572, Kq572, fq572_0, fq572_1, Wy, WE, WY, jX, ud, Vf, Vx, jm⟩ := hQ572
   have N572 := Fr.app N569 Nq572
   have zO := Nat.le_trans K569.1 fq572_0
   have zV := Nat.le_trans K569.1 fq572_1
   have hk := Nat.le_trans hk Kq572.1
   have K572 := K569.trans Kq572 all0
   refine Ends.v ?_
   exact Ends.finI (some (.ref x_572)) X572 hS hk hQQ (fun h => by rw [Bd.returns] at h; cases h) Bd.notSynchronized (fun _ hr => retOut X572 hx (t := (.object "java/lang/String")) Bd.returns rfl (Or.inr (Or.inr (Or.inr (Or.inr ⟨rfl, rfl, rfl⟩)))) (hb hby d3_39) hr) rfl (by decide) (by decide) ⟨x_572, b_572, k2_572, mm_569, qL2, rfl, N572, K572, zO, zV, Wy, WE, WY, jX, ud, Vf, Vx, jm, hmm, (by decide +kernel)⟩ (own_ibAt IBf X572.warmed.interned_eq)
theorem d3_19 : decode cD11 19 = .ok (.ldc 22, 2) := by decide +kernel
def Qts0 (Z : State) (o0 : Addr) (vv : Int64) (cs : Int32) (a_D1 : Addr) (k_a_D1 : ClassId) (a_D2 : Addr) (k_a_D2 : ClassId) (h0 : Heap) (n0 : Nat) : QT := fun v h L => ∃ (sx : Addr), ∃ (sa : Addr), ∃ (sk : ClassId), ∃ (mm : Nat), ∃ (ll : Nat → Int32), (v = some (.ref sx)) ∧ (Fr n0 L) ∧ (Keep h0 h []) ∧ (h0.size ≤ sx) ∧ (h0.size ≤ sa) ∧ (n0 ≤ sx) ∧ (n0 ≤ sa) ∧ (eAQ Z h sx) ∧ (fBQ Z h sx (.ref sa)) ∧ (fAQ Z h sx (.int 0)) ∧ (eCQ Z h sa) ∧ (Arv Z h sa sk .byte ((24 : Int32) + (fss vv)) (own_L ((24 : Int32) + (fss vv)).toNatClampNeg (own_gf vv ((24 : Int32) + (fss vv)).toNatClampNeg mm ll)) (.int 0)) ∧ (sx ≠ sa) ∧ (own_isnd (own_M vv) mm) ∧ (∀ i : Nat, i < 24 → ll i = own_lit [110, 111, 116, 32, 97, 112, 112, 108, 105, 101, 100, 44, 32, 97, 116, 32, 118, 101, 114, 115, 105, 111, 110, 32] i)
theorem rmts0 (l : Launch) (Z : State) (a0 : Array Value) (hw : TW a0 Z) (ws : List Jvm.Cond) (o0 : Addr) (vv : Int64) (cs : Int32) (a_D1 : Addr) (k_a_D1 : ClassId) (a_D2 : Addr) (k_a_D2 : ClassId) (h0 : Heap) (n0 : Nat) (Z0 : n0 ≤ h0.size) (wo : eDQ Z h0 o0) (wS : fFQ Z h0 o0 (.int 0)) (wx : fGQ Z h0 o0 (.long vv)) (wa : sJQ Z h0 (.int cs)) (hcs : ¬ cs = (0 : Int32)) (wv : Arv Z h0 a_D1 k_a_D1 .byte 100 own_ones (.int 0)) (wg : sHQ Z h0 (.ref a_D1)) (wn : Arv Z h0 a_D2 k_a_D2 .byte 100 own_tens (.int 0)) (wf : sIQ Z h0 (.ref a_D2)) (vZ : Jvm.Lit.constHeld Z "com/example/wunce/wunce/VersionUpdate" 20) (vY : Jvm.Lit.constHeld Z "com/example/wunce/wunce/VersionUpdate" 22) (vS : Jvm.Lit.constHeld Z "com/example/wunce/wunce/VersionUpdate" 28) (hcw : Jvm.Lit.compactW.before a0 Z = true) (hn0 : n0 = Array.size h0) (hkp : ∀ (b : Addr) (cl : Cell), Z.heap[b]? = some cl → h0[b]? = some cl) :
  MetFree l mN7 (head1 (Jvm.Cond.code mN7 prog_31_method_4_code 1 (some (.object "java/lang/String")) :: ws) (rmm 6 10 276 97)) (fun a U => a = #[.ref o0] ∧ Z.Warmed39 U.vm ∧ U.heap = h0 ∧ IB Z U.vm []) (fun _ _ _ _ _ => True) (fun _ U o U' => ∃ v L, o = .returned v ∧ Qts0 Z o0 vv cs a_D1 k_a_D1 a_D2 k_a_D2 h0 n0 v U'.heap L ∧ ReturnedEndW U o U' L (rmm 6 10 276 97).cells (rmm 6 10 276 97).slots ∧ IB Z U'.vm [", at version ", "not applied"]) := by
 refine MetFree.of_bodySF (plainFor_of_name pn_8) hisR ?_
 intro p e s m args below meth c s₁ Bd hml0 hP hK
 obtain ⟨rfl, hZ, hh, hIB⟩ := hP
 have hx := Bd.exec
 have hby := Bd.bytes
 have hy := And.intro hx hby
 have hml : c.maxLocals = 1 := hml0
 have hown : s.vm.findClass "com/example/wunce/wunce/VersionUpdate" = some m.cls := findClass_of_methodNamed Bd.named
 have hnm := (name_of_methodNamed Bd.named Bd.method).1
 have X0 : Stand p l e (rmm 6 10 276 97) (s.setVm s.vm) m #[.ref o0] below meth c s₁ [] 0 0 := Stand.of_body Bd
 have e0 : s₁.heap = h0 := by rw [← hh, Bd.state]; rfl
 have N0 := Fr.nil n0
 have hS : s.Since s.vm 0 := (State.WarmedH.refl s).since 0
 have hk : 0 ≤ Array.size h0 := Nat.zero_le _
 have hkeep : ∀ (b : Addr) (cl : Cell), Z.heap[b]? = some cl → s.heap[b]? = some cl := by rw [hh]; exact hkp
 have IBf : IB Z s.vm [] := hIB
 refine Ends.opn ?_
 intro QQ hQQ
 refine Ends.i #[rv o0] ?_
 obtain ⟨T573, h573, X573, e573, E573, A573, D573, U573, st573⟩ := newO X0 hx hZ hown (tb hw 18 rfl) (tb hw 19 rfl) (tb hw 20 rfl) e0 (g := (mkF m 0 #[rv o0] [])) rfl (hb hby d3_0) (by decide) (by decide)
 obtain ⟨b573, g573⟩ : ∃ z, z = h0.size := ⟨_, rfl⟩
 rw [← g573] at A573 D573 U573 st573
 have ko : o0 ≠ b573 := Nat.ne_of_lt (Nat.lt_of_lt_of_le wo.lt (Nat.le_of_eq g573.symm))
 have vQ : a_D1 ≠ b573 := Nat.ne_of_lt (Nat.lt_of_lt_of_le wv.lt (Nat.le_of_eq g573.symm))
 have vO : a_D2 ≠ b573 := Nat.ne_of_lt (Nat.lt_of_lt_of_le wn.lt (Nat.le_of_eq g573.symm))
 have kU : n0 ≤ b573 := Nat.le_trans Z0 (Nat.le_trans (Keep.refl h0 []).1 (Nat.le_of_eq g573.symm))
 have kF : h0.size ≤ b573 := Nat.le_trans (Keep.refl h0 []).1 (Nat.le_of_eq g573.symm)
 have wo := wo.ext E573
 have wS := wS.ext E573
 have wx := wx.ext E573
 have wa := wa.ext E573
 have wv := wv.ext E573
 have wg := wg.ext E573
 have wn := wn.ext E573
 have wf := wf.ext E573
 have hk := Nat.le_trans hk E573.1
 have K573 := (Keep.refl h0 []).ext E573
 have wY := A573
 have vf : fDQ Z h573 b573 .null := D573 (Or.inl (tb hw 35 rfl)) (ty := (.array .byte)) (by decide)
 have vj : fCQ Z h573 b573 (.int 0) := D573 (Or.inl (tb hw 37 rfl)) (ty := .byte) (by decide)
 have vh : fEQ Z h573 b573 (.int 0) := D573 (Or.inl (tb hw 68 rfl)) (ty := .int) (by decide)
 refine Ends.j 3 [.ref b573] st573 ?_
 refine oxd X573 hy d3_3 4 rfl ?_
 refine cI X573 hy hml hown hZ hw d3_4 7 1 21 22 23 20 rfl rfl rfl rfl rfl (rmsb l Z a0 hw [] b573 (.null : Value) (0 : Int32) cs h573 n0 (Nat.le_trans Z0 K573.1) wY vf vj vh kU wa hcs) e573 pd_22 rfl rfl fun _ T574 Lc574 X574 hQ574 => ?_
 obtain ⟨vb_574, kb_574, rfl, Nq574, Kq574, fq574_0, uA, fq574_2, vf, vj, vh, vK, vG⟩ := hQ574
 have N574 := Fr.app N0 Nq574
 have uk : o0 ≠ vb_574 := Nat.ne_of_lt (Nat.lt_of_lt_of_le wo.lt fq574_0)
 have jA : a_D1 ≠ vb_574 := Nat.ne_of_lt (Nat.lt_of_lt_of_le wv.lt fq574_0)
 have jy : a_D2 ≠ vb_574 := Nat.ne_of_lt (Nat.lt_of_lt_of_le wn.lt fq574_0)
 have kH : b573 ≠ vb_574 := Nat.ne_of_lt (Nat.lt_of_lt_of_le wY.lt fq574_0)
 have zz := Nat.le_trans K573.1 fq574_0
 have wa := own_sta_keep wa Kq574 (allS wY.cell all0)
 have wg := own_sta_keep wg Kq574 (allS wY.cell all0)
 have wf := own_sta_keep wf Kq574 (allS wY.cell all0)
 have wS := wS.keep Kq574 (ninS ko nin0)
 have wx := wx.keep Kq574 (ninS ko nin0)
 have wv := wv.keep Kq574 (ninS vQ nin0)
 have wn := wn.keep Kq574 (ninS vO nin0)
 have hk := Nat.le_trans hk Kq574.1
 have wY := fq574_2
 have K574 := K573.trans Kq574 (allS (Or.inr kF) all0)
 refine Ends.u (oA X574 hy d3_7 8 rfl (gF X574 hy hown hZ hw rfl wS d3_8 11 9 rfl fun T575 X575 e575 => oxk X575 hy d3_11 19 (XT.i0_eq_t (by decide)) ?_))
 obtain ⟨a576, T576, h576, kk576, b576, kc576, X576, e576, E576, hS, hk, hZ, hown, EA576, FC576, FV576, AV576, -, -, IBf, Lt576, st576⟩ := ldcSVL X575 hx hZ hown (tb hw 38 rfl) (own_wS hw) e575 hS hk (by show Fr (Array.size s.heap) _; rw [hh, ← hn0]; exact N574) hkeep IBf (by decide) vY hcw (vs := [.int 110, .int 111, .int 116, .int 32, .int 97, .int 112, .int 112, .int 108, .int 105, .int 101, .int 100]) (z := (11 : Int32)) ⟨by decide +kernel, by decide +kernel⟩ (by decide) (by decide) (g := (mkF m 19 #[rv o0] [.ref b573])) rfl (hb hby d3_19) (n := 44) (by decide +kernel) (by decide) (by decide) (by decide)
 have wx := wx.ext E576
 have wa := wa.ext E576
 have wv := wv.ext E576
 have wg := wg.ext E576
 have wn := wn.ext E576
 have wf := wf.ext E576
 have wY := wY.ext E576
 have vf := vf.ext E576
 have vj := vj.ext E576
 have vh := vh.ext E576
 have vK := vK.ext E576
 have vG := vG.ext E576
 have K576 := K574.ext E576
 have uP := EA576
 have uH := FC576
 have uD := FV576
 have uT := AV576
 have up : b573 ≠ a576 := own_neE wY uP (by decide)
 have un : b573 ≠ b576 := own_neEA wY (tb hw 19 rfl) uT (by decide)
 have js : vb_574 ≠ a576 := Ne.symm (own_neEA uP (tb hw 39 rfl) vG (by decide))
 have jq : vb_574 ≠ b576 := own_neA vG uT (by decide)
 refine Ends.j 21 [.ref a576, .ref b573] st576 ?_
 refine cV X576 hy hml hown hZ hw d3_21 24 0 44 45 47 46 48 20 rfl rfl rfl rfl rfl rfl (rmspsD l Z a0 hw [] b573 a576 vb_574 kb_574 b576 kc576 cs (110 : Int32) (111 : Int32) (116 : Int32) (32 : Int32) (97 : Int32) (112 : Int32) (112 : Int32) (108 : Int32) (105 : Int32) (101 : Int32) (100 : Int32) h576 n0 (Nat.le_trans Z0 K576.1) wY vf vj vh vK vG kU uA kH uP uD uH uT jq un up js wa hcs) e576 pd_23 wY rfl rfl fun _ T577 Lc577 X577 hQ577 => ?_
 obtain ⟨rfl, Nq577, Kq577, fq577_0, vf, vj, vh, vG, fq577_5⟩ := hQ577
 have N577 := Fr.app N574 Nq577
 have wa := own_sta_keep wa Kq577 (allS wY.cell (allS vK.cell all0))
 have wg := own_sta_keep wg Kq577 (allS wY.cell (allS vK.cell all0))
 have wf := own_sta_keep wf Kq577 (allS wY.cell (allS vK.cell all0))
 have wx := wx.keep Kq577 (ninS ko (ninS uk nin0))
 have wv := wv.keep Kq577 (ninS vQ (ninS jA nin0))
 have wn := wn.keep Kq577 (ninS vO (ninS jy nin0))
 have hk := Nat.le_trans hk Kq577.1
 have wY := fq577_0
 have vK := fq577_5
 have K577 := K576.trans Kq577 (allS (Or.inr kF) (allS (Or.inr zz) all0))
 refine Ends.v ?_
 obtain ⟨a578, T578, h578, kk578, b578, kc578, X578, e578, E578, hS, hk, hZ, hown, EA578, FC578, FV578, AV578, -, -, IBf, Lt578, st578⟩ := ldcSVL X577 hx hZ hown (tb hw 94 rfl) (own_wS hw) rfl hS hk (by show Fr (Array.size s.heap) _; rw [hh, ← hn0]; exact N577) hkeep IBf (by decide) vS hcw (vs := [.int 44, .int 32, .int 97, .int 116, .int 32, .int 118, .int 101, .int 114, .int 115, .int 105, .int 111, .int 110, .int 32]) (z := (13 : Int32)) ⟨by decide +kernel, by decide +kernel⟩ (by decide) (by decide) (g := (mkF m 24 #[rv o0] [.ref b573])) rfl (hb hby d3_24) (n := 52) (by decide +kernel) (by decide) (by decide) (by decide)
 have wx := wx.ext E578
 have wa := wa.ext E578
 have wv := wv.ext E578
 have wg := wg.ext E578
 have wn := wn.ext E578
 have wf := wf.ext E578
 have wY := wY.ext E578
 have vf := vf.ext E578
 have vj := vj.ext E578
 have vh := vh.ext E578
 have vK := vK.ext E578
 have vG := vG.ext E578
 have K578 := K577.ext E578
 have uO := EA578
 have uG := FC578
 have uC := FV578
 have uS := AV578
 have uo : b573 ≠ a578 := own_neE wY uO (by decide)
 have um : b573 ≠ b578 := own_neEA wY (tb hw 19 rfl) uS (by decide)
 have jr : vb_574 ≠ a578 := Ne.symm (own_neEA uO (tb hw 39 rfl) vG (by decide))
 have jp : vb_574 ≠ b578 := own_neA vG uS (by decide)
 refine Ends.j 26 [.ref a578, .ref b573] st578 ?_
 refine cV X578 hy hml hown hZ hw d3_26 29 0 44 45 47 46 48 20 rfl rfl rfl rfl rfl rfl (rmspsE l Z a0 hw [] b573 a578 vb_574 kb_574 b578 kc578 cs (110 : Int32) (111 : Int32) (116 : Int32) (32 : Int32) (97 : Int32) (112 : Int32) (112 : Int32) (108 : Int32) (105 : Int32) (101 : Int32) (100 : Int32) (44 : Int32) (32 : Int32) (97 : Int32) (116 : Int32) (32 : Int32) (118 : Int32) (101 : Int32) (114 : Int32) (115 : Int32) (105 : Int32) (111 : Int32) (110 : Int32) (32 : Int32) h578 n0 (Nat.le_trans Z0 K578.1) wY vf vj vh vK vG kU uA kH uO uC uG uS jp um uo jr wa hcs) e578 pd_23 wY rfl rfl fun _ T579 Lc579 X579 hQ579 => ?_
 obtain ⟨b_579, k2_579, rfl, Nq579, Kq579, fq579_0, vf, vj, vh, kL, ku, fq579_6, zp⟩ := hQ579
 have N579 := Fr.app N577 Nq579
 have kS : a_D1 ≠ b_579 := Nat.ne_of_lt (Nat.lt_of_lt_of_le wv.lt fq579_6)
 have kQ : a_D2 ≠ b_579 := Nat.ne_of_lt (Nat.lt_of_lt_of_le wn.lt fq579_6)
 have vV : b573 ≠ b_579 := Nat.ne_of_lt (Nat.lt_of_lt_of_le wY.lt fq579_6)
 have zU := Nat.le_trans K578.1 fq579_6
 have wa := own_sta_keep wa Kq579 (allS wY.cell all0)
 have wg := own_sta_keep wg Kq579 (allS wY.cell all0)
 have wf := own_sta_keep wf Kq579 (allS wY.cell all0)
 have wx := wx.keep Kq579 (ninS ko nin0)
 have wv := wv.keep Kq579 (ninS vQ nin0)
 have wn := wn.keep Kq579 (ninS vO nin0)
 have hk := Nat.le_trans hk Kq579.1
 have wY := fq579_0
 have K579 := K578.trans Kq579 (allS (Or.inr kF) all0)
 refine Ends.v (oA X579 hy d3_29 30 rfl ?_)
 obtain ⟨T580, X580, e580, st580⟩ := getF X579 hx hZ hown (host := "") (Or.inl (tb hw 11 rfl)) Via.refl rfl wx (g := (mkF m 30 #[rv o0] [.ref o0, .ref b573])) rfl rfl (hb hby d3_30)
 refine Ends.step st580 ?_
 by_cases hs33_581 : (0 : Int32) < (((24 : Int32) + (fss vv)) - (34 : Int32))
 ·show Ends p e below QQ (T580.setTop (mkF m 33 #[rv o0] [.long vv, .ref b573]))
  refine cV X580 hy hml hown hZ hw d3_33 36 0 118 119 121 120 122 20 rfl rfl rfl rfl rfl rfl (rmsj241 l Z a0 hw [] b573 vv b_579 k2_579 cs a_D1 k_a_D1 a_D2 k_a_D2 (110 : Int32) (111 : Int32) (116 : Int32) (32 : Int32) (97 : Int32) (112 : Int32) (112 : Int32) (108 : Int32) (105 : Int32) (101 : Int32) (100 : Int32) (44 : Int32) (32 : Int32) (97 : Int32) (116 : Int32) (32 : Int32) (118 : Int32) (101 : Int32) (114 : Int32) (115 : Int32) (105 : Int32) (111 : Int32) (110 : Int32) (32 : Int32) T579.heap n0 (Nat.le_trans Z0 K579.1) wY vf vj vh ku kL kU zp vV wa hcs wv wg wn wf kS kQ vQ vO hs33_581) e580 pd_24 wY rfl rfl fun _ T582 Lc582 X582 hQ582 => ?_
  obtain ⟨b_582, k2_582, mm_582, rfl, Nq582, Kq582, fq582_0, g_b_582, fq582_2, vf, vj, vh, Ve, Vw, hmm⟩ := hQ582
  have N582 := Fr.app N579 Nq582
  have jM : b573 ≠ b_582 := Nat.ne_of_lt (Nat.lt_of_lt_of_le wY.lt fq582_0)
  have wa := own_sta_keep wa Kq582 (allS wY.cell all0)
  have hk := Nat.le_trans hk Kq582.1
  have wY := fq582_2
  have K582 := K579.trans Kq582 (allS (Or.inr kF) all0)
  refine Ends.v ?_
  refine cV X582 hy hml hown hZ hw d3_36 39 0 143 144 146 145 147 20 rfl rfl rfl rfl rfl rfl (rmtosN l Z a0 hw [] b573 b_582 k2_582 ((24 : Int32) + (fss vv)) cs (own_gf vv ((24 : Int32) + (fss vv)).toNatClampNeg mm_582 (own_lit [110, 111, 116, 32, 97, 112, 112, 108, 105, 101, 100, 44, 32, 97, 116, 32, 118, 101, 114, 115, 105, 111, 110, 32, 0, 0, 0, 0, 0, 0, 0, 0, 0, 0, 0, 0, 0, 0, 0, 0, 0, 0, 0, 0, 0, 0, 0, 0, 0, 0, 0, 0, 0, 0, 0, 0, 0, 0, 0, 0, 0, 0, 0, 0, 0, 0, 0, 0, 0, 0])) (70 : Int32) T582.heap n0 (Nat.le_trans Z0 K582.1) wY vf vj vh Ve Vw jM wa hcs (own_t0 (own_c24 vv)) (own_t44 (own_c24 vv)) (own_tG24 vv)) rfl pd_25 wY rfl rfl fun _ T583 Lc583 X583 hQ583 => ?_
  obtain ⟨x_583, b_583, k2_583, rfl, Nq583, Kq583, fq583_0, fq583_1, Wx, WD, WX, jW, uc, Vd, Vv, jl⟩ := hQ583
  have N583 := Fr.app N582 Nq583
  have zN := Nat.le_trans K582.1 fq583_0
  have zT := Nat.le_trans K582.1 fq583_1
  have hk := Nat.le_trans hk Kq583.1
  have K583 := K582.trans Kq583 all0
  refine Ends.v ?_
  exact Ends.finI (some (.ref x_583)) X583 hS hk hQQ (fun h => by rw [Bd.returns] at h; cases h) Bd.notSynchronized (fun _ hr => retOut X583 hx (t := (.object "java/lang/String")) Bd.returns rfl (Or.inr (Or.inr (Or.inr (Or.inr ⟨rfl, rfl, rfl⟩)))) (hb hby d3_39) hr) rfl (by decide) (by decide) ⟨x_583, b_583, k2_583, mm_582, (own_lit [110, 111, 116, 32, 97, 112, 112, 108, 105, 101, 100, 44, 32, 97, 116, 32, 118, 101, 114, 115, 105, 111, 110, 32, 0, 0, 0, 0, 0, 0, 0, 0, 0, 0, 0, 0, 0, 0, 0, 0, 0, 0, 0, 0, 0, 0, 0, 0, 0, 0, 0, 0, 0, 0, 0, 0, 0, 0, 0, 0, 0, 0, 0, 0, 0, 0, 0, 0, 0, 0]), rfl, N583, K583, zN, zT, Wx, WD, WX, jW, uc, Vd, Vv, jl, hmm, (by decide +kernel)⟩ (own_ibAt IBf X583.warmed.interned_eq)
 ·show Ends p e below QQ (T580.setTop (mkF m 33 #[rv o0] [.long vv, .ref b573]))
  obtain ⟨cq584, kq584, q584a, q584b, q584c⟩ := isOf hZ e580 wY
  obtain ⟨_, _, ⟨T584, L584, k584, n584⟩, -, X584, ⟨Lc584, hQ584, l584, y584, z584⟩, st584⟩ := X580.virtualBack hx (y := mN1) (z := mN1) hown (mvT hZ (tb hw 118 rfl)) (mvT hZ (tb hw 119 rfl)) (notFace_of_selects (args := #[]) (mvT hZ (tb hw 121 rfl))) (mvT hZ (tb hw 121 rfl)) (mvT hZ (tb hw 120 rfl)) (by decide) (backOf (W := 0) (rmsj240 l Z a0 hw [] b573 vv b_579 k2_579 cs a_D1 k_a_D1 a_D2 k_a_D2 (110 : Int32) (111 : Int32) (116 : Int32) (32 : Int32) (97 : Int32) (112 : Int32) (112 : Int32) (108 : Int32) (105 : Int32) (101 : Int32) (100 : Int32) (44 : Int32) (32 : Int32) (97 : Int32) (116 : Int32) (32 : Int32) (118 : Int32) (101 : Int32) (114 : Int32) (115 : Int32) (105 : Int32) (111 : Int32) (110 : Int32) (32 : Int32) T579.heap n0 (Nat.le_trans Z0 K579.1) wY vf vj vh ku kL kU zp vV wa hcs wv wg wn wf kS kQ vQ vO hs33_581) hZ (tb hw 122 rfl) (tb hw 20 rfl) (by decide) (by decide)) q584a q584c (g := (mkF m 33 #[rv o0] [.long vv, .ref b573])) rfl (by rw [hml]; rfl) (Steps.refl _) (argsL := [.long vv]) (rest := []) (lenOf pd_24 rfl) rfl (by show 2 * 0 + _ ≤ _; exact Nat.le_of_eq rfl) (hb hby d3_33) (fun _ _ => ⟨rfl, e580, (by decide : 7 + 0 ≤ _), (by decide : 158 + 0 ≤ _)⟩)
  dsimp only [Pt.U, Pt.locs, Pt.cells, Pt.slots] at X584 l584 y584 z584 st584 hQ584
  subst l584 y584 z584
  obtain ⟨mm_584, rfl, Nq584, Kq584, fq584_0, vf, vj, vh, fq584_4, kL, hmm⟩ := hQ584
  have N584 := Fr.app N579 Nq584
  have wa := own_sta_keep wa Kq584 (allS wY.cell (allS ku.cell all0))
  have hk := Nat.le_trans hk Kq584.1
  have wY := fq584_0
  have ku := fq584_4
  have K584 := K579.trans Kq584 (allS (Or.inr kF) (allS (Or.inr zU) all0))
  refine Ends.step (fun _ k => st584.trans k) ?_
  by_cases hs36_585 : ((24 : Int32) + (fss vv)) = (34 : Int32)
  ·show Ends p e below QQ (T584.setTop (mkF m 36 #[rv o0] [.ref b573]))
   refine cV X584 hy hml hown hZ hw d3_36 39 0 143 144 146 145 147 20 rfl rfl rfl rfl rfl rfl (rmtosC l Z a0 hw [] b573 b_579 k2_579 ((24 : Int32) + (fss vv)) cs (own_gf vv ((24 : Int32) + (fss vv)).toNatClampNeg mm_584 qL3) T584.heap n0 (Nat.le_trans Z0 K584.1) wY vf vj vh ku kL vV wa hcs hs36_585) rfl pd_25 wY rfl rfl fun _ T586 Lc586 X586 hQ586 => ?_
   obtain ⟨x_586, b_586, k2_586, rfl, Nq586, Kq586, fq586_0, fq586_1, Ww, WC, WW, jV, ub, Vc, Vu, jk⟩ := hQ586
   have N586 := Fr.app N584 Nq586
   have zM := Nat.le_trans K584.1 fq586_0
   have zS := Nat.le_trans K584.1 fq586_1
   have hk := Nat.le_trans hk Kq586.1
   have K586 := K584.trans Kq586 all0
   refine Ends.v ?_
   exact Ends.finI (some (.ref x_586)) X586 hS hk hQQ (fun h => by rw [Bd.returns] at h; cases h) Bd.notSynchronized (fun _ hr => retOut X586 hx (t := (.object "java/lang/String")) Bd.returns rfl (Or.inr (Or.inr (Or.inr (Or.inr ⟨rfl, rfl, rfl⟩)))) (hb hby d3_39) hr) rfl (by decide) (by decide) ⟨x_586, b_586, k2_586, mm_584, qL3, rfl, N586, K586, zM, zS, Ww, WC, WW, jV, ub, Vc, Vu, jk, hmm, (by decide +kernel)⟩ (own_ibAt IBf X586.warmed.interned_eq)
  ·show Ends p e below QQ (T584.setTop (mkF m 36 #[rv o0] [.ref b573]))
   refine cV X584 hy hml hown hZ hw d3_36 39 0 143 144 146 145 147 20 rfl rfl rfl rfl rfl rfl (rmtosN l Z a0 hw [] b573 b_579 k2_579 ((24 : Int32) + (fss vv)) cs (own_gf vv ((24 : Int32) + (fss vv)).toNatClampNeg mm_584 qL3) (34 : Int32) T584.heap n0 (Nat.le_trans Z0 K584.1) wY vf vj vh ku kL vV wa hcs (own_t0 (own_c24 vv)) (own_t44 (own_c24 vv)) (own_tN (own_c24 vv) hs33_581 hs36_585)) rfl pd_25 wY rfl rfl fun _ T587 Lc587 X587 hQ587 => ?_
   obtain ⟨x_587, b_587, k2_587, rfl, Nq587, Kq587, fq587_0, fq587_1, Wv, WB, WV, jU, ua, Vb, Vt, jj⟩ := hQ587
   have N587 := Fr.app N584 Nq587
   have zL := Nat.le_trans K584.1 fq587_0
   have zR := Nat.le_trans K584.1 fq587_1
   have hk := Nat.le_trans hk Kq587.1
   have K587 := K584.trans Kq587 all0
   refine Ends.v ?_
   exact Ends.finI (some (.ref x_587)) X587 hS hk hQQ (fun h => by rw [Bd.returns] at h; cases h) Bd.notSynchronized (fun _ hr => retOut X587 hx (t := (.object "java/lang/String")) Bd.returns rfl (Or.inr (Or.inr (Or.inr (Or.inr ⟨rfl, rfl, rfl⟩)))) (hb hby d3_39) hr) rfl (by decide) (by decide) ⟨x_587, b_587, k2_587, mm_584, qL3, rfl, N587, K587, zL, zR, Wv, WB, WV, jU, ua, Vb, Vt, jj, hmm, (by decide +kernel)⟩ (own_ibAt IBf X587.warmed.interned_eq)
theorem d40_0 : decode cD19 0 = .ok (.lload_n 0, 1) := by decide +kernel
theorem d40_1 : decode cD19 1 = .ok (.lconst 0, 1) := by decide +kernel
theorem d40_2 : decode cD19 2 = .ok (.lcmp, 1) := by decide +kernel
theorem d40_3 : decode cD19 3 = .ok (.ifCond .ge 8, 3) := by decide +kernel
theorem d40_6 : decode cD19 6 = .ok (.lload_n 0, 1) := by decide +kernel
theorem d40_7 : decode cD19 7 = .ok (.lneg, 1) := by decide +kernel
theorem d40_8 : decode cD19 8 = .ok (.goto 4, 3) := by decide +kernel
theorem d40_11 : decode cD19 11 = .ok (.lload_n 0, 1) := by decide +kernel
theorem d40_12 : decode cD19 12 = .ok (.lreturn, 1) := by decide +kernel
def fabs_v12_1 (q0 : Int64) : Int64 := (if q0 < (0 : Int64) then (-q0) else q0)
def fabs (q0 : Int64) : Int64 := (fabs_v12_1 q0)
def Qabs (Z : State) (q0 : Int64) (h0 : Heap) (n0 : Nat) : QT := fun v h L => (v = some (.long (fabs q0))) ∧ (Fr n0 L) ∧ (h = h0)
theorem rmabs (l : Launch) (Z : State) (a0 : Array Value) (hw : TW a0 Z) (ws : List Jvm.Cond) (q0 : Int64) (h0 : Heap) (n0 : Nat) (Z0 : n0 ≤ h0.size) :
  MF l mN36 jdk_29_method_61_code 2 (some .long) ws (rmm 0 0 0 0) #[.long q0] Z h0 (Qabs Z q0 h0 n0) := by
 refine MF.of (Jvm.Free.JP.mathPlain rfl (by decide +kernel)) ?_
 intro p e s m below meth c s₁ QQ hy hml hown hZ X0 e0 hrt hlk hnm hQQ
 have hx := hy.1
 have hby := hy.2
 have N0 := Fr.nil n0
 refine Ends.i #[jv q0, ss] (oE X0 hy d40_0 1 rfl (oJ X0 hy d40_1 2 0 rfl (oY X0 hy d40_2 3 ?_)))
 have J12_588 : (∀ (v12_1 : Int64) (hv12_1 : v12_1 = (if q0 < (0 : Int64) then (-q0) else q0)), Ends p e below QQ (s₁.setTop (mkF m 12 #[jv q0, ss] [.long v12_1]))) → Ends p e below QQ (s₁.setTop (mkF m 3 #[jv q0, ss] [(.int (XT.cmpL q0 (0 : Int64)))])) := by
  intro hJ
  by_cases hc3_589 : q0 < (0 : Int64)
  ·refine oxh X0 hy d40_3 6 (XT.ll_ge_f hc3_589) (oE X0 hy d40_6 7 rfl (oX X0 hy d40_7 8 ?_))
   refine Ends.step (fun _ k => XS.goto X0.here hx rfl (pc0 := 8) (pc' := 12) rfl (hb hby d40_8) (by decide) (by decide) k) ?_
   exact hJ _ (by simp only [if_pos hc3_589])
  ·refine oxk X0 hy d40_3 11 (XT.ll_ge_t hc3_589) ?_
   refine Ends.step (fun _ k => XT.lloadN X0.here hx rfl (hb hby d40_11) rfl k) ?_
   exact hJ _ (by simp only [if_neg hc3_589])
 refine J12_588 fun v12_1 hv12_1 => ?_
 have dv12_1 : fabs_v12_1 q0 = v12_1 := by
  simp only [fabs_v12_1]
  exact hv12_1.symm
 show Ends p e below QQ (s₁.setTop (mkF m 12 #[jv q0, ss] [.long v12_1]))
 exact fJ X0 hy hrt hlk hQQ d40_12 e0 (by decide) ⟨(by simp only [fabs, dv12_1]), N0, rfl⟩
theorem d33_0 : decode cD17 0 = .ok (.lload_n 0, 1) := by decide +kernel
theorem d33_1 : decode cD17 1 = .ok (.lload_n 2, 1) := by decide +kernel
theorem d33_2 : decode cD17 2 = .ok (.ldiv, 1) := by decide +kernel
theorem d33_3 : decode cD17 3 = .ok (.lconst 0, 1) := by decide +kernel
theorem d33_4 : decode cD17 4 = .ok (.lcmp, 1) := by decide +kernel
theorem d33_5 : decode cD17 5 = .ok (.ifCond .eq 7, 3) := by decide +kernel
theorem d33_8 : decode cD17 8 = .ok (.iconst 1, 1) := by decide +kernel
theorem d33_9 : decode cD17 9 = .ok (.goto 4, 3) := by decide +kernel
theorem d33_12 : decode cD17 12 = .ok (.iconst 0, 1) := by decide +kernel
theorem d33_13 : decode cD17 13 = .ok (.ireturn, 1) := by decide +kernel
def fnz_v13_1 (q0 q1 : Int64) : Int32 := (if (q0 / q1) = (0 : Int64) then (0 : Int32) else (1 : Int32))
def fnz (q0 q1 : Int64) : Int32 := (fnz_v13_1 q0 q1)
def Qnz (Z : State) (q0 q1 : Int64) (h0 : Heap) (n0 : Nat) : QT := fun v h L => (v = some (.int (fnz q0 q1))) ∧ (Fr n0 L) ∧ (h = h0)
theorem rmnz (l : Launch) (Z : State) (a0 : Array Value) (hw : TW a0 Z) (ws : List Jvm.Cond) (q0 q1 : Int64) (h0 : Heap) (n0 : Nat) (Z0 : n0 ≤ h0.size) (hq : q1 ≠ 0) :
  MF l mN37 method_3_code 4 (some .int) ws (rmm 0 0 0 0) #[.long q0, .long q1] Z h0 (Qnz Z q0 q1 h0 n0) := by
 refine MF.of (plainFor_of_name pn_9) ?_
 intro p e s m below meth c s₁ QQ hy hml hown hZ X0 e0 hrt hlk hnm hQQ
 have hx := hy.1
 have hby := hy.2
 have N0 := Fr.nil n0
 refine Ends.i #[jv q0, ss, jv q1, ss] (oE X0 hy d33_0 1 rfl (oE X0 hy d33_1 2 rfl (oW X0 hy d33_2 3 hq (oJ X0 hy d33_3 4 0 rfl (oY X0 hy d33_4 5 ?_)))))
 have J13_590 : (∀ (v13_1 : Int32) (hv13_1 : v13_1 = (if (q0 / q1) = (0 : Int64) then (0 : Int32) else (1 : Int32))), Ends p e below QQ (s₁.setTop (mkF m 13 #[jv q0, ss, jv q1, ss] [.int v13_1]))) → Ends p e below QQ (s₁.setTop (mkF m 5 #[jv q0, ss, jv q1, ss] [(.int (XT.cmpL (q0 / q1) (0 : Int64)))])) := by
  intro hJ
  by_cases hc5_591 : (q0 / q1) = (0 : Int64)
  ·refine oxk X0 hy d33_5 12 (XT.ll_eq_t hc5_591) ?_
   refine Ends.step (fun _ k => XT.iconstV X0.here hx rfl (0 : Int32) (hb hby d33_12) rfl k) ?_
   exact hJ _ (by simp only [if_pos hc5_591])
  ·refine oxh X0 hy d33_5 8 (XT.ll_eq_f hc5_591) (oG X0 hy d33_8 9 1 rfl ?_)
   refine Ends.step (fun _ k => XS.goto X0.here hx rfl (pc0 := 9) (pc' := 13) rfl (hb hby d33_9) (by decide) (by decide) k) ?_
   exact hJ _ (by simp only [if_neg hc5_591])
 refine J13_590 fun v13_1 hv13_1 => ?_
 have dv13_1 : fnz_v13_1 q0 q1 = v13_1 := by
  simp only [fnz_v13_1]
  exact hv13_1.symm
 show Ends p e below QQ (s₁.setTop (mkF m 13 #[jv q0, ss, jv q1, ss] [.int v13_1]))
 exact fI X0 hy hrt hlk hQQ d33_13 rfl (Or.inl rfl) e0 (by decide) ⟨(by simp only [fnz, dv13_1]), N0, rfl⟩
theorem d34_0 : decode cD1 0 = .ok (.aload_n 0, 1) := by decide +kernel
theorem d34_1 : decode cD1 1 = .ok (.invokevirtual 62, 3) := by decide +kernel
theorem d34_4 : decode cD1 4 = .ok (.istore 8, 2) := by decide +kernel
theorem d34_6 : decode cD1 6 = .ok (.iload 7, 2) := by decide +kernel
theorem d34_8 : decode cD1 8 = .ok (.iload 8, 2) := by decide +kernel
theorem d34_10 : decode cD1 10 = .ok (.if_icmp .lt 5, 3) := by decide +kernel
theorem d34_13 : decode cD1 13 = .ok (.iconst 1, 1) := by decide +kernel
theorem d34_14 : decode cD1 14 = .ok (.ireturn, 1) := by decide +kernel
theorem d34_15 : decode cD1 15 = .ok (.aload_n 0, 1) := by decide +kernel
theorem d34_16 : decode cD1 16 = .ok (.iload 8, 2) := by decide +kernel
theorem d34_18 : decode cD1 18 = .ok (.iconst 1, 1) := by decide +kernel
theorem d34_19 : decode cD1 19 = .ok (.isub, 1) := by decide +kernel
theorem d34_20 : decode cD1 20 = .ok (.iload 7, 2) := by decide +kernel
theorem d34_22 : decode cD1 22 = .ok (.isub, 1) := by decide +kernel
theorem d34_23 : decode cD1 23 = .ok (.invokevirtual 72, 3) := by decide +kernel
theorem d34_26 : decode cD1 26 = .ok (.istore 9, 2) := by decide +kernel
theorem d34_28 : decode cD1 28 = .ok (.iload 7, 2) := by decide +kernel
theorem d34_30 : decode cD1 30 = .ok (.iload 5, 2) := by decide +kernel
theorem d34_32 : decode cD1 32 = .ok (.if_icmp .ge 32, 3) := by decide +kernel
theorem d34_35 : decode cD1 35 = .ok (.lload_n 2, 1) := by decide +kernel
theorem d34_36 : decode cD1 36 = .ok (.aload 4, 2) := by decide +kernel
theorem d34_38 : decode cD1 38 = .ok (.iload 7, 2) := by decide +kernel
theorem d34_40 : decode cD1 40 = .ok (.laload, 1) := by decide +kernel
theorem d34_41 : decode cD1 41 = .ok (.ldiv, 1) := by decide +kernel
theorem d34_42 : decode cD1 42 = .ok (.ldc2_w 20, 3) := by decide +kernel
theorem d34_45 : decode cD1 45 = .ok (.lrem, 1) := by decide +kernel
theorem d34_46 : decode cD1 46 = .ok (.lstore 11, 2) := by decide +kernel
theorem d34_48 : decode cD1 48 = .ok (.ldc2_w 76, 3) := by decide +kernel
theorem d34_51 : decode cD1 51 = .ok (.lload 11, 2) := by decide +kernel
theorem d34_53 : decode cD1 53 = .ok (.invokestatic 78, 3) := by decide +kernel
theorem d34_56 : decode cD1 56 = .ok (.ladd, 1) := by decide +kernel
theorem d34_57 : decode cD1 57 = .ok (.l2i, 1) := by decide +kernel
theorem d34_58 : decode cD1 58 = .ok (.i2c, 1) := by decide +kernel
theorem d34_59 : decode cD1 59 = .ok (.istore 10, 2) := by decide +kernel
theorem d34_61 : decode cD1 61 = .ok (.goto 35, 3) := by decide +kernel
theorem d34_64 : decode cD1 64 = .ok (.iload 7, 2) := by decide +kernel
theorem d34_66 : decode cD1 66 = .ok (.iload 6, 2) := by decide +kernel
theorem d34_68 : decode cD1 68 = .ok (.if_icmp .ge 10, 3) := by decide +kernel
theorem d34_71 : decode cD1 71 = .ok (.bipush 45, 2) := by decide +kernel
theorem d34_73 : decode cD1 73 = .ok (.istore 10, 2) := by decide +kernel
theorem d34_75 : decode cD1 75 = .ok (.goto 21, 3) := by decide +kernel
theorem d34_78 : decode cD1 78 = .ok (.aload_n 1, 1) := by decide +kernel
theorem d34_79 : decode cD1 79 = .ok (.aload_n 1, 1) := by decide +kernel
theorem d34_80 : decode cD1 80 = .ok (.invokevirtual 62, 3) := by decide +kernel
theorem d34_83 : decode cD1 83 = .ok (.iconst 1, 1) := by decide +kernel
theorem d34_84 : decode cD1 84 = .ok (.isub, 1) := by decide +kernel
theorem d34_85 : decode cD1 85 = .ok (.iload 7, 2) := by decide +kernel
theorem d34_87 : decode cD1 87 = .ok (.iload 6, 2) := by decide +kernel
theorem d34_89 : decode cD1 89 = .ok (.isub, 1) := by decide +kernel
theorem d34_90 : decode cD1 90 = .ok (.isub, 1) := by decide +kernel
theorem d34_91 : decode cD1 91 = .ok (.invokevirtual 72, 3) := by decide +kernel
theorem d34_94 : decode cD1 94 = .ok (.istore 10, 2) := by decide +kernel
theorem d34_96 : decode cD1 96 = .ok (.iload 9, 2) := by decide +kernel
theorem d34_98 : decode cD1 98 = .ok (.iload 10, 2) := by decide +kernel
theorem d34_100 : decode cD1 100 = .ok (.if_icmp .ne 7, 3) := by decide +kernel
theorem d34_103 : decode cD1 103 = .ok (.iconst 1, 1) := by decide +kernel
theorem d34_104 : decode cD1 104 = .ok (.goto 4, 3) := by decide +kernel
theorem d34_108 : decode cD1 108 = .ok (.ireturn, 1) := by decide +kernel
def Qat (Z : State) (o0 o1 : Addr) (q2 : Int64) (o3 : Addr) (p4 p5 p6 : Int32) (t : Addr) (k : ClassId) (n : Int32) (g : Nat → Int32) (tp : Addr) (kp : ClassId) (np : Int32) (gp : Nat → Int32) (kw : ClassId) (cs : Int32) (sf : Value) (pk : Int64) (h0 : Heap) (n0 : Nat) : QT := fun v h L => (v = some (.int 1)) ∧ (Fr n0 L) ∧ (h = h0)
theorem rmat (l : Launch) (Z : State) (a0 : Array Value) (hw : TW a0 Z) (ws : List Jvm.Cond) (o0 o1 : Addr) (q2 : Int64) (o3 : Addr) (p4 p5 p6 : Int32) (t : Addr) (k : ClassId) (n : Int32) (g : Nat → Int32) (tp : Addr) (kp : ClassId) (np : Int32) (gp : Nat → Int32) (kw : ClassId) (cs : Int32) (sf : Value) (pk : Int64) (h0 : Heap) (n0 : Nat) (Z0 : n0 ≤ h0.size) (wo : eAQ Z h0 o0) (we : fBQ Z h0 o0 (.ref t)) (wd : fAQ Z h0 o0 (.int 0)) (A_t : Arv Z h0 t k .byte n (own_L n.toNatClampNeg g) (.int 0)) (vl : eAQ Z h0 o1) (wR : fBQ Z h0 o1 (.ref tp)) (wQ : fAQ Z h0 o1 (.int 0)) (VM : Arv Z h0 tp kp .byte np (own_L np.toNatClampNeg gp) (.int 0)) (VO : Arv Z h0 o3 kw .long 19 [.long 1, .long 10, .long 100, .long 1000, .long 10000, .long 100000, .long 1000000, .long 10000000, .long 100000000, .long 1000000000, .long 10000000000, .long 100000000000, .long 1000000000000, .long 10000000000000, .long 100000000000000, .long 1000000000000000, .long 10000000000000000, .long 100000000000000000, .long 1000000000000000000] (.long 0)) (wa : sJQ Z h0 (.int cs)) (hcs : ¬ cs = (0 : Int32)) (wb : sKQ Z h0 sf) (wM : sf.isRef = true) (hkb : 0 ≤ p6.toInt ∧ p6.toInt ≤ 43) (hnb : 0 < n.toInt ∧ n.toInt ≤ 100) (hnn : n.toInt = np.toInt + p5.toInt ∧ 0 ≤ p5.toInt ∧ 0 < np.toInt ∧ np.toInt ≤ 100 ∧ p4.toInt ≤ 19 ∧ p4.toInt ≤ p5.toInt) (hpk : p6.toInt < 19 → ([.long 1, .long 10, .long 100, .long 1000, .long 10000, .long 100000, .long 1000000, .long 10000000, .long 100000000, .long 1000000000, .long 10000000000, .long 100000000000, .long 1000000000000, .long 10000000000000, .long 100000000000000, .long 1000000000000000, .long 10000000000000000, .long 100000000000000000, .long 1000000000000000000] : List Value).getD p6.toNatClampNeg (.long 0) = .long pk) (hpz : pk ≠ 0) (ok1 : p6 < n → p6 < p4 → ((g ((n - (1 : Int32)) - p6).toNatClampNeg) &&& (255 : Int32)) = ((48 : Int64) + (fabs ((q2 / pk) % (10 : Int64)))).toInt32.toUInt32.toUInt16.toUInt32.toInt32) (ok2 : p6 < n → ¬ p6 < p4 → p6 < p5 → ((g ((n - (1 : Int32)) - p6).toNatClampNeg) &&& (255 : Int32)) = (45 : Int32)) (ok3 : p6 < n → ¬ p6 < p4 → ¬ p6 < p5 → ((g ((n - (1 : Int32)) - p6).toNatClampNeg) &&& (255 : Int32)) = ((gp ((np - (1 : Int32)) - (p6 - p5)).toNatClampNeg) &&& (255 : Int32))) :
  MF l mN38 method_4_code 13 (some .boolean) ws (rmm 4 0 0 53) #[.ref o0, .ref o1, .long q2, .ref o3, .int p4, .int p5, .int p6] Z h0 (Qat Z o0 o1 q2 o3 p4 p5 p6 t k n g tp kp np gp kw cs sf pk h0 n0) := by
 refine MF.of (plainFor_of_name pn_9) ?_
 intro p e s m below meth c s₁ QQ hy hml hown hZ X0 e0 hrt hlk hnm hQQ
 have N0 := Fr.nil n0
 refine Ends.i #[rv o0, rv o1, jv q2, ss, rv o3, iv p4, iv p5, iv p6, uu, uu, uu, uu, uu] (oA X0 hy d34_0 1 rfl ?_)
 refine cV X0 hy hml hown hZ hw d34_1 4 0 204 55 57 56 58 32 rfl rfl rfl rfl rfl rfl (rmlen l Z a0 hw [] o0 t k n (own_L n.toNatClampNeg g) cs h0 n0 Z0 wo we A_t wa hcs wd) e0 pd_8 wo rfl rfl fun _ T592 Lc592 X592 hQ592 => ?_
 obtain ⟨rfl, Nq592, hh592⟩ := hQ592
 have N592 := Fr.app N0 Nq592
 refine Ends.v (oxo X592 hy d34_4 6 #[rv o0, rv o1, jv q2, ss, rv o3, iv p4, iv p5, iv p6, iv n, uu, uu, uu, uu] rfl (oD X592 hy d34_6 8 rfl (oD X592 hy d34_8 10 rfl ?_)))
 by_cases hc10_593 : p6 < n
 ·refine oxl X592 hy d34_10 15 (XT.ii_lt_t hc10_593) (oA X592 hy d34_15 16 rfl (oD X592 hy d34_16 18 rfl (oG X592 hy d34_18 19 1 rfl (oL X592 hy d34_19 20 (oD X592 hy d34_20 22 rfl (oL X592 hy d34_22 23 ?_))))))
  refine cV X592 hy hml hown hZ hw d34_23 26 0 208 209 211 210 212 32 rfl rfl rfl rfl rfl rfl (rmcha l Z a0 hw [] o0 ((n - (1 : Int32)) - p6) t k n (own_L n.toNatClampNeg g) (g ((n - (1 : Int32)) - p6).toNatClampNeg) cs sf h0 n0 Z0 wo we A_t wa hcs wd wb wM (own_ix1 hkb hnb hc10_593).1 (own_ix1 hkb hnb hc10_593).2 (own_Lg (own_ltn (own_ix1 hkb hnb hc10_593)))) hh592 pd_26 wo rfl rfl fun _ T594 Lc594 X594 hQ594 => ?_
  obtain ⟨rfl, Nq594, hh594⟩ := hQ594
  have N594 := Fr.app N592 Nq594
  refine Ends.v (oxo X594 hy d34_26 28 #[rv o0, rv o1, jv q2, ss, rv o3, iv p4, iv p5, iv p6, iv n, iv ((g ((n - (1 : Int32)) - p6).toNatClampNeg) &&& (255 : Int32)), uu, uu, uu] rfl (oD X594 hy d34_28 30 rfl (oD X594 hy d34_30 32 rfl ?_)))
  by_cases hc32_595 : p6 < p4
  ·refine oxi X594 hy d34_32 35 (XT.ii_ge_f hc32_595) (oE X594 hy d34_35 36 rfl (oB X594 hy d34_36 38 rfl (oD X594 hy d34_38 40 rfl (aLJ X594 hy hZ hh594 VO d34_40 41 (.long pk) (own_pin hkb hnn hc32_595).1 (hpk (own_pin hkb hnn hc32_595).2) (oW X594 hy d34_41 42 hpz (oJ2 X594 hy hown hZ hw d34_42 45 10 182 rfl (lremO X594 hy d34_45 46 (by decide) (oxq X594 hy d34_46 48 #[rv o0, rv o1, jv q2, ss, rv o3, iv p4, iv p5, iv p6, iv n, iv ((g ((n - (1 : Int32)) - p6).toNatClampNeg) &&& (255 : Int32)), uu, jv ((q2 / pk) % (10 : Int64)), ss] rfl (oJ2 X594 hy hown hZ hw d34_48 51 48 230 rfl ?_)))))))))
   refine oF X594 hy d34_51 53 rfl ?_
   refine cS X594 hy hml hown hZ hw d34_53 56 2 231 232 106 233 rfl rfl rfl rfl (rmabs l Z a0 hw [] ((q2 / pk) % (10 : Int64)) h0 n0 Z0) hh594 pd_27 rfl rfl fun _ T597 Lc597 X597 hQ597 => ?_
   obtain ⟨rfl, Nq597, hh597⟩ := hQ597
   have N597 := Fr.app N594 Nq597
   refine Ends.v (oS X597 hy d34_56 57 (oZ X597 hy d34_57 58 (oxc X597 hy d34_58 59 (oxo X597 hy d34_59 61 #[rv o0, rv o1, jv q2, ss, rv o3, iv p4, iv p5, iv p6, iv n, iv ((g ((n - (1 : Int32)) - p6).toNatClampNeg) &&& (255 : Int32)), iv ((48 : Int64) + (fabs ((q2 / pk) % (10 : Int64)))).toInt32.toUInt32.toUInt16.toUInt32.toInt32, jv ((q2 / pk) % (10 : Int64)), ss] rfl (oxm X597 hy d34_61 96 (oD X597 hy d34_96 98 rfl (oD X597 hy d34_98 100 rfl ?_)))))))
   have hc100 : ((g ((n - (1 : Int32)) - p6).toNatClampNeg) &&& (255 : Int32)) = ((48 : Int64) + (fabs ((q2 / pk) % (10 : Int64)))).toInt32.toUInt32.toUInt16.toUInt32.toInt32 := (ok1 hc10_593 hc32_595)
   refine oxi X597 hy d34_100 103 (XT.ii_ne_f hc100) (oG X597 hy d34_103 104 1 rfl (oxm X597 hy d34_104 108 ?_))
   exact fI X597 hy hrt hlk hQQ d34_108 rfl (by simp) hh597 (by decide) ⟨rfl, N597, rfl⟩
  ·refine oxl X594 hy d34_32 64 (XT.ii_ge_t hc32_595) (oD X594 hy d34_64 66 rfl (oD X594 hy d34_66 68 rfl ?_))
   by_cases hc68_598 : p6 < p5
   ·refine oxi X594 hy d34_68 71 (XT.ii_ge_f hc68_598) (oH X594 hy d34_71 73 45 rfl (oxo X594 hy d34_73 75 #[rv o0, rv o1, jv q2, ss, rv o3, iv p4, iv p5, iv p6, iv n, iv ((g ((n - (1 : Int32)) - p6).toNatClampNeg) &&& (255 : Int32)), iv 45, uu, uu] rfl (oxm X594 hy d34_75 96 (oD X594 hy d34_96 98 rfl (oD X594 hy d34_98 100 rfl ?_)))))
    have hc100 : ((g ((n - (1 : Int32)) - p6).toNatClampNeg) &&& (255 : Int32)) = (45 : Int32) := (ok2 hc10_593 hc32_595 hc68_598)
    refine oxi X594 hy d34_100 103 (XT.ii_ne_f hc100) (oG X594 hy d34_103 104 1 rfl (oxm X594 hy d34_104 108 ?_))
    exact fI X594 hy hrt hlk hQQ d34_108 rfl (by simp) hh594 (by decide) ⟨rfl, N594, rfl⟩
   ·refine oxl X594 hy d34_68 78 (XT.ii_ge_t hc68_598) (oA X594 hy d34_78 79 rfl (oA X594 hy d34_79 80 rfl ?_))
    refine cV X594 hy hml hown hZ hw d34_80 83 1 204 55 57 56 58 32 rfl rfl rfl rfl rfl rfl (rmlen l Z a0 hw [] o1 tp kp np (own_L np.toNatClampNeg gp) cs h0 n0 Z0 vl wR VM wa hcs wQ) hh594 pd_8 vl rfl rfl fun _ T599 Lc599 X599 hQ599 => ?_
    obtain ⟨rfl, Nq599, hh599⟩ := hQ599
    have N599 := Fr.app N594 Nq599
    refine Ends.v (oG X599 hy d34_83 84 1 rfl (oL X599 hy d34_84 85 (oD X599 hy d34_85 87 rfl (oD X599 hy d34_87 89 rfl (oL X599 hy d34_89 90 (oL X599 hy d34_90 91 ?_))))))
    refine cV X599 hy hml hown hZ hw d34_91 94 0 208 209 211 210 212 32 rfl rfl rfl rfl rfl rfl (rmcha l Z a0 hw [] o1 ((np - (1 : Int32)) - (p6 - p5)) tp kp np (own_L np.toNatClampNeg gp) (gp ((np - (1 : Int32)) - (p6 - p5)).toNatClampNeg) cs sf h0 n0 Z0 vl wR VM wa hcs wQ wb wM (own_ix2 hkb hnn hc10_593 hc68_598).1 (own_ix2 hkb hnn hc10_593 hc68_598).2 (own_Lg (own_ltn (own_ix2 hkb hnn hc10_593 hc68_598)))) hh599 pd_26 vl rfl rfl fun _ T600 Lc600 X600 hQ600 => ?_
    obtain ⟨rfl, Nq600, hh600⟩ := hQ600
    have N600 := Fr.app N599 Nq600
    refine Ends.v (oxo X600 hy d34_94 96 #[rv o0, rv o1, jv q2, ss, rv o3, iv p4, iv p5, iv p6, iv n, iv ((g ((n - (1 : Int32)) - p6).toNatClampNeg) &&& (255 : Int32)), iv ((gp ((np - (1 : Int32)) - (p6 - p5)).toNatClampNeg) &&& (255 : Int32)), uu, uu] rfl (oD X600 hy d34_96 98 rfl (oD X600 hy d34_98 100 rfl ?_)))
    have hc100 : ((g ((n - (1 : Int32)) - p6).toNatClampNeg) &&& (255 : Int32)) = ((gp ((np - (1 : Int32)) - (p6 - p5)).toNatClampNeg) &&& (255 : Int32)) := (ok3 hc10_593 hc32_595 hc68_598)
    refine oxi X600 hy d34_100 103 (XT.ii_ne_f hc100) (oG X600 hy d34_103 104 1 rfl (oxm X600 hy d34_104 108 ?_))
    exact fI X600 hy hrt hlk hQQ d34_108 rfl (by simp) hh600 (by decide) ⟨rfl, N600, rfl⟩
 ·refine oxi X592 hy d34_10 13 (XT.ii_lt_f hc10_593) (oG X592 hy d34_13 14 1 rfl ?_)
  exact fI X592 hy hrt hlk hQQ d34_14 rfl (by simp) hh592 (by decide) ⟨rfl, N592, rfl⟩
theorem own_mono {a b : Nat} (h : a ≤ b) : (10 : Int) ^ a ≤ 10 ^ b := by
  have := Nat.pow_le_pow_right (n := 10) (by decide) h
  exact_mod_cast this
theorem own_dv {q P : Int64} {p : Int} (hP : P.toInt = p) (h1 : P ≠ -1) : (0 ≤ q.toInt → (q / P).toInt = own_M q / p) ∧ (q.toInt < 0 → (q / P).toInt = -(own_M q / p)) := by
  have d := c_ldiv q P p hP h1
  unfold own_M
  constructor
  · intro h
    rw [if_neg (by omega)]; exact d.1 h
  · intro h
    rw [if_pos h]; exact d.2 h
theorem own_fy {q P : Int64} {mm k : Nat} (h : own_isnd (own_M q) mm) (hP : P.toInt = (10 : Int) ^ k) (h1 : P ≠ -1) (hk1 : 1 ≤ k) : (k < mm → (fnz q P).toInt = 1) ∧ (mm ≤ k → (fnz q P).toInt = 0) := by
  obtain ⟨g1, g2, g3, g4⟩ := h
  have m0 := (own_M0 q).1
  have d := own_dv (q := q) hP h1
  have e0 : (0 : Int64).toInt = 0 := by decide
  have n0 : 0 ≤ own_M q / 10 ^ k := own_N0 q k
  unfold fnz fnz_v13_1
  have key : (q / P = (0 : Int64)) ↔ own_M q / 10 ^ k = 0 := by
    rw [← Int64.toInt_inj, e0]
    rcases Int.lt_or_le q.toInt 0 with z | z
    · rw [d.2 z]; omega
    · rw [d.1 z]
  constructor
  · intro hk
    have : 1 ≤ own_M q / 10 ^ (mm - 1) := g4.resolve_left (by omega)
    have a1 := own_ge10 rfl this
    have a2 := own_mono (show k ≤ mm - 1 by omega)
    have a3 : 1 ≤ own_M q / 10 ^ k := (Int.le_ediv_iff_mul_le (own_pow0 k)).mpr (by omega)
    rw [if_neg (fun z => by have := key.mp z; omega)]
    decide
  · intro hk
    have a1 := own_lt10 rfl m0 g3
    have a2 := own_mono hk
    rw [if_pos (key.mpr (Int.ediv_eq_zero_of_lt m0 (by omega)))]
    decide
theorem own_sst {a y : Int32} {k mm : Nat} (hk : k ≤ 19) (ha : (k ≤ mm → a.toInt = k) ∧ (mm < k → a.toInt = mm)) (hy : (k < mm → y.toInt = 1) ∧ (mm ≤ k → y.toInt = 0)) : (k + 1 ≤ mm → (a + y).toInt = ((k + 1 : Nat) : Int)) ∧ (mm < k + 1 → (a + y).toInt = mm) := by
  have c := c_iadd a y
  have b1 := Int32.toInt_lt (a + y)
  have b2 := Int32.le_toInt (a + y)
  rcases Nat.lt_or_ge k mm with z | z
  · have p1 := ha.1 (by omega)
    have p2 := hy.1 z
    exact ⟨fun _ => by push_cast; omega, fun w => by omega⟩
  · have p2 := hy.2 z
    rcases Nat.lt_or_ge mm k with w | w
    · have p1 := ha.2 w
      exact ⟨fun _ => by omega, fun _ => by omega⟩
    · have p1 := ha.1 w
      exact ⟨fun _ => by omega, fun _ => by omega⟩
theorem own_ds {q : Int64} {mm : Nat} {x8 v9 x9 x10 c : Int32} {cc : Nat} (hm : own_isnd (own_M q) mm) (h8 : x8.toInt = (mm : Int)) (hv : v9 = if q < (0 : Int64) then (1 : Int32) else (0 : Int32)) (h9 : (x8 + v9) = x9) (h10 : (c + x9) = x10) (hc : c.toInt = (cc : Int)) (hc0 : 0 < cc) (hc1 : cc ≤ 50) :
    x8.toInt = (mm : Int) ∧ x9.toInt = (mm : Int) + (if q.toInt < 0 then 1 else 0) ∧ (c + (fss q)) = x10 ∧ (0 < (c + (fss q)).toInt ∧ (c + (fss q)).toInt ≤ 100) ∧ ((c + (fss q)).toInt = c.toInt + x9.toInt ∧ 0 ≤ x9.toInt ∧ 0 < c.toInt ∧ c.toInt ≤ 100 ∧ x8.toInt ≤ 19 ∧ x8.toInt ≤ x9.toInt) := by
  have f := own_fssm hm
  obtain ⟨g1, g2, -⟩ := hm
  have e1 : (1 : Int32).toInt = 1 := by decide
  have e0 : (0 : Int32).toInt = 0 := by decide
  have hs : v9.toInt = (if q.toInt < 0 then 1 else 0) ∧ 0 ≤ (if q.toInt < 0 then (1 : Int) else 0) ∧ (if q.toInt < 0 then (1 : Int) else 0) ≤ 1 := by
    rw [hv]
    by_cases z : q < (0 : Int64)
    · rw [if_pos z, if_pos (own_hiN z).2]; exact ⟨e1, by decide, by decide⟩
    · rw [if_neg z, if_neg (own_hiP z).2]; exact ⟨e0, by decide, by decide⟩
  generalize (if q.toInt < 0 then (1 : Int) else 0) = sg at f hs ⊢
  have c1 := c_iadd x8 v9
  rw [h9] at c1
  have b1 := Int32.toInt_lt x9
  have b2 := Int32.le_toInt x9
  have e9 : x9.toInt = mm + sg := by omega
  have ef : fss q = x9 := Int32.toInt_inj.mp (by omega)
  rw [ef, h10]
  have c2 := c_iadd c x9
  rw [h10] at c2
  have b3 := Int32.toInt_lt x10
  have b4 := Int32.le_toInt x10
  exact ⟨h8, e9, rfl, by omega, by omega⟩
theorem own_gfx {q : Int64} {mm k : Nat} {nn k6 : Int32} {ll : Nat → Int32} (hk : k6.toInt = (k : Int)) (hk2 : k ≤ 43) (hn : 0 < nn.toInt ∧ nn.toInt ≤ 100) (h : k6 < nn) : own_gf q nn.toNatClampNeg mm ll ((nn - (1 : Int32)) - k6).toNatClampNeg = if q.toInt < 0 ∧ k = mm then (45 : Int32) else if k < mm then own_dg (own_M q / 10 ^ k) else ll ((nn - (1 : Int32)) - k6).toNatClampNeg := by
  have v := own_ixv (n := nn) (k := k6) (by omega) hn
  rw [Int32.lt_iff_toInt_lt] at h
  have e : ((nn - (1 : Int32)) - k6).toNatClampNeg + k + 1 = nn.toNatClampNeg := by
    simp only [Int32.toNatClampNeg]; omega
  generalize ((nn - (1 : Int32)) - k6).toNatClampNeg = i at e ⊢
  generalize nn.toNatClampNeg = p at e ⊢
  unfold own_gf own_w
  by_cases z : q.toInt < 0 ∧ k = mm
  · rw [if_pos z, if_pos ⟨z.1, by omega⟩]
  · rw [if_neg z, if_neg (fun w => z ⟨w.1, by omega⟩)]
    by_cases y : k < mm
    · rw [if_pos y, if_pos (by omega), show p - 1 - i = k by omega]
    · rw [if_neg y, if_neg (by omega)]
theorem own_dge {q pk : Int64} {k : Nat} (hp : pk.toInt = (10 : Int) ^ k) (h1 : pk ≠ -1) : own_dg (own_M q / 10 ^ k) = ((48 : Int64) + (fabs ((q / pk) % (10 : Int64)))).toInt32.toUInt32.toUInt16.toUInt32.toInt32 := by
  have d := own_dv (q := q) hp h1
  have n0 := own_N0 q k
  have e10 : (10 : Int64).toInt = 10 := by decide
  have e48 : (48 : Int64).toInt = 48 := by decide
  have e0 : (0 : Int64).toInt = 0 := by decide
  apply Int32.toInt_inj.mp
  rw [own_dgi]
  generalize own_M q / 10 ^ k = N at d n0 ⊢
  generalize (q / pk) = y at d ⊢
  have r := c_lrem y (10 : Int64) 10 e10
  rw [lrem_mod] at r
  generalize y % (10 : Int64) = u at r ⊢
  have ha : (fabs u).toInt = N % 10 := by
    unfold fabs fabs_v12_1
    have cn := c_lneg u
    have b1 := Int64.toInt_lt (-u)
    have b2 := Int64.le_toInt (-u)
    rcases Int.lt_or_le q.toInt 0 with z | z
    · have dy := d.2 z
      rcases Int.lt_or_le y.toInt 0 with w | w
      · have ru := r.2 w
        by_cases t : u < (0 : Int64)
        · rw [if_pos t]; omega
        · rw [if_neg t]
          rw [Int64.lt_iff_toInt_lt, e0] at t
          omega
      · have ru := r.1 w
        by_cases t : u < (0 : Int64)
        · rw [if_pos t]
          rw [Int64.lt_iff_toInt_lt, e0] at t
          omega
        · rw [if_neg t]; omega
    · have dy := d.1 z
      have ru := r.1 (by omega)
      by_cases t : u < (0 : Int64)
      · rw [if_pos t]
        rw [Int64.lt_iff_toInt_lt, e0] at t
        omega
      · rw [if_neg t]; omega
  generalize fabs u = w at ha ⊢
  have s := c_ladd (48 : Int64) w
  rw [e48] at s
  generalize (48 : Int64) + w = t at s ⊢
  have t0 := Int64.toInt_lt t
  have t1 := Int64.le_toInt t
  have l := c_l2i t
  generalize t.toInt32 = i at l ⊢
  have i0 := Int32.toInt_lt i
  have i1 := Int32.le_toInt i
  have c := c_i2c i
  omega
theorem own_ok1 {q pk : Int64} {mm k : Nat} {nn np nd d k6 x10 : Int32} {ll : Nat → Int32} (hm : own_isnd (own_M q) mm) (hB : nd.toInt = (mm : Int) ∧ d.toInt = (mm : Int) + (if q.toInt < 0 then 1 else 0) ∧ nn = x10 ∧ (0 < nn.toInt ∧ nn.toInt ≤ 100) ∧ (nn.toInt = np.toInt + d.toInt ∧ 0 ≤ d.toInt ∧ 0 < np.toInt ∧ np.toInt ≤ 100 ∧ nd.toInt ≤ 19 ∧ nd.toInt ≤ d.toInt)) (hk : k6.toInt = (k : Int)) (hp : pk.toInt = (10 : Int) ^ k) (h1 : pk ≠ -1) :
    k6 < nn → k6 < nd → ((own_gf q nn.toNatClampNeg mm ll ((nn - (1 : Int32)) - k6).toNatClampNeg) &&& (255 : Int32)) = ((48 : Int64) + (fabs ((q / pk) % (10 : Int64)))).toInt32.toUInt32.toUInt16.toUInt32.toInt32 := by
  intro a b
  rw [Int32.lt_iff_toInt_lt] at b
  rw [own_gfx hk (by omega) hB.2.2.2.1 a, if_neg (fun z => by omega), if_pos (by omega), own_dm, own_dge hp h1]
theorem own_ok0 {q : Int64} {mm : Nat} {nn np nd d k6 x10 : Int32} {A : Prop} (hB : nd.toInt = (mm : Int) ∧ d.toInt = (mm : Int) + (if q.toInt < 0 then 1 else 0) ∧ nn = x10 ∧ (0 < nn.toInt ∧ nn.toInt ≤ 100) ∧ (nn.toInt = np.toInt + d.toInt ∧ 0 ≤ d.toInt ∧ 0 < np.toInt ∧ np.toInt ≤ 100 ∧ nd.toInt ≤ 19 ∧ nd.toInt ≤ d.toInt)) (hk : 19 ≤ k6.toInt) : k6 < nn → k6 < nd → A := by
  intro a b
  rw [Int32.lt_iff_toInt_lt] at b
  exact absurd b (by omega)
theorem own_ok2 {q : Int64} {mm k : Nat} {nn np nd d k6 x10 : Int32} {ll : Nat → Int32} (hm : own_isnd (own_M q) mm) (hB : nd.toInt = (mm : Int) ∧ d.toInt = (mm : Int) + (if q.toInt < 0 then 1 else 0) ∧ nn = x10 ∧ (0 < nn.toInt ∧ nn.toInt ≤ 100) ∧ (nn.toInt = np.toInt + d.toInt ∧ 0 ≤ d.toInt ∧ 0 < np.toInt ∧ np.toInt ≤ 100 ∧ nd.toInt ≤ 19 ∧ nd.toInt ≤ d.toInt)) (hk : k6.toInt = (k : Int)) :
    k6 < nn → ¬ k6 < nd → k6 < d → ((own_gf q nn.toNatClampNeg mm ll ((nn - (1 : Int32)) - k6).toNatClampNeg) &&& (255 : Int32)) = (45 : Int32) := by
  intro a b c
  rw [Int32.lt_iff_toInt_lt] at b c
  by_cases z : q.toInt < 0
  · rw [if_pos z] at hB
    rw [own_gfx hk (by obtain ⟨_, g, _⟩ := hm; omega) hB.2.2.2.1 a, if_pos ⟨z, by omega⟩]
    decide
  · rw [if_neg z] at hB
    exact absurd c (by omega)
theorem own_ok3 {q : Int64} {mm k cc : Nat} {nn np nd d k6 x10 : Int32} {ll gp : Nat → Int32} (hm : own_isnd (own_M q) mm) (hl : ∀ i : Nat, i < cc → ll i = gp i) (hB : nd.toInt = (mm : Int) ∧ d.toInt = (mm : Int) + (if q.toInt < 0 then 1 else 0) ∧ nn = x10 ∧ (0 < nn.toInt ∧ nn.toInt ≤ 100) ∧ (nn.toInt = np.toInt + d.toInt ∧ 0 ≤ d.toInt ∧ 0 < np.toInt ∧ np.toInt ≤ 100 ∧ nd.toInt ≤ 19 ∧ nd.toInt ≤ d.toInt)) (hk : k6.toInt = (k : Int)) (hk2 : k ≤ 43) (hcc : np.toInt = (cc : Int)) :
    k6 < nn → ¬ k6 < nd → ¬ k6 < d → ((own_gf q nn.toNatClampNeg mm ll ((nn - (1 : Int32)) - k6).toNatClampNeg) &&& (255 : Int32)) = ((gp ((np - (1 : Int32)) - (k6 - d)).toNatClampNeg) &&& (255 : Int32)) := by
  intro a b c
  have a' := a
  rw [Int32.lt_iff_toInt_lt] at a' b c
  have v1 := own_ixv (n := nn) (k := k6) (by omega) hB.2.2.2.1
  have v2 := own_ipv (np := np) (d := d) (k := k6) (by omega) (by omega) (by omega) (by omega)
  have e : ((np - (1 : Int32)) - (k6 - d)).toNatClampNeg = ((nn - (1 : Int32)) - k6).toNatClampNeg := by
    simp only [Int32.toNatClampNeg]; omega
  have hi : ((nn - (1 : Int32)) - k6).toNatClampNeg < cc := by
    simp only [Int32.toNatClampNeg]; omega
  have ne : ¬ (q.toInt < 0 ∧ k = mm) := fun z => by
    rw [if_pos z.1] at hB
    omega
  have ne2 : ¬ k < mm := by omega
  rw [own_gfx hk hk2 hB.2.2.2.1 a, if_neg ne, if_neg ne2, e, hl _ hi]
theorem own_nds20 {q : Int64} {mm : Nat} {x8 v9 x9 x10 : Int32} (hm : own_isnd (own_M q) mm) (h8 : (((((((((((((((((((1 : Int32) + (fnz q (10 : Int64))) + (fnz q (100 : Int64))) + (fnz q (1000 : Int64))) + (fnz q (10000 : Int64))) + (fnz q (100000 : Int64))) + (fnz q (1000000 : Int64))) + (fnz q (10000000 : Int64))) + (fnz q (100000000 : Int64))) + (fnz q (1000000000 : Int64))) + (fnz q (10000000000 : Int64))) + (fnz q (100000000000 : Int64))) + (fnz q (1000000000000 : Int64))) + (fnz q (10000000000000 : Int64))) + (fnz q (100000000000000 : Int64))) + (fnz q (1000000000000000 : Int64))) + (fnz q (10000000000000000 : Int64))) + (fnz q (100000000000000000 : Int64))) + (fnz q (1000000000000000000 : Int64))) = x8) (hv : v9 = if q < (0 : Int64) then (1 : Int32) else (0 : Int32)) (h9 : (x8 + v9) = x9) (h10 : ((20 : Int32) + x9) = x10) :
    x8.toInt = (mm : Int) ∧ x9.toInt = (mm : Int) + (if q.toInt < 0 then 1 else 0) ∧ ((20 : Int32) + (fss q)) = x10 ∧ (0 < ((20 : Int32) + (fss q)).toInt ∧ ((20 : Int32) + (fss q)).toInt ≤ 100) ∧ (((20 : Int32) + (fss q)).toInt = (20 : Int32).toInt + x9.toInt ∧ 0 ≤ x9.toInt ∧ 0 < (20 : Int32).toInt ∧ (20 : Int32).toInt ≤ 100 ∧ x8.toInt ≤ 19 ∧ x8.toInt ≤ x9.toInt) := by
  refine own_ds (cc := 20) hm ?_ hv h9 h10 (by decide) (by decide) (by decide)
  have e1 : (1 : Int32).toInt = 1 := by decide
  have g1 := hm.1
  have g2 := hm.2.1
  have s0 : (1 ≤ mm → (1 : Int32).toInt = ((1 : Nat) : Int)) ∧ (mm < 1 → (1 : Int32).toInt = mm) := ⟨fun _ => e1, fun z => by omega⟩
  have s1 := own_sst (k := 1) (by decide) s0 (own_fy (P := (10 : Int64)) (k := 1) hm (by decide) (by decide) (by decide))
  have s2 := own_sst (k := 2) (by decide) s1 (own_fy (P := (100 : Int64)) (k := 2) hm (by decide) (by decide) (by decide))
  have s3 := own_sst (k := 3) (by decide) s2 (own_fy (P := (1000 : Int64)) (k := 3) hm (by decide) (by decide) (by decide))
  have s4 := own_sst (k := 4) (by decide) s3 (own_fy (P := (10000 : Int64)) (k := 4) hm (by decide) (by decide) (by decide))
  have s5 := own_sst (k := 5) (by decide) s4 (own_fy (P := (100000 : Int64)) (k := 5) hm (by decide) (by decide) (by decide))
  have s6 := own_sst (k := 6) (by decide) s5 (own_fy (P := (1000000 : Int64)) (k := 6) hm (by decide) (by decide) (by decide))
  have s7 := own_sst (k := 7) (by decide) s6 (own_fy (P := (10000000 : Int64)) (k := 7) hm (by decide) (by decide) (by decide))
  have s8 := own_sst (k := 8) (by decide) s7 (own_fy (P := (100000000 : Int64)) (k := 8) hm (by decide) (by decide) (by decide))
  have s9 := own_sst (k := 9) (by decide) s8 (own_fy (P := (1000000000 : Int64)) (k := 9) hm (by decide) (by decide) (by decide))
  have s10 := own_sst (k := 10) (by decide) s9 (own_fy (P := (10000000000 : Int64)) (k := 10) hm (by decide) (by decide) (by decide))
  have s11 := own_sst (k := 11) (by decide) s10 (own_fy (P := (100000000000 : Int64)) (k := 11) hm (by decide) (by decide) (by decide))
  have s12 := own_sst (k := 12) (by decide) s11 (own_fy (P := (1000000000000 : Int64)) (k := 12) hm (by decide) (by decide) (by decide))
  have s13 := own_sst (k := 13) (by decide) s12 (own_fy (P := (10000000000000 : Int64)) (k := 13) hm (by decide) (by decide) (by decide))
  have s14 := own_sst (k := 14) (by decide) s13 (own_fy (P := (100000000000000 : Int64)) (k := 14) hm (by decide) (by decide) (by decide))
  have s15 := own_sst (k := 15) (by decide) s14 (own_fy (P := (1000000000000000 : Int64)) (k := 15) hm (by decide) (by decide) (by decide))
  have s16 := own_sst (k := 16) (by decide) s15 (own_fy (P := (10000000000000000 : Int64)) (k := 16) hm (by decide) (by decide) (by decide))
  have s17 := own_sst (k := 17) (by decide) s16 (own_fy (P := (100000000000000000 : Int64)) (k := 17) hm (by decide) (by decide) (by decide))
  have s18 := own_sst (k := 18) (by decide) s17 (own_fy (P := (1000000000000000000 : Int64)) (k := 18) hm (by decide) (by decide) (by decide))
  rw [← h8]
  by_cases z : 19 ≤ mm
  · have := s18.1 z
    omega
  · exact s18.2 (by omega)
theorem own_nds24 {q : Int64} {mm : Nat} {x8 v9 x9 x10 : Int32} (hm : own_isnd (own_M q) mm) (h8 : (((((((((((((((((((1 : Int32) + (fnz q (10 : Int64))) + (fnz q (100 : Int64))) + (fnz q (1000 : Int64))) + (fnz q (10000 : Int64))) + (fnz q (100000 : Int64))) + (fnz q (1000000 : Int64))) + (fnz q (10000000 : Int64))) + (fnz q (100000000 : Int64))) + (fnz q (1000000000 : Int64))) + (fnz q (10000000000 : Int64))) + (fnz q (100000000000 : Int64))) + (fnz q (1000000000000 : Int64))) + (fnz q (10000000000000 : Int64))) + (fnz q (100000000000000 : Int64))) + (fnz q (1000000000000000 : Int64))) + (fnz q (10000000000000000 : Int64))) + (fnz q (100000000000000000 : Int64))) + (fnz q (1000000000000000000 : Int64))) = x8) (hv : v9 = if q < (0 : Int64) then (1 : Int32) else (0 : Int32)) (h9 : (x8 + v9) = x9) (h10 : ((24 : Int32) + x9) = x10) :
    x8.toInt = (mm : Int) ∧ x9.toInt = (mm : Int) + (if q.toInt < 0 then 1 else 0) ∧ ((24 : Int32) + (fss q)) = x10 ∧ (0 < ((24 : Int32) + (fss q)).toInt ∧ ((24 : Int32) + (fss q)).toInt ≤ 100) ∧ (((24 : Int32) + (fss q)).toInt = (24 : Int32).toInt + x9.toInt ∧ 0 ≤ x9.toInt ∧ 0 < (24 : Int32).toInt ∧ (24 : Int32).toInt ≤ 100 ∧ x8.toInt ≤ 19 ∧ x8.toInt ≤ x9.toInt) := by
  refine own_ds (cc := 24) hm ?_ hv h9 h10 (by decide) (by decide) (by decide)
  have e1 : (1 : Int32).toInt = 1 := by decide
  have g1 := hm.1
  have g2 := hm.2.1
  have s0 : (1 ≤ mm → (1 : Int32).toInt = ((1 : Nat) : Int)) ∧ (mm < 1 → (1 : Int32).toInt = mm) := ⟨fun _ => e1, fun z => by omega⟩
  have s1 := own_sst (k := 1) (by decide) s0 (own_fy (P := (10 : Int64)) (k := 1) hm (by decide) (by decide) (by decide))
  have s2 := own_sst (k := 2) (by decide) s1 (own_fy (P := (100 : Int64)) (k := 2) hm (by decide) (by decide) (by decide))
  have s3 := own_sst (k := 3) (by decide) s2 (own_fy (P := (1000 : Int64)) (k := 3) hm (by decide) (by decide) (by decide))
  have s4 := own_sst (k := 4) (by decide) s3 (own_fy (P := (10000 : Int64)) (k := 4) hm (by decide) (by decide) (by decide))
  have s5 := own_sst (k := 5) (by decide) s4 (own_fy (P := (100000 : Int64)) (k := 5) hm (by decide) (by decide) (by decide))
  have s6 := own_sst (k := 6) (by decide) s5 (own_fy (P := (1000000 : Int64)) (k := 6) hm (by decide) (by decide) (by decide))
  have s7 := own_sst (k := 7) (by decide) s6 (own_fy (P := (10000000 : Int64)) (k := 7) hm (by decide) (by decide) (by decide))
  have s8 := own_sst (k := 8) (by decide) s7 (own_fy (P := (100000000 : Int64)) (k := 8) hm (by decide) (by decide) (by decide))
  have s9 := own_sst (k := 9) (by decide) s8 (own_fy (P := (1000000000 : Int64)) (k := 9) hm (by decide) (by decide) (by decide))
  have s10 := own_sst (k := 10) (by decide) s9 (own_fy (P := (10000000000 : Int64)) (k := 10) hm (by decide) (by decide) (by decide))
  have s11 := own_sst (k := 11) (by decide) s10 (own_fy (P := (100000000000 : Int64)) (k := 11) hm (by decide) (by decide) (by decide))
  have s12 := own_sst (k := 12) (by decide) s11 (own_fy (P := (1000000000000 : Int64)) (k := 12) hm (by decide) (by decide) (by decide))
  have s13 := own_sst (k := 13) (by decide) s12 (own_fy (P := (10000000000000 : Int64)) (k := 13) hm (by decide) (by decide) (by decide))
  have s14 := own_sst (k := 14) (by decide) s13 (own_fy (P := (100000000000000 : Int64)) (k := 14) hm (by decide) (by decide) (by decide))
  have s15 := own_sst (k := 15) (by decide) s14 (own_fy (P := (1000000000000000 : Int64)) (k := 15) hm (by decide) (by decide) (by decide))
  have s16 := own_sst (k := 16) (by decide) s15 (own_fy (P := (10000000000000000 : Int64)) (k := 16) hm (by decide) (by decide) (by decide))
  have s17 := own_sst (k := 17) (by decide) s16 (own_fy (P := (100000000000000000 : Int64)) (k := 17) hm (by decide) (by decide) (by decide))
  have s18 := own_sst (k := 18) (by decide) s17 (own_fy (P := (1000000000000000000 : Int64)) (k := 18) hm (by decide) (by decide) (by decide))
  rw [← h8]
  by_cases z : 19 ≤ mm
  · have := s18.1 z
    omega
  · exact s18.2 (by omega)
def Q0 (Z : State) (p0 : Int32) (q1 : Int64) (cs : Int32) (sf : Value) (a_D1 : Addr) (k_a_D1 : ClassId) (a_D2 : Addr) (k_a_D2 : ClassId) (h0 : Heap) (n0 : Nat) : QT := fun v h L => (v = some (.int 1)) ∧ (Fr n0 L) ∧ (Keep h0 h [])
theorem rm0 (l : Launch) (Z : State) (a0 : Array Value) (hw : TW a0 Z) (ws : List Jvm.Cond) (p0 : Int32) (q1 : Int64) (cs : Int32) (sf : Value) (a_D1 : Addr) (k_a_D1 : ClassId) (a_D2 : Addr) (k_a_D2 : ClassId) (h0 : Heap) (n0 : Nat) (Z0 : n0 ≤ h0.size) (wa : sJQ Z h0 (.int cs)) (hcs : ¬ cs = (0 : Int32)) (wb : sKQ Z h0 sf) (wM : sf.isRef = true) (wv : Arv Z h0 a_D1 k_a_D1 .byte 100 own_ones (.int 0)) (wg : sHQ Z h0 (.ref a_D1)) (wn : Arv Z h0 a_D2 k_a_D2 .byte 100 own_tens (.int 0)) (wf : sIQ Z h0 (.ref a_D2)) (vZ : Jvm.Lit.constHeld Z "com/example/wunce/wunce/VersionUpdate" 20) (vY : Jvm.Lit.constHeld Z "com/example/wunce/wunce/VersionUpdate" 22) (vS : Jvm.Lit.constHeld Z "com/example/wunce/wunce/VersionUpdate" 28) (jc : Jvm.Lit.constHeld Z "com/example/wunce/wunce/VersionUpdateToStringPinLaw" 16) (jb : Jvm.Lit.constHeld Z "com/example/wunce/wunce/VersionUpdateToStringPinLaw" 18) (hcw : Jvm.Lit.compactW.before a0 Z = true) (hn0 : n0 = Array.size h0) (hkp : ∀ (b : Addr) (cl : Cell), Z.heap[b]? = some cl → h0[b]? = some cl) :
  MetFree l x (head1 (Jvm.Cond.code x code maxLocals ret :: ws) room_1) (fun a U => a = #[.int p0, .long q1] ∧ Z.Warmed39 U.vm ∧ U.heap = h0 ∧ U = Z) (fun _ _ _ _ _ => True) (fun _ U o U' => ∃ v L, o = .returned v ∧ Q0 Z p0 q1 cs sf a_D1 k_a_D1 a_D2 k_a_D2 h0 n0 v U'.heap L ∧ ReturnedEndW U o U' L room_1.cells room_1.slots) := by
 refine MetFree.of_bodySF (plainFor_of_name pn_9) hisR ?_
 intro p e s m args below meth c s₁ Bd hml0 hP hK
 obtain ⟨rfl, hZ, hh, hUZ⟩ := hP
 have hx := Bd.exec
 have hby := Bd.bytes
 have hy := And.intro hx hby
 have hml : c.maxLocals = 11 := hml0
 have hown : s.vm.findClass "com/example/wunce/wunce/VersionUpdateToStringPinLaw" = some m.cls := findClass_of_methodNamed Bd.named
 have hnm := (name_of_methodNamed Bd.named Bd.method).1
 have X0 : Stand p l e room_1 (s.setVm s.vm) m #[.int p0, .long q1] below meth c s₁ [] 0 0 := Stand.of_body Bd
 have e0 : s₁.heap = h0 := by rw [← hh, Bd.state]; rfl
 have N0 := Fr.nil n0
 have hS : s.Since s.vm 0 := (State.WarmedH.refl s).since 0
 have hk : 0 ≤ Array.size h0 := Nat.zero_le _
 have hkeep : ∀ (b : Addr) (cl : Cell), Z.heap[b]? = some cl → s.heap[b]? = some cl := by rw [hUZ]; exact fun _ _ q => q
 have IBf : IB Z s.vm [] := by rw [hUZ]; exact IB.start
 have hnz : n0 = Z.heap.size := by rw [hn0, ← hh, hUZ]
 refine Ends.opn ?_
 intro QQ hQQ
 refine Ends.i #[iv p0, jv q1, ss, uu, uu, uu, uu, uu, uu, uu, uu] (oC X0 hy at_0 1 rfl (oG X0 hy at_1 2 1 rfl (oN X0 hy at_2 3 ?_)))
 by_cases hc3_601 : (p0 &&& (1 : Int32)) = (0 : Int32)
 ·refine oxk X0 hy at_3 10 (XT.i0_eq_t hc3_601) (oG X0 hy at_10 11 0 rfl (oxp X0 hy at_11 12 #[iv p0, jv q1, ss, iv 0, uu, uu, uu, uu, uu, uu, uu] rfl ?_))
  obtain ⟨T602, h602, X602, e602, E602, A602, D602, U602, st602⟩ := newO X0 hx hZ hown (tb hw 0 rfl) (tb hw 1 rfl) (tb hw 2 rfl) e0 (g := (mkF m 12 #[iv p0, jv q1, ss, iv 0, uu, uu, uu, uu, uu, uu, uu] [])) rfl (hb hby at_12) (by decide) (by decide)
  obtain ⟨b602, g602⟩ : ∃ z, z = h0.size := ⟨_, rfl⟩
  rw [← g602] at A602 D602 U602 st602
  have uz : a_D1 ≠ b602 := Nat.ne_of_lt (Nat.lt_of_lt_of_le wv.lt (Nat.le_of_eq g602.symm))
  have ux : a_D2 ≠ b602 := Nat.ne_of_lt (Nat.lt_of_lt_of_le wn.lt (Nat.le_of_eq g602.symm))
  have zD : n0 ≤ b602 := Nat.le_trans Z0 (Nat.le_trans (Keep.refl h0 []).1 (Nat.le_of_eq g602.symm))
  have Ws : h0.size ≤ b602 := Nat.le_trans (Keep.refl h0 []).1 (Nat.le_of_eq g602.symm)
  have wa := wa.ext E602
  have wb := wb.ext E602
  have wv := wv.ext E602
  have wg := wg.ext E602
  have wn := wn.ext E602
  have wf := wf.ext E602
  have hkp := fun b cl q => E602.2 _ _ (hkp b cl q)
  have hk := Nat.le_trans hk E602.1
  have K602 := (Keep.refl h0 []).ext E602
  have kn := A602
  have kg : fFQ Z h602 b602 (.int 0) := D602 (Or.inr (tb hw 10 rfl)) (ty := .boolean) (by decide)
  have vJ : fGQ Z h602 b602 (.long 0) := D602 (Or.inr (tb hw 12 rfl)) (ty := .long) (by decide)
  refine Ends.j 15 [.ref b602] st602 ?_
  refine oxd X602 hy at_15 16 rfl (oC X602 hy at_16 17 rfl (oE X602 hy at_17 18 rfl ?_))
  refine cI X602 hy hml hown hZ hw at_18 21 1 3 4 5 2 rfl rfl rfl rfl rfl (rmvui0 l Z a0 hw [] b602 q1 (0 : Int32) (0 : Int64) h602 n0 (Nat.le_trans Z0 K602.1) kn kg vJ zD) e602 pd_28 rfl rfl fun _ T603 Lc603 X603 hQ603 => ?_
  obtain ⟨rfl, Nq603, Kq603, fq603_0, kg, vJ⟩ := hQ603
  have N603 := Fr.app N0 Nq603
  have wa := own_sta_keep wa Kq603 (allS kn.cell all0)
  have wb := own_sta_keep wb Kq603 (allS kn.cell all0)
  have wg := own_sta_keep wg Kq603 (allS kn.cell all0)
  have wf := own_sta_keep wf Kq603 (allS kn.cell all0)
  have wv := wv.keep Kq603 (ninS uz nin0)
  have wn := wn.keep Kq603 (ninS ux nin0)
  have hkp := own_kpk Kq603 hkp (allS zD all0) hnz
  have hk := Nat.le_trans hk Kq603.1
  have kn := fq603_0
  have K603 := K602.trans Kq603 (allS (Or.inr Ws) all0)
  refine Ends.u (oxs X603 hy at_21 23 #[iv p0, jv q1, ss, iv 0, rv b602, uu, uu, uu, uu, uu, uu] rfl (oB X603 hy at_23 25 rfl ?_))
  obtain ⟨cq604, kq604, q604a, q604b, q604c⟩ := isOf hZ rfl kn
  obtain ⟨_, _, ⟨T604, L604, k604, n604⟩, -, X604, hS604, hgr604, ⟨Lc604, hQ604, l604, y604, z604, IBf⟩, st604⟩ := X603.virtualBackS hx (y := mN7) (z := mN7) hown (mvT hZ (tb hw 13 rfl)) (mvT hZ (tb hw 14 rfl)) (notFace_of_selects (args := #[]) (mvT hZ (tb hw 16 rfl))) (mvT hZ (tb hw 16 rfl)) (mvT hZ (tb hw 15 rfl)) (by decide) (own_backJ (W := 0) (rmts0 l Z a0 hw [] b602 q1 cs a_D1 k_a_D1 a_D2 k_a_D2 T603.heap (Array.size T603.heap) (Nat.le_refl _) kn kg vJ wa hcs wv wg wn wf vZ vY vS hcw rfl hkp) hZ (tb hw 17 rfl) (tb hw 2 rfl) (by decide) (by decide) IBf) q604a q604c (g := (mkF m 25 #[iv p0, jv q1, ss, iv 0, rv b602, uu, uu, uu, uu, uu, uu] [.ref b602])) rfl (by rw [hml]; rfl) (Steps.refl _) (argsL := []) (rest := []) (lenOf pd_25 rfl) rfl (by show 2 * 0 + _ ≤ _; exact Nat.le_of_eq rfl) (hb hby at_25) (fun _ _ => ⟨rfl, rfl, (by decide : 1 + 10 ≤ _), (by decide : 2 + 276 ≤ _)⟩)
  dsimp only [Pt.U, Pt.locs, Pt.cells, Pt.slots] at hS604 hgr604
  have hZo := hZ
  have hZ := State.Warmed39.trans hZo hS604.1
  have hown := (hS604.1.alike.findClass _ _).trans hown
  have hSn604 := State.Since.trans hS hS604 (Nat.le_trans hk (by rw [← (rfl : T603.heap = _)]; exact hgr604))
  dsimp only [Pt.U, Pt.locs, Pt.cells, Pt.slots] at X604 l604 y604 z604 st604 hQ604
  subst l604 y604 z604
  obtain ⟨sx_604, sa_604, sk_604, mm_604, ll_604, rfl, Nq604, Kq604, fq604_0, fq604_1, g_sx_604, g_sa_604, wA, wk, wm, jf, wE, fq604_9, hmm, hll⟩ := hQ604
  have Nq604 := own_frm (Nat.le_trans Z0 K603.1) Nq604
  have N604 := Fr.app N603 Nq604
  have wa := own_sta_keep wa Kq604 all0
  have wb := own_sta_keep wb Kq604 all0
  have K604 := K603.trans Kq604 all0
  refine Ends.step (fun _ k => st604.trans k) ?_
  have hS := hSn604
  have hk := Nat.le_refl (Array.size T604.heap)
  show Ends p e below QQ (T604.setTop (mkF m 28 #[iv p0, jv q1, ss, iv 0, rv b602, uu, uu, uu, uu, uu, uu] [.ref sx_604]))
  refine oxs X604 hy at_28 30 #[iv p0, jv q1, ss, iv 0, rv b602, rv sx_604, uu, uu, uu, uu, uu] rfl (oC X604 hy at_30 31 rfl (oxk X604 hy at_31 39 (XT.i0_eq_t (by decide)) ?_))
  obtain ⟨a605, T605, h605, kk605, b605, kc605, X605, e605, E605, hS, hk, hZ, hown, EA605, FC605, FV605, AV605, -, -, IBf, Lt605, st605⟩ := ldcSVL X604 hx hZ hown (tb hw 180 rfl) (own_wS hw) rfl hS hk (by show Fr (Array.size s.heap) _; rw [hh, ← hn0]; exact N604) hkeep IBf (by decide) jb hcw (vs := [.int 110, .int 111, .int 116, .int 32, .int 97, .int 112, .int 112, .int 108, .int 105, .int 101, .int 100, .int 44, .int 32, .int 97, .int 116, .int 32, .int 118, .int 101, .int 114, .int 115, .int 105, .int 111, .int 110, .int 32]) (z := (24 : Int32)) ⟨by decide +kernel, by decide +kernel⟩ (by decide) (by decide) (g := (mkF m 39 #[iv p0, jv q1, ss, iv 0, rv b602, rv sx_604, uu, uu, uu, uu, uu] [])) rfl (hb hby at_39) (n := 96) (by decide +kernel) (by decide) (by decide) (by decide)
  have wa := wa.ext E605
  have wb := wb.ext E605
  have wA := wA.ext E605
  have wk := wk.ext E605
  have wm := wm.ext E605
  have jf := jf.ext E605
  have wE := wE.ext E605
  have K605 := K604.ext E605
  have wK := EA605
  have wu := FC605
  have wq := FV605
  have wI := AV605
  refine Ends.j 41 [.ref a605] st605 ?_
  refine Ends.step (fun _ k => XS.astore X605.here hx rfl (hb hby at_41) rfl rfl (l' := #[iv p0, jv q1, ss, iv 0, rv b602, rv sx_604, rv a605, uu, uu, uu, uu]) rfl k) ?_
  have wI : Arv Z h605 b605 kc605 .byte 24 (own_L (24 : Int32).toNatClampNeg qL0) (.int 0) := wI
  show Ends p e below QQ (T605.setTop (mkF m 43 #[iv p0, jv q1, ss, iv 0, rv b602, rv sx_604, rv a605, uu, uu, uu, uu] []))
  refine oH X605 hy at_43 45 19 rfl ?_
  obtain ⟨T606, h606, k606, X606, e606, E606, A606, Y606, st606⟩ := newPE X605 hx hZ (tb hw 181 rfl) e605 (g := (mkF m 45 #[iv p0, jv q1, ss, iv 0, rv b602, rv sx_604, rv a605, uu, uu, uu, uu] [.int 19])) rfl (hb hby at_45) rfl (by decide) (cap := 19) (by decide) (by decide) (by decide) (by decide) (ad := "[J") (by decide)
  obtain ⟨b606, g606⟩ : ∃ z, z = h605.size := ⟨_, rfl⟩
  rw [← g606] at A606 Y606 st606
  have wG : sx_604 ≠ b606 := Nat.ne_of_lt (Nat.lt_of_lt_of_le wA.lt (Nat.le_of_eq g606.symm))
  have wX : sa_604 ≠ b606 := Nat.ne_of_lt (Nat.lt_of_lt_of_le jf.lt (Nat.le_of_eq g606.symm))
  have wP : a605 ≠ b606 := Nat.ne_of_lt (Nat.lt_of_lt_of_le wK.lt (Nat.le_of_eq g606.symm))
  have ve : b605 ≠ b606 := Nat.ne_of_lt (Nat.lt_of_lt_of_le wI.lt (Nat.le_of_eq g606.symm))
  have vC : n0 ≤ b606 := Nat.le_trans Z0 (Nat.le_trans K605.1 (Nat.le_of_eq g606.symm))
  have vu : h0.size ≤ b606 := Nat.le_trans K605.1 (Nat.le_of_eq g606.symm)
  have wa := wa.ext E606
  have wb := wb.ext E606
  have hk := Nat.le_trans hk E606.1
  have wA := wA.ext E606
  have wk := wk.ext E606
  have wm := wm.ext E606
  have wE := wE.ext E606
  have wK := wK.ext E606
  have wu := wu.ext E606
  have wq := wq.ext E606
  have wI := wI.ext E606
  have K606 := K605.ext E606
  have wC : Arv Z h606 b606 k606 .long 19 [.long 0, .long 0, .long 0, .long 0, .long 0, .long 0, .long 0, .long 0, .long 0, .long 0, .long 0, .long 0, .long 0, .long 0, .long 0, .long 0, .long 0, .long 0, .long 0] (.long 0) := (Arv.new A606 (by decide)).pad (pad_rep [] (.long 0) 19)
  refine Ends.j 47 [.ref b606] st606 ?_
  refine oxd X606 hy at_47 48 rfl (oG X606 hy at_48 49 0 rfl (oJ X606 hy at_49 50 1 rfl ?_))
  refine aSJ X606 hy hZ e606 wC at_50 51 ⟨by decide, by decide⟩ fun T608 h608 X608 e608 W608 => ?_
  have wa := wa.wr W608
  have wb := wb.wr W608
  have hk := Nat.le_trans hk (Nat.le_of_eq W608.size.symm)
  have wA := wA.wr W608
  have wk := wk.other W608 (Or.inl wG)
  have wm := wm.other W608 (Or.inl wG)
  have wE := wE.other W608 wX
  have wK := wK.wr W608
  have wu := wu.other W608 (Or.inl wP)
  have wq := wq.other W608 (Or.inl wP)
  have wI := wI.other W608 ve
  have wC : Arv Z h608 b606 k606 .long 19 [.long 1, .long 0, .long 0, .long 0, .long 0, .long 0, .long 0, .long 0, .long 0, .long 0, .long 0, .long 0, .long 0, .long 0, .long 0, .long 0, .long 0, .long 0, .long 0] (.long 0) := As wC rfl W608 0 rfl (Nat.le_of_ble_eq_true rfl)
  have K608 := K606.wr W608 (Or.inr vu)
  have N608 := Fr.snoc X608 N604 vC
  refine oxd X608 hy at_51 52 rfl (oG X608 hy at_52 53 1 rfl (oJ2 X608 hy hown hZ hw at_53 56 10 182 rfl ?_))
  refine aSJ X608 hy hZ e608 wC at_56 57 ⟨by decide, by decide⟩ fun T610 h610 X610 e610 W610 => ?_
  have wa := wa.wr W610
  have wb := wb.wr W610
  have hk := Nat.le_trans hk (Nat.le_of_eq W610.size.symm)
  have wA := wA.wr W610
  have wk := wk.other W610 (Or.inl wG)
  have wm := wm.other W610 (Or.inl wG)
  have wE := wE.other W610 wX
  have wK := wK.wr W610
  have wu := wu.other W610 (Or.inl wP)
  have wq := wq.other W610 (Or.inl wP)
  have wI := wI.other W610 ve
  have wC : Arv Z h610 b606 k606 .long 19 [.long 1, .long 10, .long 0, .long 0, .long 0, .long 0, .long 0, .long 0, .long 0, .long 0, .long 0, .long 0, .long 0, .long 0, .long 0, .long 0, .long 0, .long 0, .long 0] (.long 0) := As wC rfl W610 1 rfl (Nat.le_of_ble_eq_true rfl)
  have K610 := K608.wr W610 (Or.inr vu)
  have N610 := Fr.snoc X610 N608 vC
  refine oxd X610 hy at_57 58 rfl (oG X610 hy at_58 59 2 rfl (oJ2 X610 hy hown hZ hw at_59 62 100 183 rfl ?_))
  refine aSJ X610 hy hZ e610 wC at_62 63 ⟨by decide, by decide⟩ fun T612 h612 X612 e612 W612 => ?_
  have wa := wa.wr W612
  have wb := wb.wr W612
  have hk := Nat.le_trans hk (Nat.le_of_eq W612.size.symm)
  have wA := wA.wr W612
  have wk := wk.other W612 (Or.inl wG)
  have wm := wm.other W612 (Or.inl wG)
  have wE := wE.other W612 wX
  have wK := wK.wr W612
  have wu := wu.other W612 (Or.inl wP)
  have wq := wq.other W612 (Or.inl wP)
  have wI := wI.other W612 ve
  have wC : Arv Z h612 b606 k606 .long 19 [.long 1, .long 10, .long 100, .long 0, .long 0, .long 0, .long 0, .long 0, .long 0, .long 0, .long 0, .long 0, .long 0, .long 0, .long 0, .long 0, .long 0, .long 0, .long 0] (.long 0) := As wC rfl W612 2 rfl (Nat.le_of_ble_eq_true rfl)
  have K612 := K610.wr W612 (Or.inr vu)
  have N612 := Fr.snoc X612 N610 vC
  refine oxd X612 hy at_63 64 rfl (oG X612 hy at_64 65 3 rfl (oJ2 X612 hy hown hZ hw at_65 68 1000 184 rfl ?_))
  refine aSJ X612 hy hZ e612 wC at_68 69 ⟨by decide, by decide⟩ fun T614 h614 X614 e614 W614 => ?_
  have wa := wa.wr W614
  have wb := wb.wr W614
  have hk := Nat.le_trans hk (Nat.le_of_eq W614.size.symm)
  have wA := wA.wr W614
  have wk := wk.other W614 (Or.inl wG)
  have wm := wm.other W614 (Or.inl wG)
  have wE := wE.other W614 wX
  have wK := wK.wr W614
  have wu := wu.other W614 (Or.inl wP)
  have wq := wq.other W614 (Or.inl wP)
  have wI := wI.other W614 ve
  have wC : Arv Z h614 b606 k606 .long 19 [.long 1, .long 10, .long 100, .long 1000, .long 0, .long 0, .long 0, .long 0, .long 0, .long 0, .long 0, .long 0, .long 0, .long 0, .long 0, .long 0, .long 0, .long 0, .long 0] (.long 0) := As wC rfl W614 3 rfl (Nat.le_of_ble_eq_true rfl)
  have K614 := K612.wr W614 (Or.inr vu)
  have N614 := Fr.snoc X614 N612 vC
  refine oxd X614 hy at_69 70 rfl (oG X614 hy at_70 71 4 rfl (oJ2 X614 hy hown hZ hw at_71 74 10000 185 rfl ?_))
  refine aSJ X614 hy hZ e614 wC at_74 75 ⟨by decide, by decide⟩ fun T616 h616 X616 e616 W616 => ?_
  have wa := wa.wr W616
  have wb := wb.wr W616
  have hk := Nat.le_trans hk (Nat.le_of_eq W616.size.symm)
  have wA := wA.wr W616
  have wk := wk.other W616 (Or.inl wG)
  have wm := wm.other W616 (Or.inl wG)
  have wE := wE.other W616 wX
  have wK := wK.wr W616
  have wu := wu.other W616 (Or.inl wP)
  have wq := wq.other W616 (Or.inl wP)
  have wI := wI.other W616 ve
  have wC : Arv Z h616 b606 k606 .long 19 [.long 1, .long 10, .long 100, .long 1000, .long 10000, .long 0, .long 0, .long 0, .long 0, .long 0, .long 0, .long 0, .long 0, .long 0, .long 0, .long 0, .long 0, .long 0, .long 0] (.long 0) := As wC rfl W616 4 rfl (Nat.le_of_ble_eq_true rfl)
  have K616 := K614.wr W616 (Or.inr vu)
  have N616 := Fr.snoc X616 N614 vC
  refine oxd X616 hy at_75 76 rfl (oG X616 hy at_76 77 5 rfl (oJ2 X616 hy hown hZ hw at_77 80 100000 186 rfl ?_))
  refine aSJ X616 hy hZ e616 wC at_80 81 ⟨by decide, by decide⟩ fun T618 h618 X618 e618 W618 => ?_
  have wa := wa.wr W618
  have wb := wb.wr W618
  have hk := Nat.le_trans hk (Nat.le_of_eq W618.size.symm)
  have wA := wA.wr W618
  have wk := wk.other W618 (Or.inl wG)
  have wm := wm.other W618 (Or.inl wG)
  have wE := wE.other W618 wX
  have wK := wK.wr W618
  have wu := wu.other W618 (Or.inl wP)
  have wq := wq.other W618 (Or.inl wP)
  have wI := wI.other W618 ve
  have wC : Arv Z h618 b606 k606 .long 19 [.long 1, .long 10, .long 100, .long 1000, .long 10000, .long 100000, .long 0, .long 0, .long 0, .long 0, .long 0, .long 0, .long 0, .long 0, .long 0, .long 0, .long 0, .long 0, .long 0] (.long 0) := As wC rfl W618 5 rfl (Nat.le_of_ble_eq_true rfl)
  have K618 := K616.wr W618 (Or.inr vu)
  have N618 := Fr.snoc X618 N616 vC
  refine oxd X618 hy at_81 82 rfl (oH X618 hy at_82 84 6 rfl (oJ2 X618 hy hown hZ hw at_84 87 1000000 187 rfl ?_))
  refine aSJ X618 hy hZ e618 wC at_87 88 ⟨by decide, by decide⟩ fun T620 h620 X620 e620 W620 => ?_
  have wa := wa.wr W620
  have wb := wb.wr W620
  have hk := Nat.le_trans hk (Nat.le_of_eq W620.size.symm)
  have wA := wA.wr W620
  have wk := wk.other W620 (Or.inl wG)
  have wm := wm.other W620 (Or.inl wG)
  have wE := wE.other W620 wX
  have wK := wK.wr W620
  have wu := wu.other W620 (Or.inl wP)
  have wq := wq.other W620 (Or.inl wP)
  have wI := wI.other W620 ve
  have wC : Arv Z h620 b606 k606 .long 19 [.long 1, .long 10, .long 100, .long 1000, .long 10000, .long 100000, .long 1000000, .long 0, .long 0, .long 0, .long 0, .long 0, .long 0, .long 0, .long 0, .long 0, .long 0, .long 0, .long 0] (.long 0) := As wC rfl W620 6 rfl (Nat.le_of_ble_eq_true rfl)
  have K620 := K618.wr W620 (Or.inr vu)
  have N620 := Fr.snoc X620 N618 vC
  refine oxd X620 hy at_88 89 rfl (oH X620 hy at_89 91 7 rfl (oJ2 X620 hy hown hZ hw at_91 94 10000000 188 rfl ?_))
  refine aSJ X620 hy hZ e620 wC at_94 95 ⟨by decide, by decide⟩ fun T622 h622 X622 e622 W622 => ?_
  have wa := wa.wr W622
  have wb := wb.wr W622
  have hk := Nat.le_trans hk (Nat.le_of_eq W622.size.symm)
  have wA := wA.wr W622
  have wk := wk.other W622 (Or.inl wG)
  have wm := wm.other W622 (Or.inl wG)
  have wE := wE.other W622 wX
  have wK := wK.wr W622
  have wu := wu.other W622 (Or.inl wP)
  have wq := wq.other W622 (Or.inl wP)
  have wI := wI.other W622 ve
  have wC : Arv Z h622 b606 k606 .long 19 [.long 1, .long 10, .long 100, .long 1000, .long 10000, .long 100000, .long 1000000, .long 10000000, .long 0, .long 0, .long 0, .long 0, .long 0, .long 0, .long 0, .long 0, .long 0, .long 0, .long 0] (.long 0) := As wC rfl W622 7 rfl (Nat.le_of_ble_eq_true rfl)
  have K622 := K620.wr W622 (Or.inr vu)
  have N622 := Fr.snoc X622 N620 vC
  refine oxd X622 hy at_95 96 rfl (oH X622 hy at_96 98 8 rfl (oJ2 X622 hy hown hZ hw at_98 101 100000000 189 rfl ?_))
  refine aSJ X622 hy hZ e622 wC at_101 102 ⟨by decide, by decide⟩ fun T624 h624 X624 e624 W624 => ?_
  have wa := wa.wr W624
  have wb := wb.wr W624
  have hk := Nat.le_trans hk (Nat.le_of_eq W624.size.symm)
  have wA := wA.wr W624
  have wk := wk.other W624 (Or.inl wG)
  have wm := wm.other W624 (Or.inl wG)
  have wE := wE.other W624 wX
  have wK := wK.wr W624
  have wu := wu.other W624 (Or.inl wP)
  have wq := wq.other W624 (Or.inl wP)
  have wI := wI.other W624 ve
  have wC : Arv Z h624 b606 k606 .long 19 [.long 1, .long 10, .long 100, .long 1000, .long 10000, .long 100000, .long 1000000, .long 10000000, .long 100000000, .long 0, .long 0, .long 0, .long 0, .long 0, .long 0, .long 0, .long 0, .long 0, .long 0] (.long 0) := As wC rfl W624 8 rfl (Nat.le_of_ble_eq_true rfl)
  have K624 := K622.wr W624 (Or.inr vu)
  have N624 := Fr.snoc X624 N622 vC
  refine oxd X624 hy at_102 103 rfl (oH X624 hy at_103 105 9 rfl (oJ2 X624 hy hown hZ hw at_105 108 1000000000 190 rfl ?_))
  refine aSJ X624 hy hZ e624 wC at_108 109 ⟨by decide, by decide⟩ fun T626 h626 X626 e626 W626 => ?_
  have wa := wa.wr W626
  have wb := wb.wr W626
  have hk := Nat.le_trans hk (Nat.le_of_eq W626.size.symm)
  have wA := wA.wr W626
  have wk := wk.other W626 (Or.inl wG)
  have wm := wm.other W626 (Or.inl wG)
  have wE := wE.other W626 wX
  have wK := wK.wr W626
  have wu := wu.other W626 (Or.inl wP)
  have wq := wq.other W626 (Or.inl wP)
  have wI := wI.other W626 ve
  have wC : Arv Z h626 b606 k606 .long 19 [.long 1, .long 10, .long 100, .long 1000, .long 10000, .long 100000, .long 1000000, .long 10000000, .long 100000000, .long 1000000000, .long 0, .long 0, .long 0, .long 0, .long 0, .long 0, .long 0, .long 0, .long 0] (.long 0) := As wC rfl W626 9 rfl (Nat.le_of_ble_eq_true rfl)
  have K626 := K624.wr W626 (Or.inr vu)
  have N626 := Fr.snoc X626 N624 vC
  refine oxd X626 hy at_109 110 rfl (oH X626 hy at_110 112 10 rfl (oJ2 X626 hy hown hZ hw at_112 115 10000000000 191 rfl ?_))
  refine aSJ X626 hy hZ e626 wC at_115 116 ⟨by decide, by decide⟩ fun T628 h628 X628 e628 W628 => ?_
  have wa := wa.wr W628
  have wb := wb.wr W628
  have hk := Nat.le_trans hk (Nat.le_of_eq W628.size.symm)
  have wA := wA.wr W628
  have wk := wk.other W628 (Or.inl wG)
  have wm := wm.other W628 (Or.inl wG)
  have wE := wE.other W628 wX
  have wK := wK.wr W628
  have wu := wu.other W628 (Or.inl wP)
  have wq := wq.other W628 (Or.inl wP)
  have wI := wI.other W628 ve
  have wC : Arv Z h628 b606 k606 .long 19 [.long 1, .long 10, .long 100, .long 1000, .long 10000, .long 100000, .long 1000000, .long 10000000, .long 100000000, .long 1000000000, .long 10000000000, .long 0, .long 0, .long 0, .long 0, .long 0, .long 0, .long 0, .long 0] (.long 0) := As wC rfl W628 10 rfl (Nat.le_of_ble_eq_true rfl)
  have K628 := K626.wr W628 (Or.inr vu)
  have N628 := Fr.snoc X628 N626 vC
  refine oxd X628 hy at_116 117 rfl (oH X628 hy at_117 119 11 rfl (oJ2 X628 hy hown hZ hw at_119 122 100000000000 192 rfl ?_))
  refine aSJ X628 hy hZ e628 wC at_122 123 ⟨by decide, by decide⟩ fun T630 h630 X630 e630 W630 => ?_
  have wa := wa.wr W630
  have wb := wb.wr W630
  have hk := Nat.le_trans hk (Nat.le_of_eq W630.size.symm)
  have wA := wA.wr W630
  have wk := wk.other W630 (Or.inl wG)
  have wm := wm.other W630 (Or.inl wG)
  have wE := wE.other W630 wX
  have wK := wK.wr W630
  have wu := wu.other W630 (Or.inl wP)
  have wq := wq.other W630 (Or.inl wP)
  have wI := wI.other W630 ve
  have wC : Arv Z h630 b606 k606 .long 19 [.long 1, .long 10, .long 100, .long 1000, .long 10000, .long 100000, .long 1000000, .long 10000000, .long 100000000, .long 1000000000, .long 10000000000, .long 100000000000, .long 0, .long 0, .long 0, .long 0, .long 0, .long 0, .long 0] (.long 0) := As wC rfl W630 11 rfl (Nat.le_of_ble_eq_true rfl)
  have K630 := K628.wr W630 (Or.inr vu)
  have N630 := Fr.snoc X630 N628 vC
  refine oxd X630 hy at_123 124 rfl (oH X630 hy at_124 126 12 rfl (oJ2 X630 hy hown hZ hw at_126 129 1000000000000 193 rfl ?_))
  refine aSJ X630 hy hZ e630 wC at_129 130 ⟨by decide, by decide⟩ fun T632 h632 X632 e632 W632 => ?_
  have wa := wa.wr W632
  have wb := wb.wr W632
  have hk := Nat.le_trans hk (Nat.le_of_eq W632.size.symm)
  have wA := wA.wr W632
  have wk := wk.other W632 (Or.inl wG)
  have wm := wm.other W632 (Or.inl wG)
  have wE := wE.other W632 wX
  have wK := wK.wr W632
  have wu := wu.other W632 (Or.inl wP)
  have wq := wq.other W632 (Or.inl wP)
  have wI := wI.other W632 ve
  have wC : Arv Z h632 b606 k606 .long 19 [.long 1, .long 10, .long 100, .long 1000, .long 10000, .long 100000, .long 1000000, .long 10000000, .long 100000000, .long 1000000000, .long 10000000000, .long 100000000000, .long 1000000000000, .long 0, .long 0, .long 0, .long 0, .long 0, .long 0] (.long 0) := As wC rfl W632 12 rfl (Nat.le_of_ble_eq_true rfl)
  have K632 := K630.wr W632 (Or.inr vu)
  have N632 := Fr.snoc X632 N630 vC
  refine oxd X632 hy at_130 131 rfl (oH X632 hy at_131 133 13 rfl (oJ2 X632 hy hown hZ hw at_133 136 10000000000000 194 rfl ?_))
  refine aSJ X632 hy hZ e632 wC at_136 137 ⟨by decide, by decide⟩ fun T634 h634 X634 e634 W634 => ?_
  have wa := wa.wr W634
  have wb := wb.wr W634
  have hk := Nat.le_trans hk (Nat.le_of_eq W634.size.symm)
  have wA := wA.wr W634
  have wk := wk.other W634 (Or.inl wG)
  have wm := wm.other W634 (Or.inl wG)
  have wE := wE.other W634 wX
  have wK := wK.wr W634
  have wu := wu.other W634 (Or.inl wP)
  have wq := wq.other W634 (Or.inl wP)
  have wI := wI.other W634 ve
  have wC : Arv Z h634 b606 k606 .long 19 [.long 1, .long 10, .long 100, .long 1000, .long 10000, .long 100000, .long 1000000, .long 10000000, .long 100000000, .long 1000000000, .long 10000000000, .long 100000000000, .long 1000000000000, .long 10000000000000, .long 0, .long 0, .long 0, .long 0, .long 0] (.long 0) := As wC rfl W634 13 rfl (Nat.le_of_ble_eq_true rfl)
  have K634 := K632.wr W634 (Or.inr vu)
  have N634 := Fr.snoc X634 N632 vC
  refine oxd X634 hy at_137 138 rfl (oH X634 hy at_138 140 14 rfl (oJ2 X634 hy hown hZ hw at_140 143 100000000000000 195 rfl ?_))
  refine aSJ X634 hy hZ e634 wC at_143 144 ⟨by decide, by decide⟩ fun T636 h636 X636 e636 W636 => ?_
  have wa := wa.wr W636
  have wb := wb.wr W636
  have hk := Nat.le_trans hk (Nat.le_of_eq W636.size.symm)
  have wA := wA.wr W636
  have wk := wk.other W636 (Or.inl wG)
  have wm := wm.other W636 (Or.inl wG)
  have wE := wE.other W636 wX
  have wK := wK.wr W636
  have wu := wu.other W636 (Or.inl wP)
  have wq := wq.other W636 (Or.inl wP)
  have wI := wI.other W636 ve
  have wC : Arv Z h636 b606 k606 .long 19 [.long 1, .long 10, .long 100, .long 1000, .long 10000, .long 100000, .long 1000000, .long 10000000, .long 100000000, .long 1000000000, .long 10000000000, .long 100000000000, .long 1000000000000, .long 10000000000000, .long 100000000000000, .long 0, .long 0, .long 0, .long 0] (.long 0) := As wC rfl W636 14 rfl (Nat.le_of_ble_eq_true rfl)
  have K636 := K634.wr W636 (Or.inr vu)
  have N636 := Fr.snoc X636 N634 vC
  refine oxd X636 hy at_144 145 rfl (oH X636 hy at_145 147 15 rfl (oJ2 X636 hy hown hZ hw at_147 150 1000000000000000 196 rfl ?_))
  refine aSJ X636 hy hZ e636 wC at_150 151 ⟨by decide, by decide⟩ fun T638 h638 X638 e638 W638 => ?_
  have wa := wa.wr W638
  have wb := wb.wr W638
  have hk := Nat.le_trans hk (Nat.le_of_eq W638.size.symm)
  have wA := wA.wr W638
  have wk := wk.other W638 (Or.inl wG)
  have wm := wm.other W638 (Or.inl wG)
  have wE := wE.other W638 wX
  have wK := wK.wr W638
  have wu := wu.other W638 (Or.inl wP)
  have wq := wq.other W638 (Or.inl wP)
  have wI := wI.other W638 ve
  have wC : Arv Z h638 b606 k606 .long 19 [.long 1, .long 10, .long 100, .long 1000, .long 10000, .long 100000, .long 1000000, .long 10000000, .long 100000000, .long 1000000000, .long 10000000000, .long 100000000000, .long 1000000000000, .long 10000000000000, .long 100000000000000, .long 1000000000000000, .long 0, .long 0, .long 0] (.long 0) := As wC rfl W638 15 rfl (Nat.le_of_ble_eq_true rfl)
  have K638 := K636.wr W638 (Or.inr vu)
  have N638 := Fr.snoc X638 N636 vC
  refine oxd X638 hy at_151 152 rfl (oH X638 hy at_152 154 16 rfl (oJ2 X638 hy hown hZ hw at_154 157 10000000000000000 197 rfl ?_))
  refine aSJ X638 hy hZ e638 wC at_157 158 ⟨by decide, by decide⟩ fun T640 h640 X640 e640 W640 => ?_
  have wa := wa.wr W640
  have wb := wb.wr W640
  have hk := Nat.le_trans hk (Nat.le_of_eq W640.size.symm)
  have wA := wA.wr W640
  have wk := wk.other W640 (Or.inl wG)
  have wm := wm.other W640 (Or.inl wG)
  have wE := wE.other W640 wX
  have wK := wK.wr W640
  have wu := wu.other W640 (Or.inl wP)
  have wq := wq.other W640 (Or.inl wP)
  have wI := wI.other W640 ve
  have wC : Arv Z h640 b606 k606 .long 19 [.long 1, .long 10, .long 100, .long 1000, .long 10000, .long 100000, .long 1000000, .long 10000000, .long 100000000, .long 1000000000, .long 10000000000, .long 100000000000, .long 1000000000000, .long 10000000000000, .long 100000000000000, .long 1000000000000000, .long 10000000000000000, .long 0, .long 0] (.long 0) := As wC rfl W640 16 rfl (Nat.le_of_ble_eq_true rfl)
  have K640 := K638.wr W640 (Or.inr vu)
  have N640 := Fr.snoc X640 N638 vC
  refine oxd X640 hy at_158 159 rfl (oH X640 hy at_159 161 17 rfl (oJ2 X640 hy hown hZ hw at_161 164 100000000000000000 198 rfl ?_))
  refine aSJ X640 hy hZ e640 wC at_164 165 ⟨by decide, by decide⟩ fun T642 h642 X642 e642 W642 => ?_
  have wa := wa.wr W642
  have wb := wb.wr W642
  have hk := Nat.le_trans hk (Nat.le_of_eq W642.size.symm)
  have wA := wA.wr W642
  have wk := wk.other W642 (Or.inl wG)
  have wm := wm.other W642 (Or.inl wG)
  have wE := wE.other W642 wX
  have wK := wK.wr W642
  have wu := wu.other W642 (Or.inl wP)
  have wq := wq.other W642 (Or.inl wP)
  have wI := wI.other W642 ve
  have wC : Arv Z h642 b606 k606 .long 19 [.long 1, .long 10, .long 100, .long 1000, .long 10000, .long 100000, .long 1000000, .long 10000000, .long 100000000, .long 1000000000, .long 10000000000, .long 100000000000, .long 1000000000000, .long 10000000000000, .long 100000000000000, .long 1000000000000000, .long 10000000000000000, .long 100000000000000000, .long 0] (.long 0) := As wC rfl W642 17 rfl (Nat.le_of_ble_eq_true rfl)
  have K642 := K640.wr W642 (Or.inr vu)
  have N642 := Fr.snoc X642 N640 vC
  refine oxd X642 hy at_165 166 rfl (oH X642 hy at_166 168 18 rfl (oJ2 X642 hy hown hZ hw at_168 171 1000000000000000000 199 rfl ?_))
  refine aSJ X642 hy hZ e642 wC at_171 172 ⟨by decide, by decide⟩ fun T644 h644 X644 e644 W644 => ?_
  have wa := wa.wr W644
  have wb := wb.wr W644
  have hk := Nat.le_trans hk (Nat.le_of_eq W644.size.symm)
  have wA := wA.wr W644
  have wk := wk.other W644 (Or.inl wG)
  have wm := wm.other W644 (Or.inl wG)
  have wE := wE.other W644 wX
  have wK := wK.wr W644
  have wu := wu.other W644 (Or.inl wP)
  have wq := wq.other W644 (Or.inl wP)
  have wI := wI.other W644 ve
  have wC : Arv Z h644 b606 k606 .long 19 [.long 1, .long 10, .long 100, .long 1000, .long 10000, .long 100000, .long 1000000, .long 10000000, .long 100000000, .long 1000000000, .long 10000000000, .long 100000000000, .long 1000000000000, .long 10000000000000, .long 100000000000000, .long 1000000000000000, .long 10000000000000000, .long 100000000000000000, .long 1000000000000000000] (.long 0) := As wC rfl W644 18 rfl (Nat.le_of_ble_eq_true rfl)
  have K644 := K642.wr W644 (Or.inr vu)
  have N644 := Fr.snoc X644 N642 vC
  refine oxs X644 hy at_172 174 #[iv p0, jv q1, ss, iv 0, rv b602, rv sx_604, rv a605, rv b606, uu, uu, uu] rfl (oG X644 hy at_174 175 1 rfl (oE X644 hy at_175 176 rfl (oB X644 hy at_176 178 rfl (oG X644 hy at_178 179 1 rfl (aLJ X644 hy hZ e644 wC at_179 180 (.long 10) ⟨by decide, by decide⟩ (rfl) ?_)))))
  refine cS X644 hy hml hown hZ hw at_180 183 1 200 201 202 203 rfl rfl rfl rfl (rmnz l Z a0 hw [] q1 (10 : Int64) h644 n0 (Nat.le_trans Z0 K644.1) (by decide)) e644 pd_29 rfl rfl fun _ T646 Lc646 X646 hQ646 => ?_
  obtain ⟨rfl, Nq646, hh646⟩ := hQ646
  have N646 := Fr.app N644 Nq646
  refine Ends.v (oK X646 hy at_183 184 (oE X646 hy at_184 185 rfl (oB X646 hy at_185 187 rfl (oG X646 hy at_187 188 2 rfl (aLJ X646 hy hZ hh646 wC at_188 189 (.long 100) ⟨by decide, by decide⟩ (rfl) ?_)))))
  refine cS X646 hy hml hown hZ hw at_189 192 1 200 201 202 203 rfl rfl rfl rfl (rmnz l Z a0 hw [] q1 (100 : Int64) h644 n0 (Nat.le_trans Z0 K644.1) (by decide)) hh646 pd_29 rfl rfl fun _ T648 Lc648 X648 hQ648 => ?_
  obtain ⟨rfl, Nq648, hh648⟩ := hQ648
  have N648 := Fr.app N646 Nq648
  refine Ends.v (oK X648 hy at_192 193 (oE X648 hy at_193 194 rfl (oB X648 hy at_194 196 rfl (oG X648 hy at_196 197 3 rfl (aLJ X648 hy hZ hh648 wC at_197 198 (.long 1000) ⟨by decide, by decide⟩ (rfl) ?_)))))
  refine cS X648 hy hml hown hZ hw at_198 201 1 200 201 202 203 rfl rfl rfl rfl (rmnz l Z a0 hw [] q1 (1000 : Int64) h644 n0 (Nat.le_trans Z0 K644.1) (by decide)) hh648 pd_29 rfl rfl fun _ T650 Lc650 X650 hQ650 => ?_
  obtain ⟨rfl, Nq650, hh650⟩ := hQ650
  have N650 := Fr.app N648 Nq650
  refine Ends.v (oK X650 hy at_201 202 (oE X650 hy at_202 203 rfl (oB X650 hy at_203 205 rfl (oG X650 hy at_205 206 4 rfl (aLJ X650 hy hZ hh650 wC at_206 207 (.long 10000) ⟨by decide, by decide⟩ (rfl) ?_)))))
  refine cS X650 hy hml hown hZ hw at_207 210 1 200 201 202 203 rfl rfl rfl rfl (rmnz l Z a0 hw [] q1 (10000 : Int64) h644 n0 (Nat.le_trans Z0 K644.1) (by decide)) hh650 pd_29 rfl rfl fun _ T652 Lc652 X652 hQ652 => ?_
  obtain ⟨rfl, Nq652, hh652⟩ := hQ652
  have N652 := Fr.app N650 Nq652
  refine Ends.v (oK X652 hy at_210 211 (oE X652 hy at_211 212 rfl (oB X652 hy at_212 214 rfl (oG X652 hy at_214 215 5 rfl (aLJ X652 hy hZ hh652 wC at_215 216 (.long 100000) ⟨by decide, by decide⟩ (rfl) ?_)))))
  refine cS X652 hy hml hown hZ hw at_216 219 1 200 201 202 203 rfl rfl rfl rfl (rmnz l Z a0 hw [] q1 (100000 : Int64) h644 n0 (Nat.le_trans Z0 K644.1) (by decide)) hh652 pd_29 rfl rfl fun _ T654 Lc654 X654 hQ654 => ?_
  obtain ⟨rfl, Nq654, hh654⟩ := hQ654
  have N654 := Fr.app N652 Nq654
  refine Ends.v (oK X654 hy at_219 220 (oE X654 hy at_220 221 rfl (oB X654 hy at_221 223 rfl (oH X654 hy at_223 225 6 rfl (aLJ X654 hy hZ hh654 wC at_225 226 (.long 1000000) ⟨by decide, by decide⟩ (rfl) ?_)))))
  refine cS X654 hy hml hown hZ hw at_226 229 1 200 201 202 203 rfl rfl rfl rfl (rmnz l Z a0 hw [] q1 (1000000 : Int64) h644 n0 (Nat.le_trans Z0 K644.1) (by decide)) hh654 pd_29 rfl rfl fun _ T656 Lc656 X656 hQ656 => ?_
  obtain ⟨rfl, Nq656, hh656⟩ := hQ656
  have N656 := Fr.app N654 Nq656
  refine Ends.v (oK X656 hy at_229 230 (oE X656 hy at_230 231 rfl (oB X656 hy at_231 233 rfl (oH X656 hy at_233 235 7 rfl (aLJ X656 hy hZ hh656 wC at_235 236 (.long 10000000) ⟨by decide, by decide⟩ (rfl) ?_)))))
  refine cS X656 hy hml hown hZ hw at_236 239 1 200 201 202 203 rfl rfl rfl rfl (rmnz l Z a0 hw [] q1 (10000000 : Int64) h644 n0 (Nat.le_trans Z0 K644.1) (by decide)) hh656 pd_29 rfl rfl fun _ T658 Lc658 X658 hQ658 => ?_
  obtain ⟨rfl, Nq658, hh658⟩ := hQ658
  have N658 := Fr.app N656 Nq658
  refine Ends.v (oK X658 hy at_239 240 (oE X658 hy at_240 241 rfl (oB X658 hy at_241 243 rfl (oH X658 hy at_243 245 8 rfl (aLJ X658 hy hZ hh658 wC at_245 246 (.long 100000000) ⟨by decide, by decide⟩ (rfl) ?_)))))
  refine cS X658 hy hml hown hZ hw at_246 249 1 200 201 202 203 rfl rfl rfl rfl (rmnz l Z a0 hw [] q1 (100000000 : Int64) h644 n0 (Nat.le_trans Z0 K644.1) (by decide)) hh658 pd_29 rfl rfl fun _ T660 Lc660 X660 hQ660 => ?_
  obtain ⟨rfl, Nq660, hh660⟩ := hQ660
  have N660 := Fr.app N658 Nq660
  refine Ends.v (oK X660 hy at_249 250 (oE X660 hy at_250 251 rfl (oB X660 hy at_251 253 rfl (oH X660 hy at_253 255 9 rfl (aLJ X660 hy hZ hh660 wC at_255 256 (.long 1000000000) ⟨by decide, by decide⟩ (rfl) ?_)))))
  refine cS X660 hy hml hown hZ hw at_256 259 1 200 201 202 203 rfl rfl rfl rfl (rmnz l Z a0 hw [] q1 (1000000000 : Int64) h644 n0 (Nat.le_trans Z0 K644.1) (by decide)) hh660 pd_29 rfl rfl fun _ T662 Lc662 X662 hQ662 => ?_
  obtain ⟨rfl, Nq662, hh662⟩ := hQ662
  have N662 := Fr.app N660 Nq662
  refine Ends.v (oK X662 hy at_259 260 (oE X662 hy at_260 261 rfl (oB X662 hy at_261 263 rfl (oH X662 hy at_263 265 10 rfl (aLJ X662 hy hZ hh662 wC at_265 266 (.long 10000000000) ⟨by decide, by decide⟩ (rfl) ?_)))))
  refine cS X662 hy hml hown hZ hw at_266 269 1 200 201 202 203 rfl rfl rfl rfl (rmnz l Z a0 hw [] q1 (10000000000 : Int64) h644 n0 (Nat.le_trans Z0 K644.1) (by decide)) hh662 pd_29 rfl rfl fun _ T664 Lc664 X664 hQ664 => ?_
  obtain ⟨rfl, Nq664, hh664⟩ := hQ664
  have N664 := Fr.app N662 Nq664
  refine Ends.v (oK X664 hy at_269 270 (oE X664 hy at_270 271 rfl (oB X664 hy at_271 273 rfl (oH X664 hy at_273 275 11 rfl (aLJ X664 hy hZ hh664 wC at_275 276 (.long 100000000000) ⟨by decide, by decide⟩ (rfl) ?_)))))
  refine cS X664 hy hml hown hZ hw at_276 279 1 200 201 202 203 rfl rfl rfl rfl (rmnz l Z a0 hw [] q1 (100000000000 : Int64) h644 n0 (Nat.le_trans Z0 K644.1) (by decide)) hh664 pd_29 rfl rfl fun _ T666 Lc666 X666 hQ666 => ?_
  obtain ⟨rfl, Nq666, hh666⟩ := hQ666
  have N666 := Fr.app N664 Nq666
  refine Ends.v (oK X666 hy at_279 280 (oE X666 hy at_280 281 rfl (oB X666 hy at_281 283 rfl (oH X666 hy at_283 285 12 rfl (aLJ X666 hy hZ hh666 wC at_285 286 (.long 1000000000000) ⟨by decide, by decide⟩ (rfl) ?_)))))
  refine cS X666 hy hml hown hZ hw at_286 289 1 200 201 202 203 rfl rfl rfl rfl (rmnz l Z a0 hw [] q1 (1000000000000 : Int64) h644 n0 (Nat.le_trans Z0 K644.1) (by decide)) hh666 pd_29 rfl rfl fun _ T668 Lc668 X668 hQ668 => ?_
  obtain ⟨rfl, Nq668, hh668⟩ := hQ668
  have N668 := Fr.app N666 Nq668
  refine Ends.v (oK X668 hy at_289 290 (oE X668 hy at_290 291 rfl (oB X668 hy at_291 293 rfl (oH X668 hy at_293 295 13 rfl (aLJ X668 hy hZ hh668 wC at_295 296 (.long 10000000000000) ⟨by decide, by decide⟩ (rfl) ?_)))))
  refine cS X668 hy hml hown hZ hw at_296 299 1 200 201 202 203 rfl rfl rfl rfl (rmnz l Z a0 hw [] q1 (10000000000000 : Int64) h644 n0 (Nat.le_trans Z0 K644.1) (by decide)) hh668 pd_29 rfl rfl fun _ T670 Lc670 X670 hQ670 => ?_
  obtain ⟨rfl, Nq670, hh670⟩ := hQ670
  have N670 := Fr.app N668 Nq670
  refine Ends.v (oK X670 hy at_299 300 (oE X670 hy at_300 301 rfl (oB X670 hy at_301 303 rfl (oH X670 hy at_303 305 14 rfl (aLJ X670 hy hZ hh670 wC at_305 306 (.long 100000000000000) ⟨by decide, by decide⟩ (rfl) ?_)))))
  refine cS X670 hy hml hown hZ hw at_306 309 1 200 201 202 203 rfl rfl rfl rfl (rmnz l Z a0 hw [] q1 (100000000000000 : Int64) h644 n0 (Nat.le_trans Z0 K644.1) (by decide)) hh670 pd_29 rfl rfl fun _ T672 Lc672 X672 hQ672 => ?_
  obtain ⟨rfl, Nq672, hh672⟩ := hQ672
  have N672 := Fr.app N670 Nq672
  refine Ends.v (oK X672 hy at_309 310 (oE X672 hy at_310 311 rfl (oB X672 hy at_311 313 rfl (oH X672 hy at_313 315 15 rfl (aLJ X672 hy hZ hh672 wC at_315 316 (.long 1000000000000000) ⟨by decide, by decide⟩ (rfl) ?_)))))
  refine cS X672 hy hml hown hZ hw at_316 319 1 200 201 202 203 rfl rfl rfl rfl (rmnz l Z a0 hw [] q1 (1000000000000000 : Int64) h644 n0 (Nat.le_trans Z0 K644.1) (by decide)) hh672 pd_29 rfl rfl fun _ T674 Lc674 X674 hQ674 => ?_
  obtain ⟨rfl, Nq674, hh674⟩ := hQ674
  have N674 := Fr.app N672 Nq674
  refine Ends.v (oK X674 hy at_319 320 (oE X674 hy at_320 321 rfl (oB X674 hy at_321 323 rfl (oH X674 hy at_323 325 16 rfl (aLJ X674 hy hZ hh674 wC at_325 326 (.long 10000000000000000) ⟨by decide, by decide⟩ (rfl) ?_)))))
  refine cS X674 hy hml hown hZ hw at_326 329 1 200 201 202 203 rfl rfl rfl rfl (rmnz l Z a0 hw [] q1 (10000000000000000 : Int64) h644 n0 (Nat.le_trans Z0 K644.1) (by decide)) hh674 pd_29 rfl rfl fun _ T676 Lc676 X676 hQ676 => ?_
  obtain ⟨rfl, Nq676, hh676⟩ := hQ676
  have N676 := Fr.app N674 Nq676
  refine Ends.v (oK X676 hy at_329 330 (oE X676 hy at_330 331 rfl (oB X676 hy at_331 333 rfl (oH X676 hy at_333 335 17 rfl (aLJ X676 hy hZ hh676 wC at_335 336 (.long 100000000000000000) ⟨by decide, by decide⟩ (rfl) ?_)))))
  refine cS X676 hy hml hown hZ hw at_336 339 1 200 201 202 203 rfl rfl rfl rfl (rmnz l Z a0 hw [] q1 (100000000000000000 : Int64) h644 n0 (Nat.le_trans Z0 K644.1) (by decide)) hh676 pd_29 rfl rfl fun _ T678 Lc678 X678 hQ678 => ?_
  obtain ⟨rfl, Nq678, hh678⟩ := hQ678
  have N678 := Fr.app N676 Nq678
  refine Ends.v (oK X678 hy at_339 340 (oE X678 hy at_340 341 rfl (oB X678 hy at_341 343 rfl (oH X678 hy at_343 345 18 rfl (aLJ X678 hy hZ hh678 wC at_345 346 (.long 1000000000000000000) ⟨by decide, by decide⟩ (rfl) ?_)))))
  refine cS X678 hy hml hown hZ hw at_346 349 1 200 201 202 203 rfl rfl rfl rfl (rmnz l Z a0 hw [] q1 (1000000000000000000 : Int64) h644 n0 (Nat.le_trans Z0 K644.1) (by decide)) hh678 pd_29 rfl rfl fun _ T680 Lc680 X680 hQ680 => ?_
  obtain ⟨rfl, Nq680, hh680⟩ := hQ680
  have N680 := Fr.app N678 Nq680
  refine Ends.v (oK X680 hy at_349 350 (oxo X680 hy at_350 352 #[iv p0, jv q1, ss, iv 0, rv b602, rv sx_604, rv a605, rv b606, iv (((((((((((((((((((1 : Int32) + (fnz q1 (10 : Int64))) + (fnz q1 (100 : Int64))) + (fnz q1 (1000 : Int64))) + (fnz q1 (10000 : Int64))) + (fnz q1 (100000 : Int64))) + (fnz q1 (1000000 : Int64))) + (fnz q1 (10000000 : Int64))) + (fnz q1 (100000000 : Int64))) + (fnz q1 (1000000000 : Int64))) + (fnz q1 (10000000000 : Int64))) + (fnz q1 (100000000000 : Int64))) + (fnz q1 (1000000000000 : Int64))) + (fnz q1 (10000000000000 : Int64))) + (fnz q1 (100000000000000 : Int64))) + (fnz q1 (1000000000000000 : Int64))) + (fnz q1 (10000000000000000 : Int64))) + (fnz q1 (100000000000000000 : Int64))) + (fnz q1 (1000000000000000000 : Int64))), uu, uu] rfl ?_))
  show Ends p e below QQ (T680.setTop (mkF m 352 #[iv p0, jv q1, ss, iv 0, rv b602, rv sx_604, rv a605, rv b606, iv (((((((((((((((((((1 : Int32) + (fnz q1 (10 : Int64))) + (fnz q1 (100 : Int64))) + (fnz q1 (1000 : Int64))) + (fnz q1 (10000 : Int64))) + (fnz q1 (100000 : Int64))) + (fnz q1 (1000000 : Int64))) + (fnz q1 (10000000 : Int64))) + (fnz q1 (100000000 : Int64))) + (fnz q1 (1000000000 : Int64))) + (fnz q1 (10000000000 : Int64))) + (fnz q1 (100000000000 : Int64))) + (fnz q1 (1000000000000 : Int64))) + (fnz q1 (10000000000000 : Int64))) + (fnz q1 (100000000000000 : Int64))) + (fnz q1 (1000000000000000 : Int64))) + (fnz q1 (10000000000000000 : Int64))) + (fnz q1 (100000000000000000 : Int64))) + (fnz q1 (1000000000000000000 : Int64))), uu, uu] []))
  generalize hv8_1 : (((((((((((((((((((1 : Int32) + (fnz q1 (10 : Int64))) + (fnz q1 (100 : Int64))) + (fnz q1 (1000 : Int64))) + (fnz q1 (10000 : Int64))) + (fnz q1 (100000 : Int64))) + (fnz q1 (1000000 : Int64))) + (fnz q1 (10000000 : Int64))) + (fnz q1 (100000000 : Int64))) + (fnz q1 (1000000000 : Int64))) + (fnz q1 (10000000000 : Int64))) + (fnz q1 (100000000000 : Int64))) + (fnz q1 (1000000000000 : Int64))) + (fnz q1 (10000000000000 : Int64))) + (fnz q1 (100000000000000 : Int64))) + (fnz q1 (1000000000000000 : Int64))) + (fnz q1 (10000000000000000 : Int64))) + (fnz q1 (100000000000000000 : Int64))) + (fnz q1 (1000000000000000000 : Int64))) = x8_1
  refine oD X680 hy at_352 354 rfl (oE X680 hy at_354 355 rfl (oJ X680 hy at_355 356 0 rfl (oY X680 hy at_356 357 ?_)))
  have J365_681 : (∀ (v365_2 : Int32) (hv365_2 : v365_2 = (if q1 < (0 : Int64) then (1 : Int32) else (0 : Int32))), Ends p e below QQ (T680.setTop (mkF m 365 #[iv p0, jv q1, ss, iv 0, rv b602, rv sx_604, rv a605, rv b606, iv x8_1, uu, uu] [.int v365_2, .int x8_1]))) → Ends p e below QQ (T680.setTop (mkF m 357 #[iv p0, jv q1, ss, iv 0, rv b602, rv sx_604, rv a605, rv b606, iv x8_1, uu, uu] [(.int (XT.cmpL q1 (0 : Int64))), .int x8_1])) := by
   intro hJ
   by_cases hc357_682 : q1 < (0 : Int64)
   ·refine oxh X680 hy at_357 360 (XT.ll_ge_f hc357_682) (oG X680 hy at_360 361 1 rfl ?_)
    refine Ends.step (fun _ k => XS.goto X680.here hx rfl (pc0 := 361) (pc' := 365) rfl (hb hby at_361) (by decide) (by decide) k) ?_
    exact hJ _ (by simp only [if_pos hc357_682])
   ·refine oxk X680 hy at_357 364 (XT.ll_ge_t hc357_682) ?_
    refine Ends.step (fun _ k => XT.iconstV X680.here hx rfl (0 : Int32) (hb hby at_364) rfl k) ?_
    exact hJ _ (by simp only [if_neg hc357_682])
  refine J365_681 fun v365_2 hv365_2 => ?_
  refine oK X680 hy at_365 366 (oxo X680 hy at_366 368 #[iv p0, jv q1, ss, iv 0, rv b602, rv sx_604, rv a605, rv b606, iv x8_1, iv (x8_1 + v365_2), uu] rfl ?_)
  show Ends p e below QQ (T680.setTop (mkF m 368 #[iv p0, jv q1, ss, iv 0, rv b602, rv sx_604, rv a605, rv b606, iv x8_1, iv (x8_1 + v365_2), uu] []))
  generalize hv9_3 : (x8_1 + v365_2) = x9_3
  refine oB X680 hy at_368 370 rfl ?_
  refine cV X680 hy hml hown hZ hw at_370 373 0 204 55 57 56 58 32 rfl rfl rfl rfl rfl rfl (rmlen l Z a0 hw [] a605 b605 kc605 (24 : Int32) (own_L (24 : Int32).toNatClampNeg qL0) cs h644 n0 (Nat.le_trans Z0 K644.1) wK wq wI wa hcs wu) hh680 pd_8 wK rfl rfl fun _ T683 Lc683 X683 hQ683 => ?_
  obtain ⟨rfl, Nq683, hh683⟩ := hQ683
  have N683 := Fr.app N680 Nq683
  refine Ends.v (oD X683 hy at_373 375 rfl (oK X683 hy at_375 376 (oxo X683 hy at_376 378 #[iv p0, jv q1, ss, iv 0, rv b602, rv sx_604, rv a605, rv b606, iv x8_1, iv x9_3, iv ((24 : Int32) + x9_3)] rfl ?_)))
  show Ends p e below QQ (T683.setTop (mkF m 378 #[iv p0, jv q1, ss, iv 0, rv b602, rv sx_604, rv a605, rv b606, iv x8_1, iv x9_3, iv ((24 : Int32) + x9_3)] []))
  generalize hv10_4 : ((24 : Int32) + x9_3) = x10_4
  have hB := own_nds24 hmm hv8_1 hv365_2 hv9_3 hv10_4
  refine oB X683 hy at_378 380 rfl (oxj X683 hy at_380 383 (oB X683 hy at_383 385 rfl ?_))
  refine cV X683 hy hml hown hZ hw at_385 388 0 204 55 57 56 58 32 rfl rfl rfl rfl rfl rfl (rmlen l Z a0 hw [] sx_604 sa_604 sk_604 ((24 : Int32) + (fss q1)) (own_L ((24 : Int32) + (fss q1)).toNatClampNeg (own_gf q1 ((24 : Int32) + (fss q1)).toNatClampNeg mm_604 ll_604)) cs h644 n0 (Nat.le_trans Z0 K644.1) wA wk wE wa hcs wm) hh683 pd_8 wA rfl rfl fun _ T684 Lc684 X684 hQ684 => ?_
  obtain ⟨rfl, Nq684, hh684⟩ := hQ684
  have N684 := Fr.app N683 Nq684
  refine Ends.v (oD X684 hy at_388 390 rfl ?_)
  have hc390 : ((24 : Int32) + (fss q1)) = x10_4 := hB.2.2.1
  refine oxl X684 hy at_390 395 (XT.ii_eq_t hc390) (oB X684 hy at_395 397 rfl (oB X684 hy at_397 399 rfl (oE X684 hy at_399 400 rfl (oB X684 hy at_400 402 rfl (oD X684 hy at_402 404 rfl (oD X684 hy at_404 406 rfl (oG X684 hy at_406 407 0 rfl ?_)))))))
  refine cS X684 hy hml hown hZ hw at_407 410 0 205 206 202 207 rfl rfl rfl rfl (rmat l Z a0 hw [] sx_604 a605 q1 b606 x8_1 x9_3 (0 : Int32) sa_604 sk_604 ((24 : Int32) + (fss q1)) (own_gf q1 ((24 : Int32) + (fss q1)).toNatClampNeg mm_604 ll_604) b605 kc605 (24 : Int32) qL0 k606 cs sf (1 : Int64) h644 n0 (Nat.le_trans Z0 K644.1) wA wk wm wE wK wq wu wI wC wa hcs wb wM (by decide) hB.2.2.2.1 hB.2.2.2.2 (fun _ => rfl) (by decide) (own_ok1 (k := 0) hmm hB (by decide) (by decide) (by decide)) (own_ok2 (k := 0) hmm hB (by decide)) (own_ok3 (k := 0) hmm hll hB (by decide) (by decide) (by decide))) hh684 pd_30 rfl rfl fun _ T685 Lc685 X685 hQ685 => ?_
  obtain ⟨rfl, Nq685, hh685⟩ := hQ685
  have N685 := Fr.app N684 Nq685
  refine Ends.v (oxh X685 hy at_410 413 (XT.i0_eq_f (by decide)) (oB X685 hy at_413 415 rfl (oB X685 hy at_415 417 rfl (oE X685 hy at_417 418 rfl (oB X685 hy at_418 420 rfl (oD X685 hy at_420 422 rfl (oD X685 hy at_422 424 rfl (oG X685 hy at_424 425 1 rfl ?_))))))))
  refine cS X685 hy hml hown hZ hw at_425 428 0 205 206 202 207 rfl rfl rfl rfl (rmat l Z a0 hw [] sx_604 a605 q1 b606 x8_1 x9_3 (1 : Int32) sa_604 sk_604 ((24 : Int32) + (fss q1)) (own_gf q1 ((24 : Int32) + (fss q1)).toNatClampNeg mm_604 ll_604) b605 kc605 (24 : Int32) qL0 k606 cs sf (10 : Int64) h644 n0 (Nat.le_trans Z0 K644.1) wA wk wm wE wK wq wu wI wC wa hcs wb wM (by decide) hB.2.2.2.1 hB.2.2.2.2 (fun _ => rfl) (by decide) (own_ok1 (k := 1) hmm hB (by decide) (by decide) (by decide)) (own_ok2 (k := 1) hmm hB (by decide)) (own_ok3 (k := 1) hmm hll hB (by decide) (by decide) (by decide))) hh685 pd_30 rfl rfl fun _ T686 Lc686 X686 hQ686 => ?_
  obtain ⟨rfl, Nq686, hh686⟩ := hQ686
  have N686 := Fr.app N685 Nq686
  refine Ends.v (oxh X686 hy at_428 431 (XT.i0_eq_f (by decide)) (oB X686 hy at_431 433 rfl (oB X686 hy at_433 435 rfl (oE X686 hy at_435 436 rfl (oB X686 hy at_436 438 rfl (oD X686 hy at_438 440 rfl (oD X686 hy at_440 442 rfl (oG X686 hy at_442 443 2 rfl ?_))))))))
  refine cS X686 hy hml hown hZ hw at_443 446 0 205 206 202 207 rfl rfl rfl rfl (rmat l Z a0 hw [] sx_604 a605 q1 b606 x8_1 x9_3 (2 : Int32) sa_604 sk_604 ((24 : Int32) + (fss q1)) (own_gf q1 ((24 : Int32) + (fss q1)).toNatClampNeg mm_604 ll_604) b605 kc605 (24 : Int32) qL0 k606 cs sf (100 : Int64) h644 n0 (Nat.le_trans Z0 K644.1) wA wk wm wE wK wq wu wI wC wa hcs wb wM (by decide) hB.2.2.2.1 hB.2.2.2.2 (fun _ => rfl) (by decide) (own_ok1 (k := 2) hmm hB (by decide) (by decide) (by decide)) (own_ok2 (k := 2) hmm hB (by decide)) (own_ok3 (k := 2) hmm hll hB (by decide) (by decide) (by decide))) hh686 pd_30 rfl rfl fun _ T687 Lc687 X687 hQ687 => ?_
  obtain ⟨rfl, Nq687, hh687⟩ := hQ687
  have N687 := Fr.app N686 Nq687
  refine Ends.v (oxh X687 hy at_446 449 (XT.i0_eq_f (by decide)) (oB X687 hy at_449 451 rfl (oB X687 hy at_451 453 rfl (oE X687 hy at_453 454 rfl (oB X687 hy at_454 456 rfl (oD X687 hy at_456 458 rfl (oD X687 hy at_458 460 rfl (oG X687 hy at_460 461 3 rfl ?_))))))))
  refine cS X687 hy hml hown hZ hw at_461 464 0 205 206 202 207 rfl rfl rfl rfl (rmat l Z a0 hw [] sx_604 a605 q1 b606 x8_1 x9_3 (3 : Int32) sa_604 sk_604 ((24 : Int32) + (fss q1)) (own_gf q1 ((24 : Int32) + (fss q1)).toNatClampNeg mm_604 ll_604) b605 kc605 (24 : Int32) qL0 k606 cs sf (1000 : Int64) h644 n0 (Nat.le_trans Z0 K644.1) wA wk wm wE wK wq wu wI wC wa hcs wb wM (by decide) hB.2.2.2.1 hB.2.2.2.2 (fun _ => rfl) (by decide) (own_ok1 (k := 3) hmm hB (by decide) (by decide) (by decide)) (own_ok2 (k := 3) hmm hB (by decide)) (own_ok3 (k := 3) hmm hll hB (by decide) (by decide) (by decide))) hh687 pd_30 rfl rfl fun _ T688 Lc688 X688 hQ688 => ?_
  obtain ⟨rfl, Nq688, hh688⟩ := hQ688
  have N688 := Fr.app N687 Nq688
  refine Ends.v (oxh X688 hy at_464 467 (XT.i0_eq_f (by decide)) (oB X688 hy at_467 469 rfl (oB X688 hy at_469 471 rfl (oE X688 hy at_471 472 rfl (oB X688 hy at_472 474 rfl (oD X688 hy at_474 476 rfl (oD X688 hy at_476 478 rfl (oG X688 hy at_478 479 4 rfl ?_))))))))
  refine cS X688 hy hml hown hZ hw at_479 482 0 205 206 202 207 rfl rfl rfl rfl (rmat l Z a0 hw [] sx_604 a605 q1 b606 x8_1 x9_3 (4 : Int32) sa_604 sk_604 ((24 : Int32) + (fss q1)) (own_gf q1 ((24 : Int32) + (fss q1)).toNatClampNeg mm_604 ll_604) b605 kc605 (24 : Int32) qL0 k606 cs sf (10000 : Int64) h644 n0 (Nat.le_trans Z0 K644.1) wA wk wm wE wK wq wu wI wC wa hcs wb wM (by decide) hB.2.2.2.1 hB.2.2.2.2 (fun _ => rfl) (by decide) (own_ok1 (k := 4) hmm hB (by decide) (by decide) (by decide)) (own_ok2 (k := 4) hmm hB (by decide)) (own_ok3 (k := 4) hmm hll hB (by decide) (by decide) (by decide))) hh688 pd_30 rfl rfl fun _ T689 Lc689 X689 hQ689 => ?_
  obtain ⟨rfl, Nq689, hh689⟩ := hQ689
  have N689 := Fr.app N688 Nq689
  refine Ends.v (oxh X689 hy at_482 485 (XT.i0_eq_f (by decide)) (oB X689 hy at_485 487 rfl (oB X689 hy at_487 489 rfl (oE X689 hy at_489 490 rfl (oB X689 hy at_490 492 rfl (oD X689 hy at_492 494 rfl (oD X689 hy at_494 496 rfl (oG X689 hy at_496 497 5 rfl ?_))))))))
  refine cS X689 hy hml hown hZ hw at_497 500 0 205 206 202 207 rfl rfl rfl rfl (rmat l Z a0 hw [] sx_604 a605 q1 b606 x8_1 x9_3 (5 : Int32) sa_604 sk_604 ((24 : Int32) + (fss q1)) (own_gf q1 ((24 : Int32) + (fss q1)).toNatClampNeg mm_604 ll_604) b605 kc605 (24 : Int32) qL0 k606 cs sf (100000 : Int64) h644 n0 (Nat.le_trans Z0 K644.1) wA wk wm wE wK wq wu wI wC wa hcs wb wM (by decide) hB.2.2.2.1 hB.2.2.2.2 (fun _ => rfl) (by decide) (own_ok1 (k := 5) hmm hB (by decide) (by decide) (by decide)) (own_ok2 (k := 5) hmm hB (by decide)) (own_ok3 (k := 5) hmm hll hB (by decide) (by decide) (by decide))) hh689 pd_30 rfl rfl fun _ T690 Lc690 X690 hQ690 => ?_
  obtain ⟨rfl, Nq690, hh690⟩ := hQ690
  have N690 := Fr.app N689 Nq690
  refine Ends.v (oxh X690 hy at_500 503 (XT.i0_eq_f (by decide)) (oB X690 hy at_503 505 rfl (oB X690 hy at_505 507 rfl (oE X690 hy at_507 508 rfl (oB X690 hy at_508 510 rfl (oD X690 hy at_510 512 rfl (oD X690 hy at_512 514 rfl (oH X690 hy at_514 516 6 rfl ?_))))))))
  refine cS X690 hy hml hown hZ hw at_516 519 0 205 206 202 207 rfl rfl rfl rfl (rmat l Z a0 hw [] sx_604 a605 q1 b606 x8_1 x9_3 (6 : Int32) sa_604 sk_604 ((24 : Int32) + (fss q1)) (own_gf q1 ((24 : Int32) + (fss q1)).toNatClampNeg mm_604 ll_604) b605 kc605 (24 : Int32) qL0 k606 cs sf (1000000 : Int64) h644 n0 (Nat.le_trans Z0 K644.1) wA wk wm wE wK wq wu wI wC wa hcs wb wM (by decide) hB.2.2.2.1 hB.2.2.2.2 (fun _ => rfl) (by decide) (own_ok1 (k := 6) hmm hB (by decide) (by decide) (by decide)) (own_ok2 (k := 6) hmm hB (by decide)) (own_ok3 (k := 6) hmm hll hB (by decide) (by decide) (by decide))) hh690 pd_30 rfl rfl fun _ T691 Lc691 X691 hQ691 => ?_
  obtain ⟨rfl, Nq691, hh691⟩ := hQ691
  have N691 := Fr.app N690 Nq691
  refine Ends.v (oxh X691 hy at_519 522 (XT.i0_eq_f (by decide)) (oB X691 hy at_522 524 rfl (oB X691 hy at_524 526 rfl (oE X691 hy at_526 527 rfl (oB X691 hy at_527 529 rfl (oD X691 hy at_529 531 rfl (oD X691 hy at_531 533 rfl (oH X691 hy at_533 535 7 rfl ?_))))))))
  refine cS X691 hy hml hown hZ hw at_535 538 0 205 206 202 207 rfl rfl rfl rfl (rmat l Z a0 hw [] sx_604 a605 q1 b606 x8_1 x9_3 (7 : Int32) sa_604 sk_604 ((24 : Int32) + (fss q1)) (own_gf q1 ((24 : Int32) + (fss q1)).toNatClampNeg mm_604 ll_604) b605 kc605 (24 : Int32) qL0 k606 cs sf (10000000 : Int64) h644 n0 (Nat.le_trans Z0 K644.1) wA wk wm wE wK wq wu wI wC wa hcs wb wM (by decide) hB.2.2.2.1 hB.2.2.2.2 (fun _ => rfl) (by decide) (own_ok1 (k := 7) hmm hB (by decide) (by decide) (by decide)) (own_ok2 (k := 7) hmm hB (by decide)) (own_ok3 (k := 7) hmm hll hB (by decide) (by decide) (by decide))) hh691 pd_30 rfl rfl fun _ T692 Lc692 X692 hQ692 => ?_
  obtain ⟨rfl, Nq692, hh692⟩ := hQ692
  have N692 := Fr.app N691 Nq692
  refine Ends.v (oxh X692 hy at_538 541 (XT.i0_eq_f (by decide)) (oB X692 hy at_541 543 rfl (oB X692 hy at_543 545 rfl (oE X692 hy at_545 546 rfl (oB X692 hy at_546 548 rfl (oD X692 hy at_548 550 rfl (oD X692 hy at_550 552 rfl (oH X692 hy at_552 554 8 rfl ?_))))))))
  refine cS X692 hy hml hown hZ hw at_554 557 0 205 206 202 207 rfl rfl rfl rfl (rmat l Z a0 hw [] sx_604 a605 q1 b606 x8_1 x9_3 (8 : Int32) sa_604 sk_604 ((24 : Int32) + (fss q1)) (own_gf q1 ((24 : Int32) + (fss q1)).toNatClampNeg mm_604 ll_604) b605 kc605 (24 : Int32) qL0 k606 cs sf (100000000 : Int64) h644 n0 (Nat.le_trans Z0 K644.1) wA wk wm wE wK wq wu wI wC wa hcs wb wM (by decide) hB.2.2.2.1 hB.2.2.2.2 (fun _ => rfl) (by decide) (own_ok1 (k := 8) hmm hB (by decide) (by decide) (by decide)) (own_ok2 (k := 8) hmm hB (by decide)) (own_ok3 (k := 8) hmm hll hB (by decide) (by decide) (by decide))) hh692 pd_30 rfl rfl fun _ T693 Lc693 X693 hQ693 => ?_
  obtain ⟨rfl, Nq693, hh693⟩ := hQ693
  have N693 := Fr.app N692 Nq693
  refine Ends.v (oxh X693 hy at_557 560 (XT.i0_eq_f (by decide)) (oB X693 hy at_560 562 rfl (oB X693 hy at_562 564 rfl (oE X693 hy at_564 565 rfl (oB X693 hy at_565 567 rfl (oD X693 hy at_567 569 rfl (oD X693 hy at_569 571 rfl (oH X693 hy at_571 573 9 rfl ?_))))))))
  refine cS X693 hy hml hown hZ hw at_573 576 0 205 206 202 207 rfl rfl rfl rfl (rmat l Z a0 hw [] sx_604 a605 q1 b606 x8_1 x9_3 (9 : Int32) sa_604 sk_604 ((24 : Int32) + (fss q1)) (own_gf q1 ((24 : Int32) + (fss q1)).toNatClampNeg mm_604 ll_604) b605 kc605 (24 : Int32) qL0 k606 cs sf (1000000000 : Int64) h644 n0 (Nat.le_trans Z0 K644.1) wA wk wm wE wK wq wu wI wC wa hcs wb wM (by decide) hB.2.2.2.1 hB.2.2.2.2 (fun _ => rfl) (by decide) (own_ok1 (k := 9) hmm hB (by decide) (by decide) (by decide)) (own_ok2 (k := 9) hmm hB (by decide)) (own_ok3 (k := 9) hmm hll hB (by decide) (by decide) (by decide))) hh693 pd_30 rfl rfl fun _ T694 Lc694 X694 hQ694 => ?_
  obtain ⟨rfl, Nq694, hh694⟩ := hQ694
  have N694 := Fr.app N693 Nq694
  refine Ends.v (oxh X694 hy at_576 579 (XT.i0_eq_f (by decide)) (oB X694 hy at_579 581 rfl (oB X694 hy at_581 583 rfl (oE X694 hy at_583 584 rfl (oB X694 hy at_584 586 rfl (oD X694 hy at_586 588 rfl (oD X694 hy at_588 590 rfl (oH X694 hy at_590 592 10 rfl ?_))))))))
  refine cS X694 hy hml hown hZ hw at_592 595 0 205 206 202 207 rfl rfl rfl rfl (rmat l Z a0 hw [] sx_604 a605 q1 b606 x8_1 x9_3 (10 : Int32) sa_604 sk_604 ((24 : Int32) + (fss q1)) (own_gf q1 ((24 : Int32) + (fss q1)).toNatClampNeg mm_604 ll_604) b605 kc605 (24 : Int32) qL0 k606 cs sf (10000000000 : Int64) h644 n0 (Nat.le_trans Z0 K644.1) wA wk wm wE wK wq wu wI wC wa hcs wb wM (by decide) hB.2.2.2.1 hB.2.2.2.2 (fun _ => rfl) (by decide) (own_ok1 (k := 10) hmm hB (by decide) (by decide) (by decide)) (own_ok2 (k := 10) hmm hB (by decide)) (own_ok3 (k := 10) hmm hll hB (by decide) (by decide) (by decide))) hh694 pd_30 rfl rfl fun _ T695 Lc695 X695 hQ695 => ?_
  obtain ⟨rfl, Nq695, hh695⟩ := hQ695
  have N695 := Fr.app N694 Nq695
  refine Ends.v (oxh X695 hy at_595 598 (XT.i0_eq_f (by decide)) (oB X695 hy at_598 600 rfl (oB X695 hy at_600 602 rfl (oE X695 hy at_602 603 rfl (oB X695 hy at_603 605 rfl (oD X695 hy at_605 607 rfl (oD X695 hy at_607 609 rfl (oH X695 hy at_609 611 11 rfl ?_))))))))
  refine cS X695 hy hml hown hZ hw at_611 614 0 205 206 202 207 rfl rfl rfl rfl (rmat l Z a0 hw [] sx_604 a605 q1 b606 x8_1 x9_3 (11 : Int32) sa_604 sk_604 ((24 : Int32) + (fss q1)) (own_gf q1 ((24 : Int32) + (fss q1)).toNatClampNeg mm_604 ll_604) b605 kc605 (24 : Int32) qL0 k606 cs sf (100000000000 : Int64) h644 n0 (Nat.le_trans Z0 K644.1) wA wk wm wE wK wq wu wI wC wa hcs wb wM (by decide) hB.2.2.2.1 hB.2.2.2.2 (fun _ => rfl) (by decide) (own_ok1 (k := 11) hmm hB (by decide) (by decide) (by decide)) (own_ok2 (k := 11) hmm hB (by decide)) (own_ok3 (k := 11) hmm hll hB (by decide) (by decide) (by decide))) hh695 pd_30 rfl rfl fun _ T696 Lc696 X696 hQ696 => ?_
  obtain ⟨rfl, Nq696, hh696⟩ := hQ696
  have N696 := Fr.app N695 Nq696
  refine Ends.v (oxh X696 hy at_614 617 (XT.i0_eq_f (by decide)) (oB X696 hy at_617 619 rfl (oB X696 hy at_619 621 rfl (oE X696 hy at_621 622 rfl (oB X696 hy at_622 624 rfl (oD X696 hy at_624 626 rfl (oD X696 hy at_626 628 rfl (oH X696 hy at_628 630 12 rfl ?_))))))))
  refine cS X696 hy hml hown hZ hw at_630 633 0 205 206 202 207 rfl rfl rfl rfl (rmat l Z a0 hw [] sx_604 a605 q1 b606 x8_1 x9_3 (12 : Int32) sa_604 sk_604 ((24 : Int32) + (fss q1)) (own_gf q1 ((24 : Int32) + (fss q1)).toNatClampNeg mm_604 ll_604) b605 kc605 (24 : Int32) qL0 k606 cs sf (1000000000000 : Int64) h644 n0 (Nat.le_trans Z0 K644.1) wA wk wm wE wK wq wu wI wC wa hcs wb wM (by decide) hB.2.2.2.1 hB.2.2.2.2 (fun _ => rfl) (by decide) (own_ok1 (k := 12) hmm hB (by decide) (by decide) (by decide)) (own_ok2 (k := 12) hmm hB (by decide)) (own_ok3 (k := 12) hmm hll hB (by decide) (by decide) (by decide))) hh696 pd_30 rfl rfl fun _ T697 Lc697 X697 hQ697 => ?_
  obtain ⟨rfl, Nq697, hh697⟩ := hQ697
  have N697 := Fr.app N696 Nq697
  refine Ends.v (oxh X697 hy at_633 636 (XT.i0_eq_f (by decide)) (oB X697 hy at_636 638 rfl (oB X697 hy at_638 640 rfl (oE X697 hy at_640 641 rfl (oB X697 hy at_641 643 rfl (oD X697 hy at_643 645 rfl (oD X697 hy at_645 647 rfl (oH X697 hy at_647 649 13 rfl ?_))))))))
  refine cS X697 hy hml hown hZ hw at_649 652 0 205 206 202 207 rfl rfl rfl rfl (rmat l Z a0 hw [] sx_604 a605 q1 b606 x8_1 x9_3 (13 : Int32) sa_604 sk_604 ((24 : Int32) + (fss q1)) (own_gf q1 ((24 : Int32) + (fss q1)).toNatClampNeg mm_604 ll_604) b605 kc605 (24 : Int32) qL0 k606 cs sf (10000000000000 : Int64) h644 n0 (Nat.le_trans Z0 K644.1) wA wk wm wE wK wq wu wI wC wa hcs wb wM (by decide) hB.2.2.2.1 hB.2.2.2.2 (fun _ => rfl) (by decide) (own_ok1 (k := 13) hmm hB (by decide) (by decide) (by decide)) (own_ok2 (k := 13) hmm hB (by decide)) (own_ok3 (k := 13) hmm hll hB (by decide) (by decide) (by decide))) hh697 pd_30 rfl rfl fun _ T698 Lc698 X698 hQ698 => ?_
  obtain ⟨rfl, Nq698, hh698⟩ := hQ698
  have N698 := Fr.app N697 Nq698
  refine Ends.v (oxh X698 hy at_652 655 (XT.i0_eq_f (by decide)) (oB X698 hy at_655 657 rfl (oB X698 hy at_657 659 rfl (oE X698 hy at_659 660 rfl (oB X698 hy at_660 662 rfl (oD X698 hy at_662 664 rfl (oD X698 hy at_664 666 rfl (oH X698 hy at_666 668 14 rfl ?_))))))))
  refine cS X698 hy hml hown hZ hw at_668 671 0 205 206 202 207 rfl rfl rfl rfl (rmat l Z a0 hw [] sx_604 a605 q1 b606 x8_1 x9_3 (14 : Int32) sa_604 sk_604 ((24 : Int32) + (fss q1)) (own_gf q1 ((24 : Int32) + (fss q1)).toNatClampNeg mm_604 ll_604) b605 kc605 (24 : Int32) qL0 k606 cs sf (100000000000000 : Int64) h644 n0 (Nat.le_trans Z0 K644.1) wA wk wm wE wK wq wu wI wC wa hcs wb wM (by decide) hB.2.2.2.1 hB.2.2.2.2 (fun _ => rfl) (by decide) (own_ok1 (k := 14) hmm hB (by decide) (by decide) (by decide)) (own_ok2 (k := 14) hmm hB (by decide)) (own_ok3 (k := 14) hmm hll hB (by decide) (by decide) (by decide))) hh698 pd_30 rfl rfl fun _ T699 Lc699 X699 hQ699 => ?_
  obtain ⟨rfl, Nq699, hh699⟩ := hQ699
  have N699 := Fr.app N698 Nq699
  refine Ends.v (oxh X699 hy at_671 674 (XT.i0_eq_f (by decide)) (oB X699 hy at_674 676 rfl (oB X699 hy at_676 678 rfl (oE X699 hy at_678 679 rfl (oB X699 hy at_679 681 rfl (oD X699 hy at_681 683 rfl (oD X699 hy at_683 685 rfl (oH X699 hy at_685 687 15 rfl ?_))))))))
  refine cS X699 hy hml hown hZ hw at_687 690 0 205 206 202 207 rfl rfl rfl rfl (rmat l Z a0 hw [] sx_604 a605 q1 b606 x8_1 x9_3 (15 : Int32) sa_604 sk_604 ((24 : Int32) + (fss q1)) (own_gf q1 ((24 : Int32) + (fss q1)).toNatClampNeg mm_604 ll_604) b605 kc605 (24 : Int32) qL0 k606 cs sf (1000000000000000 : Int64) h644 n0 (Nat.le_trans Z0 K644.1) wA wk wm wE wK wq wu wI wC wa hcs wb wM (by decide) hB.2.2.2.1 hB.2.2.2.2 (fun _ => rfl) (by decide) (own_ok1 (k := 15) hmm hB (by decide) (by decide) (by decide)) (own_ok2 (k := 15) hmm hB (by decide)) (own_ok3 (k := 15) hmm hll hB (by decide) (by decide) (by decide))) hh699 pd_30 rfl rfl fun _ T700 Lc700 X700 hQ700 => ?_
  obtain ⟨rfl, Nq700, hh700⟩ := hQ700
  have N700 := Fr.app N699 Nq700
  refine Ends.v (oxh X700 hy at_690 693 (XT.i0_eq_f (by decide)) (oB X700 hy at_693 695 rfl (oB X700 hy at_695 697 rfl (oE X700 hy at_697 698 rfl (oB X700 hy at_698 700 rfl (oD X700 hy at_700 702 rfl (oD X700 hy at_702 704 rfl (oH X700 hy at_704 706 16 rfl ?_))))))))
  refine cS X700 hy hml hown hZ hw at_706 709 0 205 206 202 207 rfl rfl rfl rfl (rmat l Z a0 hw [] sx_604 a605 q1 b606 x8_1 x9_3 (16 : Int32) sa_604 sk_604 ((24 : Int32) + (fss q1)) (own_gf q1 ((24 : Int32) + (fss q1)).toNatClampNeg mm_604 ll_604) b605 kc605 (24 : Int32) qL0 k606 cs sf (10000000000000000 : Int64) h644 n0 (Nat.le_trans Z0 K644.1) wA wk wm wE wK wq wu wI wC wa hcs wb wM (by decide) hB.2.2.2.1 hB.2.2.2.2 (fun _ => rfl) (by decide) (own_ok1 (k := 16) hmm hB (by decide) (by decide) (by decide)) (own_ok2 (k := 16) hmm hB (by decide)) (own_ok3 (k := 16) hmm hll hB (by decide) (by decide) (by decide))) hh700 pd_30 rfl rfl fun _ T701 Lc701 X701 hQ701 => ?_
  obtain ⟨rfl, Nq701, hh701⟩ := hQ701
  have N701 := Fr.app N700 Nq701
  refine Ends.v (oxh X701 hy at_709 712 (XT.i0_eq_f (by decide)) (oB X701 hy at_712 714 rfl (oB X701 hy at_714 716 rfl (oE X701 hy at_716 717 rfl (oB X701 hy at_717 719 rfl (oD X701 hy at_719 721 rfl (oD X701 hy at_721 723 rfl (oH X701 hy at_723 725 17 rfl ?_))))))))
  refine cS X701 hy hml hown hZ hw at_725 728 0 205 206 202 207 rfl rfl rfl rfl (rmat l Z a0 hw [] sx_604 a605 q1 b606 x8_1 x9_3 (17 : Int32) sa_604 sk_604 ((24 : Int32) + (fss q1)) (own_gf q1 ((24 : Int32) + (fss q1)).toNatClampNeg mm_604 ll_604) b605 kc605 (24 : Int32) qL0 k606 cs sf (100000000000000000 : Int64) h644 n0 (Nat.le_trans Z0 K644.1) wA wk wm wE wK wq wu wI wC wa hcs wb wM (by decide) hB.2.2.2.1 hB.2.2.2.2 (fun _ => rfl) (by decide) (own_ok1 (k := 17) hmm hB (by decide) (by decide) (by decide)) (own_ok2 (k := 17) hmm hB (by decide)) (own_ok3 (k := 17) hmm hll hB (by decide) (by decide) (by decide))) hh701 pd_30 rfl rfl fun _ T702 Lc702 X702 hQ702 => ?_
  obtain ⟨rfl, Nq702, hh702⟩ := hQ702
  have N702 := Fr.app N701 Nq702
  refine Ends.v (oxh X702 hy at_728 731 (XT.i0_eq_f (by decide)) (oB X702 hy at_731 733 rfl (oB X702 hy at_733 735 rfl (oE X702 hy at_735 736 rfl (oB X702 hy at_736 738 rfl (oD X702 hy at_738 740 rfl (oD X702 hy at_740 742 rfl (oH X702 hy at_742 744 18 rfl ?_))))))))
  refine cS X702 hy hml hown hZ hw at_744 747 0 205 206 202 207 rfl rfl rfl rfl (rmat l Z a0 hw [] sx_604 a605 q1 b606 x8_1 x9_3 (18 : Int32) sa_604 sk_604 ((24 : Int32) + (fss q1)) (own_gf q1 ((24 : Int32) + (fss q1)).toNatClampNeg mm_604 ll_604) b605 kc605 (24 : Int32) qL0 k606 cs sf (1000000000000000000 : Int64) h644 n0 (Nat.le_trans Z0 K644.1) wA wk wm wE wK wq wu wI wC wa hcs wb wM (by decide) hB.2.2.2.1 hB.2.2.2.2 (fun _ => rfl) (by decide) (own_ok1 (k := 18) hmm hB (by decide) (by decide) (by decide)) (own_ok2 (k := 18) hmm hB (by decide)) (own_ok3 (k := 18) hmm hll hB (by decide) (by decide) (by decide))) hh702 pd_30 rfl rfl fun _ T703 Lc703 X703 hQ703 => ?_
  obtain ⟨rfl, Nq703, hh703⟩ := hQ703
  have N703 := Fr.app N702 Nq703
  refine Ends.v (oxh X703 hy at_747 750 (XT.i0_eq_f (by decide)) (oB X703 hy at_750 752 rfl (oB X703 hy at_752 754 rfl (oE X703 hy at_754 755 rfl (oB X703 hy at_755 757 rfl (oD X703 hy at_757 759 rfl (oD X703 hy at_759 761 rfl (oH X703 hy at_761 763 19 rfl ?_))))))))
  refine cS X703 hy hml hown hZ hw at_763 766 0 205 206 202 207 rfl rfl rfl rfl (rmat l Z a0 hw [] sx_604 a605 q1 b606 x8_1 x9_3 (19 : Int32) sa_604 sk_604 ((24 : Int32) + (fss q1)) (own_gf q1 ((24 : Int32) + (fss q1)).toNatClampNeg mm_604 ll_604) b605 kc605 (24 : Int32) qL0 k606 cs sf (1 : Int64) h644 n0 (Nat.le_trans Z0 K644.1) wA wk wm wE wK wq wu wI wC wa hcs wb wM (by decide) hB.2.2.2.1 hB.2.2.2.2 (fun z => absurd z (by decide)) (by decide) (own_ok0 hB (by decide)) (own_ok2 (k := 19) hmm hB (by decide)) (own_ok3 (k := 19) hmm hll hB (by decide) (by decide) (by decide))) hh703 pd_30 rfl rfl fun _ T704 Lc704 X704 hQ704 => ?_
  obtain ⟨rfl, Nq704, hh704⟩ := hQ704
  have N704 := Fr.app N703 Nq704
  refine Ends.v (oxh X704 hy at_766 769 (XT.i0_eq_f (by decide)) (oB X704 hy at_769 771 rfl (oB X704 hy at_771 773 rfl (oE X704 hy at_773 774 rfl (oB X704 hy at_774 776 rfl (oD X704 hy at_776 778 rfl (oD X704 hy at_778 780 rfl (oH X704 hy at_780 782 20 rfl ?_))))))))
  refine cS X704 hy hml hown hZ hw at_782 785 0 205 206 202 207 rfl rfl rfl rfl (rmat l Z a0 hw [] sx_604 a605 q1 b606 x8_1 x9_3 (20 : Int32) sa_604 sk_604 ((24 : Int32) + (fss q1)) (own_gf q1 ((24 : Int32) + (fss q1)).toNatClampNeg mm_604 ll_604) b605 kc605 (24 : Int32) qL0 k606 cs sf (1 : Int64) h644 n0 (Nat.le_trans Z0 K644.1) wA wk wm wE wK wq wu wI wC wa hcs wb wM (by decide) hB.2.2.2.1 hB.2.2.2.2 (fun z => absurd z (by decide)) (by decide) (own_ok0 hB (by decide)) (own_ok2 (k := 20) hmm hB (by decide)) (own_ok3 (k := 20) hmm hll hB (by decide) (by decide) (by decide))) hh704 pd_30 rfl rfl fun _ T705 Lc705 X705 hQ705 => ?_
  obtain ⟨rfl, Nq705, hh705⟩ := hQ705
  have N705 := Fr.app N704 Nq705
  refine Ends.v (oxh X705 hy at_785 788 (XT.i0_eq_f (by decide)) (oB X705 hy at_788 790 rfl (oB X705 hy at_790 792 rfl (oE X705 hy at_792 793 rfl (oB X705 hy at_793 795 rfl (oD X705 hy at_795 797 rfl (oD X705 hy at_797 799 rfl (oH X705 hy at_799 801 21 rfl ?_))))))))
  refine cS X705 hy hml hown hZ hw at_801 804 0 205 206 202 207 rfl rfl rfl rfl (rmat l Z a0 hw [] sx_604 a605 q1 b606 x8_1 x9_3 (21 : Int32) sa_604 sk_604 ((24 : Int32) + (fss q1)) (own_gf q1 ((24 : Int32) + (fss q1)).toNatClampNeg mm_604 ll_604) b605 kc605 (24 : Int32) qL0 k606 cs sf (1 : Int64) h644 n0 (Nat.le_trans Z0 K644.1) wA wk wm wE wK wq wu wI wC wa hcs wb wM (by decide) hB.2.2.2.1 hB.2.2.2.2 (fun z => absurd z (by decide)) (by decide) (own_ok0 hB (by decide)) (own_ok2 (k := 21) hmm hB (by decide)) (own_ok3 (k := 21) hmm hll hB (by decide) (by decide) (by decide))) hh705 pd_30 rfl rfl fun _ T706 Lc706 X706 hQ706 => ?_
  obtain ⟨rfl, Nq706, hh706⟩ := hQ706
  have N706 := Fr.app N705 Nq706
  refine Ends.v (oxh X706 hy at_804 807 (XT.i0_eq_f (by decide)) (oB X706 hy at_807 809 rfl (oB X706 hy at_809 811 rfl (oE X706 hy at_811 812 rfl (oB X706 hy at_812 814 rfl (oD X706 hy at_814 816 rfl (oD X706 hy at_816 818 rfl (oH X706 hy at_818 820 22 rfl ?_))))))))
  refine cS X706 hy hml hown hZ hw at_820 823 0 205 206 202 207 rfl rfl rfl rfl (rmat l Z a0 hw [] sx_604 a605 q1 b606 x8_1 x9_3 (22 : Int32) sa_604 sk_604 ((24 : Int32) + (fss q1)) (own_gf q1 ((24 : Int32) + (fss q1)).toNatClampNeg mm_604 ll_604) b605 kc605 (24 : Int32) qL0 k606 cs sf (1 : Int64) h644 n0 (Nat.le_trans Z0 K644.1) wA wk wm wE wK wq wu wI wC wa hcs wb wM (by decide) hB.2.2.2.1 hB.2.2.2.2 (fun z => absurd z (by decide)) (by decide) (own_ok0 hB (by decide)) (own_ok2 (k := 22) hmm hB (by decide)) (own_ok3 (k := 22) hmm hll hB (by decide) (by decide) (by decide))) hh706 pd_30 rfl rfl fun _ T707 Lc707 X707 hQ707 => ?_
  obtain ⟨rfl, Nq707, hh707⟩ := hQ707
  have N707 := Fr.app N706 Nq707
  refine Ends.v (oxh X707 hy at_823 826 (XT.i0_eq_f (by decide)) (oB X707 hy at_826 828 rfl (oB X707 hy at_828 830 rfl (oE X707 hy at_830 831 rfl (oB X707 hy at_831 833 rfl (oD X707 hy at_833 835 rfl (oD X707 hy at_835 837 rfl (oH X707 hy at_837 839 23 rfl ?_))))))))
  refine cS X707 hy hml hown hZ hw at_839 842 0 205 206 202 207 rfl rfl rfl rfl (rmat l Z a0 hw [] sx_604 a605 q1 b606 x8_1 x9_3 (23 : Int32) sa_604 sk_604 ((24 : Int32) + (fss q1)) (own_gf q1 ((24 : Int32) + (fss q1)).toNatClampNeg mm_604 ll_604) b605 kc605 (24 : Int32) qL0 k606 cs sf (1 : Int64) h644 n0 (Nat.le_trans Z0 K644.1) wA wk wm wE wK wq wu wI wC wa hcs wb wM (by decide) hB.2.2.2.1 hB.2.2.2.2 (fun z => absurd z (by decide)) (by decide) (own_ok0 hB (by decide)) (own_ok2 (k := 23) hmm hB (by decide)) (own_ok3 (k := 23) hmm hll hB (by decide) (by decide) (by decide))) hh707 pd_30 rfl rfl fun _ T708 Lc708 X708 hQ708 => ?_
  obtain ⟨rfl, Nq708, hh708⟩ := hQ708
  have N708 := Fr.app N707 Nq708
  refine Ends.v (oxh X708 hy at_842 845 (XT.i0_eq_f (by decide)) (oB X708 hy at_845 847 rfl (oB X708 hy at_847 849 rfl (oE X708 hy at_849 850 rfl (oB X708 hy at_850 852 rfl (oD X708 hy at_852 854 rfl (oD X708 hy at_854 856 rfl (oH X708 hy at_856 858 24 rfl ?_))))))))
  refine cS X708 hy hml hown hZ hw at_858 861 0 205 206 202 207 rfl rfl rfl rfl (rmat l Z a0 hw [] sx_604 a605 q1 b606 x8_1 x9_3 (24 : Int32) sa_604 sk_604 ((24 : Int32) + (fss q1)) (own_gf q1 ((24 : Int32) + (fss q1)).toNatClampNeg mm_604 ll_604) b605 kc605 (24 : Int32) qL0 k606 cs sf (1 : Int64) h644 n0 (Nat.le_trans Z0 K644.1) wA wk wm wE wK wq wu wI wC wa hcs wb wM (by decide) hB.2.2.2.1 hB.2.2.2.2 (fun z => absurd z (by decide)) (by decide) (own_ok0 hB (by decide)) (own_ok2 (k := 24) hmm hB (by decide)) (own_ok3 (k := 24) hmm hll hB (by decide) (by decide) (by decide))) hh708 pd_30 rfl rfl fun _ T709 Lc709 X709 hQ709 => ?_
  obtain ⟨rfl, Nq709, hh709⟩ := hQ709
  have N709 := Fr.app N708 Nq709
  refine Ends.v (oxh X709 hy at_861 864 (XT.i0_eq_f (by decide)) (oB X709 hy at_864 866 rfl (oB X709 hy at_866 868 rfl (oE X709 hy at_868 869 rfl (oB X709 hy at_869 871 rfl (oD X709 hy at_871 873 rfl (oD X709 hy at_873 875 rfl (oH X709 hy at_875 877 25 rfl ?_))))))))
  refine cS X709 hy hml hown hZ hw at_877 880 0 205 206 202 207 rfl rfl rfl rfl (rmat l Z a0 hw [] sx_604 a605 q1 b606 x8_1 x9_3 (25 : Int32) sa_604 sk_604 ((24 : Int32) + (fss q1)) (own_gf q1 ((24 : Int32) + (fss q1)).toNatClampNeg mm_604 ll_604) b605 kc605 (24 : Int32) qL0 k606 cs sf (1 : Int64) h644 n0 (Nat.le_trans Z0 K644.1) wA wk wm wE wK wq wu wI wC wa hcs wb wM (by decide) hB.2.2.2.1 hB.2.2.2.2 (fun z => absurd z (by decide)) (by decide) (own_ok0 hB (by decide)) (own_ok2 (k := 25) hmm hB (by decide)) (own_ok3 (k := 25) hmm hll hB (by decide) (by decide) (by decide))) hh709 pd_30 rfl rfl fun _ T710 Lc710 X710 hQ710 => ?_
  obtain ⟨rfl, Nq710, hh710⟩ := hQ710
  have N710 := Fr.app N709 Nq710
  refine Ends.v (oxh X710 hy at_880 883 (XT.i0_eq_f (by decide)) (oB X710 hy at_883 885 rfl (oB X710 hy at_885 887 rfl (oE X710 hy at_887 888 rfl (oB X710 hy at_888 890 rfl (oD X710 hy at_890 892 rfl (oD X710 hy at_892 894 rfl (oH X710 hy at_894 896 26 rfl ?_))))))))
  refine cS X710 hy hml hown hZ hw at_896 899 0 205 206 202 207 rfl rfl rfl rfl (rmat l Z a0 hw [] sx_604 a605 q1 b606 x8_1 x9_3 (26 : Int32) sa_604 sk_604 ((24 : Int32) + (fss q1)) (own_gf q1 ((24 : Int32) + (fss q1)).toNatClampNeg mm_604 ll_604) b605 kc605 (24 : Int32) qL0 k606 cs sf (1 : Int64) h644 n0 (Nat.le_trans Z0 K644.1) wA wk wm wE wK wq wu wI wC wa hcs wb wM (by decide) hB.2.2.2.1 hB.2.2.2.2 (fun z => absurd z (by decide)) (by decide) (own_ok0 hB (by decide)) (own_ok2 (k := 26) hmm hB (by decide)) (own_ok3 (k := 26) hmm hll hB (by decide) (by decide) (by decide))) hh710 pd_30 rfl rfl fun _ T711 Lc711 X711 hQ711 => ?_
  obtain ⟨rfl, Nq711, hh711⟩ := hQ711
  have N711 := Fr.app N710 Nq711
  refine Ends.v (oxh X711 hy at_899 902 (XT.i0_eq_f (by decide)) (oB X711 hy at_902 904 rfl (oB X711 hy at_904 906 rfl (oE X711 hy at_906 907 rfl (oB X711 hy at_907 909 rfl (oD X711 hy at_909 911 rfl (oD X711 hy at_911 913 rfl (oH X711 hy at_913 915 27 rfl ?_))))))))
  refine cS X711 hy hml hown hZ hw at_915 918 0 205 206 202 207 rfl rfl rfl rfl (rmat l Z a0 hw [] sx_604 a605 q1 b606 x8_1 x9_3 (27 : Int32) sa_604 sk_604 ((24 : Int32) + (fss q1)) (own_gf q1 ((24 : Int32) + (fss q1)).toNatClampNeg mm_604 ll_604) b605 kc605 (24 : Int32) qL0 k606 cs sf (1 : Int64) h644 n0 (Nat.le_trans Z0 K644.1) wA wk wm wE wK wq wu wI wC wa hcs wb wM (by decide) hB.2.2.2.1 hB.2.2.2.2 (fun z => absurd z (by decide)) (by decide) (own_ok0 hB (by decide)) (own_ok2 (k := 27) hmm hB (by decide)) (own_ok3 (k := 27) hmm hll hB (by decide) (by decide) (by decide))) hh711 pd_30 rfl rfl fun _ T712 Lc712 X712 hQ712 => ?_
  obtain ⟨rfl, Nq712, hh712⟩ := hQ712
  have N712 := Fr.app N711 Nq712
  refine Ends.v (oxh X712 hy at_918 921 (XT.i0_eq_f (by decide)) (oB X712 hy at_921 923 rfl (oB X712 hy at_923 925 rfl (oE X712 hy at_925 926 rfl (oB X712 hy at_926 928 rfl (oD X712 hy at_928 930 rfl (oD X712 hy at_930 932 rfl (oH X712 hy at_932 934 28 rfl ?_))))))))
  refine cS X712 hy hml hown hZ hw at_934 937 0 205 206 202 207 rfl rfl rfl rfl (rmat l Z a0 hw [] sx_604 a605 q1 b606 x8_1 x9_3 (28 : Int32) sa_604 sk_604 ((24 : Int32) + (fss q1)) (own_gf q1 ((24 : Int32) + (fss q1)).toNatClampNeg mm_604 ll_604) b605 kc605 (24 : Int32) qL0 k606 cs sf (1 : Int64) h644 n0 (Nat.le_trans Z0 K644.1) wA wk wm wE wK wq wu wI wC wa hcs wb wM (by decide) hB.2.2.2.1 hB.2.2.2.2 (fun z => absurd z (by decide)) (by decide) (own_ok0 hB (by decide)) (own_ok2 (k := 28) hmm hB (by decide)) (own_ok3 (k := 28) hmm hll hB (by decide) (by decide) (by decide))) hh712 pd_30 rfl rfl fun _ T713 Lc713 X713 hQ713 => ?_
  obtain ⟨rfl, Nq713, hh713⟩ := hQ713
  have N713 := Fr.app N712 Nq713
  refine Ends.v (oxh X713 hy at_937 940 (XT.i0_eq_f (by decide)) (oB X713 hy at_940 942 rfl (oB X713 hy at_942 944 rfl (oE X713 hy at_944 945 rfl (oB X713 hy at_945 947 rfl (oD X713 hy at_947 949 rfl (oD X713 hy at_949 951 rfl (oH X713 hy at_951 953 29 rfl ?_))))))))
  refine cS X713 hy hml hown hZ hw at_953 956 0 205 206 202 207 rfl rfl rfl rfl (rmat l Z a0 hw [] sx_604 a605 q1 b606 x8_1 x9_3 (29 : Int32) sa_604 sk_604 ((24 : Int32) + (fss q1)) (own_gf q1 ((24 : Int32) + (fss q1)).toNatClampNeg mm_604 ll_604) b605 kc605 (24 : Int32) qL0 k606 cs sf (1 : Int64) h644 n0 (Nat.le_trans Z0 K644.1) wA wk wm wE wK wq wu wI wC wa hcs wb wM (by decide) hB.2.2.2.1 hB.2.2.2.2 (fun z => absurd z (by decide)) (by decide) (own_ok0 hB (by decide)) (own_ok2 (k := 29) hmm hB (by decide)) (own_ok3 (k := 29) hmm hll hB (by decide) (by decide) (by decide))) hh713 pd_30 rfl rfl fun _ T714 Lc714 X714 hQ714 => ?_
  obtain ⟨rfl, Nq714, hh714⟩ := hQ714
  have N714 := Fr.app N713 Nq714
  refine Ends.v (oxh X714 hy at_956 959 (XT.i0_eq_f (by decide)) (oB X714 hy at_959 961 rfl (oB X714 hy at_961 963 rfl (oE X714 hy at_963 964 rfl (oB X714 hy at_964 966 rfl (oD X714 hy at_966 968 rfl (oD X714 hy at_968 970 rfl (oH X714 hy at_970 972 30 rfl ?_))))))))
  refine cS X714 hy hml hown hZ hw at_972 975 0 205 206 202 207 rfl rfl rfl rfl (rmat l Z a0 hw [] sx_604 a605 q1 b606 x8_1 x9_3 (30 : Int32) sa_604 sk_604 ((24 : Int32) + (fss q1)) (own_gf q1 ((24 : Int32) + (fss q1)).toNatClampNeg mm_604 ll_604) b605 kc605 (24 : Int32) qL0 k606 cs sf (1 : Int64) h644 n0 (Nat.le_trans Z0 K644.1) wA wk wm wE wK wq wu wI wC wa hcs wb wM (by decide) hB.2.2.2.1 hB.2.2.2.2 (fun z => absurd z (by decide)) (by decide) (own_ok0 hB (by decide)) (own_ok2 (k := 30) hmm hB (by decide)) (own_ok3 (k := 30) hmm hll hB (by decide) (by decide) (by decide))) hh714 pd_30 rfl rfl fun _ T715 Lc715 X715 hQ715 => ?_
  obtain ⟨rfl, Nq715, hh715⟩ := hQ715
  have N715 := Fr.app N714 Nq715
  refine Ends.v (oxh X715 hy at_975 978 (XT.i0_eq_f (by decide)) (oB X715 hy at_978 980 rfl (oB X715 hy at_980 982 rfl (oE X715 hy at_982 983 rfl (oB X715 hy at_983 985 rfl (oD X715 hy at_985 987 rfl (oD X715 hy at_987 989 rfl (oH X715 hy at_989 991 31 rfl ?_))))))))
  refine cS X715 hy hml hown hZ hw at_991 994 0 205 206 202 207 rfl rfl rfl rfl (rmat l Z a0 hw [] sx_604 a605 q1 b606 x8_1 x9_3 (31 : Int32) sa_604 sk_604 ((24 : Int32) + (fss q1)) (own_gf q1 ((24 : Int32) + (fss q1)).toNatClampNeg mm_604 ll_604) b605 kc605 (24 : Int32) qL0 k606 cs sf (1 : Int64) h644 n0 (Nat.le_trans Z0 K644.1) wA wk wm wE wK wq wu wI wC wa hcs wb wM (by decide) hB.2.2.2.1 hB.2.2.2.2 (fun z => absurd z (by decide)) (by decide) (own_ok0 hB (by decide)) (own_ok2 (k := 31) hmm hB (by decide)) (own_ok3 (k := 31) hmm hll hB (by decide) (by decide) (by decide))) hh715 pd_30 rfl rfl fun _ T716 Lc716 X716 hQ716 => ?_
  obtain ⟨rfl, Nq716, hh716⟩ := hQ716
  have N716 := Fr.app N715 Nq716
  refine Ends.v (oxh X716 hy at_994 997 (XT.i0_eq_f (by decide)) (oB X716 hy at_997 999 rfl (oB X716 hy at_999 1001 rfl (oE X716 hy at_1001 1002 rfl (oB X716 hy at_1002 1004 rfl (oD X716 hy at_1004 1006 rfl (oD X716 hy at_1006 1008 rfl (oH X716 hy at_1008 1010 32 rfl ?_))))))))
  refine cS X716 hy hml hown hZ hw at_1010 1013 0 205 206 202 207 rfl rfl rfl rfl (rmat l Z a0 hw [] sx_604 a605 q1 b606 x8_1 x9_3 (32 : Int32) sa_604 sk_604 ((24 : Int32) + (fss q1)) (own_gf q1 ((24 : Int32) + (fss q1)).toNatClampNeg mm_604 ll_604) b605 kc605 (24 : Int32) qL0 k606 cs sf (1 : Int64) h644 n0 (Nat.le_trans Z0 K644.1) wA wk wm wE wK wq wu wI wC wa hcs wb wM (by decide) hB.2.2.2.1 hB.2.2.2.2 (fun z => absurd z (by decide)) (by decide) (own_ok0 hB (by decide)) (own_ok2 (k := 32) hmm hB (by decide)) (own_ok3 (k := 32) hmm hll hB (by decide) (by decide) (by decide))) hh716 pd_30 rfl rfl fun _ T717 Lc717 X717 hQ717 => ?_
  obtain ⟨rfl, Nq717, hh717⟩ := hQ717
  have N717 := Fr.app N716 Nq717
  refine Ends.v (oxh X717 hy at_1013 1016 (XT.i0_eq_f (by decide)) (oB X717 hy at_1016 1018 rfl (oB X717 hy at_1018 1020 rfl (oE X717 hy at_1020 1021 rfl (oB X717 hy at_1021 1023 rfl (oD X717 hy at_1023 1025 rfl (oD X717 hy at_1025 1027 rfl (oH X717 hy at_1027 1029 33 rfl ?_))))))))
  refine cS X717 hy hml hown hZ hw at_1029 1032 0 205 206 202 207 rfl rfl rfl rfl (rmat l Z a0 hw [] sx_604 a605 q1 b606 x8_1 x9_3 (33 : Int32) sa_604 sk_604 ((24 : Int32) + (fss q1)) (own_gf q1 ((24 : Int32) + (fss q1)).toNatClampNeg mm_604 ll_604) b605 kc605 (24 : Int32) qL0 k606 cs sf (1 : Int64) h644 n0 (Nat.le_trans Z0 K644.1) wA wk wm wE wK wq wu wI wC wa hcs wb wM (by decide) hB.2.2.2.1 hB.2.2.2.2 (fun z => absurd z (by decide)) (by decide) (own_ok0 hB (by decide)) (own_ok2 (k := 33) hmm hB (by decide)) (own_ok3 (k := 33) hmm hll hB (by decide) (by decide) (by decide))) hh717 pd_30 rfl rfl fun _ T718 Lc718 X718 hQ718 => ?_
  obtain ⟨rfl, Nq718, hh718⟩ := hQ718
  have N718 := Fr.app N717 Nq718
  refine Ends.v (oxh X718 hy at_1032 1035 (XT.i0_eq_f (by decide)) (oB X718 hy at_1035 1037 rfl (oB X718 hy at_1037 1039 rfl (oE X718 hy at_1039 1040 rfl (oB X718 hy at_1040 1042 rfl (oD X718 hy at_1042 1044 rfl (oD X718 hy at_1044 1046 rfl (oH X718 hy at_1046 1048 34 rfl ?_))))))))
  refine cS X718 hy hml hown hZ hw at_1048 1051 0 205 206 202 207 rfl rfl rfl rfl (rmat l Z a0 hw [] sx_604 a605 q1 b606 x8_1 x9_3 (34 : Int32) sa_604 sk_604 ((24 : Int32) + (fss q1)) (own_gf q1 ((24 : Int32) + (fss q1)).toNatClampNeg mm_604 ll_604) b605 kc605 (24 : Int32) qL0 k606 cs sf (1 : Int64) h644 n0 (Nat.le_trans Z0 K644.1) wA wk wm wE wK wq wu wI wC wa hcs wb wM (by decide) hB.2.2.2.1 hB.2.2.2.2 (fun z => absurd z (by decide)) (by decide) (own_ok0 hB (by decide)) (own_ok2 (k := 34) hmm hB (by decide)) (own_ok3 (k := 34) hmm hll hB (by decide) (by decide) (by decide))) hh718 pd_30 rfl rfl fun _ T719 Lc719 X719 hQ719 => ?_
  obtain ⟨rfl, Nq719, hh719⟩ := hQ719
  have N719 := Fr.app N718 Nq719
  refine Ends.v (oxh X719 hy at_1051 1054 (XT.i0_eq_f (by decide)) (oB X719 hy at_1054 1056 rfl (oB X719 hy at_1056 1058 rfl (oE X719 hy at_1058 1059 rfl (oB X719 hy at_1059 1061 rfl (oD X719 hy at_1061 1063 rfl (oD X719 hy at_1063 1065 rfl (oH X719 hy at_1065 1067 35 rfl ?_))))))))
  refine cS X719 hy hml hown hZ hw at_1067 1070 0 205 206 202 207 rfl rfl rfl rfl (rmat l Z a0 hw [] sx_604 a605 q1 b606 x8_1 x9_3 (35 : Int32) sa_604 sk_604 ((24 : Int32) + (fss q1)) (own_gf q1 ((24 : Int32) + (fss q1)).toNatClampNeg mm_604 ll_604) b605 kc605 (24 : Int32) qL0 k606 cs sf (1 : Int64) h644 n0 (Nat.le_trans Z0 K644.1) wA wk wm wE wK wq wu wI wC wa hcs wb wM (by decide) hB.2.2.2.1 hB.2.2.2.2 (fun z => absurd z (by decide)) (by decide) (own_ok0 hB (by decide)) (own_ok2 (k := 35) hmm hB (by decide)) (own_ok3 (k := 35) hmm hll hB (by decide) (by decide) (by decide))) hh719 pd_30 rfl rfl fun _ T720 Lc720 X720 hQ720 => ?_
  obtain ⟨rfl, Nq720, hh720⟩ := hQ720
  have N720 := Fr.app N719 Nq720
  refine Ends.v (oxh X720 hy at_1070 1073 (XT.i0_eq_f (by decide)) (oB X720 hy at_1073 1075 rfl (oB X720 hy at_1075 1077 rfl (oE X720 hy at_1077 1078 rfl (oB X720 hy at_1078 1080 rfl (oD X720 hy at_1080 1082 rfl (oD X720 hy at_1082 1084 rfl (oH X720 hy at_1084 1086 36 rfl ?_))))))))
  refine cS X720 hy hml hown hZ hw at_1086 1089 0 205 206 202 207 rfl rfl rfl rfl (rmat l Z a0 hw [] sx_604 a605 q1 b606 x8_1 x9_3 (36 : Int32) sa_604 sk_604 ((24 : Int32) + (fss q1)) (own_gf q1 ((24 : Int32) + (fss q1)).toNatClampNeg mm_604 ll_604) b605 kc605 (24 : Int32) qL0 k606 cs sf (1 : Int64) h644 n0 (Nat.le_trans Z0 K644.1) wA wk wm wE wK wq wu wI wC wa hcs wb wM (by decide) hB.2.2.2.1 hB.2.2.2.2 (fun z => absurd z (by decide)) (by decide) (own_ok0 hB (by decide)) (own_ok2 (k := 36) hmm hB (by decide)) (own_ok3 (k := 36) hmm hll hB (by decide) (by decide) (by decide))) hh720 pd_30 rfl rfl fun _ T721 Lc721 X721 hQ721 => ?_
  obtain ⟨rfl, Nq721, hh721⟩ := hQ721
  have N721 := Fr.app N720 Nq721
  refine Ends.v (oxh X721 hy at_1089 1092 (XT.i0_eq_f (by decide)) (oB X721 hy at_1092 1094 rfl (oB X721 hy at_1094 1096 rfl (oE X721 hy at_1096 1097 rfl (oB X721 hy at_1097 1099 rfl (oD X721 hy at_1099 1101 rfl (oD X721 hy at_1101 1103 rfl (oH X721 hy at_1103 1105 37 rfl ?_))))))))
  refine cS X721 hy hml hown hZ hw at_1105 1108 0 205 206 202 207 rfl rfl rfl rfl (rmat l Z a0 hw [] sx_604 a605 q1 b606 x8_1 x9_3 (37 : Int32) sa_604 sk_604 ((24 : Int32) + (fss q1)) (own_gf q1 ((24 : Int32) + (fss q1)).toNatClampNeg mm_604 ll_604) b605 kc605 (24 : Int32) qL0 k606 cs sf (1 : Int64) h644 n0 (Nat.le_trans Z0 K644.1) wA wk wm wE wK wq wu wI wC wa hcs wb wM (by decide) hB.2.2.2.1 hB.2.2.2.2 (fun z => absurd z (by decide)) (by decide) (own_ok0 hB (by decide)) (own_ok2 (k := 37) hmm hB (by decide)) (own_ok3 (k := 37) hmm hll hB (by decide) (by decide) (by decide))) hh721 pd_30 rfl rfl fun _ T722 Lc722 X722 hQ722 => ?_
  obtain ⟨rfl, Nq722, hh722⟩ := hQ722
  have N722 := Fr.app N721 Nq722
  refine Ends.v (oxh X722 hy at_1108 1111 (XT.i0_eq_f (by decide)) (oB X722 hy at_1111 1113 rfl (oB X722 hy at_1113 1115 rfl (oE X722 hy at_1115 1116 rfl (oB X722 hy at_1116 1118 rfl (oD X722 hy at_1118 1120 rfl (oD X722 hy at_1120 1122 rfl (oH X722 hy at_1122 1124 38 rfl ?_))))))))
  refine cS X722 hy hml hown hZ hw at_1124 1127 0 205 206 202 207 rfl rfl rfl rfl (rmat l Z a0 hw [] sx_604 a605 q1 b606 x8_1 x9_3 (38 : Int32) sa_604 sk_604 ((24 : Int32) + (fss q1)) (own_gf q1 ((24 : Int32) + (fss q1)).toNatClampNeg mm_604 ll_604) b605 kc605 (24 : Int32) qL0 k606 cs sf (1 : Int64) h644 n0 (Nat.le_trans Z0 K644.1) wA wk wm wE wK wq wu wI wC wa hcs wb wM (by decide) hB.2.2.2.1 hB.2.2.2.2 (fun z => absurd z (by decide)) (by decide) (own_ok0 hB (by decide)) (own_ok2 (k := 38) hmm hB (by decide)) (own_ok3 (k := 38) hmm hll hB (by decide) (by decide) (by decide))) hh722 pd_30 rfl rfl fun _ T723 Lc723 X723 hQ723 => ?_
  obtain ⟨rfl, Nq723, hh723⟩ := hQ723
  have N723 := Fr.app N722 Nq723
  refine Ends.v (oxh X723 hy at_1127 1130 (XT.i0_eq_f (by decide)) (oB X723 hy at_1130 1132 rfl (oB X723 hy at_1132 1134 rfl (oE X723 hy at_1134 1135 rfl (oB X723 hy at_1135 1137 rfl (oD X723 hy at_1137 1139 rfl (oD X723 hy at_1139 1141 rfl (oH X723 hy at_1141 1143 39 rfl ?_))))))))
  refine cS X723 hy hml hown hZ hw at_1143 1146 0 205 206 202 207 rfl rfl rfl rfl (rmat l Z a0 hw [] sx_604 a605 q1 b606 x8_1 x9_3 (39 : Int32) sa_604 sk_604 ((24 : Int32) + (fss q1)) (own_gf q1 ((24 : Int32) + (fss q1)).toNatClampNeg mm_604 ll_604) b605 kc605 (24 : Int32) qL0 k606 cs sf (1 : Int64) h644 n0 (Nat.le_trans Z0 K644.1) wA wk wm wE wK wq wu wI wC wa hcs wb wM (by decide) hB.2.2.2.1 hB.2.2.2.2 (fun z => absurd z (by decide)) (by decide) (own_ok0 hB (by decide)) (own_ok2 (k := 39) hmm hB (by decide)) (own_ok3 (k := 39) hmm hll hB (by decide) (by decide) (by decide))) hh723 pd_30 rfl rfl fun _ T724 Lc724 X724 hQ724 => ?_
  obtain ⟨rfl, Nq724, hh724⟩ := hQ724
  have N724 := Fr.app N723 Nq724
  refine Ends.v (oxh X724 hy at_1146 1149 (XT.i0_eq_f (by decide)) (oB X724 hy at_1149 1151 rfl (oB X724 hy at_1151 1153 rfl (oE X724 hy at_1153 1154 rfl (oB X724 hy at_1154 1156 rfl (oD X724 hy at_1156 1158 rfl (oD X724 hy at_1158 1160 rfl (oH X724 hy at_1160 1162 40 rfl ?_))))))))
  refine cS X724 hy hml hown hZ hw at_1162 1165 0 205 206 202 207 rfl rfl rfl rfl (rmat l Z a0 hw [] sx_604 a605 q1 b606 x8_1 x9_3 (40 : Int32) sa_604 sk_604 ((24 : Int32) + (fss q1)) (own_gf q1 ((24 : Int32) + (fss q1)).toNatClampNeg mm_604 ll_604) b605 kc605 (24 : Int32) qL0 k606 cs sf (1 : Int64) h644 n0 (Nat.le_trans Z0 K644.1) wA wk wm wE wK wq wu wI wC wa hcs wb wM (by decide) hB.2.2.2.1 hB.2.2.2.2 (fun z => absurd z (by decide)) (by decide) (own_ok0 hB (by decide)) (own_ok2 (k := 40) hmm hB (by decide)) (own_ok3 (k := 40) hmm hll hB (by decide) (by decide) (by decide))) hh724 pd_30 rfl rfl fun _ T725 Lc725 X725 hQ725 => ?_
  obtain ⟨rfl, Nq725, hh725⟩ := hQ725
  have N725 := Fr.app N724 Nq725
  refine Ends.v (oxh X725 hy at_1165 1168 (XT.i0_eq_f (by decide)) (oB X725 hy at_1168 1170 rfl (oB X725 hy at_1170 1172 rfl (oE X725 hy at_1172 1173 rfl (oB X725 hy at_1173 1175 rfl (oD X725 hy at_1175 1177 rfl (oD X725 hy at_1177 1179 rfl (oH X725 hy at_1179 1181 41 rfl ?_))))))))
  refine cS X725 hy hml hown hZ hw at_1181 1184 0 205 206 202 207 rfl rfl rfl rfl (rmat l Z a0 hw [] sx_604 a605 q1 b606 x8_1 x9_3 (41 : Int32) sa_604 sk_604 ((24 : Int32) + (fss q1)) (own_gf q1 ((24 : Int32) + (fss q1)).toNatClampNeg mm_604 ll_604) b605 kc605 (24 : Int32) qL0 k606 cs sf (1 : Int64) h644 n0 (Nat.le_trans Z0 K644.1) wA wk wm wE wK wq wu wI wC wa hcs wb wM (by decide) hB.2.2.2.1 hB.2.2.2.2 (fun z => absurd z (by decide)) (by decide) (own_ok0 hB (by decide)) (own_ok2 (k := 41) hmm hB (by decide)) (own_ok3 (k := 41) hmm hll hB (by decide) (by decide) (by decide))) hh725 pd_30 rfl rfl fun _ T726 Lc726 X726 hQ726 => ?_
  obtain ⟨rfl, Nq726, hh726⟩ := hQ726
  have N726 := Fr.app N725 Nq726
  refine Ends.v (oxh X726 hy at_1184 1187 (XT.i0_eq_f (by decide)) (oB X726 hy at_1187 1189 rfl (oB X726 hy at_1189 1191 rfl (oE X726 hy at_1191 1192 rfl (oB X726 hy at_1192 1194 rfl (oD X726 hy at_1194 1196 rfl (oD X726 hy at_1196 1198 rfl (oH X726 hy at_1198 1200 42 rfl ?_))))))))
  refine cS X726 hy hml hown hZ hw at_1200 1203 0 205 206 202 207 rfl rfl rfl rfl (rmat l Z a0 hw [] sx_604 a605 q1 b606 x8_1 x9_3 (42 : Int32) sa_604 sk_604 ((24 : Int32) + (fss q1)) (own_gf q1 ((24 : Int32) + (fss q1)).toNatClampNeg mm_604 ll_604) b605 kc605 (24 : Int32) qL0 k606 cs sf (1 : Int64) h644 n0 (Nat.le_trans Z0 K644.1) wA wk wm wE wK wq wu wI wC wa hcs wb wM (by decide) hB.2.2.2.1 hB.2.2.2.2 (fun z => absurd z (by decide)) (by decide) (own_ok0 hB (by decide)) (own_ok2 (k := 42) hmm hB (by decide)) (own_ok3 (k := 42) hmm hll hB (by decide) (by decide) (by decide))) hh726 pd_30 rfl rfl fun _ T727 Lc727 X727 hQ727 => ?_
  obtain ⟨rfl, Nq727, hh727⟩ := hQ727
  have N727 := Fr.app N726 Nq727
  refine Ends.v (oxh X727 hy at_1203 1206 (XT.i0_eq_f (by decide)) (oB X727 hy at_1206 1208 rfl (oB X727 hy at_1208 1210 rfl (oE X727 hy at_1210 1211 rfl (oB X727 hy at_1211 1213 rfl (oD X727 hy at_1213 1215 rfl (oD X727 hy at_1215 1217 rfl (oH X727 hy at_1217 1219 43 rfl ?_))))))))
  refine cS X727 hy hml hown hZ hw at_1219 1222 0 205 206 202 207 rfl rfl rfl rfl (rmat l Z a0 hw [] sx_604 a605 q1 b606 x8_1 x9_3 (43 : Int32) sa_604 sk_604 ((24 : Int32) + (fss q1)) (own_gf q1 ((24 : Int32) + (fss q1)).toNatClampNeg mm_604 ll_604) b605 kc605 (24 : Int32) qL0 k606 cs sf (1 : Int64) h644 n0 (Nat.le_trans Z0 K644.1) wA wk wm wE wK wq wu wI wC wa hcs wb wM (by decide) hB.2.2.2.1 hB.2.2.2.2 (fun z => absurd z (by decide)) (by decide) (own_ok0 hB (by decide)) (own_ok2 (k := 43) hmm hB (by decide)) (own_ok3 (k := 43) hmm hll hB (by decide) (by decide) (by decide))) hh727 pd_30 rfl rfl fun _ T728 Lc728 X728 hQ728 => ?_
  obtain ⟨rfl, Nq728, hh728⟩ := hQ728
  have N728 := Fr.app N727 Nq728
  refine Ends.v (oxh X728 hy at_1222 1225 (XT.i0_eq_f (by decide)) (oG X728 hy at_1225 1226 1 rfl (oxm X728 hy at_1226 1230 ?_)))
  exact Ends.finW (some (.int 1)) X728 hS hk hQQ (fun h => by rw [Bd.returns] at h; cases h) Bd.notSynchronized (fun _ hr => retOut X728 hx (t := .boolean) Bd.returns rfl (Or.inl ⟨rfl, (by simp), _, rfl⟩) (hb hby at_1230) hr) hh728 (by decide) (by decide) ⟨rfl, N728, K644⟩
 ·refine oxh X0 hy at_3 6 (XT.i0_eq_f hc3_601) (oG X0 hy at_6 7 1 rfl (oxm X0 hy at_7 11 (oxp X0 hy at_11 12 #[iv p0, jv q1, ss, iv 1, uu, uu, uu, uu, uu, uu, uu] rfl ?_)))
  obtain ⟨T729, h729, X729, e729, E729, A729, D729, U729, st729⟩ := newO X0 hx hZ hown (tb hw 0 rfl) (tb hw 1 rfl) (tb hw 2 rfl) e0 (g := (mkF m 12 #[iv p0, jv q1, ss, iv 1, uu, uu, uu, uu, uu, uu, uu] [])) rfl (hb hby at_12) (by decide) (by decide)
  obtain ⟨b729, g729⟩ : ∃ z, z = h0.size := ⟨_, rfl⟩
  rw [← g729] at A729 D729 U729 st729
  have uy : a_D1 ≠ b729 := Nat.ne_of_lt (Nat.lt_of_lt_of_le wv.lt (Nat.le_of_eq g729.symm))
  have uw : a_D2 ≠ b729 := Nat.ne_of_lt (Nat.lt_of_lt_of_le wn.lt (Nat.le_of_eq g729.symm))
  have zC : n0 ≤ b729 := Nat.le_trans Z0 (Nat.le_trans (Keep.refl h0 []).1 (Nat.le_of_eq g729.symm))
  have Wq : h0.size ≤ b729 := Nat.le_trans (Keep.refl h0 []).1 (Nat.le_of_eq g729.symm)
  have wa := wa.ext E729
  have wb := wb.ext E729
  have wv := wv.ext E729
  have wg := wg.ext E729
  have wn := wn.ext E729
  have wf := wf.ext E729
  have hkp := fun b cl q => E729.2 _ _ (hkp b cl q)
  have hk := Nat.le_trans hk E729.1
  have K729 := (Keep.refl h0 []).ext E729
  have km := A729
  have kf : fFQ Z h729 b729 (.int 0) := D729 (Or.inr (tb hw 10 rfl)) (ty := .boolean) (by decide)
  have vI : fGQ Z h729 b729 (.long 0) := D729 (Or.inr (tb hw 12 rfl)) (ty := .long) (by decide)
  refine Ends.j 15 [.ref b729] st729 ?_
  refine oxd X729 hy at_15 16 rfl (oC X729 hy at_16 17 rfl (oE X729 hy at_17 18 rfl ?_))
  refine cI X729 hy hml hown hZ hw at_18 21 1 3 4 5 2 rfl rfl rfl rfl rfl (rmvui1 l Z a0 hw [] b729 q1 (0 : Int32) (0 : Int64) h729 n0 (Nat.le_trans Z0 K729.1) km kf vI zC) e729 pd_28 rfl rfl fun _ T730 Lc730 X730 hQ730 => ?_
  obtain ⟨rfl, Nq730, Kq730, fq730_0, kf, vI⟩ := hQ730
  have N730 := Fr.app N0 Nq730
  have wa := own_sta_keep wa Kq730 (allS km.cell all0)
  have wb := own_sta_keep wb Kq730 (allS km.cell all0)
  have wg := own_sta_keep wg Kq730 (allS km.cell all0)
  have wf := own_sta_keep wf Kq730 (allS km.cell all0)
  have wv := wv.keep Kq730 (ninS uy nin0)
  have wn := wn.keep Kq730 (ninS uw nin0)
  have hkp := own_kpk Kq730 hkp (allS zC all0) hnz
  have hk := Nat.le_trans hk Kq730.1
  have km := fq730_0
  have K730 := K729.trans Kq730 (allS (Or.inr Wq) all0)
  refine Ends.u (oxs X730 hy at_21 23 #[iv p0, jv q1, ss, iv 1, rv b729, uu, uu, uu, uu, uu, uu] rfl (oB X730 hy at_23 25 rfl ?_))
  obtain ⟨cq731, kq731, q731a, q731b, q731c⟩ := isOf hZ rfl km
  obtain ⟨_, _, ⟨T731, L731, k731, n731⟩, -, X731, hS731, hgr731, ⟨Lc731, hQ731, l731, y731, z731, IBf⟩, st731⟩ := X730.virtualBackS hx (y := mN7) (z := mN7) hown (mvT hZ (tb hw 13 rfl)) (mvT hZ (tb hw 14 rfl)) (notFace_of_selects (args := #[]) (mvT hZ (tb hw 16 rfl))) (mvT hZ (tb hw 16 rfl)) (mvT hZ (tb hw 15 rfl)) (by decide) (own_backJ (W := 0) (rmts1 l Z a0 hw [] b729 q1 cs a_D1 k_a_D1 a_D2 k_a_D2 T730.heap (Array.size T730.heap) (Nat.le_refl _) km kf vI wa hcs wv wg wn wf vZ vY vS hcw rfl hkp) hZ (tb hw 17 rfl) (tb hw 2 rfl) (by decide) (by decide) IBf) q731a q731c (g := (mkF m 25 #[iv p0, jv q1, ss, iv 1, rv b729, uu, uu, uu, uu, uu, uu] [.ref b729])) rfl (by rw [hml]; rfl) (Steps.refl _) (argsL := []) (rest := []) (lenOf pd_25 rfl) rfl (by show 2 * 0 + _ ≤ _; exact Nat.le_of_eq rfl) (hb hby at_25) (fun _ _ => ⟨rfl, rfl, (by decide : 1 + 10 ≤ _), (by decide : 2 + 260 ≤ _)⟩)
  dsimp only [Pt.U, Pt.locs, Pt.cells, Pt.slots] at hS731 hgr731
  have hZo := hZ
  have hZ := State.Warmed39.trans hZo hS731.1
  have hown := (hS731.1.alike.findClass _ _).trans hown
  have hSn731 := State.Since.trans hS hS731 (Nat.le_trans hk (by rw [← (rfl : T730.heap = _)]; exact hgr731))
  dsimp only [Pt.U, Pt.locs, Pt.cells, Pt.slots] at X731 l731 y731 z731 st731 hQ731
  subst l731 y731 z731
  obtain ⟨sx_731, sa_731, sk_731, mm_731, ll_731, rfl, Nq731, Kq731, fq731_0, fq731_1, g_sx_731, g_sa_731, wy, wj, wl, je, wD, fq731_9, hmm, hll⟩ := hQ731
  have Nq731 := own_frm (Nat.le_trans Z0 K730.1) Nq731
  have N731 := Fr.app N730 Nq731
  have wa := own_sta_keep wa Kq731 all0
  have wb := own_sta_keep wb Kq731 all0
  have K731 := K730.trans Kq731 all0
  refine Ends.step (fun _ k => st731.trans k) ?_
  have hS := hSn731
  have hk := Nat.le_refl (Array.size T731.heap)
  show Ends p e below QQ (T731.setTop (mkF m 28 #[iv p0, jv q1, ss, iv 1, rv b729, uu, uu, uu, uu, uu, uu] [.ref sx_731]))
  refine oxs X731 hy at_28 30 #[iv p0, jv q1, ss, iv 1, rv b729, rv sx_731, uu, uu, uu, uu, uu] rfl (oC X731 hy at_30 31 rfl (oxh X731 hy at_31 34 (XT.i0_eq_f (by decide)) ?_))
  obtain ⟨a732, T732, h732, kk732, b732, kc732, X732, e732, E732, hS, hk, hZ, hown, EA732, FC732, FV732, AV732, -, -, IBf, Lt732, st732⟩ := ldcSVL X731 hx hZ hown (tb hw 238 rfl) (own_wS hw) rfl hS hk (by show Fr (Array.size s.heap) _; rw [hh, ← hn0]; exact N731) hkeep IBf (by decide) jc hcw (vs := [.int 97, .int 112, .int 112, .int 108, .int 105, .int 101, .int 100, .int 44, .int 32, .int 97, .int 116, .int 32, .int 118, .int 101, .int 114, .int 115, .int 105, .int 111, .int 110, .int 32]) (z := (20 : Int32)) ⟨by decide +kernel, by decide +kernel⟩ (by decide) (by decide) (g := (mkF m 34 #[iv p0, jv q1, ss, iv 1, rv b729, rv sx_731, uu, uu, uu, uu, uu] [])) rfl (hb hby at_34) (n := 80) (by decide +kernel) (by decide) (by decide) (by decide)
  have wa := wa.ext E732
  have wb := wb.ext E732
  have wy := wy.ext E732
  have wj := wj.ext E732
  have wl := wl.ext E732
  have je := je.ext E732
  have wD := wD.ext E732
  have K732 := K731.ext E732
  have wJ := EA732
  have wt := FC732
  have wp := FV732
  have wH := AV732
  refine Ends.j 36 [.ref a732] st732 ?_
  refine oxm X732 hy at_36 41 ?_
  refine Ends.step (fun _ k => XS.astore X732.here hx rfl (hb hby at_41) rfl rfl (l' := #[iv p0, jv q1, ss, iv 1, rv b729, rv sx_731, rv a732, uu, uu, uu, uu]) rfl k) ?_
  have wH : Arv Z h732 b732 kc732 .byte 20 (own_L (20 : Int32).toNatClampNeg qL1) (.int 0) := wH
  show Ends p e below QQ (T732.setTop (mkF m 43 #[iv p0, jv q1, ss, iv 1, rv b729, rv sx_731, rv a732, uu, uu, uu, uu] []))
  refine oH X732 hy at_43 45 19 rfl ?_
  obtain ⟨T733, h733, k733, X733, e733, E733, A733, Y733, st733⟩ := newPE X732 hx hZ (tb hw 181 rfl) e732 (g := (mkF m 45 #[iv p0, jv q1, ss, iv 1, rv b729, rv sx_731, rv a732, uu, uu, uu, uu] [.int 19])) rfl (hb hby at_45) rfl (by decide) (cap := 19) (by decide) (by decide) (by decide) (by decide) (ad := "[J") (by decide)
  obtain ⟨b733, g733⟩ : ∃ z, z = h732.size := ⟨_, rfl⟩
  rw [← g733] at A733 Y733 st733
  have wF : sx_731 ≠ b733 := Nat.ne_of_lt (Nat.lt_of_lt_of_le wy.lt (Nat.le_of_eq g733.symm))
  have wW : sa_731 ≠ b733 := Nat.ne_of_lt (Nat.lt_of_lt_of_le je.lt (Nat.le_of_eq g733.symm))
  have wO : a732 ≠ b733 := Nat.ne_of_lt (Nat.lt_of_lt_of_le wJ.lt (Nat.le_of_eq g733.symm))
  have vc : b732 ≠ b733 := Nat.ne_of_lt (Nat.lt_of_lt_of_le wH.lt (Nat.le_of_eq g733.symm))
  have vB : n0 ≤ b733 := Nat.le_trans Z0 (Nat.le_trans K732.1 (Nat.le_of_eq g733.symm))
  have vt : h0.size ≤ b733 := Nat.le_trans K732.1 (Nat.le_of_eq g733.symm)
  have wa := wa.ext E733
  have wb := wb.ext E733
  have hk := Nat.le_trans hk E733.1
  have wy := wy.ext E733
  have wj := wj.ext E733
  have wl := wl.ext E733
  have wD := wD.ext E733
  have wJ := wJ.ext E733
  have wt := wt.ext E733
  have wp := wp.ext E733
  have wH := wH.ext E733
  have K733 := K732.ext E733
  have wB : Arv Z h733 b733 k733 .long 19 [.long 0, .long 0, .long 0, .long 0, .long 0, .long 0, .long 0, .long 0, .long 0, .long 0, .long 0, .long 0, .long 0, .long 0, .long 0, .long 0, .long 0, .long 0, .long 0] (.long 0) := (Arv.new A733 (by decide)).pad (pad_rep [] (.long 0) 19)
  refine Ends.j 47 [.ref b733] st733 ?_
  refine oxd X733 hy at_47 48 rfl (oG X733 hy at_48 49 0 rfl (oJ X733 hy at_49 50 1 rfl ?_))
  refine aSJ X733 hy hZ e733 wB at_50 51 ⟨by decide, by decide⟩ fun T735 h735 X735 e735 W735 => ?_
  have wa := wa.wr W735
  have wb := wb.wr W735
  have hk := Nat.le_trans hk (Nat.le_of_eq W735.size.symm)
  have wy := wy.wr W735
  have wj := wj.other W735 (Or.inl wF)
  have wl := wl.other W735 (Or.inl wF)
  have wD := wD.other W735 wW
  have wJ := wJ.wr W735
  have wt := wt.other W735 (Or.inl wO)
  have wp := wp.other W735 (Or.inl wO)
  have wH := wH.other W735 vc
  have wB : Arv Z h735 b733 k733 .long 19 [.long 1, .long 0, .long 0, .long 0, .long 0, .long 0, .long 0, .long 0, .long 0, .long 0, .long 0, .long 0, .long 0, .long 0, .long 0, .long 0, .long 0, .long 0, .long 0] (.long 0) := As wB rfl W735 0 rfl (Nat.le_of_ble_eq_true rfl)
  have K735 := K733.wr W735 (Or.inr vt)
  have N735 := Fr.snoc X735 N731 vB
  refine oxd X735 hy at_51 52 rfl (oG X735 hy at_52 53 1 rfl (oJ2 X735 hy hown hZ hw at_53 56 10 182 rfl ?_))
  refine aSJ X735 hy hZ e735 wB at_56 57 ⟨by decide, by decide⟩ fun T737 h737 X737 e737 W737 => ?_
  have wa := wa.wr W737
  have wb := wb.wr W737
  have hk := Nat.le_trans hk (Nat.le_of_eq W737.size.symm)
  have wy := wy.wr W737
  have wj := wj.other W737 (Or.inl wF)
  have wl := wl.other W737 (Or.inl wF)
  have wD := wD.other W737 wW
  have wJ := wJ.wr W737
  have wt := wt.other W737 (Or.inl wO)
  have wp := wp.other W737 (Or.inl wO)
  have wH := wH.other W737 vc
  have wB : Arv Z h737 b733 k733 .long 19 [.long 1, .long 10, .long 0, .long 0, .long 0, .long 0, .long 0, .long 0, .long 0, .long 0, .long 0, .long 0, .long 0, .long 0, .long 0, .long 0, .long 0, .long 0, .long 0] (.long 0) := As wB rfl W737 1 rfl (Nat.le_of_ble_eq_true rfl)
  have K737 := K735.wr W737 (Or.inr vt)
  have N737 := Fr.snoc X737 N735 vB
  refine oxd X737 hy at_57 58 rfl (oG X737 hy at_58 59 2 rfl (oJ2 X737 hy hown hZ hw at_59 62 100 183 rfl ?_))
  refine aSJ X737 hy hZ e737 wB at_62 63 ⟨by decide, by decide⟩ fun T739 h739 X739 e739 W739 => ?_
  have wa := wa.wr W739
  have wb := wb.wr W739
  have hk := Nat.le_trans hk (Nat.le_of_eq W739.size.symm)
  have wy := wy.wr W739
  have wj := wj.other W739 (Or.inl wF)
  have wl := wl.other W739 (Or.inl wF)
  have wD := wD.other W739 wW
  have wJ := wJ.wr W739
  have wt := wt.other W739 (Or.inl wO)
  have wp := wp.other W739 (Or.inl wO)
  have wH := wH.other W739 vc
  have wB : Arv Z h739 b733 k733 .long 19 [.long 1, .long 10, .long 100, .long 0, .long 0, .long 0, .long 0, .long 0, .long 0, .long 0, .long 0, .long 0, .long 0, .long 0, .long 0, .long 0, .long 0, .long 0, .long 0] (.long 0) := As wB rfl W739 2 rfl (Nat.le_of_ble_eq_true rfl)
  have K739 := K737.wr W739 (Or.inr vt)
  have N739 := Fr.snoc X739 N737 vB
  refine oxd X739 hy at_63 64 rfl (oG X739 hy at_64 65 3 rfl (oJ2 X739 hy hown hZ hw at_65 68 1000 184 rfl ?_))
  refine aSJ X739 hy hZ e739 wB at_68 69 ⟨by decide, by decide⟩ fun T741 h741 X741 e741 W741 => ?_
  have wa := wa.wr W741
  have wb := wb.wr W741
  have hk := Nat.le_trans hk (Nat.le_of_eq W741.size.symm)
  have wy := wy.wr W741
  have wj := wj.other W741 (Or.inl wF)
  have wl := wl.other W741 (Or.inl wF)
  have wD := wD.other W741 wW
  have wJ := wJ.wr W741
  have wt := wt.other W741 (Or.inl wO)
  have wp := wp.other W741 (Or.inl wO)
  have wH := wH.other W741 vc
  have wB : Arv Z h741 b733 k733 .long 19 [.long 1, .long 10, .long 100, .long 1000, .long 0, .long 0, .long 0, .long 0, .long 0, .long 0, .long 0, .long 0, .long 0, .long 0, .long 0, .long 0, .long 0, .long 0, .long 0] (.long 0) := As wB rfl W741 3 rfl (Nat.le_of_ble_eq_true rfl)
  have K741 := K739.wr W741 (Or.inr vt)
  have N741 := Fr.snoc X741 N739 vB
  refine oxd X741 hy at_69 70 rfl (oG X741 hy at_70 71 4 rfl (oJ2 X741 hy hown hZ hw at_71 74 10000 185 rfl ?_))
  refine aSJ X741 hy hZ e741 wB at_74 75 ⟨by decide, by decide⟩ fun T743 h743 X743 e743 W743 => ?_
  have wa := wa.wr W743
  have wb := wb.wr W743
  have hk := Nat.le_trans hk (Nat.le_of_eq W743.size.symm)
  have wy := wy.wr W743
  have wj := wj.other W743 (Or.inl wF)
  have wl := wl.other W743 (Or.inl wF)
  have wD := wD.other W743 wW
  have wJ := wJ.wr W743
  have wt := wt.other W743 (Or.inl wO)
  have wp := wp.other W743 (Or.inl wO)
  have wH := wH.other W743 vc
  have wB : Arv Z h743 b733 k733 .long 19 [.long 1, .long 10, .long 100, .long 1000, .long 10000, .long 0, .long 0, .long 0, .long 0, .long 0, .long 0, .long 0, .long 0, .long 0, .long 0, .long 0, .long 0, .long 0, .long 0] (.long 0) := As wB rfl W743 4 rfl (Nat.le_of_ble_eq_true rfl)
  have K743 := K741.wr W743 (Or.inr vt)
  have N743 := Fr.snoc X743 N741 vB
  refine oxd X743 hy at_75 76 rfl (oG X743 hy at_76 77 5 rfl (oJ2 X743 hy hown hZ hw at_77 80 100000 186 rfl ?_))
  refine aSJ X743 hy hZ e743 wB at_80 81 ⟨by decide, by decide⟩ fun T745 h745 X745 e745 W745 => ?_
  have wa := wa.wr W745
  have wb := wb.wr W745
  have hk := Nat.le_trans hk (Nat.le_of_eq W745.size.symm)
  have wy := wy.wr W745
  have wj := wj.other W745 (Or.inl wF)
  have wl := wl.other W745 (Or.inl wF)
  have wD := wD.other W745 wW
  have wJ := wJ.wr W745
  have wt := wt.other W745 (Or.inl wO)
  have wp := wp.other W745 (Or.inl wO)
  have wH := wH.other W745 vc
  have wB : Arv Z h745 b733 k733 .long 19 [.long 1, .long 10, .long 100, .long 1000, .long 10000, .long 100000, .long 0, .long 0, .long 0, .long 0, .long 0, .long 0, .long 0, .long 0, .long 0, .long 0, .long 0, .long 0, .long 0] (.long 0) := As wB rfl W745 5 rfl (Nat.le_of_ble_eq_true rfl)
  have K745 := K743.wr W745 (Or.inr vt)
  have N745 := Fr.snoc X745 N743 vB
  refine oxd X745 hy at_81 82 rfl (oH X745 hy at_82 84 6 rfl (oJ2 X745 hy hown hZ hw at_84 87 1000000 187 rfl ?_))
  refine aSJ X745 hy hZ e745 wB at_87 88 ⟨by decide, by decide⟩ fun T747 h747 X747 e747 W747 => ?_
  have wa := wa.wr W747
  have wb := wb.wr W747
  have hk := Nat.le_trans hk (Nat.le_of_eq W747.size.symm)
  have wy := wy.wr W747
  have wj := wj.other W747 (Or.inl wF)
  have wl := wl.other W747 (Or.inl wF)
  have wD := wD.other W747 wW
  have wJ := wJ.wr W747
  have wt := wt.other W747 (Or.inl wO)
  have wp := wp.other W747 (Or.inl wO)
  have wH := wH.other W747 vc
  have wB : Arv Z h747 b733 k733 .long 19 [.long 1, .long 10, .long 100, .long 1000, .long 10000, .long 100000, .long 1000000, .long 0, .long 0, .long 0, .long 0, .long 0, .long 0, .long 0, .long 0, .long 0, .long 0, .long 0, .long 0] (.long 0) := As wB rfl W747 6 rfl (Nat.le_of_ble_eq_true rfl)
  have K747 := K745.wr W747 (Or.inr vt)
  have N747 := Fr.snoc X747 N745 vB
  refine oxd X747 hy at_88 89 rfl (oH X747 hy at_89 91 7 rfl (oJ2 X747 hy hown hZ hw at_91 94 10000000 188 rfl ?_))
  refine aSJ X747 hy hZ e747 wB at_94 95 ⟨by decide, by decide⟩ fun T749 h749 X749 e749 W749 => ?_
  have wa := wa.wr W749
  have wb := wb.wr W749
  have hk := Nat.le_trans hk (Nat.le_of_eq W749.size.symm)
  have wy := wy.wr W749
  have wj := wj.other W749 (Or.inl wF)
  have wl := wl.other W749 (Or.inl wF)
  have wD := wD.other W749 wW
  have wJ := wJ.wr W749
  have wt := wt.other W749 (Or.inl wO)
  have wp := wp.other W749 (Or.inl wO)
  have wH := wH.other W749 vc
  have wB : Arv Z h749 b733 k733 .long 19 [.long 1, .long 10, .long 100, .long 1000, .long 10000, .long 100000, .long 1000000, .long 10000000, .long 0, .long 0, .long 0, .long 0, .long 0, .long 0, .long 0, .long 0, .long 0, .long 0, .long 0] (.long 0) := As wB rfl W749 7 rfl (Nat.le_of_ble_eq_true rfl)
  have K749 := K747.wr W749 (Or.inr vt)
  have N749 := Fr.snoc X749 N747 vB
  refine oxd X749 hy at_95 96 rfl (oH X749 hy at_96 98 8 rfl (oJ2 X749 hy hown hZ hw at_98 101 100000000 189 rfl ?_))
  refine aSJ X749 hy hZ e749 wB at_101 102 ⟨by decide, by decide⟩ fun T751 h751 X751 e751 W751 => ?_
  have wa := wa.wr W751
  have wb := wb.wr W751
  have hk := Nat.le_trans hk (Nat.le_of_eq W751.size.symm)
  have wy := wy.wr W751
  have wj := wj.other W751 (Or.inl wF)
  have wl := wl.other W751 (Or.inl wF)
  have wD := wD.other W751 wW
  have wJ := wJ.wr W751
  have wt := wt.other W751 (Or.inl wO)
  have wp := wp.other W751 (Or.inl wO)
  have wH := wH.other W751 vc
  have wB : Arv Z h751 b733 k733 .long 19 [.long 1, .long 10, .long 100, .long 1000, .long 10000, .long 100000, .long 1000000, .long 10000000, .long 100000000, .long 0, .long 0, .long 0, .long 0, .long 0, .long 0, .long 0, .long 0, .long 0, .long 0] (.long 0) := As wB rfl W751 8 rfl (Nat.le_of_ble_eq_true rfl)
  have K751 := K749.wr W751 (Or.inr vt)
  have N751 := Fr.snoc X751 N749 vB
  refine oxd X751 hy at_102 103 rfl (oH X751 hy at_103 105 9 rfl (oJ2 X751 hy hown hZ hw at_105 108 1000000000 190 rfl ?_))
  refine aSJ X751 hy hZ e751 wB at_108 109 ⟨by decide, by decide⟩ fun T753 h753 X753 e753 W753 => ?_
  have wa := wa.wr W753
  have wb := wb.wr W753
  have hk := Nat.le_trans hk (Nat.le_of_eq W753.size.symm)
  have wy := wy.wr W753
  have wj := wj.other W753 (Or.inl wF)
  have wl := wl.other W753 (Or.inl wF)
  have wD := wD.other W753 wW
  have wJ := wJ.wr W753
  have wt := wt.other W753 (Or.inl wO)
  have wp := wp.other W753 (Or.inl wO)
  have wH := wH.other W753 vc
  have wB : Arv Z h753 b733 k733 .long 19 [.long 1, .long 10, .long 100, .long 1000, .long 10000, .long 100000, .long 1000000, .long 10000000, .long 100000000, .long 1000000000, .long 0, .long 0, .long 0, .long 0, .long 0, .long 0, .long 0, .long 0, .long 0] (.long 0) := As wB rfl W753 9 rfl (Nat.le_of_ble_eq_true rfl)
  have K753 := K751.wr W753 (Or.inr vt)
  have N753 := Fr.snoc X753 N751 vB
  refine oxd X753 hy at_109 110 rfl (oH X753 hy at_110 112 10 rfl (oJ2 X753 hy hown hZ hw at_112 115 10000000000 191 rfl ?_))
  refine aSJ X753 hy hZ e753 wB at_115 116 ⟨by decide, by decide⟩ fun T755 h755 X755 e755 W755 => ?_
  have wa := wa.wr W755
  have wb := wb.wr W755
  have hk := Nat.le_trans hk (Nat.le_of_eq W755.size.symm)
  have wy := wy.wr W755
  have wj := wj.other W755 (Or.inl wF)
  have wl := wl.other W755 (Or.inl wF)
  have wD := wD.other W755 wW
  have wJ := wJ.wr W755
  have wt := wt.other W755 (Or.inl wO)
  have wp := wp.other W755 (Or.inl wO)
  have wH := wH.other W755 vc
  have wB : Arv Z h755 b733 k733 .long 19 [.long 1, .long 10, .long 100, .long 1000, .long 10000, .long 100000, .long 1000000, .long 10000000, .long 100000000, .long 1000000000, .long 10000000000, .long 0, .long 0, .long 0, .long 0, .long 0, .long 0, .long 0, .long 0] (.long 0) := As wB rfl W755 10 rfl (Nat.le_of_ble_eq_true rfl)
  have K755 := K753.wr W755 (Or.inr vt)
  have N755 := Fr.snoc X755 N753 vB
  refine oxd X755 hy at_116 117 rfl (oH X755 hy at_117 119 11 rfl (oJ2 X755 hy hown hZ hw at_119 122 100000000000 192 rfl ?_))
  refine aSJ X755 hy hZ e755 wB at_122 123 ⟨by decide, by decide⟩ fun T757 h757 X757 e757 W757 => ?_
  have wa := wa.wr W757
  have wb := wb.wr W757
  have hk := Nat.le_trans hk (Nat.le_of_eq W757.size.symm)
  have wy := wy.wr W757
  have wj := wj.other W757 (Or.inl wF)
  have wl := wl.other W757 (Or.inl wF)
  have wD := wD.other W757 wW
  have wJ := wJ.wr W757
  have wt := wt.other W757 (Or.inl wO)
  have wp := wp.other W757 (Or.inl wO)
  have wH := wH.other W757 vc
  have wB : Arv Z h757 b733 k733 .long 19 [.long 1, .long 10, .long 100, .long 1000, .long 10000, .long 100000, .long 1000000, .long 10000000, .long 100000000, .long 1000000000, .long 10000000000, .long 100000000000, .long 0, .long 0, .long 0, .long 0, .long 0, .long 0, .long 0] (.long 0) := As wB rfl W757 11 rfl (Nat.le_of_ble_eq_true rfl)
  have K757 := K755.wr W757 (Or.inr vt)
  have N757 := Fr.snoc X757 N755 vB
  refine oxd X757 hy at_123 124 rfl (oH X757 hy at_124 126 12 rfl (oJ2 X757 hy hown hZ hw at_126 129 1000000000000 193 rfl ?_))
  refine aSJ X757 hy hZ e757 wB at_129 130 ⟨by decide, by decide⟩ fun T759 h759 X759 e759 W759 => ?_
  have wa := wa.wr W759
  have wb := wb.wr W759
  have hk := Nat.le_trans hk (Nat.le_of_eq W759.size.symm)
  have wy := wy.wr W759
  have wj := wj.other W759 (Or.inl wF)
  have wl := wl.other W759 (Or.inl wF)
  have wD := wD.other W759 wW
  have wJ := wJ.wr W759
  have wt := wt.other W759 (Or.inl wO)
  have wp := wp.other W759 (Or.inl wO)
  have wH := wH.other W759 vc
  have wB : Arv Z h759 b733 k733 .long 19 [.long 1, .long 10, .long 100, .long 1000, .long 10000, .long 100000, .long 1000000, .long 10000000, .long 100000000, .long 1000000000, .long 10000000000, .long 100000000000, .long 1000000000000, .long 0, .long 0, .long 0, .long 0, .long 0, .long 0] (.long 0) := As wB rfl W759 12 rfl (Nat.le_of_ble_eq_true rfl)
  have K759 := K757.wr W759 (Or.inr vt)
  have N759 := Fr.snoc X759 N757 vB
  refine oxd X759 hy at_130 131 rfl (oH X759 hy at_131 133 13 rfl (oJ2 X759 hy hown hZ hw at_133 136 10000000000000 194 rfl ?_))
  refine aSJ X759 hy hZ e759 wB at_136 137 ⟨by decide, by decide⟩ fun T761 h761 X761 e761 W761 => ?_
  have wa := wa.wr W761
  have wb := wb.wr W761
  have hk := Nat.le_trans hk (Nat.le_of_eq W761.size.symm)
  have wy := wy.wr W761
  have wj := wj.other W761 (Or.inl wF)
  have wl := wl.other W761 (Or.inl wF)
  have wD := wD.other W761 wW
  have wJ := wJ.wr W761
  have wt := wt.other W761 (Or.inl wO)
  have wp := wp.other W761 (Or.inl wO)
  have wH := wH.other W761 vc
  have wB : Arv Z h761 b733 k733 .long 19 [.long 1, .long 10, .long 100, .long 1000, .long 10000, .long 100000, .long 1000000, .long 10000000, .long 100000000, .long 1000000000, .long 10000000000, .long 100000000000, .long 1000000000000, .long 10000000000000, .long 0, .long 0, .long 0, .long 0, .long 0] (.long 0) := As wB rfl W761 13 rfl (Nat.le_of_ble_eq_true rfl)
  have K761 := K759.wr W761 (Or.inr vt)
  have N761 := Fr.snoc X761 N759 vB
  refine oxd X761 hy at_137 138 rfl (oH X761 hy at_138 140 14 rfl (oJ2 X761 hy hown hZ hw at_140 143 100000000000000 195 rfl ?_))
  refine aSJ X761 hy hZ e761 wB at_143 144 ⟨by decide, by decide⟩ fun T763 h763 X763 e763 W763 => ?_
  have wa := wa.wr W763
  have wb := wb.wr W763
  have hk := Nat.le_trans hk (Nat.le_of_eq W763.size.symm)
  have wy := wy.wr W763
  have wj := wj.other W763 (Or.inl wF)
  have wl := wl.other W763 (Or.inl wF)
  have wD := wD.other W763 wW
  have wJ := wJ.wr W763
  have wt := wt.other W763 (Or.inl wO)
  have wp := wp.other W763 (Or.inl wO)
  have wH := wH.other W763 vc
  have wB : Arv Z h763 b733 k733 .long 19 [.long 1, .long 10, .long 100, .long 1000, .long 10000, .long 100000, .long 1000000, .long 10000000, .long 100000000, .long 1000000000, .long 10000000000, .long 100000000000, .long 1000000000000, .long 10000000000000, .long 100000000000000, .long 0, .long 0, .long 0, .long 0] (.long 0) := As wB rfl W763 14 rfl (Nat.le_of_ble_eq_true rfl)
  have K763 := K761.wr W763 (Or.inr vt)
  have N763 := Fr.snoc X763 N761 vB
  refine oxd X763 hy at_144 145 rfl (oH X763 hy at_145 147 15 rfl (oJ2 X763 hy hown hZ hw at_147 150 1000000000000000 196 rfl ?_))
  refine aSJ X763 hy hZ e763 wB at_150 151 ⟨by decide, by decide⟩ fun T765 h765 X765 e765 W765 => ?_
  have wa := wa.wr W765
  have wb := wb.wr W765
  have hk := Nat.le_trans hk (Nat.le_of_eq W765.size.symm)
  have wy := wy.wr W765
  have wj := wj.other W765 (Or.inl wF)
  have wl := wl.other W765 (Or.inl wF)
  have wD := wD.other W765 wW
  have wJ := wJ.wr W765
  have wt := wt.other W765 (Or.inl wO)
  have wp := wp.other W765 (Or.inl wO)
  have wH := wH.other W765 vc
  have wB : Arv Z h765 b733 k733 .long 19 [.long 1, .long 10, .long 100, .long 1000, .long 10000, .long 100000, .long 1000000, .long 10000000, .long 100000000, .long 1000000000, .long 10000000000, .long 100000000000, .long 1000000000000, .long 10000000000000, .long 100000000000000, .long 1000000000000000, .long 0, .long 0, .long 0] (.long 0) := As wB rfl W765 15 rfl (Nat.le_of_ble_eq_true rfl)
  have K765 := K763.wr W765 (Or.inr vt)
  have N765 := Fr.snoc X765 N763 vB
  refine oxd X765 hy at_151 152 rfl (oH X765 hy at_152 154 16 rfl (oJ2 X765 hy hown hZ hw at_154 157 10000000000000000 197 rfl ?_))
  refine aSJ X765 hy hZ e765 wB at_157 158 ⟨by decide, by decide⟩ fun T767 h767 X767 e767 W767 => ?_
  have wa := wa.wr W767
  have wb := wb.wr W767
  have hk := Nat.le_trans hk (Nat.le_of_eq W767.size.symm)
  have wy := wy.wr W767
  have wj := wj.other W767 (Or.inl wF)
  have wl := wl.other W767 (Or.inl wF)
  have wD := wD.other W767 wW
  have wJ := wJ.wr W767
  have wt := wt.other W767 (Or.inl wO)
  have wp := wp.other W767 (Or.inl wO)
  have wH := wH.other W767 vc
  have wB : Arv Z h767 b733 k733 .long 19 [.long 1, .long 10, .long 100, .long 1000, .long 10000, .long 100000, .long 1000000, .long 10000000, .long 100000000, .long 1000000000, .long 10000000000, .long 100000000000, .long 1000000000000, .long 10000000000000, .long 100000000000000, .long 1000000000000000, .long 10000000000000000, .long 0, .long 0] (.long 0) := As wB rfl W767 16 rfl (Nat.le_of_ble_eq_true rfl)
  have K767 := K765.wr W767 (Or.inr vt)
  have N767 := Fr.snoc X767 N765 vB
  refine oxd X767 hy at_158 159 rfl (oH X767 hy at_159 161 17 rfl (oJ2 X767 hy hown hZ hw at_161 164 100000000000000000 198 rfl ?_))
  refine aSJ X767 hy hZ e767 wB at_164 165 ⟨by decide, by decide⟩ fun T769 h769 X769 e769 W769 => ?_
  have wa := wa.wr W769
  have wb := wb.wr W769
  have hk := Nat.le_trans hk (Nat.le_of_eq W769.size.symm)
  have wy := wy.wr W769
  have wj := wj.other W769 (Or.inl wF)
  have wl := wl.other W769 (Or.inl wF)
  have wD := wD.other W769 wW
  have wJ := wJ.wr W769
  have wt := wt.other W769 (Or.inl wO)
  have wp := wp.other W769 (Or.inl wO)
  have wH := wH.other W769 vc
  have wB : Arv Z h769 b733 k733 .long 19 [.long 1, .long 10, .long 100, .long 1000, .long 10000, .long 100000, .long 1000000, .long 10000000, .long 100000000, .long 1000000000, .long 10000000000, .long 100000000000, .long 1000000000000, .long 10000000000000, .long 100000000000000, .long 1000000000000000, .long 10000000000000000, .long 100000000000000000, .long 0] (.long 0) := As wB rfl W769 17 rfl (Nat.le_of_ble_eq_true rfl)
  have K769 := K767.wr W769 (Or.inr vt)
  have N769 := Fr.snoc X769 N767 vB
  refine oxd X769 hy at_165 166 rfl (oH X769 hy at_166 168 18 rfl (oJ2 X769 hy hown hZ hw at_168 171 1000000000000000000 199 rfl ?_))
  refine aSJ X769 hy hZ e769 wB at_171 172 ⟨by decide, by decide⟩ fun T771 h771 X771 e771 W771 => ?_
  have wa := wa.wr W771
  have wb := wb.wr W771
  have hk := Nat.le_trans hk (Nat.le_of_eq W771.size.symm)
  have wy := wy.wr W771
  have wj := wj.other W771 (Or.inl wF)
  have wl := wl.other W771 (Or.inl wF)
  have wD := wD.other W771 wW
  have wJ := wJ.wr W771
  have wt := wt.other W771 (Or.inl wO)
  have wp := wp.other W771 (Or.inl wO)
  have wH := wH.other W771 vc
  have wB : Arv Z h771 b733 k733 .long 19 [.long 1, .long 10, .long 100, .long 1000, .long 10000, .long 100000, .long 1000000, .long 10000000, .long 100000000, .long 1000000000, .long 10000000000, .long 100000000000, .long 1000000000000, .long 10000000000000, .long 100000000000000, .long 1000000000000000, .long 10000000000000000, .long 100000000000000000, .long 1000000000000000000] (.long 0) := As wB rfl W771 18 rfl (Nat.le_of_ble_eq_true rfl)
  have K771 := K769.wr W771 (Or.inr vt)
  have N771 := Fr.snoc X771 N769 vB
  refine oxs X771 hy at_172 174 #[iv p0, jv q1, ss, iv 1, rv b729, rv sx_731, rv a732, rv b733, uu, uu, uu] rfl (oG X771 hy at_174 175 1 rfl (oE X771 hy at_175 176 rfl (oB X771 hy at_176 178 rfl (oG X771 hy at_178 179 1 rfl (aLJ X771 hy hZ e771 wB at_179 180 (.long 10) ⟨by decide, by decide⟩ (rfl) ?_)))))
  refine cS X771 hy hml hown hZ hw at_180 183 1 200 201 202 203 rfl rfl rfl rfl (rmnz l Z a0 hw [] q1 (10 : Int64) h771 n0 (Nat.le_trans Z0 K771.1) (by decide)) e771 pd_29 rfl rfl fun _ T773 Lc773 X773 hQ773 => ?_
  obtain ⟨rfl, Nq773, hh773⟩ := hQ773
  have N773 := Fr.app N771 Nq773
  refine Ends.v (oK X773 hy at_183 184 (oE X773 hy at_184 185 rfl (oB X773 hy at_185 187 rfl (oG X773 hy at_187 188 2 rfl (aLJ X773 hy hZ hh773 wB at_188 189 (.long 100) ⟨by decide, by decide⟩ (rfl) ?_)))))
  refine cS X773 hy hml hown hZ hw at_189 192 1 200 201 202 203 rfl rfl rfl rfl (rmnz l Z a0 hw [] q1 (100 : Int64) h771 n0 (Nat.le_trans Z0 K771.1) (by decide)) hh773 pd_29 rfl rfl fun _ T775 Lc775 X775 hQ775 => ?_
  obtain ⟨rfl, Nq775, hh775⟩ := hQ775
  have N775 := Fr.app N773 Nq775
  refine Ends.v (oK X775 hy at_192 193 (oE X775 hy at_193 194 rfl (oB X775 hy at_194 196 rfl (oG X775 hy at_196 197 3 rfl (aLJ X775 hy hZ hh775 wB at_197 198 (.long 1000) ⟨by decide, by decide⟩ (rfl) ?_)))))
  refine cS X775 hy hml hown hZ hw at_198 201 1 200 201 202 203 rfl rfl rfl rfl (rmnz l Z a0 hw [] q1 (1000 : Int64) h771 n0 (Nat.le_trans Z0 K771.1) (by decide)) hh775 pd_29 rfl rfl fun _ T777 Lc777 X777 hQ777 => ?_
  obtain ⟨rfl, Nq777, hh777⟩ := hQ777
  have N777 := Fr.app N775 Nq777
  refine Ends.v (oK X777 hy at_201 202 (oE X777 hy at_202 203 rfl (oB X777 hy at_203 205 rfl (oG X777 hy at_205 206 4 rfl (aLJ X777 hy hZ hh777 wB at_206 207 (.long 10000) ⟨by decide, by decide⟩ (rfl) ?_)))))
  refine cS X777 hy hml hown hZ hw at_207 210 1 200 201 202 203 rfl rfl rfl rfl (rmnz l Z a0 hw [] q1 (10000 : Int64) h771 n0 (Nat.le_trans Z0 K771.1) (by decide)) hh777 pd_29 rfl rfl fun _ T779 Lc779 X779 hQ779 => ?_
  obtain ⟨rfl, Nq779, hh779⟩ := hQ779
  have N779 := Fr.app N777 Nq779
  refine Ends.v (oK X779 hy at_210 211 (oE X779 hy at_211 212 rfl (oB X779 hy at_212 214 rfl (oG X779 hy at_214 215 5 rfl (aLJ X779 hy hZ hh779 wB at_215 216 (.long 100000) ⟨by decide, by decide⟩ (rfl) ?_)))))
  refine cS X779 hy hml hown hZ hw at_216 219 1 200 201 202 203 rfl rfl rfl rfl (rmnz l Z a0 hw [] q1 (100000 : Int64) h771 n0 (Nat.le_trans Z0 K771.1) (by decide)) hh779 pd_29 rfl rfl fun _ T781 Lc781 X781 hQ781 => ?_
  obtain ⟨rfl, Nq781, hh781⟩ := hQ781
  have N781 := Fr.app N779 Nq781
  refine Ends.v (oK X781 hy at_219 220 (oE X781 hy at_220 221 rfl (oB X781 hy at_221 223 rfl (oH X781 hy at_223 225 6 rfl (aLJ X781 hy hZ hh781 wB at_225 226 (.long 1000000) ⟨by decide, by decide⟩ (rfl) ?_)))))
  refine cS X781 hy hml hown hZ hw at_226 229 1 200 201 202 203 rfl rfl rfl rfl (rmnz l Z a0 hw [] q1 (1000000 : Int64) h771 n0 (Nat.le_trans Z0 K771.1) (by decide)) hh781 pd_29 rfl rfl fun _ T783 Lc783 X783 hQ783 => ?_
  obtain ⟨rfl, Nq783, hh783⟩ := hQ783
  have N783 := Fr.app N781 Nq783
  refine Ends.v (oK X783 hy at_229 230 (oE X783 hy at_230 231 rfl (oB X783 hy at_231 233 rfl (oH X783 hy at_233 235 7 rfl (aLJ X783 hy hZ hh783 wB at_235 236 (.long 10000000) ⟨by decide, by decide⟩ (rfl) ?_)))))
  refine cS X783 hy hml hown hZ hw at_236 239 1 200 201 202 203 rfl rfl rfl rfl (rmnz l Z a0 hw [] q1 (10000000 : Int64) h771 n0 (Nat.le_trans Z0 K771.1) (by decide)) hh783 pd_29 rfl rfl fun _ T785 Lc785 X785 hQ785 => ?_
  obtain ⟨rfl, Nq785, hh785⟩ := hQ785
  have N785 := Fr.app N783 Nq785
  refine Ends.v (oK X785 hy at_239 240 (oE X785 hy at_240 241 rfl (oB X785 hy at_241 243 rfl (oH X785 hy at_243 245 8 rfl (aLJ X785 hy hZ hh785 wB at_245 246 (.long 100000000) ⟨by decide, by decide⟩ (rfl) ?_)))))
  refine cS X785 hy hml hown hZ hw at_246 249 1 200 201 202 203 rfl rfl rfl rfl (rmnz l Z a0 hw [] q1 (100000000 : Int64) h771 n0 (Nat.le_trans Z0 K771.1) (by decide)) hh785 pd_29 rfl rfl fun _ T787 Lc787 X787 hQ787 => ?_
  obtain ⟨rfl, Nq787, hh787⟩ := hQ787
  have N787 := Fr.app N785 Nq787
  refine Ends.v (oK X787 hy at_249 250 (oE X787 hy at_250 251 rfl (oB X787 hy at_251 253 rfl (oH X787 hy at_253 255 9 rfl (aLJ X787 hy hZ hh787 wB at_255 256 (.long 1000000000) ⟨by decide, by decide⟩ (rfl) ?_)))))
  refine cS X787 hy hml hown hZ hw at_256 259 1 200 201 202 203 rfl rfl rfl rfl (rmnz l Z a0 hw [] q1 (1000000000 : Int64) h771 n0 (Nat.le_trans Z0 K771.1) (by decide)) hh787 pd_29 rfl rfl fun _ T789 Lc789 X789 hQ789 => ?_
  obtain ⟨rfl, Nq789, hh789⟩ := hQ789
  have N789 := Fr.app N787 Nq789
  refine Ends.v (oK X789 hy at_259 260 (oE X789 hy at_260 261 rfl (oB X789 hy at_261 263 rfl (oH X789 hy at_263 265 10 rfl (aLJ X789 hy hZ hh789 wB at_265 266 (.long 10000000000) ⟨by decide, by decide⟩ (rfl) ?_)))))
  refine cS X789 hy hml hown hZ hw at_266 269 1 200 201 202 203 rfl rfl rfl rfl (rmnz l Z a0 hw [] q1 (10000000000 : Int64) h771 n0 (Nat.le_trans Z0 K771.1) (by decide)) hh789 pd_29 rfl rfl fun _ T791 Lc791 X791 hQ791 => ?_
  obtain ⟨rfl, Nq791, hh791⟩ := hQ791
  have N791 := Fr.app N789 Nq791
  refine Ends.v (oK X791 hy at_269 270 (oE X791 hy at_270 271 rfl (oB X791 hy at_271 273 rfl (oH X791 hy at_273 275 11 rfl (aLJ X791 hy hZ hh791 wB at_275 276 (.long 100000000000) ⟨by decide, by decide⟩ (rfl) ?_)))))
  refine cS X791 hy hml hown hZ hw at_276 279 1 200 201 202 203 rfl rfl rfl rfl (rmnz l Z a0 hw [] q1 (100000000000 : Int64) h771 n0 (Nat.le_trans Z0 K771.1) (by decide)) hh791 pd_29 rfl rfl fun _ T793 Lc793 X793 hQ793 => ?_
  obtain ⟨rfl, Nq793, hh793⟩ := hQ793
  have N793 := Fr.app N791 Nq793
  refine Ends.v (oK X793 hy at_279 280 (oE X793 hy at_280 281 rfl (oB X793 hy at_281 283 rfl (oH X793 hy at_283 285 12 rfl (aLJ X793 hy hZ hh793 wB at_285 286 (.long 1000000000000) ⟨by decide, by decide⟩ (rfl) ?_)))))
  refine cS X793 hy hml hown hZ hw at_286 289 1 200 201 202 203 rfl rfl rfl rfl (rmnz l Z a0 hw [] q1 (1000000000000 : Int64) h771 n0 (Nat.le_trans Z0 K771.1) (by decide)) hh793 pd_29 rfl rfl fun _ T795 Lc795 X795 hQ795 => ?_
  obtain ⟨rfl, Nq795, hh795⟩ := hQ795
  have N795 := Fr.app N793 Nq795
  refine Ends.v (oK X795 hy at_289 290 (oE X795 hy at_290 291 rfl (oB X795 hy at_291 293 rfl (oH X795 hy at_293 295 13 rfl (aLJ X795 hy hZ hh795 wB at_295 296 (.long 10000000000000) ⟨by decide, by decide⟩ (rfl) ?_)))))
  refine cS X795 hy hml hown hZ hw at_296 299 1 200 201 202 203 rfl rfl rfl rfl (rmnz l Z a0 hw [] q1 (10000000000000 : Int64) h771 n0 (Nat.le_trans Z0 K771.1) (by decide)) hh795 pd_29 rfl rfl fun _ T797 Lc797 X797 hQ797 => ?_
  obtain ⟨rfl, Nq797, hh797⟩ := hQ797
  have N797 := Fr.app N795 Nq797
  refine Ends.v (oK X797 hy at_299 300 (oE X797 hy at_300 301 rfl (oB X797 hy at_301 303 rfl (oH X797 hy at_303 305 14 rfl (aLJ X797 hy hZ hh797 wB at_305 306 (.long 100000000000000) ⟨by decide, by decide⟩ (rfl) ?_)))))
  refine cS X797 hy hml hown hZ hw at_306 309 1 200 201 202 203 rfl rfl rfl rfl (rmnz l Z a0 hw [] q1 (100000000000000 : Int64) h771 n0 (Nat.le_trans Z0 K771.1) (by decide)) hh797 pd_29 rfl rfl fun _ T799 Lc799 X799 hQ799 => ?_
  obtain ⟨rfl, Nq799, hh799⟩ := hQ799
  have N799 := Fr.app N797 Nq799
  refine Ends.v (oK X799 hy at_309 310 (oE X799 hy at_310 311 rfl (oB X799 hy at_311 313 rfl (oH X799 hy at_313 315 15 rfl (aLJ X799 hy hZ hh799 wB at_315 316 (.long 1000000000000000) ⟨by decide, by decide⟩ (rfl) ?_)))))
  refine cS X799 hy hml hown hZ hw at_316 319 1 200 201 202 203 rfl rfl rfl rfl (rmnz l Z a0 hw [] q1 (1000000000000000 : Int64) h771 n0 (Nat.le_trans Z0 K771.1) (by decide)) hh799 pd_29 rfl rfl fun _ T801 Lc801 X801 hQ801 => ?_
  obtain ⟨rfl, Nq801, hh801⟩ := hQ801
  have N801 := Fr.app N799 Nq801
  refine Ends.v (oK X801 hy at_319 320 (oE X801 hy at_320 321 rfl (oB X801 hy at_321 323 rfl (oH X801 hy at_323 325 16 rfl (aLJ X801 hy hZ hh801 wB at_325 326 (.long 10000000000000000) ⟨by decide, by decide⟩ (rfl) ?_)))))
  refine cS X801 hy hml hown hZ hw at_326 329 1 200 201 202 203 rfl rfl rfl rfl (rmnz l Z a0 hw [] q1 (10000000000000000 : Int64) h771 n0 (Nat.le_trans Z0 K771.1) (by decide)) hh801 pd_29 rfl rfl fun _ T803 Lc803 X803 hQ803 => ?_
  obtain ⟨rfl, Nq803, hh803⟩ := hQ803
  have N803 := Fr.app N801 Nq803
  refine Ends.v (oK X803 hy at_329 330 (oE X803 hy at_330 331 rfl (oB X803 hy at_331 333 rfl (oH X803 hy at_333 335 17 rfl (aLJ X803 hy hZ hh803 wB at_335 336 (.long 100000000000000000) ⟨by decide, by decide⟩ (rfl) ?_)))))
  refine cS X803 hy hml hown hZ hw at_336 339 1 200 201 202 203 rfl rfl rfl rfl (rmnz l Z a0 hw [] q1 (100000000000000000 : Int64) h771 n0 (Nat.le_trans Z0 K771.1) (by decide)) hh803 pd_29 rfl rfl fun _ T805 Lc805 X805 hQ805 => ?_
  obtain ⟨rfl, Nq805, hh805⟩ := hQ805
  have N805 := Fr.app N803 Nq805
  refine Ends.v (oK X805 hy at_339 340 (oE X805 hy at_340 341 rfl (oB X805 hy at_341 343 rfl (oH X805 hy at_343 345 18 rfl (aLJ X805 hy hZ hh805 wB at_345 346 (.long 1000000000000000000) ⟨by decide, by decide⟩ (rfl) ?_)))))
  refine cS X805 hy hml hown hZ hw at_346 349 1 200 201 202 203 rfl rfl rfl rfl (rmnz l Z a0 hw [] q1 (1000000000000000000 : Int64) h771 n0 (Nat.le_trans Z0 K771.1) (by decide)) hh805 pd_29 rfl rfl fun _ T807 Lc807 X807 hQ807 => ?_
  obtain ⟨rfl, Nq807, hh807⟩ := hQ807
  have N807 := Fr.app N805 Nq807
  refine Ends.v (oK X807 hy at_349 350 (oxo X807 hy at_350 352 #[iv p0, jv q1, ss, iv 1, rv b729, rv sx_731, rv a732, rv b733, iv (((((((((((((((((((1 : Int32) + (fnz q1 (10 : Int64))) + (fnz q1 (100 : Int64))) + (fnz q1 (1000 : Int64))) + (fnz q1 (10000 : Int64))) + (fnz q1 (100000 : Int64))) + (fnz q1 (1000000 : Int64))) + (fnz q1 (10000000 : Int64))) + (fnz q1 (100000000 : Int64))) + (fnz q1 (1000000000 : Int64))) + (fnz q1 (10000000000 : Int64))) + (fnz q1 (100000000000 : Int64))) + (fnz q1 (1000000000000 : Int64))) + (fnz q1 (10000000000000 : Int64))) + (fnz q1 (100000000000000 : Int64))) + (fnz q1 (1000000000000000 : Int64))) + (fnz q1 (10000000000000000 : Int64))) + (fnz q1 (100000000000000000 : Int64))) + (fnz q1 (1000000000000000000 : Int64))), uu, uu] rfl ?_))
  show Ends p e below QQ (T807.setTop (mkF m 352 #[iv p0, jv q1, ss, iv 1, rv b729, rv sx_731, rv a732, rv b733, iv (((((((((((((((((((1 : Int32) + (fnz q1 (10 : Int64))) + (fnz q1 (100 : Int64))) + (fnz q1 (1000 : Int64))) + (fnz q1 (10000 : Int64))) + (fnz q1 (100000 : Int64))) + (fnz q1 (1000000 : Int64))) + (fnz q1 (10000000 : Int64))) + (fnz q1 (100000000 : Int64))) + (fnz q1 (1000000000 : Int64))) + (fnz q1 (10000000000 : Int64))) + (fnz q1 (100000000000 : Int64))) + (fnz q1 (1000000000000 : Int64))) + (fnz q1 (10000000000000 : Int64))) + (fnz q1 (100000000000000 : Int64))) + (fnz q1 (1000000000000000 : Int64))) + (fnz q1 (10000000000000000 : Int64))) + (fnz q1 (100000000000000000 : Int64))) + (fnz q1 (1000000000000000000 : Int64))), uu, uu] []))
  generalize hv8_5 : (((((((((((((((((((1 : Int32) + (fnz q1 (10 : Int64))) + (fnz q1 (100 : Int64))) + (fnz q1 (1000 : Int64))) + (fnz q1 (10000 : Int64))) + (fnz q1 (100000 : Int64))) + (fnz q1 (1000000 : Int64))) + (fnz q1 (10000000 : Int64))) + (fnz q1 (100000000 : Int64))) + (fnz q1 (1000000000 : Int64))) + (fnz q1 (10000000000 : Int64))) + (fnz q1 (100000000000 : Int64))) + (fnz q1 (1000000000000 : Int64))) + (fnz q1 (10000000000000 : Int64))) + (fnz q1 (100000000000000 : Int64))) + (fnz q1 (1000000000000000 : Int64))) + (fnz q1 (10000000000000000 : Int64))) + (fnz q1 (100000000000000000 : Int64))) + (fnz q1 (1000000000000000000 : Int64))) = x8_5
  refine oD X807 hy at_352 354 rfl (oE X807 hy at_354 355 rfl (oJ X807 hy at_355 356 0 rfl (oY X807 hy at_356 357 ?_)))
  have J365_808 : (∀ (v365_6 : Int32) (hv365_6 : v365_6 = (if q1 < (0 : Int64) then (1 : Int32) else (0 : Int32))), Ends p e below QQ (T807.setTop (mkF m 365 #[iv p0, jv q1, ss, iv 1, rv b729, rv sx_731, rv a732, rv b733, iv x8_5, uu, uu] [.int v365_6, .int x8_5]))) → Ends p e below QQ (T807.setTop (mkF m 357 #[iv p0, jv q1, ss, iv 1, rv b729, rv sx_731, rv a732, rv b733, iv x8_5, uu, uu] [(.int (XT.cmpL q1 (0 : Int64))), .int x8_5])) := by
   intro hJ
   by_cases hc357_809 : q1 < (0 : Int64)
   ·refine oxh X807 hy at_357 360 (XT.ll_ge_f hc357_809) (oG X807 hy at_360 361 1 rfl ?_)
    refine Ends.step (fun _ k => XS.goto X807.here hx rfl (pc0 := 361) (pc' := 365) rfl (hb hby at_361) (by decide) (by decide) k) ?_
    exact hJ _ (by simp only [if_pos hc357_809])
   ·refine oxk X807 hy at_357 364 (XT.ll_ge_t hc357_809) ?_
    refine Ends.step (fun _ k => XT.iconstV X807.here hx rfl (0 : Int32) (hb hby at_364) rfl k) ?_
    exact hJ _ (by simp only [if_neg hc357_809])
  refine J365_808 fun v365_6 hv365_6 => ?_
  refine oK X807 hy at_365 366 (oxo X807 hy at_366 368 #[iv p0, jv q1, ss, iv 1, rv b729, rv sx_731, rv a732, rv b733, iv x8_5, iv (x8_5 + v365_6), uu] rfl ?_)
  show Ends p e below QQ (T807.setTop (mkF m 368 #[iv p0, jv q1, ss, iv 1, rv b729, rv sx_731, rv a732, rv b733, iv x8_5, iv (x8_5 + v365_6), uu] []))
  generalize hv9_7 : (x8_5 + v365_6) = x9_7
  refine oB X807 hy at_368 370 rfl ?_
  refine cV X807 hy hml hown hZ hw at_370 373 0 204 55 57 56 58 32 rfl rfl rfl rfl rfl rfl (rmlen l Z a0 hw [] a732 b732 kc732 (20 : Int32) (own_L (20 : Int32).toNatClampNeg qL1) cs h771 n0 (Nat.le_trans Z0 K771.1) wJ wp wH wa hcs wt) hh807 pd_8 wJ rfl rfl fun _ T810 Lc810 X810 hQ810 => ?_
  obtain ⟨rfl, Nq810, hh810⟩ := hQ810
  have N810 := Fr.app N807 Nq810
  refine Ends.v (oD X810 hy at_373 375 rfl (oK X810 hy at_375 376 (oxo X810 hy at_376 378 #[iv p0, jv q1, ss, iv 1, rv b729, rv sx_731, rv a732, rv b733, iv x8_5, iv x9_7, iv ((20 : Int32) + x9_7)] rfl ?_)))
  show Ends p e below QQ (T810.setTop (mkF m 378 #[iv p0, jv q1, ss, iv 1, rv b729, rv sx_731, rv a732, rv b733, iv x8_5, iv x9_7, iv ((20 : Int32) + x9_7)] []))
  generalize hv10_8 : ((20 : Int32) + x9_7) = x10_8
  have hB := own_nds20 hmm hv8_5 hv365_6 hv9_7 hv10_8
  refine oB X810 hy at_378 380 rfl (oxj X810 hy at_380 383 (oB X810 hy at_383 385 rfl ?_))
  refine cV X810 hy hml hown hZ hw at_385 388 0 204 55 57 56 58 32 rfl rfl rfl rfl rfl rfl (rmlen l Z a0 hw [] sx_731 sa_731 sk_731 ((20 : Int32) + (fss q1)) (own_L ((20 : Int32) + (fss q1)).toNatClampNeg (own_gf q1 ((20 : Int32) + (fss q1)).toNatClampNeg mm_731 ll_731)) cs h771 n0 (Nat.le_trans Z0 K771.1) wy wj wD wa hcs wl) hh810 pd_8 wy rfl rfl fun _ T811 Lc811 X811 hQ811 => ?_
  obtain ⟨rfl, Nq811, hh811⟩ := hQ811
  have N811 := Fr.app N810 Nq811
  refine Ends.v (oD X811 hy at_388 390 rfl ?_)
  have hc390 : ((20 : Int32) + (fss q1)) = x10_8 := hB.2.2.1
  refine oxl X811 hy at_390 395 (XT.ii_eq_t hc390) (oB X811 hy at_395 397 rfl (oB X811 hy at_397 399 rfl (oE X811 hy at_399 400 rfl (oB X811 hy at_400 402 rfl (oD X811 hy at_402 404 rfl (oD X811 hy at_404 406 rfl (oG X811 hy at_406 407 0 rfl ?_)))))))
  refine cS X811 hy hml hown hZ hw at_407 410 0 205 206 202 207 rfl rfl rfl rfl (rmat l Z a0 hw [] sx_731 a732 q1 b733 x8_5 x9_7 (0 : Int32) sa_731 sk_731 ((20 : Int32) + (fss q1)) (own_gf q1 ((20 : Int32) + (fss q1)).toNatClampNeg mm_731 ll_731) b732 kc732 (20 : Int32) qL1 k733 cs sf (1 : Int64) h771 n0 (Nat.le_trans Z0 K771.1) wy wj wl wD wJ wp wt wH wB wa hcs wb wM (by decide) hB.2.2.2.1 hB.2.2.2.2 (fun _ => rfl) (by decide) (own_ok1 (k := 0) hmm hB (by decide) (by decide) (by decide)) (own_ok2 (k := 0) hmm hB (by decide)) (own_ok3 (k := 0) hmm hll hB (by decide) (by decide) (by decide))) hh811 pd_30 rfl rfl fun _ T812 Lc812 X812 hQ812 => ?_
  obtain ⟨rfl, Nq812, hh812⟩ := hQ812
  have N812 := Fr.app N811 Nq812
  refine Ends.v (oxh X812 hy at_410 413 (XT.i0_eq_f (by decide)) (oB X812 hy at_413 415 rfl (oB X812 hy at_415 417 rfl (oE X812 hy at_417 418 rfl (oB X812 hy at_418 420 rfl (oD X812 hy at_420 422 rfl (oD X812 hy at_422 424 rfl (oG X812 hy at_424 425 1 rfl ?_))))))))
  refine cS X812 hy hml hown hZ hw at_425 428 0 205 206 202 207 rfl rfl rfl rfl (rmat l Z a0 hw [] sx_731 a732 q1 b733 x8_5 x9_7 (1 : Int32) sa_731 sk_731 ((20 : Int32) + (fss q1)) (own_gf q1 ((20 : Int32) + (fss q1)).toNatClampNeg mm_731 ll_731) b732 kc732 (20 : Int32) qL1 k733 cs sf (10 : Int64) h771 n0 (Nat.le_trans Z0 K771.1) wy wj wl wD wJ wp wt wH wB wa hcs wb wM (by decide) hB.2.2.2.1 hB.2.2.2.2 (fun _ => rfl) (by decide) (own_ok1 (k := 1) hmm hB (by decide) (by decide) (by decide)) (own_ok2 (k := 1) hmm hB (by decide)) (own_ok3 (k := 1) hmm hll hB (by decide) (by decide) (by decide))) hh812 pd_30 rfl rfl fun _ T813 Lc813 X813 hQ813 => ?_
  obtain ⟨rfl, Nq813, hh813⟩ := hQ813
  have N813 := Fr.app N812 Nq813
  refine Ends.v (oxh X813 hy at_428 431 (XT.i0_eq_f (by decide)) (oB X813 hy at_431 433 rfl (oB X813 hy at_433 435 rfl (oE X813 hy at_435 436 rfl (oB X813 hy at_436 438 rfl (oD X813 hy at_438 440 rfl (oD X813 hy at_440 442 rfl (oG X813 hy at_442 443 2 rfl ?_))))))))
  refine cS X813 hy hml hown hZ hw at_443 446 0 205 206 202 207 rfl rfl rfl rfl (rmat l Z a0 hw [] sx_731 a732 q1 b733 x8_5 x9_7 (2 : Int32) sa_731 sk_731 ((20 : Int32) + (fss q1)) (own_gf q1 ((20 : Int32) + (fss q1)).toNatClampNeg mm_731 ll_731) b732 kc732 (20 : Int32) qL1 k733 cs sf (100 : Int64) h771 n0 (Nat.le_trans Z0 K771.1) wy wj wl wD wJ wp wt wH wB wa hcs wb wM (by decide) hB.2.2.2.1 hB.2.2.2.2 (fun _ => rfl) (by decide) (own_ok1 (k := 2) hmm hB (by decide) (by decide) (by decide)) (own_ok2 (k := 2) hmm hB (by decide)) (own_ok3 (k := 2) hmm hll hB (by decide) (by decide) (by decide))) hh813 pd_30 rfl rfl fun _ T814 Lc814 X814 hQ814 => ?_
  obtain ⟨rfl, Nq814, hh814⟩ := hQ814
  have N814 := Fr.app N813 Nq814
  refine Ends.v (oxh X814 hy at_446 449 (XT.i0_eq_f (by decide)) (oB X814 hy at_449 451 rfl (oB X814 hy at_451 453 rfl (oE X814 hy at_453 454 rfl (oB X814 hy at_454 456 rfl (oD X814 hy at_456 458 rfl (oD X814 hy at_458 460 rfl (oG X814 hy at_460 461 3 rfl ?_))))))))
  refine cS X814 hy hml hown hZ hw at_461 464 0 205 206 202 207 rfl rfl rfl rfl (rmat l Z a0 hw [] sx_731 a732 q1 b733 x8_5 x9_7 (3 : Int32) sa_731 sk_731 ((20 : Int32) + (fss q1)) (own_gf q1 ((20 : Int32) + (fss q1)).toNatClampNeg mm_731 ll_731) b732 kc732 (20 : Int32) qL1 k733 cs sf (1000 : Int64) h771 n0 (Nat.le_trans Z0 K771.1) wy wj wl wD wJ wp wt wH wB wa hcs wb wM (by decide) hB.2.2.2.1 hB.2.2.2.2 (fun _ => rfl) (by decide) (own_ok1 (k := 3) hmm hB (by decide) (by decide) (by decide)) (own_ok2 (k := 3) hmm hB (by decide)) (own_ok3 (k := 3) hmm hll hB (by decide) (by decide) (by decide))) hh814 pd_30 rfl rfl fun _ T815 Lc815 X815 hQ815 => ?_
  obtain ⟨rfl, Nq815, hh815⟩ := hQ815
  have N815 := Fr.app N814 Nq815
  refine Ends.v (oxh X815 hy at_464 467 (XT.i0_eq_f (by decide)) (oB X815 hy at_467 469 rfl (oB X815 hy at_469 471 rfl (oE X815 hy at_471 472 rfl (oB X815 hy at_472 474 rfl (oD X815 hy at_474 476 rfl (oD X815 hy at_476 478 rfl (oG X815 hy at_478 479 4 rfl ?_))))))))
  refine cS X815 hy hml hown hZ hw at_479 482 0 205 206 202 207 rfl rfl rfl rfl (rmat l Z a0 hw [] sx_731 a732 q1 b733 x8_5 x9_7 (4 : Int32) sa_731 sk_731 ((20 : Int32) + (fss q1)) (own_gf q1 ((20 : Int32) + (fss q1)).toNatClampNeg mm_731 ll_731) b732 kc732 (20 : Int32) qL1 k733 cs sf (10000 : Int64) h771 n0 (Nat.le_trans Z0 K771.1) wy wj wl wD wJ wp wt wH wB wa hcs wb wM (by decide) hB.2.2.2.1 hB.2.2.2.2 (fun _ => rfl) (by decide) (own_ok1 (k := 4) hmm hB (by decide) (by decide) (by decide)) (own_ok2 (k := 4) hmm hB (by decide)) (own_ok3 (k := 4) hmm hll hB (by decide) (by decide) (by decide))) hh815 pd_30 rfl rfl fun _ T816 Lc816 X816 hQ816 => ?_
  obtain ⟨rfl, Nq816, hh816⟩ := hQ816
  have N816 := Fr.app N815 Nq816
  refine Ends.v (oxh X816 hy at_482 485 (XT.i0_eq_f (by decide)) (oB X816 hy at_485 487 rfl (oB X816 hy at_487 489 rfl (oE X816 hy at_489 490 rfl (oB X816 hy at_490 492 rfl (oD X816 hy at_492 494 rfl (oD X816 hy at_494 496 rfl (oG X816 hy at_496 497 5 rfl ?_))))))))
  refine cS X816 hy hml hown hZ hw at_497 500 0 205 206 202 207 rfl rfl rfl rfl (rmat l Z a0 hw [] sx_731 a732 q1 b733 x8_5 x9_7 (5 : Int32) sa_731 sk_731 ((20 : Int32) + (fss q1)) (own_gf q1 ((20 : Int32) + (fss q1)).toNatClampNeg mm_731 ll_731) b732 kc732 (20 : Int32) qL1 k733 cs sf (100000 : Int64) h771 n0 (Nat.le_trans Z0 K771.1) wy wj wl wD wJ wp wt wH wB wa hcs wb wM (by decide) hB.2.2.2.1 hB.2.2.2.2 (fun _ => rfl) (by decide) (own_ok1 (k := 5) hmm hB (by decide) (by decide) (by decide)) (own_ok2 (k := 5) hmm hB (by decide)) (own_ok3 (k := 5) hmm hll hB (by decide) (by decide) (by decide))) hh816 pd_30 rfl rfl fun _ T817 Lc817 X817 hQ817 => ?_
  obtain ⟨rfl, Nq817, hh817⟩ := hQ817
  have N817 := Fr.app N816 Nq817
  refine Ends.v (oxh X817 hy at_500 503 (XT.i0_eq_f (by decide)) (oB X817 hy at_503 505 rfl (oB X817 hy at_505 507 rfl (oE X817 hy at_507 508 rfl (oB X817 hy at_508 510 rfl (oD X817 hy at_510 512 rfl (oD X817 hy at_512 514 rfl (oH X817 hy at_514 516 6 rfl ?_))))))))
  refine cS X817 hy hml hown hZ hw at_516 519 0 205 206 202 207 rfl rfl rfl rfl (rmat l Z a0 hw [] sx_731 a732 q1 b733 x8_5 x9_7 (6 : Int32) sa_731 sk_731 ((20 : Int32) + (fss q1)) (own_gf q1 ((20 : Int32) + (fss q1)).toNatClampNeg mm_731 ll_731) b732 kc732 (20 : Int32) qL1 k733 cs sf (1000000 : Int64) h771 n0 (Nat.le_trans Z0 K771.1) wy wj wl wD wJ wp wt wH wB wa hcs wb wM (by decide) hB.2.2.2.1 hB.2.2.2.2 (fun _ => rfl) (by decide) (own_ok1 (k := 6) hmm hB (by decide) (by decide) (by decide)) (own_ok2 (k := 6) hmm hB (by decide)) (own_ok3 (k := 6) hmm hll hB (by decide) (by decide) (by decide))) hh817 pd_30 rfl rfl fun _ T818 Lc818 X818 hQ818 => ?_
  obtain ⟨rfl, Nq818, hh818⟩ := hQ818
  have N818 := Fr.app N817 Nq818
  refine Ends.v (oxh X818 hy at_519 522 (XT.i0_eq_f (by decide)) (oB X818 hy at_522 524 rfl (oB X818 hy at_524 526 rfl (oE X818 hy at_526 527 rfl (oB X818 hy at_527 529 rfl (oD X818 hy at_529 531 rfl (oD X818 hy at_531 533 rfl (oH X818 hy at_533 535 7 rfl ?_))))))))
  refine cS X818 hy hml hown hZ hw at_535 538 0 205 206 202 207 rfl rfl rfl rfl (rmat l Z a0 hw [] sx_731 a732 q1 b733 x8_5 x9_7 (7 : Int32) sa_731 sk_731 ((20 : Int32) + (fss q1)) (own_gf q1 ((20 : Int32) + (fss q1)).toNatClampNeg mm_731 ll_731) b732 kc732 (20 : Int32) qL1 k733 cs sf (10000000 : Int64) h771 n0 (Nat.le_trans Z0 K771.1) wy wj wl wD wJ wp wt wH wB wa hcs wb wM (by decide) hB.2.2.2.1 hB.2.2.2.2 (fun _ => rfl) (by decide) (own_ok1 (k := 7) hmm hB (by decide) (by decide) (by decide)) (own_ok2 (k := 7) hmm hB (by decide)) (own_ok3 (k := 7) hmm hll hB (by decide) (by decide) (by decide))) hh818 pd_30 rfl rfl fun _ T819 Lc819 X819 hQ819 => ?_
  obtain ⟨rfl, Nq819, hh819⟩ := hQ819
  have N819 := Fr.app N818 Nq819
  refine Ends.v (oxh X819 hy at_538 541 (XT.i0_eq_f (by decide)) (oB X819 hy at_541 543 rfl (oB X819 hy at_543 545 rfl (oE X819 hy at_545 546 rfl (oB X819 hy at_546 548 rfl (oD X819 hy at_548 550 rfl (oD X819 hy at_550 552 rfl (oH X819 hy at_552 554 8 rfl ?_))))))))
  refine cS X819 hy hml hown hZ hw at_554 557 0 205 206 202 207 rfl rfl rfl rfl (rmat l Z a0 hw [] sx_731 a732 q1 b733 x8_5 x9_7 (8 : Int32) sa_731 sk_731 ((20 : Int32) + (fss q1)) (own_gf q1 ((20 : Int32) + (fss q1)).toNatClampNeg mm_731 ll_731) b732 kc732 (20 : Int32) qL1 k733 cs sf (100000000 : Int64) h771 n0 (Nat.le_trans Z0 K771.1) wy wj wl wD wJ wp wt wH wB wa hcs wb wM (by decide) hB.2.2.2.1 hB.2.2.2.2 (fun _ => rfl) (by decide) (own_ok1 (k := 8) hmm hB (by decide) (by decide) (by decide)) (own_ok2 (k := 8) hmm hB (by decide)) (own_ok3 (k := 8) hmm hll hB (by decide) (by decide) (by decide))) hh819 pd_30 rfl rfl fun _ T820 Lc820 X820 hQ820 => ?_
  obtain ⟨rfl, Nq820, hh820⟩ := hQ820
  have N820 := Fr.app N819 Nq820
  refine Ends.v (oxh X820 hy at_557 560 (XT.i0_eq_f (by decide)) (oB X820 hy at_560 562 rfl (oB X820 hy at_562 564 rfl (oE X820 hy at_564 565 rfl (oB X820 hy at_565 567 rfl (oD X820 hy at_567 569 rfl (oD X820 hy at_569 571 rfl (oH X820 hy at_571 573 9 rfl ?_))))))))
  refine cS X820 hy hml hown hZ hw at_573 576 0 205 206 202 207 rfl rfl rfl rfl (rmat l Z a0 hw [] sx_731 a732 q1 b733 x8_5 x9_7 (9 : Int32) sa_731 sk_731 ((20 : Int32) + (fss q1)) (own_gf q1 ((20 : Int32) + (fss q1)).toNatClampNeg mm_731 ll_731) b732 kc732 (20 : Int32) qL1 k733 cs sf (1000000000 : Int64) h771 n0 (Nat.le_trans Z0 K771.1) wy wj wl wD wJ wp wt wH wB wa hcs wb wM (by decide) hB.2.2.2.1 hB.2.2.2.2 (fun _ => rfl) (by decide) (own_ok1 (k := 9) hmm hB (by decide) (by decide) (by decide)) (own_ok2 (k := 9) hmm hB (by decide)) (own_ok3 (k := 9) hmm hll hB (by decide) (by decide) (by decide))) hh820 pd_30 rfl rfl fun _ T821 Lc821 X821 hQ821 => ?_
  obtain ⟨rfl, Nq821, hh821⟩ := hQ821
  have N821 := Fr.app N820 Nq821
  refine Ends.v (oxh X821 hy at_576 579 (XT.i0_eq_f (by decide)) (oB X821 hy at_579 581 rfl (oB X821 hy at_581 583 rfl (oE X821 hy at_583 584 rfl (oB X821 hy at_584 586 rfl (oD X821 hy at_586 588 rfl (oD X821 hy at_588 590 rfl (oH X821 hy at_590 592 10 rfl ?_))))))))
  refine cS X821 hy hml hown hZ hw at_592 595 0 205 206 202 207 rfl rfl rfl rfl (rmat l Z a0 hw [] sx_731 a732 q1 b733 x8_5 x9_7 (10 : Int32) sa_731 sk_731 ((20 : Int32) + (fss q1)) (own_gf q1 ((20 : Int32) + (fss q1)).toNatClampNeg mm_731 ll_731) b732 kc732 (20 : Int32) qL1 k733 cs sf (10000000000 : Int64) h771 n0 (Nat.le_trans Z0 K771.1) wy wj wl wD wJ wp wt wH wB wa hcs wb wM (by decide) hB.2.2.2.1 hB.2.2.2.2 (fun _ => rfl) (by decide) (own_ok1 (k := 10) hmm hB (by decide) (by decide) (by decide)) (own_ok2 (k := 10) hmm hB (by decide)) (own_ok3 (k := 10) hmm hll hB (by decide) (by decide) (by decide))) hh821 pd_30 rfl rfl fun _ T822 Lc822 X822 hQ822 => ?_
  obtain ⟨rfl, Nq822, hh822⟩ := hQ822
  have N822 := Fr.app N821 Nq822
  refine Ends.v (oxh X822 hy at_595 598 (XT.i0_eq_f (by decide)) (oB X822 hy at_598 600 rfl (oB X822 hy at_600 602 rfl (oE X822 hy at_602 603 rfl (oB X822 hy at_603 605 rfl (oD X822 hy at_605 607 rfl (oD X822 hy at_607 609 rfl (oH X822 hy at_609 611 11 rfl ?_))))))))
  refine cS X822 hy hml hown hZ hw at_611 614 0 205 206 202 207 rfl rfl rfl rfl (rmat l Z a0 hw [] sx_731 a732 q1 b733 x8_5 x9_7 (11 : Int32) sa_731 sk_731 ((20 : Int32) + (fss q1)) (own_gf q1 ((20 : Int32) + (fss q1)).toNatClampNeg mm_731 ll_731) b732 kc732 (20 : Int32) qL1 k733 cs sf (100000000000 : Int64) h771 n0 (Nat.le_trans Z0 K771.1) wy wj wl wD wJ wp wt wH wB wa hcs wb wM (by decide) hB.2.2.2.1 hB.2.2.2.2 (fun _ => rfl) (by decide) (own_ok1 (k := 11) hmm hB (by decide) (by decide) (by decide)) (own_ok2 (k := 11) hmm hB (by decide)) (own_ok3 (k := 11) hmm hll hB (by decide) (by decide) (by decide))) hh822 pd_30 rfl rfl fun _ T823 Lc823 X823 hQ823 => ?_
  obtain ⟨rfl, Nq823, hh823⟩ := hQ823
  have N823 := Fr.app N822 Nq823
  refine Ends.v (oxh X823 hy at_614 617 (XT.i0_eq_f (by decide)) (oB X823 hy at_617 619 rfl (oB X823 hy at_619 621 rfl (oE X823 hy at_621 622 rfl (oB X823 hy at_622 624 rfl (oD X823 hy at_624 626 rfl (oD X823 hy at_626 628 rfl (oH X823 hy at_628 630 12 rfl ?_))))))))
  refine cS X823 hy hml hown hZ hw at_630 633 0 205 206 202 207 rfl rfl rfl rfl (rmat l Z a0 hw [] sx_731 a732 q1 b733 x8_5 x9_7 (12 : Int32) sa_731 sk_731 ((20 : Int32) + (fss q1)) (own_gf q1 ((20 : Int32) + (fss q1)).toNatClampNeg mm_731 ll_731) b732 kc732 (20 : Int32) qL1 k733 cs sf (1000000000000 : Int64) h771 n0 (Nat.le_trans Z0 K771.1) wy wj wl wD wJ wp wt wH wB wa hcs wb wM (by decide) hB.2.2.2.1 hB.2.2.2.2 (fun _ => rfl) (by decide) (own_ok1 (k := 12) hmm hB (by decide) (by decide) (by decide)) (own_ok2 (k := 12) hmm hB (by decide)) (own_ok3 (k := 12) hmm hll hB (by decide) (by decide) (by decide))) hh823 pd_30 rfl rfl fun _ T824 Lc824 X824 hQ824 => ?_
  obtain ⟨rfl, Nq824, hh824⟩ := hQ824
  have N824 := Fr.app N823 Nq824
  refine Ends.v (oxh X824 hy at_633 636 (XT.i0_eq_f (by decide)) (oB X824 hy at_636 638 rfl (oB X824 hy at_638 640 rfl (oE X824 hy at_640 641 rfl (oB X824 hy at_641 643 rfl (oD X824 hy at_643 645 rfl (oD X824 hy at_645 647 rfl (oH X824 hy at_647 649 13 rfl ?_))))))))
  refine cS X824 hy hml hown hZ hw at_649 652 0 205 206 202 207 rfl rfl rfl rfl (rmat l Z a0 hw [] sx_731 a732 q1 b733 x8_5 x9_7 (13 : Int32) sa_731 sk_731 ((20 : Int32) + (fss q1)) (own_gf q1 ((20 : Int32) + (fss q1)).toNatClampNeg mm_731 ll_731) b732 kc732 (20 : Int32) qL1 k733 cs sf (10000000000000 : Int64) h771 n0 (Nat.le_trans Z0 K771.1) wy wj wl wD wJ wp wt wH wB wa hcs wb wM (by decide) hB.2.2.2.1 hB.2.2.2.2 (fun _ => rfl) (by decide) (own_ok1 (k := 13) hmm hB (by decide) (by decide) (by decide)) (own_ok2 (k := 13) hmm hB (by decide)) (own_ok3 (k := 13) hmm hll hB (by decide) (by decide) (by decide))) hh824 pd_30 rfl rfl fun _ T825 Lc825 X825 hQ825 => ?_
  obtain ⟨rfl, Nq825, hh825⟩ := hQ825
  have N825 := Fr.app N824 Nq825
  refine Ends.v (oxh X825 hy at_652 655 (XT.i0_eq_f (by decide)) (oB X825 hy at_655 657 rfl (oB X825 hy at_657 659 rfl (oE X825 hy at_659 660 rfl (oB X825 hy at_660 662 rfl (oD X825 hy at_662 664 rfl (oD X825 hy at_664 666 rfl (oH X825 hy at_666 668 14 rfl ?_))))))))
  refine cS X825 hy hml hown hZ hw at_668 671 0 205 206 202 207 rfl rfl rfl rfl (rmat l Z a0 hw [] sx_731 a732 q1 b733 x8_5 x9_7 (14 : Int32) sa_731 sk_731 ((20 : Int32) + (fss q1)) (own_gf q1 ((20 : Int32) + (fss q1)).toNatClampNeg mm_731 ll_731) b732 kc732 (20 : Int32) qL1 k733 cs sf (100000000000000 : Int64) h771 n0 (Nat.le_trans Z0 K771.1) wy wj wl wD wJ wp wt wH wB wa hcs wb wM (by decide) hB.2.2.2.1 hB.2.2.2.2 (fun _ => rfl) (by decide) (own_ok1 (k := 14) hmm hB (by decide) (by decide) (by decide)) (own_ok2 (k := 14) hmm hB (by decide)) (own_ok3 (k := 14) hmm hll hB (by decide) (by decide) (by decide))) hh825 pd_30 rfl rfl fun _ T826 Lc826 X826 hQ826 => ?_
  obtain ⟨rfl, Nq826, hh826⟩ := hQ826
  have N826 := Fr.app N825 Nq826
  refine Ends.v (oxh X826 hy at_671 674 (XT.i0_eq_f (by decide)) (oB X826 hy at_674 676 rfl (oB X826 hy at_676 678 rfl (oE X826 hy at_678 679 rfl (oB X826 hy at_679 681 rfl (oD X826 hy at_681 683 rfl (oD X826 hy at_683 685 rfl (oH X826 hy at_685 687 15 rfl ?_))))))))
  refine cS X826 hy hml hown hZ hw at_687 690 0 205 206 202 207 rfl rfl rfl rfl (rmat l Z a0 hw [] sx_731 a732 q1 b733 x8_5 x9_7 (15 : Int32) sa_731 sk_731 ((20 : Int32) + (fss q1)) (own_gf q1 ((20 : Int32) + (fss q1)).toNatClampNeg mm_731 ll_731) b732 kc732 (20 : Int32) qL1 k733 cs sf (1000000000000000 : Int64) h771 n0 (Nat.le_trans Z0 K771.1) wy wj wl wD wJ wp wt wH wB wa hcs wb wM (by decide) hB.2.2.2.1 hB.2.2.2.2 (fun _ => rfl) (by decide) (own_ok1 (k := 15) hmm hB (by decide) (by decide) (by decide)) (own_ok2 (k := 15) hmm hB (by decide)) (own_ok3 (k := 15) hmm hll hB (by decide) (by decide) (by decide))) hh826 pd_30 rfl rfl fun _ T827 Lc827 X827 hQ827 => ?_
  obtain ⟨rfl, Nq827, hh827⟩ := hQ827
  have N827 := Fr.app N826 Nq827
  refine Ends.v (oxh X827 hy at_690 693 (XT.i0_eq_f (by decide)) (oB X827 hy at_693 695 rfl (oB X827 hy at_695 697 rfl (oE X827 hy at_697 698 rfl (oB X827 hy at_698 700 rfl (oD X827 hy at_700 702 rfl (oD X827 hy at_702 704 rfl (oH X827 hy at_704 706 16 rfl ?_))))))))
  refine cS X827 hy hml hown hZ hw at_706 709 0 205 206 202 207 rfl rfl rfl rfl (rmat l Z a0 hw [] sx_731 a732 q1 b733 x8_5 x9_7 (16 : Int32) sa_731 sk_731 ((20 : Int32) + (fss q1)) (own_gf q1 ((20 : Int32) + (fss q1)).toNatClampNeg mm_731 ll_731) b732 kc732 (20 : Int32) qL1 k733 cs sf (10000000000000000 : Int64) h771 n0 (Nat.le_trans Z0 K771.1) wy wj wl wD wJ wp wt wH wB wa hcs wb wM (by decide) hB.2.2.2.1 hB.2.2.2.2 (fun _ => rfl) (by decide) (own_ok1 (k := 16) hmm hB (by decide) (by decide) (by decide)) (own_ok2 (k := 16) hmm hB (by decide)) (own_ok3 (k := 16) hmm hll hB (by decide) (by decide) (by decide))) hh827 pd_30 rfl rfl fun _ T828 Lc828 X828 hQ828 => ?_
  obtain ⟨rfl, Nq828, hh828⟩ := hQ828
  have N828 := Fr.app N827 Nq828
  refine Ends.v (oxh X828 hy at_709 712 (XT.i0_eq_f (by decide)) (oB X828 hy at_712 714 rfl (oB X828 hy at_714 716 rfl (oE X828 hy at_716 717 rfl (oB X828 hy at_717 719 rfl (oD X828 hy at_719 721 rfl (oD X828 hy at_721 723 rfl (oH X828 hy at_723 725 17 rfl ?_))))))))
  refine cS X828 hy hml hown hZ hw at_725 728 0 205 206 202 207 rfl rfl rfl rfl (rmat l Z a0 hw [] sx_731 a732 q1 b733 x8_5 x9_7 (17 : Int32) sa_731 sk_731 ((20 : Int32) + (fss q1)) (own_gf q1 ((20 : Int32) + (fss q1)).toNatClampNeg mm_731 ll_731) b732 kc732 (20 : Int32) qL1 k733 cs sf (100000000000000000 : Int64) h771 n0 (Nat.le_trans Z0 K771.1) wy wj wl wD wJ wp wt wH wB wa hcs wb wM (by decide) hB.2.2.2.1 hB.2.2.2.2 (fun _ => rfl) (by decide) (own_ok1 (k := 17) hmm hB (by decide) (by decide) (by decide)) (own_ok2 (k := 17) hmm hB (by decide)) (own_ok3 (k := 17) hmm hll hB (by decide) (by decide) (by decide))) hh828 pd_30 rfl rfl fun _ T829 Lc829 X829 hQ829 => ?_
  obtain ⟨rfl, Nq829, hh829⟩ := hQ829
  have N829 := Fr.app N828 Nq829
  refine Ends.v (oxh X829 hy at_728 731 (XT.i0_eq_f (by decide)) (oB X829 hy at_731 733 rfl (oB X829 hy at_733 735 rfl (oE X829 hy at_735 736 rfl (oB X829 hy at_736 738 rfl (oD X829 hy at_738 740 rfl (oD X829 hy at_740 742 rfl (oH X829 hy at_742 744 18 rfl ?_))))))))
  refine cS X829 hy hml hown hZ hw at_744 747 0 205 206 202 207 rfl rfl rfl rfl (rmat l Z a0 hw [] sx_731 a732 q1 b733 x8_5 x9_7 (18 : Int32) sa_731 sk_731 ((20 : Int32) + (fss q1)) (own_gf q1 ((20 : Int32) + (fss q1)).toNatClampNeg mm_731 ll_731) b732 kc732 (20 : Int32) qL1 k733 cs sf (1000000000000000000 : Int64) h771 n0 (Nat.le_trans Z0 K771.1) wy wj wl wD wJ wp wt wH wB wa hcs wb wM (by decide) hB.2.2.2.1 hB.2.2.2.2 (fun _ => rfl) (by decide) (own_ok1 (k := 18) hmm hB (by decide) (by decide) (by decide)) (own_ok2 (k := 18) hmm hB (by decide)) (own_ok3 (k := 18) hmm hll hB (by decide) (by decide) (by decide))) hh829 pd_30 rfl rfl fun _ T830 Lc830 X830 hQ830 => ?_
  obtain ⟨rfl, Nq830, hh830⟩ := hQ830
  have N830 := Fr.app N829 Nq830
  refine Ends.v (oxh X830 hy at_747 750 (XT.i0_eq_f (by decide)) (oB X830 hy at_750 752 rfl (oB X830 hy at_752 754 rfl (oE X830 hy at_754 755 rfl (oB X830 hy at_755 757 rfl (oD X830 hy at_757 759 rfl (oD X830 hy at_759 761 rfl (oH X830 hy at_761 763 19 rfl ?_))))))))
  refine cS X830 hy hml hown hZ hw at_763 766 0 205 206 202 207 rfl rfl rfl rfl (rmat l Z a0 hw [] sx_731 a732 q1 b733 x8_5 x9_7 (19 : Int32) sa_731 sk_731 ((20 : Int32) + (fss q1)) (own_gf q1 ((20 : Int32) + (fss q1)).toNatClampNeg mm_731 ll_731) b732 kc732 (20 : Int32) qL1 k733 cs sf (1 : Int64) h771 n0 (Nat.le_trans Z0 K771.1) wy wj wl wD wJ wp wt wH wB wa hcs wb wM (by decide) hB.2.2.2.1 hB.2.2.2.2 (fun z => absurd z (by decide)) (by decide) (own_ok0 hB (by decide)) (own_ok2 (k := 19) hmm hB (by decide)) (own_ok3 (k := 19) hmm hll hB (by decide) (by decide) (by decide))) hh830 pd_30 rfl rfl fun _ T831 Lc831 X831 hQ831 => ?_
  obtain ⟨rfl, Nq831, hh831⟩ := hQ831
  have N831 := Fr.app N830 Nq831
  refine Ends.v (oxh X831 hy at_766 769 (XT.i0_eq_f (by decide)) (oB X831 hy at_769 771 rfl (oB X831 hy at_771 773 rfl (oE X831 hy at_773 774 rfl (oB X831 hy at_774 776 rfl (oD X831 hy at_776 778 rfl (oD X831 hy at_778 780 rfl (oH X831 hy at_780 782 20 rfl ?_))))))))
  refine cS X831 hy hml hown hZ hw at_782 785 0 205 206 202 207 rfl rfl rfl rfl (rmat l Z a0 hw [] sx_731 a732 q1 b733 x8_5 x9_7 (20 : Int32) sa_731 sk_731 ((20 : Int32) + (fss q1)) (own_gf q1 ((20 : Int32) + (fss q1)).toNatClampNeg mm_731 ll_731) b732 kc732 (20 : Int32) qL1 k733 cs sf (1 : Int64) h771 n0 (Nat.le_trans Z0 K771.1) wy wj wl wD wJ wp wt wH wB wa hcs wb wM (by decide) hB.2.2.2.1 hB.2.2.2.2 (fun z => absurd z (by decide)) (by decide) (own_ok0 hB (by decide)) (own_ok2 (k := 20) hmm hB (by decide)) (own_ok3 (k := 20) hmm hll hB (by decide) (by decide) (by decide))) hh831 pd_30 rfl rfl fun _ T832 Lc832 X832 hQ832 => ?_
  obtain ⟨rfl, Nq832, hh832⟩ := hQ832
  have N832 := Fr.app N831 Nq832
  refine Ends.v (oxh X832 hy at_785 788 (XT.i0_eq_f (by decide)) (oB X832 hy at_788 790 rfl (oB X832 hy at_790 792 rfl (oE X832 hy at_792 793 rfl (oB X832 hy at_793 795 rfl (oD X832 hy at_795 797 rfl (oD X832 hy at_797 799 rfl (oH X832 hy at_799 801 21 rfl ?_))))))))
  refine cS X832 hy hml hown hZ hw at_801 804 0 205 206 202 207 rfl rfl rfl rfl (rmat l Z a0 hw [] sx_731 a732 q1 b733 x8_5 x9_7 (21 : Int32) sa_731 sk_731 ((20 : Int32) + (fss q1)) (own_gf q1 ((20 : Int32) + (fss q1)).toNatClampNeg mm_731 ll_731) b732 kc732 (20 : Int32) qL1 k733 cs sf (1 : Int64) h771 n0 (Nat.le_trans Z0 K771.1) wy wj wl wD wJ wp wt wH wB wa hcs wb wM (by decide) hB.2.2.2.1 hB.2.2.2.2 (fun z => absurd z (by decide)) (by decide) (own_ok0 hB (by decide)) (own_ok2 (k := 21) hmm hB (by decide)) (own_ok3 (k := 21) hmm hll hB (by decide) (by decide) (by decide))) hh832 pd_30 rfl rfl fun _ T833 Lc833 X833 hQ833 => ?_
  obtain ⟨rfl, Nq833, hh833⟩ := hQ833
  have N833 := Fr.app N832 Nq833
  refine Ends.v (oxh X833 hy at_804 807 (XT.i0_eq_f (by decide)) (oB X833 hy at_807 809 rfl (oB X833 hy at_809 811 rfl (oE X833 hy at_811 812 rfl (oB X833 hy at_812 814 rfl (oD X833 hy at_814 816 rfl (oD X833 hy at_816 818 rfl (oH X833 hy at_818 820 22 rfl ?_))))))))
  refine cS X833 hy hml hown hZ hw at_820 823 0 205 206 202 207 rfl rfl rfl rfl (rmat l Z a0 hw [] sx_731 a732 q1 b733 x8_5 x9_7 (22 : Int32) sa_731 sk_731 ((20 : Int32) + (fss q1)) (own_gf q1 ((20 : Int32) + (fss q1)).toNatClampNeg mm_731 ll_731) b732 kc732 (20 : Int32) qL1 k733 cs sf (1 : Int64) h771 n0 (Nat.le_trans Z0 K771.1) wy wj wl wD wJ wp wt wH wB wa hcs wb wM (by decide) hB.2.2.2.1 hB.2.2.2.2 (fun z => absurd z (by decide)) (by decide) (own_ok0 hB (by decide)) (own_ok2 (k := 22) hmm hB (by decide)) (own_ok3 (k := 22) hmm hll hB (by decide) (by decide) (by decide))) hh833 pd_30 rfl rfl fun _ T834 Lc834 X834 hQ834 => ?_
  obtain ⟨rfl, Nq834, hh834⟩ := hQ834
  have N834 := Fr.app N833 Nq834
  refine Ends.v (oxh X834 hy at_823 826 (XT.i0_eq_f (by decide)) (oB X834 hy at_826 828 rfl (oB X834 hy at_828 830 rfl (oE X834 hy at_830 831 rfl (oB X834 hy at_831 833 rfl (oD X834 hy at_833 835 rfl (oD X834 hy at_835 837 rfl (oH X834 hy at_837 839 23 rfl ?_))))))))
  refine cS X834 hy hml hown hZ hw at_839 842 0 205 206 202 207 rfl rfl rfl rfl (rmat l Z a0 hw [] sx_731 a732 q1 b733 x8_5 x9_7 (23 : Int32) sa_731 sk_731 ((20 : Int32) + (fss q1)) (own_gf q1 ((20 : Int32) + (fss q1)).toNatClampNeg mm_731 ll_731) b732 kc732 (20 : Int32) qL1 k733 cs sf (1 : Int64) h771 n0 (Nat.le_trans Z0 K771.1) wy wj wl wD wJ wp wt wH wB wa hcs wb wM (by decide) hB.2.2.2.1 hB.2.2.2.2 (fun z => absurd z (by decide)) (by decide) (own_ok0 hB (by decide)) (own_ok2 (k := 23) hmm hB (by decide)) (own_ok3 (k := 23) hmm hll hB (by decide) (by decide) (by decide))) hh834 pd_30 rfl rfl fun _ T835 Lc835 X835 hQ835 => ?_
  obtain ⟨rfl, Nq835, hh835⟩ := hQ835
  have N835 := Fr.app N834 Nq835
  refine Ends.v (oxh X835 hy at_842 845 (XT.i0_eq_f (by decide)) (oB X835 hy at_845 847 rfl (oB X835 hy at_847 849 rfl (oE X835 hy at_849 850 rfl (oB X835 hy at_850 852 rfl (oD X835 hy at_852 854 rfl (oD X835 hy at_854 856 rfl (oH X835 hy at_856 858 24 rfl ?_))))))))
  refine cS X835 hy hml hown hZ hw at_858 861 0 205 206 202 207 rfl rfl rfl rfl (rmat l Z a0 hw [] sx_731 a732 q1 b733 x8_5 x9_7 (24 : Int32) sa_731 sk_731 ((20 : Int32) + (fss q1)) (own_gf q1 ((20 : Int32) + (fss q1)).toNatClampNeg mm_731 ll_731) b732 kc732 (20 : Int32) qL1 k733 cs sf (1 : Int64) h771 n0 (Nat.le_trans Z0 K771.1) wy wj wl wD wJ wp wt wH wB wa hcs wb wM (by decide) hB.2.2.2.1 hB.2.2.2.2 (fun z => absurd z (by decide)) (by decide) (own_ok0 hB (by decide)) (own_ok2 (k := 24) hmm hB (by decide)) (own_ok3 (k := 24) hmm hll hB (by decide) (by decide) (by decide))) hh835 pd_30 rfl rfl fun _ T836 Lc836 X836 hQ836 => ?_
  obtain ⟨rfl, Nq836, hh836⟩ := hQ836
  have N836 := Fr.app N835 Nq836
  refine Ends.v (oxh X836 hy at_861 864 (XT.i0_eq_f (by decide)) (oB X836 hy at_864 866 rfl (oB X836 hy at_866 868 rfl (oE X836 hy at_868 869 rfl (oB X836 hy at_869 871 rfl (oD X836 hy at_871 873 rfl (oD X836 hy at_873 875 rfl (oH X836 hy at_875 877 25 rfl ?_))))))))
  refine cS X836 hy hml hown hZ hw at_877 880 0 205 206 202 207 rfl rfl rfl rfl (rmat l Z a0 hw [] sx_731 a732 q1 b733 x8_5 x9_7 (25 : Int32) sa_731 sk_731 ((20 : Int32) + (fss q1)) (own_gf q1 ((20 : Int32) + (fss q1)).toNatClampNeg mm_731 ll_731) b732 kc732 (20 : Int32) qL1 k733 cs sf (1 : Int64) h771 n0 (Nat.le_trans Z0 K771.1) wy wj wl wD wJ wp wt wH wB wa hcs wb wM (by decide) hB.2.2.2.1 hB.2.2.2.2 (fun z => absurd z (by decide)) (by decide) (own_ok0 hB (by decide)) (own_ok2 (k := 25) hmm hB (by decide)) (own_ok3 (k := 25) hmm hll hB (by decide) (by decide) (by decide))) hh836 pd_30 rfl rfl fun _ T837 Lc837 X837 hQ837 => ?_
  obtain ⟨rfl, Nq837, hh837⟩ := hQ837
  have N837 := Fr.app N836 Nq837
  refine Ends.v (oxh X837 hy at_880 883 (XT.i0_eq_f (by decide)) (oB X837 hy at_883 885 rfl (oB X837 hy at_885 887 rfl (oE X837 hy at_887 888 rfl (oB X837 hy at_888 890 rfl (oD X837 hy at_890 892 rfl (oD X837 hy at_892 894 rfl (oH X837 hy at_894 896 26 rfl ?_))))))))
  refine cS X837 hy hml hown hZ hw at_896 899 0 205 206 202 207 rfl rfl rfl rfl (rmat l Z a0 hw [] sx_731 a732 q1 b733 x8_5 x9_7 (26 : Int32) sa_731 sk_731 ((20 : Int32) + (fss q1)) (own_gf q1 ((20 : Int32) + (fss q1)).toNatClampNeg mm_731 ll_731) b732 kc732 (20 : Int32) qL1 k733 cs sf (1 : Int64) h771 n0 (Nat.le_trans Z0 K771.1) wy wj wl wD wJ wp wt wH wB wa hcs wb wM (by decide) hB.2.2.2.1 hB.2.2.2.2 (fun z => absurd z (by decide)) (by decide) (own_ok0 hB (by decide)) (own_ok2 (k := 26) hmm hB (by decide)) (own_ok3 (k := 26) hmm hll hB (by decide) (by decide) (by decide))) hh837 pd_30 rfl rfl fun _ T838 Lc838 X838 hQ838 => ?_
  obtain ⟨rfl, Nq838, hh838⟩ := hQ838
  have N838 := Fr.app N837 Nq838
  refine Ends.v (oxh X838 hy at_899 902 (XT.i0_eq_f (by decide)) (oB X838 hy at_902 904 rfl (oB X838 hy at_904 906 rfl (oE X838 hy at_906 907 rfl (oB X838 hy at_907 909 rfl (oD X838 hy at_909 911 rfl (oD X838 hy at_911 913 rfl (oH X838 hy at_913 915 27 rfl ?_))))))))
  refine cS X838 hy hml hown hZ hw at_915 918 0 205 206 202 207 rfl rfl rfl rfl (rmat l Z a0 hw [] sx_731 a732 q1 b733 x8_5 x9_7 (27 : Int32) sa_731 sk_731 ((20 : Int32) + (fss q1)) (own_gf q1 ((20 : Int32) + (fss q1)).toNatClampNeg mm_731 ll_731) b732 kc732 (20 : Int32) qL1 k733 cs sf (1 : Int64) h771 n0 (Nat.le_trans Z0 K771.1) wy wj wl wD wJ wp wt wH wB wa hcs wb wM (by decide) hB.2.2.2.1 hB.2.2.2.2 (fun z => absurd z (by decide)) (by decide) (own_ok0 hB (by decide)) (own_ok2 (k := 27) hmm hB (by decide)) (own_ok3 (k := 27) hmm hll hB (by decide) (by decide) (by decide))) hh838 pd_30 rfl rfl fun _ T839 Lc839 X839 hQ839 => ?_
  obtain ⟨rfl, Nq839, hh839⟩ := hQ839
  have N839 := Fr.app N838 Nq839
  refine Ends.v (oxh X839 hy at_918 921 (XT.i0_eq_f (by decide)) (oB X839 hy at_921 923 rfl (oB X839 hy at_923 925 rfl (oE X839 hy at_925 926 rfl (oB X839 hy at_926 928 rfl (oD X839 hy at_928 930 rfl (oD X839 hy at_930 932 rfl (oH X839 hy at_932 934 28 rfl ?_))))))))
  refine cS X839 hy hml hown hZ hw at_934 937 0 205 206 202 207 rfl rfl rfl rfl (rmat l Z a0 hw [] sx_731 a732 q1 b733 x8_5 x9_7 (28 : Int32) sa_731 sk_731 ((20 : Int32) + (fss q1)) (own_gf q1 ((20 : Int32) + (fss q1)).toNatClampNeg mm_731 ll_731) b732 kc732 (20 : Int32) qL1 k733 cs sf (1 : Int64) h771 n0 (Nat.le_trans Z0 K771.1) wy wj wl wD wJ wp wt wH wB wa hcs wb wM (by decide) hB.2.2.2.1 hB.2.2.2.2 (fun z => absurd z (by decide)) (by decide) (own_ok0 hB (by decide)) (own_ok2 (k := 28) hmm hB (by decide)) (own_ok3 (k := 28) hmm hll hB (by decide) (by decide) (by decide))) hh839 pd_30 rfl rfl fun _ T840 Lc840 X840 hQ840 => ?_
  obtain ⟨rfl, Nq840, hh840⟩ := hQ840
  have N840 := Fr.app N839 Nq840
  refine Ends.v (oxh X840 hy at_937 940 (XT.i0_eq_f (by decide)) (oB X840 hy at_940 942 rfl (oB X840 hy at_942 944 rfl (oE X840 hy at_944 945 rfl (oB X840 hy at_945 947 rfl (oD X840 hy at_947 949 rfl (oD X840 hy at_949 951 rfl (oH X840 hy at_951 953 29 rfl ?_))))))))
  refine cS X840 hy hml hown hZ hw at_953 956 0 205 206 202 207 rfl rfl rfl rfl (rmat l Z a0 hw [] sx_731 a732 q1 b733 x8_5 x9_7 (29 : Int32) sa_731 sk_731 ((20 : Int32) + (fss q1)) (own_gf q1 ((20 : Int32) + (fss q1)).toNatClampNeg mm_731 ll_731) b732 kc732 (20 : Int32) qL1 k733 cs sf (1 : Int64) h771 n0 (Nat.le_trans Z0 K771.1) wy wj wl wD wJ wp wt wH wB wa hcs wb wM (by decide) hB.2.2.2.1 hB.2.2.2.2 (fun z => absurd z (by decide)) (by decide) (own_ok0 hB (by decide)) (own_ok2 (k := 29) hmm hB (by decide)) (own_ok3 (k := 29) hmm hll hB (by decide) (by decide) (by decide))) hh840 pd_30 rfl rfl fun _ T841 Lc841 X841 hQ841 => ?_
  obtain ⟨rfl, Nq841, hh841⟩ := hQ841
  have N841 := Fr.app N840 Nq841
  refine Ends.v (oxh X841 hy at_956 959 (XT.i0_eq_f (by decide)) (oB X841 hy at_959 961 rfl (oB X841 hy at_961 963 rfl (oE X841 hy at_963 964 rfl (oB X841 hy at_964 966 rfl (oD X841 hy at_966 968 rfl (oD X841 hy at_968 970 rfl (oH X841 hy at_970 972 30 rfl ?_))))))))
  refine cS X841 hy hml hown hZ hw at_972 975 0 205 206 202 207 rfl rfl rfl rfl (rmat l Z a0 hw [] sx_731 a732 q1 b733 x8_5 x9_7 (30 : Int32) sa_731 sk_731 ((20 : Int32) + (fss q1)) (own_gf q1 ((20 : Int32) + (fss q1)).toNatClampNeg mm_731 ll_731) b732 kc732 (20 : Int32) qL1 k733 cs sf (1 : Int64) h771 n0 (Nat.le_trans Z0 K771.1) wy wj wl wD wJ wp wt wH wB wa hcs wb wM (by decide) hB.2.2.2.1 hB.2.2.2.2 (fun z => absurd z (by decide)) (by decide) (own_ok0 hB (by decide)) (own_ok2 (k := 30) hmm hB (by decide)) (own_ok3 (k := 30) hmm hll hB (by decide) (by decide) (by decide))) hh841 pd_30 rfl rfl fun _ T842 Lc842 X842 hQ842 => ?_
  obtain ⟨rfl, Nq842, hh842⟩ := hQ842
  have N842 := Fr.app N841 Nq842
  refine Ends.v (oxh X842 hy at_975 978 (XT.i0_eq_f (by decide)) (oB X842 hy at_978 980 rfl (oB X842 hy at_980 982 rfl (oE X842 hy at_982 983 rfl (oB X842 hy at_983 985 rfl (oD X842 hy at_985 987 rfl (oD X842 hy at_987 989 rfl (oH X842 hy at_989 991 31 rfl ?_))))))))
  refine cS X842 hy hml hown hZ hw at_991 994 0 205 206 202 207 rfl rfl rfl rfl (rmat l Z a0 hw [] sx_731 a732 q1 b733 x8_5 x9_7 (31 : Int32) sa_731 sk_731 ((20 : Int32) + (fss q1)) (own_gf q1 ((20 : Int32) + (fss q1)).toNatClampNeg mm_731 ll_731) b732 kc732 (20 : Int32) qL1 k733 cs sf (1 : Int64) h771 n0 (Nat.le_trans Z0 K771.1) wy wj wl wD wJ wp wt wH wB wa hcs wb wM (by decide) hB.2.2.2.1 hB.2.2.2.2 (fun z => absurd z (by decide)) (by decide) (own_ok0 hB (by decide)) (own_ok2 (k := 31) hmm hB (by decide)) (own_ok3 (k := 31) hmm hll hB (by decide) (by decide) (by decide))) hh842 pd_30 rfl rfl fun _ T843 Lc843 X843 hQ843 => ?_
  obtain ⟨rfl, Nq843, hh843⟩ := hQ843
  have N843 := Fr.app N842 Nq843
  refine Ends.v (oxh X843 hy at_994 997 (XT.i0_eq_f (by decide)) (oB X843 hy at_997 999 rfl (oB X843 hy at_999 1001 rfl (oE X843 hy at_1001 1002 rfl (oB X843 hy at_1002 1004 rfl (oD X843 hy at_1004 1006 rfl (oD X843 hy at_1006 1008 rfl (oH X843 hy at_1008 1010 32 rfl ?_))))))))
  refine cS X843 hy hml hown hZ hw at_1010 1013 0 205 206 202 207 rfl rfl rfl rfl (rmat l Z a0 hw [] sx_731 a732 q1 b733 x8_5 x9_7 (32 : Int32) sa_731 sk_731 ((20 : Int32) + (fss q1)) (own_gf q1 ((20 : Int32) + (fss q1)).toNatClampNeg mm_731 ll_731) b732 kc732 (20 : Int32) qL1 k733 cs sf (1 : Int64) h771 n0 (Nat.le_trans Z0 K771.1) wy wj wl wD wJ wp wt wH wB wa hcs wb wM (by decide) hB.2.2.2.1 hB.2.2.2.2 (fun z => absurd z (by decide)) (by decide) (own_ok0 hB (by decide)) (own_ok2 (k := 32) hmm hB (by decide)) (own_ok3 (k := 32) hmm hll hB (by decide) (by decide) (by decide))) hh843 pd_30 rfl rfl fun _ T844 Lc844 X844 hQ844 => ?_
  obtain ⟨rfl, Nq844, hh844⟩ := hQ844
  have N844 := Fr.app N843 Nq844
  refine Ends.v (oxh X844 hy at_1013 1016 (XT.i0_eq_f (by decide)) (oB X844 hy at_1016 1018 rfl (oB X844 hy at_1018 1020 rfl (oE X844 hy at_1020 1021 rfl (oB X844 hy at_1021 1023 rfl (oD X844 hy at_1023 1025 rfl (oD X844 hy at_1025 1027 rfl (oH X844 hy at_1027 1029 33 rfl ?_))))))))
  refine cS X844 hy hml hown hZ hw at_1029 1032 0 205 206 202 207 rfl rfl rfl rfl (rmat l Z a0 hw [] sx_731 a732 q1 b733 x8_5 x9_7 (33 : Int32) sa_731 sk_731 ((20 : Int32) + (fss q1)) (own_gf q1 ((20 : Int32) + (fss q1)).toNatClampNeg mm_731 ll_731) b732 kc732 (20 : Int32) qL1 k733 cs sf (1 : Int64) h771 n0 (Nat.le_trans Z0 K771.1) wy wj wl wD wJ wp wt wH wB wa hcs wb wM (by decide) hB.2.2.2.1 hB.2.2.2.2 (fun z => absurd z (by decide)) (by decide) (own_ok0 hB (by decide)) (own_ok2 (k := 33) hmm hB (by decide)) (own_ok3 (k := 33) hmm hll hB (by decide) (by decide) (by decide))) hh844 pd_30 rfl rfl fun _ T845 Lc845 X845 hQ845 => ?_
  obtain ⟨rfl, Nq845, hh845⟩ := hQ845
  have N845 := Fr.app N844 Nq845
  refine Ends.v (oxh X845 hy at_1032 1035 (XT.i0_eq_f (by decide)) (oB X845 hy at_1035 1037 rfl (oB X845 hy at_1037 1039 rfl (oE X845 hy at_1039 1040 rfl (oB X845 hy at_1040 1042 rfl (oD X845 hy at_1042 1044 rfl (oD X845 hy at_1044 1046 rfl (oH X845 hy at_1046 1048 34 rfl ?_))))))))
  refine cS X845 hy hml hown hZ hw at_1048 1051 0 205 206 202 207 rfl rfl rfl rfl (rmat l Z a0 hw [] sx_731 a732 q1 b733 x8_5 x9_7 (34 : Int32) sa_731 sk_731 ((20 : Int32) + (fss q1)) (own_gf q1 ((20 : Int32) + (fss q1)).toNatClampNeg mm_731 ll_731) b732 kc732 (20 : Int32) qL1 k733 cs sf (1 : Int64) h771 n0 (Nat.le_trans Z0 K771.1) wy wj wl wD wJ wp wt wH wB wa hcs wb wM (by decide) hB.2.2.2.1 hB.2.2.2.2 (fun z => absurd z (by decide)) (by decide) (own_ok0 hB (by decide)) (own_ok2 (k := 34) hmm hB (by decide)) (own_ok3 (k := 34) hmm hll hB (by decide) (by decide) (by decide))) hh845 pd_30 rfl rfl fun _ T846 Lc846 X846 hQ846 => ?_
  obtain ⟨rfl, Nq846, hh846⟩ := hQ846
  have N846 := Fr.app N845 Nq846
  refine Ends.v (oxh X846 hy at_1051 1054 (XT.i0_eq_f (by decide)) (oB X846 hy at_1054 1056 rfl (oB X846 hy at_1056 1058 rfl (oE X846 hy at_1058 1059 rfl (oB X846 hy at_1059 1061 rfl (oD X846 hy at_1061 1063 rfl (oD X846 hy at_1063 1065 rfl (oH X846 hy at_1065 1067 35 rfl ?_))))))))
  refine cS X846 hy hml hown hZ hw at_1067 1070 0 205 206 202 207 rfl rfl rfl rfl (rmat l Z a0 hw [] sx_731 a732 q1 b733 x8_5 x9_7 (35 : Int32) sa_731 sk_731 ((20 : Int32) + (fss q1)) (own_gf q1 ((20 : Int32) + (fss q1)).toNatClampNeg mm_731 ll_731) b732 kc732 (20 : Int32) qL1 k733 cs sf (1 : Int64) h771 n0 (Nat.le_trans Z0 K771.1) wy wj wl wD wJ wp wt wH wB wa hcs wb wM (by decide) hB.2.2.2.1 hB.2.2.2.2 (fun z => absurd z (by decide)) (by decide) (own_ok0 hB (by decide)) (own_ok2 (k := 35) hmm hB (by decide)) (own_ok3 (k := 35) hmm hll hB (by decide) (by decide) (by decide))) hh846 pd_30 rfl rfl fun _ T847 Lc847 X847 hQ847 => ?_
  obtain ⟨rfl, Nq847, hh847⟩ := hQ847
  have N847 := Fr.app N846 Nq847
  refine Ends.v (oxh X847 hy at_1070 1073 (XT.i0_eq_f (by decide)) (oB X847 hy at_1073 1075 rfl (oB X847 hy at_1075 1077 rfl (oE X847 hy at_1077 1078 rfl (oB X847 hy at_1078 1080 rfl (oD X847 hy at_1080 1082 rfl (oD X847 hy at_1082 1084 rfl (oH X847 hy at_1084 1086 36 rfl ?_))))))))
  refine cS X847 hy hml hown hZ hw at_1086 1089 0 205 206 202 207 rfl rfl rfl rfl (rmat l Z a0 hw [] sx_731 a732 q1 b733 x8_5 x9_7 (36 : Int32) sa_731 sk_731 ((20 : Int32) + (fss q1)) (own_gf q1 ((20 : Int32) + (fss q1)).toNatClampNeg mm_731 ll_731) b732 kc732 (20 : Int32) qL1 k733 cs sf (1 : Int64) h771 n0 (Nat.le_trans Z0 K771.1) wy wj wl wD wJ wp wt wH wB wa hcs wb wM (by decide) hB.2.2.2.1 hB.2.2.2.2 (fun z => absurd z (by decide)) (by decide) (own_ok0 hB (by decide)) (own_ok2 (k := 36) hmm hB (by decide)) (own_ok3 (k := 36) hmm hll hB (by decide) (by decide) (by decide))) hh847 pd_30 rfl rfl fun _ T848 Lc848 X848 hQ848 => ?_
  obtain ⟨rfl, Nq848, hh848⟩ := hQ848
  have N848 := Fr.app N847 Nq848
  refine Ends.v (oxh X848 hy at_1089 1092 (XT.i0_eq_f (by decide)) (oB X848 hy at_1092 1094 rfl (oB X848 hy at_1094 1096 rfl (oE X848 hy at_1096 1097 rfl (oB X848 hy at_1097 1099 rfl (oD X848 hy at_1099 1101 rfl (oD X848 hy at_1101 1103 rfl (oH X848 hy at_1103 1105 37 rfl ?_))))))))
  refine cS X848 hy hml hown hZ hw at_1105 1108 0 205 206 202 207 rfl rfl rfl rfl (rmat l Z a0 hw [] sx_731 a732 q1 b733 x8_5 x9_7 (37 : Int32) sa_731 sk_731 ((20 : Int32) + (fss q1)) (own_gf q1 ((20 : Int32) + (fss q1)).toNatClampNeg mm_731 ll_731) b732 kc732 (20 : Int32) qL1 k733 cs sf (1 : Int64) h771 n0 (Nat.le_trans Z0 K771.1) wy wj wl wD wJ wp wt wH wB wa hcs wb wM (by decide) hB.2.2.2.1 hB.2.2.2.2 (fun z => absurd z (by decide)) (by decide) (own_ok0 hB (by decide)) (own_ok2 (k := 37) hmm hB (by decide)) (own_ok3 (k := 37) hmm hll hB (by decide) (by decide) (by decide))) hh848 pd_30 rfl rfl fun _ T849 Lc849 X849 hQ849 => ?_
  obtain ⟨rfl, Nq849, hh849⟩ := hQ849
  have N849 := Fr.app N848 Nq849
  refine Ends.v (oxh X849 hy at_1108 1111 (XT.i0_eq_f (by decide)) (oB X849 hy at_1111 1113 rfl (oB X849 hy at_1113 1115 rfl (oE X849 hy at_1115 1116 rfl (oB X849 hy at_1116 1118 rfl (oD X849 hy at_1118 1120 rfl (oD X849 hy at_1120 1122 rfl (oH X849 hy at_1122 1124 38 rfl ?_))))))))
  refine cS X849 hy hml hown hZ hw at_1124 1127 0 205 206 202 207 rfl rfl rfl rfl (rmat l Z a0 hw [] sx_731 a732 q1 b733 x8_5 x9_7 (38 : Int32) sa_731 sk_731 ((20 : Int32) + (fss q1)) (own_gf q1 ((20 : Int32) + (fss q1)).toNatClampNeg mm_731 ll_731) b732 kc732 (20 : Int32) qL1 k733 cs sf (1 : Int64) h771 n0 (Nat.le_trans Z0 K771.1) wy wj wl wD wJ wp wt wH wB wa hcs wb wM (by decide) hB.2.2.2.1 hB.2.2.2.2 (fun z => absurd z (by decide)) (by decide) (own_ok0 hB (by decide)) (own_ok2 (k := 38) hmm hB (by decide)) (own_ok3 (k := 38) hmm hll hB (by decide) (by decide) (by decide))) hh849 pd_30 rfl rfl fun _ T850 Lc850 X850 hQ850 => ?_
  obtain ⟨rfl, Nq850, hh850⟩ := hQ850
  have N850 := Fr.app N849 Nq850
  refine Ends.v (oxh X850 hy at_1127 1130 (XT.i0_eq_f (by decide)) (oB X850 hy at_1130 1132 rfl (oB X850 hy at_1132 1134 rfl (oE X850 hy at_1134 1135 rfl (oB X850 hy at_1135 1137 rfl (oD X850 hy at_1137 1139 rfl (oD X850 hy at_1139 1141 rfl (oH X850 hy at_1141 1143 39 rfl ?_))))))))
  refine cS X850 hy hml hown hZ hw at_1143 1146 0 205 206 202 207 rfl rfl rfl rfl (rmat l Z a0 hw [] sx_731 a732 q1 b733 x8_5 x9_7 (39 : Int32) sa_731 sk_731 ((20 : Int32) + (fss q1)) (own_gf q1 ((20 : Int32) + (fss q1)).toNatClampNeg mm_731 ll_731) b732 kc732 (20 : Int32) qL1 k733 cs sf (1 : Int64) h771 n0 (Nat.le_trans Z0 K771.1) wy wj wl wD wJ wp wt wH wB wa hcs wb wM (by decide) hB.2.2.2.1 hB.2.2.2.2 (fun z => absurd z (by decide)) (by decide) (own_ok0 hB (by decide)) (own_ok2 (k := 39) hmm hB (by decide)) (own_ok3 (k := 39) hmm hll hB (by decide) (by decide) (by decide))) hh850 pd_30 rfl rfl fun _ T851 Lc851 X851 hQ851 => ?_
  obtain ⟨rfl, Nq851, hh851⟩ := hQ851
  have N851 := Fr.app N850 Nq851
  refine Ends.v (oxh X851 hy at_1146 1149 (XT.i0_eq_f (by decide)) (oB X851 hy at_1149 1151 rfl (oB X851 hy at_1151 1153 rfl (oE X851 hy at_1153 1154 rfl (oB X851 hy at_1154 1156 rfl (oD X851 hy at_1156 1158 rfl (oD X851 hy at_1158 1160 rfl (oH X851 hy at_1160 1162 40 rfl ?_))))))))
  refine cS X851 hy hml hown hZ hw at_1162 1165 0 205 206 202 207 rfl rfl rfl rfl (rmat l Z a0 hw [] sx_731 a732 q1 b733 x8_5 x9_7 (40 : Int32) sa_731 sk_731 ((20 : Int32) + (fss q1)) (own_gf q1 ((20 : Int32) + (fss q1)).toNatClampNeg mm_731 ll_731) b732 kc732 (20 : Int32) qL1 k733 cs sf (1 : Int64) h771 n0 (Nat.le_trans Z0 K771.1) wy wj wl wD wJ wp wt wH wB wa hcs wb wM (by decide) hB.2.2.2.1 hB.2.2.2.2 (fun z => absurd z (by decide)) (by decide) (own_ok0 hB (by decide)) (own_ok2 (k := 40) hmm hB (by decide)) (own_ok3 (k := 40) hmm hll hB (by decide) (by decide) (by decide))) hh851 pd_30 rfl rfl fun _ T852 Lc852 X852 hQ852 => ?_
  obtain ⟨rfl, Nq852, hh852⟩ := hQ852
  have N852 := Fr.app N851 Nq852
  refine Ends.v (oxh X852 hy at_1165 1168 (XT.i0_eq_f (by decide)) (oB X852 hy at_1168 1170 rfl (oB X852 hy at_1170 1172 rfl (oE X852 hy at_1172 1173 rfl (oB X852 hy at_1173 1175 rfl (oD X852 hy at_1175 1177 rfl (oD X852 hy at_1177 1179 rfl (oH X852 hy at_1179 1181 41 rfl ?_))))))))
  refine cS X852 hy hml hown hZ hw at_1181 1184 0 205 206 202 207 rfl rfl rfl rfl (rmat l Z a0 hw [] sx_731 a732 q1 b733 x8_5 x9_7 (41 : Int32) sa_731 sk_731 ((20 : Int32) + (fss q1)) (own_gf q1 ((20 : Int32) + (fss q1)).toNatClampNeg mm_731 ll_731) b732 kc732 (20 : Int32) qL1 k733 cs sf (1 : Int64) h771 n0 (Nat.le_trans Z0 K771.1) wy wj wl wD wJ wp wt wH wB wa hcs wb wM (by decide) hB.2.2.2.1 hB.2.2.2.2 (fun z => absurd z (by decide)) (by decide) (own_ok0 hB (by decide)) (own_ok2 (k := 41) hmm hB (by decide)) (own_ok3 (k := 41) hmm hll hB (by decide) (by decide) (by decide))) hh852 pd_30 rfl rfl fun _ T853 Lc853 X853 hQ853 => ?_
  obtain ⟨rfl, Nq853, hh853⟩ := hQ853
  have N853 := Fr.app N852 Nq853
  refine Ends.v (oxh X853 hy at_1184 1187 (XT.i0_eq_f (by decide)) (oB X853 hy at_1187 1189 rfl (oB X853 hy at_1189 1191 rfl (oE X853 hy at_1191 1192 rfl (oB X853 hy at_1192 1194 rfl (oD X853 hy at_1194 1196 rfl (oD X853 hy at_1196 1198 rfl (oH X853 hy at_1198 1200 42 rfl ?_))))))))
  refine cS X853 hy hml hown hZ hw at_1200 1203 0 205 206 202 207 rfl rfl rfl rfl (rmat l Z a0 hw [] sx_731 a732 q1 b733 x8_5 x9_7 (42 : Int32) sa_731 sk_731 ((20 : Int32) + (fss q1)) (own_gf q1 ((20 : Int32) + (fss q1)).toNatClampNeg mm_731 ll_731) b732 kc732 (20 : Int32) qL1 k733 cs sf (1 : Int64) h771 n0 (Nat.le_trans Z0 K771.1) wy wj wl wD wJ wp wt wH wB wa hcs wb wM (by decide) hB.2.2.2.1 hB.2.2.2.2 (fun z => absurd z (by decide)) (by decide) (own_ok0 hB (by decide)) (own_ok2 (k := 42) hmm hB (by decide)) (own_ok3 (k := 42) hmm hll hB (by decide) (by decide) (by decide))) hh853 pd_30 rfl rfl fun _ T854 Lc854 X854 hQ854 => ?_
  obtain ⟨rfl, Nq854, hh854⟩ := hQ854
  have N854 := Fr.app N853 Nq854
  refine Ends.v (oxh X854 hy at_1203 1206 (XT.i0_eq_f (by decide)) (oB X854 hy at_1206 1208 rfl (oB X854 hy at_1208 1210 rfl (oE X854 hy at_1210 1211 rfl (oB X854 hy at_1211 1213 rfl (oD X854 hy at_1213 1215 rfl (oD X854 hy at_1215 1217 rfl (oH X854 hy at_1217 1219 43 rfl ?_))))))))
  refine cS X854 hy hml hown hZ hw at_1219 1222 0 205 206 202 207 rfl rfl rfl rfl (rmat l Z a0 hw [] sx_731 a732 q1 b733 x8_5 x9_7 (43 : Int32) sa_731 sk_731 ((20 : Int32) + (fss q1)) (own_gf q1 ((20 : Int32) + (fss q1)).toNatClampNeg mm_731 ll_731) b732 kc732 (20 : Int32) qL1 k733 cs sf (1 : Int64) h771 n0 (Nat.le_trans Z0 K771.1) wy wj wl wD wJ wp wt wH wB wa hcs wb wM (by decide) hB.2.2.2.1 hB.2.2.2.2 (fun z => absurd z (by decide)) (by decide) (own_ok0 hB (by decide)) (own_ok2 (k := 43) hmm hB (by decide)) (own_ok3 (k := 43) hmm hll hB (by decide) (by decide) (by decide))) hh854 pd_30 rfl rfl fun _ T855 Lc855 X855 hQ855 => ?_
  obtain ⟨rfl, Nq855, hh855⟩ := hQ855
  have N855 := Fr.app N854 Nq855
  refine Ends.v (oxh X855 hy at_1222 1225 (XT.i0_eq_f (by decide)) (oG X855 hy at_1225 1226 1 rfl (oxm X855 hy at_1226 1230 ?_)))
  exact Ends.finW (some (.int 1)) X855 hS hk hQQ (fun h => by rw [Bd.returns] at h; cases h) Bd.notSynchronized (fun _ hr => retOut X855 hx (t := .boolean) Bd.returns rfl (Or.inl ⟨rfl, (by simp), _, rfl⟩) (hb hby at_1230) hr) hh855 (by decide) (by decide) ⟨rfl, N855, K771⟩
theorem comes_1 {Post : Tables → Env → Array Value → State → Outcome → State → Prop} (hpost : ∀ tb e args s v u, (limb_1_1.after args s (.returned v) u = true ∧ limb_1_2.after args s (.returned v) u = true ∧ True) → ReturnedEndW s (.returned v) u (Jvm.fieldLocs frame_1_writes args s ++ Jvm.arrayLocs frame_1_arrays args s ++ Jvm.staticLocs frame_1_statics s) 40 5632 → Post tb e args s (.returned v) u) :
    ArmFor flags0 classFile x code maxLocals ret World_1 tables_1 room_1 Calls_1 rest_1 Pre_1 Post := by
  intro l hfl _ _ p e ha hc hk s m args below hf hA hF happ hP
  obtain ⟨hcalls, hrest, hpre⟩ := hP
  obtain ⟨-, -, -, hnamed, -, -, -, hat⟩ := (Spec.applies_iff hf).mp happ
  obtain ⟨hg, hn⟩ := and_e (Cond.before_iff.mp (show (Jvm.Cond.and given_1 narrow_1).before args s = true from hpre))
  obtain ⟨gl1, gr1⟩ := and_e hg
  obtain ⟨gl2, gr2⟩ := and_e gr1
  obtain ⟨w0, w1, rfl⟩ : ∃ w0 w1 : Value, args = #[w0, w1] := by
    have hs : args.size = 2 := by simpa [Cond.value, given_1] using gl1
    obtain ⟨L⟩ := args
    match L, hs with
    | [w0, w1], _ => exact ⟨w0, w1, rfl⟩
  have hw := fun d (hd : d ∈ tables_1) => atoms_spec (ws := Jvm.Cond.code x code maxLocals ret :: tables_1) hat d (List.mem_cons_of_mem _ hd)
  have hfit : Fit s := fun {y c} hc i hi => by
    obtain ⟨ha, rfl⟩ := Array.getElem?_eq_some_iff.mp hc
    have q := List.all_eq_true.mp ((Array.all_eq_true_iff_forall_mem.mp hF) _ (Array.getElem_mem ha)) i (List.mem_range.mpr hi)
    simpa [Array.getElem?_eq_getElem hi] using q
  obtain ⟨hsets, hown0⟩ := atoms_of _ (rest_1_c_eq ▸ (show rest_1_c.before _ s = true from hrest))
  have hr0 := Cond.before_iff.mp hown0
  obtain ⟨i0, ei0⟩ := is_v gl2
  obtain rfl : w0 = (.int i0) := Option.some.inj ei0
  obtain ⟨i1, ei1⟩ := isL_v gr2
  obtain rfl : w1 = (.long i1) := Option.some.inj ei1
  obtain ⟨cs, ev_cs⟩ := is_v (Cond.before_iff.mp (hsets _ mm1))
  have hcs : ¬ cs = (0 : Int32) := own_nz (Cond.before_iff.mp (hsets _ (List.mem_of_getElem? (i := 2) rfl))) ev_cs
  have wa := Sta.start ev_cs (Or.inl (hsets _ mm0))
  obtain ⟨sf, ev_sf, wM⟩ := isR_v (Cond.before_iff.mp (hsets _ (List.mem_of_getElem? (i := 8) rfl)))
  have wb := Sta.start ev_sf (Or.inl (hsets _ (List.mem_of_getElem? (i := 7) rfl)))
  obtain ⟨a_D1, k_a_D1, ev_a_D1, wv⟩ := own_t1 (hsets _ (List.mem_of_getElem? (i := 12) rfl)) (hsets _ (List.mem_of_getElem? (i := 13) rfl)) (hsets _ (List.mem_of_getElem? (i := 14) rfl)) (tb hw 33 rfl)
  have wg := Sta.start ev_a_D1 (Or.inl (hsets _ (List.mem_of_getElem? (i := 11) rfl)))
  obtain ⟨a_D2, k_a_D2, ev_a_D2, wn⟩ := own_t2 (hsets _ (List.mem_of_getElem? (i := 17) rfl)) (hsets _ (List.mem_of_getElem? (i := 18) rfl)) (hsets _ (List.mem_of_getElem? (i := 19) rfl)) (tb hw 33 rfl)
  have wf := Sta.start ev_a_D2 (Or.inl (hsets _ (List.mem_of_getElem? (i := 16) rfl)))
  have vZ : Jvm.Lit.constHeld s "com/example/wunce/wunce/VersionUpdate" 20 := hcalls.1 ("com/example/wunce/wunce/VersionUpdate", 20) mm0
  have vY : Jvm.Lit.constHeld s "com/example/wunce/wunce/VersionUpdate" 22 := hcalls.1 ("com/example/wunce/wunce/VersionUpdate", 22) mm1
  have vS : Jvm.Lit.constHeld s "com/example/wunce/wunce/VersionUpdate" 28 := hcalls.1 ("com/example/wunce/wunce/VersionUpdate", 28) (List.mem_of_getElem? (i := 2) rfl)
  have jc : Jvm.Lit.constHeld s "com/example/wunce/wunce/VersionUpdateToStringPinLaw" 16 := hcalls.1 ("com/example/wunce/wunce/VersionUpdateToStringPinLaw", 16) (List.mem_of_getElem? (i := 3) rfl)
  have jb : Jvm.Lit.constHeld s "com/example/wunce/wunce/VersionUpdateToStringPinLaw" 18 := hcalls.1 ("com/example/wunce/wunce/VersionUpdateToStringPinLaw", 18) (List.mem_of_getElem? (i := 4) rfl)
  have hcw : Jvm.Lit.compactW.before #[(Value.int i0), (Value.long i1)] s = true := hsets _ (List.mem_of_getElem? (i := 2) rfl)
  obtain ⟨n, o, h1, h2, h3, _, L, rfl, hQ, hq⟩ := rm0 l s _ hw tables_1 i0 i1 cs sf a_D1 k_a_D1 a_D2 k_a_D2 s.heap s.heap.size (Nat.le_refl _) wa hcs wb wM wv wg wn wf vZ vY vS jc jb hcw rfl (fun _ _ q => q) p e ha hc hk s m _ below hf ((Spec.applies_iff_loose hf).mp happ).1 ⟨rfl, State.Warmed39.refl s, rfl, rfl⟩ trivial
  obtain ⟨hv, N, -⟩ := hQ
  have hlaw : (1 : Int32) = 1 := rfl
  rw [hlaw] at hv
  subst hv
  refine ⟨n, _, h1, h2, h3, hpost _ _ _ _ _ _ ⟨Cond.after_iff.mpr rfl, Cond.after_iff.mpr (eq_i res_at (Term.int_eval (1)) rfl), trivial⟩ ⟨hq.1, hq.2.1, hq.2.2.1, (hq.2.2.2.sift fun y hy => Or.inr (N y hy)).mono (by decide) (by decide)⟩⟩
theorem main_1_1 : Claimed_1_1 := comes_1 fun _ _ _ _ _ _ h hF => ⟨h.1, hF⟩
theorem main_1_2 : Claimed_1_2 := comes_1 fun _ _ _ _ _ _ h hF => ⟨h.2.1, hF⟩
end Jvm.Pilot.@@N@@
namespace Jvm.Pilot.@@N@@
open Jvm Jvm.ClassFile Sem Op Lib Jvm.Free Jvm.Stand Jvm.Pilot.@@N@@.Jvm.D
/-! MADE BY PROGRAM (witnessworld.py) out of the Statement's table words and the real class files: 28 classes; the members and pool entries that the words name. The judged class is class 1, her method 1. -/
namespace start1
open Jvm.ClassFile
def u (s : String) : CpInfo := .utf8 (stringToUtf16 s)
/-- a pool by its gaps: so many unusable entries, then the entry; so many at the end -/
def gap : Nat → List CpInfo → List CpInfo
  | 0, r => r
  | n + 1, r => .unusable :: gap n r
def poolList (es : List (Nat × CpInfo)) (last : Nat) : List CpInfo := es.foldr (fun e r => gap e.1 (e.2 :: r)) (gap last [])
def pool (es : List (Nat × CpInfo)) (last : Nat) : Array CpInfo := ⟨poolList es last⟩
def fileOf (pool : Array CpInfo) (this : Nat) (attrs : Array Attribute := #[]) (ms : Array MethodInfo := #[]) (fl : Nat := 33) (sup : Nat := 0) (ifs : Array Nat := #[]) (fds : Array FieldInfo := #[]) : ClassFile where
  minorVersion := 0
  majorVersion := 65
  constantPool := pool
  accessFlags := fl
  thisClass := this
  superClass := sup
  interfaces := ifs
  fields := fds
  methods := ms
  attributes := attrs
def plain (name : String) (sup : Option ClassId) : Class where
  name := name
  kind := .ordinary
  loader := none
  accessFlags := 33
  super := sup
  interfaces := #[]
  cf := none
  fields := #[]
  methods := #[]
  instanceTypes := #[]
  staticTypes := #[]
  resolved := #[]
  callSites := []
  init := .initialized
  statics := none
  mirror := none

def pool0 : Array CpInfo := pool [(5, u "<init>"), (0, u "()V"), (1, .class_ 10), (1, u "java/lang/Object"), (85, u "clone"), (0, u "()Ljava/lang/Object;")] 26

def k0c0 : Code := { maxStack := 0, maxLocals := 1, code := object_method_1_code, exceptionTable := #[], attributes := #[] }
def k0m0 : Method := { name := "<init>", desc := "()V", sig := { parameters := [], returnType := none }, accessFlags := 1, code := some k0c0 }
def k0m1 : Method := { name := "clone", desc := "()Ljava/lang/Object;", sig := { parameters := [], returnType := some (.object "java/lang/Object") }, accessFlags := 260, code := none }
/-- java/lang/Object -/
def k0 : Class := { plain "java/lang/Object" none with
  accessFlags := 33
  interfaces := #[]
  cf := some (fileOf pool0 8 #[] #[{ accessFlags := 1, nameIndex := 5, descriptorIndex := 6, attributes := #[] }, { accessFlags := 260, nameIndex := 96, descriptorIndex := 97, attributes := #[] }] 33 0 #[] #[])
  fields := #[]
  methods := #[k0m0, k0m1]
  instanceTypes := #[]
  staticTypes := #[]
  resolved := Array.replicate 124 none
  statics := none }

def pool1 : Array CpInfo := pool [(2, .class_ 4), (1, u "java/lang/Object"), (0, u "<init>"), (0, u "()V"), (0, .class_ 8), (0, u "com/example/wunce/wunce/VersionUpdate"), (0, .methodref 7 10), (0, .nameAndType 5 11), (0, u "(ZJ)V"), (0, .methodref 7 13), (0, .nameAndType 14 15), (0, u "toString"), (0, u "()Ljava/lang/String;"), (0, .string 17), (0, u "applied, at version "), (0, .string 19), (0, u "not applied, at version "), (0, .long 10), (1, .long 100), (1, .long 1000), (1, .long 10000), (1, .long 100000), (1, .long 1000000), (1, .long 10000000), (1, .long 100000000), (1, .long 1000000000), (1, .long 10000000000), (1, .long 100000000000), (1, .long 1000000000000), (1, .long 10000000000000), (1, .long 100000000000000), (1, .long 1000000000000000), (1, .long 10000000000000000), (1, .long 100000000000000000), (1, .long 1000000000000000000), (1, .methodref 57 58), (0, .class_ 59), (0, .nameAndType 60 61), (0, u "com/example/wunce/wunce/VersionUpdateToStringPinLaw"), (0, u "nz"), (0, u "(JJ)I"), (0, .methodref 63 64), (0, .class_ 65), (0, .nameAndType 66 67), (0, u "java/lang/String"), (0, u "length"), (0, u "()I"), (0, .methodref 57 69), (0, .nameAndType 70 71), (0, u "at"), (0, u "(Ljava/lang/String;Ljava/lang/String;J[JIII)Z"), (0, .methodref 63 73), (0, .nameAndType 74 75), (0, u "charAt"), (0, u "(I)C"), (0, .long 48), (1, .methodref 79 80), (0, .class_ 81), (0, .nameAndType 82 83), (0, u "java/lang/Math"), (0, u "abs"), (0, u "(J)J"), (2, u "law"), (0, u "(IJ)Z")] 5

def k1m0 : Method := { name := "<init>", desc := "()V", sig := { parameters := [], returnType := none }, accessFlags := 1, code := none }
def k1c1 : Code := { maxStack := 8, maxLocals := 11, code := code, exceptionTable := #[], attributes := #[] }
def k1m1 : Method := { name := "law", desc := "(IJ)Z", sig := { parameters := [.int, .long], returnType := some .boolean }, accessFlags := 9, code := some k1c1 }
def k1c2 : Code := { maxStack := 4, maxLocals := 4, code := method_3_code, exceptionTable := #[], attributes := #[] }
def k1m2 : Method := { name := "nz", desc := "(JJ)I", sig := { parameters := [.long, .long], returnType := some .int }, accessFlags := 10, code := some k1c2 }
def k1c3 : Code := { maxStack := 4, maxLocals := 13, code := method_4_code, exceptionTable := #[], attributes := #[] }
def k1m3 : Method := { name := "at", desc := "(Ljava/lang/String;Ljava/lang/String;J[JIII)Z", sig := { parameters := [(.object "java/lang/String"), (.object "java/lang/String"), .long, (.array .long), .int, .int, .int], returnType := some .boolean }, accessFlags := 10, code := some k1c3 }
/-- com/example/wunce/wunce/VersionUpdateToStringPinLaw -/
def k1 : Class := { plain "com/example/wunce/wunce/VersionUpdateToStringPinLaw" (some 0) with
  accessFlags := 49
  interfaces := #[]
  cf := some (fileOf pool1 57 #[] #[{ accessFlags := 1, nameIndex := 5, descriptorIndex := 6, attributes := #[] }, { accessFlags := 9, nameIndex := 86, descriptorIndex := 87, attributes := #[] }, { accessFlags := 10, nameIndex := 60, descriptorIndex := 61, attributes := #[] }, { accessFlags := 10, nameIndex := 70, descriptorIndex := 71, attributes := #[] }] 49 2 #[] #[])
  fields := #[]
  methods := #[k1m0, k1m1, k1m2, k1m3]
  instanceTypes := #[]
  staticTypes := #[]
  resolved := Array.replicate 93 none
  statics := none }

def pool2 : Array CpInfo := pool [(1, .methodref 2 3), (0, .class_ 4), (0, .nameAndType 5 6), (0, u "java/lang/Object"), (0, u "<init>"), (0, u "()V"), (0, .fieldref 8 9), (0, .class_ 10), (0, .nameAndType 11 12), (0, u "com/example/wunce/wunce/VersionUpdate"), (0, u "_applied"), (0, u "Z"), (0, .fieldref 8 14), (0, .nameAndType 15 16), (0, u "_currentVersion"), (0, u "J"), (0, .class_ 18), (0, u "java/lang/StringBuilder"), (0, .methodref 17 3), (0, .string 21), (0, u "applied"), (0, .string 23), (0, u "not applied"), (0, .methodref 17 25), (0, .nameAndType 26 27), (0, u "append"), (0, u "(Ljava/lang/String;)Ljava/lang/StringBuilder;"), (0, .string 29), (0, u ", at version "), (0, .methodref 17 31), (0, .nameAndType 26 32), (0, u "(J)Ljava/lang/StringBuilder;"), (0, .methodref 17 34), (0, .nameAndType 35 36), (0, u "toString"), (0, u "()Ljava/lang/String;"), (0, u "(ZJ)V")] 10

def k2c0 : Code := { maxStack := 3, maxLocals := 4, code := prog_31_method_1_code, exceptionTable := #[], attributes := #[] }
def k2m0 : Method := { name := "<init>", desc := "(ZJ)V", sig := { parameters := [.boolean, .long], returnType := none }, accessFlags := 0, code := some k2c0 }
def k2c1 : Code := { maxStack := 3, maxLocals := 1, code := prog_31_method_4_code, exceptionTable := #[], attributes := #[] }
def k2m1 : Method := { name := "toString", desc := "()Ljava/lang/String;", sig := { parameters := [], returnType := some (.object "java/lang/String") }, accessFlags := 1, code := some k2c1 }
/-- com/example/wunce/wunce/VersionUpdate -/
def k2 : Class := { plain "com/example/wunce/wunce/VersionUpdate" (some 0) with
  accessFlags := 49
  interfaces := #[]
  cf := some (fileOf pool2 8 #[] #[{ accessFlags := 0, nameIndex := 5, descriptorIndex := 37, attributes := #[] }, { accessFlags := 1, nameIndex := 35, descriptorIndex := 36, attributes := #[] }] 49 2 #[] #[{ accessFlags := 18, nameIndex := 11, descriptorIndex := 12, attributes := #[] }, { accessFlags := 18, nameIndex := 15, descriptorIndex := 16, attributes := #[] }])
  fields := #[{ name := "_applied", type := .boolean, accessFlags := 18, slot := 0, constantValue := 0 }, { name := "_currentVersion", type := .long, accessFlags := 18, slot := 1, constantValue := 0 }]
  methods := #[k2m0, k2m1]
  instanceTypes := #[.boolean, .long]
  staticTypes := #[]
  resolved := Array.replicate 48 none
  statics := none }

def pool3 : Array CpInfo := pool [(1, .class_ 2), (0, u "java/lang/Appendable"), (0, .class_ 4), (0, u "java/lang/Object")] 9

/-- java/lang/Appendable -/
def k3 : Class := { plain "java/lang/Appendable" (some 0) with
  accessFlags := 1537
  interfaces := #[]
  cf := some (fileOf pool3 1 #[] #[] 1537 3 #[] #[])
  fields := #[]
  methods := #[]
  instanceTypes := #[]
  staticTypes := #[]
  resolved := Array.replicate 14 none
  statics := none }

def pool4 : Array CpInfo := pool [(2, .class_ 4), (1, u "java/lang/CharSequence"), (42, .class_ 48), (0, u "java/lang/CharSequence$1CodePointIterator"), (10, .class_ 60), (0, u "java/lang/CharSequence$1CharIterator"), (5, .class_ 67), (0, u "java/lang/Object")] 63

/-- java/lang/CharSequence -/
def k4 : Class := { plain "java/lang/CharSequence" (some 0) with
  accessFlags := 1537
  interfaces := #[]
  cf := some (fileOf pool4 2 #[.nestMembers #[47, 59]] #[] 1537 66 #[] #[])
  fields := #[]
  methods := #[]
  instanceTypes := #[]
  staticTypes := #[]
  resolved := Array.replicate 131 none
  statics := none }

def pool5 : Array CpInfo := pool [(1, .class_ 2), (0, u "java/lang/String"), (0, .methodref 4 5), (0, .class_ 6), (0, .nameAndType 7 8), (0, u "java/lang/Object"), (0, u "<init>"), (0, u "()V"), (1, .class_ 12), (1, u "java/lang/AbstractStringBuilder"), (0, u "EMPTYVALUE"), (0, u "[B"), (0, .fieldref 10 16), (0, .nameAndType 17 14), (0, u "value"), (0, .fieldref 1 19), (0, .nameAndType 20 21), (0, u "COMPACT_STRINGS"), (0, u "Z"), (0, .fieldref 10 23), (0, .nameAndType 24 25), (0, u "coder"), (0, u "B"), (6, .methodref 1 33), (0, .nameAndType 34 35), (0, u "length"), (0, u "()I"), (3, .integer 2147483647), (0, .methodref 1 41), (0, .nameAndType 24 42), (0, u "()B"), (2, u "append"), (0, u "(Ljava/lang/String;)Ljava/lang/AbstractStringBuilder;"), (1, .class_ 49), (0, u "java/lang/CharSequence"), (19, u "(Ljava/lang/String;)V"), (5, u "maybeLatin1"), (3, .fieldref 10 80), (0, .nameAndType 81 82), (0, u "count"), (0, u "I"), (0, .methodref 10 84), (0, .nameAndType 85 86), (0, u "isLatin1"), (0, u "()Z"), (13, .methodref 10 101), (0, .nameAndType 102 103), (0, u "ensureCapacityInternal"), (0, u "(I)V"), (0, .methodref 10 105), (0, .nameAndType 106 107), (0, u "newCapacity"), (0, u "(I)I"), (0, .methodref 109 110), (0, .class_ 111), (0, .nameAndType 112 113), (0, u "java/util/Arrays"), (0, u "copyOf"), (0, u "([BI)[B"), (0, .methodref 115 116), (0, .class_ 117), (0, .nameAndType 118 119), (0, u "jdk/internal/util/ArraysSupport"), (0, u "newLength"), (0, u "(III)I"), (68, u "getChars"), (19, .methodref 10 209), (0, .nameAndType 210 211), (0, u "putStringAt"), (0, u "(ILjava/lang/String;)V"), (5, u "inflateIfNeededFor"), (2, .nameAndType 221 222), (0, u "getBytes"), (0, u "([BIB)V"), (24, u "stringSize"), (6, .methodref 255 256), (0, .class_ 257), (0, .nameAndType 247 258), (0, u "java/lang/Long"), (0, u "(J)I"), (0, .methodref 255 260), (0, .nameAndType 188 261), (0, u "(JI[B)I"), (135, .methodref 10 398), (0, .nameAndType 217 69), (0, .methodref 1 220), (3, u "()[B"), (40, .class_ 445), (0, u "java/lang/Appendable"), (67, u "(J)Ljava/lang/AbstractStringBuilder;"), (38, u "getValue")] 56

def k5m0 : Method := { name := "<init>", desc := "()V", sig := { parameters := [], returnType := none }, accessFlags := 0, code := none }
def k5c1 : Code := { maxStack := 2, maxLocals := 2, code := jdk_68_method_2_code, exceptionTable := #[], attributes := #[] }
def k5m1 : Method := { name := "<init>", desc := "(I)V", sig := { parameters := [.int], returnType := none }, accessFlags := 0, code := some k5c1 }
def k5c2 : Code := { maxStack := 1, maxLocals := 1, code := jdk_68_method_6_code, exceptionTable := #[], attributes := #[] }
def k5m2 : Method := { name := "length", desc := "()I", sig := { parameters := [], returnType := some .int }, accessFlags := 1, code := some k5c2 }
def k5c3 : Code := { maxStack := 4, maxLocals := 3, code := jdk_68_method_9_code, exceptionTable := #[], attributes := #[] }
def k5m3 : Method := { name := "ensureCapacityInternal", desc := "(I)V", sig := { parameters := [.int], returnType := none }, accessFlags := 2, code := some k5c3 }
def k5c4 : Code := { maxStack := 5, maxLocals := 6, code := jdk_68_method_10_code, exceptionTable := #[], attributes := #[] }
def k5m4 : Method := { name := "newCapacity", desc := "(I)I", sig := { parameters := [.int], returnType := some .int }, accessFlags := 2, code := some k5c4 }
def k5c5 : Code := { maxStack := 3, maxLocals := 3, code := jdk_68_method_22_code, exceptionTable := #[], attributes := #[] }
def k5m5 : Method := { name := "append", desc := "(Ljava/lang/String;)Ljava/lang/AbstractStringBuilder;", sig := { parameters := [(.object "java/lang/String")], returnType := some (.object "java/lang/AbstractStringBuilder") }, accessFlags := 1, code := some k5c5 }
def k5c6 : Code := { maxStack := 5, maxLocals := 5, code := jdk_68_method_33_code, exceptionTable := #[], attributes := #[] }
def k5m6 : Method := { name := "append", desc := "(J)Ljava/lang/AbstractStringBuilder;", sig := { parameters := [.long], returnType := some (.object "java/lang/AbstractStringBuilder") }, accessFlags := 1, code := some k5c6 }
def k5c7 : Code := { maxStack := 1, maxLocals := 1, code := jdk_68_method_64_code, exceptionTable := #[], attributes := #[] }
def k5m7 : Method := { name := "getValue", desc := "()[B", sig := { parameters := [], returnType := some (.array .byte) }, accessFlags := 16, code := some k5c7 }
def k5c8 : Code := { maxStack := 1, maxLocals := 1, code := jdk_68_method_68_code, exceptionTable := #[], attributes := #[] }
def k5m8 : Method := { name := "isLatin1", desc := "()Z", sig := { parameters := [], returnType := some .boolean }, accessFlags := 16, code := some k5c8 }
def k5c9 : Code := { maxStack := 2, maxLocals := 2, code := jdk_68_method_71_code, exceptionTable := #[], attributes := #[] }
def k5m9 : Method := { name := "inflateIfNeededFor", desc := "(Ljava/lang/String;)V", sig := { parameters := [(.object "java/lang/String")], returnType := none }, accessFlags := 2, code := some k5c9 }
def k5c10 : Code := { maxStack := 4, maxLocals := 3, code := jdk_68_method_73_code, exceptionTable := #[], attributes := #[] }
def k5m10 : Method := { name := "putStringAt", desc := "(ILjava/lang/String;)V", sig := { parameters := [.int, (.object "java/lang/String")], returnType := none }, accessFlags := 2, code := some k5c10 }
/-- java/lang/AbstractStringBuilder -/
def k5 : Class := { plain "java/lang/AbstractStringBuilder" (some 0) with
  accessFlags := 1056
  interfaces := #[3, 4]
  cf := some (fileOf pool5 10 #[] #[{ accessFlags := 0, nameIndex := 7, descriptorIndex := 8, attributes := #[] }, { accessFlags := 0, nameIndex := 7, descriptorIndex := 103, attributes := #[] }, { accessFlags := 1, nameIndex := 34, descriptorIndex := 35, attributes := #[] }, { accessFlags := 2, nameIndex := 102, descriptorIndex := 103, attributes := #[] }, { accessFlags := 2, nameIndex := 106, descriptorIndex := 107, attributes := #[] }, { accessFlags := 1, nameIndex := 45, descriptorIndex := 46, attributes := #[] }, { accessFlags := 1, nameIndex := 45, descriptorIndex := 513, attributes := #[] }, { accessFlags := 16, nameIndex := 552, descriptorIndex := 403, attributes := #[] }, { accessFlags := 16, nameIndex := 85, descriptorIndex := 86, attributes := #[] }, { accessFlags := 2, nameIndex := 217, descriptorIndex := 69, attributes := #[] }, { accessFlags := 2, nameIndex := 210, descriptorIndex := 211, attributes := #[] }] 1056 4 #[444, 48] #[{ accessFlags := 0, nameIndex := 17, descriptorIndex := 14, attributes := #[] }, { accessFlags := 0, nameIndex := 24, descriptorIndex := 25, attributes := #[] }, { accessFlags := 0, nameIndex := 75, descriptorIndex := 21, attributes := #[] }, { accessFlags := 0, nameIndex := 81, descriptorIndex := 82, attributes := #[] }, { accessFlags := 26, nameIndex := 13, descriptorIndex := 14, attributes := #[] }])
  fields := #[{ name := "value", type := (.array .byte), accessFlags := 0, slot := 0, constantValue := 0 }, { name := "coder", type := .byte, accessFlags := 0, slot := 1, constantValue := 0 }, { name := "maybeLatin1", type := .boolean, accessFlags := 0, slot := 2, constantValue := 0 }, { name := "count", type := .int, accessFlags := 0, slot := 3, constantValue := 0 }, { name := "EMPTYVALUE", type := (.array .byte), accessFlags := 26, slot := 0, constantValue := 0 }]
  methods := #[k5m0, k5m1, k5m2, k5m3, k5m4, k5m5, k5m6, k5m7, k5m8, k5m9, k5m10]
  instanceTypes := #[(.array .byte), .byte, .boolean, .int]
  staticTypes := #[(.array .byte)]
  resolved := Array.replicate 609 none
  statics := none }

def pool6 : Array CpInfo := pool [(1, .class_ 2), (0, u "java/io/Serializable"), (0, .class_ 4), (0, u "java/lang/Object")] 2

/-- java/io/Serializable -/
def k6 : Class := { plain "java/io/Serializable" (some 0) with
  accessFlags := 1537
  interfaces := #[]
  cf := some (fileOf pool6 1 #[] #[] 1537 3 #[] #[])
  fields := #[]
  methods := #[]
  instanceTypes := #[]
  staticTypes := #[]
  resolved := Array.replicate 7 none
  statics := none }

def pool7 : Array CpInfo := pool [(1, .class_ 2), (0, u "java/lang/Comparable"), (0, .class_ 4), (0, u "java/lang/Object")] 7

/-- java/lang/Comparable -/
def k7 : Class := { plain "java/lang/Comparable" (some 0) with
  accessFlags := 1537
  interfaces := #[]
  cf := some (fileOf pool7 1 #[] #[] 1537 3 #[] #[])
  fields := #[]
  methods := #[]
  instanceTypes := #[]
  staticTypes := #[]
  resolved := Array.replicate 12 none
  statics := none }

def pool8 : Array CpInfo := pool [(1, .methodref 2 3), (0, .class_ 4), (0, .nameAndType 5 6), (0, u "java/lang/AbstractStringBuilder"), (0, u "<init>"), (0, u "(I)V"), (11, .class_ 20), (1, u "java/lang/String"), (3, .class_ 26), (1, u "java/lang/StringBuilder"), (0, u "append"), (0, u "(Ljava/lang/String;)Ljava/lang/StringBuilder;"), (0, .methodref 2 30), (0, .nameAndType 27 31), (0, u "(Ljava/lang/String;)Ljava/lang/AbstractStringBuilder;"), (24, .methodref 2 57), (0, .nameAndType 27 58), (0, u "(J)Ljava/lang/AbstractStringBuilder;"), (78, .methodref 18 138), (0, .nameAndType 5 139), (0, u "(Ljava/lang/StringBuilder;)V"), (5, u "()V"), (10, u "()I"), (124, u "(J)Ljava/lang/StringBuilder;"), (61, .methodref 2 344), (0, .nameAndType 345 156), (0, u "length"), (3, .class_ 350), (0, u "java/lang/Appendable"), (0, .class_ 352), (0, u "java/io/Serializable"), (0, .class_ 354), (0, u "java/lang/Comparable"), (0, .class_ 356), (0, u "java/lang/CharSequence"), (0, u "serialVersionUID"), (0, u "J"), (40, u "toString"), (0, u "()Ljava/lang/String;")] 21

def k8c0 : Code := { maxStack := 2, maxLocals := 1, code := jdk_67_method_1_code, exceptionTable := #[], attributes := #[] }
def k8m0 : Method := { name := "<init>", desc := "()V", sig := { parameters := [], returnType := none }, accessFlags := 1, code := some k8c0 }
def k8c1 : Code := { maxStack := 2, maxLocals := 2, code := jdk_67_method_7_code, exceptionTable := #[], attributes := #[] }
def k8m1 : Method := { name := "append", desc := "(Ljava/lang/String;)Ljava/lang/StringBuilder;", sig := { parameters := [(.object "java/lang/String")], returnType := some (.object "java/lang/StringBuilder") }, accessFlags := 1, code := some k8c1 }
def k8c2 : Code := { maxStack := 3, maxLocals := 3, code := jdk_67_method_16_code, exceptionTable := #[], attributes := #[] }
def k8m2 : Method := { name := "append", desc := "(J)Ljava/lang/StringBuilder;", sig := { parameters := [.long], returnType := some (.object "java/lang/StringBuilder") }, accessFlags := 1, code := some k8c2 }
def k8c3 : Code := { maxStack := 3, maxLocals := 1, code := jdk_67_method_42_code, exceptionTable := #[], attributes := #[] }
def k8m3 : Method := { name := "toString", desc := "()Ljava/lang/String;", sig := { parameters := [], returnType := some (.object "java/lang/String") }, accessFlags := 1, code := some k8c3 }
def k8c4 : Code := { maxStack := 1, maxLocals := 1, code := jdk_67_method_93_code, exceptionTable := #[], attributes := #[] }
def k8m4 : Method := { name := "length", desc := "()I", sig := { parameters := [], returnType := some .int }, accessFlags := 4161, code := some k8c4 }
/-- java/lang/StringBuilder -/
def k8 : Class := { plain "java/lang/StringBuilder" (some 5) with
  accessFlags := 49
  interfaces := #[3, 6, 7, 4]
  cf := some (fileOf pool8 24 #[] #[{ accessFlags := 1, nameIndex := 5, descriptorIndex := 145, attributes := #[] }, { accessFlags := 1, nameIndex := 27, descriptorIndex := 28, attributes := #[] }, { accessFlags := 1, nameIndex := 27, descriptorIndex := 281, attributes := #[] }, { accessFlags := 1, nameIndex := 399, descriptorIndex := 400, attributes := #[] }, { accessFlags := 4161, nameIndex := 345, descriptorIndex := 156, attributes := #[] }] 49 2 #[349, 351, 353, 355] #[{ accessFlags := 24, nameIndex := 357, descriptorIndex := 358, attributes := #[] }])
  fields := #[{ name := "serialVersionUID", type := .long, accessFlags := 24, slot := 0, constantValue := 0 }]
  methods := #[k8m0, k8m1, k8m2, k8m3, k8m4]
  instanceTypes := #[(.array .byte), .byte, .boolean, .int]
  staticTypes := #[.long]
  resolved := Array.replicate 422 none
  statics := none }

def pool9 : Array CpInfo := pool [(1, .class_ 2), (0, u "java/lang/constant/Constable"), (0, .class_ 4), (0, u "java/lang/Object")] 6

/-- java/lang/constant/Constable -/
def k9 : Class := { plain "java/lang/constant/Constable" (some 0) with
  accessFlags := 1537
  interfaces := #[]
  cf := some (fileOf pool9 1 #[] #[] 1537 3 #[] #[])
  fields := #[]
  methods := #[]
  instanceTypes := #[]
  staticTypes := #[]
  resolved := Array.replicate 11 none
  statics := none }

def pool10 : Array CpInfo := pool [(1, .class_ 2), (0, u "java/lang/constant/ConstantDesc"), (0, .class_ 4), (0, u "java/lang/Object")] 32

/-- java/lang/constant/ConstantDesc -/
def k10 : Class := { plain "java/lang/constant/ConstantDesc" (some 0) with
  accessFlags := 1537
  interfaces := #[]
  cf := some (fileOf pool10 1 #[] #[] 1537 3 #[] #[])
  fields := #[]
  methods := #[]
  instanceTypes := #[]
  staticTypes := #[]
  resolved := Array.replicate 37 none
  statics := none }

def pool11 : Array CpInfo := pool [(1, .methodref 2 3), (0, .class_ 4), (0, .nameAndType 5 6), (0, u "java/lang/Object"), (0, u "<init>"), (0, u "()V"), (2, .fieldref 10 11), (0, .class_ 12), (0, .nameAndType 13 14), (0, u "java/lang/String"), (0, u "value"), (0, u "[B"), (0, .fieldref 10 16), (0, .nameAndType 17 18), (0, u "coder"), (0, u "B"), (2, u "hash"), (0, u "I"), (2, u "hashIsZero"), (0, u "Z"), (11, .fieldref 10 39), (0, .nameAndType 40 26), (0, u "COMPACT_STRINGS"), (13, .methodref 55 56), (0, .class_ 57), (0, .nameAndType 58 59), (0, u "java/util/Arrays"), (0, u "copyOfRange"), (0, u "([BII)[B"), (47, .class_ 109), (1, u "java/lang/StringLatin1"), (32, u "()Z"), (50, .class_ 195), (1, u "java/lang/System"), (16, .methodref 193 213), (0, .nameAndType 214 215), (0, u "arraycopy"), (0, u "(Ljava/lang/Object;ILjava/lang/Object;II)V"), (118, u "()I"), (0, .methodref 10 336), (0, .nameAndType 17 337), (0, u "()B"), (2, u "()[B"), (22, u "([BI)C"), (27, u "(II)V"), (35, u "(I)C"), (61, .methodref 10 490), (0, .nameAndType 5 491), (0, u "(Ljava/lang/AbstractStringBuilder;Ljava/lang/Void;)V"), (0, .methodref 10 493), (0, .nameAndType 494 142), (0, u "isLatin1"), (0, .methodref 107 496), (0, .nameAndType 497 363), (0, u "charAt"), (3, u "checkIndex"), (4, .nameAndType 507 334), (0, u "length"), (24, u "getBytes"), (16, .methodref 550 506), (0, .class_ 551), (0, u "java/lang/AbstractStringBuilder"), (0, .methodref 550 553), (0, .nameAndType 554 340), (0, u "getValue"), (20, .class_ 576), (0, u "java/lang/CharSequence"), (22, u "CASE_INSENSITIVE_ORDER"), (0, u "Ljava/util/Comparator;"), (220, u "([BIB)V"), (225, .methodref 550 493), (5, .fieldref 1054 1055), (0, .class_ 1056), (0, .nameAndType 1057 1058), (0, u "jdk/internal/util/Preconditions"), (0, u "SIOOBE_FORMATTER"), (0, u "Ljava/util/function/BiFunction;"), (0, .methodref 1054 1060), (0, .nameAndType 501 1061), (0, u "(IILjava/util/function/BiFunction;)I"), (39, u "serialPersistentFields"), (0, u "[Ljava/io/ObjectStreamField;"), (0, .class_ 1104), (0, u "java/lang/String$CaseInsensitiveComparator"), (1, .class_ 1107), (0, u "java/io/Serializable"), (0, .class_ 1109), (0, u "java/lang/Comparable"), (0, .class_ 1111), (0, u "java/lang/constant/Constable"), (0, .class_ 1113), (0, u "java/lang/constant/ConstantDesc"), (2, u "serialVersionUID"), (0, u "J"), (3, u "REPL"), (0, u "C"), (2, u "LATIN1"), (1, u "UTF16"), (105, u "(Ljava/lang/StringBuilder;)V")] 217

def k11m0 : Method := { name := "<init>", desc := "()V", sig := { parameters := [], returnType := none }, accessFlags := 1, code := none }
def k11c1 : Code := { maxStack := 3, maxLocals := 2, code := jdk_42_method_53_code, exceptionTable := #[], attributes := #[] }
def k11m1 : Method := { name := "<init>", desc := "(Ljava/lang/StringBuilder;)V", sig := { parameters := [(.object "java/lang/StringBuilder")], returnType := none }, accessFlags := 1, code := some k11c1 }
def k11c2 : Code := { maxStack := 2, maxLocals := 1, code := jdk_42_method_54_code, exceptionTable := #[], attributes := #[] }
def k11m2 : Method := { name := "length", desc := "()I", sig := { parameters := [], returnType := some .int }, accessFlags := 1, code := some k11c2 }
def k11c3 : Code := { maxStack := 2, maxLocals := 2, code := jdk_42_method_56_code, exceptionTable := #[], attributes := #[] }
def k11m3 : Method := { name := "charAt", desc := "(I)C", sig := { parameters := [.int], returnType := some .char }, accessFlags := 1, code := some k11c3 }
def k11c4 : Code := { maxStack := 5, maxLocals := 4, code := jdk_42_method_147_code, exceptionTable := #[], attributes := #[] }
def k11m4 : Method := { name := "getBytes", desc := "([BIB)V", sig := { parameters := [(.array .byte), .int, .byte], returnType := none }, accessFlags := 0, code := some k11c4 }
def k11c5 : Code := { maxStack := 5, maxLocals := 5, code := jdk_42_method_150_code, exceptionTable := #[], attributes := #[] }
def k11m5 : Method := { name := "<init>", desc := "(Ljava/lang/AbstractStringBuilder;Ljava/lang/Void;)V", sig := { parameters := [(.object "java/lang/AbstractStringBuilder"), (.object "java/lang/Void")], returnType := none }, accessFlags := 0, code := some k11c5 }
def k11c6 : Code := { maxStack := 1, maxLocals := 1, code := jdk_42_method_152_code, exceptionTable := #[], attributes := #[] }
def k11m6 : Method := { name := "coder", desc := "()B", sig := { parameters := [], returnType := some .byte }, accessFlags := 0, code := some k11c6 }
def k11c7 : Code := { maxStack := 1, maxLocals := 1, code := jdk_42_method_154_code, exceptionTable := #[], attributes := #[] }
def k11m7 : Method := { name := "isLatin1", desc := "()Z", sig := { parameters := [], returnType := some .boolean }, accessFlags := 0, code := some k11c7 }
def k11c8 : Code := { maxStack := 3, maxLocals := 2, code := jdk_42_method_155_code, exceptionTable := #[], attributes := #[] }
def k11m8 : Method := { name := "checkIndex", desc := "(II)V", sig := { parameters := [.int, .int], returnType := none }, accessFlags := 8, code := some k11c8 }
/-- java/lang/String -/
def k11 : Class := { plain "java/lang/String" (some 0) with
  accessFlags := 49
  interfaces := #[6, 7, 4, 9, 10]
  cf := some (fileOf pool11 10 #[.nestMembers #[1103]] #[{ accessFlags := 1, nameIndex := 5, descriptorIndex := 6, attributes := #[] }, { accessFlags := 1, nameIndex := 5, descriptorIndex := 1233, attributes := #[] }, { accessFlags := 1, nameIndex := 507, descriptorIndex := 334, attributes := #[] }, { accessFlags := 1, nameIndex := 497, descriptorIndex := 427, attributes := #[] }, { accessFlags := 0, nameIndex := 532, descriptorIndex := 821, attributes := #[] }, { accessFlags := 0, nameIndex := 5, descriptorIndex := 491, attributes := #[] }, { accessFlags := 0, nameIndex := 17, descriptorIndex := 337, attributes := #[] }, { accessFlags := 0, nameIndex := 494, descriptorIndex := 142, attributes := #[] }, { accessFlags := 8, nameIndex := 501, descriptorIndex := 391, attributes := #[] }] 49 2 #[1106, 1108, 575, 1110, 1112] #[{ accessFlags := 18, nameIndex := 13, descriptorIndex := 14, attributes := #[] }, { accessFlags := 18, nameIndex := 17, descriptorIndex := 18, attributes := #[] }, { accessFlags := 2, nameIndex := 21, descriptorIndex := 22, attributes := #[] }, { accessFlags := 2, nameIndex := 25, descriptorIndex := 26, attributes := #[] }, { accessFlags := 26, nameIndex := 1116, descriptorIndex := 1117, attributes := #[] }, { accessFlags := 24, nameIndex := 40, descriptorIndex := 26, attributes := #[] }, { accessFlags := 26, nameIndex := 1101, descriptorIndex := 1102, attributes := #[] }, { accessFlags := 26, nameIndex := 1121, descriptorIndex := 1122, attributes := #[] }, { accessFlags := 25, nameIndex := 599, descriptorIndex := 600, attributes := #[] }, { accessFlags := 24, nameIndex := 1125, descriptorIndex := 18, attributes := #[] }, { accessFlags := 24, nameIndex := 1127, descriptorIndex := 18, attributes := #[] }])
  fields := #[{ name := "value", type := (.array .byte), accessFlags := 18, slot := 0, constantValue := 0 }, { name := "coder", type := .byte, accessFlags := 18, slot := 1, constantValue := 0 }, { name := "hash", type := .int, accessFlags := 2, slot := 2, constantValue := 0 }, { name := "hashIsZero", type := .boolean, accessFlags := 2, slot := 3, constantValue := 0 }, { name := "serialVersionUID", type := .long, accessFlags := 26, slot := 0, constantValue := 0 }, { name := "COMPACT_STRINGS", type := .boolean, accessFlags := 24, slot := 1, constantValue := 0 }, { name := "serialPersistentFields", type := (.array (.object "java/io/ObjectStreamField")), accessFlags := 26, slot := 2, constantValue := 0 }, { name := "REPL", type := .char, accessFlags := 26, slot := 3, constantValue := 0 }, { name := "CASE_INSENSITIVE_ORDER", type := (.object "java/util/Comparator"), accessFlags := 25, slot := 4, constantValue := 0 }, { name := "LATIN1", type := .byte, accessFlags := 24, slot := 5, constantValue := 0 }, { name := "UTF16", type := .byte, accessFlags := 24, slot := 6, constantValue := 0 }]
  methods := #[k11m0, k11m1, k11m2, k11m3, k11m4, k11m5, k11m6, k11m7, k11m8]
  instanceTypes := #[(.array .byte), .byte, .int, .boolean]
  staticTypes := #[.long, .boolean, (.array (.object "java/io/ObjectStreamField")), .char, (.object "java/util/Comparator"), .byte, .byte]
  resolved := Array.replicate 1451 none
  statics := some 0 }

def pool12 : Array CpInfo := pool [(2, .class_ 4), (1, u "java/lang/Object"), (0, u "<init>"), (0, u "()V"), (1, .class_ 10), (1, u "java/lang/System"), (0, u "allowSecurityManager"), (0, u "I"), (16, u "cons"), (0, u "Ljava/io/Console;"), (77, .class_ 110), (1, u "java/lang/System$CallersHolder"), (43, u "initialErrStream"), (0, u "Ljava/io/PrintStream;"), (19, u "security"), (0, u "Ljava/lang/SecurityManager;"), (31, .class_ 209), (0, u "java/lang/System$1"), (7, u "props"), (0, u "Ljava/util/Properties;"), (2, u "lineSeparator"), (0, u "Ljava/lang/String;"), (96, .class_ 321), (1, u "java/lang/System$LoggerFinder"), (5, .class_ 328), (0, u "java/lang/System$Logger"), (67, u "err"), (2, u "out"), (91, u "notSupportedJnuEncoding"), (15, u "in"), (17, u "initialIn"), (0, u "Ljava/io/InputStream;"), (35, u "bootLayer"), (0, u "Ljava/lang/ModuleLayer;"), (99, .class_ 664), (0, u "java/lang/System$2"), (9, u "NEVER"), (2, u "MAYBE"), (49, u "arraycopy"), (0, u "(Ljava/lang/Object;ILjava/lang/Object;II)V"), (72, .class_ 802), (0, u "java/lang/System$Logger$Level")] 31

def k12m0 : Method := { name := "<init>", desc := "()V", sig := { parameters := [], returnType := none }, accessFlags := 2, code := none }
def k12m1 : Method := { name := "arraycopy", desc := "(Ljava/lang/Object;ILjava/lang/Object;II)V", sig := { parameters := [(.object "java/lang/Object"), .int, (.object "java/lang/Object"), .int, .int], returnType := none }, accessFlags := 265, code := none }
/-- java/lang/System -/
def k12 : Class := { plain "java/lang/System" (some 0) with
  accessFlags := 49
  interfaces := #[]
  cf := some (fileOf pool12 8 #[.nestMembers #[319, 327, 801, 108, 663, 208]] #[{ accessFlags := 2, nameIndex := 5, descriptorIndex := 6, attributes := #[] }, { accessFlags := 265, nameIndex := 727, descriptorIndex := 728, attributes := #[] }] 49 2 #[] #[{ accessFlags := 25, nameIndex := 507, descriptorIndex := 526, attributes := #[] }, { accessFlags := 25, nameIndex := 399, descriptorIndex := 155, attributes := #[] }, { accessFlags := 25, nameIndex := 396, descriptorIndex := 155, attributes := #[] }, { accessFlags := 10, nameIndex := 525, descriptorIndex := 526, attributes := #[] }, { accessFlags := 26, nameIndex := 674, descriptorIndex := 12, attributes := #[] }, { accessFlags := 26, nameIndex := 677, descriptorIndex := 12, attributes := #[] }, { accessFlags := 10, nameIndex := 11, descriptorIndex := 12, attributes := #[] }, { accessFlags := 74, nameIndex := 175, descriptorIndex := 176, attributes := #[] }, { accessFlags := 10, nameIndex := 491, descriptorIndex := 222, attributes := #[] }, { accessFlags := 74, nameIndex := 29, descriptorIndex := 30, attributes := #[] }, { accessFlags := 74, nameIndex := 154, descriptorIndex := 155, attributes := #[] }, { accessFlags := 10, nameIndex := 217, descriptorIndex := 218, attributes := #[] }, { accessFlags := 10, nameIndex := 221, descriptorIndex := 222, attributes := #[] }, { accessFlags := 8, nameIndex := 562, descriptorIndex := 563, attributes := #[] }])
  fields := #[{ name := "in", type := (.object "java/io/InputStream"), accessFlags := 25, slot := 0, constantValue := 0 }, { name := "out", type := (.object "java/io/PrintStream"), accessFlags := 25, slot := 1, constantValue := 0 }, { name := "err", type := (.object "java/io/PrintStream"), accessFlags := 25, slot := 2, constantValue := 0 }, { name := "initialIn", type := (.object "java/io/InputStream"), accessFlags := 10, slot := 3, constantValue := 0 }, { name := "NEVER", type := .int, accessFlags := 26, slot := 4, constantValue := 0 }, { name := "MAYBE", type := .int, accessFlags := 26, slot := 5, constantValue := 0 }, { name := "allowSecurityManager", type := .int, accessFlags := 10, slot := 6, constantValue := 0 }, { name := "security", type := (.object "java/lang/SecurityManager"), accessFlags := 74, slot := 7, constantValue := 0 }, { name := "notSupportedJnuEncoding", type := (.object "java/lang/String"), accessFlags := 10, slot := 8, constantValue := 0 }, { name := "cons", type := (.object "java/io/Console"), accessFlags := 74, slot := 9, constantValue := 0 }, { name := "initialErrStream", type := (.object "java/io/PrintStream"), accessFlags := 74, slot := 10, constantValue := 0 }, { name := "props", type := (.object "java/util/Properties"), accessFlags := 10, slot := 11, constantValue := 0 }, { name := "lineSeparator", type := (.object "java/lang/String"), accessFlags := 10, slot := 12, constantValue := 0 }, { name := "bootLayer", type := (.object "java/lang/ModuleLayer"), accessFlags := 8, slot := 13, constantValue := 0 }]
  methods := #[k12m0, k12m1]
  instanceTypes := #[]
  staticTypes := #[(.object "java/io/InputStream"), (.object "java/io/PrintStream"), (.object "java/io/PrintStream"), (.object "java/io/InputStream"), .int, .int, .int, (.object "java/lang/SecurityManager"), (.object "java/lang/String"), (.object "java/io/Console"), (.object "java/io/PrintStream"), (.object "java/util/Properties"), (.object "java/lang/String"), (.object "java/lang/ModuleLayer")]
  resolved := Array.replicate 834 none
  statics := none }

def pool13 : Array CpInfo := pool [(9, u "<init>"), (6, .class_ 18), (1, u "java/lang/Object"), (0, u "()V"), (1, .class_ 23), (1, u "jdk/internal/util/ArraysSupport"), (0, u "LOG2_ARRAY_LONG_INDEX_SCALE"), (0, u "I"), (2, u "U"), (0, u "Ljdk/internal/misc/Unsafe;"), (8, u "BIG_ENDIAN"), (0, u "Z"), (8, u "LOG2_BYTE_BIT_SIZE"), (4, u "LOG2_ARRAY_INT_INDEX_SCALE"), (54, u "JLA"), (0, u "Ljdk/internal/access/JavaLangAccess;"), (11, u "LOG2_ARRAY_BOOLEAN_INDEX_SCALE"), (9, u "LOG2_ARRAY_BYTE_INDEX_SCALE"), (5, u "LOG2_ARRAY_CHAR_INDEX_SCALE"), (5, u "LOG2_ARRAY_SHORT_INDEX_SCALE"), (18, u "LOG2_ARRAY_FLOAT_INDEX_SCALE"), (24, u "LOG2_ARRAY_DOUBLE_INDEX_SCALE"), (6, .methodref 195 196), (0, .class_ 197), (0, .nameAndType 198 199), (0, u "java/lang/Math"), (0, u "max"), (0, u "(II)I"), (0, .integer 2147483639), (76, u "T_BOOLEAN"), (2, u "T_CHAR"), (1, u "T_FLOAT"), (1, u "T_DOUBLE"), (1, u "T_BYTE"), (1, u "T_SHORT"), (1, u "T_INT"), (1, u "T_LONG"), (1, u "SOFT_MAX_ARRAY_LENGTH"), (56, u "newLength"), (0, u "(III)I")] 25

def k13m0 : Method := { name := "<init>", desc := "()V", sig := { parameters := [], returnType := none }, accessFlags := 2, code := none }
def k13c1 : Code := { maxStack := 3, maxLocals := 4, code := jdk_48_method_27_code, exceptionTable := #[], attributes := #[] }
def k13m1 : Method := { name := "newLength", desc := "(III)I", sig := { parameters := [.int, .int, .int], returnType := some .int }, accessFlags := 9, code := some k13c1 }
/-- jdk/internal/util/ArraysSupport -/
def k13 : Class := { plain "jdk/internal/util/ArraysSupport" (some 0) with
  accessFlags := 33
  interfaces := #[]
  cf := some (fileOf pool13 21 #[] #[{ accessFlags := 2, nameIndex := 9, descriptorIndex := 19, attributes := #[] }, { accessFlags := 9, nameIndex := 351, descriptorIndex := 352, attributes := #[] }] 33 16 #[] #[{ accessFlags := 24, nameIndex := 28, descriptorIndex := 29, attributes := #[] }, { accessFlags := 26, nameIndex := 38, descriptorIndex := 39, attributes := #[] }, { accessFlags := 25, nameIndex := 121, descriptorIndex := 25, attributes := #[] }, { accessFlags := 25, nameIndex := 131, descriptorIndex := 25, attributes := #[] }, { accessFlags := 25, nameIndex := 137, descriptorIndex := 25, attributes := #[] }, { accessFlags := 25, nameIndex := 143, descriptorIndex := 25, attributes := #[] }, { accessFlags := 25, nameIndex := 53, descriptorIndex := 25, attributes := #[] }, { accessFlags := 25, nameIndex := 24, descriptorIndex := 25, attributes := #[] }, { accessFlags := 25, nameIndex := 162, descriptorIndex := 25, attributes := #[] }, { accessFlags := 25, nameIndex := 187, descriptorIndex := 25, attributes := #[] }, { accessFlags := 26, nameIndex := 48, descriptorIndex := 25, attributes := #[] }, { accessFlags := 25, nameIndex := 277, descriptorIndex := 25, attributes := #[] }, { accessFlags := 25, nameIndex := 280, descriptorIndex := 25, attributes := #[] }, { accessFlags := 25, nameIndex := 282, descriptorIndex := 25, attributes := #[] }, { accessFlags := 25, nameIndex := 284, descriptorIndex := 25, attributes := #[] }, { accessFlags := 25, nameIndex := 286, descriptorIndex := 25, attributes := #[] }, { accessFlags := 25, nameIndex := 288, descriptorIndex := 25, attributes := #[] }, { accessFlags := 25, nameIndex := 290, descriptorIndex := 25, attributes := #[] }, { accessFlags := 25, nameIndex := 292, descriptorIndex := 25, attributes := #[] }, { accessFlags := 26, nameIndex := 108, descriptorIndex := 109, attributes := #[] }, { accessFlags := 25, nameIndex := 294, descriptorIndex := 25, attributes := #[] }])
  fields := #[{ name := "U", type := (.object "jdk/internal/misc/Unsafe"), accessFlags := 24, slot := 0, constantValue := 0 }, { name := "BIG_ENDIAN", type := .boolean, accessFlags := 26, slot := 1, constantValue := 0 }, { name := "LOG2_ARRAY_BOOLEAN_INDEX_SCALE", type := .int, accessFlags := 25, slot := 2, constantValue := 0 }, { name := "LOG2_ARRAY_BYTE_INDEX_SCALE", type := .int, accessFlags := 25, slot := 3, constantValue := 0 }, { name := "LOG2_ARRAY_CHAR_INDEX_SCALE", type := .int, accessFlags := 25, slot := 4, constantValue := 0 }, { name := "LOG2_ARRAY_SHORT_INDEX_SCALE", type := .int, accessFlags := 25, slot := 5, constantValue := 0 }, { name := "LOG2_ARRAY_INT_INDEX_SCALE", type := .int, accessFlags := 25, slot := 6, constantValue := 0 }, { name := "LOG2_ARRAY_LONG_INDEX_SCALE", type := .int, accessFlags := 25, slot := 7, constantValue := 0 }, { name := "LOG2_ARRAY_FLOAT_INDEX_SCALE", type := .int, accessFlags := 25, slot := 8, constantValue := 0 }, { name := "LOG2_ARRAY_DOUBLE_INDEX_SCALE", type := .int, accessFlags := 25, slot := 9, constantValue := 0 }, { name := "LOG2_BYTE_BIT_SIZE", type := .int, accessFlags := 26, slot := 10, constantValue := 0 }, { name := "T_BOOLEAN", type := .int, accessFlags := 25, slot := 11, constantValue := 0 }, { name := "T_CHAR", type := .int, accessFlags := 25, slot := 12, constantValue := 0 }, { name := "T_FLOAT", type := .int, accessFlags := 25, slot := 13, constantValue := 0 }, { name := "T_DOUBLE", type := .int, accessFlags := 25, slot := 14, constantValue := 0 }, { name := "T_BYTE", type := .int, accessFlags := 25, slot := 15, constantValue := 0 }, { name := "T_SHORT", type := .int, accessFlags := 25, slot := 16, constantValue := 0 }, { name := "T_INT", type := .int, accessFlags := 25, slot := 17, constantValue := 0 }, { name := "T_LONG", type := .int, accessFlags := 25, slot := 18, constantValue := 0 }, { name := "JLA", type := (.object "jdk/internal/access/JavaLangAccess"), accessFlags := 26, slot := 19, constantValue := 0 }, { name := "SOFT_MAX_ARRAY_LENGTH", type := .int, accessFlags := 25, slot := 20, constantValue := 0 }]
  methods := #[k13m0, k13m1]
  instanceTypes := #[]
  staticTypes := #[(.object "jdk/internal/misc/Unsafe"), .boolean, .int, .int, .int, .int, .int, .int, .int, .int, .int, .int, .int, .int, .int, .int, .int, .int, .int, (.object "jdk/internal/access/JavaLangAccess"), .int]
  resolved := Array.replicate 378 none
  statics := none }

def pool14 : Array CpInfo := pool [(1, .class_ 2), (0, u "java/lang/Math"), (1, .class_ 6), (1, u "java/lang/Object"), (0, u "<init>"), (0, u "()V"), (89, .class_ 100), (1, u "java/lang/Math$RandomNumberGeneratorHolder"), (23, u "abs"), (0, u "(J)J"), (46, u "negativeZeroFloatBits"), (0, u "J"), (2, u "negativeZeroDoubleBits"), (21, u "max"), (2, u "min"), (43, u "$assertionsDisabled"), (0, u "Z"), (88, u "(II)I"), (2, u "twoToTheDoubleScaleDown"), (0, u "D"), (4, u "twoToTheDoubleScaleUp"), (9, u "E"), (3, u "PI"), (2, u "TAU"), (2, u "DEGREES_TO_RADIANS"), (0, u "RADIANS_TO_DEGREES")] 94

def k14m0 : Method := { name := "<init>", desc := "()V", sig := { parameters := [], returnType := none }, accessFlags := 2, code := none }
def k14c1 : Code := { maxStack := 4, maxLocals := 2, code := jdk_29_method_61_code, exceptionTable := #[], attributes := #[] }
def k14m1 : Method := { name := "abs", desc := "(J)J", sig := { parameters := [.long], returnType := some .long }, accessFlags := 9, code := some k14c1 }
def k14c2 : Code := { maxStack := 2, maxLocals := 2, code := jdk_29_method_65_code, exceptionTable := #[], attributes := #[] }
def k14m2 : Method := { name := "max", desc := "(II)I", sig := { parameters := [.int, .int], returnType := some .int }, accessFlags := 9, code := some k14c2 }
def k14c3 : Code := { maxStack := 2, maxLocals := 2, code := jdk_29_method_69_code, exceptionTable := #[], attributes := #[] }
def k14m3 : Method := { name := "min", desc := "(II)I", sig := { parameters := [.int, .int], returnType := some .int }, accessFlags := 9, code := some k14c3 }
/-- java/lang/Math -/
def k14 : Class := { plain "java/lang/Math" (some 0) with
  accessFlags := 49
  interfaces := #[]
  cf := some (fileOf pool14 1 #[.nestMembers #[98]] #[{ accessFlags := 2, nameIndex := 7, descriptorIndex := 8, attributes := #[] }, { accessFlags := 9, nameIndex := 124, descriptorIndex := 125, attributes := #[] }, { accessFlags := 9, nameIndex := 198, descriptorIndex := 335, attributes := #[] }, { accessFlags := 9, nameIndex := 201, descriptorIndex := 335, attributes := #[] }] 49 4 #[] #[{ accessFlags := 25, nameIndex := 354, descriptorIndex := 339, attributes := #[] }, { accessFlags := 25, nameIndex := 358, descriptorIndex := 339, attributes := #[] }, { accessFlags := 25, nameIndex := 361, descriptorIndex := 339, attributes := #[] }, { accessFlags := 26, nameIndex := 364, descriptorIndex := 339, attributes := #[] }, { accessFlags := 26, nameIndex := 365, descriptorIndex := 339, attributes := #[] }, { accessFlags := 26, nameIndex := 172, descriptorIndex := 173, attributes := #[] }, { accessFlags := 26, nameIndex := 176, descriptorIndex := 173, attributes := #[] }, { accessFlags := 8, nameIndex := 344, descriptorIndex := 339, attributes := #[] }, { accessFlags := 8, nameIndex := 338, descriptorIndex := 339, attributes := #[] }, { accessFlags := 4120, nameIndex := 245, descriptorIndex := 246, attributes := #[] }])
  fields := #[{ name := "E", type := .double, accessFlags := 25, slot := 0, constantValue := 0 }, { name := "PI", type := .double, accessFlags := 25, slot := 1, constantValue := 0 }, { name := "TAU", type := .double, accessFlags := 25, slot := 2, constantValue := 0 }, { name := "DEGREES_TO_RADIANS", type := .double, accessFlags := 26, slot := 3, constantValue := 0 }, { name := "RADIANS_TO_DEGREES", type := .double, accessFlags := 26, slot := 4, constantValue := 0 }, { name := "negativeZeroFloatBits", type := .long, accessFlags := 26, slot := 5, constantValue := 0 }, { name := "negativeZeroDoubleBits", type := .long, accessFlags := 26, slot := 6, constantValue := 0 }, { name := "twoToTheDoubleScaleUp", type := .double, accessFlags := 8, slot := 7, constantValue := 0 }, { name := "twoToTheDoubleScaleDown", type := .double, accessFlags := 8, slot := 8, constantValue := 0 }, { name := "$assertionsDisabled", type := .boolean, accessFlags := 4120, slot := 9, constantValue := 0 }]
  methods := #[k14m0, k14m1, k14m2, k14m3]
  instanceTypes := #[]
  staticTypes := #[.double, .double, .double, .double, .double, .long, .long, .double, .double, .boolean]
  resolved := Array.replicate 460 none
  statics := none }

def pool15 : Array CpInfo := pool [(2, .class_ 4), (1, u "java/lang/Object"), (0, u "<init>"), (0, u "()V"), (7, .class_ 16), (1, u "java/util/Arrays"), (57, .class_ 76), (1, u "java/util/Arrays$NaturalOrder"), (32, u "()Ljava/lang/Object;"), (3, .class_ 115), (1, u "java/util/Arrays$LegacyMergeSort"), (1, u "Z"), (10, .nameAndType 129 109), (0, u "clone"), (9, u "copyOfRange"), (10, .methodref 151 152), (0, .class_ 153), (0, .nameAndType 154 155), (0, u "java/lang/System"), (0, u "arraycopy"), (0, u "(Ljava/lang/Object;ILjava/lang/Object;II)V"), (146, u "copyOf"), (1, .methodref 305 306), (0, .class_ 307), (0, .nameAndType 308 309), (0, u "java/lang/Math"), (0, u "min"), (0, u "(II)I"), (0, .methodref 311 128), (0, .class_ 312), (0, u "[B"), (26, .methodref 14 340), (0, .nameAndType 341 342), (0, u "copyOfRangeByte"), (0, u "([BII)[B"), (0, .methodref 14 344), (0, .nameAndType 345 346), (0, u "checkLength"), (0, u "(II)V"), (28, .class_ 376), (0, u "java/util/Arrays$ArrayList"), (68, u "$assertionsDisabled"), (269, u "MIN_ARRAY_SORT_GRAN"), (0, u "I"), (2, u "INSERTIONSORT_THRESHOLD"), (149, u "([BI)[B"), (105, .class_ 976), (0, u "java/util/Arrays$ArrayItr")] 52

def k15m0 : Method := { name := "<init>", desc := "()V", sig := { parameters := [], returnType := none }, accessFlags := 2, code := none }
def k15c1 : Code := { maxStack := 6, maxLocals := 3, code := jdk_65_method_121_code, exceptionTable := #[], attributes := #[] }
def k15m1 : Method := { name := "copyOf", desc := "([BI)[B", sig := { parameters := [(.array .byte), .int], returnType := some (.array .byte) }, accessFlags := 9, code := some k15c1 }
def k15c2 : Code := { maxStack := 4, maxLocals := 2, code := jdk_65_method_131_code, exceptionTable := #[], attributes := #[] }
def k15m2 : Method := { name := "checkLength", desc := "(II)V", sig := { parameters := [.int, .int], returnType := none }, accessFlags := 10, code := some k15c2 }
def k15c3 : Code := { maxStack := 3, maxLocals := 3, code := jdk_65_method_132_code, exceptionTable := #[], attributes := #[] }
def k15m3 : Method := { name := "copyOfRange", desc := "([BII)[B", sig := { parameters := [(.array .byte), .int, .int], returnType := some (.array .byte) }, accessFlags := 9, code := some k15c3 }
def k15c4 : Code := { maxStack := 6, maxLocals := 5, code := jdk_65_method_133_code, exceptionTable := #[], attributes := #[] }
def k15m4 : Method := { name := "copyOfRangeByte", desc := "([BII)[B", sig := { parameters := [(.array .byte), .int, .int], returnType := some (.array .byte) }, accessFlags := 10, code := some k15c4 }
/-- java/util/Arrays -/
def k15 : Class := { plain "java/util/Arrays" (some 0) with
  accessFlags := 49
  interfaces := #[]
  cf := some (fileOf pool15 14 #[.nestMembers #[975, 375, 113, 74]] #[{ accessFlags := 2, nameIndex := 5, descriptorIndex := 6, attributes := #[] }, { accessFlags := 9, nameIndex := 302, descriptorIndex := 869, attributes := #[] }, { accessFlags := 10, nameIndex := 345, descriptorIndex := 346, attributes := #[] }, { accessFlags := 9, nameIndex := 139, descriptorIndex := 342, attributes := #[] }, { accessFlags := 10, nameIndex := 341, descriptorIndex := 342, attributes := #[] }] 49 2 #[] #[{ accessFlags := 26, nameIndex := 715, descriptorIndex := 716, attributes := #[] }, { accessFlags := 26, nameIndex := 719, descriptorIndex := 716, attributes := #[] }, { accessFlags := 4120, nameIndex := 445, descriptorIndex := 117, attributes := #[] }])
  fields := #[{ name := "MIN_ARRAY_SORT_GRAN", type := .int, accessFlags := 26, slot := 0, constantValue := 0 }, { name := "INSERTIONSORT_THRESHOLD", type := .int, accessFlags := 26, slot := 1, constantValue := 0 }, { name := "$assertionsDisabled", type := .boolean, accessFlags := 4120, slot := 2, constantValue := 0 }]
  methods := #[k15m0, k15m1, k15m2, k15m3, k15m4]
  instanceTypes := #[]
  staticTypes := #[.int, .int, .boolean]
  resolved := Array.replicate 1029 none
  statics := none }

def pool16 : Array CpInfo := pool [(2, .class_ 4), (1, u "java/lang/Object"), (0, u "<init>"), (0, u "()V"), (1, .class_ 10), (1, u "java/lang/Number"), (2, .class_ 14), (0, u "java/io/Serializable"), (0, u "serialVersionUID"), (0, u "J")] 20

def k16m0 : Method := { name := "<init>", desc := "()V", sig := { parameters := [], returnType := none }, accessFlags := 1, code := none }
/-- java/lang/Number -/
def k16 : Class := { plain "java/lang/Number" (some 0) with
  accessFlags := 1057
  interfaces := #[6]
  cf := some (fileOf pool16 8 #[] #[{ accessFlags := 1, nameIndex := 5, descriptorIndex := 6, attributes := #[] }] 1057 2 #[13] #[{ accessFlags := 26, nameIndex := 15, descriptorIndex := 16, attributes := #[] }])
  fields := #[{ name := "serialVersionUID", type := .long, accessFlags := 26, slot := 0, constantValue := 0 }]
  methods := #[k16m0]
  instanceTypes := #[]
  staticTypes := #[.long]
  resolved := Array.replicate 37 none
  statics := none }

def pool17 : Array CpInfo := pool [(1, .class_ 2), (0, u "java/lang/Long"), (15, .class_ 20), (1, u "java/lang/Integer"), (32, .long 10), (47, u "(J)I"), (18, u "stringSize"), (2, u "getChars"), (0, u "(JI[B)I"), (4, .long 18446744071562067968), (1, .long 100), (1, .fieldref 18 134), (0, .nameAndType 135 136), (0, u "DigitOnes"), (0, u "[B"), (0, .fieldref 18 138), (0, .nameAndType 139 136), (0, u "DigitTens"), (0, .long 18446744073709551606), (94, .class_ 237), (1, u "java/lang/Long$LongCache"), (33, .class_ 272), (0, u "java/lang/Number"), (2, u "value"), (0, u "J"), (84, u "TYPE"), (0, u "Ljava/lang/Class;"), (0, .class_ 364), (0, u "java/lang/Comparable"), (0, .class_ 366), (0, u "java/lang/constant/Constable"), (0, .class_ 368), (0, u "java/lang/constant/ConstantDesc"), (0, u "MIN_VALUE"), (1, u "MAX_VALUE"), (4, u "SIZE"), (0, u "I"), (1, u "BYTES"), (1, u "serialVersionUID")] 142

def k17c0 : Code := { maxStack := 4, maxLocals := 11, code := jdk_35_method_14_code, exceptionTable := #[], attributes := #[] }
def k17m0 : Method := { name := "getChars", desc := "(JI[B)I", sig := { parameters := [.long, .int, (.array .byte)], returnType := some .int }, accessFlags := 8, code := some k17c0 }
def k17c1 : Code := { maxStack := 4, maxLocals := 6, code := jdk_35_method_15_code, exceptionTable := #[], attributes := #[] }
def k17m1 : Method := { name := "stringSize", desc := "(J)I", sig := { parameters := [.long], returnType := some .int }, accessFlags := 8, code := some k17c1 }
/-- java/lang/Long -/
def k17 : Class := { plain "java/lang/Long" (some 16) with
  accessFlags := 49
  interfaces := #[7, 9, 10]
  cf := some (fileOf pool17 1 #[.nestMembers #[235]] #[{ accessFlags := 8, nameIndex := 123, descriptorIndex := 124, attributes := #[] }, { accessFlags := 8, nameIndex := 120, descriptorIndex := 101, attributes := #[] }] 49 271 #[363, 365, 367] #[{ accessFlags := 25, nameIndex := 369, descriptorIndex := 276, attributes := #[] }, { accessFlags := 25, nameIndex := 371, descriptorIndex := 276, attributes := #[] }, { accessFlags := 25, nameIndex := 361, descriptorIndex := 362, attributes := #[] }, { accessFlags := 18, nameIndex := 275, descriptorIndex := 276, attributes := #[] }, { accessFlags := 25, nameIndex := 376, descriptorIndex := 377, attributes := #[] }, { accessFlags := 25, nameIndex := 379, descriptorIndex := 377, attributes := #[] }, { accessFlags := 26, nameIndex := 381, descriptorIndex := 276, attributes := #[] }])
  fields := #[{ name := "MIN_VALUE", type := .long, accessFlags := 25, slot := 0, constantValue := 0 }, { name := "MAX_VALUE", type := .long, accessFlags := 25, slot := 1, constantValue := 0 }, { name := "TYPE", type := (.object "java/lang/Class"), accessFlags := 25, slot := 2, constantValue := 0 }, { name := "value", type := .long, accessFlags := 18, slot := 0, constantValue := 0 }, { name := "SIZE", type := .int, accessFlags := 25, slot := 3, constantValue := 0 }, { name := "BYTES", type := .int, accessFlags := 25, slot := 4, constantValue := 0 }, { name := "serialVersionUID", type := .long, accessFlags := 26, slot := 5, constantValue := 0 }]
  methods := #[k17m0, k17m1]
  instanceTypes := #[.long]
  staticTypes := #[.long, .long, (.object "java/lang/Class"), .int, .int, .long]
  resolved := Array.replicate 524 none
  statics := none }

def pool18 : Array CpInfo := pool [(1, .class_ 2), (0, u "java/lang/Integer"), (16, u "digits"), (0, u "[C"), (64, u "DigitOnes"), (0, u "[B"), (2, u "DigitTens"), (99, .class_ 190), (0, u "java/lang/Integer$IntegerCache"), (3, u "I"), (8, .class_ 204), (0, u "java/lang/Number"), (2, u "value"), (94, u "TYPE"), (0, u "Ljava/lang/Class;"), (0, .class_ 305), (0, u "java/lang/Comparable"), (0, .class_ 307), (0, u "java/lang/constant/Constable"), (0, .class_ 309), (0, u "java/lang/constant/ConstantDesc"), (0, u "MIN_VALUE"), (1, u "MAX_VALUE"), (3, u "SIZE"), (1, u "BYTES"), (1, u "serialVersionUID"), (0, u "J")] 131

/-- java/lang/Integer -/
def k18 : Class := { plain "java/lang/Integer" (some 16) with
  accessFlags := 49
  interfaces := #[7, 9, 10]
  cf := some (fileOf pool18 1 #[.nestMembers #[189]] #[] 49 203 #[304, 306, 308] #[{ accessFlags := 25, nameIndex := 310, descriptorIndex := 194, attributes := #[] }, { accessFlags := 25, nameIndex := 312, descriptorIndex := 194, attributes := #[] }, { accessFlags := 25, nameIndex := 302, descriptorIndex := 303, attributes := #[] }, { accessFlags := 24, nameIndex := 19, descriptorIndex := 20, attributes := #[] }, { accessFlags := 24, nameIndex := 89, descriptorIndex := 86, attributes := #[] }, { accessFlags := 24, nameIndex := 85, descriptorIndex := 86, attributes := #[] }, { accessFlags := 18, nameIndex := 207, descriptorIndex := 194, attributes := #[] }, { accessFlags := 25, nameIndex := 316, descriptorIndex := 194, attributes := #[] }, { accessFlags := 25, nameIndex := 318, descriptorIndex := 194, attributes := #[] }, { accessFlags := 26, nameIndex := 320, descriptorIndex := 321, attributes := #[] }])
  fields := #[{ name := "MIN_VALUE", type := .int, accessFlags := 25, slot := 0, constantValue := 0 }, { name := "MAX_VALUE", type := .int, accessFlags := 25, slot := 1, constantValue := 0 }, { name := "TYPE", type := (.object "java/lang/Class"), accessFlags := 25, slot := 2, constantValue := 0 }, { name := "digits", type := (.array .char), accessFlags := 24, slot := 3, constantValue := 0 }, { name := "DigitTens", type := (.array .byte), accessFlags := 24, slot := 4, constantValue := 0 }, { name := "DigitOnes", type := (.array .byte), accessFlags := 24, slot := 5, constantValue := 0 }, { name := "value", type := .int, accessFlags := 18, slot := 0, constantValue := 0 }, { name := "SIZE", type := .int, accessFlags := 25, slot := 6, constantValue := 0 }, { name := "BYTES", type := .int, accessFlags := 25, slot := 7, constantValue := 0 }, { name := "serialVersionUID", type := .long, accessFlags := 26, slot := 8, constantValue := 0 }]
  methods := #[]
  instanceTypes := #[.int]
  staticTypes := #[.int, .int, (.object "java/lang/Class"), (.array .char), (.array .byte), (.array .byte), .int, .int, .long]
  resolved := Array.replicate 453 none
  statics := some 1 }

def pool19 : Array CpInfo := pool [(1, .class_ 2), (0, u "java/lang/String"), (1, .class_ 6), (1, u "java/lang/Object"), (0, u "<init>"), (0, u "()V"), (0, .methodref 1 10), (0, .nameAndType 11 12), (0, u "checkIndex"), (0, u "(II)V"), (1, .class_ 16), (1, u "java/lang/StringLatin1"), (36, u "([BI)C"), (67, u "$assertionsDisabled"), (0, u "Z"), (98, .class_ 223), (1, u "java/lang/StringLatin1$LinesSpliterator"), (28, u "charAt"), (137, .class_ 391), (0, u "java/lang/StringLatin1$CharsSpliterator")] 3

def k19m0 : Method := { name := "<init>", desc := "()V", sig := { parameters := [], returnType := none }, accessFlags := 0, code := none }
def k19c1 : Code := { maxStack := 2, maxLocals := 2, code := jdk_43_method_2_code, exceptionTable := #[], attributes := #[] }
def k19m1 : Method := { name := "charAt", desc := "([BI)C", sig := { parameters := [(.array .byte), .int], returnType := some .char }, accessFlags := 9, code := some k19c1 }
/-- java/lang/StringLatin1 -/
def k19 : Class := { plain "java/lang/StringLatin1" (some 0) with
  accessFlags := 48
  interfaces := #[]
  cf := some (fileOf pool19 14 #[.nestMembers #[390, 221]] #[{ accessFlags := 0, nameIndex := 7, descriptorIndex := 8, attributes := #[] }, { accessFlags := 9, nameIndex := 252, descriptorIndex := 53, attributes := #[] }] 48 4 #[] #[{ accessFlags := 4120, nameIndex := 121, descriptorIndex := 122, attributes := #[] }])
  fields := #[{ name := "$assertionsDisabled", type := .boolean, accessFlags := 4120, slot := 0, constantValue := 0 }]
  methods := #[k19m0, k19m1]
  instanceTypes := #[]
  staticTypes := #[.boolean]
  resolved := Array.replicate 395 none
  statics := none }

def pool20 : Array CpInfo := pool [(2, .class_ 4), (1, u "java/lang/Object"), (0, u "<init>"), (0, u "()V"), (17, .class_ 26), (1, u "jdk/internal/util/Preconditions"), (6, u "checkIndex"), (21, .class_ 56), (0, u "jdk/internal/util/Preconditions$4"), (57, .class_ 115), (0, u "jdk/internal/util/Preconditions$1"), (7, u "SIOOBE_FORMATTER"), (0, u "Ljava/util/function/BiFunction;"), (0, .class_ 126), (0, u "jdk/internal/util/Preconditions$2"), (3, u "AIOOBE_FORMATTER"), (0, .class_ 132), (0, u "jdk/internal/util/Preconditions$3"), (3, u "IOOBE_FORMATTER"), (41, u "(IILjava/util/function/BiFunction;)I")] 15

def k20m0 : Method := { name := "<init>", desc := "()V", sig := { parameters := [], returnType := none }, accessFlags := 1, code := none }
def k20c1 : Code := { maxStack := 3, maxLocals := 3, code := jdk_41_method_11_code, exceptionTable := #[], attributes := #[] }
def k20m1 : Method := { name := "checkIndex", desc := "(IILjava/util/function/BiFunction;)I", sig := { parameters := [.int, .int, (.object "java/util/function/BiFunction")], returnType := some .int }, accessFlags := 9, code := some k20c1 }
/-- jdk/internal/util/Preconditions -/
def k20 : Class := { plain "jdk/internal/util/Preconditions" (some 0) with
  accessFlags := 33
  interfaces := #[]
  cf := some (fileOf pool20 24 #[.nestMembers #[55, 131, 125, 114]] #[{ accessFlags := 1, nameIndex := 5, descriptorIndex := 6, attributes := #[] }, { accessFlags := 9, nameIndex := 33, descriptorIndex := 178, attributes := #[] }] 33 2 #[] #[{ accessFlags := 25, nameIndex := 123, descriptorIndex := 124, attributes := #[] }, { accessFlags := 25, nameIndex := 130, descriptorIndex := 124, attributes := #[] }, { accessFlags := 25, nameIndex := 136, descriptorIndex := 124, attributes := #[] }])
  fields := #[{ name := "SIOOBE_FORMATTER", type := (.object "java/util/function/BiFunction"), accessFlags := 25, slot := 0, constantValue := 0 }, { name := "AIOOBE_FORMATTER", type := (.object "java/util/function/BiFunction"), accessFlags := 25, slot := 1, constantValue := 0 }, { name := "IOOBE_FORMATTER", type := (.object "java/util/function/BiFunction"), accessFlags := 25, slot := 2, constantValue := 0 }]
  methods := #[k20m0, k20m1]
  instanceTypes := #[]
  staticTypes := #[(.object "java/util/function/BiFunction"), (.object "java/util/function/BiFunction"), (.object "java/util/function/BiFunction")]
  resolved := Array.replicate 194 none
  statics := some 2 }

def pool21 : Array CpInfo := pool [(1, .class_ 2), (0, u "java/lang/Cloneable"), (0, .class_ 4), (0, u "java/lang/Object")] 2

/-- java/lang/Cloneable -/
def k21 : Class := { plain "java/lang/Cloneable" (some 0) with
  accessFlags := 1537
  interfaces := #[]
  cf := some (fileOf pool21 1 #[] #[] 1537 3 #[] #[])
  fields := #[]
  methods := #[]
  instanceTypes := #[]
  staticTypes := #[]
  resolved := Array.replicate 7 none
  statics := none }

/-- the primitive byte -/
def k22 : Class := { plain "byte" none with kind := .primitive 'B', accessFlags := 0x411 }
/-- [B -/
def k23 : Class := { plain "[B" (some 0) with kind := .array 22 .byte, interfaces := #[21, 6], accessFlags := 1041 }

/-- the primitive int -/
def k24 : Class := { plain "int" none with kind := .primitive 'I', accessFlags := 0x411 }
/-- [I -/
def k25 : Class := { plain "[I" (some 0) with kind := .array 24 .int, interfaces := #[21, 6], accessFlags := 1041 }

/-- the primitive long -/
def k26 : Class := { plain "long" none with kind := .primitive 'J', accessFlags := 0x411 }
/-- [J -/
def k27 : Class := { plain "[J" (some 0) with kind := .array 26 .long, interfaces := #[21, 6], accessFlags := 1041 }

def heap : Heap := #[{ cls := 11, slots := #[.long 0, .int 1, .null, .int 0, .null, .int 0, .int 0], vm := .statics 11 },
  { cls := 18, slots := #[.int 0, .int 0, .null, .null, .ref 4, .ref 3, .int 0, .int 0, .long 0], vm := .statics 18 },
  { cls := 20, slots := #[.null, .null, .null], vm := .statics 20 },
  { cls := 23, slots := #[.int 48, .int 49, .int 50, .int 51, .int 52, .int 53, .int 54, .int 55, .int 56, .int 57, .int 48, .int 49, .int 50, .int 51, .int 52, .int 53, .int 54, .int 55, .int 56, .int 57, .int 48, .int 49, .int 50, .int 51, .int 52, .int 53, .int 54, .int 55, .int 56, .int 57, .int 48, .int 49, .int 50, .int 51, .int 52, .int 53, .int 54, .int 55, .int 56, .int 57, .int 48, .int 49, .int 50, .int 51, .int 52, .int 53, .int 54, .int 55, .int 56, .int 57, .int 48, .int 49, .int 50, .int 51, .int 52, .int 53, .int 54, .int 55, .int 56, .int 57, .int 48, .int 49, .int 50, .int 51, .int 52, .int 53, .int 54, .int 55, .int 56, .int 57, .int 48, .int 49, .int 50, .int 51, .int 52, .int 53, .int 54, .int 55, .int 56, .int 57, .int 48, .int 49, .int 50, .int 51, .int 52, .int 53, .int 54, .int 55, .int 56, .int 57, .int 48, .int 49, .int 50, .int 51, .int 52, .int 53, .int 54, .int 55, .int 56, .int 57], vm := .none },
  { cls := 23, slots := #[.int 48, .int 48, .int 48, .int 48, .int 48, .int 48, .int 48, .int 48, .int 48, .int 48, .int 49, .int 49, .int 49, .int 49, .int 49, .int 49, .int 49, .int 49, .int 49, .int 49, .int 50, .int 50, .int 50, .int 50, .int 50, .int 50, .int 50, .int 50, .int 50, .int 50, .int 51, .int 51, .int 51, .int 51, .int 51, .int 51, .int 51, .int 51, .int 51, .int 51, .int 52, .int 52, .int 52, .int 52, .int 52, .int 52, .int 52, .int 52, .int 52, .int 52, .int 53, .int 53, .int 53, .int 53, .int 53, .int 53, .int 53, .int 53, .int 53, .int 53, .int 54, .int 54, .int 54, .int 54, .int 54, .int 54, .int 54, .int 54, .int 54, .int 54, .int 55, .int 55, .int 55, .int 55, .int 55, .int 55, .int 55, .int 55, .int 55, .int 55, .int 56, .int 56, .int 56, .int 56, .int 56, .int 56, .int 56, .int 56, .int 56, .int 56, .int 57, .int 57, .int 57, .int 57, .int 57, .int 57, .int 57, .int 57, .int 57, .int 57], vm := .none }]
def classes : Array Class := #[k0, k1, k2, k3, k4, k5, k6, k7, k8, k9, k10, k11, k12, k13, k14, k15, k16, k17, k18, k19, k20, k21, k22, k23, k24, k25, k26, k27]
def interned : List (Array UInt16 × Addr) := []
def slotsUsed : Nat := 219
def theMethod : MethodId := ⟨1, 1⟩
def args0 : Array Value := #[.int 1, .long 42]
def aboutOver (below : List Frame) : State where
  vm := { classes := classes, interned := interned.toArray }
  heap := heap
  slotsUsed := slotsUsed
  threads := #[{ frames := .invoking theMethod args0 :: below }]
def below0 : List Frame := [.native { method := ⟨0, 0⟩, args := #[] }]
def about1 : State := aboutOver below0
def p0 : Program := .bare "" "" ""
def e0 : Env := launch0.env 0 0 0
theorem w_frames : about1.frames = Frame.invoking theMethod args0 :: below0 := rfl
set_option maxRecDepth 65536 in
theorem w_args : argsFit about1.vm theMethod args0 = true := by decide +kernel
set_option maxRecDepth 65536 in
theorem w_heap : heapFits about1 = true := by decide +kernel
set_option maxRecDepth 65536 in
theorem w_runnable : about1.curStatus? = some .runnable := by decide +kernel
set_option maxRecDepth 65536 in
theorem w_alone : about1.alone = true := by decide +kernel
set_option maxRecDepth 65536 in
theorem w_named : about1.methodNamed? x = some theMethod := by decide +kernel
set_option maxRecDepth 65536 in
theorem w_hears : about1.hears theMethod below0 = true := by decide +kernel
set_option maxRecDepth 65536 in
theorem w_ripe : about1.ripe theMethod args0 below0 = true := by decide +kernel
theorem w_running : about1.status = .running := rfl
set_option maxRecDepth 65536 in
theorem w_room : about1.hasRoom e0.platform room_1 = true :=
  launch0.hasRoom_least _ room_1 (by decide +kernel) (by decide +kernel) (by decide +kernel) (by decide +kernel) (by decide +kernel) (by decide +kernel)
theorem allAtoms_all (ts : List Jvm.Cond) (a : Array Jvm.Value) (st : Jvm.State) : (allAtoms ts).before a st = ts.all (fun c => c.before a st) := by
  induction ts with
  | nil => rfl
  | cons c t ih =>
    show (Jvm.Cond.and c (allAtoms t)).before a st = _
    rw [Jvm.Cond.before_and, ih, List.all_cons]
def words1 : List Jvm.Cond := Jvm.Cond.code x code maxLocals ret :: tables_1
/-- a 'code' word, met by the world's own term for the bytes: nothing is compared byte by byte -/
theorem code_word {y : MethodName} {bytes : ByteArray} {mx : Nat} {rt : Option FieldType} {a : Array Value} {s : State} {m : MethodId} {meth : Method} {c : Code} (h1 : s.methodNamed? y = some m) (h2 : s.vm.method? m = some meth) (h3 : meth.code = some c) (h4 : c.code = bytes)
    (h5 : (c.maxLocals == mx && c.exceptionTable.isEmpty && decide (c.maxStack ≤ mostOperands) && decide (meth.sig.returnType = rt) && !meth.locks && decide (parseMethodDescriptor y.desc = some meth.sig)) = true) : (Jvm.Cond.code y bytes mx rt).before a s = true := by
  simp only [Bool.and_eq_true, beq_iff_eq, Bool.not_eq_true', decide_eq_true_eq] at h5
  obtain ⟨⟨⟨⟨⟨g1, g2⟩, g3⟩, g4⟩, g5⟩, g6⟩ := h5
  simp [Cond.before, Cond.holds, Cond.value, h1, h2, h3, h4, g1, g2, g3, g4, g5, g6]
def isCode : Jvm.Cond → Bool
  | .code _ _ _ _ => true
  | _ => false
theorem all_split {L : List Jvm.Cond} {P : Jvm.Cond → Bool} (h1 : L.all (fun c => isCode c || P c) = true) (h2 : ∀ c ∈ L.filter isCode, P c = true) : L.all P = true := by
  refine List.all_eq_true.mpr fun c hc => ?_
  have h := List.all_eq_true.mp h1 c hc
  rcases Bool.eq_false_or_eq_true (isCode c) with hi | hi
  · exact h2 c (List.mem_filter.mpr ⟨hc, hi⟩)
  · simpa [hi] using h
set_option maxRecDepth 65536 in
theorem w_c0 : (Jvm.Cond.code x code maxLocals ret).before args0 about1 = true := code_word (m := ⟨1, 1⟩) (meth := k1m1) (c := k1c1) (by decide +kernel) rfl rfl rfl (by decide +kernel)
set_option maxRecDepth 65536 in
theorem w_c1 : (Jvm.Cond.code ({ cls := "com/example/wunce/wunce/VersionUpdate", name := "<init>", desc := "(ZJ)V" } : Jvm.MethodName) prog_31_method_1_code (4 : Nat) (Option.none : Option Jvm.ClassFile.FieldType)).before args0 about1 = true := code_word (m := ⟨2, 0⟩) (meth := k2m0) (c := k2c0) (by decide +kernel) rfl rfl rfl (by decide +kernel)
set_option maxRecDepth 65536 in
theorem w_c2 : (Jvm.Cond.code ({ cls := "java/lang/Object", name := "<init>", desc := "()V" } : Jvm.MethodName) object_method_1_code (1 : Nat) (Option.none : Option Jvm.ClassFile.FieldType)).before args0 about1 = true := code_word (m := ⟨0, 0⟩) (meth := k0m0) (c := k0c0) (by decide +kernel) rfl rfl rfl (by decide +kernel)
set_option maxRecDepth 65536 in
theorem w_c3 : (Jvm.Cond.code ({ cls := "com/example/wunce/wunce/VersionUpdate", name := "toString", desc := "()Ljava/lang/String;" } : Jvm.MethodName) prog_31_method_4_code (1 : Nat) (Option.some (Jvm.ClassFile.FieldType.object "java/lang/String"))).before args0 about1 = true := code_word (m := ⟨2, 1⟩) (meth := k2m1) (c := k2c1) (by decide +kernel) rfl rfl rfl (by decide +kernel)
set_option maxRecDepth 65536 in
theorem w_c4 : (Jvm.Cond.code ({ cls := "java/lang/StringBuilder", name := "<init>", desc := "()V" } : Jvm.MethodName) jdk_67_method_1_code (1 : Nat) (Option.none : Option Jvm.ClassFile.FieldType)).before args0 about1 = true := code_word (m := ⟨8, 0⟩) (meth := k8m0) (c := k8c0) (by decide +kernel) rfl rfl rfl (by decide +kernel)
set_option maxRecDepth 65536 in
theorem w_c5 : (Jvm.Cond.code ({ cls := "java/lang/AbstractStringBuilder", name := "<init>", desc := "(I)V" } : Jvm.MethodName) jdk_68_method_2_code (2 : Nat) (Option.none : Option Jvm.ClassFile.FieldType)).before args0 about1 = true := code_word (m := ⟨5, 1⟩) (meth := k5m1) (c := k5c1) (by decide +kernel) rfl rfl rfl (by decide +kernel)
set_option maxRecDepth 65536 in
theorem w_c6 : (Jvm.Cond.code ({ cls := "java/lang/StringBuilder", name := "append", desc := "(Ljava/lang/String;)Ljava/lang/StringBuilder;" } : Jvm.MethodName) jdk_67_method_7_code (2 : Nat) (Option.some (Jvm.ClassFile.FieldType.object "java/lang/StringBuilder"))).before args0 about1 = true := code_word (m := ⟨8, 1⟩) (meth := k8m1) (c := k8c1) (by decide +kernel) rfl rfl rfl (by decide +kernel)
set_option maxRecDepth 65536 in
theorem w_c7 : (Jvm.Cond.code ({ cls := "java/lang/AbstractStringBuilder", name := "append", desc := "(Ljava/lang/String;)Ljava/lang/AbstractStringBuilder;" } : Jvm.MethodName) jdk_68_method_22_code (3 : Nat) (Option.some (Jvm.ClassFile.FieldType.object "java/lang/AbstractStringBuilder"))).before args0 about1 = true := code_word (m := ⟨5, 5⟩) (meth := k5m5) (c := k5c5) (by decide +kernel) rfl rfl rfl (by decide +kernel)
set_option maxRecDepth 65536 in
theorem w_c8 : (Jvm.Cond.code ({ cls := "java/lang/String", name := "length", desc := "()I" } : Jvm.MethodName) jdk_42_method_54_code (1 : Nat) (Option.some Jvm.ClassFile.FieldType.int)).before args0 about1 = true := code_word (m := ⟨11, 2⟩) (meth := k11m2) (c := k11c2) (by decide +kernel) rfl rfl rfl (by decide +kernel)
set_option maxRecDepth 65536 in
theorem w_c9 : (Jvm.Cond.code ({ cls := "java/lang/String", name := "coder", desc := "()B" } : Jvm.MethodName) jdk_42_method_152_code (1 : Nat) (Option.some Jvm.ClassFile.FieldType.byte)).before args0 about1 = true := code_word (m := ⟨11, 6⟩) (meth := k11m6) (c := k11c6) (by decide +kernel) rfl rfl rfl (by decide +kernel)
set_option maxRecDepth 65536 in
theorem w_c10 : (Jvm.Cond.code ({ cls := "java/lang/AbstractStringBuilder", name := "ensureCapacityInternal", desc := "(I)V" } : Jvm.MethodName) jdk_68_method_9_code (3 : Nat) (Option.none : Option Jvm.ClassFile.FieldType)).before args0 about1 = true := code_word (m := ⟨5, 3⟩) (meth := k5m3) (c := k5c3) (by decide +kernel) rfl rfl rfl (by decide +kernel)
set_option maxRecDepth 65536 in
theorem w_c11 : (Jvm.Cond.code ({ cls := "java/lang/AbstractStringBuilder", name := "putStringAt", desc := "(ILjava/lang/String;)V" } : Jvm.MethodName) jdk_68_method_73_code (3 : Nat) (Option.none : Option Jvm.ClassFile.FieldType)).before args0 about1 = true := code_word (m := ⟨5, 10⟩) (meth := k5m10) (c := k5c10) (by decide +kernel) rfl rfl rfl (by decide +kernel)
set_option maxRecDepth 65536 in
theorem w_c12 : (Jvm.Cond.code ({ cls := "java/lang/AbstractStringBuilder", name := "inflateIfNeededFor", desc := "(Ljava/lang/String;)V" } : Jvm.MethodName) jdk_68_method_71_code (2 : Nat) (Option.none : Option Jvm.ClassFile.FieldType)).before args0 about1 = true := code_word (m := ⟨5, 9⟩) (meth := k5m9) (c := k5c9) (by decide +kernel) rfl rfl rfl (by decide +kernel)
set_option maxRecDepth 65536 in
theorem w_c13 : (Jvm.Cond.code ({ cls := "java/lang/String", name := "getBytes", desc := "([BIB)V" } : Jvm.MethodName) jdk_42_method_147_code (4 : Nat) (Option.none : Option Jvm.ClassFile.FieldType)).before args0 about1 = true := code_word (m := ⟨11, 4⟩) (meth := k11m4) (c := k11c4) (by decide +kernel) rfl rfl rfl (by decide +kernel)
set_option maxRecDepth 65536 in
theorem w_c14 : (Jvm.Cond.code ({ cls := "java/lang/AbstractStringBuilder", name := "newCapacity", desc := "(I)I" } : Jvm.MethodName) jdk_68_method_10_code (6 : Nat) (Option.some Jvm.ClassFile.FieldType.int)).before args0 about1 = true := code_word (m := ⟨5, 4⟩) (meth := k5m4) (c := k5c4) (by decide +kernel) rfl rfl rfl (by decide +kernel)
set_option maxRecDepth 65536 in
theorem w_c15 : (Jvm.Cond.code ({ cls := "jdk/internal/util/ArraysSupport", name := "newLength", desc := "(III)I" } : Jvm.MethodName) jdk_48_method_27_code (4 : Nat) (Option.some Jvm.ClassFile.FieldType.int)).before args0 about1 = true := code_word (m := ⟨13, 1⟩) (meth := k13m1) (c := k13c1) (by decide +kernel) rfl rfl rfl (by decide +kernel)
set_option maxRecDepth 65536 in
theorem w_c16 : (Jvm.Cond.code ({ cls := "java/lang/Math", name := "max", desc := "(II)I" } : Jvm.MethodName) jdk_29_method_65_code (2 : Nat) (Option.some Jvm.ClassFile.FieldType.int)).before args0 about1 = true := code_word (m := ⟨14, 2⟩) (meth := k14m2) (c := k14c2) (by decide +kernel) rfl rfl rfl (by decide +kernel)
set_option maxRecDepth 65536 in
theorem w_c17 : (Jvm.Cond.code ({ cls := "java/util/Arrays", name := "copyOf", desc := "([BI)[B" } : Jvm.MethodName) jdk_65_method_121_code (3 : Nat) (Option.some (Jvm.ClassFile.FieldType.array Jvm.ClassFile.FieldType.byte))).before args0 about1 = true := code_word (m := ⟨15, 1⟩) (meth := k15m1) (c := k15c1) (by decide +kernel) rfl rfl rfl (by decide +kernel)
set_option maxRecDepth 65536 in
theorem w_c18 : (Jvm.Cond.code ({ cls := "java/lang/Math", name := "min", desc := "(II)I" } : Jvm.MethodName) jdk_29_method_69_code (2 : Nat) (Option.some Jvm.ClassFile.FieldType.int)).before args0 about1 = true := code_word (m := ⟨14, 3⟩) (meth := k14m3) (c := k14c3) (by decide +kernel) rfl rfl rfl (by decide +kernel)
set_option maxRecDepth 65536 in
theorem w_c19 : (Jvm.Cond.code ({ cls := "java/lang/StringBuilder", name := "append", desc := "(J)Ljava/lang/StringBuilder;" } : Jvm.MethodName) jdk_67_method_16_code (3 : Nat) (Option.some (Jvm.ClassFile.FieldType.object "java/lang/StringBuilder"))).before args0 about1 = true := code_word (m := ⟨8, 2⟩) (meth := k8m2) (c := k8c2) (by decide +kernel) rfl rfl rfl (by decide +kernel)
set_option maxRecDepth 65536 in
theorem w_c20 : (Jvm.Cond.code ({ cls := "java/lang/AbstractStringBuilder", name := "append", desc := "(J)Ljava/lang/AbstractStringBuilder;" } : Jvm.MethodName) jdk_68_method_33_code (5 : Nat) (Option.some (Jvm.ClassFile.FieldType.object "java/lang/AbstractStringBuilder"))).before args0 about1 = true := code_word (m := ⟨5, 6⟩) (meth := k5m6) (c := k5c6) (by decide +kernel) rfl rfl rfl (by decide +kernel)
set_option maxRecDepth 65536 in
theorem w_c21 : (Jvm.Cond.code ({ cls := "java/lang/Long", name := "stringSize", desc := "(J)I" } : Jvm.MethodName) jdk_35_method_15_code (6 : Nat) (Option.some Jvm.ClassFile.FieldType.int)).before args0 about1 = true := code_word (m := ⟨17, 1⟩) (meth := k17m1) (c := k17c1) (by decide +kernel) rfl rfl rfl (by decide +kernel)
set_option maxRecDepth 65536 in
theorem w_c22 : (Jvm.Cond.code ({ cls := "java/lang/AbstractStringBuilder", name := "isLatin1", desc := "()Z" } : Jvm.MethodName) jdk_68_method_68_code (1 : Nat) (Option.some Jvm.ClassFile.FieldType.boolean)).before args0 about1 = true := code_word (m := ⟨5, 8⟩) (meth := k5m8) (c := k5c8) (by decide +kernel) rfl rfl rfl (by decide +kernel)
set_option maxRecDepth 65536 in
theorem w_c23 : (Jvm.Cond.code ({ cls := "java/lang/Long", name := "getChars", desc := "(JI[B)I" } : Jvm.MethodName) jdk_35_method_14_code (11 : Nat) (Option.some Jvm.ClassFile.FieldType.int)).before args0 about1 = true := code_word (m := ⟨17, 0⟩) (meth := k17m0) (c := k17c0) (by decide +kernel) rfl rfl rfl (by decide +kernel)
set_option maxRecDepth 65536 in
theorem w_c24 : (Jvm.Cond.code ({ cls := "java/lang/StringBuilder", name := "toString", desc := "()Ljava/lang/String;" } : Jvm.MethodName) jdk_67_method_42_code (1 : Nat) (Option.some (Jvm.ClassFile.FieldType.object "java/lang/String"))).before args0 about1 = true := code_word (m := ⟨8, 3⟩) (meth := k8m3) (c := k8c3) (by decide +kernel) rfl rfl rfl (by decide +kernel)
set_option maxRecDepth 65536 in
theorem w_c25 : (Jvm.Cond.code ({ cls := "java/lang/String", name := "<init>", desc := "(Ljava/lang/StringBuilder;)V" } : Jvm.MethodName) jdk_42_method_53_code (2 : Nat) (Option.none : Option Jvm.ClassFile.FieldType)).before args0 about1 = true := code_word (m := ⟨11, 1⟩) (meth := k11m1) (c := k11c1) (by decide +kernel) rfl rfl rfl (by decide +kernel)
set_option maxRecDepth 65536 in
theorem w_c26 : (Jvm.Cond.code ({ cls := "java/lang/String", name := "<init>", desc := "(Ljava/lang/AbstractStringBuilder;Ljava/lang/Void;)V" } : Jvm.MethodName) jdk_42_method_150_code (5 : Nat) (Option.none : Option Jvm.ClassFile.FieldType)).before args0 about1 = true := code_word (m := ⟨11, 5⟩) (meth := k11m5) (c := k11c5) (by decide +kernel) rfl rfl rfl (by decide +kernel)
set_option maxRecDepth 65536 in
theorem w_c27 : (Jvm.Cond.code ({ cls := "java/lang/AbstractStringBuilder", name := "getValue", desc := "()[B" } : Jvm.MethodName) jdk_68_method_64_code (1 : Nat) (Option.some (Jvm.ClassFile.FieldType.array Jvm.ClassFile.FieldType.byte))).before args0 about1 = true := code_word (m := ⟨5, 7⟩) (meth := k5m7) (c := k5c7) (by decide +kernel) rfl rfl rfl (by decide +kernel)
set_option maxRecDepth 65536 in
theorem w_c28 : (Jvm.Cond.code ({ cls := "java/lang/StringBuilder", name := "length", desc := "()I" } : Jvm.MethodName) jdk_67_method_93_code (1 : Nat) (Option.some Jvm.ClassFile.FieldType.int)).before args0 about1 = true := code_word (m := ⟨8, 4⟩) (meth := k8m4) (c := k8c4) (by decide +kernel) rfl rfl rfl (by decide +kernel)
set_option maxRecDepth 65536 in
theorem w_c29 : (Jvm.Cond.code ({ cls := "java/lang/AbstractStringBuilder", name := "length", desc := "()I" } : Jvm.MethodName) jdk_68_method_6_code (1 : Nat) (Option.some Jvm.ClassFile.FieldType.int)).before args0 about1 = true := code_word (m := ⟨5, 2⟩) (meth := k5m2) (c := k5c2) (by decide +kernel) rfl rfl rfl (by decide +kernel)
set_option maxRecDepth 65536 in
theorem w_c30 : (Jvm.Cond.code ({ cls := "java/util/Arrays", name := "copyOfRange", desc := "([BII)[B" } : Jvm.MethodName) jdk_65_method_132_code (3 : Nat) (Option.some (Jvm.ClassFile.FieldType.array Jvm.ClassFile.FieldType.byte))).before args0 about1 = true := code_word (m := ⟨15, 3⟩) (meth := k15m3) (c := k15c3) (by decide +kernel) rfl rfl rfl (by decide +kernel)
set_option maxRecDepth 65536 in
theorem w_c31 : (Jvm.Cond.code ({ cls := "java/util/Arrays", name := "copyOfRangeByte", desc := "([BII)[B" } : Jvm.MethodName) jdk_65_method_133_code (5 : Nat) (Option.some (Jvm.ClassFile.FieldType.array Jvm.ClassFile.FieldType.byte))).before args0 about1 = true := code_word (m := ⟨15, 4⟩) (meth := k15m4) (c := k15c4) (by decide +kernel) rfl rfl rfl (by decide +kernel)
set_option maxRecDepth 65536 in
theorem w_c32 : (Jvm.Cond.code ({ cls := "java/util/Arrays", name := "checkLength", desc := "(II)V" } : Jvm.MethodName) jdk_65_method_131_code (2 : Nat) (Option.none : Option Jvm.ClassFile.FieldType)).before args0 about1 = true := code_word (m := ⟨15, 2⟩) (meth := k15m2) (c := k15c2) (by decide +kernel) rfl rfl rfl (by decide +kernel)
set_option maxRecDepth 65536 in
theorem w_c33 : (Jvm.Cond.code ({ cls := "com/example/wunce/wunce/VersionUpdateToStringPinLaw", name := "nz", desc := "(JJ)I" } : Jvm.MethodName) method_3_code (4 : Nat) (Option.some Jvm.ClassFile.FieldType.int)).before args0 about1 = true := code_word (m := ⟨1, 2⟩) (meth := k1m2) (c := k1c2) (by decide +kernel) rfl rfl rfl (by decide +kernel)
set_option maxRecDepth 65536 in
theorem w_c34 : (Jvm.Cond.code ({ cls := "com/example/wunce/wunce/VersionUpdateToStringPinLaw", name := "at", desc := "(Ljava/lang/String;Ljava/lang/String;J[JIII)Z" } : Jvm.MethodName) method_4_code (13 : Nat) (Option.some Jvm.ClassFile.FieldType.boolean)).before args0 about1 = true := code_word (m := ⟨1, 3⟩) (meth := k1m3) (c := k1c3) (by decide +kernel) rfl rfl rfl (by decide +kernel)
set_option maxRecDepth 65536 in
theorem w_c35 : (Jvm.Cond.code ({ cls := "java/lang/String", name := "charAt", desc := "(I)C" } : Jvm.MethodName) jdk_42_method_56_code (2 : Nat) (Option.some Jvm.ClassFile.FieldType.char)).before args0 about1 = true := code_word (m := ⟨11, 3⟩) (meth := k11m3) (c := k11c3) (by decide +kernel) rfl rfl rfl (by decide +kernel)
set_option maxRecDepth 65536 in
theorem w_c36 : (Jvm.Cond.code ({ cls := "java/lang/String", name := "isLatin1", desc := "()Z" } : Jvm.MethodName) jdk_42_method_154_code (1 : Nat) (Option.some Jvm.ClassFile.FieldType.boolean)).before args0 about1 = true := code_word (m := ⟨11, 7⟩) (meth := k11m7) (c := k11c7) (by decide +kernel) rfl rfl rfl (by decide +kernel)
set_option maxRecDepth 65536 in
theorem w_c37 : (Jvm.Cond.code ({ cls := "java/lang/StringLatin1", name := "charAt", desc := "([BI)C" } : Jvm.MethodName) jdk_43_method_2_code (2 : Nat) (Option.some Jvm.ClassFile.FieldType.char)).before args0 about1 = true := code_word (m := ⟨19, 1⟩) (meth := k19m1) (c := k19c1) (by decide +kernel) rfl rfl rfl (by decide +kernel)
set_option maxRecDepth 65536 in
theorem w_c38 : (Jvm.Cond.code ({ cls := "java/lang/String", name := "checkIndex", desc := "(II)V" } : Jvm.MethodName) jdk_42_method_155_code (2 : Nat) (Option.none : Option Jvm.ClassFile.FieldType)).before args0 about1 = true := code_word (m := ⟨11, 8⟩) (meth := k11m8) (c := k11c8) (by decide +kernel) rfl rfl rfl (by decide +kernel)
set_option maxRecDepth 65536 in
theorem w_c39 : (Jvm.Cond.code ({ cls := "jdk/internal/util/Preconditions", name := "checkIndex", desc := "(IILjava/util/function/BiFunction;)I" } : Jvm.MethodName) jdk_41_method_11_code (3 : Nat) (Option.some Jvm.ClassFile.FieldType.int)).before args0 about1 = true := code_word (m := ⟨20, 1⟩) (meth := k20m1) (c := k20c1) (by decide +kernel) rfl rfl rfl (by decide +kernel)
set_option maxRecDepth 65536 in
theorem w_c40 : (Jvm.Cond.code ({ cls := "java/lang/Math", name := "abs", desc := "(J)J" } : Jvm.MethodName) jdk_29_method_61_code (2 : Nat) (Option.some Jvm.ClassFile.FieldType.long)).before args0 about1 = true := code_word (m := ⟨14, 1⟩) (meth := k14m1) (c := k14c1) (by decide +kernel) rfl rfl rfl (by decide +kernel)
def codes1 : List Jvm.Cond := [Jvm.Cond.code x code maxLocals ret, Jvm.Cond.code ({ cls := "com/example/wunce/wunce/VersionUpdate", name := "<init>", desc := "(ZJ)V" } : Jvm.MethodName) prog_31_method_1_code (4 : Nat) (Option.none : Option Jvm.ClassFile.FieldType), Jvm.Cond.code ({ cls := "java/lang/Object", name := "<init>", desc := "()V" } : Jvm.MethodName) object_method_1_code (1 : Nat) (Option.none : Option Jvm.ClassFile.FieldType), Jvm.Cond.code ({ cls := "com/example/wunce/wunce/VersionUpdate", name := "toString", desc := "()Ljava/lang/String;" } : Jvm.MethodName) prog_31_method_4_code (1 : Nat) (Option.some (Jvm.ClassFile.FieldType.object "java/lang/String")), Jvm.Cond.code ({ cls := "java/lang/StringBuilder", name := "<init>", desc := "()V" } : Jvm.MethodName) jdk_67_method_1_code (1 : Nat) (Option.none : Option Jvm.ClassFile.FieldType), Jvm.Cond.code ({ cls := "java/lang/AbstractStringBuilder", name := "<init>", desc := "(I)V" } : Jvm.MethodName) jdk_68_method_2_code (2 : Nat) (Option.none : Option Jvm.ClassFile.FieldType), Jvm.Cond.code ({ cls := "java/lang/StringBuilder", name := "append", desc := "(Ljava/lang/String;)Ljava/lang/StringBuilder;" } : Jvm.MethodName) jdk_67_method_7_code (2 : Nat) (Option.some (Jvm.ClassFile.FieldType.object "java/lang/StringBuilder")), Jvm.Cond.code ({ cls := "java/lang/AbstractStringBuilder", name := "append", desc := "(Ljava/lang/String;)Ljava/lang/AbstractStringBuilder;" } : Jvm.MethodName) jdk_68_method_22_code (3 : Nat) (Option.some (Jvm.ClassFile.FieldType.object "java/lang/AbstractStringBuilder")), Jvm.Cond.code ({ cls := "java/lang/String", name := "length", desc := "()I" } : Jvm.MethodName) jdk_42_method_54_code (1 : Nat) (Option.some Jvm.ClassFile.FieldType.int), Jvm.Cond.code ({ cls := "java/lang/String", name := "coder", desc := "()B" } : Jvm.MethodName) jdk_42_method_152_code (1 : Nat) (Option.some Jvm.ClassFile.FieldType.byte), Jvm.Cond.code ({ cls := "java/lang/AbstractStringBuilder", name := "ensureCapacityInternal", desc := "(I)V" } : Jvm.MethodName) jdk_68_method_9_code (3 : Nat) (Option.none : Option Jvm.ClassFile.FieldType), Jvm.Cond.code ({ cls := "java/lang/AbstractStringBuilder", name := "putStringAt", desc := "(ILjava/lang/String;)V" } : Jvm.MethodName) jdk_68_method_73_code (3 : Nat) (Option.none : Option Jvm.ClassFile.FieldType), Jvm.Cond.code ({ cls := "java/lang/AbstractStringBuilder", name := "inflateIfNeededFor", desc := "(Ljava/lang/String;)V" } : Jvm.MethodName) jdk_68_method_71_code (2 : Nat) (Option.none : Option Jvm.ClassFile.FieldType), Jvm.Cond.code ({ cls := "java/lang/String", name := "getBytes", desc := "([BIB)V" } : Jvm.MethodName) jdk_42_method_147_code (4 : Nat) (Option.none : Option Jvm.ClassFile.FieldType), Jvm.Cond.code ({ cls := "java/lang/AbstractStringBuilder", name := "newCapacity", desc := "(I)I" } : Jvm.MethodName) jdk_68_method_10_code (6 : Nat) (Option.some Jvm.ClassFile.FieldType.int), Jvm.Cond.code ({ cls := "jdk/internal/util/ArraysSupport", name := "newLength", desc := "(III)I" } : Jvm.MethodName) jdk_48_method_27_code (4 : Nat) (Option.some Jvm.ClassFile.FieldType.int), Jvm.Cond.code ({ cls := "java/lang/Math", name := "max", desc := "(II)I" } : Jvm.MethodName) jdk_29_method_65_code (2 : Nat) (Option.some Jvm.ClassFile.FieldType.int), Jvm.Cond.code ({ cls := "java/util/Arrays", name := "copyOf", desc := "([BI)[B" } : Jvm.MethodName) jdk_65_method_121_code (3 : Nat) (Option.some (Jvm.ClassFile.FieldType.array Jvm.ClassFile.FieldType.byte)), Jvm.Cond.code ({ cls := "java/lang/Math", name := "min", desc := "(II)I" } : Jvm.MethodName) jdk_29_method_69_code (2 : Nat) (Option.some Jvm.ClassFile.FieldType.int), Jvm.Cond.code ({ cls := "java/lang/StringBuilder", name := "append", desc := "(J)Ljava/lang/StringBuilder;" } : Jvm.MethodName) jdk_67_method_16_code (3 : Nat) (Option.some (Jvm.ClassFile.FieldType.object "java/lang/StringBuilder")), Jvm.Cond.code ({ cls := "java/lang/AbstractStringBuilder", name := "append", desc := "(J)Ljava/lang/AbstractStringBuilder;" } : Jvm.MethodName) jdk_68_method_33_code (5 : Nat) (Option.some (Jvm.ClassFile.FieldType.object "java/lang/AbstractStringBuilder")), Jvm.Cond.code ({ cls := "java/lang/Long", name := "stringSize", desc := "(J)I" } : Jvm.MethodName) jdk_35_method_15_code (6 : Nat) (Option.some Jvm.ClassFile.FieldType.int), Jvm.Cond.code ({ cls := "java/lang/AbstractStringBuilder", name := "isLatin1", desc := "()Z" } : Jvm.MethodName) jdk_68_method_68_code (1 : Nat) (Option.some Jvm.ClassFile.FieldType.boolean), Jvm.Cond.code ({ cls := "java/lang/Long", name := "getChars", desc := "(JI[B)I" } : Jvm.MethodName) jdk_35_method_14_code (11 : Nat) (Option.some Jvm.ClassFile.FieldType.int), Jvm.Cond.code ({ cls := "java/lang/StringBuilder", name := "toString", desc := "()Ljava/lang/String;" } : Jvm.MethodName) jdk_67_method_42_code (1 : Nat) (Option.some (Jvm.ClassFile.FieldType.object "java/lang/String")), Jvm.Cond.code ({ cls := "java/lang/String", name := "<init>", desc := "(Ljava/lang/StringBuilder;)V" } : Jvm.MethodName) jdk_42_method_53_code (2 : Nat) (Option.none : Option Jvm.ClassFile.FieldType), Jvm.Cond.code ({ cls := "java/lang/String", name := "<init>", desc := "(Ljava/lang/AbstractStringBuilder;Ljava/lang/Void;)V" } : Jvm.MethodName) jdk_42_method_150_code (5 : Nat) (Option.none : Option Jvm.ClassFile.FieldType), Jvm.Cond.code ({ cls := "java/lang/AbstractStringBuilder", name := "getValue", desc := "()[B" } : Jvm.MethodName) jdk_68_method_64_code (1 : Nat) (Option.some (Jvm.ClassFile.FieldType.array Jvm.ClassFile.FieldType.byte)), Jvm.Cond.code ({ cls := "java/lang/StringBuilder", name := "length", desc := "()I" } : Jvm.MethodName) jdk_67_method_93_code (1 : Nat) (Option.some Jvm.ClassFile.FieldType.int), Jvm.Cond.code ({ cls := "java/lang/AbstractStringBuilder", name := "length", desc := "()I" } : Jvm.MethodName) jdk_68_method_6_code (1 : Nat) (Option.some Jvm.ClassFile.FieldType.int), Jvm.Cond.code ({ cls := "java/util/Arrays", name := "copyOfRange", desc := "([BII)[B" } : Jvm.MethodName) jdk_65_method_132_code (3 : Nat) (Option.some (Jvm.ClassFile.FieldType.array Jvm.ClassFile.FieldType.byte)), Jvm.Cond.code ({ cls := "java/util/Arrays", name := "copyOfRangeByte", desc := "([BII)[B" } : Jvm.MethodName) jdk_65_method_133_code (5 : Nat) (Option.some (Jvm.ClassFile.FieldType.array Jvm.ClassFile.FieldType.byte)), Jvm.Cond.code ({ cls := "java/util/Arrays", name := "checkLength", desc := "(II)V" } : Jvm.MethodName) jdk_65_method_131_code (2 : Nat) (Option.none : Option Jvm.ClassFile.FieldType), Jvm.Cond.code ({ cls := "com/example/wunce/wunce/VersionUpdateToStringPinLaw", name := "nz", desc := "(JJ)I" } : Jvm.MethodName) method_3_code (4 : Nat) (Option.some Jvm.ClassFile.FieldType.int), Jvm.Cond.code ({ cls := "com/example/wunce/wunce/VersionUpdateToStringPinLaw", name := "at", desc := "(Ljava/lang/String;Ljava/lang/String;J[JIII)Z" } : Jvm.MethodName) method_4_code (13 : Nat) (Option.some Jvm.ClassFile.FieldType.boolean), Jvm.Cond.code ({ cls := "java/lang/String", name := "charAt", desc := "(I)C" } : Jvm.MethodName) jdk_42_method_56_code (2 : Nat) (Option.some Jvm.ClassFile.FieldType.char), Jvm.Cond.code ({ cls := "java/lang/String", name := "isLatin1", desc := "()Z" } : Jvm.MethodName) jdk_42_method_154_code (1 : Nat) (Option.some Jvm.ClassFile.FieldType.boolean), Jvm.Cond.code ({ cls := "java/lang/StringLatin1", name := "charAt", desc := "([BI)C" } : Jvm.MethodName) jdk_43_method_2_code (2 : Nat) (Option.some Jvm.ClassFile.FieldType.char), Jvm.Cond.code ({ cls := "java/lang/String", name := "checkIndex", desc := "(II)V" } : Jvm.MethodName) jdk_42_method_155_code (2 : Nat) (Option.none : Option Jvm.ClassFile.FieldType), Jvm.Cond.code ({ cls := "jdk/internal/util/Preconditions", name := "checkIndex", desc := "(IILjava/util/function/BiFunction;)I" } : Jvm.MethodName) jdk_41_method_11_code (3 : Nat) (Option.some Jvm.ClassFile.FieldType.int), Jvm.Cond.code ({ cls := "java/lang/Math", name := "abs", desc := "(J)J" } : Jvm.MethodName) jdk_29_method_61_code (2 : Nat) (Option.some Jvm.ClassFile.FieldType.long)]
set_option maxRecDepth 65536 in
theorem codes_eq : words1.filter isCode = codes1 := rfl
theorem w_codes : ∀ c ∈ words1.filter isCode, c.before args0 about1 = true := by
  rw [codes_eq]
  intro c hc
  simp only [codes1, List.mem_cons, List.not_mem_nil, or_false] at hc
  rcases hc with rfl | rfl | rfl | rfl | rfl | rfl | rfl | rfl | rfl | rfl | rfl | rfl | rfl | rfl | rfl | rfl | rfl | rfl | rfl | rfl | rfl | rfl | rfl | rfl | rfl | rfl | rfl | rfl | rfl | rfl | rfl | rfl | rfl | rfl | rfl | rfl | rfl | rfl | rfl | rfl | rfl
  · exact w_c0
  · exact w_c1
  · exact w_c2
  · exact w_c3
  · exact w_c4
  · exact w_c5
  · exact w_c6
  · exact w_c7
  · exact w_c8
  · exact w_c9
  · exact w_c10
  · exact w_c11
  · exact w_c12
  · exact w_c13
  · exact w_c14
  · exact w_c15
  · exact w_c16
  · exact w_c17
  · exact w_c18
  · exact w_c19
  · exact w_c20
  · exact w_c21
  · exact w_c22
  · exact w_c23
  · exact w_c24
  · exact w_c25
  · exact w_c26
  · exact w_c27
  · exact w_c28
  · exact w_c29
  · exact w_c30
  · exact w_c31
  · exact w_c32
  · exact w_c33
  · exact w_c34
  · exact w_c35
  · exact w_c36
  · exact w_c37
  · exact w_c38
  · exact w_c39
  · exact w_c40
set_option maxRecDepth 65536 in
theorem w_t1 : (words1.take 24).all (fun c => isCode c || c.before args0 about1) = true := by decide +kernel
set_option maxRecDepth 65536 in
theorem w_t2 : ((words1.drop 24).take 24).all (fun c => isCode c || c.before args0 about1) = true := by decide +kernel
set_option maxRecDepth 65536 in
theorem w_t3 : (((words1.drop 24).drop 24).take 24).all (fun c => isCode c || c.before args0 about1) = true := by decide +kernel
set_option maxRecDepth 65536 in
theorem w_t4 : ((((words1.drop 24).drop 24).drop 24).take 24).all (fun c => isCode c || c.before args0 about1) = true := by decide +kernel
set_option maxRecDepth 65536 in
theorem w_t5 : (((((words1.drop 24).drop 24).drop 24).drop 24).take 24).all (fun c => isCode c || c.before args0 about1) = true := by decide +kernel
set_option maxRecDepth 65536 in
theorem w_t6 : ((((((words1.drop 24).drop 24).drop 24).drop 24).drop 24).take 24).all (fun c => isCode c || c.before args0 about1) = true := by decide +kernel
set_option maxRecDepth 65536 in
theorem w_t7 : (((((((words1.drop 24).drop 24).drop 24).drop 24).drop 24).drop 24).take 24).all (fun c => isCode c || c.before args0 about1) = true := by decide +kernel
set_option maxRecDepth 65536 in
theorem w_t8 : ((((((((words1.drop 24).drop 24).drop 24).drop 24).drop 24).drop 24).drop 24).take 24).all (fun c => isCode c || c.before args0 about1) = true := by decide +kernel
set_option maxRecDepth 65536 in
theorem w_t9 : (((((((((words1.drop 24).drop 24).drop 24).drop 24).drop 24).drop 24).drop 24).drop 24).take 24).all (fun c => isCode c || c.before args0 about1) = true := by decide +kernel
set_option maxRecDepth 65536 in
theorem w_t10 : ((((((((((words1.drop 24).drop 24).drop 24).drop 24).drop 24).drop 24).drop 24).drop 24).drop 24).take 24).all (fun c => isCode c || c.before args0 about1) = true := by decide +kernel
set_option maxRecDepth 65536 in
theorem w_t11 : ((((((((((words1.drop 24).drop 24).drop 24).drop 24).drop 24).drop 24).drop 24).drop 24).drop 24).drop 24).all (fun c => isCode c || c.before args0 about1) = true := by decide +kernel
theorem w_tables : (allAtoms (Jvm.Cond.code x code maxLocals ret :: tables_1)).before args0 about1 = true := by
  rw [allAtoms_all]
  show words1.all (fun c => c.before args0 about1) = true
  refine all_split ?_ w_codes
  rw [← List.take_append_drop 24 words1, List.all_append, w_t1, ← List.take_append_drop 24 (words1.drop 24), List.all_append, w_t2, ← List.take_append_drop 24 ((words1.drop 24).drop 24), List.all_append, w_t3, ← List.take_append_drop 24 (((words1.drop 24).drop 24).drop 24), List.all_append, w_t4, ← List.take_append_drop 24 ((((words1.drop 24).drop 24).drop 24).drop 24), List.all_append, w_t5, ← List.take_append_drop 24 (((((words1.drop 24).drop 24).drop 24).drop 24).drop 24), List.all_append, w_t6, ← List.take_append_drop 24 ((((((words1.drop 24).drop 24).drop 24).drop 24).drop 24).drop 24), List.all_append, w_t7, ← List.take_append_drop 24 (((((((words1.drop 24).drop 24).drop 24).drop 24).drop 24).drop 24).drop 24), List.all_append, w_t8, ← List.take_append_drop 24 ((((((((words1.drop 24).drop 24).drop 24).drop 24).drop 24).drop 24).drop 24).drop 24), List.all_append, w_t9, ← List.take_append_drop 24 (((((((((words1.drop 24).drop 24).drop 24).drop 24).drop 24).drop 24).drop 24).drop 24).drop 24), List.all_append, w_t10, w_t11]
  rfl
set_option maxRecDepth 65536 in
theorem w_rest : rest_1_c.before args0 about1 = true := by decide +kernel
set_option maxRecDepth 65536 in
theorem w_case : (Jvm.Cond.and given_1 narrow_1).before args0 about1 = true := by decide +kernel
set_option maxRecDepth 65536 in
theorem w_consts : constsHeld consts_1 about1 := Jvm.Lit.constsHeldB_iff.mp (by decide +kernel)
theorem w_applies : (headSpec (Jvm.Cond.code x code maxLocals ret :: tables_1) room_1).applies x e0.platform about1 = true :=
  (Spec.applies_iff w_frames).mpr ⟨w_running, w_runnable, w_alone, w_named, w_hears, w_ripe, w_room, w_tables⟩
theorem atStart : AtStart classFile x code maxLocals ret World_1 tables_1 room_1 Calls_1 rest_1 Pre_1 launch0 p0 e0 about1 theMethod args0 below0 :=
  ⟨lists_1, trivial, launch0.admits_env _ _ _, launch0.least_env, fairChoices_fair.cas, fairChoices_fair.clock, w_frames, w_args, w_heap, w_applies, ⟨w_consts, trivial⟩, w_rest, w_case⟩
end start1
theorem witness_1 : WitnessClaimed_1 := ⟨start1.p0, start1.e0, start1.about1, start1.theMethod, start1.args0, start1.below0, start1.atStart⟩
end Jvm.Pilot.@@N@@
