import JvmDerived
import JvmDerived.Pilot.@@N@@Statement
import JvmDerived.Pilot.@@N@@Code
set_option linter.unusedVariables false
set_option linter.unusedSimpArgs false
namespace Jvm.Pilot.@@N@@
open Jvm Jvm.ClassFile Sem Op Lib Jvm.Free Jvm.Stand Jvm.LawKit Jvm.RoadKit Bundle Jvm.Pilot.@@N@@.Jvm.D
section Own
variable {p : Program} {l : Launch} {e : Env} {R : Room} {s : State} {m : MethodId} {args : Array Value} {below : List Frame} {meth : Method} {c : Code} {T : State} {locs : List Loc} {cells slots : Nat}
def Ends (p : Program) (e : Env) (below : List Frame) (Q : Outcome → State → Prop) (S : State) : Prop := ∃ s₂ o, Steps p.tables e below S s₂ ∧ s₂.status = .running ∧ Ended s₂ below o ∧ Q o s₂
theorem Ends.opn {Q : Outcome → State → Prop} {S : State} (h : ∀ QQ : Outcome → State → Prop, (∀ o t, Q o t → QQ o t) → Ends p e below QQ S) : ∃ s₂ o, Steps p.tables e below S s₂ ∧ s₂.status = .running ∧ Ended s₂ below o ∧ Q o s₂ := h Q fun _ _ q => q
theorem Ends.step {Q : Outcome → State → Prop} {S S' : State} (k : ∀ t, Steps p.tables e below S' t → Steps p.tables e below S t) (h : Ends p e below Q S') : Ends p e below Q S := by
  obtain ⟨a, o, h1, h2⟩ := h
  exact ⟨a, o, k _ h1, h2⟩
theorem Ends.fin {QQ : Outcome → State → Prop} {Q : Option Value → Heap → List Loc → Prop} {cl sl : Nat} {g : JFrame} {h : Heap} (v : Option Value) (X : Stand p l e R s m args below meth c T locs cells slots)
    (hQQ : ∀ o t, (∃ v L, o = .returned v ∧ Q v t.heap L ∧ FrameEnd s o t L cl sl) → QQ o t) (hv : meth.sig.returnType = none → v = none) (hlocks : meth.locks = false)
    (hstep : ∀ fs, (∀ (f : JFrame) (acts : List Action), f.method = m → f.locked = none → f.entered = [] → (doReturn e (T.setTop f) acts v).1 = T.setFrames fs) → Steps p.tables e below (T.setTop g) (T.setFrames fs))
    (eT : T.heap = h) (hc : cells ≤ cl) (hs : slots ≤ sl) (q : Q v h locs) : Ends p e below QQ (T.setTop g) := by
  obtain ⟨fs, hr, hrun, hended, hW, hsame⟩ := X.leave hv hlocks
  subst eT
  exact ⟨_, _, hstep fs hr, hrun, hended, hQQ _ _ ⟨v, locs, rfl, q, ⟨_, rfl⟩, hW, hsame.mono hc hs⟩⟩
theorem own_01 {c : Prop} [Decidable c] {a b : Int32} (ha : a = 0 ∨ a = 1) (hb : b = 0 ∨ b = 1) : (if c then a else b) = 0 ∨ (if c then a else b) = 1 := by
  split <;> assumption
theorem own_narB {x : Int32} (h : x = 0 ∨ x = 1) : narrow .boolean (.int x) = .int x := by rcases h with rfl | rfl <;> rfl
theorem own_narref {v : Value} {t : FieldType} (h : v.isRef = true) (ht : t.isReference = true) : narrow t v = v := by
  cases t <;> first | (cases ht; done) | (cases v <;> first | rfl | cases h)
theorem own_fitref {v : Value} {t : FieldType} (h : v.isRef = true) (ht : t.isReference = true) : fits t v = true := by
  cases t <;> first | (cases ht; done) | (cases v <;> first | rfl | cases h)
theorem own_nar255 (b : Int32) : narrow .char (.int (b &&& (255 : Int32))) = .int (b &&& (255 : Int32)) := by
  have h := XT.narrow_c (b &&& 255)
  rw [i2c_mask] at h
  exact h
theorem own_narb (x : Int32) : nar .byte x.toInt8.toInt32 = x.toInt8.toInt32 := by simp [nar]
theorem own_ins_keep {Z : State} {h h' : Heap} {a : Addr} {C : String} {b : Bool} {ws : List Addr} (F : Ins Z h a C b) (K : Keep h h' ws) : Ins Z h' a C b := by
  obtain ⟨cell, cT, h1, h2, h3⟩ := F
  obtain ⟨c', q1, q2, q3, -⟩ := K.2.2 _ _ h1
  exact ⟨c', cT, q1, h2, by rw [q2, q3]; exact h3⟩
theorem own_sta_keep {Z : State} {h h' : Heap} {C n d : String} {v : Value} {ws : List Addr} (F : Sta Z h C n d v) (K : Keep h h' ws) (q : ∀ x ∈ ws, ∃ c : Cell, h[x]? = some c ∧ ∀ q, c.vm ≠ .statics q) : Sta Z h' C n d v := by
  obtain ⟨cf, i, k, f, st, cell, h1, h2, h3, h4, h5, h6, h7⟩ := F
  refine ⟨cf, i, k, f, st, cell, h1, h2, h3, h4, K.2.1 _ _ h5 fun hm => ?_, h6, h7⟩
  obtain ⟨c, q1, q2⟩ := q _ hm
  cases h5.symm.trans q1
  cases hq : cell.vm <;> first | exact q2 _ hq | (rw [hq] at h6; cases h6)
theorem lremM {g : JFrame} {target : State} (X : Stand p l e R s m args below meth c T locs cells slots) (hx : p.tables.exec = Jvm.exec) (hg : g.method = m) {x y : Int64} {rest : List Value} (hd : decode c.code g.pc = .ok (.lrem, 1)) (hs : g.stack = .long y :: .long x :: rest) (hy : y ≠ 0)
    (hr : Steps p.tables e below (T.setTop { g with pc := g.pc + 1, stack := .long (x % y) :: rest }) target) : Steps p.tables e below (T.setTop g) target := by
  have q : x - x / y * y = x % y := lrem_mod x y
  exact XT.lrem X.here hx hg hd hs hy (by rw [q]; exact hr)
end Own
theorem pn_0 : plainName "com/example/gatehook/gatehook/http/SyntaxIsTargetCharacterPinLaw" = true := by first | (simp [plainName, overriddenIn]; done) | decide +kernel
theorem pn_1 : plainName "com/example/gatehook/gatehook/http/Syntax" = true := by first | (simp [plainName, overriddenIn]; done) | decide +kernel
theorem pd_0 : parseMethodDescriptor "(I)Z" = some ⟨[.int], some .boolean⟩ := by decide +kernel
theorem own_len {args : Array Value} {s : State} {t : Term} {n : Int32} {x : Addr} {cl : Cell} {ty : FieldType} (h : (Jvm.Cond.eq (Term.length t) (Term.int n)).value args s none s [] = some true) (ev : t.eval args s none [] s = some (.ref x)) (A : Arr s s.heap x cl ty) : cl.slots.size < 2 ^ 31 ∧ cl.slots.size.toInt32 = n := by
  obtain ⟨v, w, h1, h2, -, -⟩ := cmp_v (Or.inl h)
  have ha := A.fin (Vm.Alike.refl _)
  by_cases hl : cl.slots.size < 2 ^ 31
  · refine ⟨hl, ?_⟩
    have e := len_f ev ha hl (args := args) (first := s) (o := none) (idx := [])
    simp only [Cond.value, e, Term.int_eval] at h
    simpa using h
  · simp [Term.eval, ev, ha, hl] at h1
theorem own_elem {args : Array Value} {s : State} {t u : Term} {j : Int32} {x : Addr} {cl : Cell} {ty : FieldType} {v : Value} (h : (Jvm.Cond.eq (Term.elem t (Term.int j)) u).value args s none s [] = some true) (ev : t.eval args s none [] s = some (.ref x)) (A : Arr s s.heap x cl ty) (eu : u.eval args s none [] s = some v) : cl.slots[j.toNatClampNeg]? = some v := by
  obtain ⟨a, b, h1, h2, k1, k2⟩ := cmp_v (Or.inl h)
  cases eu.symm.trans h2
  have q := elem_in h1 ev (Term.int_eval j) A.1
  rw [q.2]
  simp only [Cond.value, h1, h2] at h
  cases a <;> cases v <;> simp_all [Kin, Value.isRef]
theorem own_elemJ {args : Array Value} {s : State} {t : Term} {j : Nat} {x : Addr} {cl : Cell} {ty : FieldType} {v : Int32} (h : (Jvm.Cond.eq (Term.elem t (Term.index 0)) (Term.int v)).value args s none s [j] = some true) (ev : t.eval args s none [j] s = some (.ref x)) (A : Arr s s.heap x cl ty) (hl : cl.slots.size < 2 ^ 31) (hj : j < cl.slots.size) : cl.slots[j]? = some (.int v) := by
  obtain ⟨a, b, h1, h2, k1, k2⟩ := cmp_v (Or.inl h)
  have q := elem_in h1 ev (Term.index_eval j) A.1
  have ej : j.toInt32.toNatClampNeg = j := by have := len_toInt (show j < 2 ^ 31 by omega); simp only [Int32.toNatClampNeg]; omega
  rw [ej] at q
  rw [q.2]
  cases (Term.int_eval v).symm.trans h2
  simp only [Cond.value, h1, h2] at h
  cases a <;> simp_all [Kin, Value.isRef]
theorem own_fld {args : Array Value} {s : State} {t u : Term} {x : Addr} {C f d : String} {v : Value} (h : (Jvm.Cond.eq (Term.field t C f d) u).value args s none s [] = some true) (ev : t.eval args s none [] s = some (.ref x)) (eu : u.eval args s none [] s = some v) : Fld s s.heap x C f d v := by
  obtain ⟨a, b, h1, h2, k1, k2⟩ := cmp_v (Or.inl h)
  cases eu.symm.trans h2
  have e : a = v := by
    simp only [Cond.value, h1, h2] at h
    cases a <;> cases v <;> simp_all [Kin, Value.isRef]
  subst e
  exact Fld.start ((fld_at ev).symm.trans h1)
theorem own_idx {args : Array Value} {s : State} {C n d : String} {v : Value} (ev : (Term.static C n d).eval args s none [] s = some v) (idx : List Nat := []) : (Term.static C n d).eval args s none idx s = some v := ev
theorem own_lt {k : Nat} {n : Int32} {j : Nat} (h : k.toInt32 = n) (h2 : k < 2 ^ 31) (h3 : (j : Int) < n.toInt) : j < k := by
  have := len_toInt h2
  rw [h] at this
  omega
theorem own_all3 {args : Array Value} {s : State} {t : Term} {a b v : Int32} {x : Addr} {cl : Cell} {ty : FieldType} (h : (Jvm.Cond.all t (.or (.lt (.index 0) (.int a)) (.or (.le (.int b) (.index 0)) (.eq (.elem t (.index 0)) (.int v))))).value args s none s [] = some true)
    (ev : ∀ idx, t.eval args s none idx s = some (.ref x)) (A : Arr s s.heap x cl ty) (hl : cl.slots.size < 2 ^ 31) (j : Nat) (hj : j < cl.slots.size) (h1 : a.toInt ≤ j) (h2 : (j : Int) < b.toInt) : cl.slots[j]? = some (.int v) := by
  have e := Cond.all_elim (ev []) (A.fin (Vm.Alike.refl _)) h j hj
  have ej : j.toInt32.toInt = j := len_toInt (by omega)
  have g1 : (Jvm.Cond.lt (.index 0) (.int a)).value args s none s [j] = some false := by
    simp only [Cond.value, Term.index_eval, Term.int_eval, Int32.lt_iff_toInt_lt, ej]; simp; omega
  have g2 : (Jvm.Cond.le (.int b) (.index 0)).value args s none s [j] = some false := by
    simp only [Cond.value, Term.index_eval, Term.int_eval, Int32.le_iff_toInt_le, ej]; simp; omega
  rw [Cond.or_of_right g1, Cond.or_of_right g2] at e
  exact own_elemJ e (ev [j]) A hl hj
theorem own_allH {args : Array Value} {s : State} {t : Term} {b v : Int32} {x : Addr} {cl : Cell} {ty : FieldType} (h : (Jvm.Cond.all t (.or (.le (.int b) (.index 0)) (.eq (.elem t (.index 0)) (.int v)))).value args s none s [] = some true)
    (ev : ∀ idx, t.eval args s none idx s = some (.ref x)) (A : Arr s s.heap x cl ty) (hl : cl.slots.size < 2 ^ 31) (j : Nat) (hj : j < cl.slots.size) (h2 : (j : Int) < b.toInt) : cl.slots[j]? = some (.int v) := by
  have e := Cond.all_elim (ev []) (A.fin (Vm.Alike.refl _)) h j hj
  have ej : j.toInt32.toInt = j := len_toInt (by omega)
  have g2 : (Jvm.Cond.le (.int b) (.index 0)).value args s none s [j] = some false := by
    simp only [Cond.value, Term.index_eval, Term.int_eval, Int32.le_iff_toInt_le, ej]; simp; omega
  rw [Cond.or_of_right g2] at e
  exact own_elemJ e (ev [j]) A hl hj
theorem own_nz {args : Array Value} {s : State} {t : Term} {x : Int32} (h : (Jvm.Cond.not (Jvm.Cond.eq t (Term.int (0 : Int32)))).value args s none s [] = some true) (ev : t.eval args s none [] s = some (.int x)) : ¬ x = (0 : Int32) := by
  simpa [Cond.value, ev, Term.eval] using h

theorem d2_0 : decode method_3_code 0 = .ok (.iload_n 0, 1) := by decide +kernel
theorem d2_1 : decode method_3_code 1 = .ok (.bipush 65, 2) := by decide +kernel
theorem d2_3 : decode method_3_code 3 = .ok (.if_icmp .lt 11, 3) := by decide +kernel
theorem d2_6 : decode method_3_code 6 = .ok (.iload_n 0, 1) := by decide +kernel
theorem d2_7 : decode method_3_code 7 = .ok (.bipush 90, 2) := by decide +kernel
theorem d2_9 : decode method_3_code 9 = .ok (.if_icmp .gt 5, 3) := by decide +kernel
theorem d2_12 : decode method_3_code 12 = .ok (.iconst 1, 1) := by decide +kernel
theorem d2_13 : decode method_3_code 13 = .ok (.ireturn, 1) := by decide +kernel
theorem d2_14 : decode method_3_code 14 = .ok (.iload_n 0, 1) := by decide +kernel
theorem d2_15 : decode method_3_code 15 = .ok (.bipush 97, 2) := by decide +kernel
theorem d2_17 : decode method_3_code 17 = .ok (.if_icmp .lt 11, 3) := by decide +kernel
theorem d2_20 : decode method_3_code 20 = .ok (.iload_n 0, 1) := by decide +kernel
theorem d2_21 : decode method_3_code 21 = .ok (.bipush 122, 2) := by decide +kernel
theorem d2_23 : decode method_3_code 23 = .ok (.if_icmp .gt 5, 3) := by decide +kernel
theorem d2_26 : decode method_3_code 26 = .ok (.iconst 1, 1) := by decide +kernel
theorem d2_27 : decode method_3_code 27 = .ok (.ireturn, 1) := by decide +kernel
theorem d2_28 : decode method_3_code 28 = .ok (.iload_n 0, 1) := by decide +kernel
theorem d2_29 : decode method_3_code 29 = .ok (.bipush 48, 2) := by decide +kernel
theorem d2_31 : decode method_3_code 31 = .ok (.if_icmp .lt 11, 3) := by decide +kernel
theorem d2_34 : decode method_3_code 34 = .ok (.iload_n 0, 1) := by decide +kernel
theorem d2_35 : decode method_3_code 35 = .ok (.bipush 57, 2) := by decide +kernel
theorem d2_37 : decode method_3_code 37 = .ok (.if_icmp .gt 5, 3) := by decide +kernel
theorem d2_40 : decode method_3_code 40 = .ok (.iconst 1, 1) := by decide +kernel
theorem d2_41 : decode method_3_code 41 = .ok (.ireturn, 1) := by decide +kernel
theorem d2_42 : decode method_3_code 42 = .ok (.iload_n 0, 1) := by decide +kernel
theorem d2_43 : decode method_3_code 43 = .ok (.bipush 45, 2) := by decide +kernel
theorem d2_45 : decode method_3_code 45 = .ok (.if_icmp .eq 111, 3) := by decide +kernel
theorem d2_48 : decode method_3_code 48 = .ok (.iload_n 0, 1) := by decide +kernel
theorem d2_49 : decode method_3_code 49 = .ok (.bipush 46, 2) := by decide +kernel
theorem d2_51 : decode method_3_code 51 = .ok (.if_icmp .eq 105, 3) := by decide +kernel
theorem d2_54 : decode method_3_code 54 = .ok (.iload_n 0, 1) := by decide +kernel
theorem d2_55 : decode method_3_code 55 = .ok (.bipush 95, 2) := by decide +kernel
theorem d2_57 : decode method_3_code 57 = .ok (.if_icmp .eq 99, 3) := by decide +kernel
theorem d2_60 : decode method_3_code 60 = .ok (.iload_n 0, 1) := by decide +kernel
theorem d2_61 : decode method_3_code 61 = .ok (.bipush 126, 2) := by decide +kernel
theorem d2_63 : decode method_3_code 63 = .ok (.if_icmp .eq 93, 3) := by decide +kernel
theorem d2_66 : decode method_3_code 66 = .ok (.iload_n 0, 1) := by decide +kernel
theorem d2_67 : decode method_3_code 67 = .ok (.bipush 33, 2) := by decide +kernel
theorem d2_69 : decode method_3_code 69 = .ok (.if_icmp .eq 87, 3) := by decide +kernel
theorem d2_72 : decode method_3_code 72 = .ok (.iload_n 0, 1) := by decide +kernel
theorem d2_73 : decode method_3_code 73 = .ok (.bipush 36, 2) := by decide +kernel
theorem d2_75 : decode method_3_code 75 = .ok (.if_icmp .eq 81, 3) := by decide +kernel
theorem d2_78 : decode method_3_code 78 = .ok (.iload_n 0, 1) := by decide +kernel
theorem d2_79 : decode method_3_code 79 = .ok (.bipush 38, 2) := by decide +kernel
theorem d2_81 : decode method_3_code 81 = .ok (.if_icmp .eq 75, 3) := by decide +kernel
theorem d2_84 : decode method_3_code 84 = .ok (.iload_n 0, 1) := by decide +kernel
theorem d2_85 : decode method_3_code 85 = .ok (.bipush 39, 2) := by decide +kernel
theorem d2_87 : decode method_3_code 87 = .ok (.if_icmp .eq 69, 3) := by decide +kernel
theorem d2_90 : decode method_3_code 90 = .ok (.iload_n 0, 1) := by decide +kernel
theorem d2_91 : decode method_3_code 91 = .ok (.bipush 40, 2) := by decide +kernel
theorem d2_93 : decode method_3_code 93 = .ok (.if_icmp .eq 63, 3) := by decide +kernel
theorem d2_96 : decode method_3_code 96 = .ok (.iload_n 0, 1) := by decide +kernel
theorem d2_97 : decode method_3_code 97 = .ok (.bipush 41, 2) := by decide +kernel
theorem d2_99 : decode method_3_code 99 = .ok (.if_icmp .eq 57, 3) := by decide +kernel
theorem d2_102 : decode method_3_code 102 = .ok (.iload_n 0, 1) := by decide +kernel
theorem d2_103 : decode method_3_code 103 = .ok (.bipush 42, 2) := by decide +kernel
theorem d2_105 : decode method_3_code 105 = .ok (.if_icmp .eq 51, 3) := by decide +kernel
theorem d2_108 : decode method_3_code 108 = .ok (.iload_n 0, 1) := by decide +kernel
theorem d2_109 : decode method_3_code 109 = .ok (.bipush 43, 2) := by decide +kernel
theorem d2_111 : decode method_3_code 111 = .ok (.if_icmp .eq 45, 3) := by decide +kernel
theorem d2_114 : decode method_3_code 114 = .ok (.iload_n 0, 1) := by decide +kernel
theorem d2_115 : decode method_3_code 115 = .ok (.bipush 44, 2) := by decide +kernel
theorem d2_117 : decode method_3_code 117 = .ok (.if_icmp .eq 39, 3) := by decide +kernel
theorem d2_120 : decode method_3_code 120 = .ok (.iload_n 0, 1) := by decide +kernel
theorem d2_121 : decode method_3_code 121 = .ok (.bipush 59, 2) := by decide +kernel
theorem d2_123 : decode method_3_code 123 = .ok (.if_icmp .eq 33, 3) := by decide +kernel
theorem d2_126 : decode method_3_code 126 = .ok (.iload_n 0, 1) := by decide +kernel
theorem d2_127 : decode method_3_code 127 = .ok (.bipush 61, 2) := by decide +kernel
theorem d2_129 : decode method_3_code 129 = .ok (.if_icmp .eq 27, 3) := by decide +kernel
theorem d2_132 : decode method_3_code 132 = .ok (.iload_n 0, 1) := by decide +kernel
theorem d2_133 : decode method_3_code 133 = .ok (.bipush 58, 2) := by decide +kernel
theorem d2_135 : decode method_3_code 135 = .ok (.if_icmp .eq 21, 3) := by decide +kernel
theorem d2_138 : decode method_3_code 138 = .ok (.iload_n 0, 1) := by decide +kernel
theorem d2_139 : decode method_3_code 139 = .ok (.bipush 64, 2) := by decide +kernel
theorem d2_141 : decode method_3_code 141 = .ok (.if_icmp .eq 15, 3) := by decide +kernel
theorem d2_144 : decode method_3_code 144 = .ok (.iload_n 0, 1) := by decide +kernel
theorem d2_145 : decode method_3_code 145 = .ok (.bipush 47, 2) := by decide +kernel
theorem d2_147 : decode method_3_code 147 = .ok (.if_icmp .eq 9, 3) := by decide +kernel
theorem d2_150 : decode method_3_code 150 = .ok (.iload_n 0, 1) := by decide +kernel
theorem d2_151 : decode method_3_code 151 = .ok (.bipush 63, 2) := by decide +kernel
theorem d2_153 : decode method_3_code 153 = .ok (.if_icmp .ne 7, 3) := by decide +kernel
theorem d2_156 : decode method_3_code 156 = .ok (.iconst 1, 1) := by decide +kernel
theorem d2_157 : decode method_3_code 157 = .ok (.goto 4, 3) := by decide +kernel
theorem d2_160 : decode method_3_code 160 = .ok (.iconst 0, 1) := by decide +kernel
theorem d2_161 : decode method_3_code 161 = .ok (.ireturn, 1) := by decide +kernel
theorem ef_2 (m : MethodId) (x0 : Int32) : entryFrame m #[(.int x0)] 1 = mkF m 0 #[.val (.int x0)] [] := by first | (simp [entryFrame, mkF, argsToLocals, Value.category]; done) | rfl
def f2_v161_1 (p0 : Int32) : Int32 := (if p0 = (45 : Int32) then (1 : Int32) else (if p0 = (46 : Int32) then (1 : Int32) else (if p0 = (95 : Int32) then (1 : Int32) else (if p0 = (126 : Int32) then (1 : Int32) else (if p0 = (33 : Int32) then (1 : Int32) else (if p0 = (36 : Int32) then (1 : Int32) else (if p0 = (38 : Int32) then (1 : Int32) else (if p0 = (39 : Int32) then (1 : Int32) else (if p0 = (40 : Int32) then (1 : Int32) else (if p0 = (41 : Int32) then (1 : Int32) else (if p0 = (42 : Int32) then (1 : Int32) else (if p0 = (43 : Int32) then (1 : Int32) else (if p0 = (44 : Int32) then (1 : Int32) else (if p0 = (59 : Int32) then (1 : Int32) else (if p0 = (61 : Int32) then (1 : Int32) else (if p0 = (58 : Int32) then (1 : Int32) else (if p0 = (64 : Int32) then (1 : Int32) else (if p0 = (47 : Int32) then (1 : Int32) else (if p0 = (63 : Int32) then (1 : Int32) else (0 : Int32))))))))))))))))))))
def f2_L42 (p0 : Int32) : Int32 := (f2_v161_1 p0)
def f2_L28 (p0 : Int32) : Int32 := (if p0 < (48 : Int32) then (f2_L42 p0) else (if (57 : Int32) < p0 then (f2_L42 p0) else (1 : Int32)))
def f2_L14 (p0 : Int32) : Int32 := (if p0 < (97 : Int32) then (f2_L28 p0) else (if (122 : Int32) < p0 then (f2_L28 p0) else (1 : Int32)))
def f2 (p0 : Int32) : Int32 := (if p0 < (65 : Int32) then (f2_L14 p0) else (if (90 : Int32) < p0 then (f2_L14 p0) else (1 : Int32)))
theorem f2_L42_01 (p0 : Int32) : f2_L42 p0 = 0 ∨ f2_L42 p0 = 1 := by
  simp only [f2_L42, f2_v161_1]
  repeat' (first | exact Or.inl rfl | exact Or.inr rfl | apply own_01)
theorem f2_L28_01 (p0 : Int32) : f2_L28 p0 = 0 ∨ f2_L28 p0 = 1 := by
  simp only [f2_L28, f2_v161_1]
  repeat' (first | exact Or.inl rfl | exact Or.inr rfl | exact f2_L42_01 _ | apply own_01)
theorem f2_L14_01 (p0 : Int32) : f2_L14 p0 = 0 ∨ f2_L14 p0 = 1 := by
  simp only [f2_L14, f2_v161_1]
  repeat' (first | exact Or.inl rfl | exact Or.inr rfl | exact f2_L42_01 _ | exact f2_L28_01 _ | apply own_01)
theorem f2_01 (p0 : Int32) : f2 p0 = 0 ∨ f2 p0 = 1 := by
  simp only [f2, f2_v161_1]
  repeat' (first | exact Or.inl rfl | exact Or.inr rfl | exact f2_L42_01 _ | exact f2_L28_01 _ | exact f2_L14_01 _ | apply own_01)
def Q2 (Z : State) (p0 : Int32) (h0 : Heap) (n0 : Nat) (v : Option Value) (h : Heap) (L : List Loc) : Prop := (v = some (.int (f2 p0))) ∧ (Fr n0 L) ∧ (h = h0)
set_option maxRecDepth 65536 in
set_option maxHeartbeats 40000000 in
theorem rm2 (l : Launch) (Z : State) (a0 : Array Value) (hw : ∀ d ∈ tables_1, d.before a0 Z = true) (ws : List Jvm.Cond) (p0 : Int32) (h0 : Heap) (n0 : Nat) (Z0 : n0 ≤ h0.size) :
    MetFree l (⟨"com/example/gatehook/gatehook/http/SyntaxIsTargetCharacterPinLaw", "expected", "(I)Z"⟩ : MethodName) (head1 (Jvm.Cond.code (⟨"com/example/gatehook/gatehook/http/SyntaxIsTargetCharacterPinLaw", "expected", "(I)Z"⟩ : MethodName) method_3_code 1 (some .boolean) :: ws) ({ frames := 0, cells := 0, slots := 0, locals := 0 } : Room)) (fun a U => a = #[(.int p0)] ∧ Z.Warmed39 U.vm ∧ U.heap = h0) (fun _ _ _ _ _ => True) (fun _ U o U' => ∃ v L, o = .returned v ∧ Q2 Z p0 h0 n0 v U'.heap L ∧ FrameEnd U o U' L ({ frames := 0, cells := 0, slots := 0, locals := 0 } : Room).cells ({ frames := 0, cells := 0, slots := 0, locals := 0 } : Room).slots) := by
  refine MetFree.of_bodySF (plainFor_of_name pn_0) hisR ?_
  intro p e s m args below meth c s₁ Bd hml0 hP hK
  obtain ⟨rfl, hZ, hh⟩ := hP
  have hx := Bd.exec
  have hby := Bd.bytes
  have hml : c.maxLocals = 1 := hml0
  have hown : s.vm.findClass "com/example/gatehook/gatehook/http/SyntaxIsTargetCharacterPinLaw" = some m.cls := findClass_of_methodNamed Bd.named
  have hnm := (name_of_methodNamed Bd.named Bd.method).1
  have X0 : Stand p l e ({ frames := 0, cells := 0, slots := 0, locals := 0 } : Room) s m #[(.int p0)] below meth c s₁ [] 0 0 := Stand.of_body Bd
  have e0 : s₁.heap = h0 := by rw [← hh, Bd.state]; rfl
  have N0 := Fr.nil n0
  refine Ends.opn ?_
  intro QQ hQQ
  refine Ends.step (S' := s₁.setTop (mkF m 0 #[.val (.int p0)] [])) (fun t k => castTop (ef_2 m p0) k) ?_
  show Ends p e below QQ (s₁.setTop (mkF m 0 #[.val (.int p0)] []))
  refine Ends.step (fun _ k => XS.iloadN X0.here hx rfl (hb hby d2_0) rfl k) ?_
  show Ends p e below QQ (s₁.setTop (mkF m 1 #[.val (.int p0)] [(.int p0)]))
  refine Ends.step (fun _ k => XT.bipushV X0.here hx rfl (65 : Int32) (hb hby d2_1) rfl k) ?_
  show Ends p e below QQ (s₁.setTop (mkF m 3 #[.val (.int p0)] [(.int (65 : Int32)), (.int p0)]))
  have Lb14_1 : (f2 p0 = f2_L14 p0) → Ends p e below QQ (s₁.setTop (mkF m 14 #[.val (.int p0)] [])) := by
    intro hLb14_1
    show Ends p e below QQ (s₁.setTop (mkF m 14 #[.val (.int p0)] []))
    refine Ends.step (fun _ k => XS.iloadN X0.here hx rfl (hb hby d2_14) rfl k) ?_
    show Ends p e below QQ (s₁.setTop (mkF m 15 #[.val (.int p0)] [(.int p0)]))
    refine Ends.step (fun _ k => XT.bipushV X0.here hx rfl (97 : Int32) (hb hby d2_15) rfl k) ?_
    show Ends p e below QQ (s₁.setTop (mkF m 17 #[.val (.int p0)] [(.int (97 : Int32)), (.int p0)]))
    have Lb28_2 : (f2 p0 = f2_L28 p0) → Ends p e below QQ (s₁.setTop (mkF m 28 #[.val (.int p0)] [])) := by
      intro hLb28_2
      show Ends p e below QQ (s₁.setTop (mkF m 28 #[.val (.int p0)] []))
      refine Ends.step (fun _ k => XS.iloadN X0.here hx rfl (hb hby d2_28) rfl k) ?_
      show Ends p e below QQ (s₁.setTop (mkF m 29 #[.val (.int p0)] [(.int p0)]))
      refine Ends.step (fun _ k => XT.bipushV X0.here hx rfl (48 : Int32) (hb hby d2_29) rfl k) ?_
      show Ends p e below QQ (s₁.setTop (mkF m 31 #[.val (.int p0)] [(.int (48 : Int32)), (.int p0)]))
      have Lb42_3 : (f2 p0 = f2_L42 p0) → Ends p e below QQ (s₁.setTop (mkF m 42 #[.val (.int p0)] [])) := by
        intro hLb42_3
        show Ends p e below QQ (s₁.setTop (mkF m 42 #[.val (.int p0)] []))
        refine Ends.step (fun _ k => XS.iloadN X0.here hx rfl (hb hby d2_42) rfl k) ?_
        show Ends p e below QQ (s₁.setTop (mkF m 43 #[.val (.int p0)] [(.int p0)]))
        refine Ends.step (fun _ k => XT.bipushV X0.here hx rfl (45 : Int32) (hb hby d2_43) rfl k) ?_
        show Ends p e below QQ (s₁.setTop (mkF m 45 #[.val (.int p0)] [(.int (45 : Int32)), (.int p0)]))
        have J161_4 : (∀ (v161_1 : Int32) (hv161_1 : v161_1 = (if p0 = (45 : Int32) then (1 : Int32) else (if p0 = (46 : Int32) then (1 : Int32) else (if p0 = (95 : Int32) then (1 : Int32) else (if p0 = (126 : Int32) then (1 : Int32) else (if p0 = (33 : Int32) then (1 : Int32) else (if p0 = (36 : Int32) then (1 : Int32) else (if p0 = (38 : Int32) then (1 : Int32) else (if p0 = (39 : Int32) then (1 : Int32) else (if p0 = (40 : Int32) then (1 : Int32) else (if p0 = (41 : Int32) then (1 : Int32) else (if p0 = (42 : Int32) then (1 : Int32) else (if p0 = (43 : Int32) then (1 : Int32) else (if p0 = (44 : Int32) then (1 : Int32) else (if p0 = (59 : Int32) then (1 : Int32) else (if p0 = (61 : Int32) then (1 : Int32) else (if p0 = (58 : Int32) then (1 : Int32) else (if p0 = (64 : Int32) then (1 : Int32) else (if p0 = (47 : Int32) then (1 : Int32) else (if p0 = (63 : Int32) then (1 : Int32) else (0 : Int32))))))))))))))))))))), Ends p e below QQ (s₁.setTop (mkF m 161 #[.val (.int p0)] [(.int v161_1)]))) → Ends p e below QQ (s₁.setTop (mkF m 45 #[.val (.int p0)] [(.int (45 : Int32)), (.int p0)])) := by
          intro hJ
          by_cases hc45_5 : p0 = (45 : Int32)
          · refine Ends.step (fun _ k => XS.icmpYes X0.here hx rfl (pc0 := 45) (pc' := 156) rfl (hb hby d2_45) rfl (XT.ii_eq_t hc45_5) (by decide) (by decide) k) ?_
            show Ends p e below QQ (s₁.setTop (mkF m 156 #[.val (.int p0)] []))
            refine Ends.step (fun _ k => XT.iconstV X0.here hx rfl (1 : Int32) (hb hby d2_156) rfl k) ?_
            show Ends p e below QQ (s₁.setTop (mkF m 157 #[.val (.int p0)] [(.int (1 : Int32))]))
            refine Ends.step (fun _ k => XS.goto X0.here hx rfl (pc0 := 157) (pc' := 161) rfl (hb hby d2_157) (by decide) (by decide) k) ?_
            exact hJ _ (by simp only [if_pos hc45_5])
          · refine Ends.step (fun _ k => XS.icmpNo X0.here hx rfl (hb hby d2_45) rfl (XT.ii_eq_f hc45_5) k) ?_
            show Ends p e below QQ (s₁.setTop (mkF m 48 #[.val (.int p0)] []))
            refine Ends.step (fun _ k => XS.iloadN X0.here hx rfl (hb hby d2_48) rfl k) ?_
            show Ends p e below QQ (s₁.setTop (mkF m 49 #[.val (.int p0)] [(.int p0)]))
            refine Ends.step (fun _ k => XT.bipushV X0.here hx rfl (46 : Int32) (hb hby d2_49) rfl k) ?_
            show Ends p e below QQ (s₁.setTop (mkF m 51 #[.val (.int p0)] [(.int (46 : Int32)), (.int p0)]))
            by_cases hc51_6 : p0 = (46 : Int32)
            · refine Ends.step (fun _ k => XS.icmpYes X0.here hx rfl (pc0 := 51) (pc' := 156) rfl (hb hby d2_51) rfl (XT.ii_eq_t hc51_6) (by decide) (by decide) k) ?_
              show Ends p e below QQ (s₁.setTop (mkF m 156 #[.val (.int p0)] []))
              refine Ends.step (fun _ k => XT.iconstV X0.here hx rfl (1 : Int32) (hb hby d2_156) rfl k) ?_
              show Ends p e below QQ (s₁.setTop (mkF m 157 #[.val (.int p0)] [(.int (1 : Int32))]))
              refine Ends.step (fun _ k => XS.goto X0.here hx rfl (pc0 := 157) (pc' := 161) rfl (hb hby d2_157) (by decide) (by decide) k) ?_
              exact hJ _ (by simp only [if_neg hc45_5, if_pos hc51_6])
            · refine Ends.step (fun _ k => XS.icmpNo X0.here hx rfl (hb hby d2_51) rfl (XT.ii_eq_f hc51_6) k) ?_
              show Ends p e below QQ (s₁.setTop (mkF m 54 #[.val (.int p0)] []))
              refine Ends.step (fun _ k => XS.iloadN X0.here hx rfl (hb hby d2_54) rfl k) ?_
              show Ends p e below QQ (s₁.setTop (mkF m 55 #[.val (.int p0)] [(.int p0)]))
              refine Ends.step (fun _ k => XT.bipushV X0.here hx rfl (95 : Int32) (hb hby d2_55) rfl k) ?_
              show Ends p e below QQ (s₁.setTop (mkF m 57 #[.val (.int p0)] [(.int (95 : Int32)), (.int p0)]))
              by_cases hc57_7 : p0 = (95 : Int32)
              · refine Ends.step (fun _ k => XS.icmpYes X0.here hx rfl (pc0 := 57) (pc' := 156) rfl (hb hby d2_57) rfl (XT.ii_eq_t hc57_7) (by decide) (by decide) k) ?_
                show Ends p e below QQ (s₁.setTop (mkF m 156 #[.val (.int p0)] []))
                refine Ends.step (fun _ k => XT.iconstV X0.here hx rfl (1 : Int32) (hb hby d2_156) rfl k) ?_
                show Ends p e below QQ (s₁.setTop (mkF m 157 #[.val (.int p0)] [(.int (1 : Int32))]))
                refine Ends.step (fun _ k => XS.goto X0.here hx rfl (pc0 := 157) (pc' := 161) rfl (hb hby d2_157) (by decide) (by decide) k) ?_
                exact hJ _ (by simp only [if_neg hc45_5, if_neg hc51_6, if_pos hc57_7])
              · refine Ends.step (fun _ k => XS.icmpNo X0.here hx rfl (hb hby d2_57) rfl (XT.ii_eq_f hc57_7) k) ?_
                show Ends p e below QQ (s₁.setTop (mkF m 60 #[.val (.int p0)] []))
                refine Ends.step (fun _ k => XS.iloadN X0.here hx rfl (hb hby d2_60) rfl k) ?_
                show Ends p e below QQ (s₁.setTop (mkF m 61 #[.val (.int p0)] [(.int p0)]))
                refine Ends.step (fun _ k => XT.bipushV X0.here hx rfl (126 : Int32) (hb hby d2_61) rfl k) ?_
                show Ends p e below QQ (s₁.setTop (mkF m 63 #[.val (.int p0)] [(.int (126 : Int32)), (.int p0)]))
                by_cases hc63_8 : p0 = (126 : Int32)
                · refine Ends.step (fun _ k => XS.icmpYes X0.here hx rfl (pc0 := 63) (pc' := 156) rfl (hb hby d2_63) rfl (XT.ii_eq_t hc63_8) (by decide) (by decide) k) ?_
                  show Ends p e below QQ (s₁.setTop (mkF m 156 #[.val (.int p0)] []))
                  refine Ends.step (fun _ k => XT.iconstV X0.here hx rfl (1 : Int32) (hb hby d2_156) rfl k) ?_
                  show Ends p e below QQ (s₁.setTop (mkF m 157 #[.val (.int p0)] [(.int (1 : Int32))]))
                  refine Ends.step (fun _ k => XS.goto X0.here hx rfl (pc0 := 157) (pc' := 161) rfl (hb hby d2_157) (by decide) (by decide) k) ?_
                  exact hJ _ (by simp only [if_neg hc45_5, if_neg hc51_6, if_neg hc57_7, if_pos hc63_8])
                · refine Ends.step (fun _ k => XS.icmpNo X0.here hx rfl (hb hby d2_63) rfl (XT.ii_eq_f hc63_8) k) ?_
                  show Ends p e below QQ (s₁.setTop (mkF m 66 #[.val (.int p0)] []))
                  refine Ends.step (fun _ k => XS.iloadN X0.here hx rfl (hb hby d2_66) rfl k) ?_
                  show Ends p e below QQ (s₁.setTop (mkF m 67 #[.val (.int p0)] [(.int p0)]))
                  refine Ends.step (fun _ k => XT.bipushV X0.here hx rfl (33 : Int32) (hb hby d2_67) rfl k) ?_
                  show Ends p e below QQ (s₁.setTop (mkF m 69 #[.val (.int p0)] [(.int (33 : Int32)), (.int p0)]))
                  by_cases hc69_9 : p0 = (33 : Int32)
                  · refine Ends.step (fun _ k => XS.icmpYes X0.here hx rfl (pc0 := 69) (pc' := 156) rfl (hb hby d2_69) rfl (XT.ii_eq_t hc69_9) (by decide) (by decide) k) ?_
                    show Ends p e below QQ (s₁.setTop (mkF m 156 #[.val (.int p0)] []))
                    refine Ends.step (fun _ k => XT.iconstV X0.here hx rfl (1 : Int32) (hb hby d2_156) rfl k) ?_
                    show Ends p e below QQ (s₁.setTop (mkF m 157 #[.val (.int p0)] [(.int (1 : Int32))]))
                    refine Ends.step (fun _ k => XS.goto X0.here hx rfl (pc0 := 157) (pc' := 161) rfl (hb hby d2_157) (by decide) (by decide) k) ?_
                    exact hJ _ (by simp only [if_neg hc45_5, if_neg hc51_6, if_neg hc57_7, if_neg hc63_8, if_pos hc69_9])
                  · refine Ends.step (fun _ k => XS.icmpNo X0.here hx rfl (hb hby d2_69) rfl (XT.ii_eq_f hc69_9) k) ?_
                    show Ends p e below QQ (s₁.setTop (mkF m 72 #[.val (.int p0)] []))
                    refine Ends.step (fun _ k => XS.iloadN X0.here hx rfl (hb hby d2_72) rfl k) ?_
                    show Ends p e below QQ (s₁.setTop (mkF m 73 #[.val (.int p0)] [(.int p0)]))
                    refine Ends.step (fun _ k => XT.bipushV X0.here hx rfl (36 : Int32) (hb hby d2_73) rfl k) ?_
                    show Ends p e below QQ (s₁.setTop (mkF m 75 #[.val (.int p0)] [(.int (36 : Int32)), (.int p0)]))
                    by_cases hc75_10 : p0 = (36 : Int32)
                    · refine Ends.step (fun _ k => XS.icmpYes X0.here hx rfl (pc0 := 75) (pc' := 156) rfl (hb hby d2_75) rfl (XT.ii_eq_t hc75_10) (by decide) (by decide) k) ?_
                      show Ends p e below QQ (s₁.setTop (mkF m 156 #[.val (.int p0)] []))
                      refine Ends.step (fun _ k => XT.iconstV X0.here hx rfl (1 : Int32) (hb hby d2_156) rfl k) ?_
                      show Ends p e below QQ (s₁.setTop (mkF m 157 #[.val (.int p0)] [(.int (1 : Int32))]))
                      refine Ends.step (fun _ k => XS.goto X0.here hx rfl (pc0 := 157) (pc' := 161) rfl (hb hby d2_157) (by decide) (by decide) k) ?_
                      exact hJ _ (by simp only [if_neg hc45_5, if_neg hc51_6, if_neg hc57_7, if_neg hc63_8, if_neg hc69_9, if_pos hc75_10])
                    · refine Ends.step (fun _ k => XS.icmpNo X0.here hx rfl (hb hby d2_75) rfl (XT.ii_eq_f hc75_10) k) ?_
                      show Ends p e below QQ (s₁.setTop (mkF m 78 #[.val (.int p0)] []))
                      refine Ends.step (fun _ k => XS.iloadN X0.here hx rfl (hb hby d2_78) rfl k) ?_
                      show Ends p e below QQ (s₁.setTop (mkF m 79 #[.val (.int p0)] [(.int p0)]))
                      refine Ends.step (fun _ k => XT.bipushV X0.here hx rfl (38 : Int32) (hb hby d2_79) rfl k) ?_
                      show Ends p e below QQ (s₁.setTop (mkF m 81 #[.val (.int p0)] [(.int (38 : Int32)), (.int p0)]))
                      by_cases hc81_11 : p0 = (38 : Int32)
                      · refine Ends.step (fun _ k => XS.icmpYes X0.here hx rfl (pc0 := 81) (pc' := 156) rfl (hb hby d2_81) rfl (XT.ii_eq_t hc81_11) (by decide) (by decide) k) ?_
                        show Ends p e below QQ (s₁.setTop (mkF m 156 #[.val (.int p0)] []))
                        refine Ends.step (fun _ k => XT.iconstV X0.here hx rfl (1 : Int32) (hb hby d2_156) rfl k) ?_
                        show Ends p e below QQ (s₁.setTop (mkF m 157 #[.val (.int p0)] [(.int (1 : Int32))]))
                        refine Ends.step (fun _ k => XS.goto X0.here hx rfl (pc0 := 157) (pc' := 161) rfl (hb hby d2_157) (by decide) (by decide) k) ?_
                        exact hJ _ (by simp only [if_neg hc45_5, if_neg hc51_6, if_neg hc57_7, if_neg hc63_8, if_neg hc69_9, if_neg hc75_10, if_pos hc81_11])
                      · refine Ends.step (fun _ k => XS.icmpNo X0.here hx rfl (hb hby d2_81) rfl (XT.ii_eq_f hc81_11) k) ?_
                        show Ends p e below QQ (s₁.setTop (mkF m 84 #[.val (.int p0)] []))
                        refine Ends.step (fun _ k => XS.iloadN X0.here hx rfl (hb hby d2_84) rfl k) ?_
                        show Ends p e below QQ (s₁.setTop (mkF m 85 #[.val (.int p0)] [(.int p0)]))
                        refine Ends.step (fun _ k => XT.bipushV X0.here hx rfl (39 : Int32) (hb hby d2_85) rfl k) ?_
                        show Ends p e below QQ (s₁.setTop (mkF m 87 #[.val (.int p0)] [(.int (39 : Int32)), (.int p0)]))
                        by_cases hc87_12 : p0 = (39 : Int32)
                        · refine Ends.step (fun _ k => XS.icmpYes X0.here hx rfl (pc0 := 87) (pc' := 156) rfl (hb hby d2_87) rfl (XT.ii_eq_t hc87_12) (by decide) (by decide) k) ?_
                          show Ends p e below QQ (s₁.setTop (mkF m 156 #[.val (.int p0)] []))
                          refine Ends.step (fun _ k => XT.iconstV X0.here hx rfl (1 : Int32) (hb hby d2_156) rfl k) ?_
                          show Ends p e below QQ (s₁.setTop (mkF m 157 #[.val (.int p0)] [(.int (1 : Int32))]))
                          refine Ends.step (fun _ k => XS.goto X0.here hx rfl (pc0 := 157) (pc' := 161) rfl (hb hby d2_157) (by decide) (by decide) k) ?_
                          exact hJ _ (by simp only [if_neg hc45_5, if_neg hc51_6, if_neg hc57_7, if_neg hc63_8, if_neg hc69_9, if_neg hc75_10, if_neg hc81_11, if_pos hc87_12])
                        · refine Ends.step (fun _ k => XS.icmpNo X0.here hx rfl (hb hby d2_87) rfl (XT.ii_eq_f hc87_12) k) ?_
                          show Ends p e below QQ (s₁.setTop (mkF m 90 #[.val (.int p0)] []))
                          refine Ends.step (fun _ k => XS.iloadN X0.here hx rfl (hb hby d2_90) rfl k) ?_
                          show Ends p e below QQ (s₁.setTop (mkF m 91 #[.val (.int p0)] [(.int p0)]))
                          refine Ends.step (fun _ k => XT.bipushV X0.here hx rfl (40 : Int32) (hb hby d2_91) rfl k) ?_
                          show Ends p e below QQ (s₁.setTop (mkF m 93 #[.val (.int p0)] [(.int (40 : Int32)), (.int p0)]))
                          by_cases hc93_13 : p0 = (40 : Int32)
                          · refine Ends.step (fun _ k => XS.icmpYes X0.here hx rfl (pc0 := 93) (pc' := 156) rfl (hb hby d2_93) rfl (XT.ii_eq_t hc93_13) (by decide) (by decide) k) ?_
                            show Ends p e below QQ (s₁.setTop (mkF m 156 #[.val (.int p0)] []))
                            refine Ends.step (fun _ k => XT.iconstV X0.here hx rfl (1 : Int32) (hb hby d2_156) rfl k) ?_
                            show Ends p e below QQ (s₁.setTop (mkF m 157 #[.val (.int p0)] [(.int (1 : Int32))]))
                            refine Ends.step (fun _ k => XS.goto X0.here hx rfl (pc0 := 157) (pc' := 161) rfl (hb hby d2_157) (by decide) (by decide) k) ?_
                            exact hJ _ (by simp only [if_neg hc45_5, if_neg hc51_6, if_neg hc57_7, if_neg hc63_8, if_neg hc69_9, if_neg hc75_10, if_neg hc81_11, if_neg hc87_12, if_pos hc93_13])
                          · refine Ends.step (fun _ k => XS.icmpNo X0.here hx rfl (hb hby d2_93) rfl (XT.ii_eq_f hc93_13) k) ?_
                            show Ends p e below QQ (s₁.setTop (mkF m 96 #[.val (.int p0)] []))
                            refine Ends.step (fun _ k => XS.iloadN X0.here hx rfl (hb hby d2_96) rfl k) ?_
                            show Ends p e below QQ (s₁.setTop (mkF m 97 #[.val (.int p0)] [(.int p0)]))
                            refine Ends.step (fun _ k => XT.bipushV X0.here hx rfl (41 : Int32) (hb hby d2_97) rfl k) ?_
                            show Ends p e below QQ (s₁.setTop (mkF m 99 #[.val (.int p0)] [(.int (41 : Int32)), (.int p0)]))
                            by_cases hc99_14 : p0 = (41 : Int32)
                            · refine Ends.step (fun _ k => XS.icmpYes X0.here hx rfl (pc0 := 99) (pc' := 156) rfl (hb hby d2_99) rfl (XT.ii_eq_t hc99_14) (by decide) (by decide) k) ?_
                              show Ends p e below QQ (s₁.setTop (mkF m 156 #[.val (.int p0)] []))
                              refine Ends.step (fun _ k => XT.iconstV X0.here hx rfl (1 : Int32) (hb hby d2_156) rfl k) ?_
                              show Ends p e below QQ (s₁.setTop (mkF m 157 #[.val (.int p0)] [(.int (1 : Int32))]))
                              refine Ends.step (fun _ k => XS.goto X0.here hx rfl (pc0 := 157) (pc' := 161) rfl (hb hby d2_157) (by decide) (by decide) k) ?_
                              exact hJ _ (by simp only [if_neg hc45_5, if_neg hc51_6, if_neg hc57_7, if_neg hc63_8, if_neg hc69_9, if_neg hc75_10, if_neg hc81_11, if_neg hc87_12, if_neg hc93_13, if_pos hc99_14])
                            · refine Ends.step (fun _ k => XS.icmpNo X0.here hx rfl (hb hby d2_99) rfl (XT.ii_eq_f hc99_14) k) ?_
                              show Ends p e below QQ (s₁.setTop (mkF m 102 #[.val (.int p0)] []))
                              refine Ends.step (fun _ k => XS.iloadN X0.here hx rfl (hb hby d2_102) rfl k) ?_
                              show Ends p e below QQ (s₁.setTop (mkF m 103 #[.val (.int p0)] [(.int p0)]))
                              refine Ends.step (fun _ k => XT.bipushV X0.here hx rfl (42 : Int32) (hb hby d2_103) rfl k) ?_
                              show Ends p e below QQ (s₁.setTop (mkF m 105 #[.val (.int p0)] [(.int (42 : Int32)), (.int p0)]))
                              by_cases hc105_15 : p0 = (42 : Int32)
                              · refine Ends.step (fun _ k => XS.icmpYes X0.here hx rfl (pc0 := 105) (pc' := 156) rfl (hb hby d2_105) rfl (XT.ii_eq_t hc105_15) (by decide) (by decide) k) ?_
                                show Ends p e below QQ (s₁.setTop (mkF m 156 #[.val (.int p0)] []))
                                refine Ends.step (fun _ k => XT.iconstV X0.here hx rfl (1 : Int32) (hb hby d2_156) rfl k) ?_
                                show Ends p e below QQ (s₁.setTop (mkF m 157 #[.val (.int p0)] [(.int (1 : Int32))]))
                                refine Ends.step (fun _ k => XS.goto X0.here hx rfl (pc0 := 157) (pc' := 161) rfl (hb hby d2_157) (by decide) (by decide) k) ?_
                                exact hJ _ (by simp only [if_neg hc45_5, if_neg hc51_6, if_neg hc57_7, if_neg hc63_8, if_neg hc69_9, if_neg hc75_10, if_neg hc81_11, if_neg hc87_12, if_neg hc93_13, if_neg hc99_14, if_pos hc105_15])
                              · refine Ends.step (fun _ k => XS.icmpNo X0.here hx rfl (hb hby d2_105) rfl (XT.ii_eq_f hc105_15) k) ?_
                                show Ends p e below QQ (s₁.setTop (mkF m 108 #[.val (.int p0)] []))
                                refine Ends.step (fun _ k => XS.iloadN X0.here hx rfl (hb hby d2_108) rfl k) ?_
                                show Ends p e below QQ (s₁.setTop (mkF m 109 #[.val (.int p0)] [(.int p0)]))
                                refine Ends.step (fun _ k => XT.bipushV X0.here hx rfl (43 : Int32) (hb hby d2_109) rfl k) ?_
                                show Ends p e below QQ (s₁.setTop (mkF m 111 #[.val (.int p0)] [(.int (43 : Int32)), (.int p0)]))
                                by_cases hc111_16 : p0 = (43 : Int32)
                                · refine Ends.step (fun _ k => XS.icmpYes X0.here hx rfl (pc0 := 111) (pc' := 156) rfl (hb hby d2_111) rfl (XT.ii_eq_t hc111_16) (by decide) (by decide) k) ?_
                                  show Ends p e below QQ (s₁.setTop (mkF m 156 #[.val (.int p0)] []))
                                  refine Ends.step (fun _ k => XT.iconstV X0.here hx rfl (1 : Int32) (hb hby d2_156) rfl k) ?_
                                  show Ends p e below QQ (s₁.setTop (mkF m 157 #[.val (.int p0)] [(.int (1 : Int32))]))
                                  refine Ends.step (fun _ k => XS.goto X0.here hx rfl (pc0 := 157) (pc' := 161) rfl (hb hby d2_157) (by decide) (by decide) k) ?_
                                  exact hJ _ (by simp only [if_neg hc45_5, if_neg hc51_6, if_neg hc57_7, if_neg hc63_8, if_neg hc69_9, if_neg hc75_10, if_neg hc81_11, if_neg hc87_12, if_neg hc93_13, if_neg hc99_14, if_neg hc105_15, if_pos hc111_16])
                                · refine Ends.step (fun _ k => XS.icmpNo X0.here hx rfl (hb hby d2_111) rfl (XT.ii_eq_f hc111_16) k) ?_
                                  show Ends p e below QQ (s₁.setTop (mkF m 114 #[.val (.int p0)] []))
                                  refine Ends.step (fun _ k => XS.iloadN X0.here hx rfl (hb hby d2_114) rfl k) ?_
                                  show Ends p e below QQ (s₁.setTop (mkF m 115 #[.val (.int p0)] [(.int p0)]))
                                  refine Ends.step (fun _ k => XT.bipushV X0.here hx rfl (44 : Int32) (hb hby d2_115) rfl k) ?_
                                  show Ends p e below QQ (s₁.setTop (mkF m 117 #[.val (.int p0)] [(.int (44 : Int32)), (.int p0)]))
                                  by_cases hc117_17 : p0 = (44 : Int32)
                                  · refine Ends.step (fun _ k => XS.icmpYes X0.here hx rfl (pc0 := 117) (pc' := 156) rfl (hb hby d2_117) rfl (XT.ii_eq_t hc117_17) (by decide) (by decide) k) ?_
                                    show Ends p e below QQ (s₁.setTop (mkF m 156 #[.val (.int p0)] []))
                                    refine Ends.step (fun _ k => XT.iconstV X0.here hx rfl (1 : Int32) (hb hby d2_156) rfl k) ?_
                                    show Ends p e below QQ (s₁.setTop (mkF m 157 #[.val (.int p0)] [(.int (1 : Int32))]))
                                    refine Ends.step (fun _ k => XS.goto X0.here hx rfl (pc0 := 157) (pc' := 161) rfl (hb hby d2_157) (by decide) (by decide) k) ?_
                                    exact hJ _ (by simp only [if_neg hc45_5, if_neg hc51_6, if_neg hc57_7, if_neg hc63_8, if_neg hc69_9, if_neg hc75_10, if_neg hc81_11, if_neg hc87_12, if_neg hc93_13, if_neg hc99_14, if_neg hc105_15, if_neg hc111_16, if_pos hc117_17])
                                  · refine Ends.step (fun _ k => XS.icmpNo X0.here hx rfl (hb hby d2_117) rfl (XT.ii_eq_f hc117_17) k) ?_
                                    show Ends p e below QQ (s₁.setTop (mkF m 120 #[.val (.int p0)] []))
                                    refine Ends.step (fun _ k => XS.iloadN X0.here hx rfl (hb hby d2_120) rfl k) ?_
                                    show Ends p e below QQ (s₁.setTop (mkF m 121 #[.val (.int p0)] [(.int p0)]))
                                    refine Ends.step (fun _ k => XT.bipushV X0.here hx rfl (59 : Int32) (hb hby d2_121) rfl k) ?_
                                    show Ends p e below QQ (s₁.setTop (mkF m 123 #[.val (.int p0)] [(.int (59 : Int32)), (.int p0)]))
                                    by_cases hc123_18 : p0 = (59 : Int32)
                                    · refine Ends.step (fun _ k => XS.icmpYes X0.here hx rfl (pc0 := 123) (pc' := 156) rfl (hb hby d2_123) rfl (XT.ii_eq_t hc123_18) (by decide) (by decide) k) ?_
                                      show Ends p e below QQ (s₁.setTop (mkF m 156 #[.val (.int p0)] []))
                                      refine Ends.step (fun _ k => XT.iconstV X0.here hx rfl (1 : Int32) (hb hby d2_156) rfl k) ?_
                                      show Ends p e below QQ (s₁.setTop (mkF m 157 #[.val (.int p0)] [(.int (1 : Int32))]))
                                      refine Ends.step (fun _ k => XS.goto X0.here hx rfl (pc0 := 157) (pc' := 161) rfl (hb hby d2_157) (by decide) (by decide) k) ?_
                                      exact hJ _ (by simp only [if_neg hc45_5, if_neg hc51_6, if_neg hc57_7, if_neg hc63_8, if_neg hc69_9, if_neg hc75_10, if_neg hc81_11, if_neg hc87_12, if_neg hc93_13, if_neg hc99_14, if_neg hc105_15, if_neg hc111_16, if_neg hc117_17, if_pos hc123_18])
                                    · refine Ends.step (fun _ k => XS.icmpNo X0.here hx rfl (hb hby d2_123) rfl (XT.ii_eq_f hc123_18) k) ?_
                                      show Ends p e below QQ (s₁.setTop (mkF m 126 #[.val (.int p0)] []))
                                      refine Ends.step (fun _ k => XS.iloadN X0.here hx rfl (hb hby d2_126) rfl k) ?_
                                      show Ends p e below QQ (s₁.setTop (mkF m 127 #[.val (.int p0)] [(.int p0)]))
                                      refine Ends.step (fun _ k => XT.bipushV X0.here hx rfl (61 : Int32) (hb hby d2_127) rfl k) ?_
                                      show Ends p e below QQ (s₁.setTop (mkF m 129 #[.val (.int p0)] [(.int (61 : Int32)), (.int p0)]))
                                      by_cases hc129_19 : p0 = (61 : Int32)
                                      · refine Ends.step (fun _ k => XS.icmpYes X0.here hx rfl (pc0 := 129) (pc' := 156) rfl (hb hby d2_129) rfl (XT.ii_eq_t hc129_19) (by decide) (by decide) k) ?_
                                        show Ends p e below QQ (s₁.setTop (mkF m 156 #[.val (.int p0)] []))
                                        refine Ends.step (fun _ k => XT.iconstV X0.here hx rfl (1 : Int32) (hb hby d2_156) rfl k) ?_
                                        show Ends p e below QQ (s₁.setTop (mkF m 157 #[.val (.int p0)] [(.int (1 : Int32))]))
                                        refine Ends.step (fun _ k => XS.goto X0.here hx rfl (pc0 := 157) (pc' := 161) rfl (hb hby d2_157) (by decide) (by decide) k) ?_
                                        exact hJ _ (by simp only [if_neg hc45_5, if_neg hc51_6, if_neg hc57_7, if_neg hc63_8, if_neg hc69_9, if_neg hc75_10, if_neg hc81_11, if_neg hc87_12, if_neg hc93_13, if_neg hc99_14, if_neg hc105_15, if_neg hc111_16, if_neg hc117_17, if_neg hc123_18, if_pos hc129_19])
                                      · refine Ends.step (fun _ k => XS.icmpNo X0.here hx rfl (hb hby d2_129) rfl (XT.ii_eq_f hc129_19) k) ?_
                                        show Ends p e below QQ (s₁.setTop (mkF m 132 #[.val (.int p0)] []))
                                        refine Ends.step (fun _ k => XS.iloadN X0.here hx rfl (hb hby d2_132) rfl k) ?_
                                        show Ends p e below QQ (s₁.setTop (mkF m 133 #[.val (.int p0)] [(.int p0)]))
                                        refine Ends.step (fun _ k => XT.bipushV X0.here hx rfl (58 : Int32) (hb hby d2_133) rfl k) ?_
                                        show Ends p e below QQ (s₁.setTop (mkF m 135 #[.val (.int p0)] [(.int (58 : Int32)), (.int p0)]))
                                        by_cases hc135_20 : p0 = (58 : Int32)
                                        · refine Ends.step (fun _ k => XS.icmpYes X0.here hx rfl (pc0 := 135) (pc' := 156) rfl (hb hby d2_135) rfl (XT.ii_eq_t hc135_20) (by decide) (by decide) k) ?_
                                          show Ends p e below QQ (s₁.setTop (mkF m 156 #[.val (.int p0)] []))
                                          refine Ends.step (fun _ k => XT.iconstV X0.here hx rfl (1 : Int32) (hb hby d2_156) rfl k) ?_
                                          show Ends p e below QQ (s₁.setTop (mkF m 157 #[.val (.int p0)] [(.int (1 : Int32))]))
                                          refine Ends.step (fun _ k => XS.goto X0.here hx rfl (pc0 := 157) (pc' := 161) rfl (hb hby d2_157) (by decide) (by decide) k) ?_
                                          exact hJ _ (by simp only [if_neg hc45_5, if_neg hc51_6, if_neg hc57_7, if_neg hc63_8, if_neg hc69_9, if_neg hc75_10, if_neg hc81_11, if_neg hc87_12, if_neg hc93_13, if_neg hc99_14, if_neg hc105_15, if_neg hc111_16, if_neg hc117_17, if_neg hc123_18, if_neg hc129_19, if_pos hc135_20])
                                        · refine Ends.step (fun _ k => XS.icmpNo X0.here hx rfl (hb hby d2_135) rfl (XT.ii_eq_f hc135_20) k) ?_
                                          show Ends p e below QQ (s₁.setTop (mkF m 138 #[.val (.int p0)] []))
                                          refine Ends.step (fun _ k => XS.iloadN X0.here hx rfl (hb hby d2_138) rfl k) ?_
                                          show Ends p e below QQ (s₁.setTop (mkF m 139 #[.val (.int p0)] [(.int p0)]))
                                          refine Ends.step (fun _ k => XT.bipushV X0.here hx rfl (64 : Int32) (hb hby d2_139) rfl k) ?_
                                          show Ends p e below QQ (s₁.setTop (mkF m 141 #[.val (.int p0)] [(.int (64 : Int32)), (.int p0)]))
                                          by_cases hc141_21 : p0 = (64 : Int32)
                                          · refine Ends.step (fun _ k => XS.icmpYes X0.here hx rfl (pc0 := 141) (pc' := 156) rfl (hb hby d2_141) rfl (XT.ii_eq_t hc141_21) (by decide) (by decide) k) ?_
                                            show Ends p e below QQ (s₁.setTop (mkF m 156 #[.val (.int p0)] []))
                                            refine Ends.step (fun _ k => XT.iconstV X0.here hx rfl (1 : Int32) (hb hby d2_156) rfl k) ?_
                                            show Ends p e below QQ (s₁.setTop (mkF m 157 #[.val (.int p0)] [(.int (1 : Int32))]))
                                            refine Ends.step (fun _ k => XS.goto X0.here hx rfl (pc0 := 157) (pc' := 161) rfl (hb hby d2_157) (by decide) (by decide) k) ?_
                                            exact hJ _ (by simp only [if_neg hc45_5, if_neg hc51_6, if_neg hc57_7, if_neg hc63_8, if_neg hc69_9, if_neg hc75_10, if_neg hc81_11, if_neg hc87_12, if_neg hc93_13, if_neg hc99_14, if_neg hc105_15, if_neg hc111_16, if_neg hc117_17, if_neg hc123_18, if_neg hc129_19, if_neg hc135_20, if_pos hc141_21])
                                          · refine Ends.step (fun _ k => XS.icmpNo X0.here hx rfl (hb hby d2_141) rfl (XT.ii_eq_f hc141_21) k) ?_
                                            show Ends p e below QQ (s₁.setTop (mkF m 144 #[.val (.int p0)] []))
                                            refine Ends.step (fun _ k => XS.iloadN X0.here hx rfl (hb hby d2_144) rfl k) ?_
                                            show Ends p e below QQ (s₁.setTop (mkF m 145 #[.val (.int p0)] [(.int p0)]))
                                            refine Ends.step (fun _ k => XT.bipushV X0.here hx rfl (47 : Int32) (hb hby d2_145) rfl k) ?_
                                            show Ends p e below QQ (s₁.setTop (mkF m 147 #[.val (.int p0)] [(.int (47 : Int32)), (.int p0)]))
                                            by_cases hc147_22 : p0 = (47 : Int32)
                                            · refine Ends.step (fun _ k => XS.icmpYes X0.here hx rfl (pc0 := 147) (pc' := 156) rfl (hb hby d2_147) rfl (XT.ii_eq_t hc147_22) (by decide) (by decide) k) ?_
                                              show Ends p e below QQ (s₁.setTop (mkF m 156 #[.val (.int p0)] []))
                                              refine Ends.step (fun _ k => XT.iconstV X0.here hx rfl (1 : Int32) (hb hby d2_156) rfl k) ?_
                                              show Ends p e below QQ (s₁.setTop (mkF m 157 #[.val (.int p0)] [(.int (1 : Int32))]))
                                              refine Ends.step (fun _ k => XS.goto X0.here hx rfl (pc0 := 157) (pc' := 161) rfl (hb hby d2_157) (by decide) (by decide) k) ?_
                                              exact hJ _ (by simp only [if_neg hc45_5, if_neg hc51_6, if_neg hc57_7, if_neg hc63_8, if_neg hc69_9, if_neg hc75_10, if_neg hc81_11, if_neg hc87_12, if_neg hc93_13, if_neg hc99_14, if_neg hc105_15, if_neg hc111_16, if_neg hc117_17, if_neg hc123_18, if_neg hc129_19, if_neg hc135_20, if_neg hc141_21, if_pos hc147_22])
                                            · refine Ends.step (fun _ k => XS.icmpNo X0.here hx rfl (hb hby d2_147) rfl (XT.ii_eq_f hc147_22) k) ?_
                                              show Ends p e below QQ (s₁.setTop (mkF m 150 #[.val (.int p0)] []))
                                              refine Ends.step (fun _ k => XS.iloadN X0.here hx rfl (hb hby d2_150) rfl k) ?_
                                              show Ends p e below QQ (s₁.setTop (mkF m 151 #[.val (.int p0)] [(.int p0)]))
                                              refine Ends.step (fun _ k => XT.bipushV X0.here hx rfl (63 : Int32) (hb hby d2_151) rfl k) ?_
                                              show Ends p e below QQ (s₁.setTop (mkF m 153 #[.val (.int p0)] [(.int (63 : Int32)), (.int p0)]))
                                              by_cases hc153_23 : p0 = (63 : Int32)
                                              · refine Ends.step (fun _ k => XS.icmpNo X0.here hx rfl (hb hby d2_153) rfl (XT.ii_ne_f hc153_23) k) ?_
                                                show Ends p e below QQ (s₁.setTop (mkF m 156 #[.val (.int p0)] []))
                                                refine Ends.step (fun _ k => XT.iconstV X0.here hx rfl (1 : Int32) (hb hby d2_156) rfl k) ?_
                                                show Ends p e below QQ (s₁.setTop (mkF m 157 #[.val (.int p0)] [(.int (1 : Int32))]))
                                                refine Ends.step (fun _ k => XS.goto X0.here hx rfl (pc0 := 157) (pc' := 161) rfl (hb hby d2_157) (by decide) (by decide) k) ?_
                                                exact hJ _ (by simp only [if_neg hc45_5, if_neg hc51_6, if_neg hc57_7, if_neg hc63_8, if_neg hc69_9, if_neg hc75_10, if_neg hc81_11, if_neg hc87_12, if_neg hc93_13, if_neg hc99_14, if_neg hc105_15, if_neg hc111_16, if_neg hc117_17, if_neg hc123_18, if_neg hc129_19, if_neg hc135_20, if_neg hc141_21, if_neg hc147_22, if_pos hc153_23])
                                              · refine Ends.step (fun _ k => XS.icmpYes X0.here hx rfl (pc0 := 153) (pc' := 160) rfl (hb hby d2_153) rfl (XT.ii_ne_t hc153_23) (by decide) (by decide) k) ?_
                                                show Ends p e below QQ (s₁.setTop (mkF m 160 #[.val (.int p0)] []))
                                                refine Ends.step (fun _ k => XT.iconstV X0.here hx rfl (0 : Int32) (hb hby d2_160) rfl k) ?_
                                                exact hJ _ (by simp only [if_neg hc45_5, if_neg hc51_6, if_neg hc57_7, if_neg hc63_8, if_neg hc69_9, if_neg hc75_10, if_neg hc81_11, if_neg hc87_12, if_neg hc93_13, if_neg hc99_14, if_neg hc105_15, if_neg hc111_16, if_neg hc117_17, if_neg hc123_18, if_neg hc129_19, if_neg hc135_20, if_neg hc141_21, if_neg hc147_22, if_neg hc153_23])
        refine J161_4 fun v161_1 hv161_1 => ?_
        have dv161_1 : f2_v161_1 p0 = v161_1 := by
          simp only [f2_v161_1]
          exact hv161_1.symm
        show Ends p e below QQ (s₁.setTop (mkF m 161 #[.val (.int p0)] [(.int v161_1)]))
        exact Ends.fin (some (.int v161_1)) X0 hQQ (fun h => by rw [Bd.returns] at h; cases h) Bd.notSynchronized (fun _ hr => retOut X0 hx (t := .boolean) Bd.returns (by rw [hv161_1]; exact own_narB (by repeat' (first | exact Or.inl rfl | exact Or.inr rfl | apply own_01))) (Or.inl ⟨rfl, (by simp), _, rfl⟩) (hb hby d2_161) hr) e0 (by decide) (by decide) ⟨(by rw [hLb42_3]; simp only [f2_L42, dv161_1]), N0, rfl⟩
      by_cases hc31_24 : p0 < (48 : Int32)
      · refine Ends.step (fun _ k => XS.icmpYes X0.here hx rfl (pc0 := 31) (pc' := 42) rfl (hb hby d2_31) rfl (XT.ii_lt_t hc31_24) (by decide) (by decide) k) ?_
        exact Lb42_3 (by rw [hLb28_2]; simp only [f2_L28, if_pos hc31_24])
      · refine Ends.step (fun _ k => XS.icmpNo X0.here hx rfl (hb hby d2_31) rfl (XT.ii_lt_f hc31_24) k) ?_
        show Ends p e below QQ (s₁.setTop (mkF m 34 #[.val (.int p0)] []))
        refine Ends.step (fun _ k => XS.iloadN X0.here hx rfl (hb hby d2_34) rfl k) ?_
        show Ends p e below QQ (s₁.setTop (mkF m 35 #[.val (.int p0)] [(.int p0)]))
        refine Ends.step (fun _ k => XT.bipushV X0.here hx rfl (57 : Int32) (hb hby d2_35) rfl k) ?_
        show Ends p e below QQ (s₁.setTop (mkF m 37 #[.val (.int p0)] [(.int (57 : Int32)), (.int p0)]))
        by_cases hc37_25 : (57 : Int32) < p0
        · refine Ends.step (fun _ k => XS.icmpYes X0.here hx rfl (pc0 := 37) (pc' := 42) rfl (hb hby d2_37) rfl (XT.ii_gt_t hc37_25) (by decide) (by decide) k) ?_
          exact Lb42_3 (by rw [hLb28_2]; simp only [f2_L28, if_neg hc31_24, if_pos hc37_25])
        · refine Ends.step (fun _ k => XS.icmpNo X0.here hx rfl (hb hby d2_37) rfl (XT.ii_gt_f hc37_25) k) ?_
          show Ends p e below QQ (s₁.setTop (mkF m 40 #[.val (.int p0)] []))
          refine Ends.step (fun _ k => XT.iconstV X0.here hx rfl (1 : Int32) (hb hby d2_40) rfl k) ?_
          show Ends p e below QQ (s₁.setTop (mkF m 41 #[.val (.int p0)] [(.int (1 : Int32))]))
          exact Ends.fin (some (.int (1 : Int32))) X0 hQQ (fun h => by rw [Bd.returns] at h; cases h) Bd.notSynchronized (fun _ hr => retOut X0 hx (t := .boolean) Bd.returns rfl (Or.inl ⟨rfl, (by simp), _, rfl⟩) (hb hby d2_41) hr) e0 (by decide) (by decide) ⟨(by rw [hLb28_2]; simp only [f2_L28, if_neg hc31_24, if_neg hc37_25]), N0, rfl⟩
    by_cases hc17_26 : p0 < (97 : Int32)
    · refine Ends.step (fun _ k => XS.icmpYes X0.here hx rfl (pc0 := 17) (pc' := 28) rfl (hb hby d2_17) rfl (XT.ii_lt_t hc17_26) (by decide) (by decide) k) ?_
      exact Lb28_2 (by rw [hLb14_1]; simp only [f2_L14, if_pos hc17_26])
    · refine Ends.step (fun _ k => XS.icmpNo X0.here hx rfl (hb hby d2_17) rfl (XT.ii_lt_f hc17_26) k) ?_
      show Ends p e below QQ (s₁.setTop (mkF m 20 #[.val (.int p0)] []))
      refine Ends.step (fun _ k => XS.iloadN X0.here hx rfl (hb hby d2_20) rfl k) ?_
      show Ends p e below QQ (s₁.setTop (mkF m 21 #[.val (.int p0)] [(.int p0)]))
      refine Ends.step (fun _ k => XT.bipushV X0.here hx rfl (122 : Int32) (hb hby d2_21) rfl k) ?_
      show Ends p e below QQ (s₁.setTop (mkF m 23 #[.val (.int p0)] [(.int (122 : Int32)), (.int p0)]))
      by_cases hc23_27 : (122 : Int32) < p0
      · refine Ends.step (fun _ k => XS.icmpYes X0.here hx rfl (pc0 := 23) (pc' := 28) rfl (hb hby d2_23) rfl (XT.ii_gt_t hc23_27) (by decide) (by decide) k) ?_
        exact Lb28_2 (by rw [hLb14_1]; simp only [f2_L14, if_neg hc17_26, if_pos hc23_27])
      · refine Ends.step (fun _ k => XS.icmpNo X0.here hx rfl (hb hby d2_23) rfl (XT.ii_gt_f hc23_27) k) ?_
        show Ends p e below QQ (s₁.setTop (mkF m 26 #[.val (.int p0)] []))
        refine Ends.step (fun _ k => XT.iconstV X0.here hx rfl (1 : Int32) (hb hby d2_26) rfl k) ?_
        show Ends p e below QQ (s₁.setTop (mkF m 27 #[.val (.int p0)] [(.int (1 : Int32))]))
        exact Ends.fin (some (.int (1 : Int32))) X0 hQQ (fun h => by rw [Bd.returns] at h; cases h) Bd.notSynchronized (fun _ hr => retOut X0 hx (t := .boolean) Bd.returns rfl (Or.inl ⟨rfl, (by simp), _, rfl⟩) (hb hby d2_27) hr) e0 (by decide) (by decide) ⟨(by rw [hLb14_1]; simp only [f2_L14, if_neg hc17_26, if_neg hc23_27]), N0, rfl⟩
  by_cases hc3_28 : p0 < (65 : Int32)
  · refine Ends.step (fun _ k => XS.icmpYes X0.here hx rfl (pc0 := 3) (pc' := 14) rfl (hb hby d2_3) rfl (XT.ii_lt_t hc3_28) (by decide) (by decide) k) ?_
    exact Lb14_1 (by simp only [f2, if_pos hc3_28])
  · refine Ends.step (fun _ k => XS.icmpNo X0.here hx rfl (hb hby d2_3) rfl (XT.ii_lt_f hc3_28) k) ?_
    show Ends p e below QQ (s₁.setTop (mkF m 6 #[.val (.int p0)] []))
    refine Ends.step (fun _ k => XS.iloadN X0.here hx rfl (hb hby d2_6) rfl k) ?_
    show Ends p e below QQ (s₁.setTop (mkF m 7 #[.val (.int p0)] [(.int p0)]))
    refine Ends.step (fun _ k => XT.bipushV X0.here hx rfl (90 : Int32) (hb hby d2_7) rfl k) ?_
    show Ends p e below QQ (s₁.setTop (mkF m 9 #[.val (.int p0)] [(.int (90 : Int32)), (.int p0)]))
    by_cases hc9_29 : (90 : Int32) < p0
    · refine Ends.step (fun _ k => XS.icmpYes X0.here hx rfl (pc0 := 9) (pc' := 14) rfl (hb hby d2_9) rfl (XT.ii_gt_t hc9_29) (by decide) (by decide) k) ?_
      exact Lb14_1 (by simp only [f2, if_neg hc3_28, if_pos hc9_29])
    · refine Ends.step (fun _ k => XS.icmpNo X0.here hx rfl (hb hby d2_9) rfl (XT.ii_gt_f hc9_29) k) ?_
      show Ends p e below QQ (s₁.setTop (mkF m 12 #[.val (.int p0)] []))
      refine Ends.step (fun _ k => XT.iconstV X0.here hx rfl (1 : Int32) (hb hby d2_12) rfl k) ?_
      show Ends p e below QQ (s₁.setTop (mkF m 13 #[.val (.int p0)] [(.int (1 : Int32))]))
      exact Ends.fin (some (.int (1 : Int32))) X0 hQQ (fun h => by rw [Bd.returns] at h; cases h) Bd.notSynchronized (fun _ hr => retOut X0 hx (t := .boolean) Bd.returns rfl (Or.inl ⟨rfl, (by simp), _, rfl⟩) (hb hby d2_13) hr) e0 (by decide) (by decide) ⟨(by simp only [f2, if_neg hc3_28, if_neg hc9_29]), N0, rfl⟩
theorem d1_0 : decode prog_47_method_4_code 0 = .ok (.iload_n 0, 1) := by decide +kernel
theorem d1_1 : decode prog_47_method_4_code 1 = .ok (.getstatic 27, 3) := by decide +kernel
theorem d1_4 : decode prog_47_method_4_code 4 = .ok (.arraylength, 1) := by decide +kernel
theorem d1_5 : decode prog_47_method_4_code 5 = .ok (.if_icmp .ge 15, 3) := by decide +kernel
theorem d1_8 : decode prog_47_method_4_code 8 = .ok (.getstatic 27, 3) := by decide +kernel
theorem d1_11 : decode prog_47_method_4_code 11 = .ok (.iload_n 0, 1) := by decide +kernel
theorem d1_12 : decode prog_47_method_4_code 12 = .ok (.baload, 1) := by decide +kernel
theorem d1_13 : decode prog_47_method_4_code 13 = .ok (.ifCond .eq 7, 3) := by decide +kernel
theorem d1_16 : decode prog_47_method_4_code 16 = .ok (.iconst 1, 1) := by decide +kernel
theorem d1_17 : decode prog_47_method_4_code 17 = .ok (.goto 4, 3) := by decide +kernel
theorem d1_20 : decode prog_47_method_4_code 20 = .ok (.iconst 0, 1) := by decide +kernel
theorem d1_21 : decode prog_47_method_4_code 21 = .ok (.ireturn, 1) := by decide +kernel
theorem ef_1 (m : MethodId) (x0 : Int32) : entryFrame m #[(.int x0)] 1 = mkF m 0 #[.val (.int x0)] [] := by first | (simp [entryFrame, mkF, argsToLocals, Value.category]; done) | rfl
theorem own_ge (m x : Int32) : ¬ (if (m &&& (3 : Int32)) = (0 : Int32) then (x &&& (127 : Int32)) else if (m &&& (3 : Int32)) = (1 : Int32) then (x &&& (255 : Int32)) else if (m &&& (3 : Int32)) = (2 : Int32) then (x &&& (1114111 : Int32)) else (x &&& (2147483647 : Int32))) < (0 : Int32) := by
  simp only [Int32.lt_iff_toInt_lt, Int32.reduceToInt]
  split
  · have := (c_and x 127 (by decide)).1; omega
  · split
    · have := (c_and x 255 (by decide)).1; omega
    · split
      · have := (c_and x 1114111 (by decide)).1; omega
      · have := (c_and x 2147483647 (by decide)).1; omega
def own_tb : List Value := [(.int (0 : Int32)), (.int (0 : Int32)), (.int (0 : Int32)), (.int (0 : Int32)), (.int (0 : Int32)), (.int (0 : Int32)), (.int (0 : Int32)), (.int (0 : Int32)), (.int (0 : Int32)), (.int (0 : Int32)), (.int (0 : Int32)), (.int (0 : Int32)), (.int (0 : Int32)), (.int (0 : Int32)), (.int (0 : Int32)), (.int (0 : Int32)), (.int (0 : Int32)), (.int (0 : Int32)), (.int (0 : Int32)), (.int (0 : Int32)), (.int (0 : Int32)), (.int (0 : Int32)), (.int (0 : Int32)), (.int (0 : Int32)), (.int (0 : Int32)), (.int (0 : Int32)), (.int (0 : Int32)), (.int (0 : Int32)), (.int (0 : Int32)), (.int (0 : Int32)), (.int (0 : Int32)), (.int (0 : Int32)), (.int (0 : Int32)), (.int (1 : Int32)), (.int (0 : Int32)), (.int (0 : Int32)), (.int (1 : Int32)), (.int (0 : Int32)), (.int (1 : Int32)), (.int (1 : Int32)), (.int (1 : Int32)), (.int (1 : Int32)), (.int (1 : Int32)), (.int (1 : Int32)), (.int (1 : Int32)), (.int (1 : Int32)), (.int (1 : Int32)), (.int (1 : Int32)), (.int (1 : Int32)), (.int (1 : Int32)), (.int (1 : Int32)), (.int (1 : Int32)), (.int (1 : Int32)), (.int (1 : Int32)), (.int (1 : Int32)), (.int (1 : Int32)), (.int (1 : Int32)), (.int (1 : Int32)), (.int (1 : Int32)), (.int (1 : Int32)), (.int (0 : Int32)), (.int (1 : Int32)), (.int (0 : Int32)), (.int (1 : Int32)), (.int (1 : Int32)), (.int (1 : Int32)), (.int (1 : Int32)), (.int (1 : Int32)), (.int (1 : Int32)), (.int (1 : Int32)), (.int (1 : Int32)), (.int (1 : Int32)), (.int (1 : Int32)), (.int (1 : Int32)), (.int (1 : Int32)), (.int (1 : Int32)), (.int (1 : Int32)), (.int (1 : Int32)), (.int (1 : Int32)), (.int (1 : Int32)), (.int (1 : Int32)), (.int (1 : Int32)), (.int (1 : Int32)), (.int (1 : Int32)), (.int (1 : Int32)), (.int (1 : Int32)), (.int (1 : Int32)), (.int (1 : Int32)), (.int (1 : Int32)), (.int (1 : Int32)), (.int (1 : Int32)), (.int (0 : Int32)), (.int (0 : Int32)), (.int (0 : Int32)), (.int (0 : Int32)), (.int (1 : Int32)), (.int (0 : Int32)), (.int (1 : Int32)), (.int (1 : Int32)), (.int (1 : Int32)), (.int (1 : Int32)), (.int (1 : Int32)), (.int (1 : Int32)), (.int (1 : Int32)), (.int (1 : Int32)), (.int (1 : Int32)), (.int (1 : Int32)), (.int (1 : Int32)), (.int (1 : Int32)), (.int (1 : Int32)), (.int (1 : Int32)), (.int (1 : Int32)), (.int (1 : Int32)), (.int (1 : Int32)), (.int (1 : Int32)), (.int (1 : Int32)), (.int (1 : Int32)), (.int (1 : Int32)), (.int (1 : Int32)), (.int (1 : Int32)), (.int (1 : Int32)), (.int (1 : Int32)), (.int (1 : Int32)), (.int (0 : Int32)), (.int (0 : Int32)), (.int (0 : Int32)), (.int (1 : Int32)), (.int (0 : Int32))]
theorem own_hb (c : Int32) (h0 : ¬ c < (0 : Int32)) (h : c < (128 : Int32)) : own_tb.getD c.toNatClampNeg (.int (0 : Int32)) = .int (f2 c) := by
  have key : ∀ j : Fin 128, own_tb.getD j.1 (.int (0 : Int32)) = .int (f2 (Int32.ofNat j.1)) := by decide +kernel
  simp only [Int32.lt_iff_toInt_lt, Int32.reduceToInt] at h0 h
  have hj : c.toNatClampNeg < 128 := by simp only [Int32.toNatClampNeg]; omega
  have e := key ⟨_, hj⟩
  have ec : Int32.ofNat c.toNatClampNeg = c := (back32 (by simp only [Int32.lt_iff_toInt_lt, Int32.reduceToInt]; omega)).1
  simp only [ec] at e
  exact e

def f1_v21_1 (p0 : Int32) (b : Int32) : Int32 := (if b = (0 : Int32) then (0 : Int32) else (1 : Int32))
def f1 (p0 : Int32) (b : Int32) : Int32 := (if p0 < (128 : Int32) then (f1_v21_1 p0 b) else (0 : Int32))
theorem f1_01 (p0 : Int32) (b : Int32) : f1 p0 b = 0 ∨ f1 p0 b = 1 := by
  simp only [f1, f1_v21_1]
  repeat' (first | exact Or.inl rfl | exact Or.inr rfl | apply own_01)
def Q1 (Z : State) (p0 : Int32) (a_IN_TARGET : Addr) (k : ClassId) (vs : List Value) (b : Int32) (h0 : Heap) (n0 : Nat) (v : Option Value) (h : Heap) (L : List Loc) : Prop := (v = some (.int (f1 p0 b))) ∧ (Fr n0 L) ∧ (h = h0)
set_option maxRecDepth 65536 in
set_option maxHeartbeats 40000000 in
theorem rm1 (l : Launch) (Z : State) (a0 : Array Value) (hw : ∀ d ∈ tables_1, d.before a0 Z = true) (ws : List Jvm.Cond) (p0 : Int32) (a_IN_TARGET : Addr) (k : ClassId) (vs : List Value) (b : Int32) (h0 : Heap) (n0 : Nat) (Z0 : n0 ≤ h0.size) (S_IN_TARGET : Sta Z h0 "com/example/gatehook/gatehook/http/Syntax" "IN_TARGET" "[Z" (.ref a_IN_TARGET)) (A_a_IN_TARGET : Arv Z h0 a_IN_TARGET k .boolean (128 : Int32) vs (.int (0 : Int32))) (hge : ¬ p0 < (0 : Int32)) (hbt : p0 < (128 : Int32) → vs.getD p0.toNatClampNeg (.int (0 : Int32)) = .int b) :
    MetFree l (⟨"com/example/gatehook/gatehook/http/Syntax", "isTargetCharacter", "(I)Z"⟩ : MethodName) (head1 (Jvm.Cond.code (⟨"com/example/gatehook/gatehook/http/Syntax", "isTargetCharacter", "(I)Z"⟩ : MethodName) prog_47_method_4_code 1 (some .boolean) :: ws) ({ frames := 0, cells := 0, slots := 0, locals := 0 } : Room)) (fun a U => a = #[(.int p0)] ∧ Z.Warmed39 U.vm ∧ U.heap = h0) (fun _ _ _ _ _ => True) (fun _ U o U' => ∃ v L, o = .returned v ∧ Q1 Z p0 a_IN_TARGET k vs b h0 n0 v U'.heap L ∧ FrameEnd U o U' L ({ frames := 0, cells := 0, slots := 0, locals := 0 } : Room).cells ({ frames := 0, cells := 0, slots := 0, locals := 0 } : Room).slots) := by
  refine MetFree.of_bodySF (plainFor_of_name pn_1) hisR ?_
  intro p e s m args below meth c s₁ Bd hml0 hP hK
  obtain ⟨rfl, hZ, hh⟩ := hP
  have hx := Bd.exec
  have hby := Bd.bytes
  have hml : c.maxLocals = 1 := hml0
  have hown : s.vm.findClass "com/example/gatehook/gatehook/http/Syntax" = some m.cls := findClass_of_methodNamed Bd.named
  have hnm := (name_of_methodNamed Bd.named Bd.method).1
  have X0 : Stand p l e ({ frames := 0, cells := 0, slots := 0, locals := 0 } : Room) s m #[(.int p0)] below meth c s₁ [] 0 0 := Stand.of_body Bd
  have e0 : s₁.heap = h0 := by rw [← hh, Bd.state]; rfl
  have N0 := Fr.nil n0
  refine Ends.opn ?_
  intro QQ hQQ
  refine Ends.step (S' := s₁.setTop (mkF m 0 #[.val (.int p0)] [])) (fun t k => castTop (ef_1 m p0) k) ?_
  show Ends p e below QQ (s₁.setTop (mkF m 0 #[.val (.int p0)] []))
  refine Ends.step (fun _ k => XS.iloadN X0.here hx rfl (hb hby d1_0) rfl k) ?_
  show Ends p e below QQ (s₁.setTop (mkF m 1 #[.val (.int p0)] [(.int p0)]))
  obtain ⟨T30, X30, e30, st30⟩ := getS2 X0 hx hZ hown (host := "") (Or.inl (hw _ (List.mem_of_getElem? (i := 5) rfl))) Via.refl e0 S_IN_TARGET (g := (mkF m 1 #[.val (.int p0)] [(.int p0)])) rfl (hb hby d1_1)
  refine Ends.step st30 ?_
  show Ends p e below QQ (T30.setTop (mkF m 4 #[.val (.int p0)] [(.ref a_IN_TARGET), (.int p0)]))
  obtain ⟨cl31, Ar31, -, S31, P31, -, -⟩ := id A_a_IN_TARGET
  refine Ends.step (S' := T30.setTop (mkF m 5 #[.val (.int p0)] [(.int (128 : Int32)), (.int p0)])) (fun _ k => X30.arraylength hx (by rw [e30]; exact Ar31.1) (State.isArrayOf_alike hZ.alike Ar31.2.1) (g := (mkF m 4 #[.val (.int p0)] [(.ref a_IN_TARGET), (.int p0)])) rfl rfl (hb hby d1_4) _ (by rw [len_of S31 P31]; exact k)) ?_
  show Ends p e below QQ (T30.setTop (mkF m 5 #[.val (.int p0)] [(.int (128 : Int32)), (.int p0)]))
  by_cases hc5_32 : p0 < (128 : Int32)
  · refine Ends.step (fun _ k => XS.icmpNo X30.here hx rfl (hb hby d1_5) rfl (XT.ii_ge_f hc5_32) k) ?_
    show Ends p e below QQ (T30.setTop (mkF m 8 #[.val (.int p0)] []))
    obtain ⟨T33, X33, e33, st33⟩ := getS2 X30 hx hZ hown (host := "") (Or.inl (hw _ (List.mem_of_getElem? (i := 5) rfl))) Via.refl e30 S_IN_TARGET (g := (mkF m 8 #[.val (.int p0)] [])) rfl (hb hby d1_8)
    refine Ends.step st33 ?_
    show Ends p e below QQ (T33.setTop (mkF m 11 #[.val (.int p0)] [(.ref a_IN_TARGET)]))
    refine Ends.step (fun _ k => XS.iloadN X33.here hx rfl (hb hby d1_11) rfl k) ?_
    show Ends p e below QQ (T33.setTop (mkF m 12 #[.val (.int p0)] [(.int p0), (.ref a_IN_TARGET)]))
    obtain ⟨cl34, Ar34, q34, S34, P34, H34, G34⟩ := id A_a_IN_TARGET
    have hin34 : ¬ (p0 < 0 ∨ cl34.slots.size ≤ (p0).toNatClampNeg) := inb_of S34 ⟨hge, hc5_32⟩
    have hat34 : cl34.slots[(p0).toNatClampNeg]? = some (.int b) := H34.at hin34 (hbt hc5_32)
    refine Ends.step (fun _ k => X33.baloadBooleans hx (j := p0) (v := (.int b)) (by rw [e33]; exact Ar34.1) (State.isArrayOf_alike hZ.alike Ar34.2.1) Ar34.2.2 hin34 hat34 (g := (mkF m 12 #[.val (.int p0)] [(.int p0), (.ref a_IN_TARGET)])) rfl rfl (hb hby d1_12) _ k) ?_
    show Ends p e below QQ (T33.setTop (mkF m 13 #[.val (.int p0)] [(.int b)]))
    have J21_35 : (∀ (v21_1 : Int32) (hv21_1 : v21_1 = (if b = (0 : Int32) then (0 : Int32) else (1 : Int32))), Ends p e below QQ (T33.setTop (mkF m 21 #[.val (.int p0)] [(.int v21_1)]))) → Ends p e below QQ (T33.setTop (mkF m 13 #[.val (.int p0)] [(.int b)])) := by
      intro hJ
      by_cases hc13_36 : b = (0 : Int32)
      · refine Ends.step (fun _ k => XS.ifYes X33.here hx rfl (pc0 := 13) (pc' := 20) rfl (hb hby d1_13) rfl (XT.i0_eq_t hc13_36) (by decide) (by decide) k) ?_
        show Ends p e below QQ (T33.setTop (mkF m 20 #[.val (.int p0)] []))
        refine Ends.step (fun _ k => XT.iconstV X33.here hx rfl (0 : Int32) (hb hby d1_20) rfl k) ?_
        exact hJ _ (by simp only [if_pos hc13_36])
      · refine Ends.step (fun _ k => XS.ifNo X33.here hx rfl (hb hby d1_13) rfl (XT.i0_eq_f hc13_36) k) ?_
        show Ends p e below QQ (T33.setTop (mkF m 16 #[.val (.int p0)] []))
        refine Ends.step (fun _ k => XT.iconstV X33.here hx rfl (1 : Int32) (hb hby d1_16) rfl k) ?_
        show Ends p e below QQ (T33.setTop (mkF m 17 #[.val (.int p0)] [(.int (1 : Int32))]))
        refine Ends.step (fun _ k => XS.goto X33.here hx rfl (pc0 := 17) (pc' := 21) rfl (hb hby d1_17) (by decide) (by decide) k) ?_
        exact hJ _ (by simp only [if_neg hc13_36])
    refine J21_35 fun v21_1 hv21_1 => ?_
    have dv21_1 : f1_v21_1 p0 b = v21_1 := by
      simp only [f1_v21_1]
      exact hv21_1.symm
    show Ends p e below QQ (T33.setTop (mkF m 21 #[.val (.int p0)] [(.int v21_1)]))
    exact Ends.fin (some (.int v21_1)) X33 hQQ (fun h => by rw [Bd.returns] at h; cases h) Bd.notSynchronized (fun _ hr => retOut X33 hx (t := .boolean) Bd.returns (by rw [hv21_1]; exact own_narB (by repeat' (first | exact Or.inl rfl | exact Or.inr rfl | apply own_01))) (Or.inl ⟨rfl, (by simp), _, rfl⟩) (hb hby d1_21) hr) e33 (by decide) (by decide) ⟨(by simp only [f1, dv21_1, if_pos hc5_32]), N0, rfl⟩
  · refine Ends.step (fun _ k => XS.icmpYes X30.here hx rfl (pc0 := 5) (pc' := 20) rfl (hb hby d1_5) rfl (XT.ii_ge_t hc5_32) (by decide) (by decide) k) ?_
    show Ends p e below QQ (T30.setTop (mkF m 20 #[.val (.int p0)] []))
    refine Ends.step (fun _ k => XT.iconstV X30.here hx rfl (0 : Int32) (hb hby d1_20) rfl k) ?_
    show Ends p e below QQ (T30.setTop (mkF m 21 #[.val (.int p0)] [(.int (0 : Int32))]))
    exact Ends.fin (some (.int (0 : Int32))) X30 hQQ (fun h => by rw [Bd.returns] at h; cases h) Bd.notSynchronized (fun _ hr => retOut X30 hx (t := .boolean) Bd.returns rfl (Or.inl ⟨rfl, (by simp), _, rfl⟩) (hb hby d1_21) hr) e30 (by decide) (by decide) ⟨(by simp only [f1, if_neg hc5_32]), N0, rfl⟩
theorem ef_0 (m : MethodId) (x0 : Int32) (x1 : Int32) : entryFrame m #[(.int x0), (.int x1)] maxLocals = mkF m 0 #[.val (.int x0), .val (.int x1), .unset, .unset] [] := by first | (simp [entryFrame, mkF, argsToLocals, Value.category, maxLocals]; done) | rfl
def f0_v48_1 (p0 : Int32) (p1 : Int32) : Int32 := (if (p1 &&& (3 : Int32)) = (0 : Int32) then (p0 &&& (127 : Int32)) else (if (p1 &&& (3 : Int32)) = (1 : Int32) then (p0 &&& (255 : Int32)) else (if (p1 &&& (3 : Int32)) = (2 : Int32) then (p0 &&& (1114111 : Int32)) else (p0 &&& (2147483647 : Int32)))))
def f0_v64_2 (p0 : Int32) (p1 : Int32) : Int32 := (if (f1 (f0_v48_1 p0 p1) (f2 (f0_v48_1 p0 p1))) = (f2 (f0_v48_1 p0 p1)) then (1 : Int32) else (0 : Int32))
def f0 (p0 : Int32) (p1 : Int32) : Int32 := (f0_v64_2 p0 p1)
def Q0 (Z : State) (p0 : Int32) (p1 : Int32) (a_IN_TARGET : Addr) (k_a_IN_TARGET : ClassId) (h0 : Heap) (n0 : Nat) (v : Option Value) (h : Heap) (L : List Loc) : Prop := (v = some (.int (f0 p0 p1))) ∧ (Fr n0 L) ∧ (Keep h0 h [])
set_option maxRecDepth 65536 in
set_option maxHeartbeats 40000000 in
theorem rm0 (l : Launch) (Z : State) (a0 : Array Value) (hw : ∀ d ∈ tables_1, d.before a0 Z = true) (ws : List Jvm.Cond) (p0 : Int32) (p1 : Int32) (a_IN_TARGET : Addr) (k_a_IN_TARGET : ClassId) (h0 : Heap) (n0 : Nat) (Z0 : n0 ≤ h0.size) (A_a_IN_TARGET : Arv Z h0 a_IN_TARGET k_a_IN_TARGET .boolean (128 : Int32) [(.int (0 : Int32)), (.int (0 : Int32)), (.int (0 : Int32)), (.int (0 : Int32)), (.int (0 : Int32)), (.int (0 : Int32)), (.int (0 : Int32)), (.int (0 : Int32)), (.int (0 : Int32)), (.int (0 : Int32)), (.int (0 : Int32)), (.int (0 : Int32)), (.int (0 : Int32)), (.int (0 : Int32)), (.int (0 : Int32)), (.int (0 : Int32)), (.int (0 : Int32)), (.int (0 : Int32)), (.int (0 : Int32)), (.int (0 : Int32)), (.int (0 : Int32)), (.int (0 : Int32)), (.int (0 : Int32)), (.int (0 : Int32)), (.int (0 : Int32)), (.int (0 : Int32)), (.int (0 : Int32)), (.int (0 : Int32)), (.int (0 : Int32)), (.int (0 : Int32)), (.int (0 : Int32)), (.int (0 : Int32)), (.int (0 : Int32)), (.int (1 : Int32)), (.int (0 : Int32)), (.int (0 : Int32)), (.int (1 : Int32)), (.int (0 : Int32)), (.int (1 : Int32)), (.int (1 : Int32)), (.int (1 : Int32)), (.int (1 : Int32)), (.int (1 : Int32)), (.int (1 : Int32)), (.int (1 : Int32)), (.int (1 : Int32)), (.int (1 : Int32)), (.int (1 : Int32)), (.int (1 : Int32)), (.int (1 : Int32)), (.int (1 : Int32)), (.int (1 : Int32)), (.int (1 : Int32)), (.int (1 : Int32)), (.int (1 : Int32)), (.int (1 : Int32)), (.int (1 : Int32)), (.int (1 : Int32)), (.int (1 : Int32)), (.int (1 : Int32)), (.int (0 : Int32)), (.int (1 : Int32)), (.int (0 : Int32)), (.int (1 : Int32)), (.int (1 : Int32)), (.int (1 : Int32)), (.int (1 : Int32)), (.int (1 : Int32)), (.int (1 : Int32)), (.int (1 : Int32)), (.int (1 : Int32)), (.int (1 : Int32)), (.int (1 : Int32)), (.int (1 : Int32)), (.int (1 : Int32)), (.int (1 : Int32)), (.int (1 : Int32)), (.int (1 : Int32)), (.int (1 : Int32)), (.int (1 : Int32)), (.int (1 : Int32)), (.int (1 : Int32)), (.int (1 : Int32)), (.int (1 : Int32)), (.int (1 : Int32)), (.int (1 : Int32)), (.int (1 : Int32)), (.int (1 : Int32)), (.int (1 : Int32)), (.int (1 : Int32)), (.int (1 : Int32)), (.int (0 : Int32)), (.int (0 : Int32)), (.int (0 : Int32)), (.int (0 : Int32)), (.int (1 : Int32)), (.int (0 : Int32)), (.int (1 : Int32)), (.int (1 : Int32)), (.int (1 : Int32)), (.int (1 : Int32)), (.int (1 : Int32)), (.int (1 : Int32)), (.int (1 : Int32)), (.int (1 : Int32)), (.int (1 : Int32)), (.int (1 : Int32)), (.int (1 : Int32)), (.int (1 : Int32)), (.int (1 : Int32)), (.int (1 : Int32)), (.int (1 : Int32)), (.int (1 : Int32)), (.int (1 : Int32)), (.int (1 : Int32)), (.int (1 : Int32)), (.int (1 : Int32)), (.int (1 : Int32)), (.int (1 : Int32)), (.int (1 : Int32)), (.int (1 : Int32)), (.int (1 : Int32)), (.int (1 : Int32)), (.int (0 : Int32)), (.int (0 : Int32)), (.int (0 : Int32)), (.int (1 : Int32)), (.int (0 : Int32))] (.int (0 : Int32))) (S_IN_TARGET : Sta Z h0 "com/example/gatehook/gatehook/http/Syntax" "IN_TARGET" "[Z" (.ref a_IN_TARGET)) :
    MetFree l x (head1 (Jvm.Cond.code x code maxLocals ret :: ws) room_1) (fun a U => a = #[(.int p0), (.int p1)] ∧ Z.Warmed39 U.vm ∧ U.heap = h0) (fun _ _ _ _ _ => True) (fun _ U o U' => ∃ v L, o = .returned v ∧ Q0 Z p0 p1 a_IN_TARGET k_a_IN_TARGET h0 n0 v U'.heap L ∧ FrameEnd U o U' L room_1.cells room_1.slots) := by
  refine MetFree.of_bodySF (plainFor_of_name pn_0) hisR ?_
  intro p e s m args below meth c s₁ Bd hml0 hP hK
  obtain ⟨rfl, hZ, hh⟩ := hP
  have hx := Bd.exec
  have hby := Bd.bytes
  have hml : c.maxLocals = 4 := hml0
  have hown : s.vm.findClass "com/example/gatehook/gatehook/http/SyntaxIsTargetCharacterPinLaw" = some m.cls := findClass_of_methodNamed Bd.named
  have hnm := (name_of_methodNamed Bd.named Bd.method).1
  have X0 : Stand p l e room_1 s m #[(.int p0), (.int p1)] below meth c s₁ [] 0 0 := Stand.of_body Bd
  have e0 : s₁.heap = h0 := by rw [← hh, Bd.state]; rfl
  have N0 := Fr.nil n0
  refine Ends.opn ?_
  intro QQ hQQ
  refine Ends.step (S' := s₁.setTop (mkF m 0 #[.val (.int p0), .val (.int p1), .unset, .unset] [])) (fun t k => castTop (ef_0 m p0 p1) k) ?_
  show Ends p e below QQ (s₁.setTop (mkF m 0 #[.val (.int p0), .val (.int p1), .unset, .unset] []))
  refine Ends.step (fun _ k => XS.iloadN X0.here hx rfl (hb hby at_0) rfl k) ?_
  show Ends p e below QQ (s₁.setTop (mkF m 1 #[.val (.int p0), .val (.int p1), .unset, .unset] [(.int p1)]))
  refine Ends.step (fun _ k => XT.iconstV X0.here hx rfl (3 : Int32) (hb hby at_1) rfl k) ?_
  show Ends p e below QQ (s₁.setTop (mkF m 2 #[.val (.int p0), .val (.int p1), .unset, .unset] [(.int (3 : Int32)), (.int p1)]))
  refine Ends.step (fun _ k => XS.iand X0.here hx rfl (hb hby at_2) rfl k) ?_
  show Ends p e below QQ (s₁.setTop (mkF m 3 #[.val (.int p0), .val (.int p1), .unset, .unset] [(.int (p1 &&& (3 : Int32)))]))
  refine Ends.step (fun _ k => XS.istoreN X0.here hx rfl (hb hby at_3) rfl (l' := #[.val (.int p0), .val (.int p1), .val (.int (p1 &&& (3 : Int32))), .unset]) rfl k) ?_
  show Ends p e below QQ (s₁.setTop (mkF m 4 #[.val (.int p0), .val (.int p1), .val (.int (p1 &&& (3 : Int32))), .unset] []))
  refine Ends.step (fun _ k => XS.iloadN X0.here hx rfl (hb hby at_4) rfl k) ?_
  show Ends p e below QQ (s₁.setTop (mkF m 5 #[.val (.int p0), .val (.int p1), .val (.int (p1 &&& (3 : Int32))), .unset] [(.int (p1 &&& (3 : Int32)))]))
  have J48_37 : (∀ (v48_1 : Int32) (hv48_1 : v48_1 = (if (p1 &&& (3 : Int32)) = (0 : Int32) then (p0 &&& (127 : Int32)) else (if (p1 &&& (3 : Int32)) = (1 : Int32) then (p0 &&& (255 : Int32)) else (if (p1 &&& (3 : Int32)) = (2 : Int32) then (p0 &&& (1114111 : Int32)) else (p0 &&& (2147483647 : Int32)))))), Ends p e below QQ (s₁.setTop (mkF m 48 #[.val (.int p0), .val (.int p1), .val (.int (p1 &&& (3 : Int32))), .val (.int v48_1)] []))) → Ends p e below QQ (s₁.setTop (mkF m 5 #[.val (.int p0), .val (.int p1), .val (.int (p1 &&& (3 : Int32))), .unset] [(.int (p1 &&& (3 : Int32)))])) := by
    intro hJ
    by_cases hc5_38 : (p1 &&& (3 : Int32)) = (0 : Int32)
    · refine Ends.step (fun _ k => XS.ifNo X0.here hx rfl (hb hby at_5) rfl (XT.i0_ne_f hc5_38) k) ?_
      show Ends p e below QQ (s₁.setTop (mkF m 8 #[.val (.int p0), .val (.int p1), .val (.int (p1 &&& (3 : Int32))), .unset] []))
      refine Ends.step (fun _ k => XS.iloadN X0.here hx rfl (hb hby at_8) rfl k) ?_
      show Ends p e below QQ (s₁.setTop (mkF m 9 #[.val (.int p0), .val (.int p1), .val (.int (p1 &&& (3 : Int32))), .unset] [(.int p0)]))
      refine Ends.step (fun _ k => XT.bipushV X0.here hx rfl (127 : Int32) (hb hby at_9) rfl k) ?_
      show Ends p e below QQ (s₁.setTop (mkF m 11 #[.val (.int p0), .val (.int p1), .val (.int (p1 &&& (3 : Int32))), .unset] [(.int (127 : Int32)), (.int p0)]))
      refine Ends.step (fun _ k => XS.iand X0.here hx rfl (hb hby at_11) rfl k) ?_
      show Ends p e below QQ (s₁.setTop (mkF m 12 #[.val (.int p0), .val (.int p1), .val (.int (p1 &&& (3 : Int32))), .unset] [(.int (p0 &&& (127 : Int32)))]))
      refine Ends.step (fun _ k => XS.istoreN X0.here hx rfl (hb hby at_12) rfl (l' := #[.val (.int p0), .val (.int p1), .val (.int (p1 &&& (3 : Int32))), .val (.int (p0 &&& (127 : Int32)))]) rfl k) ?_
      show Ends p e below QQ (s₁.setTop (mkF m 13 #[.val (.int p0), .val (.int p1), .val (.int (p1 &&& (3 : Int32))), .val (.int (p0 &&& (127 : Int32)))] []))
      refine Ends.step (fun _ k => XS.goto X0.here hx rfl (pc0 := 13) (pc' := 48) rfl (hb hby at_13) (by decide) (by decide) k) ?_
      exact hJ _ (by simp only [if_pos hc5_38])
    · refine Ends.step (fun _ k => XS.ifYes X0.here hx rfl (pc0 := 5) (pc' := 16) rfl (hb hby at_5) rfl (XT.i0_ne_t hc5_38) (by decide) (by decide) k) ?_
      show Ends p e below QQ (s₁.setTop (mkF m 16 #[.val (.int p0), .val (.int p1), .val (.int (p1 &&& (3 : Int32))), .unset] []))
      refine Ends.step (fun _ k => XS.iloadN X0.here hx rfl (hb hby at_16) rfl k) ?_
      show Ends p e below QQ (s₁.setTop (mkF m 17 #[.val (.int p0), .val (.int p1), .val (.int (p1 &&& (3 : Int32))), .unset] [(.int (p1 &&& (3 : Int32)))]))
      refine Ends.step (fun _ k => XT.iconstV X0.here hx rfl (1 : Int32) (hb hby at_17) rfl k) ?_
      show Ends p e below QQ (s₁.setTop (mkF m 18 #[.val (.int p0), .val (.int p1), .val (.int (p1 &&& (3 : Int32))), .unset] [(.int (1 : Int32)), (.int (p1 &&& (3 : Int32)))]))
      by_cases hc18_39 : (p1 &&& (3 : Int32)) = (1 : Int32)
      · refine Ends.step (fun _ k => XS.icmpNo X0.here hx rfl (hb hby at_18) rfl (XT.ii_ne_f hc18_39) k) ?_
        show Ends p e below QQ (s₁.setTop (mkF m 21 #[.val (.int p0), .val (.int p1), .val (.int (p1 &&& (3 : Int32))), .unset] []))
        refine Ends.step (fun _ k => XS.iloadN X0.here hx rfl (hb hby at_21) rfl k) ?_
        show Ends p e below QQ (s₁.setTop (mkF m 22 #[.val (.int p0), .val (.int p1), .val (.int (p1 &&& (3 : Int32))), .unset] [(.int p0)]))
        refine Ends.step (fun _ k => XT.sipushV X0.here hx rfl (255 : Int32) (hb hby at_22) rfl k) ?_
        show Ends p e below QQ (s₁.setTop (mkF m 25 #[.val (.int p0), .val (.int p1), .val (.int (p1 &&& (3 : Int32))), .unset] [(.int (255 : Int32)), (.int p0)]))
        refine Ends.step (fun _ k => XS.iand X0.here hx rfl (hb hby at_25) rfl k) ?_
        show Ends p e below QQ (s₁.setTop (mkF m 26 #[.val (.int p0), .val (.int p1), .val (.int (p1 &&& (3 : Int32))), .unset] [(.int (p0 &&& (255 : Int32)))]))
        refine Ends.step (fun _ k => XS.istoreN X0.here hx rfl (hb hby at_26) rfl (l' := #[.val (.int p0), .val (.int p1), .val (.int (p1 &&& (3 : Int32))), .val (.int (p0 &&& (255 : Int32)))]) rfl k) ?_
        show Ends p e below QQ (s₁.setTop (mkF m 27 #[.val (.int p0), .val (.int p1), .val (.int (p1 &&& (3 : Int32))), .val (.int (p0 &&& (255 : Int32)))] []))
        refine Ends.step (fun _ k => XS.goto X0.here hx rfl (pc0 := 27) (pc' := 48) rfl (hb hby at_27) (by decide) (by decide) k) ?_
        exact hJ _ (by simp only [if_neg hc5_38, if_pos hc18_39])
      · refine Ends.step (fun _ k => XS.icmpYes X0.here hx rfl (pc0 := 18) (pc' := 30) rfl (hb hby at_18) rfl (XT.ii_ne_t hc18_39) (by decide) (by decide) k) ?_
        show Ends p e below QQ (s₁.setTop (mkF m 30 #[.val (.int p0), .val (.int p1), .val (.int (p1 &&& (3 : Int32))), .unset] []))
        refine Ends.step (fun _ k => XS.iloadN X0.here hx rfl (hb hby at_30) rfl k) ?_
        show Ends p e below QQ (s₁.setTop (mkF m 31 #[.val (.int p0), .val (.int p1), .val (.int (p1 &&& (3 : Int32))), .unset] [(.int (p1 &&& (3 : Int32)))]))
        refine Ends.step (fun _ k => XT.iconstV X0.here hx rfl (2 : Int32) (hb hby at_31) rfl k) ?_
        show Ends p e below QQ (s₁.setTop (mkF m 32 #[.val (.int p0), .val (.int p1), .val (.int (p1 &&& (3 : Int32))), .unset] [(.int (2 : Int32)), (.int (p1 &&& (3 : Int32)))]))
        by_cases hc32_40 : (p1 &&& (3 : Int32)) = (2 : Int32)
        · refine Ends.step (fun _ k => XS.icmpNo X0.here hx rfl (hb hby at_32) rfl (XT.ii_ne_f hc32_40) k) ?_
          show Ends p e below QQ (s₁.setTop (mkF m 35 #[.val (.int p0), .val (.int p1), .val (.int (p1 &&& (3 : Int32))), .unset] []))
          refine Ends.step (fun _ k => XS.iloadN X0.here hx rfl (hb hby at_35) rfl k) ?_
          show Ends p e below QQ (s₁.setTop (mkF m 36 #[.val (.int p0), .val (.int p1), .val (.int (p1 &&& (3 : Int32))), .unset] [(.int p0)]))
          refine Ends.step (fun _ k => X0.ldcI hx hown (mvT hZ (hw _ (List.mem_of_getElem? (i := 11) rfl))) (g := (mkF m 36 #[.val (.int p0), .val (.int p1), .val (.int (p1 &&& (3 : Int32))), .unset] [(.int p0)])) rfl (hb hby at_36) k) ?_
          show Ends p e below QQ (s₁.setTop (mkF m 38 #[.val (.int p0), .val (.int p1), .val (.int (p1 &&& (3 : Int32))), .unset] [(.int (1114111 : Int32)), (.int p0)]))
          refine Ends.step (fun _ k => XS.iand X0.here hx rfl (hb hby at_38) rfl k) ?_
          show Ends p e below QQ (s₁.setTop (mkF m 39 #[.val (.int p0), .val (.int p1), .val (.int (p1 &&& (3 : Int32))), .unset] [(.int (p0 &&& (1114111 : Int32)))]))
          refine Ends.step (fun _ k => XS.istoreN X0.here hx rfl (hb hby at_39) rfl (l' := #[.val (.int p0), .val (.int p1), .val (.int (p1 &&& (3 : Int32))), .val (.int (p0 &&& (1114111 : Int32)))]) rfl k) ?_
          show Ends p e below QQ (s₁.setTop (mkF m 40 #[.val (.int p0), .val (.int p1), .val (.int (p1 &&& (3 : Int32))), .val (.int (p0 &&& (1114111 : Int32)))] []))
          refine Ends.step (fun _ k => XS.goto X0.here hx rfl (pc0 := 40) (pc' := 48) rfl (hb hby at_40) (by decide) (by decide) k) ?_
          exact hJ _ (by simp only [if_neg hc5_38, if_neg hc18_39, if_pos hc32_40])
        · refine Ends.step (fun _ k => XS.icmpYes X0.here hx rfl (pc0 := 32) (pc' := 43) rfl (hb hby at_32) rfl (XT.ii_ne_t hc32_40) (by decide) (by decide) k) ?_
          show Ends p e below QQ (s₁.setTop (mkF m 43 #[.val (.int p0), .val (.int p1), .val (.int (p1 &&& (3 : Int32))), .unset] []))
          refine Ends.step (fun _ k => XS.iloadN X0.here hx rfl (hb hby at_43) rfl k) ?_
          show Ends p e below QQ (s₁.setTop (mkF m 44 #[.val (.int p0), .val (.int p1), .val (.int (p1 &&& (3 : Int32))), .unset] [(.int p0)]))
          refine Ends.step (fun _ k => X0.ldcI hx hown (mvT hZ (hw _ (List.mem_of_getElem? (i := 0) rfl))) (g := (mkF m 44 #[.val (.int p0), .val (.int p1), .val (.int (p1 &&& (3 : Int32))), .unset] [(.int p0)])) rfl (hb hby at_44) k) ?_
          show Ends p e below QQ (s₁.setTop (mkF m 46 #[.val (.int p0), .val (.int p1), .val (.int (p1 &&& (3 : Int32))), .unset] [(.int (2147483647 : Int32)), (.int p0)]))
          refine Ends.step (fun _ k => XS.iand X0.here hx rfl (hb hby at_46) rfl k) ?_
          show Ends p e below QQ (s₁.setTop (mkF m 47 #[.val (.int p0), .val (.int p1), .val (.int (p1 &&& (3 : Int32))), .unset] [(.int (p0 &&& (2147483647 : Int32)))]))
          refine Ends.step (fun _ k => XS.istoreN X0.here hx rfl (hb hby at_47) rfl (l' := #[.val (.int p0), .val (.int p1), .val (.int (p1 &&& (3 : Int32))), .val (.int (p0 &&& (2147483647 : Int32)))]) rfl k) ?_
          exact hJ _ (by simp only [if_neg hc5_38, if_neg hc18_39, if_neg hc32_40])
  refine J48_37 fun v48_1 hv48_1 => ?_
  have dv48_1 : f0_v48_1 p0 p1 = v48_1 := by
    simp only [f0_v48_1]
    exact hv48_1.symm
  show Ends p e below QQ (s₁.setTop (mkF m 48 #[.val (.int p0), .val (.int p1), .val (.int (p1 &&& (3 : Int32))), .val (.int v48_1)] []))
  refine Ends.step (fun _ k => XS.iloadN X0.here hx rfl (hb hby at_48) rfl k) ?_
  show Ends p e below QQ (s₁.setTop (mkF m 49 #[.val (.int p0), .val (.int p1), .val (.int (p1 &&& (3 : Int32))), .val (.int v48_1)] [(.int v48_1)]))
  obtain ⟨_, _, ⟨T41, L41, k41, n41⟩, -, X41, ⟨Lc41, hQ41, l41, y41, z41⟩, st41⟩ := Jvm.LawKit.callS X0 hx (y := (⟨"com/example/gatehook/gatehook/http/Syntax", "isTargetCharacter", "(I)Z"⟩ : MethodName)) hown (mvT hZ (hw _ (List.mem_of_getElem? (i := 1) rfl))) (mvT hZ (hw _ (List.mem_of_getElem? (i := 2) rfl))) (mvT hZ (hw _ (List.mem_of_getElem? (i := 3) rfl))) (mvT hZ (hw _ (List.mem_of_getElem? (i := 4) rfl))) (by decide) (backOf (W := 0) (rm1 l Z a0 hw [] v48_1 a_IN_TARGET k_a_IN_TARGET [(.int (0 : Int32)), (.int (0 : Int32)), (.int (0 : Int32)), (.int (0 : Int32)), (.int (0 : Int32)), (.int (0 : Int32)), (.int (0 : Int32)), (.int (0 : Int32)), (.int (0 : Int32)), (.int (0 : Int32)), (.int (0 : Int32)), (.int (0 : Int32)), (.int (0 : Int32)), (.int (0 : Int32)), (.int (0 : Int32)), (.int (0 : Int32)), (.int (0 : Int32)), (.int (0 : Int32)), (.int (0 : Int32)), (.int (0 : Int32)), (.int (0 : Int32)), (.int (0 : Int32)), (.int (0 : Int32)), (.int (0 : Int32)), (.int (0 : Int32)), (.int (0 : Int32)), (.int (0 : Int32)), (.int (0 : Int32)), (.int (0 : Int32)), (.int (0 : Int32)), (.int (0 : Int32)), (.int (0 : Int32)), (.int (0 : Int32)), (.int (1 : Int32)), (.int (0 : Int32)), (.int (0 : Int32)), (.int (1 : Int32)), (.int (0 : Int32)), (.int (1 : Int32)), (.int (1 : Int32)), (.int (1 : Int32)), (.int (1 : Int32)), (.int (1 : Int32)), (.int (1 : Int32)), (.int (1 : Int32)), (.int (1 : Int32)), (.int (1 : Int32)), (.int (1 : Int32)), (.int (1 : Int32)), (.int (1 : Int32)), (.int (1 : Int32)), (.int (1 : Int32)), (.int (1 : Int32)), (.int (1 : Int32)), (.int (1 : Int32)), (.int (1 : Int32)), (.int (1 : Int32)), (.int (1 : Int32)), (.int (1 : Int32)), (.int (1 : Int32)), (.int (0 : Int32)), (.int (1 : Int32)), (.int (0 : Int32)), (.int (1 : Int32)), (.int (1 : Int32)), (.int (1 : Int32)), (.int (1 : Int32)), (.int (1 : Int32)), (.int (1 : Int32)), (.int (1 : Int32)), (.int (1 : Int32)), (.int (1 : Int32)), (.int (1 : Int32)), (.int (1 : Int32)), (.int (1 : Int32)), (.int (1 : Int32)), (.int (1 : Int32)), (.int (1 : Int32)), (.int (1 : Int32)), (.int (1 : Int32)), (.int (1 : Int32)), (.int (1 : Int32)), (.int (1 : Int32)), (.int (1 : Int32)), (.int (1 : Int32)), (.int (1 : Int32)), (.int (1 : Int32)), (.int (1 : Int32)), (.int (1 : Int32)), (.int (1 : Int32)), (.int (1 : Int32)), (.int (0 : Int32)), (.int (0 : Int32)), (.int (0 : Int32)), (.int (0 : Int32)), (.int (1 : Int32)), (.int (0 : Int32)), (.int (1 : Int32)), (.int (1 : Int32)), (.int (1 : Int32)), (.int (1 : Int32)), (.int (1 : Int32)), (.int (1 : Int32)), (.int (1 : Int32)), (.int (1 : Int32)), (.int (1 : Int32)), (.int (1 : Int32)), (.int (1 : Int32)), (.int (1 : Int32)), (.int (1 : Int32)), (.int (1 : Int32)), (.int (1 : Int32)), (.int (1 : Int32)), (.int (1 : Int32)), (.int (1 : Int32)), (.int (1 : Int32)), (.int (1 : Int32)), (.int (1 : Int32)), (.int (1 : Int32)), (.int (1 : Int32)), (.int (1 : Int32)), (.int (1 : Int32)), (.int (1 : Int32)), (.int (0 : Int32)), (.int (0 : Int32)), (.int (0 : Int32)), (.int (1 : Int32)), (.int (0 : Int32))] (f2 v48_1) h0 n0 (Nat.le_trans Z0 (Keep.refl h0 []).1) S_IN_TARGET A_a_IN_TARGET (by subst_vars; exact own_ge _ _) (own_hb _ (by subst_vars; exact own_ge _ _))) hZ (hw _ (List.mem_of_getElem? (i := 4) rfl)) (hw _ (List.mem_of_getElem? (i := 3) rfl)) (by decide) (by decide)) (g := (mkF m 49 #[.val (.int p0), .val (.int p1), .val (.int (p1 &&& (3 : Int32))), .val (.int v48_1)] [(.int v48_1)])) rfl (by rw [hml]; rfl) (argsL := [(.int v48_1)]) (rest := []) (lenOf pd_0 rfl) rfl (by show 2 * 0 + _ ≤ _; exact Nat.le_of_eq rfl) (hb hby at_49) (fun _ _ => ⟨rfl, e0, (by decide : 0 + 0 ≤ _), (by decide : 0 + 0 ≤ _)⟩)
  dsimp only [Pt.U, Pt.locs, Pt.cells, Pt.slots] at X41 l41 y41 z41 st41 hQ41
  subst l41 y41 z41
  obtain ⟨rfl, Nq41, hh41⟩ := hQ41
  have N41 := Fr.app N0 Nq41
  refine Ends.step st41 ?_
  show Ends p e below QQ (T41.setTop (mkF m 52 #[.val (.int p0), .val (.int p1), .val (.int (p1 &&& (3 : Int32))), .val (.int v48_1)] [(.int (f1 v48_1 (f2 v48_1)))]))
  refine Ends.step (fun _ k => XS.iloadN X41.here hx rfl (hb hby at_52) rfl k) ?_
  show Ends p e below QQ (T41.setTop (mkF m 53 #[.val (.int p0), .val (.int p1), .val (.int (p1 &&& (3 : Int32))), .val (.int v48_1)] [(.int v48_1), (.int (f1 v48_1 (f2 v48_1)))]))
  obtain ⟨_, _, ⟨T42, L42, k42, n42⟩, -, X42, ⟨Lc42, hQ42, l42, y42, z42⟩, st42⟩ := Jvm.LawKit.callS X41 hx (y := (⟨"com/example/gatehook/gatehook/http/SyntaxIsTargetCharacterPinLaw", "expected", "(I)Z"⟩ : MethodName)) hown (mvT hZ (hw _ (List.mem_of_getElem? (i := 7) rfl))) (mvT hZ (hw _ (List.mem_of_getElem? (i := 8) rfl))) (mvT hZ (hw _ (List.mem_of_getElem? (i := 9) rfl))) (mvT hZ (hw _ (List.mem_of_getElem? (i := 10) rfl))) (by decide) (backOf (W := 1) (rm2 l Z a0 hw [] v48_1 h0 n0 (Nat.le_trans Z0 (Keep.refl h0 []).1)) hZ (hw _ (List.mem_of_getElem? (i := 10) rfl)) (hw _ (List.mem_of_getElem? (i := 9) rfl)) (by decide) (by decide)) (g := (mkF m 53 #[.val (.int p0), .val (.int p1), .val (.int (p1 &&& (3 : Int32))), .val (.int v48_1)] [(.int v48_1), (.int (f1 v48_1 (f2 v48_1)))])) rfl (by rw [hml]; rfl) (argsL := [(.int v48_1)]) (rest := [(.int (f1 v48_1 (f2 v48_1)))]) (lenOf pd_0 rfl) rfl (by show 2 * 0 + _ ≤ _; exact Nat.le_of_eq rfl) (hb hby at_53) (fun _ _ => ⟨rfl, hh41, (by decide : 0 + 0 ≤ _), (by decide : 0 + 0 ≤ _)⟩)
  dsimp only [Pt.U, Pt.locs, Pt.cells, Pt.slots] at X42 l42 y42 z42 st42 hQ42
  subst l42 y42 z42
  obtain ⟨rfl, Nq42, hh42⟩ := hQ42
  have N42 := Fr.app N41 Nq42
  refine Ends.step st42 ?_
  show Ends p e below QQ (T42.setTop (mkF m 56 #[.val (.int p0), .val (.int p1), .val (.int (p1 &&& (3 : Int32))), .val (.int v48_1)] [(.int (f2 v48_1)), (.int (f1 v48_1 (f2 v48_1)))]))
  have J64_43 : (∀ (v64_2 : Int32) (hv64_2 : v64_2 = (if (f1 v48_1 (f2 v48_1)) = (f2 v48_1) then (1 : Int32) else (0 : Int32))), Ends p e below QQ (T42.setTop (mkF m 64 #[.val (.int p0), .val (.int p1), .val (.int (p1 &&& (3 : Int32))), .val (.int v48_1)] [(.int v64_2)]))) → Ends p e below QQ (T42.setTop (mkF m 56 #[.val (.int p0), .val (.int p1), .val (.int (p1 &&& (3 : Int32))), .val (.int v48_1)] [(.int (f2 v48_1)), (.int (f1 v48_1 (f2 v48_1)))])) := by
    intro hJ
    by_cases hc56_44 : (f1 v48_1 (f2 v48_1)) = (f2 v48_1)
    · refine Ends.step (fun _ k => XS.icmpNo X42.here hx rfl (hb hby at_56) rfl (XT.ii_ne_f hc56_44) k) ?_
      show Ends p e below QQ (T42.setTop (mkF m 59 #[.val (.int p0), .val (.int p1), .val (.int (p1 &&& (3 : Int32))), .val (.int v48_1)] []))
      refine Ends.step (fun _ k => XT.iconstV X42.here hx rfl (1 : Int32) (hb hby at_59) rfl k) ?_
      show Ends p e below QQ (T42.setTop (mkF m 60 #[.val (.int p0), .val (.int p1), .val (.int (p1 &&& (3 : Int32))), .val (.int v48_1)] [(.int (1 : Int32))]))
      refine Ends.step (fun _ k => XS.goto X42.here hx rfl (pc0 := 60) (pc' := 64) rfl (hb hby at_60) (by decide) (by decide) k) ?_
      exact hJ _ (by simp only [if_pos hc56_44])
    · refine Ends.step (fun _ k => XS.icmpYes X42.here hx rfl (pc0 := 56) (pc' := 63) rfl (hb hby at_56) rfl (XT.ii_ne_t hc56_44) (by decide) (by decide) k) ?_
      show Ends p e below QQ (T42.setTop (mkF m 63 #[.val (.int p0), .val (.int p1), .val (.int (p1 &&& (3 : Int32))), .val (.int v48_1)] []))
      refine Ends.step (fun _ k => XT.iconstV X42.here hx rfl (0 : Int32) (hb hby at_63) rfl k) ?_
      exact hJ _ (by simp only [if_neg hc56_44])
  refine J64_43 fun v64_2 hv64_2 => ?_
  have dv64_2 : f0_v64_2 p0 p1 = v64_2 := by
    simp only [f0_v64_2, dv48_1]
    exact hv64_2.symm
  show Ends p e below QQ (T42.setTop (mkF m 64 #[.val (.int p0), .val (.int p1), .val (.int (p1 &&& (3 : Int32))), .val (.int v48_1)] [(.int v64_2)]))
  exact Ends.fin (some (.int v64_2)) X42 hQQ (fun h => by rw [Bd.returns] at h; cases h) Bd.notSynchronized (fun _ hr => retOut X42 hx (t := .boolean) Bd.returns (by rw [hv64_2]; exact own_narB (by repeat' (first | exact Or.inl rfl | exact Or.inr rfl | apply own_01))) (Or.inl ⟨rfl, (by simp), _, rfl⟩) (hb hby at_64) hr) hh42 (by decide) (by decide) ⟨(by simp only [f0, dv48_1, dv64_2]), N42, (Keep.refl h0 [])⟩
theorem own_big (c : Int32) (h : ¬ c < (128 : Int32)) : f2 c = 0 := by
  have q : ∀ k : Int32, k < 128 → ¬ c = k := fun k hk e => h (e ▸ hk)
  have q2 : ∀ k : Int32, k < 128 → ¬ c < k := fun k hk e => h (Int32.lt_trans e hk)
  have q3 : ∀ k : Int32, k < 128 → k < c := fun k hk => by simp only [Int32.lt_iff_toInt_lt] at *; omega
  simp only [f2, f2_L14, f2_L28, f2_L42, f2_v161_1, if_neg (q2 65 (by decide)), if_pos (q3 90 (by decide)), if_neg (q2 97 (by decide)), if_pos (q3 122 (by decide)), if_neg (q2 48 (by decide)), if_pos (q3 57 (by decide)), if_neg (q 45 (by decide)), if_neg (q 46 (by decide)), if_neg (q 95 (by decide)), if_neg (q 126 (by decide)), if_neg (q 33 (by decide)), if_neg (q 36 (by decide)), if_neg (q 38 (by decide)), if_neg (q 39 (by decide)), if_neg (q 40 (by decide)), if_neg (q 41 (by decide)), if_neg (q 42 (by decide)), if_neg (q 43 (by decide)), if_neg (q 44 (by decide)), if_neg (q 59 (by decide)), if_neg (q 61 (by decide)), if_neg (q 58 (by decide)), if_neg (q 64 (by decide)), if_neg (q 47 (by decide)), if_neg (q 63 (by decide))]
theorem own_law (a b : Int32) : f0 a b = 1 := by
  simp only [f0, f0_v64_2]
  generalize f0_v48_1 a b = c
  rw [if_pos]
  simp only [f1, f1_v21_1]
  by_cases h : c < (128 : Int32)
  · rw [if_pos h]
    rcases f2_01 c with e | e <;> rw [e] <;> rfl
  · rw [if_neg h, own_big c h]
set_option maxRecDepth 65536 in
set_option maxHeartbeats 40000000 in
theorem comes_1 {Post : Tables → Env → Array Value → State → Outcome → State → Prop} (hpost : ∀ tb e args s v u, (limb_1_1.after args s (.returned v) u = true ∧ limb_1_2.after args s (.returned v) u = true ∧ True) → FrameEnd s (.returned v) u (Jvm.fieldLocs frame_1_writes args s ++ Jvm.arrayLocs frame_1_arrays args s ++ Jvm.staticLocs frame_1_statics s) 0 0 → Post tb e args s (.returned v) u) :
    ArmFor flags0 classFile x code maxLocals ret World_1 tables_1 room_1 Calls_1 rest_1 Pre_1 Post := by
  intro l hfl _ _ p e ha hc hk s m args below hf hA hF happ hP
  obtain ⟨hcalls, hrest, hpre⟩ := hP
  obtain ⟨-, -, -, hnamed, -, -, -, hat⟩ := (Spec.applies_iff hf).mp happ
  obtain ⟨hg, hn⟩ := and_e (Cond.before_iff.mp (show (Jvm.Cond.and given_1 narrow_1).before args s = true from hpre))
  obtain ⟨gl1, gr1⟩ := and_e hg
  obtain ⟨gl2, gr2⟩ := and_e gr1
  obtain ⟨w0, w1, rfl⟩ : ∃ w0 w1 : Value, args = #[w0, w1] := by
    have hs : args.size = 2 := by simpa [Cond.value, given_1] using gl1
    obtain ⟨L⟩ := args
    match L, hs with
    | [w0, w1], _ => exact ⟨w0, w1, rfl⟩
  have hw := fun d (hd : d ∈ tables_1) => atoms_spec (ws := Jvm.Cond.code x code maxLocals ret :: tables_1) hat d (List.mem_cons_of_mem _ hd)
  have hfit : Fit s := fun {y c} hc i hi => by
    obtain ⟨ha, rfl⟩ := Array.getElem?_eq_some_iff.mp hc
    have q := List.all_eq_true.mp ((Array.all_eq_true_iff_forall_mem.mp hF) _ (Array.getElem_mem ha)) i (List.mem_range.mpr hi)
    simpa [Array.getElem?_eq_getElem hi] using q
  obtain ⟨i0, ei0⟩ := is_v gl2
  obtain rfl : w0 = (.int i0) := Option.some.inj ei0
  obtain ⟨i1, ei1⟩ := is_v gr2
  obtain rfl : w1 = (.int i1) := Option.some.inj ei1
  obtain ⟨nl1, nr1⟩ := and_e hn
  obtain ⟨nl2, nr2⟩ := and_e nr1
  obtain ⟨nl3, nr3⟩ := and_e nr2
  obtain ⟨nl4, nr4⟩ := and_e nr3
  obtain ⟨nl5, nr5⟩ := and_e nr4
  obtain ⟨nl6, nr6⟩ := and_e nr5
  obtain ⟨nl7, nr7⟩ := and_e nr6
  obtain ⟨nl8, nr8⟩ := and_e nr7
  obtain ⟨nl9, nr9⟩ := and_e nr8
  obtain ⟨nl10, nr10⟩ := and_e nr9
  obtain ⟨nl11, nr11⟩ := and_e nr10
  obtain ⟨nl12, nr12⟩ := and_e nr11
  obtain ⟨nl13, nr13⟩ := and_e nr12
  obtain ⟨nl14, nr14⟩ := and_e nr13
  obtain ⟨nl15, nr15⟩ := and_e nr14
  obtain ⟨nl16, nr16⟩ := and_e nr15
  obtain ⟨nl17, nr17⟩ := and_e nr16
  obtain ⟨nl18, nr18⟩ := and_e nr17
  obtain ⟨nl19, nr19⟩ := and_e nr18
  obtain ⟨nl20, nr20⟩ := and_e nr19
  obtain ⟨nl21, nr21⟩ := and_e nr20
  obtain ⟨a_IN_TARGET, ev_a_IN_TARGET⟩ := arr_v nl1
  obtain ⟨cl_a_IN_TARGET, Ar_a_IN_TARGET⟩ := Arr.start ev_a_IN_TARGET nl1
  obtain ⟨lt_a_IN_TARGET, sz_a_IN_TARGET⟩ := own_len nl2 ev_a_IN_TARGET Ar_a_IN_TARGET
  have at_a_IN_TARGET_33 : cl_a_IN_TARGET.slots[(33 : Int32).toNatClampNeg]? = some (.int (1 : Int32)) := own_elem nl4 ev_a_IN_TARGET Ar_a_IN_TARGET (rfl)
  have at_a_IN_TARGET_34 : cl_a_IN_TARGET.slots[(34 : Int32).toNatClampNeg]? = some (.int (0 : Int32)) := own_elem nl5 ev_a_IN_TARGET Ar_a_IN_TARGET (rfl)
  have at_a_IN_TARGET_35 : cl_a_IN_TARGET.slots[(35 : Int32).toNatClampNeg]? = some (.int (0 : Int32)) := own_elem nl6 ev_a_IN_TARGET Ar_a_IN_TARGET (rfl)
  have at_a_IN_TARGET_36 : cl_a_IN_TARGET.slots[(36 : Int32).toNatClampNeg]? = some (.int (1 : Int32)) := own_elem nl7 ev_a_IN_TARGET Ar_a_IN_TARGET (rfl)
  have at_a_IN_TARGET_37 : cl_a_IN_TARGET.slots[(37 : Int32).toNatClampNeg]? = some (.int (0 : Int32)) := own_elem nl8 ev_a_IN_TARGET Ar_a_IN_TARGET (rfl)
  have at_a_IN_TARGET_60 : cl_a_IN_TARGET.slots[(60 : Int32).toNatClampNeg]? = some (.int (0 : Int32)) := own_elem nl10 ev_a_IN_TARGET Ar_a_IN_TARGET (rfl)
  have at_a_IN_TARGET_61 : cl_a_IN_TARGET.slots[(61 : Int32).toNatClampNeg]? = some (.int (1 : Int32)) := own_elem nl11 ev_a_IN_TARGET Ar_a_IN_TARGET (rfl)
  have at_a_IN_TARGET_62 : cl_a_IN_TARGET.slots[(62 : Int32).toNatClampNeg]? = some (.int (0 : Int32)) := own_elem nl12 ev_a_IN_TARGET Ar_a_IN_TARGET (rfl)
  have at_a_IN_TARGET_95 : cl_a_IN_TARGET.slots[(95 : Int32).toNatClampNeg]? = some (.int (1 : Int32)) := own_elem nl15 ev_a_IN_TARGET Ar_a_IN_TARGET (rfl)
  have at_a_IN_TARGET_96 : cl_a_IN_TARGET.slots[(96 : Int32).toNatClampNeg]? = some (.int (0 : Int32)) := own_elem nl16 ev_a_IN_TARGET Ar_a_IN_TARGET (rfl)
  have at_a_IN_TARGET_123 : cl_a_IN_TARGET.slots[(123 : Int32).toNatClampNeg]? = some (.int (0 : Int32)) := own_elem nl18 ev_a_IN_TARGET Ar_a_IN_TARGET (rfl)
  have at_a_IN_TARGET_124 : cl_a_IN_TARGET.slots[(124 : Int32).toNatClampNeg]? = some (.int (0 : Int32)) := own_elem nl19 ev_a_IN_TARGET Ar_a_IN_TARGET (rfl)
  have at_a_IN_TARGET_125 : cl_a_IN_TARGET.slots[(125 : Int32).toNatClampNeg]? = some (.int (0 : Int32)) := own_elem nl20 ev_a_IN_TARGET Ar_a_IN_TARGET (rfl)
  have at_a_IN_TARGET_126 : cl_a_IN_TARGET.slots[(126 : Int32).toNatClampNeg]? = some (.int (1 : Int32)) := own_elem nl21 ev_a_IN_TARGET Ar_a_IN_TARGET (rfl)
  have at_a_IN_TARGET_127 : cl_a_IN_TARGET.slots[(127 : Int32).toNatClampNeg]? = some (.int (0 : Int32)) := own_elem nr21 ev_a_IN_TARGET Ar_a_IN_TARGET (rfl)
  have al_a_IN_TARGET_nl3 := own_allH nl3 (fun idx => own_idx ev_a_IN_TARGET) Ar_a_IN_TARGET lt_a_IN_TARGET
  have at_a_IN_TARGET_0 : cl_a_IN_TARGET.slots[(0 : Int32).toNatClampNeg]? = some (.int (0 : Int32)) := al_a_IN_TARGET_nl3 0 (own_lt sz_a_IN_TARGET lt_a_IN_TARGET (by decide)) (by decide)
  have at_a_IN_TARGET_1 : cl_a_IN_TARGET.slots[(1 : Int32).toNatClampNeg]? = some (.int (0 : Int32)) := al_a_IN_TARGET_nl3 1 (own_lt sz_a_IN_TARGET lt_a_IN_TARGET (by decide)) (by decide)
  have at_a_IN_TARGET_2 : cl_a_IN_TARGET.slots[(2 : Int32).toNatClampNeg]? = some (.int (0 : Int32)) := al_a_IN_TARGET_nl3 2 (own_lt sz_a_IN_TARGET lt_a_IN_TARGET (by decide)) (by decide)
  have at_a_IN_TARGET_3 : cl_a_IN_TARGET.slots[(3 : Int32).toNatClampNeg]? = some (.int (0 : Int32)) := al_a_IN_TARGET_nl3 3 (own_lt sz_a_IN_TARGET lt_a_IN_TARGET (by decide)) (by decide)
  have at_a_IN_TARGET_4 : cl_a_IN_TARGET.slots[(4 : Int32).toNatClampNeg]? = some (.int (0 : Int32)) := al_a_IN_TARGET_nl3 4 (own_lt sz_a_IN_TARGET lt_a_IN_TARGET (by decide)) (by decide)
  have at_a_IN_TARGET_5 : cl_a_IN_TARGET.slots[(5 : Int32).toNatClampNeg]? = some (.int (0 : Int32)) := al_a_IN_TARGET_nl3 5 (own_lt sz_a_IN_TARGET lt_a_IN_TARGET (by decide)) (by decide)
  have at_a_IN_TARGET_6 : cl_a_IN_TARGET.slots[(6 : Int32).toNatClampNeg]? = some (.int (0 : Int32)) := al_a_IN_TARGET_nl3 6 (own_lt sz_a_IN_TARGET lt_a_IN_TARGET (by decide)) (by decide)
  have at_a_IN_TARGET_7 : cl_a_IN_TARGET.slots[(7 : Int32).toNatClampNeg]? = some (.int (0 : Int32)) := al_a_IN_TARGET_nl3 7 (own_lt sz_a_IN_TARGET lt_a_IN_TARGET (by decide)) (by decide)
  have at_a_IN_TARGET_8 : cl_a_IN_TARGET.slots[(8 : Int32).toNatClampNeg]? = some (.int (0 : Int32)) := al_a_IN_TARGET_nl3 8 (own_lt sz_a_IN_TARGET lt_a_IN_TARGET (by decide)) (by decide)
  have at_a_IN_TARGET_9 : cl_a_IN_TARGET.slots[(9 : Int32).toNatClampNeg]? = some (.int (0 : Int32)) := al_a_IN_TARGET_nl3 9 (own_lt sz_a_IN_TARGET lt_a_IN_TARGET (by decide)) (by decide)
  have at_a_IN_TARGET_10 : cl_a_IN_TARGET.slots[(10 : Int32).toNatClampNeg]? = some (.int (0 : Int32)) := al_a_IN_TARGET_nl3 10 (own_lt sz_a_IN_TARGET lt_a_IN_TARGET (by decide)) (by decide)
  have at_a_IN_TARGET_11 : cl_a_IN_TARGET.slots[(11 : Int32).toNatClampNeg]? = some (.int (0 : Int32)) := al_a_IN_TARGET_nl3 11 (own_lt sz_a_IN_TARGET lt_a_IN_TARGET (by decide)) (by decide)
  have at_a_IN_TARGET_12 : cl_a_IN_TARGET.slots[(12 : Int32).toNatClampNeg]? = some (.int (0 : Int32)) := al_a_IN_TARGET_nl3 12 (own_lt sz_a_IN_TARGET lt_a_IN_TARGET (by decide)) (by decide)
  have at_a_IN_TARGET_13 : cl_a_IN_TARGET.slots[(13 : Int32).toNatClampNeg]? = some (.int (0 : Int32)) := al_a_IN_TARGET_nl3 13 (own_lt sz_a_IN_TARGET lt_a_IN_TARGET (by decide)) (by decide)
  have at_a_IN_TARGET_14 : cl_a_IN_TARGET.slots[(14 : Int32).toNatClampNeg]? = some (.int (0 : Int32)) := al_a_IN_TARGET_nl3 14 (own_lt sz_a_IN_TARGET lt_a_IN_TARGET (by decide)) (by decide)
  have at_a_IN_TARGET_15 : cl_a_IN_TARGET.slots[(15 : Int32).toNatClampNeg]? = some (.int (0 : Int32)) := al_a_IN_TARGET_nl3 15 (own_lt sz_a_IN_TARGET lt_a_IN_TARGET (by decide)) (by decide)
  have at_a_IN_TARGET_16 : cl_a_IN_TARGET.slots[(16 : Int32).toNatClampNeg]? = some (.int (0 : Int32)) := al_a_IN_TARGET_nl3 16 (own_lt sz_a_IN_TARGET lt_a_IN_TARGET (by decide)) (by decide)
  have at_a_IN_TARGET_17 : cl_a_IN_TARGET.slots[(17 : Int32).toNatClampNeg]? = some (.int (0 : Int32)) := al_a_IN_TARGET_nl3 17 (own_lt sz_a_IN_TARGET lt_a_IN_TARGET (by decide)) (by decide)
  have at_a_IN_TARGET_18 : cl_a_IN_TARGET.slots[(18 : Int32).toNatClampNeg]? = some (.int (0 : Int32)) := al_a_IN_TARGET_nl3 18 (own_lt sz_a_IN_TARGET lt_a_IN_TARGET (by decide)) (by decide)
  have at_a_IN_TARGET_19 : cl_a_IN_TARGET.slots[(19 : Int32).toNatClampNeg]? = some (.int (0 : Int32)) := al_a_IN_TARGET_nl3 19 (own_lt sz_a_IN_TARGET lt_a_IN_TARGET (by decide)) (by decide)
  have at_a_IN_TARGET_20 : cl_a_IN_TARGET.slots[(20 : Int32).toNatClampNeg]? = some (.int (0 : Int32)) := al_a_IN_TARGET_nl3 20 (own_lt sz_a_IN_TARGET lt_a_IN_TARGET (by decide)) (by decide)
  have at_a_IN_TARGET_21 : cl_a_IN_TARGET.slots[(21 : Int32).toNatClampNeg]? = some (.int (0 : Int32)) := al_a_IN_TARGET_nl3 21 (own_lt sz_a_IN_TARGET lt_a_IN_TARGET (by decide)) (by decide)
  have at_a_IN_TARGET_22 : cl_a_IN_TARGET.slots[(22 : Int32).toNatClampNeg]? = some (.int (0 : Int32)) := al_a_IN_TARGET_nl3 22 (own_lt sz_a_IN_TARGET lt_a_IN_TARGET (by decide)) (by decide)
  have at_a_IN_TARGET_23 : cl_a_IN_TARGET.slots[(23 : Int32).toNatClampNeg]? = some (.int (0 : Int32)) := al_a_IN_TARGET_nl3 23 (own_lt sz_a_IN_TARGET lt_a_IN_TARGET (by decide)) (by decide)
  have at_a_IN_TARGET_24 : cl_a_IN_TARGET.slots[(24 : Int32).toNatClampNeg]? = some (.int (0 : Int32)) := al_a_IN_TARGET_nl3 24 (own_lt sz_a_IN_TARGET lt_a_IN_TARGET (by decide)) (by decide)
  have at_a_IN_TARGET_25 : cl_a_IN_TARGET.slots[(25 : Int32).toNatClampNeg]? = some (.int (0 : Int32)) := al_a_IN_TARGET_nl3 25 (own_lt sz_a_IN_TARGET lt_a_IN_TARGET (by decide)) (by decide)
  have at_a_IN_TARGET_26 : cl_a_IN_TARGET.slots[(26 : Int32).toNatClampNeg]? = some (.int (0 : Int32)) := al_a_IN_TARGET_nl3 26 (own_lt sz_a_IN_TARGET lt_a_IN_TARGET (by decide)) (by decide)
  have at_a_IN_TARGET_27 : cl_a_IN_TARGET.slots[(27 : Int32).toNatClampNeg]? = some (.int (0 : Int32)) := al_a_IN_TARGET_nl3 27 (own_lt sz_a_IN_TARGET lt_a_IN_TARGET (by decide)) (by decide)
  have at_a_IN_TARGET_28 : cl_a_IN_TARGET.slots[(28 : Int32).toNatClampNeg]? = some (.int (0 : Int32)) := al_a_IN_TARGET_nl3 28 (own_lt sz_a_IN_TARGET lt_a_IN_TARGET (by decide)) (by decide)
  have at_a_IN_TARGET_29 : cl_a_IN_TARGET.slots[(29 : Int32).toNatClampNeg]? = some (.int (0 : Int32)) := al_a_IN_TARGET_nl3 29 (own_lt sz_a_IN_TARGET lt_a_IN_TARGET (by decide)) (by decide)
  have at_a_IN_TARGET_30 : cl_a_IN_TARGET.slots[(30 : Int32).toNatClampNeg]? = some (.int (0 : Int32)) := al_a_IN_TARGET_nl3 30 (own_lt sz_a_IN_TARGET lt_a_IN_TARGET (by decide)) (by decide)
  have at_a_IN_TARGET_31 : cl_a_IN_TARGET.slots[(31 : Int32).toNatClampNeg]? = some (.int (0 : Int32)) := al_a_IN_TARGET_nl3 31 (own_lt sz_a_IN_TARGET lt_a_IN_TARGET (by decide)) (by decide)
  have at_a_IN_TARGET_32 : cl_a_IN_TARGET.slots[(32 : Int32).toNatClampNeg]? = some (.int (0 : Int32)) := al_a_IN_TARGET_nl3 32 (own_lt sz_a_IN_TARGET lt_a_IN_TARGET (by decide)) (by decide)
  have al_a_IN_TARGET_nl9 := own_all3 nl9 (fun idx => own_idx ev_a_IN_TARGET) Ar_a_IN_TARGET lt_a_IN_TARGET
  have at_a_IN_TARGET_38 : cl_a_IN_TARGET.slots[(38 : Int32).toNatClampNeg]? = some (.int (1 : Int32)) := al_a_IN_TARGET_nl9 38 (own_lt sz_a_IN_TARGET lt_a_IN_TARGET (by decide)) (by decide) (by decide)
  have at_a_IN_TARGET_39 : cl_a_IN_TARGET.slots[(39 : Int32).toNatClampNeg]? = some (.int (1 : Int32)) := al_a_IN_TARGET_nl9 39 (own_lt sz_a_IN_TARGET lt_a_IN_TARGET (by decide)) (by decide) (by decide)
  have at_a_IN_TARGET_40 : cl_a_IN_TARGET.slots[(40 : Int32).toNatClampNeg]? = some (.int (1 : Int32)) := al_a_IN_TARGET_nl9 40 (own_lt sz_a_IN_TARGET lt_a_IN_TARGET (by decide)) (by decide) (by decide)
  have at_a_IN_TARGET_41 : cl_a_IN_TARGET.slots[(41 : Int32).toNatClampNeg]? = some (.int (1 : Int32)) := al_a_IN_TARGET_nl9 41 (own_lt sz_a_IN_TARGET lt_a_IN_TARGET (by decide)) (by decide) (by decide)
  have at_a_IN_TARGET_42 : cl_a_IN_TARGET.slots[(42 : Int32).toNatClampNeg]? = some (.int (1 : Int32)) := al_a_IN_TARGET_nl9 42 (own_lt sz_a_IN_TARGET lt_a_IN_TARGET (by decide)) (by decide) (by decide)
  have at_a_IN_TARGET_43 : cl_a_IN_TARGET.slots[(43 : Int32).toNatClampNeg]? = some (.int (1 : Int32)) := al_a_IN_TARGET_nl9 43 (own_lt sz_a_IN_TARGET lt_a_IN_TARGET (by decide)) (by decide) (by decide)
  have at_a_IN_TARGET_44 : cl_a_IN_TARGET.slots[(44 : Int32).toNatClampNeg]? = some (.int (1 : Int32)) := al_a_IN_TARGET_nl9 44 (own_lt sz_a_IN_TARGET lt_a_IN_TARGET (by decide)) (by decide) (by decide)
  have at_a_IN_TARGET_45 : cl_a_IN_TARGET.slots[(45 : Int32).toNatClampNeg]? = some (.int (1 : Int32)) := al_a_IN_TARGET_nl9 45 (own_lt sz_a_IN_TARGET lt_a_IN_TARGET (by decide)) (by decide) (by decide)
  have at_a_IN_TARGET_46 : cl_a_IN_TARGET.slots[(46 : Int32).toNatClampNeg]? = some (.int (1 : Int32)) := al_a_IN_TARGET_nl9 46 (own_lt sz_a_IN_TARGET lt_a_IN_TARGET (by decide)) (by decide) (by decide)
  have at_a_IN_TARGET_47 : cl_a_IN_TARGET.slots[(47 : Int32).toNatClampNeg]? = some (.int (1 : Int32)) := al_a_IN_TARGET_nl9 47 (own_lt sz_a_IN_TARGET lt_a_IN_TARGET (by decide)) (by decide) (by decide)
  have at_a_IN_TARGET_48 : cl_a_IN_TARGET.slots[(48 : Int32).toNatClampNeg]? = some (.int (1 : Int32)) := al_a_IN_TARGET_nl9 48 (own_lt sz_a_IN_TARGET lt_a_IN_TARGET (by decide)) (by decide) (by decide)
  have at_a_IN_TARGET_49 : cl_a_IN_TARGET.slots[(49 : Int32).toNatClampNeg]? = some (.int (1 : Int32)) := al_a_IN_TARGET_nl9 49 (own_lt sz_a_IN_TARGET lt_a_IN_TARGET (by decide)) (by decide) (by decide)
  have at_a_IN_TARGET_50 : cl_a_IN_TARGET.slots[(50 : Int32).toNatClampNeg]? = some (.int (1 : Int32)) := al_a_IN_TARGET_nl9 50 (own_lt sz_a_IN_TARGET lt_a_IN_TARGET (by decide)) (by decide) (by decide)
  have at_a_IN_TARGET_51 : cl_a_IN_TARGET.slots[(51 : Int32).toNatClampNeg]? = some (.int (1 : Int32)) := al_a_IN_TARGET_nl9 51 (own_lt sz_a_IN_TARGET lt_a_IN_TARGET (by decide)) (by decide) (by decide)
  have at_a_IN_TARGET_52 : cl_a_IN_TARGET.slots[(52 : Int32).toNatClampNeg]? = some (.int (1 : Int32)) := al_a_IN_TARGET_nl9 52 (own_lt sz_a_IN_TARGET lt_a_IN_TARGET (by decide)) (by decide) (by decide)
  have at_a_IN_TARGET_53 : cl_a_IN_TARGET.slots[(53 : Int32).toNatClampNeg]? = some (.int (1 : Int32)) := al_a_IN_TARGET_nl9 53 (own_lt sz_a_IN_TARGET lt_a_IN_TARGET (by decide)) (by decide) (by decide)
  have at_a_IN_TARGET_54 : cl_a_IN_TARGET.slots[(54 : Int32).toNatClampNeg]? = some (.int (1 : Int32)) := al_a_IN_TARGET_nl9 54 (own_lt sz_a_IN_TARGET lt_a_IN_TARGET (by decide)) (by decide) (by decide)
  have at_a_IN_TARGET_55 : cl_a_IN_TARGET.slots[(55 : Int32).toNatClampNeg]? = some (.int (1 : Int32)) := al_a_IN_TARGET_nl9 55 (own_lt sz_a_IN_TARGET lt_a_IN_TARGET (by decide)) (by decide) (by decide)
  have at_a_IN_TARGET_56 : cl_a_IN_TARGET.slots[(56 : Int32).toNatClampNeg]? = some (.int (1 : Int32)) := al_a_IN_TARGET_nl9 56 (own_lt sz_a_IN_TARGET lt_a_IN_TARGET (by decide)) (by decide) (by decide)
  have at_a_IN_TARGET_57 : cl_a_IN_TARGET.slots[(57 : Int32).toNatClampNeg]? = some (.int (1 : Int32)) := al_a_IN_TARGET_nl9 57 (own_lt sz_a_IN_TARGET lt_a_IN_TARGET (by decide)) (by decide) (by decide)
  have at_a_IN_TARGET_58 : cl_a_IN_TARGET.slots[(58 : Int32).toNatClampNeg]? = some (.int (1 : Int32)) := al_a_IN_TARGET_nl9 58 (own_lt sz_a_IN_TARGET lt_a_IN_TARGET (by decide)) (by decide) (by decide)
  have at_a_IN_TARGET_59 : cl_a_IN_TARGET.slots[(59 : Int32).toNatClampNeg]? = some (.int (1 : Int32)) := al_a_IN_TARGET_nl9 59 (own_lt sz_a_IN_TARGET lt_a_IN_TARGET (by decide)) (by decide) (by decide)
  have al_a_IN_TARGET_nl13 := own_all3 nl13 (fun idx => own_idx ev_a_IN_TARGET) Ar_a_IN_TARGET lt_a_IN_TARGET
  have at_a_IN_TARGET_63 : cl_a_IN_TARGET.slots[(63 : Int32).toNatClampNeg]? = some (.int (1 : Int32)) := al_a_IN_TARGET_nl13 63 (own_lt sz_a_IN_TARGET lt_a_IN_TARGET (by decide)) (by decide) (by decide)
  have at_a_IN_TARGET_64 : cl_a_IN_TARGET.slots[(64 : Int32).toNatClampNeg]? = some (.int (1 : Int32)) := al_a_IN_TARGET_nl13 64 (own_lt sz_a_IN_TARGET lt_a_IN_TARGET (by decide)) (by decide) (by decide)
  have at_a_IN_TARGET_65 : cl_a_IN_TARGET.slots[(65 : Int32).toNatClampNeg]? = some (.int (1 : Int32)) := al_a_IN_TARGET_nl13 65 (own_lt sz_a_IN_TARGET lt_a_IN_TARGET (by decide)) (by decide) (by decide)
  have at_a_IN_TARGET_66 : cl_a_IN_TARGET.slots[(66 : Int32).toNatClampNeg]? = some (.int (1 : Int32)) := al_a_IN_TARGET_nl13 66 (own_lt sz_a_IN_TARGET lt_a_IN_TARGET (by decide)) (by decide) (by decide)
  have at_a_IN_TARGET_67 : cl_a_IN_TARGET.slots[(67 : Int32).toNatClampNeg]? = some (.int (1 : Int32)) := al_a_IN_TARGET_nl13 67 (own_lt sz_a_IN_TARGET lt_a_IN_TARGET (by decide)) (by decide) (by decide)
  have at_a_IN_TARGET_68 : cl_a_IN_TARGET.slots[(68 : Int32).toNatClampNeg]? = some (.int (1 : Int32)) := al_a_IN_TARGET_nl13 68 (own_lt sz_a_IN_TARGET lt_a_IN_TARGET (by decide)) (by decide) (by decide)
  have at_a_IN_TARGET_69 : cl_a_IN_TARGET.slots[(69 : Int32).toNatClampNeg]? = some (.int (1 : Int32)) := al_a_IN_TARGET_nl13 69 (own_lt sz_a_IN_TARGET lt_a_IN_TARGET (by decide)) (by decide) (by decide)
  have at_a_IN_TARGET_70 : cl_a_IN_TARGET.slots[(70 : Int32).toNatClampNeg]? = some (.int (1 : Int32)) := al_a_IN_TARGET_nl13 70 (own_lt sz_a_IN_TARGET lt_a_IN_TARGET (by decide)) (by decide) (by decide)
  have at_a_IN_TARGET_71 : cl_a_IN_TARGET.slots[(71 : Int32).toNatClampNeg]? = some (.int (1 : Int32)) := al_a_IN_TARGET_nl13 71 (own_lt sz_a_IN_TARGET lt_a_IN_TARGET (by decide)) (by decide) (by decide)
  have at_a_IN_TARGET_72 : cl_a_IN_TARGET.slots[(72 : Int32).toNatClampNeg]? = some (.int (1 : Int32)) := al_a_IN_TARGET_nl13 72 (own_lt sz_a_IN_TARGET lt_a_IN_TARGET (by decide)) (by decide) (by decide)
  have at_a_IN_TARGET_73 : cl_a_IN_TARGET.slots[(73 : Int32).toNatClampNeg]? = some (.int (1 : Int32)) := al_a_IN_TARGET_nl13 73 (own_lt sz_a_IN_TARGET lt_a_IN_TARGET (by decide)) (by decide) (by decide)
  have at_a_IN_TARGET_74 : cl_a_IN_TARGET.slots[(74 : Int32).toNatClampNeg]? = some (.int (1 : Int32)) := al_a_IN_TARGET_nl13 74 (own_lt sz_a_IN_TARGET lt_a_IN_TARGET (by decide)) (by decide) (by decide)
  have at_a_IN_TARGET_75 : cl_a_IN_TARGET.slots[(75 : Int32).toNatClampNeg]? = some (.int (1 : Int32)) := al_a_IN_TARGET_nl13 75 (own_lt sz_a_IN_TARGET lt_a_IN_TARGET (by decide)) (by decide) (by decide)
  have at_a_IN_TARGET_76 : cl_a_IN_TARGET.slots[(76 : Int32).toNatClampNeg]? = some (.int (1 : Int32)) := al_a_IN_TARGET_nl13 76 (own_lt sz_a_IN_TARGET lt_a_IN_TARGET (by decide)) (by decide) (by decide)
  have at_a_IN_TARGET_77 : cl_a_IN_TARGET.slots[(77 : Int32).toNatClampNeg]? = some (.int (1 : Int32)) := al_a_IN_TARGET_nl13 77 (own_lt sz_a_IN_TARGET lt_a_IN_TARGET (by decide)) (by decide) (by decide)
  have at_a_IN_TARGET_78 : cl_a_IN_TARGET.slots[(78 : Int32).toNatClampNeg]? = some (.int (1 : Int32)) := al_a_IN_TARGET_nl13 78 (own_lt sz_a_IN_TARGET lt_a_IN_TARGET (by decide)) (by decide) (by decide)
  have at_a_IN_TARGET_79 : cl_a_IN_TARGET.slots[(79 : Int32).toNatClampNeg]? = some (.int (1 : Int32)) := al_a_IN_TARGET_nl13 79 (own_lt sz_a_IN_TARGET lt_a_IN_TARGET (by decide)) (by decide) (by decide)
  have at_a_IN_TARGET_80 : cl_a_IN_TARGET.slots[(80 : Int32).toNatClampNeg]? = some (.int (1 : Int32)) := al_a_IN_TARGET_nl13 80 (own_lt sz_a_IN_TARGET lt_a_IN_TARGET (by decide)) (by decide) (by decide)
  have at_a_IN_TARGET_81 : cl_a_IN_TARGET.slots[(81 : Int32).toNatClampNeg]? = some (.int (1 : Int32)) := al_a_IN_TARGET_nl13 81 (own_lt sz_a_IN_TARGET lt_a_IN_TARGET (by decide)) (by decide) (by decide)
  have at_a_IN_TARGET_82 : cl_a_IN_TARGET.slots[(82 : Int32).toNatClampNeg]? = some (.int (1 : Int32)) := al_a_IN_TARGET_nl13 82 (own_lt sz_a_IN_TARGET lt_a_IN_TARGET (by decide)) (by decide) (by decide)
  have at_a_IN_TARGET_83 : cl_a_IN_TARGET.slots[(83 : Int32).toNatClampNeg]? = some (.int (1 : Int32)) := al_a_IN_TARGET_nl13 83 (own_lt sz_a_IN_TARGET lt_a_IN_TARGET (by decide)) (by decide) (by decide)
  have at_a_IN_TARGET_84 : cl_a_IN_TARGET.slots[(84 : Int32).toNatClampNeg]? = some (.int (1 : Int32)) := al_a_IN_TARGET_nl13 84 (own_lt sz_a_IN_TARGET lt_a_IN_TARGET (by decide)) (by decide) (by decide)
  have at_a_IN_TARGET_85 : cl_a_IN_TARGET.slots[(85 : Int32).toNatClampNeg]? = some (.int (1 : Int32)) := al_a_IN_TARGET_nl13 85 (own_lt sz_a_IN_TARGET lt_a_IN_TARGET (by decide)) (by decide) (by decide)
  have at_a_IN_TARGET_86 : cl_a_IN_TARGET.slots[(86 : Int32).toNatClampNeg]? = some (.int (1 : Int32)) := al_a_IN_TARGET_nl13 86 (own_lt sz_a_IN_TARGET lt_a_IN_TARGET (by decide)) (by decide) (by decide)
  have at_a_IN_TARGET_87 : cl_a_IN_TARGET.slots[(87 : Int32).toNatClampNeg]? = some (.int (1 : Int32)) := al_a_IN_TARGET_nl13 87 (own_lt sz_a_IN_TARGET lt_a_IN_TARGET (by decide)) (by decide) (by decide)
  have at_a_IN_TARGET_88 : cl_a_IN_TARGET.slots[(88 : Int32).toNatClampNeg]? = some (.int (1 : Int32)) := al_a_IN_TARGET_nl13 88 (own_lt sz_a_IN_TARGET lt_a_IN_TARGET (by decide)) (by decide) (by decide)
  have at_a_IN_TARGET_89 : cl_a_IN_TARGET.slots[(89 : Int32).toNatClampNeg]? = some (.int (1 : Int32)) := al_a_IN_TARGET_nl13 89 (own_lt sz_a_IN_TARGET lt_a_IN_TARGET (by decide)) (by decide) (by decide)
  have at_a_IN_TARGET_90 : cl_a_IN_TARGET.slots[(90 : Int32).toNatClampNeg]? = some (.int (1 : Int32)) := al_a_IN_TARGET_nl13 90 (own_lt sz_a_IN_TARGET lt_a_IN_TARGET (by decide)) (by decide) (by decide)
  have al_a_IN_TARGET_nl14 := own_all3 nl14 (fun idx => own_idx ev_a_IN_TARGET) Ar_a_IN_TARGET lt_a_IN_TARGET
  have at_a_IN_TARGET_91 : cl_a_IN_TARGET.slots[(91 : Int32).toNatClampNeg]? = some (.int (0 : Int32)) := al_a_IN_TARGET_nl14 91 (own_lt sz_a_IN_TARGET lt_a_IN_TARGET (by decide)) (by decide) (by decide)
  have at_a_IN_TARGET_92 : cl_a_IN_TARGET.slots[(92 : Int32).toNatClampNeg]? = some (.int (0 : Int32)) := al_a_IN_TARGET_nl14 92 (own_lt sz_a_IN_TARGET lt_a_IN_TARGET (by decide)) (by decide) (by decide)
  have at_a_IN_TARGET_93 : cl_a_IN_TARGET.slots[(93 : Int32).toNatClampNeg]? = some (.int (0 : Int32)) := al_a_IN_TARGET_nl14 93 (own_lt sz_a_IN_TARGET lt_a_IN_TARGET (by decide)) (by decide) (by decide)
  have at_a_IN_TARGET_94 : cl_a_IN_TARGET.slots[(94 : Int32).toNatClampNeg]? = some (.int (0 : Int32)) := al_a_IN_TARGET_nl14 94 (own_lt sz_a_IN_TARGET lt_a_IN_TARGET (by decide)) (by decide) (by decide)
  have al_a_IN_TARGET_nl17 := own_all3 nl17 (fun idx => own_idx ev_a_IN_TARGET) Ar_a_IN_TARGET lt_a_IN_TARGET
  have at_a_IN_TARGET_97 : cl_a_IN_TARGET.slots[(97 : Int32).toNatClampNeg]? = some (.int (1 : Int32)) := al_a_IN_TARGET_nl17 97 (own_lt sz_a_IN_TARGET lt_a_IN_TARGET (by decide)) (by decide) (by decide)
  have at_a_IN_TARGET_98 : cl_a_IN_TARGET.slots[(98 : Int32).toNatClampNeg]? = some (.int (1 : Int32)) := al_a_IN_TARGET_nl17 98 (own_lt sz_a_IN_TARGET lt_a_IN_TARGET (by decide)) (by decide) (by decide)
  have at_a_IN_TARGET_99 : cl_a_IN_TARGET.slots[(99 : Int32).toNatClampNeg]? = some (.int (1 : Int32)) := al_a_IN_TARGET_nl17 99 (own_lt sz_a_IN_TARGET lt_a_IN_TARGET (by decide)) (by decide) (by decide)
  have at_a_IN_TARGET_100 : cl_a_IN_TARGET.slots[(100 : Int32).toNatClampNeg]? = some (.int (1 : Int32)) := al_a_IN_TARGET_nl17 100 (own_lt sz_a_IN_TARGET lt_a_IN_TARGET (by decide)) (by decide) (by decide)
  have at_a_IN_TARGET_101 : cl_a_IN_TARGET.slots[(101 : Int32).toNatClampNeg]? = some (.int (1 : Int32)) := al_a_IN_TARGET_nl17 101 (own_lt sz_a_IN_TARGET lt_a_IN_TARGET (by decide)) (by decide) (by decide)
  have at_a_IN_TARGET_102 : cl_a_IN_TARGET.slots[(102 : Int32).toNatClampNeg]? = some (.int (1 : Int32)) := al_a_IN_TARGET_nl17 102 (own_lt sz_a_IN_TARGET lt_a_IN_TARGET (by decide)) (by decide) (by decide)
  have at_a_IN_TARGET_103 : cl_a_IN_TARGET.slots[(103 : Int32).toNatClampNeg]? = some (.int (1 : Int32)) := al_a_IN_TARGET_nl17 103 (own_lt sz_a_IN_TARGET lt_a_IN_TARGET (by decide)) (by decide) (by decide)
  have at_a_IN_TARGET_104 : cl_a_IN_TARGET.slots[(104 : Int32).toNatClampNeg]? = some (.int (1 : Int32)) := al_a_IN_TARGET_nl17 104 (own_lt sz_a_IN_TARGET lt_a_IN_TARGET (by decide)) (by decide) (by decide)
  have at_a_IN_TARGET_105 : cl_a_IN_TARGET.slots[(105 : Int32).toNatClampNeg]? = some (.int (1 : Int32)) := al_a_IN_TARGET_nl17 105 (own_lt sz_a_IN_TARGET lt_a_IN_TARGET (by decide)) (by decide) (by decide)
  have at_a_IN_TARGET_106 : cl_a_IN_TARGET.slots[(106 : Int32).toNatClampNeg]? = some (.int (1 : Int32)) := al_a_IN_TARGET_nl17 106 (own_lt sz_a_IN_TARGET lt_a_IN_TARGET (by decide)) (by decide) (by decide)
  have at_a_IN_TARGET_107 : cl_a_IN_TARGET.slots[(107 : Int32).toNatClampNeg]? = some (.int (1 : Int32)) := al_a_IN_TARGET_nl17 107 (own_lt sz_a_IN_TARGET lt_a_IN_TARGET (by decide)) (by decide) (by decide)
  have at_a_IN_TARGET_108 : cl_a_IN_TARGET.slots[(108 : Int32).toNatClampNeg]? = some (.int (1 : Int32)) := al_a_IN_TARGET_nl17 108 (own_lt sz_a_IN_TARGET lt_a_IN_TARGET (by decide)) (by decide) (by decide)
  have at_a_IN_TARGET_109 : cl_a_IN_TARGET.slots[(109 : Int32).toNatClampNeg]? = some (.int (1 : Int32)) := al_a_IN_TARGET_nl17 109 (own_lt sz_a_IN_TARGET lt_a_IN_TARGET (by decide)) (by decide) (by decide)
  have at_a_IN_TARGET_110 : cl_a_IN_TARGET.slots[(110 : Int32).toNatClampNeg]? = some (.int (1 : Int32)) := al_a_IN_TARGET_nl17 110 (own_lt sz_a_IN_TARGET lt_a_IN_TARGET (by decide)) (by decide) (by decide)
  have at_a_IN_TARGET_111 : cl_a_IN_TARGET.slots[(111 : Int32).toNatClampNeg]? = some (.int (1 : Int32)) := al_a_IN_TARGET_nl17 111 (own_lt sz_a_IN_TARGET lt_a_IN_TARGET (by decide)) (by decide) (by decide)
  have at_a_IN_TARGET_112 : cl_a_IN_TARGET.slots[(112 : Int32).toNatClampNeg]? = some (.int (1 : Int32)) := al_a_IN_TARGET_nl17 112 (own_lt sz_a_IN_TARGET lt_a_IN_TARGET (by decide)) (by decide) (by decide)
  have at_a_IN_TARGET_113 : cl_a_IN_TARGET.slots[(113 : Int32).toNatClampNeg]? = some (.int (1 : Int32)) := al_a_IN_TARGET_nl17 113 (own_lt sz_a_IN_TARGET lt_a_IN_TARGET (by decide)) (by decide) (by decide)
  have at_a_IN_TARGET_114 : cl_a_IN_TARGET.slots[(114 : Int32).toNatClampNeg]? = some (.int (1 : Int32)) := al_a_IN_TARGET_nl17 114 (own_lt sz_a_IN_TARGET lt_a_IN_TARGET (by decide)) (by decide) (by decide)
  have at_a_IN_TARGET_115 : cl_a_IN_TARGET.slots[(115 : Int32).toNatClampNeg]? = some (.int (1 : Int32)) := al_a_IN_TARGET_nl17 115 (own_lt sz_a_IN_TARGET lt_a_IN_TARGET (by decide)) (by decide) (by decide)
  have at_a_IN_TARGET_116 : cl_a_IN_TARGET.slots[(116 : Int32).toNatClampNeg]? = some (.int (1 : Int32)) := al_a_IN_TARGET_nl17 116 (own_lt sz_a_IN_TARGET lt_a_IN_TARGET (by decide)) (by decide) (by decide)
  have at_a_IN_TARGET_117 : cl_a_IN_TARGET.slots[(117 : Int32).toNatClampNeg]? = some (.int (1 : Int32)) := al_a_IN_TARGET_nl17 117 (own_lt sz_a_IN_TARGET lt_a_IN_TARGET (by decide)) (by decide) (by decide)
  have at_a_IN_TARGET_118 : cl_a_IN_TARGET.slots[(118 : Int32).toNatClampNeg]? = some (.int (1 : Int32)) := al_a_IN_TARGET_nl17 118 (own_lt sz_a_IN_TARGET lt_a_IN_TARGET (by decide)) (by decide) (by decide)
  have at_a_IN_TARGET_119 : cl_a_IN_TARGET.slots[(119 : Int32).toNatClampNeg]? = some (.int (1 : Int32)) := al_a_IN_TARGET_nl17 119 (own_lt sz_a_IN_TARGET lt_a_IN_TARGET (by decide)) (by decide) (by decide)
  have at_a_IN_TARGET_120 : cl_a_IN_TARGET.slots[(120 : Int32).toNatClampNeg]? = some (.int (1 : Int32)) := al_a_IN_TARGET_nl17 120 (own_lt sz_a_IN_TARGET lt_a_IN_TARGET (by decide)) (by decide) (by decide)
  have at_a_IN_TARGET_121 : cl_a_IN_TARGET.slots[(121 : Int32).toNatClampNeg]? = some (.int (1 : Int32)) := al_a_IN_TARGET_nl17 121 (own_lt sz_a_IN_TARGET lt_a_IN_TARGET (by decide)) (by decide) (by decide)
  have at_a_IN_TARGET_122 : cl_a_IN_TARGET.slots[(122 : Int32).toNatClampNeg]? = some (.int (1 : Int32)) := al_a_IN_TARGET_nl17 122 (own_lt sz_a_IN_TARGET lt_a_IN_TARGET (by decide)) (by decide) (by decide)
  have A_a_IN_TARGET : Arv s s.heap a_IN_TARGET cl_a_IN_TARGET.cls .boolean (128 : Int32) [(.int (0 : Int32)), (.int (0 : Int32)), (.int (0 : Int32)), (.int (0 : Int32)), (.int (0 : Int32)), (.int (0 : Int32)), (.int (0 : Int32)), (.int (0 : Int32)), (.int (0 : Int32)), (.int (0 : Int32)), (.int (0 : Int32)), (.int (0 : Int32)), (.int (0 : Int32)), (.int (0 : Int32)), (.int (0 : Int32)), (.int (0 : Int32)), (.int (0 : Int32)), (.int (0 : Int32)), (.int (0 : Int32)), (.int (0 : Int32)), (.int (0 : Int32)), (.int (0 : Int32)), (.int (0 : Int32)), (.int (0 : Int32)), (.int (0 : Int32)), (.int (0 : Int32)), (.int (0 : Int32)), (.int (0 : Int32)), (.int (0 : Int32)), (.int (0 : Int32)), (.int (0 : Int32)), (.int (0 : Int32)), (.int (0 : Int32)), (.int (1 : Int32)), (.int (0 : Int32)), (.int (0 : Int32)), (.int (1 : Int32)), (.int (0 : Int32)), (.int (1 : Int32)), (.int (1 : Int32)), (.int (1 : Int32)), (.int (1 : Int32)), (.int (1 : Int32)), (.int (1 : Int32)), (.int (1 : Int32)), (.int (1 : Int32)), (.int (1 : Int32)), (.int (1 : Int32)), (.int (1 : Int32)), (.int (1 : Int32)), (.int (1 : Int32)), (.int (1 : Int32)), (.int (1 : Int32)), (.int (1 : Int32)), (.int (1 : Int32)), (.int (1 : Int32)), (.int (1 : Int32)), (.int (1 : Int32)), (.int (1 : Int32)), (.int (1 : Int32)), (.int (0 : Int32)), (.int (1 : Int32)), (.int (0 : Int32)), (.int (1 : Int32)), (.int (1 : Int32)), (.int (1 : Int32)), (.int (1 : Int32)), (.int (1 : Int32)), (.int (1 : Int32)), (.int (1 : Int32)), (.int (1 : Int32)), (.int (1 : Int32)), (.int (1 : Int32)), (.int (1 : Int32)), (.int (1 : Int32)), (.int (1 : Int32)), (.int (1 : Int32)), (.int (1 : Int32)), (.int (1 : Int32)), (.int (1 : Int32)), (.int (1 : Int32)), (.int (1 : Int32)), (.int (1 : Int32)), (.int (1 : Int32)), (.int (1 : Int32)), (.int (1 : Int32)), (.int (1 : Int32)), (.int (1 : Int32)), (.int (1 : Int32)), (.int (1 : Int32)), (.int (1 : Int32)), (.int (0 : Int32)), (.int (0 : Int32)), (.int (0 : Int32)), (.int (0 : Int32)), (.int (1 : Int32)), (.int (0 : Int32)), (.int (1 : Int32)), (.int (1 : Int32)), (.int (1 : Int32)), (.int (1 : Int32)), (.int (1 : Int32)), (.int (1 : Int32)), (.int (1 : Int32)), (.int (1 : Int32)), (.int (1 : Int32)), (.int (1 : Int32)), (.int (1 : Int32)), (.int (1 : Int32)), (.int (1 : Int32)), (.int (1 : Int32)), (.int (1 : Int32)), (.int (1 : Int32)), (.int (1 : Int32)), (.int (1 : Int32)), (.int (1 : Int32)), (.int (1 : Int32)), (.int (1 : Int32)), (.int (1 : Int32)), (.int (1 : Int32)), (.int (1 : Int32)), (.int (1 : Int32)), (.int (1 : Int32)), (.int (0 : Int32)), (.int (0 : Int32)), (.int (0 : Int32)), (.int (1 : Int32)), (.int (0 : Int32))] (.int (0 : Int32)) := Arv.start hfit Ar_a_IN_TARGET lt_a_IN_TARGET sz_a_IN_TARGET (by decide) rfl ⟨at_a_IN_TARGET_0, at_a_IN_TARGET_1, at_a_IN_TARGET_2, at_a_IN_TARGET_3, at_a_IN_TARGET_4, at_a_IN_TARGET_5, at_a_IN_TARGET_6, at_a_IN_TARGET_7, at_a_IN_TARGET_8, at_a_IN_TARGET_9, at_a_IN_TARGET_10, at_a_IN_TARGET_11, at_a_IN_TARGET_12, at_a_IN_TARGET_13, at_a_IN_TARGET_14, at_a_IN_TARGET_15, at_a_IN_TARGET_16, at_a_IN_TARGET_17, at_a_IN_TARGET_18, at_a_IN_TARGET_19, at_a_IN_TARGET_20, at_a_IN_TARGET_21, at_a_IN_TARGET_22, at_a_IN_TARGET_23, at_a_IN_TARGET_24, at_a_IN_TARGET_25, at_a_IN_TARGET_26, at_a_IN_TARGET_27, at_a_IN_TARGET_28, at_a_IN_TARGET_29, at_a_IN_TARGET_30, at_a_IN_TARGET_31, at_a_IN_TARGET_32, at_a_IN_TARGET_33, at_a_IN_TARGET_34, at_a_IN_TARGET_35, at_a_IN_TARGET_36, at_a_IN_TARGET_37, at_a_IN_TARGET_38, at_a_IN_TARGET_39, at_a_IN_TARGET_40, at_a_IN_TARGET_41, at_a_IN_TARGET_42, at_a_IN_TARGET_43, at_a_IN_TARGET_44, at_a_IN_TARGET_45, at_a_IN_TARGET_46, at_a_IN_TARGET_47, at_a_IN_TARGET_48, at_a_IN_TARGET_49, at_a_IN_TARGET_50, at_a_IN_TARGET_51, at_a_IN_TARGET_52, at_a_IN_TARGET_53, at_a_IN_TARGET_54, at_a_IN_TARGET_55, at_a_IN_TARGET_56, at_a_IN_TARGET_57, at_a_IN_TARGET_58, at_a_IN_TARGET_59, at_a_IN_TARGET_60, at_a_IN_TARGET_61, at_a_IN_TARGET_62, at_a_IN_TARGET_63, at_a_IN_TARGET_64, at_a_IN_TARGET_65, at_a_IN_TARGET_66, at_a_IN_TARGET_67, at_a_IN_TARGET_68, at_a_IN_TARGET_69, at_a_IN_TARGET_70, at_a_IN_TARGET_71, at_a_IN_TARGET_72, at_a_IN_TARGET_73, at_a_IN_TARGET_74, at_a_IN_TARGET_75, at_a_IN_TARGET_76, at_a_IN_TARGET_77, at_a_IN_TARGET_78, at_a_IN_TARGET_79, at_a_IN_TARGET_80, at_a_IN_TARGET_81, at_a_IN_TARGET_82, at_a_IN_TARGET_83, at_a_IN_TARGET_84, at_a_IN_TARGET_85, at_a_IN_TARGET_86, at_a_IN_TARGET_87, at_a_IN_TARGET_88, at_a_IN_TARGET_89, at_a_IN_TARGET_90, at_a_IN_TARGET_91, at_a_IN_TARGET_92, at_a_IN_TARGET_93, at_a_IN_TARGET_94, at_a_IN_TARGET_95, at_a_IN_TARGET_96, at_a_IN_TARGET_97, at_a_IN_TARGET_98, at_a_IN_TARGET_99, at_a_IN_TARGET_100, at_a_IN_TARGET_101, at_a_IN_TARGET_102, at_a_IN_TARGET_103, at_a_IN_TARGET_104, at_a_IN_TARGET_105, at_a_IN_TARGET_106, at_a_IN_TARGET_107, at_a_IN_TARGET_108, at_a_IN_TARGET_109, at_a_IN_TARGET_110, at_a_IN_TARGET_111, at_a_IN_TARGET_112, at_a_IN_TARGET_113, at_a_IN_TARGET_114, at_a_IN_TARGET_115, at_a_IN_TARGET_116, at_a_IN_TARGET_117, at_a_IN_TARGET_118, at_a_IN_TARGET_119, at_a_IN_TARGET_120, at_a_IN_TARGET_121, at_a_IN_TARGET_122, at_a_IN_TARGET_123, at_a_IN_TARGET_124, at_a_IN_TARGET_125, at_a_IN_TARGET_126, at_a_IN_TARGET_127, trivial⟩
  have S_IN_TARGET := Sta.start ev_a_IN_TARGET (Or.inr ⟨(hw _ (List.mem_of_getElem? (i := 3) rfl)), (hw _ (List.mem_of_getElem? (i := 6) rfl))⟩)
  obtain ⟨n, o, h1, h2, h3, _, L, rfl, hQ, hq⟩ := rm0 l s _ hw tables_1 i0 i1 a_IN_TARGET cl_a_IN_TARGET.cls s.heap s.heap.size (Nat.le_refl _) A_a_IN_TARGET S_IN_TARGET p e ha hc hk s m _ below hf ((Spec.applies_iff_loose hf).mp happ).1 ⟨rfl, State.Warmed39.refl s, rfl⟩ trivial
  obtain ⟨hv, N, -⟩ := hQ
  have hlaw : (f0 i0 i1) = 1 := own_law i0 i1
  rw [hlaw] at hv
  subst hv
  refine ⟨n, _, h1, h2, h3, hpost _ _ _ _ _ _ ⟨Cond.after_iff.mpr rfl, Cond.after_iff.mpr (eq_i res_at (Term.int_eval (1)) rfl), trivial⟩ ⟨hq.1, hq.2.1, (hq.2.2.sift fun y hy => Or.inr (N y hy)).mono (by decide) (by decide)⟩⟩
theorem main_1_1 : Claimed_1_1 := comes_1 fun _ _ _ _ _ _ h hF => ⟨h.1, hF⟩
theorem main_1_2 : Claimed_1_2 := comes_1 fun _ _ _ _ _ _ h hF => ⟨h.2.1, hF⟩
end Jvm.Pilot.@@N@@
namespace Jvm.Pilot.@@N@@
open Jvm Jvm.ClassFile Sem Op Lib Jvm.Free Jvm.Stand Jvm.Pilot.@@N@@.Jvm.D
/-! MADE BY PROGRAM (witnessworld.py) out of the Statement's table words and the real class files: 11 classes; the members and pool entries that the words name. The judged class is class 1, her method 1. -/
namespace start1
open Jvm.ClassFile
def u (s : String) : CpInfo := .utf8 (stringToUtf16 s)
/-- a pool by its gaps: so many unusable entries, then the entry; so many at the end -/
def gap : Nat → List CpInfo → List CpInfo
  | 0, r => r
  | n + 1, r => .unusable :: gap n r
def poolList (es : List (Nat × CpInfo)) (last : Nat) : List CpInfo := es.foldr (fun e r => gap e.1 (e.2 :: r)) (gap last [])
def pool (es : List (Nat × CpInfo)) (last : Nat) : Array CpInfo := ⟨poolList es last⟩
def fileOf (pool : Array CpInfo) (this : Nat) (attrs : Array Attribute := #[]) (ms : Array MethodInfo := #[]) (fl : Nat := 33) (sup : Nat := 0) (ifs : Array Nat := #[]) (fds : Array FieldInfo := #[]) : ClassFile where
  minorVersion := 0
  majorVersion := 65
  constantPool := pool
  accessFlags := fl
  thisClass := this
  superClass := sup
  interfaces := ifs
  fields := fds
  methods := ms
  attributes := attrs
def plain (name : String) (sup : Option ClassId) : Class where
  name := name
  kind := .ordinary
  loader := none
  accessFlags := 33
  super := sup
  interfaces := #[]
  cf := none
  fields := #[]
  methods := #[]
  instanceTypes := #[]
  staticTypes := #[]
  resolved := #[]
  callSites := []
  init := .initialized
  statics := none
  mirror := none

def pool0 : Array CpInfo := pool [(5, u "<init>"), (0, u "()V"), (1, .class_ 10), (1, u "java/lang/Object")] 113

def k0m0 : Method := { name := "<init>", desc := "()V", sig := { parameters := [], returnType := none }, accessFlags := 1, code := none }
/-- java/lang/Object -/
def k0 : Class := { plain "java/lang/Object" none with
  accessFlags := 33
  interfaces := #[]
  cf := some (fileOf pool0 8 #[] #[{ accessFlags := 1, nameIndex := 5, descriptorIndex := 6, attributes := #[] }] 33 0 #[] #[])
  fields := #[]
  methods := #[k0m0]
  instanceTypes := #[]
  staticTypes := #[]
  resolved := Array.replicate 124 none
  statics := none }

def pool1 : Array CpInfo := pool [(2, .class_ 4), (1, u "java/lang/Object"), (0, u "<init>"), (0, u "()V"), (0, .integer 1114111), (0, .integer 2147483647), (0, .methodref 10 11), (0, .class_ 12), (0, .nameAndType 13 14), (0, u "com/example/gatehook/gatehook/http/Syntax"), (0, u "isTargetCharacter"), (0, u "(I)Z"), (0, .methodref 16 17), (0, .class_ 18), (0, .nameAndType 19 14), (0, u "com/example/gatehook/gatehook/http/SyntaxIsTargetCharacterPinLaw"), (0, u "expected"), (2, u "law"), (0, u "(II)Z")] 3

def k1m0 : Method := { name := "<init>", desc := "()V", sig := { parameters := [], returnType := none }, accessFlags := 1, code := none }
def k1c1 : Code := { maxStack := 2, maxLocals := 4, code := code, exceptionTable := #[], attributes := #[] }
def k1m1 : Method := { name := "law", desc := "(II)Z", sig := { parameters := [.int, .int], returnType := some .boolean }, accessFlags := 9, code := some k1c1 }
def k1c2 : Code := { maxStack := 2, maxLocals := 1, code := method_3_code, exceptionTable := #[], attributes := #[] }
def k1m2 : Method := { name := "expected", desc := "(I)Z", sig := { parameters := [.int], returnType := some .boolean }, accessFlags := 10, code := some k1c2 }
/-- com/example/gatehook/gatehook/http/SyntaxIsTargetCharacterPinLaw -/
def k1 : Class := { plain "com/example/gatehook/gatehook/http/SyntaxIsTargetCharacterPinLaw" (some 0) with
  accessFlags := 49
  interfaces := #[]
  cf := some (fileOf pool1 16 #[] #[{ accessFlags := 1, nameIndex := 5, descriptorIndex := 6, attributes := #[] }, { accessFlags := 9, nameIndex := 22, descriptorIndex := 23, attributes := #[] }, { accessFlags := 10, nameIndex := 19, descriptorIndex := 14, attributes := #[] }] 49 2 #[] #[])
  fields := #[]
  methods := #[k1m0, k1m1, k1m2]
  instanceTypes := #[]
  staticTypes := #[]
  resolved := Array.replicate 27 none
  statics := none }

def pool2 : Array CpInfo := pool [(2, .class_ 4), (1, u "java/lang/Object"), (0, u "<init>"), (0, u "()V"), (15, .class_ 24), (1, u "com/example/gatehook/gatehook/http/Syntax"), (0, u "IN_TOKEN"), (0, u "[Z"), (0, .fieldref 22 28), (0, .nameAndType 29 26), (0, u "IN_TARGET"), (8, u "TOKEN_CHARACTERS"), (0, u "Ljava/lang/String;"), (1, u "TARGET_CHARACTERS"), (6, u "isTargetCharacter"), (0, u "(I)Z")] 4

def k2m0 : Method := { name := "<init>", desc := "()V", sig := { parameters := [], returnType := none }, accessFlags := 2, code := none }
def k2c1 : Code := { maxStack := 2, maxLocals := 1, code := prog_47_method_4_code, exceptionTable := #[], attributes := #[] }
def k2m1 : Method := { name := "isTargetCharacter", desc := "(I)Z", sig := { parameters := [.int], returnType := some .boolean }, accessFlags := 9, code := some k2c1 }
/-- com/example/gatehook/gatehook/http/Syntax -/
def k2 : Class := { plain "com/example/gatehook/gatehook/http/Syntax" (some 0) with
  accessFlags := 49
  interfaces := #[]
  cf := some (fileOf pool2 22 #[] #[{ accessFlags := 2, nameIndex := 5, descriptorIndex := 6, attributes := #[] }, { accessFlags := 9, nameIndex := 48, descriptorIndex := 49, attributes := #[] }] 49 2 #[] #[{ accessFlags := 26, nameIndex := 38, descriptorIndex := 39, attributes := #[] }, { accessFlags := 26, nameIndex := 25, descriptorIndex := 26, attributes := #[] }, { accessFlags := 26, nameIndex := 41, descriptorIndex := 39, attributes := #[] }, { accessFlags := 26, nameIndex := 29, descriptorIndex := 26, attributes := #[] }])
  fields := #[{ name := "TOKEN_CHARACTERS", type := (.object "java/lang/String"), accessFlags := 26, slot := 0, constantValue := 0 }, { name := "IN_TOKEN", type := (.array .boolean), accessFlags := 26, slot := 1, constantValue := 0 }, { name := "TARGET_CHARACTERS", type := (.object "java/lang/String"), accessFlags := 26, slot := 2, constantValue := 0 }, { name := "IN_TARGET", type := (.array .boolean), accessFlags := 26, slot := 3, constantValue := 0 }]
  methods := #[k2m0, k2m1]
  instanceTypes := #[]
  staticTypes := #[(.object "java/lang/String"), (.array .boolean), (.object "java/lang/String"), (.array .boolean)]
  resolved := Array.replicate 54 none
  statics := some 0 }

def pool3 : Array CpInfo := pool [(1, u "java/lang/Cloneable"), (0, .class_ 1), (0, u "java/lang/Object"), (0, .class_ 3)] 3

/-- java/lang/Cloneable -/
def k3 : Class := { plain "java/lang/Cloneable" (some 0) with
  accessFlags := 1537
  interfaces := #[]
  cf := some (fileOf pool3 2 #[] #[] 1537 4 #[] #[])
  fields := #[]
  methods := #[]
  instanceTypes := #[]
  staticTypes := #[]
  resolved := Array.replicate 8 none
  statics := none }

def pool4 : Array CpInfo := pool [(1, u "java/io/Serializable"), (0, .class_ 1), (0, u "java/lang/Object"), (0, .class_ 3)] 3

/-- java/io/Serializable -/
def k4 : Class := { plain "java/io/Serializable" (some 0) with
  accessFlags := 1537
  interfaces := #[]
  cf := some (fileOf pool4 2 #[] #[] 1537 4 #[] #[])
  fields := #[]
  methods := #[]
  instanceTypes := #[]
  staticTypes := #[]
  resolved := Array.replicate 8 none
  statics := none }

/-- the primitive boolean -/
def k5 : Class := { plain "boolean" none with kind := .primitive 'Z', accessFlags := 0x411 }
/-- [Z -/
def k6 : Class := { plain "[Z" (some 0) with kind := .array 5 .boolean, interfaces := #[3, 4], accessFlags := 1041 }

/-- the primitive byte -/
def k7 : Class := { plain "byte" none with kind := .primitive 'B', accessFlags := 0x411 }
/-- [B -/
def k8 : Class := { plain "[B" (some 0) with kind := .array 7 .byte, interfaces := #[3, 4], accessFlags := 1041 }

/-- the primitive int -/
def k9 : Class := { plain "int" none with kind := .primitive 'I', accessFlags := 0x411 }
/-- [I -/
def k10 : Class := { plain "[I" (some 0) with kind := .array 9 .int, interfaces := #[3, 4], accessFlags := 1041 }

def heap : Heap := #[{ cls := 2, slots := #[.null, .null, .null, .ref 1], vm := .statics 2 },
  { cls := 6, slots := #[.int 0, .int 0, .int 0, .int 0, .int 0, .int 0, .int 0, .int 0, .int 0, .int 0, .int 0, .int 0, .int 0, .int 0, .int 0, .int 0, .int 0, .int 0, .int 0, .int 0, .int 0, .int 0, .int 0, .int 0, .int 0, .int 0, .int 0, .int 0, .int 0, .int 0, .int 0, .int 0, .int 0, .int 1, .int 0, .int 0, .int 1, .int 0, .int 1, .int 1, .int 1, .int 1, .int 1, .int 1, .int 1, .int 1, .int 1, .int 1, .int 1, .int 1, .int 1, .int 1, .int 1, .int 1, .int 1, .int 1, .int 1, .int 1, .int 1, .int 1, .int 0, .int 1, .int 0, .int 1, .int 1, .int 1, .int 1, .int 1, .int 1, .int 1, .int 1, .int 1, .int 1, .int 1, .int 1, .int 1, .int 1, .int 1, .int 1, .int 1, .int 1, .int 1, .int 1, .int 1, .int 1, .int 1, .int 1, .int 1, .int 1, .int 1, .int 1, .int 0, .int 0, .int 0, .int 0, .int 1, .int 0, .int 1, .int 1, .int 1, .int 1, .int 1, .int 1, .int 1, .int 1, .int 1, .int 1, .int 1, .int 1, .int 1, .int 1, .int 1, .int 1, .int 1, .int 1, .int 1, .int 1, .int 1, .int 1, .int 1, .int 1, .int 1, .int 1, .int 0, .int 0, .int 0, .int 1, .int 0], vm := .none }]
def classes : Array Class := #[k0, k1, k2, k3, k4, k5, k6, k7, k8, k9, k10]
def interned : List (Array UInt16 × Addr) := []
def slotsUsed : Nat := 132
def theMethod : MethodId := ⟨1, 1⟩
def args0 : Array Value := #[.int 5, .int 7]
def aboutOver (below : List Frame) : State where
  vm := { classes := classes, interned := interned.toArray }
  heap := heap
  slotsUsed := slotsUsed
  threads := #[{ frames := .invoking theMethod args0 :: below }]
def below0 : List Frame := [.native { method := ⟨0, 0⟩, args := #[] }]
def about1 : State := aboutOver below0
def p0 : Program := .bare "" "" ""
def e0 : Env := launch0.env 0 0 0
theorem w_frames : about1.frames = Frame.invoking theMethod args0 :: below0 := rfl
set_option maxRecDepth 65536 in
theorem w_args : argsFit about1.vm theMethod args0 = true := by decide +kernel
set_option maxRecDepth 65536 in
theorem w_heap : heapFits about1 = true := by decide +kernel
set_option maxRecDepth 65536 in
theorem w_runnable : about1.curStatus? = some .runnable := by decide +kernel
set_option maxRecDepth 65536 in
theorem w_alone : about1.alone = true := by decide +kernel
set_option maxRecDepth 65536 in
theorem w_named : about1.methodNamed? x = some theMethod := by decide +kernel
set_option maxRecDepth 65536 in
theorem w_hears : about1.hears theMethod below0 = true := by decide +kernel
set_option maxRecDepth 65536 in
theorem w_ripe : about1.ripe theMethod args0 below0 = true := by decide +kernel
theorem w_running : about1.status = .running := rfl
set_option maxRecDepth 65536 in
theorem w_room : about1.hasRoom e0.platform room_1 = true :=
  launch0.hasRoom_least _ room_1 (by decide +kernel) (by decide +kernel) (by decide +kernel) (by decide +kernel) (by decide +kernel) (by decide +kernel)
theorem allAtoms_all (ts : List Jvm.Cond) (a : Array Jvm.Value) (st : Jvm.State) : (allAtoms ts).before a st = ts.all (fun c => c.before a st) := by
  induction ts with
  | nil => rfl
  | cons c t ih =>
    show (Jvm.Cond.and c (allAtoms t)).before a st = _
    rw [Jvm.Cond.before_and, ih, List.all_cons]
def words1 : List Jvm.Cond := Jvm.Cond.code x code maxLocals ret :: tables_1
/-- a 'code' word, met by the world's own term for the bytes: nothing is compared byte by byte -/
theorem code_word {y : MethodName} {bytes : ByteArray} {mx : Nat} {rt : Option FieldType} {a : Array Value} {s : State} {m : MethodId} {meth : Method} {c : Code} (h1 : s.methodNamed? y = some m) (h2 : s.vm.method? m = some meth) (h3 : meth.code = some c) (h4 : c.code = bytes)
    (h5 : (c.maxLocals == mx && c.exceptionTable.isEmpty && decide (c.maxStack ≤ mostOperands) && decide (meth.sig.returnType = rt) && !meth.locks && decide (parseMethodDescriptor y.desc = some meth.sig)) = true) : (Jvm.Cond.code y bytes mx rt).before a s = true := by
  simp only [Bool.and_eq_true, beq_iff_eq, Bool.not_eq_true', decide_eq_true_eq] at h5
  obtain ⟨⟨⟨⟨⟨g1, g2⟩, g3⟩, g4⟩, g5⟩, g6⟩ := h5
  simp [Cond.before, Cond.holds, Cond.value, h1, h2, h3, h4, g1, g2, g3, g4, g5, g6]
def isCode : Jvm.Cond → Bool
  | .code _ _ _ _ => true
  | _ => false
theorem all_split {L : List Jvm.Cond} {P : Jvm.Cond → Bool} (h1 : L.all (fun c => isCode c || P c) = true) (h2 : ∀ c ∈ L.filter isCode, P c = true) : L.all P = true := by
  refine List.all_eq_true.mpr fun c hc => ?_
  have h := List.all_eq_true.mp h1 c hc
  rcases Bool.eq_false_or_eq_true (isCode c) with hi | hi
  · exact h2 c (List.mem_filter.mpr ⟨hc, hi⟩)
  · simpa [hi] using h
set_option maxRecDepth 65536 in
theorem w_c0 : (Jvm.Cond.code x code maxLocals ret).before args0 about1 = true := code_word (m := ⟨1, 1⟩) (meth := k1m1) (c := k1c1) (by decide +kernel) rfl rfl rfl (by decide +kernel)
set_option maxRecDepth 65536 in
theorem w_c1 : (Jvm.Cond.code ({ cls := "com/example/gatehook/gatehook/http/Syntax", name := "isTargetCharacter", desc := "(I)Z" } : Jvm.MethodName) prog_47_method_4_code (1 : Nat) (Option.some Jvm.ClassFile.FieldType.boolean)).before args0 about1 = true := code_word (m := ⟨2, 1⟩) (meth := k2m1) (c := k2c1) (by decide +kernel) rfl rfl rfl (by decide +kernel)
set_option maxRecDepth 65536 in
theorem w_c2 : (Jvm.Cond.code ({ cls := "com/example/gatehook/gatehook/http/SyntaxIsTargetCharacterPinLaw", name := "expected", desc := "(I)Z" } : Jvm.MethodName) method_3_code (1 : Nat) (Option.some Jvm.ClassFile.FieldType.boolean)).before args0 about1 = true := code_word (m := ⟨1, 2⟩) (meth := k1m2) (c := k1c2) (by decide +kernel) rfl rfl rfl (by decide +kernel)
def codes1 : List Jvm.Cond := [Jvm.Cond.code x code maxLocals ret, Jvm.Cond.code ({ cls := "com/example/gatehook/gatehook/http/Syntax", name := "isTargetCharacter", desc := "(I)Z" } : Jvm.MethodName) prog_47_method_4_code (1 : Nat) (Option.some Jvm.ClassFile.FieldType.boolean), Jvm.Cond.code ({ cls := "com/example/gatehook/gatehook/http/SyntaxIsTargetCharacterPinLaw", name := "expected", desc := "(I)Z" } : Jvm.MethodName) method_3_code (1 : Nat) (Option.some Jvm.ClassFile.FieldType.boolean)]
set_option maxRecDepth 65536 in
theorem codes_eq : words1.filter isCode = codes1 := rfl
theorem w_codes : ∀ c ∈ words1.filter isCode, c.before args0 about1 = true := by
  rw [codes_eq]
  intro c hc
  simp only [codes1, List.mem_cons, List.not_mem_nil, or_false] at hc
  rcases hc with rfl | rfl | rfl
  · exact w_c0
  · exact w_c1
  · exact w_c2
set_option maxRecDepth 65536 in
theorem w_t1 : words1.all (fun c => isCode c || c.before args0 about1) = true := by decide +kernel
theorem w_tables : (allAtoms (Jvm.Cond.code x code maxLocals ret :: tables_1)).before args0 about1 = true := by
  rw [allAtoms_all]
  show words1.all (fun c => c.before args0 about1) = true
  refine all_split ?_ w_codes
  rw [w_t1]
set_option maxRecDepth 65536 in
theorem w_case : (Jvm.Cond.and given_1 narrow_1).before args0 about1 = true := by decide +kernel
theorem w_applies : (headSpec (Jvm.Cond.code x code maxLocals ret :: tables_1) room_1).applies x e0.platform about1 = true :=
  (Spec.applies_iff w_frames).mpr ⟨w_running, w_runnable, w_alone, w_named, w_hears, w_ripe, w_room, w_tables⟩
theorem atStart : AtStart classFile x code maxLocals ret World_1 tables_1 room_1 Calls_1 rest_1 Pre_1 launch0 p0 e0 about1 theMethod args0 below0 :=
  ⟨lists_1, trivial, launch0.admits_env _ _ _, launch0.least_env, fairChoices_fair.cas, fairChoices_fair.clock, w_frames, w_args, w_heap, w_applies, trivial, trivial, w_case⟩
end start1
theorem witness_1 : WitnessClaimed_1 := ⟨start1.p0, start1.e0, start1.about1, start1.theMethod, start1.args0, start1.below0, start1.atStart⟩
end Jvm.Pilot.@@N@@
