import JvmDerived
import JvmDerived.Pilot.@@N@@Statement
import JvmDerived.Pilot.@@N@@Code
set_option linter.unusedVariables false
set_option linter.unusedSimpArgs false
namespace Jvm.RoadKit
open Sem ClassFile Op Lib Jvm.Stand Jvm.Free Jvm.LawKit
section New
variable {p : Program} {l : Launch} {e : Env} {R : Room} {s : State} {m : MethodId} {args : Array Value} {below : List Frame} {meth : Method} {c : Code} {T : State} {locs : List Loc} {cells slots : Nat}
theorem retI (X : Stand p l e R s m args below meth c T locs cells slots) (hx : p.tables.exec = Jvm.exec) {pc : Nat} {Ls : Array Slot} {z : Int32} {rest : List Value} (hret : meth.sig.returnType = some .int) (hd : decode c.code pc = .ok (.ireturn, 1)) {fs : List Frame}
    (hl : ∀ (f : JFrame) (acts : List Action), f.method = m → f.locked = none → f.entered = [] → (doReturn e (T.setTop f) acts (some (.int z))).1 = T.setFrames fs) : Steps p.tables e below (T.setTop (mkF m pc Ls (.int z :: rest))) (T.setFrames fs) := by
  have hm' : T.vm.method? m = some meth := X.method'
  have hn : narrow .int (.int z) = .int z := rfl
  show Steps p.tables e below (T.setTop { method := m, pc := pc, locals := Ls, stack := _ :: rest, locked := none }) _
  jvm_step X.here [X.here.top, hx, hd, hm', hret, hn]
  first | (intro acts; rw [hl _ acts rfl rfl rfl]) | rw [hl _ _ rfl rfl rfl]
  exact Steps.refl _
end New
end Jvm.RoadKit
namespace Jvm.Pilot.@@N@@
open Jvm Jvm.ClassFile Sem Op Lib Jvm.Free Jvm.Stand Jvm.LawKit Jvm.RoadKit Bundle Jvm.Pilot.@@N@@.Jvm.D
theorem own_retJ {p : Program} {l : Launch} {e : Env} {R : Room} {s : State} {m : MethodId} {args : Array Value} {below : List Frame} {meth : Method} {c : Code} {T : State} {locs : List Loc} {cells slots : Nat} (X : Stand p l e R s m args below meth c T locs cells slots) (hx : p.tables.exec = Jvm.exec) {pc : Nat} {Ls : Array Slot} {z : Int64} {rest : List Value} (hret : meth.sig.returnType = some .long) (hd : decode c.code pc = .ok (.lreturn, 1)) {fs : List Frame}
    (hl : ∀ (f : JFrame) (acts : List Action), f.method = m → f.locked = none → f.entered = [] → (doReturn e (T.setTop f) acts (some (.long z))).1 = T.setFrames fs) : Steps p.tables e below (T.setTop (mkF m pc Ls (.long z :: rest))) (T.setFrames fs) := by
  have hm' : T.vm.method? m = some meth := X.method'
  have hn : narrow .long (.long z) = .long z := rfl
  show Steps p.tables e below (T.setTop { method := m, pc := pc, locals := Ls, stack := _ :: rest, locked := none }) _
  jvm_step X.here [X.here.top, hx, hd, hm', hret, hn]
  first | (intro acts; rw [hl _ acts rfl rfl rfl]) | rw [hl _ _ rfl rfl rfl]
  exact Steps.refl _
theorem own_retD {p : Program} {l : Launch} {e : Env} {R : Room} {s : State} {m : MethodId} {args : Array Value} {below : List Frame} {meth : Method} {c : Code} {T : State} {locs : List Loc} {cells slots : Nat} (X : Stand p l e R s m args below meth c T locs cells slots) (hx : p.tables.exec = Jvm.exec) {pc : Nat} {Ls : Array Slot} {z : UInt64} {rest : List Value} (hret : meth.sig.returnType = some .double) (hd : decode c.code pc = .ok (.dreturn, 1)) {fs : List Frame}
    (hl : ∀ (f : JFrame) (acts : List Action), f.method = m → f.locked = none → f.entered = [] → (doReturn e (T.setTop f) acts (some (.double z))).1 = T.setFrames fs) : Steps p.tables e below (T.setTop (mkF m pc Ls (.double z :: rest))) (T.setFrames fs) := by
  have hm' : T.vm.method? m = some meth := X.method'
  have hn : narrow .double (.double z) = .double z := rfl
  show Steps p.tables e below (T.setTop { method := m, pc := pc, locals := Ls, stack := _ :: rest, locked := none }) _
  jvm_step X.here [X.here.top, hx, hd, hm', hret, hn]
  first | (intro acts; rw [hl _ acts rfl rfl rfl]) | rw [hl _ _ rfl rfl rfl]
  exact Steps.refl _
theorem own_sta_keep {Z : State} {h h' : Heap} {C n d : String} {v : Value} {ws : List Addr} (F : Sta Z h C n d v) (K : Keep h h' ws) (q : ∀ x ∈ ws, ∀ c : Cell, h[x]? = some c → c.vm.isStatics = false) : Sta Z h' C n d v := by
  obtain ⟨cf, i, k, f, st, cell, h1, h2, h3, h4, h5, h6, h7⟩ := F
  exact ⟨cf, i, k, f, st, cell, h1, h2, h3, h4, K.2.1 st cell h5 (fun z => by have := q st z cell h5; rw [h6] at this; cases this), h6, h7⟩
theorem own_ins_keep {Z : State} {h h' : Heap} {a : Addr} {C : String} {b : Bool} {ws : List Addr} (F : Ins Z h a C b) (K : Keep h h' ws) : Ins Z h' a C b := by
  obtain ⟨cell, cT, h1, h2, h3⟩ := F
  obtain ⟨c', e1, e2, e3, -⟩ := K.2.2 a cell h1
  exact ⟨c', cT, e1, h2, by rw [e2, e3]; exact h3⟩
theorem own_pl0 {h : Heap} : ∀ x ∈ ([] : List Addr), ∀ c : Cell, h[x]? = some c → c.vm.isStatics = false := fun _ q => nomatch q
theorem own_plS {h : Heap} {y : Addr} {L : List Addr} (q : ∀ c : Cell, h[y]? = some c → c.vm.isStatics = false) (r : ∀ x ∈ L, ∀ c : Cell, h[x]? = some c → c.vm.isStatics = false) : ∀ x ∈ y :: L, ∀ c : Cell, h[x]? = some c → c.vm.isStatics = false := fun x z => (List.mem_cons.mp z).elim (fun u => u ▸ q) (r x)
theorem own_pl_exa {Z : State} {h : Heap} {a : Addr} {C : String} (F : Exa Z h a C) : ∀ c : Cell, h[a]? = some c → c.vm.isStatics = false := fun c hc => by
  obtain ⟨cell, k, h1, -, -, h4, -⟩ := F; cases h1.symm.trans hc; exact h4
theorem own_pl_fld {Z : State} {h : Heap} {a : Addr} {C n d : String} {v : Value} (F : Fld Z h a C n d v) : ∀ c : Cell, h[a]? = some c → c.vm.isStatics = false := fun c hc => by
  obtain ⟨cell, cf, k, i, f, h1, -, -, -, h5, -⟩ := F; cases h1.symm.trans hc; exact h5
theorem own_pl_arv {Z : State} {h : Heap} {a : Addr} {k : ClassId} {ty : FieldType} {z : Int32} {vs : List Value} {d : Value} (F : Arv Z h a k ty z vs d) : ∀ c : Cell, h[a]? = some c → c.vm.isStatics = false := fun c hc => by
  obtain ⟨cl, A, -⟩ := F; cases A.1.symm.trans hc; exact A.plain
theorem own_isr {s : State} {args : Array Value} {t : Term} (h : (Jvm.Cond.isRef t).value args s none s [] = some true) : ∃ v, t.eval args s none [] s = some v ∧ v.isRef = true := by
  simp only [Cond.value, Option.map_eq_some_iff] at h
  obtain ⟨v, h1, h2⟩ := h
  refine ⟨v, h1, ?_⟩
  cases v <;> first | rfl | cases h2
theorem own_nz {s : State} {args : Array Value} {t : Term} {z : Int32} (ev : t.eval args s none [] s = some (.int z)) (h : (Jvm.Cond.not (.eq t (.int (0 : Int32)))).value args s none s [] = some true) : ¬ (z = (0 : Int32)) := fun q => by
  have z2 : (Jvm.Cond.eq t (.int (0 : Int32))).value args s none s [] = some true := by rw [Cond.eq_ints ev (Term.int_eval 0), q]; rfl
  have h' : ((Jvm.Cond.eq t (.int (0 : Int32))).value args s none s []).map (!·) = some true := h
  rw [z2] at h'
  cases h'
theorem own_len {s : State} {args : Array Value} {t : Term} {a : Addr} {cl : Cell} {ty : FieldType} {z : Int32} (ev : t.eval args s none [] s = some (.ref a)) (A : Arr s s.heap a cl ty) (n3 : (Jvm.Cond.eq (.length t) (.int z)).value args s none s [] = some true) : cl.slots.size < 2 ^ 31 ∧ cl.slots.size.toInt32 = z := by
  have hlen := Cond.eq_int (Cond.before_iff.mpr n3) (Term.int_eval z)
  have hat : s.arrayAt? a = some cl := A.fin (Vm.Alike.refl _)
  have h31 := SBG.length_lt ev hat hlen
  obtain ⟨a', cell, e1, e2, e3⟩ := Term.length_spec hlen
  cases e1.symm.trans ev
  cases e2.symm.trans hat
  exact ⟨h31, (Value.int.inj e3).symm⟩
theorem own_elem {s : State} {args : Array Value} {t u : Term} {a : Addr} {cl : Cell} {ty : FieldType} {i : Int32} {v : Value} (ev : t.eval args s none [] s = some (.ref a)) (A : Arr s s.heap a cl ty) (h : (Jvm.Cond.eq (.elem t (.int i)) u).value args s none s [] = some true) (hu : u.eval args s none [] s = some v) (hv : v.isRef = true) : cl.slots[i.toNatClampNeg]? = some v :=
  (elem_in (Cond.eq_refs (Cond.before_iff.mpr h) hu hv) ev (Term.int_eval i) A.1).2
theorem own_fld {s : State} {args : Array Value} {t : Term} {a : Addr} {C n d : String} {z : Int32} (ev : t.eval args s none [] s = some (.ref a)) (h : (Jvm.Cond.eq (.field t C n d) (.int z)).value args s none s [] = some true) : Fld s s.heap a C n d (.int z) :=
  Fld.start ((fld_at ev).symm.trans (Cond.eq_int (Cond.before_iff.mpr h) (Term.int_eval z)))
theorem own_sta {s : State} {args : Array Value} {C n d K : String} (w1 : (Jvm.Cond.initialized C).before args s = true) (w2 : (Jvm.Cond.laysStatic C n d).before args s = true) (h : (Jvm.Cond.exactly (.static C n d) K).value args s none s [] = some true) : ∃ a : Addr, (Term.static C n d).eval args s none [] s = some (.ref a) ∧ Sta s s.heap C n d (.ref a) ∧ Exa s s.heap a K := by
  obtain ⟨a, ev⟩ := exa_v h
  exact ⟨a, ev, Sta.start ev (Or.inr ⟨w1, w2⟩), Exa.start ev h⟩
theorem own_selp {y : MethodName} {Z : State} {a0 : Array Value} {n : Nat} (hy : y.cls ≠ "java/lang/invoke/MethodHandle" ∧ y.cls ≠ "java/lang/invoke/VarHandle") (hins : (Jvm.Cond.instantiable y.cls n).before a0 Z = true) (hpriv : (Jvm.Cond.privateMethod y).before a0 Z = true) (hinst : (Jvm.Cond.instanceMethod y).before a0 Z = true) : (Jvm.Cond.selects y.cls y y).before a0 Z = true := by
  obtain ⟨c, k, hc, hk, -, hniab, -, -⟩ := Cond.instantiable_spec hins
  have hni : k.isInterface = false := (Bool.or_eq_false_iff.mp hniab).1
  obtain ⟨mk, methM, hnamed, hmethM, -, -⟩ := Cond.instanceMethod_spec hinst
  have hfound : Z.methodFound? y.cls y.name y.desc = some mk := State.methodFound?_of_named hnamed hy
  have hcls : mk.cls = c := Option.some.inj ((findClass_of_methodNamed hnamed).symm.trans hc)
  have hsel : selectMethod {} Z.vm c mk = .method mk := selectMethod_private hmethM (Cond.privateMethod_at hpriv mk methM hnamed hmethM)
  simp only [Cond.before, Cond.holds, Cond.value, hc, hfound, hnamed, hsel, hcls, hk]
  simp; exact hni
theorem own_catI (z : Int32) : (Value.int z).category = 1 := rfl
theorem own_catJ (z : Int64) : (Value.long z).category = 2 := rfl
theorem own_catR (z : Addr) : (Value.ref z).category = 1 := rfl
theorem own_catN : Value.null.category = 1 := rfl
theorem own_catD (z : UInt64) : (Value.double z).category = 2 := rfl
theorem own_same {Z : State} {a0 : Array Value} {y x2 y2 : MethodName} {K : String} (hi : (Jvm.Cond.instanceMethod y).before a0 Z = true) (hs : (Jvm.Cond.selects K x2 y2).before a0 Z = true) (e : y2.cls = y.cls) (hx : y.cls ≠ "java/lang/invoke/MethodHandle" ∧ y.cls ≠ "java/lang/invoke/VarHandle") : (Jvm.Cond.sameMethod y.cls y.cls y.name y.desc).before a0 Z = true := by
  obtain ⟨mk, meth, hn, -, -, -⟩ := Cond.instanceMethod_spec hi
  obtain ⟨c2, r2, m2, q1, q2, q3, q4, kP, hkP, hkPi⟩ := Cond.selects_spec hs
  have hf := State.methodFound?_of_named hn hx
  have hc := findClass_of_methodNamed hn
  have hc2 := findClass_of_methodNamed q3
  rw [e] at hc2
  have em : m2.cls = mk.cls := Option.some.inj (hc2.symm.trans hc)
  rw [em] at hkP
  have hn' : Z.methodNamed? ⟨y.cls, y.name, y.desc⟩ = some mk := hn
  simp [Cond.before, Cond.holds, Cond.value, hc, hf, hn', hkP, hkPi]
theorem own_nf {Z : State} {a0 : Array Value} {y x2 y2 : MethodName} {K : String} (hs : (Jvm.Cond.selects K x2 y2).before a0 Z = true) (e : y2.cls = y.cls) : NotFace Z y := fun r0 h0 => by
  obtain ⟨c2, r2, m2, q1, q2, q3, q4, kP, hkP, hkPi⟩ := Cond.selects_spec hs
  have hc := findClass_of_methodNamed h0
  have hc2 := findClass_of_methodNamed q3
  rw [e] at hc2
  have em : m2.cls = r0.cls := Option.some.inj (hc2.symm.trans hc)
  exact ⟨kP, em ▸ hkP, hkPi⟩
theorem own_declares {Z : State} {a0 : Array Value} {y : MethodName} {bytes : ByteArray} {maxL : Nat} {r : Option FieldType} (hi : (Jvm.Cond.instanceMethod y).before a0 Z = true) (hc : (Jvm.Cond.code y bytes maxL r).before a0 Z = true) : (Jvm.Cond.declares y).before a0 Z = true := by
  obtain ⟨mk, meth, hn, hm, hst, -⟩ := Cond.instanceMethod_spec hi
  obtain ⟨m2, cM, q1, -, -, -, -, -, -, hsig⟩ := Cond.code_spec hn hc
  cases hm.symm.trans q1
  simp [Cond.before, Cond.holds, Cond.value, hn, hm, hst, hsig]
def own_EL : List (String × Nat) := [("com/example/rouse/rouse/shell/ShellWords", 56)]
theorem own_wS {Z : State} {a0 : Array Value} (hw : ∀ d ∈ tables_1, d.before a0 Z = true) : ∀ a ∈ Bundle.stringAtoms, a.before a0 Z = true := by
  intro a ha
  simp only [Bundle.stringAtoms, Bundle.sN, List.mem_cons, List.not_mem_nil, or_false] at ha
  rcases ha with rfl | rfl | rfl | rfl | rfl | rfl | rfl
  · exact hw _ (List.mem_of_getElem? (i := 105) rfl)
  · exact hw _ (List.mem_of_getElem? (i := 106) rfl)
  · exact hw _ (List.mem_of_getElem? (i := 107) rfl)
  · exact hw _ (List.mem_of_getElem? (i := 108) rfl)
  · exact hw _ (List.mem_of_getElem? (i := 109) rfl)
  · exact hw _ (List.mem_of_getElem? (i := 110) rfl)
  · exact hw _ (List.mem_of_getElem? (i := 111) rfl)
theorem own_safe_arv {Z : State} {vm : Vm} {h : Heap} {a : Addr} {k : ClassId} {ty : FieldType} {z : Int32} {vs : List Value} {d : Value} (hal : Z.vm.Alike vm) (F : Arv Z h a k ty z vs d) (ht : ty ≠ .byte) : Safe Z own_EL vm h a := by
  obtain ⟨cl, A, -⟩ := F; exact Safe.arr hal A ht
theorem own_irr (w : Int32) : ¬ w < w := fun h => absurd (Int32.lt_iff_toInt_lt.mp h) (by omega)
abbrev own_in (n : Int32) : Prop := ¬ n < 0 ∧ n < (16 : Int32)
abbrev own_ok (k : Int) (w c n : Int32) : Prop := 0 ≤ w.toInt ∧ w.toInt ≤ k ∧ 0 ≤ c.toInt ∧ c.toInt ≤ k ∧ 0 ≤ n.toInt ∧ n.toInt ≤ k
def own_b (c w : Int32) : Int32 := if c < w then 1 else 0
theorem own_ne16 {n : Int32} (h : own_in n) : ¬ (n = (16 : Int32)) := fun q => by subst q; exact absurd h.2 (by decide)
theorem own_in_of {n : Int32} {k : Int} (h1 : 0 ≤ n.toInt) (h2 : n.toInt ≤ k) (h3 : k < 16) : own_in n := by
  constructor
  · rw [Int32.lt_iff_toInt_lt]; show ¬ n.toInt < 0; omega
  · rw [Int32.lt_iff_toInt_lt]; show n.toInt < 16; omega
theorem own_lt16 {n : Int32} {L : List Value} (h : own_in n) (hl : L.length = 16) : n.toNatClampNeg < L.length := by
  have h1 := h.1
  have h2 := h.2
  rw [Int32.lt_iff_toInt_lt] at h1 h2
  have e0 : (0 : Int32).toInt = 0 := rfl
  have e1 : (16 : Int32).toInt = 16 := rfl
  simp only [Int32.toNatClampNeg]; omega
theorem own_inc {n : Int32} {k : Int} (h1 : 0 ≤ n.toInt) (h2 : n.toInt ≤ k) (h3 : k < 16) : 0 ≤ (n + 1).toInt ∧ (n + 1).toInt ≤ k + 1 := by
  have a := c_iadd n 1
  have b := rng32 (n + 1)
  have e1 : (1 : Int32).toInt = 1 := rfl
  omega
theorem own_dec {c w : Int32} {k : Int} (h1 : 0 ≤ c.toInt) (h2 : c < w) (h3 : w.toInt ≤ k) (h4 : k < 16) : own_in (w - 1) := by
  have a := c_isub w 1
  have b := rng32 (w - 1)
  have e1 : (1 : Int32).toInt = 1 := rfl
  rw [Int32.lt_iff_toInt_lt] at h2
  exact own_in_of (k := k) (by omega) (by omega) h4
theorem own_get {Z : State} {h : Heap} {a : Addr} {k : ClassId} {vs : List Value} {dv : Value} {j : Int32} (V : Arv Z h a k .int (16 : Int32) vs dv) (q : own_in j) : ∃ x : Int32, vs.getD j.toNatClampNeg dv = .int x := by
  obtain ⟨cl, A, -, S, -, H, G⟩ := V
  have hin := inb_of S q
  exact fit_I (G _ (Nat.lt_of_not_le fun y => hin (Or.inr y))) (Or.inl rfl)
theorem own_b_ne {c w : Int32} (h : ¬ (own_b c w = (0 : Int32))) : c < w := by
  unfold own_b at h; by_cases q : c < w
  · exact q
  · rw [if_neg q] at h; exact absurd rfl h
def own_pos (n : Int32) : Int32 := if (0 : Int32) < n then 1 else 0
def own_not (n : Int32) : Int32 := if n = (0 : Int32) then 1 else 0
def own_enc (c : Int32) : Int32 := if c < (0 : Int32) then 0 else if (255 : Int32) < c then 0 else 1
def own_iof (c : Int32) : Int32 := if (36 : Int32) = c.toInt8.toInt32 then 0 else if (96 : Int32) = c.toInt8.toInt32 then 1 else if (34 : Int32) = c.toInt8.toInt32 then 2 else if (92 : Int32) = c.toInt8.toInt32 then 3 else if (10 : Int32) = c.toInt8.toInt32 then 4 else -1
def own_sidx (c : Int32) : Int32 := if own_enc c = (0 : Int32) then -1 else own_iof c
def own_keeps (c : Int32) : Int32 := if c = (39 : Int32) then 1 else if c = (34 : Int32) then 1 else if c = (92 : Int32) then 1 else 0
def own_open (k a b : Int32) : Int32 := if k = (0 : Int32) then 0 else if k = (1 : Int32) then own_keeps a else if a = (39 : Int32) then (if b = (39 : Int32) then 0 else 1) else if a = (34 : Int32) then (if b = (34 : Int32) then 0 else 1) else if a = (92 : Int32) then 0 else if a = (35 : Int32) then 0 else own_keeps b
theorem own_nark (c : Int32) : nar .boolean (own_keeps c) = own_keeps c := by
  unfold own_keeps; split
  · rfl
  · split
    · rfl
    · split <;> rfl
def own_tab (j : Int32) : Int32 := if j = (0 : Int32) then 10 else if j = (1 : Int32) then 39 else if j = (2 : Int32) then 34 else if j = (3 : Int32) then 92 else if j = (4 : Int32) then 35 else if j = (5 : Int32) then 32 else if j = (6 : Int32) then 9 else 97
theorem own_tabc (j : Int32) : nar .char (own_tab j) = own_tab j := by
  unfold own_tab
  by_cases h0 : j = 0
  · rw [if_pos h0]; rfl
  rw [if_neg h0]; by_cases h1 : j = 1
  · rw [if_pos h1]; rfl
  rw [if_neg h1]; by_cases h2 : j = 2
  · rw [if_pos h2]; rfl
  rw [if_neg h2]; by_cases h3 : j = 3
  · rw [if_pos h3]; rfl
  rw [if_neg h3]; by_cases h4 : j = 4
  · rw [if_pos h4]; rfl
  rw [if_neg h4]; by_cases h5 : j = 5
  · rw [if_pos h5]; rfl
  rw [if_neg h5]; by_cases h6 : j = 6
  · rw [if_pos h6]; rfl
  rw [if_neg h6]; rfl
theorem own_m15 (p : Int32) : ¬ ((p &&& (15 : Int32)) < 0) := by
  have h1 := c_mask p 15 4 (by decide) (by decide)
  rw [Int32.lt_iff_toInt_lt]; have e0 : (0 : Int32).toInt = 0 := rfl; omega
theorem own_tabv {j : Int32} (h1 : ¬ j < 0) (h2 : j < (8 : Int32)) : ([(.int (10 : Int32)), (.int (39 : Int32)), (.int (34 : Int32)), (.int (92 : Int32)), (.int (35 : Int32)), (.int (32 : Int32)), (.int (9 : Int32)), (.int (97 : Int32))] : List Value).getD j.toNatClampNeg (.int (0 : Int32)) = .int (own_tab j) := by
  rw [Int32.lt_iff_toInt_lt] at h1 h2
  have e0 : (0 : Int32).toInt = 0 := rfl
  have e8 : (8 : Int32).toInt = 8 := rfl
  have : j = 0 ∨ j = 1 ∨ j = 2 ∨ j = 3 ∨ j = 4 ∨ j = 5 ∨ j = 6 ∨ j = 7 := by
    have q : ∀ k : Int32, k.toInt = j.toInt → j = k := fun k h => Int32.toInt_inj.mp h.symm
    have : j.toInt = 0 ∨ j.toInt = 1 ∨ j.toInt = 2 ∨ j.toInt = 3 ∨ j.toInt = 4 ∨ j.toInt = 5 ∨ j.toInt = 6 ∨ j.toInt = 7 := by omega
    rcases this with h | h | h | h | h | h | h | h
    · exact Or.inl (q 0 h.symm)
    · exact Or.inr (Or.inl (q 1 h.symm))
    · exact Or.inr (Or.inr (Or.inl (q 2 h.symm)))
    · exact Or.inr (Or.inr (Or.inr (Or.inl (q 3 h.symm))))
    · exact Or.inr (Or.inr (Or.inr (Or.inr (Or.inl (q 4 h.symm)))))
    · exact Or.inr (Or.inr (Or.inr (Or.inr (Or.inr (Or.inl (q 5 h.symm))))))
    · exact Or.inr (Or.inr (Or.inr (Or.inr (Or.inr (Or.inr (Or.inl (q 6 h.symm)))))))
    · exact Or.inr (Or.inr (Or.inr (Or.inr (Or.inr (Or.inr (Or.inr (q 7 h.symm)))))))
  rcases this with rfl | rfl | rfl | rfl | rfl | rfl | rfl | rfl <;> rfl
theorem own_charc (x : Int32) : nar .char (x.toUInt32.toUInt16.toUInt32.toInt32) = x.toUInt32.toUInt16.toUInt32.toInt32 := by
  show (x.toUInt32.toUInt16.toUInt32.toInt32).toUInt32.toUInt16.toUInt32.toInt32 = _
  rw [UInt32.toUInt32_toInt32, UInt16.toUInt16_toUInt32]
def own_rq (c q e : Int32) : Int32 := if e = (0 : Int32) then (if q = (39 : Int32) then (if c = (39 : Int32) then 0 else q) else if q = (34 : Int32) then (if c = (34 : Int32) then 0 else q) else if c = (39 : Int32) then 39 else if c = (34 : Int32) then 34 else q) else q
def own_re (c q e : Int32) : Int32 := if e = (0 : Int32) then (if q = (39 : Int32) then e else if q = (34 : Int32) then (if c = (34 : Int32) then e else if c = (92 : Int32) then 1 else e) else if c = (39 : Int32) then e else if c = (34 : Int32) then e else if c = (92 : Int32) then 1 else e) else 0
def own_ric (c q e iw ic : Int32) : Int32 := if e = (0 : Int32) then (if q = (39 : Int32) then ic else if q = (34 : Int32) then ic else if c = (39 : Int32) then ic else if c = (34 : Int32) then ic else if c = (92 : Int32) then ic else if c = (32 : Int32) then ic else if c = (9 : Int32) then ic else if c = (35 : Int32) then (if iw = (0 : Int32) then 1 else ic) else ic) else ic
def own_sel (c q e a b : Int32) : Int32 := if c = (10 : Int32) then (if q = (0 : Int32) then (if e = (0 : Int32) then a else b) else b) else b
def own_Rq (c q e ic : Int32) : Int32 := own_sel c q e q (if ic = (0 : Int32) then own_rq c q e else q)
def own_Re (c q e ic : Int32) : Int32 := own_sel c q e e (if ic = (0 : Int32) then own_re c q e else e)
def own_Ric (c q e iw ic : Int32) : Int32 := own_sel c q e 0 (if ic = (0 : Int32) then own_ric c q e iw ic else ic)
def own_rlen (c q e n : Int32) : Int32 := own_sel c q e 0 (n + (1 : Int32))
abbrev own_lk (k : Int) (n : Int32) : Prop := 0 ≤ n.toInt ∧ n.toInt ≤ k
theorem own_lk_no {k : Int} {n : Int32} (h : own_lk k n) (h2 : k + 3 < 16) : ¬ ((1048576 : Int32) < (n + (1 : Int32))) := by
  have := own_inc h.1 h.2 (by omega)
  rw [Int32.lt_iff_toInt_lt]; have e1 : (1048576 : Int32).toInt = 1048576 := rfl; omega
theorem own_lk_up {k : Int} {n c q e : Int32} (h : own_lk k n) (h2 : k + 3 < 16) : own_lk (k + 2) (own_rlen c q e n) := by
  have h3 := own_inc h.1 h.2 (by omega)
  have h4 : own_lk (k + 2) 0 := ⟨by decide, by have := h.1; have := h.2; show (0 : Int) ≤ k + 2; omega⟩
  have h5 : own_lk (k + 2) (n + 1) := ⟨by omega, by omega⟩
  unfold own_rlen own_sel
  split
  · split
    · split
      · exact h4
      · exact h5
    · exact h5
  · exact h5
def own_10 (c : Int32) : Int32 := if c = (10 : Int32) then 1 else 0
def own_l9 (c1 c2 l8 : Int32) : Int32 := if c2 = (10 : Int32) then (if l8 = (0 : Int32) then (if own_open (1 : Int32) c1 c1 = (0 : Int32) then 1 else 0) else (if own_open (0 : Int32) c1 c1 = (0 : Int32) then 1 else 0)) else 0
def own_l10 (c1 c2 l8 l9 : Int32) : Int32 := if l9 = (0 : Int32) then (if l8 = (0 : Int32) then own_open (2 : Int32) c1 c2 else own_open (1 : Int32) c2 c2) else own_open (0 : Int32) c1 c2
def own_l11 (c3 l10 : Int32) : Int32 := if c3 = (10 : Int32) then (if l10 = (0 : Int32) then 1 else 0) else 0
def own_reps : List Int32 := [10, 39, 34, 92, 35, 32, 9, 97]
def own_like (c r : Int32) : Prop := (∀ q e, own_rq c q e = own_rq r q e) ∧ (∀ q e, own_re c q e = own_re r q e) ∧ (∀ q e iw ic, own_ric c q e iw ic = own_ric r q e iw ic) ∧ (∀ q e a b, own_sel c q e a b = own_sel r q e a b) ∧ (∀ k d, own_open k c d = own_open k r d) ∧ (∀ k d, own_open k d c = own_open k d r) ∧ (own_10 c = own_10 r) ∧ (∀ d l, own_l9 d c l = own_l9 d r l) ∧ (∀ l, own_l11 c l = own_l11 r l)
theorem own_rep (c : Int32) : ∃ r ∈ own_reps, own_like c r := by
  by_cases h1 : c = 10
  · exact ⟨c, by subst h1; decide, fun _ _ => rfl, fun _ _ => rfl, fun _ _ _ _ => rfl, fun _ _ _ _ => rfl, fun _ _ => rfl, fun _ _ => rfl, rfl, fun _ _ => rfl, fun _ => rfl⟩
  by_cases h2 : c = 39
  · exact ⟨c, by subst h2; decide, fun _ _ => rfl, fun _ _ => rfl, fun _ _ _ _ => rfl, fun _ _ _ _ => rfl, fun _ _ => rfl, fun _ _ => rfl, rfl, fun _ _ => rfl, fun _ => rfl⟩
  by_cases h3 : c = 34
  · exact ⟨c, by subst h3; decide, fun _ _ => rfl, fun _ _ => rfl, fun _ _ _ _ => rfl, fun _ _ _ _ => rfl, fun _ _ => rfl, fun _ _ => rfl, rfl, fun _ _ => rfl, fun _ => rfl⟩
  by_cases h4 : c = 92
  · exact ⟨c, by subst h4; decide, fun _ _ => rfl, fun _ _ => rfl, fun _ _ _ _ => rfl, fun _ _ _ _ => rfl, fun _ _ => rfl, fun _ _ => rfl, rfl, fun _ _ => rfl, fun _ => rfl⟩
  by_cases h5 : c = 35
  · exact ⟨c, by subst h5; decide, fun _ _ => rfl, fun _ _ => rfl, fun _ _ _ _ => rfl, fun _ _ _ _ => rfl, fun _ _ => rfl, fun _ _ => rfl, rfl, fun _ _ => rfl, fun _ => rfl⟩
  by_cases h6 : c = 32
  · exact ⟨c, by subst h6; decide, fun _ _ => rfl, fun _ _ => rfl, fun _ _ _ _ => rfl, fun _ _ _ _ => rfl, fun _ _ => rfl, fun _ _ => rfl, rfl, fun _ _ => rfl, fun _ => rfl⟩
  by_cases h7 : c = 9
  · exact ⟨c, by subst h7; decide, fun _ _ => rfl, fun _ _ => rfl, fun _ _ _ _ => rfl, fun _ _ _ _ => rfl, fun _ _ => rfl, fun _ _ => rfl, rfl, fun _ _ => rfl, fun _ => rfl⟩
  have g1 : ¬ ((97 : Int32) = 10) := by decide
  have g2 : ¬ ((97 : Int32) = 39) := by decide
  have g3 : ¬ ((97 : Int32) = 34) := by decide
  have g4 : ¬ ((97 : Int32) = 92) := by decide
  have g5 : ¬ ((97 : Int32) = 35) := by decide
  have g6 : ¬ ((97 : Int32) = 32) := by decide
  have g7 : ¬ ((97 : Int32) = 9) := by decide
  refine ⟨97, by decide, fun q e => ?_, fun q e => ?_, fun q e iw ic => ?_, fun q e a b => ?_, fun k d => ?_, fun k d => ?_, ?_, fun d l => ?_, fun l => ?_⟩
  · simp only [own_rq, if_neg h2, if_neg h3, if_neg g2, if_neg g3]
  · simp only [own_re, if_neg h2, if_neg h3, if_neg h4, if_neg g2, if_neg g3, if_neg g4]
  · simp only [own_ric, if_neg h2, if_neg h3, if_neg h4, if_neg h5, if_neg h6, if_neg h7, if_neg g2, if_neg g3, if_neg g4, if_neg g5, if_neg g6, if_neg g7]
  · simp only [own_sel, if_neg h1, if_neg g1]
  · simp only [own_open, own_keeps, if_neg h2, if_neg h3, if_neg h4, if_neg h5, if_neg g2, if_neg g3, if_neg g4, if_neg g5]
  · simp only [own_open, own_keeps, if_neg h2, if_neg h3, if_neg h4, if_neg h5, if_neg g2, if_neg g3, if_neg g4, if_neg g5]
  · simp only [own_10, if_neg h1, if_neg g1]
  · simp only [own_l9, if_neg h1, if_neg g1]
  · simp only [own_l11, if_neg h1, if_neg g1]
theorem own_fin2 : ∀ c1 ∈ own_reps, ∀ c2 ∈ own_reps, own_pos (own_rlen c2 (own_Rq c1 0 0 0) (own_Re c1 0 0 0) (own_rlen c1 0 0 0)) = own_not (own_l9 c1 c2 (own_10 c1)) := by decide +kernel
theorem own_fin3 : ∀ c1 ∈ own_reps, ∀ c2 ∈ own_reps, ∀ c3 ∈ own_reps, own_pos (own_rlen c3 (own_Rq c2 (own_Rq c1 0 0 0) (own_Re c1 0 0 0) (own_Ric c1 0 0 0 0)) (own_Re c2 (own_Rq c1 0 0 0) (own_Re c1 0 0 0) (own_Ric c1 0 0 0 0)) (own_rlen c2 (own_Rq c1 0 0 0) (own_Re c1 0 0 0) (own_rlen c1 0 0 0))) = own_not (own_l11 c3 (own_l10 c1 c2 (own_10 c1) (own_l9 c1 c2 (own_10 c1)))) := by decide +kernel
theorem own_law1 (c1 : Int32) : own_pos (own_rlen c1 0 0 0) = own_not (own_10 c1) := by
  unfold own_rlen own_sel own_10 own_not own_pos
  by_cases h : c1 = 10
  · rw [if_pos h, if_pos h]; decide
  · rw [if_neg h, if_neg h]; decide
theorem own_law2 (c1 c2 : Int32) : own_pos (own_rlen c2 (own_Rq c1 0 0 0) (own_Re c1 0 0 0) (own_rlen c1 0 0 0)) = own_not (own_l9 c1 c2 (own_10 c1)) := by
  obtain ⟨r1, m1, a1, a2, a3, a4, a5, a6, a7, a8, a9⟩ := own_rep c1
  obtain ⟨r2, m2, b1, b2, b3, b4, b5, b6, b7, b8, b9⟩ := own_rep c2
  have e : ∀ l, own_l9 c1 r2 l = own_l9 r1 r2 l := fun l => by simp only [own_l9, a5, a6]
  have := own_fin2 r1 m1 r2 m2
  simp only [own_rlen, own_Rq, own_Re, own_Ric] at this ⊢
  simp only [a1, a2, a3, a4, b1, b2, b3, b4, a7, b8, e]
  exact this
theorem own_law3 (c1 c2 c3 : Int32) : own_pos (own_rlen c3 (own_Rq c2 (own_Rq c1 0 0 0) (own_Re c1 0 0 0) (own_Ric c1 0 0 0 0)) (own_Re c2 (own_Rq c1 0 0 0) (own_Re c1 0 0 0) (own_Ric c1 0 0 0 0)) (own_rlen c2 (own_Rq c1 0 0 0) (own_Re c1 0 0 0) (own_rlen c1 0 0 0))) = own_not (own_l11 c3 (own_l10 c1 c2 (own_10 c1) (own_l9 c1 c2 (own_10 c1)))) := by
  obtain ⟨r1, m1, a1, a2, a3, a4, a5, a6, a7, a8, a9⟩ := own_rep c1
  obtain ⟨r2, m2, b1, b2, b3, b4, b5, b6, b7, b8, b9⟩ := own_rep c2
  obtain ⟨r3, m3, d1, d2, d3, d4, d5, d6, d7, d8, d9⟩ := own_rep c3
  have e : ∀ l, own_l9 c1 r2 l = own_l9 r1 r2 l := fun l => by simp only [own_l9, a5, a6]
  have e10 : ∀ l k, own_l10 c1 c2 l k = own_l10 r1 r2 l k := fun l k => by simp only [own_l10, a5, a6, b5, b6]
  have := own_fin3 r1 m1 r2 m2 r3 m3
  simp only [own_rlen, own_Rq, own_Re, own_Ric] at this ⊢
  simp only [a1, a2, a3, a4, b1, b2, b3, b4, d4, a7, b8, d9, e, e10]
  exact this
theorem own_up {x a b : Int32} (h : x < a) (q : a ≤ b) : x < b := by
  rw [Int32.lt_iff_toInt_lt] at h ⊢; rw [Int32.le_iff_toInt_le] at q; omega
theorem own_not1 {a l : Int32} (h : a = own_not l) (q : l = 0) : a = 1 := by rw [h, own_not, if_pos q]
theorem own_not0 {a l : Int32} (h : a = own_not l) (q : ¬ l = 0) : a = 0 := by rw [h, own_not, if_neg q]
theorem pd_0 : parseMethodDescriptor "(II)V" = some ⟨[.int, .int], none⟩ := by decide +kernel
theorem pd_1 : parseMethodDescriptor "()Lcom/example/rouse/rouse/shell/CommandLine;" = some ⟨[], some (.object "com/example/rouse/rouse/shell/CommandLine")⟩ := by decide +kernel
theorem pd_2 : parseMethodDescriptor "()V" = some ⟨[], none⟩ := by decide +kernel
theorem pd_3 : parseMethodDescriptor "()Z" = some ⟨[], some .boolean⟩ := by decide +kernel
theorem pd_4 : parseMethodDescriptor "(I)Z" = some ⟨[.int], some .boolean⟩ := by decide +kernel
theorem pd_5 : parseMethodDescriptor "(II)I" = some ⟨[.int, .int], some .int⟩ := by decide +kernel
theorem pd_6 : parseMethodDescriptor "([BIII)I" = some ⟨[(.array .byte), .int, .int, .int], some .int⟩ := by decide +kernel
theorem pd_7 : parseMethodDescriptor "()B" = some ⟨[], some .byte⟩ := by decide +kernel
theorem pd_8 : parseMethodDescriptor "()I" = some ⟨[], some .int⟩ := by decide +kernel
theorem pd_9 : parseMethodDescriptor "(C)V" = some ⟨[.char], none⟩ := by decide +kernel
theorem pd_10 : parseMethodDescriptor "(I)I" = some ⟨[.int], some .int⟩ := by decide +kernel
theorem pd_11 : parseMethodDescriptor "()Ljava/util/List;" = some ⟨[], some (.object "java/util/List")⟩ := by decide +kernel
theorem pd_12 : parseMethodDescriptor "()Ljava/lang/Iterable;" = some ⟨[], some (.object "java/lang/Iterable")⟩ := by decide +kernel
theorem pd_13 : parseMethodDescriptor "(C)Z" = some ⟨[.char], some .boolean⟩ := by decide +kernel
theorem pd_14 : parseMethodDescriptor "(I)C" = some ⟨[.int], some .char⟩ := by decide +kernel
theorem pd_15 : parseMethodDescriptor "(ICC)Z" = some ⟨[.int, .char, .char], some .boolean⟩ := by decide +kernel
theorem pd_16 : parseMethodDescriptor "(C)Ljava/lang/Iterable;" = some ⟨[.char], some (.object "java/lang/Iterable")⟩ := by decide +kernel
theorem d6_0 : decode prog_64_method_1_code 0 = .ok (.aload_n 0, 1) := by decide +kernel
theorem d6_1 : decode prog_64_method_1_code 1 = .ok (.invokespecial 1, 3) := by decide +kernel
theorem d6_4 : decode prog_64_method_1_code 4 = .ok (.aload_n 0, 1) := by decide +kernel
theorem d6_5 : decode prog_64_method_1_code 5 = .ok (.bipush 16, 2) := by decide +kernel
theorem d6_7 : decode prog_64_method_1_code 7 = .ok (.newarray .char, 2) := by decide +kernel
theorem d6_9 : decode prog_64_method_1_code 9 = .ok (.putfield 9, 3) := by decide +kernel
theorem d6_12 : decode prog_64_method_1_code 12 = .ok (.aload_n 0, 1) := by decide +kernel
theorem d6_13 : decode prog_64_method_1_code 13 = .ok (.bipush 16, 2) := by decide +kernel
theorem d6_15 : decode prog_64_method_1_code 15 = .ok (.newarray .int, 2) := by decide +kernel
theorem d6_17 : decode prog_64_method_1_code 17 = .ok (.putfield 13, 3) := by decide +kernel
theorem d6_20 : decode prog_64_method_1_code 20 = .ok (.aload_n 0, 1) := by decide +kernel
theorem d6_21 : decode prog_64_method_1_code 21 = .ok (.iload_n 1, 1) := by decide +kernel
theorem d6_22 : decode prog_64_method_1_code 22 = .ok (.putfield 17, 3) := by decide +kernel
theorem d6_25 : decode prog_64_method_1_code 25 = .ok (.aload_n 0, 1) := by decide +kernel
theorem d6_26 : decode prog_64_method_1_code 26 = .ok (.iload_n 2, 1) := by decide +kernel
theorem d6_27 : decode prog_64_method_1_code 27 = .ok (.putfield 21, 3) := by decide +kernel
theorem d6_30 : decode prog_64_method_1_code 30 = .ok (.return_, 1) := by decide +kernel
theorem pn_com_example_rouse_rouse_shell_CommandLine : plainName "com/example/rouse/rouse/shell/CommandLine" = true := by first | (simp [plainName, overriddenIn]; done) | decide +kernel
theorem ef_6 (m : MethodId) (a1 : Addr) (p2 : Int32) (p3 : Int32) : entryFrame m #[(.ref a1), (.int p2), (.int p3)] 3 = mkF m 0 #[.val (.ref a1), .val (.int p2), .val (.int p3)] [] := by first | (simp [entryFrame, mkF, argsToLocals, Value.category]; done) | rfl
def Q6 (Z : State) (a1 : Addr) (p2 : Int32) (p3 : Int32) (u1 : Value) (u2 : Value) (u3 : Value) (u4 : Value) (h0 : Heap) (n0 : Nat) (v : Option Value) (h : Heap) (L : List Loc) : Prop := ∃ (cb : Addr) (ck : ClassId) (cvs : List Value) (wb : Addr) (wk : ClassId) (wvs : List Value), v = none ∧ Fr n0 L ∧ Keep h0 h [a1] ∧ Fld Z h a1 "com/example/rouse/rouse/shell/CommandLine" "characters" "[C" (.ref cb) ∧ Fld Z h a1 "com/example/rouse/rouse/shell/CommandLine" "wordEnds" "[I" (.ref wb) ∧ Fld Z h a1 "com/example/rouse/rouse/shell/CommandLine" "length" "I" (.int (0 : Int32)) ∧ Fld Z h a1 "com/example/rouse/rouse/shell/CommandLine" "words" "I" (.int (0 : Int32)) ∧ Fld Z h a1 "com/example/rouse/rouse/shell/CommandLine" "commandStart" "I" (.int (0 : Int32)) ∧ h0.size ≤ cb ∧ h0.size ≤ wb ∧ cb ≠ wb ∧ Arv Z h cb ck .char (16 : Int32) cvs (.int (0 : Int32)) ∧ Arv Z h wb wk .int (16 : Int32) wvs (.int (0 : Int32)) ∧ cvs.length = 16 ∧ wvs.length = 16
set_option maxRecDepth 65536 in
set_option maxHeartbeats 40000000 in
theorem rm6 (l : Launch) (Z : State) (a0 : Array Value) (hw : ∀ d ∈ tables_1, d.before a0 Z = true) (ws : List Jvm.Cond) (a1 : Addr) (p2 : Int32) (p3 : Int32) (u1 : Value) (u2 : Value) (u3 : Value) (u4 : Value) (h0 : Heap) (n0 : Nat) (Z0 : n0 ≤ h0.size) (H0 : Exa Z h0 a1 "com/example/rouse/rouse/shell/CommandLine") (H1 : Fld Z h0 a1 "com/example/rouse/rouse/shell/CommandLine" "characters" "[C" u1) (H2 : Fld Z h0 a1 "com/example/rouse/rouse/shell/CommandLine" "wordEnds" "[I" u2) (H3 : Fld Z h0 a1 "com/example/rouse/rouse/shell/CommandLine" "maxCharacters" "I" u3) (H4 : Fld Z h0 a1 "com/example/rouse/rouse/shell/CommandLine" "maxWords" "I" u4) (H5 : Fld Z h0 a1 "com/example/rouse/rouse/shell/CommandLine" "length" "I" (.int (0 : Int32))) (H6 : Fld Z h0 a1 "com/example/rouse/rouse/shell/CommandLine" "words" "I" (.int (0 : Int32))) (H7 : Fld Z h0 a1 "com/example/rouse/rouse/shell/CommandLine" "commandStart" "I" (.int (0 : Int32))) (H8 : n0 ≤ a1) :
    MetFree l (⟨"com/example/rouse/rouse/shell/CommandLine", "<init>", "(II)V"⟩ : MethodName) (head1 (Jvm.Cond.code (⟨"com/example/rouse/rouse/shell/CommandLine", "<init>", "(II)V"⟩ : MethodName) prog_64_method_1_code 3 none :: ws) ({ frames := 1, cells := 2, slots := 32, locals := 12 } : Room)) (fun a U => a = #[(.ref a1), (.int p2), (.int p3)] ∧ Z.Warmed39 U.vm ∧ U.heap = h0) (fun _ _ _ _ _ => True) (fun _ U o U' => ∃ v L, o = .returned v ∧ Q6 Z a1 p2 p3 u1 u2 u3 u4 h0 n0 v U'.heap L ∧ FrameEnd U o U' L ({ frames := 1, cells := 2, slots := 32, locals := 12 } : Room).cells ({ frames := 1, cells := 2, slots := 32, locals := 12 } : Room).slots) := by
  refine MetFree.of_bodySF (plainFor_of_name pn_com_example_rouse_rouse_shell_CommandLine) hisR ?_
  intro p e s m args below meth c s₁ Bd hml0 hP hK
  obtain ⟨rfl, hZ, hh⟩ := hP
  have hx := Bd.exec
  have hby := Bd.bytes
  have hml : c.maxLocals = 3 := hml0
  have hown : s.vm.findClass "com/example/rouse/rouse/shell/CommandLine" = some m.cls := findClass_of_methodNamed Bd.named
  have hnm := (name_of_methodNamed Bd.named Bd.method).1
  have X0 : Stand p l e ({ frames := 1, cells := 2, slots := 32, locals := 12 } : Room) s m #[(.ref a1), (.int p2), (.int p3)] below meth c s₁ [] 0 0 := Stand.of_body Bd
  have e0 : s₁.heap = h0 := by rw [← hh, Bd.state]; rfl
  have N0 := Fr.nil n0
  have pre0 : ∀ t, Steps p.tables e below (s₁.setTop (mkF m 0 #[.val (.ref a1), .val (.int p2), .val (.int p3)] [])) t → Steps p.tables e below (s₁.setTop (entryFrame m #[(.ref a1), (.int p2), (.int p3)] 3)) t := fun t k => castTop (ef_6 m a1 p2 p3) k
  obtain ⟨T101, X101, e101, st101⟩ := initO X0 hx hZ hown (hw _ (List.mem_of_getElem? (i := 28) rfl)) (hw _ (List.mem_of_getElem? (i := 15) rfl)) (hw _ (List.mem_of_getElem? (i := 16) rfl)) e0 (g := (mkF m 1 #[.val (.ref a1), .val (.int p2), .val (.int p3)] [(.ref a1)])) rfl (by rw [hml]; rfl) rfl (hb hby d6_1) (by decide) (W := 0) (by show 2 * 0 + _ ≤ _; exact Nat.le_of_eq rfl) (by decide)
  obtain ⟨T102, h102, k102, X102, e102, E102, A102, Qe102, st102⟩ := newPE X101 hx hZ (hw _ (List.mem_of_getElem? (i := 4) rfl)) e101 (g := (mkF m 7 #[.val (.ref a1), .val (.int p2), .val (.int p3)] [(.int (16 : Int32)), (.ref a1)])) rfl (hb hby d6_7) rfl (by decide) (cap := 16) (by decide) (by decide) (by decide) (by decide) (ad := "[C") (by decide)
  obtain ⟨b102, g102⟩ : ∃ z, z = h0.size := ⟨_, rfl⟩
  rw [← g102] at A102 Qe102 st102
  have V102 : Arv Z h102 b102 k102 .char (16 : Int32) [(.int (0 : Int32)), (.int (0 : Int32)), (.int (0 : Int32)), (.int (0 : Int32)), (.int (0 : Int32)), (.int (0 : Int32)), (.int (0 : Int32)), (.int (0 : Int32)), (.int (0 : Int32)), (.int (0 : Int32)), (.int (0 : Int32)), (.int (0 : Int32)), (.int (0 : Int32)), (.int (0 : Int32)), (.int (0 : Int32)), (.int (0 : Int32))] (.int (0 : Int32)) := (Arv.new A102 (by decide)).pad (pad_rep [] (.int (0 : Int32)) 16)
  have f103 : Fld Z h102 a1 "com/example/rouse/rouse/shell/CommandLine" "characters" "[C" u1 := (H1.ext E102)
  have f104 : Exa Z h102 a1 "com/example/rouse/rouse/shell/CommandLine" := (H0.ext E102)
  obtain ⟨T105, h105, X105, e105, W105, st105⟩ := putF X102 hx hZ hown (host := "") (Or.inl (hw _ (List.mem_of_getElem? (i := 29) rfl))) Via.refl e102 f103 f104 (Or.inl (hw _ (List.mem_of_getElem? (i := 30) rfl))) (hw _ (List.mem_of_getElem? (i := 21) rfl)) (ty := (.array .char)) (by decide) rfl rfl (g := (mkF m 9 #[.val (.ref a1), .val (.int p2), .val (.int p3)] [(.ref b102), (.ref a1)])) rfl rfl (hb hby d6_9)
  have Fw105 := f103.same W105
  have N105 := Fr.snoc X105 N0 H8
  obtain ⟨T106, h106, k106, X106, e106, E106, A106, Qe106, st106⟩ := newPE X105 hx hZ (hw _ (List.mem_of_getElem? (i := 31) rfl)) e105 (g := (mkF m 15 #[.val (.ref a1), .val (.int p2), .val (.int p3)] [(.int (16 : Int32)), (.ref a1)])) rfl (hb hby d6_15) rfl (by decide) (cap := 16) (by decide) (by decide) (by decide) (by decide) (ad := "[I") (by decide)
  obtain ⟨b106, g106⟩ : ∃ z, z = h105.size := ⟨_, rfl⟩
  rw [← g106] at A106 Qe106 st106
  have V106 : Arv Z h106 b106 k106 .int (16 : Int32) [(.int (0 : Int32)), (.int (0 : Int32)), (.int (0 : Int32)), (.int (0 : Int32)), (.int (0 : Int32)), (.int (0 : Int32)), (.int (0 : Int32)), (.int (0 : Int32)), (.int (0 : Int32)), (.int (0 : Int32)), (.int (0 : Int32)), (.int (0 : Int32)), (.int (0 : Int32)), (.int (0 : Int32)), (.int (0 : Int32)), (.int (0 : Int32))] (.int (0 : Int32)) := (Arv.new A106 (by decide)).pad (pad_rep [] (.int (0 : Int32)) 16)
  have f107 : Fld Z h106 a1 "com/example/rouse/rouse/shell/CommandLine" "wordEnds" "[I" u2 := (((H2.ext E102).other W105 (Or.inr (slot_ne (Or.inl (hw _ (List.mem_of_getElem? (i := 33) rfl))) (Or.inl (hw _ (List.mem_of_getElem? (i := 30) rfl))) (by decide) (t := (.array .int)) (t' := (.array .char)) (by decide) (by decide)))).ext E106)
  have f108 : Exa Z h106 a1 "com/example/rouse/rouse/shell/CommandLine" := ((f104.wr W105).ext E106)
  obtain ⟨T109, h109, X109, e109, W109, st109⟩ := putF X106 hx hZ hown (host := "") (Or.inl (hw _ (List.mem_of_getElem? (i := 32) rfl))) Via.refl e106 f107 f108 (Or.inl (hw _ (List.mem_of_getElem? (i := 33) rfl))) (hw _ (List.mem_of_getElem? (i := 21) rfl)) (ty := (.array .int)) (by decide) rfl rfl (g := (mkF m 17 #[.val (.ref a1), .val (.int p2), .val (.int p3)] [(.ref b106), (.ref a1)])) rfl rfl (hb hby d6_17)
  have Fw109 := f107.same W109
  have N109 := Fr.snoc X109 N105 H8
  have f110 : Fld Z h109 a1 "com/example/rouse/rouse/shell/CommandLine" "maxCharacters" "I" u3 := ((((H3.ext E102).other W105 (Or.inr (slot_ne (Or.inr (hw _ (List.mem_of_getElem? (i := 35) rfl))) (Or.inl (hw _ (List.mem_of_getElem? (i := 30) rfl))) (by decide) (t := .int) (t' := (.array .char)) (by decide) (by decide)))).ext E106).other W109 (Or.inr (slot_ne (Or.inr (hw _ (List.mem_of_getElem? (i := 35) rfl))) (Or.inl (hw _ (List.mem_of_getElem? (i := 33) rfl))) (by decide) (t := .int) (t' := (.array .int)) (by decide) (by decide))))
  have f111 : Exa Z h109 a1 "com/example/rouse/rouse/shell/CommandLine" := (f108.wr W109)
  obtain ⟨T112, h112, X112, e112, W112, st112⟩ := putF X109 hx hZ hown (host := "") (Or.inl (hw _ (List.mem_of_getElem? (i := 34) rfl))) Via.refl e109 f110 f111 (Or.inr ⟨(hw _ (List.mem_of_getElem? (i := 35) rfl)), rfl, hnm⟩) (hw _ (List.mem_of_getElem? (i := 21) rfl)) (ty := .int) (by decide) rfl rfl (g := (mkF m 22 #[.val (.ref a1), .val (.int p2), .val (.int p3)] [(.int p2), (.ref a1)])) rfl rfl (hb hby d6_22)
  have Fw112 := f110.same W112
  have N112 := Fr.snoc X112 N109 H8
  have f113 : Fld Z h112 a1 "com/example/rouse/rouse/shell/CommandLine" "maxWords" "I" u4 := (((((H4.ext E102).other W105 (Or.inr (slot_ne (Or.inr (hw _ (List.mem_of_getElem? (i := 37) rfl))) (Or.inl (hw _ (List.mem_of_getElem? (i := 30) rfl))) (by decide) (t := .int) (t' := (.array .char)) (by decide) (by decide)))).ext E106).other W109 (Or.inr (slot_ne (Or.inr (hw _ (List.mem_of_getElem? (i := 37) rfl))) (Or.inl (hw _ (List.mem_of_getElem? (i := 33) rfl))) (by decide) (t := .int) (t' := (.array .int)) (by decide) (by decide)))).other W112 (Or.inr (slot_ne (Or.inr (hw _ (List.mem_of_getElem? (i := 37) rfl))) (Or.inr (hw _ (List.mem_of_getElem? (i := 35) rfl))) (by decide) (t := .int) (t' := .int) (by decide) (by decide))))
  have f114 : Exa Z h112 a1 "com/example/rouse/rouse/shell/CommandLine" := (f111.wr W112)
  obtain ⟨T115, h115, X115, e115, W115, st115⟩ := putF X112 hx hZ hown (host := "") (Or.inl (hw _ (List.mem_of_getElem? (i := 36) rfl))) Via.refl e112 f113 f114 (Or.inr ⟨(hw _ (List.mem_of_getElem? (i := 37) rfl)), rfl, hnm⟩) (hw _ (List.mem_of_getElem? (i := 21) rfl)) (ty := .int) (by decide) rfl rfl (g := (mkF m 27 #[.val (.ref a1), .val (.int p2), .val (.int p3)] [(.int p3), (.ref a1)])) rfl rfl (hb hby d6_27)
  have Fw115 := f113.same W115
  have N115 := Fr.snoc X115 N112 H8
  have f116 : Fld Z h115 a1 "com/example/rouse/rouse/shell/CommandLine" "characters" "[C" (.ref b102) := ((((Fw105.ext E106).other W109 (Or.inr (slot_ne (Or.inl (hw _ (List.mem_of_getElem? (i := 30) rfl))) (Or.inl (hw _ (List.mem_of_getElem? (i := 33) rfl))) (by decide) (t := (.array .char)) (t' := (.array .int)) (by decide) (by decide)))).other W112 (Or.inr (slot_ne (Or.inl (hw _ (List.mem_of_getElem? (i := 30) rfl))) (Or.inr (hw _ (List.mem_of_getElem? (i := 35) rfl))) (by decide) (t := (.array .char)) (t' := .int) (by decide) (by decide)))).other W115 (Or.inr (slot_ne (Or.inl (hw _ (List.mem_of_getElem? (i := 30) rfl))) (Or.inr (hw _ (List.mem_of_getElem? (i := 37) rfl))) (by decide) (t := (.array .char)) (t' := .int) (by decide) (by decide))))
  have f117 : Fld Z h115 a1 "com/example/rouse/rouse/shell/CommandLine" "wordEnds" "[I" (.ref b106) := ((Fw109.other W112 (Or.inr (slot_ne (Or.inl (hw _ (List.mem_of_getElem? (i := 33) rfl))) (Or.inr (hw _ (List.mem_of_getElem? (i := 35) rfl))) (by decide) (t := (.array .int)) (t' := .int) (by decide) (by decide)))).other W115 (Or.inr (slot_ne (Or.inl (hw _ (List.mem_of_getElem? (i := 33) rfl))) (Or.inr (hw _ (List.mem_of_getElem? (i := 37) rfl))) (by decide) (t := (.array .int)) (t' := .int) (by decide) (by decide))))
  have f118 : Fld Z h115 a1 "com/example/rouse/rouse/shell/CommandLine" "length" "I" (.int (0 : Int32)) := ((((((H5.ext E102).other W105 (Or.inr (slot_ne (Or.inl (hw _ (List.mem_of_getElem? (i := 79) rfl))) (Or.inl (hw _ (List.mem_of_getElem? (i := 30) rfl))) (by decide) (t := .int) (t' := (.array .char)) (by decide) (by decide)))).ext E106).other W109 (Or.inr (slot_ne (Or.inl (hw _ (List.mem_of_getElem? (i := 79) rfl))) (Or.inl (hw _ (List.mem_of_getElem? (i := 33) rfl))) (by decide) (t := .int) (t' := (.array .int)) (by decide) (by decide)))).other W112 (Or.inr (slot_ne (Or.inl (hw _ (List.mem_of_getElem? (i := 79) rfl))) (Or.inr (hw _ (List.mem_of_getElem? (i := 35) rfl))) (by decide) (t := .int) (t' := .int) (by decide) (by decide)))).other W115 (Or.inr (slot_ne (Or.inl (hw _ (List.mem_of_getElem? (i := 79) rfl))) (Or.inr (hw _ (List.mem_of_getElem? (i := 37) rfl))) (by decide) (t := .int) (t' := .int) (by decide) (by decide))))
  have f119 : Fld Z h115 a1 "com/example/rouse/rouse/shell/CommandLine" "words" "I" (.int (0 : Int32)) := ((((((H6.ext E102).other W105 (Or.inr (slot_ne (Or.inl (hw _ (List.mem_of_getElem? (i := 92) rfl))) (Or.inl (hw _ (List.mem_of_getElem? (i := 30) rfl))) (by decide) (t := .int) (t' := (.array .char)) (by decide) (by decide)))).ext E106).other W109 (Or.inr (slot_ne (Or.inl (hw _ (List.mem_of_getElem? (i := 92) rfl))) (Or.inl (hw _ (List.mem_of_getElem? (i := 33) rfl))) (by decide) (t := .int) (t' := (.array .int)) (by decide) (by decide)))).other W112 (Or.inr (slot_ne (Or.inl (hw _ (List.mem_of_getElem? (i := 92) rfl))) (Or.inr (hw _ (List.mem_of_getElem? (i := 35) rfl))) (by decide) (t := .int) (t' := .int) (by decide) (by decide)))).other W115 (Or.inr (slot_ne (Or.inl (hw _ (List.mem_of_getElem? (i := 92) rfl))) (Or.inr (hw _ (List.mem_of_getElem? (i := 37) rfl))) (by decide) (t := .int) (t' := .int) (by decide) (by decide))))
  have f120 : Fld Z h115 a1 "com/example/rouse/rouse/shell/CommandLine" "commandStart" "I" (.int (0 : Int32)) := ((((((H7.ext E102).other W105 (Or.inr (slot_ne (Or.inl (hw _ (List.mem_of_getElem? (i := 103) rfl))) (Or.inl (hw _ (List.mem_of_getElem? (i := 30) rfl))) (by decide) (t := .int) (t' := (.array .char)) (by decide) (by decide)))).ext E106).other W109 (Or.inr (slot_ne (Or.inl (hw _ (List.mem_of_getElem? (i := 103) rfl))) (Or.inl (hw _ (List.mem_of_getElem? (i := 33) rfl))) (by decide) (t := .int) (t' := (.array .int)) (by decide) (by decide)))).other W112 (Or.inr (slot_ne (Or.inl (hw _ (List.mem_of_getElem? (i := 103) rfl))) (Or.inr (hw _ (List.mem_of_getElem? (i := 35) rfl))) (by decide) (t := .int) (t' := .int) (by decide) (by decide)))).other W115 (Or.inr (slot_ne (Or.inl (hw _ (List.mem_of_getElem? (i := 103) rfl))) (Or.inr (hw _ (List.mem_of_getElem? (i := 37) rfl))) (by decide) (t := .int) (t' := .int) (by decide) (by decide))))
  have ne121 : b102 ≠ b106 := (Nat.ne_of_lt (Nat.lt_of_lt_of_le (Qe102.wr W105).lt (Nat.le_of_eq g106.symm)))
  have ne122 : a1 ≠ b102 := (Nat.ne_of_lt (Nat.lt_of_lt_of_le H0.lt (Nat.le_of_eq g102.symm)))
  have f123 : Arv Z h115 b102 k102 .char (16 : Int32) [(.int (0 : Int32)), (.int (0 : Int32)), (.int (0 : Int32)), (.int (0 : Int32)), (.int (0 : Int32)), (.int (0 : Int32)), (.int (0 : Int32)), (.int (0 : Int32)), (.int (0 : Int32)), (.int (0 : Int32)), (.int (0 : Int32)), (.int (0 : Int32)), (.int (0 : Int32)), (.int (0 : Int32)), (.int (0 : Int32)), (.int (0 : Int32))] (.int (0 : Int32)) := (((((V102.other W105 (Ne.symm ne122)).ext E106).other W109 (Ne.symm ne122)).other W112 (Ne.symm ne122)).other W115 (Ne.symm ne122))
  have ne124 : a1 ≠ b106 := (Nat.ne_of_lt (Nat.lt_of_lt_of_le (f104.wr W105).lt (Nat.le_of_eq g106.symm)))
  have f125 : Arv Z h115 b106 k106 .int (16 : Int32) [(.int (0 : Int32)), (.int (0 : Int32)), (.int (0 : Int32)), (.int (0 : Int32)), (.int (0 : Int32)), (.int (0 : Int32)), (.int (0 : Int32)), (.int (0 : Int32)), (.int (0 : Int32)), (.int (0 : Int32)), (.int (0 : Int32)), (.int (0 : Int32)), (.int (0 : Int32)), (.int (0 : Int32)), (.int (0 : Int32)), (.int (0 : Int32))] (.int (0 : Int32)) := (((V106.other W109 (Ne.symm ne124)).other W112 (Ne.symm ne124)).other W115 (Ne.symm ne124))
  obtain ⟨fs, hr, hrun, hended, hW, hsame⟩ := X115.leave (v := none) (fun _ => rfl)
  refine ⟨_, _, pre0 _ ?_, hrun, hended, _, _, rfl, ?_, ⟨_, rfl⟩, hW, hsame.mono (by decide) (by decide)⟩
  · skip
    show Steps p.tables e below (s₁.setTop (mkF m 0 #[.val (.ref a1), .val (.int p2), .val (.int p3)] [])) _
    refine XS.aloadN X0.here hx rfl (hb hby d6_0) rfl rfl ?_
    show Steps p.tables e below (s₁.setTop (mkF m 1 #[.val (.ref a1), .val (.int p2), .val (.int p3)] [(.ref a1)])) _
    refine st101 _ ?_
    show Steps p.tables e below (T101.setTop (mkF m 4 #[.val (.ref a1), .val (.int p2), .val (.int p3)] [])) _
    refine XS.aloadN X101.here hx rfl (hb hby d6_4) rfl rfl ?_
    show Steps p.tables e below (T101.setTop (mkF m 5 #[.val (.ref a1), .val (.int p2), .val (.int p3)] [(.ref a1)])) _
    refine XS.bipush X101.here hx rfl (hb hby d6_5) ?_
    show Steps p.tables e below (T101.setTop (mkF m 7 #[.val (.ref a1), .val (.int p2), .val (.int p3)] [(.int (16 : Int32)), (.ref a1)])) _
    refine st102 _ ?_
    show Steps p.tables e below (T102.setTop (mkF m 9 #[.val (.ref a1), .val (.int p2), .val (.int p3)] [(.ref b102), (.ref a1)])) _
    refine st105 _ ?_
    show Steps p.tables e below (T105.setTop (mkF m 12 #[.val (.ref a1), .val (.int p2), .val (.int p3)] [])) _
    refine XS.aloadN X105.here hx rfl (hb hby d6_12) rfl rfl ?_
    show Steps p.tables e below (T105.setTop (mkF m 13 #[.val (.ref a1), .val (.int p2), .val (.int p3)] [(.ref a1)])) _
    refine XS.bipush X105.here hx rfl (hb hby d6_13) ?_
    show Steps p.tables e below (T105.setTop (mkF m 15 #[.val (.ref a1), .val (.int p2), .val (.int p3)] [(.int (16 : Int32)), (.ref a1)])) _
    refine st106 _ ?_
    show Steps p.tables e below (T106.setTop (mkF m 17 #[.val (.ref a1), .val (.int p2), .val (.int p3)] [(.ref b106), (.ref a1)])) _
    refine st109 _ ?_
    show Steps p.tables e below (T109.setTop (mkF m 20 #[.val (.ref a1), .val (.int p2), .val (.int p3)] [])) _
    refine XS.aloadN X109.here hx rfl (hb hby d6_20) rfl rfl ?_
    show Steps p.tables e below (T109.setTop (mkF m 21 #[.val (.ref a1), .val (.int p2), .val (.int p3)] [(.ref a1)])) _
    refine XS.iloadN X109.here hx rfl (hb hby d6_21) rfl ?_
    show Steps p.tables e below (T109.setTop (mkF m 22 #[.val (.ref a1), .val (.int p2), .val (.int p3)] [(.int p2), (.ref a1)])) _
    refine st112 _ ?_
    show Steps p.tables e below (T112.setTop (mkF m 25 #[.val (.ref a1), .val (.int p2), .val (.int p3)] [])) _
    refine XS.aloadN X112.here hx rfl (hb hby d6_25) rfl rfl ?_
    show Steps p.tables e below (T112.setTop (mkF m 26 #[.val (.ref a1), .val (.int p2), .val (.int p3)] [(.ref a1)])) _
    refine XS.iloadN X112.here hx rfl (hb hby d6_26) rfl ?_
    show Steps p.tables e below (T112.setTop (mkF m 27 #[.val (.ref a1), .val (.int p2), .val (.int p3)] [(.int p3), (.ref a1)])) _
    refine st115 _ ?_
    show Steps p.tables e below (T115.setTop (mkF m 30 #[.val (.ref a1), .val (.int p2), .val (.int p3)] [])) _
    exact X115.returnOut hx Bd.returns (hb hby d6_30) hr
  · show Q6 Z a1 p2 p3 u1 u2 u3 u4 h0 n0 _ T115.heap _
    rw [e115]
    exact ⟨b102, k102, [(.int (0 : Int32)), (.int (0 : Int32)), (.int (0 : Int32)), (.int (0 : Int32)), (.int (0 : Int32)), (.int (0 : Int32)), (.int (0 : Int32)), (.int (0 : Int32)), (.int (0 : Int32)), (.int (0 : Int32)), (.int (0 : Int32)), (.int (0 : Int32)), (.int (0 : Int32)), (.int (0 : Int32)), (.int (0 : Int32)), (.int (0 : Int32))], b106, k106, [(.int (0 : Int32)), (.int (0 : Int32)), (.int (0 : Int32)), (.int (0 : Int32)), (.int (0 : Int32)), (.int (0 : Int32)), (.int (0 : Int32)), (.int (0 : Int32)), (.int (0 : Int32)), (.int (0 : Int32)), (.int (0 : Int32)), (.int (0 : Int32)), (.int (0 : Int32)), (.int (0 : Int32)), (.int (0 : Int32)), (.int (0 : Int32))], rfl, N115, (((((((Keep.refl h0 [a1]).ext E102).wr W105 (Or.inl (List.mem_of_getElem? (i := 0) rfl))).ext E106).wr W109 (Or.inl (List.mem_of_getElem? (i := 0) rfl))).wr W112 (Or.inl (List.mem_of_getElem? (i := 0) rfl))).wr W115 (Or.inl (List.mem_of_getElem? (i := 0) rfl))), f116, f117, f118, f119, f120, (Nat.le_trans (Nat.le_refl _) (Nat.le_of_eq g102.symm)), (Nat.le_trans (Nat.le_trans (Nat.le_trans (Nat.le_refl _) E102.1) (Nat.le_of_eq W105.size.symm)) (Nat.le_of_eq g106.symm)), ne121, f123, f125, rfl, rfl⟩
theorem d16_0 : decode prog_64_method_4_code 0 = .ok (.aload_n 0, 1) := by decide +kernel
theorem d16_1 : decode prog_64_method_4_code 1 = .ok (.getfield 39, 3) := by decide +kernel
theorem d16_4 : decode prog_64_method_4_code 4 = .ok (.aload_n 0, 1) := by decide +kernel
theorem d16_5 : decode prog_64_method_4_code 5 = .ok (.getfield 45, 3) := by decide +kernel
theorem d16_8 : decode prog_64_method_4_code 8 = .ok (.if_icmp .le 7, 3) := by decide +kernel
theorem d16_11 : decode prog_64_method_4_code 11 = .ok (.iconst 1, 1) := by decide +kernel
theorem d16_12 : decode prog_64_method_4_code 12 = .ok (.goto 4, 3) := by decide +kernel
theorem d16_16 : decode prog_64_method_4_code 16 = .ok (.ireturn, 1) := by decide +kernel
theorem d16_15 : decode prog_64_method_4_code 15 = .ok (.iconst 0, 1) := by decide +kernel
theorem ef_16 (m : MethodId) (a1 : Addr) : entryFrame m #[(.ref a1)] 1 = mkF m 0 #[.val (.ref a1)] [] := by first | (simp [entryFrame, mkF, argsToLocals, Value.category]; done) | rfl
def Q16 (Z : State) (a1 : Addr) (w : Int32) (cs : Int32) (h0 : Heap) (n0 : Nat) (v : Option Value) (h : Heap) (L : List Loc) : Prop := v = some (.int (own_b cs w)) ∧ Fr n0 L ∧ h = h0
set_option maxRecDepth 65536 in
set_option maxHeartbeats 40000000 in
theorem rm16 (l : Launch) (Z : State) (a0 : Array Value) (hw : ∀ d ∈ tables_1, d.before a0 Z = true) (ws : List Jvm.Cond) (a1 : Addr) (w : Int32) (cs : Int32) (h0 : Heap) (n0 : Nat) (Z0 : n0 ≤ h0.size) (H0 : Fld Z h0 a1 "com/example/rouse/rouse/shell/CommandLine" "words" "I" (.int w)) (H1 : Fld Z h0 a1 "com/example/rouse/rouse/shell/CommandLine" "commandStart" "I" (.int cs)) :
    MetFree l (⟨"com/example/rouse/rouse/shell/CommandLine", "commandHasWords", "()Z"⟩ : MethodName) (head1 (Jvm.Cond.code (⟨"com/example/rouse/rouse/shell/CommandLine", "commandHasWords", "()Z"⟩ : MethodName) prog_64_method_4_code 1 (some .boolean) :: ws) ({ frames := 0, cells := 0, slots := 0, locals := 0 } : Room)) (fun a U => a = #[(.ref a1)] ∧ Z.Warmed39 U.vm ∧ U.heap = h0) (fun _ _ _ _ _ => True) (fun _ U o U' => ∃ v L, o = .returned v ∧ Q16 Z a1 w cs h0 n0 v U'.heap L ∧ FrameEnd U o U' L ({ frames := 0, cells := 0, slots := 0, locals := 0 } : Room).cells ({ frames := 0, cells := 0, slots := 0, locals := 0 } : Room).slots) := by
  refine MetFree.of_bodySF (plainFor_of_name pn_com_example_rouse_rouse_shell_CommandLine) hisR ?_
  intro p e s m args below meth c s₁ Bd hml0 hP hK
  obtain ⟨rfl, hZ, hh⟩ := hP
  have hx := Bd.exec
  have hby := Bd.bytes
  have hml : c.maxLocals = 1 := hml0
  have hown : s.vm.findClass "com/example/rouse/rouse/shell/CommandLine" = some m.cls := findClass_of_methodNamed Bd.named
  have hnm := (name_of_methodNamed Bd.named Bd.method).1
  have X0 : Stand p l e ({ frames := 0, cells := 0, slots := 0, locals := 0 } : Room) s m #[(.ref a1)] below meth c s₁ [] 0 0 := Stand.of_body Bd
  have e0 : s₁.heap = h0 := by rw [← hh, Bd.state]; rfl
  have N0 := Fr.nil n0
  have pre0 : ∀ t, Steps p.tables e below (s₁.setTop (mkF m 0 #[.val (.ref a1)] [])) t → Steps p.tables e below (s₁.setTop (entryFrame m #[(.ref a1)] 1)) t := fun t k => castTop (ef_16 m a1) k
  obtain ⟨T101, X101, e101, st101⟩ := getF X0 hx hZ hown (host := "") (Or.inl (hw _ (List.mem_of_getElem? (i := 91) rfl))) Via.refl e0 H0 (g := (mkF m 1 #[.val (.ref a1)] [(.ref a1)])) rfl rfl (hb hby d16_1)
  obtain ⟨T102, X102, e102, st102⟩ := getF X101 hx hZ hown (host := "") (Or.inl (hw _ (List.mem_of_getElem? (i := 102) rfl))) Via.refl e101 H1 (g := (mkF m 5 #[.val (.ref a1)] [(.ref a1), (.int w)])) rfl rfl (hb hby d16_5)
  have pre103 : ∀ t, Steps p.tables e below (T102.setTop (mkF m 8 #[.val (.ref a1)] [(.int cs), (.int w)])) t → Steps p.tables e below (s₁.setTop (entryFrame m #[(.ref a1)] 1)) t := fun t kt => by
    refine pre0 t ?_
    show Steps p.tables e below (s₁.setTop (mkF m 0 #[.val (.ref a1)] [])) _
    refine XS.aloadN X0.here hx rfl (hb hby d16_0) rfl rfl ?_
    show Steps p.tables e below (s₁.setTop (mkF m 1 #[.val (.ref a1)] [(.ref a1)])) _
    refine st101 _ ?_
    show Steps p.tables e below (T101.setTop (mkF m 4 #[.val (.ref a1)] [(.int w)])) _
    refine XS.aloadN X101.here hx rfl (hb hby d16_4) rfl rfl ?_
    show Steps p.tables e below (T101.setTop (mkF m 5 #[.val (.ref a1)] [(.ref a1), (.int w)])) _
    refine st102 _ ?_
    show Steps p.tables e below (T102.setTop (mkF m 8 #[.val (.ref a1)] [(.int cs), (.int w)])) _
    exact kt
  by_cases hc8_104 : cs < w
  · skip
    obtain ⟨fs, hr, hrun, hended, hW, hsame⟩ := X102.leave (v := some (.int (1 : Int32))) (fun h => by rw [Bd.returns] at h; cases h)
    refine ⟨_, _, pre103 _ ?_, hrun, hended, _, _, rfl, ?_, ⟨_, rfl⟩, hW, hsame.mono (by decide) (by decide)⟩
    · skip
      show Steps p.tables e below (T102.setTop (mkF m 8 #[.val (.ref a1)] [(.int cs), (.int w)])) _
      refine XS.icmpNo X102.here hx rfl (hb hby d16_8) rfl (tlt (hc8_104 : cs < w)).2.2.2 ?_
      show Steps p.tables e below (T102.setTop (mkF m 11 #[.val (.ref a1)] [])) _
      refine XS.iconst X102.here hx rfl (hb hby d16_11) ?_
      show Steps p.tables e below (T102.setTop (mkF m 12 #[.val (.ref a1)] [(.int (1 : Int32))])) _
      refine XS.goto X102.here hx rfl (pc0 := 12) (pc' := 16) rfl (hb hby d16_12) (by decide) (by decide) ?_
      show Steps p.tables e below (T102.setTop (mkF m 16 #[.val (.ref a1)] [(.int (1 : Int32))])) _
      exact retN X102 hx (t := .boolean) Bd.returns (by simp) (hb hby d16_16) hr
    · show Q16 Z a1 w cs h0 n0 _ T102.heap _
      rw [e102]
      exact ⟨(by simp only [own_b, eq_true hc8_104, if_true, if_false]), N0, rfl⟩
  · skip
    obtain ⟨fs, hr, hrun, hended, hW, hsame⟩ := X102.leave (v := some (.int (0 : Int32))) (fun h => by rw [Bd.returns] at h; cases h)
    refine ⟨_, _, pre103 _ ?_, hrun, hended, _, _, rfl, ?_, ⟨_, rfl⟩, hW, hsame.mono (by decide) (by decide)⟩
    · skip
      show Steps p.tables e below (T102.setTop (mkF m 8 #[.val (.ref a1)] [(.int cs), (.int w)])) _
      refine XS.icmpYes X102.here hx rfl (pc0 := 8) (pc' := 15) rfl (hb hby d16_8) rfl (flt (hc8_104 : ¬ (cs < w))).2.2.2 (by decide) (by decide) ?_
      show Steps p.tables e below (T102.setTop (mkF m 15 #[.val (.ref a1)] [])) _
      refine XS.iconst X102.here hx rfl (hb hby d16_15) ?_
      show Steps p.tables e below (T102.setTop (mkF m 16 #[.val (.ref a1)] [(.int (0 : Int32))])) _
      exact retN X102 hx (t := .boolean) Bd.returns (by simp) (hb hby d16_16) hr
    · show Q16 Z a1 w cs h0 n0 _ T102.heap _
      rw [e102]
      exact ⟨(by simp only [own_b, eq_false hc8_104, if_true, if_false]), N0, rfl⟩
theorem d12_0 : decode prog_64_method_2_code 0 = .ok (.aload_n 0, 1) := by decide +kernel
theorem d12_1 : decode prog_64_method_2_code 1 = .ok (.getfield 24, 3) := by decide +kernel
theorem d12_4 : decode prog_64_method_2_code 4 = .ok (.aload_n 0, 1) := by decide +kernel
theorem d12_5 : decode prog_64_method_2_code 5 = .ok (.getfield 9, 3) := by decide +kernel
theorem d12_8 : decode prog_64_method_2_code 8 = .ok (.arraylength, 1) := by decide +kernel
theorem d12_9 : decode prog_64_method_2_code 9 = .ok (.if_icmp .ne 27, 3) := by decide +kernel
theorem d12_36 : decode prog_64_method_2_code 36 = .ok (.aload_n 0, 1) := by decide +kernel
theorem d12_37 : decode prog_64_method_2_code 37 = .ok (.getfield 9, 3) := by decide +kernel
theorem d12_40 : decode prog_64_method_2_code 40 = .ok (.aload_n 0, 1) := by decide +kernel
theorem d12_41 : decode prog_64_method_2_code 41 = .ok (.dup, 1) := by decide +kernel
theorem d12_42 : decode prog_64_method_2_code 42 = .ok (.getfield 24, 3) := by decide +kernel
theorem d12_45 : decode prog_64_method_2_code 45 = .ok (.dup_x1, 1) := by decide +kernel
theorem d12_46 : decode prog_64_method_2_code 46 = .ok (.iconst 1, 1) := by decide +kernel
theorem d12_47 : decode prog_64_method_2_code 47 = .ok (.iadd, 1) := by decide +kernel
theorem d12_48 : decode prog_64_method_2_code 48 = .ok (.putfield 24, 3) := by decide +kernel
theorem d12_51 : decode prog_64_method_2_code 51 = .ok (.iload_n 1, 1) := by decide +kernel
theorem d12_52 : decode prog_64_method_2_code 52 = .ok (.castore, 1) := by decide +kernel
theorem d12_53 : decode prog_64_method_2_code 53 = .ok (.return_, 1) := by decide +kernel
theorem ef_12 (m : MethodId) (a1 : Addr) (p2 : Int32) : entryFrame m #[(.ref a1), (.int p2)] 2 = mkF m 0 #[.val (.ref a1), .val (.int p2)] [] := by first | (simp [entryFrame, mkF, argsToLocals, Value.category]; done) | rfl
def Q12 (Z : State) (a1 : Addr) (p2 : Int32) (w : Int32) (cs : Int32) (n : Int32) (cb : Addr) (ck : ClassId) (cvs : List Value) (wb : Addr) (h0 : Heap) (n0 : Nat) (v : Option Value) (h : Heap) (L : List Loc) : Prop := ∃ (cvx : List Value), v = none ∧ Fr n0 L ∧ Keep h0 h [a1, cb] ∧ Fld Z h a1 "com/example/rouse/rouse/shell/CommandLine" "words" "I" (.int w) ∧ Fld Z h a1 "com/example/rouse/rouse/shell/CommandLine" "commandStart" "I" (.int cs) ∧ Fld Z h a1 "com/example/rouse/rouse/shell/CommandLine" "length" "I" (.int (n + (1 : Int32))) ∧ Fld Z h a1 "com/example/rouse/rouse/shell/CommandLine" "characters" "[C" (.ref cb) ∧ Fld Z h a1 "com/example/rouse/rouse/shell/CommandLine" "wordEnds" "[I" (.ref wb) ∧ Arv Z h cb ck .char (16 : Int32) cvx (.int (0 : Int32)) ∧ cvx.length = 16
set_option maxRecDepth 65536 in
set_option maxHeartbeats 40000000 in
theorem rm12 (l : Launch) (Z : State) (a0 : Array Value) (hw : ∀ d ∈ tables_1, d.before a0 Z = true) (ws : List Jvm.Cond) (a1 : Addr) (p2 : Int32) (w : Int32) (cs : Int32) (n : Int32) (cb : Addr) (ck : ClassId) (cvs : List Value) (wb : Addr) (h0 : Heap) (n0 : Nat) (Z0 : n0 ≤ h0.size) (H0 : Exa Z h0 a1 "com/example/rouse/rouse/shell/CommandLine") (H1 : Fld Z h0 a1 "com/example/rouse/rouse/shell/CommandLine" "words" "I" (.int w)) (H2 : Fld Z h0 a1 "com/example/rouse/rouse/shell/CommandLine" "commandStart" "I" (.int cs)) (H3 : Fld Z h0 a1 "com/example/rouse/rouse/shell/CommandLine" "length" "I" (.int n)) (H4 : Fld Z h0 a1 "com/example/rouse/rouse/shell/CommandLine" "characters" "[C" (.ref cb)) (H5 : Fld Z h0 a1 "com/example/rouse/rouse/shell/CommandLine" "wordEnds" "[I" (.ref wb)) (H6 : Arv Z h0 cb ck .char (16 : Int32) cvs (.int (0 : Int32))) (H7 : n0 ≤ a1) (H8 : n0 ≤ cb) (H9 : own_in n) (H10 : cvs.length = 16) :
    MetFree l (⟨"com/example/rouse/rouse/shell/CommandLine", "append", "(C)V"⟩ : MethodName) (head1 (Jvm.Cond.code (⟨"com/example/rouse/rouse/shell/CommandLine", "append", "(C)V"⟩ : MethodName) prog_64_method_2_code 2 none :: ws) ({ frames := 0, cells := 0, slots := 0, locals := 0 } : Room)) (fun a U => a = #[(.ref a1), (.int p2)] ∧ Z.Warmed39 U.vm ∧ U.heap = h0) (fun _ _ _ _ _ => True) (fun _ U o U' => ∃ v L, o = .returned v ∧ Q12 Z a1 p2 w cs n cb ck cvs wb h0 n0 v U'.heap L ∧ FrameEnd U o U' L ({ frames := 0, cells := 0, slots := 0, locals := 0 } : Room).cells ({ frames := 0, cells := 0, slots := 0, locals := 0 } : Room).slots) := by
  refine MetFree.of_bodySF (plainFor_of_name pn_com_example_rouse_rouse_shell_CommandLine) hisR ?_
  intro p e s m args below meth c s₁ Bd hml0 hP hK
  obtain ⟨rfl, hZ, hh⟩ := hP
  have hx := Bd.exec
  have hby := Bd.bytes
  have hml : c.maxLocals = 2 := hml0
  have hown : s.vm.findClass "com/example/rouse/rouse/shell/CommandLine" = some m.cls := findClass_of_methodNamed Bd.named
  have hnm := (name_of_methodNamed Bd.named Bd.method).1
  have X0 : Stand p l e ({ frames := 0, cells := 0, slots := 0, locals := 0 } : Room) s m #[(.ref a1), (.int p2)] below meth c s₁ [] 0 0 := Stand.of_body Bd
  have e0 : s₁.heap = h0 := by rw [← hh, Bd.state]; rfl
  have N0 := Fr.nil n0
  have pre0 : ∀ t, Steps p.tables e below (s₁.setTop (mkF m 0 #[.val (.ref a1), .val (.int p2)] [])) t → Steps p.tables e below (s₁.setTop (entryFrame m #[(.ref a1), (.int p2)] 2)) t := fun t k => castTop (ef_12 m a1 p2) k
  obtain ⟨T101, X101, e101, st101⟩ := getF X0 hx hZ hown (host := "") (Or.inl (hw _ (List.mem_of_getElem? (i := 78) rfl))) Via.refl e0 H3 (g := (mkF m 1 #[.val (.ref a1), .val (.int p2)] [(.ref a1)])) rfl rfl (hb hby d12_1)
  obtain ⟨T102, X102, e102, st102⟩ := getF X101 hx hZ hown (host := "") (Or.inl (hw _ (List.mem_of_getElem? (i := 29) rfl))) Via.refl e101 H4 (g := (mkF m 5 #[.val (.ref a1), .val (.int p2)] [(.ref a1), (.int n)])) rfl rfl (hb hby d12_5)
  obtain ⟨cl103, Ar103, -, S103, M103, -, -⟩ := id H6
  obtain ⟨T104, X104, e104, st104⟩ := getF X102 hx hZ hown (host := "") (Or.inl (hw _ (List.mem_of_getElem? (i := 29) rfl))) Via.refl e102 H4 (g := (mkF m 37 #[.val (.ref a1), .val (.int p2)] [(.ref a1)])) rfl rfl (hb hby d12_37)
  obtain ⟨T105, X105, e105, st105⟩ := getF X104 hx hZ hown (host := "") (Or.inl (hw _ (List.mem_of_getElem? (i := 78) rfl))) Via.refl e104 H3 (g := (mkF m 42 #[.val (.ref a1), .val (.int p2)] [(.ref a1), (.ref a1), (.ref cb)])) rfl rfl (hb hby d12_42)
  obtain ⟨T106, h106, X106, e106, W106, st106⟩ := putF X105 hx hZ hown (host := "") (Or.inl (hw _ (List.mem_of_getElem? (i := 78) rfl))) Via.refl e105 H3 H0 (Or.inl (hw _ (List.mem_of_getElem? (i := 79) rfl))) (hw _ (List.mem_of_getElem? (i := 21) rfl)) (ty := .int) (by decide) rfl rfl (g := (mkF m 48 #[.val (.ref a1), .val (.int p2)] [(.int (n + (1 : Int32))), (.ref a1), (.int n), (.ref cb)])) rfl rfl (hb hby d12_48)
  have Fw106 := H3.same W106
  have N106 := Fr.snoc X106 N0 H7
  have ne107 : a1 ≠ cb := Exa.neArv H0 H6 (hw _ (List.mem_of_getElem? (i := 21) rfl))
  have f108 : Arv Z h106 cb ck .char (16 : Int32) cvs (.int (0 : Int32)) := (H6.other W106 (Ne.symm ne107))
  obtain ⟨cl109, Ar109, qc109, S109, M109, Hh109, G109⟩ := id f108
  have hin109 : ¬ (n < 0 ∨ cl109.slots.size ≤ (n).toNatClampNeg) := inb_of S109 H9
  obtain ⟨T109, h109, X109, e109, W109, st109⟩ := stC X106 hx hZ e106 Ar109 (j := n) hin109 (g := (mkF m 52 #[.val (.ref a1), .val (.int p2)] [(.int p2), (.int n), (.ref cb)])) rfl rfl (hb hby d12_52)
  have V109 : Arv Z h109 cb ck .char (16 : Int32) (cvs.set n.toNatClampNeg (.int (nar .char p2))) (.int (0 : Int32)) := Arv.set Ar109 qc109 S109 M109 Hh109 G109 (fits_nar_char _) W109 n.toNatClampNeg (rfl) (own_lt16 H9 H10)
  have N109 := Fr.snoc X109 N106 H8
  have f110 : Fld Z h109 a1 "com/example/rouse/rouse/shell/CommandLine" "words" "I" (.int w) := ((H1.other W106 (Or.inr (slot_ne (Or.inl (hw _ (List.mem_of_getElem? (i := 92) rfl))) (Or.inl (hw _ (List.mem_of_getElem? (i := 79) rfl))) (by decide) (t := .int) (t' := .int) (by decide) (by decide)))).other W109 (Or.inl ne107))
  have f111 : Fld Z h109 a1 "com/example/rouse/rouse/shell/CommandLine" "commandStart" "I" (.int cs) := ((H2.other W106 (Or.inr (slot_ne (Or.inl (hw _ (List.mem_of_getElem? (i := 103) rfl))) (Or.inl (hw _ (List.mem_of_getElem? (i := 79) rfl))) (by decide) (t := .int) (t' := .int) (by decide) (by decide)))).other W109 (Or.inl ne107))
  have f112 : Fld Z h109 a1 "com/example/rouse/rouse/shell/CommandLine" "length" "I" (.int (n + (1 : Int32))) := (Fw106.other W109 (Or.inl ne107))
  have f113 : Fld Z h109 a1 "com/example/rouse/rouse/shell/CommandLine" "characters" "[C" (.ref cb) := ((H4.other W106 (Or.inr (slot_ne (Or.inl (hw _ (List.mem_of_getElem? (i := 30) rfl))) (Or.inl (hw _ (List.mem_of_getElem? (i := 79) rfl))) (by decide) (t := (.array .char)) (t' := .int) (by decide) (by decide)))).other W109 (Or.inl ne107))
  have f114 : Fld Z h109 a1 "com/example/rouse/rouse/shell/CommandLine" "wordEnds" "[I" (.ref wb) := ((H5.other W106 (Or.inr (slot_ne (Or.inl (hw _ (List.mem_of_getElem? (i := 33) rfl))) (Or.inl (hw _ (List.mem_of_getElem? (i := 79) rfl))) (by decide) (t := (.array .int)) (t' := .int) (by decide) (by decide)))).other W109 (Or.inl ne107))
  obtain ⟨fs, hr, hrun, hended, hW, hsame⟩ := X109.leave (v := none) (fun _ => rfl)
  refine ⟨_, _, pre0 _ ?_, hrun, hended, _, _, rfl, ?_, ⟨_, rfl⟩, hW, hsame.mono (by decide) (by decide)⟩
  · skip
    show Steps p.tables e below (s₁.setTop (mkF m 0 #[.val (.ref a1), .val (.int p2)] [])) _
    refine XS.aloadN X0.here hx rfl (hb hby d12_0) rfl rfl ?_
    show Steps p.tables e below (s₁.setTop (mkF m 1 #[.val (.ref a1), .val (.int p2)] [(.ref a1)])) _
    refine st101 _ ?_
    show Steps p.tables e below (T101.setTop (mkF m 4 #[.val (.ref a1), .val (.int p2)] [(.int n)])) _
    refine XS.aloadN X101.here hx rfl (hb hby d12_4) rfl rfl ?_
    show Steps p.tables e below (T101.setTop (mkF m 5 #[.val (.ref a1), .val (.int p2)] [(.ref a1), (.int n)])) _
    refine st102 _ ?_
    show Steps p.tables e below (T102.setTop (mkF m 8 #[.val (.ref a1), .val (.int p2)] [(.ref cb), (.int n)])) _
    refine X102.arraylength hx (by rw [e102]; exact Ar103.1) (State.isArrayOf_alike hZ.alike Ar103.2.1) (g := (mkF m 8 #[.val (.ref a1), .val (.int p2)] [(.ref cb), (.int n)])) rfl rfl (hb hby d12_8) _ ?_
    rw [len_of S103 M103]
    show Steps p.tables e below (T102.setTop (mkF m 9 #[.val (.ref a1), .val (.int p2)] [(.int (16 : Int32)), (.int n)])) _
    refine XS.icmpYes X102.here hx rfl (pc0 := 9) (pc' := 36) rfl (hb hby d12_9) rfl (feq (own_ne16 H9 : ¬ (n = (16 : Int32)))).2 (by decide) (by decide) ?_
    show Steps p.tables e below (T102.setTop (mkF m 36 #[.val (.ref a1), .val (.int p2)] [])) _
    refine XS.aloadN X102.here hx rfl (hb hby d12_36) rfl rfl ?_
    show Steps p.tables e below (T102.setTop (mkF m 37 #[.val (.ref a1), .val (.int p2)] [(.ref a1)])) _
    refine st104 _ ?_
    show Steps p.tables e below (T104.setTop (mkF m 40 #[.val (.ref a1), .val (.int p2)] [(.ref cb)])) _
    refine XS.aloadN X104.here hx rfl (hb hby d12_40) rfl rfl ?_
    show Steps p.tables e below (T104.setTop (mkF m 41 #[.val (.ref a1), .val (.int p2)] [(.ref a1), (.ref cb)])) _
    refine XS.dup X104.here hx rfl (hb hby d12_41) rfl rfl ?_
    show Steps p.tables e below (T104.setTop (mkF m 42 #[.val (.ref a1), .val (.int p2)] [(.ref a1), (.ref a1), (.ref cb)])) _
    refine st105 _ ?_
    show Steps p.tables e below (T105.setTop (mkF m 45 #[.val (.ref a1), .val (.int p2)] [(.int n), (.ref a1), (.ref cb)])) _
    refine XS.dupX1 X105.here hx rfl (hb hby d12_45) rfl rfl rfl ?_
    show Steps p.tables e below (T105.setTop (mkF m 46 #[.val (.ref a1), .val (.int p2)] [(.int n), (.ref a1), (.int n), (.ref cb)])) _
    refine XS.iconst X105.here hx rfl (hb hby d12_46) ?_
    show Steps p.tables e below (T105.setTop (mkF m 47 #[.val (.ref a1), .val (.int p2)] [(.int (1 : Int32)), (.int n), (.ref a1), (.int n), (.ref cb)])) _
    refine XS.iadd X105.here hx rfl (hb hby d12_47) rfl ?_
    show Steps p.tables e below (T105.setTop (mkF m 48 #[.val (.ref a1), .val (.int p2)] [(.int (n + (1 : Int32))), (.ref a1), (.int n), (.ref cb)])) _
    refine st106 _ ?_
    show Steps p.tables e below (T106.setTop (mkF m 51 #[.val (.ref a1), .val (.int p2)] [(.int n), (.ref cb)])) _
    refine XS.iloadN X106.here hx rfl (hb hby d12_51) rfl ?_
    show Steps p.tables e below (T106.setTop (mkF m 52 #[.val (.ref a1), .val (.int p2)] [(.int p2), (.int n), (.ref cb)])) _
    refine st109 _ ?_
    show Steps p.tables e below (T109.setTop (mkF m 53 #[.val (.ref a1), .val (.int p2)] [])) _
    exact X109.returnOut hx Bd.returns (hb hby d12_53) hr
  · show Q12 Z a1 p2 w cs n cb ck cvs wb h0 n0 _ T109.heap _
    rw [e109]
    exact ⟨(cvs.set n.toNatClampNeg (.int (nar .char p2))), rfl, N109, (((Keep.refl h0 [a1, cb]).wr W106 (Or.inl (List.mem_of_getElem? (i := 0) rfl))).wr W109 (Or.inl (List.mem_of_getElem? (i := 1) rfl))), f110, f111, f112, f113, f114, V109, (by rw [List.length_set]; exact H10)⟩
theorem d14_0 : decode prog_64_method_3_code 0 = .ok (.aload_n 0, 1) := by decide +kernel
theorem d14_1 : decode prog_64_method_3_code 1 = .ok (.getfield 39, 3) := by decide +kernel
theorem d14_4 : decode prog_64_method_3_code 4 = .ok (.aload_n 0, 1) := by decide +kernel
theorem d14_5 : decode prog_64_method_3_code 5 = .ok (.getfield 13, 3) := by decide +kernel
theorem d14_8 : decode prog_64_method_3_code 8 = .ok (.arraylength, 1) := by decide +kernel
theorem d14_9 : decode prog_64_method_3_code 9 = .ok (.if_icmp .ne 27, 3) := by decide +kernel
theorem d14_36 : decode prog_64_method_3_code 36 = .ok (.aload_n 0, 1) := by decide +kernel
theorem d14_37 : decode prog_64_method_3_code 37 = .ok (.getfield 13, 3) := by decide +kernel
theorem d14_40 : decode prog_64_method_3_code 40 = .ok (.aload_n 0, 1) := by decide +kernel
theorem d14_41 : decode prog_64_method_3_code 41 = .ok (.dup, 1) := by decide +kernel
theorem d14_42 : decode prog_64_method_3_code 42 = .ok (.getfield 39, 3) := by decide +kernel
theorem d14_45 : decode prog_64_method_3_code 45 = .ok (.dup_x1, 1) := by decide +kernel
theorem d14_46 : decode prog_64_method_3_code 46 = .ok (.iconst 1, 1) := by decide +kernel
theorem d14_47 : decode prog_64_method_3_code 47 = .ok (.iadd, 1) := by decide +kernel
theorem d14_48 : decode prog_64_method_3_code 48 = .ok (.putfield 39, 3) := by decide +kernel
theorem d14_51 : decode prog_64_method_3_code 51 = .ok (.aload_n 0, 1) := by decide +kernel
theorem d14_52 : decode prog_64_method_3_code 52 = .ok (.getfield 24, 3) := by decide +kernel
theorem d14_55 : decode prog_64_method_3_code 55 = .ok (.iastore, 1) := by decide +kernel
theorem d14_56 : decode prog_64_method_3_code 56 = .ok (.return_, 1) := by decide +kernel
theorem ef_14 (m : MethodId) (a1 : Addr) : entryFrame m #[(.ref a1)] 1 = mkF m 0 #[.val (.ref a1)] [] := by first | (simp [entryFrame, mkF, argsToLocals, Value.category]; done) | rfl
def Q14 (Z : State) (a1 : Addr) (w : Int32) (cs : Int32) (n : Int32) (cb : Addr) (wb : Addr) (wk : ClassId) (wvs : List Value) (h0 : Heap) (n0 : Nat) (v : Option Value) (h : Heap) (L : List Loc) : Prop := ∃ (wvx : List Value), v = none ∧ Fr n0 L ∧ Keep h0 h [a1, wb] ∧ Fld Z h a1 "com/example/rouse/rouse/shell/CommandLine" "words" "I" (.int (w + (1 : Int32))) ∧ Fld Z h a1 "com/example/rouse/rouse/shell/CommandLine" "commandStart" "I" (.int cs) ∧ Fld Z h a1 "com/example/rouse/rouse/shell/CommandLine" "length" "I" (.int n) ∧ Fld Z h a1 "com/example/rouse/rouse/shell/CommandLine" "characters" "[C" (.ref cb) ∧ Fld Z h a1 "com/example/rouse/rouse/shell/CommandLine" "wordEnds" "[I" (.ref wb) ∧ Arv Z h wb wk .int (16 : Int32) wvx (.int (0 : Int32)) ∧ wvx.length = 16
set_option maxRecDepth 65536 in
set_option maxHeartbeats 40000000 in
theorem rm14 (l : Launch) (Z : State) (a0 : Array Value) (hw : ∀ d ∈ tables_1, d.before a0 Z = true) (ws : List Jvm.Cond) (a1 : Addr) (w : Int32) (cs : Int32) (n : Int32) (cb : Addr) (wb : Addr) (wk : ClassId) (wvs : List Value) (h0 : Heap) (n0 : Nat) (Z0 : n0 ≤ h0.size) (H0 : Exa Z h0 a1 "com/example/rouse/rouse/shell/CommandLine") (H1 : Fld Z h0 a1 "com/example/rouse/rouse/shell/CommandLine" "words" "I" (.int w)) (H2 : Fld Z h0 a1 "com/example/rouse/rouse/shell/CommandLine" "commandStart" "I" (.int cs)) (H3 : Fld Z h0 a1 "com/example/rouse/rouse/shell/CommandLine" "length" "I" (.int n)) (H4 : Fld Z h0 a1 "com/example/rouse/rouse/shell/CommandLine" "characters" "[C" (.ref cb)) (H5 : Fld Z h0 a1 "com/example/rouse/rouse/shell/CommandLine" "wordEnds" "[I" (.ref wb)) (H6 : Arv Z h0 wb wk .int (16 : Int32) wvs (.int (0 : Int32))) (H7 : n0 ≤ a1) (H8 : n0 ≤ wb) (H9 : own_in w) (H10 : wvs.length = 16) :
    MetFree l (⟨"com/example/rouse/rouse/shell/CommandLine", "endWord", "()V"⟩ : MethodName) (head1 (Jvm.Cond.code (⟨"com/example/rouse/rouse/shell/CommandLine", "endWord", "()V"⟩ : MethodName) prog_64_method_3_code 1 none :: ws) ({ frames := 0, cells := 0, slots := 0, locals := 0 } : Room)) (fun a U => a = #[(.ref a1)] ∧ Z.Warmed39 U.vm ∧ U.heap = h0) (fun _ _ _ _ _ => True) (fun _ U o U' => ∃ v L, o = .returned v ∧ Q14 Z a1 w cs n cb wb wk wvs h0 n0 v U'.heap L ∧ FrameEnd U o U' L ({ frames := 0, cells := 0, slots := 0, locals := 0 } : Room).cells ({ frames := 0, cells := 0, slots := 0, locals := 0 } : Room).slots) := by
  refine MetFree.of_bodySF (plainFor_of_name pn_com_example_rouse_rouse_shell_CommandLine) hisR ?_
  intro p e s m args below meth c s₁ Bd hml0 hP hK
  obtain ⟨rfl, hZ, hh⟩ := hP
  have hx := Bd.exec
  have hby := Bd.bytes
  have hml : c.maxLocals = 1 := hml0
  have hown : s.vm.findClass "com/example/rouse/rouse/shell/CommandLine" = some m.cls := findClass_of_methodNamed Bd.named
  have hnm := (name_of_methodNamed Bd.named Bd.method).1
  have X0 : Stand p l e ({ frames := 0, cells := 0, slots := 0, locals := 0 } : Room) s m #[(.ref a1)] below meth c s₁ [] 0 0 := Stand.of_body Bd
  have e0 : s₁.heap = h0 := by rw [← hh, Bd.state]; rfl
  have N0 := Fr.nil n0
  have pre0 : ∀ t, Steps p.tables e below (s₁.setTop (mkF m 0 #[.val (.ref a1)] [])) t → Steps p.tables e below (s₁.setTop (entryFrame m #[(.ref a1)] 1)) t := fun t k => castTop (ef_14 m a1) k
  obtain ⟨T101, X101, e101, st101⟩ := getF X0 hx hZ hown (host := "") (Or.inl (hw _ (List.mem_of_getElem? (i := 91) rfl))) Via.refl e0 H1 (g := (mkF m 1 #[.val (.ref a1)] [(.ref a1)])) rfl rfl (hb hby d14_1)
  obtain ⟨T102, X102, e102, st102⟩ := getF X101 hx hZ hown (host := "") (Or.inl (hw _ (List.mem_of_getElem? (i := 32) rfl))) Via.refl e101 H5 (g := (mkF m 5 #[.val (.ref a1)] [(.ref a1), (.int w)])) rfl rfl (hb hby d14_5)
  obtain ⟨cl103, Ar103, -, S103, M103, -, -⟩ := id H6
  obtain ⟨T104, X104, e104, st104⟩ := getF X102 hx hZ hown (host := "") (Or.inl (hw _ (List.mem_of_getElem? (i := 32) rfl))) Via.refl e102 H5 (g := (mkF m 37 #[.val (.ref a1)] [(.ref a1)])) rfl rfl (hb hby d14_37)
  obtain ⟨T105, X105, e105, st105⟩ := getF X104 hx hZ hown (host := "") (Or.inl (hw _ (List.mem_of_getElem? (i := 91) rfl))) Via.refl e104 H1 (g := (mkF m 42 #[.val (.ref a1)] [(.ref a1), (.ref a1), (.ref wb)])) rfl rfl (hb hby d14_42)
  obtain ⟨T106, h106, X106, e106, W106, st106⟩ := putF X105 hx hZ hown (host := "") (Or.inl (hw _ (List.mem_of_getElem? (i := 91) rfl))) Via.refl e105 H1 H0 (Or.inl (hw _ (List.mem_of_getElem? (i := 92) rfl))) (hw _ (List.mem_of_getElem? (i := 21) rfl)) (ty := .int) (by decide) rfl rfl (g := (mkF m 48 #[.val (.ref a1)] [(.int (w + (1 : Int32))), (.ref a1), (.int w), (.ref wb)])) rfl rfl (hb hby d14_48)
  have Fw106 := H1.same W106
  have N106 := Fr.snoc X106 N0 H7
  have f107 : Fld Z h106 a1 "com/example/rouse/rouse/shell/CommandLine" "length" "I" (.int n) := (H3.other W106 (Or.inr (slot_ne (Or.inl (hw _ (List.mem_of_getElem? (i := 79) rfl))) (Or.inl (hw _ (List.mem_of_getElem? (i := 92) rfl))) (by decide) (t := .int) (t' := .int) (by decide) (by decide))))
  obtain ⟨T108, X108, e108, st108⟩ := getF X106 hx hZ hown (host := "") (Or.inl (hw _ (List.mem_of_getElem? (i := 78) rfl))) Via.refl e106 f107 (g := (mkF m 52 #[.val (.ref a1)] [(.ref a1), (.int w), (.ref wb)])) rfl rfl (hb hby d14_52)
  have ne109 : a1 ≠ wb := Exa.neArv H0 H6 (hw _ (List.mem_of_getElem? (i := 21) rfl))
  have f110 : Arv Z h106 wb wk .int (16 : Int32) wvs (.int (0 : Int32)) := (H6.other W106 (Ne.symm ne109))
  obtain ⟨cl111, Ar111, qc111, S111, M111, Hh111, G111⟩ := id f110
  have hin111 : ¬ (w < 0 ∨ cl111.slots.size ≤ (w).toNatClampNeg) := inb_of S111 H9
  obtain ⟨T111, h111, X111, e111, W111, st111⟩ := stI X108 hx hZ e108 Ar111 (j := w) hin111 (g := (mkF m 55 #[.val (.ref a1)] [(.int n), (.int w), (.ref wb)])) rfl rfl (hb hby d14_55)
  have V111 : Arv Z h111 wb wk .int (16 : Int32) (wvs.set w.toNatClampNeg (.int n)) (.int (0 : Int32)) := Arv.set Ar111 qc111 S111 M111 Hh111 G111 rfl W111 w.toNatClampNeg (rfl) (own_lt16 H9 H10)
  have N111 := Fr.snoc X111 N106 H8
  have f112 : Fld Z h111 a1 "com/example/rouse/rouse/shell/CommandLine" "words" "I" (.int (w + (1 : Int32))) := (Fw106.other W111 (Or.inl ne109))
  have f113 : Fld Z h111 a1 "com/example/rouse/rouse/shell/CommandLine" "commandStart" "I" (.int cs) := ((H2.other W106 (Or.inr (slot_ne (Or.inl (hw _ (List.mem_of_getElem? (i := 103) rfl))) (Or.inl (hw _ (List.mem_of_getElem? (i := 92) rfl))) (by decide) (t := .int) (t' := .int) (by decide) (by decide)))).other W111 (Or.inl ne109))
  have f114 : Fld Z h111 a1 "com/example/rouse/rouse/shell/CommandLine" "length" "I" (.int n) := (f107.other W111 (Or.inl ne109))
  have f115 : Fld Z h111 a1 "com/example/rouse/rouse/shell/CommandLine" "characters" "[C" (.ref cb) := ((H4.other W106 (Or.inr (slot_ne (Or.inl (hw _ (List.mem_of_getElem? (i := 30) rfl))) (Or.inl (hw _ (List.mem_of_getElem? (i := 92) rfl))) (by decide) (t := (.array .char)) (t' := .int) (by decide) (by decide)))).other W111 (Or.inl ne109))
  have f116 : Fld Z h111 a1 "com/example/rouse/rouse/shell/CommandLine" "wordEnds" "[I" (.ref wb) := ((H5.other W106 (Or.inr (slot_ne (Or.inl (hw _ (List.mem_of_getElem? (i := 33) rfl))) (Or.inl (hw _ (List.mem_of_getElem? (i := 92) rfl))) (by decide) (t := (.array .int)) (t' := .int) (by decide) (by decide)))).other W111 (Or.inl ne109))
  obtain ⟨fs, hr, hrun, hended, hW, hsame⟩ := X111.leave (v := none) (fun _ => rfl)
  refine ⟨_, _, pre0 _ ?_, hrun, hended, _, _, rfl, ?_, ⟨_, rfl⟩, hW, hsame.mono (by decide) (by decide)⟩
  · skip
    show Steps p.tables e below (s₁.setTop (mkF m 0 #[.val (.ref a1)] [])) _
    refine XS.aloadN X0.here hx rfl (hb hby d14_0) rfl rfl ?_
    show Steps p.tables e below (s₁.setTop (mkF m 1 #[.val (.ref a1)] [(.ref a1)])) _
    refine st101 _ ?_
    show Steps p.tables e below (T101.setTop (mkF m 4 #[.val (.ref a1)] [(.int w)])) _
    refine XS.aloadN X101.here hx rfl (hb hby d14_4) rfl rfl ?_
    show Steps p.tables e below (T101.setTop (mkF m 5 #[.val (.ref a1)] [(.ref a1), (.int w)])) _
    refine st102 _ ?_
    show Steps p.tables e below (T102.setTop (mkF m 8 #[.val (.ref a1)] [(.ref wb), (.int w)])) _
    refine X102.arraylength hx (by rw [e102]; exact Ar103.1) (State.isArrayOf_alike hZ.alike Ar103.2.1) (g := (mkF m 8 #[.val (.ref a1)] [(.ref wb), (.int w)])) rfl rfl (hb hby d14_8) _ ?_
    rw [len_of S103 M103]
    show Steps p.tables e below (T102.setTop (mkF m 9 #[.val (.ref a1)] [(.int (16 : Int32)), (.int w)])) _
    refine XS.icmpYes X102.here hx rfl (pc0 := 9) (pc' := 36) rfl (hb hby d14_9) rfl (feq (own_ne16 H9 : ¬ (w = (16 : Int32)))).2 (by decide) (by decide) ?_
    show Steps p.tables e below (T102.setTop (mkF m 36 #[.val (.ref a1)] [])) _
    refine XS.aloadN X102.here hx rfl (hb hby d14_36) rfl rfl ?_
    show Steps p.tables e below (T102.setTop (mkF m 37 #[.val (.ref a1)] [(.ref a1)])) _
    refine st104 _ ?_
    show Steps p.tables e below (T104.setTop (mkF m 40 #[.val (.ref a1)] [(.ref wb)])) _
    refine XS.aloadN X104.here hx rfl (hb hby d14_40) rfl rfl ?_
    show Steps p.tables e below (T104.setTop (mkF m 41 #[.val (.ref a1)] [(.ref a1), (.ref wb)])) _
    refine XS.dup X104.here hx rfl (hb hby d14_41) rfl rfl ?_
    show Steps p.tables e below (T104.setTop (mkF m 42 #[.val (.ref a1)] [(.ref a1), (.ref a1), (.ref wb)])) _
    refine st105 _ ?_
    show Steps p.tables e below (T105.setTop (mkF m 45 #[.val (.ref a1)] [(.int w), (.ref a1), (.ref wb)])) _
    refine XS.dupX1 X105.here hx rfl (hb hby d14_45) rfl rfl rfl ?_
    show Steps p.tables e below (T105.setTop (mkF m 46 #[.val (.ref a1)] [(.int w), (.ref a1), (.int w), (.ref wb)])) _
    refine XS.iconst X105.here hx rfl (hb hby d14_46) ?_
    show Steps p.tables e below (T105.setTop (mkF m 47 #[.val (.ref a1)] [(.int (1 : Int32)), (.int w), (.ref a1), (.int w), (.ref wb)])) _
    refine XS.iadd X105.here hx rfl (hb hby d14_47) rfl ?_
    show Steps p.tables e below (T105.setTop (mkF m 48 #[.val (.ref a1)] [(.int (w + (1 : Int32))), (.ref a1), (.int w), (.ref wb)])) _
    refine st106 _ ?_
    show Steps p.tables e below (T106.setTop (mkF m 51 #[.val (.ref a1)] [(.int w), (.ref wb)])) _
    refine XS.aloadN X106.here hx rfl (hb hby d14_51) rfl rfl ?_
    show Steps p.tables e below (T106.setTop (mkF m 52 #[.val (.ref a1)] [(.ref a1), (.int w), (.ref wb)])) _
    refine st108 _ ?_
    show Steps p.tables e below (T108.setTop (mkF m 55 #[.val (.ref a1)] [(.int n), (.int w), (.ref wb)])) _
    refine st111 _ ?_
    show Steps p.tables e below (T111.setTop (mkF m 56 #[.val (.ref a1)] [])) _
    exact X111.returnOut hx Bd.returns (hb hby d14_56) hr
  · show Q14 Z a1 w cs n cb wb wk wvs h0 n0 _ T111.heap _
    rw [e111]
    exact ⟨(wvs.set w.toNatClampNeg (.int n)), rfl, N111, (((Keep.refl h0 [a1, wb]).wr W106 (Or.inl (List.mem_of_getElem? (i := 0) rfl))).wr W111 (Or.inl (List.mem_of_getElem? (i := 1) rfl))), f112, f113, f114, f115, f116, V111, (by rw [List.length_set]; exact H10)⟩
theorem d27_0 : decode prog_64_method_5_code 0 = .ok (.aload_n 0, 1) := by decide +kernel
theorem d27_1 : decode prog_64_method_5_code 1 = .ok (.getfield 13, 3) := by decide +kernel
theorem d27_4 : decode prog_64_method_5_code 4 = .ok (.aload_n 0, 1) := by decide +kernel
theorem d27_5 : decode prog_64_method_5_code 5 = .ok (.getfield 39, 3) := by decide +kernel
theorem d27_8 : decode prog_64_method_5_code 8 = .ok (.iconst 1, 1) := by decide +kernel
theorem d27_9 : decode prog_64_method_5_code 9 = .ok (.isub, 1) := by decide +kernel
theorem d27_10 : decode prog_64_method_5_code 10 = .ok (.aload_n 0, 1) := by decide +kernel
theorem d27_11 : decode prog_64_method_5_code 11 = .ok (.getfield 13, 3) := by decide +kernel
theorem d27_14 : decode prog_64_method_5_code 14 = .ok (.aload_n 0, 1) := by decide +kernel
theorem d27_15 : decode prog_64_method_5_code 15 = .ok (.getfield 39, 3) := by decide +kernel
theorem d27_18 : decode prog_64_method_5_code 18 = .ok (.iconst 1, 1) := by decide +kernel
theorem d27_19 : decode prog_64_method_5_code 19 = .ok (.isub, 1) := by decide +kernel
theorem d27_20 : decode prog_64_method_5_code 20 = .ok (.iaload, 1) := by decide +kernel
theorem d27_21 : decode prog_64_method_5_code 21 = .ok (.iconst (-1), 1) := by decide +kernel
theorem d27_22 : decode prog_64_method_5_code 22 = .ok (.ixor, 1) := by decide +kernel
theorem d27_23 : decode prog_64_method_5_code 23 = .ok (.iastore, 1) := by decide +kernel
theorem d27_24 : decode prog_64_method_5_code 24 = .ok (.aload_n 0, 1) := by decide +kernel
theorem d27_25 : decode prog_64_method_5_code 25 = .ok (.aload_n 0, 1) := by decide +kernel
theorem d27_26 : decode prog_64_method_5_code 26 = .ok (.getfield 39, 3) := by decide +kernel
theorem d27_29 : decode prog_64_method_5_code 29 = .ok (.putfield 45, 3) := by decide +kernel
theorem d27_32 : decode prog_64_method_5_code 32 = .ok (.return_, 1) := by decide +kernel
theorem ef_27 (m : MethodId) (a1 : Addr) : entryFrame m #[(.ref a1)] 1 = mkF m 0 #[.val (.ref a1)] [] := by first | (simp [entryFrame, mkF, argsToLocals, Value.category]; done) | rfl
def Q27 (Z : State) (a1 : Addr) (w : Int32) (cs : Int32) (n : Int32) (cb : Addr) (wb : Addr) (wk : ClassId) (wvs : List Value) (h0 : Heap) (n0 : Nat) (v : Option Value) (h : Heap) (L : List Loc) : Prop := ∃ (wvx : List Value), v = none ∧ Fr n0 L ∧ Keep h0 h [a1, wb] ∧ Fld Z h a1 "com/example/rouse/rouse/shell/CommandLine" "words" "I" (.int w) ∧ Fld Z h a1 "com/example/rouse/rouse/shell/CommandLine" "commandStart" "I" (.int w) ∧ Fld Z h a1 "com/example/rouse/rouse/shell/CommandLine" "length" "I" (.int n) ∧ Fld Z h a1 "com/example/rouse/rouse/shell/CommandLine" "characters" "[C" (.ref cb) ∧ Fld Z h a1 "com/example/rouse/rouse/shell/CommandLine" "wordEnds" "[I" (.ref wb) ∧ Arv Z h wb wk .int (16 : Int32) wvx (.int (0 : Int32)) ∧ wvx.length = 16
set_option maxRecDepth 65536 in
set_option maxHeartbeats 40000000 in
theorem rm27 (l : Launch) (Z : State) (a0 : Array Value) (hw : ∀ d ∈ tables_1, d.before a0 Z = true) (ws : List Jvm.Cond) (a1 : Addr) (w : Int32) (cs : Int32) (n : Int32) (cb : Addr) (wb : Addr) (wk : ClassId) (wvs : List Value) (h0 : Heap) (n0 : Nat) (Z0 : n0 ≤ h0.size) (H0 : Exa Z h0 a1 "com/example/rouse/rouse/shell/CommandLine") (H1 : Fld Z h0 a1 "com/example/rouse/rouse/shell/CommandLine" "words" "I" (.int w)) (H2 : Fld Z h0 a1 "com/example/rouse/rouse/shell/CommandLine" "commandStart" "I" (.int cs)) (H3 : Fld Z h0 a1 "com/example/rouse/rouse/shell/CommandLine" "length" "I" (.int n)) (H4 : Fld Z h0 a1 "com/example/rouse/rouse/shell/CommandLine" "characters" "[C" (.ref cb)) (H5 : Fld Z h0 a1 "com/example/rouse/rouse/shell/CommandLine" "wordEnds" "[I" (.ref wb)) (H6 : Arv Z h0 wb wk .int (16 : Int32) wvs (.int (0 : Int32))) (H7 : n0 ≤ a1) (H8 : n0 ≤ wb) (H9 : own_in (w - (1 : Int32))) (H10 : wvs.length = 16) :
    MetFree l (⟨"com/example/rouse/rouse/shell/CommandLine", "endCommand", "()V"⟩ : MethodName) (head1 (Jvm.Cond.code (⟨"com/example/rouse/rouse/shell/CommandLine", "endCommand", "()V"⟩ : MethodName) prog_64_method_5_code 1 none :: ws) ({ frames := 0, cells := 0, slots := 0, locals := 0 } : Room)) (fun a U => a = #[(.ref a1)] ∧ Z.Warmed39 U.vm ∧ U.heap = h0) (fun _ _ _ _ _ => True) (fun _ U o U' => ∃ v L, o = .returned v ∧ Q27 Z a1 w cs n cb wb wk wvs h0 n0 v U'.heap L ∧ FrameEnd U o U' L ({ frames := 0, cells := 0, slots := 0, locals := 0 } : Room).cells ({ frames := 0, cells := 0, slots := 0, locals := 0 } : Room).slots) := by
  refine MetFree.of_bodySF (plainFor_of_name pn_com_example_rouse_rouse_shell_CommandLine) hisR ?_
  intro p e s m args below meth c s₁ Bd hml0 hP hK
  obtain ⟨rfl, hZ, hh⟩ := hP
  have hx := Bd.exec
  have hby := Bd.bytes
  have hml : c.maxLocals = 1 := hml0
  have hown : s.vm.findClass "com/example/rouse/rouse/shell/CommandLine" = some m.cls := findClass_of_methodNamed Bd.named
  have hnm := (name_of_methodNamed Bd.named Bd.method).1
  have X0 : Stand p l e ({ frames := 0, cells := 0, slots := 0, locals := 0 } : Room) s m #[(.ref a1)] below meth c s₁ [] 0 0 := Stand.of_body Bd
  have e0 : s₁.heap = h0 := by rw [← hh, Bd.state]; rfl
  have N0 := Fr.nil n0
  have pre0 : ∀ t, Steps p.tables e below (s₁.setTop (mkF m 0 #[.val (.ref a1)] [])) t → Steps p.tables e below (s₁.setTop (entryFrame m #[(.ref a1)] 1)) t := fun t k => castTop (ef_27 m a1) k
  obtain ⟨T101, X101, e101, st101⟩ := getF X0 hx hZ hown (host := "") (Or.inl (hw _ (List.mem_of_getElem? (i := 32) rfl))) Via.refl e0 H5 (g := (mkF m 1 #[.val (.ref a1)] [(.ref a1)])) rfl rfl (hb hby d27_1)
  obtain ⟨T102, X102, e102, st102⟩ := getF X101 hx hZ hown (host := "") (Or.inl (hw _ (List.mem_of_getElem? (i := 91) rfl))) Via.refl e101 H1 (g := (mkF m 5 #[.val (.ref a1)] [(.ref a1), (.ref wb)])) rfl rfl (hb hby d27_5)
  obtain ⟨T103, X103, e103, st103⟩ := getF X102 hx hZ hown (host := "") (Or.inl (hw _ (List.mem_of_getElem? (i := 32) rfl))) Via.refl e102 H5 (g := (mkF m 11 #[.val (.ref a1)] [(.ref a1), (.int (w - (1 : Int32))), (.ref wb)])) rfl rfl (hb hby d27_11)
  obtain ⟨T104, X104, e104, st104⟩ := getF X103 hx hZ hown (host := "") (Or.inl (hw _ (List.mem_of_getElem? (i := 91) rfl))) Via.refl e103 H1 (g := (mkF m 15 #[.val (.ref a1)] [(.ref a1), (.ref wb), (.int (w - (1 : Int32))), (.ref wb)])) rfl rfl (hb hby d27_15)
  obtain ⟨xv, hxv⟩ := own_get H6 H9
  obtain ⟨cl105, Ar105, qc105, S105, M105, Hh105, G105⟩ := id H6
  have hin105 : ¬ ((w - (1 : Int32)) < 0 ∨ cl105.slots.size ≤ ((w - (1 : Int32))).toNatClampNeg) := inb_of S105 H9
  obtain ⟨cl106, Ar106, qc106, S106, M106, Hh106, G106⟩ := id H6
  have hin106 : ¬ ((w - (1 : Int32)) < 0 ∨ cl106.slots.size ≤ ((w - (1 : Int32))).toNatClampNeg) := inb_of S106 H9
  obtain ⟨T106, h106, X106, e106, W106, st106⟩ := stI X104 hx hZ e104 Ar106 (j := (w - (1 : Int32))) hin106 (g := (mkF m 23 #[.val (.ref a1)] [(.int (xv ^^^ (-1 : Int32))), (.int (w - (1 : Int32))), (.ref wb)])) rfl rfl (hb hby d27_23)
  have V106 : Arv Z h106 wb wk .int (16 : Int32) (wvs.set (w - (1 : Int32)).toNatClampNeg (.int (xv ^^^ (-1 : Int32)))) (.int (0 : Int32)) := Arv.set Ar106 qc106 S106 M106 Hh106 G106 rfl W106 (w - (1 : Int32)).toNatClampNeg (rfl) (own_lt16 H9 H10)
  have N106 := Fr.snoc X106 N0 H8
  have ne107 : a1 ≠ wb := Exa.neArv (H0.wr W106) V106 (hw _ (List.mem_of_getElem? (i := 21) rfl))
  have f108 : Fld Z h106 a1 "com/example/rouse/rouse/shell/CommandLine" "words" "I" (.int w) := (H1.other W106 (Or.inl ne107))
  obtain ⟨T109, X109, e109, st109⟩ := getF X106 hx hZ hown (host := "") (Or.inl (hw _ (List.mem_of_getElem? (i := 91) rfl))) Via.refl e106 f108 (g := (mkF m 26 #[.val (.ref a1)] [(.ref a1), (.ref a1)])) rfl rfl (hb hby d27_26)
  have f110 : Fld Z h106 a1 "com/example/rouse/rouse/shell/CommandLine" "commandStart" "I" (.int cs) := (H2.other W106 (Or.inl ne107))
  have f111 : Exa Z h106 a1 "com/example/rouse/rouse/shell/CommandLine" := (H0.wr W106)
  obtain ⟨T112, h112, X112, e112, W112, st112⟩ := putF X109 hx hZ hown (host := "") (Or.inl (hw _ (List.mem_of_getElem? (i := 102) rfl))) Via.refl e109 f110 f111 (Or.inl (hw _ (List.mem_of_getElem? (i := 103) rfl))) (hw _ (List.mem_of_getElem? (i := 21) rfl)) (ty := .int) (by decide) rfl rfl (g := (mkF m 29 #[.val (.ref a1)] [(.int w), (.ref a1)])) rfl rfl (hb hby d27_29)
  have Fw112 := f110.same W112
  have N112 := Fr.snoc X112 N106 H7
  have f113 : Fld Z h112 a1 "com/example/rouse/rouse/shell/CommandLine" "words" "I" (.int w) := (f108.other W112 (Or.inr (slot_ne (Or.inl (hw _ (List.mem_of_getElem? (i := 92) rfl))) (Or.inl (hw _ (List.mem_of_getElem? (i := 103) rfl))) (by decide) (t := .int) (t' := .int) (by decide) (by decide))))
  have f114 : Fld Z h112 a1 "com/example/rouse/rouse/shell/CommandLine" "length" "I" (.int n) := ((H3.other W106 (Or.inl ne107)).other W112 (Or.inr (slot_ne (Or.inl (hw _ (List.mem_of_getElem? (i := 79) rfl))) (Or.inl (hw _ (List.mem_of_getElem? (i := 103) rfl))) (by decide) (t := .int) (t' := .int) (by decide) (by decide))))
  have f115 : Fld Z h112 a1 "com/example/rouse/rouse/shell/CommandLine" "characters" "[C" (.ref cb) := ((H4.other W106 (Or.inl ne107)).other W112 (Or.inr (slot_ne (Or.inl (hw _ (List.mem_of_getElem? (i := 30) rfl))) (Or.inl (hw _ (List.mem_of_getElem? (i := 103) rfl))) (by decide) (t := (.array .char)) (t' := .int) (by decide) (by decide))))
  have f116 : Fld Z h112 a1 "com/example/rouse/rouse/shell/CommandLine" "wordEnds" "[I" (.ref wb) := ((H5.other W106 (Or.inl ne107)).other W112 (Or.inr (slot_ne (Or.inl (hw _ (List.mem_of_getElem? (i := 33) rfl))) (Or.inl (hw _ (List.mem_of_getElem? (i := 103) rfl))) (by decide) (t := (.array .int)) (t' := .int) (by decide) (by decide))))
  have f117 : Arv Z h112 wb wk .int (16 : Int32) (wvs.set (w - (1 : Int32)).toNatClampNeg (.int (xv ^^^ (-1 : Int32)))) (.int (0 : Int32)) := (V106.other W112 (Ne.symm ne107))
  obtain ⟨fs, hr, hrun, hended, hW, hsame⟩ := X112.leave (v := none) (fun _ => rfl)
  refine ⟨_, _, pre0 _ ?_, hrun, hended, _, _, rfl, ?_, ⟨_, rfl⟩, hW, hsame.mono (by decide) (by decide)⟩
  · skip
    show Steps p.tables e below (s₁.setTop (mkF m 0 #[.val (.ref a1)] [])) _
    refine XS.aloadN X0.here hx rfl (hb hby d27_0) rfl rfl ?_
    show Steps p.tables e below (s₁.setTop (mkF m 1 #[.val (.ref a1)] [(.ref a1)])) _
    refine st101 _ ?_
    show Steps p.tables e below (T101.setTop (mkF m 4 #[.val (.ref a1)] [(.ref wb)])) _
    refine XS.aloadN X101.here hx rfl (hb hby d27_4) rfl rfl ?_
    show Steps p.tables e below (T101.setTop (mkF m 5 #[.val (.ref a1)] [(.ref a1), (.ref wb)])) _
    refine st102 _ ?_
    show Steps p.tables e below (T102.setTop (mkF m 8 #[.val (.ref a1)] [(.int w), (.ref wb)])) _
    refine XS.iconst X102.here hx rfl (hb hby d27_8) ?_
    show Steps p.tables e below (T102.setTop (mkF m 9 #[.val (.ref a1)] [(.int (1 : Int32)), (.int w), (.ref wb)])) _
    refine XS.isub X102.here hx rfl (hb hby d27_9) rfl ?_
    show Steps p.tables e below (T102.setTop (mkF m 10 #[.val (.ref a1)] [(.int (w - (1 : Int32))), (.ref wb)])) _
    refine XS.aloadN X102.here hx rfl (hb hby d27_10) rfl rfl ?_
    show Steps p.tables e below (T102.setTop (mkF m 11 #[.val (.ref a1)] [(.ref a1), (.int (w - (1 : Int32))), (.ref wb)])) _
    refine st103 _ ?_
    show Steps p.tables e below (T103.setTop (mkF m 14 #[.val (.ref a1)] [(.ref wb), (.int (w - (1 : Int32))), (.ref wb)])) _
    refine XS.aloadN X103.here hx rfl (hb hby d27_14) rfl rfl ?_
    show Steps p.tables e below (T103.setTop (mkF m 15 #[.val (.ref a1)] [(.ref a1), (.ref wb), (.int (w - (1 : Int32))), (.ref wb)])) _
    refine st104 _ ?_
    show Steps p.tables e below (T104.setTop (mkF m 18 #[.val (.ref a1)] [(.int w), (.ref wb), (.int (w - (1 : Int32))), (.ref wb)])) _
    refine XS.iconst X104.here hx rfl (hb hby d27_18) ?_
    show Steps p.tables e below (T104.setTop (mkF m 19 #[.val (.ref a1)] [(.int (1 : Int32)), (.int w), (.ref wb), (.int (w - (1 : Int32))), (.ref wb)])) _
    refine XS.isub X104.here hx rfl (hb hby d27_19) rfl ?_
    show Steps p.tables e below (T104.setTop (mkF m 20 #[.val (.ref a1)] [(.int (w - (1 : Int32))), (.ref wb), (.int (w - (1 : Int32))), (.ref wb)])) _
    refine X104.iaload hx (j := (w - (1 : Int32))) (v := (.int xv)) (by rw [e104]; exact Ar105.1) (State.isArrayOf_alike hZ.alike Ar105.2.1) Ar105.2.2 hin105 (Hh105.at hin105 (hxv)) (g := (mkF m 20 #[.val (.ref a1)] [(.int (w - (1 : Int32))), (.ref wb), (.int (w - (1 : Int32))), (.ref wb)])) rfl rfl (hb hby d27_20) _ ?_
    show Steps p.tables e below (T104.setTop (mkF m 21 #[.val (.ref a1)] [(.int xv), (.int (w - (1 : Int32))), (.ref wb)])) _
    refine XS.iconst X104.here hx rfl (hb hby d27_21) ?_
    show Steps p.tables e below (T104.setTop (mkF m 22 #[.val (.ref a1)] [(.int (-1 : Int32)), (.int xv), (.int (w - (1 : Int32))), (.ref wb)])) _
    refine XS.ixor X104.here hx rfl (hb hby d27_22) rfl ?_
    show Steps p.tables e below (T104.setTop (mkF m 23 #[.val (.ref a1)] [(.int (xv ^^^ (-1 : Int32))), (.int (w - (1 : Int32))), (.ref wb)])) _
    refine st106 _ ?_
    show Steps p.tables e below (T106.setTop (mkF m 24 #[.val (.ref a1)] [])) _
    refine XS.aloadN X106.here hx rfl (hb hby d27_24) rfl rfl ?_
    show Steps p.tables e below (T106.setTop (mkF m 25 #[.val (.ref a1)] [(.ref a1)])) _
    refine XS.aloadN X106.here hx rfl (hb hby d27_25) rfl rfl ?_
    show Steps p.tables e below (T106.setTop (mkF m 26 #[.val (.ref a1)] [(.ref a1), (.ref a1)])) _
    refine st109 _ ?_
    show Steps p.tables e below (T109.setTop (mkF m 29 #[.val (.ref a1)] [(.int w), (.ref a1)])) _
    refine st112 _ ?_
    show Steps p.tables e below (T112.setTop (mkF m 32 #[.val (.ref a1)] [])) _
    exact X112.returnOut hx Bd.returns (hb hby d27_32) hr
  · show Q27 Z a1 w cs n cb wb wk wvs h0 n0 _ T112.heap _
    rw [e112]
    exact ⟨(wvs.set (w - (1 : Int32)).toNatClampNeg (.int (xv ^^^ (-1 : Int32)))), rfl, N112, (((Keep.refl h0 [a1, wb]).wr W106 (Or.inl (List.mem_of_getElem? (i := 1) rfl))).wr W112 (Or.inl (List.mem_of_getElem? (i := 0) rfl))), f113, Fw112, f114, f115, f116, f117, (by rw [List.length_set]; exact H10)⟩
theorem d5_0 : decode prog_69_method_8_code 0 = .ok (.new 65, 3) := by decide +kernel
theorem d5_3 : decode prog_69_method_8_code 3 = .ok (.dup, 1) := by decide +kernel
theorem d5_4 : decode prog_69_method_8_code 4 = .ok (.ldc 45, 2) := by decide +kernel
theorem d5_6 : decode prog_69_method_8_code 6 = .ok (.ldc 87, 2) := by decide +kernel
theorem d5_8 : decode prog_69_method_8_code 8 = .ok (.invokespecial 88, 3) := by decide +kernel
theorem d5_11 : decode prog_69_method_8_code 11 = .ok (.areturn, 1) := by decide +kernel
theorem pn_com_example_rouse_rouse_shell_ShellWords : plainName "com/example/rouse/rouse/shell/ShellWords" = true := by first | (simp [plainName, overriddenIn]; done) | decide +kernel
theorem ef_5 (m : MethodId)  : entryFrame m #[] 0 = mkF m 0 #[] [] := by first | (simp [entryFrame, mkF, argsToLocals, Value.category]; done) | rfl
def Q5 (Z : State)  (h0 : Heap) (n0 : Nat) (v : Option Value) (h : Heap) (L : List Loc) : Prop := ∃ (cl : Addr) (cb : Addr) (ck : ClassId) (cvs : List Value) (wb : Addr) (wk : ClassId) (wvs : List Value), v = some (.ref cl) ∧ Fr n0 L ∧ Keep h0 h [] ∧ h0.size ≤ cl ∧ h0.size ≤ cb ∧ h0.size ≤ wb ∧ Exa Z h cl "com/example/rouse/rouse/shell/CommandLine" ∧ Fld Z h cl "com/example/rouse/rouse/shell/CommandLine" "words" "I" (.int (0 : Int32)) ∧ Fld Z h cl "com/example/rouse/rouse/shell/CommandLine" "commandStart" "I" (.int (0 : Int32)) ∧ Fld Z h cl "com/example/rouse/rouse/shell/CommandLine" "length" "I" (.int (0 : Int32)) ∧ Fld Z h cl "com/example/rouse/rouse/shell/CommandLine" "characters" "[C" (.ref cb) ∧ Fld Z h cl "com/example/rouse/rouse/shell/CommandLine" "wordEnds" "[I" (.ref wb) ∧ cb ≠ wb ∧ Arv Z h cb ck .char (16 : Int32) cvs (.int (0 : Int32)) ∧ Arv Z h wb wk .int (16 : Int32) wvs (.int (0 : Int32)) ∧ cvs.length = 16 ∧ wvs.length = 16
set_option maxRecDepth 65536 in
set_option maxHeartbeats 40000000 in
theorem rm5 (l : Launch) (Z : State) (a0 : Array Value) (hw : ∀ d ∈ tables_1, d.before a0 Z = true) (ws : List Jvm.Cond)  (h0 : Heap) (n0 : Nat) (Z0 : n0 ≤ h0.size) :
    MetFree l (⟨"com/example/rouse/rouse/shell/ShellWords", "newLine", "()Lcom/example/rouse/rouse/shell/CommandLine;"⟩ : MethodName) (head1 (Jvm.Cond.code (⟨"com/example/rouse/rouse/shell/ShellWords", "newLine", "()Lcom/example/rouse/rouse/shell/CommandLine;"⟩ : MethodName) prog_69_method_8_code 0 (some (.object "com/example/rouse/rouse/shell/CommandLine")) :: ws) ({ frames := 2, cells := 3, slots := 39, locals := 27 } : Room)) (fun a U => a = #[] ∧ Z.Warmed39 U.vm ∧ U.heap = h0) (fun _ _ _ _ _ => True) (fun _ U o U' => ∃ v L, o = .returned v ∧ Q5 Z  h0 n0 v U'.heap L ∧ FrameEnd U o U' L ({ frames := 2, cells := 3, slots := 39, locals := 27 } : Room).cells ({ frames := 2, cells := 3, slots := 39, locals := 27 } : Room).slots) := by
  refine MetFree.of_bodySF (plainFor_of_name pn_com_example_rouse_rouse_shell_ShellWords) hisR ?_
  intro p e s m args below meth c s₁ Bd hml0 hP hK
  obtain ⟨rfl, hZ, hh⟩ := hP
  have hx := Bd.exec
  have hby := Bd.bytes
  have hml : c.maxLocals = 0 := hml0
  have hown : s.vm.findClass "com/example/rouse/rouse/shell/ShellWords" = some m.cls := findClass_of_methodNamed Bd.named
  have hnm := (name_of_methodNamed Bd.named Bd.method).1
  have X0 : Stand p l e ({ frames := 2, cells := 3, slots := 39, locals := 27 } : Room) s m #[] below meth c s₁ [] 0 0 := Stand.of_body Bd
  have e0 : s₁.heap = h0 := by rw [← hh, Bd.state]; rfl
  have N0 := Fr.nil n0
  have pre0 : ∀ t, Steps p.tables e below (s₁.setTop (mkF m 0 #[] [])) t → Steps p.tables e below (s₁.setTop (entryFrame m #[] 0)) t := fun t k => castTop (ef_5 m ) k
  obtain ⟨T101, h101, X101, e101, E101, A101, D101, -, st101⟩ := newO X0 hx hZ hown (hw _ (List.mem_of_getElem? (i := 20) rfl)) (hw _ (List.mem_of_getElem? (i := 21) rfl)) (hw _ (List.mem_of_getElem? (i := 22) rfl)) e0 (g := (mkF m 0 #[] [])) rfl (hb hby d5_0) (by decide) (by decide)
  obtain ⟨b101, g101⟩ : ∃ z, z = h0.size := ⟨_, rfl⟩
  rw [← g101] at A101 D101 st101
  have F102 : Fld Z h101 b101 "com/example/rouse/rouse/shell/CommandLine" "characters" "[C" .null := D101 (Or.inl (hw _ (List.mem_of_getElem? (i := 30) rfl))) (ty := (.array .char)) (by decide)
  have F103 : Fld Z h101 b101 "com/example/rouse/rouse/shell/CommandLine" "wordEnds" "[I" .null := D101 (Or.inl (hw _ (List.mem_of_getElem? (i := 33) rfl))) (ty := (.array .int)) (by decide)
  have F104 : Fld Z h101 b101 "com/example/rouse/rouse/shell/CommandLine" "maxCharacters" "I" (.int (0 : Int32)) := D101 (Or.inr (hw _ (List.mem_of_getElem? (i := 35) rfl))) (ty := .int) (by decide)
  have F105 : Fld Z h101 b101 "com/example/rouse/rouse/shell/CommandLine" "maxWords" "I" (.int (0 : Int32)) := D101 (Or.inr (hw _ (List.mem_of_getElem? (i := 37) rfl))) (ty := .int) (by decide)
  have F106 : Fld Z h101 b101 "com/example/rouse/rouse/shell/CommandLine" "length" "I" (.int (0 : Int32)) := D101 (Or.inl (hw _ (List.mem_of_getElem? (i := 79) rfl))) (ty := .int) (by decide)
  have F107 : Fld Z h101 b101 "com/example/rouse/rouse/shell/CommandLine" "words" "I" (.int (0 : Int32)) := D101 (Or.inl (hw _ (List.mem_of_getElem? (i := 92) rfl))) (ty := .int) (by decide)
  have F108 : Fld Z h101 b101 "com/example/rouse/rouse/shell/CommandLine" "commandStart" "I" (.int (0 : Int32)) := D101 (Or.inl (hw _ (List.mem_of_getElem? (i := 103) rfl))) (ty := .int) (by decide)
  have g109 : n0 ≤ b101 := Nat.le_trans Z0 (Nat.le_of_eq g101.symm)
  have z111 : n0 ≤ h101.size := (Nat.le_trans Z0 E101.1)
  obtain ⟨_, _, ⟨T110, L110, k110, n110⟩, -, X110, ⟨Lc110, hQ110, l110, y110, z110⟩, st110⟩ := X101.specialBack hx (y := (⟨"com/example/rouse/rouse/shell/CommandLine", "<init>", "(II)V"⟩ : MethodName)) rfl hown (mvT hZ (hw _ (List.mem_of_getElem? (i := 25) rfl))) (mvT hZ (hw _ (List.mem_of_getElem? (i := 26) rfl))) (mvT hZ (hw _ (List.mem_of_getElem? (i := 27) rfl))) (by decide) (backOf (W := 1) (rm6 l Z a0 hw [] b101 (1048576 : Int32) (524288 : Int32) .null .null (.int (0 : Int32)) (.int (0 : Int32)) h101 n0 z111 A101 F102 F103 F104 F105 F106 F107 F108 g109) hZ (hw _ (List.mem_of_getElem? (i := 27) rfl)) (hw _ (List.mem_of_getElem? (i := 22) rfl)) (by decide) (by decide)) (g := (mkF m 8 #[] [(.int (524288 : Int32)), (.int (1048576 : Int32)), (.ref b101), (.ref b101)])) rfl (by rw [hml]; rfl) (Steps.refl _) (a := b101) (argsL := [(.int (1048576 : Int32)), (.int (524288 : Int32))]) (rest := [(.ref b101)]) (lenOf pd_0 rfl) rfl (by show 2 * 0 + _ ≤ _; exact Nat.le_of_eq rfl) (hb hby d5_8) (fun _ _ => ⟨rfl, e101, (by decide : 1 + 2 ≤ _), (by decide : 7 + 32 ≤ _)⟩)
  dsimp only [Pt.U, Pt.locs, Pt.cells, Pt.slots] at X110 l110 y110 z110 st110 hQ110
  subst l110 y110 z110
  obtain ⟨cb110, ck110, cvs110, wb110, wk110, wvs110, rfl, Nq110, K110, R110_1, R110_2, R110_3, R110_4, R110_5, R110_6, R110_7, R110_8, R110_9, R110_10, R110_11, R110_12⟩ := hQ110
  have N110 := Fr.app N0 Nq110
  have f112 : Exa Z T110.heap b101 "com/example/rouse/rouse/shell/CommandLine" := (A101.keep K110)
  obtain ⟨fs, hr, hrun, hended, hW, hsame⟩ := X110.leave (v := some (.ref b101)) (fun h => by rw [Bd.returns] at h; cases h)
  refine ⟨_, _, pre0 _ ?_, hrun, hended, _, _, rfl, ?_, ⟨_, rfl⟩, hW, hsame.mono (by decide) (by decide)⟩
  · skip
    show Steps p.tables e below (s₁.setTop (mkF m 0 #[] [])) _
    refine st101 _ ?_
    show Steps p.tables e below (T101.setTop (mkF m 3 #[] [(.ref b101)])) _
    refine XS.dup X101.here hx rfl (hb hby d5_3) rfl rfl ?_
    show Steps p.tables e below (T101.setTop (mkF m 4 #[] [(.ref b101), (.ref b101)])) _
    refine X101.ldcInt hx hown (mvT hZ (hw _ (List.mem_of_getElem? (i := 23) rfl))) (g := (mkF m 4 #[] [(.ref b101), (.ref b101)])) rfl (hb hby d5_4) _ ?_
    show Steps p.tables e below (T101.setTop (mkF m 6 #[] [(.int (1048576 : Int32)), (.ref b101), (.ref b101)])) _
    refine X101.ldcInt hx hown (mvT hZ (hw _ (List.mem_of_getElem? (i := 24) rfl))) (g := (mkF m 6 #[] [(.int (1048576 : Int32)), (.ref b101), (.ref b101)])) rfl (hb hby d5_6) _ ?_
    show Steps p.tables e below (T101.setTop (mkF m 8 #[] [(.int (524288 : Int32)), (.int (1048576 : Int32)), (.ref b101), (.ref b101)])) _
    refine st110.trans ?_
    show Steps p.tables e below (T110.setTop (mkF m 11 #[] [(.ref b101)])) _
    jvm_step X110.here [X110.here.top, hx, (hb hby d5_11), X110.method', Bd.returns, Value.isRef, FieldType.isReference]
    first | (intro acts; rw [hr _ acts rfl rfl rfl]) | rw [hr _ _ rfl rfl rfl]
    exact Steps.refl _
  · show Q5 Z  h0 n0 _ T110.heap _
    exact ⟨b101, cb110, ck110, cvs110, wb110, wk110, wvs110, rfl, N110, (((Keep.refl h0 []).ext E101).trans K110 (allS (P := (fun x => x ∈ [] ∨ h0.size ≤ x)) (Or.inr (Nat.le_trans (Nat.le_refl _) (Nat.le_of_eq g101.symm))) all0)), (Nat.le_trans (Nat.le_refl _) (Nat.le_of_eq g101.symm)), (Nat.le_trans (Nat.le_trans (Nat.le_refl _) E101.1) R110_6), (Nat.le_trans (Nat.le_trans (Nat.le_refl _) E101.1) R110_7), f112, R110_4, R110_5, R110_3, R110_1, R110_2, R110_8, R110_9, R110_10, R110_11, R110_12⟩
theorem d3_0 : decode prog_69_method_1_code 0 = .ok (.aload_n 0, 1) := by decide +kernel
theorem d3_1 : decode prog_69_method_1_code 1 = .ok (.invokespecial 3, 3) := by decide +kernel
theorem d3_4 : decode prog_69_method_1_code 4 = .ok (.aload_n 0, 1) := by decide +kernel
theorem d3_5 : decode prog_69_method_1_code 5 = .ok (.invokestatic 9, 3) := by decide +kernel
theorem d3_8 : decode prog_69_method_1_code 8 = .ok (.putfield 13, 3) := by decide +kernel
theorem d3_11 : decode prog_69_method_1_code 11 = .ok (.return_, 1) := by decide +kernel
theorem ef_3 (m : MethodId) (a1 : Addr) : entryFrame m #[(.ref a1)] 1 = mkF m 0 #[.val (.ref a1)] [] := by first | (simp [entryFrame, mkF, argsToLocals, Value.category]; done) | rfl
def Q3 (Z : State) (a1 : Addr) (h0 : Heap) (n0 : Nat) (v : Option Value) (h : Heap) (L : List Loc) : Prop := ∃ (cl : Addr) (cb : Addr) (ck : ClassId) (cvs : List Value) (wb : Addr) (wk : ClassId) (wvs : List Value), v = none ∧ Fr n0 L ∧ Keep h0 h [a1] ∧ Fld Z h a1 "com/example/rouse/rouse/shell/ShellWords" "line" "Lcom/example/rouse/rouse/shell/CommandLine;" (.ref cl) ∧ Fld Z h a1 "com/example/rouse/rouse/shell/ShellWords" "quote" "C" (.int (0 : Int32)) ∧ Fld Z h a1 "com/example/rouse/rouse/shell/ShellWords" "escaped" "Z" (.int (0 : Int32)) ∧ Fld Z h a1 "com/example/rouse/rouse/shell/ShellWords" "inWord" "Z" (.int (0 : Int32)) ∧ Fld Z h a1 "com/example/rouse/rouse/shell/ShellWords" "inComment" "Z" (.int (0 : Int32)) ∧ Fld Z h a1 "com/example/rouse/rouse/shell/ShellWords" "length" "I" (.int (0 : Int32)) ∧ Fld Z h a1 "com/example/rouse/rouse/shell/ShellWords" "skippingLine" "Z" (.int (0 : Int32)) ∧ h0.size ≤ cl ∧ h0.size ≤ cb ∧ h0.size ≤ wb ∧ Exa Z h cl "com/example/rouse/rouse/shell/CommandLine" ∧ Fld Z h cl "com/example/rouse/rouse/shell/CommandLine" "words" "I" (.int (0 : Int32)) ∧ Fld Z h cl "com/example/rouse/rouse/shell/CommandLine" "commandStart" "I" (.int (0 : Int32)) ∧ Fld Z h cl "com/example/rouse/rouse/shell/CommandLine" "length" "I" (.int (0 : Int32)) ∧ Fld Z h cl "com/example/rouse/rouse/shell/CommandLine" "characters" "[C" (.ref cb) ∧ Fld Z h cl "com/example/rouse/rouse/shell/CommandLine" "wordEnds" "[I" (.ref wb) ∧ cb ≠ wb ∧ Arv Z h cb ck .char (16 : Int32) cvs (.int (0 : Int32)) ∧ Arv Z h wb wk .int (16 : Int32) wvs (.int (0 : Int32)) ∧ cvs.length = 16 ∧ wvs.length = 16
set_option maxRecDepth 65536 in
set_option maxHeartbeats 40000000 in
theorem rm3 (l : Launch) (Z : State) (a0 : Array Value) (hw : ∀ d ∈ tables_1, d.before a0 Z = true) (ws : List Jvm.Cond) (a1 : Addr) (h0 : Heap) (n0 : Nat) (Z0 : n0 ≤ h0.size) (H0 : Exa Z h0 a1 "com/example/rouse/rouse/shell/ShellWords") (H1 : Fld Z h0 a1 "com/example/rouse/rouse/shell/ShellWords" "line" "Lcom/example/rouse/rouse/shell/CommandLine;" .null) (H2 : Fld Z h0 a1 "com/example/rouse/rouse/shell/ShellWords" "quote" "C" (.int (0 : Int32))) (H3 : Fld Z h0 a1 "com/example/rouse/rouse/shell/ShellWords" "escaped" "Z" (.int (0 : Int32))) (H4 : Fld Z h0 a1 "com/example/rouse/rouse/shell/ShellWords" "inWord" "Z" (.int (0 : Int32))) (H5 : Fld Z h0 a1 "com/example/rouse/rouse/shell/ShellWords" "inComment" "Z" (.int (0 : Int32))) (H6 : Fld Z h0 a1 "com/example/rouse/rouse/shell/ShellWords" "length" "I" (.int (0 : Int32))) (H7 : Fld Z h0 a1 "com/example/rouse/rouse/shell/ShellWords" "skippingLine" "Z" (.int (0 : Int32))) (H8 : n0 ≤ a1) :
    MetFree l (⟨"com/example/rouse/rouse/shell/ShellWords", "<init>", "()V"⟩ : MethodName) (head1 (Jvm.Cond.code (⟨"com/example/rouse/rouse/shell/ShellWords", "<init>", "()V"⟩ : MethodName) prog_69_method_1_code 1 none :: ws) ({ frames := 3, cells := 3, slots := 39, locals := 39 } : Room)) (fun a U => a = #[(.ref a1)] ∧ Z.Warmed39 U.vm ∧ U.heap = h0) (fun _ _ _ _ _ => True) (fun _ U o U' => ∃ v L, o = .returned v ∧ Q3 Z a1 h0 n0 v U'.heap L ∧ FrameEnd U o U' L ({ frames := 3, cells := 3, slots := 39, locals := 39 } : Room).cells ({ frames := 3, cells := 3, slots := 39, locals := 39 } : Room).slots) := by
  refine MetFree.of_bodySF (plainFor_of_name pn_com_example_rouse_rouse_shell_ShellWords) hisR ?_
  intro p e s m args below meth c s₁ Bd hml0 hP hK
  obtain ⟨rfl, hZ, hh⟩ := hP
  have hx := Bd.exec
  have hby := Bd.bytes
  have hml : c.maxLocals = 1 := hml0
  have hown : s.vm.findClass "com/example/rouse/rouse/shell/ShellWords" = some m.cls := findClass_of_methodNamed Bd.named
  have hnm := (name_of_methodNamed Bd.named Bd.method).1
  have X0 : Stand p l e ({ frames := 3, cells := 3, slots := 39, locals := 39 } : Room) s m #[(.ref a1)] below meth c s₁ [] 0 0 := Stand.of_body Bd
  have e0 : s₁.heap = h0 := by rw [← hh, Bd.state]; rfl
  have N0 := Fr.nil n0
  have pre0 : ∀ t, Steps p.tables e below (s₁.setTop (mkF m 0 #[.val (.ref a1)] [])) t → Steps p.tables e below (s₁.setTop (entryFrame m #[(.ref a1)] 1)) t := fun t k => castTop (ef_3 m a1) k
  obtain ⟨T101, X101, e101, st101⟩ := initO X0 hx hZ hown (hw _ (List.mem_of_getElem? (i := 14) rfl)) (hw _ (List.mem_of_getElem? (i := 15) rfl)) (hw _ (List.mem_of_getElem? (i := 16) rfl)) e0 (g := (mkF m 1 #[.val (.ref a1)] [(.ref a1)])) rfl (by rw [hml]; rfl) rfl (hb hby d3_1) (by decide) (W := 0) (by show 2 * 0 + _ ≤ _; exact Nat.le_of_eq rfl) (by decide)
  obtain ⟨_, _, ⟨T102, L102, k102, n102⟩, -, X102, ⟨Lc102, hQ102, l102, y102, z102⟩, st102⟩ := Jvm.LawKit.callS X101 hx (y := (⟨"com/example/rouse/rouse/shell/ShellWords", "newLine", "()Lcom/example/rouse/rouse/shell/CommandLine;"⟩ : MethodName)) hown (mvT hZ (hw _ (List.mem_of_getElem? (i := 17) rfl))) (mvT hZ (hw _ (List.mem_of_getElem? (i := 18) rfl))) (mvT hZ (hw _ (List.mem_of_getElem? (i := 10) rfl))) (mvT hZ (hw _ (List.mem_of_getElem? (i := 19) rfl))) (by decide) (backOf (W := 1) (rm5 l Z a0 hw []  h0 n0 Z0) hZ (hw _ (List.mem_of_getElem? (i := 19) rfl)) (hw _ (List.mem_of_getElem? (i := 10) rfl)) (by decide) (by decide)) (g := (mkF m 5 #[.val (.ref a1)] [(.ref a1)])) rfl (by rw [hml]; rfl) (argsL := []) (rest := [(.ref a1)]) (lenOf pd_1 rfl) rfl (by show 2 * 0 + _ ≤ _; exact Nat.le_of_eq rfl) (hb hby d3_5) (fun _ _ => ⟨rfl, e101, (by decide : 0 + 3 ≤ _), (by decide : 0 + 39 ≤ _)⟩)
  dsimp only [Pt.U, Pt.locs, Pt.cells, Pt.slots] at X102 l102 y102 z102 st102 hQ102
  subst l102 y102 z102
  obtain ⟨cl102, cb102, ck102, cvs102, wb102, wk102, wvs102, rfl, Nq102, K102, R102_1, R102_2, R102_3, R102_4, R102_5, R102_6, R102_7, R102_8, R102_9, R102_10, R102_11, R102_12, R102_13, R102_14⟩ := hQ102
  have N102 := Fr.app N0 Nq102
  have f103 : Fld Z T102.heap a1 "com/example/rouse/rouse/shell/ShellWords" "line" "Lcom/example/rouse/rouse/shell/CommandLine;" .null := (H1.keep K102 nin0)
  have f104 : Exa Z T102.heap a1 "com/example/rouse/rouse/shell/ShellWords" := (H0.keep K102)
  obtain ⟨T105, h105, X105, e105, W105, st105⟩ := putF X102 hx hZ hown (host := "") (Or.inl (hw _ (List.mem_of_getElem? (i := 38) rfl))) Via.refl rfl f103 f104 (Or.inl (hw _ (List.mem_of_getElem? (i := 39) rfl))) (hw _ (List.mem_of_getElem? (i := 9) rfl)) (ty := (.object "com/example/rouse/rouse/shell/CommandLine")) (by decide) rfl rfl (g := (mkF m 8 #[.val (.ref a1)] [(.ref cl102), (.ref a1)])) rfl rfl (hb hby d3_8)
  have Fw105 := f103.same W105
  have N105 := Fr.snoc X105 N102 H8
  have f106 : Fld Z h105 a1 "com/example/rouse/rouse/shell/ShellWords" "quote" "C" (.int (0 : Int32)) := ((H2.keep K102 nin0).other W105 (Or.inr (slot_ne (Or.inl (hw _ (List.mem_of_getElem? (i := 72) rfl))) (Or.inl (hw _ (List.mem_of_getElem? (i := 39) rfl))) (by decide) (t := .char) (t' := (.object "com/example/rouse/rouse/shell/CommandLine")) (by decide) (by decide))))
  have f107 : Fld Z h105 a1 "com/example/rouse/rouse/shell/ShellWords" "escaped" "Z" (.int (0 : Int32)) := ((H3.keep K102 nin0).other W105 (Or.inr (slot_ne (Or.inl (hw _ (List.mem_of_getElem? (i := 70) rfl))) (Or.inl (hw _ (List.mem_of_getElem? (i := 39) rfl))) (by decide) (t := .boolean) (t' := (.object "com/example/rouse/rouse/shell/CommandLine")) (by decide) (by decide))))
  have f108 : Fld Z h105 a1 "com/example/rouse/rouse/shell/ShellWords" "inWord" "Z" (.int (0 : Int32)) := ((H4.keep K102 nin0).other W105 (Or.inr (slot_ne (Or.inl (hw _ (List.mem_of_getElem? (i := 81) rfl))) (Or.inl (hw _ (List.mem_of_getElem? (i := 39) rfl))) (by decide) (t := .boolean) (t' := (.object "com/example/rouse/rouse/shell/CommandLine")) (by decide) (by decide))))
  have f109 : Fld Z h105 a1 "com/example/rouse/rouse/shell/ShellWords" "inComment" "Z" (.int (0 : Int32)) := ((H5.keep K102 nin0).other W105 (Or.inr (slot_ne (Or.inl (hw _ (List.mem_of_getElem? (i := 64) rfl))) (Or.inl (hw _ (List.mem_of_getElem? (i := 39) rfl))) (by decide) (t := .boolean) (t' := (.object "com/example/rouse/rouse/shell/CommandLine")) (by decide) (by decide))))
  have f110 : Fld Z h105 a1 "com/example/rouse/rouse/shell/ShellWords" "length" "I" (.int (0 : Int32)) := ((H6.keep K102 nin0).other W105 (Or.inr (slot_ne (Or.inl (hw _ (List.mem_of_getElem? (i := 46) rfl))) (Or.inl (hw _ (List.mem_of_getElem? (i := 39) rfl))) (by decide) (t := .int) (t' := (.object "com/example/rouse/rouse/shell/CommandLine")) (by decide) (by decide))))
  have f111 : Fld Z h105 a1 "com/example/rouse/rouse/shell/ShellWords" "skippingLine" "Z" (.int (0 : Int32)) := ((H7.keep K102 nin0).other W105 (Or.inr (slot_ne (Or.inl (hw _ (List.mem_of_getElem? (i := 56) rfl))) (Or.inl (hw _ (List.mem_of_getElem? (i := 39) rfl))) (by decide) (t := .boolean) (t' := (.object "com/example/rouse/rouse/shell/CommandLine")) (by decide) (by decide))))
  have f112 : Exa Z h105 cl102 "com/example/rouse/rouse/shell/CommandLine" := (R102_4.wr W105)
  have ne113 : a1 ≠ cl102 := (Nat.ne_of_lt (Nat.lt_of_lt_of_le H0.lt R102_1))
  have f114 : Fld Z h105 cl102 "com/example/rouse/rouse/shell/CommandLine" "words" "I" (.int (0 : Int32)) := (R102_5.other W105 (Or.inl (Ne.symm ne113)))
  have f115 : Fld Z h105 cl102 "com/example/rouse/rouse/shell/CommandLine" "commandStart" "I" (.int (0 : Int32)) := (R102_6.other W105 (Or.inl (Ne.symm ne113)))
  have f116 : Fld Z h105 cl102 "com/example/rouse/rouse/shell/CommandLine" "length" "I" (.int (0 : Int32)) := (R102_7.other W105 (Or.inl (Ne.symm ne113)))
  have f117 : Fld Z h105 cl102 "com/example/rouse/rouse/shell/CommandLine" "characters" "[C" (.ref cb102) := (R102_8.other W105 (Or.inl (Ne.symm ne113)))
  have f118 : Fld Z h105 cl102 "com/example/rouse/rouse/shell/CommandLine" "wordEnds" "[I" (.ref wb102) := (R102_9.other W105 (Or.inl (Ne.symm ne113)))
  have ne119 : a1 ≠ cb102 := (Nat.ne_of_lt (Nat.lt_of_lt_of_le H0.lt R102_2))
  have f120 : Arv Z h105 cb102 ck102 .char (16 : Int32) cvs102 (.int (0 : Int32)) := (R102_11.other W105 (Ne.symm ne119))
  have ne121 : a1 ≠ wb102 := (Nat.ne_of_lt (Nat.lt_of_lt_of_le H0.lt R102_3))
  have f122 : Arv Z h105 wb102 wk102 .int (16 : Int32) wvs102 (.int (0 : Int32)) := (R102_12.other W105 (Ne.symm ne121))
  obtain ⟨fs, hr, hrun, hended, hW, hsame⟩ := X105.leave (v := none) (fun _ => rfl)
  refine ⟨_, _, pre0 _ ?_, hrun, hended, _, _, rfl, ?_, ⟨_, rfl⟩, hW, hsame.mono (by decide) (by decide)⟩
  · skip
    show Steps p.tables e below (s₁.setTop (mkF m 0 #[.val (.ref a1)] [])) _
    refine XS.aloadN X0.here hx rfl (hb hby d3_0) rfl rfl ?_
    show Steps p.tables e below (s₁.setTop (mkF m 1 #[.val (.ref a1)] [(.ref a1)])) _
    refine st101 _ ?_
    show Steps p.tables e below (T101.setTop (mkF m 4 #[.val (.ref a1)] [])) _
    refine XS.aloadN X101.here hx rfl (hb hby d3_4) rfl rfl ?_
    show Steps p.tables e below (T101.setTop (mkF m 5 #[.val (.ref a1)] [(.ref a1)])) _
    refine st102 _ ?_
    show Steps p.tables e below (T102.setTop (mkF m 8 #[.val (.ref a1)] [(.ref cl102), (.ref a1)])) _
    refine st105 _ ?_
    show Steps p.tables e below (T105.setTop (mkF m 11 #[.val (.ref a1)] [])) _
    exact X105.returnOut hx Bd.returns (hb hby d3_11) hr
  · show Q3 Z a1 h0 n0 _ T105.heap _
    rw [e105]
    exact ⟨cl102, cb102, ck102, cvs102, wb102, wk102, wvs102, rfl, N105, (((Keep.refl h0 [a1]).trans K102 (all0 (P := (fun x => x ∈ [a1] ∨ h0.size ≤ x)))).wr W105 (Or.inl (List.mem_of_getElem? (i := 0) rfl))), Fw105, f106, f107, f108, f109, f110, f111, (Nat.le_trans (Nat.le_refl _) R102_1), (Nat.le_trans (Nat.le_refl _) R102_2), (Nat.le_trans (Nat.le_refl _) R102_3), f112, f114, f115, f116, f117, f118, R102_10, f120, f122, R102_13, R102_14⟩
theorem d7_0 : decode prog_69_method_5_code 0 = .ok (.aload_n 0, 1) := by decide +kernel
theorem d7_1 : decode prog_69_method_5_code 1 = .ok (.getfield 41, 3) := by decide +kernel
theorem d7_4 : decode prog_69_method_5_code 4 = .ok (.ifCond .le 7, 3) := by decide +kernel
theorem d7_7 : decode prog_69_method_5_code 7 = .ok (.iconst 1, 1) := by decide +kernel
theorem d7_8 : decode prog_69_method_5_code 8 = .ok (.goto 4, 3) := by decide +kernel
theorem d7_12 : decode prog_69_method_5_code 12 = .ok (.ireturn, 1) := by decide +kernel
theorem d7_11 : decode prog_69_method_5_code 11 = .ok (.iconst 0, 1) := by decide +kernel
theorem ef_7 (m : MethodId) (a1 : Addr) : entryFrame m #[(.ref a1)] 1 = mkF m 0 #[.val (.ref a1)] [] := by first | (simp [entryFrame, mkF, argsToLocals, Value.category]; done) | rfl
def Q7 (Z : State) (a1 : Addr) (n : Int32) (h0 : Heap) (n0 : Nat) (v : Option Value) (h : Heap) (L : List Loc) : Prop := v = some (.int (own_pos n)) ∧ Fr n0 L ∧ h = h0
set_option maxRecDepth 65536 in
set_option maxHeartbeats 40000000 in
theorem rm7 (l : Launch) (Z : State) (a0 : Array Value) (hw : ∀ d ∈ tables_1, d.before a0 Z = true) (ws : List Jvm.Cond) (a1 : Addr) (n : Int32) (h0 : Heap) (n0 : Nat) (Z0 : n0 ≤ h0.size) (H0 : Fld Z h0 a1 "com/example/rouse/rouse/shell/ShellWords" "length" "I" (.int n)) :
    MetFree l (⟨"com/example/rouse/rouse/shell/ShellWords", "continues", "()Z"⟩ : MethodName) (head1 (Jvm.Cond.code (⟨"com/example/rouse/rouse/shell/ShellWords", "continues", "()Z"⟩ : MethodName) prog_69_method_5_code 1 (some .boolean) :: ws) ({ frames := 0, cells := 0, slots := 0, locals := 0 } : Room)) (fun a U => a = #[(.ref a1)] ∧ Z.Warmed39 U.vm ∧ U.heap = h0) (fun _ _ _ _ _ => True) (fun _ U o U' => ∃ v L, o = .returned v ∧ Q7 Z a1 n h0 n0 v U'.heap L ∧ FrameEnd U o U' L ({ frames := 0, cells := 0, slots := 0, locals := 0 } : Room).cells ({ frames := 0, cells := 0, slots := 0, locals := 0 } : Room).slots) := by
  refine MetFree.of_bodySF (plainFor_of_name pn_com_example_rouse_rouse_shell_ShellWords) hisR ?_
  intro p e s m args below meth c s₁ Bd hml0 hP hK
  obtain ⟨rfl, hZ, hh⟩ := hP
  have hx := Bd.exec
  have hby := Bd.bytes
  have hml : c.maxLocals = 1 := hml0
  have hown : s.vm.findClass "com/example/rouse/rouse/shell/ShellWords" = some m.cls := findClass_of_methodNamed Bd.named
  have hnm := (name_of_methodNamed Bd.named Bd.method).1
  have X0 : Stand p l e ({ frames := 0, cells := 0, slots := 0, locals := 0 } : Room) s m #[(.ref a1)] below meth c s₁ [] 0 0 := Stand.of_body Bd
  have e0 : s₁.heap = h0 := by rw [← hh, Bd.state]; rfl
  have N0 := Fr.nil n0
  have pre0 : ∀ t, Steps p.tables e below (s₁.setTop (mkF m 0 #[.val (.ref a1)] [])) t → Steps p.tables e below (s₁.setTop (entryFrame m #[(.ref a1)] 1)) t := fun t k => castTop (ef_7 m a1) k
  obtain ⟨T101, X101, e101, st101⟩ := getF X0 hx hZ hown (host := "") (Or.inl (hw _ (List.mem_of_getElem? (i := 45) rfl))) Via.refl e0 H0 (g := (mkF m 1 #[.val (.ref a1)] [(.ref a1)])) rfl rfl (hb hby d7_1)
  have pre102 : ∀ t, Steps p.tables e below (T101.setTop (mkF m 4 #[.val (.ref a1)] [(.int n)])) t → Steps p.tables e below (s₁.setTop (entryFrame m #[(.ref a1)] 1)) t := fun t kt => by
    refine pre0 t ?_
    show Steps p.tables e below (s₁.setTop (mkF m 0 #[.val (.ref a1)] [])) _
    refine XS.aloadN X0.here hx rfl (hb hby d7_0) rfl rfl ?_
    show Steps p.tables e below (s₁.setTop (mkF m 1 #[.val (.ref a1)] [(.ref a1)])) _
    refine st101 _ ?_
    show Steps p.tables e below (T101.setTop (mkF m 4 #[.val (.ref a1)] [(.int n)])) _
    exact kt
  by_cases hc4_103 : (0 : Int32) < n
  · skip
    obtain ⟨fs, hr, hrun, hended, hW, hsame⟩ := X101.leave (v := some (.int (1 : Int32))) (fun h => by rw [Bd.returns] at h; cases h)
    refine ⟨_, _, pre102 _ ?_, hrun, hended, _, _, rfl, ?_, ⟨_, rfl⟩, hW, hsame.mono (by decide) (by decide)⟩
    · skip
      show Steps p.tables e below (T101.setTop (mkF m 4 #[.val (.ref a1)] [(.int n)])) _
      refine XS.ifNo X101.here hx rfl (hb hby d7_4) rfl ((if0 _ _).trans (tlt (hc4_103 : (0 : Int32) < n)).2.2.2) ?_
      show Steps p.tables e below (T101.setTop (mkF m 7 #[.val (.ref a1)] [])) _
      refine XS.iconst X101.here hx rfl (hb hby d7_7) ?_
      show Steps p.tables e below (T101.setTop (mkF m 8 #[.val (.ref a1)] [(.int (1 : Int32))])) _
      refine XS.goto X101.here hx rfl (pc0 := 8) (pc' := 12) rfl (hb hby d7_8) (by decide) (by decide) ?_
      show Steps p.tables e below (T101.setTop (mkF m 12 #[.val (.ref a1)] [(.int (1 : Int32))])) _
      exact retN X101 hx (t := .boolean) Bd.returns (by simp) (hb hby d7_12) hr
    · show Q7 Z a1 n h0 n0 _ T101.heap _
      rw [e101]
      exact ⟨(by simp only [own_pos, eq_true hc4_103, if_true, if_false]), N0, rfl⟩
  · skip
    obtain ⟨fs, hr, hrun, hended, hW, hsame⟩ := X101.leave (v := some (.int (0 : Int32))) (fun h => by rw [Bd.returns] at h; cases h)
    refine ⟨_, _, pre102 _ ?_, hrun, hended, _, _, rfl, ?_, ⟨_, rfl⟩, hW, hsame.mono (by decide) (by decide)⟩
    · skip
      show Steps p.tables e below (T101.setTop (mkF m 4 #[.val (.ref a1)] [(.int n)])) _
      refine XS.ifYes X101.here hx rfl (pc0 := 4) (pc' := 11) rfl (hb hby d7_4) rfl ((if0 _ _).trans (flt (hc4_103 : ¬ ((0 : Int32) < n))).2.2.2) (by decide) (by decide) ?_
      show Steps p.tables e below (T101.setTop (mkF m 11 #[.val (.ref a1)] [])) _
      refine XS.iconst X101.here hx rfl (hb hby d7_11) ?_
      show Steps p.tables e below (T101.setTop (mkF m 12 #[.val (.ref a1)] [(.int (0 : Int32))])) _
      exact retN X101 hx (t := .boolean) Bd.returns (by simp) (hb hby d7_12) hr
    · show Q7 Z a1 n h0 n0 _ T101.heap _
      rw [e101]
      exact ⟨(by simp only [own_pos, eq_false hc4_103, if_true, if_false]), N0, rfl⟩
theorem d13_0 : decode prog_69_method_6_code 0 = .ok (.aload_n 0, 1) := by decide +kernel
theorem d13_1 : decode prog_69_method_6_code 1 = .ok (.getfield 69, 3) := by decide +kernel
theorem d13_4 : decode prog_69_method_6_code 4 = .ok (.ifCond .eq 15, 3) := by decide +kernel
theorem d13_19 : decode prog_69_method_6_code 19 = .ok (.return_, 1) := by decide +kernel
theorem d13_7 : decode prog_69_method_6_code 7 = .ok (.aload_n 0, 1) := by decide +kernel
theorem d13_8 : decode prog_69_method_6_code 8 = .ok (.getfield 13, 3) := by decide +kernel
theorem d13_11 : decode prog_69_method_6_code 11 = .ok (.invokevirtual 86, 3) := by decide +kernel
theorem d13_14 : decode prog_69_method_6_code 14 = .ok (.aload_n 0, 1) := by decide +kernel
theorem d13_15 : decode prog_69_method_6_code 15 = .ok (.iconst 0, 1) := by decide +kernel
theorem d13_16 : decode prog_69_method_6_code 16 = .ok (.putfield 69, 3) := by decide +kernel
theorem ef_13 (m : MethodId) (a1 : Addr) : entryFrame m #[(.ref a1)] 1 = mkF m 0 #[.val (.ref a1)] [] := by first | (simp [entryFrame, mkF, argsToLocals, Value.category]; done) | rfl
def Q13 (Z : State) (a1 : Addr) (cl : Addr) (w : Int32) (cs : Int32) (n : Int32) (cb : Addr) (wb : Addr) (wk : ClassId) (wvs : List Value) (q : Int32) (e_ : Int32) (iw : Int32) (ic : Int32) (len : Int32) (k : Int) (h0 : Heap) (n0 : Nat) (v : Option Value) (h : Heap) (L : List Loc) : Prop := ∃ (wx : Int32) (wvx : List Value), v = none ∧ Fr n0 L ∧ Keep h0 h [a1, cl, wb] ∧ Fld Z h a1 "com/example/rouse/rouse/shell/ShellWords" "line" "Lcom/example/rouse/rouse/shell/CommandLine;" (.ref cl) ∧ Fld Z h a1 "com/example/rouse/rouse/shell/ShellWords" "quote" "C" (.int q) ∧ Fld Z h a1 "com/example/rouse/rouse/shell/ShellWords" "escaped" "Z" (.int e_) ∧ Fld Z h a1 "com/example/rouse/rouse/shell/ShellWords" "inWord" "Z" (.int (0 : Int32)) ∧ Fld Z h a1 "com/example/rouse/rouse/shell/ShellWords" "inComment" "Z" (.int ic) ∧ Fld Z h a1 "com/example/rouse/rouse/shell/ShellWords" "length" "I" (.int len) ∧ Fld Z h a1 "com/example/rouse/rouse/shell/ShellWords" "skippingLine" "Z" (.int (0 : Int32)) ∧ Fld Z h cl "com/example/rouse/rouse/shell/CommandLine" "words" "I" (.int wx) ∧ Fld Z h cl "com/example/rouse/rouse/shell/CommandLine" "commandStart" "I" (.int cs) ∧ Fld Z h cl "com/example/rouse/rouse/shell/CommandLine" "length" "I" (.int n) ∧ Fld Z h cl "com/example/rouse/rouse/shell/CommandLine" "characters" "[C" (.ref cb) ∧ Fld Z h cl "com/example/rouse/rouse/shell/CommandLine" "wordEnds" "[I" (.ref wb) ∧ Arv Z h wb wk .int (16 : Int32) wvx (.int (0 : Int32)) ∧ wvx.length = 16 ∧ own_ok (k + 1) wx cs n
set_option maxRecDepth 65536 in
set_option maxHeartbeats 40000000 in
theorem rm13 (l : Launch) (Z : State) (a0 : Array Value) (hw : ∀ d ∈ tables_1, d.before a0 Z = true) (ws : List Jvm.Cond) (a1 : Addr) (cl : Addr) (w : Int32) (cs : Int32) (n : Int32) (cb : Addr) (wb : Addr) (wk : ClassId) (wvs : List Value) (q : Int32) (e_ : Int32) (iw : Int32) (ic : Int32) (len : Int32) (k : Int) (h0 : Heap) (n0 : Nat) (Z0 : n0 ≤ h0.size) (H0 : Exa Z h0 a1 "com/example/rouse/rouse/shell/ShellWords") (H1 : Fld Z h0 a1 "com/example/rouse/rouse/shell/ShellWords" "line" "Lcom/example/rouse/rouse/shell/CommandLine;" (.ref cl)) (H2 : Fld Z h0 a1 "com/example/rouse/rouse/shell/ShellWords" "quote" "C" (.int q)) (H3 : Fld Z h0 a1 "com/example/rouse/rouse/shell/ShellWords" "escaped" "Z" (.int e_)) (H4 : Fld Z h0 a1 "com/example/rouse/rouse/shell/ShellWords" "inWord" "Z" (.int iw)) (H5 : Fld Z h0 a1 "com/example/rouse/rouse/shell/ShellWords" "inComment" "Z" (.int ic)) (H6 : Fld Z h0 a1 "com/example/rouse/rouse/shell/ShellWords" "length" "I" (.int len)) (H7 : Fld Z h0 a1 "com/example/rouse/rouse/shell/ShellWords" "skippingLine" "Z" (.int (0 : Int32))) (H8 : Exa Z h0 cl "com/example/rouse/rouse/shell/CommandLine") (H9 : Fld Z h0 cl "com/example/rouse/rouse/shell/CommandLine" "words" "I" (.int w)) (H10 : Fld Z h0 cl "com/example/rouse/rouse/shell/CommandLine" "commandStart" "I" (.int cs)) (H11 : Fld Z h0 cl "com/example/rouse/rouse/shell/CommandLine" "length" "I" (.int n)) (H12 : Fld Z h0 cl "com/example/rouse/rouse/shell/CommandLine" "characters" "[C" (.ref cb)) (H13 : Fld Z h0 cl "com/example/rouse/rouse/shell/CommandLine" "wordEnds" "[I" (.ref wb)) (H14 : Arv Z h0 wb wk .int (16 : Int32) wvs (.int (0 : Int32))) (H15 : n0 ≤ a1) (H16 : n0 ≤ cl) (H17 : n0 ≤ wb) (H18 : own_ok k w cs n) (H19 : k + 3 < 16) (H20 : wvs.length = 16) :
    MetFree l (⟨"com/example/rouse/rouse/shell/ShellWords", "endWord", "()V"⟩ : MethodName) (head1 (Jvm.Cond.code (⟨"com/example/rouse/rouse/shell/ShellWords", "endWord", "()V"⟩ : MethodName) prog_69_method_6_code 1 none :: ws) ({ frames := 1, cells := 0, slots := 0, locals := 12 } : Room)) (fun a U => a = #[(.ref a1)] ∧ Z.Warmed39 U.vm ∧ U.heap = h0) (fun _ _ _ _ _ => True) (fun _ U o U' => ∃ v L, o = .returned v ∧ Q13 Z a1 cl w cs n cb wb wk wvs q e_ iw ic len k h0 n0 v U'.heap L ∧ FrameEnd U o U' L ({ frames := 1, cells := 0, slots := 0, locals := 12 } : Room).cells ({ frames := 1, cells := 0, slots := 0, locals := 12 } : Room).slots) := by
  refine MetFree.of_bodySF (plainFor_of_name pn_com_example_rouse_rouse_shell_ShellWords) hisR ?_
  intro p e s m args below meth c s₁ Bd hml0 hP hK
  obtain ⟨rfl, hZ, hh⟩ := hP
  have hx := Bd.exec
  have hby := Bd.bytes
  have hml : c.maxLocals = 1 := hml0
  have hown : s.vm.findClass "com/example/rouse/rouse/shell/ShellWords" = some m.cls := findClass_of_methodNamed Bd.named
  have hnm := (name_of_methodNamed Bd.named Bd.method).1
  have X0 : Stand p l e ({ frames := 1, cells := 0, slots := 0, locals := 12 } : Room) s m #[(.ref a1)] below meth c s₁ [] 0 0 := Stand.of_body Bd
  have e0 : s₁.heap = h0 := by rw [← hh, Bd.state]; rfl
  have N0 := Fr.nil n0
  have pre0 : ∀ t, Steps p.tables e below (s₁.setTop (mkF m 0 #[.val (.ref a1)] [])) t → Steps p.tables e below (s₁.setTop (entryFrame m #[(.ref a1)] 1)) t := fun t k => castTop (ef_13 m a1) k
  obtain ⟨T101, X101, e101, st101⟩ := getF X0 hx hZ hown (host := "") (Or.inl (hw _ (List.mem_of_getElem? (i := 80) rfl))) Via.refl e0 H4 (g := (mkF m 1 #[.val (.ref a1)] [(.ref a1)])) rfl rfl (hb hby d13_1)
  have pre102 : ∀ t, Steps p.tables e below (T101.setTop (mkF m 4 #[.val (.ref a1)] [(.int iw)])) t → Steps p.tables e below (s₁.setTop (entryFrame m #[(.ref a1)] 1)) t := fun t kt => by
    refine pre0 t ?_
    show Steps p.tables e below (s₁.setTop (mkF m 0 #[.val (.ref a1)] [])) _
    refine XS.aloadN X0.here hx rfl (hb hby d13_0) rfl rfl ?_
    show Steps p.tables e below (s₁.setTop (mkF m 1 #[.val (.ref a1)] [(.ref a1)])) _
    refine st101 _ ?_
    show Steps p.tables e below (T101.setTop (mkF m 4 #[.val (.ref a1)] [(.int iw)])) _
    exact kt
  by_cases hc4_103 : iw = (0 : Int32)
  · skip
    obtain ⟨fs, hr, hrun, hended, hW, hsame⟩ := X101.leave (v := none) (fun _ => rfl)
    refine ⟨_, _, pre102 _ ?_, hrun, hended, _, _, rfl, ?_, ⟨_, rfl⟩, hW, hsame.mono (by decide) (by decide)⟩
    · skip
      show Steps p.tables e below (T101.setTop (mkF m 4 #[.val (.ref a1)] [(.int iw)])) _
      refine XS.ifYes X101.here hx rfl (pc0 := 4) (pc' := 19) rfl (hb hby d13_4) rfl ((if0 _ _).trans (teq (hc4_103 : iw = (0 : Int32))).1) (by decide) (by decide) ?_
      show Steps p.tables e below (T101.setTop (mkF m 19 #[.val (.ref a1)] [])) _
      exact X101.returnOut hx Bd.returns (hb hby d13_19) hr
    · show Q13 Z a1 cl w cs n cb wb wk wvs q e_ iw ic len k h0 n0 _ T101.heap _
      rw [e101]
      exact ⟨w, wvs, rfl, N0, (Keep.refl h0 [a1, cl, wb]), H1, H2, H3, (by simpa only [hc4_103] using H4), H5, H6, H7, H9, H10, H11, H12, H13, H14, H20, (by obtain ⟨o1, o2, o3, o4, o5, o6⟩ := H18; have i1 := own_inc o1 o2 (by omega); exact ⟨by omega, by omega, by omega, by omega, by omega, by omega⟩)⟩
  · skip
    obtain ⟨T104, X104, e104, st104⟩ := getF X101 hx hZ hown (host := "") (Or.inl (hw _ (List.mem_of_getElem? (i := 38) rfl))) Via.refl e101 H1 (g := (mkF m 8 #[.val (.ref a1)] [(.ref a1)])) rfl rfl (hb hby d13_8)
    obtain ⟨cq105, kq105, q105a, q105b, q105c⟩ := isOf hZ e104 H8
    obtain ⟨_, _, ⟨T105, L105, k105, n105⟩, -, X105, ⟨Lc105, hQ105, l105, y105, z105⟩, st105⟩ := X104.virtualBack hx (y := (⟨"com/example/rouse/rouse/shell/CommandLine", "endWord", "()V"⟩ : MethodName)) (z := (⟨"com/example/rouse/rouse/shell/CommandLine", "endWord", "()V"⟩ : MethodName)) hown (mvT hZ (hw _ (List.mem_of_getElem? (i := 86) rfl))) (mvT hZ (hw _ (List.mem_of_getElem? (i := 87) rfl))) (notFace_of_selects (args := #[]) (mvT hZ (hw _ (List.mem_of_getElem? (i := 89) rfl)))) (mvT hZ (hw _ (List.mem_of_getElem? (i := 89) rfl))) (mvT hZ (hw _ (List.mem_of_getElem? (i := 88) rfl))) (by decide) (backOf (W := 0) (rm14 l Z a0 hw [] cl w cs n cb wb wk wvs h0 n0 Z0 H8 H9 H10 H11 H12 H13 H14 H16 H17 (own_in_of H18.1 H18.2.1 (by omega)) H20) hZ (hw _ (List.mem_of_getElem? (i := 90) rfl)) (hw _ (List.mem_of_getElem? (i := 22) rfl)) (by decide) (by decide)) q105a q105c (g := (mkF m 11 #[.val (.ref a1)] [(.ref cl)])) rfl (by rw [hml]; rfl) (Steps.refl _) (argsL := []) (rest := []) (lenOf pd_2 rfl) rfl (by show 2 * 0 + _ ≤ _; exact Nat.le_of_eq rfl) (hb hby d13_11) (fun _ _ => ⟨rfl, e104, (by decide : 0 + 0 ≤ _), (by decide : 0 + 0 ≤ _)⟩)
    dsimp only [Pt.U, Pt.locs, Pt.cells, Pt.slots] at X105 l105 y105 z105 st105 hQ105
    subst l105 y105 z105
    obtain ⟨wvx105, rfl, Nq105, K105, R105_1, R105_2, R105_3, R105_4, R105_5, R105_6, R105_7⟩ := hQ105
    have N105 := Fr.app N0 Nq105
    have ne106 : a1 ≠ wb := Exa.neArv (H0.keep K105) R105_6 (hw _ (List.mem_of_getElem? (i := 9) rfl))
    have ne107 : a1 ≠ cl := ne_exa H0 H8 (by decide)
    have f108 : Fld Z T105.heap a1 "com/example/rouse/rouse/shell/ShellWords" "inWord" "Z" (.int iw) := (H4.keep K105 (ninS ne107 (ninS ne106 nin0)))
    have f109 : Exa Z T105.heap a1 "com/example/rouse/rouse/shell/ShellWords" := (H0.keep K105)
    obtain ⟨T110, h110, X110, e110, W110, st110⟩ := putFN X105 hx hZ hown (hw _ (List.mem_of_getElem? (i := 80) rfl)) Via.refl rfl f108 f109 (Or.inl (hw _ (List.mem_of_getElem? (i := 81) rfl))) (hw _ (List.mem_of_getElem? (i := 9) rfl)) (ty := .boolean) (v' := (.int (nar .boolean (0 : Int32)))) (by decide) rfl (fits_nar_bool _) (g := (mkF m 16 #[.val (.ref a1)] [(.int (0 : Int32)), (.ref a1)])) rfl rfl (hb hby d13_16)
    rw [show nar .boolean (0 : Int32) = (0 : Int32) from by decide] at W110
    have Fw110 := f108.same W110
    have N110 := Fr.snoc X110 N105 H15
    have f111 : Fld Z h110 a1 "com/example/rouse/rouse/shell/ShellWords" "line" "Lcom/example/rouse/rouse/shell/CommandLine;" (.ref cl) := ((H1.keep K105 (ninS ne107 (ninS ne106 nin0))).other W110 (Or.inr (slot_ne (Or.inl (hw _ (List.mem_of_getElem? (i := 39) rfl))) (Or.inl (hw _ (List.mem_of_getElem? (i := 81) rfl))) (by decide) (t := (.object "com/example/rouse/rouse/shell/CommandLine")) (t' := .boolean) (by decide) (by decide))))
    have f112 : Fld Z h110 a1 "com/example/rouse/rouse/shell/ShellWords" "quote" "C" (.int q) := ((H2.keep K105 (ninS ne107 (ninS ne106 nin0))).other W110 (Or.inr (slot_ne (Or.inl (hw _ (List.mem_of_getElem? (i := 72) rfl))) (Or.inl (hw _ (List.mem_of_getElem? (i := 81) rfl))) (by decide) (t := .char) (t' := .boolean) (by decide) (by decide))))
    have f113 : Fld Z h110 a1 "com/example/rouse/rouse/shell/ShellWords" "escaped" "Z" (.int e_) := ((H3.keep K105 (ninS ne107 (ninS ne106 nin0))).other W110 (Or.inr (slot_ne (Or.inl (hw _ (List.mem_of_getElem? (i := 70) rfl))) (Or.inl (hw _ (List.mem_of_getElem? (i := 81) rfl))) (by decide) (t := .boolean) (t' := .boolean) (by decide) (by decide))))
    have f114 : Fld Z h110 a1 "com/example/rouse/rouse/shell/ShellWords" "inComment" "Z" (.int ic) := ((H5.keep K105 (ninS ne107 (ninS ne106 nin0))).other W110 (Or.inr (slot_ne (Or.inl (hw _ (List.mem_of_getElem? (i := 64) rfl))) (Or.inl (hw _ (List.mem_of_getElem? (i := 81) rfl))) (by decide) (t := .boolean) (t' := .boolean) (by decide) (by decide))))
    have f115 : Fld Z h110 a1 "com/example/rouse/rouse/shell/ShellWords" "length" "I" (.int len) := ((H6.keep K105 (ninS ne107 (ninS ne106 nin0))).other W110 (Or.inr (slot_ne (Or.inl (hw _ (List.mem_of_getElem? (i := 46) rfl))) (Or.inl (hw _ (List.mem_of_getElem? (i := 81) rfl))) (by decide) (t := .int) (t' := .boolean) (by decide) (by decide))))
    have f116 : Fld Z h110 a1 "com/example/rouse/rouse/shell/ShellWords" "skippingLine" "Z" (.int (0 : Int32)) := ((H7.keep K105 (ninS ne107 (ninS ne106 nin0))).other W110 (Or.inr (slot_ne (Or.inl (hw _ (List.mem_of_getElem? (i := 56) rfl))) (Or.inl (hw _ (List.mem_of_getElem? (i := 81) rfl))) (by decide) (t := .boolean) (t' := .boolean) (by decide) (by decide))))
    have f117 : Fld Z h110 cl "com/example/rouse/rouse/shell/CommandLine" "words" "I" (.int (w + (1 : Int32))) := (R105_1.other W110 (Or.inl (Ne.symm ne107)))
    have f118 : Fld Z h110 cl "com/example/rouse/rouse/shell/CommandLine" "commandStart" "I" (.int cs) := (R105_2.other W110 (Or.inl (Ne.symm ne107)))
    have f119 : Fld Z h110 cl "com/example/rouse/rouse/shell/CommandLine" "length" "I" (.int n) := (R105_3.other W110 (Or.inl (Ne.symm ne107)))
    have f120 : Fld Z h110 cl "com/example/rouse/rouse/shell/CommandLine" "characters" "[C" (.ref cb) := (R105_4.other W110 (Or.inl (Ne.symm ne107)))
    have f121 : Fld Z h110 cl "com/example/rouse/rouse/shell/CommandLine" "wordEnds" "[I" (.ref wb) := (R105_5.other W110 (Or.inl (Ne.symm ne107)))
    have f122 : Arv Z h110 wb wk .int (16 : Int32) wvx105 (.int (0 : Int32)) := (R105_6.other W110 (Ne.symm ne106))
    obtain ⟨fs, hr, hrun, hended, hW, hsame⟩ := X110.leave (v := none) (fun _ => rfl)
    refine ⟨_, _, pre102 _ ?_, hrun, hended, _, _, rfl, ?_, ⟨_, rfl⟩, hW, hsame.mono (by decide) (by decide)⟩
    · skip
      show Steps p.tables e below (T101.setTop (mkF m 4 #[.val (.ref a1)] [(.int iw)])) _
      refine XS.ifNo X101.here hx rfl (hb hby d13_4) rfl ((if0 _ _).trans (feq (hc4_103 : ¬ (iw = (0 : Int32)))).1) ?_
      show Steps p.tables e below (T101.setTop (mkF m 7 #[.val (.ref a1)] [])) _
      refine XS.aloadN X101.here hx rfl (hb hby d13_7) rfl rfl ?_
      show Steps p.tables e below (T101.setTop (mkF m 8 #[.val (.ref a1)] [(.ref a1)])) _
      refine st104 _ ?_
      show Steps p.tables e below (T104.setTop (mkF m 11 #[.val (.ref a1)] [(.ref cl)])) _
      refine st105.trans ?_
      show Steps p.tables e below (T105.setTop (mkF m 14 #[.val (.ref a1)] [])) _
      refine XS.aloadN X105.here hx rfl (hb hby d13_14) rfl rfl ?_
      show Steps p.tables e below (T105.setTop (mkF m 15 #[.val (.ref a1)] [(.ref a1)])) _
      refine XS.iconst X105.here hx rfl (hb hby d13_15) ?_
      show Steps p.tables e below (T105.setTop (mkF m 16 #[.val (.ref a1)] [(.int (0 : Int32)), (.ref a1)])) _
      refine st110 _ ?_
      show Steps p.tables e below (T110.setTop (mkF m 19 #[.val (.ref a1)] [])) _
      exact X110.returnOut hx Bd.returns (hb hby d13_19) hr
    · show Q13 Z a1 cl w cs n cb wb wk wvs q e_ iw ic len k h0 n0 _ T110.heap _
      rw [e110]
      exact ⟨(w + (1 : Int32)), wvx105, rfl, N110, (((Keep.refl h0 [a1, cl, wb]).trans K105 (allS (P := (fun x => x ∈ [a1, cl, wb] ∨ h0.size ≤ x)) (Or.inl (List.mem_of_getElem? (i := 1) rfl)) (allS (P := (fun x => x ∈ [a1, cl, wb] ∨ h0.size ≤ x)) (Or.inl (List.mem_of_getElem? (i := 2) rfl)) all0))).wr W110 (Or.inl (List.mem_of_getElem? (i := 0) rfl))), f111, f112, f113, Fw110, f114, f115, f116, f117, f118, f119, f120, f121, f122, R105_7, (by obtain ⟨o1, o2, o3, o4, o5, o6⟩ := H18; have i1 := own_inc o1 o2 (by omega); exact ⟨by omega, by omega, by omega, by omega, by omega, by omega⟩)⟩
theorem d15_0 : decode prog_69_method_7_code 0 = .ok (.aload_n 0, 1) := by decide +kernel
theorem d15_1 : decode prog_69_method_7_code 1 = .ok (.invokevirtual 72, 3) := by decide +kernel
theorem d15_4 : decode prog_69_method_7_code 4 = .ok (.aload_n 0, 1) := by decide +kernel
theorem d15_5 : decode prog_69_method_7_code 5 = .ok (.getfield 13, 3) := by decide +kernel
theorem d15_8 : decode prog_69_method_7_code 8 = .ok (.invokevirtual 75, 3) := by decide +kernel
theorem d15_11 : decode prog_69_method_7_code 11 = .ok (.ifCond .eq 10, 3) := by decide +kernel
theorem d15_21 : decode prog_69_method_7_code 21 = .ok (.aload_n 0, 1) := by decide +kernel
theorem d15_22 : decode prog_69_method_7_code 22 = .ok (.getfield 13, 3) := by decide +kernel
theorem d15_25 : decode prog_69_method_7_code 25 = .ok (.astore_n 1, 1) := by decide +kernel
theorem d15_26 : decode prog_69_method_7_code 26 = .ok (.aload_n 0, 1) := by decide +kernel
theorem d15_27 : decode prog_69_method_7_code 27 = .ok (.invokestatic 9, 3) := by decide +kernel
theorem d15_30 : decode prog_69_method_7_code 30 = .ok (.putfield 13, 3) := by decide +kernel
theorem d15_33 : decode prog_69_method_7_code 33 = .ok (.aload_n 0, 1) := by decide +kernel
theorem d15_34 : decode prog_69_method_7_code 34 = .ok (.iconst 0, 1) := by decide +kernel
theorem d15_35 : decode prog_69_method_7_code 35 = .ok (.putfield 41, 3) := by decide +kernel
theorem d15_38 : decode prog_69_method_7_code 38 = .ok (.aload_n 1, 1) := by decide +kernel
theorem d15_39 : decode prog_69_method_7_code 39 = .ok (.areturn, 1) := by decide +kernel
theorem d15_14 : decode prog_69_method_7_code 14 = .ok (.aload_n 0, 1) := by decide +kernel
theorem d15_15 : decode prog_69_method_7_code 15 = .ok (.getfield 13, 3) := by decide +kernel
theorem d15_18 : decode prog_69_method_7_code 18 = .ok (.invokevirtual 81, 3) := by decide +kernel
theorem ef_15 (m : MethodId) (a1 : Addr) : entryFrame m #[(.ref a1)] 2 = mkF m 0 #[.val (.ref a1), .unset] [] := by first | (simp [entryFrame, mkF, argsToLocals, Value.category]; done) | rfl
def Q15 (Z : State) (a1 : Addr) (cl : Addr) (w : Int32) (cs : Int32) (n : Int32) (cb : Addr) (wb : Addr) (wk : ClassId) (wvs : List Value) (q : Int32) (e_ : Int32) (iw : Int32) (ic : Int32) (len : Int32) (k : Int) (h0 : Heap) (n0 : Nat) (v : Option Value) (h : Heap) (L : List Loc) : Prop := ∃ (cly : Addr) (cby : Addr) (cky : ClassId) (cvy : List Value) (wby : Addr) (wky : ClassId) (wvy : List Value), v = some (.ref cl) ∧ Fr n0 L ∧ Keep h0 h [a1, cl, wb] ∧ Fld Z h a1 "com/example/rouse/rouse/shell/ShellWords" "line" "Lcom/example/rouse/rouse/shell/CommandLine;" (.ref cly) ∧ Fld Z h a1 "com/example/rouse/rouse/shell/ShellWords" "quote" "C" (.int q) ∧ Fld Z h a1 "com/example/rouse/rouse/shell/ShellWords" "escaped" "Z" (.int e_) ∧ Fld Z h a1 "com/example/rouse/rouse/shell/ShellWords" "inWord" "Z" (.int (0 : Int32)) ∧ Fld Z h a1 "com/example/rouse/rouse/shell/ShellWords" "inComment" "Z" (.int ic) ∧ Fld Z h a1 "com/example/rouse/rouse/shell/ShellWords" "length" "I" (.int (0 : Int32)) ∧ Fld Z h a1 "com/example/rouse/rouse/shell/ShellWords" "skippingLine" "Z" (.int (0 : Int32)) ∧ h0.size ≤ cly ∧ h0.size ≤ cby ∧ h0.size ≤ wby ∧ Exa Z h cly "com/example/rouse/rouse/shell/CommandLine" ∧ Fld Z h cly "com/example/rouse/rouse/shell/CommandLine" "words" "I" (.int (0 : Int32)) ∧ Fld Z h cly "com/example/rouse/rouse/shell/CommandLine" "commandStart" "I" (.int (0 : Int32)) ∧ Fld Z h cly "com/example/rouse/rouse/shell/CommandLine" "length" "I" (.int (0 : Int32)) ∧ Fld Z h cly "com/example/rouse/rouse/shell/CommandLine" "characters" "[C" (.ref cby) ∧ Fld Z h cly "com/example/rouse/rouse/shell/CommandLine" "wordEnds" "[I" (.ref wby) ∧ cby ≠ wby ∧ Arv Z h cby cky .char (16 : Int32) cvy (.int (0 : Int32)) ∧ Arv Z h wby wky .int (16 : Int32) wvy (.int (0 : Int32)) ∧ cvy.length = 16 ∧ wvy.length = 16
set_option maxRecDepth 65536 in
set_option maxHeartbeats 40000000 in
theorem rm15 (l : Launch) (Z : State) (a0 : Array Value) (hw : ∀ d ∈ tables_1, d.before a0 Z = true) (ws : List Jvm.Cond) (a1 : Addr) (cl : Addr) (w : Int32) (cs : Int32) (n : Int32) (cb : Addr) (wb : Addr) (wk : ClassId) (wvs : List Value) (q : Int32) (e_ : Int32) (iw : Int32) (ic : Int32) (len : Int32) (k : Int) (h0 : Heap) (n0 : Nat) (Z0 : n0 ≤ h0.size) (H0 : Exa Z h0 a1 "com/example/rouse/rouse/shell/ShellWords") (H1 : Fld Z h0 a1 "com/example/rouse/rouse/shell/ShellWords" "line" "Lcom/example/rouse/rouse/shell/CommandLine;" (.ref cl)) (H2 : Fld Z h0 a1 "com/example/rouse/rouse/shell/ShellWords" "quote" "C" (.int q)) (H3 : Fld Z h0 a1 "com/example/rouse/rouse/shell/ShellWords" "escaped" "Z" (.int e_)) (H4 : Fld Z h0 a1 "com/example/rouse/rouse/shell/ShellWords" "inWord" "Z" (.int iw)) (H5 : Fld Z h0 a1 "com/example/rouse/rouse/shell/ShellWords" "inComment" "Z" (.int ic)) (H6 : Fld Z h0 a1 "com/example/rouse/rouse/shell/ShellWords" "length" "I" (.int len)) (H7 : Fld Z h0 a1 "com/example/rouse/rouse/shell/ShellWords" "skippingLine" "Z" (.int (0 : Int32))) (H8 : Exa Z h0 cl "com/example/rouse/rouse/shell/CommandLine") (H9 : Fld Z h0 cl "com/example/rouse/rouse/shell/CommandLine" "words" "I" (.int w)) (H10 : Fld Z h0 cl "com/example/rouse/rouse/shell/CommandLine" "commandStart" "I" (.int cs)) (H11 : Fld Z h0 cl "com/example/rouse/rouse/shell/CommandLine" "length" "I" (.int n)) (H12 : Fld Z h0 cl "com/example/rouse/rouse/shell/CommandLine" "characters" "[C" (.ref cb)) (H13 : Fld Z h0 cl "com/example/rouse/rouse/shell/CommandLine" "wordEnds" "[I" (.ref wb)) (H14 : Arv Z h0 wb wk .int (16 : Int32) wvs (.int (0 : Int32))) (H15 : n0 ≤ a1) (H16 : n0 ≤ cl) (H17 : n0 ≤ wb) (H18 : own_ok k w cs n) (H19 : k + 3 < 16) (H20 : wvs.length = 16) :
    MetFree l (⟨"com/example/rouse/rouse/shell/ShellWords", "endCommandLine", "()Ljava/lang/Iterable;"⟩ : MethodName) (head1 (Jvm.Cond.code (⟨"com/example/rouse/rouse/shell/ShellWords", "endCommandLine", "()Ljava/lang/Iterable;"⟩ : MethodName) prog_69_method_7_code 2 (some (.object "java/lang/Iterable")) :: ws) ({ frames := 3, cells := 3, slots := 39, locals := 39 } : Room)) (fun a U => a = #[(.ref a1)] ∧ Z.Warmed39 U.vm ∧ U.heap = h0) (fun _ _ _ _ _ => True) (fun _ U o U' => ∃ v L, o = .returned v ∧ Q15 Z a1 cl w cs n cb wb wk wvs q e_ iw ic len k h0 n0 v U'.heap L ∧ FrameEnd U o U' L ({ frames := 3, cells := 3, slots := 39, locals := 39 } : Room).cells ({ frames := 3, cells := 3, slots := 39, locals := 39 } : Room).slots) := by
  refine MetFree.of_bodySF (plainFor_of_name pn_com_example_rouse_rouse_shell_ShellWords) hisR ?_
  intro p e s m args below meth c s₁ Bd hml0 hP hK
  obtain ⟨rfl, hZ, hh⟩ := hP
  have hx := Bd.exec
  have hby := Bd.bytes
  have hml : c.maxLocals = 2 := hml0
  have hown : s.vm.findClass "com/example/rouse/rouse/shell/ShellWords" = some m.cls := findClass_of_methodNamed Bd.named
  have hnm := (name_of_methodNamed Bd.named Bd.method).1
  have X0 : Stand p l e ({ frames := 3, cells := 3, slots := 39, locals := 39 } : Room) s m #[(.ref a1)] below meth c s₁ [] 0 0 := Stand.of_body Bd
  have e0 : s₁.heap = h0 := by rw [← hh, Bd.state]; rfl
  have N0 := Fr.nil n0
  have pre0 : ∀ t, Steps p.tables e below (s₁.setTop (mkF m 0 #[.val (.ref a1), .unset] [])) t → Steps p.tables e below (s₁.setTop (entryFrame m #[(.ref a1)] 2)) t := fun t k => castTop (ef_15 m a1) k
  obtain ⟨cq101, q101, q101'⟩ := H0.cell
  obtain ⟨_, _, ⟨T101, L101, k101, n101⟩, -, X101, ⟨Lc101, hQ101, l101, y101, z101⟩, st101⟩ := X0.privateBack hx (y := (⟨"com/example/rouse/rouse/shell/ShellWords", "endWord", "()V"⟩ : MethodName)) hown (mvT hZ (hw _ (List.mem_of_getElem? (i := 82) rfl))) (mvT hZ (hw _ (List.mem_of_getElem? (i := 83) rfl))) (mvT hZ (own_selp (by decide) (hw _ (List.mem_of_getElem? (i := 9) rfl)) (hw _ (List.mem_of_getElem? (i := 84) rfl)) (hw _ (List.mem_of_getElem? (i := 83) rfl)))) (Cond.privateMethod_at (mvP hZ (hw _ (List.mem_of_getElem? (i := 84) rfl)) (args := #[]))) (mvT hZ (hw _ (List.mem_of_getElem? (i := 85) rfl))) (by decide) (backOf (W := 0) (rm13 l Z a0 hw [] a1 cl w cs n cb wb wk wvs q e_ iw ic len k h0 n0 Z0 H0 H1 H2 H3 H4 H5 H6 H7 H8 H9 H10 H11 H12 H13 H14 H15 H16 H17 H18 H19 H20) hZ (hw _ (List.mem_of_getElem? (i := 85) rfl)) (hw _ (List.mem_of_getElem? (i := 10) rfl)) (by decide) (by decide)) (g := (mkF m 1 #[.val (.ref a1), .unset] [(.ref a1)])) rfl (by rw [hml]; rfl) (Steps.refl _) (a := a1) (by rw [e0]; exact q101) q101' (argsL := []) (rest := []) (lenOf pd_2 rfl) rfl (by show 2 * 0 + _ ≤ _; exact Nat.le_of_eq rfl) (hb hby d15_1) (fun _ _ => ⟨rfl, e0, (by decide : 0 + 0 ≤ _), (by decide : 0 + 0 ≤ _)⟩)
  dsimp only [Pt.U, Pt.locs, Pt.cells, Pt.slots] at X101 l101 y101 z101 st101 hQ101
  subst l101 y101 z101
  obtain ⟨wx101, wvx101, rfl, Nq101, K101, R101_1, R101_2, R101_3, R101_4, R101_5, R101_6, R101_7, R101_8, R101_9, R101_10, R101_11, R101_12, R101_13, R101_14, R101_15⟩ := hQ101
  have N101 := Fr.app N0 Nq101
  obtain ⟨T102, X102, e102, st102⟩ := getF X101 hx hZ hown (host := "") (Or.inl (hw _ (List.mem_of_getElem? (i := 38) rfl))) Via.refl rfl R101_1 (g := (mkF m 5 #[.val (.ref a1), .unset] [(.ref a1)])) rfl rfl (hb hby d15_5)
  have z104 : n0 ≤ T101.heap.size := (Nat.le_trans Z0 K101.1)
  have f105 : Exa Z T101.heap cl "com/example/rouse/rouse/shell/CommandLine" := (H8.keep K101)
  obtain ⟨cq103, kq103, q103a, q103b, q103c⟩ := isOf hZ e102 f105
  obtain ⟨_, _, ⟨T103, L103, k103, n103⟩, -, X103, ⟨Lc103, hQ103, l103, y103, z103⟩, st103⟩ := X102.virtualBack hx (y := (⟨"com/example/rouse/rouse/shell/CommandLine", "commandHasWords", "()Z"⟩ : MethodName)) (z := (⟨"com/example/rouse/rouse/shell/CommandLine", "commandHasWords", "()Z"⟩ : MethodName)) hown (mvT hZ (hw _ (List.mem_of_getElem? (i := 97) rfl))) (mvT hZ (hw _ (List.mem_of_getElem? (i := 98) rfl))) (notFace_of_selects (args := #[]) (mvT hZ (hw _ (List.mem_of_getElem? (i := 100) rfl)))) (mvT hZ (hw _ (List.mem_of_getElem? (i := 100) rfl))) (mvT hZ (hw _ (List.mem_of_getElem? (i := 99) rfl))) (by decide) (backOf (W := 0) (rm16 l Z a0 hw [] cl wx101 cs T101.heap n0 z104 R101_8 R101_9) hZ (hw _ (List.mem_of_getElem? (i := 101) rfl)) (hw _ (List.mem_of_getElem? (i := 22) rfl)) (by decide) (by decide)) q103a q103c (g := (mkF m 8 #[.val (.ref a1), .unset] [(.ref cl)])) rfl (by rw [hml]; rfl) (Steps.refl _) (argsL := []) (rest := []) (lenOf pd_3 rfl) rfl (by show 2 * 0 + _ ≤ _; exact Nat.le_of_eq rfl) (hb hby d15_8) (fun _ _ => ⟨rfl, e102, (by decide : 0 + 0 ≤ _), (by decide : 0 + 0 ≤ _)⟩)
  dsimp only [Pt.U, Pt.locs, Pt.cells, Pt.slots] at X103 l103 y103 z103 st103 hQ103
  subst l103 y103 z103
  obtain ⟨rfl, Nq103, Heq103⟩ := hQ103
  have N103 := Fr.app N101 Nq103
  have pre106 : ∀ t, Steps p.tables e below (T103.setTop (mkF m 11 #[.val (.ref a1), .unset] [(.int (own_b cs wx101))])) t → Steps p.tables e below (s₁.setTop (entryFrame m #[(.ref a1)] 2)) t := fun t kt => by
    refine pre0 t ?_
    show Steps p.tables e below (s₁.setTop (mkF m 0 #[.val (.ref a1), .unset] [])) _
    refine XS.aloadN X0.here hx rfl (hb hby d15_0) rfl rfl ?_
    show Steps p.tables e below (s₁.setTop (mkF m 1 #[.val (.ref a1), .unset] [(.ref a1)])) _
    refine st101.trans ?_
    show Steps p.tables e below (T101.setTop (mkF m 4 #[.val (.ref a1), .unset] [])) _
    refine XS.aloadN X101.here hx rfl (hb hby d15_4) rfl rfl ?_
    show Steps p.tables e below (T101.setTop (mkF m 5 #[.val (.ref a1), .unset] [(.ref a1)])) _
    refine st102 _ ?_
    show Steps p.tables e below (T102.setTop (mkF m 8 #[.val (.ref a1), .unset] [(.ref cl)])) _
    refine st103.trans ?_
    show Steps p.tables e below (T103.setTop (mkF m 11 #[.val (.ref a1), .unset] [(.int (own_b cs wx101))])) _
    exact kt
  by_cases hc11_107 : (own_b cs wx101) = (0 : Int32)
  · skip
    obtain ⟨T108, X108, e108, st108⟩ := getF X103 hx hZ hown (host := "") (Or.inl (hw _ (List.mem_of_getElem? (i := 38) rfl))) Via.refl Heq103 R101_1 (g := (mkF m 22 #[.val (.ref a1), .unset] [(.ref a1)])) rfl rfl (hb hby d15_22)
    obtain ⟨_, _, ⟨T109, L109, k109, n109⟩, -, X109, ⟨Lc109, hQ109, l109, y109, z109⟩, st109⟩ := Jvm.LawKit.callS X108 hx (y := (⟨"com/example/rouse/rouse/shell/ShellWords", "newLine", "()Lcom/example/rouse/rouse/shell/CommandLine;"⟩ : MethodName)) hown (mvT hZ (hw _ (List.mem_of_getElem? (i := 17) rfl))) (mvT hZ (hw _ (List.mem_of_getElem? (i := 18) rfl))) (mvT hZ (hw _ (List.mem_of_getElem? (i := 10) rfl))) (mvT hZ (hw _ (List.mem_of_getElem? (i := 19) rfl))) (by decide) (backOf (W := 1) (rm5 l Z a0 hw []  T101.heap n0 z104) hZ (hw _ (List.mem_of_getElem? (i := 19) rfl)) (hw _ (List.mem_of_getElem? (i := 10) rfl)) (by decide) (by decide)) (g := (mkF m 27 #[.val (.ref a1), .val (.ref cl)] [(.ref a1)])) rfl (by rw [hml]; rfl) (argsL := []) (rest := [(.ref a1)]) (lenOf pd_1 rfl) rfl (by show 2 * 0 + _ ≤ _; exact Nat.le_of_eq rfl) (hb hby d15_27) (fun _ _ => ⟨rfl, e108, (by decide : 0 + 3 ≤ _), (by decide : 0 + 39 ≤ _)⟩)
    dsimp only [Pt.U, Pt.locs, Pt.cells, Pt.slots] at X109 l109 y109 z109 st109 hQ109
    subst l109 y109 z109
    obtain ⟨cl109, cb109, ck109, cvs109, wb109, wk109, wvs109, rfl, Nq109, K109, R109_1, R109_2, R109_3, R109_4, R109_5, R109_6, R109_7, R109_8, R109_9, R109_10, R109_11, R109_12, R109_13, R109_14⟩ := hQ109
    have N109 := Fr.app N103 Nq109
    have f110 : Fld Z T109.heap a1 "com/example/rouse/rouse/shell/ShellWords" "line" "Lcom/example/rouse/rouse/shell/CommandLine;" (.ref cl) := (R101_1.keep K109 nin0)
    have f111 : Exa Z T109.heap a1 "com/example/rouse/rouse/shell/ShellWords" := ((H0.keep K101).keep K109)
    obtain ⟨T112, h112, X112, e112, W112, st112⟩ := putF X109 hx hZ hown (host := "") (Or.inl (hw _ (List.mem_of_getElem? (i := 38) rfl))) Via.refl rfl f110 f111 (Or.inl (hw _ (List.mem_of_getElem? (i := 39) rfl))) (hw _ (List.mem_of_getElem? (i := 9) rfl)) (ty := (.object "com/example/rouse/rouse/shell/CommandLine")) (by decide) rfl rfl (g := (mkF m 30 #[.val (.ref a1), .val (.ref cl)] [(.ref cl109), (.ref a1)])) rfl rfl (hb hby d15_30)
    have Fw112 := f110.same W112
    have N112 := Fr.snoc X112 N109 H15
    have f113 : Fld Z h112 a1 "com/example/rouse/rouse/shell/ShellWords" "length" "I" (.int len) := ((R101_6.keep K109 nin0).other W112 (Or.inr (slot_ne (Or.inl (hw _ (List.mem_of_getElem? (i := 46) rfl))) (Or.inl (hw _ (List.mem_of_getElem? (i := 39) rfl))) (by decide) (t := .int) (t' := (.object "com/example/rouse/rouse/shell/CommandLine")) (by decide) (by decide))))
    have f114 : Exa Z h112 a1 "com/example/rouse/rouse/shell/ShellWords" := (f111.wr W112)
    obtain ⟨T115, h115, X115, e115, W115, st115⟩ := putF X112 hx hZ hown (host := "") (Or.inl (hw _ (List.mem_of_getElem? (i := 45) rfl))) Via.refl e112 f113 f114 (Or.inl (hw _ (List.mem_of_getElem? (i := 46) rfl))) (hw _ (List.mem_of_getElem? (i := 9) rfl)) (ty := .int) (by decide) rfl rfl (g := (mkF m 35 #[.val (.ref a1), .val (.ref cl)] [(.int (0 : Int32)), (.ref a1)])) rfl rfl (hb hby d15_35)
    have Fw115 := f113.same W115
    have N115 := Fr.snoc X115 N112 H15
    have f116 : Fld Z h115 a1 "com/example/rouse/rouse/shell/ShellWords" "line" "Lcom/example/rouse/rouse/shell/CommandLine;" (.ref cl109) := (Fw112.other W115 (Or.inr (slot_ne (Or.inl (hw _ (List.mem_of_getElem? (i := 39) rfl))) (Or.inl (hw _ (List.mem_of_getElem? (i := 46) rfl))) (by decide) (t := (.object "com/example/rouse/rouse/shell/CommandLine")) (t' := .int) (by decide) (by decide))))
    have f117 : Fld Z h115 a1 "com/example/rouse/rouse/shell/ShellWords" "quote" "C" (.int q) := (((R101_2.keep K109 nin0).other W112 (Or.inr (slot_ne (Or.inl (hw _ (List.mem_of_getElem? (i := 72) rfl))) (Or.inl (hw _ (List.mem_of_getElem? (i := 39) rfl))) (by decide) (t := .char) (t' := (.object "com/example/rouse/rouse/shell/CommandLine")) (by decide) (by decide)))).other W115 (Or.inr (slot_ne (Or.inl (hw _ (List.mem_of_getElem? (i := 72) rfl))) (Or.inl (hw _ (List.mem_of_getElem? (i := 46) rfl))) (by decide) (t := .char) (t' := .int) (by decide) (by decide))))
    have f118 : Fld Z h115 a1 "com/example/rouse/rouse/shell/ShellWords" "escaped" "Z" (.int e_) := (((R101_3.keep K109 nin0).other W112 (Or.inr (slot_ne (Or.inl (hw _ (List.mem_of_getElem? (i := 70) rfl))) (Or.inl (hw _ (List.mem_of_getElem? (i := 39) rfl))) (by decide) (t := .boolean) (t' := (.object "com/example/rouse/rouse/shell/CommandLine")) (by decide) (by decide)))).other W115 (Or.inr (slot_ne (Or.inl (hw _ (List.mem_of_getElem? (i := 70) rfl))) (Or.inl (hw _ (List.mem_of_getElem? (i := 46) rfl))) (by decide) (t := .boolean) (t' := .int) (by decide) (by decide))))
    have f119 : Fld Z h115 a1 "com/example/rouse/rouse/shell/ShellWords" "inWord" "Z" (.int (0 : Int32)) := (((R101_4.keep K109 nin0).other W112 (Or.inr (slot_ne (Or.inl (hw _ (List.mem_of_getElem? (i := 81) rfl))) (Or.inl (hw _ (List.mem_of_getElem? (i := 39) rfl))) (by decide) (t := .boolean) (t' := (.object "com/example/rouse/rouse/shell/CommandLine")) (by decide) (by decide)))).other W115 (Or.inr (slot_ne (Or.inl (hw _ (List.mem_of_getElem? (i := 81) rfl))) (Or.inl (hw _ (List.mem_of_getElem? (i := 46) rfl))) (by decide) (t := .boolean) (t' := .int) (by decide) (by decide))))
    have f120 : Fld Z h115 a1 "com/example/rouse/rouse/shell/ShellWords" "inComment" "Z" (.int ic) := (((R101_5.keep K109 nin0).other W112 (Or.inr (slot_ne (Or.inl (hw _ (List.mem_of_getElem? (i := 64) rfl))) (Or.inl (hw _ (List.mem_of_getElem? (i := 39) rfl))) (by decide) (t := .boolean) (t' := (.object "com/example/rouse/rouse/shell/CommandLine")) (by decide) (by decide)))).other W115 (Or.inr (slot_ne (Or.inl (hw _ (List.mem_of_getElem? (i := 64) rfl))) (Or.inl (hw _ (List.mem_of_getElem? (i := 46) rfl))) (by decide) (t := .boolean) (t' := .int) (by decide) (by decide))))
    have f121 : Fld Z h115 a1 "com/example/rouse/rouse/shell/ShellWords" "skippingLine" "Z" (.int (0 : Int32)) := (((R101_7.keep K109 nin0).other W112 (Or.inr (slot_ne (Or.inl (hw _ (List.mem_of_getElem? (i := 56) rfl))) (Or.inl (hw _ (List.mem_of_getElem? (i := 39) rfl))) (by decide) (t := .boolean) (t' := (.object "com/example/rouse/rouse/shell/CommandLine")) (by decide) (by decide)))).other W115 (Or.inr (slot_ne (Or.inl (hw _ (List.mem_of_getElem? (i := 56) rfl))) (Or.inl (hw _ (List.mem_of_getElem? (i := 46) rfl))) (by decide) (t := .boolean) (t' := .int) (by decide) (by decide))))
    have f122 : Exa Z h115 cl109 "com/example/rouse/rouse/shell/CommandLine" := ((R109_4.wr W112).wr W115)
    have ne123 : a1 ≠ cl109 := (Nat.ne_of_lt (Nat.lt_of_lt_of_le (H0.keep K101).lt R109_1))
    have f124 : Fld Z h115 cl109 "com/example/rouse/rouse/shell/CommandLine" "words" "I" (.int (0 : Int32)) := ((R109_5.other W112 (Or.inl (Ne.symm ne123))).other W115 (Or.inl (Ne.symm ne123)))
    have f125 : Fld Z h115 cl109 "com/example/rouse/rouse/shell/CommandLine" "commandStart" "I" (.int (0 : Int32)) := ((R109_6.other W112 (Or.inl (Ne.symm ne123))).other W115 (Or.inl (Ne.symm ne123)))
    have f126 : Fld Z h115 cl109 "com/example/rouse/rouse/shell/CommandLine" "length" "I" (.int (0 : Int32)) := ((R109_7.other W112 (Or.inl (Ne.symm ne123))).other W115 (Or.inl (Ne.symm ne123)))
    have f127 : Fld Z h115 cl109 "com/example/rouse/rouse/shell/CommandLine" "characters" "[C" (.ref cb109) := ((R109_8.other W112 (Or.inl (Ne.symm ne123))).other W115 (Or.inl (Ne.symm ne123)))
    have f128 : Fld Z h115 cl109 "com/example/rouse/rouse/shell/CommandLine" "wordEnds" "[I" (.ref wb109) := ((R109_9.other W112 (Or.inl (Ne.symm ne123))).other W115 (Or.inl (Ne.symm ne123)))
    have ne129 : a1 ≠ cb109 := (Nat.ne_of_lt (Nat.lt_of_lt_of_le (H0.keep K101).lt R109_2))
    have f130 : Arv Z h115 cb109 ck109 .char (16 : Int32) cvs109 (.int (0 : Int32)) := ((R109_11.other W112 (Ne.symm ne129)).other W115 (Ne.symm ne129))
    have ne131 : a1 ≠ wb109 := (Nat.ne_of_lt (Nat.lt_of_lt_of_le (H0.keep K101).lt R109_3))
    have f132 : Arv Z h115 wb109 wk109 .int (16 : Int32) wvs109 (.int (0 : Int32)) := ((R109_12.other W112 (Ne.symm ne131)).other W115 (Ne.symm ne131))
    obtain ⟨fs, hr, hrun, hended, hW, hsame⟩ := X115.leave (v := some (.ref cl)) (fun h => by rw [Bd.returns] at h; cases h)
    refine ⟨_, _, pre106 _ ?_, hrun, hended, _, _, rfl, ?_, ⟨_, rfl⟩, hW, hsame.mono (by decide) (by decide)⟩
    · skip
      show Steps p.tables e below (T103.setTop (mkF m 11 #[.val (.ref a1), .unset] [(.int (own_b cs wx101))])) _
      refine XS.ifYes X103.here hx rfl (pc0 := 11) (pc' := 21) rfl (hb hby d15_11) rfl ((if0 _ _).trans (teq (hc11_107 : (own_b cs wx101) = (0 : Int32))).1) (by decide) (by decide) ?_
      show Steps p.tables e below (T103.setTop (mkF m 21 #[.val (.ref a1), .unset] [])) _
      refine XS.aloadN X103.here hx rfl (hb hby d15_21) rfl rfl ?_
      show Steps p.tables e below (T103.setTop (mkF m 22 #[.val (.ref a1), .unset] [(.ref a1)])) _
      refine st108 _ ?_
      show Steps p.tables e below (T108.setTop (mkF m 25 #[.val (.ref a1), .unset] [(.ref cl)])) _
      refine XS.astoreN X108.here hx rfl (hb hby d15_25) rfl rfl (l' := #[.val (.ref a1), .val (.ref cl)]) rfl ?_
      show Steps p.tables e below (T108.setTop (mkF m 26 #[.val (.ref a1), .val (.ref cl)] [])) _
      refine XS.aloadN X108.here hx rfl (hb hby d15_26) rfl rfl ?_
      show Steps p.tables e below (T108.setTop (mkF m 27 #[.val (.ref a1), .val (.ref cl)] [(.ref a1)])) _
      refine st109 _ ?_
      show Steps p.tables e below (T109.setTop (mkF m 30 #[.val (.ref a1), .val (.ref cl)] [(.ref cl109), (.ref a1)])) _
      refine st112 _ ?_
      show Steps p.tables e below (T112.setTop (mkF m 33 #[.val (.ref a1), .val (.ref cl)] [])) _
      refine XS.aloadN X112.here hx rfl (hb hby d15_33) rfl rfl ?_
      show Steps p.tables e below (T112.setTop (mkF m 34 #[.val (.ref a1), .val (.ref cl)] [(.ref a1)])) _
      refine XS.iconst X112.here hx rfl (hb hby d15_34) ?_
      show Steps p.tables e below (T112.setTop (mkF m 35 #[.val (.ref a1), .val (.ref cl)] [(.int (0 : Int32)), (.ref a1)])) _
      refine st115 _ ?_
      show Steps p.tables e below (T115.setTop (mkF m 38 #[.val (.ref a1), .val (.ref cl)] [])) _
      refine XS.aloadN X115.here hx rfl (hb hby d15_38) rfl rfl ?_
      show Steps p.tables e below (T115.setTop (mkF m 39 #[.val (.ref a1), .val (.ref cl)] [(.ref cl)])) _
      jvm_step X115.here [X115.here.top, hx, (hb hby d15_39), X115.method', Bd.returns, Value.isRef, FieldType.isReference]
      first | (intro acts; rw [hr _ acts rfl rfl rfl]) | rw [hr _ _ rfl rfl rfl]
      exact Steps.refl _
    · show Q15 Z a1 cl w cs n cb wb wk wvs q e_ iw ic len k h0 n0 _ T115.heap _
      rw [e115]
      exact ⟨cl109, cb109, ck109, cvs109, wb109, wk109, wvs109, rfl, N115, (((((Keep.refl h0 [a1, cl, wb]).trans K101 (allS (P := (fun x => x ∈ [a1, cl, wb] ∨ h0.size ≤ x)) (Or.inl (List.mem_of_getElem? (i := 0) rfl)) (allS (P := (fun x => x ∈ [a1, cl, wb] ∨ h0.size ≤ x)) (Or.inl (List.mem_of_getElem? (i := 1) rfl)) (allS (P := (fun x => x ∈ [a1, cl, wb] ∨ h0.size ≤ x)) (Or.inl (List.mem_of_getElem? (i := 2) rfl)) all0)))).trans K109 (all0 (P := (fun x => x ∈ [a1, cl, wb] ∨ h0.size ≤ x)))).wr W112 (Or.inl (List.mem_of_getElem? (i := 0) rfl))).wr W115 (Or.inl (List.mem_of_getElem? (i := 0) rfl))), f116, f117, f118, f119, f120, Fw115, f121, (Nat.le_trans (Nat.le_trans (Nat.le_refl _) K101.1) R109_1), (Nat.le_trans (Nat.le_trans (Nat.le_refl _) K101.1) R109_2), (Nat.le_trans (Nat.le_trans (Nat.le_refl _) K101.1) R109_3), f122, f124, f125, f126, f127, f128, R109_10, f130, f132, R109_13, R109_14⟩
  · skip
    obtain ⟨T133, X133, e133, st133⟩ := getF X103 hx hZ hown (host := "") (Or.inl (hw _ (List.mem_of_getElem? (i := 38) rfl))) Via.refl Heq103 R101_1 (g := (mkF m 15 #[.val (.ref a1), .unset] [(.ref a1)])) rfl rfl (hb hby d15_15)
    obtain ⟨cq134, kq134, q134a, q134b, q134c⟩ := isOf hZ e133 f105
    obtain ⟨_, _, ⟨T134, L134, k134, n134⟩, -, X134, ⟨Lc134, hQ134, l134, y134, z134⟩, st134⟩ := X133.virtualBack hx (y := (⟨"com/example/rouse/rouse/shell/CommandLine", "endCommand", "()V"⟩ : MethodName)) (z := (⟨"com/example/rouse/rouse/shell/CommandLine", "endCommand", "()V"⟩ : MethodName)) hown (mvT hZ (hw _ (List.mem_of_getElem? (i := 157) rfl))) (mvT hZ (hw _ (List.mem_of_getElem? (i := 158) rfl))) (notFace_of_selects (args := #[]) (mvT hZ (hw _ (List.mem_of_getElem? (i := 160) rfl)))) (mvT hZ (hw _ (List.mem_of_getElem? (i := 160) rfl))) (mvT hZ (hw _ (List.mem_of_getElem? (i := 159) rfl))) (by decide) (backOf (W := 0) (rm27 l Z a0 hw [] cl wx101 cs n cb wb wk wvx101 T101.heap n0 z104 f105 R101_8 R101_9 R101_10 R101_11 R101_12 R101_13 H16 H17 (own_dec R101_15.2.2.1 (own_b_ne hc11_107) R101_15.2.1 (by omega)) R101_14) hZ (hw _ (List.mem_of_getElem? (i := 161) rfl)) (hw _ (List.mem_of_getElem? (i := 22) rfl)) (by decide) (by decide)) q134a q134c (g := (mkF m 18 #[.val (.ref a1), .unset] [(.ref cl)])) rfl (by rw [hml]; rfl) (Steps.refl _) (argsL := []) (rest := []) (lenOf pd_2 rfl) rfl (by show 2 * 0 + _ ≤ _; exact Nat.le_of_eq rfl) (hb hby d15_18) (fun _ _ => ⟨rfl, e133, (by decide : 0 + 0 ≤ _), (by decide : 0 + 0 ≤ _)⟩)
    dsimp only [Pt.U, Pt.locs, Pt.cells, Pt.slots] at X134 l134 y134 z134 st134 hQ134
    subst l134 y134 z134
    obtain ⟨wvx134, rfl, Nq134, K134, R134_1, R134_2, R134_3, R134_4, R134_5, R134_6, R134_7⟩ := hQ134
    have N134 := Fr.app N103 Nq134
    have ne135 : a1 ≠ wb := Exa.neArv ((H0.keep K101).keep K134) R134_6 (hw _ (List.mem_of_getElem? (i := 9) rfl))
    have ne136 : a1 ≠ cl := ne_exa (H0.keep K101) f105 (by decide)
    have f137 : Fld Z T134.heap a1 "com/example/rouse/rouse/shell/ShellWords" "line" "Lcom/example/rouse/rouse/shell/CommandLine;" (.ref cl) := (R101_1.keep K134 (ninS ne136 (ninS ne135 nin0)))
    obtain ⟨T138, X138, e138, st138⟩ := getF X134 hx hZ hown (host := "") (Or.inl (hw _ (List.mem_of_getElem? (i := 38) rfl))) Via.refl rfl f137 (g := (mkF m 22 #[.val (.ref a1), .unset] [(.ref a1)])) rfl rfl (hb hby d15_22)
    have z140 : n0 ≤ T134.heap.size := (Nat.le_trans z104 K134.1)
    obtain ⟨_, _, ⟨T139, L139, k139, n139⟩, -, X139, ⟨Lc139, hQ139, l139, y139, z139⟩, st139⟩ := Jvm.LawKit.callS X138 hx (y := (⟨"com/example/rouse/rouse/shell/ShellWords", "newLine", "()Lcom/example/rouse/rouse/shell/CommandLine;"⟩ : MethodName)) hown (mvT hZ (hw _ (List.mem_of_getElem? (i := 17) rfl))) (mvT hZ (hw _ (List.mem_of_getElem? (i := 18) rfl))) (mvT hZ (hw _ (List.mem_of_getElem? (i := 10) rfl))) (mvT hZ (hw _ (List.mem_of_getElem? (i := 19) rfl))) (by decide) (backOf (W := 1) (rm5 l Z a0 hw []  T134.heap n0 z140) hZ (hw _ (List.mem_of_getElem? (i := 19) rfl)) (hw _ (List.mem_of_getElem? (i := 10) rfl)) (by decide) (by decide)) (g := (mkF m 27 #[.val (.ref a1), .val (.ref cl)] [(.ref a1)])) rfl (by rw [hml]; rfl) (argsL := []) (rest := [(.ref a1)]) (lenOf pd_1 rfl) rfl (by show 2 * 0 + _ ≤ _; exact Nat.le_of_eq rfl) (hb hby d15_27) (fun _ _ => ⟨rfl, e138, (by decide : 0 + 3 ≤ _), (by decide : 0 + 39 ≤ _)⟩)
    dsimp only [Pt.U, Pt.locs, Pt.cells, Pt.slots] at X139 l139 y139 z139 st139 hQ139
    subst l139 y139 z139
    obtain ⟨cl139, cb139, ck139, cvs139, wb139, wk139, wvs139, rfl, Nq139, K139, R139_1, R139_2, R139_3, R139_4, R139_5, R139_6, R139_7, R139_8, R139_9, R139_10, R139_11, R139_12, R139_13, R139_14⟩ := hQ139
    have N139 := Fr.app N134 Nq139
    have f141 : Fld Z T139.heap a1 "com/example/rouse/rouse/shell/ShellWords" "line" "Lcom/example/rouse/rouse/shell/CommandLine;" (.ref cl) := (f137.keep K139 nin0)
    have f142 : Exa Z T139.heap a1 "com/example/rouse/rouse/shell/ShellWords" := (((H0.keep K101).keep K134).keep K139)
    obtain ⟨T143, h143, X143, e143, W143, st143⟩ := putF X139 hx hZ hown (host := "") (Or.inl (hw _ (List.mem_of_getElem? (i := 38) rfl))) Via.refl rfl f141 f142 (Or.inl (hw _ (List.mem_of_getElem? (i := 39) rfl))) (hw _ (List.mem_of_getElem? (i := 9) rfl)) (ty := (.object "com/example/rouse/rouse/shell/CommandLine")) (by decide) rfl rfl (g := (mkF m 30 #[.val (.ref a1), .val (.ref cl)] [(.ref cl139), (.ref a1)])) rfl rfl (hb hby d15_30)
    have Fw143 := f141.same W143
    have N143 := Fr.snoc X143 N139 H15
    have f144 : Fld Z h143 a1 "com/example/rouse/rouse/shell/ShellWords" "length" "I" (.int len) := (((R101_6.keep K134 (ninS ne136 (ninS ne135 nin0))).keep K139 nin0).other W143 (Or.inr (slot_ne (Or.inl (hw _ (List.mem_of_getElem? (i := 46) rfl))) (Or.inl (hw _ (List.mem_of_getElem? (i := 39) rfl))) (by decide) (t := .int) (t' := (.object "com/example/rouse/rouse/shell/CommandLine")) (by decide) (by decide))))
    have f145 : Exa Z h143 a1 "com/example/rouse/rouse/shell/ShellWords" := (f142.wr W143)
    obtain ⟨T146, h146, X146, e146, W146, st146⟩ := putF X143 hx hZ hown (host := "") (Or.inl (hw _ (List.mem_of_getElem? (i := 45) rfl))) Via.refl e143 f144 f145 (Or.inl (hw _ (List.mem_of_getElem? (i := 46) rfl))) (hw _ (List.mem_of_getElem? (i := 9) rfl)) (ty := .int) (by decide) rfl rfl (g := (mkF m 35 #[.val (.ref a1), .val (.ref cl)] [(.int (0 : Int32)), (.ref a1)])) rfl rfl (hb hby d15_35)
    have Fw146 := f144.same W146
    have N146 := Fr.snoc X146 N143 H15
    have f147 : Fld Z h146 a1 "com/example/rouse/rouse/shell/ShellWords" "line" "Lcom/example/rouse/rouse/shell/CommandLine;" (.ref cl139) := (Fw143.other W146 (Or.inr (slot_ne (Or.inl (hw _ (List.mem_of_getElem? (i := 39) rfl))) (Or.inl (hw _ (List.mem_of_getElem? (i := 46) rfl))) (by decide) (t := (.object "com/example/rouse/rouse/shell/CommandLine")) (t' := .int) (by decide) (by decide))))
    have f148 : Fld Z h146 a1 "com/example/rouse/rouse/shell/ShellWords" "quote" "C" (.int q) := ((((R101_2.keep K134 (ninS ne136 (ninS ne135 nin0))).keep K139 nin0).other W143 (Or.inr (slot_ne (Or.inl (hw _ (List.mem_of_getElem? (i := 72) rfl))) (Or.inl (hw _ (List.mem_of_getElem? (i := 39) rfl))) (by decide) (t := .char) (t' := (.object "com/example/rouse/rouse/shell/CommandLine")) (by decide) (by decide)))).other W146 (Or.inr (slot_ne (Or.inl (hw _ (List.mem_of_getElem? (i := 72) rfl))) (Or.inl (hw _ (List.mem_of_getElem? (i := 46) rfl))) (by decide) (t := .char) (t' := .int) (by decide) (by decide))))
    have f149 : Fld Z h146 a1 "com/example/rouse/rouse/shell/ShellWords" "escaped" "Z" (.int e_) := ((((R101_3.keep K134 (ninS ne136 (ninS ne135 nin0))).keep K139 nin0).other W143 (Or.inr (slot_ne (Or.inl (hw _ (List.mem_of_getElem? (i := 70) rfl))) (Or.inl (hw _ (List.mem_of_getElem? (i := 39) rfl))) (by decide) (t := .boolean) (t' := (.object "com/example/rouse/rouse/shell/CommandLine")) (by decide) (by decide)))).other W146 (Or.inr (slot_ne (Or.inl (hw _ (List.mem_of_getElem? (i := 70) rfl))) (Or.inl (hw _ (List.mem_of_getElem? (i := 46) rfl))) (by decide) (t := .boolean) (t' := .int) (by decide) (by decide))))
    have f150 : Fld Z h146 a1 "com/example/rouse/rouse/shell/ShellWords" "inWord" "Z" (.int (0 : Int32)) := ((((R101_4.keep K134 (ninS ne136 (ninS ne135 nin0))).keep K139 nin0).other W143 (Or.inr (slot_ne (Or.inl (hw _ (List.mem_of_getElem? (i := 81) rfl))) (Or.inl (hw _ (List.mem_of_getElem? (i := 39) rfl))) (by decide) (t := .boolean) (t' := (.object "com/example/rouse/rouse/shell/CommandLine")) (by decide) (by decide)))).other W146 (Or.inr (slot_ne (Or.inl (hw _ (List.mem_of_getElem? (i := 81) rfl))) (Or.inl (hw _ (List.mem_of_getElem? (i := 46) rfl))) (by decide) (t := .boolean) (t' := .int) (by decide) (by decide))))
    have f151 : Fld Z h146 a1 "com/example/rouse/rouse/shell/ShellWords" "inComment" "Z" (.int ic) := ((((R101_5.keep K134 (ninS ne136 (ninS ne135 nin0))).keep K139 nin0).other W143 (Or.inr (slot_ne (Or.inl (hw _ (List.mem_of_getElem? (i := 64) rfl))) (Or.inl (hw _ (List.mem_of_getElem? (i := 39) rfl))) (by decide) (t := .boolean) (t' := (.object "com/example/rouse/rouse/shell/CommandLine")) (by decide) (by decide)))).other W146 (Or.inr (slot_ne (Or.inl (hw _ (List.mem_of_getElem? (i := 64) rfl))) (Or.inl (hw _ (List.mem_of_getElem? (i := 46) rfl))) (by decide) (t := .boolean) (t' := .int) (by decide) (by decide))))
    have f152 : Fld Z h146 a1 "com/example/rouse/rouse/shell/ShellWords" "skippingLine" "Z" (.int (0 : Int32)) := ((((R101_7.keep K134 (ninS ne136 (ninS ne135 nin0))).keep K139 nin0).other W143 (Or.inr (slot_ne (Or.inl (hw _ (List.mem_of_getElem? (i := 56) rfl))) (Or.inl (hw _ (List.mem_of_getElem? (i := 39) rfl))) (by decide) (t := .boolean) (t' := (.object "com/example/rouse/rouse/shell/CommandLine")) (by decide) (by decide)))).other W146 (Or.inr (slot_ne (Or.inl (hw _ (List.mem_of_getElem? (i := 56) rfl))) (Or.inl (hw _ (List.mem_of_getElem? (i := 46) rfl))) (by decide) (t := .boolean) (t' := .int) (by decide) (by decide))))
    have f153 : Exa Z h146 cl139 "com/example/rouse/rouse/shell/CommandLine" := ((R139_4.wr W143).wr W146)
    have ne154 : a1 ≠ cl139 := (Nat.ne_of_lt (Nat.lt_of_lt_of_le ((H0.keep K101).keep K134).lt R139_1))
    have f155 : Fld Z h146 cl139 "com/example/rouse/rouse/shell/CommandLine" "words" "I" (.int (0 : Int32)) := ((R139_5.other W143 (Or.inl (Ne.symm ne154))).other W146 (Or.inl (Ne.symm ne154)))
    have f156 : Fld Z h146 cl139 "com/example/rouse/rouse/shell/CommandLine" "commandStart" "I" (.int (0 : Int32)) := ((R139_6.other W143 (Or.inl (Ne.symm ne154))).other W146 (Or.inl (Ne.symm ne154)))
    have f157 : Fld Z h146 cl139 "com/example/rouse/rouse/shell/CommandLine" "length" "I" (.int (0 : Int32)) := ((R139_7.other W143 (Or.inl (Ne.symm ne154))).other W146 (Or.inl (Ne.symm ne154)))
    have f158 : Fld Z h146 cl139 "com/example/rouse/rouse/shell/CommandLine" "characters" "[C" (.ref cb139) := ((R139_8.other W143 (Or.inl (Ne.symm ne154))).other W146 (Or.inl (Ne.symm ne154)))
    have f159 : Fld Z h146 cl139 "com/example/rouse/rouse/shell/CommandLine" "wordEnds" "[I" (.ref wb139) := ((R139_9.other W143 (Or.inl (Ne.symm ne154))).other W146 (Or.inl (Ne.symm ne154)))
    have ne160 : a1 ≠ cb139 := (Nat.ne_of_lt (Nat.lt_of_lt_of_le ((H0.keep K101).keep K134).lt R139_2))
    have f161 : Arv Z h146 cb139 ck139 .char (16 : Int32) cvs139 (.int (0 : Int32)) := ((R139_11.other W143 (Ne.symm ne160)).other W146 (Ne.symm ne160))
    have ne162 : a1 ≠ wb139 := (Nat.ne_of_lt (Nat.lt_of_lt_of_le ((H0.keep K101).keep K134).lt R139_3))
    have f163 : Arv Z h146 wb139 wk139 .int (16 : Int32) wvs139 (.int (0 : Int32)) := ((R139_12.other W143 (Ne.symm ne162)).other W146 (Ne.symm ne162))
    obtain ⟨fs, hr, hrun, hended, hW, hsame⟩ := X146.leave (v := some (.ref cl)) (fun h => by rw [Bd.returns] at h; cases h)
    refine ⟨_, _, pre106 _ ?_, hrun, hended, _, _, rfl, ?_, ⟨_, rfl⟩, hW, hsame.mono (by decide) (by decide)⟩
    · skip
      show Steps p.tables e below (T103.setTop (mkF m 11 #[.val (.ref a1), .unset] [(.int (own_b cs wx101))])) _
      refine XS.ifNo X103.here hx rfl (hb hby d15_11) rfl ((if0 _ _).trans (feq (hc11_107 : ¬ ((own_b cs wx101) = (0 : Int32)))).1) ?_
      show Steps p.tables e below (T103.setTop (mkF m 14 #[.val (.ref a1), .unset] [])) _
      refine XS.aloadN X103.here hx rfl (hb hby d15_14) rfl rfl ?_
      show Steps p.tables e below (T103.setTop (mkF m 15 #[.val (.ref a1), .unset] [(.ref a1)])) _
      refine st133 _ ?_
      show Steps p.tables e below (T133.setTop (mkF m 18 #[.val (.ref a1), .unset] [(.ref cl)])) _
      refine st134.trans ?_
      show Steps p.tables e below (T134.setTop (mkF m 21 #[.val (.ref a1), .unset] [])) _
      refine XS.aloadN X134.here hx rfl (hb hby d15_21) rfl rfl ?_
      show Steps p.tables e below (T134.setTop (mkF m 22 #[.val (.ref a1), .unset] [(.ref a1)])) _
      refine st138 _ ?_
      show Steps p.tables e below (T138.setTop (mkF m 25 #[.val (.ref a1), .unset] [(.ref cl)])) _
      refine XS.astoreN X138.here hx rfl (hb hby d15_25) rfl rfl (l' := #[.val (.ref a1), .val (.ref cl)]) rfl ?_
      show Steps p.tables e below (T138.setTop (mkF m 26 #[.val (.ref a1), .val (.ref cl)] [])) _
      refine XS.aloadN X138.here hx rfl (hb hby d15_26) rfl rfl ?_
      show Steps p.tables e below (T138.setTop (mkF m 27 #[.val (.ref a1), .val (.ref cl)] [(.ref a1)])) _
      refine st139 _ ?_
      show Steps p.tables e below (T139.setTop (mkF m 30 #[.val (.ref a1), .val (.ref cl)] [(.ref cl139), (.ref a1)])) _
      refine st143 _ ?_
      show Steps p.tables e below (T143.setTop (mkF m 33 #[.val (.ref a1), .val (.ref cl)] [])) _
      refine XS.aloadN X143.here hx rfl (hb hby d15_33) rfl rfl ?_
      show Steps p.tables e below (T143.setTop (mkF m 34 #[.val (.ref a1), .val (.ref cl)] [(.ref a1)])) _
      refine XS.iconst X143.here hx rfl (hb hby d15_34) ?_
      show Steps p.tables e below (T143.setTop (mkF m 35 #[.val (.ref a1), .val (.ref cl)] [(.int (0 : Int32)), (.ref a1)])) _
      refine st146 _ ?_
      show Steps p.tables e below (T146.setTop (mkF m 38 #[.val (.ref a1), .val (.ref cl)] [])) _
      refine XS.aloadN X146.here hx rfl (hb hby d15_38) rfl rfl ?_
      show Steps p.tables e below (T146.setTop (mkF m 39 #[.val (.ref a1), .val (.ref cl)] [(.ref cl)])) _
      jvm_step X146.here [X146.here.top, hx, (hb hby d15_39), X146.method', Bd.returns, Value.isRef, FieldType.isReference]
      first | (intro acts; rw [hr _ acts rfl rfl rfl]) | rw [hr _ _ rfl rfl rfl]
      exact Steps.refl _
    · show Q15 Z a1 cl w cs n cb wb wk wvs q e_ iw ic len k h0 n0 _ T146.heap _
      rw [e146]
      exact ⟨cl139, cb139, ck139, cvs139, wb139, wk139, wvs139, rfl, N146, ((((((Keep.refl h0 [a1, cl, wb]).trans K101 (allS (P := (fun x => x ∈ [a1, cl, wb] ∨ h0.size ≤ x)) (Or.inl (List.mem_of_getElem? (i := 0) rfl)) (allS (P := (fun x => x ∈ [a1, cl, wb] ∨ h0.size ≤ x)) (Or.inl (List.mem_of_getElem? (i := 1) rfl)) (allS (P := (fun x => x ∈ [a1, cl, wb] ∨ h0.size ≤ x)) (Or.inl (List.mem_of_getElem? (i := 2) rfl)) all0)))).trans K134 (allS (P := (fun x => x ∈ [a1, cl, wb] ∨ h0.size ≤ x)) (Or.inl (List.mem_of_getElem? (i := 1) rfl)) (allS (P := (fun x => x ∈ [a1, cl, wb] ∨ h0.size ≤ x)) (Or.inl (List.mem_of_getElem? (i := 2) rfl)) all0))).trans K139 (all0 (P := (fun x => x ∈ [a1, cl, wb] ∨ h0.size ≤ x)))).wr W143 (Or.inl (List.mem_of_getElem? (i := 0) rfl))).wr W146 (Or.inl (List.mem_of_getElem? (i := 0) rfl))), f147, f148, f149, f150, f151, Fw146, f152, (Nat.le_trans (Nat.le_trans (Nat.le_trans (Nat.le_refl _) K101.1) K134.1) R139_1), (Nat.le_trans (Nat.le_trans (Nat.le_trans (Nat.le_refl _) K101.1) K134.1) R139_2), (Nat.le_trans (Nat.le_trans (Nat.le_trans (Nat.le_refl _) K101.1) K134.1) R139_3), f153, f155, f156, f157, f158, f159, R139_10, f161, f163, R139_13, R139_14⟩
theorem d23_0 : decode jdk_43_method_4_code 0 = .ok (.iload_n 0, 1) := by decide +kernel
theorem d23_1 : decode jdk_43_method_4_code 1 = .ok (.ifCond .lt 14, 3) := by decide +kernel
theorem d23_15 : decode jdk_43_method_4_code 15 = .ok (.iconst 0, 1) := by decide +kernel
theorem d23_16 : decode jdk_43_method_4_code 16 = .ok (.ireturn, 1) := by decide +kernel
theorem d23_4 : decode jdk_43_method_4_code 4 = .ok (.iload_n 0, 1) := by decide +kernel
theorem d23_5 : decode jdk_43_method_4_code 5 = .ok (.sipush 255, 3) := by decide +kernel
theorem d23_8 : decode jdk_43_method_4_code 8 = .ok (.if_icmp .gt 7, 3) := by decide +kernel
theorem d23_11 : decode jdk_43_method_4_code 11 = .ok (.iconst 1, 1) := by decide +kernel
theorem d23_12 : decode jdk_43_method_4_code 12 = .ok (.goto 4, 3) := by decide +kernel
theorem pn_java_lang_StringLatin1 : plainName "java/lang/StringLatin1" = true := by first | (simp [plainName, overriddenIn]; done) | decide +kernel
theorem ef_23 (m : MethodId) (p1 : Int32) : entryFrame m #[(.int p1)] 1 = mkF m 0 #[.val (.int p1)] [] := by first | (simp [entryFrame, mkF, argsToLocals, Value.category]; done) | rfl
def Q23 (Z : State) (p1 : Int32) (h0 : Heap) (n0 : Nat) (v : Option Value) (h : Heap) (L : List Loc) : Prop := v = some (.int (own_enc p1)) ∧ Fr n0 L ∧ h = h0
set_option maxRecDepth 65536 in
set_option maxHeartbeats 40000000 in
theorem rm23 (l : Launch) (Z : State) (a0 : Array Value) (hw : ∀ d ∈ tables_1, d.before a0 Z = true) (ws : List Jvm.Cond) (p1 : Int32) (h0 : Heap) (n0 : Nat) (Z0 : n0 ≤ h0.size) :
    MetFree l (⟨"java/lang/StringLatin1", "canEncode", "(I)Z"⟩ : MethodName) (head1 (Jvm.Cond.code (⟨"java/lang/StringLatin1", "canEncode", "(I)Z"⟩ : MethodName) jdk_43_method_4_code 1 (some .boolean) :: ws) ({ frames := 0, cells := 0, slots := 0, locals := 0 } : Room)) (fun a U => a = #[(.int p1)] ∧ Z.Warmed39 U.vm ∧ U.heap = h0) (fun _ _ _ _ _ => True) (fun _ U o U' => ∃ v L, o = .returned v ∧ Q23 Z p1 h0 n0 v U'.heap L ∧ FrameEnd U o U' L ({ frames := 0, cells := 0, slots := 0, locals := 0 } : Room).cells ({ frames := 0, cells := 0, slots := 0, locals := 0 } : Room).slots) := by
  refine MetFree.of_bodySF (plainFor_of_name pn_java_lang_StringLatin1) hisR ?_
  intro p e s m args below meth c s₁ Bd hml0 hP hK
  obtain ⟨rfl, hZ, hh⟩ := hP
  have hx := Bd.exec
  have hby := Bd.bytes
  have hml : c.maxLocals = 1 := hml0
  have hown : s.vm.findClass "java/lang/StringLatin1" = some m.cls := findClass_of_methodNamed Bd.named
  have hnm := (name_of_methodNamed Bd.named Bd.method).1
  have X0 : Stand p l e ({ frames := 0, cells := 0, slots := 0, locals := 0 } : Room) s m #[(.int p1)] below meth c s₁ [] 0 0 := Stand.of_body Bd
  have e0 : s₁.heap = h0 := by rw [← hh, Bd.state]; rfl
  have N0 := Fr.nil n0
  have pre0 : ∀ t, Steps p.tables e below (s₁.setTop (mkF m 0 #[.val (.int p1)] [])) t → Steps p.tables e below (s₁.setTop (entryFrame m #[(.int p1)] 1)) t := fun t k => castTop (ef_23 m p1) k
  have pre101 : ∀ t, Steps p.tables e below (s₁.setTop (mkF m 1 #[.val (.int p1)] [(.int p1)])) t → Steps p.tables e below (s₁.setTop (entryFrame m #[(.int p1)] 1)) t := fun t kt => by
    refine pre0 t ?_
    show Steps p.tables e below (s₁.setTop (mkF m 0 #[.val (.int p1)] [])) _
    refine XS.iloadN X0.here hx rfl (hb hby d23_0) rfl ?_
    show Steps p.tables e below (s₁.setTop (mkF m 1 #[.val (.int p1)] [(.int p1)])) _
    exact kt
  by_cases hc1_102 : p1 < (0 : Int32)
  · skip
    obtain ⟨fs, hr, hrun, hended, hW, hsame⟩ := X0.leave (v := some (.int (0 : Int32))) (fun h => by rw [Bd.returns] at h; cases h)
    refine ⟨_, _, pre101 _ ?_, hrun, hended, _, _, rfl, ?_, ⟨_, rfl⟩, hW, hsame.mono (by decide) (by decide)⟩
    · skip
      show Steps p.tables e below (s₁.setTop (mkF m 1 #[.val (.int p1)] [(.int p1)])) _
      refine XS.ifYes X0.here hx rfl (pc0 := 1) (pc' := 15) rfl (hb hby d23_1) rfl ((if0 _ _).trans (tlt (hc1_102 : p1 < (0 : Int32))).1) (by decide) (by decide) ?_
      show Steps p.tables e below (s₁.setTop (mkF m 15 #[.val (.int p1)] [])) _
      refine XS.iconst X0.here hx rfl (hb hby d23_15) ?_
      show Steps p.tables e below (s₁.setTop (mkF m 16 #[.val (.int p1)] [(.int (0 : Int32))])) _
      exact retN X0 hx (t := .boolean) Bd.returns (by simp) (hb hby d23_16) hr
    · show Q23 Z p1 h0 n0 _ s₁.heap _
      rw [e0]
      exact ⟨(by simp only [own_enc, eq_true hc1_102, if_true, if_false]), N0, rfl⟩
  · skip
    have pre103 : ∀ t, Steps p.tables e below (s₁.setTop (mkF m 8 #[.val (.int p1)] [(.int (255 : Int32)), (.int p1)])) t → Steps p.tables e below (s₁.setTop (entryFrame m #[(.int p1)] 1)) t := fun t kt => by
      refine pre101 t ?_
      show Steps p.tables e below (s₁.setTop (mkF m 1 #[.val (.int p1)] [(.int p1)])) _
      refine XS.ifNo X0.here hx rfl (hb hby d23_1) rfl ((if0 _ _).trans (flt (hc1_102 : ¬ (p1 < (0 : Int32)))).1) ?_
      show Steps p.tables e below (s₁.setTop (mkF m 4 #[.val (.int p1)] [])) _
      refine XS.iloadN X0.here hx rfl (hb hby d23_4) rfl ?_
      show Steps p.tables e below (s₁.setTop (mkF m 5 #[.val (.int p1)] [(.int p1)])) _
      refine XS.sipush X0.here hx rfl (hb hby d23_5) ?_
      show Steps p.tables e below (s₁.setTop (mkF m 8 #[.val (.int p1)] [(.int (255 : Int32)), (.int p1)])) _
      exact kt
    by_cases hc8_104 : (255 : Int32) < p1
    · skip
      obtain ⟨fs, hr, hrun, hended, hW, hsame⟩ := X0.leave (v := some (.int (0 : Int32))) (fun h => by rw [Bd.returns] at h; cases h)
      refine ⟨_, _, pre103 _ ?_, hrun, hended, _, _, rfl, ?_, ⟨_, rfl⟩, hW, hsame.mono (by decide) (by decide)⟩
      · skip
        show Steps p.tables e below (s₁.setTop (mkF m 8 #[.val (.int p1)] [(.int (255 : Int32)), (.int p1)])) _
        refine XS.icmpYes X0.here hx rfl (pc0 := 8) (pc' := 15) rfl (hb hby d23_8) rfl (tlt (hc8_104 : (255 : Int32) < p1)).2.2.1 (by decide) (by decide) ?_
        show Steps p.tables e below (s₁.setTop (mkF m 15 #[.val (.int p1)] [])) _
        refine XS.iconst X0.here hx rfl (hb hby d23_15) ?_
        show Steps p.tables e below (s₁.setTop (mkF m 16 #[.val (.int p1)] [(.int (0 : Int32))])) _
        exact retN X0 hx (t := .boolean) Bd.returns (by simp) (hb hby d23_16) hr
      · show Q23 Z p1 h0 n0 _ s₁.heap _
        rw [e0]
        exact ⟨(by simp only [own_enc, eq_false hc1_102, eq_true hc8_104, if_true, if_false]), N0, rfl⟩
    · skip
      obtain ⟨fs, hr, hrun, hended, hW, hsame⟩ := X0.leave (v := some (.int (1 : Int32))) (fun h => by rw [Bd.returns] at h; cases h)
      refine ⟨_, _, pre103 _ ?_, hrun, hended, _, _, rfl, ?_, ⟨_, rfl⟩, hW, hsame.mono (by decide) (by decide)⟩
      · skip
        show Steps p.tables e below (s₁.setTop (mkF m 8 #[.val (.int p1)] [(.int (255 : Int32)), (.int p1)])) _
        refine XS.icmpNo X0.here hx rfl (hb hby d23_8) rfl (flt (hc8_104 : ¬ ((255 : Int32) < p1))).2.2.1 ?_
        show Steps p.tables e below (s₁.setTop (mkF m 11 #[.val (.int p1)] [])) _
        refine XS.iconst X0.here hx rfl (hb hby d23_11) ?_
        show Steps p.tables e below (s₁.setTop (mkF m 12 #[.val (.int p1)] [(.int (1 : Int32))])) _
        refine XS.goto X0.here hx rfl (pc0 := 12) (pc' := 16) rfl (hb hby d23_12) (by decide) (by decide) ?_
        show Steps p.tables e below (s₁.setTop (mkF m 16 #[.val (.int p1)] [(.int (1 : Int32))])) _
        exact retN X0 hx (t := .boolean) Bd.returns (by simp) (hb hby d23_16) hr
      · show Q23 Z p1 h0 n0 _ s₁.heap _
        rw [e0]
        exact ⟨(by simp only [own_enc, eq_false hc1_102, eq_false hc8_104, if_true, if_false]), N0, rfl⟩
theorem d26_0 : decode jdk_43_method_23_code 0 = .ok (.iload_n 1, 1) := by decide +kernel
theorem d26_1 : decode jdk_43_method_23_code 1 = .ok (.i2b, 1) := by decide +kernel
theorem d26_2 : decode jdk_43_method_23_code 2 = .ok (.istore 4, 2) := by decide +kernel
theorem d26_4 : decode jdk_43_method_23_code 4 = .ok (.iload_n 2, 1) := by decide +kernel
theorem d26_5 : decode jdk_43_method_23_code 5 = .ok (.istore 5, 2) := by decide +kernel
theorem d26_7 : decode jdk_43_method_23_code 7 = .ok (.iload 5, 2) := by decide +kernel
theorem d26_9 : decode jdk_43_method_23_code 9 = .ok (.iload_n 3, 1) := by decide +kernel
theorem d26_10 : decode jdk_43_method_23_code 10 = .ok (.if_icmp .ge 21, 3) := by decide +kernel
theorem d26_13 : decode jdk_43_method_23_code 13 = .ok (.aload_n 0, 1) := by decide +kernel
theorem d26_14 : decode jdk_43_method_23_code 14 = .ok (.iload 5, 2) := by decide +kernel
theorem d26_16 : decode jdk_43_method_23_code 16 = .ok (.baload, 1) := by decide +kernel
theorem d26_17 : decode jdk_43_method_23_code 17 = .ok (.iload 4, 2) := by decide +kernel
theorem d26_19 : decode jdk_43_method_23_code 19 = .ok (.if_icmp .ne 6, 3) := by decide +kernel
theorem d26_22 : decode jdk_43_method_23_code 22 = .ok (.iload 5, 2) := by decide +kernel
theorem d26_24 : decode jdk_43_method_23_code 24 = .ok (.ireturn, 1) := by decide +kernel
theorem d26_25 : decode jdk_43_method_23_code 25 = .ok (.iinc 5 1, 3) := by decide +kernel
theorem d26_28 : decode jdk_43_method_23_code 28 = .ok (.goto (-21), 3) := by decide +kernel
theorem d26_31 : decode jdk_43_method_23_code 31 = .ok (.iconst (-1), 1) := by decide +kernel
theorem d26_32 : decode jdk_43_method_23_code 32 = .ok (.ireturn, 1) := by decide +kernel
theorem ef_26 (m : MethodId) (b1 : Addr) (p2 : Int32) : entryFrame m #[(.ref b1), (.int p2), (.int (0 : Int32)), (.int (5 : Int32))] 6 = mkF m 0 #[.val (.ref b1), .val (.int p2), .val (.int (0 : Int32)), .val (.int (5 : Int32)), .unset, .unset] [] := by first | (simp [entryFrame, mkF, argsToLocals, Value.category]; done) | rfl
def Q26 (Z : State) (b1 : Addr) (p2 : Int32) (k1 : ClassId) (h0 : Heap) (n0 : Nat) (v : Option Value) (h : Heap) (L : List Loc) : Prop := v = some (.int (own_iof p2)) ∧ Fr n0 L ∧ h = h0
set_option maxRecDepth 65536 in
set_option maxHeartbeats 40000000 in
theorem rm26 (l : Launch) (Z : State) (a0 : Array Value) (hw : ∀ d ∈ tables_1, d.before a0 Z = true) (ws : List Jvm.Cond) (b1 : Addr) (p2 : Int32) (k1 : ClassId) (h0 : Heap) (n0 : Nat) (Z0 : n0 ≤ h0.size) (H0 : Arv Z h0 b1 k1 .byte (5 : Int32) [(.int (36 : Int32)), (.int (96 : Int32)), (.int (34 : Int32)), (.int (92 : Int32)), (.int (10 : Int32))] (.int (0 : Int32))) :
    MetFree l (⟨"java/lang/StringLatin1", "indexOfChar", "([BIII)I"⟩ : MethodName) (head1 (Jvm.Cond.code (⟨"java/lang/StringLatin1", "indexOfChar", "([BIII)I"⟩ : MethodName) jdk_43_method_23_code 6 (some .int) :: ws) ({ frames := 0, cells := 0, slots := 0, locals := 0 } : Room)) (fun a U => a = #[(.ref b1), (.int p2), (.int (0 : Int32)), (.int (5 : Int32))] ∧ Z.Warmed39 U.vm ∧ U.heap = h0) (fun _ _ _ _ _ => True) (fun _ U o U' => ∃ v L, o = .returned v ∧ Q26 Z b1 p2 k1 h0 n0 v U'.heap L ∧ FrameEnd U o U' L ({ frames := 0, cells := 0, slots := 0, locals := 0 } : Room).cells ({ frames := 0, cells := 0, slots := 0, locals := 0 } : Room).slots) := by
  refine MetFree.of_bodySF (plainFor_of_name pn_java_lang_StringLatin1) hisR ?_
  intro p e s m args below meth c s₁ Bd hml0 hP hK
  obtain ⟨rfl, hZ, hh⟩ := hP
  have hx := Bd.exec
  have hby := Bd.bytes
  have hml : c.maxLocals = 6 := hml0
  have hown : s.vm.findClass "java/lang/StringLatin1" = some m.cls := findClass_of_methodNamed Bd.named
  have hnm := (name_of_methodNamed Bd.named Bd.method).1
  have X0 : Stand p l e ({ frames := 0, cells := 0, slots := 0, locals := 0 } : Room) s m #[(.ref b1), (.int p2), (.int (0 : Int32)), (.int (5 : Int32))] below meth c s₁ [] 0 0 := Stand.of_body Bd
  have e0 : s₁.heap = h0 := by rw [← hh, Bd.state]; rfl
  have N0 := Fr.nil n0
  have pre0 : ∀ t, Steps p.tables e below (s₁.setTop (mkF m 0 #[.val (.ref b1), .val (.int p2), .val (.int (0 : Int32)), .val (.int (5 : Int32)), .unset, .unset] [])) t → Steps p.tables e below (s₁.setTop (entryFrame m #[(.ref b1), (.int p2), (.int (0 : Int32)), (.int (5 : Int32))] 6)) t := fun t k => castTop (ef_26 m b1 p2) k
  obtain ⟨cl101, Ar101, qc101, S101, M101, Hh101, G101⟩ := id H0
  have hin101 : ¬ ((0 : Int32) < 0 ∨ cl101.slots.size ≤ ((0 : Int32)).toNatClampNeg) := inb_of S101 ⟨by decide, by decide⟩
  have pre102 : ∀ t, Steps p.tables e below (s₁.setTop (mkF m 19 #[.val (.ref b1), .val (.int p2), .val (.int (0 : Int32)), .val (.int (5 : Int32)), .val (.int (p2.toInt8.toInt32)), .val (.int (0 : Int32))] [(.int (p2.toInt8.toInt32)), (.int (36 : Int32))])) t → Steps p.tables e below (s₁.setTop (entryFrame m #[(.ref b1), (.int p2), (.int (0 : Int32)), (.int (5 : Int32))] 6)) t := fun t kt => by
    refine pre0 t ?_
    show Steps p.tables e below (s₁.setTop (mkF m 0 #[.val (.ref b1), .val (.int p2), .val (.int (0 : Int32)), .val (.int (5 : Int32)), .unset, .unset] [])) _
    refine XS.iloadN X0.here hx rfl (hb hby d26_0) rfl ?_
    show Steps p.tables e below (s₁.setTop (mkF m 1 #[.val (.ref b1), .val (.int p2), .val (.int (0 : Int32)), .val (.int (5 : Int32)), .unset, .unset] [(.int p2)])) _
    refine XS.i2b X0.here hx rfl (hb hby d26_1) rfl ?_
    show Steps p.tables e below (s₁.setTop (mkF m 2 #[.val (.ref b1), .val (.int p2), .val (.int (0 : Int32)), .val (.int (5 : Int32)), .unset, .unset] [(.int (p2.toInt8.toInt32))])) _
    refine XS.istore X0.here hx rfl (hb hby d26_2) rfl (l' := #[.val (.ref b1), .val (.int p2), .val (.int (0 : Int32)), .val (.int (5 : Int32)), .val (.int (p2.toInt8.toInt32)), .unset]) rfl ?_
    show Steps p.tables e below (s₁.setTop (mkF m 4 #[.val (.ref b1), .val (.int p2), .val (.int (0 : Int32)), .val (.int (5 : Int32)), .val (.int (p2.toInt8.toInt32)), .unset] [])) _
    refine XS.iloadN X0.here hx rfl (hb hby d26_4) rfl ?_
    show Steps p.tables e below (s₁.setTop (mkF m 5 #[.val (.ref b1), .val (.int p2), .val (.int (0 : Int32)), .val (.int (5 : Int32)), .val (.int (p2.toInt8.toInt32)), .unset] [(.int (0 : Int32))])) _
    refine XS.istore X0.here hx rfl (hb hby d26_5) rfl (l' := #[.val (.ref b1), .val (.int p2), .val (.int (0 : Int32)), .val (.int (5 : Int32)), .val (.int (p2.toInt8.toInt32)), .val (.int (0 : Int32))]) rfl ?_
    show Steps p.tables e below (s₁.setTop (mkF m 7 #[.val (.ref b1), .val (.int p2), .val (.int (0 : Int32)), .val (.int (5 : Int32)), .val (.int (p2.toInt8.toInt32)), .val (.int (0 : Int32))] [])) _
    refine XS.iload X0.here hx rfl (hb hby d26_7) rfl ?_
    show Steps p.tables e below (s₁.setTop (mkF m 9 #[.val (.ref b1), .val (.int p2), .val (.int (0 : Int32)), .val (.int (5 : Int32)), .val (.int (p2.toInt8.toInt32)), .val (.int (0 : Int32))] [(.int (0 : Int32))])) _
    refine XS.iloadN X0.here hx rfl (hb hby d26_9) rfl ?_
    show Steps p.tables e below (s₁.setTop (mkF m 10 #[.val (.ref b1), .val (.int p2), .val (.int (0 : Int32)), .val (.int (5 : Int32)), .val (.int (p2.toInt8.toInt32)), .val (.int (0 : Int32))] [(.int (5 : Int32)), (.int (0 : Int32))])) _
    refine XS.icmpNo X0.here hx rfl (hb hby d26_10) rfl (tlt (by decide : (0 : Int32) < (5 : Int32))).2.1 ?_
    show Steps p.tables e below (s₁.setTop (mkF m 13 #[.val (.ref b1), .val (.int p2), .val (.int (0 : Int32)), .val (.int (5 : Int32)), .val (.int (p2.toInt8.toInt32)), .val (.int (0 : Int32))] [])) _
    refine XS.aloadN X0.here hx rfl (hb hby d26_13) rfl rfl ?_
    show Steps p.tables e below (s₁.setTop (mkF m 14 #[.val (.ref b1), .val (.int p2), .val (.int (0 : Int32)), .val (.int (5 : Int32)), .val (.int (p2.toInt8.toInt32)), .val (.int (0 : Int32))] [(.ref b1)])) _
    refine XS.iload X0.here hx rfl (hb hby d26_14) rfl ?_
    show Steps p.tables e below (s₁.setTop (mkF m 16 #[.val (.ref b1), .val (.int p2), .val (.int (0 : Int32)), .val (.int (5 : Int32)), .val (.int (p2.toInt8.toInt32)), .val (.int (0 : Int32))] [(.int (0 : Int32)), (.ref b1)])) _
    refine X0.baloadBytes hx (j := (0 : Int32)) (v := (.int (36 : Int32))) (by rw [e0]; exact Ar101.1) (State.isArrayOf_alike hZ.alike Ar101.2.1) Ar101.2.2 hin101 (Hh101.at hin101 (rfl)) (g := (mkF m 16 #[.val (.ref b1), .val (.int p2), .val (.int (0 : Int32)), .val (.int (5 : Int32)), .val (.int (p2.toInt8.toInt32)), .val (.int (0 : Int32))] [(.int (0 : Int32)), (.ref b1)])) rfl rfl (hb hby d26_16) _ ?_
    show Steps p.tables e below (s₁.setTop (mkF m 17 #[.val (.ref b1), .val (.int p2), .val (.int (0 : Int32)), .val (.int (5 : Int32)), .val (.int (p2.toInt8.toInt32)), .val (.int (0 : Int32))] [(.int (36 : Int32))])) _
    refine XS.iload X0.here hx rfl (hb hby d26_17) rfl ?_
    show Steps p.tables e below (s₁.setTop (mkF m 19 #[.val (.ref b1), .val (.int p2), .val (.int (0 : Int32)), .val (.int (5 : Int32)), .val (.int (p2.toInt8.toInt32)), .val (.int (0 : Int32))] [(.int (p2.toInt8.toInt32)), (.int (36 : Int32))])) _
    exact kt
  by_cases hc19_103 : (36 : Int32) = (p2.toInt8.toInt32)
  · skip
    obtain ⟨fs, hr, hrun, hended, hW, hsame⟩ := X0.leave (v := some (.int (0 : Int32))) (fun h => by rw [Bd.returns] at h; cases h)
    refine ⟨_, _, pre102 _ ?_, hrun, hended, _, _, rfl, ?_, ⟨_, rfl⟩, hW, hsame.mono (by decide) (by decide)⟩
    · skip
      show Steps p.tables e below (s₁.setTop (mkF m 19 #[.val (.ref b1), .val (.int p2), .val (.int (0 : Int32)), .val (.int (5 : Int32)), .val (.int (p2.toInt8.toInt32)), .val (.int (0 : Int32))] [(.int (p2.toInt8.toInt32)), (.int (36 : Int32))])) _
      refine XS.icmpNo X0.here hx rfl (hb hby d26_19) rfl (teq (hc19_103 : (36 : Int32) = (p2.toInt8.toInt32))).2 ?_
      show Steps p.tables e below (s₁.setTop (mkF m 22 #[.val (.ref b1), .val (.int p2), .val (.int (0 : Int32)), .val (.int (5 : Int32)), .val (.int (p2.toInt8.toInt32)), .val (.int (0 : Int32))] [])) _
      refine XS.iload X0.here hx rfl (hb hby d26_22) rfl ?_
      show Steps p.tables e below (s₁.setTop (mkF m 24 #[.val (.ref b1), .val (.int p2), .val (.int (0 : Int32)), .val (.int (5 : Int32)), .val (.int (p2.toInt8.toInt32)), .val (.int (0 : Int32))] [(.int (0 : Int32))])) _
      exact retI X0 hx Bd.returns (hb hby d26_24) hr
    · show Q26 Z b1 p2 k1 h0 n0 _ s₁.heap _
      rw [e0]
      exact ⟨(by simp only [own_iof, eq_true hc19_103, if_true, if_false]), N0, rfl⟩
  · skip
    obtain ⟨cl104, Ar104, qc104, S104, M104, Hh104, G104⟩ := id H0
    have hin104 : ¬ ((1 : Int32) < 0 ∨ cl104.slots.size ≤ ((1 : Int32)).toNatClampNeg) := inb_of S104 ⟨by decide, by decide⟩
    have pre105 : ∀ t, Steps p.tables e below (s₁.setTop (mkF m 19 #[.val (.ref b1), .val (.int p2), .val (.int (0 : Int32)), .val (.int (5 : Int32)), .val (.int (p2.toInt8.toInt32)), .val (.int (1 : Int32))] [(.int (p2.toInt8.toInt32)), (.int (96 : Int32))])) t → Steps p.tables e below (s₁.setTop (entryFrame m #[(.ref b1), (.int p2), (.int (0 : Int32)), (.int (5 : Int32))] 6)) t := fun t kt => by
      refine pre102 t ?_
      show Steps p.tables e below (s₁.setTop (mkF m 19 #[.val (.ref b1), .val (.int p2), .val (.int (0 : Int32)), .val (.int (5 : Int32)), .val (.int (p2.toInt8.toInt32)), .val (.int (0 : Int32))] [(.int (p2.toInt8.toInt32)), (.int (36 : Int32))])) _
      refine XS.icmpYes X0.here hx rfl (pc0 := 19) (pc' := 25) rfl (hb hby d26_19) rfl (feq (hc19_103 : ¬ ((36 : Int32) = (p2.toInt8.toInt32)))).2 (by decide) (by decide) ?_
      show Steps p.tables e below (s₁.setTop (mkF m 25 #[.val (.ref b1), .val (.int p2), .val (.int (0 : Int32)), .val (.int (5 : Int32)), .val (.int (p2.toInt8.toInt32)), .val (.int (0 : Int32))] [])) _
      refine XS.iinc X0.here hx rfl (hb hby d26_25) rfl (l' := #[.val (.ref b1), .val (.int p2), .val (.int (0 : Int32)), .val (.int (5 : Int32)), .val (.int (p2.toInt8.toInt32)), .val (.int ((0 : Int32) + (1 : Int32)))]) rfl ?_
      show Steps p.tables e below (s₁.setTop (mkF m 28 #[.val (.ref b1), .val (.int p2), .val (.int (0 : Int32)), .val (.int (5 : Int32)), .val (.int (p2.toInt8.toInt32)), .val (.int ((0 : Int32) + (1 : Int32)))] [])) _
      rw [show ((0 : Int32) + (1 : Int32)) = (1 : Int32) from by decide]
      show Steps p.tables e below (s₁.setTop (mkF m 28 #[.val (.ref b1), .val (.int p2), .val (.int (0 : Int32)), .val (.int (5 : Int32)), .val (.int (p2.toInt8.toInt32)), .val (.int (1 : Int32))] [])) _
      refine XS.goto X0.here hx rfl (pc0 := 28) (pc' := 7) rfl (hb hby d26_28) (by decide) (by decide) ?_
      show Steps p.tables e below (s₁.setTop (mkF m 7 #[.val (.ref b1), .val (.int p2), .val (.int (0 : Int32)), .val (.int (5 : Int32)), .val (.int (p2.toInt8.toInt32)), .val (.int (1 : Int32))] [])) _
      refine XS.iload X0.here hx rfl (hb hby d26_7) rfl ?_
      show Steps p.tables e below (s₁.setTop (mkF m 9 #[.val (.ref b1), .val (.int p2), .val (.int (0 : Int32)), .val (.int (5 : Int32)), .val (.int (p2.toInt8.toInt32)), .val (.int (1 : Int32))] [(.int (1 : Int32))])) _
      refine XS.iloadN X0.here hx rfl (hb hby d26_9) rfl ?_
      show Steps p.tables e below (s₁.setTop (mkF m 10 #[.val (.ref b1), .val (.int p2), .val (.int (0 : Int32)), .val (.int (5 : Int32)), .val (.int (p2.toInt8.toInt32)), .val (.int (1 : Int32))] [(.int (5 : Int32)), (.int (1 : Int32))])) _
      refine XS.icmpNo X0.here hx rfl (hb hby d26_10) rfl (tlt (by decide : (1 : Int32) < (5 : Int32))).2.1 ?_
      show Steps p.tables e below (s₁.setTop (mkF m 13 #[.val (.ref b1), .val (.int p2), .val (.int (0 : Int32)), .val (.int (5 : Int32)), .val (.int (p2.toInt8.toInt32)), .val (.int (1 : Int32))] [])) _
      refine XS.aloadN X0.here hx rfl (hb hby d26_13) rfl rfl ?_
      show Steps p.tables e below (s₁.setTop (mkF m 14 #[.val (.ref b1), .val (.int p2), .val (.int (0 : Int32)), .val (.int (5 : Int32)), .val (.int (p2.toInt8.toInt32)), .val (.int (1 : Int32))] [(.ref b1)])) _
      refine XS.iload X0.here hx rfl (hb hby d26_14) rfl ?_
      show Steps p.tables e below (s₁.setTop (mkF m 16 #[.val (.ref b1), .val (.int p2), .val (.int (0 : Int32)), .val (.int (5 : Int32)), .val (.int (p2.toInt8.toInt32)), .val (.int (1 : Int32))] [(.int (1 : Int32)), (.ref b1)])) _
      refine X0.baloadBytes hx (j := (1 : Int32)) (v := (.int (96 : Int32))) (by rw [e0]; exact Ar104.1) (State.isArrayOf_alike hZ.alike Ar104.2.1) Ar104.2.2 hin104 (Hh104.at hin104 (rfl)) (g := (mkF m 16 #[.val (.ref b1), .val (.int p2), .val (.int (0 : Int32)), .val (.int (5 : Int32)), .val (.int (p2.toInt8.toInt32)), .val (.int (1 : Int32))] [(.int (1 : Int32)), (.ref b1)])) rfl rfl (hb hby d26_16) _ ?_
      show Steps p.tables e below (s₁.setTop (mkF m 17 #[.val (.ref b1), .val (.int p2), .val (.int (0 : Int32)), .val (.int (5 : Int32)), .val (.int (p2.toInt8.toInt32)), .val (.int (1 : Int32))] [(.int (96 : Int32))])) _
      refine XS.iload X0.here hx rfl (hb hby d26_17) rfl ?_
      show Steps p.tables e below (s₁.setTop (mkF m 19 #[.val (.ref b1), .val (.int p2), .val (.int (0 : Int32)), .val (.int (5 : Int32)), .val (.int (p2.toInt8.toInt32)), .val (.int (1 : Int32))] [(.int (p2.toInt8.toInt32)), (.int (96 : Int32))])) _
      exact kt
    by_cases hc19_106 : (96 : Int32) = (p2.toInt8.toInt32)
    · skip
      obtain ⟨fs, hr, hrun, hended, hW, hsame⟩ := X0.leave (v := some (.int (1 : Int32))) (fun h => by rw [Bd.returns] at h; cases h)
      refine ⟨_, _, pre105 _ ?_, hrun, hended, _, _, rfl, ?_, ⟨_, rfl⟩, hW, hsame.mono (by decide) (by decide)⟩
      · skip
        show Steps p.tables e below (s₁.setTop (mkF m 19 #[.val (.ref b1), .val (.int p2), .val (.int (0 : Int32)), .val (.int (5 : Int32)), .val (.int (p2.toInt8.toInt32)), .val (.int (1 : Int32))] [(.int (p2.toInt8.toInt32)), (.int (96 : Int32))])) _
        refine XS.icmpNo X0.here hx rfl (hb hby d26_19) rfl (teq (hc19_106 : (96 : Int32) = (p2.toInt8.toInt32))).2 ?_
        show Steps p.tables e below (s₁.setTop (mkF m 22 #[.val (.ref b1), .val (.int p2), .val (.int (0 : Int32)), .val (.int (5 : Int32)), .val (.int (p2.toInt8.toInt32)), .val (.int (1 : Int32))] [])) _
        refine XS.iload X0.here hx rfl (hb hby d26_22) rfl ?_
        show Steps p.tables e below (s₁.setTop (mkF m 24 #[.val (.ref b1), .val (.int p2), .val (.int (0 : Int32)), .val (.int (5 : Int32)), .val (.int (p2.toInt8.toInt32)), .val (.int (1 : Int32))] [(.int (1 : Int32))])) _
        exact retI X0 hx Bd.returns (hb hby d26_24) hr
      · show Q26 Z b1 p2 k1 h0 n0 _ s₁.heap _
        rw [e0]
        exact ⟨(by simp only [own_iof, eq_false hc19_103, eq_true hc19_106, if_true, if_false]), N0, rfl⟩
    · skip
      obtain ⟨cl107, Ar107, qc107, S107, M107, Hh107, G107⟩ := id H0
      have hin107 : ¬ ((2 : Int32) < 0 ∨ cl107.slots.size ≤ ((2 : Int32)).toNatClampNeg) := inb_of S107 ⟨by decide, by decide⟩
      have pre108 : ∀ t, Steps p.tables e below (s₁.setTop (mkF m 19 #[.val (.ref b1), .val (.int p2), .val (.int (0 : Int32)), .val (.int (5 : Int32)), .val (.int (p2.toInt8.toInt32)), .val (.int (2 : Int32))] [(.int (p2.toInt8.toInt32)), (.int (34 : Int32))])) t → Steps p.tables e below (s₁.setTop (entryFrame m #[(.ref b1), (.int p2), (.int (0 : Int32)), (.int (5 : Int32))] 6)) t := fun t kt => by
        refine pre105 t ?_
        show Steps p.tables e below (s₁.setTop (mkF m 19 #[.val (.ref b1), .val (.int p2), .val (.int (0 : Int32)), .val (.int (5 : Int32)), .val (.int (p2.toInt8.toInt32)), .val (.int (1 : Int32))] [(.int (p2.toInt8.toInt32)), (.int (96 : Int32))])) _
        refine XS.icmpYes X0.here hx rfl (pc0 := 19) (pc' := 25) rfl (hb hby d26_19) rfl (feq (hc19_106 : ¬ ((96 : Int32) = (p2.toInt8.toInt32)))).2 (by decide) (by decide) ?_
        show Steps p.tables e below (s₁.setTop (mkF m 25 #[.val (.ref b1), .val (.int p2), .val (.int (0 : Int32)), .val (.int (5 : Int32)), .val (.int (p2.toInt8.toInt32)), .val (.int (1 : Int32))] [])) _
        refine XS.iinc X0.here hx rfl (hb hby d26_25) rfl (l' := #[.val (.ref b1), .val (.int p2), .val (.int (0 : Int32)), .val (.int (5 : Int32)), .val (.int (p2.toInt8.toInt32)), .val (.int ((1 : Int32) + (1 : Int32)))]) rfl ?_
        show Steps p.tables e below (s₁.setTop (mkF m 28 #[.val (.ref b1), .val (.int p2), .val (.int (0 : Int32)), .val (.int (5 : Int32)), .val (.int (p2.toInt8.toInt32)), .val (.int ((1 : Int32) + (1 : Int32)))] [])) _
        rw [show ((1 : Int32) + (1 : Int32)) = (2 : Int32) from by decide]
        show Steps p.tables e below (s₁.setTop (mkF m 28 #[.val (.ref b1), .val (.int p2), .val (.int (0 : Int32)), .val (.int (5 : Int32)), .val (.int (p2.toInt8.toInt32)), .val (.int (2 : Int32))] [])) _
        refine XS.goto X0.here hx rfl (pc0 := 28) (pc' := 7) rfl (hb hby d26_28) (by decide) (by decide) ?_
        show Steps p.tables e below (s₁.setTop (mkF m 7 #[.val (.ref b1), .val (.int p2), .val (.int (0 : Int32)), .val (.int (5 : Int32)), .val (.int (p2.toInt8.toInt32)), .val (.int (2 : Int32))] [])) _
        refine XS.iload X0.here hx rfl (hb hby d26_7) rfl ?_
        show Steps p.tables e below (s₁.setTop (mkF m 9 #[.val (.ref b1), .val (.int p2), .val (.int (0 : Int32)), .val (.int (5 : Int32)), .val (.int (p2.toInt8.toInt32)), .val (.int (2 : Int32))] [(.int (2 : Int32))])) _
        refine XS.iloadN X0.here hx rfl (hb hby d26_9) rfl ?_
        show Steps p.tables e below (s₁.setTop (mkF m 10 #[.val (.ref b1), .val (.int p2), .val (.int (0 : Int32)), .val (.int (5 : Int32)), .val (.int (p2.toInt8.toInt32)), .val (.int (2 : Int32))] [(.int (5 : Int32)), (.int (2 : Int32))])) _
        refine XS.icmpNo X0.here hx rfl (hb hby d26_10) rfl (tlt (by decide : (2 : Int32) < (5 : Int32))).2.1 ?_
        show Steps p.tables e below (s₁.setTop (mkF m 13 #[.val (.ref b1), .val (.int p2), .val (.int (0 : Int32)), .val (.int (5 : Int32)), .val (.int (p2.toInt8.toInt32)), .val (.int (2 : Int32))] [])) _
        refine XS.aloadN X0.here hx rfl (hb hby d26_13) rfl rfl ?_
        show Steps p.tables e below (s₁.setTop (mkF m 14 #[.val (.ref b1), .val (.int p2), .val (.int (0 : Int32)), .val (.int (5 : Int32)), .val (.int (p2.toInt8.toInt32)), .val (.int (2 : Int32))] [(.ref b1)])) _
        refine XS.iload X0.here hx rfl (hb hby d26_14) rfl ?_
        show Steps p.tables e below (s₁.setTop (mkF m 16 #[.val (.ref b1), .val (.int p2), .val (.int (0 : Int32)), .val (.int (5 : Int32)), .val (.int (p2.toInt8.toInt32)), .val (.int (2 : Int32))] [(.int (2 : Int32)), (.ref b1)])) _
        refine X0.baloadBytes hx (j := (2 : Int32)) (v := (.int (34 : Int32))) (by rw [e0]; exact Ar107.1) (State.isArrayOf_alike hZ.alike Ar107.2.1) Ar107.2.2 hin107 (Hh107.at hin107 (rfl)) (g := (mkF m 16 #[.val (.ref b1), .val (.int p2), .val (.int (0 : Int32)), .val (.int (5 : Int32)), .val (.int (p2.toInt8.toInt32)), .val (.int (2 : Int32))] [(.int (2 : Int32)), (.ref b1)])) rfl rfl (hb hby d26_16) _ ?_
        show Steps p.tables e below (s₁.setTop (mkF m 17 #[.val (.ref b1), .val (.int p2), .val (.int (0 : Int32)), .val (.int (5 : Int32)), .val (.int (p2.toInt8.toInt32)), .val (.int (2 : Int32))] [(.int (34 : Int32))])) _
        refine XS.iload X0.here hx rfl (hb hby d26_17) rfl ?_
        show Steps p.tables e below (s₁.setTop (mkF m 19 #[.val (.ref b1), .val (.int p2), .val (.int (0 : Int32)), .val (.int (5 : Int32)), .val (.int (p2.toInt8.toInt32)), .val (.int (2 : Int32))] [(.int (p2.toInt8.toInt32)), (.int (34 : Int32))])) _
        exact kt
      by_cases hc19_109 : (34 : Int32) = (p2.toInt8.toInt32)
      · skip
        obtain ⟨fs, hr, hrun, hended, hW, hsame⟩ := X0.leave (v := some (.int (2 : Int32))) (fun h => by rw [Bd.returns] at h; cases h)
        refine ⟨_, _, pre108 _ ?_, hrun, hended, _, _, rfl, ?_, ⟨_, rfl⟩, hW, hsame.mono (by decide) (by decide)⟩
        · skip
          show Steps p.tables e below (s₁.setTop (mkF m 19 #[.val (.ref b1), .val (.int p2), .val (.int (0 : Int32)), .val (.int (5 : Int32)), .val (.int (p2.toInt8.toInt32)), .val (.int (2 : Int32))] [(.int (p2.toInt8.toInt32)), (.int (34 : Int32))])) _
          refine XS.icmpNo X0.here hx rfl (hb hby d26_19) rfl (teq (hc19_109 : (34 : Int32) = (p2.toInt8.toInt32))).2 ?_
          show Steps p.tables e below (s₁.setTop (mkF m 22 #[.val (.ref b1), .val (.int p2), .val (.int (0 : Int32)), .val (.int (5 : Int32)), .val (.int (p2.toInt8.toInt32)), .val (.int (2 : Int32))] [])) _
          refine XS.iload X0.here hx rfl (hb hby d26_22) rfl ?_
          show Steps p.tables e below (s₁.setTop (mkF m 24 #[.val (.ref b1), .val (.int p2), .val (.int (0 : Int32)), .val (.int (5 : Int32)), .val (.int (p2.toInt8.toInt32)), .val (.int (2 : Int32))] [(.int (2 : Int32))])) _
          exact retI X0 hx Bd.returns (hb hby d26_24) hr
        · show Q26 Z b1 p2 k1 h0 n0 _ s₁.heap _
          rw [e0]
          exact ⟨(by simp only [own_iof, eq_false hc19_103, eq_false hc19_106, eq_true hc19_109, if_true, if_false]), N0, rfl⟩
      · skip
        obtain ⟨cl110, Ar110, qc110, S110, M110, Hh110, G110⟩ := id H0
        have hin110 : ¬ ((3 : Int32) < 0 ∨ cl110.slots.size ≤ ((3 : Int32)).toNatClampNeg) := inb_of S110 ⟨by decide, by decide⟩
        have pre111 : ∀ t, Steps p.tables e below (s₁.setTop (mkF m 19 #[.val (.ref b1), .val (.int p2), .val (.int (0 : Int32)), .val (.int (5 : Int32)), .val (.int (p2.toInt8.toInt32)), .val (.int (3 : Int32))] [(.int (p2.toInt8.toInt32)), (.int (92 : Int32))])) t → Steps p.tables e below (s₁.setTop (entryFrame m #[(.ref b1), (.int p2), (.int (0 : Int32)), (.int (5 : Int32))] 6)) t := fun t kt => by
          refine pre108 t ?_
          show Steps p.tables e below (s₁.setTop (mkF m 19 #[.val (.ref b1), .val (.int p2), .val (.int (0 : Int32)), .val (.int (5 : Int32)), .val (.int (p2.toInt8.toInt32)), .val (.int (2 : Int32))] [(.int (p2.toInt8.toInt32)), (.int (34 : Int32))])) _
          refine XS.icmpYes X0.here hx rfl (pc0 := 19) (pc' := 25) rfl (hb hby d26_19) rfl (feq (hc19_109 : ¬ ((34 : Int32) = (p2.toInt8.toInt32)))).2 (by decide) (by decide) ?_
          show Steps p.tables e below (s₁.setTop (mkF m 25 #[.val (.ref b1), .val (.int p2), .val (.int (0 : Int32)), .val (.int (5 : Int32)), .val (.int (p2.toInt8.toInt32)), .val (.int (2 : Int32))] [])) _
          refine XS.iinc X0.here hx rfl (hb hby d26_25) rfl (l' := #[.val (.ref b1), .val (.int p2), .val (.int (0 : Int32)), .val (.int (5 : Int32)), .val (.int (p2.toInt8.toInt32)), .val (.int ((2 : Int32) + (1 : Int32)))]) rfl ?_
          show Steps p.tables e below (s₁.setTop (mkF m 28 #[.val (.ref b1), .val (.int p2), .val (.int (0 : Int32)), .val (.int (5 : Int32)), .val (.int (p2.toInt8.toInt32)), .val (.int ((2 : Int32) + (1 : Int32)))] [])) _
          rw [show ((2 : Int32) + (1 : Int32)) = (3 : Int32) from by decide]
          show Steps p.tables e below (s₁.setTop (mkF m 28 #[.val (.ref b1), .val (.int p2), .val (.int (0 : Int32)), .val (.int (5 : Int32)), .val (.int (p2.toInt8.toInt32)), .val (.int (3 : Int32))] [])) _
          refine XS.goto X0.here hx rfl (pc0 := 28) (pc' := 7) rfl (hb hby d26_28) (by decide) (by decide) ?_
          show Steps p.tables e below (s₁.setTop (mkF m 7 #[.val (.ref b1), .val (.int p2), .val (.int (0 : Int32)), .val (.int (5 : Int32)), .val (.int (p2.toInt8.toInt32)), .val (.int (3 : Int32))] [])) _
          refine XS.iload X0.here hx rfl (hb hby d26_7) rfl ?_
          show Steps p.tables e below (s₁.setTop (mkF m 9 #[.val (.ref b1), .val (.int p2), .val (.int (0 : Int32)), .val (.int (5 : Int32)), .val (.int (p2.toInt8.toInt32)), .val (.int (3 : Int32))] [(.int (3 : Int32))])) _
          refine XS.iloadN X0.here hx rfl (hb hby d26_9) rfl ?_
          show Steps p.tables e below (s₁.setTop (mkF m 10 #[.val (.ref b1), .val (.int p2), .val (.int (0 : Int32)), .val (.int (5 : Int32)), .val (.int (p2.toInt8.toInt32)), .val (.int (3 : Int32))] [(.int (5 : Int32)), (.int (3 : Int32))])) _
          refine XS.icmpNo X0.here hx rfl (hb hby d26_10) rfl (tlt (by decide : (3 : Int32) < (5 : Int32))).2.1 ?_
          show Steps p.tables e below (s₁.setTop (mkF m 13 #[.val (.ref b1), .val (.int p2), .val (.int (0 : Int32)), .val (.int (5 : Int32)), .val (.int (p2.toInt8.toInt32)), .val (.int (3 : Int32))] [])) _
          refine XS.aloadN X0.here hx rfl (hb hby d26_13) rfl rfl ?_
          show Steps p.tables e below (s₁.setTop (mkF m 14 #[.val (.ref b1), .val (.int p2), .val (.int (0 : Int32)), .val (.int (5 : Int32)), .val (.int (p2.toInt8.toInt32)), .val (.int (3 : Int32))] [(.ref b1)])) _
          refine XS.iload X0.here hx rfl (hb hby d26_14) rfl ?_
          show Steps p.tables e below (s₁.setTop (mkF m 16 #[.val (.ref b1), .val (.int p2), .val (.int (0 : Int32)), .val (.int (5 : Int32)), .val (.int (p2.toInt8.toInt32)), .val (.int (3 : Int32))] [(.int (3 : Int32)), (.ref b1)])) _
          refine X0.baloadBytes hx (j := (3 : Int32)) (v := (.int (92 : Int32))) (by rw [e0]; exact Ar110.1) (State.isArrayOf_alike hZ.alike Ar110.2.1) Ar110.2.2 hin110 (Hh110.at hin110 (rfl)) (g := (mkF m 16 #[.val (.ref b1), .val (.int p2), .val (.int (0 : Int32)), .val (.int (5 : Int32)), .val (.int (p2.toInt8.toInt32)), .val (.int (3 : Int32))] [(.int (3 : Int32)), (.ref b1)])) rfl rfl (hb hby d26_16) _ ?_
          show Steps p.tables e below (s₁.setTop (mkF m 17 #[.val (.ref b1), .val (.int p2), .val (.int (0 : Int32)), .val (.int (5 : Int32)), .val (.int (p2.toInt8.toInt32)), .val (.int (3 : Int32))] [(.int (92 : Int32))])) _
          refine XS.iload X0.here hx rfl (hb hby d26_17) rfl ?_
          show Steps p.tables e below (s₁.setTop (mkF m 19 #[.val (.ref b1), .val (.int p2), .val (.int (0 : Int32)), .val (.int (5 : Int32)), .val (.int (p2.toInt8.toInt32)), .val (.int (3 : Int32))] [(.int (p2.toInt8.toInt32)), (.int (92 : Int32))])) _
          exact kt
        by_cases hc19_112 : (92 : Int32) = (p2.toInt8.toInt32)
        · skip
          obtain ⟨fs, hr, hrun, hended, hW, hsame⟩ := X0.leave (v := some (.int (3 : Int32))) (fun h => by rw [Bd.returns] at h; cases h)
          refine ⟨_, _, pre111 _ ?_, hrun, hended, _, _, rfl, ?_, ⟨_, rfl⟩, hW, hsame.mono (by decide) (by decide)⟩
          · skip
            show Steps p.tables e below (s₁.setTop (mkF m 19 #[.val (.ref b1), .val (.int p2), .val (.int (0 : Int32)), .val (.int (5 : Int32)), .val (.int (p2.toInt8.toInt32)), .val (.int (3 : Int32))] [(.int (p2.toInt8.toInt32)), (.int (92 : Int32))])) _
            refine XS.icmpNo X0.here hx rfl (hb hby d26_19) rfl (teq (hc19_112 : (92 : Int32) = (p2.toInt8.toInt32))).2 ?_
            show Steps p.tables e below (s₁.setTop (mkF m 22 #[.val (.ref b1), .val (.int p2), .val (.int (0 : Int32)), .val (.int (5 : Int32)), .val (.int (p2.toInt8.toInt32)), .val (.int (3 : Int32))] [])) _
            refine XS.iload X0.here hx rfl (hb hby d26_22) rfl ?_
            show Steps p.tables e below (s₁.setTop (mkF m 24 #[.val (.ref b1), .val (.int p2), .val (.int (0 : Int32)), .val (.int (5 : Int32)), .val (.int (p2.toInt8.toInt32)), .val (.int (3 : Int32))] [(.int (3 : Int32))])) _
            exact retI X0 hx Bd.returns (hb hby d26_24) hr
          · show Q26 Z b1 p2 k1 h0 n0 _ s₁.heap _
            rw [e0]
            exact ⟨(by simp only [own_iof, eq_false hc19_103, eq_false hc19_106, eq_false hc19_109, eq_true hc19_112, if_true, if_false]), N0, rfl⟩
        · skip
          obtain ⟨cl113, Ar113, qc113, S113, M113, Hh113, G113⟩ := id H0
          have hin113 : ¬ ((4 : Int32) < 0 ∨ cl113.slots.size ≤ ((4 : Int32)).toNatClampNeg) := inb_of S113 ⟨by decide, by decide⟩
          have pre114 : ∀ t, Steps p.tables e below (s₁.setTop (mkF m 19 #[.val (.ref b1), .val (.int p2), .val (.int (0 : Int32)), .val (.int (5 : Int32)), .val (.int (p2.toInt8.toInt32)), .val (.int (4 : Int32))] [(.int (p2.toInt8.toInt32)), (.int (10 : Int32))])) t → Steps p.tables e below (s₁.setTop (entryFrame m #[(.ref b1), (.int p2), (.int (0 : Int32)), (.int (5 : Int32))] 6)) t := fun t kt => by
            refine pre111 t ?_
            show Steps p.tables e below (s₁.setTop (mkF m 19 #[.val (.ref b1), .val (.int p2), .val (.int (0 : Int32)), .val (.int (5 : Int32)), .val (.int (p2.toInt8.toInt32)), .val (.int (3 : Int32))] [(.int (p2.toInt8.toInt32)), (.int (92 : Int32))])) _
            refine XS.icmpYes X0.here hx rfl (pc0 := 19) (pc' := 25) rfl (hb hby d26_19) rfl (feq (hc19_112 : ¬ ((92 : Int32) = (p2.toInt8.toInt32)))).2 (by decide) (by decide) ?_
            show Steps p.tables e below (s₁.setTop (mkF m 25 #[.val (.ref b1), .val (.int p2), .val (.int (0 : Int32)), .val (.int (5 : Int32)), .val (.int (p2.toInt8.toInt32)), .val (.int (3 : Int32))] [])) _
            refine XS.iinc X0.here hx rfl (hb hby d26_25) rfl (l' := #[.val (.ref b1), .val (.int p2), .val (.int (0 : Int32)), .val (.int (5 : Int32)), .val (.int (p2.toInt8.toInt32)), .val (.int ((3 : Int32) + (1 : Int32)))]) rfl ?_
            show Steps p.tables e below (s₁.setTop (mkF m 28 #[.val (.ref b1), .val (.int p2), .val (.int (0 : Int32)), .val (.int (5 : Int32)), .val (.int (p2.toInt8.toInt32)), .val (.int ((3 : Int32) + (1 : Int32)))] [])) _
            rw [show ((3 : Int32) + (1 : Int32)) = (4 : Int32) from by decide]
            show Steps p.tables e below (s₁.setTop (mkF m 28 #[.val (.ref b1), .val (.int p2), .val (.int (0 : Int32)), .val (.int (5 : Int32)), .val (.int (p2.toInt8.toInt32)), .val (.int (4 : Int32))] [])) _
            refine XS.goto X0.here hx rfl (pc0 := 28) (pc' := 7) rfl (hb hby d26_28) (by decide) (by decide) ?_
            show Steps p.tables e below (s₁.setTop (mkF m 7 #[.val (.ref b1), .val (.int p2), .val (.int (0 : Int32)), .val (.int (5 : Int32)), .val (.int (p2.toInt8.toInt32)), .val (.int (4 : Int32))] [])) _
            refine XS.iload X0.here hx rfl (hb hby d26_7) rfl ?_
            show Steps p.tables e below (s₁.setTop (mkF m 9 #[.val (.ref b1), .val (.int p2), .val (.int (0 : Int32)), .val (.int (5 : Int32)), .val (.int (p2.toInt8.toInt32)), .val (.int (4 : Int32))] [(.int (4 : Int32))])) _
            refine XS.iloadN X0.here hx rfl (hb hby d26_9) rfl ?_
            show Steps p.tables e below (s₁.setTop (mkF m 10 #[.val (.ref b1), .val (.int p2), .val (.int (0 : Int32)), .val (.int (5 : Int32)), .val (.int (p2.toInt8.toInt32)), .val (.int (4 : Int32))] [(.int (5 : Int32)), (.int (4 : Int32))])) _
            refine XS.icmpNo X0.here hx rfl (hb hby d26_10) rfl (tlt (by decide : (4 : Int32) < (5 : Int32))).2.1 ?_
            show Steps p.tables e below (s₁.setTop (mkF m 13 #[.val (.ref b1), .val (.int p2), .val (.int (0 : Int32)), .val (.int (5 : Int32)), .val (.int (p2.toInt8.toInt32)), .val (.int (4 : Int32))] [])) _
            refine XS.aloadN X0.here hx rfl (hb hby d26_13) rfl rfl ?_
            show Steps p.tables e below (s₁.setTop (mkF m 14 #[.val (.ref b1), .val (.int p2), .val (.int (0 : Int32)), .val (.int (5 : Int32)), .val (.int (p2.toInt8.toInt32)), .val (.int (4 : Int32))] [(.ref b1)])) _
            refine XS.iload X0.here hx rfl (hb hby d26_14) rfl ?_
            show Steps p.tables e below (s₁.setTop (mkF m 16 #[.val (.ref b1), .val (.int p2), .val (.int (0 : Int32)), .val (.int (5 : Int32)), .val (.int (p2.toInt8.toInt32)), .val (.int (4 : Int32))] [(.int (4 : Int32)), (.ref b1)])) _
            refine X0.baloadBytes hx (j := (4 : Int32)) (v := (.int (10 : Int32))) (by rw [e0]; exact Ar113.1) (State.isArrayOf_alike hZ.alike Ar113.2.1) Ar113.2.2 hin113 (Hh113.at hin113 (rfl)) (g := (mkF m 16 #[.val (.ref b1), .val (.int p2), .val (.int (0 : Int32)), .val (.int (5 : Int32)), .val (.int (p2.toInt8.toInt32)), .val (.int (4 : Int32))] [(.int (4 : Int32)), (.ref b1)])) rfl rfl (hb hby d26_16) _ ?_
            show Steps p.tables e below (s₁.setTop (mkF m 17 #[.val (.ref b1), .val (.int p2), .val (.int (0 : Int32)), .val (.int (5 : Int32)), .val (.int (p2.toInt8.toInt32)), .val (.int (4 : Int32))] [(.int (10 : Int32))])) _
            refine XS.iload X0.here hx rfl (hb hby d26_17) rfl ?_
            show Steps p.tables e below (s₁.setTop (mkF m 19 #[.val (.ref b1), .val (.int p2), .val (.int (0 : Int32)), .val (.int (5 : Int32)), .val (.int (p2.toInt8.toInt32)), .val (.int (4 : Int32))] [(.int (p2.toInt8.toInt32)), (.int (10 : Int32))])) _
            exact kt
          by_cases hc19_115 : (10 : Int32) = (p2.toInt8.toInt32)
          · skip
            obtain ⟨fs, hr, hrun, hended, hW, hsame⟩ := X0.leave (v := some (.int (4 : Int32))) (fun h => by rw [Bd.returns] at h; cases h)
            refine ⟨_, _, pre114 _ ?_, hrun, hended, _, _, rfl, ?_, ⟨_, rfl⟩, hW, hsame.mono (by decide) (by decide)⟩
            · skip
              show Steps p.tables e below (s₁.setTop (mkF m 19 #[.val (.ref b1), .val (.int p2), .val (.int (0 : Int32)), .val (.int (5 : Int32)), .val (.int (p2.toInt8.toInt32)), .val (.int (4 : Int32))] [(.int (p2.toInt8.toInt32)), (.int (10 : Int32))])) _
              refine XS.icmpNo X0.here hx rfl (hb hby d26_19) rfl (teq (hc19_115 : (10 : Int32) = (p2.toInt8.toInt32))).2 ?_
              show Steps p.tables e below (s₁.setTop (mkF m 22 #[.val (.ref b1), .val (.int p2), .val (.int (0 : Int32)), .val (.int (5 : Int32)), .val (.int (p2.toInt8.toInt32)), .val (.int (4 : Int32))] [])) _
              refine XS.iload X0.here hx rfl (hb hby d26_22) rfl ?_
              show Steps p.tables e below (s₁.setTop (mkF m 24 #[.val (.ref b1), .val (.int p2), .val (.int (0 : Int32)), .val (.int (5 : Int32)), .val (.int (p2.toInt8.toInt32)), .val (.int (4 : Int32))] [(.int (4 : Int32))])) _
              exact retI X0 hx Bd.returns (hb hby d26_24) hr
            · show Q26 Z b1 p2 k1 h0 n0 _ s₁.heap _
              rw [e0]
              exact ⟨(by simp only [own_iof, eq_false hc19_103, eq_false hc19_106, eq_false hc19_109, eq_false hc19_112, eq_true hc19_115, if_true, if_false]), N0, rfl⟩
          · skip
            obtain ⟨fs, hr, hrun, hended, hW, hsame⟩ := X0.leave (v := some (.int (-1 : Int32))) (fun h => by rw [Bd.returns] at h; cases h)
            refine ⟨_, _, pre114 _ ?_, hrun, hended, _, _, rfl, ?_, ⟨_, rfl⟩, hW, hsame.mono (by decide) (by decide)⟩
            · skip
              show Steps p.tables e below (s₁.setTop (mkF m 19 #[.val (.ref b1), .val (.int p2), .val (.int (0 : Int32)), .val (.int (5 : Int32)), .val (.int (p2.toInt8.toInt32)), .val (.int (4 : Int32))] [(.int (p2.toInt8.toInt32)), (.int (10 : Int32))])) _
              refine XS.icmpYes X0.here hx rfl (pc0 := 19) (pc' := 25) rfl (hb hby d26_19) rfl (feq (hc19_115 : ¬ ((10 : Int32) = (p2.toInt8.toInt32)))).2 (by decide) (by decide) ?_
              show Steps p.tables e below (s₁.setTop (mkF m 25 #[.val (.ref b1), .val (.int p2), .val (.int (0 : Int32)), .val (.int (5 : Int32)), .val (.int (p2.toInt8.toInt32)), .val (.int (4 : Int32))] [])) _
              refine XS.iinc X0.here hx rfl (hb hby d26_25) rfl (l' := #[.val (.ref b1), .val (.int p2), .val (.int (0 : Int32)), .val (.int (5 : Int32)), .val (.int (p2.toInt8.toInt32)), .val (.int ((4 : Int32) + (1 : Int32)))]) rfl ?_
              show Steps p.tables e below (s₁.setTop (mkF m 28 #[.val (.ref b1), .val (.int p2), .val (.int (0 : Int32)), .val (.int (5 : Int32)), .val (.int (p2.toInt8.toInt32)), .val (.int ((4 : Int32) + (1 : Int32)))] [])) _
              rw [show ((4 : Int32) + (1 : Int32)) = (5 : Int32) from by decide]
              show Steps p.tables e below (s₁.setTop (mkF m 28 #[.val (.ref b1), .val (.int p2), .val (.int (0 : Int32)), .val (.int (5 : Int32)), .val (.int (p2.toInt8.toInt32)), .val (.int (5 : Int32))] [])) _
              refine XS.goto X0.here hx rfl (pc0 := 28) (pc' := 7) rfl (hb hby d26_28) (by decide) (by decide) ?_
              show Steps p.tables e below (s₁.setTop (mkF m 7 #[.val (.ref b1), .val (.int p2), .val (.int (0 : Int32)), .val (.int (5 : Int32)), .val (.int (p2.toInt8.toInt32)), .val (.int (5 : Int32))] [])) _
              refine XS.iload X0.here hx rfl (hb hby d26_7) rfl ?_
              show Steps p.tables e below (s₁.setTop (mkF m 9 #[.val (.ref b1), .val (.int p2), .val (.int (0 : Int32)), .val (.int (5 : Int32)), .val (.int (p2.toInt8.toInt32)), .val (.int (5 : Int32))] [(.int (5 : Int32))])) _
              refine XS.iloadN X0.here hx rfl (hb hby d26_9) rfl ?_
              show Steps p.tables e below (s₁.setTop (mkF m 10 #[.val (.ref b1), .val (.int p2), .val (.int (0 : Int32)), .val (.int (5 : Int32)), .val (.int (p2.toInt8.toInt32)), .val (.int (5 : Int32))] [(.int (5 : Int32)), (.int (5 : Int32))])) _
              refine XS.icmpYes X0.here hx rfl (pc0 := 10) (pc' := 31) rfl (hb hby d26_10) rfl (flt (by decide : ¬ ((5 : Int32) < (5 : Int32)))).2.1 (by decide) (by decide) ?_
              show Steps p.tables e below (s₁.setTop (mkF m 31 #[.val (.ref b1), .val (.int p2), .val (.int (0 : Int32)), .val (.int (5 : Int32)), .val (.int (p2.toInt8.toInt32)), .val (.int (5 : Int32))] [])) _
              refine XS.iconst X0.here hx rfl (hb hby d26_31) ?_
              show Steps p.tables e below (s₁.setTop (mkF m 32 #[.val (.ref b1), .val (.int p2), .val (.int (0 : Int32)), .val (.int (5 : Int32)), .val (.int (p2.toInt8.toInt32)), .val (.int (5 : Int32))] [(.int (-1 : Int32))])) _
              exact retI X0 hx Bd.returns (hb hby d26_32) hr
            · show Q26 Z b1 p2 k1 h0 n0 _ s₁.heap _
              rw [e0]
              exact ⟨(by simp only [own_iof, eq_false hc19_103, eq_false hc19_106, eq_false hc19_109, eq_false hc19_112, eq_false hc19_115, if_true, if_false]), N0, rfl⟩
theorem d24_0 : decode jdk_29_method_65_code 0 = .ok (.iload_n 0, 1) := by decide +kernel
theorem d24_1 : decode jdk_29_method_65_code 1 = .ok (.iload_n 1, 1) := by decide +kernel
theorem d24_2 : decode jdk_29_method_65_code 2 = .ok (.if_icmp .lt 7, 3) := by decide +kernel
theorem d24_5 : decode jdk_29_method_65_code 5 = .ok (.iload_n 0, 1) := by decide +kernel
theorem d24_6 : decode jdk_29_method_65_code 6 = .ok (.goto 4, 3) := by decide +kernel
theorem d24_10 : decode jdk_29_method_65_code 10 = .ok (.ireturn, 1) := by decide +kernel
theorem ef_24x1 (m : MethodId)  : entryFrame m #[(.int (0 : Int32)), (.int (0 : Int32))] 2 = mkF m 0 #[.val (.int (0 : Int32)), .val (.int (0 : Int32))] [] := by first | (simp [entryFrame, mkF, argsToLocals, Value.category]; done) | rfl
def Q24x1 (Z : State)  (h0 : Heap) (n0 : Nat) (v : Option Value) (h : Heap) (L : List Loc) : Prop := v = some (.int (0 : Int32)) ∧ Fr n0 L ∧ h = h0
set_option maxRecDepth 65536 in
set_option maxHeartbeats 40000000 in
theorem rm24x1 (l : Launch) (Z : State) (a0 : Array Value) (hw : ∀ d ∈ tables_1, d.before a0 Z = true) (ws : List Jvm.Cond)  (h0 : Heap) (n0 : Nat) (Z0 : n0 ≤ h0.size) :
    MetFree l (⟨"java/lang/Math", "max", "(II)I"⟩ : MethodName) (head1 (Jvm.Cond.code (⟨"java/lang/Math", "max", "(II)I"⟩ : MethodName) jdk_29_method_65_code 2 (some .int) :: ws) ({ frames := 0, cells := 0, slots := 0, locals := 0 } : Room)) (fun a U => a = #[(.int (0 : Int32)), (.int (0 : Int32))] ∧ Z.Warmed39 U.vm ∧ U.heap = h0) (fun _ _ _ _ _ => True) (fun _ U o U' => ∃ v L, o = .returned v ∧ Q24x1 Z  h0 n0 v U'.heap L ∧ FrameEnd U o U' L ({ frames := 0, cells := 0, slots := 0, locals := 0 } : Room).cells ({ frames := 0, cells := 0, slots := 0, locals := 0 } : Room).slots) := by
  refine MetFree.of_bodySF (Jvm.Free.JP.mathPlain rfl (by decide +kernel)) hisR ?_
  intro p e s m args below meth c s₁ Bd hml0 hP hK
  obtain ⟨rfl, hZ, hh⟩ := hP
  have hx := Bd.exec
  have hby := Bd.bytes
  have hml : c.maxLocals = 2 := hml0
  have hown : s.vm.findClass "java/lang/Math" = some m.cls := findClass_of_methodNamed Bd.named
  have hnm := (name_of_methodNamed Bd.named Bd.method).1
  have X0 : Stand p l e ({ frames := 0, cells := 0, slots := 0, locals := 0 } : Room) s m #[(.int (0 : Int32)), (.int (0 : Int32))] below meth c s₁ [] 0 0 := Stand.of_body Bd
  have e0 : s₁.heap = h0 := by rw [← hh, Bd.state]; rfl
  have N0 := Fr.nil n0
  have pre0 : ∀ t, Steps p.tables e below (s₁.setTop (mkF m 0 #[.val (.int (0 : Int32)), .val (.int (0 : Int32))] [])) t → Steps p.tables e below (s₁.setTop (entryFrame m #[(.int (0 : Int32)), (.int (0 : Int32))] 2)) t := fun t k => castTop (ef_24x1 m ) k
  obtain ⟨fs, hr, hrun, hended, hW, hsame⟩ := X0.leave (v := some (.int (0 : Int32))) (fun h => by rw [Bd.returns] at h; cases h)
  refine ⟨_, _, pre0 _ ?_, hrun, hended, _, _, rfl, ?_, ⟨_, rfl⟩, hW, hsame.mono (by decide) (by decide)⟩
  · skip
    show Steps p.tables e below (s₁.setTop (mkF m 0 #[.val (.int (0 : Int32)), .val (.int (0 : Int32))] [])) _
    refine XS.iloadN X0.here hx rfl (hb hby d24_0) rfl ?_
    show Steps p.tables e below (s₁.setTop (mkF m 1 #[.val (.int (0 : Int32)), .val (.int (0 : Int32))] [(.int (0 : Int32))])) _
    refine XS.iloadN X0.here hx rfl (hb hby d24_1) rfl ?_
    show Steps p.tables e below (s₁.setTop (mkF m 2 #[.val (.int (0 : Int32)), .val (.int (0 : Int32))] [(.int (0 : Int32)), (.int (0 : Int32))])) _
    refine XS.icmpNo X0.here hx rfl (hb hby d24_2) rfl (flt (by decide : ¬ ((0 : Int32) < (0 : Int32)))).1 ?_
    show Steps p.tables e below (s₁.setTop (mkF m 5 #[.val (.int (0 : Int32)), .val (.int (0 : Int32))] [])) _
    refine XS.iloadN X0.here hx rfl (hb hby d24_5) rfl ?_
    show Steps p.tables e below (s₁.setTop (mkF m 6 #[.val (.int (0 : Int32)), .val (.int (0 : Int32))] [(.int (0 : Int32))])) _
    refine XS.goto X0.here hx rfl (pc0 := 6) (pc' := 10) rfl (hb hby d24_6) (by decide) (by decide) ?_
    show Steps p.tables e below (s₁.setTop (mkF m 10 #[.val (.int (0 : Int32)), .val (.int (0 : Int32))] [(.int (0 : Int32))])) _
    exact retI X0 hx Bd.returns (hb hby d24_10) hr
  · show Q24x1 Z  h0 n0 _ s₁.heap _
    rw [e0]
    exact ⟨rfl, N0, rfl⟩
theorem d25_0 : decode jdk_29_method_69_code 0 = .ok (.iload_n 0, 1) := by decide +kernel
theorem d25_1 : decode jdk_29_method_69_code 1 = .ok (.iload_n 1, 1) := by decide +kernel
theorem d25_2 : decode jdk_29_method_69_code 2 = .ok (.if_icmp .gt 7, 3) := by decide +kernel
theorem d25_5 : decode jdk_29_method_69_code 5 = .ok (.iload_n 0, 1) := by decide +kernel
theorem d25_6 : decode jdk_29_method_69_code 6 = .ok (.goto 4, 3) := by decide +kernel
theorem d25_10 : decode jdk_29_method_69_code 10 = .ok (.ireturn, 1) := by decide +kernel
theorem ef_25x2 (m : MethodId)  : entryFrame m #[(.int (5 : Int32)), (.int (5 : Int32))] 2 = mkF m 0 #[.val (.int (5 : Int32)), .val (.int (5 : Int32))] [] := by first | (simp [entryFrame, mkF, argsToLocals, Value.category]; done) | rfl
def Q25x2 (Z : State)  (h0 : Heap) (n0 : Nat) (v : Option Value) (h : Heap) (L : List Loc) : Prop := v = some (.int (5 : Int32)) ∧ Fr n0 L ∧ h = h0
set_option maxRecDepth 65536 in
set_option maxHeartbeats 40000000 in
theorem rm25x2 (l : Launch) (Z : State) (a0 : Array Value) (hw : ∀ d ∈ tables_1, d.before a0 Z = true) (ws : List Jvm.Cond)  (h0 : Heap) (n0 : Nat) (Z0 : n0 ≤ h0.size) :
    MetFree l (⟨"java/lang/Math", "min", "(II)I"⟩ : MethodName) (head1 (Jvm.Cond.code (⟨"java/lang/Math", "min", "(II)I"⟩ : MethodName) jdk_29_method_69_code 2 (some .int) :: ws) ({ frames := 0, cells := 0, slots := 0, locals := 0 } : Room)) (fun a U => a = #[(.int (5 : Int32)), (.int (5 : Int32))] ∧ Z.Warmed39 U.vm ∧ U.heap = h0) (fun _ _ _ _ _ => True) (fun _ U o U' => ∃ v L, o = .returned v ∧ Q25x2 Z  h0 n0 v U'.heap L ∧ FrameEnd U o U' L ({ frames := 0, cells := 0, slots := 0, locals := 0 } : Room).cells ({ frames := 0, cells := 0, slots := 0, locals := 0 } : Room).slots) := by
  refine MetFree.of_bodySF (Jvm.Free.JP.mathPlain rfl (by decide +kernel)) hisR ?_
  intro p e s m args below meth c s₁ Bd hml0 hP hK
  obtain ⟨rfl, hZ, hh⟩ := hP
  have hx := Bd.exec
  have hby := Bd.bytes
  have hml : c.maxLocals = 2 := hml0
  have hown : s.vm.findClass "java/lang/Math" = some m.cls := findClass_of_methodNamed Bd.named
  have hnm := (name_of_methodNamed Bd.named Bd.method).1
  have X0 : Stand p l e ({ frames := 0, cells := 0, slots := 0, locals := 0 } : Room) s m #[(.int (5 : Int32)), (.int (5 : Int32))] below meth c s₁ [] 0 0 := Stand.of_body Bd
  have e0 : s₁.heap = h0 := by rw [← hh, Bd.state]; rfl
  have N0 := Fr.nil n0
  have pre0 : ∀ t, Steps p.tables e below (s₁.setTop (mkF m 0 #[.val (.int (5 : Int32)), .val (.int (5 : Int32))] [])) t → Steps p.tables e below (s₁.setTop (entryFrame m #[(.int (5 : Int32)), (.int (5 : Int32))] 2)) t := fun t k => castTop (ef_25x2 m ) k
  obtain ⟨fs, hr, hrun, hended, hW, hsame⟩ := X0.leave (v := some (.int (5 : Int32))) (fun h => by rw [Bd.returns] at h; cases h)
  refine ⟨_, _, pre0 _ ?_, hrun, hended, _, _, rfl, ?_, ⟨_, rfl⟩, hW, hsame.mono (by decide) (by decide)⟩
  · skip
    show Steps p.tables e below (s₁.setTop (mkF m 0 #[.val (.int (5 : Int32)), .val (.int (5 : Int32))] [])) _
    refine XS.iloadN X0.here hx rfl (hb hby d25_0) rfl ?_
    show Steps p.tables e below (s₁.setTop (mkF m 1 #[.val (.int (5 : Int32)), .val (.int (5 : Int32))] [(.int (5 : Int32))])) _
    refine XS.iloadN X0.here hx rfl (hb hby d25_1) rfl ?_
    show Steps p.tables e below (s₁.setTop (mkF m 2 #[.val (.int (5 : Int32)), .val (.int (5 : Int32))] [(.int (5 : Int32)), (.int (5 : Int32))])) _
    refine XS.icmpNo X0.here hx rfl (hb hby d25_2) rfl (flt (by decide : ¬ ((5 : Int32) < (5 : Int32)))).2.2.1 ?_
    show Steps p.tables e below (s₁.setTop (mkF m 5 #[.val (.int (5 : Int32)), .val (.int (5 : Int32))] [])) _
    refine XS.iloadN X0.here hx rfl (hb hby d25_5) rfl ?_
    show Steps p.tables e below (s₁.setTop (mkF m 6 #[.val (.int (5 : Int32)), .val (.int (5 : Int32))] [(.int (5 : Int32))])) _
    refine XS.goto X0.here hx rfl (pc0 := 6) (pc' := 10) rfl (hb hby d25_6) (by decide) (by decide) ?_
    show Steps p.tables e below (s₁.setTop (mkF m 10 #[.val (.int (5 : Int32)), .val (.int (5 : Int32))] [(.int (5 : Int32))])) _
    exact retI X0 hx Bd.returns (hb hby d25_10) hr
  · show Q25x2 Z  h0 n0 _ s₁.heap _
    rw [e0]
    exact ⟨rfl, N0, rfl⟩
theorem d22_0 : decode jdk_43_method_22_code 0 = .ok (.iload_n 1, 1) := by decide +kernel
theorem d22_1 : decode jdk_43_method_22_code 1 = .ok (.invokestatic 88, 3) := by decide +kernel
theorem d22_4 : decode jdk_43_method_22_code 4 = .ok (.ifCond .ne 5, 3) := by decide +kernel
theorem d22_7 : decode jdk_43_method_22_code 7 = .ok (.iconst (-1), 1) := by decide +kernel
theorem d22_8 : decode jdk_43_method_22_code 8 = .ok (.ireturn, 1) := by decide +kernel
theorem d22_9 : decode jdk_43_method_22_code 9 = .ok (.iload_n 2, 1) := by decide +kernel
theorem d22_10 : decode jdk_43_method_22_code 10 = .ok (.iconst 0, 1) := by decide +kernel
theorem d22_11 : decode jdk_43_method_22_code 11 = .ok (.invokestatic 92, 3) := by decide +kernel
theorem d22_14 : decode jdk_43_method_22_code 14 = .ok (.istore_n 2, 1) := by decide +kernel
theorem d22_15 : decode jdk_43_method_22_code 15 = .ok (.iload_n 3, 1) := by decide +kernel
theorem d22_16 : decode jdk_43_method_22_code 16 = .ok (.aload_n 0, 1) := by decide +kernel
theorem d22_17 : decode jdk_43_method_22_code 17 = .ok (.arraylength, 1) := by decide +kernel
theorem d22_18 : decode jdk_43_method_22_code 18 = .ok (.invokestatic 38, 3) := by decide +kernel
theorem d22_21 : decode jdk_43_method_22_code 21 = .ok (.istore_n 3, 1) := by decide +kernel
theorem d22_22 : decode jdk_43_method_22_code 22 = .ok (.iload_n 2, 1) := by decide +kernel
theorem d22_23 : decode jdk_43_method_22_code 23 = .ok (.iload_n 3, 1) := by decide +kernel
theorem d22_24 : decode jdk_43_method_22_code 24 = .ok (.if_icmp .lt 5, 3) := by decide +kernel
theorem d22_29 : decode jdk_43_method_22_code 29 = .ok (.aload_n 0, 1) := by decide +kernel
theorem d22_30 : decode jdk_43_method_22_code 30 = .ok (.iload_n 1, 1) := by decide +kernel
theorem d22_31 : decode jdk_43_method_22_code 31 = .ok (.iload_n 2, 1) := by decide +kernel
theorem d22_32 : decode jdk_43_method_22_code 32 = .ok (.iload_n 3, 1) := by decide +kernel
theorem d22_33 : decode jdk_43_method_22_code 33 = .ok (.invokestatic 95, 3) := by decide +kernel
theorem d22_36 : decode jdk_43_method_22_code 36 = .ok (.ireturn, 1) := by decide +kernel
theorem ef_22 (m : MethodId) (b1 : Addr) (p2 : Int32) : entryFrame m #[(.ref b1), (.int p2), (.int (0 : Int32)), (.int (5 : Int32))] 4 = mkF m 0 #[.val (.ref b1), .val (.int p2), .val (.int (0 : Int32)), .val (.int (5 : Int32))] [] := by first | (simp [entryFrame, mkF, argsToLocals, Value.category]; done) | rfl
def Q22 (Z : State) (b1 : Addr) (p2 : Int32) (k1 : ClassId) (h0 : Heap) (n0 : Nat) (v : Option Value) (h : Heap) (L : List Loc) : Prop := v = some (.int (own_sidx p2)) ∧ Fr n0 L ∧ h = h0
set_option maxRecDepth 65536 in
set_option maxHeartbeats 40000000 in
theorem rm22 (l : Launch) (Z : State) (a0 : Array Value) (hw : ∀ d ∈ tables_1, d.before a0 Z = true) (ws : List Jvm.Cond) (b1 : Addr) (p2 : Int32) (k1 : ClassId) (h0 : Heap) (n0 : Nat) (Z0 : n0 ≤ h0.size) (H0 : Arv Z h0 b1 k1 .byte (5 : Int32) [(.int (36 : Int32)), (.int (96 : Int32)), (.int (34 : Int32)), (.int (92 : Int32)), (.int (10 : Int32))] (.int (0 : Int32))) :
    MetFree l (⟨"java/lang/StringLatin1", "indexOf", "([BIII)I"⟩ : MethodName) (head1 (Jvm.Cond.code (⟨"java/lang/StringLatin1", "indexOf", "([BIII)I"⟩ : MethodName) jdk_43_method_22_code 4 (some .int) :: ws) ({ frames := 1, cells := 0, slots := 0, locals := 17 } : Room)) (fun a U => a = #[(.ref b1), (.int p2), (.int (0 : Int32)), (.int (5 : Int32))] ∧ Z.Warmed39 U.vm ∧ U.heap = h0) (fun _ _ _ _ _ => True) (fun _ U o U' => ∃ v L, o = .returned v ∧ Q22 Z b1 p2 k1 h0 n0 v U'.heap L ∧ FrameEnd U o U' L ({ frames := 1, cells := 0, slots := 0, locals := 17 } : Room).cells ({ frames := 1, cells := 0, slots := 0, locals := 17 } : Room).slots) := by
  refine MetFree.of_bodySF (plainFor_of_name pn_java_lang_StringLatin1) hisR ?_
  intro p e s m args below meth c s₁ Bd hml0 hP hK
  obtain ⟨rfl, hZ, hh⟩ := hP
  have hx := Bd.exec
  have hby := Bd.bytes
  have hml : c.maxLocals = 4 := hml0
  have hown : s.vm.findClass "java/lang/StringLatin1" = some m.cls := findClass_of_methodNamed Bd.named
  have hnm := (name_of_methodNamed Bd.named Bd.method).1
  have X0 : Stand p l e ({ frames := 1, cells := 0, slots := 0, locals := 17 } : Room) s m #[(.ref b1), (.int p2), (.int (0 : Int32)), (.int (5 : Int32))] below meth c s₁ [] 0 0 := Stand.of_body Bd
  have e0 : s₁.heap = h0 := by rw [← hh, Bd.state]; rfl
  have N0 := Fr.nil n0
  have pre0 : ∀ t, Steps p.tables e below (s₁.setTop (mkF m 0 #[.val (.ref b1), .val (.int p2), .val (.int (0 : Int32)), .val (.int (5 : Int32))] [])) t → Steps p.tables e below (s₁.setTop (entryFrame m #[(.ref b1), (.int p2), (.int (0 : Int32)), (.int (5 : Int32))] 4)) t := fun t k => castTop (ef_22 m b1 p2) k
  obtain ⟨_, _, ⟨T101, L101, k101, n101⟩, -, X101, ⟨Lc101, hQ101, l101, y101, z101⟩, st101⟩ := Jvm.LawKit.callS X0 hx (y := (⟨"java/lang/StringLatin1", "canEncode", "(I)Z"⟩ : MethodName)) hown (mvT hZ (hw _ (List.mem_of_getElem? (i := 144) rfl))) (mvT hZ (hw _ (List.mem_of_getElem? (i := 145) rfl))) (mvT hZ (hw _ (List.mem_of_getElem? (i := 142) rfl))) (mvT hZ (hw _ (List.mem_of_getElem? (i := 146) rfl))) (by decide) (backOf (W := 0) (rm23 l Z a0 hw [] p2 h0 n0 Z0) hZ (hw _ (List.mem_of_getElem? (i := 146) rfl)) (hw _ (List.mem_of_getElem? (i := 142) rfl)) (by decide) (by decide)) (g := (mkF m 1 #[.val (.ref b1), .val (.int p2), .val (.int (0 : Int32)), .val (.int (5 : Int32))] [(.int p2)])) rfl (by rw [hml]; rfl) (argsL := [(.int p2)]) (rest := []) (lenOf pd_4 rfl) rfl (by show 2 * 0 + _ ≤ _; exact Nat.le_of_eq rfl) (hb hby d22_1) (fun _ _ => ⟨rfl, e0, (by decide : 0 + 0 ≤ _), (by decide : 0 + 0 ≤ _)⟩)
  dsimp only [Pt.U, Pt.locs, Pt.cells, Pt.slots] at X101 l101 y101 z101 st101 hQ101
  subst l101 y101 z101
  obtain ⟨rfl, Nq101, Heq101⟩ := hQ101
  have N101 := Fr.app N0 Nq101
  have pre102 : ∀ t, Steps p.tables e below (T101.setTop (mkF m 4 #[.val (.ref b1), .val (.int p2), .val (.int (0 : Int32)), .val (.int (5 : Int32))] [(.int (own_enc p2))])) t → Steps p.tables e below (s₁.setTop (entryFrame m #[(.ref b1), (.int p2), (.int (0 : Int32)), (.int (5 : Int32))] 4)) t := fun t kt => by
    refine pre0 t ?_
    show Steps p.tables e below (s₁.setTop (mkF m 0 #[.val (.ref b1), .val (.int p2), .val (.int (0 : Int32)), .val (.int (5 : Int32))] [])) _
    refine XS.iloadN X0.here hx rfl (hb hby d22_0) rfl ?_
    show Steps p.tables e below (s₁.setTop (mkF m 1 #[.val (.ref b1), .val (.int p2), .val (.int (0 : Int32)), .val (.int (5 : Int32))] [(.int p2)])) _
    refine st101 _ ?_
    show Steps p.tables e below (T101.setTop (mkF m 4 #[.val (.ref b1), .val (.int p2), .val (.int (0 : Int32)), .val (.int (5 : Int32))] [(.int (own_enc p2))])) _
    exact kt
  by_cases hc4_103 : (own_enc p2) = (0 : Int32)
  · skip
    obtain ⟨fs, hr, hrun, hended, hW, hsame⟩ := X101.leave (v := some (.int (-1 : Int32))) (fun h => by rw [Bd.returns] at h; cases h)
    refine ⟨_, _, pre102 _ ?_, hrun, hended, _, _, rfl, ?_, ⟨_, rfl⟩, hW, hsame.mono (by decide) (by decide)⟩
    · skip
      show Steps p.tables e below (T101.setTop (mkF m 4 #[.val (.ref b1), .val (.int p2), .val (.int (0 : Int32)), .val (.int (5 : Int32))] [(.int (own_enc p2))])) _
      refine XS.ifNo X101.here hx rfl (hb hby d22_4) rfl ((if0 _ _).trans (teq (hc4_103 : (own_enc p2) = (0 : Int32))).2) ?_
      show Steps p.tables e below (T101.setTop (mkF m 7 #[.val (.ref b1), .val (.int p2), .val (.int (0 : Int32)), .val (.int (5 : Int32))] [])) _
      refine XS.iconst X101.here hx rfl (hb hby d22_7) ?_
      show Steps p.tables e below (T101.setTop (mkF m 8 #[.val (.ref b1), .val (.int p2), .val (.int (0 : Int32)), .val (.int (5 : Int32))] [(.int (-1 : Int32))])) _
      exact retI X101 hx Bd.returns (hb hby d22_8) hr
    · show Q22 Z b1 p2 k1 h0 n0 _ T101.heap _
      rw [Heq101]
      exact ⟨(by simp only [own_sidx, eq_true hc4_103, if_true, if_false]), N101, rfl⟩
  · skip
    obtain ⟨_, _, ⟨T104, L104, k104, n104⟩, -, X104, ⟨Lc104, hQ104, l104, y104, z104⟩, st104⟩ := Jvm.LawKit.callS X101 hx (y := (⟨"java/lang/Math", "max", "(II)I"⟩ : MethodName)) hown (mvT hZ (hw _ (List.mem_of_getElem? (i := 147) rfl))) (mvT hZ (hw _ (List.mem_of_getElem? (i := 148) rfl))) (mvT hZ (hw _ (List.mem_of_getElem? (i := 149) rfl))) (mvT hZ (hw _ (List.mem_of_getElem? (i := 150) rfl))) (by decide) (backOf (W := 0) (rm24x1 l Z a0 hw []  h0 n0 Z0) hZ (hw _ (List.mem_of_getElem? (i := 150) rfl)) (hw _ (List.mem_of_getElem? (i := 149) rfl)) (by decide) (by decide)) (g := (mkF m 11 #[.val (.ref b1), .val (.int p2), .val (.int (0 : Int32)), .val (.int (5 : Int32))] [(.int (0 : Int32)), (.int (0 : Int32))])) rfl (by rw [hml]; rfl) (argsL := [(.int (0 : Int32)), (.int (0 : Int32))]) (rest := []) (lenOf pd_5 rfl) rfl (by show 2 * 0 + _ ≤ _; exact Nat.le_of_eq rfl) (hb hby d22_11) (fun _ _ => ⟨rfl, Heq101, (by decide : 0 + 0 ≤ _), (by decide : 0 + 0 ≤ _)⟩)
    dsimp only [Pt.U, Pt.locs, Pt.cells, Pt.slots] at X104 l104 y104 z104 st104 hQ104
    subst l104 y104 z104
    obtain ⟨rfl, Nq104, Heq104⟩ := hQ104
    have N104 := Fr.app N101 Nq104
    obtain ⟨cl105, Ar105, -, S105, M105, -, -⟩ := id H0
    obtain ⟨_, _, ⟨T106, L106, k106, n106⟩, -, X106, ⟨Lc106, hQ106, l106, y106, z106⟩, st106⟩ := Jvm.LawKit.callS X104 hx (y := (⟨"java/lang/Math", "min", "(II)I"⟩ : MethodName)) hown (mvT hZ (hw _ (List.mem_of_getElem? (i := 151) rfl))) (mvT hZ (hw _ (List.mem_of_getElem? (i := 152) rfl))) (mvT hZ (hw _ (List.mem_of_getElem? (i := 149) rfl))) (mvT hZ (hw _ (List.mem_of_getElem? (i := 153) rfl))) (by decide) (backOf (W := 0) (rm25x2 l Z a0 hw []  h0 n0 Z0) hZ (hw _ (List.mem_of_getElem? (i := 153) rfl)) (hw _ (List.mem_of_getElem? (i := 149) rfl)) (by decide) (by decide)) (g := (mkF m 18 #[.val (.ref b1), .val (.int p2), .val (.int (0 : Int32)), .val (.int (5 : Int32))] [(.int (5 : Int32)), (.int (5 : Int32))])) rfl (by rw [hml]; rfl) (argsL := [(.int (5 : Int32)), (.int (5 : Int32))]) (rest := []) (lenOf pd_5 rfl) rfl (by show 2 * 0 + _ ≤ _; exact Nat.le_of_eq rfl) (hb hby d22_18) (fun _ _ => ⟨rfl, Heq104, (by decide : 0 + 0 ≤ _), (by decide : 0 + 0 ≤ _)⟩)
    dsimp only [Pt.U, Pt.locs, Pt.cells, Pt.slots] at X106 l106 y106 z106 st106 hQ106
    subst l106 y106 z106
    obtain ⟨rfl, Nq106, Heq106⟩ := hQ106
    have N106 := Fr.app N104 Nq106
    obtain ⟨_, _, ⟨T107, L107, k107, n107⟩, -, X107, ⟨Lc107, hQ107, l107, y107, z107⟩, st107⟩ := Jvm.LawKit.callS X106 hx (y := (⟨"java/lang/StringLatin1", "indexOfChar", "([BIII)I"⟩ : MethodName)) hown (mvT hZ (hw _ (List.mem_of_getElem? (i := 154) rfl))) (mvT hZ (hw _ (List.mem_of_getElem? (i := 155) rfl))) (mvT hZ (hw _ (List.mem_of_getElem? (i := 142) rfl))) (mvT hZ (hw _ (List.mem_of_getElem? (i := 156) rfl))) (by decide) (backOf (W := 0) (rm26 l Z a0 hw [] b1 p2 k1 h0 n0 Z0 H0) hZ (hw _ (List.mem_of_getElem? (i := 156) rfl)) (hw _ (List.mem_of_getElem? (i := 142) rfl)) (by decide) (by decide)) (g := (mkF m 33 #[.val (.ref b1), .val (.int p2), .val (.int (0 : Int32)), .val (.int (5 : Int32))] [(.int (5 : Int32)), (.int (0 : Int32)), (.int p2), (.ref b1)])) rfl (by rw [hml]; rfl) (argsL := [(.ref b1), (.int p2), (.int (0 : Int32)), (.int (5 : Int32))]) (rest := []) (lenOf pd_6 rfl) rfl (by show 2 * 0 + _ ≤ _; exact Nat.le_of_eq rfl) (hb hby d22_33) (fun _ _ => ⟨rfl, Heq106, (by decide : 0 + 0 ≤ _), (by decide : 0 + 0 ≤ _)⟩)
    dsimp only [Pt.U, Pt.locs, Pt.cells, Pt.slots] at X107 l107 y107 z107 st107 hQ107
    subst l107 y107 z107
    obtain ⟨rfl, Nq107, Heq107⟩ := hQ107
    have N107 := Fr.app N106 Nq107
    obtain ⟨fs, hr, hrun, hended, hW, hsame⟩ := X107.leave (v := some (.int (own_iof p2))) (fun h => by rw [Bd.returns] at h; cases h)
    refine ⟨_, _, pre102 _ ?_, hrun, hended, _, _, rfl, ?_, ⟨_, rfl⟩, hW, hsame.mono (by decide) (by decide)⟩
    · skip
      show Steps p.tables e below (T101.setTop (mkF m 4 #[.val (.ref b1), .val (.int p2), .val (.int (0 : Int32)), .val (.int (5 : Int32))] [(.int (own_enc p2))])) _
      refine XS.ifYes X101.here hx rfl (pc0 := 4) (pc' := 9) rfl (hb hby d22_4) rfl ((if0 _ _).trans (feq (hc4_103 : ¬ ((own_enc p2) = (0 : Int32)))).2) (by decide) (by decide) ?_
      show Steps p.tables e below (T101.setTop (mkF m 9 #[.val (.ref b1), .val (.int p2), .val (.int (0 : Int32)), .val (.int (5 : Int32))] [])) _
      refine XS.iloadN X101.here hx rfl (hb hby d22_9) rfl ?_
      show Steps p.tables e below (T101.setTop (mkF m 10 #[.val (.ref b1), .val (.int p2), .val (.int (0 : Int32)), .val (.int (5 : Int32))] [(.int (0 : Int32))])) _
      refine XS.iconst X101.here hx rfl (hb hby d22_10) ?_
      show Steps p.tables e below (T101.setTop (mkF m 11 #[.val (.ref b1), .val (.int p2), .val (.int (0 : Int32)), .val (.int (5 : Int32))] [(.int (0 : Int32)), (.int (0 : Int32))])) _
      refine st104 _ ?_
      show Steps p.tables e below (T104.setTop (mkF m 14 #[.val (.ref b1), .val (.int p2), .val (.int (0 : Int32)), .val (.int (5 : Int32))] [(.int (0 : Int32))])) _
      refine XS.istoreN X104.here hx rfl (hb hby d22_14) rfl (l' := #[.val (.ref b1), .val (.int p2), .val (.int (0 : Int32)), .val (.int (5 : Int32))]) rfl ?_
      show Steps p.tables e below (T104.setTop (mkF m 15 #[.val (.ref b1), .val (.int p2), .val (.int (0 : Int32)), .val (.int (5 : Int32))] [])) _
      refine XS.iloadN X104.here hx rfl (hb hby d22_15) rfl ?_
      show Steps p.tables e below (T104.setTop (mkF m 16 #[.val (.ref b1), .val (.int p2), .val (.int (0 : Int32)), .val (.int (5 : Int32))] [(.int (5 : Int32))])) _
      refine XS.aloadN X104.here hx rfl (hb hby d22_16) rfl rfl ?_
      show Steps p.tables e below (T104.setTop (mkF m 17 #[.val (.ref b1), .val (.int p2), .val (.int (0 : Int32)), .val (.int (5 : Int32))] [(.ref b1), (.int (5 : Int32))])) _
      refine X104.arraylength hx (by rw [Heq104]; exact Ar105.1) (State.isArrayOf_alike hZ.alike Ar105.2.1) (g := (mkF m 17 #[.val (.ref b1), .val (.int p2), .val (.int (0 : Int32)), .val (.int (5 : Int32))] [(.ref b1), (.int (5 : Int32))])) rfl rfl (hb hby d22_17) _ ?_
      rw [len_of S105 M105]
      show Steps p.tables e below (T104.setTop (mkF m 18 #[.val (.ref b1), .val (.int p2), .val (.int (0 : Int32)), .val (.int (5 : Int32))] [(.int (5 : Int32)), (.int (5 : Int32))])) _
      refine st106 _ ?_
      show Steps p.tables e below (T106.setTop (mkF m 21 #[.val (.ref b1), .val (.int p2), .val (.int (0 : Int32)), .val (.int (5 : Int32))] [(.int (5 : Int32))])) _
      refine XS.istoreN X106.here hx rfl (hb hby d22_21) rfl (l' := #[.val (.ref b1), .val (.int p2), .val (.int (0 : Int32)), .val (.int (5 : Int32))]) rfl ?_
      show Steps p.tables e below (T106.setTop (mkF m 22 #[.val (.ref b1), .val (.int p2), .val (.int (0 : Int32)), .val (.int (5 : Int32))] [])) _
      refine XS.iloadN X106.here hx rfl (hb hby d22_22) rfl ?_
      show Steps p.tables e below (T106.setTop (mkF m 23 #[.val (.ref b1), .val (.int p2), .val (.int (0 : Int32)), .val (.int (5 : Int32))] [(.int (0 : Int32))])) _
      refine XS.iloadN X106.here hx rfl (hb hby d22_23) rfl ?_
      show Steps p.tables e below (T106.setTop (mkF m 24 #[.val (.ref b1), .val (.int p2), .val (.int (0 : Int32)), .val (.int (5 : Int32))] [(.int (5 : Int32)), (.int (0 : Int32))])) _
      refine XS.icmpYes X106.here hx rfl (pc0 := 24) (pc' := 29) rfl (hb hby d22_24) rfl (tlt (by decide : (0 : Int32) < (5 : Int32))).1 (by decide) (by decide) ?_
      show Steps p.tables e below (T106.setTop (mkF m 29 #[.val (.ref b1), .val (.int p2), .val (.int (0 : Int32)), .val (.int (5 : Int32))] [])) _
      refine XS.aloadN X106.here hx rfl (hb hby d22_29) rfl rfl ?_
      show Steps p.tables e below (T106.setTop (mkF m 30 #[.val (.ref b1), .val (.int p2), .val (.int (0 : Int32)), .val (.int (5 : Int32))] [(.ref b1)])) _
      refine XS.iloadN X106.here hx rfl (hb hby d22_30) rfl ?_
      show Steps p.tables e below (T106.setTop (mkF m 31 #[.val (.ref b1), .val (.int p2), .val (.int (0 : Int32)), .val (.int (5 : Int32))] [(.int p2), (.ref b1)])) _
      refine XS.iloadN X106.here hx rfl (hb hby d22_31) rfl ?_
      show Steps p.tables e below (T106.setTop (mkF m 32 #[.val (.ref b1), .val (.int p2), .val (.int (0 : Int32)), .val (.int (5 : Int32))] [(.int (0 : Int32)), (.int p2), (.ref b1)])) _
      refine XS.iloadN X106.here hx rfl (hb hby d22_32) rfl ?_
      show Steps p.tables e below (T106.setTop (mkF m 33 #[.val (.ref b1), .val (.int p2), .val (.int (0 : Int32)), .val (.int (5 : Int32))] [(.int (5 : Int32)), (.int (0 : Int32)), (.int p2), (.ref b1)])) _
      refine st107 _ ?_
      show Steps p.tables e below (T107.setTop (mkF m 36 #[.val (.ref b1), .val (.int p2), .val (.int (0 : Int32)), .val (.int (5 : Int32))] [(.int (own_iof p2))])) _
      exact retI X107 hx Bd.returns (hb hby d22_36) hr
    · show Q22 Z b1 p2 k1 h0 n0 _ T107.heap _
      rw [Heq107]
      exact ⟨(by simp only [own_sidx, eq_false hc4_103, if_true, if_false]), N107, rfl⟩
theorem d19_0 : decode jdk_42_method_154_code 0 = .ok (.getstatic 38, 3) := by decide +kernel
theorem d19_3 : decode jdk_42_method_154_code 3 = .ok (.ifCond .eq 14, 3) := by decide +kernel
theorem d19_6 : decode jdk_42_method_154_code 6 = .ok (.aload_n 0, 1) := by decide +kernel
theorem d19_7 : decode jdk_42_method_154_code 7 = .ok (.getfield 15, 3) := by decide +kernel
theorem d19_10 : decode jdk_42_method_154_code 10 = .ok (.ifCond .ne 7, 3) := by decide +kernel
theorem d19_13 : decode jdk_42_method_154_code 13 = .ok (.iconst 1, 1) := by decide +kernel
theorem d19_14 : decode jdk_42_method_154_code 14 = .ok (.goto 4, 3) := by decide +kernel
theorem d19_18 : decode jdk_42_method_154_code 18 = .ok (.ireturn, 1) := by decide +kernel
theorem pn_java_lang_String : plainName "java/lang/String" = true := by first | (simp [plainName, overriddenIn]; done) | decide +kernel
theorem ef_19x3 (m : MethodId) (ra0 : Addr) : entryFrame m #[(.ref ra0)] 1 = mkF m 0 #[.val (.ref ra0)] [] := by first | (simp [entryFrame, mkF, argsToLocals, Value.category]; done) | rfl
def Q19x3 (Z : State) (ra0 : Addr) (ui1 : Int32) (h0 : Heap) (n0 : Nat) (v : Option Value) (h : Heap) (L : List Loc) : Prop := v = some (.int (1 : Int32)) ∧ Fr n0 L ∧ h = h0
set_option maxRecDepth 65536 in
set_option maxHeartbeats 40000000 in
theorem rm19x3 (l : Launch) (Z : State) (a0 : Array Value) (hw : ∀ d ∈ tables_1, d.before a0 Z = true) (ws : List Jvm.Cond) (ra0 : Addr) (ui1 : Int32) (h0 : Heap) (n0 : Nat) (Z0 : n0 ≤ h0.size) (H0 : Sta Z h0 "java/lang/String" "COMPACT_STRINGS" "Z" (.int ui1)) (H1 : ¬ (ui1 = (0 : Int32))) (H2 : Fld Z h0 ra0 "java/lang/String" "coder" "B" (.int (0 : Int32))) :
    MetFree l (⟨"java/lang/String", "isLatin1", "()Z"⟩ : MethodName) (head1 (Jvm.Cond.code (⟨"java/lang/String", "isLatin1", "()Z"⟩ : MethodName) jdk_42_method_154_code 1 (some .boolean) :: ws) ({ frames := 0, cells := 0, slots := 0, locals := 0 } : Room)) (fun a U => a = #[(.ref ra0)] ∧ Z.Warmed39 U.vm ∧ U.heap = h0) (fun _ _ _ _ _ => True) (fun _ U o U' => ∃ v L, o = .returned v ∧ Q19x3 Z ra0 ui1 h0 n0 v U'.heap L ∧ FrameEnd U o U' L ({ frames := 0, cells := 0, slots := 0, locals := 0 } : Room).cells ({ frames := 0, cells := 0, slots := 0, locals := 0 } : Room).slots) := by
  refine MetFree.of_bodySF (plainFor_of_name pn_java_lang_String) hisR ?_
  intro p e s m args below meth c s₁ Bd hml0 hP hK
  obtain ⟨rfl, hZ, hh⟩ := hP
  have hx := Bd.exec
  have hby := Bd.bytes
  have hml : c.maxLocals = 1 := hml0
  have hown : s.vm.findClass "java/lang/String" = some m.cls := findClass_of_methodNamed Bd.named
  have hnm := (name_of_methodNamed Bd.named Bd.method).1
  have X0 : Stand p l e ({ frames := 0, cells := 0, slots := 0, locals := 0 } : Room) s m #[(.ref ra0)] below meth c s₁ [] 0 0 := Stand.of_body Bd
  have e0 : s₁.heap = h0 := by rw [← hh, Bd.state]; rfl
  have N0 := Fr.nil n0
  have pre0 : ∀ t, Steps p.tables e below (s₁.setTop (mkF m 0 #[.val (.ref ra0)] [])) t → Steps p.tables e below (s₁.setTop (entryFrame m #[(.ref ra0)] 1)) t := fun t k => castTop (ef_19x3 m ra0) k
  obtain ⟨T101, X101, e101, st101⟩ := getS2 X0 hx hZ hown (host := "") (Or.inl (hw _ (List.mem_of_getElem? (i := 127) rfl))) Via.refl e0 H0 (g := (mkF m 0 #[.val (.ref ra0)] [])) rfl (hb hby d19_0)
  obtain ⟨T102, X102, e102, st102⟩ := getF X101 hx hZ hown (host := "") (Or.inl (hw _ (List.mem_of_getElem? (i := 128) rfl))) Via.refl e101 H2 (g := (mkF m 7 #[.val (.ref ra0)] [(.ref ra0)])) rfl rfl (hb hby d19_7)
  obtain ⟨fs, hr, hrun, hended, hW, hsame⟩ := X102.leave (v := some (.int (1 : Int32))) (fun h => by rw [Bd.returns] at h; cases h)
  refine ⟨_, _, pre0 _ ?_, hrun, hended, _, _, rfl, ?_, ⟨_, rfl⟩, hW, hsame.mono (by decide) (by decide)⟩
  · skip
    show Steps p.tables e below (s₁.setTop (mkF m 0 #[.val (.ref ra0)] [])) _
    refine st101 _ ?_
    show Steps p.tables e below (T101.setTop (mkF m 3 #[.val (.ref ra0)] [(.int ui1)])) _
    refine XS.ifNo X101.here hx rfl (hb hby d19_3) rfl ((if0 _ _).trans (feq (H1 : ¬ (ui1 = (0 : Int32)))).1) ?_
    show Steps p.tables e below (T101.setTop (mkF m 6 #[.val (.ref ra0)] [])) _
    refine XS.aloadN X101.here hx rfl (hb hby d19_6) rfl rfl ?_
    show Steps p.tables e below (T101.setTop (mkF m 7 #[.val (.ref ra0)] [(.ref ra0)])) _
    refine st102 _ ?_
    show Steps p.tables e below (T102.setTop (mkF m 10 #[.val (.ref ra0)] [(.int (0 : Int32))])) _
    refine XS.ifNo X102.here hx rfl (hb hby d19_10) rfl ((if0 _ _).trans (teq (by decide : (0 : Int32) = (0 : Int32))).2) ?_
    show Steps p.tables e below (T102.setTop (mkF m 13 #[.val (.ref ra0)] [])) _
    refine XS.iconst X102.here hx rfl (hb hby d19_13) ?_
    show Steps p.tables e below (T102.setTop (mkF m 14 #[.val (.ref ra0)] [(.int (1 : Int32))])) _
    refine XS.goto X102.here hx rfl (pc0 := 14) (pc' := 18) rfl (hb hby d19_14) (by decide) (by decide) ?_
    show Steps p.tables e below (T102.setTop (mkF m 18 #[.val (.ref ra0)] [(.int (1 : Int32))])) _
    exact retN X102 hx (t := .boolean) Bd.returns (by simp) (hb hby d19_18) hr
  · show Q19x3 Z ra0 ui1 h0 n0 _ T102.heap _
    rw [e102]
    exact ⟨rfl, N0, rfl⟩
theorem d21_0 : decode jdk_42_method_152_code 0 = .ok (.getstatic 38, 3) := by decide +kernel
theorem d21_3 : decode jdk_42_method_152_code 3 = .ok (.ifCond .eq 10, 3) := by decide +kernel
theorem d21_6 : decode jdk_42_method_152_code 6 = .ok (.aload_n 0, 1) := by decide +kernel
theorem d21_7 : decode jdk_42_method_152_code 7 = .ok (.getfield 15, 3) := by decide +kernel
theorem d21_10 : decode jdk_42_method_152_code 10 = .ok (.goto 4, 3) := by decide +kernel
theorem d21_14 : decode jdk_42_method_152_code 14 = .ok (.ireturn, 1) := by decide +kernel
theorem ef_21x5 (m : MethodId) (ra0 : Addr) : entryFrame m #[(.ref ra0)] 1 = mkF m 0 #[.val (.ref ra0)] [] := by first | (simp [entryFrame, mkF, argsToLocals, Value.category]; done) | rfl
def Q21x5 (Z : State) (ra0 : Addr) (ui1 : Int32) (h0 : Heap) (n0 : Nat) (v : Option Value) (h : Heap) (L : List Loc) : Prop := v = some (.int (0 : Int32)) ∧ Fr n0 L ∧ h = h0
set_option maxRecDepth 65536 in
set_option maxHeartbeats 40000000 in
theorem rm21x5 (l : Launch) (Z : State) (a0 : Array Value) (hw : ∀ d ∈ tables_1, d.before a0 Z = true) (ws : List Jvm.Cond) (ra0 : Addr) (ui1 : Int32) (h0 : Heap) (n0 : Nat) (Z0 : n0 ≤ h0.size) (H0 : Sta Z h0 "java/lang/String" "COMPACT_STRINGS" "Z" (.int ui1)) (H1 : ¬ (ui1 = (0 : Int32))) (H2 : Fld Z h0 ra0 "java/lang/String" "coder" "B" (.int (0 : Int32))) :
    MetFree l (⟨"java/lang/String", "coder", "()B"⟩ : MethodName) (head1 (Jvm.Cond.code (⟨"java/lang/String", "coder", "()B"⟩ : MethodName) jdk_42_method_152_code 1 (some .byte) :: ws) ({ frames := 0, cells := 0, slots := 0, locals := 0 } : Room)) (fun a U => a = #[(.ref ra0)] ∧ Z.Warmed39 U.vm ∧ U.heap = h0) (fun _ _ _ _ _ => True) (fun _ U o U' => ∃ v L, o = .returned v ∧ Q21x5 Z ra0 ui1 h0 n0 v U'.heap L ∧ FrameEnd U o U' L ({ frames := 0, cells := 0, slots := 0, locals := 0 } : Room).cells ({ frames := 0, cells := 0, slots := 0, locals := 0 } : Room).slots) := by
  refine MetFree.of_bodySF (plainFor_of_name pn_java_lang_String) hisR ?_
  intro p e s m args below meth c s₁ Bd hml0 hP hK
  obtain ⟨rfl, hZ, hh⟩ := hP
  have hx := Bd.exec
  have hby := Bd.bytes
  have hml : c.maxLocals = 1 := hml0
  have hown : s.vm.findClass "java/lang/String" = some m.cls := findClass_of_methodNamed Bd.named
  have hnm := (name_of_methodNamed Bd.named Bd.method).1
  have X0 : Stand p l e ({ frames := 0, cells := 0, slots := 0, locals := 0 } : Room) s m #[(.ref ra0)] below meth c s₁ [] 0 0 := Stand.of_body Bd
  have e0 : s₁.heap = h0 := by rw [← hh, Bd.state]; rfl
  have N0 := Fr.nil n0
  have pre0 : ∀ t, Steps p.tables e below (s₁.setTop (mkF m 0 #[.val (.ref ra0)] [])) t → Steps p.tables e below (s₁.setTop (entryFrame m #[(.ref ra0)] 1)) t := fun t k => castTop (ef_21x5 m ra0) k
  obtain ⟨T101, X101, e101, st101⟩ := getS2 X0 hx hZ hown (host := "") (Or.inl (hw _ (List.mem_of_getElem? (i := 127) rfl))) Via.refl e0 H0 (g := (mkF m 0 #[.val (.ref ra0)] [])) rfl (hb hby d21_0)
  obtain ⟨T102, X102, e102, st102⟩ := getF X101 hx hZ hown (host := "") (Or.inl (hw _ (List.mem_of_getElem? (i := 128) rfl))) Via.refl e101 H2 (g := (mkF m 7 #[.val (.ref ra0)] [(.ref ra0)])) rfl rfl (hb hby d21_7)
  obtain ⟨fs, hr, hrun, hended, hW, hsame⟩ := X102.leave (v := some (.int (0 : Int32))) (fun h => by rw [Bd.returns] at h; cases h)
  refine ⟨_, _, pre0 _ ?_, hrun, hended, _, _, rfl, ?_, ⟨_, rfl⟩, hW, hsame.mono (by decide) (by decide)⟩
  · skip
    show Steps p.tables e below (s₁.setTop (mkF m 0 #[.val (.ref ra0)] [])) _
    refine st101 _ ?_
    show Steps p.tables e below (T101.setTop (mkF m 3 #[.val (.ref ra0)] [(.int ui1)])) _
    refine XS.ifNo X101.here hx rfl (hb hby d21_3) rfl ((if0 _ _).trans (feq (H1 : ¬ (ui1 = (0 : Int32)))).1) ?_
    show Steps p.tables e below (T101.setTop (mkF m 6 #[.val (.ref ra0)] [])) _
    refine XS.aloadN X101.here hx rfl (hb hby d21_6) rfl rfl ?_
    show Steps p.tables e below (T101.setTop (mkF m 7 #[.val (.ref ra0)] [(.ref ra0)])) _
    refine st102 _ ?_
    show Steps p.tables e below (T102.setTop (mkF m 10 #[.val (.ref ra0)] [(.int (0 : Int32))])) _
    refine XS.goto X102.here hx rfl (pc0 := 10) (pc' := 14) rfl (hb hby d21_10) (by decide) (by decide) ?_
    show Steps p.tables e below (T102.setTop (mkF m 14 #[.val (.ref ra0)] [(.int (0 : Int32))])) _
    exact retN X102 hx (t := .byte) Bd.returns (by simp) (hb hby d21_14) hr
  · show Q21x5 Z ra0 ui1 h0 n0 _ T102.heap _
    rw [e102]
    exact ⟨rfl, N0, rfl⟩
theorem d20_0 : decode jdk_42_method_54_code 0 = .ok (.aload_n 0, 1) := by decide +kernel
theorem d20_1 : decode jdk_42_method_54_code 1 = .ok (.getfield 9, 3) := by decide +kernel
theorem d20_4 : decode jdk_42_method_54_code 4 = .ok (.arraylength, 1) := by decide +kernel
theorem d20_5 : decode jdk_42_method_54_code 5 = .ok (.aload_n 0, 1) := by decide +kernel
theorem d20_6 : decode jdk_42_method_54_code 6 = .ok (.invokevirtual 335, 3) := by decide +kernel
theorem d20_9 : decode jdk_42_method_54_code 9 = .ok (.ishr, 1) := by decide +kernel
theorem d20_10 : decode jdk_42_method_54_code 10 = .ok (.ireturn, 1) := by decide +kernel
theorem ef_20x4 (m : MethodId) (ra0 : Addr) : entryFrame m #[(.ref ra0)] 1 = mkF m 0 #[.val (.ref ra0)] [] := by first | (simp [entryFrame, mkF, argsToLocals, Value.category]; done) | rfl
def Q20x4 (Z : State) (ra0 : Addr) (uo1 : Addr) (uk2 : ClassId) (ui3 : Int32) (h0 : Heap) (n0 : Nat) (v : Option Value) (h : Heap) (L : List Loc) : Prop := v = some (.int (5 : Int32)) ∧ Fr n0 L ∧ h = h0
set_option maxRecDepth 65536 in
set_option maxHeartbeats 40000000 in
theorem rm20x4 (l : Launch) (Z : State) (a0 : Array Value) (hw : ∀ d ∈ tables_1, d.before a0 Z = true) (ws : List Jvm.Cond) (ra0 : Addr) (uo1 : Addr) (uk2 : ClassId) (ui3 : Int32) (h0 : Heap) (n0 : Nat) (Z0 : n0 ≤ h0.size) (H0 : Fld Z h0 ra0 "java/lang/String" "value" "[B" (.ref uo1)) (H1 : Arv Z h0 uo1 uk2 .byte (5 : Int32) [(.int (36 : Int32)), (.int (96 : Int32)), (.int (34 : Int32)), (.int (92 : Int32)), (.int (10 : Int32))] (.int (0 : Int32))) (H2 : Exa Z h0 ra0 "java/lang/String") (H3 : Sta Z h0 "java/lang/String" "COMPACT_STRINGS" "Z" (.int ui3)) (H4 : ¬ (ui3 = (0 : Int32))) (H5 : Fld Z h0 ra0 "java/lang/String" "coder" "B" (.int (0 : Int32))) :
    MetFree l (⟨"java/lang/String", "length", "()I"⟩ : MethodName) (head1 (Jvm.Cond.code (⟨"java/lang/String", "length", "()I"⟩ : MethodName) jdk_42_method_54_code 1 (some .int) :: ws) ({ frames := 1, cells := 0, slots := 0, locals := 13 } : Room)) (fun a U => a = #[(.ref ra0)] ∧ Z.Warmed39 U.vm ∧ U.heap = h0) (fun _ _ _ _ _ => True) (fun _ U o U' => ∃ v L, o = .returned v ∧ Q20x4 Z ra0 uo1 uk2 ui3 h0 n0 v U'.heap L ∧ FrameEnd U o U' L ({ frames := 1, cells := 0, slots := 0, locals := 13 } : Room).cells ({ frames := 1, cells := 0, slots := 0, locals := 13 } : Room).slots) := by
  refine MetFree.of_bodySF (plainFor_of_name pn_java_lang_String) hisR ?_
  intro p e s m args below meth c s₁ Bd hml0 hP hK
  obtain ⟨rfl, hZ, hh⟩ := hP
  have hx := Bd.exec
  have hby := Bd.bytes
  have hml : c.maxLocals = 1 := hml0
  have hown : s.vm.findClass "java/lang/String" = some m.cls := findClass_of_methodNamed Bd.named
  have hnm := (name_of_methodNamed Bd.named Bd.method).1
  have X0 : Stand p l e ({ frames := 1, cells := 0, slots := 0, locals := 13 } : Room) s m #[(.ref ra0)] below meth c s₁ [] 0 0 := Stand.of_body Bd
  have e0 : s₁.heap = h0 := by rw [← hh, Bd.state]; rfl
  have N0 := Fr.nil n0
  have pre0 : ∀ t, Steps p.tables e below (s₁.setTop (mkF m 0 #[.val (.ref ra0)] [])) t → Steps p.tables e below (s₁.setTop (entryFrame m #[(.ref ra0)] 1)) t := fun t k => castTop (ef_20x4 m ra0) k
  obtain ⟨T101, X101, e101, st101⟩ := getF X0 hx hZ hown (host := "") (Or.inl (hw _ (List.mem_of_getElem? (i := 129) rfl))) Via.refl e0 H0 (g := (mkF m 1 #[.val (.ref ra0)] [(.ref ra0)])) rfl rfl (hb hby d20_1)
  obtain ⟨cl102, Ar102, -, S102, M102, -, -⟩ := id H1
  obtain ⟨cq103, kq103, q103a, q103b, q103c⟩ := isOf hZ e101 H2
  obtain ⟨_, _, ⟨T103, L103, k103, n103⟩, -, X103, ⟨Lc103, hQ103, l103, y103, z103⟩, st103⟩ := X101.virtualBack hx (y := (⟨"java/lang/String", "coder", "()B"⟩ : MethodName)) (z := (⟨"java/lang/String", "coder", "()B"⟩ : MethodName)) hown (mvT hZ (hw _ (List.mem_of_getElem? (i := 135) rfl))) (mvT hZ (hw _ (List.mem_of_getElem? (i := 136) rfl))) (notFace_of_selects (args := #[]) (mvT hZ (hw _ (List.mem_of_getElem? (i := 138) rfl)))) (mvT hZ (hw _ (List.mem_of_getElem? (i := 138) rfl))) (mvT hZ (hw _ (List.mem_of_getElem? (i := 137) rfl))) (by decide) (backOf (W := 1) (rm21x5 l Z a0 hw [] ra0 ui3 h0 n0 Z0 H3 H4 H5) hZ (hw _ (List.mem_of_getElem? (i := 139) rfl)) (hw _ (List.mem_of_getElem? (i := 105) rfl)) (by decide) (by decide)) q103a q103c (g := (mkF m 6 #[.val (.ref ra0)] [(.ref ra0), (.int (5 : Int32))])) rfl (by rw [hml]; rfl) (Steps.refl _) (argsL := []) (rest := [(.int (5 : Int32))]) (lenOf pd_7 rfl) rfl (by show 2 * 0 + _ ≤ _; exact Nat.le_of_eq rfl) (hb hby d20_6) (fun _ _ => ⟨rfl, e101, (by decide : 0 + 0 ≤ _), (by decide : 0 + 0 ≤ _)⟩)
  dsimp only [Pt.U, Pt.locs, Pt.cells, Pt.slots] at X103 l103 y103 z103 st103 hQ103
  subst l103 y103 z103
  obtain ⟨rfl, Nq103, Heq103⟩ := hQ103
  have N103 := Fr.app N0 Nq103
  obtain ⟨fs, hr, hrun, hended, hW, hsame⟩ := X103.leave (v := some (.int (5 : Int32))) (fun h => by rw [Bd.returns] at h; cases h)
  refine ⟨_, _, pre0 _ ?_, hrun, hended, _, _, rfl, ?_, ⟨_, rfl⟩, hW, hsame.mono (by decide) (by decide)⟩
  · skip
    show Steps p.tables e below (s₁.setTop (mkF m 0 #[.val (.ref ra0)] [])) _
    refine XS.aloadN X0.here hx rfl (hb hby d20_0) rfl rfl ?_
    show Steps p.tables e below (s₁.setTop (mkF m 1 #[.val (.ref ra0)] [(.ref ra0)])) _
    refine st101 _ ?_
    show Steps p.tables e below (T101.setTop (mkF m 4 #[.val (.ref ra0)] [(.ref uo1)])) _
    refine X101.arraylength hx (by rw [e101]; exact Ar102.1) (State.isArrayOf_alike hZ.alike Ar102.2.1) (g := (mkF m 4 #[.val (.ref ra0)] [(.ref uo1)])) rfl rfl (hb hby d20_4) _ ?_
    rw [len_of S102 M102]
    show Steps p.tables e below (T101.setTop (mkF m 5 #[.val (.ref ra0)] [(.int (5 : Int32))])) _
    refine XS.aloadN X101.here hx rfl (hb hby d20_5) rfl rfl ?_
    show Steps p.tables e below (T101.setTop (mkF m 6 #[.val (.ref ra0)] [(.ref ra0), (.int (5 : Int32))])) _
    refine st103.trans ?_
    show Steps p.tables e below (T103.setTop (mkF m 9 #[.val (.ref ra0)] [(.int (0 : Int32)), (.int (5 : Int32))])) _
    refine XS.ishr X103.here hx rfl (hb hby d20_9) rfl ?_
    show Steps p.tables e below (T103.setTop (mkF m 10 #[.val (.ref ra0)] [(.int ((5 : Int32) >>> ((0 : Int32) &&& 31)))])) _
    rw [show ((5 : Int32) >>> ((0 : Int32) &&& 31)) = (5 : Int32) from by decide]
    show Steps p.tables e below (T103.setTop (mkF m 10 #[.val (.ref ra0)] [(.int (5 : Int32))])) _
    exact retI X103 hx Bd.returns (hb hby d20_10) hr
  · show Q20x4 Z ra0 uo1 uk2 ui3 h0 n0 _ T103.heap _
    rw [Heq103]
    exact ⟨rfl, N103, rfl⟩
theorem d18_0 : decode jdk_42_method_80_code 0 = .ok (.aload_n 0, 1) := by decide +kernel
theorem d18_1 : decode jdk_42_method_80_code 1 = .ok (.invokevirtual 492, 3) := by decide +kernel
theorem d18_4 : decode jdk_42_method_80_code 4 = .ok (.ifCond .eq 19, 3) := by decide +kernel
theorem d18_7 : decode jdk_42_method_80_code 7 = .ok (.aload_n 0, 1) := by decide +kernel
theorem d18_8 : decode jdk_42_method_80_code 8 = .ok (.getfield 9, 3) := by decide +kernel
theorem d18_11 : decode jdk_42_method_80_code 11 = .ok (.iload_n 1, 1) := by decide +kernel
theorem d18_12 : decode jdk_42_method_80_code 12 = .ok (.iload_n 2, 1) := by decide +kernel
theorem d18_13 : decode jdk_42_method_80_code 13 = .ok (.aload_n 0, 1) := by decide +kernel
theorem d18_14 : decode jdk_42_method_80_code 14 = .ok (.invokevirtual 505, 3) := by decide +kernel
theorem d18_17 : decode jdk_42_method_80_code 17 = .ok (.invokestatic 637, 3) := by decide +kernel
theorem d18_20 : decode jdk_42_method_80_code 20 = .ok (.goto 16, 3) := by decide +kernel
theorem d18_36 : decode jdk_42_method_80_code 36 = .ok (.ireturn, 1) := by decide +kernel
theorem ef_18 (m : MethodId) (a1 : Addr) (p2 : Int32) : entryFrame m #[(.ref a1), (.int p2), (.int (0 : Int32))] 3 = mkF m 0 #[.val (.ref a1), .val (.int p2), .val (.int (0 : Int32))] [] := by first | (simp [entryFrame, mkF, argsToLocals, Value.category]; done) | rfl
def Q18 (Z : State) (a1 : Addr) (p2 : Int32) (cz : Int32) (b1 : Addr) (k1 : ClassId) (h0 : Heap) (n0 : Nat) (v : Option Value) (h : Heap) (L : List Loc) : Prop := v = some (.int (own_sidx p2)) ∧ Fr n0 L ∧ h = h0
set_option maxRecDepth 65536 in
set_option maxHeartbeats 40000000 in
theorem rm18 (l : Launch) (Z : State) (a0 : Array Value) (hw : ∀ d ∈ tables_1, d.before a0 Z = true) (ws : List Jvm.Cond) (a1 : Addr) (p2 : Int32) (cz : Int32) (b1 : Addr) (k1 : ClassId) (h0 : Heap) (n0 : Nat) (Z0 : n0 ≤ h0.size) (H0 : Sta Z h0 "java/lang/String" "COMPACT_STRINGS" "Z" (.int cz)) (H1 : ¬ (cz = (0 : Int32))) (H2 : Exa Z h0 a1 "java/lang/String") (H3 : Fld Z h0 a1 "java/lang/String" "coder" "B" (.int (0 : Int32))) (H4 : Fld Z h0 a1 "java/lang/String" "value" "[B" (.ref b1)) (H5 : Arv Z h0 b1 k1 .byte (5 : Int32) [(.int (36 : Int32)), (.int (96 : Int32)), (.int (34 : Int32)), (.int (92 : Int32)), (.int (10 : Int32))] (.int (0 : Int32))) :
    MetFree l (⟨"java/lang/String", "indexOf", "(II)I"⟩ : MethodName) (head1 (Jvm.Cond.code (⟨"java/lang/String", "indexOf", "(II)I"⟩ : MethodName) jdk_42_method_80_code 3 (some .int) :: ws) ({ frames := 2, cells := 0, slots := 0, locals := 32 } : Room)) (fun a U => a = #[(.ref a1), (.int p2), (.int (0 : Int32))] ∧ Z.Warmed39 U.vm ∧ U.heap = h0) (fun _ _ _ _ _ => True) (fun _ U o U' => ∃ v L, o = .returned v ∧ Q18 Z a1 p2 cz b1 k1 h0 n0 v U'.heap L ∧ FrameEnd U o U' L ({ frames := 2, cells := 0, slots := 0, locals := 32 } : Room).cells ({ frames := 2, cells := 0, slots := 0, locals := 32 } : Room).slots) := by
  refine MetFree.of_bodySF (plainFor_of_name pn_java_lang_String) hisR ?_
  intro p e s m args below meth c s₁ Bd hml0 hP hK
  obtain ⟨rfl, hZ, hh⟩ := hP
  have hx := Bd.exec
  have hby := Bd.bytes
  have hml : c.maxLocals = 3 := hml0
  have hown : s.vm.findClass "java/lang/String" = some m.cls := findClass_of_methodNamed Bd.named
  have hnm := (name_of_methodNamed Bd.named Bd.method).1
  have X0 : Stand p l e ({ frames := 2, cells := 0, slots := 0, locals := 32 } : Room) s m #[(.ref a1), (.int p2), (.int (0 : Int32))] below meth c s₁ [] 0 0 := Stand.of_body Bd
  have e0 : s₁.heap = h0 := by rw [← hh, Bd.state]; rfl
  have N0 := Fr.nil n0
  have pre0 : ∀ t, Steps p.tables e below (s₁.setTop (mkF m 0 #[.val (.ref a1), .val (.int p2), .val (.int (0 : Int32))] [])) t → Steps p.tables e below (s₁.setTop (entryFrame m #[(.ref a1), (.int p2), (.int (0 : Int32))] 3)) t := fun t k => castTop (ef_18 m a1 p2) k
  obtain ⟨cq101, kq101, q101a, q101b, q101c⟩ := isOf hZ e0 H2
  obtain ⟨_, _, ⟨T101, L101, k101, n101⟩, -, X101, ⟨Lc101, hQ101, l101, y101, z101⟩, st101⟩ := X0.virtualBack hx (y := (⟨"java/lang/String", "isLatin1", "()Z"⟩ : MethodName)) (z := (⟨"java/lang/String", "isLatin1", "()Z"⟩ : MethodName)) hown (mvT hZ (hw _ (List.mem_of_getElem? (i := 122) rfl))) (mvT hZ (hw _ (List.mem_of_getElem? (i := 123) rfl))) (notFace_of_selects (args := #[]) (mvT hZ (hw _ (List.mem_of_getElem? (i := 125) rfl)))) (mvT hZ (hw _ (List.mem_of_getElem? (i := 125) rfl))) (mvT hZ (hw _ (List.mem_of_getElem? (i := 124) rfl))) (by decide) (backOf (W := 0) (rm19x3 l Z a0 hw [] a1 cz h0 n0 Z0 H0 H1 H3) hZ (hw _ (List.mem_of_getElem? (i := 126) rfl)) (hw _ (List.mem_of_getElem? (i := 105) rfl)) (by decide) (by decide)) q101a q101c (g := (mkF m 1 #[.val (.ref a1), .val (.int p2), .val (.int (0 : Int32))] [(.ref a1)])) rfl (by rw [hml]; rfl) (Steps.refl _) (argsL := []) (rest := []) (lenOf pd_3 rfl) rfl (by show 2 * 0 + _ ≤ _; exact Nat.le_of_eq rfl) (hb hby d18_1) (fun _ _ => ⟨rfl, e0, (by decide : 0 + 0 ≤ _), (by decide : 0 + 0 ≤ _)⟩)
  dsimp only [Pt.U, Pt.locs, Pt.cells, Pt.slots] at X101 l101 y101 z101 st101 hQ101
  subst l101 y101 z101
  obtain ⟨rfl, Nq101, Heq101⟩ := hQ101
  have N101 := Fr.app N0 Nq101
  obtain ⟨T102, X102, e102, st102⟩ := getF X101 hx hZ hown (host := "") (Or.inl (hw _ (List.mem_of_getElem? (i := 129) rfl))) Via.refl Heq101 H4 (g := (mkF m 8 #[.val (.ref a1), .val (.int p2), .val (.int (0 : Int32))] [(.ref a1)])) rfl rfl (hb hby d18_8)
  obtain ⟨cq103, kq103, q103a, q103b, q103c⟩ := isOf hZ e102 H2
  obtain ⟨_, _, ⟨T103, L103, k103, n103⟩, -, X103, ⟨Lc103, hQ103, l103, y103, z103⟩, st103⟩ := X102.virtualBack hx (y := (⟨"java/lang/String", "length", "()I"⟩ : MethodName)) (z := (⟨"java/lang/String", "length", "()I"⟩ : MethodName)) hown (mvT hZ (hw _ (List.mem_of_getElem? (i := 130) rfl))) (mvT hZ (hw _ (List.mem_of_getElem? (i := 131) rfl))) (notFace_of_selects (args := #[]) (mvT hZ (hw _ (List.mem_of_getElem? (i := 133) rfl)))) (mvT hZ (hw _ (List.mem_of_getElem? (i := 133) rfl))) (mvT hZ (hw _ (List.mem_of_getElem? (i := 132) rfl))) (by decide) (backOf (W := 3) (rm20x4 l Z a0 hw [] a1 b1 k1 cz h0 n0 Z0 H4 H5 H2 H0 H1 H3) hZ (hw _ (List.mem_of_getElem? (i := 134) rfl)) (hw _ (List.mem_of_getElem? (i := 105) rfl)) (by decide) (by decide)) q103a q103c (g := (mkF m 14 #[.val (.ref a1), .val (.int p2), .val (.int (0 : Int32))] [(.ref a1), (.int (0 : Int32)), (.int p2), (.ref b1)])) rfl (by rw [hml]; rfl) (Steps.refl _) (argsL := []) (rest := [(.int (0 : Int32)), (.int p2), (.ref b1)]) (lenOf pd_8 rfl) rfl (by show 2 * 0 + _ ≤ _; exact Nat.le_of_eq rfl) (hb hby d18_14) (fun _ _ => ⟨rfl, e102, (by decide : 0 + 0 ≤ _), (by decide : 0 + 0 ≤ _)⟩)
  dsimp only [Pt.U, Pt.locs, Pt.cells, Pt.slots] at X103 l103 y103 z103 st103 hQ103
  subst l103 y103 z103
  obtain ⟨rfl, Nq103, Heq103⟩ := hQ103
  have N103 := Fr.app N101 Nq103
  obtain ⟨_, _, ⟨T104, L104, k104, n104⟩, -, X104, ⟨Lc104, hQ104, l104, y104, z104⟩, st104⟩ := Jvm.LawKit.callS X103 hx (y := (⟨"java/lang/StringLatin1", "indexOf", "([BIII)I"⟩ : MethodName)) hown (mvT hZ (hw _ (List.mem_of_getElem? (i := 140) rfl))) (mvT hZ (hw _ (List.mem_of_getElem? (i := 141) rfl))) (mvT hZ (hw _ (List.mem_of_getElem? (i := 142) rfl))) (mvT hZ (hw _ (List.mem_of_getElem? (i := 143) rfl))) (by decide) (backOf (W := 0) (rm22 l Z a0 hw [] b1 p2 k1 h0 n0 Z0 H5) hZ (hw _ (List.mem_of_getElem? (i := 143) rfl)) (hw _ (List.mem_of_getElem? (i := 142) rfl)) (by decide) (by decide)) (g := (mkF m 17 #[.val (.ref a1), .val (.int p2), .val (.int (0 : Int32))] [(.int (5 : Int32)), (.int (0 : Int32)), (.int p2), (.ref b1)])) rfl (by rw [hml]; rfl) (argsL := [(.ref b1), (.int p2), (.int (0 : Int32)), (.int (5 : Int32))]) (rest := []) (lenOf pd_6 rfl) rfl (by show 2 * 0 + _ ≤ _; exact Nat.le_of_eq rfl) (hb hby d18_17) (fun _ _ => ⟨rfl, Heq103, (by decide : 0 + 0 ≤ _), (by decide : 0 + 0 ≤ _)⟩)
  dsimp only [Pt.U, Pt.locs, Pt.cells, Pt.slots] at X104 l104 y104 z104 st104 hQ104
  subst l104 y104 z104
  obtain ⟨rfl, Nq104, Heq104⟩ := hQ104
  have N104 := Fr.app N103 Nq104
  obtain ⟨fs, hr, hrun, hended, hW, hsame⟩ := X104.leave (v := some (.int (own_sidx p2))) (fun h => by rw [Bd.returns] at h; cases h)
  refine ⟨_, _, pre0 _ ?_, hrun, hended, _, _, rfl, ?_, ⟨_, rfl⟩, hW, hsame.mono (by decide) (by decide)⟩
  · skip
    show Steps p.tables e below (s₁.setTop (mkF m 0 #[.val (.ref a1), .val (.int p2), .val (.int (0 : Int32))] [])) _
    refine XS.aloadN X0.here hx rfl (hb hby d18_0) rfl rfl ?_
    show Steps p.tables e below (s₁.setTop (mkF m 1 #[.val (.ref a1), .val (.int p2), .val (.int (0 : Int32))] [(.ref a1)])) _
    refine st101.trans ?_
    show Steps p.tables e below (T101.setTop (mkF m 4 #[.val (.ref a1), .val (.int p2), .val (.int (0 : Int32))] [(.int (1 : Int32))])) _
    refine XS.ifNo X101.here hx rfl (hb hby d18_4) rfl ((if0 _ _).trans (feq (by decide : ¬ ((1 : Int32) = (0 : Int32)))).1) ?_
    show Steps p.tables e below (T101.setTop (mkF m 7 #[.val (.ref a1), .val (.int p2), .val (.int (0 : Int32))] [])) _
    refine XS.aloadN X101.here hx rfl (hb hby d18_7) rfl rfl ?_
    show Steps p.tables e below (T101.setTop (mkF m 8 #[.val (.ref a1), .val (.int p2), .val (.int (0 : Int32))] [(.ref a1)])) _
    refine st102 _ ?_
    show Steps p.tables e below (T102.setTop (mkF m 11 #[.val (.ref a1), .val (.int p2), .val (.int (0 : Int32))] [(.ref b1)])) _
    refine XS.iloadN X102.here hx rfl (hb hby d18_11) rfl ?_
    show Steps p.tables e below (T102.setTop (mkF m 12 #[.val (.ref a1), .val (.int p2), .val (.int (0 : Int32))] [(.int p2), (.ref b1)])) _
    refine XS.iloadN X102.here hx rfl (hb hby d18_12) rfl ?_
    show Steps p.tables e below (T102.setTop (mkF m 13 #[.val (.ref a1), .val (.int p2), .val (.int (0 : Int32))] [(.int (0 : Int32)), (.int p2), (.ref b1)])) _
    refine XS.aloadN X102.here hx rfl (hb hby d18_13) rfl rfl ?_
    show Steps p.tables e below (T102.setTop (mkF m 14 #[.val (.ref a1), .val (.int p2), .val (.int (0 : Int32))] [(.ref a1), (.int (0 : Int32)), (.int p2), (.ref b1)])) _
    refine st103.trans ?_
    show Steps p.tables e below (T103.setTop (mkF m 17 #[.val (.ref a1), .val (.int p2), .val (.int (0 : Int32))] [(.int (5 : Int32)), (.int (0 : Int32)), (.int p2), (.ref b1)])) _
    refine st104 _ ?_
    show Steps p.tables e below (T104.setTop (mkF m 20 #[.val (.ref a1), .val (.int p2), .val (.int (0 : Int32))] [(.int (own_sidx p2))])) _
    refine XS.goto X104.here hx rfl (pc0 := 20) (pc' := 36) rfl (hb hby d18_20) (by decide) (by decide) ?_
    show Steps p.tables e below (T104.setTop (mkF m 36 #[.val (.ref a1), .val (.int p2), .val (.int (0 : Int32))] [(.int (own_sidx p2))])) _
    exact retI X104 hx Bd.returns (hb hby d18_36) hr
  · show Q18 Z a1 p2 cz b1 k1 h0 n0 _ T104.heap _
    rw [Heq104]
    exact ⟨rfl, N104, rfl⟩
theorem d17_0 : decode jdk_42_method_79_code 0 = .ok (.aload_n 0, 1) := by decide +kernel
theorem d17_1 : decode jdk_42_method_79_code 1 = .ok (.iload_n 1, 1) := by decide +kernel
theorem d17_2 : decode jdk_42_method_79_code 2 = .ok (.iconst 0, 1) := by decide +kernel
theorem d17_3 : decode jdk_42_method_79_code 3 = .ok (.invokevirtual 633, 3) := by decide +kernel
theorem d17_6 : decode jdk_42_method_79_code 6 = .ok (.ireturn, 1) := by decide +kernel
theorem ef_17 (m : MethodId) (a1 : Addr) (p2 : Int32) : entryFrame m #[(.ref a1), (.int p2)] 2 = mkF m 0 #[.val (.ref a1), .val (.int p2)] [] := by first | (simp [entryFrame, mkF, argsToLocals, Value.category]; done) | rfl
def Q17 (Z : State) (a1 : Addr) (p2 : Int32) (cz : Int32) (b1 : Addr) (k1 : ClassId) (h0 : Heap) (n0 : Nat) (v : Option Value) (h : Heap) (L : List Loc) : Prop := v = some (.int (own_sidx p2)) ∧ Fr n0 L ∧ h = h0
set_option maxRecDepth 65536 in
set_option maxHeartbeats 40000000 in
theorem rm17 (l : Launch) (Z : State) (a0 : Array Value) (hw : ∀ d ∈ tables_1, d.before a0 Z = true) (ws : List Jvm.Cond) (a1 : Addr) (p2 : Int32) (cz : Int32) (b1 : Addr) (k1 : ClassId) (h0 : Heap) (n0 : Nat) (Z0 : n0 ≤ h0.size) (H0 : Sta Z h0 "java/lang/String" "COMPACT_STRINGS" "Z" (.int cz)) (H1 : ¬ (cz = (0 : Int32))) (H2 : Exa Z h0 a1 "java/lang/String") (H3 : Fld Z h0 a1 "java/lang/String" "coder" "B" (.int (0 : Int32))) (H4 : Fld Z h0 a1 "java/lang/String" "value" "[B" (.ref b1)) (H5 : Arv Z h0 b1 k1 .byte (5 : Int32) [(.int (36 : Int32)), (.int (96 : Int32)), (.int (34 : Int32)), (.int (92 : Int32)), (.int (10 : Int32))] (.int (0 : Int32))) :
    MetFree l (⟨"java/lang/String", "indexOf", "(I)I"⟩ : MethodName) (head1 (Jvm.Cond.code (⟨"java/lang/String", "indexOf", "(I)I"⟩ : MethodName) jdk_42_method_79_code 2 (some .int) :: ws) ({ frames := 3, cells := 0, slots := 0, locals := 46 } : Room)) (fun a U => a = #[(.ref a1), (.int p2)] ∧ Z.Warmed39 U.vm ∧ U.heap = h0) (fun _ _ _ _ _ => True) (fun _ U o U' => ∃ v L, o = .returned v ∧ Q17 Z a1 p2 cz b1 k1 h0 n0 v U'.heap L ∧ FrameEnd U o U' L ({ frames := 3, cells := 0, slots := 0, locals := 46 } : Room).cells ({ frames := 3, cells := 0, slots := 0, locals := 46 } : Room).slots) := by
  refine MetFree.of_bodySF (plainFor_of_name pn_java_lang_String) hisR ?_
  intro p e s m args below meth c s₁ Bd hml0 hP hK
  obtain ⟨rfl, hZ, hh⟩ := hP
  have hx := Bd.exec
  have hby := Bd.bytes
  have hml : c.maxLocals = 2 := hml0
  have hown : s.vm.findClass "java/lang/String" = some m.cls := findClass_of_methodNamed Bd.named
  have hnm := (name_of_methodNamed Bd.named Bd.method).1
  have X0 : Stand p l e ({ frames := 3, cells := 0, slots := 0, locals := 46 } : Room) s m #[(.ref a1), (.int p2)] below meth c s₁ [] 0 0 := Stand.of_body Bd
  have e0 : s₁.heap = h0 := by rw [← hh, Bd.state]; rfl
  have N0 := Fr.nil n0
  have pre0 : ∀ t, Steps p.tables e below (s₁.setTop (mkF m 0 #[.val (.ref a1), .val (.int p2)] [])) t → Steps p.tables e below (s₁.setTop (entryFrame m #[(.ref a1), (.int p2)] 2)) t := fun t k => castTop (ef_17 m a1 p2) k
  obtain ⟨cq101, kq101, q101a, q101b, q101c⟩ := isOf hZ e0 H2
  obtain ⟨_, _, ⟨T101, L101, k101, n101⟩, -, X101, ⟨Lc101, hQ101, l101, y101, z101⟩, st101⟩ := X0.virtualBack hx (y := (⟨"java/lang/String", "indexOf", "(II)I"⟩ : MethodName)) (z := (⟨"java/lang/String", "indexOf", "(II)I"⟩ : MethodName)) hown (mvT hZ (hw _ (List.mem_of_getElem? (i := 117) rfl))) (mvT hZ (hw _ (List.mem_of_getElem? (i := 118) rfl))) (notFace_of_selects (args := #[]) (mvT hZ (hw _ (List.mem_of_getElem? (i := 120) rfl)))) (mvT hZ (hw _ (List.mem_of_getElem? (i := 120) rfl))) (mvT hZ (hw _ (List.mem_of_getElem? (i := 119) rfl))) (by decide) (backOf (W := 0) (rm18 l Z a0 hw [] a1 p2 cz b1 k1 h0 n0 Z0 H0 H1 H2 H3 H4 H5) hZ (hw _ (List.mem_of_getElem? (i := 121) rfl)) (hw _ (List.mem_of_getElem? (i := 105) rfl)) (by decide) (by decide)) q101a q101c (g := (mkF m 3 #[.val (.ref a1), .val (.int p2)] [(.int (0 : Int32)), (.int p2), (.ref a1)])) rfl (by rw [hml]; rfl) (Steps.refl _) (argsL := [(.int p2), (.int (0 : Int32))]) (rest := []) (lenOf pd_5 rfl) rfl (by show 2 * 0 + _ ≤ _; exact Nat.le_of_eq rfl) (hb hby d17_3) (fun _ _ => ⟨rfl, e0, (by decide : 0 + 0 ≤ _), (by decide : 0 + 0 ≤ _)⟩)
  dsimp only [Pt.U, Pt.locs, Pt.cells, Pt.slots] at X101 l101 y101 z101 st101 hQ101
  subst l101 y101 z101
  obtain ⟨rfl, Nq101, Heq101⟩ := hQ101
  have N101 := Fr.app N0 Nq101
  obtain ⟨fs, hr, hrun, hended, hW, hsame⟩ := X101.leave (v := some (.int (own_sidx p2))) (fun h => by rw [Bd.returns] at h; cases h)
  refine ⟨_, _, pre0 _ ?_, hrun, hended, _, _, rfl, ?_, ⟨_, rfl⟩, hW, hsame.mono (by decide) (by decide)⟩
  · skip
    show Steps p.tables e below (s₁.setTop (mkF m 0 #[.val (.ref a1), .val (.int p2)] [])) _
    refine XS.aloadN X0.here hx rfl (hb hby d17_0) rfl rfl ?_
    show Steps p.tables e below (s₁.setTop (mkF m 1 #[.val (.ref a1), .val (.int p2)] [(.ref a1)])) _
    refine XS.iloadN X0.here hx rfl (hb hby d17_1) rfl ?_
    show Steps p.tables e below (s₁.setTop (mkF m 2 #[.val (.ref a1), .val (.int p2)] [(.int p2), (.ref a1)])) _
    refine XS.iconst X0.here hx rfl (hb hby d17_2) ?_
    show Steps p.tables e below (s₁.setTop (mkF m 3 #[.val (.ref a1), .val (.int p2)] [(.int (0 : Int32)), (.int p2), (.ref a1)])) _
    refine st101.trans ?_
    show Steps p.tables e below (T101.setTop (mkF m 6 #[.val (.ref a1), .val (.int p2)] [(.int (own_sidx p2))])) _
    exact retI X101 hx Bd.returns (hb hby d17_6) hr
  · show Q17 Z a1 p2 cz b1 k1 h0 n0 _ T101.heap _
    rw [Heq101]
    exact ⟨rfl, N101, rfl⟩
theorem d11_0 : decode prog_69_method_3_code 0 = .ok (.aload_n 0, 1) := by decide +kernel
theorem d11_1 : decode prog_69_method_3_code 1 = .ok (.getfield 31, 3) := by decide +kernel
theorem d11_4 : decode prog_69_method_3_code 4 = .ok (.ifCond .eq 68, 3) := by decide +kernel
theorem d11_72 : decode prog_69_method_3_code 72 = .ok (.aload_n 0, 1) := by decide +kernel
theorem d11_73 : decode prog_69_method_3_code 73 = .ok (.getfield 27, 3) := by decide +kernel
theorem d11_76 : decode prog_69_method_3_code 76 = .ok (.bipush 39, 2) := by decide +kernel
theorem d11_78 : decode prog_69_method_3_code 78 = .ok (.if_icmp .ne 28, 3) := by decide +kernel
theorem d11_81 : decode prog_69_method_3_code 81 = .ok (.iload_n 1, 1) := by decide +kernel
theorem d11_82 : decode prog_69_method_3_code 82 = .ok (.bipush 39, 2) := by decide +kernel
theorem d11_84 : decode prog_69_method_3_code 84 = .ok (.if_icmp .ne 11, 3) := by decide +kernel
theorem d11_87 : decode prog_69_method_3_code 87 = .ok (.aload_n 0, 1) := by decide +kernel
theorem d11_88 : decode prog_69_method_3_code 88 = .ok (.iconst 0, 1) := by decide +kernel
theorem d11_89 : decode prog_69_method_3_code 89 = .ok (.putfield 27, 3) := by decide +kernel
theorem d11_92 : decode prog_69_method_3_code 92 = .ok (.goto 192, 3) := by decide +kernel
theorem d11_284 : decode prog_69_method_3_code 284 = .ok (.return_, 1) := by decide +kernel
theorem d11_95 : decode prog_69_method_3_code 95 = .ok (.aload_n 0, 1) := by decide +kernel
theorem d11_96 : decode prog_69_method_3_code 96 = .ok (.getfield 13, 3) := by decide +kernel
theorem d11_99 : decode prog_69_method_3_code 99 = .ok (.iload_n 1, 1) := by decide +kernel
theorem d11_100 : decode prog_69_method_3_code 100 = .ok (.invokevirtual 64, 3) := by decide +kernel
theorem d11_103 : decode prog_69_method_3_code 103 = .ok (.goto 181, 3) := by decide +kernel
theorem d11_106 : decode prog_69_method_3_code 106 = .ok (.aload_n 0, 1) := by decide +kernel
theorem d11_107 : decode prog_69_method_3_code 107 = .ok (.getfield 27, 3) := by decide +kernel
theorem d11_110 : decode prog_69_method_3_code 110 = .ok (.bipush 34, 2) := by decide +kernel
theorem d11_112 : decode prog_69_method_3_code 112 = .ok (.if_icmp .ne 42, 3) := by decide +kernel
theorem d11_115 : decode prog_69_method_3_code 115 = .ok (.iload_n 1, 1) := by decide +kernel
theorem d11_116 : decode prog_69_method_3_code 116 = .ok (.bipush 34, 2) := by decide +kernel
theorem d11_118 : decode prog_69_method_3_code 118 = .ok (.if_icmp .ne 11, 3) := by decide +kernel
theorem d11_121 : decode prog_69_method_3_code 121 = .ok (.aload_n 0, 1) := by decide +kernel
theorem d11_122 : decode prog_69_method_3_code 122 = .ok (.iconst 0, 1) := by decide +kernel
theorem d11_123 : decode prog_69_method_3_code 123 = .ok (.putfield 27, 3) := by decide +kernel
theorem d11_126 : decode prog_69_method_3_code 126 = .ok (.goto 158, 3) := by decide +kernel
theorem d11_129 : decode prog_69_method_3_code 129 = .ok (.iload_n 1, 1) := by decide +kernel
theorem d11_130 : decode prog_69_method_3_code 130 = .ok (.bipush 92, 2) := by decide +kernel
theorem d11_132 : decode prog_69_method_3_code 132 = .ok (.if_icmp .ne 11, 3) := by decide +kernel
theorem d11_135 : decode prog_69_method_3_code 135 = .ok (.aload_n 0, 1) := by decide +kernel
theorem d11_136 : decode prog_69_method_3_code 136 = .ok (.iconst 1, 1) := by decide +kernel
theorem d11_137 : decode prog_69_method_3_code 137 = .ok (.putfield 31, 3) := by decide +kernel
theorem d11_140 : decode prog_69_method_3_code 140 = .ok (.goto 144, 3) := by decide +kernel
theorem d11_143 : decode prog_69_method_3_code 143 = .ok (.aload_n 0, 1) := by decide +kernel
theorem d11_144 : decode prog_69_method_3_code 144 = .ok (.getfield 13, 3) := by decide +kernel
theorem d11_147 : decode prog_69_method_3_code 147 = .ok (.iload_n 1, 1) := by decide +kernel
theorem d11_148 : decode prog_69_method_3_code 148 = .ok (.invokevirtual 64, 3) := by decide +kernel
theorem d11_151 : decode prog_69_method_3_code 151 = .ok (.goto 133, 3) := by decide +kernel
theorem d11_154 : decode prog_69_method_3_code 154 = .ok (.iload_n 1, 1) := by decide +kernel
theorem d11_155 : decode prog_69_method_3_code 155 = .ok (.bipush 39, 2) := by decide +kernel
theorem d11_157 : decode prog_69_method_3_code 157 = .ok (.if_icmp .eq 9, 3) := by decide +kernel
theorem d11_166 : decode prog_69_method_3_code 166 = .ok (.aload_n 0, 1) := by decide +kernel
theorem d11_167 : decode prog_69_method_3_code 167 = .ok (.iload_n 1, 1) := by decide +kernel
theorem d11_168 : decode prog_69_method_3_code 168 = .ok (.putfield 27, 3) := by decide +kernel
theorem d11_171 : decode prog_69_method_3_code 171 = .ok (.aload_n 0, 1) := by decide +kernel
theorem d11_172 : decode prog_69_method_3_code 172 = .ok (.iconst 1, 1) := by decide +kernel
theorem d11_173 : decode prog_69_method_3_code 173 = .ok (.putfield 69, 3) := by decide +kernel
theorem d11_176 : decode prog_69_method_3_code 176 = .ok (.goto 108, 3) := by decide +kernel
theorem d11_160 : decode prog_69_method_3_code 160 = .ok (.iload_n 1, 1) := by decide +kernel
theorem d11_161 : decode prog_69_method_3_code 161 = .ok (.bipush 34, 2) := by decide +kernel
theorem d11_163 : decode prog_69_method_3_code 163 = .ok (.if_icmp .ne 16, 3) := by decide +kernel
theorem d11_179 : decode prog_69_method_3_code 179 = .ok (.iload_n 1, 1) := by decide +kernel
theorem d11_180 : decode prog_69_method_3_code 180 = .ok (.bipush 92, 2) := by decide +kernel
theorem d11_182 : decode prog_69_method_3_code 182 = .ok (.if_icmp .ne 11, 3) := by decide +kernel
theorem d11_185 : decode prog_69_method_3_code 185 = .ok (.aload_n 0, 1) := by decide +kernel
theorem d11_186 : decode prog_69_method_3_code 186 = .ok (.iconst 1, 1) := by decide +kernel
theorem d11_187 : decode prog_69_method_3_code 187 = .ok (.putfield 31, 3) := by decide +kernel
theorem d11_190 : decode prog_69_method_3_code 190 = .ok (.goto 94, 3) := by decide +kernel
theorem d11_193 : decode prog_69_method_3_code 193 = .ok (.iload_n 1, 1) := by decide +kernel
theorem d11_194 : decode prog_69_method_3_code 194 = .ok (.bipush 32, 2) := by decide +kernel
theorem d11_196 : decode prog_69_method_3_code 196 = .ok (.if_icmp .eq 9, 3) := by decide +kernel
theorem d11_205 : decode prog_69_method_3_code 205 = .ok (.aload_n 0, 1) := by decide +kernel
theorem d11_206 : decode prog_69_method_3_code 206 = .ok (.invokevirtual 72, 3) := by decide +kernel
theorem d11_209 : decode prog_69_method_3_code 209 = .ok (.goto 75, 3) := by decide +kernel
theorem d11_199 : decode prog_69_method_3_code 199 = .ok (.iload_n 1, 1) := by decide +kernel
theorem d11_200 : decode prog_69_method_3_code 200 = .ok (.bipush 9, 2) := by decide +kernel
theorem d11_202 : decode prog_69_method_3_code 202 = .ok (.if_icmp .ne 10, 3) := by decide +kernel
theorem d11_212 : decode prog_69_method_3_code 212 = .ok (.iload_n 1, 1) := by decide +kernel
theorem d11_213 : decode prog_69_method_3_code 213 = .ok (.bipush 35, 2) := by decide +kernel
theorem d11_215 : decode prog_69_method_3_code 215 = .ok (.if_icmp .ne 18, 3) := by decide +kernel
theorem d11_218 : decode prog_69_method_3_code 218 = .ok (.aload_n 0, 1) := by decide +kernel
theorem d11_219 : decode prog_69_method_3_code 219 = .ok (.getfield 69, 3) := by decide +kernel
theorem d11_222 : decode prog_69_method_3_code 222 = .ok (.ifCond .ne 11, 3) := by decide +kernel
theorem d11_225 : decode prog_69_method_3_code 225 = .ok (.aload_n 0, 1) := by decide +kernel
theorem d11_226 : decode prog_69_method_3_code 226 = .ok (.iconst 1, 1) := by decide +kernel
theorem d11_227 : decode prog_69_method_3_code 227 = .ok (.putfield 34, 3) := by decide +kernel
theorem d11_230 : decode prog_69_method_3_code 230 = .ok (.goto 54, 3) := by decide +kernel
theorem d11_233 : decode prog_69_method_3_code 233 = .ok (.iload_n 1, 1) := by decide +kernel
theorem d11_234 : decode prog_69_method_3_code 234 = .ok (.bipush 59, 2) := by decide +kernel
theorem d11_236 : decode prog_69_method_3_code 236 = .ok (.if_icmp .ne 35, 3) := by decide +kernel
theorem d11_271 : decode prog_69_method_3_code 271 = .ok (.aload_n 0, 1) := by decide +kernel
theorem d11_272 : decode prog_69_method_3_code 272 = .ok (.getfield 13, 3) := by decide +kernel
theorem d11_275 : decode prog_69_method_3_code 275 = .ok (.iload_n 1, 1) := by decide +kernel
theorem d11_276 : decode prog_69_method_3_code 276 = .ok (.invokevirtual 64, 3) := by decide +kernel
theorem d11_279 : decode prog_69_method_3_code 279 = .ok (.aload_n 0, 1) := by decide +kernel
theorem d11_280 : decode prog_69_method_3_code 280 = .ok (.iconst 1, 1) := by decide +kernel
theorem d11_281 : decode prog_69_method_3_code 281 = .ok (.putfield 69, 3) := by decide +kernel
theorem d11_7 : decode prog_69_method_3_code 7 = .ok (.aload_n 0, 1) := by decide +kernel
theorem d11_8 : decode prog_69_method_3_code 8 = .ok (.iconst 0, 1) := by decide +kernel
theorem d11_9 : decode prog_69_method_3_code 9 = .ok (.putfield 31, 3) := by decide +kernel
theorem d11_12 : decode prog_69_method_3_code 12 = .ok (.aload_n 0, 1) := by decide +kernel
theorem d11_13 : decode prog_69_method_3_code 13 = .ok (.getfield 27, 3) := by decide +kernel
theorem d11_16 : decode prog_69_method_3_code 16 = .ok (.bipush 34, 2) := by decide +kernel
theorem d11_18 : decode prog_69_method_3_code 18 = .ok (.if_icmp .ne 32, 3) := by decide +kernel
theorem d11_21 : decode prog_69_method_3_code 21 = .ok (.ldc 56, 2) := by decide +kernel
theorem d11_23 : decode prog_69_method_3_code 23 = .ok (.iload_n 1, 1) := by decide +kernel
theorem d11_24 : decode prog_69_method_3_code 24 = .ok (.invokevirtual 58, 3) := by decide +kernel
theorem d11_27 : decode prog_69_method_3_code 27 = .ok (.ifCond .ge 23, 3) := by decide +kernel
theorem d11_30 : decode prog_69_method_3_code 30 = .ok (.aload_n 0, 1) := by decide +kernel
theorem d11_31 : decode prog_69_method_3_code 31 = .ok (.getfield 13, 3) := by decide +kernel
theorem d11_34 : decode prog_69_method_3_code 34 = .ok (.bipush 92, 2) := by decide +kernel
theorem d11_36 : decode prog_69_method_3_code 36 = .ok (.invokevirtual 64, 3) := by decide +kernel
theorem d11_39 : decode prog_69_method_3_code 39 = .ok (.aload_n 0, 1) := by decide +kernel
theorem d11_40 : decode prog_69_method_3_code 40 = .ok (.getfield 13, 3) := by decide +kernel
theorem d11_43 : decode prog_69_method_3_code 43 = .ok (.iload_n 1, 1) := by decide +kernel
theorem d11_44 : decode prog_69_method_3_code 44 = .ok (.invokevirtual 64, 3) := by decide +kernel
theorem d11_47 : decode prog_69_method_3_code 47 = .ok (.goto 237, 3) := by decide +kernel
theorem d11_50 : decode prog_69_method_3_code 50 = .ok (.iload_n 1, 1) := by decide +kernel
theorem d11_51 : decode prog_69_method_3_code 51 = .ok (.bipush 10, 2) := by decide +kernel
theorem d11_53 : decode prog_69_method_3_code 53 = .ok (.if_icmp .eq 231, 3) := by decide +kernel
theorem d11_56 : decode prog_69_method_3_code 56 = .ok (.aload_n 0, 1) := by decide +kernel
theorem d11_57 : decode prog_69_method_3_code 57 = .ok (.getfield 13, 3) := by decide +kernel
theorem d11_60 : decode prog_69_method_3_code 60 = .ok (.iload_n 1, 1) := by decide +kernel
theorem d11_61 : decode prog_69_method_3_code 61 = .ok (.invokevirtual 64, 3) := by decide +kernel
theorem d11_64 : decode prog_69_method_3_code 64 = .ok (.aload_n 0, 1) := by decide +kernel
theorem d11_65 : decode prog_69_method_3_code 65 = .ok (.iconst 1, 1) := by decide +kernel
theorem d11_66 : decode prog_69_method_3_code 66 = .ok (.putfield 69, 3) := by decide +kernel
theorem d11_69 : decode prog_69_method_3_code 69 = .ok (.goto 215, 3) := by decide +kernel
theorem ef_11 (m : MethodId) (a1 : Addr) (p2 : Int32) : entryFrame m #[(.ref a1), (.int p2)] 2 = mkF m 0 #[.val (.ref a1), .val (.int p2)] [] := by first | (simp [entryFrame, mkF, argsToLocals, Value.category]; done) | rfl
def Q11 (Z : State) (a1 : Addr) (p2 : Int32) (cz : Int32) (cl : Addr) (w : Int32) (cs : Int32) (n : Int32) (cb : Addr) (ck : ClassId) (cvs : List Value) (wb : Addr) (wk : ClassId) (wvs : List Value) (q : Int32) (e_ : Int32) (iw : Int32) (ic : Int32) (len : Int32) (k : Int) (h0 : Heap) (n0 : Nat) (v : Option Value) (h : Heap) (L : List Loc) : Prop := ∃ (iwx : Int32) (wx : Int32) (nx : Int32) (cvx : List Value) (wvx : List Value), v = none ∧ Fr n0 L ∧ Keep h0 h [a1, cl, cb, wb] ∧ Fld Z h a1 "com/example/rouse/rouse/shell/ShellWords" "line" "Lcom/example/rouse/rouse/shell/CommandLine;" (.ref cl) ∧ Fld Z h a1 "com/example/rouse/rouse/shell/ShellWords" "quote" "C" (.int (own_rq p2 q e_)) ∧ Fld Z h a1 "com/example/rouse/rouse/shell/ShellWords" "escaped" "Z" (.int (own_re p2 q e_)) ∧ Fld Z h a1 "com/example/rouse/rouse/shell/ShellWords" "inWord" "Z" (.int iwx) ∧ Fld Z h a1 "com/example/rouse/rouse/shell/ShellWords" "inComment" "Z" (.int (own_ric p2 q e_ iw ic)) ∧ Fld Z h a1 "com/example/rouse/rouse/shell/ShellWords" "length" "I" (.int len) ∧ Fld Z h a1 "com/example/rouse/rouse/shell/ShellWords" "skippingLine" "Z" (.int (0 : Int32)) ∧ Fld Z h cl "com/example/rouse/rouse/shell/CommandLine" "words" "I" (.int wx) ∧ Fld Z h cl "com/example/rouse/rouse/shell/CommandLine" "commandStart" "I" (.int cs) ∧ Fld Z h cl "com/example/rouse/rouse/shell/CommandLine" "length" "I" (.int nx) ∧ Fld Z h cl "com/example/rouse/rouse/shell/CommandLine" "characters" "[C" (.ref cb) ∧ Fld Z h cl "com/example/rouse/rouse/shell/CommandLine" "wordEnds" "[I" (.ref wb) ∧ Arv Z h cb ck .char (16 : Int32) cvx (.int (0 : Int32)) ∧ Arv Z h wb wk .int (16 : Int32) wvx (.int (0 : Int32)) ∧ cvx.length = 16 ∧ wvx.length = 16 ∧ own_ok (k + 2) wx cs nx
set_option maxRecDepth 65536 in
set_option maxHeartbeats 40000000 in
theorem rm11 (l : Launch) (Z : State) (a0 : Array Value) (hw : ∀ d ∈ tables_1, d.before a0 Z = true) (ws : List Jvm.Cond) (hEL : EW Z a0 own_EL) (a1 : Addr) (p2 : Int32) (cz : Int32) (cl : Addr) (w : Int32) (cs : Int32) (n : Int32) (cb : Addr) (ck : ClassId) (cvs : List Value) (wb : Addr) (wk : ClassId) (wvs : List Value) (q : Int32) (e_ : Int32) (iw : Int32) (ic : Int32) (len : Int32) (k : Int) (h0 : Heap) (n0 : Nat) (Z0 : n0 ≤ h0.size) (H0 : Sta Z h0 "java/lang/String" "COMPACT_STRINGS" "Z" (.int cz)) (H1 : ¬ (cz = (0 : Int32))) (H2 : Exa Z h0 a1 "com/example/rouse/rouse/shell/ShellWords") (H3 : Fld Z h0 a1 "com/example/rouse/rouse/shell/ShellWords" "line" "Lcom/example/rouse/rouse/shell/CommandLine;" (.ref cl)) (H4 : Fld Z h0 a1 "com/example/rouse/rouse/shell/ShellWords" "quote" "C" (.int q)) (H5 : Fld Z h0 a1 "com/example/rouse/rouse/shell/ShellWords" "escaped" "Z" (.int e_)) (H6 : Fld Z h0 a1 "com/example/rouse/rouse/shell/ShellWords" "inWord" "Z" (.int iw)) (H7 : Fld Z h0 a1 "com/example/rouse/rouse/shell/ShellWords" "inComment" "Z" (.int ic)) (H8 : Fld Z h0 a1 "com/example/rouse/rouse/shell/ShellWords" "length" "I" (.int len)) (H9 : Fld Z h0 a1 "com/example/rouse/rouse/shell/ShellWords" "skippingLine" "Z" (.int (0 : Int32))) (H10 : Exa Z h0 cl "com/example/rouse/rouse/shell/CommandLine") (H11 : Fld Z h0 cl "com/example/rouse/rouse/shell/CommandLine" "words" "I" (.int w)) (H12 : Fld Z h0 cl "com/example/rouse/rouse/shell/CommandLine" "commandStart" "I" (.int cs)) (H13 : Fld Z h0 cl "com/example/rouse/rouse/shell/CommandLine" "length" "I" (.int n)) (H14 : Fld Z h0 cl "com/example/rouse/rouse/shell/CommandLine" "characters" "[C" (.ref cb)) (H15 : Fld Z h0 cl "com/example/rouse/rouse/shell/CommandLine" "wordEnds" "[I" (.ref wb)) (H16 : Arv Z h0 cb ck .char (16 : Int32) cvs (.int (0 : Int32))) (H17 : Arv Z h0 wb wk .int (16 : Int32) wvs (.int (0 : Int32))) (H18 : n0 ≤ a1) (H19 : n0 ≤ cl) (H20 : n0 ≤ cb) (H21 : n0 ≤ wb) (H22 : cb ≠ wb) (H23 : cvs.length = 16) (H24 : wvs.length = 16) (H25 : own_ok k w cs n) (H26 : k + 3 < 16) (H27 : ¬ (p2 = (59 : Int32))) :
    MetFree l (⟨"com/example/rouse/rouse/shell/ShellWords", "readInWords", "(C)V"⟩ : MethodName) (head1 (Jvm.Cond.code (⟨"com/example/rouse/rouse/shell/ShellWords", "readInWords", "(C)V"⟩ : MethodName) prog_69_method_3_code 2 none :: ws) ({ frames := 4, cells := 2, slots := 24, locals := 59 } : Room)) (fun a U => a = #[(.ref a1), (.int p2)] ∧ Z.Warmed39 U.vm ∧ U.heap = h0 ∧ CHv Z own_EL U.vm h0) (fun _ _ _ _ _ => True) (fun _ U o U' => ∃ v L, o = .returned v ∧ Q11 Z a1 p2 cz cl w cs n cb ck cvs wb wk wvs q e_ iw ic len k h0 n0 v U'.heap L ∧ CHr Z own_EL U.vm U.heap U'.vm U'.heap ∧ ReturnedEndW U o U' L ({ frames := 4, cells := 2, slots := 24, locals := 59 } : Room).cells ({ frames := 4, cells := 2, slots := 24, locals := 59 } : Room).slots) := by
  refine MetFree.of_bodySF (plainFor_of_name pn_com_example_rouse_rouse_shell_ShellWords) hisR ?_
  intro p e s m args below meth c s₁ Bd hml0 hP hK
  obtain ⟨rfl, hZ, hh, hH⟩ := hP
  have hx := Bd.exec
  have hby := Bd.bytes
  have hml : c.maxLocals = 2 := hml0
  have hown : s.vm.findClass "com/example/rouse/rouse/shell/ShellWords" = some m.cls := findClass_of_methodNamed Bd.named
  have hnm := (name_of_methodNamed Bd.named Bd.method).1
  have X0 : Stand p l e ({ frames := 4, cells := 2, slots := 24, locals := 59 } : Room) s m #[(.ref a1), (.int p2)] below meth c s₁ [] 0 0 := Stand.of_body Bd
  have e0 : s₁.heap = h0 := by rw [← hh, Bd.state]; rfl
  have N0 := Fr.nil n0
  have X0 : Stand p l e ({ frames := 4, cells := 2, slots := 24, locals := 59 } : Room) (s.setVm s.vm) m #[(.ref a1), (.int p2)] below meth c s₁ [] 0 0 := X0
  have hZ : Z.Warmed39 (s.setVm s.vm).vm := hZ
  have hown : (s.setVm s.vm).vm.findClass "com/example/rouse/rouse/shell/ShellWords" = some m.cls := hown
  have hS0 : s.Since s.vm 0 := State.WarmedH.since (State.WarmedH.refl s) 0
  have Cr0 : CHr Z own_EL s.vm h0 s.vm h0 := CHr.refl hH
  have pre0 : ∀ t, Steps p.tables e below (s₁.setTop (mkF m 0 #[.val (.ref a1), .val (.int p2)] [])) t → Steps p.tables e below (s₁.setTop (entryFrame m #[(.ref a1), (.int p2)] 2)) t := fun t k => castTop (ef_11 m a1 p2) k
  obtain ⟨T101, X101, e101, st101⟩ := getF X0 hx hZ hown (host := "") (Or.inl (hw _ (List.mem_of_getElem? (i := 69) rfl))) Via.refl e0 H5 (g := (mkF m 1 #[.val (.ref a1), .val (.int p2)] [(.ref a1)])) rfl rfl (hb hby d11_1)
  have pre102 : ∀ t, Steps p.tables e below (T101.setTop (mkF m 4 #[.val (.ref a1), .val (.int p2)] [(.int e_)])) t → Steps p.tables e below (s₁.setTop (entryFrame m #[(.ref a1), (.int p2)] 2)) t := fun t kt => by
    refine pre0 t ?_
    show Steps p.tables e below (s₁.setTop (mkF m 0 #[.val (.ref a1), .val (.int p2)] [])) _
    refine XS.aloadN X0.here hx rfl (hb hby d11_0) rfl rfl ?_
    show Steps p.tables e below (s₁.setTop (mkF m 1 #[.val (.ref a1), .val (.int p2)] [(.ref a1)])) _
    refine st101 _ ?_
    show Steps p.tables e below (T101.setTop (mkF m 4 #[.val (.ref a1), .val (.int p2)] [(.int e_)])) _
    exact kt
  by_cases hc4_103 : e_ = (0 : Int32)
  · skip
    obtain ⟨T104, X104, e104, st104⟩ := getF X101 hx hZ hown (host := "") (Or.inl (hw _ (List.mem_of_getElem? (i := 71) rfl))) Via.refl e101 H4 (g := (mkF m 73 #[.val (.ref a1), .val (.int p2)] [(.ref a1)])) rfl rfl (hb hby d11_73)
    have pre105 : ∀ t, Steps p.tables e below (T104.setTop (mkF m 78 #[.val (.ref a1), .val (.int p2)] [(.int (39 : Int32)), (.int q)])) t → Steps p.tables e below (s₁.setTop (entryFrame m #[(.ref a1), (.int p2)] 2)) t := fun t kt => by
      refine pre102 t ?_
      show Steps p.tables e below (T101.setTop (mkF m 4 #[.val (.ref a1), .val (.int p2)] [(.int e_)])) _
      refine XS.ifYes X101.here hx rfl (pc0 := 4) (pc' := 72) rfl (hb hby d11_4) rfl ((if0 _ _).trans (teq (hc4_103 : e_ = (0 : Int32))).1) (by decide) (by decide) ?_
      show Steps p.tables e below (T101.setTop (mkF m 72 #[.val (.ref a1), .val (.int p2)] [])) _
      refine XS.aloadN X101.here hx rfl (hb hby d11_72) rfl rfl ?_
      show Steps p.tables e below (T101.setTop (mkF m 73 #[.val (.ref a1), .val (.int p2)] [(.ref a1)])) _
      refine st104 _ ?_
      show Steps p.tables e below (T104.setTop (mkF m 76 #[.val (.ref a1), .val (.int p2)] [(.int q)])) _
      refine XS.bipush X104.here hx rfl (hb hby d11_76) ?_
      show Steps p.tables e below (T104.setTop (mkF m 78 #[.val (.ref a1), .val (.int p2)] [(.int (39 : Int32)), (.int q)])) _
      exact kt
    by_cases hc78_106 : q = (39 : Int32)
    · skip
      have pre107 : ∀ t, Steps p.tables e below (T104.setTop (mkF m 84 #[.val (.ref a1), .val (.int p2)] [(.int (39 : Int32)), (.int p2)])) t → Steps p.tables e below (s₁.setTop (entryFrame m #[(.ref a1), (.int p2)] 2)) t := fun t kt => by
        refine pre105 t ?_
        show Steps p.tables e below (T104.setTop (mkF m 78 #[.val (.ref a1), .val (.int p2)] [(.int (39 : Int32)), (.int q)])) _
        refine XS.icmpNo X104.here hx rfl (hb hby d11_78) rfl (teq (hc78_106 : q = (39 : Int32))).2 ?_
        show Steps p.tables e below (T104.setTop (mkF m 81 #[.val (.ref a1), .val (.int p2)] [])) _
        refine XS.iloadN X104.here hx rfl (hb hby d11_81) rfl ?_
        show Steps p.tables e below (T104.setTop (mkF m 82 #[.val (.ref a1), .val (.int p2)] [(.int p2)])) _
        refine XS.bipush X104.here hx rfl (hb hby d11_82) ?_
        show Steps p.tables e below (T104.setTop (mkF m 84 #[.val (.ref a1), .val (.int p2)] [(.int (39 : Int32)), (.int p2)])) _
        exact kt
      by_cases hc84_108 : p2 = (39 : Int32)
      · skip
        obtain ⟨T109, h109, X109, e109, W109, st109⟩ := putFN X104 hx hZ hown (hw _ (List.mem_of_getElem? (i := 71) rfl)) Via.refl e104 H4 H2 (Or.inl (hw _ (List.mem_of_getElem? (i := 72) rfl))) (hw _ (List.mem_of_getElem? (i := 9) rfl)) (ty := .char) (v' := (.int (nar .char (0 : Int32)))) (by decide) rfl (fits_nar_char _) (g := (mkF m 89 #[.val (.ref a1), .val (.int p2)] [(.int (0 : Int32)), (.ref a1)])) rfl rfl (hb hby d11_89)
        rw [show nar .char (0 : Int32) = (0 : Int32) from by decide] at W109
        have Fw109 := H4.same W109
        have Hc110 := CHv.wr W109 (Safe.exa hZ.alike H2 (by decide) (by decide)) hH
        have Cr110 := Cr0.trans (CHr.wr W109 (Safe.exa hZ.alike H2 (by decide) (by decide)) hH)
        have N109 := Fr.snoc X109 N0 H18
        have f111 : Fld Z h109 a1 "com/example/rouse/rouse/shell/ShellWords" "escaped" "Z" (.int e_) := (H5.other W109 (Or.inr (slot_ne (Or.inl (hw _ (List.mem_of_getElem? (i := 70) rfl))) (Or.inl (hw _ (List.mem_of_getElem? (i := 72) rfl))) (by decide) (t := .boolean) (t' := .char) (by decide) (by decide))))
        have f112 : Fld Z h109 a1 "com/example/rouse/rouse/shell/ShellWords" "inComment" "Z" (.int ic) := (H7.other W109 (Or.inr (slot_ne (Or.inl (hw _ (List.mem_of_getElem? (i := 64) rfl))) (Or.inl (hw _ (List.mem_of_getElem? (i := 72) rfl))) (by decide) (t := .boolean) (t' := .char) (by decide) (by decide))))
        have f113 : Fld Z h109 a1 "com/example/rouse/rouse/shell/ShellWords" "line" "Lcom/example/rouse/rouse/shell/CommandLine;" (.ref cl) := (H3.other W109 (Or.inr (slot_ne (Or.inl (hw _ (List.mem_of_getElem? (i := 39) rfl))) (Or.inl (hw _ (List.mem_of_getElem? (i := 72) rfl))) (by decide) (t := (.object "com/example/rouse/rouse/shell/CommandLine")) (t' := .char) (by decide) (by decide))))
        have f114 : Fld Z h109 a1 "com/example/rouse/rouse/shell/ShellWords" "inWord" "Z" (.int iw) := (H6.other W109 (Or.inr (slot_ne (Or.inl (hw _ (List.mem_of_getElem? (i := 81) rfl))) (Or.inl (hw _ (List.mem_of_getElem? (i := 72) rfl))) (by decide) (t := .boolean) (t' := .char) (by decide) (by decide))))
        have f115 : Fld Z h109 a1 "com/example/rouse/rouse/shell/ShellWords" "length" "I" (.int len) := (H8.other W109 (Or.inr (slot_ne (Or.inl (hw _ (List.mem_of_getElem? (i := 46) rfl))) (Or.inl (hw _ (List.mem_of_getElem? (i := 72) rfl))) (by decide) (t := .int) (t' := .char) (by decide) (by decide))))
        have f116 : Fld Z h109 a1 "com/example/rouse/rouse/shell/ShellWords" "skippingLine" "Z" (.int (0 : Int32)) := (H9.other W109 (Or.inr (slot_ne (Or.inl (hw _ (List.mem_of_getElem? (i := 56) rfl))) (Or.inl (hw _ (List.mem_of_getElem? (i := 72) rfl))) (by decide) (t := .boolean) (t' := .char) (by decide) (by decide))))
        have ne117 : cl ≠ a1 := ne_exa H10 H2 (by decide)
        have f118 : Fld Z h109 cl "com/example/rouse/rouse/shell/CommandLine" "words" "I" (.int w) := (H11.other W109 (Or.inl ne117))
        have f119 : Fld Z h109 cl "com/example/rouse/rouse/shell/CommandLine" "commandStart" "I" (.int cs) := (H12.other W109 (Or.inl ne117))
        have f120 : Fld Z h109 cl "com/example/rouse/rouse/shell/CommandLine" "length" "I" (.int n) := (H13.other W109 (Or.inl ne117))
        have f121 : Fld Z h109 cl "com/example/rouse/rouse/shell/CommandLine" "characters" "[C" (.ref cb) := (H14.other W109 (Or.inl ne117))
        have f122 : Fld Z h109 cl "com/example/rouse/rouse/shell/CommandLine" "wordEnds" "[I" (.ref wb) := (H15.other W109 (Or.inl ne117))
        have ne123 : a1 ≠ cb := Exa.neArv H2 H16 (hw _ (List.mem_of_getElem? (i := 9) rfl))
        have f124 : Arv Z h109 cb ck .char (16 : Int32) cvs (.int (0 : Int32)) := (H16.other W109 (Ne.symm ne123))
        have ne125 : a1 ≠ wb := Exa.neArv H2 H17 (hw _ (List.mem_of_getElem? (i := 9) rfl))
        have f126 : Arv Z h109 wb wk .int (16 : Int32) wvs (.int (0 : Int32)) := (H17.other W109 (Ne.symm ne125))
        obtain ⟨fs, hr, hrun, hended, hEnd⟩ := X109.leaveW hS0 (by rw [e109]; exact (Nat.le_trans (Nat.zero_le _) (Nat.le_of_eq W109.size.symm))) (v := none) (fun _ => rfl)
        refine ⟨_, _, pre107 _ ?_, hrun, hended, _, _, rfl, ?_, (show CHr Z own_EL s.vm s.heap T109.vm T109.heap from by rw [hh, e109]; exact Cr110.trans (CHv.at X109 hZ hEL Hc110)), hEnd.1, hEnd.2.1, hEnd.2.2.1, hEnd.2.2.2.mono (by decide) (by decide)⟩
        · skip
          show Steps p.tables e below (T104.setTop (mkF m 84 #[.val (.ref a1), .val (.int p2)] [(.int (39 : Int32)), (.int p2)])) _
          refine XS.icmpNo X104.here hx rfl (hb hby d11_84) rfl (teq (hc84_108 : p2 = (39 : Int32))).2 ?_
          show Steps p.tables e below (T104.setTop (mkF m 87 #[.val (.ref a1), .val (.int p2)] [])) _
          refine XS.aloadN X104.here hx rfl (hb hby d11_87) rfl rfl ?_
          show Steps p.tables e below (T104.setTop (mkF m 88 #[.val (.ref a1), .val (.int p2)] [(.ref a1)])) _
          refine XS.iconst X104.here hx rfl (hb hby d11_88) ?_
          show Steps p.tables e below (T104.setTop (mkF m 89 #[.val (.ref a1), .val (.int p2)] [(.int (0 : Int32)), (.ref a1)])) _
          refine st109 _ ?_
          show Steps p.tables e below (T109.setTop (mkF m 92 #[.val (.ref a1), .val (.int p2)] [])) _
          refine XS.goto X109.here hx rfl (pc0 := 92) (pc' := 284) rfl (hb hby d11_92) (by decide) (by decide) ?_
          show Steps p.tables e below (T109.setTop (mkF m 284 #[.val (.ref a1), .val (.int p2)] [])) _
          exact X109.returnOut hx Bd.returns (hb hby d11_284) hr
        · show Q11 Z a1 p2 cz cl w cs n cb ck cvs wb wk wvs q e_ iw ic len k h0 n0 _ T109.heap _
          rw [e109]
          exact ⟨iw, w, n, cvs, wvs, rfl, N109, ((Keep.refl h0 [a1, cl, cb, wb]).wr W109 (Or.inl (List.mem_of_getElem? (i := 0) rfl))), f113, (by simpa only [own_rq, eq_true hc4_103, eq_true hc78_106, eq_true hc84_108, if_true, if_false] using Fw109), (by simpa only [own_re, eq_true hc4_103, eq_true hc78_106, eq_true hc84_108, if_true, if_false] using f111), f114, (by simpa only [own_ric, eq_true hc4_103, eq_true hc78_106, eq_true hc84_108, if_true, if_false] using f112), f115, f116, f118, f119, f120, f121, f122, f124, f126, H23, H24, (by obtain ⟨o1, o2, o3, o4, o5, o6⟩ := H25; have i1 := own_inc o1 o2 (by omega); have i2 := own_inc o5 o6 (by omega); have i3 := own_inc i2.1 i2.2 (by omega); exact ⟨by omega, by omega, by omega, by omega, by omega, by omega⟩)⟩
      · skip
        obtain ⟨T127, X127, e127, st127⟩ := getF X104 hx hZ hown (host := "") (Or.inl (hw _ (List.mem_of_getElem? (i := 38) rfl))) Via.refl e104 H3 (g := (mkF m 96 #[.val (.ref a1), .val (.int p2)] [(.ref a1)])) rfl rfl (hb hby d11_96)
        obtain ⟨cq128, kq128, q128a, q128b, q128c⟩ := isOf hZ e127 H10
        obtain ⟨_, _, ⟨T128, L128, k128, n128⟩, -, X128, ⟨Lc128, hQ128, l128, y128, z128⟩, st128⟩ := X127.virtualBack hx (y := (⟨"com/example/rouse/rouse/shell/CommandLine", "append", "(C)V"⟩ : MethodName)) (z := (⟨"com/example/rouse/rouse/shell/CommandLine", "append", "(C)V"⟩ : MethodName)) hown (mvT hZ (hw _ (List.mem_of_getElem? (i := 73) rfl))) (mvT hZ (hw _ (List.mem_of_getElem? (i := 74) rfl))) (notFace_of_selects (args := #[]) (mvT hZ (hw _ (List.mem_of_getElem? (i := 76) rfl)))) (mvT hZ (hw _ (List.mem_of_getElem? (i := 76) rfl))) (mvT hZ (hw _ (List.mem_of_getElem? (i := 75) rfl))) (by decide) (backOf (W := 0) (rm12 l Z a0 hw [] cl p2 w cs n cb ck cvs wb h0 n0 Z0 H10 H11 H12 H13 H14 H15 H16 H19 H20 (own_in_of H25.2.2.2.2.1 H25.2.2.2.2.2 (by omega)) H23) hZ (hw _ (List.mem_of_getElem? (i := 77) rfl)) (hw _ (List.mem_of_getElem? (i := 22) rfl)) (by decide) (by decide)) q128a q128c (g := (mkF m 100 #[.val (.ref a1), .val (.int p2)] [(.int p2), (.ref cl)])) rfl (by rw [hml]; rfl) (Steps.refl _) (argsL := [(.int p2)]) (rest := []) (lenOf pd_9 rfl) rfl (by show 2 * 0 + _ ≤ _; exact Nat.le_of_eq rfl) (hb hby d11_100) (fun _ _ => ⟨rfl, e127, (by decide : 0 + 0 ≤ _), (by decide : 0 + 0 ≤ _)⟩)
        dsimp only [Pt.U, Pt.locs, Pt.cells, Pt.slots] at X128 l128 y128 z128 st128 hQ128
        subst l128 y128 z128
        obtain ⟨cvx128, rfl, Nq128, K128, R128_1, R128_2, R128_3, R128_4, R128_5, R128_6, R128_7⟩ := hQ128
        have N128 := Fr.app N0 Nq128
        have hs129 : ∀ x ∈ ([cl, cb] : List Addr), Safe Z own_EL s.vm h0 x := (allS (P := fun x => Safe Z own_EL s.vm h0 x) (Safe.exa hZ.alike H10 (by decide) (by decide)) (allS (P := fun x => Safe Z own_EL s.vm h0 x) (own_safe_arv hZ.alike H16 (by decide)) (all0 (P := fun x => Safe Z own_EL s.vm h0 x))))
        have Hc129 := CHv.keep K128 hs129 hH
        have Cr129 := Cr0.trans (CHr.keep K128 hs129 hH)
        have ne130 : a1 ≠ cb := Exa.neArv (H2.keep K128) R128_6 (hw _ (List.mem_of_getElem? (i := 9) rfl))
        have ne131 : a1 ≠ cl := ne_exa H2 H10 (by decide)
        have f132 : Fld Z T128.heap a1 "com/example/rouse/rouse/shell/ShellWords" "quote" "C" (.int q) := (H4.keep K128 (ninS ne131 (ninS ne130 nin0)))
        have f133 : Fld Z T128.heap a1 "com/example/rouse/rouse/shell/ShellWords" "escaped" "Z" (.int e_) := (H5.keep K128 (ninS ne131 (ninS ne130 nin0)))
        have f134 : Fld Z T128.heap a1 "com/example/rouse/rouse/shell/ShellWords" "inComment" "Z" (.int ic) := (H7.keep K128 (ninS ne131 (ninS ne130 nin0)))
        have f135 : Fld Z T128.heap a1 "com/example/rouse/rouse/shell/ShellWords" "line" "Lcom/example/rouse/rouse/shell/CommandLine;" (.ref cl) := (H3.keep K128 (ninS ne131 (ninS ne130 nin0)))
        have f136 : Fld Z T128.heap a1 "com/example/rouse/rouse/shell/ShellWords" "inWord" "Z" (.int iw) := (H6.keep K128 (ninS ne131 (ninS ne130 nin0)))
        have f137 : Fld Z T128.heap a1 "com/example/rouse/rouse/shell/ShellWords" "length" "I" (.int len) := (H8.keep K128 (ninS ne131 (ninS ne130 nin0)))
        have f138 : Fld Z T128.heap a1 "com/example/rouse/rouse/shell/ShellWords" "skippingLine" "Z" (.int (0 : Int32)) := (H9.keep K128 (ninS ne131 (ninS ne130 nin0)))
        have ne139 : cl ≠ wb := Exa.neArv H10 H17 (hw _ (List.mem_of_getElem? (i := 21) rfl))
        have f140 : Arv Z T128.heap wb wk .int (16 : Int32) wvs (.int (0 : Int32)) := (H17.keep K128 (ninS (Ne.symm ne139) (ninS (Ne.symm H22) nin0)))
        obtain ⟨fs, hr, hrun, hended, hEnd⟩ := X128.leaveW hS0 (Nat.le_trans (Nat.zero_le _) K128.1) (v := none) (fun _ => rfl)
        refine ⟨_, _, pre107 _ ?_, hrun, hended, _, _, rfl, ?_, (show CHr Z own_EL s.vm s.heap T128.vm T128.heap from by rw [hh]; exact Cr129.trans (CHv.at X128 hZ hEL Hc129)), hEnd.1, hEnd.2.1, hEnd.2.2.1, hEnd.2.2.2.mono (by decide) (by decide)⟩
        · skip
          show Steps p.tables e below (T104.setTop (mkF m 84 #[.val (.ref a1), .val (.int p2)] [(.int (39 : Int32)), (.int p2)])) _
          refine XS.icmpYes X104.here hx rfl (pc0 := 84) (pc' := 95) rfl (hb hby d11_84) rfl (feq (hc84_108 : ¬ (p2 = (39 : Int32)))).2 (by decide) (by decide) ?_
          show Steps p.tables e below (T104.setTop (mkF m 95 #[.val (.ref a1), .val (.int p2)] [])) _
          refine XS.aloadN X104.here hx rfl (hb hby d11_95) rfl rfl ?_
          show Steps p.tables e below (T104.setTop (mkF m 96 #[.val (.ref a1), .val (.int p2)] [(.ref a1)])) _
          refine st127 _ ?_
          show Steps p.tables e below (T127.setTop (mkF m 99 #[.val (.ref a1), .val (.int p2)] [(.ref cl)])) _
          refine XS.iloadN X127.here hx rfl (hb hby d11_99) rfl ?_
          show Steps p.tables e below (T127.setTop (mkF m 100 #[.val (.ref a1), .val (.int p2)] [(.int p2), (.ref cl)])) _
          refine st128.trans ?_
          show Steps p.tables e below (T128.setTop (mkF m 103 #[.val (.ref a1), .val (.int p2)] [])) _
          refine XS.goto X128.here hx rfl (pc0 := 103) (pc' := 284) rfl (hb hby d11_103) (by decide) (by decide) ?_
          show Steps p.tables e below (T128.setTop (mkF m 284 #[.val (.ref a1), .val (.int p2)] [])) _
          exact X128.returnOut hx Bd.returns (hb hby d11_284) hr
        · show Q11 Z a1 p2 cz cl w cs n cb ck cvs wb wk wvs q e_ iw ic len k h0 n0 _ T128.heap _
          exact ⟨iw, w, (n + (1 : Int32)), cvx128, wvs, rfl, N128, ((Keep.refl h0 [a1, cl, cb, wb]).trans K128 (allS (P := (fun x => x ∈ [a1, cl, cb, wb] ∨ h0.size ≤ x)) (Or.inl (List.mem_of_getElem? (i := 1) rfl)) (allS (P := (fun x => x ∈ [a1, cl, cb, wb] ∨ h0.size ≤ x)) (Or.inl (List.mem_of_getElem? (i := 2) rfl)) all0))), f135, (by simpa only [own_rq, eq_true hc4_103, eq_true hc78_106, eq_false hc84_108, if_true, if_false] using f132), (by simpa only [own_re, eq_true hc4_103, eq_true hc78_106, eq_false hc84_108, if_true, if_false] using f133), f136, (by simpa only [own_ric, eq_true hc4_103, eq_true hc78_106, eq_false hc84_108, if_true, if_false] using f134), f137, f138, R128_1, R128_2, R128_3, R128_4, R128_5, R128_6, f140, R128_7, H24, (by obtain ⟨o1, o2, o3, o4, o5, o6⟩ := H25; have i1 := own_inc o1 o2 (by omega); have i2 := own_inc o5 o6 (by omega); have i3 := own_inc i2.1 i2.2 (by omega); exact ⟨by omega, by omega, by omega, by omega, by omega, by omega⟩)⟩
    · skip
      obtain ⟨T141, X141, e141, st141⟩ := getF X104 hx hZ hown (host := "") (Or.inl (hw _ (List.mem_of_getElem? (i := 71) rfl))) Via.refl e104 H4 (g := (mkF m 107 #[.val (.ref a1), .val (.int p2)] [(.ref a1)])) rfl rfl (hb hby d11_107)
      have pre142 : ∀ t, Steps p.tables e below (T141.setTop (mkF m 112 #[.val (.ref a1), .val (.int p2)] [(.int (34 : Int32)), (.int q)])) t → Steps p.tables e below (s₁.setTop (entryFrame m #[(.ref a1), (.int p2)] 2)) t := fun t kt => by
        refine pre105 t ?_
        show Steps p.tables e below (T104.setTop (mkF m 78 #[.val (.ref a1), .val (.int p2)] [(.int (39 : Int32)), (.int q)])) _
        refine XS.icmpYes X104.here hx rfl (pc0 := 78) (pc' := 106) rfl (hb hby d11_78) rfl (feq (hc78_106 : ¬ (q = (39 : Int32)))).2 (by decide) (by decide) ?_
        show Steps p.tables e below (T104.setTop (mkF m 106 #[.val (.ref a1), .val (.int p2)] [])) _
        refine XS.aloadN X104.here hx rfl (hb hby d11_106) rfl rfl ?_
        show Steps p.tables e below (T104.setTop (mkF m 107 #[.val (.ref a1), .val (.int p2)] [(.ref a1)])) _
        refine st141 _ ?_
        show Steps p.tables e below (T141.setTop (mkF m 110 #[.val (.ref a1), .val (.int p2)] [(.int q)])) _
        refine XS.bipush X141.here hx rfl (hb hby d11_110) ?_
        show Steps p.tables e below (T141.setTop (mkF m 112 #[.val (.ref a1), .val (.int p2)] [(.int (34 : Int32)), (.int q)])) _
        exact kt
      by_cases hc112_143 : q = (34 : Int32)
      · skip
        have pre144 : ∀ t, Steps p.tables e below (T141.setTop (mkF m 118 #[.val (.ref a1), .val (.int p2)] [(.int (34 : Int32)), (.int p2)])) t → Steps p.tables e below (s₁.setTop (entryFrame m #[(.ref a1), (.int p2)] 2)) t := fun t kt => by
          refine pre142 t ?_
          show Steps p.tables e below (T141.setTop (mkF m 112 #[.val (.ref a1), .val (.int p2)] [(.int (34 : Int32)), (.int q)])) _
          refine XS.icmpNo X141.here hx rfl (hb hby d11_112) rfl (teq (hc112_143 : q = (34 : Int32))).2 ?_
          show Steps p.tables e below (T141.setTop (mkF m 115 #[.val (.ref a1), .val (.int p2)] [])) _
          refine XS.iloadN X141.here hx rfl (hb hby d11_115) rfl ?_
          show Steps p.tables e below (T141.setTop (mkF m 116 #[.val (.ref a1), .val (.int p2)] [(.int p2)])) _
          refine XS.bipush X141.here hx rfl (hb hby d11_116) ?_
          show Steps p.tables e below (T141.setTop (mkF m 118 #[.val (.ref a1), .val (.int p2)] [(.int (34 : Int32)), (.int p2)])) _
          exact kt
        by_cases hc118_145 : p2 = (34 : Int32)
        · skip
          obtain ⟨T146, h146, X146, e146, W146, st146⟩ := putFN X141 hx hZ hown (hw _ (List.mem_of_getElem? (i := 71) rfl)) Via.refl e141 H4 H2 (Or.inl (hw _ (List.mem_of_getElem? (i := 72) rfl))) (hw _ (List.mem_of_getElem? (i := 9) rfl)) (ty := .char) (v' := (.int (nar .char (0 : Int32)))) (by decide) rfl (fits_nar_char _) (g := (mkF m 123 #[.val (.ref a1), .val (.int p2)] [(.int (0 : Int32)), (.ref a1)])) rfl rfl (hb hby d11_123)
          rw [show nar .char (0 : Int32) = (0 : Int32) from by decide] at W146
          have Fw146 := H4.same W146
          have Hc147 := CHv.wr W146 (Safe.exa hZ.alike H2 (by decide) (by decide)) hH
          have Cr147 := Cr0.trans (CHr.wr W146 (Safe.exa hZ.alike H2 (by decide) (by decide)) hH)
          have N146 := Fr.snoc X146 N0 H18
          have f148 : Fld Z h146 a1 "com/example/rouse/rouse/shell/ShellWords" "escaped" "Z" (.int e_) := (H5.other W146 (Or.inr (slot_ne (Or.inl (hw _ (List.mem_of_getElem? (i := 70) rfl))) (Or.inl (hw _ (List.mem_of_getElem? (i := 72) rfl))) (by decide) (t := .boolean) (t' := .char) (by decide) (by decide))))
          have f149 : Fld Z h146 a1 "com/example/rouse/rouse/shell/ShellWords" "inComment" "Z" (.int ic) := (H7.other W146 (Or.inr (slot_ne (Or.inl (hw _ (List.mem_of_getElem? (i := 64) rfl))) (Or.inl (hw _ (List.mem_of_getElem? (i := 72) rfl))) (by decide) (t := .boolean) (t' := .char) (by decide) (by decide))))
          have f150 : Fld Z h146 a1 "com/example/rouse/rouse/shell/ShellWords" "line" "Lcom/example/rouse/rouse/shell/CommandLine;" (.ref cl) := (H3.other W146 (Or.inr (slot_ne (Or.inl (hw _ (List.mem_of_getElem? (i := 39) rfl))) (Or.inl (hw _ (List.mem_of_getElem? (i := 72) rfl))) (by decide) (t := (.object "com/example/rouse/rouse/shell/CommandLine")) (t' := .char) (by decide) (by decide))))
          have f151 : Fld Z h146 a1 "com/example/rouse/rouse/shell/ShellWords" "inWord" "Z" (.int iw) := (H6.other W146 (Or.inr (slot_ne (Or.inl (hw _ (List.mem_of_getElem? (i := 81) rfl))) (Or.inl (hw _ (List.mem_of_getElem? (i := 72) rfl))) (by decide) (t := .boolean) (t' := .char) (by decide) (by decide))))
          have f152 : Fld Z h146 a1 "com/example/rouse/rouse/shell/ShellWords" "length" "I" (.int len) := (H8.other W146 (Or.inr (slot_ne (Or.inl (hw _ (List.mem_of_getElem? (i := 46) rfl))) (Or.inl (hw _ (List.mem_of_getElem? (i := 72) rfl))) (by decide) (t := .int) (t' := .char) (by decide) (by decide))))
          have f153 : Fld Z h146 a1 "com/example/rouse/rouse/shell/ShellWords" "skippingLine" "Z" (.int (0 : Int32)) := (H9.other W146 (Or.inr (slot_ne (Or.inl (hw _ (List.mem_of_getElem? (i := 56) rfl))) (Or.inl (hw _ (List.mem_of_getElem? (i := 72) rfl))) (by decide) (t := .boolean) (t' := .char) (by decide) (by decide))))
          have ne154 : cl ≠ a1 := ne_exa H10 H2 (by decide)
          have f155 : Fld Z h146 cl "com/example/rouse/rouse/shell/CommandLine" "words" "I" (.int w) := (H11.other W146 (Or.inl ne154))
          have f156 : Fld Z h146 cl "com/example/rouse/rouse/shell/CommandLine" "commandStart" "I" (.int cs) := (H12.other W146 (Or.inl ne154))
          have f157 : Fld Z h146 cl "com/example/rouse/rouse/shell/CommandLine" "length" "I" (.int n) := (H13.other W146 (Or.inl ne154))
          have f158 : Fld Z h146 cl "com/example/rouse/rouse/shell/CommandLine" "characters" "[C" (.ref cb) := (H14.other W146 (Or.inl ne154))
          have f159 : Fld Z h146 cl "com/example/rouse/rouse/shell/CommandLine" "wordEnds" "[I" (.ref wb) := (H15.other W146 (Or.inl ne154))
          have ne160 : a1 ≠ cb := Exa.neArv H2 H16 (hw _ (List.mem_of_getElem? (i := 9) rfl))
          have f161 : Arv Z h146 cb ck .char (16 : Int32) cvs (.int (0 : Int32)) := (H16.other W146 (Ne.symm ne160))
          have ne162 : a1 ≠ wb := Exa.neArv H2 H17 (hw _ (List.mem_of_getElem? (i := 9) rfl))
          have f163 : Arv Z h146 wb wk .int (16 : Int32) wvs (.int (0 : Int32)) := (H17.other W146 (Ne.symm ne162))
          obtain ⟨fs, hr, hrun, hended, hEnd⟩ := X146.leaveW hS0 (by rw [e146]; exact (Nat.le_trans (Nat.zero_le _) (Nat.le_of_eq W146.size.symm))) (v := none) (fun _ => rfl)
          refine ⟨_, _, pre144 _ ?_, hrun, hended, _, _, rfl, ?_, (show CHr Z own_EL s.vm s.heap T146.vm T146.heap from by rw [hh, e146]; exact Cr147.trans (CHv.at X146 hZ hEL Hc147)), hEnd.1, hEnd.2.1, hEnd.2.2.1, hEnd.2.2.2.mono (by decide) (by decide)⟩
          · skip
            show Steps p.tables e below (T141.setTop (mkF m 118 #[.val (.ref a1), .val (.int p2)] [(.int (34 : Int32)), (.int p2)])) _
            refine XS.icmpNo X141.here hx rfl (hb hby d11_118) rfl (teq (hc118_145 : p2 = (34 : Int32))).2 ?_
            show Steps p.tables e below (T141.setTop (mkF m 121 #[.val (.ref a1), .val (.int p2)] [])) _
            refine XS.aloadN X141.here hx rfl (hb hby d11_121) rfl rfl ?_
            show Steps p.tables e below (T141.setTop (mkF m 122 #[.val (.ref a1), .val (.int p2)] [(.ref a1)])) _
            refine XS.iconst X141.here hx rfl (hb hby d11_122) ?_
            show Steps p.tables e below (T141.setTop (mkF m 123 #[.val (.ref a1), .val (.int p2)] [(.int (0 : Int32)), (.ref a1)])) _
            refine st146 _ ?_
            show Steps p.tables e below (T146.setTop (mkF m 126 #[.val (.ref a1), .val (.int p2)] [])) _
            refine XS.goto X146.here hx rfl (pc0 := 126) (pc' := 284) rfl (hb hby d11_126) (by decide) (by decide) ?_
            show Steps p.tables e below (T146.setTop (mkF m 284 #[.val (.ref a1), .val (.int p2)] [])) _
            exact X146.returnOut hx Bd.returns (hb hby d11_284) hr
          · show Q11 Z a1 p2 cz cl w cs n cb ck cvs wb wk wvs q e_ iw ic len k h0 n0 _ T146.heap _
            rw [e146]
            exact ⟨iw, w, n, cvs, wvs, rfl, N146, ((Keep.refl h0 [a1, cl, cb, wb]).wr W146 (Or.inl (List.mem_of_getElem? (i := 0) rfl))), f150, (by simpa only [own_rq, eq_true hc4_103, eq_false hc78_106, eq_true hc112_143, eq_true hc118_145, if_true, if_false] using Fw146), (by simpa only [own_re, eq_true hc4_103, eq_false hc78_106, eq_true hc112_143, eq_true hc118_145, if_true, if_false] using f148), f151, (by simpa only [own_ric, eq_true hc4_103, eq_false hc78_106, eq_true hc112_143, eq_true hc118_145, if_true, if_false] using f149), f152, f153, f155, f156, f157, f158, f159, f161, f163, H23, H24, (by obtain ⟨o1, o2, o3, o4, o5, o6⟩ := H25; have i1 := own_inc o1 o2 (by omega); have i2 := own_inc o5 o6 (by omega); have i3 := own_inc i2.1 i2.2 (by omega); exact ⟨by omega, by omega, by omega, by omega, by omega, by omega⟩)⟩
        · skip
          have pre164 : ∀ t, Steps p.tables e below (T141.setTop (mkF m 132 #[.val (.ref a1), .val (.int p2)] [(.int (92 : Int32)), (.int p2)])) t → Steps p.tables e below (s₁.setTop (entryFrame m #[(.ref a1), (.int p2)] 2)) t := fun t kt => by
            refine pre144 t ?_
            show Steps p.tables e below (T141.setTop (mkF m 118 #[.val (.ref a1), .val (.int p2)] [(.int (34 : Int32)), (.int p2)])) _
            refine XS.icmpYes X141.here hx rfl (pc0 := 118) (pc' := 129) rfl (hb hby d11_118) rfl (feq (hc118_145 : ¬ (p2 = (34 : Int32)))).2 (by decide) (by decide) ?_
            show Steps p.tables e below (T141.setTop (mkF m 129 #[.val (.ref a1), .val (.int p2)] [])) _
            refine XS.iloadN X141.here hx rfl (hb hby d11_129) rfl ?_
            show Steps p.tables e below (T141.setTop (mkF m 130 #[.val (.ref a1), .val (.int p2)] [(.int p2)])) _
            refine XS.bipush X141.here hx rfl (hb hby d11_130) ?_
            show Steps p.tables e below (T141.setTop (mkF m 132 #[.val (.ref a1), .val (.int p2)] [(.int (92 : Int32)), (.int p2)])) _
            exact kt
          by_cases hc132_165 : p2 = (92 : Int32)
          · skip
            obtain ⟨T166, h166, X166, e166, W166, st166⟩ := putFN X141 hx hZ hown (hw _ (List.mem_of_getElem? (i := 69) rfl)) Via.refl e141 H5 H2 (Or.inl (hw _ (List.mem_of_getElem? (i := 70) rfl))) (hw _ (List.mem_of_getElem? (i := 9) rfl)) (ty := .boolean) (v' := (.int (nar .boolean (1 : Int32)))) (by decide) rfl (fits_nar_bool _) (g := (mkF m 137 #[.val (.ref a1), .val (.int p2)] [(.int (1 : Int32)), (.ref a1)])) rfl rfl (hb hby d11_137)
            rw [show nar .boolean (1 : Int32) = (1 : Int32) from by decide] at W166
            have Fw166 := H5.same W166
            have Hc167 := CHv.wr W166 (Safe.exa hZ.alike H2 (by decide) (by decide)) hH
            have Cr167 := Cr0.trans (CHr.wr W166 (Safe.exa hZ.alike H2 (by decide) (by decide)) hH)
            have N166 := Fr.snoc X166 N0 H18
            have f168 : Fld Z h166 a1 "com/example/rouse/rouse/shell/ShellWords" "quote" "C" (.int q) := (H4.other W166 (Or.inr (slot_ne (Or.inl (hw _ (List.mem_of_getElem? (i := 72) rfl))) (Or.inl (hw _ (List.mem_of_getElem? (i := 70) rfl))) (by decide) (t := .char) (t' := .boolean) (by decide) (by decide))))
            have f169 : Fld Z h166 a1 "com/example/rouse/rouse/shell/ShellWords" "inComment" "Z" (.int ic) := (H7.other W166 (Or.inr (slot_ne (Or.inl (hw _ (List.mem_of_getElem? (i := 64) rfl))) (Or.inl (hw _ (List.mem_of_getElem? (i := 70) rfl))) (by decide) (t := .boolean) (t' := .boolean) (by decide) (by decide))))
            have f170 : Fld Z h166 a1 "com/example/rouse/rouse/shell/ShellWords" "line" "Lcom/example/rouse/rouse/shell/CommandLine;" (.ref cl) := (H3.other W166 (Or.inr (slot_ne (Or.inl (hw _ (List.mem_of_getElem? (i := 39) rfl))) (Or.inl (hw _ (List.mem_of_getElem? (i := 70) rfl))) (by decide) (t := (.object "com/example/rouse/rouse/shell/CommandLine")) (t' := .boolean) (by decide) (by decide))))
            have f171 : Fld Z h166 a1 "com/example/rouse/rouse/shell/ShellWords" "inWord" "Z" (.int iw) := (H6.other W166 (Or.inr (slot_ne (Or.inl (hw _ (List.mem_of_getElem? (i := 81) rfl))) (Or.inl (hw _ (List.mem_of_getElem? (i := 70) rfl))) (by decide) (t := .boolean) (t' := .boolean) (by decide) (by decide))))
            have f172 : Fld Z h166 a1 "com/example/rouse/rouse/shell/ShellWords" "length" "I" (.int len) := (H8.other W166 (Or.inr (slot_ne (Or.inl (hw _ (List.mem_of_getElem? (i := 46) rfl))) (Or.inl (hw _ (List.mem_of_getElem? (i := 70) rfl))) (by decide) (t := .int) (t' := .boolean) (by decide) (by decide))))
            have f173 : Fld Z h166 a1 "com/example/rouse/rouse/shell/ShellWords" "skippingLine" "Z" (.int (0 : Int32)) := (H9.other W166 (Or.inr (slot_ne (Or.inl (hw _ (List.mem_of_getElem? (i := 56) rfl))) (Or.inl (hw _ (List.mem_of_getElem? (i := 70) rfl))) (by decide) (t := .boolean) (t' := .boolean) (by decide) (by decide))))
            have ne174 : cl ≠ a1 := ne_exa H10 H2 (by decide)
            have f175 : Fld Z h166 cl "com/example/rouse/rouse/shell/CommandLine" "words" "I" (.int w) := (H11.other W166 (Or.inl ne174))
            have f176 : Fld Z h166 cl "com/example/rouse/rouse/shell/CommandLine" "commandStart" "I" (.int cs) := (H12.other W166 (Or.inl ne174))
            have f177 : Fld Z h166 cl "com/example/rouse/rouse/shell/CommandLine" "length" "I" (.int n) := (H13.other W166 (Or.inl ne174))
            have f178 : Fld Z h166 cl "com/example/rouse/rouse/shell/CommandLine" "characters" "[C" (.ref cb) := (H14.other W166 (Or.inl ne174))
            have f179 : Fld Z h166 cl "com/example/rouse/rouse/shell/CommandLine" "wordEnds" "[I" (.ref wb) := (H15.other W166 (Or.inl ne174))
            have ne180 : a1 ≠ cb := Exa.neArv H2 H16 (hw _ (List.mem_of_getElem? (i := 9) rfl))
            have f181 : Arv Z h166 cb ck .char (16 : Int32) cvs (.int (0 : Int32)) := (H16.other W166 (Ne.symm ne180))
            have ne182 : a1 ≠ wb := Exa.neArv H2 H17 (hw _ (List.mem_of_getElem? (i := 9) rfl))
            have f183 : Arv Z h166 wb wk .int (16 : Int32) wvs (.int (0 : Int32)) := (H17.other W166 (Ne.symm ne182))
            obtain ⟨fs, hr, hrun, hended, hEnd⟩ := X166.leaveW hS0 (by rw [e166]; exact (Nat.le_trans (Nat.zero_le _) (Nat.le_of_eq W166.size.symm))) (v := none) (fun _ => rfl)
            refine ⟨_, _, pre164 _ ?_, hrun, hended, _, _, rfl, ?_, (show CHr Z own_EL s.vm s.heap T166.vm T166.heap from by rw [hh, e166]; exact Cr167.trans (CHv.at X166 hZ hEL Hc167)), hEnd.1, hEnd.2.1, hEnd.2.2.1, hEnd.2.2.2.mono (by decide) (by decide)⟩
            · skip
              show Steps p.tables e below (T141.setTop (mkF m 132 #[.val (.ref a1), .val (.int p2)] [(.int (92 : Int32)), (.int p2)])) _
              refine XS.icmpNo X141.here hx rfl (hb hby d11_132) rfl (teq (hc132_165 : p2 = (92 : Int32))).2 ?_
              show Steps p.tables e below (T141.setTop (mkF m 135 #[.val (.ref a1), .val (.int p2)] [])) _
              refine XS.aloadN X141.here hx rfl (hb hby d11_135) rfl rfl ?_
              show Steps p.tables e below (T141.setTop (mkF m 136 #[.val (.ref a1), .val (.int p2)] [(.ref a1)])) _
              refine XS.iconst X141.here hx rfl (hb hby d11_136) ?_
              show Steps p.tables e below (T141.setTop (mkF m 137 #[.val (.ref a1), .val (.int p2)] [(.int (1 : Int32)), (.ref a1)])) _
              refine st166 _ ?_
              show Steps p.tables e below (T166.setTop (mkF m 140 #[.val (.ref a1), .val (.int p2)] [])) _
              refine XS.goto X166.here hx rfl (pc0 := 140) (pc' := 284) rfl (hb hby d11_140) (by decide) (by decide) ?_
              show Steps p.tables e below (T166.setTop (mkF m 284 #[.val (.ref a1), .val (.int p2)] [])) _
              exact X166.returnOut hx Bd.returns (hb hby d11_284) hr
            · show Q11 Z a1 p2 cz cl w cs n cb ck cvs wb wk wvs q e_ iw ic len k h0 n0 _ T166.heap _
              rw [e166]
              exact ⟨iw, w, n, cvs, wvs, rfl, N166, ((Keep.refl h0 [a1, cl, cb, wb]).wr W166 (Or.inl (List.mem_of_getElem? (i := 0) rfl))), f170, (by simpa only [own_rq, eq_true hc4_103, eq_false hc78_106, eq_true hc112_143, eq_false hc118_145, eq_true hc132_165, if_true, if_false] using f168), (by simpa only [own_re, eq_true hc4_103, eq_false hc78_106, eq_true hc112_143, eq_false hc118_145, eq_true hc132_165, if_true, if_false] using Fw166), f171, (by simpa only [own_ric, eq_true hc4_103, eq_false hc78_106, eq_true hc112_143, eq_false hc118_145, eq_true hc132_165, if_true, if_false] using f169), f172, f173, f175, f176, f177, f178, f179, f181, f183, H23, H24, (by obtain ⟨o1, o2, o3, o4, o5, o6⟩ := H25; have i1 := own_inc o1 o2 (by omega); have i2 := own_inc o5 o6 (by omega); have i3 := own_inc i2.1 i2.2 (by omega); exact ⟨by omega, by omega, by omega, by omega, by omega, by omega⟩)⟩
          · skip
            obtain ⟨T184, X184, e184, st184⟩ := getF X141 hx hZ hown (host := "") (Or.inl (hw _ (List.mem_of_getElem? (i := 38) rfl))) Via.refl e141 H3 (g := (mkF m 144 #[.val (.ref a1), .val (.int p2)] [(.ref a1)])) rfl rfl (hb hby d11_144)
            obtain ⟨cq185, kq185, q185a, q185b, q185c⟩ := isOf hZ e184 H10
            obtain ⟨_, _, ⟨T185, L185, k185, n185⟩, -, X185, ⟨Lc185, hQ185, l185, y185, z185⟩, st185⟩ := X184.virtualBack hx (y := (⟨"com/example/rouse/rouse/shell/CommandLine", "append", "(C)V"⟩ : MethodName)) (z := (⟨"com/example/rouse/rouse/shell/CommandLine", "append", "(C)V"⟩ : MethodName)) hown (mvT hZ (hw _ (List.mem_of_getElem? (i := 73) rfl))) (mvT hZ (hw _ (List.mem_of_getElem? (i := 74) rfl))) (notFace_of_selects (args := #[]) (mvT hZ (hw _ (List.mem_of_getElem? (i := 76) rfl)))) (mvT hZ (hw _ (List.mem_of_getElem? (i := 76) rfl))) (mvT hZ (hw _ (List.mem_of_getElem? (i := 75) rfl))) (by decide) (backOf (W := 0) (rm12 l Z a0 hw [] cl p2 w cs n cb ck cvs wb h0 n0 Z0 H10 H11 H12 H13 H14 H15 H16 H19 H20 (own_in_of H25.2.2.2.2.1 H25.2.2.2.2.2 (by omega)) H23) hZ (hw _ (List.mem_of_getElem? (i := 77) rfl)) (hw _ (List.mem_of_getElem? (i := 22) rfl)) (by decide) (by decide)) q185a q185c (g := (mkF m 148 #[.val (.ref a1), .val (.int p2)] [(.int p2), (.ref cl)])) rfl (by rw [hml]; rfl) (Steps.refl _) (argsL := [(.int p2)]) (rest := []) (lenOf pd_9 rfl) rfl (by show 2 * 0 + _ ≤ _; exact Nat.le_of_eq rfl) (hb hby d11_148) (fun _ _ => ⟨rfl, e184, (by decide : 0 + 0 ≤ _), (by decide : 0 + 0 ≤ _)⟩)
            dsimp only [Pt.U, Pt.locs, Pt.cells, Pt.slots] at X185 l185 y185 z185 st185 hQ185
            subst l185 y185 z185
            obtain ⟨cvx185, rfl, Nq185, K185, R185_1, R185_2, R185_3, R185_4, R185_5, R185_6, R185_7⟩ := hQ185
            have N185 := Fr.app N0 Nq185
            have hs186 : ∀ x ∈ ([cl, cb] : List Addr), Safe Z own_EL s.vm h0 x := (allS (P := fun x => Safe Z own_EL s.vm h0 x) (Safe.exa hZ.alike H10 (by decide) (by decide)) (allS (P := fun x => Safe Z own_EL s.vm h0 x) (own_safe_arv hZ.alike H16 (by decide)) (all0 (P := fun x => Safe Z own_EL s.vm h0 x))))
            have Hc186 := CHv.keep K185 hs186 hH
            have Cr186 := Cr0.trans (CHr.keep K185 hs186 hH)
            have ne187 : a1 ≠ cb := Exa.neArv (H2.keep K185) R185_6 (hw _ (List.mem_of_getElem? (i := 9) rfl))
            have ne188 : a1 ≠ cl := ne_exa H2 H10 (by decide)
            have f189 : Fld Z T185.heap a1 "com/example/rouse/rouse/shell/ShellWords" "quote" "C" (.int q) := (H4.keep K185 (ninS ne188 (ninS ne187 nin0)))
            have f190 : Fld Z T185.heap a1 "com/example/rouse/rouse/shell/ShellWords" "escaped" "Z" (.int e_) := (H5.keep K185 (ninS ne188 (ninS ne187 nin0)))
            have f191 : Fld Z T185.heap a1 "com/example/rouse/rouse/shell/ShellWords" "inComment" "Z" (.int ic) := (H7.keep K185 (ninS ne188 (ninS ne187 nin0)))
            have f192 : Fld Z T185.heap a1 "com/example/rouse/rouse/shell/ShellWords" "line" "Lcom/example/rouse/rouse/shell/CommandLine;" (.ref cl) := (H3.keep K185 (ninS ne188 (ninS ne187 nin0)))
            have f193 : Fld Z T185.heap a1 "com/example/rouse/rouse/shell/ShellWords" "inWord" "Z" (.int iw) := (H6.keep K185 (ninS ne188 (ninS ne187 nin0)))
            have f194 : Fld Z T185.heap a1 "com/example/rouse/rouse/shell/ShellWords" "length" "I" (.int len) := (H8.keep K185 (ninS ne188 (ninS ne187 nin0)))
            have f195 : Fld Z T185.heap a1 "com/example/rouse/rouse/shell/ShellWords" "skippingLine" "Z" (.int (0 : Int32)) := (H9.keep K185 (ninS ne188 (ninS ne187 nin0)))
            have ne196 : cl ≠ wb := Exa.neArv H10 H17 (hw _ (List.mem_of_getElem? (i := 21) rfl))
            have f197 : Arv Z T185.heap wb wk .int (16 : Int32) wvs (.int (0 : Int32)) := (H17.keep K185 (ninS (Ne.symm ne196) (ninS (Ne.symm H22) nin0)))
            obtain ⟨fs, hr, hrun, hended, hEnd⟩ := X185.leaveW hS0 (Nat.le_trans (Nat.zero_le _) K185.1) (v := none) (fun _ => rfl)
            refine ⟨_, _, pre164 _ ?_, hrun, hended, _, _, rfl, ?_, (show CHr Z own_EL s.vm s.heap T185.vm T185.heap from by rw [hh]; exact Cr186.trans (CHv.at X185 hZ hEL Hc186)), hEnd.1, hEnd.2.1, hEnd.2.2.1, hEnd.2.2.2.mono (by decide) (by decide)⟩
            · skip
              show Steps p.tables e below (T141.setTop (mkF m 132 #[.val (.ref a1), .val (.int p2)] [(.int (92 : Int32)), (.int p2)])) _
              refine XS.icmpYes X141.here hx rfl (pc0 := 132) (pc' := 143) rfl (hb hby d11_132) rfl (feq (hc132_165 : ¬ (p2 = (92 : Int32)))).2 (by decide) (by decide) ?_
              show Steps p.tables e below (T141.setTop (mkF m 143 #[.val (.ref a1), .val (.int p2)] [])) _
              refine XS.aloadN X141.here hx rfl (hb hby d11_143) rfl rfl ?_
              show Steps p.tables e below (T141.setTop (mkF m 144 #[.val (.ref a1), .val (.int p2)] [(.ref a1)])) _
              refine st184 _ ?_
              show Steps p.tables e below (T184.setTop (mkF m 147 #[.val (.ref a1), .val (.int p2)] [(.ref cl)])) _
              refine XS.iloadN X184.here hx rfl (hb hby d11_147) rfl ?_
              show Steps p.tables e below (T184.setTop (mkF m 148 #[.val (.ref a1), .val (.int p2)] [(.int p2), (.ref cl)])) _
              refine st185.trans ?_
              show Steps p.tables e below (T185.setTop (mkF m 151 #[.val (.ref a1), .val (.int p2)] [])) _
              refine XS.goto X185.here hx rfl (pc0 := 151) (pc' := 284) rfl (hb hby d11_151) (by decide) (by decide) ?_
              show Steps p.tables e below (T185.setTop (mkF m 284 #[.val (.ref a1), .val (.int p2)] [])) _
              exact X185.returnOut hx Bd.returns (hb hby d11_284) hr
            · show Q11 Z a1 p2 cz cl w cs n cb ck cvs wb wk wvs q e_ iw ic len k h0 n0 _ T185.heap _
              exact ⟨iw, w, (n + (1 : Int32)), cvx185, wvs, rfl, N185, ((Keep.refl h0 [a1, cl, cb, wb]).trans K185 (allS (P := (fun x => x ∈ [a1, cl, cb, wb] ∨ h0.size ≤ x)) (Or.inl (List.mem_of_getElem? (i := 1) rfl)) (allS (P := (fun x => x ∈ [a1, cl, cb, wb] ∨ h0.size ≤ x)) (Or.inl (List.mem_of_getElem? (i := 2) rfl)) all0))), f192, (by simpa only [own_rq, eq_true hc4_103, eq_false hc78_106, eq_true hc112_143, eq_false hc118_145, eq_false hc132_165, if_true, if_false] using f189), (by simpa only [own_re, eq_true hc4_103, eq_false hc78_106, eq_true hc112_143, eq_false hc118_145, eq_false hc132_165, if_true, if_false] using f190), f193, (by simpa only [own_ric, eq_true hc4_103, eq_false hc78_106, eq_true hc112_143, eq_false hc118_145, eq_false hc132_165, if_true, if_false] using f191), f194, f195, R185_1, R185_2, R185_3, R185_4, R185_5, R185_6, f197, R185_7, H24, (by obtain ⟨o1, o2, o3, o4, o5, o6⟩ := H25; have i1 := own_inc o1 o2 (by omega); have i2 := own_inc o5 o6 (by omega); have i3 := own_inc i2.1 i2.2 (by omega); exact ⟨by omega, by omega, by omega, by omega, by omega, by omega⟩)⟩
      · skip
        have pre198 : ∀ t, Steps p.tables e below (T141.setTop (mkF m 157 #[.val (.ref a1), .val (.int p2)] [(.int (39 : Int32)), (.int p2)])) t → Steps p.tables e below (s₁.setTop (entryFrame m #[(.ref a1), (.int p2)] 2)) t := fun t kt => by
          refine pre142 t ?_
          show Steps p.tables e below (T141.setTop (mkF m 112 #[.val (.ref a1), .val (.int p2)] [(.int (34 : Int32)), (.int q)])) _
          refine XS.icmpYes X141.here hx rfl (pc0 := 112) (pc' := 154) rfl (hb hby d11_112) rfl (feq (hc112_143 : ¬ (q = (34 : Int32)))).2 (by decide) (by decide) ?_
          show Steps p.tables e below (T141.setTop (mkF m 154 #[.val (.ref a1), .val (.int p2)] [])) _
          refine XS.iloadN X141.here hx rfl (hb hby d11_154) rfl ?_
          show Steps p.tables e below (T141.setTop (mkF m 155 #[.val (.ref a1), .val (.int p2)] [(.int p2)])) _
          refine XS.bipush X141.here hx rfl (hb hby d11_155) ?_
          show Steps p.tables e below (T141.setTop (mkF m 157 #[.val (.ref a1), .val (.int p2)] [(.int (39 : Int32)), (.int p2)])) _
          exact kt
        by_cases hc157_199 : p2 = (39 : Int32)
        · skip
          obtain ⟨T200, h200, X200, e200, W200, st200⟩ := putFN X141 hx hZ hown (hw _ (List.mem_of_getElem? (i := 71) rfl)) Via.refl e141 H4 H2 (Or.inl (hw _ (List.mem_of_getElem? (i := 72) rfl))) (hw _ (List.mem_of_getElem? (i := 9) rfl)) (ty := .char) (v' := (.int (nar .char p2))) (by decide) rfl (fits_nar_char _) (g := (mkF m 168 #[.val (.ref a1), .val (.int p2)] [(.int p2), (.ref a1)])) rfl rfl (hb hby d11_168)
          have Fw200 := H4.same W200
          have Hc201 := CHv.wr W200 (Safe.exa hZ.alike H2 (by decide) (by decide)) hH
          have Cr201 := Cr0.trans (CHr.wr W200 (Safe.exa hZ.alike H2 (by decide) (by decide)) hH)
          have N200 := Fr.snoc X200 N0 H18
          have f202 : Fld Z h200 a1 "com/example/rouse/rouse/shell/ShellWords" "inWord" "Z" (.int iw) := (H6.other W200 (Or.inr (slot_ne (Or.inl (hw _ (List.mem_of_getElem? (i := 81) rfl))) (Or.inl (hw _ (List.mem_of_getElem? (i := 72) rfl))) (by decide) (t := .boolean) (t' := .char) (by decide) (by decide))))
          have f203 : Exa Z h200 a1 "com/example/rouse/rouse/shell/ShellWords" := (H2.wr W200)
          obtain ⟨T204, h204, X204, e204, W204, st204⟩ := putFN X200 hx hZ hown (hw _ (List.mem_of_getElem? (i := 80) rfl)) Via.refl e200 f202 f203 (Or.inl (hw _ (List.mem_of_getElem? (i := 81) rfl))) (hw _ (List.mem_of_getElem? (i := 9) rfl)) (ty := .boolean) (v' := (.int (nar .boolean (1 : Int32)))) (by decide) rfl (fits_nar_bool _) (g := (mkF m 173 #[.val (.ref a1), .val (.int p2)] [(.int (1 : Int32)), (.ref a1)])) rfl rfl (hb hby d11_173)
          rw [show nar .boolean (1 : Int32) = (1 : Int32) from by decide] at W204
          have Fw204 := f202.same W204
          have Hc205 := CHv.wr W204 (Safe.exa hZ.alike f203 (by decide) (by decide)) Hc201
          have Cr205 := Cr201.trans (CHr.wr W204 (Safe.exa hZ.alike f203 (by decide) (by decide)) Hc201)
          have N204 := Fr.snoc X204 N200 H18
          have f206 : Fld Z h204 a1 "com/example/rouse/rouse/shell/ShellWords" "quote" "C" (.int (nar .char p2)) := (Fw200.other W204 (Or.inr (slot_ne (Or.inl (hw _ (List.mem_of_getElem? (i := 72) rfl))) (Or.inl (hw _ (List.mem_of_getElem? (i := 81) rfl))) (by decide) (t := .char) (t' := .boolean) (by decide) (by decide))))
          have f207 : Fld Z h204 a1 "com/example/rouse/rouse/shell/ShellWords" "escaped" "Z" (.int e_) := ((H5.other W200 (Or.inr (slot_ne (Or.inl (hw _ (List.mem_of_getElem? (i := 70) rfl))) (Or.inl (hw _ (List.mem_of_getElem? (i := 72) rfl))) (by decide) (t := .boolean) (t' := .char) (by decide) (by decide)))).other W204 (Or.inr (slot_ne (Or.inl (hw _ (List.mem_of_getElem? (i := 70) rfl))) (Or.inl (hw _ (List.mem_of_getElem? (i := 81) rfl))) (by decide) (t := .boolean) (t' := .boolean) (by decide) (by decide))))
          have f208 : Fld Z h204 a1 "com/example/rouse/rouse/shell/ShellWords" "inComment" "Z" (.int ic) := ((H7.other W200 (Or.inr (slot_ne (Or.inl (hw _ (List.mem_of_getElem? (i := 64) rfl))) (Or.inl (hw _ (List.mem_of_getElem? (i := 72) rfl))) (by decide) (t := .boolean) (t' := .char) (by decide) (by decide)))).other W204 (Or.inr (slot_ne (Or.inl (hw _ (List.mem_of_getElem? (i := 64) rfl))) (Or.inl (hw _ (List.mem_of_getElem? (i := 81) rfl))) (by decide) (t := .boolean) (t' := .boolean) (by decide) (by decide))))
          have hnq : nar .char p2 = (39 : Int32) := by rw [hc157_199]; rfl
          have f209 : Fld Z h204 a1 "com/example/rouse/rouse/shell/ShellWords" "line" "Lcom/example/rouse/rouse/shell/CommandLine;" (.ref cl) := ((H3.other W200 (Or.inr (slot_ne (Or.inl (hw _ (List.mem_of_getElem? (i := 39) rfl))) (Or.inl (hw _ (List.mem_of_getElem? (i := 72) rfl))) (by decide) (t := (.object "com/example/rouse/rouse/shell/CommandLine")) (t' := .char) (by decide) (by decide)))).other W204 (Or.inr (slot_ne (Or.inl (hw _ (List.mem_of_getElem? (i := 39) rfl))) (Or.inl (hw _ (List.mem_of_getElem? (i := 81) rfl))) (by decide) (t := (.object "com/example/rouse/rouse/shell/CommandLine")) (t' := .boolean) (by decide) (by decide))))
          have f210 : Fld Z h204 a1 "com/example/rouse/rouse/shell/ShellWords" "length" "I" (.int len) := ((H8.other W200 (Or.inr (slot_ne (Or.inl (hw _ (List.mem_of_getElem? (i := 46) rfl))) (Or.inl (hw _ (List.mem_of_getElem? (i := 72) rfl))) (by decide) (t := .int) (t' := .char) (by decide) (by decide)))).other W204 (Or.inr (slot_ne (Or.inl (hw _ (List.mem_of_getElem? (i := 46) rfl))) (Or.inl (hw _ (List.mem_of_getElem? (i := 81) rfl))) (by decide) (t := .int) (t' := .boolean) (by decide) (by decide))))
          have f211 : Fld Z h204 a1 "com/example/rouse/rouse/shell/ShellWords" "skippingLine" "Z" (.int (0 : Int32)) := ((H9.other W200 (Or.inr (slot_ne (Or.inl (hw _ (List.mem_of_getElem? (i := 56) rfl))) (Or.inl (hw _ (List.mem_of_getElem? (i := 72) rfl))) (by decide) (t := .boolean) (t' := .char) (by decide) (by decide)))).other W204 (Or.inr (slot_ne (Or.inl (hw _ (List.mem_of_getElem? (i := 56) rfl))) (Or.inl (hw _ (List.mem_of_getElem? (i := 81) rfl))) (by decide) (t := .boolean) (t' := .boolean) (by decide) (by decide))))
          have ne212 : cl ≠ a1 := ne_exa (H10.wr W200) f203 (by decide)
          have f213 : Fld Z h204 cl "com/example/rouse/rouse/shell/CommandLine" "words" "I" (.int w) := ((H11.other W200 (Or.inl ne212)).other W204 (Or.inl ne212))
          have f214 : Fld Z h204 cl "com/example/rouse/rouse/shell/CommandLine" "commandStart" "I" (.int cs) := ((H12.other W200 (Or.inl ne212)).other W204 (Or.inl ne212))
          have f215 : Fld Z h204 cl "com/example/rouse/rouse/shell/CommandLine" "length" "I" (.int n) := ((H13.other W200 (Or.inl ne212)).other W204 (Or.inl ne212))
          have f216 : Fld Z h204 cl "com/example/rouse/rouse/shell/CommandLine" "characters" "[C" (.ref cb) := ((H14.other W200 (Or.inl ne212)).other W204 (Or.inl ne212))
          have f217 : Fld Z h204 cl "com/example/rouse/rouse/shell/CommandLine" "wordEnds" "[I" (.ref wb) := ((H15.other W200 (Or.inl ne212)).other W204 (Or.inl ne212))
          have ne218 : a1 ≠ cb := Exa.neArv H2 H16 (hw _ (List.mem_of_getElem? (i := 9) rfl))
          have f219 : Arv Z h204 cb ck .char (16 : Int32) cvs (.int (0 : Int32)) := ((H16.other W200 (Ne.symm ne218)).other W204 (Ne.symm ne218))
          have ne220 : a1 ≠ wb := Exa.neArv H2 H17 (hw _ (List.mem_of_getElem? (i := 9) rfl))
          have f221 : Arv Z h204 wb wk .int (16 : Int32) wvs (.int (0 : Int32)) := ((H17.other W200 (Ne.symm ne220)).other W204 (Ne.symm ne220))
          obtain ⟨fs, hr, hrun, hended, hEnd⟩ := X204.leaveW hS0 (by rw [e204]; exact (Nat.le_trans (Nat.le_trans (Nat.zero_le _) (Nat.le_of_eq W200.size.symm)) (Nat.le_of_eq W204.size.symm))) (v := none) (fun _ => rfl)
          refine ⟨_, _, pre198 _ ?_, hrun, hended, _, _, rfl, ?_, (show CHr Z own_EL s.vm s.heap T204.vm T204.heap from by rw [hh, e204]; exact Cr205.trans (CHv.at X204 hZ hEL Hc205)), hEnd.1, hEnd.2.1, hEnd.2.2.1, hEnd.2.2.2.mono (by decide) (by decide)⟩
          · skip
            show Steps p.tables e below (T141.setTop (mkF m 157 #[.val (.ref a1), .val (.int p2)] [(.int (39 : Int32)), (.int p2)])) _
            refine XS.icmpYes X141.here hx rfl (pc0 := 157) (pc' := 166) rfl (hb hby d11_157) rfl (teq (hc157_199 : p2 = (39 : Int32))).1 (by decide) (by decide) ?_
            show Steps p.tables e below (T141.setTop (mkF m 166 #[.val (.ref a1), .val (.int p2)] [])) _
            refine XS.aloadN X141.here hx rfl (hb hby d11_166) rfl rfl ?_
            show Steps p.tables e below (T141.setTop (mkF m 167 #[.val (.ref a1), .val (.int p2)] [(.ref a1)])) _
            refine XS.iloadN X141.here hx rfl (hb hby d11_167) rfl ?_
            show Steps p.tables e below (T141.setTop (mkF m 168 #[.val (.ref a1), .val (.int p2)] [(.int p2), (.ref a1)])) _
            refine st200 _ ?_
            show Steps p.tables e below (T200.setTop (mkF m 171 #[.val (.ref a1), .val (.int p2)] [])) _
            refine XS.aloadN X200.here hx rfl (hb hby d11_171) rfl rfl ?_
            show Steps p.tables e below (T200.setTop (mkF m 172 #[.val (.ref a1), .val (.int p2)] [(.ref a1)])) _
            refine XS.iconst X200.here hx rfl (hb hby d11_172) ?_
            show Steps p.tables e below (T200.setTop (mkF m 173 #[.val (.ref a1), .val (.int p2)] [(.int (1 : Int32)), (.ref a1)])) _
            refine st204 _ ?_
            show Steps p.tables e below (T204.setTop (mkF m 176 #[.val (.ref a1), .val (.int p2)] [])) _
            refine XS.goto X204.here hx rfl (pc0 := 176) (pc' := 284) rfl (hb hby d11_176) (by decide) (by decide) ?_
            show Steps p.tables e below (T204.setTop (mkF m 284 #[.val (.ref a1), .val (.int p2)] [])) _
            exact X204.returnOut hx Bd.returns (hb hby d11_284) hr
          · show Q11 Z a1 p2 cz cl w cs n cb ck cvs wb wk wvs q e_ iw ic len k h0 n0 _ T204.heap _
            rw [e204]
            exact ⟨(1 : Int32), w, n, cvs, wvs, rfl, N204, (((Keep.refl h0 [a1, cl, cb, wb]).wr W200 (Or.inl (List.mem_of_getElem? (i := 0) rfl))).wr W204 (Or.inl (List.mem_of_getElem? (i := 0) rfl))), f209, (by simpa only [own_rq, eq_true hc4_103, eq_false hc78_106, eq_false hc112_143, eq_true hc157_199, if_true, if_false, hnq] using f206), (by simpa only [own_re, eq_true hc4_103, eq_false hc78_106, eq_false hc112_143, eq_true hc157_199, if_true, if_false] using f207), Fw204, (by simpa only [own_ric, eq_true hc4_103, eq_false hc78_106, eq_false hc112_143, eq_true hc157_199, if_true, if_false] using f208), f210, f211, f213, f214, f215, f216, f217, f219, f221, H23, H24, (by obtain ⟨o1, o2, o3, o4, o5, o6⟩ := H25; have i1 := own_inc o1 o2 (by omega); have i2 := own_inc o5 o6 (by omega); have i3 := own_inc i2.1 i2.2 (by omega); exact ⟨by omega, by omega, by omega, by omega, by omega, by omega⟩)⟩
        · skip
          have pre222 : ∀ t, Steps p.tables e below (T141.setTop (mkF m 163 #[.val (.ref a1), .val (.int p2)] [(.int (34 : Int32)), (.int p2)])) t → Steps p.tables e below (s₁.setTop (entryFrame m #[(.ref a1), (.int p2)] 2)) t := fun t kt => by
            refine pre198 t ?_
            show Steps p.tables e below (T141.setTop (mkF m 157 #[.val (.ref a1), .val (.int p2)] [(.int (39 : Int32)), (.int p2)])) _
            refine XS.icmpNo X141.here hx rfl (hb hby d11_157) rfl (feq (hc157_199 : ¬ (p2 = (39 : Int32)))).1 ?_
            show Steps p.tables e below (T141.setTop (mkF m 160 #[.val (.ref a1), .val (.int p2)] [])) _
            refine XS.iloadN X141.here hx rfl (hb hby d11_160) rfl ?_
            show Steps p.tables e below (T141.setTop (mkF m 161 #[.val (.ref a1), .val (.int p2)] [(.int p2)])) _
            refine XS.bipush X141.here hx rfl (hb hby d11_161) ?_
            show Steps p.tables e below (T141.setTop (mkF m 163 #[.val (.ref a1), .val (.int p2)] [(.int (34 : Int32)), (.int p2)])) _
            exact kt
          by_cases hc163_223 : p2 = (34 : Int32)
          · skip
            obtain ⟨T224, h224, X224, e224, W224, st224⟩ := putFN X141 hx hZ hown (hw _ (List.mem_of_getElem? (i := 71) rfl)) Via.refl e141 H4 H2 (Or.inl (hw _ (List.mem_of_getElem? (i := 72) rfl))) (hw _ (List.mem_of_getElem? (i := 9) rfl)) (ty := .char) (v' := (.int (nar .char p2))) (by decide) rfl (fits_nar_char _) (g := (mkF m 168 #[.val (.ref a1), .val (.int p2)] [(.int p2), (.ref a1)])) rfl rfl (hb hby d11_168)
            have Fw224 := H4.same W224
            have Hc225 := CHv.wr W224 (Safe.exa hZ.alike H2 (by decide) (by decide)) hH
            have Cr225 := Cr0.trans (CHr.wr W224 (Safe.exa hZ.alike H2 (by decide) (by decide)) hH)
            have N224 := Fr.snoc X224 N0 H18
            have f226 : Fld Z h224 a1 "com/example/rouse/rouse/shell/ShellWords" "inWord" "Z" (.int iw) := (H6.other W224 (Or.inr (slot_ne (Or.inl (hw _ (List.mem_of_getElem? (i := 81) rfl))) (Or.inl (hw _ (List.mem_of_getElem? (i := 72) rfl))) (by decide) (t := .boolean) (t' := .char) (by decide) (by decide))))
            have f227 : Exa Z h224 a1 "com/example/rouse/rouse/shell/ShellWords" := (H2.wr W224)
            obtain ⟨T228, h228, X228, e228, W228, st228⟩ := putFN X224 hx hZ hown (hw _ (List.mem_of_getElem? (i := 80) rfl)) Via.refl e224 f226 f227 (Or.inl (hw _ (List.mem_of_getElem? (i := 81) rfl))) (hw _ (List.mem_of_getElem? (i := 9) rfl)) (ty := .boolean) (v' := (.int (nar .boolean (1 : Int32)))) (by decide) rfl (fits_nar_bool _) (g := (mkF m 173 #[.val (.ref a1), .val (.int p2)] [(.int (1 : Int32)), (.ref a1)])) rfl rfl (hb hby d11_173)
            rw [show nar .boolean (1 : Int32) = (1 : Int32) from by decide] at W228
            have Fw228 := f226.same W228
            have Hc229 := CHv.wr W228 (Safe.exa hZ.alike f227 (by decide) (by decide)) Hc225
            have Cr229 := Cr225.trans (CHr.wr W228 (Safe.exa hZ.alike f227 (by decide) (by decide)) Hc225)
            have N228 := Fr.snoc X228 N224 H18
            have f230 : Fld Z h228 a1 "com/example/rouse/rouse/shell/ShellWords" "quote" "C" (.int (nar .char p2)) := (Fw224.other W228 (Or.inr (slot_ne (Or.inl (hw _ (List.mem_of_getElem? (i := 72) rfl))) (Or.inl (hw _ (List.mem_of_getElem? (i := 81) rfl))) (by decide) (t := .char) (t' := .boolean) (by decide) (by decide))))
            have f231 : Fld Z h228 a1 "com/example/rouse/rouse/shell/ShellWords" "escaped" "Z" (.int e_) := ((H5.other W224 (Or.inr (slot_ne (Or.inl (hw _ (List.mem_of_getElem? (i := 70) rfl))) (Or.inl (hw _ (List.mem_of_getElem? (i := 72) rfl))) (by decide) (t := .boolean) (t' := .char) (by decide) (by decide)))).other W228 (Or.inr (slot_ne (Or.inl (hw _ (List.mem_of_getElem? (i := 70) rfl))) (Or.inl (hw _ (List.mem_of_getElem? (i := 81) rfl))) (by decide) (t := .boolean) (t' := .boolean) (by decide) (by decide))))
            have f232 : Fld Z h228 a1 "com/example/rouse/rouse/shell/ShellWords" "inComment" "Z" (.int ic) := ((H7.other W224 (Or.inr (slot_ne (Or.inl (hw _ (List.mem_of_getElem? (i := 64) rfl))) (Or.inl (hw _ (List.mem_of_getElem? (i := 72) rfl))) (by decide) (t := .boolean) (t' := .char) (by decide) (by decide)))).other W228 (Or.inr (slot_ne (Or.inl (hw _ (List.mem_of_getElem? (i := 64) rfl))) (Or.inl (hw _ (List.mem_of_getElem? (i := 81) rfl))) (by decide) (t := .boolean) (t' := .boolean) (by decide) (by decide))))
            have hnq : nar .char p2 = (34 : Int32) := by rw [hc163_223]; rfl
            have f233 : Fld Z h228 a1 "com/example/rouse/rouse/shell/ShellWords" "line" "Lcom/example/rouse/rouse/shell/CommandLine;" (.ref cl) := ((H3.other W224 (Or.inr (slot_ne (Or.inl (hw _ (List.mem_of_getElem? (i := 39) rfl))) (Or.inl (hw _ (List.mem_of_getElem? (i := 72) rfl))) (by decide) (t := (.object "com/example/rouse/rouse/shell/CommandLine")) (t' := .char) (by decide) (by decide)))).other W228 (Or.inr (slot_ne (Or.inl (hw _ (List.mem_of_getElem? (i := 39) rfl))) (Or.inl (hw _ (List.mem_of_getElem? (i := 81) rfl))) (by decide) (t := (.object "com/example/rouse/rouse/shell/CommandLine")) (t' := .boolean) (by decide) (by decide))))
            have f234 : Fld Z h228 a1 "com/example/rouse/rouse/shell/ShellWords" "length" "I" (.int len) := ((H8.other W224 (Or.inr (slot_ne (Or.inl (hw _ (List.mem_of_getElem? (i := 46) rfl))) (Or.inl (hw _ (List.mem_of_getElem? (i := 72) rfl))) (by decide) (t := .int) (t' := .char) (by decide) (by decide)))).other W228 (Or.inr (slot_ne (Or.inl (hw _ (List.mem_of_getElem? (i := 46) rfl))) (Or.inl (hw _ (List.mem_of_getElem? (i := 81) rfl))) (by decide) (t := .int) (t' := .boolean) (by decide) (by decide))))
            have f235 : Fld Z h228 a1 "com/example/rouse/rouse/shell/ShellWords" "skippingLine" "Z" (.int (0 : Int32)) := ((H9.other W224 (Or.inr (slot_ne (Or.inl (hw _ (List.mem_of_getElem? (i := 56) rfl))) (Or.inl (hw _ (List.mem_of_getElem? (i := 72) rfl))) (by decide) (t := .boolean) (t' := .char) (by decide) (by decide)))).other W228 (Or.inr (slot_ne (Or.inl (hw _ (List.mem_of_getElem? (i := 56) rfl))) (Or.inl (hw _ (List.mem_of_getElem? (i := 81) rfl))) (by decide) (t := .boolean) (t' := .boolean) (by decide) (by decide))))
            have ne236 : cl ≠ a1 := ne_exa (H10.wr W224) f227 (by decide)
            have f237 : Fld Z h228 cl "com/example/rouse/rouse/shell/CommandLine" "words" "I" (.int w) := ((H11.other W224 (Or.inl ne236)).other W228 (Or.inl ne236))
            have f238 : Fld Z h228 cl "com/example/rouse/rouse/shell/CommandLine" "commandStart" "I" (.int cs) := ((H12.other W224 (Or.inl ne236)).other W228 (Or.inl ne236))
            have f239 : Fld Z h228 cl "com/example/rouse/rouse/shell/CommandLine" "length" "I" (.int n) := ((H13.other W224 (Or.inl ne236)).other W228 (Or.inl ne236))
            have f240 : Fld Z h228 cl "com/example/rouse/rouse/shell/CommandLine" "characters" "[C" (.ref cb) := ((H14.other W224 (Or.inl ne236)).other W228 (Or.inl ne236))
            have f241 : Fld Z h228 cl "com/example/rouse/rouse/shell/CommandLine" "wordEnds" "[I" (.ref wb) := ((H15.other W224 (Or.inl ne236)).other W228 (Or.inl ne236))
            have ne242 : a1 ≠ cb := Exa.neArv H2 H16 (hw _ (List.mem_of_getElem? (i := 9) rfl))
            have f243 : Arv Z h228 cb ck .char (16 : Int32) cvs (.int (0 : Int32)) := ((H16.other W224 (Ne.symm ne242)).other W228 (Ne.symm ne242))
            have ne244 : a1 ≠ wb := Exa.neArv H2 H17 (hw _ (List.mem_of_getElem? (i := 9) rfl))
            have f245 : Arv Z h228 wb wk .int (16 : Int32) wvs (.int (0 : Int32)) := ((H17.other W224 (Ne.symm ne244)).other W228 (Ne.symm ne244))
            obtain ⟨fs, hr, hrun, hended, hEnd⟩ := X228.leaveW hS0 (by rw [e228]; exact (Nat.le_trans (Nat.le_trans (Nat.zero_le _) (Nat.le_of_eq W224.size.symm)) (Nat.le_of_eq W228.size.symm))) (v := none) (fun _ => rfl)
            refine ⟨_, _, pre222 _ ?_, hrun, hended, _, _, rfl, ?_, (show CHr Z own_EL s.vm s.heap T228.vm T228.heap from by rw [hh, e228]; exact Cr229.trans (CHv.at X228 hZ hEL Hc229)), hEnd.1, hEnd.2.1, hEnd.2.2.1, hEnd.2.2.2.mono (by decide) (by decide)⟩
            · skip
              show Steps p.tables e below (T141.setTop (mkF m 163 #[.val (.ref a1), .val (.int p2)] [(.int (34 : Int32)), (.int p2)])) _
              refine XS.icmpNo X141.here hx rfl (hb hby d11_163) rfl (teq (hc163_223 : p2 = (34 : Int32))).2 ?_
              show Steps p.tables e below (T141.setTop (mkF m 166 #[.val (.ref a1), .val (.int p2)] [])) _
              refine XS.aloadN X141.here hx rfl (hb hby d11_166) rfl rfl ?_
              show Steps p.tables e below (T141.setTop (mkF m 167 #[.val (.ref a1), .val (.int p2)] [(.ref a1)])) _
              refine XS.iloadN X141.here hx rfl (hb hby d11_167) rfl ?_
              show Steps p.tables e below (T141.setTop (mkF m 168 #[.val (.ref a1), .val (.int p2)] [(.int p2), (.ref a1)])) _
              refine st224 _ ?_
              show Steps p.tables e below (T224.setTop (mkF m 171 #[.val (.ref a1), .val (.int p2)] [])) _
              refine XS.aloadN X224.here hx rfl (hb hby d11_171) rfl rfl ?_
              show Steps p.tables e below (T224.setTop (mkF m 172 #[.val (.ref a1), .val (.int p2)] [(.ref a1)])) _
              refine XS.iconst X224.here hx rfl (hb hby d11_172) ?_
              show Steps p.tables e below (T224.setTop (mkF m 173 #[.val (.ref a1), .val (.int p2)] [(.int (1 : Int32)), (.ref a1)])) _
              refine st228 _ ?_
              show Steps p.tables e below (T228.setTop (mkF m 176 #[.val (.ref a1), .val (.int p2)] [])) _
              refine XS.goto X228.here hx rfl (pc0 := 176) (pc' := 284) rfl (hb hby d11_176) (by decide) (by decide) ?_
              show Steps p.tables e below (T228.setTop (mkF m 284 #[.val (.ref a1), .val (.int p2)] [])) _
              exact X228.returnOut hx Bd.returns (hb hby d11_284) hr
            · show Q11 Z a1 p2 cz cl w cs n cb ck cvs wb wk wvs q e_ iw ic len k h0 n0 _ T228.heap _
              rw [e228]
              exact ⟨(1 : Int32), w, n, cvs, wvs, rfl, N228, (((Keep.refl h0 [a1, cl, cb, wb]).wr W224 (Or.inl (List.mem_of_getElem? (i := 0) rfl))).wr W228 (Or.inl (List.mem_of_getElem? (i := 0) rfl))), f233, (by simpa only [own_rq, eq_true hc4_103, eq_false hc78_106, eq_false hc112_143, eq_false hc157_199, eq_true hc163_223, if_true, if_false, hnq] using f230), (by simpa only [own_re, eq_true hc4_103, eq_false hc78_106, eq_false hc112_143, eq_false hc157_199, eq_true hc163_223, if_true, if_false] using f231), Fw228, (by simpa only [own_ric, eq_true hc4_103, eq_false hc78_106, eq_false hc112_143, eq_false hc157_199, eq_true hc163_223, if_true, if_false] using f232), f234, f235, f237, f238, f239, f240, f241, f243, f245, H23, H24, (by obtain ⟨o1, o2, o3, o4, o5, o6⟩ := H25; have i1 := own_inc o1 o2 (by omega); have i2 := own_inc o5 o6 (by omega); have i3 := own_inc i2.1 i2.2 (by omega); exact ⟨by omega, by omega, by omega, by omega, by omega, by omega⟩)⟩
          · skip
            have pre246 : ∀ t, Steps p.tables e below (T141.setTop (mkF m 182 #[.val (.ref a1), .val (.int p2)] [(.int (92 : Int32)), (.int p2)])) t → Steps p.tables e below (s₁.setTop (entryFrame m #[(.ref a1), (.int p2)] 2)) t := fun t kt => by
              refine pre222 t ?_
              show Steps p.tables e below (T141.setTop (mkF m 163 #[.val (.ref a1), .val (.int p2)] [(.int (34 : Int32)), (.int p2)])) _
              refine XS.icmpYes X141.here hx rfl (pc0 := 163) (pc' := 179) rfl (hb hby d11_163) rfl (feq (hc163_223 : ¬ (p2 = (34 : Int32)))).2 (by decide) (by decide) ?_
              show Steps p.tables e below (T141.setTop (mkF m 179 #[.val (.ref a1), .val (.int p2)] [])) _
              refine XS.iloadN X141.here hx rfl (hb hby d11_179) rfl ?_
              show Steps p.tables e below (T141.setTop (mkF m 180 #[.val (.ref a1), .val (.int p2)] [(.int p2)])) _
              refine XS.bipush X141.here hx rfl (hb hby d11_180) ?_
              show Steps p.tables e below (T141.setTop (mkF m 182 #[.val (.ref a1), .val (.int p2)] [(.int (92 : Int32)), (.int p2)])) _
              exact kt
            by_cases hc182_247 : p2 = (92 : Int32)
            · skip
              obtain ⟨T248, h248, X248, e248, W248, st248⟩ := putFN X141 hx hZ hown (hw _ (List.mem_of_getElem? (i := 69) rfl)) Via.refl e141 H5 H2 (Or.inl (hw _ (List.mem_of_getElem? (i := 70) rfl))) (hw _ (List.mem_of_getElem? (i := 9) rfl)) (ty := .boolean) (v' := (.int (nar .boolean (1 : Int32)))) (by decide) rfl (fits_nar_bool _) (g := (mkF m 187 #[.val (.ref a1), .val (.int p2)] [(.int (1 : Int32)), (.ref a1)])) rfl rfl (hb hby d11_187)
              rw [show nar .boolean (1 : Int32) = (1 : Int32) from by decide] at W248
              have Fw248 := H5.same W248
              have Hc249 := CHv.wr W248 (Safe.exa hZ.alike H2 (by decide) (by decide)) hH
              have Cr249 := Cr0.trans (CHr.wr W248 (Safe.exa hZ.alike H2 (by decide) (by decide)) hH)
              have N248 := Fr.snoc X248 N0 H18
              have f250 : Fld Z h248 a1 "com/example/rouse/rouse/shell/ShellWords" "quote" "C" (.int q) := (H4.other W248 (Or.inr (slot_ne (Or.inl (hw _ (List.mem_of_getElem? (i := 72) rfl))) (Or.inl (hw _ (List.mem_of_getElem? (i := 70) rfl))) (by decide) (t := .char) (t' := .boolean) (by decide) (by decide))))
              have f251 : Fld Z h248 a1 "com/example/rouse/rouse/shell/ShellWords" "inComment" "Z" (.int ic) := (H7.other W248 (Or.inr (slot_ne (Or.inl (hw _ (List.mem_of_getElem? (i := 64) rfl))) (Or.inl (hw _ (List.mem_of_getElem? (i := 70) rfl))) (by decide) (t := .boolean) (t' := .boolean) (by decide) (by decide))))
              have f252 : Fld Z h248 a1 "com/example/rouse/rouse/shell/ShellWords" "line" "Lcom/example/rouse/rouse/shell/CommandLine;" (.ref cl) := (H3.other W248 (Or.inr (slot_ne (Or.inl (hw _ (List.mem_of_getElem? (i := 39) rfl))) (Or.inl (hw _ (List.mem_of_getElem? (i := 70) rfl))) (by decide) (t := (.object "com/example/rouse/rouse/shell/CommandLine")) (t' := .boolean) (by decide) (by decide))))
              have f253 : Fld Z h248 a1 "com/example/rouse/rouse/shell/ShellWords" "inWord" "Z" (.int iw) := (H6.other W248 (Or.inr (slot_ne (Or.inl (hw _ (List.mem_of_getElem? (i := 81) rfl))) (Or.inl (hw _ (List.mem_of_getElem? (i := 70) rfl))) (by decide) (t := .boolean) (t' := .boolean) (by decide) (by decide))))
              have f254 : Fld Z h248 a1 "com/example/rouse/rouse/shell/ShellWords" "length" "I" (.int len) := (H8.other W248 (Or.inr (slot_ne (Or.inl (hw _ (List.mem_of_getElem? (i := 46) rfl))) (Or.inl (hw _ (List.mem_of_getElem? (i := 70) rfl))) (by decide) (t := .int) (t' := .boolean) (by decide) (by decide))))
              have f255 : Fld Z h248 a1 "com/example/rouse/rouse/shell/ShellWords" "skippingLine" "Z" (.int (0 : Int32)) := (H9.other W248 (Or.inr (slot_ne (Or.inl (hw _ (List.mem_of_getElem? (i := 56) rfl))) (Or.inl (hw _ (List.mem_of_getElem? (i := 70) rfl))) (by decide) (t := .boolean) (t' := .boolean) (by decide) (by decide))))
              have ne256 : cl ≠ a1 := ne_exa H10 H2 (by decide)
              have f257 : Fld Z h248 cl "com/example/rouse/rouse/shell/CommandLine" "words" "I" (.int w) := (H11.other W248 (Or.inl ne256))
              have f258 : Fld Z h248 cl "com/example/rouse/rouse/shell/CommandLine" "commandStart" "I" (.int cs) := (H12.other W248 (Or.inl ne256))
              have f259 : Fld Z h248 cl "com/example/rouse/rouse/shell/CommandLine" "length" "I" (.int n) := (H13.other W248 (Or.inl ne256))
              have f260 : Fld Z h248 cl "com/example/rouse/rouse/shell/CommandLine" "characters" "[C" (.ref cb) := (H14.other W248 (Or.inl ne256))
              have f261 : Fld Z h248 cl "com/example/rouse/rouse/shell/CommandLine" "wordEnds" "[I" (.ref wb) := (H15.other W248 (Or.inl ne256))
              have ne262 : a1 ≠ cb := Exa.neArv H2 H16 (hw _ (List.mem_of_getElem? (i := 9) rfl))
              have f263 : Arv Z h248 cb ck .char (16 : Int32) cvs (.int (0 : Int32)) := (H16.other W248 (Ne.symm ne262))
              have ne264 : a1 ≠ wb := Exa.neArv H2 H17 (hw _ (List.mem_of_getElem? (i := 9) rfl))
              have f265 : Arv Z h248 wb wk .int (16 : Int32) wvs (.int (0 : Int32)) := (H17.other W248 (Ne.symm ne264))
              obtain ⟨fs, hr, hrun, hended, hEnd⟩ := X248.leaveW hS0 (by rw [e248]; exact (Nat.le_trans (Nat.zero_le _) (Nat.le_of_eq W248.size.symm))) (v := none) (fun _ => rfl)
              refine ⟨_, _, pre246 _ ?_, hrun, hended, _, _, rfl, ?_, (show CHr Z own_EL s.vm s.heap T248.vm T248.heap from by rw [hh, e248]; exact Cr249.trans (CHv.at X248 hZ hEL Hc249)), hEnd.1, hEnd.2.1, hEnd.2.2.1, hEnd.2.2.2.mono (by decide) (by decide)⟩
              · skip
                show Steps p.tables e below (T141.setTop (mkF m 182 #[.val (.ref a1), .val (.int p2)] [(.int (92 : Int32)), (.int p2)])) _
                refine XS.icmpNo X141.here hx rfl (hb hby d11_182) rfl (teq (hc182_247 : p2 = (92 : Int32))).2 ?_
                show Steps p.tables e below (T141.setTop (mkF m 185 #[.val (.ref a1), .val (.int p2)] [])) _
                refine XS.aloadN X141.here hx rfl (hb hby d11_185) rfl rfl ?_
                show Steps p.tables e below (T141.setTop (mkF m 186 #[.val (.ref a1), .val (.int p2)] [(.ref a1)])) _
                refine XS.iconst X141.here hx rfl (hb hby d11_186) ?_
                show Steps p.tables e below (T141.setTop (mkF m 187 #[.val (.ref a1), .val (.int p2)] [(.int (1 : Int32)), (.ref a1)])) _
                refine st248 _ ?_
                show Steps p.tables e below (T248.setTop (mkF m 190 #[.val (.ref a1), .val (.int p2)] [])) _
                refine XS.goto X248.here hx rfl (pc0 := 190) (pc' := 284) rfl (hb hby d11_190) (by decide) (by decide) ?_
                show Steps p.tables e below (T248.setTop (mkF m 284 #[.val (.ref a1), .val (.int p2)] [])) _
                exact X248.returnOut hx Bd.returns (hb hby d11_284) hr
              · show Q11 Z a1 p2 cz cl w cs n cb ck cvs wb wk wvs q e_ iw ic len k h0 n0 _ T248.heap _
                rw [e248]
                exact ⟨iw, w, n, cvs, wvs, rfl, N248, ((Keep.refl h0 [a1, cl, cb, wb]).wr W248 (Or.inl (List.mem_of_getElem? (i := 0) rfl))), f252, (by simpa only [own_rq, eq_true hc4_103, eq_false hc78_106, eq_false hc112_143, eq_false hc157_199, eq_false hc163_223, eq_true hc182_247, if_true, if_false] using f250), (by simpa only [own_re, eq_true hc4_103, eq_false hc78_106, eq_false hc112_143, eq_false hc157_199, eq_false hc163_223, eq_true hc182_247, if_true, if_false] using Fw248), f253, (by simpa only [own_ric, eq_true hc4_103, eq_false hc78_106, eq_false hc112_143, eq_false hc157_199, eq_false hc163_223, eq_true hc182_247, if_true, if_false] using f251), f254, f255, f257, f258, f259, f260, f261, f263, f265, H23, H24, (by obtain ⟨o1, o2, o3, o4, o5, o6⟩ := H25; have i1 := own_inc o1 o2 (by omega); have i2 := own_inc o5 o6 (by omega); have i3 := own_inc i2.1 i2.2 (by omega); exact ⟨by omega, by omega, by omega, by omega, by omega, by omega⟩)⟩
            · skip
              have pre266 : ∀ t, Steps p.tables e below (T141.setTop (mkF m 196 #[.val (.ref a1), .val (.int p2)] [(.int (32 : Int32)), (.int p2)])) t → Steps p.tables e below (s₁.setTop (entryFrame m #[(.ref a1), (.int p2)] 2)) t := fun t kt => by
                refine pre246 t ?_
                show Steps p.tables e below (T141.setTop (mkF m 182 #[.val (.ref a1), .val (.int p2)] [(.int (92 : Int32)), (.int p2)])) _
                refine XS.icmpYes X141.here hx rfl (pc0 := 182) (pc' := 193) rfl (hb hby d11_182) rfl (feq (hc182_247 : ¬ (p2 = (92 : Int32)))).2 (by decide) (by decide) ?_
                show Steps p.tables e below (T141.setTop (mkF m 193 #[.val (.ref a1), .val (.int p2)] [])) _
                refine XS.iloadN X141.here hx rfl (hb hby d11_193) rfl ?_
                show Steps p.tables e below (T141.setTop (mkF m 194 #[.val (.ref a1), .val (.int p2)] [(.int p2)])) _
                refine XS.bipush X141.here hx rfl (hb hby d11_194) ?_
                show Steps p.tables e below (T141.setTop (mkF m 196 #[.val (.ref a1), .val (.int p2)] [(.int (32 : Int32)), (.int p2)])) _
                exact kt
              by_cases hc196_267 : p2 = (32 : Int32)
              · skip
                obtain ⟨cq268, q268, q268'⟩ := H2.cell
                obtain ⟨_, _, ⟨T268, L268, k268, n268⟩, -, X268, ⟨Lc268, hQ268, l268, y268, z268⟩, st268⟩ := X141.privateBack hx (y := (⟨"com/example/rouse/rouse/shell/ShellWords", "endWord", "()V"⟩ : MethodName)) hown (mvT hZ (hw _ (List.mem_of_getElem? (i := 82) rfl))) (mvT hZ (hw _ (List.mem_of_getElem? (i := 83) rfl))) (mvT hZ (own_selp (by decide) (hw _ (List.mem_of_getElem? (i := 9) rfl)) (hw _ (List.mem_of_getElem? (i := 84) rfl)) (hw _ (List.mem_of_getElem? (i := 83) rfl)))) (Cond.privateMethod_at (mvP hZ (hw _ (List.mem_of_getElem? (i := 84) rfl)) (args := #[]))) (mvT hZ (hw _ (List.mem_of_getElem? (i := 85) rfl))) (by decide) (backOf (W := 0) (rm13 l Z a0 hw [] a1 cl w cs n cb wb wk wvs q e_ iw ic len k h0 n0 Z0 H2 H3 H4 H5 H6 H7 H8 H9 H10 H11 H12 H13 H14 H15 H17 H18 H19 H21 H25 H26 H24) hZ (hw _ (List.mem_of_getElem? (i := 85) rfl)) (hw _ (List.mem_of_getElem? (i := 10) rfl)) (by decide) (by decide)) (g := (mkF m 206 #[.val (.ref a1), .val (.int p2)] [(.ref a1)])) rfl (by rw [hml]; rfl) (Steps.refl _) (a := a1) (by rw [e141]; exact q268) q268' (argsL := []) (rest := []) (lenOf pd_2 rfl) rfl (by show 2 * 0 + _ ≤ _; exact Nat.le_of_eq rfl) (hb hby d11_206) (fun _ _ => ⟨rfl, e141, (by decide : 0 + 0 ≤ _), (by decide : 0 + 0 ≤ _)⟩)
                dsimp only [Pt.U, Pt.locs, Pt.cells, Pt.slots] at X268 l268 y268 z268 st268 hQ268
                subst l268 y268 z268
                obtain ⟨wx268, wvx268, rfl, Nq268, K268, R268_1, R268_2, R268_3, R268_4, R268_5, R268_6, R268_7, R268_8, R268_9, R268_10, R268_11, R268_12, R268_13, R268_14, R268_15⟩ := hQ268
                have N268 := Fr.app N0 Nq268
                have hs269 : ∀ x ∈ ([a1, cl, wb] : List Addr), Safe Z own_EL s.vm h0 x := (allS (P := fun x => Safe Z own_EL s.vm h0 x) (Safe.exa hZ.alike H2 (by decide) (by decide)) (allS (P := fun x => Safe Z own_EL s.vm h0 x) (Safe.exa hZ.alike H10 (by decide) (by decide)) (allS (P := fun x => Safe Z own_EL s.vm h0 x) (own_safe_arv hZ.alike H17 (by decide)) (all0 (P := fun x => Safe Z own_EL s.vm h0 x)))))
                have Hc269 := CHv.keep K268 hs269 hH
                have Cr269 := Cr0.trans (CHr.keep K268 hs269 hH)
                have ne270 : cl ≠ cb := Exa.neArv H10 H16 (hw _ (List.mem_of_getElem? (i := 21) rfl))
                have ne271 : a1 ≠ cb := Exa.neArv H2 H16 (hw _ (List.mem_of_getElem? (i := 9) rfl))
                have f272 : Arv Z T268.heap cb ck .char (16 : Int32) cvs (.int (0 : Int32)) := (H16.keep K268 (ninS (Ne.symm ne271) (ninS (Ne.symm ne270) (ninS H22 nin0))))
                obtain ⟨fs, hr, hrun, hended, hEnd⟩ := X268.leaveW hS0 (Nat.le_trans (Nat.zero_le _) K268.1) (v := none) (fun _ => rfl)
                refine ⟨_, _, pre266 _ ?_, hrun, hended, _, _, rfl, ?_, (show CHr Z own_EL s.vm s.heap T268.vm T268.heap from by rw [hh]; exact Cr269.trans (CHv.at X268 hZ hEL Hc269)), hEnd.1, hEnd.2.1, hEnd.2.2.1, hEnd.2.2.2.mono (by decide) (by decide)⟩
                · skip
                  show Steps p.tables e below (T141.setTop (mkF m 196 #[.val (.ref a1), .val (.int p2)] [(.int (32 : Int32)), (.int p2)])) _
                  refine XS.icmpYes X141.here hx rfl (pc0 := 196) (pc' := 205) rfl (hb hby d11_196) rfl (teq (hc196_267 : p2 = (32 : Int32))).1 (by decide) (by decide) ?_
                  show Steps p.tables e below (T141.setTop (mkF m 205 #[.val (.ref a1), .val (.int p2)] [])) _
                  refine XS.aloadN X141.here hx rfl (hb hby d11_205) rfl rfl ?_
                  show Steps p.tables e below (T141.setTop (mkF m 206 #[.val (.ref a1), .val (.int p2)] [(.ref a1)])) _
                  refine st268.trans ?_
                  show Steps p.tables e below (T268.setTop (mkF m 209 #[.val (.ref a1), .val (.int p2)] [])) _
                  refine XS.goto X268.here hx rfl (pc0 := 209) (pc' := 284) rfl (hb hby d11_209) (by decide) (by decide) ?_
                  show Steps p.tables e below (T268.setTop (mkF m 284 #[.val (.ref a1), .val (.int p2)] [])) _
                  exact X268.returnOut hx Bd.returns (hb hby d11_284) hr
                · show Q11 Z a1 p2 cz cl w cs n cb ck cvs wb wk wvs q e_ iw ic len k h0 n0 _ T268.heap _
                  exact ⟨(0 : Int32), wx268, n, cvs, wvx268, rfl, N268, ((Keep.refl h0 [a1, cl, cb, wb]).trans K268 (allS (P := (fun x => x ∈ [a1, cl, cb, wb] ∨ h0.size ≤ x)) (Or.inl (List.mem_of_getElem? (i := 0) rfl)) (allS (P := (fun x => x ∈ [a1, cl, cb, wb] ∨ h0.size ≤ x)) (Or.inl (List.mem_of_getElem? (i := 1) rfl)) (allS (P := (fun x => x ∈ [a1, cl, cb, wb] ∨ h0.size ≤ x)) (Or.inl (List.mem_of_getElem? (i := 3) rfl)) all0)))), R268_1, (by simpa only [own_rq, eq_true hc4_103, eq_false hc78_106, eq_false hc112_143, eq_false hc157_199, eq_false hc163_223, eq_false hc182_247, eq_true hc196_267, if_true, if_false] using R268_2), (by simpa only [own_re, eq_true hc4_103, eq_false hc78_106, eq_false hc112_143, eq_false hc157_199, eq_false hc163_223, eq_false hc182_247, eq_true hc196_267, if_true, if_false] using R268_3), R268_4, (by simpa only [own_ric, eq_true hc4_103, eq_false hc78_106, eq_false hc112_143, eq_false hc157_199, eq_false hc163_223, eq_false hc182_247, eq_true hc196_267, if_true, if_false] using R268_5), R268_6, R268_7, R268_8, R268_9, R268_10, R268_11, R268_12, f272, R268_13, H23, R268_14, (by obtain ⟨o1, o2, o3, o4, o5, o6⟩ := R268_15; exact ⟨by omega, by omega, by omega, by omega, by omega, by omega⟩)⟩
              · skip
                have pre273 : ∀ t, Steps p.tables e below (T141.setTop (mkF m 202 #[.val (.ref a1), .val (.int p2)] [(.int (9 : Int32)), (.int p2)])) t → Steps p.tables e below (s₁.setTop (entryFrame m #[(.ref a1), (.int p2)] 2)) t := fun t kt => by
                  refine pre266 t ?_
                  show Steps p.tables e below (T141.setTop (mkF m 196 #[.val (.ref a1), .val (.int p2)] [(.int (32 : Int32)), (.int p2)])) _
                  refine XS.icmpNo X141.here hx rfl (hb hby d11_196) rfl (feq (hc196_267 : ¬ (p2 = (32 : Int32)))).1 ?_
                  show Steps p.tables e below (T141.setTop (mkF m 199 #[.val (.ref a1), .val (.int p2)] [])) _
                  refine XS.iloadN X141.here hx rfl (hb hby d11_199) rfl ?_
                  show Steps p.tables e below (T141.setTop (mkF m 200 #[.val (.ref a1), .val (.int p2)] [(.int p2)])) _
                  refine XS.bipush X141.here hx rfl (hb hby d11_200) ?_
                  show Steps p.tables e below (T141.setTop (mkF m 202 #[.val (.ref a1), .val (.int p2)] [(.int (9 : Int32)), (.int p2)])) _
                  exact kt
                by_cases hc202_274 : p2 = (9 : Int32)
                · skip
                  obtain ⟨cq275, q275, q275'⟩ := H2.cell
                  obtain ⟨_, _, ⟨T275, L275, k275, n275⟩, -, X275, ⟨Lc275, hQ275, l275, y275, z275⟩, st275⟩ := X141.privateBack hx (y := (⟨"com/example/rouse/rouse/shell/ShellWords", "endWord", "()V"⟩ : MethodName)) hown (mvT hZ (hw _ (List.mem_of_getElem? (i := 82) rfl))) (mvT hZ (hw _ (List.mem_of_getElem? (i := 83) rfl))) (mvT hZ (own_selp (by decide) (hw _ (List.mem_of_getElem? (i := 9) rfl)) (hw _ (List.mem_of_getElem? (i := 84) rfl)) (hw _ (List.mem_of_getElem? (i := 83) rfl)))) (Cond.privateMethod_at (mvP hZ (hw _ (List.mem_of_getElem? (i := 84) rfl)) (args := #[]))) (mvT hZ (hw _ (List.mem_of_getElem? (i := 85) rfl))) (by decide) (backOf (W := 0) (rm13 l Z a0 hw [] a1 cl w cs n cb wb wk wvs q e_ iw ic len k h0 n0 Z0 H2 H3 H4 H5 H6 H7 H8 H9 H10 H11 H12 H13 H14 H15 H17 H18 H19 H21 H25 H26 H24) hZ (hw _ (List.mem_of_getElem? (i := 85) rfl)) (hw _ (List.mem_of_getElem? (i := 10) rfl)) (by decide) (by decide)) (g := (mkF m 206 #[.val (.ref a1), .val (.int p2)] [(.ref a1)])) rfl (by rw [hml]; rfl) (Steps.refl _) (a := a1) (by rw [e141]; exact q275) q275' (argsL := []) (rest := []) (lenOf pd_2 rfl) rfl (by show 2 * 0 + _ ≤ _; exact Nat.le_of_eq rfl) (hb hby d11_206) (fun _ _ => ⟨rfl, e141, (by decide : 0 + 0 ≤ _), (by decide : 0 + 0 ≤ _)⟩)
                  dsimp only [Pt.U, Pt.locs, Pt.cells, Pt.slots] at X275 l275 y275 z275 st275 hQ275
                  subst l275 y275 z275
                  obtain ⟨wx275, wvx275, rfl, Nq275, K275, R275_1, R275_2, R275_3, R275_4, R275_5, R275_6, R275_7, R275_8, R275_9, R275_10, R275_11, R275_12, R275_13, R275_14, R275_15⟩ := hQ275
                  have N275 := Fr.app N0 Nq275
                  have hs276 : ∀ x ∈ ([a1, cl, wb] : List Addr), Safe Z own_EL s.vm h0 x := (allS (P := fun x => Safe Z own_EL s.vm h0 x) (Safe.exa hZ.alike H2 (by decide) (by decide)) (allS (P := fun x => Safe Z own_EL s.vm h0 x) (Safe.exa hZ.alike H10 (by decide) (by decide)) (allS (P := fun x => Safe Z own_EL s.vm h0 x) (own_safe_arv hZ.alike H17 (by decide)) (all0 (P := fun x => Safe Z own_EL s.vm h0 x)))))
                  have Hc276 := CHv.keep K275 hs276 hH
                  have Cr276 := Cr0.trans (CHr.keep K275 hs276 hH)
                  have ne277 : cl ≠ cb := Exa.neArv H10 H16 (hw _ (List.mem_of_getElem? (i := 21) rfl))
                  have ne278 : a1 ≠ cb := Exa.neArv H2 H16 (hw _ (List.mem_of_getElem? (i := 9) rfl))
                  have f279 : Arv Z T275.heap cb ck .char (16 : Int32) cvs (.int (0 : Int32)) := (H16.keep K275 (ninS (Ne.symm ne278) (ninS (Ne.symm ne277) (ninS H22 nin0))))
                  obtain ⟨fs, hr, hrun, hended, hEnd⟩ := X275.leaveW hS0 (Nat.le_trans (Nat.zero_le _) K275.1) (v := none) (fun _ => rfl)
                  refine ⟨_, _, pre273 _ ?_, hrun, hended, _, _, rfl, ?_, (show CHr Z own_EL s.vm s.heap T275.vm T275.heap from by rw [hh]; exact Cr276.trans (CHv.at X275 hZ hEL Hc276)), hEnd.1, hEnd.2.1, hEnd.2.2.1, hEnd.2.2.2.mono (by decide) (by decide)⟩
                  · skip
                    show Steps p.tables e below (T141.setTop (mkF m 202 #[.val (.ref a1), .val (.int p2)] [(.int (9 : Int32)), (.int p2)])) _
                    refine XS.icmpNo X141.here hx rfl (hb hby d11_202) rfl (teq (hc202_274 : p2 = (9 : Int32))).2 ?_
                    show Steps p.tables e below (T141.setTop (mkF m 205 #[.val (.ref a1), .val (.int p2)] [])) _
                    refine XS.aloadN X141.here hx rfl (hb hby d11_205) rfl rfl ?_
                    show Steps p.tables e below (T141.setTop (mkF m 206 #[.val (.ref a1), .val (.int p2)] [(.ref a1)])) _
                    refine st275.trans ?_
                    show Steps p.tables e below (T275.setTop (mkF m 209 #[.val (.ref a1), .val (.int p2)] [])) _
                    refine XS.goto X275.here hx rfl (pc0 := 209) (pc' := 284) rfl (hb hby d11_209) (by decide) (by decide) ?_
                    show Steps p.tables e below (T275.setTop (mkF m 284 #[.val (.ref a1), .val (.int p2)] [])) _
                    exact X275.returnOut hx Bd.returns (hb hby d11_284) hr
                  · show Q11 Z a1 p2 cz cl w cs n cb ck cvs wb wk wvs q e_ iw ic len k h0 n0 _ T275.heap _
                    exact ⟨(0 : Int32), wx275, n, cvs, wvx275, rfl, N275, ((Keep.refl h0 [a1, cl, cb, wb]).trans K275 (allS (P := (fun x => x ∈ [a1, cl, cb, wb] ∨ h0.size ≤ x)) (Or.inl (List.mem_of_getElem? (i := 0) rfl)) (allS (P := (fun x => x ∈ [a1, cl, cb, wb] ∨ h0.size ≤ x)) (Or.inl (List.mem_of_getElem? (i := 1) rfl)) (allS (P := (fun x => x ∈ [a1, cl, cb, wb] ∨ h0.size ≤ x)) (Or.inl (List.mem_of_getElem? (i := 3) rfl)) all0)))), R275_1, (by simpa only [own_rq, eq_true hc4_103, eq_false hc78_106, eq_false hc112_143, eq_false hc157_199, eq_false hc163_223, eq_false hc182_247, eq_false hc196_267, eq_true hc202_274, if_true, if_false] using R275_2), (by simpa only [own_re, eq_true hc4_103, eq_false hc78_106, eq_false hc112_143, eq_false hc157_199, eq_false hc163_223, eq_false hc182_247, eq_false hc196_267, eq_true hc202_274, if_true, if_false] using R275_3), R275_4, (by simpa only [own_ric, eq_true hc4_103, eq_false hc78_106, eq_false hc112_143, eq_false hc157_199, eq_false hc163_223, eq_false hc182_247, eq_false hc196_267, eq_true hc202_274, if_true, if_false] using R275_5), R275_6, R275_7, R275_8, R275_9, R275_10, R275_11, R275_12, f279, R275_13, H23, R275_14, (by obtain ⟨o1, o2, o3, o4, o5, o6⟩ := R275_15; exact ⟨by omega, by omega, by omega, by omega, by omega, by omega⟩)⟩
                · skip
                  have pre280 : ∀ t, Steps p.tables e below (T141.setTop (mkF m 215 #[.val (.ref a1), .val (.int p2)] [(.int (35 : Int32)), (.int p2)])) t → Steps p.tables e below (s₁.setTop (entryFrame m #[(.ref a1), (.int p2)] 2)) t := fun t kt => by
                    refine pre273 t ?_
                    show Steps p.tables e below (T141.setTop (mkF m 202 #[.val (.ref a1), .val (.int p2)] [(.int (9 : Int32)), (.int p2)])) _
                    refine XS.icmpYes X141.here hx rfl (pc0 := 202) (pc' := 212) rfl (hb hby d11_202) rfl (feq (hc202_274 : ¬ (p2 = (9 : Int32)))).2 (by decide) (by decide) ?_
                    show Steps p.tables e below (T141.setTop (mkF m 212 #[.val (.ref a1), .val (.int p2)] [])) _
                    refine XS.iloadN X141.here hx rfl (hb hby d11_212) rfl ?_
                    show Steps p.tables e below (T141.setTop (mkF m 213 #[.val (.ref a1), .val (.int p2)] [(.int p2)])) _
                    refine XS.bipush X141.here hx rfl (hb hby d11_213) ?_
                    show Steps p.tables e below (T141.setTop (mkF m 215 #[.val (.ref a1), .val (.int p2)] [(.int (35 : Int32)), (.int p2)])) _
                    exact kt
                  by_cases hc215_281 : p2 = (35 : Int32)
                  · skip
                    obtain ⟨T282, X282, e282, st282⟩ := getF X141 hx hZ hown (host := "") (Or.inl (hw _ (List.mem_of_getElem? (i := 80) rfl))) Via.refl e141 H6 (g := (mkF m 219 #[.val (.ref a1), .val (.int p2)] [(.ref a1)])) rfl rfl (hb hby d11_219)
                    have pre283 : ∀ t, Steps p.tables e below (T282.setTop (mkF m 222 #[.val (.ref a1), .val (.int p2)] [(.int iw)])) t → Steps p.tables e below (s₁.setTop (entryFrame m #[(.ref a1), (.int p2)] 2)) t := fun t kt => by
                      refine pre280 t ?_
                      show Steps p.tables e below (T141.setTop (mkF m 215 #[.val (.ref a1), .val (.int p2)] [(.int (35 : Int32)), (.int p2)])) _
                      refine XS.icmpNo X141.here hx rfl (hb hby d11_215) rfl (teq (hc215_281 : p2 = (35 : Int32))).2 ?_
                      show Steps p.tables e below (T141.setTop (mkF m 218 #[.val (.ref a1), .val (.int p2)] [])) _
                      refine XS.aloadN X141.here hx rfl (hb hby d11_218) rfl rfl ?_
                      show Steps p.tables e below (T141.setTop (mkF m 219 #[.val (.ref a1), .val (.int p2)] [(.ref a1)])) _
                      refine st282 _ ?_
                      show Steps p.tables e below (T282.setTop (mkF m 222 #[.val (.ref a1), .val (.int p2)] [(.int iw)])) _
                      exact kt
                    by_cases hc222_284 : iw = (0 : Int32)
                    · skip
                      obtain ⟨T285, h285, X285, e285, W285, st285⟩ := putFN X282 hx hZ hown (hw _ (List.mem_of_getElem? (i := 63) rfl)) Via.refl e282 H7 H2 (Or.inl (hw _ (List.mem_of_getElem? (i := 64) rfl))) (hw _ (List.mem_of_getElem? (i := 9) rfl)) (ty := .boolean) (v' := (.int (nar .boolean (1 : Int32)))) (by decide) rfl (fits_nar_bool _) (g := (mkF m 227 #[.val (.ref a1), .val (.int p2)] [(.int (1 : Int32)), (.ref a1)])) rfl rfl (hb hby d11_227)
                      rw [show nar .boolean (1 : Int32) = (1 : Int32) from by decide] at W285
                      have Fw285 := H7.same W285
                      have Hc286 := CHv.wr W285 (Safe.exa hZ.alike H2 (by decide) (by decide)) hH
                      have Cr286 := Cr0.trans (CHr.wr W285 (Safe.exa hZ.alike H2 (by decide) (by decide)) hH)
                      have N285 := Fr.snoc X285 N0 H18
                      have f287 : Fld Z h285 a1 "com/example/rouse/rouse/shell/ShellWords" "quote" "C" (.int q) := (H4.other W285 (Or.inr (slot_ne (Or.inl (hw _ (List.mem_of_getElem? (i := 72) rfl))) (Or.inl (hw _ (List.mem_of_getElem? (i := 64) rfl))) (by decide) (t := .char) (t' := .boolean) (by decide) (by decide))))
                      have f288 : Fld Z h285 a1 "com/example/rouse/rouse/shell/ShellWords" "escaped" "Z" (.int e_) := (H5.other W285 (Or.inr (slot_ne (Or.inl (hw _ (List.mem_of_getElem? (i := 70) rfl))) (Or.inl (hw _ (List.mem_of_getElem? (i := 64) rfl))) (by decide) (t := .boolean) (t' := .boolean) (by decide) (by decide))))
                      have f289 : Fld Z h285 a1 "com/example/rouse/rouse/shell/ShellWords" "line" "Lcom/example/rouse/rouse/shell/CommandLine;" (.ref cl) := (H3.other W285 (Or.inr (slot_ne (Or.inl (hw _ (List.mem_of_getElem? (i := 39) rfl))) (Or.inl (hw _ (List.mem_of_getElem? (i := 64) rfl))) (by decide) (t := (.object "com/example/rouse/rouse/shell/CommandLine")) (t' := .boolean) (by decide) (by decide))))
                      have f290 : Fld Z h285 a1 "com/example/rouse/rouse/shell/ShellWords" "inWord" "Z" (.int iw) := (H6.other W285 (Or.inr (slot_ne (Or.inl (hw _ (List.mem_of_getElem? (i := 81) rfl))) (Or.inl (hw _ (List.mem_of_getElem? (i := 64) rfl))) (by decide) (t := .boolean) (t' := .boolean) (by decide) (by decide))))
                      have f291 : Fld Z h285 a1 "com/example/rouse/rouse/shell/ShellWords" "length" "I" (.int len) := (H8.other W285 (Or.inr (slot_ne (Or.inl (hw _ (List.mem_of_getElem? (i := 46) rfl))) (Or.inl (hw _ (List.mem_of_getElem? (i := 64) rfl))) (by decide) (t := .int) (t' := .boolean) (by decide) (by decide))))
                      have f292 : Fld Z h285 a1 "com/example/rouse/rouse/shell/ShellWords" "skippingLine" "Z" (.int (0 : Int32)) := (H9.other W285 (Or.inr (slot_ne (Or.inl (hw _ (List.mem_of_getElem? (i := 56) rfl))) (Or.inl (hw _ (List.mem_of_getElem? (i := 64) rfl))) (by decide) (t := .boolean) (t' := .boolean) (by decide) (by decide))))
                      have ne293 : cl ≠ a1 := ne_exa H10 H2 (by decide)
                      have f294 : Fld Z h285 cl "com/example/rouse/rouse/shell/CommandLine" "words" "I" (.int w) := (H11.other W285 (Or.inl ne293))
                      have f295 : Fld Z h285 cl "com/example/rouse/rouse/shell/CommandLine" "commandStart" "I" (.int cs) := (H12.other W285 (Or.inl ne293))
                      have f296 : Fld Z h285 cl "com/example/rouse/rouse/shell/CommandLine" "length" "I" (.int n) := (H13.other W285 (Or.inl ne293))
                      have f297 : Fld Z h285 cl "com/example/rouse/rouse/shell/CommandLine" "characters" "[C" (.ref cb) := (H14.other W285 (Or.inl ne293))
                      have f298 : Fld Z h285 cl "com/example/rouse/rouse/shell/CommandLine" "wordEnds" "[I" (.ref wb) := (H15.other W285 (Or.inl ne293))
                      have ne299 : a1 ≠ cb := Exa.neArv H2 H16 (hw _ (List.mem_of_getElem? (i := 9) rfl))
                      have f300 : Arv Z h285 cb ck .char (16 : Int32) cvs (.int (0 : Int32)) := (H16.other W285 (Ne.symm ne299))
                      have ne301 : a1 ≠ wb := Exa.neArv H2 H17 (hw _ (List.mem_of_getElem? (i := 9) rfl))
                      have f302 : Arv Z h285 wb wk .int (16 : Int32) wvs (.int (0 : Int32)) := (H17.other W285 (Ne.symm ne301))
                      obtain ⟨fs, hr, hrun, hended, hEnd⟩ := X285.leaveW hS0 (by rw [e285]; exact (Nat.le_trans (Nat.zero_le _) (Nat.le_of_eq W285.size.symm))) (v := none) (fun _ => rfl)
                      refine ⟨_, _, pre283 _ ?_, hrun, hended, _, _, rfl, ?_, (show CHr Z own_EL s.vm s.heap T285.vm T285.heap from by rw [hh, e285]; exact Cr286.trans (CHv.at X285 hZ hEL Hc286)), hEnd.1, hEnd.2.1, hEnd.2.2.1, hEnd.2.2.2.mono (by decide) (by decide)⟩
                      · skip
                        show Steps p.tables e below (T282.setTop (mkF m 222 #[.val (.ref a1), .val (.int p2)] [(.int iw)])) _
                        refine XS.ifNo X282.here hx rfl (hb hby d11_222) rfl ((if0 _ _).trans (teq (hc222_284 : iw = (0 : Int32))).2) ?_
                        show Steps p.tables e below (T282.setTop (mkF m 225 #[.val (.ref a1), .val (.int p2)] [])) _
                        refine XS.aloadN X282.here hx rfl (hb hby d11_225) rfl rfl ?_
                        show Steps p.tables e below (T282.setTop (mkF m 226 #[.val (.ref a1), .val (.int p2)] [(.ref a1)])) _
                        refine XS.iconst X282.here hx rfl (hb hby d11_226) ?_
                        show Steps p.tables e below (T282.setTop (mkF m 227 #[.val (.ref a1), .val (.int p2)] [(.int (1 : Int32)), (.ref a1)])) _
                        refine st285 _ ?_
                        show Steps p.tables e below (T285.setTop (mkF m 230 #[.val (.ref a1), .val (.int p2)] [])) _
                        refine XS.goto X285.here hx rfl (pc0 := 230) (pc' := 284) rfl (hb hby d11_230) (by decide) (by decide) ?_
                        show Steps p.tables e below (T285.setTop (mkF m 284 #[.val (.ref a1), .val (.int p2)] [])) _
                        exact X285.returnOut hx Bd.returns (hb hby d11_284) hr
                      · show Q11 Z a1 p2 cz cl w cs n cb ck cvs wb wk wvs q e_ iw ic len k h0 n0 _ T285.heap _
                        rw [e285]
                        exact ⟨iw, w, n, cvs, wvs, rfl, N285, ((Keep.refl h0 [a1, cl, cb, wb]).wr W285 (Or.inl (List.mem_of_getElem? (i := 0) rfl))), f289, (by simpa only [own_rq, eq_true hc4_103, eq_false hc78_106, eq_false hc112_143, eq_false hc157_199, eq_false hc163_223, eq_false hc182_247, eq_false hc196_267, eq_false hc202_274, eq_true hc215_281, eq_true hc222_284, if_true, if_false] using f287), (by simpa only [own_re, eq_true hc4_103, eq_false hc78_106, eq_false hc112_143, eq_false hc157_199, eq_false hc163_223, eq_false hc182_247, eq_false hc196_267, eq_false hc202_274, eq_true hc215_281, eq_true hc222_284, if_true, if_false] using f288), f290, (by simpa only [own_ric, eq_true hc4_103, eq_false hc78_106, eq_false hc112_143, eq_false hc157_199, eq_false hc163_223, eq_false hc182_247, eq_false hc196_267, eq_false hc202_274, eq_true hc215_281, eq_true hc222_284, if_true, if_false] using Fw285), f291, f292, f294, f295, f296, f297, f298, f300, f302, H23, H24, (by obtain ⟨o1, o2, o3, o4, o5, o6⟩ := H25; have i1 := own_inc o1 o2 (by omega); have i2 := own_inc o5 o6 (by omega); have i3 := own_inc i2.1 i2.2 (by omega); exact ⟨by omega, by omega, by omega, by omega, by omega, by omega⟩)⟩
                    · skip
                      obtain ⟨T303, X303, e303, st303⟩ := getF X282 hx hZ hown (host := "") (Or.inl (hw _ (List.mem_of_getElem? (i := 38) rfl))) Via.refl e282 H3 (g := (mkF m 272 #[.val (.ref a1), .val (.int p2)] [(.ref a1)])) rfl rfl (hb hby d11_272)
                      obtain ⟨cq304, kq304, q304a, q304b, q304c⟩ := isOf hZ e303 H10
                      obtain ⟨_, _, ⟨T304, L304, k304, n304⟩, -, X304, ⟨Lc304, hQ304, l304, y304, z304⟩, st304⟩ := X303.virtualBack hx (y := (⟨"com/example/rouse/rouse/shell/CommandLine", "append", "(C)V"⟩ : MethodName)) (z := (⟨"com/example/rouse/rouse/shell/CommandLine", "append", "(C)V"⟩ : MethodName)) hown (mvT hZ (hw _ (List.mem_of_getElem? (i := 73) rfl))) (mvT hZ (hw _ (List.mem_of_getElem? (i := 74) rfl))) (notFace_of_selects (args := #[]) (mvT hZ (hw _ (List.mem_of_getElem? (i := 76) rfl)))) (mvT hZ (hw _ (List.mem_of_getElem? (i := 76) rfl))) (mvT hZ (hw _ (List.mem_of_getElem? (i := 75) rfl))) (by decide) (backOf (W := 0) (rm12 l Z a0 hw [] cl p2 w cs n cb ck cvs wb h0 n0 Z0 H10 H11 H12 H13 H14 H15 H16 H19 H20 (own_in_of H25.2.2.2.2.1 H25.2.2.2.2.2 (by omega)) H23) hZ (hw _ (List.mem_of_getElem? (i := 77) rfl)) (hw _ (List.mem_of_getElem? (i := 22) rfl)) (by decide) (by decide)) q304a q304c (g := (mkF m 276 #[.val (.ref a1), .val (.int p2)] [(.int p2), (.ref cl)])) rfl (by rw [hml]; rfl) (Steps.refl _) (argsL := [(.int p2)]) (rest := []) (lenOf pd_9 rfl) rfl (by show 2 * 0 + _ ≤ _; exact Nat.le_of_eq rfl) (hb hby d11_276) (fun _ _ => ⟨rfl, e303, (by decide : 0 + 0 ≤ _), (by decide : 0 + 0 ≤ _)⟩)
                      dsimp only [Pt.U, Pt.locs, Pt.cells, Pt.slots] at X304 l304 y304 z304 st304 hQ304
                      subst l304 y304 z304
                      obtain ⟨cvx304, rfl, Nq304, K304, R304_1, R304_2, R304_3, R304_4, R304_5, R304_6, R304_7⟩ := hQ304
                      have N304 := Fr.app N0 Nq304
                      have hs305 : ∀ x ∈ ([cl, cb] : List Addr), Safe Z own_EL s.vm h0 x := (allS (P := fun x => Safe Z own_EL s.vm h0 x) (Safe.exa hZ.alike H10 (by decide) (by decide)) (allS (P := fun x => Safe Z own_EL s.vm h0 x) (own_safe_arv hZ.alike H16 (by decide)) (all0 (P := fun x => Safe Z own_EL s.vm h0 x))))
                      have Hc305 := CHv.keep K304 hs305 hH
                      have Cr305 := Cr0.trans (CHr.keep K304 hs305 hH)
                      have ne306 : a1 ≠ cb := Exa.neArv (H2.keep K304) R304_6 (hw _ (List.mem_of_getElem? (i := 9) rfl))
                      have ne307 : a1 ≠ cl := ne_exa H2 H10 (by decide)
                      have f308 : Fld Z T304.heap a1 "com/example/rouse/rouse/shell/ShellWords" "inWord" "Z" (.int iw) := (H6.keep K304 (ninS ne307 (ninS ne306 nin0)))
                      have f309 : Exa Z T304.heap a1 "com/example/rouse/rouse/shell/ShellWords" := (H2.keep K304)
                      obtain ⟨T310, h310, X310, e310, W310, st310⟩ := putFN X304 hx hZ hown (hw _ (List.mem_of_getElem? (i := 80) rfl)) Via.refl rfl f308 f309 (Or.inl (hw _ (List.mem_of_getElem? (i := 81) rfl))) (hw _ (List.mem_of_getElem? (i := 9) rfl)) (ty := .boolean) (v' := (.int (nar .boolean (1 : Int32)))) (by decide) rfl (fits_nar_bool _) (g := (mkF m 281 #[.val (.ref a1), .val (.int p2)] [(.int (1 : Int32)), (.ref a1)])) rfl rfl (hb hby d11_281)
                      rw [show nar .boolean (1 : Int32) = (1 : Int32) from by decide] at W310
                      have Fw310 := f308.same W310
                      have Hc311 := CHv.wr W310 (Safe.exa hZ.alike f309 (by decide) (by decide)) Hc305
                      have Cr311 := Cr305.trans (CHr.wr W310 (Safe.exa hZ.alike f309 (by decide) (by decide)) Hc305)
                      have N310 := Fr.snoc X310 N304 H18
                      have f312 : Fld Z h310 a1 "com/example/rouse/rouse/shell/ShellWords" "quote" "C" (.int q) := ((H4.keep K304 (ninS ne307 (ninS ne306 nin0))).other W310 (Or.inr (slot_ne (Or.inl (hw _ (List.mem_of_getElem? (i := 72) rfl))) (Or.inl (hw _ (List.mem_of_getElem? (i := 81) rfl))) (by decide) (t := .char) (t' := .boolean) (by decide) (by decide))))
                      have f313 : Fld Z h310 a1 "com/example/rouse/rouse/shell/ShellWords" "escaped" "Z" (.int e_) := ((H5.keep K304 (ninS ne307 (ninS ne306 nin0))).other W310 (Or.inr (slot_ne (Or.inl (hw _ (List.mem_of_getElem? (i := 70) rfl))) (Or.inl (hw _ (List.mem_of_getElem? (i := 81) rfl))) (by decide) (t := .boolean) (t' := .boolean) (by decide) (by decide))))
                      have f314 : Fld Z h310 a1 "com/example/rouse/rouse/shell/ShellWords" "inComment" "Z" (.int ic) := ((H7.keep K304 (ninS ne307 (ninS ne306 nin0))).other W310 (Or.inr (slot_ne (Or.inl (hw _ (List.mem_of_getElem? (i := 64) rfl))) (Or.inl (hw _ (List.mem_of_getElem? (i := 81) rfl))) (by decide) (t := .boolean) (t' := .boolean) (by decide) (by decide))))
                      have f315 : Fld Z h310 a1 "com/example/rouse/rouse/shell/ShellWords" "line" "Lcom/example/rouse/rouse/shell/CommandLine;" (.ref cl) := ((H3.keep K304 (ninS ne307 (ninS ne306 nin0))).other W310 (Or.inr (slot_ne (Or.inl (hw _ (List.mem_of_getElem? (i := 39) rfl))) (Or.inl (hw _ (List.mem_of_getElem? (i := 81) rfl))) (by decide) (t := (.object "com/example/rouse/rouse/shell/CommandLine")) (t' := .boolean) (by decide) (by decide))))
                      have f316 : Fld Z h310 a1 "com/example/rouse/rouse/shell/ShellWords" "length" "I" (.int len) := ((H8.keep K304 (ninS ne307 (ninS ne306 nin0))).other W310 (Or.inr (slot_ne (Or.inl (hw _ (List.mem_of_getElem? (i := 46) rfl))) (Or.inl (hw _ (List.mem_of_getElem? (i := 81) rfl))) (by decide) (t := .int) (t' := .boolean) (by decide) (by decide))))
                      have f317 : Fld Z h310 a1 "com/example/rouse/rouse/shell/ShellWords" "skippingLine" "Z" (.int (0 : Int32)) := ((H9.keep K304 (ninS ne307 (ninS ne306 nin0))).other W310 (Or.inr (slot_ne (Or.inl (hw _ (List.mem_of_getElem? (i := 56) rfl))) (Or.inl (hw _ (List.mem_of_getElem? (i := 81) rfl))) (by decide) (t := .boolean) (t' := .boolean) (by decide) (by decide))))
                      have f318 : Fld Z h310 cl "com/example/rouse/rouse/shell/CommandLine" "words" "I" (.int w) := (R304_1.other W310 (Or.inl (Ne.symm ne307)))
                      have f319 : Fld Z h310 cl "com/example/rouse/rouse/shell/CommandLine" "commandStart" "I" (.int cs) := (R304_2.other W310 (Or.inl (Ne.symm ne307)))
                      have f320 : Fld Z h310 cl "com/example/rouse/rouse/shell/CommandLine" "length" "I" (.int (n + (1 : Int32))) := (R304_3.other W310 (Or.inl (Ne.symm ne307)))
                      have f321 : Fld Z h310 cl "com/example/rouse/rouse/shell/CommandLine" "characters" "[C" (.ref cb) := (R304_4.other W310 (Or.inl (Ne.symm ne307)))
                      have f322 : Fld Z h310 cl "com/example/rouse/rouse/shell/CommandLine" "wordEnds" "[I" (.ref wb) := (R304_5.other W310 (Or.inl (Ne.symm ne307)))
                      have f323 : Arv Z h310 cb ck .char (16 : Int32) cvx304 (.int (0 : Int32)) := (R304_6.other W310 (Ne.symm ne306))
                      have ne324 : cl ≠ wb := Exa.neArv H10 H17 (hw _ (List.mem_of_getElem? (i := 21) rfl))
                      have ne325 : a1 ≠ wb := Exa.neArv H2 H17 (hw _ (List.mem_of_getElem? (i := 9) rfl))
                      have f326 : Arv Z h310 wb wk .int (16 : Int32) wvs (.int (0 : Int32)) := ((H17.keep K304 (ninS (Ne.symm ne324) (ninS (Ne.symm H22) nin0))).other W310 (Ne.symm ne325))
                      obtain ⟨fs, hr, hrun, hended, hEnd⟩ := X310.leaveW hS0 (by rw [e310]; exact (Nat.le_trans (Nat.le_trans (Nat.zero_le _) K304.1) (Nat.le_of_eq W310.size.symm))) (v := none) (fun _ => rfl)
                      refine ⟨_, _, pre283 _ ?_, hrun, hended, _, _, rfl, ?_, (show CHr Z own_EL s.vm s.heap T310.vm T310.heap from by rw [hh, e310]; exact Cr311.trans (CHv.at X310 hZ hEL Hc311)), hEnd.1, hEnd.2.1, hEnd.2.2.1, hEnd.2.2.2.mono (by decide) (by decide)⟩
                      · skip
                        show Steps p.tables e below (T282.setTop (mkF m 222 #[.val (.ref a1), .val (.int p2)] [(.int iw)])) _
                        refine XS.ifYes X282.here hx rfl (pc0 := 222) (pc' := 233) rfl (hb hby d11_222) rfl ((if0 _ _).trans (feq (hc222_284 : ¬ (iw = (0 : Int32)))).2) (by decide) (by decide) ?_
                        show Steps p.tables e below (T282.setTop (mkF m 233 #[.val (.ref a1), .val (.int p2)] [])) _
                        refine XS.iloadN X282.here hx rfl (hb hby d11_233) rfl ?_
                        show Steps p.tables e below (T282.setTop (mkF m 234 #[.val (.ref a1), .val (.int p2)] [(.int p2)])) _
                        refine XS.bipush X282.here hx rfl (hb hby d11_234) ?_
                        show Steps p.tables e below (T282.setTop (mkF m 236 #[.val (.ref a1), .val (.int p2)] [(.int (59 : Int32)), (.int p2)])) _
                        refine XS.icmpYes X282.here hx rfl (pc0 := 236) (pc' := 271) rfl (hb hby d11_236) rfl (feq (H27 : ¬ (p2 = (59 : Int32)))).2 (by decide) (by decide) ?_
                        show Steps p.tables e below (T282.setTop (mkF m 271 #[.val (.ref a1), .val (.int p2)] [])) _
                        refine XS.aloadN X282.here hx rfl (hb hby d11_271) rfl rfl ?_
                        show Steps p.tables e below (T282.setTop (mkF m 272 #[.val (.ref a1), .val (.int p2)] [(.ref a1)])) _
                        refine st303 _ ?_
                        show Steps p.tables e below (T303.setTop (mkF m 275 #[.val (.ref a1), .val (.int p2)] [(.ref cl)])) _
                        refine XS.iloadN X303.here hx rfl (hb hby d11_275) rfl ?_
                        show Steps p.tables e below (T303.setTop (mkF m 276 #[.val (.ref a1), .val (.int p2)] [(.int p2), (.ref cl)])) _
                        refine st304.trans ?_
                        show Steps p.tables e below (T304.setTop (mkF m 279 #[.val (.ref a1), .val (.int p2)] [])) _
                        refine XS.aloadN X304.here hx rfl (hb hby d11_279) rfl rfl ?_
                        show Steps p.tables e below (T304.setTop (mkF m 280 #[.val (.ref a1), .val (.int p2)] [(.ref a1)])) _
                        refine XS.iconst X304.here hx rfl (hb hby d11_280) ?_
                        show Steps p.tables e below (T304.setTop (mkF m 281 #[.val (.ref a1), .val (.int p2)] [(.int (1 : Int32)), (.ref a1)])) _
                        refine st310 _ ?_
                        show Steps p.tables e below (T310.setTop (mkF m 284 #[.val (.ref a1), .val (.int p2)] [])) _
                        exact X310.returnOut hx Bd.returns (hb hby d11_284) hr
                      · show Q11 Z a1 p2 cz cl w cs n cb ck cvs wb wk wvs q e_ iw ic len k h0 n0 _ T310.heap _
                        rw [e310]
                        exact ⟨(1 : Int32), w, (n + (1 : Int32)), cvx304, wvs, rfl, N310, (((Keep.refl h0 [a1, cl, cb, wb]).trans K304 (allS (P := (fun x => x ∈ [a1, cl, cb, wb] ∨ h0.size ≤ x)) (Or.inl (List.mem_of_getElem? (i := 1) rfl)) (allS (P := (fun x => x ∈ [a1, cl, cb, wb] ∨ h0.size ≤ x)) (Or.inl (List.mem_of_getElem? (i := 2) rfl)) all0))).wr W310 (Or.inl (List.mem_of_getElem? (i := 0) rfl))), f315, (by simpa only [own_rq, eq_true hc4_103, eq_false hc78_106, eq_false hc112_143, eq_false hc157_199, eq_false hc163_223, eq_false hc182_247, eq_false hc196_267, eq_false hc202_274, eq_true hc215_281, eq_false hc222_284, if_true, if_false] using f312), (by simpa only [own_re, eq_true hc4_103, eq_false hc78_106, eq_false hc112_143, eq_false hc157_199, eq_false hc163_223, eq_false hc182_247, eq_false hc196_267, eq_false hc202_274, eq_true hc215_281, eq_false hc222_284, if_true, if_false] using f313), Fw310, (by simpa only [own_ric, eq_true hc4_103, eq_false hc78_106, eq_false hc112_143, eq_false hc157_199, eq_false hc163_223, eq_false hc182_247, eq_false hc196_267, eq_false hc202_274, eq_true hc215_281, eq_false hc222_284, if_true, if_false] using f314), f316, f317, f318, f319, f320, f321, f322, f323, f326, R304_7, H24, (by obtain ⟨o1, o2, o3, o4, o5, o6⟩ := H25; have i1 := own_inc o1 o2 (by omega); have i2 := own_inc o5 o6 (by omega); have i3 := own_inc i2.1 i2.2 (by omega); exact ⟨by omega, by omega, by omega, by omega, by omega, by omega⟩)⟩
                  · skip
                    obtain ⟨T327, X327, e327, st327⟩ := getF X141 hx hZ hown (host := "") (Or.inl (hw _ (List.mem_of_getElem? (i := 38) rfl))) Via.refl e141 H3 (g := (mkF m 272 #[.val (.ref a1), .val (.int p2)] [(.ref a1)])) rfl rfl (hb hby d11_272)
                    obtain ⟨cq328, kq328, q328a, q328b, q328c⟩ := isOf hZ e327 H10
                    obtain ⟨_, _, ⟨T328, L328, k328, n328⟩, -, X328, ⟨Lc328, hQ328, l328, y328, z328⟩, st328⟩ := X327.virtualBack hx (y := (⟨"com/example/rouse/rouse/shell/CommandLine", "append", "(C)V"⟩ : MethodName)) (z := (⟨"com/example/rouse/rouse/shell/CommandLine", "append", "(C)V"⟩ : MethodName)) hown (mvT hZ (hw _ (List.mem_of_getElem? (i := 73) rfl))) (mvT hZ (hw _ (List.mem_of_getElem? (i := 74) rfl))) (notFace_of_selects (args := #[]) (mvT hZ (hw _ (List.mem_of_getElem? (i := 76) rfl)))) (mvT hZ (hw _ (List.mem_of_getElem? (i := 76) rfl))) (mvT hZ (hw _ (List.mem_of_getElem? (i := 75) rfl))) (by decide) (backOf (W := 0) (rm12 l Z a0 hw [] cl p2 w cs n cb ck cvs wb h0 n0 Z0 H10 H11 H12 H13 H14 H15 H16 H19 H20 (own_in_of H25.2.2.2.2.1 H25.2.2.2.2.2 (by omega)) H23) hZ (hw _ (List.mem_of_getElem? (i := 77) rfl)) (hw _ (List.mem_of_getElem? (i := 22) rfl)) (by decide) (by decide)) q328a q328c (g := (mkF m 276 #[.val (.ref a1), .val (.int p2)] [(.int p2), (.ref cl)])) rfl (by rw [hml]; rfl) (Steps.refl _) (argsL := [(.int p2)]) (rest := []) (lenOf pd_9 rfl) rfl (by show 2 * 0 + _ ≤ _; exact Nat.le_of_eq rfl) (hb hby d11_276) (fun _ _ => ⟨rfl, e327, (by decide : 0 + 0 ≤ _), (by decide : 0 + 0 ≤ _)⟩)
                    dsimp only [Pt.U, Pt.locs, Pt.cells, Pt.slots] at X328 l328 y328 z328 st328 hQ328
                    subst l328 y328 z328
                    obtain ⟨cvx328, rfl, Nq328, K328, R328_1, R328_2, R328_3, R328_4, R328_5, R328_6, R328_7⟩ := hQ328
                    have N328 := Fr.app N0 Nq328
                    have hs329 : ∀ x ∈ ([cl, cb] : List Addr), Safe Z own_EL s.vm h0 x := (allS (P := fun x => Safe Z own_EL s.vm h0 x) (Safe.exa hZ.alike H10 (by decide) (by decide)) (allS (P := fun x => Safe Z own_EL s.vm h0 x) (own_safe_arv hZ.alike H16 (by decide)) (all0 (P := fun x => Safe Z own_EL s.vm h0 x))))
                    have Hc329 := CHv.keep K328 hs329 hH
                    have Cr329 := Cr0.trans (CHr.keep K328 hs329 hH)
                    have ne330 : a1 ≠ cb := Exa.neArv (H2.keep K328) R328_6 (hw _ (List.mem_of_getElem? (i := 9) rfl))
                    have ne331 : a1 ≠ cl := ne_exa H2 H10 (by decide)
                    have f332 : Fld Z T328.heap a1 "com/example/rouse/rouse/shell/ShellWords" "inWord" "Z" (.int iw) := (H6.keep K328 (ninS ne331 (ninS ne330 nin0)))
                    have f333 : Exa Z T328.heap a1 "com/example/rouse/rouse/shell/ShellWords" := (H2.keep K328)
                    obtain ⟨T334, h334, X334, e334, W334, st334⟩ := putFN X328 hx hZ hown (hw _ (List.mem_of_getElem? (i := 80) rfl)) Via.refl rfl f332 f333 (Or.inl (hw _ (List.mem_of_getElem? (i := 81) rfl))) (hw _ (List.mem_of_getElem? (i := 9) rfl)) (ty := .boolean) (v' := (.int (nar .boolean (1 : Int32)))) (by decide) rfl (fits_nar_bool _) (g := (mkF m 281 #[.val (.ref a1), .val (.int p2)] [(.int (1 : Int32)), (.ref a1)])) rfl rfl (hb hby d11_281)
                    rw [show nar .boolean (1 : Int32) = (1 : Int32) from by decide] at W334
                    have Fw334 := f332.same W334
                    have Hc335 := CHv.wr W334 (Safe.exa hZ.alike f333 (by decide) (by decide)) Hc329
                    have Cr335 := Cr329.trans (CHr.wr W334 (Safe.exa hZ.alike f333 (by decide) (by decide)) Hc329)
                    have N334 := Fr.snoc X334 N328 H18
                    have f336 : Fld Z h334 a1 "com/example/rouse/rouse/shell/ShellWords" "quote" "C" (.int q) := ((H4.keep K328 (ninS ne331 (ninS ne330 nin0))).other W334 (Or.inr (slot_ne (Or.inl (hw _ (List.mem_of_getElem? (i := 72) rfl))) (Or.inl (hw _ (List.mem_of_getElem? (i := 81) rfl))) (by decide) (t := .char) (t' := .boolean) (by decide) (by decide))))
                    have f337 : Fld Z h334 a1 "com/example/rouse/rouse/shell/ShellWords" "escaped" "Z" (.int e_) := ((H5.keep K328 (ninS ne331 (ninS ne330 nin0))).other W334 (Or.inr (slot_ne (Or.inl (hw _ (List.mem_of_getElem? (i := 70) rfl))) (Or.inl (hw _ (List.mem_of_getElem? (i := 81) rfl))) (by decide) (t := .boolean) (t' := .boolean) (by decide) (by decide))))
                    have f338 : Fld Z h334 a1 "com/example/rouse/rouse/shell/ShellWords" "inComment" "Z" (.int ic) := ((H7.keep K328 (ninS ne331 (ninS ne330 nin0))).other W334 (Or.inr (slot_ne (Or.inl (hw _ (List.mem_of_getElem? (i := 64) rfl))) (Or.inl (hw _ (List.mem_of_getElem? (i := 81) rfl))) (by decide) (t := .boolean) (t' := .boolean) (by decide) (by decide))))
                    have f339 : Fld Z h334 a1 "com/example/rouse/rouse/shell/ShellWords" "line" "Lcom/example/rouse/rouse/shell/CommandLine;" (.ref cl) := ((H3.keep K328 (ninS ne331 (ninS ne330 nin0))).other W334 (Or.inr (slot_ne (Or.inl (hw _ (List.mem_of_getElem? (i := 39) rfl))) (Or.inl (hw _ (List.mem_of_getElem? (i := 81) rfl))) (by decide) (t := (.object "com/example/rouse/rouse/shell/CommandLine")) (t' := .boolean) (by decide) (by decide))))
                    have f340 : Fld Z h334 a1 "com/example/rouse/rouse/shell/ShellWords" "length" "I" (.int len) := ((H8.keep K328 (ninS ne331 (ninS ne330 nin0))).other W334 (Or.inr (slot_ne (Or.inl (hw _ (List.mem_of_getElem? (i := 46) rfl))) (Or.inl (hw _ (List.mem_of_getElem? (i := 81) rfl))) (by decide) (t := .int) (t' := .boolean) (by decide) (by decide))))
                    have f341 : Fld Z h334 a1 "com/example/rouse/rouse/shell/ShellWords" "skippingLine" "Z" (.int (0 : Int32)) := ((H9.keep K328 (ninS ne331 (ninS ne330 nin0))).other W334 (Or.inr (slot_ne (Or.inl (hw _ (List.mem_of_getElem? (i := 56) rfl))) (Or.inl (hw _ (List.mem_of_getElem? (i := 81) rfl))) (by decide) (t := .boolean) (t' := .boolean) (by decide) (by decide))))
                    have f342 : Fld Z h334 cl "com/example/rouse/rouse/shell/CommandLine" "words" "I" (.int w) := (R328_1.other W334 (Or.inl (Ne.symm ne331)))
                    have f343 : Fld Z h334 cl "com/example/rouse/rouse/shell/CommandLine" "commandStart" "I" (.int cs) := (R328_2.other W334 (Or.inl (Ne.symm ne331)))
                    have f344 : Fld Z h334 cl "com/example/rouse/rouse/shell/CommandLine" "length" "I" (.int (n + (1 : Int32))) := (R328_3.other W334 (Or.inl (Ne.symm ne331)))
                    have f345 : Fld Z h334 cl "com/example/rouse/rouse/shell/CommandLine" "characters" "[C" (.ref cb) := (R328_4.other W334 (Or.inl (Ne.symm ne331)))
                    have f346 : Fld Z h334 cl "com/example/rouse/rouse/shell/CommandLine" "wordEnds" "[I" (.ref wb) := (R328_5.other W334 (Or.inl (Ne.symm ne331)))
                    have f347 : Arv Z h334 cb ck .char (16 : Int32) cvx328 (.int (0 : Int32)) := (R328_6.other W334 (Ne.symm ne330))
                    have ne348 : cl ≠ wb := Exa.neArv H10 H17 (hw _ (List.mem_of_getElem? (i := 21) rfl))
                    have ne349 : a1 ≠ wb := Exa.neArv H2 H17 (hw _ (List.mem_of_getElem? (i := 9) rfl))
                    have f350 : Arv Z h334 wb wk .int (16 : Int32) wvs (.int (0 : Int32)) := ((H17.keep K328 (ninS (Ne.symm ne348) (ninS (Ne.symm H22) nin0))).other W334 (Ne.symm ne349))
                    obtain ⟨fs, hr, hrun, hended, hEnd⟩ := X334.leaveW hS0 (by rw [e334]; exact (Nat.le_trans (Nat.le_trans (Nat.zero_le _) K328.1) (Nat.le_of_eq W334.size.symm))) (v := none) (fun _ => rfl)
                    refine ⟨_, _, pre280 _ ?_, hrun, hended, _, _, rfl, ?_, (show CHr Z own_EL s.vm s.heap T334.vm T334.heap from by rw [hh, e334]; exact Cr335.trans (CHv.at X334 hZ hEL Hc335)), hEnd.1, hEnd.2.1, hEnd.2.2.1, hEnd.2.2.2.mono (by decide) (by decide)⟩
                    · skip
                      show Steps p.tables e below (T141.setTop (mkF m 215 #[.val (.ref a1), .val (.int p2)] [(.int (35 : Int32)), (.int p2)])) _
                      refine XS.icmpYes X141.here hx rfl (pc0 := 215) (pc' := 233) rfl (hb hby d11_215) rfl (feq (hc215_281 : ¬ (p2 = (35 : Int32)))).2 (by decide) (by decide) ?_
                      show Steps p.tables e below (T141.setTop (mkF m 233 #[.val (.ref a1), .val (.int p2)] [])) _
                      refine XS.iloadN X141.here hx rfl (hb hby d11_233) rfl ?_
                      show Steps p.tables e below (T141.setTop (mkF m 234 #[.val (.ref a1), .val (.int p2)] [(.int p2)])) _
                      refine XS.bipush X141.here hx rfl (hb hby d11_234) ?_
                      show Steps p.tables e below (T141.setTop (mkF m 236 #[.val (.ref a1), .val (.int p2)] [(.int (59 : Int32)), (.int p2)])) _
                      refine XS.icmpYes X141.here hx rfl (pc0 := 236) (pc' := 271) rfl (hb hby d11_236) rfl (feq (H27 : ¬ (p2 = (59 : Int32)))).2 (by decide) (by decide) ?_
                      show Steps p.tables e below (T141.setTop (mkF m 271 #[.val (.ref a1), .val (.int p2)] [])) _
                      refine XS.aloadN X141.here hx rfl (hb hby d11_271) rfl rfl ?_
                      show Steps p.tables e below (T141.setTop (mkF m 272 #[.val (.ref a1), .val (.int p2)] [(.ref a1)])) _
                      refine st327 _ ?_
                      show Steps p.tables e below (T327.setTop (mkF m 275 #[.val (.ref a1), .val (.int p2)] [(.ref cl)])) _
                      refine XS.iloadN X327.here hx rfl (hb hby d11_275) rfl ?_
                      show Steps p.tables e below (T327.setTop (mkF m 276 #[.val (.ref a1), .val (.int p2)] [(.int p2), (.ref cl)])) _
                      refine st328.trans ?_
                      show Steps p.tables e below (T328.setTop (mkF m 279 #[.val (.ref a1), .val (.int p2)] [])) _
                      refine XS.aloadN X328.here hx rfl (hb hby d11_279) rfl rfl ?_
                      show Steps p.tables e below (T328.setTop (mkF m 280 #[.val (.ref a1), .val (.int p2)] [(.ref a1)])) _
                      refine XS.iconst X328.here hx rfl (hb hby d11_280) ?_
                      show Steps p.tables e below (T328.setTop (mkF m 281 #[.val (.ref a1), .val (.int p2)] [(.int (1 : Int32)), (.ref a1)])) _
                      refine st334 _ ?_
                      show Steps p.tables e below (T334.setTop (mkF m 284 #[.val (.ref a1), .val (.int p2)] [])) _
                      exact X334.returnOut hx Bd.returns (hb hby d11_284) hr
                    · show Q11 Z a1 p2 cz cl w cs n cb ck cvs wb wk wvs q e_ iw ic len k h0 n0 _ T334.heap _
                      rw [e334]
                      exact ⟨(1 : Int32), w, (n + (1 : Int32)), cvx328, wvs, rfl, N334, (((Keep.refl h0 [a1, cl, cb, wb]).trans K328 (allS (P := (fun x => x ∈ [a1, cl, cb, wb] ∨ h0.size ≤ x)) (Or.inl (List.mem_of_getElem? (i := 1) rfl)) (allS (P := (fun x => x ∈ [a1, cl, cb, wb] ∨ h0.size ≤ x)) (Or.inl (List.mem_of_getElem? (i := 2) rfl)) all0))).wr W334 (Or.inl (List.mem_of_getElem? (i := 0) rfl))), f339, (by simpa only [own_rq, eq_true hc4_103, eq_false hc78_106, eq_false hc112_143, eq_false hc157_199, eq_false hc163_223, eq_false hc182_247, eq_false hc196_267, eq_false hc202_274, eq_false hc215_281, if_true, if_false] using f336), (by simpa only [own_re, eq_true hc4_103, eq_false hc78_106, eq_false hc112_143, eq_false hc157_199, eq_false hc163_223, eq_false hc182_247, eq_false hc196_267, eq_false hc202_274, eq_false hc215_281, if_true, if_false] using f337), Fw334, (by simpa only [own_ric, eq_true hc4_103, eq_false hc78_106, eq_false hc112_143, eq_false hc157_199, eq_false hc163_223, eq_false hc182_247, eq_false hc196_267, eq_false hc202_274, eq_false hc215_281, if_true, if_false] using f338), f340, f341, f342, f343, f344, f345, f346, f347, f350, R328_7, H24, (by obtain ⟨o1, o2, o3, o4, o5, o6⟩ := H25; have i1 := own_inc o1 o2 (by omega); have i2 := own_inc o5 o6 (by omega); have i3 := own_inc i2.1 i2.2 (by omega); exact ⟨by omega, by omega, by omega, by omega, by omega, by omega⟩)⟩
  · skip
    obtain ⟨T351, h351, X351, e351, W351, st351⟩ := putFN X101 hx hZ hown (hw _ (List.mem_of_getElem? (i := 69) rfl)) Via.refl e101 H5 H2 (Or.inl (hw _ (List.mem_of_getElem? (i := 70) rfl))) (hw _ (List.mem_of_getElem? (i := 9) rfl)) (ty := .boolean) (v' := (.int (nar .boolean (0 : Int32)))) (by decide) rfl (fits_nar_bool _) (g := (mkF m 9 #[.val (.ref a1), .val (.int p2)] [(.int (0 : Int32)), (.ref a1)])) rfl rfl (hb hby d11_9)
    rw [show nar .boolean (0 : Int32) = (0 : Int32) from by decide] at W351
    have Fw351 := H5.same W351
    have Hc352 := CHv.wr W351 (Safe.exa hZ.alike H2 (by decide) (by decide)) hH
    have Cr352 := Cr0.trans (CHr.wr W351 (Safe.exa hZ.alike H2 (by decide) (by decide)) hH)
    have N351 := Fr.snoc X351 N0 H18
    have f353 : Fld Z h351 a1 "com/example/rouse/rouse/shell/ShellWords" "quote" "C" (.int q) := (H4.other W351 (Or.inr (slot_ne (Or.inl (hw _ (List.mem_of_getElem? (i := 72) rfl))) (Or.inl (hw _ (List.mem_of_getElem? (i := 70) rfl))) (by decide) (t := .char) (t' := .boolean) (by decide) (by decide))))
    obtain ⟨T354, X354, e354, st354⟩ := getF X351 hx hZ hown (host := "") (Or.inl (hw _ (List.mem_of_getElem? (i := 71) rfl))) Via.refl e351 f353 (g := (mkF m 13 #[.val (.ref a1), .val (.int p2)] [(.ref a1)])) rfl rfl (hb hby d11_13)
    have pre355 : ∀ t, Steps p.tables e below (T354.setTop (mkF m 18 #[.val (.ref a1), .val (.int p2)] [(.int (34 : Int32)), (.int q)])) t → Steps p.tables e below (s₁.setTop (entryFrame m #[(.ref a1), (.int p2)] 2)) t := fun t kt => by
      refine pre102 t ?_
      show Steps p.tables e below (T101.setTop (mkF m 4 #[.val (.ref a1), .val (.int p2)] [(.int e_)])) _
      refine XS.ifNo X101.here hx rfl (hb hby d11_4) rfl ((if0 _ _).trans (feq (hc4_103 : ¬ (e_ = (0 : Int32)))).1) ?_
      show Steps p.tables e below (T101.setTop (mkF m 7 #[.val (.ref a1), .val (.int p2)] [])) _
      refine XS.aloadN X101.here hx rfl (hb hby d11_7) rfl rfl ?_
      show Steps p.tables e below (T101.setTop (mkF m 8 #[.val (.ref a1), .val (.int p2)] [(.ref a1)])) _
      refine XS.iconst X101.here hx rfl (hb hby d11_8) ?_
      show Steps p.tables e below (T101.setTop (mkF m 9 #[.val (.ref a1), .val (.int p2)] [(.int (0 : Int32)), (.ref a1)])) _
      refine st351 _ ?_
      show Steps p.tables e below (T351.setTop (mkF m 12 #[.val (.ref a1), .val (.int p2)] [])) _
      refine XS.aloadN X351.here hx rfl (hb hby d11_12) rfl rfl ?_
      show Steps p.tables e below (T351.setTop (mkF m 13 #[.val (.ref a1), .val (.int p2)] [(.ref a1)])) _
      refine st354 _ ?_
      show Steps p.tables e below (T354.setTop (mkF m 16 #[.val (.ref a1), .val (.int p2)] [(.int q)])) _
      refine XS.bipush X354.here hx rfl (hb hby d11_16) ?_
      show Steps p.tables e below (T354.setTop (mkF m 18 #[.val (.ref a1), .val (.int p2)] [(.int (34 : Int32)), (.int q)])) _
      exact kt
    by_cases hc18_356 : q = (34 : Int32)
    · skip
      obtain ⟨a357, T357, h357, kk357, b357, k357, X357, e357, E357, hS357, hk357, hZ, hown, A357, Fc357, Fv357, V357, -, -, Cq357, -, sp357, st357⟩ := ldcCH X354 hx hZ hown (hw _ (List.mem_of_getElem? (i := 104) rfl)) (own_wS hw) e354 hS0 (Nat.le_trans (Nat.zero_le _) (Nat.le_of_eq W351.size.symm)) hEL (List.mem_of_getElem? (i := 0) rfl) Hc352 (vs := [(.int (36 : Int32)), (.int (96 : Int32)), (.int (34 : Int32)), (.int (92 : Int32)), (.int (10 : Int32))]) (z := (5 : Int32)) ⟨by decide +kernel, by first | rfl | decide +kernel⟩ (by decide) rfl (g := (mkF m 21 #[.val (.ref a1), .val (.int p2)] [])) rfl (hb hby d11_21) (n := 20) (by decide +kernel) (by decide) (by decide) (by decide)
      have Cr357 := Cr352.trans Cq357
      have Hc357 := Cq357.1
      have f358 : Sta Z h357 "java/lang/String" "COMPACT_STRINGS" "Z" (.int cz) := ((H0.wr W351).ext E357)
      have z360 : n0 ≤ h357.size := (Nat.le_trans (Nat.le_trans Z0 (Nat.le_of_eq W351.size.symm)) E357.1)
      obtain ⟨cq359, kq359, q359a, q359b, q359c⟩ := isOf hZ e357 A357
      obtain ⟨_, _, ⟨T359, L359, k359, n359⟩, -, X359, ⟨Lc359, hQ359, l359, y359, z359⟩, st359⟩ := X357.virtualBack hx (y := (⟨"java/lang/String", "indexOf", "(I)I"⟩ : MethodName)) (z := (⟨"java/lang/String", "indexOf", "(I)I"⟩ : MethodName)) hown (mvT hZ (hw _ (List.mem_of_getElem? (i := 112) rfl))) (mvT hZ (hw _ (List.mem_of_getElem? (i := 113) rfl))) (notFace_of_selects (args := #[]) (mvT hZ (hw _ (List.mem_of_getElem? (i := 115) rfl)))) (mvT hZ (hw _ (List.mem_of_getElem? (i := 115) rfl))) (mvT hZ (hw _ (List.mem_of_getElem? (i := 114) rfl))) (by decide) (backOf (W := 0) (rm17 l Z a0 hw [] a357 p2 cz b357 k357 h357 n0 z360 f358 H1 A357 Fc357 Fv357 V357) hZ (hw _ (List.mem_of_getElem? (i := 116) rfl)) (hw _ (List.mem_of_getElem? (i := 105) rfl)) (by decide) (by decide)) q359a q359c (g := (mkF m 24 #[.val (.ref a1), .val (.int p2)] [(.int p2), (.ref a357)])) rfl (by rw [hml]; rfl) (Steps.refl _) (argsL := [(.int p2)]) (rest := []) (lenOf pd_10 rfl) rfl (by show 2 * 0 + _ ≤ _; exact Nat.le_of_eq rfl) (hb hby d11_24) (fun _ _ => ⟨rfl, e357, (by decide : 2 + 0 ≤ _), (by decide : 24 + 0 ≤ _)⟩)
      dsimp only [Pt.U, Pt.locs, Pt.cells, Pt.slots] at X359 l359 y359 z359 st359 hQ359
      subst l359 y359 z359
      obtain ⟨rfl, Nq359, Heq359⟩ := hQ359
      have N359 := Fr.app N351 Nq359
      have pre361 : ∀ t, Steps p.tables e below (T359.setTop (mkF m 27 #[.val (.ref a1), .val (.int p2)] [(.int (own_sidx p2))])) t → Steps p.tables e below (s₁.setTop (entryFrame m #[(.ref a1), (.int p2)] 2)) t := fun t kt => by
        refine pre355 t ?_
        show Steps p.tables e below (T354.setTop (mkF m 18 #[.val (.ref a1), .val (.int p2)] [(.int (34 : Int32)), (.int q)])) _
        refine XS.icmpNo X354.here hx rfl (hb hby d11_18) rfl (teq (hc18_356 : q = (34 : Int32))).2 ?_
        show Steps p.tables e below (T354.setTop (mkF m 21 #[.val (.ref a1), .val (.int p2)] [])) _
        refine st357 _ ?_
        show Steps p.tables e below (T357.setTop (mkF m 23 #[.val (.ref a1), .val (.int p2)] [(.ref a357)])) _
        refine XS.iloadN X357.here hx rfl (hb hby d11_23) rfl ?_
        show Steps p.tables e below (T357.setTop (mkF m 24 #[.val (.ref a1), .val (.int p2)] [(.int p2), (.ref a357)])) _
        refine st359.trans ?_
        show Steps p.tables e below (T359.setTop (mkF m 27 #[.val (.ref a1), .val (.int p2)] [(.int (own_sidx p2))])) _
        exact kt
      by_cases hc27_362 : (own_sidx p2) < (0 : Int32)
      · skip
        have f363 : Fld Z h357 a1 "com/example/rouse/rouse/shell/ShellWords" "line" "Lcom/example/rouse/rouse/shell/CommandLine;" (.ref cl) := ((H3.other W351 (Or.inr (slot_ne (Or.inl (hw _ (List.mem_of_getElem? (i := 39) rfl))) (Or.inl (hw _ (List.mem_of_getElem? (i := 70) rfl))) (by decide) (t := (.object "com/example/rouse/rouse/shell/CommandLine")) (t' := .boolean) (by decide) (by decide)))).ext E357)
        obtain ⟨T364, X364, e364, st364⟩ := getF X359 hx hZ hown (host := "") (Or.inl (hw _ (List.mem_of_getElem? (i := 38) rfl))) Via.refl Heq359 f363 (g := (mkF m 31 #[.val (.ref a1), .val (.int p2)] [(.ref a1)])) rfl rfl (hb hby d11_31)
        have f365 : Exa Z h357 cl "com/example/rouse/rouse/shell/CommandLine" := ((H10.wr W351).ext E357)
        have ne366 : cl ≠ a1 := ne_exa H10 H2 (by decide)
        have f367 : Fld Z h357 cl "com/example/rouse/rouse/shell/CommandLine" "words" "I" (.int w) := ((H11.other W351 (Or.inl ne366)).ext E357)
        have f368 : Fld Z h357 cl "com/example/rouse/rouse/shell/CommandLine" "commandStart" "I" (.int cs) := ((H12.other W351 (Or.inl ne366)).ext E357)
        have f369 : Fld Z h357 cl "com/example/rouse/rouse/shell/CommandLine" "length" "I" (.int n) := ((H13.other W351 (Or.inl ne366)).ext E357)
        have f370 : Fld Z h357 cl "com/example/rouse/rouse/shell/CommandLine" "characters" "[C" (.ref cb) := ((H14.other W351 (Or.inl ne366)).ext E357)
        have f371 : Fld Z h357 cl "com/example/rouse/rouse/shell/CommandLine" "wordEnds" "[I" (.ref wb) := ((H15.other W351 (Or.inl ne366)).ext E357)
        have ne372 : a1 ≠ cb := Exa.neArv H2 H16 (hw _ (List.mem_of_getElem? (i := 9) rfl))
        have f373 : Arv Z h357 cb ck .char (16 : Int32) cvs (.int (0 : Int32)) := ((H16.other W351 (Ne.symm ne372)).ext E357)
        obtain ⟨cq374, kq374, q374a, q374b, q374c⟩ := isOf hZ e364 f365
        obtain ⟨_, _, ⟨T374, L374, k374, n374⟩, -, X374, ⟨Lc374, hQ374, l374, y374, z374⟩, st374⟩ := X364.virtualBack hx (y := (⟨"com/example/rouse/rouse/shell/CommandLine", "append", "(C)V"⟩ : MethodName)) (z := (⟨"com/example/rouse/rouse/shell/CommandLine", "append", "(C)V"⟩ : MethodName)) hown (mvT hZ (hw _ (List.mem_of_getElem? (i := 73) rfl))) (mvT hZ (hw _ (List.mem_of_getElem? (i := 74) rfl))) (notFace_of_selects (args := #[]) (mvT hZ (hw _ (List.mem_of_getElem? (i := 76) rfl)))) (mvT hZ (hw _ (List.mem_of_getElem? (i := 76) rfl))) (mvT hZ (hw _ (List.mem_of_getElem? (i := 75) rfl))) (by decide) (backOf (W := 0) (rm12 l Z a0 hw [] cl (92 : Int32) w cs n cb ck cvs wb h357 n0 z360 f365 f367 f368 f369 f370 f371 f373 H19 H20 (own_in_of H25.2.2.2.2.1 H25.2.2.2.2.2 (by omega)) H23) hZ (hw _ (List.mem_of_getElem? (i := 77) rfl)) (hw _ (List.mem_of_getElem? (i := 22) rfl)) (by decide) (by decide)) q374a q374c (g := (mkF m 36 #[.val (.ref a1), .val (.int p2)] [(.int (92 : Int32)), (.ref cl)])) rfl (by rw [hml]; rfl) (Steps.refl _) (argsL := [(.int (92 : Int32))]) (rest := []) (lenOf pd_9 rfl) rfl (by show 2 * 0 + _ ≤ _; exact Nat.le_of_eq rfl) (hb hby d11_36) (fun _ _ => ⟨rfl, e364, (by decide : 2 + 0 ≤ _), (by decide : 24 + 0 ≤ _)⟩)
        dsimp only [Pt.U, Pt.locs, Pt.cells, Pt.slots] at X374 l374 y374 z374 st374 hQ374
        subst l374 y374 z374
        obtain ⟨cvx374, rfl, Nq374, K374, R374_1, R374_2, R374_3, R374_4, R374_5, R374_6, R374_7⟩ := hQ374
        have N374 := Fr.app N359 Nq374
        have hs375 : ∀ x ∈ ([cl, cb] : List Addr), Safe Z own_EL T357.vm h357 x := (allS (P := fun x => Safe Z own_EL T357.vm h357 x) (Safe.exa hZ.alike f365 (by decide) (by decide)) (allS (P := fun x => Safe Z own_EL T357.vm h357 x) (own_safe_arv hZ.alike f373 (by decide)) (all0 (P := fun x => Safe Z own_EL T357.vm h357 x))))
        have Hc375 := CHv.keep K374 hs375 Hc357
        have Cr375 := Cr357.trans (CHr.keep K374 hs375 Hc357)
        have f376 : Fld Z T374.heap a1 "com/example/rouse/rouse/shell/ShellWords" "line" "Lcom/example/rouse/rouse/shell/CommandLine;" (.ref cl) := (f363.keep K374 (ninS (Ne.symm ne366) (ninS ne372 nin0)))
        obtain ⟨T377, X377, e377, st377⟩ := getF X374 hx hZ hown (host := "") (Or.inl (hw _ (List.mem_of_getElem? (i := 38) rfl))) Via.refl rfl f376 (g := (mkF m 40 #[.val (.ref a1), .val (.int p2)] [(.ref a1)])) rfl rfl (hb hby d11_40)
        have f378 : Exa Z T374.heap cl "com/example/rouse/rouse/shell/CommandLine" := (f365.keep K374)
        have z380 : n0 ≤ T374.heap.size := (Nat.le_trans z360 K374.1)
        obtain ⟨cq379, kq379, q379a, q379b, q379c⟩ := isOf hZ e377 f378
        obtain ⟨_, _, ⟨T379, L379, k379, n379⟩, -, X379, ⟨Lc379, hQ379, l379, y379, z379⟩, st379⟩ := X377.virtualBack hx (y := (⟨"com/example/rouse/rouse/shell/CommandLine", "append", "(C)V"⟩ : MethodName)) (z := (⟨"com/example/rouse/rouse/shell/CommandLine", "append", "(C)V"⟩ : MethodName)) hown (mvT hZ (hw _ (List.mem_of_getElem? (i := 73) rfl))) (mvT hZ (hw _ (List.mem_of_getElem? (i := 74) rfl))) (notFace_of_selects (args := #[]) (mvT hZ (hw _ (List.mem_of_getElem? (i := 76) rfl)))) (mvT hZ (hw _ (List.mem_of_getElem? (i := 76) rfl))) (mvT hZ (hw _ (List.mem_of_getElem? (i := 75) rfl))) (by decide) (backOf (W := 0) (rm12 l Z a0 hw [] cl p2 w cs (n + (1 : Int32)) cb ck cvx374 wb T374.heap n0 z380 f378 R374_1 R374_2 R374_3 R374_4 R374_5 R374_6 H19 H20 (own_in_of (own_inc H25.2.2.2.2.1 H25.2.2.2.2.2 (by omega)).1 (own_inc H25.2.2.2.2.1 H25.2.2.2.2.2 (by omega)).2 (by omega)) R374_7) hZ (hw _ (List.mem_of_getElem? (i := 77) rfl)) (hw _ (List.mem_of_getElem? (i := 22) rfl)) (by decide) (by decide)) q379a q379c (g := (mkF m 44 #[.val (.ref a1), .val (.int p2)] [(.int p2), (.ref cl)])) rfl (by rw [hml]; rfl) (Steps.refl _) (argsL := [(.int p2)]) (rest := []) (lenOf pd_9 rfl) rfl (by show 2 * 0 + _ ≤ _; exact Nat.le_of_eq rfl) (hb hby d11_44) (fun _ _ => ⟨rfl, e377, (by decide : 2 + 0 ≤ _), (by decide : 24 + 0 ≤ _)⟩)
        dsimp only [Pt.U, Pt.locs, Pt.cells, Pt.slots] at X379 l379 y379 z379 st379 hQ379
        subst l379 y379 z379
        obtain ⟨cvx379, rfl, Nq379, K379, R379_1, R379_2, R379_3, R379_4, R379_5, R379_6, R379_7⟩ := hQ379
        have N379 := Fr.app N374 Nq379
        have hs381 : ∀ x ∈ ([cl, cb] : List Addr), Safe Z own_EL T357.vm T374.heap x := (allS (P := fun x => Safe Z own_EL T357.vm T374.heap x) (Safe.exa hZ.alike f378 (by decide) (by decide)) (allS (P := fun x => Safe Z own_EL T357.vm T374.heap x) (own_safe_arv hZ.alike R374_6 (by decide)) (all0 (P := fun x => Safe Z own_EL T357.vm T374.heap x))))
        have Hc381 := CHv.keep K379 hs381 Hc375
        have Cr381 := Cr375.trans (CHr.keep K379 hs381 Hc375)
        have f382 : Fld Z T379.heap a1 "com/example/rouse/rouse/shell/ShellWords" "quote" "C" (.int q) := (((f353.ext E357).keep K374 (ninS (Ne.symm ne366) (ninS ne372 nin0))).keep K379 (ninS (Ne.symm ne366) (ninS ne372 nin0)))
        have f383 : Fld Z T379.heap a1 "com/example/rouse/rouse/shell/ShellWords" "escaped" "Z" (.int (0 : Int32)) := (((Fw351.ext E357).keep K374 (ninS (Ne.symm ne366) (ninS ne372 nin0))).keep K379 (ninS (Ne.symm ne366) (ninS ne372 nin0)))
        have f384 : Fld Z T379.heap a1 "com/example/rouse/rouse/shell/ShellWords" "inComment" "Z" (.int ic) := ((((H7.other W351 (Or.inr (slot_ne (Or.inl (hw _ (List.mem_of_getElem? (i := 64) rfl))) (Or.inl (hw _ (List.mem_of_getElem? (i := 70) rfl))) (by decide) (t := .boolean) (t' := .boolean) (by decide) (by decide)))).ext E357).keep K374 (ninS (Ne.symm ne366) (ninS ne372 nin0))).keep K379 (ninS (Ne.symm ne366) (ninS ne372 nin0)))
        have f385 : Fld Z T379.heap a1 "com/example/rouse/rouse/shell/ShellWords" "line" "Lcom/example/rouse/rouse/shell/CommandLine;" (.ref cl) := (f376.keep K379 (ninS (Ne.symm ne366) (ninS ne372 nin0)))
        have f386 : Fld Z T379.heap a1 "com/example/rouse/rouse/shell/ShellWords" "inWord" "Z" (.int iw) := ((((H6.other W351 (Or.inr (slot_ne (Or.inl (hw _ (List.mem_of_getElem? (i := 81) rfl))) (Or.inl (hw _ (List.mem_of_getElem? (i := 70) rfl))) (by decide) (t := .boolean) (t' := .boolean) (by decide) (by decide)))).ext E357).keep K374 (ninS (Ne.symm ne366) (ninS ne372 nin0))).keep K379 (ninS (Ne.symm ne366) (ninS ne372 nin0)))
        have f387 : Fld Z T379.heap a1 "com/example/rouse/rouse/shell/ShellWords" "length" "I" (.int len) := ((((H8.other W351 (Or.inr (slot_ne (Or.inl (hw _ (List.mem_of_getElem? (i := 46) rfl))) (Or.inl (hw _ (List.mem_of_getElem? (i := 70) rfl))) (by decide) (t := .int) (t' := .boolean) (by decide) (by decide)))).ext E357).keep K374 (ninS (Ne.symm ne366) (ninS ne372 nin0))).keep K379 (ninS (Ne.symm ne366) (ninS ne372 nin0)))
        have f388 : Fld Z T379.heap a1 "com/example/rouse/rouse/shell/ShellWords" "skippingLine" "Z" (.int (0 : Int32)) := ((((H9.other W351 (Or.inr (slot_ne (Or.inl (hw _ (List.mem_of_getElem? (i := 56) rfl))) (Or.inl (hw _ (List.mem_of_getElem? (i := 70) rfl))) (by decide) (t := .boolean) (t' := .boolean) (by decide) (by decide)))).ext E357).keep K374 (ninS (Ne.symm ne366) (ninS ne372 nin0))).keep K379 (ninS (Ne.symm ne366) (ninS ne372 nin0)))
        have ne389 : a1 ≠ wb := Exa.neArv H2 H17 (hw _ (List.mem_of_getElem? (i := 9) rfl))
        have ne390 : cl ≠ wb := Exa.neArv H10 H17 (hw _ (List.mem_of_getElem? (i := 21) rfl))
        have f391 : Arv Z T379.heap wb wk .int (16 : Int32) wvs (.int (0 : Int32)) := ((((H17.other W351 (Ne.symm ne389)).ext E357).keep K374 (ninS (Ne.symm ne390) (ninS (Ne.symm H22) nin0))).keep K379 (ninS (Ne.symm ne390) (ninS (Ne.symm H22) nin0)))
        obtain ⟨fs, hr, hrun, hended, hEnd⟩ := X379.leaveW hS357 (Nat.le_trans (Nat.le_trans hk357 K374.1) K379.1) (v := none) (fun _ => rfl)
        refine ⟨_, _, pre361 _ ?_, hrun, hended, _, _, rfl, ?_, (show CHr Z own_EL s.vm s.heap T379.vm T379.heap from by rw [hh]; exact Cr381.trans (CHv.at X379 hZ hEL Hc381)), hEnd.1, hEnd.2.1, hEnd.2.2.1, hEnd.2.2.2.mono (by decide) (by decide)⟩
        · skip
          show Steps p.tables e below (T359.setTop (mkF m 27 #[.val (.ref a1), .val (.int p2)] [(.int (own_sidx p2))])) _
          refine XS.ifNo X359.here hx rfl (hb hby d11_27) rfl ((if0 _ _).trans (tlt (hc27_362 : (own_sidx p2) < (0 : Int32))).2.1) ?_
          show Steps p.tables e below (T359.setTop (mkF m 30 #[.val (.ref a1), .val (.int p2)] [])) _
          refine XS.aloadN X359.here hx rfl (hb hby d11_30) rfl rfl ?_
          show Steps p.tables e below (T359.setTop (mkF m 31 #[.val (.ref a1), .val (.int p2)] [(.ref a1)])) _
          refine st364 _ ?_
          show Steps p.tables e below (T364.setTop (mkF m 34 #[.val (.ref a1), .val (.int p2)] [(.ref cl)])) _
          refine XS.bipush X364.here hx rfl (hb hby d11_34) ?_
          show Steps p.tables e below (T364.setTop (mkF m 36 #[.val (.ref a1), .val (.int p2)] [(.int (92 : Int32)), (.ref cl)])) _
          refine st374.trans ?_
          show Steps p.tables e below (T374.setTop (mkF m 39 #[.val (.ref a1), .val (.int p2)] [])) _
          refine XS.aloadN X374.here hx rfl (hb hby d11_39) rfl rfl ?_
          show Steps p.tables e below (T374.setTop (mkF m 40 #[.val (.ref a1), .val (.int p2)] [(.ref a1)])) _
          refine st377 _ ?_
          show Steps p.tables e below (T377.setTop (mkF m 43 #[.val (.ref a1), .val (.int p2)] [(.ref cl)])) _
          refine XS.iloadN X377.here hx rfl (hb hby d11_43) rfl ?_
          show Steps p.tables e below (T377.setTop (mkF m 44 #[.val (.ref a1), .val (.int p2)] [(.int p2), (.ref cl)])) _
          refine st379.trans ?_
          show Steps p.tables e below (T379.setTop (mkF m 47 #[.val (.ref a1), .val (.int p2)] [])) _
          refine XS.goto X379.here hx rfl (pc0 := 47) (pc' := 284) rfl (hb hby d11_47) (by decide) (by decide) ?_
          show Steps p.tables e below (T379.setTop (mkF m 284 #[.val (.ref a1), .val (.int p2)] [])) _
          exact X379.returnOut hx Bd.returns (hb hby d11_284) hr
        · show Q11 Z a1 p2 cz cl w cs n cb ck cvs wb wk wvs q e_ iw ic len k h0 n0 _ T379.heap _
          exact ⟨iw, w, ((n + (1 : Int32)) + (1 : Int32)), cvx379, wvs, rfl, N379, (((((Keep.refl h0 [a1, cl, cb, wb]).wr W351 (Or.inl (List.mem_of_getElem? (i := 0) rfl))).ext E357).trans K374 (allS (P := (fun x => x ∈ [a1, cl, cb, wb] ∨ h0.size ≤ x)) (Or.inl (List.mem_of_getElem? (i := 1) rfl)) (allS (P := (fun x => x ∈ [a1, cl, cb, wb] ∨ h0.size ≤ x)) (Or.inl (List.mem_of_getElem? (i := 2) rfl)) all0))).trans K379 (allS (P := (fun x => x ∈ [a1, cl, cb, wb] ∨ h0.size ≤ x)) (Or.inl (List.mem_of_getElem? (i := 1) rfl)) (allS (P := (fun x => x ∈ [a1, cl, cb, wb] ∨ h0.size ≤ x)) (Or.inl (List.mem_of_getElem? (i := 2) rfl)) all0))), f385, (by simpa only [own_rq, eq_false hc4_103, eq_true hc18_356, eq_true hc27_362, if_true, if_false] using f382), (by simpa only [own_re, eq_false hc4_103, eq_true hc18_356, eq_true hc27_362, if_true, if_false] using f383), f386, (by simpa only [own_ric, eq_false hc4_103, eq_true hc18_356, eq_true hc27_362, if_true, if_false] using f384), f387, f388, R379_1, R379_2, R379_3, R379_4, R379_5, R379_6, f391, R379_7, H24, (by obtain ⟨o1, o2, o3, o4, o5, o6⟩ := H25; have i1 := own_inc o1 o2 (by omega); have i2 := own_inc o5 o6 (by omega); have i3 := own_inc i2.1 i2.2 (by omega); exact ⟨by omega, by omega, by omega, by omega, by omega, by omega⟩)⟩
      · skip
        have pre392 : ∀ t, Steps p.tables e below (T359.setTop (mkF m 53 #[.val (.ref a1), .val (.int p2)] [(.int (10 : Int32)), (.int p2)])) t → Steps p.tables e below (s₁.setTop (entryFrame m #[(.ref a1), (.int p2)] 2)) t := fun t kt => by
          refine pre361 t ?_
          show Steps p.tables e below (T359.setTop (mkF m 27 #[.val (.ref a1), .val (.int p2)] [(.int (own_sidx p2))])) _
          refine XS.ifYes X359.here hx rfl (pc0 := 27) (pc' := 50) rfl (hb hby d11_27) rfl ((if0 _ _).trans (flt (hc27_362 : ¬ ((own_sidx p2) < (0 : Int32)))).2.1) (by decide) (by decide) ?_
          show Steps p.tables e below (T359.setTop (mkF m 50 #[.val (.ref a1), .val (.int p2)] [])) _
          refine XS.iloadN X359.here hx rfl (hb hby d11_50) rfl ?_
          show Steps p.tables e below (T359.setTop (mkF m 51 #[.val (.ref a1), .val (.int p2)] [(.int p2)])) _
          refine XS.bipush X359.here hx rfl (hb hby d11_51) ?_
          show Steps p.tables e below (T359.setTop (mkF m 53 #[.val (.ref a1), .val (.int p2)] [(.int (10 : Int32)), (.int p2)])) _
          exact kt
        by_cases hc53_393 : p2 = (10 : Int32)
        · skip
          have f394 : Fld Z h357 a1 "com/example/rouse/rouse/shell/ShellWords" "quote" "C" (.int q) := (f353.ext E357)
          have f395 : Fld Z h357 a1 "com/example/rouse/rouse/shell/ShellWords" "escaped" "Z" (.int (0 : Int32)) := (Fw351.ext E357)
          have f396 : Fld Z h357 a1 "com/example/rouse/rouse/shell/ShellWords" "inComment" "Z" (.int ic) := ((H7.other W351 (Or.inr (slot_ne (Or.inl (hw _ (List.mem_of_getElem? (i := 64) rfl))) (Or.inl (hw _ (List.mem_of_getElem? (i := 70) rfl))) (by decide) (t := .boolean) (t' := .boolean) (by decide) (by decide)))).ext E357)
          have f397 : Fld Z h357 a1 "com/example/rouse/rouse/shell/ShellWords" "line" "Lcom/example/rouse/rouse/shell/CommandLine;" (.ref cl) := ((H3.other W351 (Or.inr (slot_ne (Or.inl (hw _ (List.mem_of_getElem? (i := 39) rfl))) (Or.inl (hw _ (List.mem_of_getElem? (i := 70) rfl))) (by decide) (t := (.object "com/example/rouse/rouse/shell/CommandLine")) (t' := .boolean) (by decide) (by decide)))).ext E357)
          have f398 : Fld Z h357 a1 "com/example/rouse/rouse/shell/ShellWords" "inWord" "Z" (.int iw) := ((H6.other W351 (Or.inr (slot_ne (Or.inl (hw _ (List.mem_of_getElem? (i := 81) rfl))) (Or.inl (hw _ (List.mem_of_getElem? (i := 70) rfl))) (by decide) (t := .boolean) (t' := .boolean) (by decide) (by decide)))).ext E357)
          have f399 : Fld Z h357 a1 "com/example/rouse/rouse/shell/ShellWords" "length" "I" (.int len) := ((H8.other W351 (Or.inr (slot_ne (Or.inl (hw _ (List.mem_of_getElem? (i := 46) rfl))) (Or.inl (hw _ (List.mem_of_getElem? (i := 70) rfl))) (by decide) (t := .int) (t' := .boolean) (by decide) (by decide)))).ext E357)
          have f400 : Fld Z h357 a1 "com/example/rouse/rouse/shell/ShellWords" "skippingLine" "Z" (.int (0 : Int32)) := ((H9.other W351 (Or.inr (slot_ne (Or.inl (hw _ (List.mem_of_getElem? (i := 56) rfl))) (Or.inl (hw _ (List.mem_of_getElem? (i := 70) rfl))) (by decide) (t := .boolean) (t' := .boolean) (by decide) (by decide)))).ext E357)
          have ne401 : cl ≠ a1 := ne_exa H10 H2 (by decide)
          have f402 : Fld Z h357 cl "com/example/rouse/rouse/shell/CommandLine" "words" "I" (.int w) := ((H11.other W351 (Or.inl ne401)).ext E357)
          have f403 : Fld Z h357 cl "com/example/rouse/rouse/shell/CommandLine" "commandStart" "I" (.int cs) := ((H12.other W351 (Or.inl ne401)).ext E357)
          have f404 : Fld Z h357 cl "com/example/rouse/rouse/shell/CommandLine" "length" "I" (.int n) := ((H13.other W351 (Or.inl ne401)).ext E357)
          have f405 : Fld Z h357 cl "com/example/rouse/rouse/shell/CommandLine" "characters" "[C" (.ref cb) := ((H14.other W351 (Or.inl ne401)).ext E357)
          have f406 : Fld Z h357 cl "com/example/rouse/rouse/shell/CommandLine" "wordEnds" "[I" (.ref wb) := ((H15.other W351 (Or.inl ne401)).ext E357)
          have ne407 : a1 ≠ cb := Exa.neArv H2 H16 (hw _ (List.mem_of_getElem? (i := 9) rfl))
          have f408 : Arv Z h357 cb ck .char (16 : Int32) cvs (.int (0 : Int32)) := ((H16.other W351 (Ne.symm ne407)).ext E357)
          have ne409 : a1 ≠ wb := Exa.neArv H2 H17 (hw _ (List.mem_of_getElem? (i := 9) rfl))
          have f410 : Arv Z h357 wb wk .int (16 : Int32) wvs (.int (0 : Int32)) := ((H17.other W351 (Ne.symm ne409)).ext E357)
          obtain ⟨fs, hr, hrun, hended, hEnd⟩ := X359.leaveW hS357 (by rw [Heq359]; exact hk357) (v := none) (fun _ => rfl)
          refine ⟨_, _, pre392 _ ?_, hrun, hended, _, _, rfl, ?_, (show CHr Z own_EL s.vm s.heap T359.vm T359.heap from by rw [hh, Heq359]; exact Cr357.trans (CHv.at X359 hZ hEL Hc357)), hEnd.1, hEnd.2.1, hEnd.2.2.1, hEnd.2.2.2.mono (by decide) (by decide)⟩
          · skip
            show Steps p.tables e below (T359.setTop (mkF m 53 #[.val (.ref a1), .val (.int p2)] [(.int (10 : Int32)), (.int p2)])) _
            refine XS.icmpYes X359.here hx rfl (pc0 := 53) (pc' := 284) rfl (hb hby d11_53) rfl (teq (hc53_393 : p2 = (10 : Int32))).1 (by decide) (by decide) ?_
            show Steps p.tables e below (T359.setTop (mkF m 284 #[.val (.ref a1), .val (.int p2)] [])) _
            exact X359.returnOut hx Bd.returns (hb hby d11_284) hr
          · show Q11 Z a1 p2 cz cl w cs n cb ck cvs wb wk wvs q e_ iw ic len k h0 n0 _ T359.heap _
            rw [Heq359]
            exact ⟨iw, w, n, cvs, wvs, rfl, N359, (((Keep.refl h0 [a1, cl, cb, wb]).wr W351 (Or.inl (List.mem_of_getElem? (i := 0) rfl))).ext E357), f397, (by simpa only [own_rq, eq_false hc4_103, eq_true hc18_356, eq_false hc27_362, eq_true hc53_393, if_true, if_false] using f394), (by simpa only [own_re, eq_false hc4_103, eq_true hc18_356, eq_false hc27_362, eq_true hc53_393, if_true, if_false] using f395), f398, (by simpa only [own_ric, eq_false hc4_103, eq_true hc18_356, eq_false hc27_362, eq_true hc53_393, if_true, if_false] using f396), f399, f400, f402, f403, f404, f405, f406, f408, f410, H23, H24, (by obtain ⟨o1, o2, o3, o4, o5, o6⟩ := H25; have i1 := own_inc o1 o2 (by omega); have i2 := own_inc o5 o6 (by omega); have i3 := own_inc i2.1 i2.2 (by omega); exact ⟨by omega, by omega, by omega, by omega, by omega, by omega⟩)⟩
        · skip
          have f411 : Fld Z h357 a1 "com/example/rouse/rouse/shell/ShellWords" "line" "Lcom/example/rouse/rouse/shell/CommandLine;" (.ref cl) := ((H3.other W351 (Or.inr (slot_ne (Or.inl (hw _ (List.mem_of_getElem? (i := 39) rfl))) (Or.inl (hw _ (List.mem_of_getElem? (i := 70) rfl))) (by decide) (t := (.object "com/example/rouse/rouse/shell/CommandLine")) (t' := .boolean) (by decide) (by decide)))).ext E357)
          obtain ⟨T412, X412, e412, st412⟩ := getF X359 hx hZ hown (host := "") (Or.inl (hw _ (List.mem_of_getElem? (i := 38) rfl))) Via.refl Heq359 f411 (g := (mkF m 57 #[.val (.ref a1), .val (.int p2)] [(.ref a1)])) rfl rfl (hb hby d11_57)
          have f413 : Exa Z h357 cl "com/example/rouse/rouse/shell/CommandLine" := ((H10.wr W351).ext E357)
          have ne414 : cl ≠ a1 := ne_exa H10 H2 (by decide)
          have f415 : Fld Z h357 cl "com/example/rouse/rouse/shell/CommandLine" "words" "I" (.int w) := ((H11.other W351 (Or.inl ne414)).ext E357)
          have f416 : Fld Z h357 cl "com/example/rouse/rouse/shell/CommandLine" "commandStart" "I" (.int cs) := ((H12.other W351 (Or.inl ne414)).ext E357)
          have f417 : Fld Z h357 cl "com/example/rouse/rouse/shell/CommandLine" "length" "I" (.int n) := ((H13.other W351 (Or.inl ne414)).ext E357)
          have f418 : Fld Z h357 cl "com/example/rouse/rouse/shell/CommandLine" "characters" "[C" (.ref cb) := ((H14.other W351 (Or.inl ne414)).ext E357)
          have f419 : Fld Z h357 cl "com/example/rouse/rouse/shell/CommandLine" "wordEnds" "[I" (.ref wb) := ((H15.other W351 (Or.inl ne414)).ext E357)
          have ne420 : a1 ≠ cb := Exa.neArv H2 H16 (hw _ (List.mem_of_getElem? (i := 9) rfl))
          have f421 : Arv Z h357 cb ck .char (16 : Int32) cvs (.int (0 : Int32)) := ((H16.other W351 (Ne.symm ne420)).ext E357)
          obtain ⟨cq422, kq422, q422a, q422b, q422c⟩ := isOf hZ e412 f413
          obtain ⟨_, _, ⟨T422, L422, k422, n422⟩, -, X422, ⟨Lc422, hQ422, l422, y422, z422⟩, st422⟩ := X412.virtualBack hx (y := (⟨"com/example/rouse/rouse/shell/CommandLine", "append", "(C)V"⟩ : MethodName)) (z := (⟨"com/example/rouse/rouse/shell/CommandLine", "append", "(C)V"⟩ : MethodName)) hown (mvT hZ (hw _ (List.mem_of_getElem? (i := 73) rfl))) (mvT hZ (hw _ (List.mem_of_getElem? (i := 74) rfl))) (notFace_of_selects (args := #[]) (mvT hZ (hw _ (List.mem_of_getElem? (i := 76) rfl)))) (mvT hZ (hw _ (List.mem_of_getElem? (i := 76) rfl))) (mvT hZ (hw _ (List.mem_of_getElem? (i := 75) rfl))) (by decide) (backOf (W := 0) (rm12 l Z a0 hw [] cl p2 w cs n cb ck cvs wb h357 n0 z360 f413 f415 f416 f417 f418 f419 f421 H19 H20 (own_in_of H25.2.2.2.2.1 H25.2.2.2.2.2 (by omega)) H23) hZ (hw _ (List.mem_of_getElem? (i := 77) rfl)) (hw _ (List.mem_of_getElem? (i := 22) rfl)) (by decide) (by decide)) q422a q422c (g := (mkF m 61 #[.val (.ref a1), .val (.int p2)] [(.int p2), (.ref cl)])) rfl (by rw [hml]; rfl) (Steps.refl _) (argsL := [(.int p2)]) (rest := []) (lenOf pd_9 rfl) rfl (by show 2 * 0 + _ ≤ _; exact Nat.le_of_eq rfl) (hb hby d11_61) (fun _ _ => ⟨rfl, e412, (by decide : 2 + 0 ≤ _), (by decide : 24 + 0 ≤ _)⟩)
          dsimp only [Pt.U, Pt.locs, Pt.cells, Pt.slots] at X422 l422 y422 z422 st422 hQ422
          subst l422 y422 z422
          obtain ⟨cvx422, rfl, Nq422, K422, R422_1, R422_2, R422_3, R422_4, R422_5, R422_6, R422_7⟩ := hQ422
          have N422 := Fr.app N359 Nq422
          have hs423 : ∀ x ∈ ([cl, cb] : List Addr), Safe Z own_EL T357.vm h357 x := (allS (P := fun x => Safe Z own_EL T357.vm h357 x) (Safe.exa hZ.alike f413 (by decide) (by decide)) (allS (P := fun x => Safe Z own_EL T357.vm h357 x) (own_safe_arv hZ.alike f421 (by decide)) (all0 (P := fun x => Safe Z own_EL T357.vm h357 x))))
          have Hc423 := CHv.keep K422 hs423 Hc357
          have Cr423 := Cr357.trans (CHr.keep K422 hs423 Hc357)
          have f424 : Fld Z T422.heap a1 "com/example/rouse/rouse/shell/ShellWords" "inWord" "Z" (.int iw) := (((H6.other W351 (Or.inr (slot_ne (Or.inl (hw _ (List.mem_of_getElem? (i := 81) rfl))) (Or.inl (hw _ (List.mem_of_getElem? (i := 70) rfl))) (by decide) (t := .boolean) (t' := .boolean) (by decide) (by decide)))).ext E357).keep K422 (ninS (Ne.symm ne414) (ninS ne420 nin0)))
          have f425 : Exa Z T422.heap a1 "com/example/rouse/rouse/shell/ShellWords" := (((H2.wr W351).ext E357).keep K422)
          obtain ⟨T426, h426, X426, e426, W426, st426⟩ := putFN X422 hx hZ hown (hw _ (List.mem_of_getElem? (i := 80) rfl)) Via.refl rfl f424 f425 (Or.inl (hw _ (List.mem_of_getElem? (i := 81) rfl))) (hw _ (List.mem_of_getElem? (i := 9) rfl)) (ty := .boolean) (v' := (.int (nar .boolean (1 : Int32)))) (by decide) rfl (fits_nar_bool _) (g := (mkF m 66 #[.val (.ref a1), .val (.int p2)] [(.int (1 : Int32)), (.ref a1)])) rfl rfl (hb hby d11_66)
          rw [show nar .boolean (1 : Int32) = (1 : Int32) from by decide] at W426
          have Fw426 := f424.same W426
          have Hc427 := CHv.wr W426 (Safe.exa hZ.alike f425 (by decide) (by decide)) Hc423
          have Cr427 := Cr423.trans (CHr.wr W426 (Safe.exa hZ.alike f425 (by decide) (by decide)) Hc423)
          have N426 := Fr.snoc X426 N422 H18
          have f428 : Fld Z h426 a1 "com/example/rouse/rouse/shell/ShellWords" "quote" "C" (.int q) := (((f353.ext E357).keep K422 (ninS (Ne.symm ne414) (ninS ne420 nin0))).other W426 (Or.inr (slot_ne (Or.inl (hw _ (List.mem_of_getElem? (i := 72) rfl))) (Or.inl (hw _ (List.mem_of_getElem? (i := 81) rfl))) (by decide) (t := .char) (t' := .boolean) (by decide) (by decide))))
          have f429 : Fld Z h426 a1 "com/example/rouse/rouse/shell/ShellWords" "escaped" "Z" (.int (0 : Int32)) := (((Fw351.ext E357).keep K422 (ninS (Ne.symm ne414) (ninS ne420 nin0))).other W426 (Or.inr (slot_ne (Or.inl (hw _ (List.mem_of_getElem? (i := 70) rfl))) (Or.inl (hw _ (List.mem_of_getElem? (i := 81) rfl))) (by decide) (t := .boolean) (t' := .boolean) (by decide) (by decide))))
          have f430 : Fld Z h426 a1 "com/example/rouse/rouse/shell/ShellWords" "inComment" "Z" (.int ic) := ((((H7.other W351 (Or.inr (slot_ne (Or.inl (hw _ (List.mem_of_getElem? (i := 64) rfl))) (Or.inl (hw _ (List.mem_of_getElem? (i := 70) rfl))) (by decide) (t := .boolean) (t' := .boolean) (by decide) (by decide)))).ext E357).keep K422 (ninS (Ne.symm ne414) (ninS ne420 nin0))).other W426 (Or.inr (slot_ne (Or.inl (hw _ (List.mem_of_getElem? (i := 64) rfl))) (Or.inl (hw _ (List.mem_of_getElem? (i := 81) rfl))) (by decide) (t := .boolean) (t' := .boolean) (by decide) (by decide))))
          have f431 : Fld Z h426 a1 "com/example/rouse/rouse/shell/ShellWords" "line" "Lcom/example/rouse/rouse/shell/CommandLine;" (.ref cl) := ((f411.keep K422 (ninS (Ne.symm ne414) (ninS ne420 nin0))).other W426 (Or.inr (slot_ne (Or.inl (hw _ (List.mem_of_getElem? (i := 39) rfl))) (Or.inl (hw _ (List.mem_of_getElem? (i := 81) rfl))) (by decide) (t := (.object "com/example/rouse/rouse/shell/CommandLine")) (t' := .boolean) (by decide) (by decide))))
          have f432 : Fld Z h426 a1 "com/example/rouse/rouse/shell/ShellWords" "length" "I" (.int len) := ((((H8.other W351 (Or.inr (slot_ne (Or.inl (hw _ (List.mem_of_getElem? (i := 46) rfl))) (Or.inl (hw _ (List.mem_of_getElem? (i := 70) rfl))) (by decide) (t := .int) (t' := .boolean) (by decide) (by decide)))).ext E357).keep K422 (ninS (Ne.symm ne414) (ninS ne420 nin0))).other W426 (Or.inr (slot_ne (Or.inl (hw _ (List.mem_of_getElem? (i := 46) rfl))) (Or.inl (hw _ (List.mem_of_getElem? (i := 81) rfl))) (by decide) (t := .int) (t' := .boolean) (by decide) (by decide))))
          have f433 : Fld Z h426 a1 "com/example/rouse/rouse/shell/ShellWords" "skippingLine" "Z" (.int (0 : Int32)) := ((((H9.other W351 (Or.inr (slot_ne (Or.inl (hw _ (List.mem_of_getElem? (i := 56) rfl))) (Or.inl (hw _ (List.mem_of_getElem? (i := 70) rfl))) (by decide) (t := .boolean) (t' := .boolean) (by decide) (by decide)))).ext E357).keep K422 (ninS (Ne.symm ne414) (ninS ne420 nin0))).other W426 (Or.inr (slot_ne (Or.inl (hw _ (List.mem_of_getElem? (i := 56) rfl))) (Or.inl (hw _ (List.mem_of_getElem? (i := 81) rfl))) (by decide) (t := .boolean) (t' := .boolean) (by decide) (by decide))))
          have f434 : Fld Z h426 cl "com/example/rouse/rouse/shell/CommandLine" "words" "I" (.int w) := (R422_1.other W426 (Or.inl ne414))
          have f435 : Fld Z h426 cl "com/example/rouse/rouse/shell/CommandLine" "commandStart" "I" (.int cs) := (R422_2.other W426 (Or.inl ne414))
          have f436 : Fld Z h426 cl "com/example/rouse/rouse/shell/CommandLine" "length" "I" (.int (n + (1 : Int32))) := (R422_3.other W426 (Or.inl ne414))
          have f437 : Fld Z h426 cl "com/example/rouse/rouse/shell/CommandLine" "characters" "[C" (.ref cb) := (R422_4.other W426 (Or.inl ne414))
          have f438 : Fld Z h426 cl "com/example/rouse/rouse/shell/CommandLine" "wordEnds" "[I" (.ref wb) := (R422_5.other W426 (Or.inl ne414))
          have f439 : Arv Z h426 cb ck .char (16 : Int32) cvx422 (.int (0 : Int32)) := (R422_6.other W426 (Ne.symm ne420))
          have ne440 : a1 ≠ wb := Exa.neArv H2 H17 (hw _ (List.mem_of_getElem? (i := 9) rfl))
          have ne441 : cl ≠ wb := Exa.neArv H10 H17 (hw _ (List.mem_of_getElem? (i := 21) rfl))
          have f442 : Arv Z h426 wb wk .int (16 : Int32) wvs (.int (0 : Int32)) := ((((H17.other W351 (Ne.symm ne440)).ext E357).keep K422 (ninS (Ne.symm ne441) (ninS (Ne.symm H22) nin0))).other W426 (Ne.symm ne440))
          obtain ⟨fs, hr, hrun, hended, hEnd⟩ := X426.leaveW hS357 (by rw [e426]; exact (Nat.le_trans (Nat.le_trans hk357 K422.1) (Nat.le_of_eq W426.size.symm))) (v := none) (fun _ => rfl)
          refine ⟨_, _, pre392 _ ?_, hrun, hended, _, _, rfl, ?_, (show CHr Z own_EL s.vm s.heap T426.vm T426.heap from by rw [hh, e426]; exact Cr427.trans (CHv.at X426 hZ hEL Hc427)), hEnd.1, hEnd.2.1, hEnd.2.2.1, hEnd.2.2.2.mono (by decide) (by decide)⟩
          · skip
            show Steps p.tables e below (T359.setTop (mkF m 53 #[.val (.ref a1), .val (.int p2)] [(.int (10 : Int32)), (.int p2)])) _
            refine XS.icmpNo X359.here hx rfl (hb hby d11_53) rfl (feq (hc53_393 : ¬ (p2 = (10 : Int32)))).1 ?_
            show Steps p.tables e below (T359.setTop (mkF m 56 #[.val (.ref a1), .val (.int p2)] [])) _
            refine XS.aloadN X359.here hx rfl (hb hby d11_56) rfl rfl ?_
            show Steps p.tables e below (T359.setTop (mkF m 57 #[.val (.ref a1), .val (.int p2)] [(.ref a1)])) _
            refine st412 _ ?_
            show Steps p.tables e below (T412.setTop (mkF m 60 #[.val (.ref a1), .val (.int p2)] [(.ref cl)])) _
            refine XS.iloadN X412.here hx rfl (hb hby d11_60) rfl ?_
            show Steps p.tables e below (T412.setTop (mkF m 61 #[.val (.ref a1), .val (.int p2)] [(.int p2), (.ref cl)])) _
            refine st422.trans ?_
            show Steps p.tables e below (T422.setTop (mkF m 64 #[.val (.ref a1), .val (.int p2)] [])) _
            refine XS.aloadN X422.here hx rfl (hb hby d11_64) rfl rfl ?_
            show Steps p.tables e below (T422.setTop (mkF m 65 #[.val (.ref a1), .val (.int p2)] [(.ref a1)])) _
            refine XS.iconst X422.here hx rfl (hb hby d11_65) ?_
            show Steps p.tables e below (T422.setTop (mkF m 66 #[.val (.ref a1), .val (.int p2)] [(.int (1 : Int32)), (.ref a1)])) _
            refine st426 _ ?_
            show Steps p.tables e below (T426.setTop (mkF m 69 #[.val (.ref a1), .val (.int p2)] [])) _
            refine XS.goto X426.here hx rfl (pc0 := 69) (pc' := 284) rfl (hb hby d11_69) (by decide) (by decide) ?_
            show Steps p.tables e below (T426.setTop (mkF m 284 #[.val (.ref a1), .val (.int p2)] [])) _
            exact X426.returnOut hx Bd.returns (hb hby d11_284) hr
          · show Q11 Z a1 p2 cz cl w cs n cb ck cvs wb wk wvs q e_ iw ic len k h0 n0 _ T426.heap _
            rw [e426]
            exact ⟨(1 : Int32), w, (n + (1 : Int32)), cvx422, wvs, rfl, N426, (((((Keep.refl h0 [a1, cl, cb, wb]).wr W351 (Or.inl (List.mem_of_getElem? (i := 0) rfl))).ext E357).trans K422 (allS (P := (fun x => x ∈ [a1, cl, cb, wb] ∨ h0.size ≤ x)) (Or.inl (List.mem_of_getElem? (i := 1) rfl)) (allS (P := (fun x => x ∈ [a1, cl, cb, wb] ∨ h0.size ≤ x)) (Or.inl (List.mem_of_getElem? (i := 2) rfl)) all0))).wr W426 (Or.inl (List.mem_of_getElem? (i := 0) rfl))), f431, (by simpa only [own_rq, eq_false hc4_103, eq_true hc18_356, eq_false hc27_362, eq_false hc53_393, if_true, if_false] using f428), (by simpa only [own_re, eq_false hc4_103, eq_true hc18_356, eq_false hc27_362, eq_false hc53_393, if_true, if_false] using f429), Fw426, (by simpa only [own_ric, eq_false hc4_103, eq_true hc18_356, eq_false hc27_362, eq_false hc53_393, if_true, if_false] using f430), f432, f433, f434, f435, f436, f437, f438, f439, f442, R422_7, H24, (by obtain ⟨o1, o2, o3, o4, o5, o6⟩ := H25; have i1 := own_inc o1 o2 (by omega); have i2 := own_inc o5 o6 (by omega); have i3 := own_inc i2.1 i2.2 (by omega); exact ⟨by omega, by omega, by omega, by omega, by omega, by omega⟩)⟩
    · skip
      have pre443 : ∀ t, Steps p.tables e below (T354.setTop (mkF m 53 #[.val (.ref a1), .val (.int p2)] [(.int (10 : Int32)), (.int p2)])) t → Steps p.tables e below (s₁.setTop (entryFrame m #[(.ref a1), (.int p2)] 2)) t := fun t kt => by
        refine pre355 t ?_
        show Steps p.tables e below (T354.setTop (mkF m 18 #[.val (.ref a1), .val (.int p2)] [(.int (34 : Int32)), (.int q)])) _
        refine XS.icmpYes X354.here hx rfl (pc0 := 18) (pc' := 50) rfl (hb hby d11_18) rfl (feq (hc18_356 : ¬ (q = (34 : Int32)))).2 (by decide) (by decide) ?_
        show Steps p.tables e below (T354.setTop (mkF m 50 #[.val (.ref a1), .val (.int p2)] [])) _
        refine XS.iloadN X354.here hx rfl (hb hby d11_50) rfl ?_
        show Steps p.tables e below (T354.setTop (mkF m 51 #[.val (.ref a1), .val (.int p2)] [(.int p2)])) _
        refine XS.bipush X354.here hx rfl (hb hby d11_51) ?_
        show Steps p.tables e below (T354.setTop (mkF m 53 #[.val (.ref a1), .val (.int p2)] [(.int (10 : Int32)), (.int p2)])) _
        exact kt
      by_cases hc53_444 : p2 = (10 : Int32)
      · skip
        have f445 : Fld Z h351 a1 "com/example/rouse/rouse/shell/ShellWords" "inComment" "Z" (.int ic) := (H7.other W351 (Or.inr (slot_ne (Or.inl (hw _ (List.mem_of_getElem? (i := 64) rfl))) (Or.inl (hw _ (List.mem_of_getElem? (i := 70) rfl))) (by decide) (t := .boolean) (t' := .boolean) (by decide) (by decide))))
        have f446 : Fld Z h351 a1 "com/example/rouse/rouse/shell/ShellWords" "line" "Lcom/example/rouse/rouse/shell/CommandLine;" (.ref cl) := (H3.other W351 (Or.inr (slot_ne (Or.inl (hw _ (List.mem_of_getElem? (i := 39) rfl))) (Or.inl (hw _ (List.mem_of_getElem? (i := 70) rfl))) (by decide) (t := (.object "com/example/rouse/rouse/shell/CommandLine")) (t' := .boolean) (by decide) (by decide))))
        have f447 : Fld Z h351 a1 "com/example/rouse/rouse/shell/ShellWords" "inWord" "Z" (.int iw) := (H6.other W351 (Or.inr (slot_ne (Or.inl (hw _ (List.mem_of_getElem? (i := 81) rfl))) (Or.inl (hw _ (List.mem_of_getElem? (i := 70) rfl))) (by decide) (t := .boolean) (t' := .boolean) (by decide) (by decide))))
        have f448 : Fld Z h351 a1 "com/example/rouse/rouse/shell/ShellWords" "length" "I" (.int len) := (H8.other W351 (Or.inr (slot_ne (Or.inl (hw _ (List.mem_of_getElem? (i := 46) rfl))) (Or.inl (hw _ (List.mem_of_getElem? (i := 70) rfl))) (by decide) (t := .int) (t' := .boolean) (by decide) (by decide))))
        have f449 : Fld Z h351 a1 "com/example/rouse/rouse/shell/ShellWords" "skippingLine" "Z" (.int (0 : Int32)) := (H9.other W351 (Or.inr (slot_ne (Or.inl (hw _ (List.mem_of_getElem? (i := 56) rfl))) (Or.inl (hw _ (List.mem_of_getElem? (i := 70) rfl))) (by decide) (t := .boolean) (t' := .boolean) (by decide) (by decide))))
        have ne450 : cl ≠ a1 := ne_exa H10 H2 (by decide)
        have f451 : Fld Z h351 cl "com/example/rouse/rouse/shell/CommandLine" "words" "I" (.int w) := (H11.other W351 (Or.inl ne450))
        have f452 : Fld Z h351 cl "com/example/rouse/rouse/shell/CommandLine" "commandStart" "I" (.int cs) := (H12.other W351 (Or.inl ne450))
        have f453 : Fld Z h351 cl "com/example/rouse/rouse/shell/CommandLine" "length" "I" (.int n) := (H13.other W351 (Or.inl ne450))
        have f454 : Fld Z h351 cl "com/example/rouse/rouse/shell/CommandLine" "characters" "[C" (.ref cb) := (H14.other W351 (Or.inl ne450))
        have f455 : Fld Z h351 cl "com/example/rouse/rouse/shell/CommandLine" "wordEnds" "[I" (.ref wb) := (H15.other W351 (Or.inl ne450))
        have ne456 : a1 ≠ cb := Exa.neArv H2 H16 (hw _ (List.mem_of_getElem? (i := 9) rfl))
        have f457 : Arv Z h351 cb ck .char (16 : Int32) cvs (.int (0 : Int32)) := (H16.other W351 (Ne.symm ne456))
        have ne458 : a1 ≠ wb := Exa.neArv H2 H17 (hw _ (List.mem_of_getElem? (i := 9) rfl))
        have f459 : Arv Z h351 wb wk .int (16 : Int32) wvs (.int (0 : Int32)) := (H17.other W351 (Ne.symm ne458))
        obtain ⟨fs, hr, hrun, hended, hEnd⟩ := X354.leaveW hS0 (by rw [e354]; exact (Nat.le_trans (Nat.zero_le _) (Nat.le_of_eq W351.size.symm))) (v := none) (fun _ => rfl)
        refine ⟨_, _, pre443 _ ?_, hrun, hended, _, _, rfl, ?_, (show CHr Z own_EL s.vm s.heap T354.vm T354.heap from by rw [hh, e354]; exact Cr352.trans (CHv.at X354 hZ hEL Hc352)), hEnd.1, hEnd.2.1, hEnd.2.2.1, hEnd.2.2.2.mono (by decide) (by decide)⟩
        · skip
          show Steps p.tables e below (T354.setTop (mkF m 53 #[.val (.ref a1), .val (.int p2)] [(.int (10 : Int32)), (.int p2)])) _
          refine XS.icmpYes X354.here hx rfl (pc0 := 53) (pc' := 284) rfl (hb hby d11_53) rfl (teq (hc53_444 : p2 = (10 : Int32))).1 (by decide) (by decide) ?_
          show Steps p.tables e below (T354.setTop (mkF m 284 #[.val (.ref a1), .val (.int p2)] [])) _
          exact X354.returnOut hx Bd.returns (hb hby d11_284) hr
        · show Q11 Z a1 p2 cz cl w cs n cb ck cvs wb wk wvs q e_ iw ic len k h0 n0 _ T354.heap _
          rw [e354]
          exact ⟨iw, w, n, cvs, wvs, rfl, N351, ((Keep.refl h0 [a1, cl, cb, wb]).wr W351 (Or.inl (List.mem_of_getElem? (i := 0) rfl))), f446, (by simpa only [own_rq, eq_false hc4_103, eq_false hc18_356, eq_true hc53_444, if_true, if_false] using f353), (by simpa only [own_re, eq_false hc4_103, eq_false hc18_356, eq_true hc53_444, if_true, if_false] using Fw351), f447, (by simpa only [own_ric, eq_false hc4_103, eq_false hc18_356, eq_true hc53_444, if_true, if_false] using f445), f448, f449, f451, f452, f453, f454, f455, f457, f459, H23, H24, (by obtain ⟨o1, o2, o3, o4, o5, o6⟩ := H25; have i1 := own_inc o1 o2 (by omega); have i2 := own_inc o5 o6 (by omega); have i3 := own_inc i2.1 i2.2 (by omega); exact ⟨by omega, by omega, by omega, by omega, by omega, by omega⟩)⟩
      · skip
        have f460 : Fld Z h351 a1 "com/example/rouse/rouse/shell/ShellWords" "line" "Lcom/example/rouse/rouse/shell/CommandLine;" (.ref cl) := (H3.other W351 (Or.inr (slot_ne (Or.inl (hw _ (List.mem_of_getElem? (i := 39) rfl))) (Or.inl (hw _ (List.mem_of_getElem? (i := 70) rfl))) (by decide) (t := (.object "com/example/rouse/rouse/shell/CommandLine")) (t' := .boolean) (by decide) (by decide))))
        obtain ⟨T461, X461, e461, st461⟩ := getF X354 hx hZ hown (host := "") (Or.inl (hw _ (List.mem_of_getElem? (i := 38) rfl))) Via.refl e354 f460 (g := (mkF m 57 #[.val (.ref a1), .val (.int p2)] [(.ref a1)])) rfl rfl (hb hby d11_57)
        have f462 : Exa Z h351 cl "com/example/rouse/rouse/shell/CommandLine" := (H10.wr W351)
        have ne463 : cl ≠ a1 := ne_exa H10 H2 (by decide)
        have f464 : Fld Z h351 cl "com/example/rouse/rouse/shell/CommandLine" "words" "I" (.int w) := (H11.other W351 (Or.inl ne463))
        have f465 : Fld Z h351 cl "com/example/rouse/rouse/shell/CommandLine" "commandStart" "I" (.int cs) := (H12.other W351 (Or.inl ne463))
        have f466 : Fld Z h351 cl "com/example/rouse/rouse/shell/CommandLine" "length" "I" (.int n) := (H13.other W351 (Or.inl ne463))
        have f467 : Fld Z h351 cl "com/example/rouse/rouse/shell/CommandLine" "characters" "[C" (.ref cb) := (H14.other W351 (Or.inl ne463))
        have f468 : Fld Z h351 cl "com/example/rouse/rouse/shell/CommandLine" "wordEnds" "[I" (.ref wb) := (H15.other W351 (Or.inl ne463))
        have ne469 : a1 ≠ cb := Exa.neArv H2 H16 (hw _ (List.mem_of_getElem? (i := 9) rfl))
        have f470 : Arv Z h351 cb ck .char (16 : Int32) cvs (.int (0 : Int32)) := (H16.other W351 (Ne.symm ne469))
        have z472 : n0 ≤ h351.size := (Nat.le_trans Z0 (Nat.le_of_eq W351.size.symm))
        obtain ⟨cq471, kq471, q471a, q471b, q471c⟩ := isOf hZ e461 f462
        obtain ⟨_, _, ⟨T471, L471, k471, n471⟩, -, X471, ⟨Lc471, hQ471, l471, y471, z471⟩, st471⟩ := X461.virtualBack hx (y := (⟨"com/example/rouse/rouse/shell/CommandLine", "append", "(C)V"⟩ : MethodName)) (z := (⟨"com/example/rouse/rouse/shell/CommandLine", "append", "(C)V"⟩ : MethodName)) hown (mvT hZ (hw _ (List.mem_of_getElem? (i := 73) rfl))) (mvT hZ (hw _ (List.mem_of_getElem? (i := 74) rfl))) (notFace_of_selects (args := #[]) (mvT hZ (hw _ (List.mem_of_getElem? (i := 76) rfl)))) (mvT hZ (hw _ (List.mem_of_getElem? (i := 76) rfl))) (mvT hZ (hw _ (List.mem_of_getElem? (i := 75) rfl))) (by decide) (backOf (W := 0) (rm12 l Z a0 hw [] cl p2 w cs n cb ck cvs wb h351 n0 z472 f462 f464 f465 f466 f467 f468 f470 H19 H20 (own_in_of H25.2.2.2.2.1 H25.2.2.2.2.2 (by omega)) H23) hZ (hw _ (List.mem_of_getElem? (i := 77) rfl)) (hw _ (List.mem_of_getElem? (i := 22) rfl)) (by decide) (by decide)) q471a q471c (g := (mkF m 61 #[.val (.ref a1), .val (.int p2)] [(.int p2), (.ref cl)])) rfl (by rw [hml]; rfl) (Steps.refl _) (argsL := [(.int p2)]) (rest := []) (lenOf pd_9 rfl) rfl (by show 2 * 0 + _ ≤ _; exact Nat.le_of_eq rfl) (hb hby d11_61) (fun _ _ => ⟨rfl, e461, (by decide : 0 + 0 ≤ _), (by decide : 0 + 0 ≤ _)⟩)
        dsimp only [Pt.U, Pt.locs, Pt.cells, Pt.slots] at X471 l471 y471 z471 st471 hQ471
        subst l471 y471 z471
        obtain ⟨cvx471, rfl, Nq471, K471, R471_1, R471_2, R471_3, R471_4, R471_5, R471_6, R471_7⟩ := hQ471
        have N471 := Fr.app N351 Nq471
        have hs473 : ∀ x ∈ ([cl, cb] : List Addr), Safe Z own_EL s.vm h351 x := (allS (P := fun x => Safe Z own_EL s.vm h351 x) (Safe.exa hZ.alike f462 (by decide) (by decide)) (allS (P := fun x => Safe Z own_EL s.vm h351 x) (own_safe_arv hZ.alike f470 (by decide)) (all0 (P := fun x => Safe Z own_EL s.vm h351 x))))
        have Hc473 := CHv.keep K471 hs473 Hc352
        have Cr473 := Cr352.trans (CHr.keep K471 hs473 Hc352)
        have f474 : Fld Z T471.heap a1 "com/example/rouse/rouse/shell/ShellWords" "inWord" "Z" (.int iw) := ((H6.other W351 (Or.inr (slot_ne (Or.inl (hw _ (List.mem_of_getElem? (i := 81) rfl))) (Or.inl (hw _ (List.mem_of_getElem? (i := 70) rfl))) (by decide) (t := .boolean) (t' := .boolean) (by decide) (by decide)))).keep K471 (ninS (Ne.symm ne463) (ninS ne469 nin0)))
        have f475 : Exa Z T471.heap a1 "com/example/rouse/rouse/shell/ShellWords" := ((H2.wr W351).keep K471)
        obtain ⟨T476, h476, X476, e476, W476, st476⟩ := putFN X471 hx hZ hown (hw _ (List.mem_of_getElem? (i := 80) rfl)) Via.refl rfl f474 f475 (Or.inl (hw _ (List.mem_of_getElem? (i := 81) rfl))) (hw _ (List.mem_of_getElem? (i := 9) rfl)) (ty := .boolean) (v' := (.int (nar .boolean (1 : Int32)))) (by decide) rfl (fits_nar_bool _) (g := (mkF m 66 #[.val (.ref a1), .val (.int p2)] [(.int (1 : Int32)), (.ref a1)])) rfl rfl (hb hby d11_66)
        rw [show nar .boolean (1 : Int32) = (1 : Int32) from by decide] at W476
        have Fw476 := f474.same W476
        have Hc477 := CHv.wr W476 (Safe.exa hZ.alike f475 (by decide) (by decide)) Hc473
        have Cr477 := Cr473.trans (CHr.wr W476 (Safe.exa hZ.alike f475 (by decide) (by decide)) Hc473)
        have N476 := Fr.snoc X476 N471 H18
        have f478 : Fld Z h476 a1 "com/example/rouse/rouse/shell/ShellWords" "quote" "C" (.int q) := ((f353.keep K471 (ninS (Ne.symm ne463) (ninS ne469 nin0))).other W476 (Or.inr (slot_ne (Or.inl (hw _ (List.mem_of_getElem? (i := 72) rfl))) (Or.inl (hw _ (List.mem_of_getElem? (i := 81) rfl))) (by decide) (t := .char) (t' := .boolean) (by decide) (by decide))))
        have f479 : Fld Z h476 a1 "com/example/rouse/rouse/shell/ShellWords" "escaped" "Z" (.int (0 : Int32)) := ((Fw351.keep K471 (ninS (Ne.symm ne463) (ninS ne469 nin0))).other W476 (Or.inr (slot_ne (Or.inl (hw _ (List.mem_of_getElem? (i := 70) rfl))) (Or.inl (hw _ (List.mem_of_getElem? (i := 81) rfl))) (by decide) (t := .boolean) (t' := .boolean) (by decide) (by decide))))
        have f480 : Fld Z h476 a1 "com/example/rouse/rouse/shell/ShellWords" "inComment" "Z" (.int ic) := (((H7.other W351 (Or.inr (slot_ne (Or.inl (hw _ (List.mem_of_getElem? (i := 64) rfl))) (Or.inl (hw _ (List.mem_of_getElem? (i := 70) rfl))) (by decide) (t := .boolean) (t' := .boolean) (by decide) (by decide)))).keep K471 (ninS (Ne.symm ne463) (ninS ne469 nin0))).other W476 (Or.inr (slot_ne (Or.inl (hw _ (List.mem_of_getElem? (i := 64) rfl))) (Or.inl (hw _ (List.mem_of_getElem? (i := 81) rfl))) (by decide) (t := .boolean) (t' := .boolean) (by decide) (by decide))))
        have f481 : Fld Z h476 a1 "com/example/rouse/rouse/shell/ShellWords" "line" "Lcom/example/rouse/rouse/shell/CommandLine;" (.ref cl) := ((f460.keep K471 (ninS (Ne.symm ne463) (ninS ne469 nin0))).other W476 (Or.inr (slot_ne (Or.inl (hw _ (List.mem_of_getElem? (i := 39) rfl))) (Or.inl (hw _ (List.mem_of_getElem? (i := 81) rfl))) (by decide) (t := (.object "com/example/rouse/rouse/shell/CommandLine")) (t' := .boolean) (by decide) (by decide))))
        have f482 : Fld Z h476 a1 "com/example/rouse/rouse/shell/ShellWords" "length" "I" (.int len) := (((H8.other W351 (Or.inr (slot_ne (Or.inl (hw _ (List.mem_of_getElem? (i := 46) rfl))) (Or.inl (hw _ (List.mem_of_getElem? (i := 70) rfl))) (by decide) (t := .int) (t' := .boolean) (by decide) (by decide)))).keep K471 (ninS (Ne.symm ne463) (ninS ne469 nin0))).other W476 (Or.inr (slot_ne (Or.inl (hw _ (List.mem_of_getElem? (i := 46) rfl))) (Or.inl (hw _ (List.mem_of_getElem? (i := 81) rfl))) (by decide) (t := .int) (t' := .boolean) (by decide) (by decide))))
        have f483 : Fld Z h476 a1 "com/example/rouse/rouse/shell/ShellWords" "skippingLine" "Z" (.int (0 : Int32)) := (((H9.other W351 (Or.inr (slot_ne (Or.inl (hw _ (List.mem_of_getElem? (i := 56) rfl))) (Or.inl (hw _ (List.mem_of_getElem? (i := 70) rfl))) (by decide) (t := .boolean) (t' := .boolean) (by decide) (by decide)))).keep K471 (ninS (Ne.symm ne463) (ninS ne469 nin0))).other W476 (Or.inr (slot_ne (Or.inl (hw _ (List.mem_of_getElem? (i := 56) rfl))) (Or.inl (hw _ (List.mem_of_getElem? (i := 81) rfl))) (by decide) (t := .boolean) (t' := .boolean) (by decide) (by decide))))
        have f484 : Fld Z h476 cl "com/example/rouse/rouse/shell/CommandLine" "words" "I" (.int w) := (R471_1.other W476 (Or.inl ne463))
        have f485 : Fld Z h476 cl "com/example/rouse/rouse/shell/CommandLine" "commandStart" "I" (.int cs) := (R471_2.other W476 (Or.inl ne463))
        have f486 : Fld Z h476 cl "com/example/rouse/rouse/shell/CommandLine" "length" "I" (.int (n + (1 : Int32))) := (R471_3.other W476 (Or.inl ne463))
        have f487 : Fld Z h476 cl "com/example/rouse/rouse/shell/CommandLine" "characters" "[C" (.ref cb) := (R471_4.other W476 (Or.inl ne463))
        have f488 : Fld Z h476 cl "com/example/rouse/rouse/shell/CommandLine" "wordEnds" "[I" (.ref wb) := (R471_5.other W476 (Or.inl ne463))
        have f489 : Arv Z h476 cb ck .char (16 : Int32) cvx471 (.int (0 : Int32)) := (R471_6.other W476 (Ne.symm ne469))
        have ne490 : a1 ≠ wb := Exa.neArv H2 H17 (hw _ (List.mem_of_getElem? (i := 9) rfl))
        have ne491 : cl ≠ wb := Exa.neArv H10 H17 (hw _ (List.mem_of_getElem? (i := 21) rfl))
        have f492 : Arv Z h476 wb wk .int (16 : Int32) wvs (.int (0 : Int32)) := (((H17.other W351 (Ne.symm ne490)).keep K471 (ninS (Ne.symm ne491) (ninS (Ne.symm H22) nin0))).other W476 (Ne.symm ne490))
        obtain ⟨fs, hr, hrun, hended, hEnd⟩ := X476.leaveW hS0 (by rw [e476]; exact (Nat.le_trans (Nat.le_trans (Nat.le_trans (Nat.zero_le _) (Nat.le_of_eq W351.size.symm)) K471.1) (Nat.le_of_eq W476.size.symm))) (v := none) (fun _ => rfl)
        refine ⟨_, _, pre443 _ ?_, hrun, hended, _, _, rfl, ?_, (show CHr Z own_EL s.vm s.heap T476.vm T476.heap from by rw [hh, e476]; exact Cr477.trans (CHv.at X476 hZ hEL Hc477)), hEnd.1, hEnd.2.1, hEnd.2.2.1, hEnd.2.2.2.mono (by decide) (by decide)⟩
        · skip
          show Steps p.tables e below (T354.setTop (mkF m 53 #[.val (.ref a1), .val (.int p2)] [(.int (10 : Int32)), (.int p2)])) _
          refine XS.icmpNo X354.here hx rfl (hb hby d11_53) rfl (feq (hc53_444 : ¬ (p2 = (10 : Int32)))).1 ?_
          show Steps p.tables e below (T354.setTop (mkF m 56 #[.val (.ref a1), .val (.int p2)] [])) _
          refine XS.aloadN X354.here hx rfl (hb hby d11_56) rfl rfl ?_
          show Steps p.tables e below (T354.setTop (mkF m 57 #[.val (.ref a1), .val (.int p2)] [(.ref a1)])) _
          refine st461 _ ?_
          show Steps p.tables e below (T461.setTop (mkF m 60 #[.val (.ref a1), .val (.int p2)] [(.ref cl)])) _
          refine XS.iloadN X461.here hx rfl (hb hby d11_60) rfl ?_
          show Steps p.tables e below (T461.setTop (mkF m 61 #[.val (.ref a1), .val (.int p2)] [(.int p2), (.ref cl)])) _
          refine st471.trans ?_
          show Steps p.tables e below (T471.setTop (mkF m 64 #[.val (.ref a1), .val (.int p2)] [])) _
          refine XS.aloadN X471.here hx rfl (hb hby d11_64) rfl rfl ?_
          show Steps p.tables e below (T471.setTop (mkF m 65 #[.val (.ref a1), .val (.int p2)] [(.ref a1)])) _
          refine XS.iconst X471.here hx rfl (hb hby d11_65) ?_
          show Steps p.tables e below (T471.setTop (mkF m 66 #[.val (.ref a1), .val (.int p2)] [(.int (1 : Int32)), (.ref a1)])) _
          refine st476 _ ?_
          show Steps p.tables e below (T476.setTop (mkF m 69 #[.val (.ref a1), .val (.int p2)] [])) _
          refine XS.goto X476.here hx rfl (pc0 := 69) (pc' := 284) rfl (hb hby d11_69) (by decide) (by decide) ?_
          show Steps p.tables e below (T476.setTop (mkF m 284 #[.val (.ref a1), .val (.int p2)] [])) _
          exact X476.returnOut hx Bd.returns (hb hby d11_284) hr
        · show Q11 Z a1 p2 cz cl w cs n cb ck cvs wb wk wvs q e_ iw ic len k h0 n0 _ T476.heap _
          rw [e476]
          exact ⟨(1 : Int32), w, (n + (1 : Int32)), cvx471, wvs, rfl, N476, ((((Keep.refl h0 [a1, cl, cb, wb]).wr W351 (Or.inl (List.mem_of_getElem? (i := 0) rfl))).trans K471 (allS (P := (fun x => x ∈ [a1, cl, cb, wb] ∨ h0.size ≤ x)) (Or.inl (List.mem_of_getElem? (i := 1) rfl)) (allS (P := (fun x => x ∈ [a1, cl, cb, wb] ∨ h0.size ≤ x)) (Or.inl (List.mem_of_getElem? (i := 2) rfl)) all0))).wr W476 (Or.inl (List.mem_of_getElem? (i := 0) rfl))), f481, (by simpa only [own_rq, eq_false hc4_103, eq_false hc18_356, eq_false hc53_444, if_true, if_false] using f478), (by simpa only [own_re, eq_false hc4_103, eq_false hc18_356, eq_false hc53_444, if_true, if_false] using f479), Fw476, (by simpa only [own_ric, eq_false hc4_103, eq_false hc18_356, eq_false hc53_444, if_true, if_false] using f480), f482, f483, f484, f485, f486, f487, f488, f489, f492, R471_7, H24, (by obtain ⟨o1, o2, o3, o4, o5, o6⟩ := H25; have i1 := own_inc o1 o2 (by omega); have i2 := own_inc o5 o6 (by omega); have i3 := own_inc i2.1 i2.2 (by omega); exact ⟨by omega, by omega, by omega, by omega, by omega, by omega⟩)⟩
theorem d10_0 : decode jdk_40_method_36_code 0 = .ok (.getstatic 90, 3) := by decide +kernel
theorem d10_3 : decode jdk_40_method_36_code 3 = .ok (.areturn, 1) := by decide +kernel
theorem pn_java_util_List : plainName "java/util/List" = true := by first | (simp [plainName, overriddenIn]; done) | decide +kernel
theorem ef_10x6 (m : MethodId)  : entryFrame m #[] 0 = mkF m 0 #[] [] := by first | (simp [entryFrame, mkF, argsToLocals, Value.category]; done) | rfl
def Q10x6 (Z : State) (uo1 : Addr) (h0 : Heap) (n0 : Nat) (v : Option Value) (h : Heap) (L : List Loc) : Prop := v = some (.ref uo1) ∧ Fr n0 L ∧ h = h0
set_option maxRecDepth 65536 in
set_option maxHeartbeats 40000000 in
theorem rm10x6 (l : Launch) (Z : State) (a0 : Array Value) (hw : ∀ d ∈ tables_1, d.before a0 Z = true) (ws : List Jvm.Cond) (uo1 : Addr) (h0 : Heap) (n0 : Nat) (Z0 : n0 ≤ h0.size) (H0 : Sta Z h0 "java/util/ImmutableCollections" "EMPTY_LIST" "Ljava/util/ImmutableCollections$ListN;" (.ref uo1)) :
    MetFree l (⟨"java/util/List", "of", "()Ljava/util/List;"⟩ : MethodName) (head1 (Jvm.Cond.code (⟨"java/util/List", "of", "()Ljava/util/List;"⟩ : MethodName) jdk_40_method_36_code 0 (some (.object "java/util/List")) :: ws) ({ frames := 0, cells := 0, slots := 0, locals := 0 } : Room)) (fun a U => a = #[] ∧ Z.Warmed39 U.vm ∧ U.heap = h0) (fun _ _ _ _ _ => True) (fun _ U o U' => ∃ v L, o = .returned v ∧ Q10x6 Z uo1 h0 n0 v U'.heap L ∧ FrameEnd U o U' L ({ frames := 0, cells := 0, slots := 0, locals := 0 } : Room).cells ({ frames := 0, cells := 0, slots := 0, locals := 0 } : Room).slots) := by
  refine MetFree.of_bodySF (plainFor_of_name pn_java_util_List) hisR ?_
  intro p e s m args below meth c s₁ Bd hml0 hP hK
  obtain ⟨rfl, hZ, hh⟩ := hP
  have hx := Bd.exec
  have hby := Bd.bytes
  have hml : c.maxLocals = 0 := hml0
  have hown : s.vm.findClass "java/util/List" = some m.cls := findClass_of_methodNamed Bd.named
  have hnm := (name_of_methodNamed Bd.named Bd.method).1
  have X0 : Stand p l e ({ frames := 0, cells := 0, slots := 0, locals := 0 } : Room) s m #[] below meth c s₁ [] 0 0 := Stand.of_body Bd
  have e0 : s₁.heap = h0 := by rw [← hh, Bd.state]; rfl
  have N0 := Fr.nil n0
  have pre0 : ∀ t, Steps p.tables e below (s₁.setTop (mkF m 0 #[] [])) t → Steps p.tables e below (s₁.setTop (entryFrame m #[] 0)) t := fun t k => castTop (ef_10x6 m ) k
  obtain ⟨T101, X101, e101, st101⟩ := getS2 X0 hx hZ hown (host := "") (Or.inl (hw _ (List.mem_of_getElem? (i := 61) rfl))) Via.refl e0 H0 (g := (mkF m 0 #[] [])) rfl (hb hby d10_0)
  obtain ⟨fs, hr, hrun, hended, hW, hsame⟩ := X101.leave (v := some (.ref uo1)) (fun h => by rw [Bd.returns] at h; cases h)
  refine ⟨_, _, pre0 _ ?_, hrun, hended, _, _, rfl, ?_, ⟨_, rfl⟩, hW, hsame.mono (by decide) (by decide)⟩
  · skip
    show Steps p.tables e below (s₁.setTop (mkF m 0 #[] [])) _
    refine st101 _ ?_
    show Steps p.tables e below (T101.setTop (mkF m 3 #[] [(.ref uo1)])) _
    jvm_step X101.here [X101.here.top, hx, (hb hby d10_3), X101.method', Bd.returns, Value.isRef, FieldType.isReference]
    first | (intro acts; rw [hr _ acts rfl rfl rfl]) | rw [hr _ _ rfl rfl rfl]
    exact Steps.refl _
  · show Q10x6 Z uo1 h0 n0 _ T101.heap _
    rw [e101]
    exact ⟨rfl, N0, rfl⟩
theorem d9_0 : decode prog_69_method_2_code 0 = .ok (.aload_n 0, 1) := by decide +kernel
theorem d9_1 : decode prog_69_method_2_code 1 = .ok (.getfield 17, 3) := by decide +kernel
theorem d9_4 : decode prog_69_method_2_code 4 = .ok (.ifCond .eq 22, 3) := by decide +kernel
theorem d9_26 : decode prog_69_method_2_code 26 = .ok (.invokestatic 21, 3) := by decide +kernel
theorem d9_29 : decode prog_69_method_2_code 29 = .ok (.astore_n 2, 1) := by decide +kernel
theorem d9_30 : decode prog_69_method_2_code 30 = .ok (.iload_n 1, 1) := by decide +kernel
theorem d9_31 : decode prog_69_method_2_code 31 = .ok (.bipush 10, 2) := by decide +kernel
theorem d9_33 : decode prog_69_method_2_code 33 = .ok (.if_icmp .ne 30, 3) := by decide +kernel
theorem d9_36 : decode prog_69_method_2_code 36 = .ok (.aload_n 0, 1) := by decide +kernel
theorem d9_37 : decode prog_69_method_2_code 37 = .ok (.getfield 27, 3) := by decide +kernel
theorem d9_40 : decode prog_69_method_2_code 40 = .ok (.ifCond .ne 23, 3) := by decide +kernel
theorem d9_43 : decode prog_69_method_2_code 43 = .ok (.aload_n 0, 1) := by decide +kernel
theorem d9_44 : decode prog_69_method_2_code 44 = .ok (.getfield 31, 3) := by decide +kernel
theorem d9_47 : decode prog_69_method_2_code 47 = .ok (.ifCond .ne 16, 3) := by decide +kernel
theorem d9_50 : decode prog_69_method_2_code 50 = .ok (.aload_n 0, 1) := by decide +kernel
theorem d9_51 : decode prog_69_method_2_code 51 = .ok (.iconst 0, 1) := by decide +kernel
theorem d9_52 : decode prog_69_method_2_code 52 = .ok (.putfield 34, 3) := by decide +kernel
theorem d9_55 : decode prog_69_method_2_code 55 = .ok (.aload_n 0, 1) := by decide +kernel
theorem d9_56 : decode prog_69_method_2_code 56 = .ok (.invokevirtual 37, 3) := by decide +kernel
theorem d9_59 : decode prog_69_method_2_code 59 = .ok (.astore_n 2, 1) := by decide +kernel
theorem d9_60 : decode prog_69_method_2_code 60 = .ok (.goto 39, 3) := by decide +kernel
theorem d9_99 : decode prog_69_method_2_code 99 = .ok (.aload_n 2, 1) := by decide +kernel
theorem d9_100 : decode prog_69_method_2_code 100 = .ok (.areturn, 1) := by decide +kernel
theorem d9_63 : decode prog_69_method_2_code 63 = .ok (.aload_n 0, 1) := by decide +kernel
theorem d9_64 : decode prog_69_method_2_code 64 = .ok (.dup, 1) := by decide +kernel
theorem d9_65 : decode prog_69_method_2_code 65 = .ok (.getfield 41, 3) := by decide +kernel
theorem d9_68 : decode prog_69_method_2_code 68 = .ok (.iconst 1, 1) := by decide +kernel
theorem d9_69 : decode prog_69_method_2_code 69 = .ok (.iadd, 1) := by decide +kernel
theorem d9_70 : decode prog_69_method_2_code 70 = .ok (.dup_x1, 1) := by decide +kernel
theorem d9_71 : decode prog_69_method_2_code 71 = .ok (.putfield 41, 3) := by decide +kernel
theorem d9_74 : decode prog_69_method_2_code 74 = .ok (.ldc 45, 2) := by decide +kernel
theorem d9_76 : decode prog_69_method_2_code 76 = .ok (.if_icmp .le 11, 3) := by decide +kernel
theorem d9_87 : decode prog_69_method_2_code 87 = .ok (.aload_n 0, 1) := by decide +kernel
theorem d9_88 : decode prog_69_method_2_code 88 = .ok (.getfield 34, 3) := by decide +kernel
theorem d9_91 : decode prog_69_method_2_code 91 = .ok (.ifCond .ne 8, 3) := by decide +kernel
theorem d9_94 : decode prog_69_method_2_code 94 = .ok (.aload_n 0, 1) := by decide +kernel
theorem d9_95 : decode prog_69_method_2_code 95 = .ok (.iload_n 1, 1) := by decide +kernel
theorem d9_96 : decode prog_69_method_2_code 96 = .ok (.invokevirtual 52, 3) := by decide +kernel
theorem ef_9 (m : MethodId) (a1 : Addr) (p2 : Int32) : entryFrame m #[(.ref a1), (.int p2)] 3 = mkF m 0 #[.val (.ref a1), .val (.int p2), .unset] [] := by first | (simp [entryFrame, mkF, argsToLocals, Value.category]; done) | rfl
def Q9 (Z : State) (a1 : Addr) (p2 : Int32) (em : Addr) (cz : Int32) (cl : Addr) (w : Int32) (cs : Int32) (n : Int32) (cb : Addr) (ck : ClassId) (cvs : List Value) (wb : Addr) (wk : ClassId) (wvs : List Value) (q : Int32) (e_ : Int32) (iw : Int32) (ic : Int32) (len : Int32) (k : Int) (h0 : Heap) (n0 : Nat) (v : Option Value) (h : Heap) (L : List Loc) : Prop := ∃ (rv : Value) (iwx : Int32) (cly : Addr) (wx : Int32) (cx : Int32) (nx : Int32) (cby : Addr) (wby : Addr) (cky : ClassId) (wky : ClassId) (cvy : List Value) (wvy : List Value), v = some rv ∧ Fr n0 L ∧ Keep h0 h [a1, cl, cb, wb] ∧ Fld Z h a1 "com/example/rouse/rouse/shell/ShellWords" "line" "Lcom/example/rouse/rouse/shell/CommandLine;" (.ref cly) ∧ Fld Z h a1 "com/example/rouse/rouse/shell/ShellWords" "quote" "C" (.int (own_Rq p2 q e_ ic)) ∧ Fld Z h a1 "com/example/rouse/rouse/shell/ShellWords" "escaped" "Z" (.int (own_Re p2 q e_ ic)) ∧ Fld Z h a1 "com/example/rouse/rouse/shell/ShellWords" "inWord" "Z" (.int iwx) ∧ Fld Z h a1 "com/example/rouse/rouse/shell/ShellWords" "inComment" "Z" (.int (own_Ric p2 q e_ iw ic)) ∧ Fld Z h a1 "com/example/rouse/rouse/shell/ShellWords" "length" "I" (.int (own_rlen p2 q e_ len)) ∧ Fld Z h a1 "com/example/rouse/rouse/shell/ShellWords" "skippingLine" "Z" (.int (0 : Int32)) ∧ Exa Z h cly "com/example/rouse/rouse/shell/CommandLine" ∧ Fld Z h cly "com/example/rouse/rouse/shell/CommandLine" "words" "I" (.int wx) ∧ Fld Z h cly "com/example/rouse/rouse/shell/CommandLine" "commandStart" "I" (.int cx) ∧ Fld Z h cly "com/example/rouse/rouse/shell/CommandLine" "length" "I" (.int nx) ∧ Fld Z h cly "com/example/rouse/rouse/shell/CommandLine" "characters" "[C" (.ref cby) ∧ Fld Z h cly "com/example/rouse/rouse/shell/CommandLine" "wordEnds" "[I" (.ref wby) ∧ Arv Z h cby cky .char (16 : Int32) cvy (.int (0 : Int32)) ∧ Arv Z h wby wky .int (16 : Int32) wvy (.int (0 : Int32)) ∧ n0 ≤ cly ∧ n0 ≤ cby ∧ n0 ≤ wby ∧ cby ≠ wby ∧ cvy.length = 16 ∧ wvy.length = 16 ∧ own_ok (k + 2) wx cx nx ∧ own_lk (k + 2) (own_rlen p2 q e_ len) ∧ rv.category = 1
set_option maxRecDepth 65536 in
set_option maxHeartbeats 40000000 in
theorem rm9 (l : Launch) (Z : State) (a0 : Array Value) (hw : ∀ d ∈ tables_1, d.before a0 Z = true) (ws : List Jvm.Cond) (hEL : EW Z a0 own_EL) (a1 : Addr) (p2 : Int32) (em : Addr) (cz : Int32) (cl : Addr) (w : Int32) (cs : Int32) (n : Int32) (cb : Addr) (ck : ClassId) (cvs : List Value) (wb : Addr) (wk : ClassId) (wvs : List Value) (q : Int32) (e_ : Int32) (iw : Int32) (ic : Int32) (len : Int32) (k : Int) (h0 : Heap) (n0 : Nat) (Z0 : n0 ≤ h0.size) (H0 : Sta Z h0 "java/util/ImmutableCollections" "EMPTY_LIST" "Ljava/util/ImmutableCollections$ListN;" (.ref em)) (H1 : Sta Z h0 "java/lang/String" "COMPACT_STRINGS" "Z" (.int cz)) (H2 : ¬ (cz = (0 : Int32))) (H3 : Exa Z h0 a1 "com/example/rouse/rouse/shell/ShellWords") (H4 : Fld Z h0 a1 "com/example/rouse/rouse/shell/ShellWords" "line" "Lcom/example/rouse/rouse/shell/CommandLine;" (.ref cl)) (H5 : Fld Z h0 a1 "com/example/rouse/rouse/shell/ShellWords" "quote" "C" (.int q)) (H6 : Fld Z h0 a1 "com/example/rouse/rouse/shell/ShellWords" "escaped" "Z" (.int e_)) (H7 : Fld Z h0 a1 "com/example/rouse/rouse/shell/ShellWords" "inWord" "Z" (.int iw)) (H8 : Fld Z h0 a1 "com/example/rouse/rouse/shell/ShellWords" "inComment" "Z" (.int ic)) (H9 : Fld Z h0 a1 "com/example/rouse/rouse/shell/ShellWords" "length" "I" (.int len)) (H10 : Fld Z h0 a1 "com/example/rouse/rouse/shell/ShellWords" "skippingLine" "Z" (.int (0 : Int32))) (H11 : Exa Z h0 cl "com/example/rouse/rouse/shell/CommandLine") (H12 : Fld Z h0 cl "com/example/rouse/rouse/shell/CommandLine" "words" "I" (.int w)) (H13 : Fld Z h0 cl "com/example/rouse/rouse/shell/CommandLine" "commandStart" "I" (.int cs)) (H14 : Fld Z h0 cl "com/example/rouse/rouse/shell/CommandLine" "length" "I" (.int n)) (H15 : Fld Z h0 cl "com/example/rouse/rouse/shell/CommandLine" "characters" "[C" (.ref cb)) (H16 : Fld Z h0 cl "com/example/rouse/rouse/shell/CommandLine" "wordEnds" "[I" (.ref wb)) (H17 : Arv Z h0 cb ck .char (16 : Int32) cvs (.int (0 : Int32))) (H18 : Arv Z h0 wb wk .int (16 : Int32) wvs (.int (0 : Int32))) (H19 : n0 ≤ a1) (H20 : n0 ≤ cl) (H21 : n0 ≤ cb) (H22 : n0 ≤ wb) (H23 : cb ≠ wb) (H24 : cvs.length = 16) (H25 : wvs.length = 16) (H26 : own_ok k w cs n) (H27 : k + 3 < 16) (H28 : ¬ (p2 = (59 : Int32))) (H29 : own_lk k len) :
    MetFree l (⟨"com/example/rouse/rouse/shell/ShellWords", "read", "(C)Ljava/lang/Iterable;"⟩ : MethodName) (head1 (Jvm.Cond.code (⟨"com/example/rouse/rouse/shell/ShellWords", "read", "(C)Ljava/lang/Iterable;"⟩ : MethodName) prog_69_method_2_code 3 (some (.object "java/lang/Iterable")) :: ws) ({ frames := 5, cells := 3, slots := 39, locals := 72 } : Room)) (fun a U => a = #[(.ref a1), (.int p2)] ∧ Z.Warmed39 U.vm ∧ U.heap = h0 ∧ CHv Z own_EL U.vm h0) (fun _ _ _ _ _ => True) (fun _ U o U' => ∃ v L, o = .returned v ∧ Q9 Z a1 p2 em cz cl w cs n cb ck cvs wb wk wvs q e_ iw ic len k h0 n0 v U'.heap L ∧ CHr Z own_EL U.vm U.heap U'.vm U'.heap ∧ ReturnedEndW U o U' L ({ frames := 5, cells := 3, slots := 39, locals := 72 } : Room).cells ({ frames := 5, cells := 3, slots := 39, locals := 72 } : Room).slots) := by
  refine MetFree.of_bodySF (plainFor_of_name pn_com_example_rouse_rouse_shell_ShellWords) hisR ?_
  intro p e s m args below meth c s₁ Bd hml0 hP hK
  obtain ⟨rfl, hZ, hh, hH⟩ := hP
  have hx := Bd.exec
  have hby := Bd.bytes
  have hml : c.maxLocals = 3 := hml0
  have hown : s.vm.findClass "com/example/rouse/rouse/shell/ShellWords" = some m.cls := findClass_of_methodNamed Bd.named
  have hnm := (name_of_methodNamed Bd.named Bd.method).1
  have X0 : Stand p l e ({ frames := 5, cells := 3, slots := 39, locals := 72 } : Room) s m #[(.ref a1), (.int p2)] below meth c s₁ [] 0 0 := Stand.of_body Bd
  have e0 : s₁.heap = h0 := by rw [← hh, Bd.state]; rfl
  have N0 := Fr.nil n0
  have X0 : Stand p l e ({ frames := 5, cells := 3, slots := 39, locals := 72 } : Room) (s.setVm s.vm) m #[(.ref a1), (.int p2)] below meth c s₁ [] 0 0 := X0
  have hZ : Z.Warmed39 (s.setVm s.vm).vm := hZ
  have hown : (s.setVm s.vm).vm.findClass "com/example/rouse/rouse/shell/ShellWords" = some m.cls := hown
  have hS0 : s.Since s.vm 0 := State.WarmedH.since (State.WarmedH.refl s) 0
  have Cr0 : CHr Z own_EL s.vm h0 s.vm h0 := CHr.refl hH
  have pre0 : ∀ t, Steps p.tables e below (s₁.setTop (mkF m 0 #[.val (.ref a1), .val (.int p2), .unset] [])) t → Steps p.tables e below (s₁.setTop (entryFrame m #[(.ref a1), (.int p2)] 3)) t := fun t k => castTop (ef_9 m a1 p2) k
  obtain ⟨T101, X101, e101, st101⟩ := getF X0 hx hZ hown (host := "") (Or.inl (hw _ (List.mem_of_getElem? (i := 55) rfl))) Via.refl e0 H10 (g := (mkF m 1 #[.val (.ref a1), .val (.int p2), .unset] [(.ref a1)])) rfl rfl (hb hby d9_1)
  obtain ⟨_, _, ⟨T102, L102, k102, n102⟩, -, X102, ⟨Lc102, hQ102, l102, y102, z102⟩, st102⟩ := Jvm.LawKit.callS X101 hx (y := (⟨"java/util/List", "of", "()Ljava/util/List;"⟩ : MethodName)) hown (mvT hZ (hw _ (List.mem_of_getElem? (i := 57) rfl))) (mvT hZ (hw _ (List.mem_of_getElem? (i := 58) rfl))) (mvT hZ (hw _ (List.mem_of_getElem? (i := 59) rfl))) (mvT hZ (hw _ (List.mem_of_getElem? (i := 60) rfl))) (by decide) (backOf (W := 0) (rm10x6 l Z a0 hw [] em h0 n0 Z0 H0) hZ (hw _ (List.mem_of_getElem? (i := 60) rfl)) (hw _ (List.mem_of_getElem? (i := 59) rfl)) (by decide) (by decide)) (g := (mkF m 26 #[.val (.ref a1), .val (.int p2), .unset] [])) rfl (by rw [hml]; rfl) (argsL := []) (rest := []) (lenOf pd_11 rfl) rfl (by show 2 * 0 + _ ≤ _; exact Nat.le_of_eq rfl) (hb hby d9_26) (fun _ _ => ⟨rfl, e101, (by decide : 0 + 0 ≤ _), (by decide : 0 + 0 ≤ _)⟩)
  dsimp only [Pt.U, Pt.locs, Pt.cells, Pt.slots] at X102 l102 y102 z102 st102 hQ102
  subst l102 y102 z102
  obtain ⟨rfl, Nq102, Heq102⟩ := hQ102
  have N102 := Fr.app N0 Nq102
  have pre103 : ∀ t, Steps p.tables e below (T102.setTop (mkF m 33 #[.val (.ref a1), .val (.int p2), .val (.ref em)] [(.int (10 : Int32)), (.int p2)])) t → Steps p.tables e below (s₁.setTop (entryFrame m #[(.ref a1), (.int p2)] 3)) t := fun t kt => by
    refine pre0 t ?_
    show Steps p.tables e below (s₁.setTop (mkF m 0 #[.val (.ref a1), .val (.int p2), .unset] [])) _
    refine XS.aloadN X0.here hx rfl (hb hby d9_0) rfl rfl ?_
    show Steps p.tables e below (s₁.setTop (mkF m 1 #[.val (.ref a1), .val (.int p2), .unset] [(.ref a1)])) _
    refine st101 _ ?_
    show Steps p.tables e below (T101.setTop (mkF m 4 #[.val (.ref a1), .val (.int p2), .unset] [(.int (0 : Int32))])) _
    refine XS.ifYes X101.here hx rfl (pc0 := 4) (pc' := 26) rfl (hb hby d9_4) rfl ((if0 _ _).trans (teq (by decide : (0 : Int32) = (0 : Int32))).1) (by decide) (by decide) ?_
    show Steps p.tables e below (T101.setTop (mkF m 26 #[.val (.ref a1), .val (.int p2), .unset] [])) _
    refine st102 _ ?_
    show Steps p.tables e below (T102.setTop (mkF m 29 #[.val (.ref a1), .val (.int p2), .unset] [(.ref em)])) _
    refine XS.astoreN X102.here hx rfl (hb hby d9_29) rfl rfl (l' := #[.val (.ref a1), .val (.int p2), .val (.ref em)]) rfl ?_
    show Steps p.tables e below (T102.setTop (mkF m 30 #[.val (.ref a1), .val (.int p2), .val (.ref em)] [])) _
    refine XS.iloadN X102.here hx rfl (hb hby d9_30) rfl ?_
    show Steps p.tables e below (T102.setTop (mkF m 31 #[.val (.ref a1), .val (.int p2), .val (.ref em)] [(.int p2)])) _
    refine XS.bipush X102.here hx rfl (hb hby d9_31) ?_
    show Steps p.tables e below (T102.setTop (mkF m 33 #[.val (.ref a1), .val (.int p2), .val (.ref em)] [(.int (10 : Int32)), (.int p2)])) _
    exact kt
  by_cases hc33_104 : p2 = (10 : Int32)
  · skip
    obtain ⟨T105, X105, e105, st105⟩ := getF X102 hx hZ hown (host := "") (Or.inl (hw _ (List.mem_of_getElem? (i := 71) rfl))) Via.refl Heq102 H5 (g := (mkF m 37 #[.val (.ref a1), .val (.int p2), .val (.ref em)] [(.ref a1)])) rfl rfl (hb hby d9_37)
    have pre106 : ∀ t, Steps p.tables e below (T105.setTop (mkF m 40 #[.val (.ref a1), .val (.int p2), .val (.ref em)] [(.int q)])) t → Steps p.tables e below (s₁.setTop (entryFrame m #[(.ref a1), (.int p2)] 3)) t := fun t kt => by
      refine pre103 t ?_
      show Steps p.tables e below (T102.setTop (mkF m 33 #[.val (.ref a1), .val (.int p2), .val (.ref em)] [(.int (10 : Int32)), (.int p2)])) _
      refine XS.icmpNo X102.here hx rfl (hb hby d9_33) rfl (teq (hc33_104 : p2 = (10 : Int32))).2 ?_
      show Steps p.tables e below (T102.setTop (mkF m 36 #[.val (.ref a1), .val (.int p2), .val (.ref em)] [])) _
      refine XS.aloadN X102.here hx rfl (hb hby d9_36) rfl rfl ?_
      show Steps p.tables e below (T102.setTop (mkF m 37 #[.val (.ref a1), .val (.int p2), .val (.ref em)] [(.ref a1)])) _
      refine st105 _ ?_
      show Steps p.tables e below (T105.setTop (mkF m 40 #[.val (.ref a1), .val (.int p2), .val (.ref em)] [(.int q)])) _
      exact kt
    by_cases hc40_107 : q = (0 : Int32)
    · skip
      obtain ⟨T108, X108, e108, st108⟩ := getF X105 hx hZ hown (host := "") (Or.inl (hw _ (List.mem_of_getElem? (i := 69) rfl))) Via.refl e105 H6 (g := (mkF m 44 #[.val (.ref a1), .val (.int p2), .val (.ref em)] [(.ref a1)])) rfl rfl (hb hby d9_44)
      have pre109 : ∀ t, Steps p.tables e below (T108.setTop (mkF m 47 #[.val (.ref a1), .val (.int p2), .val (.ref em)] [(.int e_)])) t → Steps p.tables e below (s₁.setTop (entryFrame m #[(.ref a1), (.int p2)] 3)) t := fun t kt => by
        refine pre106 t ?_
        show Steps p.tables e below (T105.setTop (mkF m 40 #[.val (.ref a1), .val (.int p2), .val (.ref em)] [(.int q)])) _
        refine XS.ifNo X105.here hx rfl (hb hby d9_40) rfl ((if0 _ _).trans (teq (hc40_107 : q = (0 : Int32))).2) ?_
        show Steps p.tables e below (T105.setTop (mkF m 43 #[.val (.ref a1), .val (.int p2), .val (.ref em)] [])) _
        refine XS.aloadN X105.here hx rfl (hb hby d9_43) rfl rfl ?_
        show Steps p.tables e below (T105.setTop (mkF m 44 #[.val (.ref a1), .val (.int p2), .val (.ref em)] [(.ref a1)])) _
        refine st108 _ ?_
        show Steps p.tables e below (T108.setTop (mkF m 47 #[.val (.ref a1), .val (.int p2), .val (.ref em)] [(.int e_)])) _
        exact kt
      by_cases hc47_110 : e_ = (0 : Int32)
      · skip
        obtain ⟨T111, h111, X111, e111, W111, st111⟩ := putFN X108 hx hZ hown (hw _ (List.mem_of_getElem? (i := 63) rfl)) Via.refl e108 H8 H3 (Or.inl (hw _ (List.mem_of_getElem? (i := 64) rfl))) (hw _ (List.mem_of_getElem? (i := 9) rfl)) (ty := .boolean) (v' := (.int (nar .boolean (0 : Int32)))) (by decide) rfl (fits_nar_bool _) (g := (mkF m 52 #[.val (.ref a1), .val (.int p2), .val (.ref em)] [(.int (0 : Int32)), (.ref a1)])) rfl rfl (hb hby d9_52)
        rw [show nar .boolean (0 : Int32) = (0 : Int32) from by decide] at W111
        have Fw111 := H8.same W111
        have Hc112 := CHv.wr W111 (Safe.exa hZ.alike H3 (by decide) (by decide)) hH
        have Cr112 := Cr0.trans (CHr.wr W111 (Safe.exa hZ.alike H3 (by decide) (by decide)) hH)
        have N111 := Fr.snoc X111 N102 H19
        have f113 : Exa Z h111 a1 "com/example/rouse/rouse/shell/ShellWords" := (H3.wr W111)
        have f114 : Fld Z h111 a1 "com/example/rouse/rouse/shell/ShellWords" "line" "Lcom/example/rouse/rouse/shell/CommandLine;" (.ref cl) := (H4.other W111 (Or.inr (slot_ne (Or.inl (hw _ (List.mem_of_getElem? (i := 39) rfl))) (Or.inl (hw _ (List.mem_of_getElem? (i := 64) rfl))) (by decide) (t := (.object "com/example/rouse/rouse/shell/CommandLine")) (t' := .boolean) (by decide) (by decide))))
        have f115 : Fld Z h111 a1 "com/example/rouse/rouse/shell/ShellWords" "quote" "C" (.int q) := (H5.other W111 (Or.inr (slot_ne (Or.inl (hw _ (List.mem_of_getElem? (i := 72) rfl))) (Or.inl (hw _ (List.mem_of_getElem? (i := 64) rfl))) (by decide) (t := .char) (t' := .boolean) (by decide) (by decide))))
        have f116 : Fld Z h111 a1 "com/example/rouse/rouse/shell/ShellWords" "escaped" "Z" (.int e_) := (H6.other W111 (Or.inr (slot_ne (Or.inl (hw _ (List.mem_of_getElem? (i := 70) rfl))) (Or.inl (hw _ (List.mem_of_getElem? (i := 64) rfl))) (by decide) (t := .boolean) (t' := .boolean) (by decide) (by decide))))
        have f117 : Fld Z h111 a1 "com/example/rouse/rouse/shell/ShellWords" "inWord" "Z" (.int iw) := (H7.other W111 (Or.inr (slot_ne (Or.inl (hw _ (List.mem_of_getElem? (i := 81) rfl))) (Or.inl (hw _ (List.mem_of_getElem? (i := 64) rfl))) (by decide) (t := .boolean) (t' := .boolean) (by decide) (by decide))))
        have f118 : Fld Z h111 a1 "com/example/rouse/rouse/shell/ShellWords" "length" "I" (.int len) := (H9.other W111 (Or.inr (slot_ne (Or.inl (hw _ (List.mem_of_getElem? (i := 46) rfl))) (Or.inl (hw _ (List.mem_of_getElem? (i := 64) rfl))) (by decide) (t := .int) (t' := .boolean) (by decide) (by decide))))
        have f119 : Fld Z h111 a1 "com/example/rouse/rouse/shell/ShellWords" "skippingLine" "Z" (.int (0 : Int32)) := (H10.other W111 (Or.inr (slot_ne (Or.inl (hw _ (List.mem_of_getElem? (i := 56) rfl))) (Or.inl (hw _ (List.mem_of_getElem? (i := 64) rfl))) (by decide) (t := .boolean) (t' := .boolean) (by decide) (by decide))))
        have f120 : Exa Z h111 cl "com/example/rouse/rouse/shell/CommandLine" := (H11.wr W111)
        have ne121 : cl ≠ a1 := ne_exa f120 f113 (by decide)
        have f122 : Fld Z h111 cl "com/example/rouse/rouse/shell/CommandLine" "words" "I" (.int w) := (H12.other W111 (Or.inl ne121))
        have f123 : Fld Z h111 cl "com/example/rouse/rouse/shell/CommandLine" "commandStart" "I" (.int cs) := (H13.other W111 (Or.inl ne121))
        have f124 : Fld Z h111 cl "com/example/rouse/rouse/shell/CommandLine" "length" "I" (.int n) := (H14.other W111 (Or.inl ne121))
        have f125 : Fld Z h111 cl "com/example/rouse/rouse/shell/CommandLine" "characters" "[C" (.ref cb) := (H15.other W111 (Or.inl ne121))
        have f126 : Fld Z h111 cl "com/example/rouse/rouse/shell/CommandLine" "wordEnds" "[I" (.ref wb) := (H16.other W111 (Or.inl ne121))
        have ne127 : a1 ≠ wb := Exa.neArv H3 H18 (hw _ (List.mem_of_getElem? (i := 9) rfl))
        have f128 : Arv Z h111 wb wk .int (16 : Int32) wvs (.int (0 : Int32)) := (H18.other W111 (Ne.symm ne127))
        have z130 : n0 ≤ h111.size := (Nat.le_trans Z0 (Nat.le_of_eq W111.size.symm))
        obtain ⟨cq129, q129, q129'⟩ := f113.cell
        obtain ⟨_, _, ⟨T129, L129, k129, n129⟩, -, X129, ⟨Lc129, hQ129, l129, y129, z129⟩, st129⟩ := X111.privateBack hx (y := (⟨"com/example/rouse/rouse/shell/ShellWords", "endCommandLine", "()Ljava/lang/Iterable;"⟩ : MethodName)) hown (mvT hZ (hw _ (List.mem_of_getElem? (i := 93) rfl))) (mvT hZ (hw _ (List.mem_of_getElem? (i := 94) rfl))) (mvT hZ (own_selp (by decide) (hw _ (List.mem_of_getElem? (i := 9) rfl)) (hw _ (List.mem_of_getElem? (i := 95) rfl)) (hw _ (List.mem_of_getElem? (i := 94) rfl)))) (Cond.privateMethod_at (mvP hZ (hw _ (List.mem_of_getElem? (i := 95) rfl)) (args := #[]))) (mvT hZ (hw _ (List.mem_of_getElem? (i := 96) rfl))) (by decide) (backOf (W := 0) (rm15 l Z a0 hw [] a1 cl w cs n cb wb wk wvs q e_ iw (0 : Int32) len k h111 n0 z130 f113 f114 f115 f116 f117 Fw111 f118 f119 f120 f122 f123 f124 f125 f126 f128 H19 H20 H22 H26 H27 H25) hZ (hw _ (List.mem_of_getElem? (i := 96) rfl)) (hw _ (List.mem_of_getElem? (i := 10) rfl)) (by decide) (by decide)) (g := (mkF m 56 #[.val (.ref a1), .val (.int p2), .val (.ref em)] [(.ref a1)])) rfl (by rw [hml]; rfl) (Steps.refl _) (a := a1) (by rw [e111]; exact q129) q129' (argsL := []) (rest := []) (lenOf pd_12 rfl) rfl (by show 2 * 0 + _ ≤ _; exact Nat.le_of_eq rfl) (hb hby d9_56) (fun _ _ => ⟨rfl, e111, (by decide : 0 + 3 ≤ _), (by decide : 0 + 39 ≤ _)⟩)
        dsimp only [Pt.U, Pt.locs, Pt.cells, Pt.slots] at X129 l129 y129 z129 st129 hQ129
        subst l129 y129 z129
        obtain ⟨cly129, cby129, cky129, cvy129, wby129, wky129, wvy129, rfl, Nq129, K129, R129_1, R129_2, R129_3, R129_4, R129_5, R129_6, R129_7, R129_8, R129_9, R129_10, R129_11, R129_12, R129_13, R129_14, R129_15, R129_16, R129_17, R129_18, R129_19, R129_20, R129_21⟩ := hQ129
        have N129 := Fr.app N111 Nq129
        have hs131 : ∀ x ∈ ([a1, cl, wb] : List Addr), Safe Z own_EL s.vm h111 x := (allS (P := fun x => Safe Z own_EL s.vm h111 x) (Safe.exa hZ.alike f113 (by decide) (by decide)) (allS (P := fun x => Safe Z own_EL s.vm h111 x) (Safe.exa hZ.alike f120 (by decide) (by decide)) (allS (P := fun x => Safe Z own_EL s.vm h111 x) (own_safe_arv hZ.alike f128 (by decide)) (all0 (P := fun x => Safe Z own_EL s.vm h111 x)))))
        have Hc131 := CHv.keep K129 hs131 Hc112
        have Cr131 := Cr112.trans (CHr.keep K129 hs131 Hc112)
        have SbR129_8 := Safe.keep K129 hs131 Hc112 (Safe.new R129_8)
        have SbR129_9 := Safe.keep K129 hs131 Hc112 (Safe.new R129_9)
        have SbR129_10 := Safe.keep K129 hs131 Hc112 (Safe.new R129_10)
        have g132 : n0 ≤ cly129 := Nat.le_trans z130 R129_8
        have g133 : n0 ≤ cby129 := Nat.le_trans z130 R129_9
        have g134 : n0 ≤ wby129 := Nat.le_trans z130 R129_10
        obtain ⟨fs, hr, hrun, hended, hEnd⟩ := X129.leaveW hS0 (Nat.le_trans (Nat.le_trans (Nat.zero_le _) (Nat.le_of_eq W111.size.symm)) K129.1) (v := some (.ref cl)) (fun h => by rw [Bd.returns] at h; cases h)
        refine ⟨_, _, pre109 _ ?_, hrun, hended, _, _, rfl, ?_, (show CHr Z own_EL s.vm s.heap T129.vm T129.heap from by rw [hh]; exact Cr131.trans (CHv.at X129 hZ hEL Hc131)), hEnd.1, hEnd.2.1, hEnd.2.2.1, hEnd.2.2.2.mono (by decide) (by decide)⟩
        · skip
          show Steps p.tables e below (T108.setTop (mkF m 47 #[.val (.ref a1), .val (.int p2), .val (.ref em)] [(.int e_)])) _
          refine XS.ifNo X108.here hx rfl (hb hby d9_47) rfl ((if0 _ _).trans (teq (hc47_110 : e_ = (0 : Int32))).2) ?_
          show Steps p.tables e below (T108.setTop (mkF m 50 #[.val (.ref a1), .val (.int p2), .val (.ref em)] [])) _
          refine XS.aloadN X108.here hx rfl (hb hby d9_50) rfl rfl ?_
          show Steps p.tables e below (T108.setTop (mkF m 51 #[.val (.ref a1), .val (.int p2), .val (.ref em)] [(.ref a1)])) _
          refine XS.iconst X108.here hx rfl (hb hby d9_51) ?_
          show Steps p.tables e below (T108.setTop (mkF m 52 #[.val (.ref a1), .val (.int p2), .val (.ref em)] [(.int (0 : Int32)), (.ref a1)])) _
          refine st111 _ ?_
          show Steps p.tables e below (T111.setTop (mkF m 55 #[.val (.ref a1), .val (.int p2), .val (.ref em)] [])) _
          refine XS.aloadN X111.here hx rfl (hb hby d9_55) rfl rfl ?_
          show Steps p.tables e below (T111.setTop (mkF m 56 #[.val (.ref a1), .val (.int p2), .val (.ref em)] [(.ref a1)])) _
          refine st129.trans ?_
          show Steps p.tables e below (T129.setTop (mkF m 59 #[.val (.ref a1), .val (.int p2), .val (.ref em)] [(.ref cl)])) _
          refine XS.astoreN X129.here hx rfl (hb hby d9_59) rfl rfl (l' := #[.val (.ref a1), .val (.int p2), .val (.ref cl)]) rfl ?_
          show Steps p.tables e below (T129.setTop (mkF m 60 #[.val (.ref a1), .val (.int p2), .val (.ref cl)] [])) _
          refine XS.goto X129.here hx rfl (pc0 := 60) (pc' := 99) rfl (hb hby d9_60) (by decide) (by decide) ?_
          show Steps p.tables e below (T129.setTop (mkF m 99 #[.val (.ref a1), .val (.int p2), .val (.ref cl)] [])) _
          refine XS.aloadN X129.here hx rfl (hb hby d9_99) rfl rfl ?_
          show Steps p.tables e below (T129.setTop (mkF m 100 #[.val (.ref a1), .val (.int p2), .val (.ref cl)] [(.ref cl)])) _
          jvm_step X129.here [X129.here.top, hx, (hb hby d9_100), X129.method', Bd.returns, Value.isRef, FieldType.isReference]
          first | (intro acts; rw [hr _ acts rfl rfl rfl]) | rw [hr _ _ rfl rfl rfl]
          exact Steps.refl _
        · show Q9 Z a1 p2 em cz cl w cs n cb ck cvs wb wk wvs q e_ iw ic len k h0 n0 _ T129.heap _
          exact ⟨(.ref cl), (0 : Int32), cly129, (0 : Int32), (0 : Int32), (0 : Int32), cby129, wby129, cky129, wky129, cvy129, wvy129, rfl, N129, (((Keep.refl h0 [a1, cl, cb, wb]).wr W111 (Or.inl (List.mem_of_getElem? (i := 0) rfl))).trans K129 (allS (P := (fun x => x ∈ [a1, cl, cb, wb] ∨ h0.size ≤ x)) (Or.inl (List.mem_of_getElem? (i := 0) rfl)) (allS (P := (fun x => x ∈ [a1, cl, cb, wb] ∨ h0.size ≤ x)) (Or.inl (List.mem_of_getElem? (i := 1) rfl)) (allS (P := (fun x => x ∈ [a1, cl, cb, wb] ∨ h0.size ≤ x)) (Or.inl (List.mem_of_getElem? (i := 3) rfl)) all0)))), R129_1, (by simpa only [own_Rq, own_sel, eq_true hc33_104, eq_true hc40_107, eq_true hc47_110, if_true, if_false] using R129_2), (by simpa only [own_Re, own_sel, eq_true hc33_104, eq_true hc40_107, eq_true hc47_110, if_true, if_false] using R129_3), R129_4, (by simpa only [own_Ric, own_sel, eq_true hc33_104, eq_true hc40_107, eq_true hc47_110, if_true, if_false] using R129_5), (by simpa only [own_rlen, own_sel, eq_true hc33_104, eq_true hc40_107, eq_true hc47_110, if_true, if_false] using R129_6), R129_7, R129_11, R129_12, R129_13, R129_14, R129_15, R129_16, R129_18, R129_19, g132, g133, g134, R129_17, R129_20, R129_21, ⟨by decide, by have := H26.1; have := H26.2.1; show (0 : Int) ≤ _; omega, by decide, by have := H26.1; have := H26.2.1; show (0 : Int) ≤ _; omega, by decide, by have := H26.1; have := H26.2.1; show (0 : Int) ≤ _; omega⟩, (own_lk_up H29 H27), rfl⟩
      · skip
        obtain ⟨T135, X135, e135, st135⟩ := getF X108 hx hZ hown (host := "") (Or.inl (hw _ (List.mem_of_getElem? (i := 45) rfl))) Via.refl e108 H9 (g := (mkF m 65 #[.val (.ref a1), .val (.int p2), .val (.ref em)] [(.ref a1), (.ref a1)])) rfl rfl (hb hby d9_65)
        obtain ⟨T136, h136, X136, e136, W136, st136⟩ := putF X135 hx hZ hown (host := "") (Or.inl (hw _ (List.mem_of_getElem? (i := 45) rfl))) Via.refl e135 H9 H3 (Or.inl (hw _ (List.mem_of_getElem? (i := 46) rfl))) (hw _ (List.mem_of_getElem? (i := 9) rfl)) (ty := .int) (by decide) rfl rfl (g := (mkF m 71 #[.val (.ref a1), .val (.int p2), .val (.ref em)] [(.int (len + (1 : Int32))), (.ref a1), (.int (len + (1 : Int32)))])) rfl rfl (hb hby d9_71)
        have Fw136 := H9.same W136
        have Hc137 := CHv.wr W136 (Safe.exa hZ.alike H3 (by decide) (by decide)) hH
        have Cr137 := Cr0.trans (CHr.wr W136 (Safe.exa hZ.alike H3 (by decide) (by decide)) hH)
        have N136 := Fr.snoc X136 N102 H19
        have f138 : Fld Z h136 a1 "com/example/rouse/rouse/shell/ShellWords" "inComment" "Z" (.int ic) := (H8.other W136 (Or.inr (slot_ne (Or.inl (hw _ (List.mem_of_getElem? (i := 64) rfl))) (Or.inl (hw _ (List.mem_of_getElem? (i := 46) rfl))) (by decide) (t := .boolean) (t' := .int) (by decide) (by decide))))
        obtain ⟨T139, X139, e139, st139⟩ := getF X136 hx hZ hown (host := "") (Or.inl (hw _ (List.mem_of_getElem? (i := 63) rfl))) Via.refl e136 f138 (g := (mkF m 88 #[.val (.ref a1), .val (.int p2), .val (.ref em)] [(.ref a1)])) rfl rfl (hb hby d9_88)
        have pre140 : ∀ t, Steps p.tables e below (T139.setTop (mkF m 91 #[.val (.ref a1), .val (.int p2), .val (.ref em)] [(.int ic)])) t → Steps p.tables e below (s₁.setTop (entryFrame m #[(.ref a1), (.int p2)] 3)) t := fun t kt => by
          refine pre109 t ?_
          show Steps p.tables e below (T108.setTop (mkF m 47 #[.val (.ref a1), .val (.int p2), .val (.ref em)] [(.int e_)])) _
          refine XS.ifYes X108.here hx rfl (pc0 := 47) (pc' := 63) rfl (hb hby d9_47) rfl ((if0 _ _).trans (feq (hc47_110 : ¬ (e_ = (0 : Int32)))).2) (by decide) (by decide) ?_
          show Steps p.tables e below (T108.setTop (mkF m 63 #[.val (.ref a1), .val (.int p2), .val (.ref em)] [])) _
          refine XS.aloadN X108.here hx rfl (hb hby d9_63) rfl rfl ?_
          show Steps p.tables e below (T108.setTop (mkF m 64 #[.val (.ref a1), .val (.int p2), .val (.ref em)] [(.ref a1)])) _
          refine XS.dup X108.here hx rfl (hb hby d9_64) rfl rfl ?_
          show Steps p.tables e below (T108.setTop (mkF m 65 #[.val (.ref a1), .val (.int p2), .val (.ref em)] [(.ref a1), (.ref a1)])) _
          refine st135 _ ?_
          show Steps p.tables e below (T135.setTop (mkF m 68 #[.val (.ref a1), .val (.int p2), .val (.ref em)] [(.int len), (.ref a1)])) _
          refine XS.iconst X135.here hx rfl (hb hby d9_68) ?_
          show Steps p.tables e below (T135.setTop (mkF m 69 #[.val (.ref a1), .val (.int p2), .val (.ref em)] [(.int (1 : Int32)), (.int len), (.ref a1)])) _
          refine XS.iadd X135.here hx rfl (hb hby d9_69) rfl ?_
          show Steps p.tables e below (T135.setTop (mkF m 70 #[.val (.ref a1), .val (.int p2), .val (.ref em)] [(.int (len + (1 : Int32))), (.ref a1)])) _
          refine XS.dupX1 X135.here hx rfl (hb hby d9_70) rfl rfl rfl ?_
          show Steps p.tables e below (T135.setTop (mkF m 71 #[.val (.ref a1), .val (.int p2), .val (.ref em)] [(.int (len + (1 : Int32))), (.ref a1), (.int (len + (1 : Int32)))])) _
          refine st136 _ ?_
          show Steps p.tables e below (T136.setTop (mkF m 74 #[.val (.ref a1), .val (.int p2), .val (.ref em)] [(.int (len + (1 : Int32)))])) _
          refine X136.ldcInt hx hown (mvT hZ (hw _ (List.mem_of_getElem? (i := 23) rfl))) (g := (mkF m 74 #[.val (.ref a1), .val (.int p2), .val (.ref em)] [(.int (len + (1 : Int32)))])) rfl (hb hby d9_74) _ ?_
          show Steps p.tables e below (T136.setTop (mkF m 76 #[.val (.ref a1), .val (.int p2), .val (.ref em)] [(.int (1048576 : Int32)), (.int (len + (1 : Int32)))])) _
          refine XS.icmpYes X136.here hx rfl (pc0 := 76) (pc' := 87) rfl (hb hby d9_76) rfl (flt (own_lk_no H29 H27 : ¬ ((1048576 : Int32) < (len + (1 : Int32))))).2.2.2 (by decide) (by decide) ?_
          show Steps p.tables e below (T136.setTop (mkF m 87 #[.val (.ref a1), .val (.int p2), .val (.ref em)] [])) _
          refine XS.aloadN X136.here hx rfl (hb hby d9_87) rfl rfl ?_
          show Steps p.tables e below (T136.setTop (mkF m 88 #[.val (.ref a1), .val (.int p2), .val (.ref em)] [(.ref a1)])) _
          refine st139 _ ?_
          show Steps p.tables e below (T139.setTop (mkF m 91 #[.val (.ref a1), .val (.int p2), .val (.ref em)] [(.int ic)])) _
          exact kt
        by_cases hc91_141 : ic = (0 : Int32)
        · skip
          have f142 : Sta Z h136 "java/lang/String" "COMPACT_STRINGS" "Z" (.int cz) := (H1.wr W136)
          have f143 : Exa Z h136 a1 "com/example/rouse/rouse/shell/ShellWords" := (H3.wr W136)
          have f144 : Fld Z h136 a1 "com/example/rouse/rouse/shell/ShellWords" "line" "Lcom/example/rouse/rouse/shell/CommandLine;" (.ref cl) := (H4.other W136 (Or.inr (slot_ne (Or.inl (hw _ (List.mem_of_getElem? (i := 39) rfl))) (Or.inl (hw _ (List.mem_of_getElem? (i := 46) rfl))) (by decide) (t := (.object "com/example/rouse/rouse/shell/CommandLine")) (t' := .int) (by decide) (by decide))))
          have f145 : Fld Z h136 a1 "com/example/rouse/rouse/shell/ShellWords" "quote" "C" (.int q) := (H5.other W136 (Or.inr (slot_ne (Or.inl (hw _ (List.mem_of_getElem? (i := 72) rfl))) (Or.inl (hw _ (List.mem_of_getElem? (i := 46) rfl))) (by decide) (t := .char) (t' := .int) (by decide) (by decide))))
          have f146 : Fld Z h136 a1 "com/example/rouse/rouse/shell/ShellWords" "escaped" "Z" (.int e_) := (H6.other W136 (Or.inr (slot_ne (Or.inl (hw _ (List.mem_of_getElem? (i := 70) rfl))) (Or.inl (hw _ (List.mem_of_getElem? (i := 46) rfl))) (by decide) (t := .boolean) (t' := .int) (by decide) (by decide))))
          have f147 : Fld Z h136 a1 "com/example/rouse/rouse/shell/ShellWords" "inWord" "Z" (.int iw) := (H7.other W136 (Or.inr (slot_ne (Or.inl (hw _ (List.mem_of_getElem? (i := 81) rfl))) (Or.inl (hw _ (List.mem_of_getElem? (i := 46) rfl))) (by decide) (t := .boolean) (t' := .int) (by decide) (by decide))))
          have f148 : Fld Z h136 a1 "com/example/rouse/rouse/shell/ShellWords" "skippingLine" "Z" (.int (0 : Int32)) := (H10.other W136 (Or.inr (slot_ne (Or.inl (hw _ (List.mem_of_getElem? (i := 56) rfl))) (Or.inl (hw _ (List.mem_of_getElem? (i := 46) rfl))) (by decide) (t := .boolean) (t' := .int) (by decide) (by decide))))
          have f149 : Exa Z h136 cl "com/example/rouse/rouse/shell/CommandLine" := (H11.wr W136)
          have ne150 : cl ≠ a1 := ne_exa f149 f143 (by decide)
          have f151 : Fld Z h136 cl "com/example/rouse/rouse/shell/CommandLine" "words" "I" (.int w) := (H12.other W136 (Or.inl ne150))
          have f152 : Fld Z h136 cl "com/example/rouse/rouse/shell/CommandLine" "commandStart" "I" (.int cs) := (H13.other W136 (Or.inl ne150))
          have f153 : Fld Z h136 cl "com/example/rouse/rouse/shell/CommandLine" "length" "I" (.int n) := (H14.other W136 (Or.inl ne150))
          have f154 : Fld Z h136 cl "com/example/rouse/rouse/shell/CommandLine" "characters" "[C" (.ref cb) := (H15.other W136 (Or.inl ne150))
          have f155 : Fld Z h136 cl "com/example/rouse/rouse/shell/CommandLine" "wordEnds" "[I" (.ref wb) := (H16.other W136 (Or.inl ne150))
          have ne156 : a1 ≠ cb := Exa.neArv H3 H17 (hw _ (List.mem_of_getElem? (i := 9) rfl))
          have f157 : Arv Z h136 cb ck .char (16 : Int32) cvs (.int (0 : Int32)) := (H17.other W136 (Ne.symm ne156))
          have ne158 : a1 ≠ wb := Exa.neArv H3 H18 (hw _ (List.mem_of_getElem? (i := 9) rfl))
          have f159 : Arv Z h136 wb wk .int (16 : Int32) wvs (.int (0 : Int32)) := (H18.other W136 (Ne.symm ne158))
          have z161 : n0 ≤ h136.size := (Nat.le_trans Z0 (Nat.le_of_eq W136.size.symm))
          obtain ⟨cq160, q160, q160'⟩ := f143.cell
          obtain ⟨_, _, ⟨T160, L160, k160, n160⟩, -, X160, hS160', hgr160, ⟨Lc160, hQ160, l160, y160, z160, Cq160⟩, st160⟩ := X139.privateBackS hx (y := (⟨"com/example/rouse/rouse/shell/ShellWords", "readInWords", "(C)V"⟩ : MethodName)) hown (mvT hZ (hw _ (List.mem_of_getElem? (i := 65) rfl))) (mvT hZ (hw _ (List.mem_of_getElem? (i := 66) rfl))) (mvT hZ (own_selp (by decide) (hw _ (List.mem_of_getElem? (i := 9) rfl)) (hw _ (List.mem_of_getElem? (i := 67) rfl)) (hw _ (List.mem_of_getElem? (i := 66) rfl)))) (Cond.privateMethod_at (mvP hZ (hw _ (List.mem_of_getElem? (i := 67) rfl)) (args := #[]))) (mvT hZ (hw _ (List.mem_of_getElem? (i := 68) rfl))) (by decide) (backOfSH (W := 0) (rm11 l Z a0 hw [] hEL a1 p2 cz cl w cs n cb ck cvs wb wk wvs q e_ iw ic (len + (1 : Int32)) k h136 n0 z161 f142 H2 f143 f144 f145 f146 f147 f138 Fw136 f148 f149 f151 f152 f153 f154 f155 f157 f159 H19 H20 H21 H22 H23 H24 H25 H26 H27 H28) hZ (hw _ (List.mem_of_getElem? (i := 68) rfl)) (hw _ (List.mem_of_getElem? (i := 10) rfl)) (by decide) (by decide) hEL Hc137) (g := (mkF m 96 #[.val (.ref a1), .val (.int p2), .val (.ref em)] [(.int p2), (.ref a1)])) rfl (by rw [hml]; rfl) (Steps.refl _) (a := a1) (by rw [e139]; exact q160) q160' (argsL := [(.int p2)]) (rest := []) (lenOf pd_9 rfl) rfl (by show 2 * 0 + _ ≤ _; exact Nat.le_of_eq rfl) (hb hby d9_96) (fun _ _ => ⟨rfl, e139, (by decide : 0 + 2 ≤ _), (by decide : 0 + 24 ≤ _)⟩)
          dsimp only [Pt.U, Pt.locs, Pt.cells, Pt.slots] at X160 l160 y160 z160 st160 hQ160 hS160' hgr160 Cq160
          subst l160 y160 z160
          obtain ⟨X160, hS160, hZ, hown⟩ := rebS hS0 (by rw [e139]; exact (Nat.le_trans (Nat.zero_le _) (Nat.le_of_eq W136.size.symm))) X160 hS160' hgr160 hZ hown
          have Cr160 := Cr137.trans Cq160
          have Hc160 := Cq160.1
          obtain ⟨iwx160, wx160, nx160, cvx160, wvx160, rfl, Nq160, K160, R160_1, R160_2, R160_3, R160_4, R160_5, R160_6, R160_7, R160_8, R160_9, R160_10, R160_11, R160_12, R160_13, R160_14, R160_15, R160_16, R160_17⟩ := hQ160
          have N160 := Fr.app N136 Nq160
          have f162 : Exa Z T160.heap cl "com/example/rouse/rouse/shell/CommandLine" := (f149.keep K160)
          obtain ⟨fs, hr, hrun, hended, hEnd⟩ := X160.leaveW hS160 (Nat.le_refl _) (v := some (.ref em)) (fun h => by rw [Bd.returns] at h; cases h)
          refine ⟨_, _, pre140 _ ?_, hrun, hended, _, _, rfl, ?_, (show CHr Z own_EL s.vm s.heap T160.vm T160.heap from by rw [hh]; exact Cr160.trans (CHv.at X160 hZ hEL Hc160)), hEnd.1, hEnd.2.1, hEnd.2.2.1, hEnd.2.2.2.mono (by decide) (by decide)⟩
          · skip
            show Steps p.tables e below (T139.setTop (mkF m 91 #[.val (.ref a1), .val (.int p2), .val (.ref em)] [(.int ic)])) _
            refine XS.ifNo X139.here hx rfl (hb hby d9_91) rfl ((if0 _ _).trans (teq (hc91_141 : ic = (0 : Int32))).2) ?_
            show Steps p.tables e below (T139.setTop (mkF m 94 #[.val (.ref a1), .val (.int p2), .val (.ref em)] [])) _
            refine XS.aloadN X139.here hx rfl (hb hby d9_94) rfl rfl ?_
            show Steps p.tables e below (T139.setTop (mkF m 95 #[.val (.ref a1), .val (.int p2), .val (.ref em)] [(.ref a1)])) _
            refine XS.iloadN X139.here hx rfl (hb hby d9_95) rfl ?_
            show Steps p.tables e below (T139.setTop (mkF m 96 #[.val (.ref a1), .val (.int p2), .val (.ref em)] [(.int p2), (.ref a1)])) _
            refine st160.trans ?_
            show Steps p.tables e below (T160.setTop (mkF m 99 #[.val (.ref a1), .val (.int p2), .val (.ref em)] [])) _
            refine XS.aloadN X160.here hx rfl (hb hby d9_99) rfl rfl ?_
            show Steps p.tables e below (T160.setTop (mkF m 100 #[.val (.ref a1), .val (.int p2), .val (.ref em)] [(.ref em)])) _
            jvm_step X160.here [X160.here.top, hx, (hb hby d9_100), X160.method', Bd.returns, Value.isRef, FieldType.isReference]
            first | (intro acts; rw [hr _ acts rfl rfl rfl]) | rw [hr _ _ rfl rfl rfl]
            exact Steps.refl _
          · show Q9 Z a1 p2 em cz cl w cs n cb ck cvs wb wk wvs q e_ iw ic len k h0 n0 _ T160.heap _
            exact ⟨(.ref em), iwx160, cl, wx160, cs, nx160, cb, wb, ck, wk, cvx160, wvx160, rfl, N160, (((Keep.refl h0 [a1, cl, cb, wb]).wr W136 (Or.inl (List.mem_of_getElem? (i := 0) rfl))).trans K160 (allS (P := (fun x => x ∈ [a1, cl, cb, wb] ∨ h0.size ≤ x)) (Or.inl (List.mem_of_getElem? (i := 0) rfl)) (allS (P := (fun x => x ∈ [a1, cl, cb, wb] ∨ h0.size ≤ x)) (Or.inl (List.mem_of_getElem? (i := 1) rfl)) (allS (P := (fun x => x ∈ [a1, cl, cb, wb] ∨ h0.size ≤ x)) (Or.inl (List.mem_of_getElem? (i := 2) rfl)) (allS (P := (fun x => x ∈ [a1, cl, cb, wb] ∨ h0.size ≤ x)) (Or.inl (List.mem_of_getElem? (i := 3) rfl)) all0))))), R160_1, (by simpa only [own_Rq, own_sel, eq_true hc33_104, eq_true hc40_107, eq_false hc47_110, eq_true hc91_141, if_true, if_false] using R160_2), (by simpa only [own_Re, own_sel, eq_true hc33_104, eq_true hc40_107, eq_false hc47_110, eq_true hc91_141, if_true, if_false] using R160_3), R160_4, (by simpa only [own_Ric, own_sel, eq_true hc33_104, eq_true hc40_107, eq_false hc47_110, eq_true hc91_141, if_true, if_false] using R160_5), (by simpa only [own_rlen, own_sel, eq_true hc33_104, eq_true hc40_107, eq_false hc47_110, eq_true hc91_141, if_true, if_false] using R160_6), R160_7, f162, R160_8, R160_9, R160_10, R160_11, R160_12, R160_13, R160_14, H20, H21, H22, H23, R160_15, R160_16, R160_17, (own_lk_up H29 H27), rfl⟩
        · skip
          have f163 : Fld Z h136 a1 "com/example/rouse/rouse/shell/ShellWords" "quote" "C" (.int q) := (H5.other W136 (Or.inr (slot_ne (Or.inl (hw _ (List.mem_of_getElem? (i := 72) rfl))) (Or.inl (hw _ (List.mem_of_getElem? (i := 46) rfl))) (by decide) (t := .char) (t' := .int) (by decide) (by decide))))
          have f164 : Fld Z h136 a1 "com/example/rouse/rouse/shell/ShellWords" "escaped" "Z" (.int e_) := (H6.other W136 (Or.inr (slot_ne (Or.inl (hw _ (List.mem_of_getElem? (i := 70) rfl))) (Or.inl (hw _ (List.mem_of_getElem? (i := 46) rfl))) (by decide) (t := .boolean) (t' := .int) (by decide) (by decide))))
          have f165 : Fld Z h136 a1 "com/example/rouse/rouse/shell/ShellWords" "line" "Lcom/example/rouse/rouse/shell/CommandLine;" (.ref cl) := (H4.other W136 (Or.inr (slot_ne (Or.inl (hw _ (List.mem_of_getElem? (i := 39) rfl))) (Or.inl (hw _ (List.mem_of_getElem? (i := 46) rfl))) (by decide) (t := (.object "com/example/rouse/rouse/shell/CommandLine")) (t' := .int) (by decide) (by decide))))
          have f166 : Fld Z h136 a1 "com/example/rouse/rouse/shell/ShellWords" "inWord" "Z" (.int iw) := (H7.other W136 (Or.inr (slot_ne (Or.inl (hw _ (List.mem_of_getElem? (i := 81) rfl))) (Or.inl (hw _ (List.mem_of_getElem? (i := 46) rfl))) (by decide) (t := .boolean) (t' := .int) (by decide) (by decide))))
          have f167 : Fld Z h136 a1 "com/example/rouse/rouse/shell/ShellWords" "skippingLine" "Z" (.int (0 : Int32)) := (H10.other W136 (Or.inr (slot_ne (Or.inl (hw _ (List.mem_of_getElem? (i := 56) rfl))) (Or.inl (hw _ (List.mem_of_getElem? (i := 46) rfl))) (by decide) (t := .boolean) (t' := .int) (by decide) (by decide))))
          have f168 : Exa Z h136 cl "com/example/rouse/rouse/shell/CommandLine" := (H11.wr W136)
          have ne169 : cl ≠ a1 := ne_exa H11 H3 (by decide)
          have f170 : Fld Z h136 cl "com/example/rouse/rouse/shell/CommandLine" "words" "I" (.int w) := (H12.other W136 (Or.inl ne169))
          have f171 : Fld Z h136 cl "com/example/rouse/rouse/shell/CommandLine" "commandStart" "I" (.int cs) := (H13.other W136 (Or.inl ne169))
          have f172 : Fld Z h136 cl "com/example/rouse/rouse/shell/CommandLine" "length" "I" (.int n) := (H14.other W136 (Or.inl ne169))
          have f173 : Fld Z h136 cl "com/example/rouse/rouse/shell/CommandLine" "characters" "[C" (.ref cb) := (H15.other W136 (Or.inl ne169))
          have f174 : Fld Z h136 cl "com/example/rouse/rouse/shell/CommandLine" "wordEnds" "[I" (.ref wb) := (H16.other W136 (Or.inl ne169))
          have ne175 : a1 ≠ cb := Exa.neArv H3 H17 (hw _ (List.mem_of_getElem? (i := 9) rfl))
          have f176 : Arv Z h136 cb ck .char (16 : Int32) cvs (.int (0 : Int32)) := (H17.other W136 (Ne.symm ne175))
          have ne177 : a1 ≠ wb := Exa.neArv H3 H18 (hw _ (List.mem_of_getElem? (i := 9) rfl))
          have f178 : Arv Z h136 wb wk .int (16 : Int32) wvs (.int (0 : Int32)) := (H18.other W136 (Ne.symm ne177))
          obtain ⟨fs, hr, hrun, hended, hEnd⟩ := X139.leaveW hS0 (by rw [e139]; exact (Nat.le_trans (Nat.zero_le _) (Nat.le_of_eq W136.size.symm))) (v := some (.ref em)) (fun h => by rw [Bd.returns] at h; cases h)
          refine ⟨_, _, pre140 _ ?_, hrun, hended, _, _, rfl, ?_, (show CHr Z own_EL s.vm s.heap T139.vm T139.heap from by rw [hh, e139]; exact Cr137.trans (CHv.at X139 hZ hEL Hc137)), hEnd.1, hEnd.2.1, hEnd.2.2.1, hEnd.2.2.2.mono (by decide) (by decide)⟩
          · skip
            show Steps p.tables e below (T139.setTop (mkF m 91 #[.val (.ref a1), .val (.int p2), .val (.ref em)] [(.int ic)])) _
            refine XS.ifYes X139.here hx rfl (pc0 := 91) (pc' := 99) rfl (hb hby d9_91) rfl ((if0 _ _).trans (feq (hc91_141 : ¬ (ic = (0 : Int32)))).2) (by decide) (by decide) ?_
            show Steps p.tables e below (T139.setTop (mkF m 99 #[.val (.ref a1), .val (.int p2), .val (.ref em)] [])) _
            refine XS.aloadN X139.here hx rfl (hb hby d9_99) rfl rfl ?_
            show Steps p.tables e below (T139.setTop (mkF m 100 #[.val (.ref a1), .val (.int p2), .val (.ref em)] [(.ref em)])) _
            jvm_step X139.here [X139.here.top, hx, (hb hby d9_100), X139.method', Bd.returns, Value.isRef, FieldType.isReference]
            first | (intro acts; rw [hr _ acts rfl rfl rfl]) | rw [hr _ _ rfl rfl rfl]
            exact Steps.refl _
          · show Q9 Z a1 p2 em cz cl w cs n cb ck cvs wb wk wvs q e_ iw ic len k h0 n0 _ T139.heap _
            rw [e139]
            exact ⟨(.ref em), iw, cl, w, cs, n, cb, wb, ck, wk, cvs, wvs, rfl, N136, ((Keep.refl h0 [a1, cl, cb, wb]).wr W136 (Or.inl (List.mem_of_getElem? (i := 0) rfl))), f165, (by simpa only [own_Rq, own_sel, eq_true hc33_104, eq_true hc40_107, eq_false hc47_110, eq_false hc91_141, if_true, if_false] using f163), (by simpa only [own_Re, own_sel, eq_true hc33_104, eq_true hc40_107, eq_false hc47_110, eq_false hc91_141, if_true, if_false] using f164), f166, (by simpa only [own_Ric, own_sel, eq_true hc33_104, eq_true hc40_107, eq_false hc47_110, eq_false hc91_141, if_true, if_false] using f138), (by simpa only [own_rlen, own_sel, eq_true hc33_104, eq_true hc40_107, eq_false hc47_110, eq_false hc91_141, if_true, if_false] using Fw136), f167, f168, f170, f171, f172, f173, f174, f176, f178, H20, H21, H22, H23, H24, H25, (by obtain ⟨o1, o2, o3, o4, o5, o6⟩ := H26; exact ⟨by omega, by omega, by omega, by omega, by omega, by omega⟩), (own_lk_up H29 H27), rfl⟩
    · skip
      obtain ⟨T179, X179, e179, st179⟩ := getF X105 hx hZ hown (host := "") (Or.inl (hw _ (List.mem_of_getElem? (i := 45) rfl))) Via.refl e105 H9 (g := (mkF m 65 #[.val (.ref a1), .val (.int p2), .val (.ref em)] [(.ref a1), (.ref a1)])) rfl rfl (hb hby d9_65)
      obtain ⟨T180, h180, X180, e180, W180, st180⟩ := putF X179 hx hZ hown (host := "") (Or.inl (hw _ (List.mem_of_getElem? (i := 45) rfl))) Via.refl e179 H9 H3 (Or.inl (hw _ (List.mem_of_getElem? (i := 46) rfl))) (hw _ (List.mem_of_getElem? (i := 9) rfl)) (ty := .int) (by decide) rfl rfl (g := (mkF m 71 #[.val (.ref a1), .val (.int p2), .val (.ref em)] [(.int (len + (1 : Int32))), (.ref a1), (.int (len + (1 : Int32)))])) rfl rfl (hb hby d9_71)
      have Fw180 := H9.same W180
      have Hc181 := CHv.wr W180 (Safe.exa hZ.alike H3 (by decide) (by decide)) hH
      have Cr181 := Cr0.trans (CHr.wr W180 (Safe.exa hZ.alike H3 (by decide) (by decide)) hH)
      have N180 := Fr.snoc X180 N102 H19
      have f182 : Fld Z h180 a1 "com/example/rouse/rouse/shell/ShellWords" "inComment" "Z" (.int ic) := (H8.other W180 (Or.inr (slot_ne (Or.inl (hw _ (List.mem_of_getElem? (i := 64) rfl))) (Or.inl (hw _ (List.mem_of_getElem? (i := 46) rfl))) (by decide) (t := .boolean) (t' := .int) (by decide) (by decide))))
      obtain ⟨T183, X183, e183, st183⟩ := getF X180 hx hZ hown (host := "") (Or.inl (hw _ (List.mem_of_getElem? (i := 63) rfl))) Via.refl e180 f182 (g := (mkF m 88 #[.val (.ref a1), .val (.int p2), .val (.ref em)] [(.ref a1)])) rfl rfl (hb hby d9_88)
      have pre184 : ∀ t, Steps p.tables e below (T183.setTop (mkF m 91 #[.val (.ref a1), .val (.int p2), .val (.ref em)] [(.int ic)])) t → Steps p.tables e below (s₁.setTop (entryFrame m #[(.ref a1), (.int p2)] 3)) t := fun t kt => by
        refine pre106 t ?_
        show Steps p.tables e below (T105.setTop (mkF m 40 #[.val (.ref a1), .val (.int p2), .val (.ref em)] [(.int q)])) _
        refine XS.ifYes X105.here hx rfl (pc0 := 40) (pc' := 63) rfl (hb hby d9_40) rfl ((if0 _ _).trans (feq (hc40_107 : ¬ (q = (0 : Int32)))).2) (by decide) (by decide) ?_
        show Steps p.tables e below (T105.setTop (mkF m 63 #[.val (.ref a1), .val (.int p2), .val (.ref em)] [])) _
        refine XS.aloadN X105.here hx rfl (hb hby d9_63) rfl rfl ?_
        show Steps p.tables e below (T105.setTop (mkF m 64 #[.val (.ref a1), .val (.int p2), .val (.ref em)] [(.ref a1)])) _
        refine XS.dup X105.here hx rfl (hb hby d9_64) rfl rfl ?_
        show Steps p.tables e below (T105.setTop (mkF m 65 #[.val (.ref a1), .val (.int p2), .val (.ref em)] [(.ref a1), (.ref a1)])) _
        refine st179 _ ?_
        show Steps p.tables e below (T179.setTop (mkF m 68 #[.val (.ref a1), .val (.int p2), .val (.ref em)] [(.int len), (.ref a1)])) _
        refine XS.iconst X179.here hx rfl (hb hby d9_68) ?_
        show Steps p.tables e below (T179.setTop (mkF m 69 #[.val (.ref a1), .val (.int p2), .val (.ref em)] [(.int (1 : Int32)), (.int len), (.ref a1)])) _
        refine XS.iadd X179.here hx rfl (hb hby d9_69) rfl ?_
        show Steps p.tables e below (T179.setTop (mkF m 70 #[.val (.ref a1), .val (.int p2), .val (.ref em)] [(.int (len + (1 : Int32))), (.ref a1)])) _
        refine XS.dupX1 X179.here hx rfl (hb hby d9_70) rfl rfl rfl ?_
        show Steps p.tables e below (T179.setTop (mkF m 71 #[.val (.ref a1), .val (.int p2), .val (.ref em)] [(.int (len + (1 : Int32))), (.ref a1), (.int (len + (1 : Int32)))])) _
        refine st180 _ ?_
        show Steps p.tables e below (T180.setTop (mkF m 74 #[.val (.ref a1), .val (.int p2), .val (.ref em)] [(.int (len + (1 : Int32)))])) _
        refine X180.ldcInt hx hown (mvT hZ (hw _ (List.mem_of_getElem? (i := 23) rfl))) (g := (mkF m 74 #[.val (.ref a1), .val (.int p2), .val (.ref em)] [(.int (len + (1 : Int32)))])) rfl (hb hby d9_74) _ ?_
        show Steps p.tables e below (T180.setTop (mkF m 76 #[.val (.ref a1), .val (.int p2), .val (.ref em)] [(.int (1048576 : Int32)), (.int (len + (1 : Int32)))])) _
        refine XS.icmpYes X180.here hx rfl (pc0 := 76) (pc' := 87) rfl (hb hby d9_76) rfl (flt (own_lk_no H29 H27 : ¬ ((1048576 : Int32) < (len + (1 : Int32))))).2.2.2 (by decide) (by decide) ?_
        show Steps p.tables e below (T180.setTop (mkF m 87 #[.val (.ref a1), .val (.int p2), .val (.ref em)] [])) _
        refine XS.aloadN X180.here hx rfl (hb hby d9_87) rfl rfl ?_
        show Steps p.tables e below (T180.setTop (mkF m 88 #[.val (.ref a1), .val (.int p2), .val (.ref em)] [(.ref a1)])) _
        refine st183 _ ?_
        show Steps p.tables e below (T183.setTop (mkF m 91 #[.val (.ref a1), .val (.int p2), .val (.ref em)] [(.int ic)])) _
        exact kt
      by_cases hc91_185 : ic = (0 : Int32)
      · skip
        have f186 : Sta Z h180 "java/lang/String" "COMPACT_STRINGS" "Z" (.int cz) := (H1.wr W180)
        have f187 : Exa Z h180 a1 "com/example/rouse/rouse/shell/ShellWords" := (H3.wr W180)
        have f188 : Fld Z h180 a1 "com/example/rouse/rouse/shell/ShellWords" "line" "Lcom/example/rouse/rouse/shell/CommandLine;" (.ref cl) := (H4.other W180 (Or.inr (slot_ne (Or.inl (hw _ (List.mem_of_getElem? (i := 39) rfl))) (Or.inl (hw _ (List.mem_of_getElem? (i := 46) rfl))) (by decide) (t := (.object "com/example/rouse/rouse/shell/CommandLine")) (t' := .int) (by decide) (by decide))))
        have f189 : Fld Z h180 a1 "com/example/rouse/rouse/shell/ShellWords" "quote" "C" (.int q) := (H5.other W180 (Or.inr (slot_ne (Or.inl (hw _ (List.mem_of_getElem? (i := 72) rfl))) (Or.inl (hw _ (List.mem_of_getElem? (i := 46) rfl))) (by decide) (t := .char) (t' := .int) (by decide) (by decide))))
        have f190 : Fld Z h180 a1 "com/example/rouse/rouse/shell/ShellWords" "escaped" "Z" (.int e_) := (H6.other W180 (Or.inr (slot_ne (Or.inl (hw _ (List.mem_of_getElem? (i := 70) rfl))) (Or.inl (hw _ (List.mem_of_getElem? (i := 46) rfl))) (by decide) (t := .boolean) (t' := .int) (by decide) (by decide))))
        have f191 : Fld Z h180 a1 "com/example/rouse/rouse/shell/ShellWords" "inWord" "Z" (.int iw) := (H7.other W180 (Or.inr (slot_ne (Or.inl (hw _ (List.mem_of_getElem? (i := 81) rfl))) (Or.inl (hw _ (List.mem_of_getElem? (i := 46) rfl))) (by decide) (t := .boolean) (t' := .int) (by decide) (by decide))))
        have f192 : Fld Z h180 a1 "com/example/rouse/rouse/shell/ShellWords" "skippingLine" "Z" (.int (0 : Int32)) := (H10.other W180 (Or.inr (slot_ne (Or.inl (hw _ (List.mem_of_getElem? (i := 56) rfl))) (Or.inl (hw _ (List.mem_of_getElem? (i := 46) rfl))) (by decide) (t := .boolean) (t' := .int) (by decide) (by decide))))
        have f193 : Exa Z h180 cl "com/example/rouse/rouse/shell/CommandLine" := (H11.wr W180)
        have ne194 : cl ≠ a1 := ne_exa f193 f187 (by decide)
        have f195 : Fld Z h180 cl "com/example/rouse/rouse/shell/CommandLine" "words" "I" (.int w) := (H12.other W180 (Or.inl ne194))
        have f196 : Fld Z h180 cl "com/example/rouse/rouse/shell/CommandLine" "commandStart" "I" (.int cs) := (H13.other W180 (Or.inl ne194))
        have f197 : Fld Z h180 cl "com/example/rouse/rouse/shell/CommandLine" "length" "I" (.int n) := (H14.other W180 (Or.inl ne194))
        have f198 : Fld Z h180 cl "com/example/rouse/rouse/shell/CommandLine" "characters" "[C" (.ref cb) := (H15.other W180 (Or.inl ne194))
        have f199 : Fld Z h180 cl "com/example/rouse/rouse/shell/CommandLine" "wordEnds" "[I" (.ref wb) := (H16.other W180 (Or.inl ne194))
        have ne200 : a1 ≠ cb := Exa.neArv H3 H17 (hw _ (List.mem_of_getElem? (i := 9) rfl))
        have f201 : Arv Z h180 cb ck .char (16 : Int32) cvs (.int (0 : Int32)) := (H17.other W180 (Ne.symm ne200))
        have ne202 : a1 ≠ wb := Exa.neArv H3 H18 (hw _ (List.mem_of_getElem? (i := 9) rfl))
        have f203 : Arv Z h180 wb wk .int (16 : Int32) wvs (.int (0 : Int32)) := (H18.other W180 (Ne.symm ne202))
        have z205 : n0 ≤ h180.size := (Nat.le_trans Z0 (Nat.le_of_eq W180.size.symm))
        obtain ⟨cq204, q204, q204'⟩ := f187.cell
        obtain ⟨_, _, ⟨T204, L204, k204, n204⟩, -, X204, hS204', hgr204, ⟨Lc204, hQ204, l204, y204, z204, Cq204⟩, st204⟩ := X183.privateBackS hx (y := (⟨"com/example/rouse/rouse/shell/ShellWords", "readInWords", "(C)V"⟩ : MethodName)) hown (mvT hZ (hw _ (List.mem_of_getElem? (i := 65) rfl))) (mvT hZ (hw _ (List.mem_of_getElem? (i := 66) rfl))) (mvT hZ (own_selp (by decide) (hw _ (List.mem_of_getElem? (i := 9) rfl)) (hw _ (List.mem_of_getElem? (i := 67) rfl)) (hw _ (List.mem_of_getElem? (i := 66) rfl)))) (Cond.privateMethod_at (mvP hZ (hw _ (List.mem_of_getElem? (i := 67) rfl)) (args := #[]))) (mvT hZ (hw _ (List.mem_of_getElem? (i := 68) rfl))) (by decide) (backOfSH (W := 0) (rm11 l Z a0 hw [] hEL a1 p2 cz cl w cs n cb ck cvs wb wk wvs q e_ iw ic (len + (1 : Int32)) k h180 n0 z205 f186 H2 f187 f188 f189 f190 f191 f182 Fw180 f192 f193 f195 f196 f197 f198 f199 f201 f203 H19 H20 H21 H22 H23 H24 H25 H26 H27 H28) hZ (hw _ (List.mem_of_getElem? (i := 68) rfl)) (hw _ (List.mem_of_getElem? (i := 10) rfl)) (by decide) (by decide) hEL Hc181) (g := (mkF m 96 #[.val (.ref a1), .val (.int p2), .val (.ref em)] [(.int p2), (.ref a1)])) rfl (by rw [hml]; rfl) (Steps.refl _) (a := a1) (by rw [e183]; exact q204) q204' (argsL := [(.int p2)]) (rest := []) (lenOf pd_9 rfl) rfl (by show 2 * 0 + _ ≤ _; exact Nat.le_of_eq rfl) (hb hby d9_96) (fun _ _ => ⟨rfl, e183, (by decide : 0 + 2 ≤ _), (by decide : 0 + 24 ≤ _)⟩)
        dsimp only [Pt.U, Pt.locs, Pt.cells, Pt.slots] at X204 l204 y204 z204 st204 hQ204 hS204' hgr204 Cq204
        subst l204 y204 z204
        obtain ⟨X204, hS204, hZ, hown⟩ := rebS hS0 (by rw [e183]; exact (Nat.le_trans (Nat.zero_le _) (Nat.le_of_eq W180.size.symm))) X204 hS204' hgr204 hZ hown
        have Cr204 := Cr181.trans Cq204
        have Hc204 := Cq204.1
        obtain ⟨iwx204, wx204, nx204, cvx204, wvx204, rfl, Nq204, K204, R204_1, R204_2, R204_3, R204_4, R204_5, R204_6, R204_7, R204_8, R204_9, R204_10, R204_11, R204_12, R204_13, R204_14, R204_15, R204_16, R204_17⟩ := hQ204
        have N204 := Fr.app N180 Nq204
        have f206 : Exa Z T204.heap cl "com/example/rouse/rouse/shell/CommandLine" := (f193.keep K204)
        obtain ⟨fs, hr, hrun, hended, hEnd⟩ := X204.leaveW hS204 (Nat.le_refl _) (v := some (.ref em)) (fun h => by rw [Bd.returns] at h; cases h)
        refine ⟨_, _, pre184 _ ?_, hrun, hended, _, _, rfl, ?_, (show CHr Z own_EL s.vm s.heap T204.vm T204.heap from by rw [hh]; exact Cr204.trans (CHv.at X204 hZ hEL Hc204)), hEnd.1, hEnd.2.1, hEnd.2.2.1, hEnd.2.2.2.mono (by decide) (by decide)⟩
        · skip
          show Steps p.tables e below (T183.setTop (mkF m 91 #[.val (.ref a1), .val (.int p2), .val (.ref em)] [(.int ic)])) _
          refine XS.ifNo X183.here hx rfl (hb hby d9_91) rfl ((if0 _ _).trans (teq (hc91_185 : ic = (0 : Int32))).2) ?_
          show Steps p.tables e below (T183.setTop (mkF m 94 #[.val (.ref a1), .val (.int p2), .val (.ref em)] [])) _
          refine XS.aloadN X183.here hx rfl (hb hby d9_94) rfl rfl ?_
          show Steps p.tables e below (T183.setTop (mkF m 95 #[.val (.ref a1), .val (.int p2), .val (.ref em)] [(.ref a1)])) _
          refine XS.iloadN X183.here hx rfl (hb hby d9_95) rfl ?_
          show Steps p.tables e below (T183.setTop (mkF m 96 #[.val (.ref a1), .val (.int p2), .val (.ref em)] [(.int p2), (.ref a1)])) _
          refine st204.trans ?_
          show Steps p.tables e below (T204.setTop (mkF m 99 #[.val (.ref a1), .val (.int p2), .val (.ref em)] [])) _
          refine XS.aloadN X204.here hx rfl (hb hby d9_99) rfl rfl ?_
          show Steps p.tables e below (T204.setTop (mkF m 100 #[.val (.ref a1), .val (.int p2), .val (.ref em)] [(.ref em)])) _
          jvm_step X204.here [X204.here.top, hx, (hb hby d9_100), X204.method', Bd.returns, Value.isRef, FieldType.isReference]
          first | (intro acts; rw [hr _ acts rfl rfl rfl]) | rw [hr _ _ rfl rfl rfl]
          exact Steps.refl _
        · show Q9 Z a1 p2 em cz cl w cs n cb ck cvs wb wk wvs q e_ iw ic len k h0 n0 _ T204.heap _
          exact ⟨(.ref em), iwx204, cl, wx204, cs, nx204, cb, wb, ck, wk, cvx204, wvx204, rfl, N204, (((Keep.refl h0 [a1, cl, cb, wb]).wr W180 (Or.inl (List.mem_of_getElem? (i := 0) rfl))).trans K204 (allS (P := (fun x => x ∈ [a1, cl, cb, wb] ∨ h0.size ≤ x)) (Or.inl (List.mem_of_getElem? (i := 0) rfl)) (allS (P := (fun x => x ∈ [a1, cl, cb, wb] ∨ h0.size ≤ x)) (Or.inl (List.mem_of_getElem? (i := 1) rfl)) (allS (P := (fun x => x ∈ [a1, cl, cb, wb] ∨ h0.size ≤ x)) (Or.inl (List.mem_of_getElem? (i := 2) rfl)) (allS (P := (fun x => x ∈ [a1, cl, cb, wb] ∨ h0.size ≤ x)) (Or.inl (List.mem_of_getElem? (i := 3) rfl)) all0))))), R204_1, (by simpa only [own_Rq, own_sel, eq_true hc33_104, eq_false hc40_107, eq_true hc91_185, if_true, if_false] using R204_2), (by simpa only [own_Re, own_sel, eq_true hc33_104, eq_false hc40_107, eq_true hc91_185, if_true, if_false] using R204_3), R204_4, (by simpa only [own_Ric, own_sel, eq_true hc33_104, eq_false hc40_107, eq_true hc91_185, if_true, if_false] using R204_5), (by simpa only [own_rlen, own_sel, eq_true hc33_104, eq_false hc40_107, eq_true hc91_185, if_true, if_false] using R204_6), R204_7, f206, R204_8, R204_9, R204_10, R204_11, R204_12, R204_13, R204_14, H20, H21, H22, H23, R204_15, R204_16, R204_17, (own_lk_up H29 H27), rfl⟩
      · skip
        have f207 : Fld Z h180 a1 "com/example/rouse/rouse/shell/ShellWords" "quote" "C" (.int q) := (H5.other W180 (Or.inr (slot_ne (Or.inl (hw _ (List.mem_of_getElem? (i := 72) rfl))) (Or.inl (hw _ (List.mem_of_getElem? (i := 46) rfl))) (by decide) (t := .char) (t' := .int) (by decide) (by decide))))
        have f208 : Fld Z h180 a1 "com/example/rouse/rouse/shell/ShellWords" "escaped" "Z" (.int e_) := (H6.other W180 (Or.inr (slot_ne (Or.inl (hw _ (List.mem_of_getElem? (i := 70) rfl))) (Or.inl (hw _ (List.mem_of_getElem? (i := 46) rfl))) (by decide) (t := .boolean) (t' := .int) (by decide) (by decide))))
        have f209 : Fld Z h180 a1 "com/example/rouse/rouse/shell/ShellWords" "line" "Lcom/example/rouse/rouse/shell/CommandLine;" (.ref cl) := (H4.other W180 (Or.inr (slot_ne (Or.inl (hw _ (List.mem_of_getElem? (i := 39) rfl))) (Or.inl (hw _ (List.mem_of_getElem? (i := 46) rfl))) (by decide) (t := (.object "com/example/rouse/rouse/shell/CommandLine")) (t' := .int) (by decide) (by decide))))
        have f210 : Fld Z h180 a1 "com/example/rouse/rouse/shell/ShellWords" "inWord" "Z" (.int iw) := (H7.other W180 (Or.inr (slot_ne (Or.inl (hw _ (List.mem_of_getElem? (i := 81) rfl))) (Or.inl (hw _ (List.mem_of_getElem? (i := 46) rfl))) (by decide) (t := .boolean) (t' := .int) (by decide) (by decide))))
        have f211 : Fld Z h180 a1 "com/example/rouse/rouse/shell/ShellWords" "skippingLine" "Z" (.int (0 : Int32)) := (H10.other W180 (Or.inr (slot_ne (Or.inl (hw _ (List.mem_of_getElem? (i := 56) rfl))) (Or.inl (hw _ (List.mem_of_getElem? (i := 46) rfl))) (by decide) (t := .boolean) (t' := .int) (by decide) (by decide))))
        have f212 : Exa Z h180 cl "com/example/rouse/rouse/shell/CommandLine" := (H11.wr W180)
        have ne213 : cl ≠ a1 := ne_exa H11 H3 (by decide)
        have f214 : Fld Z h180 cl "com/example/rouse/rouse/shell/CommandLine" "words" "I" (.int w) := (H12.other W180 (Or.inl ne213))
        have f215 : Fld Z h180 cl "com/example/rouse/rouse/shell/CommandLine" "commandStart" "I" (.int cs) := (H13.other W180 (Or.inl ne213))
        have f216 : Fld Z h180 cl "com/example/rouse/rouse/shell/CommandLine" "length" "I" (.int n) := (H14.other W180 (Or.inl ne213))
        have f217 : Fld Z h180 cl "com/example/rouse/rouse/shell/CommandLine" "characters" "[C" (.ref cb) := (H15.other W180 (Or.inl ne213))
        have f218 : Fld Z h180 cl "com/example/rouse/rouse/shell/CommandLine" "wordEnds" "[I" (.ref wb) := (H16.other W180 (Or.inl ne213))
        have ne219 : a1 ≠ cb := Exa.neArv H3 H17 (hw _ (List.mem_of_getElem? (i := 9) rfl))
        have f220 : Arv Z h180 cb ck .char (16 : Int32) cvs (.int (0 : Int32)) := (H17.other W180 (Ne.symm ne219))
        have ne221 : a1 ≠ wb := Exa.neArv H3 H18 (hw _ (List.mem_of_getElem? (i := 9) rfl))
        have f222 : Arv Z h180 wb wk .int (16 : Int32) wvs (.int (0 : Int32)) := (H18.other W180 (Ne.symm ne221))
        obtain ⟨fs, hr, hrun, hended, hEnd⟩ := X183.leaveW hS0 (by rw [e183]; exact (Nat.le_trans (Nat.zero_le _) (Nat.le_of_eq W180.size.symm))) (v := some (.ref em)) (fun h => by rw [Bd.returns] at h; cases h)
        refine ⟨_, _, pre184 _ ?_, hrun, hended, _, _, rfl, ?_, (show CHr Z own_EL s.vm s.heap T183.vm T183.heap from by rw [hh, e183]; exact Cr181.trans (CHv.at X183 hZ hEL Hc181)), hEnd.1, hEnd.2.1, hEnd.2.2.1, hEnd.2.2.2.mono (by decide) (by decide)⟩
        · skip
          show Steps p.tables e below (T183.setTop (mkF m 91 #[.val (.ref a1), .val (.int p2), .val (.ref em)] [(.int ic)])) _
          refine XS.ifYes X183.here hx rfl (pc0 := 91) (pc' := 99) rfl (hb hby d9_91) rfl ((if0 _ _).trans (feq (hc91_185 : ¬ (ic = (0 : Int32)))).2) (by decide) (by decide) ?_
          show Steps p.tables e below (T183.setTop (mkF m 99 #[.val (.ref a1), .val (.int p2), .val (.ref em)] [])) _
          refine XS.aloadN X183.here hx rfl (hb hby d9_99) rfl rfl ?_
          show Steps p.tables e below (T183.setTop (mkF m 100 #[.val (.ref a1), .val (.int p2), .val (.ref em)] [(.ref em)])) _
          jvm_step X183.here [X183.here.top, hx, (hb hby d9_100), X183.method', Bd.returns, Value.isRef, FieldType.isReference]
          first | (intro acts; rw [hr _ acts rfl rfl rfl]) | rw [hr _ _ rfl rfl rfl]
          exact Steps.refl _
        · show Q9 Z a1 p2 em cz cl w cs n cb ck cvs wb wk wvs q e_ iw ic len k h0 n0 _ T183.heap _
          rw [e183]
          exact ⟨(.ref em), iw, cl, w, cs, n, cb, wb, ck, wk, cvs, wvs, rfl, N180, ((Keep.refl h0 [a1, cl, cb, wb]).wr W180 (Or.inl (List.mem_of_getElem? (i := 0) rfl))), f209, (by simpa only [own_Rq, own_sel, eq_true hc33_104, eq_false hc40_107, eq_false hc91_185, if_true, if_false] using f207), (by simpa only [own_Re, own_sel, eq_true hc33_104, eq_false hc40_107, eq_false hc91_185, if_true, if_false] using f208), f210, (by simpa only [own_Ric, own_sel, eq_true hc33_104, eq_false hc40_107, eq_false hc91_185, if_true, if_false] using f182), (by simpa only [own_rlen, own_sel, eq_true hc33_104, eq_false hc40_107, eq_false hc91_185, if_true, if_false] using Fw180), f211, f212, f214, f215, f216, f217, f218, f220, f222, H20, H21, H22, H23, H24, H25, (by obtain ⟨o1, o2, o3, o4, o5, o6⟩ := H26; exact ⟨by omega, by omega, by omega, by omega, by omega, by omega⟩), (own_lk_up H29 H27), rfl⟩
  · skip
    obtain ⟨T223, X223, e223, st223⟩ := getF X102 hx hZ hown (host := "") (Or.inl (hw _ (List.mem_of_getElem? (i := 45) rfl))) Via.refl Heq102 H9 (g := (mkF m 65 #[.val (.ref a1), .val (.int p2), .val (.ref em)] [(.ref a1), (.ref a1)])) rfl rfl (hb hby d9_65)
    obtain ⟨T224, h224, X224, e224, W224, st224⟩ := putF X223 hx hZ hown (host := "") (Or.inl (hw _ (List.mem_of_getElem? (i := 45) rfl))) Via.refl e223 H9 H3 (Or.inl (hw _ (List.mem_of_getElem? (i := 46) rfl))) (hw _ (List.mem_of_getElem? (i := 9) rfl)) (ty := .int) (by decide) rfl rfl (g := (mkF m 71 #[.val (.ref a1), .val (.int p2), .val (.ref em)] [(.int (len + (1 : Int32))), (.ref a1), (.int (len + (1 : Int32)))])) rfl rfl (hb hby d9_71)
    have Fw224 := H9.same W224
    have Hc225 := CHv.wr W224 (Safe.exa hZ.alike H3 (by decide) (by decide)) hH
    have Cr225 := Cr0.trans (CHr.wr W224 (Safe.exa hZ.alike H3 (by decide) (by decide)) hH)
    have N224 := Fr.snoc X224 N102 H19
    have f226 : Fld Z h224 a1 "com/example/rouse/rouse/shell/ShellWords" "inComment" "Z" (.int ic) := (H8.other W224 (Or.inr (slot_ne (Or.inl (hw _ (List.mem_of_getElem? (i := 64) rfl))) (Or.inl (hw _ (List.mem_of_getElem? (i := 46) rfl))) (by decide) (t := .boolean) (t' := .int) (by decide) (by decide))))
    obtain ⟨T227, X227, e227, st227⟩ := getF X224 hx hZ hown (host := "") (Or.inl (hw _ (List.mem_of_getElem? (i := 63) rfl))) Via.refl e224 f226 (g := (mkF m 88 #[.val (.ref a1), .val (.int p2), .val (.ref em)] [(.ref a1)])) rfl rfl (hb hby d9_88)
    have pre228 : ∀ t, Steps p.tables e below (T227.setTop (mkF m 91 #[.val (.ref a1), .val (.int p2), .val (.ref em)] [(.int ic)])) t → Steps p.tables e below (s₁.setTop (entryFrame m #[(.ref a1), (.int p2)] 3)) t := fun t kt => by
      refine pre103 t ?_
      show Steps p.tables e below (T102.setTop (mkF m 33 #[.val (.ref a1), .val (.int p2), .val (.ref em)] [(.int (10 : Int32)), (.int p2)])) _
      refine XS.icmpYes X102.here hx rfl (pc0 := 33) (pc' := 63) rfl (hb hby d9_33) rfl (feq (hc33_104 : ¬ (p2 = (10 : Int32)))).2 (by decide) (by decide) ?_
      show Steps p.tables e below (T102.setTop (mkF m 63 #[.val (.ref a1), .val (.int p2), .val (.ref em)] [])) _
      refine XS.aloadN X102.here hx rfl (hb hby d9_63) rfl rfl ?_
      show Steps p.tables e below (T102.setTop (mkF m 64 #[.val (.ref a1), .val (.int p2), .val (.ref em)] [(.ref a1)])) _
      refine XS.dup X102.here hx rfl (hb hby d9_64) rfl rfl ?_
      show Steps p.tables e below (T102.setTop (mkF m 65 #[.val (.ref a1), .val (.int p2), .val (.ref em)] [(.ref a1), (.ref a1)])) _
      refine st223 _ ?_
      show Steps p.tables e below (T223.setTop (mkF m 68 #[.val (.ref a1), .val (.int p2), .val (.ref em)] [(.int len), (.ref a1)])) _
      refine XS.iconst X223.here hx rfl (hb hby d9_68) ?_
      show Steps p.tables e below (T223.setTop (mkF m 69 #[.val (.ref a1), .val (.int p2), .val (.ref em)] [(.int (1 : Int32)), (.int len), (.ref a1)])) _
      refine XS.iadd X223.here hx rfl (hb hby d9_69) rfl ?_
      show Steps p.tables e below (T223.setTop (mkF m 70 #[.val (.ref a1), .val (.int p2), .val (.ref em)] [(.int (len + (1 : Int32))), (.ref a1)])) _
      refine XS.dupX1 X223.here hx rfl (hb hby d9_70) rfl rfl rfl ?_
      show Steps p.tables e below (T223.setTop (mkF m 71 #[.val (.ref a1), .val (.int p2), .val (.ref em)] [(.int (len + (1 : Int32))), (.ref a1), (.int (len + (1 : Int32)))])) _
      refine st224 _ ?_
      show Steps p.tables e below (T224.setTop (mkF m 74 #[.val (.ref a1), .val (.int p2), .val (.ref em)] [(.int (len + (1 : Int32)))])) _
      refine X224.ldcInt hx hown (mvT hZ (hw _ (List.mem_of_getElem? (i := 23) rfl))) (g := (mkF m 74 #[.val (.ref a1), .val (.int p2), .val (.ref em)] [(.int (len + (1 : Int32)))])) rfl (hb hby d9_74) _ ?_
      show Steps p.tables e below (T224.setTop (mkF m 76 #[.val (.ref a1), .val (.int p2), .val (.ref em)] [(.int (1048576 : Int32)), (.int (len + (1 : Int32)))])) _
      refine XS.icmpYes X224.here hx rfl (pc0 := 76) (pc' := 87) rfl (hb hby d9_76) rfl (flt (own_lk_no H29 H27 : ¬ ((1048576 : Int32) < (len + (1 : Int32))))).2.2.2 (by decide) (by decide) ?_
      show Steps p.tables e below (T224.setTop (mkF m 87 #[.val (.ref a1), .val (.int p2), .val (.ref em)] [])) _
      refine XS.aloadN X224.here hx rfl (hb hby d9_87) rfl rfl ?_
      show Steps p.tables e below (T224.setTop (mkF m 88 #[.val (.ref a1), .val (.int p2), .val (.ref em)] [(.ref a1)])) _
      refine st227 _ ?_
      show Steps p.tables e below (T227.setTop (mkF m 91 #[.val (.ref a1), .val (.int p2), .val (.ref em)] [(.int ic)])) _
      exact kt
    by_cases hc91_229 : ic = (0 : Int32)
    · skip
      have f230 : Sta Z h224 "java/lang/String" "COMPACT_STRINGS" "Z" (.int cz) := (H1.wr W224)
      have f231 : Exa Z h224 a1 "com/example/rouse/rouse/shell/ShellWords" := (H3.wr W224)
      have f232 : Fld Z h224 a1 "com/example/rouse/rouse/shell/ShellWords" "line" "Lcom/example/rouse/rouse/shell/CommandLine;" (.ref cl) := (H4.other W224 (Or.inr (slot_ne (Or.inl (hw _ (List.mem_of_getElem? (i := 39) rfl))) (Or.inl (hw _ (List.mem_of_getElem? (i := 46) rfl))) (by decide) (t := (.object "com/example/rouse/rouse/shell/CommandLine")) (t' := .int) (by decide) (by decide))))
      have f233 : Fld Z h224 a1 "com/example/rouse/rouse/shell/ShellWords" "quote" "C" (.int q) := (H5.other W224 (Or.inr (slot_ne (Or.inl (hw _ (List.mem_of_getElem? (i := 72) rfl))) (Or.inl (hw _ (List.mem_of_getElem? (i := 46) rfl))) (by decide) (t := .char) (t' := .int) (by decide) (by decide))))
      have f234 : Fld Z h224 a1 "com/example/rouse/rouse/shell/ShellWords" "escaped" "Z" (.int e_) := (H6.other W224 (Or.inr (slot_ne (Or.inl (hw _ (List.mem_of_getElem? (i := 70) rfl))) (Or.inl (hw _ (List.mem_of_getElem? (i := 46) rfl))) (by decide) (t := .boolean) (t' := .int) (by decide) (by decide))))
      have f235 : Fld Z h224 a1 "com/example/rouse/rouse/shell/ShellWords" "inWord" "Z" (.int iw) := (H7.other W224 (Or.inr (slot_ne (Or.inl (hw _ (List.mem_of_getElem? (i := 81) rfl))) (Or.inl (hw _ (List.mem_of_getElem? (i := 46) rfl))) (by decide) (t := .boolean) (t' := .int) (by decide) (by decide))))
      have f236 : Fld Z h224 a1 "com/example/rouse/rouse/shell/ShellWords" "skippingLine" "Z" (.int (0 : Int32)) := (H10.other W224 (Or.inr (slot_ne (Or.inl (hw _ (List.mem_of_getElem? (i := 56) rfl))) (Or.inl (hw _ (List.mem_of_getElem? (i := 46) rfl))) (by decide) (t := .boolean) (t' := .int) (by decide) (by decide))))
      have f237 : Exa Z h224 cl "com/example/rouse/rouse/shell/CommandLine" := (H11.wr W224)
      have ne238 : cl ≠ a1 := ne_exa f237 f231 (by decide)
      have f239 : Fld Z h224 cl "com/example/rouse/rouse/shell/CommandLine" "words" "I" (.int w) := (H12.other W224 (Or.inl ne238))
      have f240 : Fld Z h224 cl "com/example/rouse/rouse/shell/CommandLine" "commandStart" "I" (.int cs) := (H13.other W224 (Or.inl ne238))
      have f241 : Fld Z h224 cl "com/example/rouse/rouse/shell/CommandLine" "length" "I" (.int n) := (H14.other W224 (Or.inl ne238))
      have f242 : Fld Z h224 cl "com/example/rouse/rouse/shell/CommandLine" "characters" "[C" (.ref cb) := (H15.other W224 (Or.inl ne238))
      have f243 : Fld Z h224 cl "com/example/rouse/rouse/shell/CommandLine" "wordEnds" "[I" (.ref wb) := (H16.other W224 (Or.inl ne238))
      have ne244 : a1 ≠ cb := Exa.neArv H3 H17 (hw _ (List.mem_of_getElem? (i := 9) rfl))
      have f245 : Arv Z h224 cb ck .char (16 : Int32) cvs (.int (0 : Int32)) := (H17.other W224 (Ne.symm ne244))
      have ne246 : a1 ≠ wb := Exa.neArv H3 H18 (hw _ (List.mem_of_getElem? (i := 9) rfl))
      have f247 : Arv Z h224 wb wk .int (16 : Int32) wvs (.int (0 : Int32)) := (H18.other W224 (Ne.symm ne246))
      have z249 : n0 ≤ h224.size := (Nat.le_trans Z0 (Nat.le_of_eq W224.size.symm))
      obtain ⟨cq248, q248, q248'⟩ := f231.cell
      obtain ⟨_, _, ⟨T248, L248, k248, n248⟩, -, X248, hS248', hgr248, ⟨Lc248, hQ248, l248, y248, z248, Cq248⟩, st248⟩ := X227.privateBackS hx (y := (⟨"com/example/rouse/rouse/shell/ShellWords", "readInWords", "(C)V"⟩ : MethodName)) hown (mvT hZ (hw _ (List.mem_of_getElem? (i := 65) rfl))) (mvT hZ (hw _ (List.mem_of_getElem? (i := 66) rfl))) (mvT hZ (own_selp (by decide) (hw _ (List.mem_of_getElem? (i := 9) rfl)) (hw _ (List.mem_of_getElem? (i := 67) rfl)) (hw _ (List.mem_of_getElem? (i := 66) rfl)))) (Cond.privateMethod_at (mvP hZ (hw _ (List.mem_of_getElem? (i := 67) rfl)) (args := #[]))) (mvT hZ (hw _ (List.mem_of_getElem? (i := 68) rfl))) (by decide) (backOfSH (W := 0) (rm11 l Z a0 hw [] hEL a1 p2 cz cl w cs n cb ck cvs wb wk wvs q e_ iw ic (len + (1 : Int32)) k h224 n0 z249 f230 H2 f231 f232 f233 f234 f235 f226 Fw224 f236 f237 f239 f240 f241 f242 f243 f245 f247 H19 H20 H21 H22 H23 H24 H25 H26 H27 H28) hZ (hw _ (List.mem_of_getElem? (i := 68) rfl)) (hw _ (List.mem_of_getElem? (i := 10) rfl)) (by decide) (by decide) hEL Hc225) (g := (mkF m 96 #[.val (.ref a1), .val (.int p2), .val (.ref em)] [(.int p2), (.ref a1)])) rfl (by rw [hml]; rfl) (Steps.refl _) (a := a1) (by rw [e227]; exact q248) q248' (argsL := [(.int p2)]) (rest := []) (lenOf pd_9 rfl) rfl (by show 2 * 0 + _ ≤ _; exact Nat.le_of_eq rfl) (hb hby d9_96) (fun _ _ => ⟨rfl, e227, (by decide : 0 + 2 ≤ _), (by decide : 0 + 24 ≤ _)⟩)
      dsimp only [Pt.U, Pt.locs, Pt.cells, Pt.slots] at X248 l248 y248 z248 st248 hQ248 hS248' hgr248 Cq248
      subst l248 y248 z248
      obtain ⟨X248, hS248, hZ, hown⟩ := rebS hS0 (by rw [e227]; exact (Nat.le_trans (Nat.zero_le _) (Nat.le_of_eq W224.size.symm))) X248 hS248' hgr248 hZ hown
      have Cr248 := Cr225.trans Cq248
      have Hc248 := Cq248.1
      obtain ⟨iwx248, wx248, nx248, cvx248, wvx248, rfl, Nq248, K248, R248_1, R248_2, R248_3, R248_4, R248_5, R248_6, R248_7, R248_8, R248_9, R248_10, R248_11, R248_12, R248_13, R248_14, R248_15, R248_16, R248_17⟩ := hQ248
      have N248 := Fr.app N224 Nq248
      have f250 : Exa Z T248.heap cl "com/example/rouse/rouse/shell/CommandLine" := (f237.keep K248)
      obtain ⟨fs, hr, hrun, hended, hEnd⟩ := X248.leaveW hS248 (Nat.le_refl _) (v := some (.ref em)) (fun h => by rw [Bd.returns] at h; cases h)
      refine ⟨_, _, pre228 _ ?_, hrun, hended, _, _, rfl, ?_, (show CHr Z own_EL s.vm s.heap T248.vm T248.heap from by rw [hh]; exact Cr248.trans (CHv.at X248 hZ hEL Hc248)), hEnd.1, hEnd.2.1, hEnd.2.2.1, hEnd.2.2.2.mono (by decide) (by decide)⟩
      · skip
        show Steps p.tables e below (T227.setTop (mkF m 91 #[.val (.ref a1), .val (.int p2), .val (.ref em)] [(.int ic)])) _
        refine XS.ifNo X227.here hx rfl (hb hby d9_91) rfl ((if0 _ _).trans (teq (hc91_229 : ic = (0 : Int32))).2) ?_
        show Steps p.tables e below (T227.setTop (mkF m 94 #[.val (.ref a1), .val (.int p2), .val (.ref em)] [])) _
        refine XS.aloadN X227.here hx rfl (hb hby d9_94) rfl rfl ?_
        show Steps p.tables e below (T227.setTop (mkF m 95 #[.val (.ref a1), .val (.int p2), .val (.ref em)] [(.ref a1)])) _
        refine XS.iloadN X227.here hx rfl (hb hby d9_95) rfl ?_
        show Steps p.tables e below (T227.setTop (mkF m 96 #[.val (.ref a1), .val (.int p2), .val (.ref em)] [(.int p2), (.ref a1)])) _
        refine st248.trans ?_
        show Steps p.tables e below (T248.setTop (mkF m 99 #[.val (.ref a1), .val (.int p2), .val (.ref em)] [])) _
        refine XS.aloadN X248.here hx rfl (hb hby d9_99) rfl rfl ?_
        show Steps p.tables e below (T248.setTop (mkF m 100 #[.val (.ref a1), .val (.int p2), .val (.ref em)] [(.ref em)])) _
        jvm_step X248.here [X248.here.top, hx, (hb hby d9_100), X248.method', Bd.returns, Value.isRef, FieldType.isReference]
        first | (intro acts; rw [hr _ acts rfl rfl rfl]) | rw [hr _ _ rfl rfl rfl]
        exact Steps.refl _
      · show Q9 Z a1 p2 em cz cl w cs n cb ck cvs wb wk wvs q e_ iw ic len k h0 n0 _ T248.heap _
        exact ⟨(.ref em), iwx248, cl, wx248, cs, nx248, cb, wb, ck, wk, cvx248, wvx248, rfl, N248, (((Keep.refl h0 [a1, cl, cb, wb]).wr W224 (Or.inl (List.mem_of_getElem? (i := 0) rfl))).trans K248 (allS (P := (fun x => x ∈ [a1, cl, cb, wb] ∨ h0.size ≤ x)) (Or.inl (List.mem_of_getElem? (i := 0) rfl)) (allS (P := (fun x => x ∈ [a1, cl, cb, wb] ∨ h0.size ≤ x)) (Or.inl (List.mem_of_getElem? (i := 1) rfl)) (allS (P := (fun x => x ∈ [a1, cl, cb, wb] ∨ h0.size ≤ x)) (Or.inl (List.mem_of_getElem? (i := 2) rfl)) (allS (P := (fun x => x ∈ [a1, cl, cb, wb] ∨ h0.size ≤ x)) (Or.inl (List.mem_of_getElem? (i := 3) rfl)) all0))))), R248_1, (by simpa only [own_Rq, own_sel, eq_false hc33_104, eq_true hc91_229, if_true, if_false] using R248_2), (by simpa only [own_Re, own_sel, eq_false hc33_104, eq_true hc91_229, if_true, if_false] using R248_3), R248_4, (by simpa only [own_Ric, own_sel, eq_false hc33_104, eq_true hc91_229, if_true, if_false] using R248_5), (by simpa only [own_rlen, own_sel, eq_false hc33_104, eq_true hc91_229, if_true, if_false] using R248_6), R248_7, f250, R248_8, R248_9, R248_10, R248_11, R248_12, R248_13, R248_14, H20, H21, H22, H23, R248_15, R248_16, R248_17, (own_lk_up H29 H27), rfl⟩
    · skip
      have f251 : Fld Z h224 a1 "com/example/rouse/rouse/shell/ShellWords" "quote" "C" (.int q) := (H5.other W224 (Or.inr (slot_ne (Or.inl (hw _ (List.mem_of_getElem? (i := 72) rfl))) (Or.inl (hw _ (List.mem_of_getElem? (i := 46) rfl))) (by decide) (t := .char) (t' := .int) (by decide) (by decide))))
      have f252 : Fld Z h224 a1 "com/example/rouse/rouse/shell/ShellWords" "escaped" "Z" (.int e_) := (H6.other W224 (Or.inr (slot_ne (Or.inl (hw _ (List.mem_of_getElem? (i := 70) rfl))) (Or.inl (hw _ (List.mem_of_getElem? (i := 46) rfl))) (by decide) (t := .boolean) (t' := .int) (by decide) (by decide))))
      have f253 : Fld Z h224 a1 "com/example/rouse/rouse/shell/ShellWords" "line" "Lcom/example/rouse/rouse/shell/CommandLine;" (.ref cl) := (H4.other W224 (Or.inr (slot_ne (Or.inl (hw _ (List.mem_of_getElem? (i := 39) rfl))) (Or.inl (hw _ (List.mem_of_getElem? (i := 46) rfl))) (by decide) (t := (.object "com/example/rouse/rouse/shell/CommandLine")) (t' := .int) (by decide) (by decide))))
      have f254 : Fld Z h224 a1 "com/example/rouse/rouse/shell/ShellWords" "inWord" "Z" (.int iw) := (H7.other W224 (Or.inr (slot_ne (Or.inl (hw _ (List.mem_of_getElem? (i := 81) rfl))) (Or.inl (hw _ (List.mem_of_getElem? (i := 46) rfl))) (by decide) (t := .boolean) (t' := .int) (by decide) (by decide))))
      have f255 : Fld Z h224 a1 "com/example/rouse/rouse/shell/ShellWords" "skippingLine" "Z" (.int (0 : Int32)) := (H10.other W224 (Or.inr (slot_ne (Or.inl (hw _ (List.mem_of_getElem? (i := 56) rfl))) (Or.inl (hw _ (List.mem_of_getElem? (i := 46) rfl))) (by decide) (t := .boolean) (t' := .int) (by decide) (by decide))))
      have f256 : Exa Z h224 cl "com/example/rouse/rouse/shell/CommandLine" := (H11.wr W224)
      have ne257 : cl ≠ a1 := ne_exa H11 H3 (by decide)
      have f258 : Fld Z h224 cl "com/example/rouse/rouse/shell/CommandLine" "words" "I" (.int w) := (H12.other W224 (Or.inl ne257))
      have f259 : Fld Z h224 cl "com/example/rouse/rouse/shell/CommandLine" "commandStart" "I" (.int cs) := (H13.other W224 (Or.inl ne257))
      have f260 : Fld Z h224 cl "com/example/rouse/rouse/shell/CommandLine" "length" "I" (.int n) := (H14.other W224 (Or.inl ne257))
      have f261 : Fld Z h224 cl "com/example/rouse/rouse/shell/CommandLine" "characters" "[C" (.ref cb) := (H15.other W224 (Or.inl ne257))
      have f262 : Fld Z h224 cl "com/example/rouse/rouse/shell/CommandLine" "wordEnds" "[I" (.ref wb) := (H16.other W224 (Or.inl ne257))
      have ne263 : a1 ≠ cb := Exa.neArv H3 H17 (hw _ (List.mem_of_getElem? (i := 9) rfl))
      have f264 : Arv Z h224 cb ck .char (16 : Int32) cvs (.int (0 : Int32)) := (H17.other W224 (Ne.symm ne263))
      have ne265 : a1 ≠ wb := Exa.neArv H3 H18 (hw _ (List.mem_of_getElem? (i := 9) rfl))
      have f266 : Arv Z h224 wb wk .int (16 : Int32) wvs (.int (0 : Int32)) := (H18.other W224 (Ne.symm ne265))
      obtain ⟨fs, hr, hrun, hended, hEnd⟩ := X227.leaveW hS0 (by rw [e227]; exact (Nat.le_trans (Nat.zero_le _) (Nat.le_of_eq W224.size.symm))) (v := some (.ref em)) (fun h => by rw [Bd.returns] at h; cases h)
      refine ⟨_, _, pre228 _ ?_, hrun, hended, _, _, rfl, ?_, (show CHr Z own_EL s.vm s.heap T227.vm T227.heap from by rw [hh, e227]; exact Cr225.trans (CHv.at X227 hZ hEL Hc225)), hEnd.1, hEnd.2.1, hEnd.2.2.1, hEnd.2.2.2.mono (by decide) (by decide)⟩
      · skip
        show Steps p.tables e below (T227.setTop (mkF m 91 #[.val (.ref a1), .val (.int p2), .val (.ref em)] [(.int ic)])) _
        refine XS.ifYes X227.here hx rfl (pc0 := 91) (pc' := 99) rfl (hb hby d9_91) rfl ((if0 _ _).trans (feq (hc91_229 : ¬ (ic = (0 : Int32)))).2) (by decide) (by decide) ?_
        show Steps p.tables e below (T227.setTop (mkF m 99 #[.val (.ref a1), .val (.int p2), .val (.ref em)] [])) _
        refine XS.aloadN X227.here hx rfl (hb hby d9_99) rfl rfl ?_
        show Steps p.tables e below (T227.setTop (mkF m 100 #[.val (.ref a1), .val (.int p2), .val (.ref em)] [(.ref em)])) _
        jvm_step X227.here [X227.here.top, hx, (hb hby d9_100), X227.method', Bd.returns, Value.isRef, FieldType.isReference]
        first | (intro acts; rw [hr _ acts rfl rfl rfl]) | rw [hr _ _ rfl rfl rfl]
        exact Steps.refl _
      · show Q9 Z a1 p2 em cz cl w cs n cb ck cvs wb wk wvs q e_ iw ic len k h0 n0 _ T227.heap _
        rw [e227]
        exact ⟨(.ref em), iw, cl, w, cs, n, cb, wb, ck, wk, cvs, wvs, rfl, N224, ((Keep.refl h0 [a1, cl, cb, wb]).wr W224 (Or.inl (List.mem_of_getElem? (i := 0) rfl))), f253, (by simpa only [own_Rq, own_sel, eq_false hc33_104, eq_false hc91_229, if_true, if_false] using f251), (by simpa only [own_Re, own_sel, eq_false hc33_104, eq_false hc91_229, if_true, if_false] using f252), f254, (by simpa only [own_Ric, own_sel, eq_false hc33_104, eq_false hc91_229, if_true, if_false] using f226), (by simpa only [own_rlen, own_sel, eq_false hc33_104, eq_false hc91_229, if_true, if_false] using Fw224), f255, f256, f258, f259, f260, f261, f262, f264, f266, H20, H21, H22, H23, H24, H25, (by obtain ⟨o1, o2, o3, o4, o5, o6⟩ := H26; exact ⟨by omega, by omega, by omega, by omega, by omega, by omega⟩), (own_lk_up H29 H27), rfl⟩
theorem d8_0 : decode method_3_code 0 = .ok (.iload_n 0, 1) := by decide +kernel
theorem d8_1 : decode method_3_code 1 = .ok (.bipush 39, 2) := by decide +kernel
theorem d8_3 : decode method_3_code 3 = .ok (.if_icmp .eq 15, 3) := by decide +kernel
theorem d8_18 : decode method_3_code 18 = .ok (.iconst 1, 1) := by decide +kernel
theorem d8_19 : decode method_3_code 19 = .ok (.goto 4, 3) := by decide +kernel
theorem d8_23 : decode method_3_code 23 = .ok (.ireturn, 1) := by decide +kernel
theorem d8_6 : decode method_3_code 6 = .ok (.iload_n 0, 1) := by decide +kernel
theorem d8_7 : decode method_3_code 7 = .ok (.bipush 34, 2) := by decide +kernel
theorem d8_9 : decode method_3_code 9 = .ok (.if_icmp .eq 9, 3) := by decide +kernel
theorem d8_12 : decode method_3_code 12 = .ok (.iload_n 0, 1) := by decide +kernel
theorem d8_13 : decode method_3_code 13 = .ok (.bipush 92, 2) := by decide +kernel
theorem d8_15 : decode method_3_code 15 = .ok (.if_icmp .ne 7, 3) := by decide +kernel
theorem d8_22 : decode method_3_code 22 = .ok (.iconst 0, 1) := by decide +kernel
theorem pn_com_example_rouse_rouse_shell_ShellWordsContinuesPinLaw : plainName "com/example/rouse/rouse/shell/ShellWordsContinuesPinLaw" = true := by first | (simp [plainName, overriddenIn]; done) | decide +kernel
theorem ef_8 (m : MethodId) (p1 : Int32) : entryFrame m #[(.int p1)] 1 = mkF m 0 #[.val (.int p1)] [] := by first | (simp [entryFrame, mkF, argsToLocals, Value.category]; done) | rfl
def Q8 (Z : State) (p1 : Int32) (h0 : Heap) (n0 : Nat) (v : Option Value) (h : Heap) (L : List Loc) : Prop := v = some (.int (own_keeps p1)) ∧ Fr n0 L ∧ h = h0
set_option maxRecDepth 65536 in
set_option maxHeartbeats 40000000 in
theorem rm8 (l : Launch) (Z : State) (a0 : Array Value) (hw : ∀ d ∈ tables_1, d.before a0 Z = true) (ws : List Jvm.Cond) (p1 : Int32) (h0 : Heap) (n0 : Nat) (Z0 : n0 ≤ h0.size) :
    MetFree l (⟨"com/example/rouse/rouse/shell/ShellWordsContinuesPinLaw", "keeps", "(C)Z"⟩ : MethodName) (head1 (Jvm.Cond.code (⟨"com/example/rouse/rouse/shell/ShellWordsContinuesPinLaw", "keeps", "(C)Z"⟩ : MethodName) method_3_code 1 (some .boolean) :: ws) ({ frames := 0, cells := 0, slots := 0, locals := 0 } : Room)) (fun a U => a = #[(.int p1)] ∧ Z.Warmed39 U.vm ∧ U.heap = h0) (fun _ _ _ _ _ => True) (fun _ U o U' => ∃ v L, o = .returned v ∧ Q8 Z p1 h0 n0 v U'.heap L ∧ FrameEnd U o U' L ({ frames := 0, cells := 0, slots := 0, locals := 0 } : Room).cells ({ frames := 0, cells := 0, slots := 0, locals := 0 } : Room).slots) := by
  refine MetFree.of_bodySF (plainFor_of_name pn_com_example_rouse_rouse_shell_ShellWordsContinuesPinLaw) hisR ?_
  intro p e s m args below meth c s₁ Bd hml0 hP hK
  obtain ⟨rfl, hZ, hh⟩ := hP
  have hx := Bd.exec
  have hby := Bd.bytes
  have hml : c.maxLocals = 1 := hml0
  have hown : s.vm.findClass "com/example/rouse/rouse/shell/ShellWordsContinuesPinLaw" = some m.cls := findClass_of_methodNamed Bd.named
  have hnm := (name_of_methodNamed Bd.named Bd.method).1
  have X0 : Stand p l e ({ frames := 0, cells := 0, slots := 0, locals := 0 } : Room) s m #[(.int p1)] below meth c s₁ [] 0 0 := Stand.of_body Bd
  have e0 : s₁.heap = h0 := by rw [← hh, Bd.state]; rfl
  have N0 := Fr.nil n0
  have pre0 : ∀ t, Steps p.tables e below (s₁.setTop (mkF m 0 #[.val (.int p1)] [])) t → Steps p.tables e below (s₁.setTop (entryFrame m #[(.int p1)] 1)) t := fun t k => castTop (ef_8 m p1) k
  have pre101 : ∀ t, Steps p.tables e below (s₁.setTop (mkF m 3 #[.val (.int p1)] [(.int (39 : Int32)), (.int p1)])) t → Steps p.tables e below (s₁.setTop (entryFrame m #[(.int p1)] 1)) t := fun t kt => by
    refine pre0 t ?_
    show Steps p.tables e below (s₁.setTop (mkF m 0 #[.val (.int p1)] [])) _
    refine XS.iloadN X0.here hx rfl (hb hby d8_0) rfl ?_
    show Steps p.tables e below (s₁.setTop (mkF m 1 #[.val (.int p1)] [(.int p1)])) _
    refine XS.bipush X0.here hx rfl (hb hby d8_1) ?_
    show Steps p.tables e below (s₁.setTop (mkF m 3 #[.val (.int p1)] [(.int (39 : Int32)), (.int p1)])) _
    exact kt
  by_cases hc3_102 : p1 = (39 : Int32)
  · skip
    obtain ⟨fs, hr, hrun, hended, hW, hsame⟩ := X0.leave (v := some (.int (1 : Int32))) (fun h => by rw [Bd.returns] at h; cases h)
    refine ⟨_, _, pre101 _ ?_, hrun, hended, _, _, rfl, ?_, ⟨_, rfl⟩, hW, hsame.mono (by decide) (by decide)⟩
    · skip
      show Steps p.tables e below (s₁.setTop (mkF m 3 #[.val (.int p1)] [(.int (39 : Int32)), (.int p1)])) _
      refine XS.icmpYes X0.here hx rfl (pc0 := 3) (pc' := 18) rfl (hb hby d8_3) rfl (teq (hc3_102 : p1 = (39 : Int32))).1 (by decide) (by decide) ?_
      show Steps p.tables e below (s₁.setTop (mkF m 18 #[.val (.int p1)] [])) _
      refine XS.iconst X0.here hx rfl (hb hby d8_18) ?_
      show Steps p.tables e below (s₁.setTop (mkF m 19 #[.val (.int p1)] [(.int (1 : Int32))])) _
      refine XS.goto X0.here hx rfl (pc0 := 19) (pc' := 23) rfl (hb hby d8_19) (by decide) (by decide) ?_
      show Steps p.tables e below (s₁.setTop (mkF m 23 #[.val (.int p1)] [(.int (1 : Int32))])) _
      exact retN X0 hx (t := .boolean) Bd.returns (by simp) (hb hby d8_23) hr
    · show Q8 Z p1 h0 n0 _ s₁.heap _
      rw [e0]
      exact ⟨(by simp only [own_keeps, eq_true hc3_102, if_true, if_false]), N0, rfl⟩
  · skip
    have pre103 : ∀ t, Steps p.tables e below (s₁.setTop (mkF m 9 #[.val (.int p1)] [(.int (34 : Int32)), (.int p1)])) t → Steps p.tables e below (s₁.setTop (entryFrame m #[(.int p1)] 1)) t := fun t kt => by
      refine pre101 t ?_
      show Steps p.tables e below (s₁.setTop (mkF m 3 #[.val (.int p1)] [(.int (39 : Int32)), (.int p1)])) _
      refine XS.icmpNo X0.here hx rfl (hb hby d8_3) rfl (feq (hc3_102 : ¬ (p1 = (39 : Int32)))).1 ?_
      show Steps p.tables e below (s₁.setTop (mkF m 6 #[.val (.int p1)] [])) _
      refine XS.iloadN X0.here hx rfl (hb hby d8_6) rfl ?_
      show Steps p.tables e below (s₁.setTop (mkF m 7 #[.val (.int p1)] [(.int p1)])) _
      refine XS.bipush X0.here hx rfl (hb hby d8_7) ?_
      show Steps p.tables e below (s₁.setTop (mkF m 9 #[.val (.int p1)] [(.int (34 : Int32)), (.int p1)])) _
      exact kt
    by_cases hc9_104 : p1 = (34 : Int32)
    · skip
      obtain ⟨fs, hr, hrun, hended, hW, hsame⟩ := X0.leave (v := some (.int (1 : Int32))) (fun h => by rw [Bd.returns] at h; cases h)
      refine ⟨_, _, pre103 _ ?_, hrun, hended, _, _, rfl, ?_, ⟨_, rfl⟩, hW, hsame.mono (by decide) (by decide)⟩
      · skip
        show Steps p.tables e below (s₁.setTop (mkF m 9 #[.val (.int p1)] [(.int (34 : Int32)), (.int p1)])) _
        refine XS.icmpYes X0.here hx rfl (pc0 := 9) (pc' := 18) rfl (hb hby d8_9) rfl (teq (hc9_104 : p1 = (34 : Int32))).1 (by decide) (by decide) ?_
        show Steps p.tables e below (s₁.setTop (mkF m 18 #[.val (.int p1)] [])) _
        refine XS.iconst X0.here hx rfl (hb hby d8_18) ?_
        show Steps p.tables e below (s₁.setTop (mkF m 19 #[.val (.int p1)] [(.int (1 : Int32))])) _
        refine XS.goto X0.here hx rfl (pc0 := 19) (pc' := 23) rfl (hb hby d8_19) (by decide) (by decide) ?_
        show Steps p.tables e below (s₁.setTop (mkF m 23 #[.val (.int p1)] [(.int (1 : Int32))])) _
        exact retN X0 hx (t := .boolean) Bd.returns (by simp) (hb hby d8_23) hr
      · show Q8 Z p1 h0 n0 _ s₁.heap _
        rw [e0]
        exact ⟨(by simp only [own_keeps, eq_false hc3_102, eq_true hc9_104, if_true, if_false]), N0, rfl⟩
    · skip
      have pre105 : ∀ t, Steps p.tables e below (s₁.setTop (mkF m 15 #[.val (.int p1)] [(.int (92 : Int32)), (.int p1)])) t → Steps p.tables e below (s₁.setTop (entryFrame m #[(.int p1)] 1)) t := fun t kt => by
        refine pre103 t ?_
        show Steps p.tables e below (s₁.setTop (mkF m 9 #[.val (.int p1)] [(.int (34 : Int32)), (.int p1)])) _
        refine XS.icmpNo X0.here hx rfl (hb hby d8_9) rfl (feq (hc9_104 : ¬ (p1 = (34 : Int32)))).1 ?_
        show Steps p.tables e below (s₁.setTop (mkF m 12 #[.val (.int p1)] [])) _
        refine XS.iloadN X0.here hx rfl (hb hby d8_12) rfl ?_
        show Steps p.tables e below (s₁.setTop (mkF m 13 #[.val (.int p1)] [(.int p1)])) _
        refine XS.bipush X0.here hx rfl (hb hby d8_13) ?_
        show Steps p.tables e below (s₁.setTop (mkF m 15 #[.val (.int p1)] [(.int (92 : Int32)), (.int p1)])) _
        exact kt
      by_cases hc15_106 : p1 = (92 : Int32)
      · skip
        obtain ⟨fs, hr, hrun, hended, hW, hsame⟩ := X0.leave (v := some (.int (1 : Int32))) (fun h => by rw [Bd.returns] at h; cases h)
        refine ⟨_, _, pre105 _ ?_, hrun, hended, _, _, rfl, ?_, ⟨_, rfl⟩, hW, hsame.mono (by decide) (by decide)⟩
        · skip
          show Steps p.tables e below (s₁.setTop (mkF m 15 #[.val (.int p1)] [(.int (92 : Int32)), (.int p1)])) _
          refine XS.icmpNo X0.here hx rfl (hb hby d8_15) rfl (teq (hc15_106 : p1 = (92 : Int32))).2 ?_
          show Steps p.tables e below (s₁.setTop (mkF m 18 #[.val (.int p1)] [])) _
          refine XS.iconst X0.here hx rfl (hb hby d8_18) ?_
          show Steps p.tables e below (s₁.setTop (mkF m 19 #[.val (.int p1)] [(.int (1 : Int32))])) _
          refine XS.goto X0.here hx rfl (pc0 := 19) (pc' := 23) rfl (hb hby d8_19) (by decide) (by decide) ?_
          show Steps p.tables e below (s₁.setTop (mkF m 23 #[.val (.int p1)] [(.int (1 : Int32))])) _
          exact retN X0 hx (t := .boolean) Bd.returns (by simp) (hb hby d8_23) hr
        · show Q8 Z p1 h0 n0 _ s₁.heap _
          rw [e0]
          exact ⟨(by simp only [own_keeps, eq_false hc3_102, eq_false hc9_104, eq_true hc15_106, if_true, if_false]), N0, rfl⟩
      · skip
        obtain ⟨fs, hr, hrun, hended, hW, hsame⟩ := X0.leave (v := some (.int (0 : Int32))) (fun h => by rw [Bd.returns] at h; cases h)
        refine ⟨_, _, pre105 _ ?_, hrun, hended, _, _, rfl, ?_, ⟨_, rfl⟩, hW, hsame.mono (by decide) (by decide)⟩
        · skip
          show Steps p.tables e below (s₁.setTop (mkF m 15 #[.val (.int p1)] [(.int (92 : Int32)), (.int p1)])) _
          refine XS.icmpYes X0.here hx rfl (pc0 := 15) (pc' := 22) rfl (hb hby d8_15) rfl (feq (hc15_106 : ¬ (p1 = (92 : Int32)))).2 (by decide) (by decide) ?_
          show Steps p.tables e below (s₁.setTop (mkF m 22 #[.val (.int p1)] [])) _
          refine XS.iconst X0.here hx rfl (hb hby d8_22) ?_
          show Steps p.tables e below (s₁.setTop (mkF m 23 #[.val (.int p1)] [(.int (0 : Int32))])) _
          exact retN X0 hx (t := .boolean) Bd.returns (by simp) (hb hby d8_23) hr
        · show Q8 Z p1 h0 n0 _ s₁.heap _
          rw [e0]
          exact ⟨(by simp only [own_keeps, eq_false hc3_102, eq_false hc9_104, eq_false hc15_106, if_true, if_false]), N0, rfl⟩
theorem d2_0 : decode method_4_code 0 = .ok (.iload_n 0, 1) := by decide +kernel
theorem d2_1 : decode method_4_code 1 = .ok (.ifCond .ne 5, 3) := by decide +kernel
theorem d2_4 : decode method_4_code 4 = .ok (.iconst 0, 1) := by decide +kernel
theorem d2_5 : decode method_4_code 5 = .ok (.ireturn, 1) := by decide +kernel
theorem d2_6 : decode method_4_code 6 = .ok (.iload_n 0, 1) := by decide +kernel
theorem d2_7 : decode method_4_code 7 = .ok (.iconst 1, 1) := by decide +kernel
theorem d2_8 : decode method_4_code 8 = .ok (.if_icmp .ne 8, 3) := by decide +kernel
theorem d2_11 : decode method_4_code 11 = .ok (.iload_n 1, 1) := by decide +kernel
theorem d2_12 : decode method_4_code 12 = .ok (.invokestatic 7, 3) := by decide +kernel
theorem d2_15 : decode method_4_code 15 = .ok (.ireturn, 1) := by decide +kernel
theorem d2_16 : decode method_4_code 16 = .ok (.iload_n 1, 1) := by decide +kernel
theorem d2_17 : decode method_4_code 17 = .ok (.bipush 39, 2) := by decide +kernel
theorem d2_19 : decode method_4_code 19 = .ok (.if_icmp .ne 15, 3) := by decide +kernel
theorem d2_22 : decode method_4_code 22 = .ok (.iload_n 2, 1) := by decide +kernel
theorem d2_23 : decode method_4_code 23 = .ok (.bipush 39, 2) := by decide +kernel
theorem d2_25 : decode method_4_code 25 = .ok (.if_icmp .eq 7, 3) := by decide +kernel
theorem d2_32 : decode method_4_code 32 = .ok (.iconst 0, 1) := by decide +kernel
theorem d2_33 : decode method_4_code 33 = .ok (.ireturn, 1) := by decide +kernel
theorem d2_28 : decode method_4_code 28 = .ok (.iconst 1, 1) := by decide +kernel
theorem d2_29 : decode method_4_code 29 = .ok (.goto 4, 3) := by decide +kernel
theorem d2_34 : decode method_4_code 34 = .ok (.iload_n 1, 1) := by decide +kernel
theorem d2_35 : decode method_4_code 35 = .ok (.bipush 34, 2) := by decide +kernel
theorem d2_37 : decode method_4_code 37 = .ok (.if_icmp .ne 15, 3) := by decide +kernel
theorem d2_40 : decode method_4_code 40 = .ok (.iload_n 2, 1) := by decide +kernel
theorem d2_41 : decode method_4_code 41 = .ok (.bipush 34, 2) := by decide +kernel
theorem d2_43 : decode method_4_code 43 = .ok (.if_icmp .eq 7, 3) := by decide +kernel
theorem d2_50 : decode method_4_code 50 = .ok (.iconst 0, 1) := by decide +kernel
theorem d2_51 : decode method_4_code 51 = .ok (.ireturn, 1) := by decide +kernel
theorem d2_46 : decode method_4_code 46 = .ok (.iconst 1, 1) := by decide +kernel
theorem d2_47 : decode method_4_code 47 = .ok (.goto 4, 3) := by decide +kernel
theorem d2_52 : decode method_4_code 52 = .ok (.iload_n 1, 1) := by decide +kernel
theorem d2_53 : decode method_4_code 53 = .ok (.bipush 92, 2) := by decide +kernel
theorem d2_55 : decode method_4_code 55 = .ok (.if_icmp .eq 9, 3) := by decide +kernel
theorem d2_64 : decode method_4_code 64 = .ok (.iconst 0, 1) := by decide +kernel
theorem d2_65 : decode method_4_code 65 = .ok (.ireturn, 1) := by decide +kernel
theorem d2_58 : decode method_4_code 58 = .ok (.iload_n 1, 1) := by decide +kernel
theorem d2_59 : decode method_4_code 59 = .ok (.bipush 35, 2) := by decide +kernel
theorem d2_61 : decode method_4_code 61 = .ok (.if_icmp .ne 5, 3) := by decide +kernel
theorem d2_66 : decode method_4_code 66 = .ok (.iload_n 2, 1) := by decide +kernel
theorem d2_67 : decode method_4_code 67 = .ok (.invokestatic 7, 3) := by decide +kernel
theorem d2_70 : decode method_4_code 70 = .ok (.ireturn, 1) := by decide +kernel
theorem ef_2 (m : MethodId) (p1 : Int32) (p2 : Int32) (p3 : Int32) : entryFrame m #[(.int p1), (.int p2), (.int p3)] 3 = mkF m 0 #[.val (.int p1), .val (.int p2), .val (.int p3)] [] := by first | (simp [entryFrame, mkF, argsToLocals, Value.category]; done) | rfl
def Q2 (Z : State) (p1 : Int32) (p2 : Int32) (p3 : Int32) (h0 : Heap) (n0 : Nat) (v : Option Value) (h : Heap) (L : List Loc) : Prop := v = some (.int (own_open p1 p2 p3)) ∧ Fr n0 L ∧ h = h0
set_option maxRecDepth 65536 in
set_option maxHeartbeats 40000000 in
theorem rm2 (l : Launch) (Z : State) (a0 : Array Value) (hw : ∀ d ∈ tables_1, d.before a0 Z = true) (ws : List Jvm.Cond) (p1 : Int32) (p2 : Int32) (p3 : Int32) (h0 : Heap) (n0 : Nat) (Z0 : n0 ≤ h0.size) :
    MetFree l (⟨"com/example/rouse/rouse/shell/ShellWordsContinuesPinLaw", "open", "(ICC)Z"⟩ : MethodName) (head1 (Jvm.Cond.code (⟨"com/example/rouse/rouse/shell/ShellWordsContinuesPinLaw", "open", "(ICC)Z"⟩ : MethodName) method_4_code 3 (some .boolean) :: ws) ({ frames := 1, cells := 0, slots := 0, locals := 12 } : Room)) (fun a U => a = #[(.int p1), (.int p2), (.int p3)] ∧ Z.Warmed39 U.vm ∧ U.heap = h0) (fun _ _ _ _ _ => True) (fun _ U o U' => ∃ v L, o = .returned v ∧ Q2 Z p1 p2 p3 h0 n0 v U'.heap L ∧ FrameEnd U o U' L ({ frames := 1, cells := 0, slots := 0, locals := 12 } : Room).cells ({ frames := 1, cells := 0, slots := 0, locals := 12 } : Room).slots) := by
  refine MetFree.of_bodySF (plainFor_of_name pn_com_example_rouse_rouse_shell_ShellWordsContinuesPinLaw) hisR ?_
  intro p e s m args below meth c s₁ Bd hml0 hP hK
  obtain ⟨rfl, hZ, hh⟩ := hP
  have hx := Bd.exec
  have hby := Bd.bytes
  have hml : c.maxLocals = 3 := hml0
  have hown : s.vm.findClass "com/example/rouse/rouse/shell/ShellWordsContinuesPinLaw" = some m.cls := findClass_of_methodNamed Bd.named
  have hnm := (name_of_methodNamed Bd.named Bd.method).1
  have X0 : Stand p l e ({ frames := 1, cells := 0, slots := 0, locals := 12 } : Room) s m #[(.int p1), (.int p2), (.int p3)] below meth c s₁ [] 0 0 := Stand.of_body Bd
  have e0 : s₁.heap = h0 := by rw [← hh, Bd.state]; rfl
  have N0 := Fr.nil n0
  have pre0 : ∀ t, Steps p.tables e below (s₁.setTop (mkF m 0 #[.val (.int p1), .val (.int p2), .val (.int p3)] [])) t → Steps p.tables e below (s₁.setTop (entryFrame m #[(.int p1), (.int p2), (.int p3)] 3)) t := fun t k => castTop (ef_2 m p1 p2 p3) k
  have pre101 : ∀ t, Steps p.tables e below (s₁.setTop (mkF m 1 #[.val (.int p1), .val (.int p2), .val (.int p3)] [(.int p1)])) t → Steps p.tables e below (s₁.setTop (entryFrame m #[(.int p1), (.int p2), (.int p3)] 3)) t := fun t kt => by
    refine pre0 t ?_
    show Steps p.tables e below (s₁.setTop (mkF m 0 #[.val (.int p1), .val (.int p2), .val (.int p3)] [])) _
    refine XS.iloadN X0.here hx rfl (hb hby d2_0) rfl ?_
    show Steps p.tables e below (s₁.setTop (mkF m 1 #[.val (.int p1), .val (.int p2), .val (.int p3)] [(.int p1)])) _
    exact kt
  by_cases hc1_102 : p1 = (0 : Int32)
  · skip
    obtain ⟨fs, hr, hrun, hended, hW, hsame⟩ := X0.leave (v := some (.int (0 : Int32))) (fun h => by rw [Bd.returns] at h; cases h)
    refine ⟨_, _, pre101 _ ?_, hrun, hended, _, _, rfl, ?_, ⟨_, rfl⟩, hW, hsame.mono (by decide) (by decide)⟩
    · skip
      show Steps p.tables e below (s₁.setTop (mkF m 1 #[.val (.int p1), .val (.int p2), .val (.int p3)] [(.int p1)])) _
      refine XS.ifNo X0.here hx rfl (hb hby d2_1) rfl ((if0 _ _).trans (teq (hc1_102 : p1 = (0 : Int32))).2) ?_
      show Steps p.tables e below (s₁.setTop (mkF m 4 #[.val (.int p1), .val (.int p2), .val (.int p3)] [])) _
      refine XS.iconst X0.here hx rfl (hb hby d2_4) ?_
      show Steps p.tables e below (s₁.setTop (mkF m 5 #[.val (.int p1), .val (.int p2), .val (.int p3)] [(.int (0 : Int32))])) _
      exact retN X0 hx (t := .boolean) Bd.returns (by simp) (hb hby d2_5) hr
    · show Q2 Z p1 p2 p3 h0 n0 _ s₁.heap _
      rw [e0]
      exact ⟨(by simp only [own_open, own_nark, eq_true hc1_102, if_true, if_false]), N0, rfl⟩
  · skip
    have pre103 : ∀ t, Steps p.tables e below (s₁.setTop (mkF m 8 #[.val (.int p1), .val (.int p2), .val (.int p3)] [(.int (1 : Int32)), (.int p1)])) t → Steps p.tables e below (s₁.setTop (entryFrame m #[(.int p1), (.int p2), (.int p3)] 3)) t := fun t kt => by
      refine pre101 t ?_
      show Steps p.tables e below (s₁.setTop (mkF m 1 #[.val (.int p1), .val (.int p2), .val (.int p3)] [(.int p1)])) _
      refine XS.ifYes X0.here hx rfl (pc0 := 1) (pc' := 6) rfl (hb hby d2_1) rfl ((if0 _ _).trans (feq (hc1_102 : ¬ (p1 = (0 : Int32)))).2) (by decide) (by decide) ?_
      show Steps p.tables e below (s₁.setTop (mkF m 6 #[.val (.int p1), .val (.int p2), .val (.int p3)] [])) _
      refine XS.iloadN X0.here hx rfl (hb hby d2_6) rfl ?_
      show Steps p.tables e below (s₁.setTop (mkF m 7 #[.val (.int p1), .val (.int p2), .val (.int p3)] [(.int p1)])) _
      refine XS.iconst X0.here hx rfl (hb hby d2_7) ?_
      show Steps p.tables e below (s₁.setTop (mkF m 8 #[.val (.int p1), .val (.int p2), .val (.int p3)] [(.int (1 : Int32)), (.int p1)])) _
      exact kt
    by_cases hc8_104 : p1 = (1 : Int32)
    · skip
      obtain ⟨_, _, ⟨T105, L105, k105, n105⟩, -, X105, ⟨Lc105, hQ105, l105, y105, z105⟩, st105⟩ := Jvm.LawKit.callS X0 hx (y := (⟨"com/example/rouse/rouse/shell/ShellWordsContinuesPinLaw", "keeps", "(C)Z"⟩ : MethodName)) hown (mvT hZ (hw _ (List.mem_of_getElem? (i := 47) rfl))) (mvT hZ (hw _ (List.mem_of_getElem? (i := 48) rfl))) (mvT hZ (hw _ (List.mem_of_getElem? (i := 2) rfl))) (mvT hZ (hw _ (List.mem_of_getElem? (i := 49) rfl))) (by decide) (backOf (W := 0) (rm8 l Z a0 hw [] p2 h0 n0 Z0) hZ (hw _ (List.mem_of_getElem? (i := 49) rfl)) (hw _ (List.mem_of_getElem? (i := 2) rfl)) (by decide) (by decide)) (g := (mkF m 12 #[.val (.int p1), .val (.int p2), .val (.int p3)] [(.int p2)])) rfl (by rw [hml]; rfl) (argsL := [(.int p2)]) (rest := []) (lenOf pd_13 rfl) rfl (by show 2 * 0 + _ ≤ _; exact Nat.le_of_eq rfl) (hb hby d2_12) (fun _ _ => ⟨rfl, e0, (by decide : 0 + 0 ≤ _), (by decide : 0 + 0 ≤ _)⟩)
      dsimp only [Pt.U, Pt.locs, Pt.cells, Pt.slots] at X105 l105 y105 z105 st105 hQ105
      subst l105 y105 z105
      obtain ⟨rfl, Nq105, Heq105⟩ := hQ105
      have N105 := Fr.app N0 Nq105
      obtain ⟨fs, hr, hrun, hended, hW, hsame⟩ := X105.leave (v := some (.int (nar .boolean (own_keeps p2)))) (fun h => by rw [Bd.returns] at h; cases h)
      refine ⟨_, _, pre103 _ ?_, hrun, hended, _, _, rfl, ?_, ⟨_, rfl⟩, hW, hsame.mono (by decide) (by decide)⟩
      · skip
        show Steps p.tables e below (s₁.setTop (mkF m 8 #[.val (.int p1), .val (.int p2), .val (.int p3)] [(.int (1 : Int32)), (.int p1)])) _
        refine XS.icmpNo X0.here hx rfl (hb hby d2_8) rfl (teq (hc8_104 : p1 = (1 : Int32))).2 ?_
        show Steps p.tables e below (s₁.setTop (mkF m 11 #[.val (.int p1), .val (.int p2), .val (.int p3)] [])) _
        refine XS.iloadN X0.here hx rfl (hb hby d2_11) rfl ?_
        show Steps p.tables e below (s₁.setTop (mkF m 12 #[.val (.int p1), .val (.int p2), .val (.int p3)] [(.int p2)])) _
        refine st105 _ ?_
        show Steps p.tables e below (T105.setTop (mkF m 15 #[.val (.int p1), .val (.int p2), .val (.int p3)] [(.int (own_keeps p2))])) _
        exact retN X105 hx (t := .boolean) Bd.returns (by simp) (hb hby d2_15) hr
      · show Q2 Z p1 p2 p3 h0 n0 _ T105.heap _
        rw [Heq105]
        exact ⟨(by simp only [own_open, own_nark, eq_false hc1_102, eq_true hc8_104, if_true, if_false]), N105, rfl⟩
    · skip
      have pre106 : ∀ t, Steps p.tables e below (s₁.setTop (mkF m 19 #[.val (.int p1), .val (.int p2), .val (.int p3)] [(.int (39 : Int32)), (.int p2)])) t → Steps p.tables e below (s₁.setTop (entryFrame m #[(.int p1), (.int p2), (.int p3)] 3)) t := fun t kt => by
        refine pre103 t ?_
        show Steps p.tables e below (s₁.setTop (mkF m 8 #[.val (.int p1), .val (.int p2), .val (.int p3)] [(.int (1 : Int32)), (.int p1)])) _
        refine XS.icmpYes X0.here hx rfl (pc0 := 8) (pc' := 16) rfl (hb hby d2_8) rfl (feq (hc8_104 : ¬ (p1 = (1 : Int32)))).2 (by decide) (by decide) ?_
        show Steps p.tables e below (s₁.setTop (mkF m 16 #[.val (.int p1), .val (.int p2), .val (.int p3)] [])) _
        refine XS.iloadN X0.here hx rfl (hb hby d2_16) rfl ?_
        show Steps p.tables e below (s₁.setTop (mkF m 17 #[.val (.int p1), .val (.int p2), .val (.int p3)] [(.int p2)])) _
        refine XS.bipush X0.here hx rfl (hb hby d2_17) ?_
        show Steps p.tables e below (s₁.setTop (mkF m 19 #[.val (.int p1), .val (.int p2), .val (.int p3)] [(.int (39 : Int32)), (.int p2)])) _
        exact kt
      by_cases hc19_107 : p2 = (39 : Int32)
      · skip
        have pre108 : ∀ t, Steps p.tables e below (s₁.setTop (mkF m 25 #[.val (.int p1), .val (.int p2), .val (.int p3)] [(.int (39 : Int32)), (.int p3)])) t → Steps p.tables e below (s₁.setTop (entryFrame m #[(.int p1), (.int p2), (.int p3)] 3)) t := fun t kt => by
          refine pre106 t ?_
          show Steps p.tables e below (s₁.setTop (mkF m 19 #[.val (.int p1), .val (.int p2), .val (.int p3)] [(.int (39 : Int32)), (.int p2)])) _
          refine XS.icmpNo X0.here hx rfl (hb hby d2_19) rfl (teq (hc19_107 : p2 = (39 : Int32))).2 ?_
          show Steps p.tables e below (s₁.setTop (mkF m 22 #[.val (.int p1), .val (.int p2), .val (.int p3)] [])) _
          refine XS.iloadN X0.here hx rfl (hb hby d2_22) rfl ?_
          show Steps p.tables e below (s₁.setTop (mkF m 23 #[.val (.int p1), .val (.int p2), .val (.int p3)] [(.int p3)])) _
          refine XS.bipush X0.here hx rfl (hb hby d2_23) ?_
          show Steps p.tables e below (s₁.setTop (mkF m 25 #[.val (.int p1), .val (.int p2), .val (.int p3)] [(.int (39 : Int32)), (.int p3)])) _
          exact kt
        by_cases hc25_109 : p3 = (39 : Int32)
        · skip
          obtain ⟨fs, hr, hrun, hended, hW, hsame⟩ := X0.leave (v := some (.int (0 : Int32))) (fun h => by rw [Bd.returns] at h; cases h)
          refine ⟨_, _, pre108 _ ?_, hrun, hended, _, _, rfl, ?_, ⟨_, rfl⟩, hW, hsame.mono (by decide) (by decide)⟩
          · skip
            show Steps p.tables e below (s₁.setTop (mkF m 25 #[.val (.int p1), .val (.int p2), .val (.int p3)] [(.int (39 : Int32)), (.int p3)])) _
            refine XS.icmpYes X0.here hx rfl (pc0 := 25) (pc' := 32) rfl (hb hby d2_25) rfl (teq (hc25_109 : p3 = (39 : Int32))).1 (by decide) (by decide) ?_
            show Steps p.tables e below (s₁.setTop (mkF m 32 #[.val (.int p1), .val (.int p2), .val (.int p3)] [])) _
            refine XS.iconst X0.here hx rfl (hb hby d2_32) ?_
            show Steps p.tables e below (s₁.setTop (mkF m 33 #[.val (.int p1), .val (.int p2), .val (.int p3)] [(.int (0 : Int32))])) _
            exact retN X0 hx (t := .boolean) Bd.returns (by simp) (hb hby d2_33) hr
          · show Q2 Z p1 p2 p3 h0 n0 _ s₁.heap _
            rw [e0]
            exact ⟨(by simp only [own_open, own_nark, eq_false hc1_102, eq_false hc8_104, eq_true hc19_107, eq_true hc25_109, if_true, if_false]), N0, rfl⟩
        · skip
          obtain ⟨fs, hr, hrun, hended, hW, hsame⟩ := X0.leave (v := some (.int (1 : Int32))) (fun h => by rw [Bd.returns] at h; cases h)
          refine ⟨_, _, pre108 _ ?_, hrun, hended, _, _, rfl, ?_, ⟨_, rfl⟩, hW, hsame.mono (by decide) (by decide)⟩
          · skip
            show Steps p.tables e below (s₁.setTop (mkF m 25 #[.val (.int p1), .val (.int p2), .val (.int p3)] [(.int (39 : Int32)), (.int p3)])) _
            refine XS.icmpNo X0.here hx rfl (hb hby d2_25) rfl (feq (hc25_109 : ¬ (p3 = (39 : Int32)))).1 ?_
            show Steps p.tables e below (s₁.setTop (mkF m 28 #[.val (.int p1), .val (.int p2), .val (.int p3)] [])) _
            refine XS.iconst X0.here hx rfl (hb hby d2_28) ?_
            show Steps p.tables e below (s₁.setTop (mkF m 29 #[.val (.int p1), .val (.int p2), .val (.int p3)] [(.int (1 : Int32))])) _
            refine XS.goto X0.here hx rfl (pc0 := 29) (pc' := 33) rfl (hb hby d2_29) (by decide) (by decide) ?_
            show Steps p.tables e below (s₁.setTop (mkF m 33 #[.val (.int p1), .val (.int p2), .val (.int p3)] [(.int (1 : Int32))])) _
            exact retN X0 hx (t := .boolean) Bd.returns (by simp) (hb hby d2_33) hr
          · show Q2 Z p1 p2 p3 h0 n0 _ s₁.heap _
            rw [e0]
            exact ⟨(by simp only [own_open, own_nark, eq_false hc1_102, eq_false hc8_104, eq_true hc19_107, eq_false hc25_109, if_true, if_false]), N0, rfl⟩
      · skip
        have pre110 : ∀ t, Steps p.tables e below (s₁.setTop (mkF m 37 #[.val (.int p1), .val (.int p2), .val (.int p3)] [(.int (34 : Int32)), (.int p2)])) t → Steps p.tables e below (s₁.setTop (entryFrame m #[(.int p1), (.int p2), (.int p3)] 3)) t := fun t kt => by
          refine pre106 t ?_
          show Steps p.tables e below (s₁.setTop (mkF m 19 #[.val (.int p1), .val (.int p2), .val (.int p3)] [(.int (39 : Int32)), (.int p2)])) _
          refine XS.icmpYes X0.here hx rfl (pc0 := 19) (pc' := 34) rfl (hb hby d2_19) rfl (feq (hc19_107 : ¬ (p2 = (39 : Int32)))).2 (by decide) (by decide) ?_
          show Steps p.tables e below (s₁.setTop (mkF m 34 #[.val (.int p1), .val (.int p2), .val (.int p3)] [])) _
          refine XS.iloadN X0.here hx rfl (hb hby d2_34) rfl ?_
          show Steps p.tables e below (s₁.setTop (mkF m 35 #[.val (.int p1), .val (.int p2), .val (.int p3)] [(.int p2)])) _
          refine XS.bipush X0.here hx rfl (hb hby d2_35) ?_
          show Steps p.tables e below (s₁.setTop (mkF m 37 #[.val (.int p1), .val (.int p2), .val (.int p3)] [(.int (34 : Int32)), (.int p2)])) _
          exact kt
        by_cases hc37_111 : p2 = (34 : Int32)
        · skip
          have pre112 : ∀ t, Steps p.tables e below (s₁.setTop (mkF m 43 #[.val (.int p1), .val (.int p2), .val (.int p3)] [(.int (34 : Int32)), (.int p3)])) t → Steps p.tables e below (s₁.setTop (entryFrame m #[(.int p1), (.int p2), (.int p3)] 3)) t := fun t kt => by
            refine pre110 t ?_
            show Steps p.tables e below (s₁.setTop (mkF m 37 #[.val (.int p1), .val (.int p2), .val (.int p3)] [(.int (34 : Int32)), (.int p2)])) _
            refine XS.icmpNo X0.here hx rfl (hb hby d2_37) rfl (teq (hc37_111 : p2 = (34 : Int32))).2 ?_
            show Steps p.tables e below (s₁.setTop (mkF m 40 #[.val (.int p1), .val (.int p2), .val (.int p3)] [])) _
            refine XS.iloadN X0.here hx rfl (hb hby d2_40) rfl ?_
            show Steps p.tables e below (s₁.setTop (mkF m 41 #[.val (.int p1), .val (.int p2), .val (.int p3)] [(.int p3)])) _
            refine XS.bipush X0.here hx rfl (hb hby d2_41) ?_
            show Steps p.tables e below (s₁.setTop (mkF m 43 #[.val (.int p1), .val (.int p2), .val (.int p3)] [(.int (34 : Int32)), (.int p3)])) _
            exact kt
          by_cases hc43_113 : p3 = (34 : Int32)
          · skip
            obtain ⟨fs, hr, hrun, hended, hW, hsame⟩ := X0.leave (v := some (.int (0 : Int32))) (fun h => by rw [Bd.returns] at h; cases h)
            refine ⟨_, _, pre112 _ ?_, hrun, hended, _, _, rfl, ?_, ⟨_, rfl⟩, hW, hsame.mono (by decide) (by decide)⟩
            · skip
              show Steps p.tables e below (s₁.setTop (mkF m 43 #[.val (.int p1), .val (.int p2), .val (.int p3)] [(.int (34 : Int32)), (.int p3)])) _
              refine XS.icmpYes X0.here hx rfl (pc0 := 43) (pc' := 50) rfl (hb hby d2_43) rfl (teq (hc43_113 : p3 = (34 : Int32))).1 (by decide) (by decide) ?_
              show Steps p.tables e below (s₁.setTop (mkF m 50 #[.val (.int p1), .val (.int p2), .val (.int p3)] [])) _
              refine XS.iconst X0.here hx rfl (hb hby d2_50) ?_
              show Steps p.tables e below (s₁.setTop (mkF m 51 #[.val (.int p1), .val (.int p2), .val (.int p3)] [(.int (0 : Int32))])) _
              exact retN X0 hx (t := .boolean) Bd.returns (by simp) (hb hby d2_51) hr
            · show Q2 Z p1 p2 p3 h0 n0 _ s₁.heap _
              rw [e0]
              exact ⟨(by simp only [own_open, own_nark, eq_false hc1_102, eq_false hc8_104, eq_false hc19_107, eq_true hc37_111, eq_true hc43_113, if_true, if_false]), N0, rfl⟩
          · skip
            obtain ⟨fs, hr, hrun, hended, hW, hsame⟩ := X0.leave (v := some (.int (1 : Int32))) (fun h => by rw [Bd.returns] at h; cases h)
            refine ⟨_, _, pre112 _ ?_, hrun, hended, _, _, rfl, ?_, ⟨_, rfl⟩, hW, hsame.mono (by decide) (by decide)⟩
            · skip
              show Steps p.tables e below (s₁.setTop (mkF m 43 #[.val (.int p1), .val (.int p2), .val (.int p3)] [(.int (34 : Int32)), (.int p3)])) _
              refine XS.icmpNo X0.here hx rfl (hb hby d2_43) rfl (feq (hc43_113 : ¬ (p3 = (34 : Int32)))).1 ?_
              show Steps p.tables e below (s₁.setTop (mkF m 46 #[.val (.int p1), .val (.int p2), .val (.int p3)] [])) _
              refine XS.iconst X0.here hx rfl (hb hby d2_46) ?_
              show Steps p.tables e below (s₁.setTop (mkF m 47 #[.val (.int p1), .val (.int p2), .val (.int p3)] [(.int (1 : Int32))])) _
              refine XS.goto X0.here hx rfl (pc0 := 47) (pc' := 51) rfl (hb hby d2_47) (by decide) (by decide) ?_
              show Steps p.tables e below (s₁.setTop (mkF m 51 #[.val (.int p1), .val (.int p2), .val (.int p3)] [(.int (1 : Int32))])) _
              exact retN X0 hx (t := .boolean) Bd.returns (by simp) (hb hby d2_51) hr
            · show Q2 Z p1 p2 p3 h0 n0 _ s₁.heap _
              rw [e0]
              exact ⟨(by simp only [own_open, own_nark, eq_false hc1_102, eq_false hc8_104, eq_false hc19_107, eq_true hc37_111, eq_false hc43_113, if_true, if_false]), N0, rfl⟩
        · skip
          have pre114 : ∀ t, Steps p.tables e below (s₁.setTop (mkF m 55 #[.val (.int p1), .val (.int p2), .val (.int p3)] [(.int (92 : Int32)), (.int p2)])) t → Steps p.tables e below (s₁.setTop (entryFrame m #[(.int p1), (.int p2), (.int p3)] 3)) t := fun t kt => by
            refine pre110 t ?_
            show Steps p.tables e below (s₁.setTop (mkF m 37 #[.val (.int p1), .val (.int p2), .val (.int p3)] [(.int (34 : Int32)), (.int p2)])) _
            refine XS.icmpYes X0.here hx rfl (pc0 := 37) (pc' := 52) rfl (hb hby d2_37) rfl (feq (hc37_111 : ¬ (p2 = (34 : Int32)))).2 (by decide) (by decide) ?_
            show Steps p.tables e below (s₁.setTop (mkF m 52 #[.val (.int p1), .val (.int p2), .val (.int p3)] [])) _
            refine XS.iloadN X0.here hx rfl (hb hby d2_52) rfl ?_
            show Steps p.tables e below (s₁.setTop (mkF m 53 #[.val (.int p1), .val (.int p2), .val (.int p3)] [(.int p2)])) _
            refine XS.bipush X0.here hx rfl (hb hby d2_53) ?_
            show Steps p.tables e below (s₁.setTop (mkF m 55 #[.val (.int p1), .val (.int p2), .val (.int p3)] [(.int (92 : Int32)), (.int p2)])) _
            exact kt
          by_cases hc55_115 : p2 = (92 : Int32)
          · skip
            obtain ⟨fs, hr, hrun, hended, hW, hsame⟩ := X0.leave (v := some (.int (0 : Int32))) (fun h => by rw [Bd.returns] at h; cases h)
            refine ⟨_, _, pre114 _ ?_, hrun, hended, _, _, rfl, ?_, ⟨_, rfl⟩, hW, hsame.mono (by decide) (by decide)⟩
            · skip
              show Steps p.tables e below (s₁.setTop (mkF m 55 #[.val (.int p1), .val (.int p2), .val (.int p3)] [(.int (92 : Int32)), (.int p2)])) _
              refine XS.icmpYes X0.here hx rfl (pc0 := 55) (pc' := 64) rfl (hb hby d2_55) rfl (teq (hc55_115 : p2 = (92 : Int32))).1 (by decide) (by decide) ?_
              show Steps p.tables e below (s₁.setTop (mkF m 64 #[.val (.int p1), .val (.int p2), .val (.int p3)] [])) _
              refine XS.iconst X0.here hx rfl (hb hby d2_64) ?_
              show Steps p.tables e below (s₁.setTop (mkF m 65 #[.val (.int p1), .val (.int p2), .val (.int p3)] [(.int (0 : Int32))])) _
              exact retN X0 hx (t := .boolean) Bd.returns (by simp) (hb hby d2_65) hr
            · show Q2 Z p1 p2 p3 h0 n0 _ s₁.heap _
              rw [e0]
              exact ⟨(by simp only [own_open, own_nark, eq_false hc1_102, eq_false hc8_104, eq_false hc19_107, eq_false hc37_111, eq_true hc55_115, if_true, if_false]), N0, rfl⟩
          · skip
            have pre116 : ∀ t, Steps p.tables e below (s₁.setTop (mkF m 61 #[.val (.int p1), .val (.int p2), .val (.int p3)] [(.int (35 : Int32)), (.int p2)])) t → Steps p.tables e below (s₁.setTop (entryFrame m #[(.int p1), (.int p2), (.int p3)] 3)) t := fun t kt => by
              refine pre114 t ?_
              show Steps p.tables e below (s₁.setTop (mkF m 55 #[.val (.int p1), .val (.int p2), .val (.int p3)] [(.int (92 : Int32)), (.int p2)])) _
              refine XS.icmpNo X0.here hx rfl (hb hby d2_55) rfl (feq (hc55_115 : ¬ (p2 = (92 : Int32)))).1 ?_
              show Steps p.tables e below (s₁.setTop (mkF m 58 #[.val (.int p1), .val (.int p2), .val (.int p3)] [])) _
              refine XS.iloadN X0.here hx rfl (hb hby d2_58) rfl ?_
              show Steps p.tables e below (s₁.setTop (mkF m 59 #[.val (.int p1), .val (.int p2), .val (.int p3)] [(.int p2)])) _
              refine XS.bipush X0.here hx rfl (hb hby d2_59) ?_
              show Steps p.tables e below (s₁.setTop (mkF m 61 #[.val (.int p1), .val (.int p2), .val (.int p3)] [(.int (35 : Int32)), (.int p2)])) _
              exact kt
            by_cases hc61_117 : p2 = (35 : Int32)
            · skip
              obtain ⟨fs, hr, hrun, hended, hW, hsame⟩ := X0.leave (v := some (.int (0 : Int32))) (fun h => by rw [Bd.returns] at h; cases h)
              refine ⟨_, _, pre116 _ ?_, hrun, hended, _, _, rfl, ?_, ⟨_, rfl⟩, hW, hsame.mono (by decide) (by decide)⟩
              · skip
                show Steps p.tables e below (s₁.setTop (mkF m 61 #[.val (.int p1), .val (.int p2), .val (.int p3)] [(.int (35 : Int32)), (.int p2)])) _
                refine XS.icmpNo X0.here hx rfl (hb hby d2_61) rfl (teq (hc61_117 : p2 = (35 : Int32))).2 ?_
                show Steps p.tables e below (s₁.setTop (mkF m 64 #[.val (.int p1), .val (.int p2), .val (.int p3)] [])) _
                refine XS.iconst X0.here hx rfl (hb hby d2_64) ?_
                show Steps p.tables e below (s₁.setTop (mkF m 65 #[.val (.int p1), .val (.int p2), .val (.int p3)] [(.int (0 : Int32))])) _
                exact retN X0 hx (t := .boolean) Bd.returns (by simp) (hb hby d2_65) hr
              · show Q2 Z p1 p2 p3 h0 n0 _ s₁.heap _
                rw [e0]
                exact ⟨(by simp only [own_open, own_nark, eq_false hc1_102, eq_false hc8_104, eq_false hc19_107, eq_false hc37_111, eq_false hc55_115, eq_true hc61_117, if_true, if_false]), N0, rfl⟩
            · skip
              obtain ⟨_, _, ⟨T118, L118, k118, n118⟩, -, X118, ⟨Lc118, hQ118, l118, y118, z118⟩, st118⟩ := Jvm.LawKit.callS X0 hx (y := (⟨"com/example/rouse/rouse/shell/ShellWordsContinuesPinLaw", "keeps", "(C)Z"⟩ : MethodName)) hown (mvT hZ (hw _ (List.mem_of_getElem? (i := 47) rfl))) (mvT hZ (hw _ (List.mem_of_getElem? (i := 48) rfl))) (mvT hZ (hw _ (List.mem_of_getElem? (i := 2) rfl))) (mvT hZ (hw _ (List.mem_of_getElem? (i := 49) rfl))) (by decide) (backOf (W := 0) (rm8 l Z a0 hw [] p3 h0 n0 Z0) hZ (hw _ (List.mem_of_getElem? (i := 49) rfl)) (hw _ (List.mem_of_getElem? (i := 2) rfl)) (by decide) (by decide)) (g := (mkF m 67 #[.val (.int p1), .val (.int p2), .val (.int p3)] [(.int p3)])) rfl (by rw [hml]; rfl) (argsL := [(.int p3)]) (rest := []) (lenOf pd_13 rfl) rfl (by show 2 * 0 + _ ≤ _; exact Nat.le_of_eq rfl) (hb hby d2_67) (fun _ _ => ⟨rfl, e0, (by decide : 0 + 0 ≤ _), (by decide : 0 + 0 ≤ _)⟩)
              dsimp only [Pt.U, Pt.locs, Pt.cells, Pt.slots] at X118 l118 y118 z118 st118 hQ118
              subst l118 y118 z118
              obtain ⟨rfl, Nq118, Heq118⟩ := hQ118
              have N118 := Fr.app N0 Nq118
              obtain ⟨fs, hr, hrun, hended, hW, hsame⟩ := X118.leave (v := some (.int (nar .boolean (own_keeps p3)))) (fun h => by rw [Bd.returns] at h; cases h)
              refine ⟨_, _, pre116 _ ?_, hrun, hended, _, _, rfl, ?_, ⟨_, rfl⟩, hW, hsame.mono (by decide) (by decide)⟩
              · skip
                show Steps p.tables e below (s₁.setTop (mkF m 61 #[.val (.int p1), .val (.int p2), .val (.int p3)] [(.int (35 : Int32)), (.int p2)])) _
                refine XS.icmpYes X0.here hx rfl (pc0 := 61) (pc' := 66) rfl (hb hby d2_61) rfl (feq (hc61_117 : ¬ (p2 = (35 : Int32)))).2 (by decide) (by decide) ?_
                show Steps p.tables e below (s₁.setTop (mkF m 66 #[.val (.int p1), .val (.int p2), .val (.int p3)] [])) _
                refine XS.iloadN X0.here hx rfl (hb hby d2_66) rfl ?_
                show Steps p.tables e below (s₁.setTop (mkF m 67 #[.val (.int p1), .val (.int p2), .val (.int p3)] [(.int p3)])) _
                refine st118 _ ?_
                show Steps p.tables e below (T118.setTop (mkF m 70 #[.val (.int p1), .val (.int p2), .val (.int p3)] [(.int (own_keeps p3))])) _
                exact retN X118 hx (t := .boolean) Bd.returns (by simp) (hb hby d2_70) hr
              · show Q2 Z p1 p2 p3 h0 n0 _ T118.heap _
                rw [Heq118]
                exact ⟨(by simp only [own_open, own_nark, eq_false hc1_102, eq_false hc8_104, eq_false hc19_107, eq_false hc37_111, eq_false hc55_115, eq_false hc61_117, if_true, if_false]), N118, rfl⟩
theorem d1_0 : decode method_2_code 0 = .ok (.bipush 8, 2) := by decide +kernel
theorem d1_2 : decode method_2_code 2 = .ok (.newarray .char, 2) := by decide +kernel
theorem d1_4 : decode method_2_code 4 = .ok (.dup, 1) := by decide +kernel
theorem d1_5 : decode method_2_code 5 = .ok (.iconst 0, 1) := by decide +kernel
theorem d1_6 : decode method_2_code 6 = .ok (.bipush 10, 2) := by decide +kernel
theorem d1_8 : decode method_2_code 8 = .ok (.castore, 1) := by decide +kernel
theorem d1_9 : decode method_2_code 9 = .ok (.dup, 1) := by decide +kernel
theorem d1_10 : decode method_2_code 10 = .ok (.iconst 1, 1) := by decide +kernel
theorem d1_11 : decode method_2_code 11 = .ok (.bipush 39, 2) := by decide +kernel
theorem d1_13 : decode method_2_code 13 = .ok (.castore, 1) := by decide +kernel
theorem d1_14 : decode method_2_code 14 = .ok (.dup, 1) := by decide +kernel
theorem d1_15 : decode method_2_code 15 = .ok (.iconst 2, 1) := by decide +kernel
theorem d1_16 : decode method_2_code 16 = .ok (.bipush 34, 2) := by decide +kernel
theorem d1_18 : decode method_2_code 18 = .ok (.castore, 1) := by decide +kernel
theorem d1_19 : decode method_2_code 19 = .ok (.dup, 1) := by decide +kernel
theorem d1_20 : decode method_2_code 20 = .ok (.iconst 3, 1) := by decide +kernel
theorem d1_21 : decode method_2_code 21 = .ok (.bipush 92, 2) := by decide +kernel
theorem d1_23 : decode method_2_code 23 = .ok (.castore, 1) := by decide +kernel
theorem d1_24 : decode method_2_code 24 = .ok (.dup, 1) := by decide +kernel
theorem d1_25 : decode method_2_code 25 = .ok (.iconst 4, 1) := by decide +kernel
theorem d1_26 : decode method_2_code 26 = .ok (.bipush 35, 2) := by decide +kernel
theorem d1_28 : decode method_2_code 28 = .ok (.castore, 1) := by decide +kernel
theorem d1_29 : decode method_2_code 29 = .ok (.dup, 1) := by decide +kernel
theorem d1_30 : decode method_2_code 30 = .ok (.iconst 5, 1) := by decide +kernel
theorem d1_31 : decode method_2_code 31 = .ok (.bipush 32, 2) := by decide +kernel
theorem d1_33 : decode method_2_code 33 = .ok (.castore, 1) := by decide +kernel
theorem d1_34 : decode method_2_code 34 = .ok (.dup, 1) := by decide +kernel
theorem d1_35 : decode method_2_code 35 = .ok (.bipush 6, 2) := by decide +kernel
theorem d1_37 : decode method_2_code 37 = .ok (.bipush 9, 2) := by decide +kernel
theorem d1_39 : decode method_2_code 39 = .ok (.castore, 1) := by decide +kernel
theorem d1_40 : decode method_2_code 40 = .ok (.dup, 1) := by decide +kernel
theorem d1_41 : decode method_2_code 41 = .ok (.bipush 7, 2) := by decide +kernel
theorem d1_43 : decode method_2_code 43 = .ok (.bipush 97, 2) := by decide +kernel
theorem d1_45 : decode method_2_code 45 = .ok (.castore, 1) := by decide +kernel
theorem d1_46 : decode method_2_code 46 = .ok (.astore_n 1, 1) := by decide +kernel
theorem d1_47 : decode method_2_code 47 = .ok (.iload_n 0, 1) := by decide +kernel
theorem d1_48 : decode method_2_code 48 = .ok (.bipush 15, 2) := by decide +kernel
theorem d1_50 : decode method_2_code 50 = .ok (.iand, 1) := by decide +kernel
theorem d1_51 : decode method_2_code 51 = .ok (.istore_n 2, 1) := by decide +kernel
theorem d1_52 : decode method_2_code 52 = .ok (.iload_n 2, 1) := by decide +kernel
theorem d1_53 : decode method_2_code 53 = .ok (.bipush 8, 2) := by decide +kernel
theorem d1_55 : decode method_2_code 55 = .ok (.if_icmp .ge 9, 3) := by decide +kernel
theorem d1_58 : decode method_2_code 58 = .ok (.aload_n 1, 1) := by decide +kernel
theorem d1_59 : decode method_2_code 59 = .ok (.iload_n 2, 1) := by decide +kernel
theorem d1_60 : decode method_2_code 60 = .ok (.caload, 1) := by decide +kernel
theorem d1_61 : decode method_2_code 61 = .ok (.goto 7, 3) := by decide +kernel
theorem d1_68 : decode method_2_code 68 = .ok (.istore_n 3, 1) := by decide +kernel
theorem d1_69 : decode method_2_code 69 = .ok (.iload_n 3, 1) := by decide +kernel
theorem d1_70 : decode method_2_code 70 = .ok (.bipush 59, 2) := by decide +kernel
theorem d1_72 : decode method_2_code 72 = .ok (.if_icmp .ne 8, 3) := by decide +kernel
theorem d1_75 : decode method_2_code 75 = .ok (.bipush 98, 2) := by decide +kernel
theorem d1_77 : decode method_2_code 77 = .ok (.goto 4, 3) := by decide +kernel
theorem d1_81 : decode method_2_code 81 = .ok (.ireturn, 1) := by decide +kernel
theorem d1_80 : decode method_2_code 80 = .ok (.iload_n 3, 1) := by decide +kernel
theorem d1_64 : decode method_2_code 64 = .ok (.iload_n 0, 1) := by decide +kernel
theorem d1_65 : decode method_2_code 65 = .ok (.iconst 4, 1) := by decide +kernel
theorem d1_66 : decode method_2_code 66 = .ok (.iushr, 1) := by decide +kernel
theorem d1_67 : decode method_2_code 67 = .ok (.i2c, 1) := by decide +kernel
theorem ef_1 (m : MethodId) (p1 : Int32) : entryFrame m #[(.int p1)] 4 = mkF m 0 #[.val (.int p1), .unset, .unset, .unset] [] := by first | (simp [entryFrame, mkF, argsToLocals, Value.category]; done) | rfl
def Q1 (Z : State) (p1 : Int32) (h0 : Heap) (n0 : Nat) (v : Option Value) (h : Heap) (L : List Loc) : Prop := ∃ (c : Int32), v = some (.int c) ∧ Fr n0 L ∧ Keep h0 h [] ∧ ¬ (c = (59 : Int32))
set_option maxRecDepth 65536 in
set_option maxHeartbeats 40000000 in
theorem rm1 (l : Launch) (Z : State) (a0 : Array Value) (hw : ∀ d ∈ tables_1, d.before a0 Z = true) (ws : List Jvm.Cond) (p1 : Int32) (h0 : Heap) (n0 : Nat) (Z0 : n0 ≤ h0.size) :
    MetFree l (⟨"com/example/rouse/rouse/shell/ShellWordsContinuesPinLaw", "draw", "(I)C"⟩ : MethodName) (head1 (Jvm.Cond.code (⟨"com/example/rouse/rouse/shell/ShellWordsContinuesPinLaw", "draw", "(I)C"⟩ : MethodName) method_2_code 4 (some .char) :: ws) ({ frames := 0, cells := 1, slots := 8, locals := 0 } : Room)) (fun a U => a = #[(.int p1)] ∧ Z.Warmed39 U.vm ∧ U.heap = h0) (fun _ _ _ _ _ => True) (fun _ U o U' => ∃ v L, o = .returned v ∧ Q1 Z p1 h0 n0 v U'.heap L ∧ FrameEnd U o U' L ({ frames := 0, cells := 1, slots := 8, locals := 0 } : Room).cells ({ frames := 0, cells := 1, slots := 8, locals := 0 } : Room).slots) := by
  refine MetFree.of_bodySF (plainFor_of_name pn_com_example_rouse_rouse_shell_ShellWordsContinuesPinLaw) hisR ?_
  intro p e s m args below meth c s₁ Bd hml0 hP hK
  obtain ⟨rfl, hZ, hh⟩ := hP
  have hx := Bd.exec
  have hby := Bd.bytes
  have hml : c.maxLocals = 4 := hml0
  have hown : s.vm.findClass "com/example/rouse/rouse/shell/ShellWordsContinuesPinLaw" = some m.cls := findClass_of_methodNamed Bd.named
  have hnm := (name_of_methodNamed Bd.named Bd.method).1
  have X0 : Stand p l e ({ frames := 0, cells := 1, slots := 8, locals := 0 } : Room) s m #[(.int p1)] below meth c s₁ [] 0 0 := Stand.of_body Bd
  have e0 : s₁.heap = h0 := by rw [← hh, Bd.state]; rfl
  have N0 := Fr.nil n0
  have pre0 : ∀ t, Steps p.tables e below (s₁.setTop (mkF m 0 #[.val (.int p1), .unset, .unset, .unset] [])) t → Steps p.tables e below (s₁.setTop (entryFrame m #[(.int p1)] 4)) t := fun t k => castTop (ef_1 m p1) k
  obtain ⟨T101, h101, k101, X101, e101, E101, A101, Qe101, st101⟩ := newPE X0 hx hZ (hw _ (List.mem_of_getElem? (i := 4) rfl)) e0 (g := (mkF m 2 #[.val (.int p1), .unset, .unset, .unset] [(.int (8 : Int32))])) rfl (hb hby d1_2) rfl (by decide) (cap := 8) (by decide) (by decide) (by decide) (by decide) (ad := "[C") (by decide)
  obtain ⟨b101, g101⟩ : ∃ z, z = h0.size := ⟨_, rfl⟩
  rw [← g101] at A101 Qe101 st101
  have V101 : Arv Z h101 b101 k101 .char (8 : Int32) [(.int (0 : Int32)), (.int (0 : Int32)), (.int (0 : Int32)), (.int (0 : Int32)), (.int (0 : Int32)), (.int (0 : Int32)), (.int (0 : Int32)), (.int (0 : Int32))] (.int (0 : Int32)) := (Arv.new A101 (by decide)).pad (pad_rep [] (.int (0 : Int32)) 8)
  obtain ⟨cl102, Ar102, qc102, S102, M102, Hh102, G102⟩ := id V101
  have hin102 : ¬ ((0 : Int32) < 0 ∨ cl102.slots.size ≤ ((0 : Int32)).toNatClampNeg) := inb_of S102 ⟨by decide, by decide⟩
  obtain ⟨T102, h102, X102, e102, W102, st102⟩ := stC X101 hx hZ e101 Ar102 (j := (0 : Int32)) hin102 (g := (mkF m 8 #[.val (.int p1), .unset, .unset, .unset] [(.int (10 : Int32)), (.int (0 : Int32)), (.ref b101), (.ref b101)])) rfl rfl (hb hby d1_8)
  rw [show nar .char (10 : Int32) = (10 : Int32) from by decide] at W102
  have V102 : Arv Z h102 b101 k101 .char (8 : Int32) [(.int (10 : Int32)), (.int (0 : Int32)), (.int (0 : Int32)), (.int (0 : Int32)), (.int (0 : Int32)), (.int (0 : Int32)), (.int (0 : Int32)), (.int (0 : Int32))] (.int (0 : Int32)) := Arv.set Ar102 qc102 S102 M102 Hh102 G102 (by decide) W102 0 rfl (by first | decide | (simp; done))
  have g103 : n0 ≤ b101 := Nat.le_trans Z0 (Nat.le_of_eq g101.symm)
  have N102 := Fr.snoc X102 N0 g103
  obtain ⟨cl104, Ar104, qc104, S104, M104, Hh104, G104⟩ := id V102
  have hin104 : ¬ ((1 : Int32) < 0 ∨ cl104.slots.size ≤ ((1 : Int32)).toNatClampNeg) := inb_of S104 ⟨by decide, by decide⟩
  obtain ⟨T104, h104, X104, e104, W104, st104⟩ := stC X102 hx hZ e102 Ar104 (j := (1 : Int32)) hin104 (g := (mkF m 13 #[.val (.int p1), .unset, .unset, .unset] [(.int (39 : Int32)), (.int (1 : Int32)), (.ref b101), (.ref b101)])) rfl rfl (hb hby d1_13)
  rw [show nar .char (39 : Int32) = (39 : Int32) from by decide] at W104
  have V104 : Arv Z h104 b101 k101 .char (8 : Int32) [(.int (10 : Int32)), (.int (39 : Int32)), (.int (0 : Int32)), (.int (0 : Int32)), (.int (0 : Int32)), (.int (0 : Int32)), (.int (0 : Int32)), (.int (0 : Int32))] (.int (0 : Int32)) := Arv.set Ar104 qc104 S104 M104 Hh104 G104 (by decide) W104 1 rfl (by first | decide | (simp; done))
  have N104 := Fr.snoc X104 N102 g103
  obtain ⟨cl105, Ar105, qc105, S105, M105, Hh105, G105⟩ := id V104
  have hin105 : ¬ ((2 : Int32) < 0 ∨ cl105.slots.size ≤ ((2 : Int32)).toNatClampNeg) := inb_of S105 ⟨by decide, by decide⟩
  obtain ⟨T105, h105, X105, e105, W105, st105⟩ := stC X104 hx hZ e104 Ar105 (j := (2 : Int32)) hin105 (g := (mkF m 18 #[.val (.int p1), .unset, .unset, .unset] [(.int (34 : Int32)), (.int (2 : Int32)), (.ref b101), (.ref b101)])) rfl rfl (hb hby d1_18)
  rw [show nar .char (34 : Int32) = (34 : Int32) from by decide] at W105
  have V105 : Arv Z h105 b101 k101 .char (8 : Int32) [(.int (10 : Int32)), (.int (39 : Int32)), (.int (34 : Int32)), (.int (0 : Int32)), (.int (0 : Int32)), (.int (0 : Int32)), (.int (0 : Int32)), (.int (0 : Int32))] (.int (0 : Int32)) := Arv.set Ar105 qc105 S105 M105 Hh105 G105 (by decide) W105 2 rfl (by first | decide | (simp; done))
  have N105 := Fr.snoc X105 N104 g103
  obtain ⟨cl106, Ar106, qc106, S106, M106, Hh106, G106⟩ := id V105
  have hin106 : ¬ ((3 : Int32) < 0 ∨ cl106.slots.size ≤ ((3 : Int32)).toNatClampNeg) := inb_of S106 ⟨by decide, by decide⟩
  obtain ⟨T106, h106, X106, e106, W106, st106⟩ := stC X105 hx hZ e105 Ar106 (j := (3 : Int32)) hin106 (g := (mkF m 23 #[.val (.int p1), .unset, .unset, .unset] [(.int (92 : Int32)), (.int (3 : Int32)), (.ref b101), (.ref b101)])) rfl rfl (hb hby d1_23)
  rw [show nar .char (92 : Int32) = (92 : Int32) from by decide] at W106
  have V106 : Arv Z h106 b101 k101 .char (8 : Int32) [(.int (10 : Int32)), (.int (39 : Int32)), (.int (34 : Int32)), (.int (92 : Int32)), (.int (0 : Int32)), (.int (0 : Int32)), (.int (0 : Int32)), (.int (0 : Int32))] (.int (0 : Int32)) := Arv.set Ar106 qc106 S106 M106 Hh106 G106 (by decide) W106 3 rfl (by first | decide | (simp; done))
  have N106 := Fr.snoc X106 N105 g103
  obtain ⟨cl107, Ar107, qc107, S107, M107, Hh107, G107⟩ := id V106
  have hin107 : ¬ ((4 : Int32) < 0 ∨ cl107.slots.size ≤ ((4 : Int32)).toNatClampNeg) := inb_of S107 ⟨by decide, by decide⟩
  obtain ⟨T107, h107, X107, e107, W107, st107⟩ := stC X106 hx hZ e106 Ar107 (j := (4 : Int32)) hin107 (g := (mkF m 28 #[.val (.int p1), .unset, .unset, .unset] [(.int (35 : Int32)), (.int (4 : Int32)), (.ref b101), (.ref b101)])) rfl rfl (hb hby d1_28)
  rw [show nar .char (35 : Int32) = (35 : Int32) from by decide] at W107
  have V107 : Arv Z h107 b101 k101 .char (8 : Int32) [(.int (10 : Int32)), (.int (39 : Int32)), (.int (34 : Int32)), (.int (92 : Int32)), (.int (35 : Int32)), (.int (0 : Int32)), (.int (0 : Int32)), (.int (0 : Int32))] (.int (0 : Int32)) := Arv.set Ar107 qc107 S107 M107 Hh107 G107 (by decide) W107 4 rfl (by first | decide | (simp; done))
  have N107 := Fr.snoc X107 N106 g103
  obtain ⟨cl108, Ar108, qc108, S108, M108, Hh108, G108⟩ := id V107
  have hin108 : ¬ ((5 : Int32) < 0 ∨ cl108.slots.size ≤ ((5 : Int32)).toNatClampNeg) := inb_of S108 ⟨by decide, by decide⟩
  obtain ⟨T108, h108, X108, e108, W108, st108⟩ := stC X107 hx hZ e107 Ar108 (j := (5 : Int32)) hin108 (g := (mkF m 33 #[.val (.int p1), .unset, .unset, .unset] [(.int (32 : Int32)), (.int (5 : Int32)), (.ref b101), (.ref b101)])) rfl rfl (hb hby d1_33)
  rw [show nar .char (32 : Int32) = (32 : Int32) from by decide] at W108
  have V108 : Arv Z h108 b101 k101 .char (8 : Int32) [(.int (10 : Int32)), (.int (39 : Int32)), (.int (34 : Int32)), (.int (92 : Int32)), (.int (35 : Int32)), (.int (32 : Int32)), (.int (0 : Int32)), (.int (0 : Int32))] (.int (0 : Int32)) := Arv.set Ar108 qc108 S108 M108 Hh108 G108 (by decide) W108 5 rfl (by first | decide | (simp; done))
  have N108 := Fr.snoc X108 N107 g103
  obtain ⟨cl109, Ar109, qc109, S109, M109, Hh109, G109⟩ := id V108
  have hin109 : ¬ ((6 : Int32) < 0 ∨ cl109.slots.size ≤ ((6 : Int32)).toNatClampNeg) := inb_of S109 ⟨by decide, by decide⟩
  obtain ⟨T109, h109, X109, e109, W109, st109⟩ := stC X108 hx hZ e108 Ar109 (j := (6 : Int32)) hin109 (g := (mkF m 39 #[.val (.int p1), .unset, .unset, .unset] [(.int (9 : Int32)), (.int (6 : Int32)), (.ref b101), (.ref b101)])) rfl rfl (hb hby d1_39)
  rw [show nar .char (9 : Int32) = (9 : Int32) from by decide] at W109
  have V109 : Arv Z h109 b101 k101 .char (8 : Int32) [(.int (10 : Int32)), (.int (39 : Int32)), (.int (34 : Int32)), (.int (92 : Int32)), (.int (35 : Int32)), (.int (32 : Int32)), (.int (9 : Int32)), (.int (0 : Int32))] (.int (0 : Int32)) := Arv.set Ar109 qc109 S109 M109 Hh109 G109 (by decide) W109 6 rfl (by first | decide | (simp; done))
  have N109 := Fr.snoc X109 N108 g103
  obtain ⟨cl110, Ar110, qc110, S110, M110, Hh110, G110⟩ := id V109
  have hin110 : ¬ ((7 : Int32) < 0 ∨ cl110.slots.size ≤ ((7 : Int32)).toNatClampNeg) := inb_of S110 ⟨by decide, by decide⟩
  obtain ⟨T110, h110, X110, e110, W110, st110⟩ := stC X109 hx hZ e109 Ar110 (j := (7 : Int32)) hin110 (g := (mkF m 45 #[.val (.int p1), .unset, .unset, .unset] [(.int (97 : Int32)), (.int (7 : Int32)), (.ref b101), (.ref b101)])) rfl rfl (hb hby d1_45)
  rw [show nar .char (97 : Int32) = (97 : Int32) from by decide] at W110
  have V110 : Arv Z h110 b101 k101 .char (8 : Int32) [(.int (10 : Int32)), (.int (39 : Int32)), (.int (34 : Int32)), (.int (92 : Int32)), (.int (35 : Int32)), (.int (32 : Int32)), (.int (9 : Int32)), (.int (97 : Int32))] (.int (0 : Int32)) := Arv.set Ar110 qc110 S110 M110 Hh110 G110 (by decide) W110 7 rfl (by first | decide | (simp; done))
  have N110 := Fr.snoc X110 N109 g103
  have pre111 : ∀ t, Steps p.tables e below (T110.setTop (mkF m 55 #[.val (.int p1), .val (.ref b101), .val (.int (p1 &&& (15 : Int32))), .unset] [(.int (8 : Int32)), (.int (p1 &&& (15 : Int32)))])) t → Steps p.tables e below (s₁.setTop (entryFrame m #[(.int p1)] 4)) t := fun t kt => by
    refine pre0 t ?_
    show Steps p.tables e below (s₁.setTop (mkF m 0 #[.val (.int p1), .unset, .unset, .unset] [])) _
    refine XS.bipush X0.here hx rfl (hb hby d1_0) ?_
    show Steps p.tables e below (s₁.setTop (mkF m 2 #[.val (.int p1), .unset, .unset, .unset] [(.int (8 : Int32))])) _
    refine st101 _ ?_
    show Steps p.tables e below (T101.setTop (mkF m 4 #[.val (.int p1), .unset, .unset, .unset] [(.ref b101)])) _
    refine XS.dup X101.here hx rfl (hb hby d1_4) rfl rfl ?_
    show Steps p.tables e below (T101.setTop (mkF m 5 #[.val (.int p1), .unset, .unset, .unset] [(.ref b101), (.ref b101)])) _
    refine XS.iconst X101.here hx rfl (hb hby d1_5) ?_
    show Steps p.tables e below (T101.setTop (mkF m 6 #[.val (.int p1), .unset, .unset, .unset] [(.int (0 : Int32)), (.ref b101), (.ref b101)])) _
    refine XS.bipush X101.here hx rfl (hb hby d1_6) ?_
    show Steps p.tables e below (T101.setTop (mkF m 8 #[.val (.int p1), .unset, .unset, .unset] [(.int (10 : Int32)), (.int (0 : Int32)), (.ref b101), (.ref b101)])) _
    refine st102 _ ?_
    show Steps p.tables e below (T102.setTop (mkF m 9 #[.val (.int p1), .unset, .unset, .unset] [(.ref b101)])) _
    refine XS.dup X102.here hx rfl (hb hby d1_9) rfl rfl ?_
    show Steps p.tables e below (T102.setTop (mkF m 10 #[.val (.int p1), .unset, .unset, .unset] [(.ref b101), (.ref b101)])) _
    refine XS.iconst X102.here hx rfl (hb hby d1_10) ?_
    show Steps p.tables e below (T102.setTop (mkF m 11 #[.val (.int p1), .unset, .unset, .unset] [(.int (1 : Int32)), (.ref b101), (.ref b101)])) _
    refine XS.bipush X102.here hx rfl (hb hby d1_11) ?_
    show Steps p.tables e below (T102.setTop (mkF m 13 #[.val (.int p1), .unset, .unset, .unset] [(.int (39 : Int32)), (.int (1 : Int32)), (.ref b101), (.ref b101)])) _
    refine st104 _ ?_
    show Steps p.tables e below (T104.setTop (mkF m 14 #[.val (.int p1), .unset, .unset, .unset] [(.ref b101)])) _
    refine XS.dup X104.here hx rfl (hb hby d1_14) rfl rfl ?_
    show Steps p.tables e below (T104.setTop (mkF m 15 #[.val (.int p1), .unset, .unset, .unset] [(.ref b101), (.ref b101)])) _
    refine XS.iconst X104.here hx rfl (hb hby d1_15) ?_
    show Steps p.tables e below (T104.setTop (mkF m 16 #[.val (.int p1), .unset, .unset, .unset] [(.int (2 : Int32)), (.ref b101), (.ref b101)])) _
    refine XS.bipush X104.here hx rfl (hb hby d1_16) ?_
    show Steps p.tables e below (T104.setTop (mkF m 18 #[.val (.int p1), .unset, .unset, .unset] [(.int (34 : Int32)), (.int (2 : Int32)), (.ref b101), (.ref b101)])) _
    refine st105 _ ?_
    show Steps p.tables e below (T105.setTop (mkF m 19 #[.val (.int p1), .unset, .unset, .unset] [(.ref b101)])) _
    refine XS.dup X105.here hx rfl (hb hby d1_19) rfl rfl ?_
    show Steps p.tables e below (T105.setTop (mkF m 20 #[.val (.int p1), .unset, .unset, .unset] [(.ref b101), (.ref b101)])) _
    refine XS.iconst X105.here hx rfl (hb hby d1_20) ?_
    show Steps p.tables e below (T105.setTop (mkF m 21 #[.val (.int p1), .unset, .unset, .unset] [(.int (3 : Int32)), (.ref b101), (.ref b101)])) _
    refine XS.bipush X105.here hx rfl (hb hby d1_21) ?_
    show Steps p.tables e below (T105.setTop (mkF m 23 #[.val (.int p1), .unset, .unset, .unset] [(.int (92 : Int32)), (.int (3 : Int32)), (.ref b101), (.ref b101)])) _
    refine st106 _ ?_
    show Steps p.tables e below (T106.setTop (mkF m 24 #[.val (.int p1), .unset, .unset, .unset] [(.ref b101)])) _
    refine XS.dup X106.here hx rfl (hb hby d1_24) rfl rfl ?_
    show Steps p.tables e below (T106.setTop (mkF m 25 #[.val (.int p1), .unset, .unset, .unset] [(.ref b101), (.ref b101)])) _
    refine XS.iconst X106.here hx rfl (hb hby d1_25) ?_
    show Steps p.tables e below (T106.setTop (mkF m 26 #[.val (.int p1), .unset, .unset, .unset] [(.int (4 : Int32)), (.ref b101), (.ref b101)])) _
    refine XS.bipush X106.here hx rfl (hb hby d1_26) ?_
    show Steps p.tables e below (T106.setTop (mkF m 28 #[.val (.int p1), .unset, .unset, .unset] [(.int (35 : Int32)), (.int (4 : Int32)), (.ref b101), (.ref b101)])) _
    refine st107 _ ?_
    show Steps p.tables e below (T107.setTop (mkF m 29 #[.val (.int p1), .unset, .unset, .unset] [(.ref b101)])) _
    refine XS.dup X107.here hx rfl (hb hby d1_29) rfl rfl ?_
    show Steps p.tables e below (T107.setTop (mkF m 30 #[.val (.int p1), .unset, .unset, .unset] [(.ref b101), (.ref b101)])) _
    refine XS.iconst X107.here hx rfl (hb hby d1_30) ?_
    show Steps p.tables e below (T107.setTop (mkF m 31 #[.val (.int p1), .unset, .unset, .unset] [(.int (5 : Int32)), (.ref b101), (.ref b101)])) _
    refine XS.bipush X107.here hx rfl (hb hby d1_31) ?_
    show Steps p.tables e below (T107.setTop (mkF m 33 #[.val (.int p1), .unset, .unset, .unset] [(.int (32 : Int32)), (.int (5 : Int32)), (.ref b101), (.ref b101)])) _
    refine st108 _ ?_
    show Steps p.tables e below (T108.setTop (mkF m 34 #[.val (.int p1), .unset, .unset, .unset] [(.ref b101)])) _
    refine XS.dup X108.here hx rfl (hb hby d1_34) rfl rfl ?_
    show Steps p.tables e below (T108.setTop (mkF m 35 #[.val (.int p1), .unset, .unset, .unset] [(.ref b101), (.ref b101)])) _
    refine XS.bipush X108.here hx rfl (hb hby d1_35) ?_
    show Steps p.tables e below (T108.setTop (mkF m 37 #[.val (.int p1), .unset, .unset, .unset] [(.int (6 : Int32)), (.ref b101), (.ref b101)])) _
    refine XS.bipush X108.here hx rfl (hb hby d1_37) ?_
    show Steps p.tables e below (T108.setTop (mkF m 39 #[.val (.int p1), .unset, .unset, .unset] [(.int (9 : Int32)), (.int (6 : Int32)), (.ref b101), (.ref b101)])) _
    refine st109 _ ?_
    show Steps p.tables e below (T109.setTop (mkF m 40 #[.val (.int p1), .unset, .unset, .unset] [(.ref b101)])) _
    refine XS.dup X109.here hx rfl (hb hby d1_40) rfl rfl ?_
    show Steps p.tables e below (T109.setTop (mkF m 41 #[.val (.int p1), .unset, .unset, .unset] [(.ref b101), (.ref b101)])) _
    refine XS.bipush X109.here hx rfl (hb hby d1_41) ?_
    show Steps p.tables e below (T109.setTop (mkF m 43 #[.val (.int p1), .unset, .unset, .unset] [(.int (7 : Int32)), (.ref b101), (.ref b101)])) _
    refine XS.bipush X109.here hx rfl (hb hby d1_43) ?_
    show Steps p.tables e below (T109.setTop (mkF m 45 #[.val (.int p1), .unset, .unset, .unset] [(.int (97 : Int32)), (.int (7 : Int32)), (.ref b101), (.ref b101)])) _
    refine st110 _ ?_
    show Steps p.tables e below (T110.setTop (mkF m 46 #[.val (.int p1), .unset, .unset, .unset] [(.ref b101)])) _
    refine XS.astoreN X110.here hx rfl (hb hby d1_46) rfl rfl (l' := #[.val (.int p1), .val (.ref b101), .unset, .unset]) rfl ?_
    show Steps p.tables e below (T110.setTop (mkF m 47 #[.val (.int p1), .val (.ref b101), .unset, .unset] [])) _
    refine XS.iloadN X110.here hx rfl (hb hby d1_47) rfl ?_
    show Steps p.tables e below (T110.setTop (mkF m 48 #[.val (.int p1), .val (.ref b101), .unset, .unset] [(.int p1)])) _
    refine XS.bipush X110.here hx rfl (hb hby d1_48) ?_
    show Steps p.tables e below (T110.setTop (mkF m 50 #[.val (.int p1), .val (.ref b101), .unset, .unset] [(.int (15 : Int32)), (.int p1)])) _
    refine XS.iand X110.here hx rfl (hb hby d1_50) rfl ?_
    show Steps p.tables e below (T110.setTop (mkF m 51 #[.val (.int p1), .val (.ref b101), .unset, .unset] [(.int (p1 &&& (15 : Int32)))])) _
    refine XS.istoreN X110.here hx rfl (hb hby d1_51) rfl (l' := #[.val (.int p1), .val (.ref b101), .val (.int (p1 &&& (15 : Int32))), .unset]) rfl ?_
    show Steps p.tables e below (T110.setTop (mkF m 52 #[.val (.int p1), .val (.ref b101), .val (.int (p1 &&& (15 : Int32))), .unset] [])) _
    refine XS.iloadN X110.here hx rfl (hb hby d1_52) rfl ?_
    show Steps p.tables e below (T110.setTop (mkF m 53 #[.val (.int p1), .val (.ref b101), .val (.int (p1 &&& (15 : Int32))), .unset] [(.int (p1 &&& (15 : Int32)))])) _
    refine XS.bipush X110.here hx rfl (hb hby d1_53) ?_
    show Steps p.tables e below (T110.setTop (mkF m 55 #[.val (.int p1), .val (.ref b101), .val (.int (p1 &&& (15 : Int32))), .unset] [(.int (8 : Int32)), (.int (p1 &&& (15 : Int32)))])) _
    exact kt
  by_cases hc55_112 : (p1 &&& (15 : Int32)) < (8 : Int32)
  · skip
    obtain ⟨cl113, Ar113, qc113, S113, M113, Hh113, G113⟩ := id V110
    have hin113 : ¬ ((p1 &&& (15 : Int32)) < 0 ∨ cl113.slots.size ≤ ((p1 &&& (15 : Int32))).toNatClampNeg) := inb_of S113 ⟨own_m15 _, hc55_112⟩
    have pre114 : ∀ t, Steps p.tables e below (T110.setTop (mkF m 72 #[.val (.int p1), .val (.ref b101), .val (.int (p1 &&& (15 : Int32))), .val (.int (own_tab (p1 &&& (15 : Int32))))] [(.int (59 : Int32)), (.int (own_tab (p1 &&& (15 : Int32))))])) t → Steps p.tables e below (s₁.setTop (entryFrame m #[(.int p1)] 4)) t := fun t kt => by
      refine pre111 t ?_
      show Steps p.tables e below (T110.setTop (mkF m 55 #[.val (.int p1), .val (.ref b101), .val (.int (p1 &&& (15 : Int32))), .unset] [(.int (8 : Int32)), (.int (p1 &&& (15 : Int32)))])) _
      refine XS.icmpNo X110.here hx rfl (hb hby d1_55) rfl (tlt (hc55_112 : (p1 &&& (15 : Int32)) < (8 : Int32))).2.1 ?_
      show Steps p.tables e below (T110.setTop (mkF m 58 #[.val (.int p1), .val (.ref b101), .val (.int (p1 &&& (15 : Int32))), .unset] [])) _
      refine XS.aloadN X110.here hx rfl (hb hby d1_58) rfl rfl ?_
      show Steps p.tables e below (T110.setTop (mkF m 59 #[.val (.int p1), .val (.ref b101), .val (.int (p1 &&& (15 : Int32))), .unset] [(.ref b101)])) _
      refine XS.iloadN X110.here hx rfl (hb hby d1_59) rfl ?_
      show Steps p.tables e below (T110.setTop (mkF m 60 #[.val (.int p1), .val (.ref b101), .val (.int (p1 &&& (15 : Int32))), .unset] [(.int (p1 &&& (15 : Int32))), (.ref b101)])) _
      refine X110.caload hx (j := (p1 &&& (15 : Int32))) (v := (.int (own_tab (p1 &&& (15 : Int32))))) (by rw [e110]; exact Ar113.1) (State.isArrayOf_alike hZ.alike Ar113.2.1) Ar113.2.2 hin113 (Hh113.at hin113 (own_tabv (own_m15 _) hc55_112)) (g := (mkF m 60 #[.val (.int p1), .val (.ref b101), .val (.int (p1 &&& (15 : Int32))), .unset] [(.int (p1 &&& (15 : Int32))), (.ref b101)])) rfl rfl (hb hby d1_60) _ ?_
      show Steps p.tables e below (T110.setTop (mkF m 61 #[.val (.int p1), .val (.ref b101), .val (.int (p1 &&& (15 : Int32))), .unset] [(.int (own_tab (p1 &&& (15 : Int32))))])) _
      refine XS.goto X110.here hx rfl (pc0 := 61) (pc' := 68) rfl (hb hby d1_61) (by decide) (by decide) ?_
      show Steps p.tables e below (T110.setTop (mkF m 68 #[.val (.int p1), .val (.ref b101), .val (.int (p1 &&& (15 : Int32))), .unset] [(.int (own_tab (p1 &&& (15 : Int32))))])) _
      refine XS.istoreN X110.here hx rfl (hb hby d1_68) rfl (l' := #[.val (.int p1), .val (.ref b101), .val (.int (p1 &&& (15 : Int32))), .val (.int (own_tab (p1 &&& (15 : Int32))))]) rfl ?_
      show Steps p.tables e below (T110.setTop (mkF m 69 #[.val (.int p1), .val (.ref b101), .val (.int (p1 &&& (15 : Int32))), .val (.int (own_tab (p1 &&& (15 : Int32))))] [])) _
      refine XS.iloadN X110.here hx rfl (hb hby d1_69) rfl ?_
      show Steps p.tables e below (T110.setTop (mkF m 70 #[.val (.int p1), .val (.ref b101), .val (.int (p1 &&& (15 : Int32))), .val (.int (own_tab (p1 &&& (15 : Int32))))] [(.int (own_tab (p1 &&& (15 : Int32))))])) _
      refine XS.bipush X110.here hx rfl (hb hby d1_70) ?_
      show Steps p.tables e below (T110.setTop (mkF m 72 #[.val (.int p1), .val (.ref b101), .val (.int (p1 &&& (15 : Int32))), .val (.int (own_tab (p1 &&& (15 : Int32))))] [(.int (59 : Int32)), (.int (own_tab (p1 &&& (15 : Int32))))])) _
      exact kt
    by_cases hc72_115 : (own_tab (p1 &&& (15 : Int32))) = (59 : Int32)
    · skip
      obtain ⟨fs, hr, hrun, hended, hW, hsame⟩ := X110.leave (v := some (.int (98 : Int32))) (fun h => by rw [Bd.returns] at h; cases h)
      refine ⟨_, _, pre114 _ ?_, hrun, hended, _, _, rfl, ?_, ⟨_, rfl⟩, hW, hsame.mono (by decide) (by decide)⟩
      · skip
        show Steps p.tables e below (T110.setTop (mkF m 72 #[.val (.int p1), .val (.ref b101), .val (.int (p1 &&& (15 : Int32))), .val (.int (own_tab (p1 &&& (15 : Int32))))] [(.int (59 : Int32)), (.int (own_tab (p1 &&& (15 : Int32))))])) _
        refine XS.icmpNo X110.here hx rfl (hb hby d1_72) rfl (teq (hc72_115 : (own_tab (p1 &&& (15 : Int32))) = (59 : Int32))).2 ?_
        show Steps p.tables e below (T110.setTop (mkF m 75 #[.val (.int p1), .val (.ref b101), .val (.int (p1 &&& (15 : Int32))), .val (.int (own_tab (p1 &&& (15 : Int32))))] [])) _
        refine XS.bipush X110.here hx rfl (hb hby d1_75) ?_
        show Steps p.tables e below (T110.setTop (mkF m 77 #[.val (.int p1), .val (.ref b101), .val (.int (p1 &&& (15 : Int32))), .val (.int (own_tab (p1 &&& (15 : Int32))))] [(.int (98 : Int32))])) _
        refine XS.goto X110.here hx rfl (pc0 := 77) (pc' := 81) rfl (hb hby d1_77) (by decide) (by decide) ?_
        show Steps p.tables e below (T110.setTop (mkF m 81 #[.val (.int p1), .val (.ref b101), .val (.int (p1 &&& (15 : Int32))), .val (.int (own_tab (p1 &&& (15 : Int32))))] [(.int (98 : Int32))])) _
        exact retN X110 hx (t := .char) Bd.returns (by simp) (hb hby d1_81) hr
      · show Q1 Z p1 h0 n0 _ T110.heap _
        rw [e110]
        exact ⟨(98 : Int32), rfl, N110, ((((((((((Keep.refl h0 []).ext E101).wr W102 (Or.inr (Nat.le_trans (Nat.le_refl _) (Nat.le_of_eq g101.symm)))).wr W104 (Or.inr (Nat.le_trans (Nat.le_refl _) (Nat.le_of_eq g101.symm)))).wr W105 (Or.inr (Nat.le_trans (Nat.le_refl _) (Nat.le_of_eq g101.symm)))).wr W106 (Or.inr (Nat.le_trans (Nat.le_refl _) (Nat.le_of_eq g101.symm)))).wr W107 (Or.inr (Nat.le_trans (Nat.le_refl _) (Nat.le_of_eq g101.symm)))).wr W108 (Or.inr (Nat.le_trans (Nat.le_refl _) (Nat.le_of_eq g101.symm)))).wr W109 (Or.inr (Nat.le_trans (Nat.le_refl _) (Nat.le_of_eq g101.symm)))).wr W110 (Or.inr (Nat.le_trans (Nat.le_refl _) (Nat.le_of_eq g101.symm)))), (by decide)⟩
    · skip
      obtain ⟨fs, hr, hrun, hended, hW, hsame⟩ := X110.leave (v := some (.int (nar .char (own_tab (p1 &&& (15 : Int32)))))) (fun h => by rw [Bd.returns] at h; cases h)
      refine ⟨_, _, pre114 _ ?_, hrun, hended, _, _, rfl, ?_, ⟨_, rfl⟩, hW, hsame.mono (by decide) (by decide)⟩
      · skip
        show Steps p.tables e below (T110.setTop (mkF m 72 #[.val (.int p1), .val (.ref b101), .val (.int (p1 &&& (15 : Int32))), .val (.int (own_tab (p1 &&& (15 : Int32))))] [(.int (59 : Int32)), (.int (own_tab (p1 &&& (15 : Int32))))])) _
        refine XS.icmpYes X110.here hx rfl (pc0 := 72) (pc' := 80) rfl (hb hby d1_72) rfl (feq (hc72_115 : ¬ ((own_tab (p1 &&& (15 : Int32))) = (59 : Int32)))).2 (by decide) (by decide) ?_
        show Steps p.tables e below (T110.setTop (mkF m 80 #[.val (.int p1), .val (.ref b101), .val (.int (p1 &&& (15 : Int32))), .val (.int (own_tab (p1 &&& (15 : Int32))))] [])) _
        refine XS.iloadN X110.here hx rfl (hb hby d1_80) rfl ?_
        show Steps p.tables e below (T110.setTop (mkF m 81 #[.val (.int p1), .val (.ref b101), .val (.int (p1 &&& (15 : Int32))), .val (.int (own_tab (p1 &&& (15 : Int32))))] [(.int (own_tab (p1 &&& (15 : Int32))))])) _
        exact retN X110 hx (t := .char) Bd.returns (by simp) (hb hby d1_81) hr
      · show Q1 Z p1 h0 n0 _ T110.heap _
        rw [e110]
        exact ⟨(own_tab (p1 &&& (15 : Int32))), (congrArg (fun z => some (Value.int z)) (own_tabc _)), N110, ((((((((((Keep.refl h0 []).ext E101).wr W102 (Or.inr (Nat.le_trans (Nat.le_refl _) (Nat.le_of_eq g101.symm)))).wr W104 (Or.inr (Nat.le_trans (Nat.le_refl _) (Nat.le_of_eq g101.symm)))).wr W105 (Or.inr (Nat.le_trans (Nat.le_refl _) (Nat.le_of_eq g101.symm)))).wr W106 (Or.inr (Nat.le_trans (Nat.le_refl _) (Nat.le_of_eq g101.symm)))).wr W107 (Or.inr (Nat.le_trans (Nat.le_refl _) (Nat.le_of_eq g101.symm)))).wr W108 (Or.inr (Nat.le_trans (Nat.le_refl _) (Nat.le_of_eq g101.symm)))).wr W109 (Or.inr (Nat.le_trans (Nat.le_refl _) (Nat.le_of_eq g101.symm)))).wr W110 (Or.inr (Nat.le_trans (Nat.le_refl _) (Nat.le_of_eq g101.symm)))), hc72_115⟩
  · skip
    have pre116 : ∀ t, Steps p.tables e below (T110.setTop (mkF m 72 #[.val (.int p1), .val (.ref b101), .val (.int (p1 &&& (15 : Int32))), .val (.int (((p1.toUInt32 >>> ((4 : Int32) &&& 31).toUInt32).toInt32).toUInt32.toUInt16.toUInt32.toInt32))] [(.int (59 : Int32)), (.int (((p1.toUInt32 >>> ((4 : Int32) &&& 31).toUInt32).toInt32).toUInt32.toUInt16.toUInt32.toInt32))])) t → Steps p.tables e below (s₁.setTop (entryFrame m #[(.int p1)] 4)) t := fun t kt => by
      refine pre111 t ?_
      show Steps p.tables e below (T110.setTop (mkF m 55 #[.val (.int p1), .val (.ref b101), .val (.int (p1 &&& (15 : Int32))), .unset] [(.int (8 : Int32)), (.int (p1 &&& (15 : Int32)))])) _
      refine XS.icmpYes X110.here hx rfl (pc0 := 55) (pc' := 64) rfl (hb hby d1_55) rfl (flt (hc55_112 : ¬ ((p1 &&& (15 : Int32)) < (8 : Int32)))).2.1 (by decide) (by decide) ?_
      show Steps p.tables e below (T110.setTop (mkF m 64 #[.val (.int p1), .val (.ref b101), .val (.int (p1 &&& (15 : Int32))), .unset] [])) _
      refine XS.iloadN X110.here hx rfl (hb hby d1_64) rfl ?_
      show Steps p.tables e below (T110.setTop (mkF m 65 #[.val (.int p1), .val (.ref b101), .val (.int (p1 &&& (15 : Int32))), .unset] [(.int p1)])) _
      refine XS.iconst X110.here hx rfl (hb hby d1_65) ?_
      show Steps p.tables e below (T110.setTop (mkF m 66 #[.val (.int p1), .val (.ref b101), .val (.int (p1 &&& (15 : Int32))), .unset] [(.int (4 : Int32)), (.int p1)])) _
      refine XS.iushr X110.here hx rfl (hb hby d1_66) rfl ?_
      show Steps p.tables e below (T110.setTop (mkF m 67 #[.val (.int p1), .val (.ref b101), .val (.int (p1 &&& (15 : Int32))), .unset] [(.int ((p1.toUInt32 >>> ((4 : Int32) &&& 31).toUInt32).toInt32))])) _
      refine XS.i2c X110.here hx rfl (hb hby d1_67) rfl ?_
      show Steps p.tables e below (T110.setTop (mkF m 68 #[.val (.int p1), .val (.ref b101), .val (.int (p1 &&& (15 : Int32))), .unset] [(.int (((p1.toUInt32 >>> ((4 : Int32) &&& 31).toUInt32).toInt32).toUInt32.toUInt16.toUInt32.toInt32))])) _
      refine XS.istoreN X110.here hx rfl (hb hby d1_68) rfl (l' := #[.val (.int p1), .val (.ref b101), .val (.int (p1 &&& (15 : Int32))), .val (.int (((p1.toUInt32 >>> ((4 : Int32) &&& 31).toUInt32).toInt32).toUInt32.toUInt16.toUInt32.toInt32))]) rfl ?_
      show Steps p.tables e below (T110.setTop (mkF m 69 #[.val (.int p1), .val (.ref b101), .val (.int (p1 &&& (15 : Int32))), .val (.int (((p1.toUInt32 >>> ((4 : Int32) &&& 31).toUInt32).toInt32).toUInt32.toUInt16.toUInt32.toInt32))] [])) _
      refine XS.iloadN X110.here hx rfl (hb hby d1_69) rfl ?_
      show Steps p.tables e below (T110.setTop (mkF m 70 #[.val (.int p1), .val (.ref b101), .val (.int (p1 &&& (15 : Int32))), .val (.int (((p1.toUInt32 >>> ((4 : Int32) &&& 31).toUInt32).toInt32).toUInt32.toUInt16.toUInt32.toInt32))] [(.int (((p1.toUInt32 >>> ((4 : Int32) &&& 31).toUInt32).toInt32).toUInt32.toUInt16.toUInt32.toInt32))])) _
      refine XS.bipush X110.here hx rfl (hb hby d1_70) ?_
      show Steps p.tables e below (T110.setTop (mkF m 72 #[.val (.int p1), .val (.ref b101), .val (.int (p1 &&& (15 : Int32))), .val (.int (((p1.toUInt32 >>> ((4 : Int32) &&& 31).toUInt32).toInt32).toUInt32.toUInt16.toUInt32.toInt32))] [(.int (59 : Int32)), (.int (((p1.toUInt32 >>> ((4 : Int32) &&& 31).toUInt32).toInt32).toUInt32.toUInt16.toUInt32.toInt32))])) _
      exact kt
    by_cases hc72_117 : (((p1.toUInt32 >>> ((4 : Int32) &&& 31).toUInt32).toInt32).toUInt32.toUInt16.toUInt32.toInt32) = (59 : Int32)
    · skip
      obtain ⟨fs, hr, hrun, hended, hW, hsame⟩ := X110.leave (v := some (.int (98 : Int32))) (fun h => by rw [Bd.returns] at h; cases h)
      refine ⟨_, _, pre116 _ ?_, hrun, hended, _, _, rfl, ?_, ⟨_, rfl⟩, hW, hsame.mono (by decide) (by decide)⟩
      · skip
        show Steps p.tables e below (T110.setTop (mkF m 72 #[.val (.int p1), .val (.ref b101), .val (.int (p1 &&& (15 : Int32))), .val (.int (((p1.toUInt32 >>> ((4 : Int32) &&& 31).toUInt32).toInt32).toUInt32.toUInt16.toUInt32.toInt32))] [(.int (59 : Int32)), (.int (((p1.toUInt32 >>> ((4 : Int32) &&& 31).toUInt32).toInt32).toUInt32.toUInt16.toUInt32.toInt32))])) _
        refine XS.icmpNo X110.here hx rfl (hb hby d1_72) rfl (teq (hc72_117 : (((p1.toUInt32 >>> ((4 : Int32) &&& 31).toUInt32).toInt32).toUInt32.toUInt16.toUInt32.toInt32) = (59 : Int32))).2 ?_
        show Steps p.tables e below (T110.setTop (mkF m 75 #[.val (.int p1), .val (.ref b101), .val (.int (p1 &&& (15 : Int32))), .val (.int (((p1.toUInt32 >>> ((4 : Int32) &&& 31).toUInt32).toInt32).toUInt32.toUInt16.toUInt32.toInt32))] [])) _
        refine XS.bipush X110.here hx rfl (hb hby d1_75) ?_
        show Steps p.tables e below (T110.setTop (mkF m 77 #[.val (.int p1), .val (.ref b101), .val (.int (p1 &&& (15 : Int32))), .val (.int (((p1.toUInt32 >>> ((4 : Int32) &&& 31).toUInt32).toInt32).toUInt32.toUInt16.toUInt32.toInt32))] [(.int (98 : Int32))])) _
        refine XS.goto X110.here hx rfl (pc0 := 77) (pc' := 81) rfl (hb hby d1_77) (by decide) (by decide) ?_
        show Steps p.tables e below (T110.setTop (mkF m 81 #[.val (.int p1), .val (.ref b101), .val (.int (p1 &&& (15 : Int32))), .val (.int (((p1.toUInt32 >>> ((4 : Int32) &&& 31).toUInt32).toInt32).toUInt32.toUInt16.toUInt32.toInt32))] [(.int (98 : Int32))])) _
        exact retN X110 hx (t := .char) Bd.returns (by simp) (hb hby d1_81) hr
      · show Q1 Z p1 h0 n0 _ T110.heap _
        rw [e110]
        exact ⟨(98 : Int32), rfl, N110, ((((((((((Keep.refl h0 []).ext E101).wr W102 (Or.inr (Nat.le_trans (Nat.le_refl _) (Nat.le_of_eq g101.symm)))).wr W104 (Or.inr (Nat.le_trans (Nat.le_refl _) (Nat.le_of_eq g101.symm)))).wr W105 (Or.inr (Nat.le_trans (Nat.le_refl _) (Nat.le_of_eq g101.symm)))).wr W106 (Or.inr (Nat.le_trans (Nat.le_refl _) (Nat.le_of_eq g101.symm)))).wr W107 (Or.inr (Nat.le_trans (Nat.le_refl _) (Nat.le_of_eq g101.symm)))).wr W108 (Or.inr (Nat.le_trans (Nat.le_refl _) (Nat.le_of_eq g101.symm)))).wr W109 (Or.inr (Nat.le_trans (Nat.le_refl _) (Nat.le_of_eq g101.symm)))).wr W110 (Or.inr (Nat.le_trans (Nat.le_refl _) (Nat.le_of_eq g101.symm)))), (by decide)⟩
    · skip
      obtain ⟨fs, hr, hrun, hended, hW, hsame⟩ := X110.leave (v := some (.int (nar .char (((p1.toUInt32 >>> ((4 : Int32) &&& 31).toUInt32).toInt32).toUInt32.toUInt16.toUInt32.toInt32)))) (fun h => by rw [Bd.returns] at h; cases h)
      refine ⟨_, _, pre116 _ ?_, hrun, hended, _, _, rfl, ?_, ⟨_, rfl⟩, hW, hsame.mono (by decide) (by decide)⟩
      · skip
        show Steps p.tables e below (T110.setTop (mkF m 72 #[.val (.int p1), .val (.ref b101), .val (.int (p1 &&& (15 : Int32))), .val (.int (((p1.toUInt32 >>> ((4 : Int32) &&& 31).toUInt32).toInt32).toUInt32.toUInt16.toUInt32.toInt32))] [(.int (59 : Int32)), (.int (((p1.toUInt32 >>> ((4 : Int32) &&& 31).toUInt32).toInt32).toUInt32.toUInt16.toUInt32.toInt32))])) _
        refine XS.icmpYes X110.here hx rfl (pc0 := 72) (pc' := 80) rfl (hb hby d1_72) rfl (feq (hc72_117 : ¬ ((((p1.toUInt32 >>> ((4 : Int32) &&& 31).toUInt32).toInt32).toUInt32.toUInt16.toUInt32.toInt32) = (59 : Int32)))).2 (by decide) (by decide) ?_
        show Steps p.tables e below (T110.setTop (mkF m 80 #[.val (.int p1), .val (.ref b101), .val (.int (p1 &&& (15 : Int32))), .val (.int (((p1.toUInt32 >>> ((4 : Int32) &&& 31).toUInt32).toInt32).toUInt32.toUInt16.toUInt32.toInt32))] [])) _
        refine XS.iloadN X110.here hx rfl (hb hby d1_80) rfl ?_
        show Steps p.tables e below (T110.setTop (mkF m 81 #[.val (.int p1), .val (.ref b101), .val (.int (p1 &&& (15 : Int32))), .val (.int (((p1.toUInt32 >>> ((4 : Int32) &&& 31).toUInt32).toInt32).toUInt32.toUInt16.toUInt32.toInt32))] [(.int (((p1.toUInt32 >>> ((4 : Int32) &&& 31).toUInt32).toInt32).toUInt32.toUInt16.toUInt32.toInt32))])) _
        exact retN X110 hx (t := .char) Bd.returns (by simp) (hb hby d1_81) hr
      · show Q1 Z p1 h0 n0 _ T110.heap _
        rw [e110]
        exact ⟨(((p1.toUInt32 >>> ((4 : Int32) &&& 31).toUInt32).toInt32).toUInt32.toUInt16.toUInt32.toInt32), (congrArg (fun z => some (Value.int z)) (own_charc _)), N110, ((((((((((Keep.refl h0 []).ext E101).wr W102 (Or.inr (Nat.le_trans (Nat.le_refl _) (Nat.le_of_eq g101.symm)))).wr W104 (Or.inr (Nat.le_trans (Nat.le_refl _) (Nat.le_of_eq g101.symm)))).wr W105 (Or.inr (Nat.le_trans (Nat.le_refl _) (Nat.le_of_eq g101.symm)))).wr W106 (Or.inr (Nat.le_trans (Nat.le_refl _) (Nat.le_of_eq g101.symm)))).wr W107 (Or.inr (Nat.le_trans (Nat.le_refl _) (Nat.le_of_eq g101.symm)))).wr W108 (Or.inr (Nat.le_trans (Nat.le_refl _) (Nat.le_of_eq g101.symm)))).wr W109 (Or.inr (Nat.le_trans (Nat.le_refl _) (Nat.le_of_eq g101.symm)))).wr W110 (Or.inr (Nat.le_trans (Nat.le_refl _) (Nat.le_of_eq g101.symm)))), hc72_117⟩
theorem ef_0 (m : MethodId) (p1 : Int32) (p2 : Int32) (p3 : Int32) (p4 : Int32) : entryFrame m #[(.int p1), (.int p2), (.int p3), (.int p4)] maxLocals = mkF m 0 #[.val (.int p1), .val (.int p2), .val (.int p3), .val (.int p4), .unset, .unset, .unset, .unset, .unset, .unset, .unset, .unset, .unset, .unset] [] := by first | (simp [entryFrame, mkF, argsToLocals, Value.category, maxLocals]; done) | rfl
def Q0 (Z : State) (p1 : Int32) (p2 : Int32) (p3 : Int32) (p4 : Int32) (em : Addr) (cz : Int32) (h0 : Heap) (n0 : Nat) (v : Option Value) (h : Heap) (L : List Loc) : Prop := v = some (.int (1 : Int32)) ∧ Fr n0 L
set_option maxRecDepth 65536 in
set_option maxHeartbeats 40000000 in
theorem rm0 (l : Launch) (Z : State) (a0 : Array Value) (hw : ∀ d ∈ tables_1, d.before a0 Z = true) (ws : List Jvm.Cond) (hEL : EW Z a0 own_EL) (p1 : Int32) (p2 : Int32) (p3 : Int32) (p4 : Int32) (em : Addr) (cz : Int32) (h0 : Heap) (n0 : Nat) (Z0 : n0 ≤ h0.size) (H0 : Sta Z h0 "java/util/ImmutableCollections" "EMPTY_LIST" "Ljava/util/ImmutableCollections$ListN;" (.ref em)) (H1 : Sta Z h0 "java/lang/String" "COMPACT_STRINGS" "Z" (.int cz)) (H2 : ¬ (cz = (0 : Int32))) :
    MetFree l x (head1 (Jvm.Cond.code x code maxLocals ret :: ws) room_1) (fun a U => a = #[(.int p1), (.int p2), (.int p3), (.int p4)] ∧ Z.Warmed39 U.vm ∧ U.heap = h0 ∧ CHv Z own_EL U.vm h0) (fun _ _ _ _ _ => True) (fun _ U o U' => ∃ v L, o = .returned v ∧ Q0 Z p1 p2 p3 p4 em cz h0 n0 v U'.heap L ∧ CHr Z own_EL U.vm U.heap U'.vm U'.heap ∧ ReturnedEndW U o U' L room_1.cells room_1.slots) := by
  refine MetFree.of_bodySF (plainFor_of_name pn_com_example_rouse_rouse_shell_ShellWordsContinuesPinLaw) hisR ?_
  intro p e s m args below meth c s₁ Bd hml0 hP hK
  obtain ⟨rfl, hZ, hh, hH⟩ := hP
  have hx := Bd.exec
  have hby := Bd.bytes
  have hml : c.maxLocals = 14 := hml0
  have hown : s.vm.findClass "com/example/rouse/rouse/shell/ShellWordsContinuesPinLaw" = some m.cls := findClass_of_methodNamed Bd.named
  have hnm := (name_of_methodNamed Bd.named Bd.method).1
  have X0 : Stand p l e room_1 s m #[(.int p1), (.int p2), (.int p3), (.int p4)] below meth c s₁ [] 0 0 := Stand.of_body Bd
  have e0 : s₁.heap = h0 := by rw [← hh, Bd.state]; rfl
  have N0 := Fr.nil n0
  have X0 : Stand p l e room_1 (s.setVm s.vm) m #[(.int p1), (.int p2), (.int p3), (.int p4)] below meth c s₁ [] 0 0 := X0
  have hZ : Z.Warmed39 (s.setVm s.vm).vm := hZ
  have hown : (s.setVm s.vm).vm.findClass "com/example/rouse/rouse/shell/ShellWordsContinuesPinLaw" = some m.cls := hown
  have hS0 : s.Since s.vm 0 := State.WarmedH.since (State.WarmedH.refl s) 0
  have Cr0 : CHr Z own_EL s.vm h0 s.vm h0 := CHr.refl hH
  have pre0 : ∀ t, Steps p.tables e below (s₁.setTop (mkF m 0 #[.val (.int p1), .val (.int p2), .val (.int p3), .val (.int p4), .unset, .unset, .unset, .unset, .unset, .unset, .unset, .unset, .unset, .unset] [])) t → Steps p.tables e below (s₁.setTop (entryFrame m #[(.int p1), (.int p2), (.int p3), (.int p4)] maxLocals)) t := fun t k => castTop (ef_0 m p1 p2 p3 p4) k
  obtain ⟨_, _, ⟨T101, L101, k101, n101⟩, -, X101, ⟨Lc101, hQ101, l101, y101, z101⟩, st101⟩ := Jvm.LawKit.callS X0 hx (y := (⟨"com/example/rouse/rouse/shell/ShellWordsContinuesPinLaw", "draw", "(I)C"⟩ : MethodName)) hown (mvT hZ (hw _ (List.mem_of_getElem? (i := 0) rfl))) (mvT hZ (hw _ (List.mem_of_getElem? (i := 1) rfl))) (mvT hZ (hw _ (List.mem_of_getElem? (i := 2) rfl))) (mvT hZ (hw _ (List.mem_of_getElem? (i := 3) rfl))) (by decide) (backOf (W := 0) (rm1 l Z a0 hw [] p2 h0 n0 Z0) hZ (hw _ (List.mem_of_getElem? (i := 3) rfl)) (hw _ (List.mem_of_getElem? (i := 2) rfl)) (by decide) (by decide)) (g := (mkF m 6 #[.val (.int p1), .val (.int p2), .val (.int p3), .val (.int p4), .val (.int (p1 &&& (3 : Int32))), .unset, .unset, .unset, .unset, .unset, .unset, .unset, .unset, .unset] [(.int p2)])) rfl (by rw [hml]; rfl) (argsL := [(.int p2)]) (rest := []) (lenOf pd_14 rfl) rfl (by show 2 * 0 + _ ≤ _; exact Nat.le_of_eq rfl) (hb hby at_6) (fun _ _ => ⟨rfl, e0, (by decide : 0 + 1 ≤ _), (by decide : 0 + 8 ≤ _)⟩)
  dsimp only [Pt.U, Pt.locs, Pt.cells, Pt.slots] at X101 l101 y101 z101 st101 hQ101
  subst l101 y101 z101
  obtain ⟨c101, rfl, Nq101, K101, R101_1⟩ := hQ101
  have N101 := Fr.app N0 Nq101
  have hs102 : ∀ x ∈ ([] : List Addr), Safe Z own_EL s.vm h0 x := (all0 (P := fun x => Safe Z own_EL s.vm h0 x))
  have Hc102 := CHv.keep K101 hs102 hH
  have Cr102 := Cr0.trans (CHr.keep K101 hs102 hH)
  have z104 : n0 ≤ T101.heap.size := (Nat.le_trans Z0 K101.1)
  obtain ⟨_, _, ⟨T103, L103, k103, n103⟩, -, X103, ⟨Lc103, hQ103, l103, y103, z103⟩, st103⟩ := Jvm.LawKit.callS X101 hx (y := (⟨"com/example/rouse/rouse/shell/ShellWordsContinuesPinLaw", "draw", "(I)C"⟩ : MethodName)) hown (mvT hZ (hw _ (List.mem_of_getElem? (i := 0) rfl))) (mvT hZ (hw _ (List.mem_of_getElem? (i := 1) rfl))) (mvT hZ (hw _ (List.mem_of_getElem? (i := 2) rfl))) (mvT hZ (hw _ (List.mem_of_getElem? (i := 3) rfl))) (by decide) (backOf (W := 0) (rm1 l Z a0 hw [] p3 T101.heap n0 z104) hZ (hw _ (List.mem_of_getElem? (i := 3) rfl)) (hw _ (List.mem_of_getElem? (i := 2) rfl)) (by decide) (by decide)) (g := (mkF m 12 #[.val (.int p1), .val (.int p2), .val (.int p3), .val (.int p4), .val (.int (p1 &&& (3 : Int32))), .val (.int c101), .unset, .unset, .unset, .unset, .unset, .unset, .unset, .unset] [(.int p3)])) rfl (by rw [hml]; rfl) (argsL := [(.int p3)]) (rest := []) (lenOf pd_14 rfl) rfl (by show 2 * 0 + _ ≤ _; exact Nat.le_of_eq rfl) (hb hby at_12) (fun _ _ => ⟨rfl, rfl, (by decide : 1 + 1 ≤ _), (by decide : 8 + 8 ≤ _)⟩)
  dsimp only [Pt.U, Pt.locs, Pt.cells, Pt.slots] at X103 l103 y103 z103 st103 hQ103
  subst l103 y103 z103
  obtain ⟨c103, rfl, Nq103, K103, R103_1⟩ := hQ103
  have N103 := Fr.app N101 Nq103
  have hs105 : ∀ x ∈ ([] : List Addr), Safe Z own_EL s.vm T101.heap x := (all0 (P := fun x => Safe Z own_EL s.vm T101.heap x))
  have Hc105 := CHv.keep K103 hs105 Hc102
  have Cr105 := Cr102.trans (CHr.keep K103 hs105 Hc102)
  have z107 : n0 ≤ T103.heap.size := (Nat.le_trans z104 K103.1)
  obtain ⟨_, _, ⟨T106, L106, k106, n106⟩, -, X106, ⟨Lc106, hQ106, l106, y106, z106⟩, st106⟩ := Jvm.LawKit.callS X103 hx (y := (⟨"com/example/rouse/rouse/shell/ShellWordsContinuesPinLaw", "draw", "(I)C"⟩ : MethodName)) hown (mvT hZ (hw _ (List.mem_of_getElem? (i := 0) rfl))) (mvT hZ (hw _ (List.mem_of_getElem? (i := 1) rfl))) (mvT hZ (hw _ (List.mem_of_getElem? (i := 2) rfl))) (mvT hZ (hw _ (List.mem_of_getElem? (i := 3) rfl))) (by decide) (backOf (W := 0) (rm1 l Z a0 hw [] p4 T103.heap n0 z107) hZ (hw _ (List.mem_of_getElem? (i := 3) rfl)) (hw _ (List.mem_of_getElem? (i := 2) rfl)) (by decide) (by decide)) (g := (mkF m 18 #[.val (.int p1), .val (.int p2), .val (.int p3), .val (.int p4), .val (.int (p1 &&& (3 : Int32))), .val (.int c101), .val (.int c103), .unset, .unset, .unset, .unset, .unset, .unset, .unset] [(.int p4)])) rfl (by rw [hml]; rfl) (argsL := [(.int p4)]) (rest := []) (lenOf pd_14 rfl) rfl (by show 2 * 0 + _ ≤ _; exact Nat.le_of_eq rfl) (hb hby at_18) (fun _ _ => ⟨rfl, rfl, (by decide : 2 + 1 ≤ _), (by decide : 16 + 8 ≤ _)⟩)
  dsimp only [Pt.U, Pt.locs, Pt.cells, Pt.slots] at X106 l106 y106 z106 st106 hQ106
  subst l106 y106 z106
  obtain ⟨c106, rfl, Nq106, K106, R106_1⟩ := hQ106
  have N106 := Fr.app N103 Nq106
  have hs108 : ∀ x ∈ ([] : List Addr), Safe Z own_EL s.vm T103.heap x := (all0 (P := fun x => Safe Z own_EL s.vm T103.heap x))
  have Hc108 := CHv.keep K106 hs108 Hc105
  have Cr108 := Cr105.trans (CHr.keep K106 hs108 Hc105)
  have pre109 : ∀ t, Steps p.tables e below (T106.setTop (mkF m 23 #[.val (.int p1), .val (.int p2), .val (.int p3), .val (.int p4), .val (.int (p1 &&& (3 : Int32))), .val (.int c101), .val (.int c103), .val (.int c106), .unset, .unset, .unset, .unset, .unset, .unset] [])) t → Steps p.tables e below (s₁.setTop (entryFrame m #[(.int p1), (.int p2), (.int p3), (.int p4)] maxLocals)) t := fun t kt => by
    refine pre0 t ?_
    show Steps p.tables e below (s₁.setTop (mkF m 0 #[.val (.int p1), .val (.int p2), .val (.int p3), .val (.int p4), .unset, .unset, .unset, .unset, .unset, .unset, .unset, .unset, .unset, .unset] [])) _
    refine XS.iloadN X0.here hx rfl (hb hby at_0) rfl ?_
    show Steps p.tables e below (s₁.setTop (mkF m 1 #[.val (.int p1), .val (.int p2), .val (.int p3), .val (.int p4), .unset, .unset, .unset, .unset, .unset, .unset, .unset, .unset, .unset, .unset] [(.int p1)])) _
    refine XS.iconst X0.here hx rfl (hb hby at_1) ?_
    show Steps p.tables e below (s₁.setTop (mkF m 2 #[.val (.int p1), .val (.int p2), .val (.int p3), .val (.int p4), .unset, .unset, .unset, .unset, .unset, .unset, .unset, .unset, .unset, .unset] [(.int (3 : Int32)), (.int p1)])) _
    refine XS.iand X0.here hx rfl (hb hby at_2) rfl ?_
    show Steps p.tables e below (s₁.setTop (mkF m 3 #[.val (.int p1), .val (.int p2), .val (.int p3), .val (.int p4), .unset, .unset, .unset, .unset, .unset, .unset, .unset, .unset, .unset, .unset] [(.int (p1 &&& (3 : Int32)))])) _
    refine XS.istore X0.here hx rfl (hb hby at_3) rfl (l' := #[.val (.int p1), .val (.int p2), .val (.int p3), .val (.int p4), .val (.int (p1 &&& (3 : Int32))), .unset, .unset, .unset, .unset, .unset, .unset, .unset, .unset, .unset]) rfl ?_
    show Steps p.tables e below (s₁.setTop (mkF m 5 #[.val (.int p1), .val (.int p2), .val (.int p3), .val (.int p4), .val (.int (p1 &&& (3 : Int32))), .unset, .unset, .unset, .unset, .unset, .unset, .unset, .unset, .unset] [])) _
    refine XS.iloadN X0.here hx rfl (hb hby at_5) rfl ?_
    show Steps p.tables e below (s₁.setTop (mkF m 6 #[.val (.int p1), .val (.int p2), .val (.int p3), .val (.int p4), .val (.int (p1 &&& (3 : Int32))), .unset, .unset, .unset, .unset, .unset, .unset, .unset, .unset, .unset] [(.int p2)])) _
    refine st101 _ ?_
    show Steps p.tables e below (T101.setTop (mkF m 9 #[.val (.int p1), .val (.int p2), .val (.int p3), .val (.int p4), .val (.int (p1 &&& (3 : Int32))), .unset, .unset, .unset, .unset, .unset, .unset, .unset, .unset, .unset] [(.int c101)])) _
    refine XS.istore X101.here hx rfl (hb hby at_9) rfl (l' := #[.val (.int p1), .val (.int p2), .val (.int p3), .val (.int p4), .val (.int (p1 &&& (3 : Int32))), .val (.int c101), .unset, .unset, .unset, .unset, .unset, .unset, .unset, .unset]) rfl ?_
    show Steps p.tables e below (T101.setTop (mkF m 11 #[.val (.int p1), .val (.int p2), .val (.int p3), .val (.int p4), .val (.int (p1 &&& (3 : Int32))), .val (.int c101), .unset, .unset, .unset, .unset, .unset, .unset, .unset, .unset] [])) _
    refine XS.iloadN X101.here hx rfl (hb hby at_11) rfl ?_
    show Steps p.tables e below (T101.setTop (mkF m 12 #[.val (.int p1), .val (.int p2), .val (.int p3), .val (.int p4), .val (.int (p1 &&& (3 : Int32))), .val (.int c101), .unset, .unset, .unset, .unset, .unset, .unset, .unset, .unset] [(.int p3)])) _
    refine st103 _ ?_
    show Steps p.tables e below (T103.setTop (mkF m 15 #[.val (.int p1), .val (.int p2), .val (.int p3), .val (.int p4), .val (.int (p1 &&& (3 : Int32))), .val (.int c101), .unset, .unset, .unset, .unset, .unset, .unset, .unset, .unset] [(.int c103)])) _
    refine XS.istore X103.here hx rfl (hb hby at_15) rfl (l' := #[.val (.int p1), .val (.int p2), .val (.int p3), .val (.int p4), .val (.int (p1 &&& (3 : Int32))), .val (.int c101), .val (.int c103), .unset, .unset, .unset, .unset, .unset, .unset, .unset]) rfl ?_
    show Steps p.tables e below (T103.setTop (mkF m 17 #[.val (.int p1), .val (.int p2), .val (.int p3), .val (.int p4), .val (.int (p1 &&& (3 : Int32))), .val (.int c101), .val (.int c103), .unset, .unset, .unset, .unset, .unset, .unset, .unset] [])) _
    refine XS.iloadN X103.here hx rfl (hb hby at_17) rfl ?_
    show Steps p.tables e below (T103.setTop (mkF m 18 #[.val (.int p1), .val (.int p2), .val (.int p3), .val (.int p4), .val (.int (p1 &&& (3 : Int32))), .val (.int c101), .val (.int c103), .unset, .unset, .unset, .unset, .unset, .unset, .unset] [(.int p4)])) _
    refine st106 _ ?_
    show Steps p.tables e below (T106.setTop (mkF m 21 #[.val (.int p1), .val (.int p2), .val (.int p3), .val (.int p4), .val (.int (p1 &&& (3 : Int32))), .val (.int c101), .val (.int c103), .unset, .unset, .unset, .unset, .unset, .unset, .unset] [(.int c106)])) _
    refine XS.istore X106.here hx rfl (hb hby at_21) rfl (l' := #[.val (.int p1), .val (.int p2), .val (.int p3), .val (.int p4), .val (.int (p1 &&& (3 : Int32))), .val (.int c101), .val (.int c103), .val (.int c106), .unset, .unset, .unset, .unset, .unset, .unset]) rfl ?_
    show Steps p.tables e below (T106.setTop (mkF m 23 #[.val (.int p1), .val (.int p2), .val (.int p3), .val (.int p4), .val (.int (p1 &&& (3 : Int32))), .val (.int c101), .val (.int c103), .val (.int c106), .unset, .unset, .unset, .unset, .unset, .unset] [])) _
    exact kt
  obtain ⟨T110, L110, X110, N110, e110, pre110⟩ : ∃ (T' : State) (L' : List Loc), Stand p l e room_1 (s.setVm s.vm) m #[(.int p1), (.int p2), (.int p3), (.int p4)] below meth c T' L' 3 24 ∧ Fr n0 L' ∧ T'.heap = T106.heap ∧ ∀ t, Steps p.tables e below (T'.setTop (mkF m 37 #[.val (.int p1), .val (.int p2), .val (.int p3), .val (.int p4), .val (.int (p1 &&& (3 : Int32))), .val (.int c101), .val (.int c103), .val (.int c106), .val (.int (own_10 c101)), .unset, .unset, .unset, .unset, .unset] [])) t → Steps p.tables e below (s₁.setTop (entryFrame m #[(.int p1), (.int p2), (.int p3), (.int p4)] maxLocals)) t := by
    have pre111 : ∀ t, Steps p.tables e below (T106.setTop (mkF m 27 #[.val (.int p1), .val (.int p2), .val (.int p3), .val (.int p4), .val (.int (p1 &&& (3 : Int32))), .val (.int c101), .val (.int c103), .val (.int c106), .unset, .unset, .unset, .unset, .unset, .unset] [(.int (10 : Int32)), (.int c101)])) t → Steps p.tables e below (s₁.setTop (entryFrame m #[(.int p1), (.int p2), (.int p3), (.int p4)] maxLocals)) t := fun t kt => by
      refine pre109 t ?_
      show Steps p.tables e below (T106.setTop (mkF m 23 #[.val (.int p1), .val (.int p2), .val (.int p3), .val (.int p4), .val (.int (p1 &&& (3 : Int32))), .val (.int c101), .val (.int c103), .val (.int c106), .unset, .unset, .unset, .unset, .unset, .unset] [])) _
      refine XS.iload X106.here hx rfl (hb hby at_23) rfl ?_
      show Steps p.tables e below (T106.setTop (mkF m 25 #[.val (.int p1), .val (.int p2), .val (.int p3), .val (.int p4), .val (.int (p1 &&& (3 : Int32))), .val (.int c101), .val (.int c103), .val (.int c106), .unset, .unset, .unset, .unset, .unset, .unset] [(.int c101)])) _
      refine XS.bipush X106.here hx rfl (hb hby at_25) ?_
      show Steps p.tables e below (T106.setTop (mkF m 27 #[.val (.int p1), .val (.int p2), .val (.int p3), .val (.int p4), .val (.int (p1 &&& (3 : Int32))), .val (.int c101), .val (.int c103), .val (.int c106), .unset, .unset, .unset, .unset, .unset, .unset] [(.int (10 : Int32)), (.int c101)])) _
      exact kt
    by_cases hc27_112 : c101 = (10 : Int32)
    · skip
      have pre113 : ∀ t, Steps p.tables e below (T106.setTop (mkF m 37 #[.val (.int p1), .val (.int p2), .val (.int p3), .val (.int p4), .val (.int (p1 &&& (3 : Int32))), .val (.int c101), .val (.int c103), .val (.int c106), .val (.int (1 : Int32)), .unset, .unset, .unset, .unset, .unset] [])) t → Steps p.tables e below (s₁.setTop (entryFrame m #[(.int p1), (.int p2), (.int p3), (.int p4)] maxLocals)) t := fun t kt => by
        refine pre111 t ?_
        show Steps p.tables e below (T106.setTop (mkF m 27 #[.val (.int p1), .val (.int p2), .val (.int p3), .val (.int p4), .val (.int (p1 &&& (3 : Int32))), .val (.int c101), .val (.int c103), .val (.int c106), .unset, .unset, .unset, .unset, .unset, .unset] [(.int (10 : Int32)), (.int c101)])) _
        refine XS.icmpNo X106.here hx rfl (hb hby at_27) rfl (teq (hc27_112 : c101 = (10 : Int32))).2 ?_
        show Steps p.tables e below (T106.setTop (mkF m 30 #[.val (.int p1), .val (.int p2), .val (.int p3), .val (.int p4), .val (.int (p1 &&& (3 : Int32))), .val (.int c101), .val (.int c103), .val (.int c106), .unset, .unset, .unset, .unset, .unset, .unset] [])) _
        refine XS.iconst X106.here hx rfl (hb hby at_30) ?_
        show Steps p.tables e below (T106.setTop (mkF m 31 #[.val (.int p1), .val (.int p2), .val (.int p3), .val (.int p4), .val (.int (p1 &&& (3 : Int32))), .val (.int c101), .val (.int c103), .val (.int c106), .unset, .unset, .unset, .unset, .unset, .unset] [(.int (1 : Int32))])) _
        refine XS.goto X106.here hx rfl (pc0 := 31) (pc' := 35) rfl (hb hby at_31) (by decide) (by decide) ?_
        show Steps p.tables e below (T106.setTop (mkF m 35 #[.val (.int p1), .val (.int p2), .val (.int p3), .val (.int p4), .val (.int (p1 &&& (3 : Int32))), .val (.int c101), .val (.int c103), .val (.int c106), .unset, .unset, .unset, .unset, .unset, .unset] [(.int (1 : Int32))])) _
        refine XS.istore X106.here hx rfl (hb hby at_35) rfl (l' := #[.val (.int p1), .val (.int p2), .val (.int p3), .val (.int p4), .val (.int (p1 &&& (3 : Int32))), .val (.int c101), .val (.int c103), .val (.int c106), .val (.int (1 : Int32)), .unset, .unset, .unset, .unset, .unset]) rfl ?_
        show Steps p.tables e below (T106.setTop (mkF m 37 #[.val (.int p1), .val (.int p2), .val (.int p3), .val (.int p4), .val (.int (p1 &&& (3 : Int32))), .val (.int c101), .val (.int c103), .val (.int c106), .val (.int (1 : Int32)), .unset, .unset, .unset, .unset, .unset] [])) _
        exact kt
      have hl114_8 : (own_10 c101) = (1 : Int32) := by simp only [own_10, eq_true hc27_112, if_true, if_false]
      exact ⟨_, _, X106, N106, rfl, fun t kt => pre113 t (by rw [hl114_8] at kt; exact kt)⟩
    · skip
      have pre115 : ∀ t, Steps p.tables e below (T106.setTop (mkF m 37 #[.val (.int p1), .val (.int p2), .val (.int p3), .val (.int p4), .val (.int (p1 &&& (3 : Int32))), .val (.int c101), .val (.int c103), .val (.int c106), .val (.int (0 : Int32)), .unset, .unset, .unset, .unset, .unset] [])) t → Steps p.tables e below (s₁.setTop (entryFrame m #[(.int p1), (.int p2), (.int p3), (.int p4)] maxLocals)) t := fun t kt => by
        refine pre111 t ?_
        show Steps p.tables e below (T106.setTop (mkF m 27 #[.val (.int p1), .val (.int p2), .val (.int p3), .val (.int p4), .val (.int (p1 &&& (3 : Int32))), .val (.int c101), .val (.int c103), .val (.int c106), .unset, .unset, .unset, .unset, .unset, .unset] [(.int (10 : Int32)), (.int c101)])) _
        refine XS.icmpYes X106.here hx rfl (pc0 := 27) (pc' := 34) rfl (hb hby at_27) rfl (feq (hc27_112 : ¬ (c101 = (10 : Int32)))).2 (by decide) (by decide) ?_
        show Steps p.tables e below (T106.setTop (mkF m 34 #[.val (.int p1), .val (.int p2), .val (.int p3), .val (.int p4), .val (.int (p1 &&& (3 : Int32))), .val (.int c101), .val (.int c103), .val (.int c106), .unset, .unset, .unset, .unset, .unset, .unset] [])) _
        refine XS.iconst X106.here hx rfl (hb hby at_34) ?_
        show Steps p.tables e below (T106.setTop (mkF m 35 #[.val (.int p1), .val (.int p2), .val (.int p3), .val (.int p4), .val (.int (p1 &&& (3 : Int32))), .val (.int c101), .val (.int c103), .val (.int c106), .unset, .unset, .unset, .unset, .unset, .unset] [(.int (0 : Int32))])) _
        refine XS.istore X106.here hx rfl (hb hby at_35) rfl (l' := #[.val (.int p1), .val (.int p2), .val (.int p3), .val (.int p4), .val (.int (p1 &&& (3 : Int32))), .val (.int c101), .val (.int c103), .val (.int c106), .val (.int (0 : Int32)), .unset, .unset, .unset, .unset, .unset]) rfl ?_
        show Steps p.tables e below (T106.setTop (mkF m 37 #[.val (.int p1), .val (.int p2), .val (.int p3), .val (.int p4), .val (.int (p1 &&& (3 : Int32))), .val (.int c101), .val (.int c103), .val (.int c106), .val (.int (0 : Int32)), .unset, .unset, .unset, .unset, .unset] [])) _
        exact kt
      have hl116_8 : (own_10 c101) = (0 : Int32) := by simp only [own_10, eq_false hc27_112, if_true, if_false]
      exact ⟨_, _, X106, N106, rfl, fun t kt => pre115 t (by rw [hl116_8] at kt; exact kt)⟩
  obtain ⟨T117, L117, X117, N117, e117, pre117⟩ : ∃ (T' : State) (L' : List Loc), Stand p l e room_1 (s.setVm s.vm) m #[(.int p1), (.int p2), (.int p3), (.int p4)] below meth c T' L' 3 24 ∧ Fr n0 L' ∧ T'.heap = T106.heap ∧ ∀ t, Steps p.tables e below (T'.setTop (mkF m 81 #[.val (.int p1), .val (.int p2), .val (.int p3), .val (.int p4), .val (.int (p1 &&& (3 : Int32))), .val (.int c101), .val (.int c103), .val (.int c106), .val (.int (own_10 c101)), .val (.int (own_l9 c101 c103 (own_10 c101))), .unset, .unset, .unset, .unset] [])) t → Steps p.tables e below (s₁.setTop (entryFrame m #[(.int p1), (.int p2), (.int p3), (.int p4)] maxLocals)) t := by
    have pre118 : ∀ t, Steps p.tables e below (T110.setTop (mkF m 41 #[.val (.int p1), .val (.int p2), .val (.int p3), .val (.int p4), .val (.int (p1 &&& (3 : Int32))), .val (.int c101), .val (.int c103), .val (.int c106), .val (.int (own_10 c101)), .unset, .unset, .unset, .unset, .unset] [(.int (10 : Int32)), (.int c103)])) t → Steps p.tables e below (s₁.setTop (entryFrame m #[(.int p1), (.int p2), (.int p3), (.int p4)] maxLocals)) t := fun t kt => by
      refine pre110 t ?_
      show Steps p.tables e below (T110.setTop (mkF m 37 #[.val (.int p1), .val (.int p2), .val (.int p3), .val (.int p4), .val (.int (p1 &&& (3 : Int32))), .val (.int c101), .val (.int c103), .val (.int c106), .val (.int (own_10 c101)), .unset, .unset, .unset, .unset, .unset] [])) _
      refine XS.iload X110.here hx rfl (hb hby at_37) rfl ?_
      show Steps p.tables e below (T110.setTop (mkF m 39 #[.val (.int p1), .val (.int p2), .val (.int p3), .val (.int p4), .val (.int (p1 &&& (3 : Int32))), .val (.int c101), .val (.int c103), .val (.int c106), .val (.int (own_10 c101)), .unset, .unset, .unset, .unset, .unset] [(.int c103)])) _
      refine XS.bipush X110.here hx rfl (hb hby at_39) ?_
      show Steps p.tables e below (T110.setTop (mkF m 41 #[.val (.int p1), .val (.int p2), .val (.int p3), .val (.int p4), .val (.int (p1 &&& (3 : Int32))), .val (.int c101), .val (.int c103), .val (.int c106), .val (.int (own_10 c101)), .unset, .unset, .unset, .unset, .unset] [(.int (10 : Int32)), (.int c103)])) _
      exact kt
    by_cases hc41_119 : c103 = (10 : Int32)
    · skip
      have pre120 : ∀ t, Steps p.tables e below (T110.setTop (mkF m 46 #[.val (.int p1), .val (.int p2), .val (.int p3), .val (.int p4), .val (.int (p1 &&& (3 : Int32))), .val (.int c101), .val (.int c103), .val (.int c106), .val (.int (own_10 c101)), .unset, .unset, .unset, .unset, .unset] [(.int (own_10 c101))])) t → Steps p.tables e below (s₁.setTop (entryFrame m #[(.int p1), (.int p2), (.int p3), (.int p4)] maxLocals)) t := fun t kt => by
        refine pre118 t ?_
        show Steps p.tables e below (T110.setTop (mkF m 41 #[.val (.int p1), .val (.int p2), .val (.int p3), .val (.int p4), .val (.int (p1 &&& (3 : Int32))), .val (.int c101), .val (.int c103), .val (.int c106), .val (.int (own_10 c101)), .unset, .unset, .unset, .unset, .unset] [(.int (10 : Int32)), (.int c103)])) _
        refine XS.icmpNo X110.here hx rfl (hb hby at_41) rfl (teq (hc41_119 : c103 = (10 : Int32))).2 ?_
        show Steps p.tables e below (T110.setTop (mkF m 44 #[.val (.int p1), .val (.int p2), .val (.int p3), .val (.int p4), .val (.int (p1 &&& (3 : Int32))), .val (.int c101), .val (.int c103), .val (.int c106), .val (.int (own_10 c101)), .unset, .unset, .unset, .unset, .unset] [])) _
        refine XS.iload X110.here hx rfl (hb hby at_44) rfl ?_
        show Steps p.tables e below (T110.setTop (mkF m 46 #[.val (.int p1), .val (.int p2), .val (.int p3), .val (.int p4), .val (.int (p1 &&& (3 : Int32))), .val (.int c101), .val (.int c103), .val (.int c106), .val (.int (own_10 c101)), .unset, .unset, .unset, .unset, .unset] [(.int (own_10 c101))])) _
        exact kt
      by_cases hc46_121 : (own_10 c101) = (0 : Int32)
      · skip
        have z123 : n0 ≤ T106.heap.size := (Nat.le_trans z107 K106.1)
        obtain ⟨_, _, ⟨T122, L122, k122, n122⟩, -, X122, ⟨Lc122, hQ122, l122, y122, z122⟩, st122⟩ := Jvm.LawKit.callS X110 hx (y := (⟨"com/example/rouse/rouse/shell/ShellWordsContinuesPinLaw", "open", "(ICC)Z"⟩ : MethodName)) hown (mvT hZ (hw _ (List.mem_of_getElem? (i := 5) rfl))) (mvT hZ (hw _ (List.mem_of_getElem? (i := 6) rfl))) (mvT hZ (hw _ (List.mem_of_getElem? (i := 2) rfl))) (mvT hZ (hw _ (List.mem_of_getElem? (i := 7) rfl))) (by decide) (backOf (W := 0) (rm2 l Z a0 hw [] (1 : Int32) c101 c101 T106.heap n0 z123) hZ (hw _ (List.mem_of_getElem? (i := 7) rfl)) (hw _ (List.mem_of_getElem? (i := 2) rfl)) (by decide) (by decide)) (g := (mkF m 68 #[.val (.int p1), .val (.int p2), .val (.int p3), .val (.int p4), .val (.int (p1 &&& (3 : Int32))), .val (.int c101), .val (.int c103), .val (.int c106), .val (.int (own_10 c101)), .unset, .unset, .unset, .unset, .unset] [(.int c101), (.int c101), (.int (1 : Int32))])) rfl (by rw [hml]; rfl) (argsL := [(.int (1 : Int32)), (.int c101), (.int c101)]) (rest := []) (lenOf pd_15 rfl) rfl (by show 2 * 0 + _ ≤ _; exact Nat.le_of_eq rfl) (hb hby at_68) (fun _ _ => ⟨rfl, e110, (by decide : 3 + 0 ≤ _), (by decide : 24 + 0 ≤ _)⟩)
        dsimp only [Pt.U, Pt.locs, Pt.cells, Pt.slots] at X122 l122 y122 z122 st122 hQ122
        subst l122 y122 z122
        obtain ⟨rfl, Nq122, Heq122⟩ := hQ122
        have N122 := Fr.app N110 Nq122
        have pre124 : ∀ t, Steps p.tables e below (T122.setTop (mkF m 71 #[.val (.int p1), .val (.int p2), .val (.int p3), .val (.int p4), .val (.int (p1 &&& (3 : Int32))), .val (.int c101), .val (.int c103), .val (.int c106), .val (.int (own_10 c101)), .unset, .unset, .unset, .unset, .unset] [(.int (own_open (1 : Int32) c101 c101))])) t → Steps p.tables e below (s₁.setTop (entryFrame m #[(.int p1), (.int p2), (.int p3), (.int p4)] maxLocals)) t := fun t kt => by
          refine pre120 t ?_
          show Steps p.tables e below (T110.setTop (mkF m 46 #[.val (.int p1), .val (.int p2), .val (.int p3), .val (.int p4), .val (.int (p1 &&& (3 : Int32))), .val (.int c101), .val (.int c103), .val (.int c106), .val (.int (own_10 c101)), .unset, .unset, .unset, .unset, .unset] [(.int (own_10 c101))])) _
          refine XS.ifYes X110.here hx rfl (pc0 := 46) (pc' := 63) rfl (hb hby at_46) rfl ((if0 _ _).trans (teq (hc46_121 : (own_10 c101) = (0 : Int32))).1) (by decide) (by decide) ?_
          show Steps p.tables e below (T110.setTop (mkF m 63 #[.val (.int p1), .val (.int p2), .val (.int p3), .val (.int p4), .val (.int (p1 &&& (3 : Int32))), .val (.int c101), .val (.int c103), .val (.int c106), .val (.int (own_10 c101)), .unset, .unset, .unset, .unset, .unset] [])) _
          refine XS.iconst X110.here hx rfl (hb hby at_63) ?_
          show Steps p.tables e below (T110.setTop (mkF m 64 #[.val (.int p1), .val (.int p2), .val (.int p3), .val (.int p4), .val (.int (p1 &&& (3 : Int32))), .val (.int c101), .val (.int c103), .val (.int c106), .val (.int (own_10 c101)), .unset, .unset, .unset, .unset, .unset] [(.int (1 : Int32))])) _
          refine XS.iload X110.here hx rfl (hb hby at_64) rfl ?_
          show Steps p.tables e below (T110.setTop (mkF m 66 #[.val (.int p1), .val (.int p2), .val (.int p3), .val (.int p4), .val (.int (p1 &&& (3 : Int32))), .val (.int c101), .val (.int c103), .val (.int c106), .val (.int (own_10 c101)), .unset, .unset, .unset, .unset, .unset] [(.int c101), (.int (1 : Int32))])) _
          refine XS.iload X110.here hx rfl (hb hby at_66) rfl ?_
          show Steps p.tables e below (T110.setTop (mkF m 68 #[.val (.int p1), .val (.int p2), .val (.int p3), .val (.int p4), .val (.int (p1 &&& (3 : Int32))), .val (.int c101), .val (.int c103), .val (.int c106), .val (.int (own_10 c101)), .unset, .unset, .unset, .unset, .unset] [(.int c101), (.int c101), (.int (1 : Int32))])) _
          refine st122 _ ?_
          show Steps p.tables e below (T122.setTop (mkF m 71 #[.val (.int p1), .val (.int p2), .val (.int p3), .val (.int p4), .val (.int (p1 &&& (3 : Int32))), .val (.int c101), .val (.int c103), .val (.int c106), .val (.int (own_10 c101)), .unset, .unset, .unset, .unset, .unset] [(.int (own_open (1 : Int32) c101 c101))])) _
          exact kt
        by_cases hc71_125 : (own_open (1 : Int32) c101 c101) = (0 : Int32)
        · skip
          have pre126 : ∀ t, Steps p.tables e below (T122.setTop (mkF m 81 #[.val (.int p1), .val (.int p2), .val (.int p3), .val (.int p4), .val (.int (p1 &&& (3 : Int32))), .val (.int c101), .val (.int c103), .val (.int c106), .val (.int (own_10 c101)), .val (.int (1 : Int32)), .unset, .unset, .unset, .unset] [])) t → Steps p.tables e below (s₁.setTop (entryFrame m #[(.int p1), (.int p2), (.int p3), (.int p4)] maxLocals)) t := fun t kt => by
            refine pre124 t ?_
            show Steps p.tables e below (T122.setTop (mkF m 71 #[.val (.int p1), .val (.int p2), .val (.int p3), .val (.int p4), .val (.int (p1 &&& (3 : Int32))), .val (.int c101), .val (.int c103), .val (.int c106), .val (.int (own_10 c101)), .unset, .unset, .unset, .unset, .unset] [(.int (own_open (1 : Int32) c101 c101))])) _
            refine XS.ifNo X122.here hx rfl (hb hby at_71) rfl ((if0 _ _).trans (teq (hc71_125 : (own_open (1 : Int32) c101 c101) = (0 : Int32))).2) ?_
            show Steps p.tables e below (T122.setTop (mkF m 74 #[.val (.int p1), .val (.int p2), .val (.int p3), .val (.int p4), .val (.int (p1 &&& (3 : Int32))), .val (.int c101), .val (.int c103), .val (.int c106), .val (.int (own_10 c101)), .unset, .unset, .unset, .unset, .unset] [])) _
            refine XS.iconst X122.here hx rfl (hb hby at_74) ?_
            show Steps p.tables e below (T122.setTop (mkF m 75 #[.val (.int p1), .val (.int p2), .val (.int p3), .val (.int p4), .val (.int (p1 &&& (3 : Int32))), .val (.int c101), .val (.int c103), .val (.int c106), .val (.int (own_10 c101)), .unset, .unset, .unset, .unset, .unset] [(.int (1 : Int32))])) _
            refine XS.goto X122.here hx rfl (pc0 := 75) (pc' := 79) rfl (hb hby at_75) (by decide) (by decide) ?_
            show Steps p.tables e below (T122.setTop (mkF m 79 #[.val (.int p1), .val (.int p2), .val (.int p3), .val (.int p4), .val (.int (p1 &&& (3 : Int32))), .val (.int c101), .val (.int c103), .val (.int c106), .val (.int (own_10 c101)), .unset, .unset, .unset, .unset, .unset] [(.int (1 : Int32))])) _
            refine XS.istore X122.here hx rfl (hb hby at_79) rfl (l' := #[.val (.int p1), .val (.int p2), .val (.int p3), .val (.int p4), .val (.int (p1 &&& (3 : Int32))), .val (.int c101), .val (.int c103), .val (.int c106), .val (.int (own_10 c101)), .val (.int (1 : Int32)), .unset, .unset, .unset, .unset]) rfl ?_
            show Steps p.tables e below (T122.setTop (mkF m 81 #[.val (.int p1), .val (.int p2), .val (.int p3), .val (.int p4), .val (.int (p1 &&& (3 : Int32))), .val (.int c101), .val (.int c103), .val (.int c106), .val (.int (own_10 c101)), .val (.int (1 : Int32)), .unset, .unset, .unset, .unset] [])) _
            exact kt
          have hl127_9 : (own_l9 c101 c103 (own_10 c101)) = (1 : Int32) := by simp only [own_l9, eq_true hc41_119, eq_true hc46_121, eq_true hc71_125, if_true, if_false]
          exact ⟨_, _, X122, N122, Heq122, fun t kt => pre126 t (by rw [hl127_9] at kt; exact kt)⟩
        · skip
          have pre128 : ∀ t, Steps p.tables e below (T122.setTop (mkF m 81 #[.val (.int p1), .val (.int p2), .val (.int p3), .val (.int p4), .val (.int (p1 &&& (3 : Int32))), .val (.int c101), .val (.int c103), .val (.int c106), .val (.int (own_10 c101)), .val (.int (0 : Int32)), .unset, .unset, .unset, .unset] [])) t → Steps p.tables e below (s₁.setTop (entryFrame m #[(.int p1), (.int p2), (.int p3), (.int p4)] maxLocals)) t := fun t kt => by
            refine pre124 t ?_
            show Steps p.tables e below (T122.setTop (mkF m 71 #[.val (.int p1), .val (.int p2), .val (.int p3), .val (.int p4), .val (.int (p1 &&& (3 : Int32))), .val (.int c101), .val (.int c103), .val (.int c106), .val (.int (own_10 c101)), .unset, .unset, .unset, .unset, .unset] [(.int (own_open (1 : Int32) c101 c101))])) _
            refine XS.ifYes X122.here hx rfl (pc0 := 71) (pc' := 78) rfl (hb hby at_71) rfl ((if0 _ _).trans (feq (hc71_125 : ¬ ((own_open (1 : Int32) c101 c101) = (0 : Int32)))).2) (by decide) (by decide) ?_
            show Steps p.tables e below (T122.setTop (mkF m 78 #[.val (.int p1), .val (.int p2), .val (.int p3), .val (.int p4), .val (.int (p1 &&& (3 : Int32))), .val (.int c101), .val (.int c103), .val (.int c106), .val (.int (own_10 c101)), .unset, .unset, .unset, .unset, .unset] [])) _
            refine XS.iconst X122.here hx rfl (hb hby at_78) ?_
            show Steps p.tables e below (T122.setTop (mkF m 79 #[.val (.int p1), .val (.int p2), .val (.int p3), .val (.int p4), .val (.int (p1 &&& (3 : Int32))), .val (.int c101), .val (.int c103), .val (.int c106), .val (.int (own_10 c101)), .unset, .unset, .unset, .unset, .unset] [(.int (0 : Int32))])) _
            refine XS.istore X122.here hx rfl (hb hby at_79) rfl (l' := #[.val (.int p1), .val (.int p2), .val (.int p3), .val (.int p4), .val (.int (p1 &&& (3 : Int32))), .val (.int c101), .val (.int c103), .val (.int c106), .val (.int (own_10 c101)), .val (.int (0 : Int32)), .unset, .unset, .unset, .unset]) rfl ?_
            show Steps p.tables e below (T122.setTop (mkF m 81 #[.val (.int p1), .val (.int p2), .val (.int p3), .val (.int p4), .val (.int (p1 &&& (3 : Int32))), .val (.int c101), .val (.int c103), .val (.int c106), .val (.int (own_10 c101)), .val (.int (0 : Int32)), .unset, .unset, .unset, .unset] [])) _
            exact kt
          have hl129_9 : (own_l9 c101 c103 (own_10 c101)) = (0 : Int32) := by simp only [own_l9, eq_true hc41_119, eq_true hc46_121, eq_false hc71_125, if_true, if_false]
          exact ⟨_, _, X122, N122, Heq122, fun t kt => pre128 t (by rw [hl129_9] at kt; exact kt)⟩
      · skip
        have z131 : n0 ≤ T106.heap.size := (Nat.le_trans z107 K106.1)
        obtain ⟨_, _, ⟨T130, L130, k130, n130⟩, -, X130, ⟨Lc130, hQ130, l130, y130, z130⟩, st130⟩ := Jvm.LawKit.callS X110 hx (y := (⟨"com/example/rouse/rouse/shell/ShellWordsContinuesPinLaw", "open", "(ICC)Z"⟩ : MethodName)) hown (mvT hZ (hw _ (List.mem_of_getElem? (i := 5) rfl))) (mvT hZ (hw _ (List.mem_of_getElem? (i := 6) rfl))) (mvT hZ (hw _ (List.mem_of_getElem? (i := 2) rfl))) (mvT hZ (hw _ (List.mem_of_getElem? (i := 7) rfl))) (by decide) (backOf (W := 0) (rm2 l Z a0 hw [] (0 : Int32) c101 c101 T106.heap n0 z131) hZ (hw _ (List.mem_of_getElem? (i := 7) rfl)) (hw _ (List.mem_of_getElem? (i := 2) rfl)) (by decide) (by decide)) (g := (mkF m 54 #[.val (.int p1), .val (.int p2), .val (.int p3), .val (.int p4), .val (.int (p1 &&& (3 : Int32))), .val (.int c101), .val (.int c103), .val (.int c106), .val (.int (own_10 c101)), .unset, .unset, .unset, .unset, .unset] [(.int c101), (.int c101), (.int (0 : Int32))])) rfl (by rw [hml]; rfl) (argsL := [(.int (0 : Int32)), (.int c101), (.int c101)]) (rest := []) (lenOf pd_15 rfl) rfl (by show 2 * 0 + _ ≤ _; exact Nat.le_of_eq rfl) (hb hby at_54) (fun _ _ => ⟨rfl, e110, (by decide : 3 + 0 ≤ _), (by decide : 24 + 0 ≤ _)⟩)
        dsimp only [Pt.U, Pt.locs, Pt.cells, Pt.slots] at X130 l130 y130 z130 st130 hQ130
        subst l130 y130 z130
        obtain ⟨rfl, Nq130, Heq130⟩ := hQ130
        have N130 := Fr.app N110 Nq130
        have pre132 : ∀ t, Steps p.tables e below (T130.setTop (mkF m 57 #[.val (.int p1), .val (.int p2), .val (.int p3), .val (.int p4), .val (.int (p1 &&& (3 : Int32))), .val (.int c101), .val (.int c103), .val (.int c106), .val (.int (own_10 c101)), .unset, .unset, .unset, .unset, .unset] [(.int (own_open (0 : Int32) c101 c101))])) t → Steps p.tables e below (s₁.setTop (entryFrame m #[(.int p1), (.int p2), (.int p3), (.int p4)] maxLocals)) t := fun t kt => by
          refine pre120 t ?_
          show Steps p.tables e below (T110.setTop (mkF m 46 #[.val (.int p1), .val (.int p2), .val (.int p3), .val (.int p4), .val (.int (p1 &&& (3 : Int32))), .val (.int c101), .val (.int c103), .val (.int c106), .val (.int (own_10 c101)), .unset, .unset, .unset, .unset, .unset] [(.int (own_10 c101))])) _
          refine XS.ifNo X110.here hx rfl (hb hby at_46) rfl ((if0 _ _).trans (feq (hc46_121 : ¬ ((own_10 c101) = (0 : Int32)))).1) ?_
          show Steps p.tables e below (T110.setTop (mkF m 49 #[.val (.int p1), .val (.int p2), .val (.int p3), .val (.int p4), .val (.int (p1 &&& (3 : Int32))), .val (.int c101), .val (.int c103), .val (.int c106), .val (.int (own_10 c101)), .unset, .unset, .unset, .unset, .unset] [])) _
          refine XS.iconst X110.here hx rfl (hb hby at_49) ?_
          show Steps p.tables e below (T110.setTop (mkF m 50 #[.val (.int p1), .val (.int p2), .val (.int p3), .val (.int p4), .val (.int (p1 &&& (3 : Int32))), .val (.int c101), .val (.int c103), .val (.int c106), .val (.int (own_10 c101)), .unset, .unset, .unset, .unset, .unset] [(.int (0 : Int32))])) _
          refine XS.iload X110.here hx rfl (hb hby at_50) rfl ?_
          show Steps p.tables e below (T110.setTop (mkF m 52 #[.val (.int p1), .val (.int p2), .val (.int p3), .val (.int p4), .val (.int (p1 &&& (3 : Int32))), .val (.int c101), .val (.int c103), .val (.int c106), .val (.int (own_10 c101)), .unset, .unset, .unset, .unset, .unset] [(.int c101), (.int (0 : Int32))])) _
          refine XS.iload X110.here hx rfl (hb hby at_52) rfl ?_
          show Steps p.tables e below (T110.setTop (mkF m 54 #[.val (.int p1), .val (.int p2), .val (.int p3), .val (.int p4), .val (.int (p1 &&& (3 : Int32))), .val (.int c101), .val (.int c103), .val (.int c106), .val (.int (own_10 c101)), .unset, .unset, .unset, .unset, .unset] [(.int c101), (.int c101), (.int (0 : Int32))])) _
          refine st130 _ ?_
          show Steps p.tables e below (T130.setTop (mkF m 57 #[.val (.int p1), .val (.int p2), .val (.int p3), .val (.int p4), .val (.int (p1 &&& (3 : Int32))), .val (.int c101), .val (.int c103), .val (.int c106), .val (.int (own_10 c101)), .unset, .unset, .unset, .unset, .unset] [(.int (own_open (0 : Int32) c101 c101))])) _
          exact kt
        by_cases hc57_133 : (own_open (0 : Int32) c101 c101) = (0 : Int32)
        · skip
          have pre134 : ∀ t, Steps p.tables e below (T130.setTop (mkF m 81 #[.val (.int p1), .val (.int p2), .val (.int p3), .val (.int p4), .val (.int (p1 &&& (3 : Int32))), .val (.int c101), .val (.int c103), .val (.int c106), .val (.int (own_10 c101)), .val (.int (1 : Int32)), .unset, .unset, .unset, .unset] [])) t → Steps p.tables e below (s₁.setTop (entryFrame m #[(.int p1), (.int p2), (.int p3), (.int p4)] maxLocals)) t := fun t kt => by
            refine pre132 t ?_
            show Steps p.tables e below (T130.setTop (mkF m 57 #[.val (.int p1), .val (.int p2), .val (.int p3), .val (.int p4), .val (.int (p1 &&& (3 : Int32))), .val (.int c101), .val (.int c103), .val (.int c106), .val (.int (own_10 c101)), .unset, .unset, .unset, .unset, .unset] [(.int (own_open (0 : Int32) c101 c101))])) _
            refine XS.ifYes X130.here hx rfl (pc0 := 57) (pc' := 74) rfl (hb hby at_57) rfl ((if0 _ _).trans (teq (hc57_133 : (own_open (0 : Int32) c101 c101) = (0 : Int32))).1) (by decide) (by decide) ?_
            show Steps p.tables e below (T130.setTop (mkF m 74 #[.val (.int p1), .val (.int p2), .val (.int p3), .val (.int p4), .val (.int (p1 &&& (3 : Int32))), .val (.int c101), .val (.int c103), .val (.int c106), .val (.int (own_10 c101)), .unset, .unset, .unset, .unset, .unset] [])) _
            refine XS.iconst X130.here hx rfl (hb hby at_74) ?_
            show Steps p.tables e below (T130.setTop (mkF m 75 #[.val (.int p1), .val (.int p2), .val (.int p3), .val (.int p4), .val (.int (p1 &&& (3 : Int32))), .val (.int c101), .val (.int c103), .val (.int c106), .val (.int (own_10 c101)), .unset, .unset, .unset, .unset, .unset] [(.int (1 : Int32))])) _
            refine XS.goto X130.here hx rfl (pc0 := 75) (pc' := 79) rfl (hb hby at_75) (by decide) (by decide) ?_
            show Steps p.tables e below (T130.setTop (mkF m 79 #[.val (.int p1), .val (.int p2), .val (.int p3), .val (.int p4), .val (.int (p1 &&& (3 : Int32))), .val (.int c101), .val (.int c103), .val (.int c106), .val (.int (own_10 c101)), .unset, .unset, .unset, .unset, .unset] [(.int (1 : Int32))])) _
            refine XS.istore X130.here hx rfl (hb hby at_79) rfl (l' := #[.val (.int p1), .val (.int p2), .val (.int p3), .val (.int p4), .val (.int (p1 &&& (3 : Int32))), .val (.int c101), .val (.int c103), .val (.int c106), .val (.int (own_10 c101)), .val (.int (1 : Int32)), .unset, .unset, .unset, .unset]) rfl ?_
            show Steps p.tables e below (T130.setTop (mkF m 81 #[.val (.int p1), .val (.int p2), .val (.int p3), .val (.int p4), .val (.int (p1 &&& (3 : Int32))), .val (.int c101), .val (.int c103), .val (.int c106), .val (.int (own_10 c101)), .val (.int (1 : Int32)), .unset, .unset, .unset, .unset] [])) _
            exact kt
          have hl135_9 : (own_l9 c101 c103 (own_10 c101)) = (1 : Int32) := by simp only [own_l9, eq_true hc41_119, eq_false hc46_121, eq_true hc57_133, if_true, if_false]
          exact ⟨_, _, X130, N130, Heq130, fun t kt => pre134 t (by rw [hl135_9] at kt; exact kt)⟩
        · skip
          have pre136 : ∀ t, Steps p.tables e below (T130.setTop (mkF m 81 #[.val (.int p1), .val (.int p2), .val (.int p3), .val (.int p4), .val (.int (p1 &&& (3 : Int32))), .val (.int c101), .val (.int c103), .val (.int c106), .val (.int (own_10 c101)), .val (.int (0 : Int32)), .unset, .unset, .unset, .unset] [])) t → Steps p.tables e below (s₁.setTop (entryFrame m #[(.int p1), (.int p2), (.int p3), (.int p4)] maxLocals)) t := fun t kt => by
            refine pre132 t ?_
            show Steps p.tables e below (T130.setTop (mkF m 57 #[.val (.int p1), .val (.int p2), .val (.int p3), .val (.int p4), .val (.int (p1 &&& (3 : Int32))), .val (.int c101), .val (.int c103), .val (.int c106), .val (.int (own_10 c101)), .unset, .unset, .unset, .unset, .unset] [(.int (own_open (0 : Int32) c101 c101))])) _
            refine XS.ifNo X130.here hx rfl (hb hby at_57) rfl ((if0 _ _).trans (feq (hc57_133 : ¬ ((own_open (0 : Int32) c101 c101) = (0 : Int32)))).1) ?_
            show Steps p.tables e below (T130.setTop (mkF m 60 #[.val (.int p1), .val (.int p2), .val (.int p3), .val (.int p4), .val (.int (p1 &&& (3 : Int32))), .val (.int c101), .val (.int c103), .val (.int c106), .val (.int (own_10 c101)), .unset, .unset, .unset, .unset, .unset] [])) _
            refine XS.goto X130.here hx rfl (pc0 := 60) (pc' := 78) rfl (hb hby at_60) (by decide) (by decide) ?_
            show Steps p.tables e below (T130.setTop (mkF m 78 #[.val (.int p1), .val (.int p2), .val (.int p3), .val (.int p4), .val (.int (p1 &&& (3 : Int32))), .val (.int c101), .val (.int c103), .val (.int c106), .val (.int (own_10 c101)), .unset, .unset, .unset, .unset, .unset] [])) _
            refine XS.iconst X130.here hx rfl (hb hby at_78) ?_
            show Steps p.tables e below (T130.setTop (mkF m 79 #[.val (.int p1), .val (.int p2), .val (.int p3), .val (.int p4), .val (.int (p1 &&& (3 : Int32))), .val (.int c101), .val (.int c103), .val (.int c106), .val (.int (own_10 c101)), .unset, .unset, .unset, .unset, .unset] [(.int (0 : Int32))])) _
            refine XS.istore X130.here hx rfl (hb hby at_79) rfl (l' := #[.val (.int p1), .val (.int p2), .val (.int p3), .val (.int p4), .val (.int (p1 &&& (3 : Int32))), .val (.int c101), .val (.int c103), .val (.int c106), .val (.int (own_10 c101)), .val (.int (0 : Int32)), .unset, .unset, .unset, .unset]) rfl ?_
            show Steps p.tables e below (T130.setTop (mkF m 81 #[.val (.int p1), .val (.int p2), .val (.int p3), .val (.int p4), .val (.int (p1 &&& (3 : Int32))), .val (.int c101), .val (.int c103), .val (.int c106), .val (.int (own_10 c101)), .val (.int (0 : Int32)), .unset, .unset, .unset, .unset] [])) _
            exact kt
          have hl137_9 : (own_l9 c101 c103 (own_10 c101)) = (0 : Int32) := by simp only [own_l9, eq_true hc41_119, eq_false hc46_121, eq_false hc57_133, if_true, if_false]
          exact ⟨_, _, X130, N130, Heq130, fun t kt => pre136 t (by rw [hl137_9] at kt; exact kt)⟩
    · skip
      have pre138 : ∀ t, Steps p.tables e below (T110.setTop (mkF m 81 #[.val (.int p1), .val (.int p2), .val (.int p3), .val (.int p4), .val (.int (p1 &&& (3 : Int32))), .val (.int c101), .val (.int c103), .val (.int c106), .val (.int (own_10 c101)), .val (.int (0 : Int32)), .unset, .unset, .unset, .unset] [])) t → Steps p.tables e below (s₁.setTop (entryFrame m #[(.int p1), (.int p2), (.int p3), (.int p4)] maxLocals)) t := fun t kt => by
        refine pre118 t ?_
        show Steps p.tables e below (T110.setTop (mkF m 41 #[.val (.int p1), .val (.int p2), .val (.int p3), .val (.int p4), .val (.int (p1 &&& (3 : Int32))), .val (.int c101), .val (.int c103), .val (.int c106), .val (.int (own_10 c101)), .unset, .unset, .unset, .unset, .unset] [(.int (10 : Int32)), (.int c103)])) _
        refine XS.icmpYes X110.here hx rfl (pc0 := 41) (pc' := 78) rfl (hb hby at_41) rfl (feq (hc41_119 : ¬ (c103 = (10 : Int32)))).2 (by decide) (by decide) ?_
        show Steps p.tables e below (T110.setTop (mkF m 78 #[.val (.int p1), .val (.int p2), .val (.int p3), .val (.int p4), .val (.int (p1 &&& (3 : Int32))), .val (.int c101), .val (.int c103), .val (.int c106), .val (.int (own_10 c101)), .unset, .unset, .unset, .unset, .unset] [])) _
        refine XS.iconst X110.here hx rfl (hb hby at_78) ?_
        show Steps p.tables e below (T110.setTop (mkF m 79 #[.val (.int p1), .val (.int p2), .val (.int p3), .val (.int p4), .val (.int (p1 &&& (3 : Int32))), .val (.int c101), .val (.int c103), .val (.int c106), .val (.int (own_10 c101)), .unset, .unset, .unset, .unset, .unset] [(.int (0 : Int32))])) _
        refine XS.istore X110.here hx rfl (hb hby at_79) rfl (l' := #[.val (.int p1), .val (.int p2), .val (.int p3), .val (.int p4), .val (.int (p1 &&& (3 : Int32))), .val (.int c101), .val (.int c103), .val (.int c106), .val (.int (own_10 c101)), .val (.int (0 : Int32)), .unset, .unset, .unset, .unset]) rfl ?_
        show Steps p.tables e below (T110.setTop (mkF m 81 #[.val (.int p1), .val (.int p2), .val (.int p3), .val (.int p4), .val (.int (p1 &&& (3 : Int32))), .val (.int c101), .val (.int c103), .val (.int c106), .val (.int (own_10 c101)), .val (.int (0 : Int32)), .unset, .unset, .unset, .unset] [])) _
        exact kt
      have hl139_9 : (own_l9 c101 c103 (own_10 c101)) = (0 : Int32) := by simp only [own_l9, eq_false hc41_119, if_true, if_false]
      exact ⟨_, _, X110, N110, e110, fun t kt => pre138 t (by rw [hl139_9] at kt; exact kt)⟩
  obtain ⟨T140, L140, X140, N140, e140, pre140⟩ : ∃ (T' : State) (L' : List Loc), Stand p l e room_1 (s.setVm s.vm) m #[(.int p1), (.int p2), (.int p3), (.int p4)] below meth c T' L' 3 24 ∧ Fr n0 L' ∧ T'.heap = T106.heap ∧ ∀ t, Steps p.tables e below (T'.setTop (mkF m 127 #[.val (.int p1), .val (.int p2), .val (.int p3), .val (.int p4), .val (.int (p1 &&& (3 : Int32))), .val (.int c101), .val (.int c103), .val (.int c106), .val (.int (own_10 c101)), .val (.int (own_l9 c101 c103 (own_10 c101))), .val (.int (own_l10 c101 c103 (own_10 c101) (own_l9 c101 c103 (own_10 c101)))), .unset, .unset, .unset] [])) t → Steps p.tables e below (s₁.setTop (entryFrame m #[(.int p1), (.int p2), (.int p3), (.int p4)] maxLocals)) t := by
    have pre141 : ∀ t, Steps p.tables e below (T117.setTop (mkF m 83 #[.val (.int p1), .val (.int p2), .val (.int p3), .val (.int p4), .val (.int (p1 &&& (3 : Int32))), .val (.int c101), .val (.int c103), .val (.int c106), .val (.int (own_10 c101)), .val (.int (own_l9 c101 c103 (own_10 c101))), .unset, .unset, .unset, .unset] [(.int (own_l9 c101 c103 (own_10 c101)))])) t → Steps p.tables e below (s₁.setTop (entryFrame m #[(.int p1), (.int p2), (.int p3), (.int p4)] maxLocals)) t := fun t kt => by
      refine pre117 t ?_
      show Steps p.tables e below (T117.setTop (mkF m 81 #[.val (.int p1), .val (.int p2), .val (.int p3), .val (.int p4), .val (.int (p1 &&& (3 : Int32))), .val (.int c101), .val (.int c103), .val (.int c106), .val (.int (own_10 c101)), .val (.int (own_l9 c101 c103 (own_10 c101))), .unset, .unset, .unset, .unset] [])) _
      refine XS.iload X117.here hx rfl (hb hby at_81) rfl ?_
      show Steps p.tables e below (T117.setTop (mkF m 83 #[.val (.int p1), .val (.int p2), .val (.int p3), .val (.int p4), .val (.int (p1 &&& (3 : Int32))), .val (.int c101), .val (.int c103), .val (.int c106), .val (.int (own_10 c101)), .val (.int (own_l9 c101 c103 (own_10 c101))), .unset, .unset, .unset, .unset] [(.int (own_l9 c101 c103 (own_10 c101)))])) _
      exact kt
    by_cases hc83_142 : (own_l9 c101 c103 (own_10 c101)) = (0 : Int32)
    · skip
      have pre143 : ∀ t, Steps p.tables e below (T117.setTop (mkF m 101 #[.val (.int p1), .val (.int p2), .val (.int p3), .val (.int p4), .val (.int (p1 &&& (3 : Int32))), .val (.int c101), .val (.int c103), .val (.int c106), .val (.int (own_10 c101)), .val (.int (own_l9 c101 c103 (own_10 c101))), .unset, .unset, .unset, .unset] [(.int (own_10 c101))])) t → Steps p.tables e below (s₁.setTop (entryFrame m #[(.int p1), (.int p2), (.int p3), (.int p4)] maxLocals)) t := fun t kt => by
        refine pre141 t ?_
        show Steps p.tables e below (T117.setTop (mkF m 83 #[.val (.int p1), .val (.int p2), .val (.int p3), .val (.int p4), .val (.int (p1 &&& (3 : Int32))), .val (.int c101), .val (.int c103), .val (.int c106), .val (.int (own_10 c101)), .val (.int (own_l9 c101 c103 (own_10 c101))), .unset, .unset, .unset, .unset] [(.int (own_l9 c101 c103 (own_10 c101)))])) _
        refine XS.ifYes X117.here hx rfl (pc0 := 83) (pc' := 99) rfl (hb hby at_83) rfl ((if0 _ _).trans (teq (hc83_142 : (own_l9 c101 c103 (own_10 c101)) = (0 : Int32))).1) (by decide) (by decide) ?_
        show Steps p.tables e below (T117.setTop (mkF m 99 #[.val (.int p1), .val (.int p2), .val (.int p3), .val (.int p4), .val (.int (p1 &&& (3 : Int32))), .val (.int c101), .val (.int c103), .val (.int c106), .val (.int (own_10 c101)), .val (.int (own_l9 c101 c103 (own_10 c101))), .unset, .unset, .unset, .unset] [])) _
        refine XS.iload X117.here hx rfl (hb hby at_99) rfl ?_
        show Steps p.tables e below (T117.setTop (mkF m 101 #[.val (.int p1), .val (.int p2), .val (.int p3), .val (.int p4), .val (.int (p1 &&& (3 : Int32))), .val (.int c101), .val (.int c103), .val (.int c106), .val (.int (own_10 c101)), .val (.int (own_l9 c101 c103 (own_10 c101))), .unset, .unset, .unset, .unset] [(.int (own_10 c101))])) _
        exact kt
      by_cases hc101_144 : (own_10 c101) = (0 : Int32)
      · skip
        have z146 : n0 ≤ T106.heap.size := (Nat.le_trans z107 K106.1)
        obtain ⟨_, _, ⟨T145, L145, k145, n145⟩, -, X145, ⟨Lc145, hQ145, l145, y145, z145⟩, st145⟩ := Jvm.LawKit.callS X117 hx (y := (⟨"com/example/rouse/rouse/shell/ShellWordsContinuesPinLaw", "open", "(ICC)Z"⟩ : MethodName)) hown (mvT hZ (hw _ (List.mem_of_getElem? (i := 5) rfl))) (mvT hZ (hw _ (List.mem_of_getElem? (i := 6) rfl))) (mvT hZ (hw _ (List.mem_of_getElem? (i := 2) rfl))) (mvT hZ (hw _ (List.mem_of_getElem? (i := 7) rfl))) (by decide) (backOf (W := 0) (rm2 l Z a0 hw [] (2 : Int32) c101 c103 T106.heap n0 z146) hZ (hw _ (List.mem_of_getElem? (i := 7) rfl)) (hw _ (List.mem_of_getElem? (i := 2) rfl)) (by decide) (by decide)) (g := (mkF m 122 #[.val (.int p1), .val (.int p2), .val (.int p3), .val (.int p4), .val (.int (p1 &&& (3 : Int32))), .val (.int c101), .val (.int c103), .val (.int c106), .val (.int (own_10 c101)), .val (.int (own_l9 c101 c103 (own_10 c101))), .unset, .unset, .unset, .unset] [(.int c103), (.int c101), (.int (2 : Int32))])) rfl (by rw [hml]; rfl) (argsL := [(.int (2 : Int32)), (.int c101), (.int c103)]) (rest := []) (lenOf pd_15 rfl) rfl (by show 2 * 0 + _ ≤ _; exact Nat.le_of_eq rfl) (hb hby at_122) (fun _ _ => ⟨rfl, e117, (by decide : 3 + 0 ≤ _), (by decide : 24 + 0 ≤ _)⟩)
        dsimp only [Pt.U, Pt.locs, Pt.cells, Pt.slots] at X145 l145 y145 z145 st145 hQ145
        subst l145 y145 z145
        obtain ⟨rfl, Nq145, Heq145⟩ := hQ145
        have N145 := Fr.app N117 Nq145
        have pre147 : ∀ t, Steps p.tables e below (T145.setTop (mkF m 127 #[.val (.int p1), .val (.int p2), .val (.int p3), .val (.int p4), .val (.int (p1 &&& (3 : Int32))), .val (.int c101), .val (.int c103), .val (.int c106), .val (.int (own_10 c101)), .val (.int (own_l9 c101 c103 (own_10 c101))), .val (.int (own_open (2 : Int32) c101 c103)), .unset, .unset, .unset] [])) t → Steps p.tables e below (s₁.setTop (entryFrame m #[(.int p1), (.int p2), (.int p3), (.int p4)] maxLocals)) t := fun t kt => by
          refine pre143 t ?_
          show Steps p.tables e below (T117.setTop (mkF m 101 #[.val (.int p1), .val (.int p2), .val (.int p3), .val (.int p4), .val (.int (p1 &&& (3 : Int32))), .val (.int c101), .val (.int c103), .val (.int c106), .val (.int (own_10 c101)), .val (.int (own_l9 c101 c103 (own_10 c101))), .unset, .unset, .unset, .unset] [(.int (own_10 c101))])) _
          refine XS.ifYes X117.here hx rfl (pc0 := 101) (pc' := 117) rfl (hb hby at_101) rfl ((if0 _ _).trans (teq (hc101_144 : (own_10 c101) = (0 : Int32))).1) (by decide) (by decide) ?_
          show Steps p.tables e below (T117.setTop (mkF m 117 #[.val (.int p1), .val (.int p2), .val (.int p3), .val (.int p4), .val (.int (p1 &&& (3 : Int32))), .val (.int c101), .val (.int c103), .val (.int c106), .val (.int (own_10 c101)), .val (.int (own_l9 c101 c103 (own_10 c101))), .unset, .unset, .unset, .unset] [])) _
          refine XS.iconst X117.here hx rfl (hb hby at_117) ?_
          show Steps p.tables e below (T117.setTop (mkF m 118 #[.val (.int p1), .val (.int p2), .val (.int p3), .val (.int p4), .val (.int (p1 &&& (3 : Int32))), .val (.int c101), .val (.int c103), .val (.int c106), .val (.int (own_10 c101)), .val (.int (own_l9 c101 c103 (own_10 c101))), .unset, .unset, .unset, .unset] [(.int (2 : Int32))])) _
          refine XS.iload X117.here hx rfl (hb hby at_118) rfl ?_
          show Steps p.tables e below (T117.setTop (mkF m 120 #[.val (.int p1), .val (.int p2), .val (.int p3), .val (.int p4), .val (.int (p1 &&& (3 : Int32))), .val (.int c101), .val (.int c103), .val (.int c106), .val (.int (own_10 c101)), .val (.int (own_l9 c101 c103 (own_10 c101))), .unset, .unset, .unset, .unset] [(.int c101), (.int (2 : Int32))])) _
          refine XS.iload X117.here hx rfl (hb hby at_120) rfl ?_
          show Steps p.tables e below (T117.setTop (mkF m 122 #[.val (.int p1), .val (.int p2), .val (.int p3), .val (.int p4), .val (.int (p1 &&& (3 : Int32))), .val (.int c101), .val (.int c103), .val (.int c106), .val (.int (own_10 c101)), .val (.int (own_l9 c101 c103 (own_10 c101))), .unset, .unset, .unset, .unset] [(.int c103), (.int c101), (.int (2 : Int32))])) _
          refine st145 _ ?_
          show Steps p.tables e below (T145.setTop (mkF m 125 #[.val (.int p1), .val (.int p2), .val (.int p3), .val (.int p4), .val (.int (p1 &&& (3 : Int32))), .val (.int c101), .val (.int c103), .val (.int c106), .val (.int (own_10 c101)), .val (.int (own_l9 c101 c103 (own_10 c101))), .unset, .unset, .unset, .unset] [(.int (own_open (2 : Int32) c101 c103))])) _
          refine XS.istore X145.here hx rfl (hb hby at_125) rfl (l' := #[.val (.int p1), .val (.int p2), .val (.int p3), .val (.int p4), .val (.int (p1 &&& (3 : Int32))), .val (.int c101), .val (.int c103), .val (.int c106), .val (.int (own_10 c101)), .val (.int (own_l9 c101 c103 (own_10 c101))), .val (.int (own_open (2 : Int32) c101 c103)), .unset, .unset, .unset]) rfl ?_
          show Steps p.tables e below (T145.setTop (mkF m 127 #[.val (.int p1), .val (.int p2), .val (.int p3), .val (.int p4), .val (.int (p1 &&& (3 : Int32))), .val (.int c101), .val (.int c103), .val (.int c106), .val (.int (own_10 c101)), .val (.int (own_l9 c101 c103 (own_10 c101))), .val (.int (own_open (2 : Int32) c101 c103)), .unset, .unset, .unset] [])) _
          exact kt
        have hl148_10 : (own_l10 c101 c103 (own_10 c101) (own_l9 c101 c103 (own_10 c101))) = (own_open (2 : Int32) c101 c103) := by simp only [own_l10, eq_true hc83_142, eq_true hc101_144, if_true, if_false]
        exact ⟨_, _, X145, N145, Heq145, fun t kt => pre147 t (by rw [hl148_10] at kt; exact kt)⟩
      · skip
        have z150 : n0 ≤ T106.heap.size := (Nat.le_trans z107 K106.1)
        obtain ⟨_, _, ⟨T149, L149, k149, n149⟩, -, X149, ⟨Lc149, hQ149, l149, y149, z149⟩, st149⟩ := Jvm.LawKit.callS X117 hx (y := (⟨"com/example/rouse/rouse/shell/ShellWordsContinuesPinLaw", "open", "(ICC)Z"⟩ : MethodName)) hown (mvT hZ (hw _ (List.mem_of_getElem? (i := 5) rfl))) (mvT hZ (hw _ (List.mem_of_getElem? (i := 6) rfl))) (mvT hZ (hw _ (List.mem_of_getElem? (i := 2) rfl))) (mvT hZ (hw _ (List.mem_of_getElem? (i := 7) rfl))) (by decide) (backOf (W := 0) (rm2 l Z a0 hw [] (1 : Int32) c103 c103 T106.heap n0 z150) hZ (hw _ (List.mem_of_getElem? (i := 7) rfl)) (hw _ (List.mem_of_getElem? (i := 2) rfl)) (by decide) (by decide)) (g := (mkF m 109 #[.val (.int p1), .val (.int p2), .val (.int p3), .val (.int p4), .val (.int (p1 &&& (3 : Int32))), .val (.int c101), .val (.int c103), .val (.int c106), .val (.int (own_10 c101)), .val (.int (own_l9 c101 c103 (own_10 c101))), .unset, .unset, .unset, .unset] [(.int c103), (.int c103), (.int (1 : Int32))])) rfl (by rw [hml]; rfl) (argsL := [(.int (1 : Int32)), (.int c103), (.int c103)]) (rest := []) (lenOf pd_15 rfl) rfl (by show 2 * 0 + _ ≤ _; exact Nat.le_of_eq rfl) (hb hby at_109) (fun _ _ => ⟨rfl, e117, (by decide : 3 + 0 ≤ _), (by decide : 24 + 0 ≤ _)⟩)
        dsimp only [Pt.U, Pt.locs, Pt.cells, Pt.slots] at X149 l149 y149 z149 st149 hQ149
        subst l149 y149 z149
        obtain ⟨rfl, Nq149, Heq149⟩ := hQ149
        have N149 := Fr.app N117 Nq149
        have pre151 : ∀ t, Steps p.tables e below (T149.setTop (mkF m 127 #[.val (.int p1), .val (.int p2), .val (.int p3), .val (.int p4), .val (.int (p1 &&& (3 : Int32))), .val (.int c101), .val (.int c103), .val (.int c106), .val (.int (own_10 c101)), .val (.int (own_l9 c101 c103 (own_10 c101))), .val (.int (own_open (1 : Int32) c103 c103)), .unset, .unset, .unset] [])) t → Steps p.tables e below (s₁.setTop (entryFrame m #[(.int p1), (.int p2), (.int p3), (.int p4)] maxLocals)) t := fun t kt => by
          refine pre143 t ?_
          show Steps p.tables e below (T117.setTop (mkF m 101 #[.val (.int p1), .val (.int p2), .val (.int p3), .val (.int p4), .val (.int (p1 &&& (3 : Int32))), .val (.int c101), .val (.int c103), .val (.int c106), .val (.int (own_10 c101)), .val (.int (own_l9 c101 c103 (own_10 c101))), .unset, .unset, .unset, .unset] [(.int (own_10 c101))])) _
          refine XS.ifNo X117.here hx rfl (hb hby at_101) rfl ((if0 _ _).trans (feq (hc101_144 : ¬ ((own_10 c101) = (0 : Int32)))).1) ?_
          show Steps p.tables e below (T117.setTop (mkF m 104 #[.val (.int p1), .val (.int p2), .val (.int p3), .val (.int p4), .val (.int (p1 &&& (3 : Int32))), .val (.int c101), .val (.int c103), .val (.int c106), .val (.int (own_10 c101)), .val (.int (own_l9 c101 c103 (own_10 c101))), .unset, .unset, .unset, .unset] [])) _
          refine XS.iconst X117.here hx rfl (hb hby at_104) ?_
          show Steps p.tables e below (T117.setTop (mkF m 105 #[.val (.int p1), .val (.int p2), .val (.int p3), .val (.int p4), .val (.int (p1 &&& (3 : Int32))), .val (.int c101), .val (.int c103), .val (.int c106), .val (.int (own_10 c101)), .val (.int (own_l9 c101 c103 (own_10 c101))), .unset, .unset, .unset, .unset] [(.int (1 : Int32))])) _
          refine XS.iload X117.here hx rfl (hb hby at_105) rfl ?_
          show Steps p.tables e below (T117.setTop (mkF m 107 #[.val (.int p1), .val (.int p2), .val (.int p3), .val (.int p4), .val (.int (p1 &&& (3 : Int32))), .val (.int c101), .val (.int c103), .val (.int c106), .val (.int (own_10 c101)), .val (.int (own_l9 c101 c103 (own_10 c101))), .unset, .unset, .unset, .unset] [(.int c103), (.int (1 : Int32))])) _
          refine XS.iload X117.here hx rfl (hb hby at_107) rfl ?_
          show Steps p.tables e below (T117.setTop (mkF m 109 #[.val (.int p1), .val (.int p2), .val (.int p3), .val (.int p4), .val (.int (p1 &&& (3 : Int32))), .val (.int c101), .val (.int c103), .val (.int c106), .val (.int (own_10 c101)), .val (.int (own_l9 c101 c103 (own_10 c101))), .unset, .unset, .unset, .unset] [(.int c103), (.int c103), (.int (1 : Int32))])) _
          refine st149 _ ?_
          show Steps p.tables e below (T149.setTop (mkF m 112 #[.val (.int p1), .val (.int p2), .val (.int p3), .val (.int p4), .val (.int (p1 &&& (3 : Int32))), .val (.int c101), .val (.int c103), .val (.int c106), .val (.int (own_10 c101)), .val (.int (own_l9 c101 c103 (own_10 c101))), .unset, .unset, .unset, .unset] [(.int (own_open (1 : Int32) c103 c103))])) _
          refine XS.istore X149.here hx rfl (hb hby at_112) rfl (l' := #[.val (.int p1), .val (.int p2), .val (.int p3), .val (.int p4), .val (.int (p1 &&& (3 : Int32))), .val (.int c101), .val (.int c103), .val (.int c106), .val (.int (own_10 c101)), .val (.int (own_l9 c101 c103 (own_10 c101))), .val (.int (own_open (1 : Int32) c103 c103)), .unset, .unset, .unset]) rfl ?_
          show Steps p.tables e below (T149.setTop (mkF m 114 #[.val (.int p1), .val (.int p2), .val (.int p3), .val (.int p4), .val (.int (p1 &&& (3 : Int32))), .val (.int c101), .val (.int c103), .val (.int c106), .val (.int (own_10 c101)), .val (.int (own_l9 c101 c103 (own_10 c101))), .val (.int (own_open (1 : Int32) c103 c103)), .unset, .unset, .unset] [])) _
          refine XS.goto X149.here hx rfl (pc0 := 114) (pc' := 127) rfl (hb hby at_114) (by decide) (by decide) ?_
          show Steps p.tables e below (T149.setTop (mkF m 127 #[.val (.int p1), .val (.int p2), .val (.int p3), .val (.int p4), .val (.int (p1 &&& (3 : Int32))), .val (.int c101), .val (.int c103), .val (.int c106), .val (.int (own_10 c101)), .val (.int (own_l9 c101 c103 (own_10 c101))), .val (.int (own_open (1 : Int32) c103 c103)), .unset, .unset, .unset] [])) _
          exact kt
        have hl152_10 : (own_l10 c101 c103 (own_10 c101) (own_l9 c101 c103 (own_10 c101))) = (own_open (1 : Int32) c103 c103) := by simp only [own_l10, eq_true hc83_142, eq_false hc101_144, if_true, if_false]
        exact ⟨_, _, X149, N149, Heq149, fun t kt => pre151 t (by rw [hl152_10] at kt; exact kt)⟩
    · skip
      have z154 : n0 ≤ T106.heap.size := (Nat.le_trans z107 K106.1)
      obtain ⟨_, _, ⟨T153, L153, k153, n153⟩, -, X153, ⟨Lc153, hQ153, l153, y153, z153⟩, st153⟩ := Jvm.LawKit.callS X117 hx (y := (⟨"com/example/rouse/rouse/shell/ShellWordsContinuesPinLaw", "open", "(ICC)Z"⟩ : MethodName)) hown (mvT hZ (hw _ (List.mem_of_getElem? (i := 5) rfl))) (mvT hZ (hw _ (List.mem_of_getElem? (i := 6) rfl))) (mvT hZ (hw _ (List.mem_of_getElem? (i := 2) rfl))) (mvT hZ (hw _ (List.mem_of_getElem? (i := 7) rfl))) (by decide) (backOf (W := 0) (rm2 l Z a0 hw [] (0 : Int32) c101 c103 T106.heap n0 z154) hZ (hw _ (List.mem_of_getElem? (i := 7) rfl)) (hw _ (List.mem_of_getElem? (i := 2) rfl)) (by decide) (by decide)) (g := (mkF m 91 #[.val (.int p1), .val (.int p2), .val (.int p3), .val (.int p4), .val (.int (p1 &&& (3 : Int32))), .val (.int c101), .val (.int c103), .val (.int c106), .val (.int (own_10 c101)), .val (.int (own_l9 c101 c103 (own_10 c101))), .unset, .unset, .unset, .unset] [(.int c103), (.int c101), (.int (0 : Int32))])) rfl (by rw [hml]; rfl) (argsL := [(.int (0 : Int32)), (.int c101), (.int c103)]) (rest := []) (lenOf pd_15 rfl) rfl (by show 2 * 0 + _ ≤ _; exact Nat.le_of_eq rfl) (hb hby at_91) (fun _ _ => ⟨rfl, e117, (by decide : 3 + 0 ≤ _), (by decide : 24 + 0 ≤ _)⟩)
      dsimp only [Pt.U, Pt.locs, Pt.cells, Pt.slots] at X153 l153 y153 z153 st153 hQ153
      subst l153 y153 z153
      obtain ⟨rfl, Nq153, Heq153⟩ := hQ153
      have N153 := Fr.app N117 Nq153
      have pre155 : ∀ t, Steps p.tables e below (T153.setTop (mkF m 127 #[.val (.int p1), .val (.int p2), .val (.int p3), .val (.int p4), .val (.int (p1 &&& (3 : Int32))), .val (.int c101), .val (.int c103), .val (.int c106), .val (.int (own_10 c101)), .val (.int (own_l9 c101 c103 (own_10 c101))), .val (.int (own_open (0 : Int32) c101 c103)), .unset, .unset, .unset] [])) t → Steps p.tables e below (s₁.setTop (entryFrame m #[(.int p1), (.int p2), (.int p3), (.int p4)] maxLocals)) t := fun t kt => by
        refine pre141 t ?_
        show Steps p.tables e below (T117.setTop (mkF m 83 #[.val (.int p1), .val (.int p2), .val (.int p3), .val (.int p4), .val (.int (p1 &&& (3 : Int32))), .val (.int c101), .val (.int c103), .val (.int c106), .val (.int (own_10 c101)), .val (.int (own_l9 c101 c103 (own_10 c101))), .unset, .unset, .unset, .unset] [(.int (own_l9 c101 c103 (own_10 c101)))])) _
        refine XS.ifNo X117.here hx rfl (hb hby at_83) rfl ((if0 _ _).trans (feq (hc83_142 : ¬ ((own_l9 c101 c103 (own_10 c101)) = (0 : Int32)))).1) ?_
        show Steps p.tables e below (T117.setTop (mkF m 86 #[.val (.int p1), .val (.int p2), .val (.int p3), .val (.int p4), .val (.int (p1 &&& (3 : Int32))), .val (.int c101), .val (.int c103), .val (.int c106), .val (.int (own_10 c101)), .val (.int (own_l9 c101 c103 (own_10 c101))), .unset, .unset, .unset, .unset] [])) _
        refine XS.iconst X117.here hx rfl (hb hby at_86) ?_
        show Steps p.tables e below (T117.setTop (mkF m 87 #[.val (.int p1), .val (.int p2), .val (.int p3), .val (.int p4), .val (.int (p1 &&& (3 : Int32))), .val (.int c101), .val (.int c103), .val (.int c106), .val (.int (own_10 c101)), .val (.int (own_l9 c101 c103 (own_10 c101))), .unset, .unset, .unset, .unset] [(.int (0 : Int32))])) _
        refine XS.iload X117.here hx rfl (hb hby at_87) rfl ?_
        show Steps p.tables e below (T117.setTop (mkF m 89 #[.val (.int p1), .val (.int p2), .val (.int p3), .val (.int p4), .val (.int (p1 &&& (3 : Int32))), .val (.int c101), .val (.int c103), .val (.int c106), .val (.int (own_10 c101)), .val (.int (own_l9 c101 c103 (own_10 c101))), .unset, .unset, .unset, .unset] [(.int c101), (.int (0 : Int32))])) _
        refine XS.iload X117.here hx rfl (hb hby at_89) rfl ?_
        show Steps p.tables e below (T117.setTop (mkF m 91 #[.val (.int p1), .val (.int p2), .val (.int p3), .val (.int p4), .val (.int (p1 &&& (3 : Int32))), .val (.int c101), .val (.int c103), .val (.int c106), .val (.int (own_10 c101)), .val (.int (own_l9 c101 c103 (own_10 c101))), .unset, .unset, .unset, .unset] [(.int c103), (.int c101), (.int (0 : Int32))])) _
        refine st153 _ ?_
        show Steps p.tables e below (T153.setTop (mkF m 94 #[.val (.int p1), .val (.int p2), .val (.int p3), .val (.int p4), .val (.int (p1 &&& (3 : Int32))), .val (.int c101), .val (.int c103), .val (.int c106), .val (.int (own_10 c101)), .val (.int (own_l9 c101 c103 (own_10 c101))), .unset, .unset, .unset, .unset] [(.int (own_open (0 : Int32) c101 c103))])) _
        refine XS.istore X153.here hx rfl (hb hby at_94) rfl (l' := #[.val (.int p1), .val (.int p2), .val (.int p3), .val (.int p4), .val (.int (p1 &&& (3 : Int32))), .val (.int c101), .val (.int c103), .val (.int c106), .val (.int (own_10 c101)), .val (.int (own_l9 c101 c103 (own_10 c101))), .val (.int (own_open (0 : Int32) c101 c103)), .unset, .unset, .unset]) rfl ?_
        show Steps p.tables e below (T153.setTop (mkF m 96 #[.val (.int p1), .val (.int p2), .val (.int p3), .val (.int p4), .val (.int (p1 &&& (3 : Int32))), .val (.int c101), .val (.int c103), .val (.int c106), .val (.int (own_10 c101)), .val (.int (own_l9 c101 c103 (own_10 c101))), .val (.int (own_open (0 : Int32) c101 c103)), .unset, .unset, .unset] [])) _
        refine XS.goto X153.here hx rfl (pc0 := 96) (pc' := 127) rfl (hb hby at_96) (by decide) (by decide) ?_
        show Steps p.tables e below (T153.setTop (mkF m 127 #[.val (.int p1), .val (.int p2), .val (.int p3), .val (.int p4), .val (.int (p1 &&& (3 : Int32))), .val (.int c101), .val (.int c103), .val (.int c106), .val (.int (own_10 c101)), .val (.int (own_l9 c101 c103 (own_10 c101))), .val (.int (own_open (0 : Int32) c101 c103)), .unset, .unset, .unset] [])) _
        exact kt
      have hl156_10 : (own_l10 c101 c103 (own_10 c101) (own_l9 c101 c103 (own_10 c101))) = (own_open (0 : Int32) c101 c103) := by simp only [own_l10, eq_false hc83_142, if_true, if_false]
      exact ⟨_, _, X153, N153, Heq153, fun t kt => pre155 t (by rw [hl156_10] at kt; exact kt)⟩
  obtain ⟨T157, L157, X157, N157, e157, pre157⟩ : ∃ (T' : State) (L' : List Loc), Stand p l e room_1 (s.setVm s.vm) m #[(.int p1), (.int p2), (.int p3), (.int p4)] below meth c T' L' 3 24 ∧ Fr n0 L' ∧ T'.heap = T106.heap ∧ ∀ t, Steps p.tables e below (T'.setTop (mkF m 146 #[.val (.int p1), .val (.int p2), .val (.int p3), .val (.int p4), .val (.int (p1 &&& (3 : Int32))), .val (.int c101), .val (.int c103), .val (.int c106), .val (.int (own_10 c101)), .val (.int (own_l9 c101 c103 (own_10 c101))), .val (.int (own_l10 c101 c103 (own_10 c101) (own_l9 c101 c103 (own_10 c101)))), .val (.int (own_l11 c106 (own_l10 c101 c103 (own_10 c101) (own_l9 c101 c103 (own_10 c101))))), .unset, .unset] [])) t → Steps p.tables e below (s₁.setTop (entryFrame m #[(.int p1), (.int p2), (.int p3), (.int p4)] maxLocals)) t := by
    have pre158 : ∀ t, Steps p.tables e below (T140.setTop (mkF m 131 #[.val (.int p1), .val (.int p2), .val (.int p3), .val (.int p4), .val (.int (p1 &&& (3 : Int32))), .val (.int c101), .val (.int c103), .val (.int c106), .val (.int (own_10 c101)), .val (.int (own_l9 c101 c103 (own_10 c101))), .val (.int (own_l10 c101 c103 (own_10 c101) (own_l9 c101 c103 (own_10 c101)))), .unset, .unset, .unset] [(.int (10 : Int32)), (.int c106)])) t → Steps p.tables e below (s₁.setTop (entryFrame m #[(.int p1), (.int p2), (.int p3), (.int p4)] maxLocals)) t := fun t kt => by
      refine pre140 t ?_
      show Steps p.tables e below (T140.setTop (mkF m 127 #[.val (.int p1), .val (.int p2), .val (.int p3), .val (.int p4), .val (.int (p1 &&& (3 : Int32))), .val (.int c101), .val (.int c103), .val (.int c106), .val (.int (own_10 c101)), .val (.int (own_l9 c101 c103 (own_10 c101))), .val (.int (own_l10 c101 c103 (own_10 c101) (own_l9 c101 c103 (own_10 c101)))), .unset, .unset, .unset] [])) _
      refine XS.iload X140.here hx rfl (hb hby at_127) rfl ?_
      show Steps p.tables e below (T140.setTop (mkF m 129 #[.val (.int p1), .val (.int p2), .val (.int p3), .val (.int p4), .val (.int (p1 &&& (3 : Int32))), .val (.int c101), .val (.int c103), .val (.int c106), .val (.int (own_10 c101)), .val (.int (own_l9 c101 c103 (own_10 c101))), .val (.int (own_l10 c101 c103 (own_10 c101) (own_l9 c101 c103 (own_10 c101)))), .unset, .unset, .unset] [(.int c106)])) _
      refine XS.bipush X140.here hx rfl (hb hby at_129) ?_
      show Steps p.tables e below (T140.setTop (mkF m 131 #[.val (.int p1), .val (.int p2), .val (.int p3), .val (.int p4), .val (.int (p1 &&& (3 : Int32))), .val (.int c101), .val (.int c103), .val (.int c106), .val (.int (own_10 c101)), .val (.int (own_l9 c101 c103 (own_10 c101))), .val (.int (own_l10 c101 c103 (own_10 c101) (own_l9 c101 c103 (own_10 c101)))), .unset, .unset, .unset] [(.int (10 : Int32)), (.int c106)])) _
      exact kt
    by_cases hc131_159 : c106 = (10 : Int32)
    · skip
      have pre160 : ∀ t, Steps p.tables e below (T140.setTop (mkF m 136 #[.val (.int p1), .val (.int p2), .val (.int p3), .val (.int p4), .val (.int (p1 &&& (3 : Int32))), .val (.int c101), .val (.int c103), .val (.int c106), .val (.int (own_10 c101)), .val (.int (own_l9 c101 c103 (own_10 c101))), .val (.int (own_l10 c101 c103 (own_10 c101) (own_l9 c101 c103 (own_10 c101)))), .unset, .unset, .unset] [(.int (own_l10 c101 c103 (own_10 c101) (own_l9 c101 c103 (own_10 c101))))])) t → Steps p.tables e below (s₁.setTop (entryFrame m #[(.int p1), (.int p2), (.int p3), (.int p4)] maxLocals)) t := fun t kt => by
        refine pre158 t ?_
        show Steps p.tables e below (T140.setTop (mkF m 131 #[.val (.int p1), .val (.int p2), .val (.int p3), .val (.int p4), .val (.int (p1 &&& (3 : Int32))), .val (.int c101), .val (.int c103), .val (.int c106), .val (.int (own_10 c101)), .val (.int (own_l9 c101 c103 (own_10 c101))), .val (.int (own_l10 c101 c103 (own_10 c101) (own_l9 c101 c103 (own_10 c101)))), .unset, .unset, .unset] [(.int (10 : Int32)), (.int c106)])) _
        refine XS.icmpNo X140.here hx rfl (hb hby at_131) rfl (teq (hc131_159 : c106 = (10 : Int32))).2 ?_
        show Steps p.tables e below (T140.setTop (mkF m 134 #[.val (.int p1), .val (.int p2), .val (.int p3), .val (.int p4), .val (.int (p1 &&& (3 : Int32))), .val (.int c101), .val (.int c103), .val (.int c106), .val (.int (own_10 c101)), .val (.int (own_l9 c101 c103 (own_10 c101))), .val (.int (own_l10 c101 c103 (own_10 c101) (own_l9 c101 c103 (own_10 c101)))), .unset, .unset, .unset] [])) _
        refine XS.iload X140.here hx rfl (hb hby at_134) rfl ?_
        show Steps p.tables e below (T140.setTop (mkF m 136 #[.val (.int p1), .val (.int p2), .val (.int p3), .val (.int p4), .val (.int (p1 &&& (3 : Int32))), .val (.int c101), .val (.int c103), .val (.int c106), .val (.int (own_10 c101)), .val (.int (own_l9 c101 c103 (own_10 c101))), .val (.int (own_l10 c101 c103 (own_10 c101) (own_l9 c101 c103 (own_10 c101)))), .unset, .unset, .unset] [(.int (own_l10 c101 c103 (own_10 c101) (own_l9 c101 c103 (own_10 c101))))])) _
        exact kt
      by_cases hc136_161 : (own_l10 c101 c103 (own_10 c101) (own_l9 c101 c103 (own_10 c101))) = (0 : Int32)
      · skip
        have pre162 : ∀ t, Steps p.tables e below (T140.setTop (mkF m 146 #[.val (.int p1), .val (.int p2), .val (.int p3), .val (.int p4), .val (.int (p1 &&& (3 : Int32))), .val (.int c101), .val (.int c103), .val (.int c106), .val (.int (own_10 c101)), .val (.int (own_l9 c101 c103 (own_10 c101))), .val (.int (own_l10 c101 c103 (own_10 c101) (own_l9 c101 c103 (own_10 c101)))), .val (.int (1 : Int32)), .unset, .unset] [])) t → Steps p.tables e below (s₁.setTop (entryFrame m #[(.int p1), (.int p2), (.int p3), (.int p4)] maxLocals)) t := fun t kt => by
          refine pre160 t ?_
          show Steps p.tables e below (T140.setTop (mkF m 136 #[.val (.int p1), .val (.int p2), .val (.int p3), .val (.int p4), .val (.int (p1 &&& (3 : Int32))), .val (.int c101), .val (.int c103), .val (.int c106), .val (.int (own_10 c101)), .val (.int (own_l9 c101 c103 (own_10 c101))), .val (.int (own_l10 c101 c103 (own_10 c101) (own_l9 c101 c103 (own_10 c101)))), .unset, .unset, .unset] [(.int (own_l10 c101 c103 (own_10 c101) (own_l9 c101 c103 (own_10 c101))))])) _
          refine XS.ifNo X140.here hx rfl (hb hby at_136) rfl ((if0 _ _).trans (teq (hc136_161 : (own_l10 c101 c103 (own_10 c101) (own_l9 c101 c103 (own_10 c101))) = (0 : Int32))).2) ?_
          show Steps p.tables e below (T140.setTop (mkF m 139 #[.val (.int p1), .val (.int p2), .val (.int p3), .val (.int p4), .val (.int (p1 &&& (3 : Int32))), .val (.int c101), .val (.int c103), .val (.int c106), .val (.int (own_10 c101)), .val (.int (own_l9 c101 c103 (own_10 c101))), .val (.int (own_l10 c101 c103 (own_10 c101) (own_l9 c101 c103 (own_10 c101)))), .unset, .unset, .unset] [])) _
          refine XS.iconst X140.here hx rfl (hb hby at_139) ?_
          show Steps p.tables e below (T140.setTop (mkF m 140 #[.val (.int p1), .val (.int p2), .val (.int p3), .val (.int p4), .val (.int (p1 &&& (3 : Int32))), .val (.int c101), .val (.int c103), .val (.int c106), .val (.int (own_10 c101)), .val (.int (own_l9 c101 c103 (own_10 c101))), .val (.int (own_l10 c101 c103 (own_10 c101) (own_l9 c101 c103 (own_10 c101)))), .unset, .unset, .unset] [(.int (1 : Int32))])) _
          refine XS.goto X140.here hx rfl (pc0 := 140) (pc' := 144) rfl (hb hby at_140) (by decide) (by decide) ?_
          show Steps p.tables e below (T140.setTop (mkF m 144 #[.val (.int p1), .val (.int p2), .val (.int p3), .val (.int p4), .val (.int (p1 &&& (3 : Int32))), .val (.int c101), .val (.int c103), .val (.int c106), .val (.int (own_10 c101)), .val (.int (own_l9 c101 c103 (own_10 c101))), .val (.int (own_l10 c101 c103 (own_10 c101) (own_l9 c101 c103 (own_10 c101)))), .unset, .unset, .unset] [(.int (1 : Int32))])) _
          refine XS.istore X140.here hx rfl (hb hby at_144) rfl (l' := #[.val (.int p1), .val (.int p2), .val (.int p3), .val (.int p4), .val (.int (p1 &&& (3 : Int32))), .val (.int c101), .val (.int c103), .val (.int c106), .val (.int (own_10 c101)), .val (.int (own_l9 c101 c103 (own_10 c101))), .val (.int (own_l10 c101 c103 (own_10 c101) (own_l9 c101 c103 (own_10 c101)))), .val (.int (1 : Int32)), .unset, .unset]) rfl ?_
          show Steps p.tables e below (T140.setTop (mkF m 146 #[.val (.int p1), .val (.int p2), .val (.int p3), .val (.int p4), .val (.int (p1 &&& (3 : Int32))), .val (.int c101), .val (.int c103), .val (.int c106), .val (.int (own_10 c101)), .val (.int (own_l9 c101 c103 (own_10 c101))), .val (.int (own_l10 c101 c103 (own_10 c101) (own_l9 c101 c103 (own_10 c101)))), .val (.int (1 : Int32)), .unset, .unset] [])) _
          exact kt
        have hl163_11 : (own_l11 c106 (own_l10 c101 c103 (own_10 c101) (own_l9 c101 c103 (own_10 c101)))) = (1 : Int32) := by simp only [own_l11, eq_true hc131_159, eq_true hc136_161, if_true, if_false]
        exact ⟨_, _, X140, N140, e140, fun t kt => pre162 t (by rw [hl163_11] at kt; exact kt)⟩
      · skip
        have pre164 : ∀ t, Steps p.tables e below (T140.setTop (mkF m 146 #[.val (.int p1), .val (.int p2), .val (.int p3), .val (.int p4), .val (.int (p1 &&& (3 : Int32))), .val (.int c101), .val (.int c103), .val (.int c106), .val (.int (own_10 c101)), .val (.int (own_l9 c101 c103 (own_10 c101))), .val (.int (own_l10 c101 c103 (own_10 c101) (own_l9 c101 c103 (own_10 c101)))), .val (.int (0 : Int32)), .unset, .unset] [])) t → Steps p.tables e below (s₁.setTop (entryFrame m #[(.int p1), (.int p2), (.int p3), (.int p4)] maxLocals)) t := fun t kt => by
          refine pre160 t ?_
          show Steps p.tables e below (T140.setTop (mkF m 136 #[.val (.int p1), .val (.int p2), .val (.int p3), .val (.int p4), .val (.int (p1 &&& (3 : Int32))), .val (.int c101), .val (.int c103), .val (.int c106), .val (.int (own_10 c101)), .val (.int (own_l9 c101 c103 (own_10 c101))), .val (.int (own_l10 c101 c103 (own_10 c101) (own_l9 c101 c103 (own_10 c101)))), .unset, .unset, .unset] [(.int (own_l10 c101 c103 (own_10 c101) (own_l9 c101 c103 (own_10 c101))))])) _
          refine XS.ifYes X140.here hx rfl (pc0 := 136) (pc' := 143) rfl (hb hby at_136) rfl ((if0 _ _).trans (feq (hc136_161 : ¬ ((own_l10 c101 c103 (own_10 c101) (own_l9 c101 c103 (own_10 c101))) = (0 : Int32)))).2) (by decide) (by decide) ?_
          show Steps p.tables e below (T140.setTop (mkF m 143 #[.val (.int p1), .val (.int p2), .val (.int p3), .val (.int p4), .val (.int (p1 &&& (3 : Int32))), .val (.int c101), .val (.int c103), .val (.int c106), .val (.int (own_10 c101)), .val (.int (own_l9 c101 c103 (own_10 c101))), .val (.int (own_l10 c101 c103 (own_10 c101) (own_l9 c101 c103 (own_10 c101)))), .unset, .unset, .unset] [])) _
          refine XS.iconst X140.here hx rfl (hb hby at_143) ?_
          show Steps p.tables e below (T140.setTop (mkF m 144 #[.val (.int p1), .val (.int p2), .val (.int p3), .val (.int p4), .val (.int (p1 &&& (3 : Int32))), .val (.int c101), .val (.int c103), .val (.int c106), .val (.int (own_10 c101)), .val (.int (own_l9 c101 c103 (own_10 c101))), .val (.int (own_l10 c101 c103 (own_10 c101) (own_l9 c101 c103 (own_10 c101)))), .unset, .unset, .unset] [(.int (0 : Int32))])) _
          refine XS.istore X140.here hx rfl (hb hby at_144) rfl (l' := #[.val (.int p1), .val (.int p2), .val (.int p3), .val (.int p4), .val (.int (p1 &&& (3 : Int32))), .val (.int c101), .val (.int c103), .val (.int c106), .val (.int (own_10 c101)), .val (.int (own_l9 c101 c103 (own_10 c101))), .val (.int (own_l10 c101 c103 (own_10 c101) (own_l9 c101 c103 (own_10 c101)))), .val (.int (0 : Int32)), .unset, .unset]) rfl ?_
          show Steps p.tables e below (T140.setTop (mkF m 146 #[.val (.int p1), .val (.int p2), .val (.int p3), .val (.int p4), .val (.int (p1 &&& (3 : Int32))), .val (.int c101), .val (.int c103), .val (.int c106), .val (.int (own_10 c101)), .val (.int (own_l9 c101 c103 (own_10 c101))), .val (.int (own_l10 c101 c103 (own_10 c101) (own_l9 c101 c103 (own_10 c101)))), .val (.int (0 : Int32)), .unset, .unset] [])) _
          exact kt
        have hl165_11 : (own_l11 c106 (own_l10 c101 c103 (own_10 c101) (own_l9 c101 c103 (own_10 c101)))) = (0 : Int32) := by simp only [own_l11, eq_true hc131_159, eq_false hc136_161, if_true, if_false]
        exact ⟨_, _, X140, N140, e140, fun t kt => pre164 t (by rw [hl165_11] at kt; exact kt)⟩
    · skip
      have pre166 : ∀ t, Steps p.tables e below (T140.setTop (mkF m 146 #[.val (.int p1), .val (.int p2), .val (.int p3), .val (.int p4), .val (.int (p1 &&& (3 : Int32))), .val (.int c101), .val (.int c103), .val (.int c106), .val (.int (own_10 c101)), .val (.int (own_l9 c101 c103 (own_10 c101))), .val (.int (own_l10 c101 c103 (own_10 c101) (own_l9 c101 c103 (own_10 c101)))), .val (.int (0 : Int32)), .unset, .unset] [])) t → Steps p.tables e below (s₁.setTop (entryFrame m #[(.int p1), (.int p2), (.int p3), (.int p4)] maxLocals)) t := fun t kt => by
        refine pre158 t ?_
        show Steps p.tables e below (T140.setTop (mkF m 131 #[.val (.int p1), .val (.int p2), .val (.int p3), .val (.int p4), .val (.int (p1 &&& (3 : Int32))), .val (.int c101), .val (.int c103), .val (.int c106), .val (.int (own_10 c101)), .val (.int (own_l9 c101 c103 (own_10 c101))), .val (.int (own_l10 c101 c103 (own_10 c101) (own_l9 c101 c103 (own_10 c101)))), .unset, .unset, .unset] [(.int (10 : Int32)), (.int c106)])) _
        refine XS.icmpYes X140.here hx rfl (pc0 := 131) (pc' := 143) rfl (hb hby at_131) rfl (feq (hc131_159 : ¬ (c106 = (10 : Int32)))).2 (by decide) (by decide) ?_
        show Steps p.tables e below (T140.setTop (mkF m 143 #[.val (.int p1), .val (.int p2), .val (.int p3), .val (.int p4), .val (.int (p1 &&& (3 : Int32))), .val (.int c101), .val (.int c103), .val (.int c106), .val (.int (own_10 c101)), .val (.int (own_l9 c101 c103 (own_10 c101))), .val (.int (own_l10 c101 c103 (own_10 c101) (own_l9 c101 c103 (own_10 c101)))), .unset, .unset, .unset] [])) _
        refine XS.iconst X140.here hx rfl (hb hby at_143) ?_
        show Steps p.tables e below (T140.setTop (mkF m 144 #[.val (.int p1), .val (.int p2), .val (.int p3), .val (.int p4), .val (.int (p1 &&& (3 : Int32))), .val (.int c101), .val (.int c103), .val (.int c106), .val (.int (own_10 c101)), .val (.int (own_l9 c101 c103 (own_10 c101))), .val (.int (own_l10 c101 c103 (own_10 c101) (own_l9 c101 c103 (own_10 c101)))), .unset, .unset, .unset] [(.int (0 : Int32))])) _
        refine XS.istore X140.here hx rfl (hb hby at_144) rfl (l' := #[.val (.int p1), .val (.int p2), .val (.int p3), .val (.int p4), .val (.int (p1 &&& (3 : Int32))), .val (.int c101), .val (.int c103), .val (.int c106), .val (.int (own_10 c101)), .val (.int (own_l9 c101 c103 (own_10 c101))), .val (.int (own_l10 c101 c103 (own_10 c101) (own_l9 c101 c103 (own_10 c101)))), .val (.int (0 : Int32)), .unset, .unset]) rfl ?_
        show Steps p.tables e below (T140.setTop (mkF m 146 #[.val (.int p1), .val (.int p2), .val (.int p3), .val (.int p4), .val (.int (p1 &&& (3 : Int32))), .val (.int c101), .val (.int c103), .val (.int c106), .val (.int (own_10 c101)), .val (.int (own_l9 c101 c103 (own_10 c101))), .val (.int (own_l10 c101 c103 (own_10 c101) (own_l9 c101 c103 (own_10 c101)))), .val (.int (0 : Int32)), .unset, .unset] [])) _
        exact kt
      have hl167_11 : (own_l11 c106 (own_l10 c101 c103 (own_10 c101) (own_l9 c101 c103 (own_10 c101)))) = (0 : Int32) := by simp only [own_l11, eq_false hc131_159, if_true, if_false]
      exact ⟨_, _, X140, N140, e140, fun t kt => pre166 t (by rw [hl167_11] at kt; exact kt)⟩
  obtain ⟨T168, h168, X168, e168, E168, A168, D168, -, st168⟩ := newO X157 hx hZ hown (hw _ (List.mem_of_getElem? (i := 8) rfl)) (hw _ (List.mem_of_getElem? (i := 9) rfl)) (hw _ (List.mem_of_getElem? (i := 10) rfl)) e157 (g := (mkF m 146 #[.val (.int p1), .val (.int p2), .val (.int p3), .val (.int p4), .val (.int (p1 &&& (3 : Int32))), .val (.int c101), .val (.int c103), .val (.int c106), .val (.int (own_10 c101)), .val (.int (own_l9 c101 c103 (own_10 c101))), .val (.int (own_l10 c101 c103 (own_10 c101) (own_l9 c101 c103 (own_10 c101)))), .val (.int (own_l11 c106 (own_l10 c101 c103 (own_10 c101) (own_l9 c101 c103 (own_10 c101))))), .unset, .unset] [])) rfl (hb hby at_146) (by decide) (by decide)
  obtain ⟨b168, g168⟩ : ∃ z, z = T106.heap.size := ⟨_, rfl⟩
  rw [← g168] at A168 D168 st168
  have Hc169 := CHv.ext E168 Hc108
  have Cr169 := Cr108.trans (CHr.ext E168 Hc108)
  have F170 : Fld Z h168 b168 "com/example/rouse/rouse/shell/ShellWords" "line" "Lcom/example/rouse/rouse/shell/CommandLine;" .null := D168 (Or.inl (hw _ (List.mem_of_getElem? (i := 39) rfl))) (ty := (.object "com/example/rouse/rouse/shell/CommandLine")) (by decide)
  have F171 : Fld Z h168 b168 "com/example/rouse/rouse/shell/ShellWords" "length" "I" (.int (0 : Int32)) := D168 (Or.inl (hw _ (List.mem_of_getElem? (i := 46) rfl))) (ty := .int) (by decide)
  have F172 : Fld Z h168 b168 "com/example/rouse/rouse/shell/ShellWords" "skippingLine" "Z" (.int (0 : Int32)) := D168 (Or.inl (hw _ (List.mem_of_getElem? (i := 56) rfl))) (ty := .boolean) (by decide)
  have F173 : Fld Z h168 b168 "com/example/rouse/rouse/shell/ShellWords" "inComment" "Z" (.int (0 : Int32)) := D168 (Or.inl (hw _ (List.mem_of_getElem? (i := 64) rfl))) (ty := .boolean) (by decide)
  have F174 : Fld Z h168 b168 "com/example/rouse/rouse/shell/ShellWords" "escaped" "Z" (.int (0 : Int32)) := D168 (Or.inl (hw _ (List.mem_of_getElem? (i := 70) rfl))) (ty := .boolean) (by decide)
  have F175 : Fld Z h168 b168 "com/example/rouse/rouse/shell/ShellWords" "quote" "C" (.int (0 : Int32)) := D168 (Or.inl (hw _ (List.mem_of_getElem? (i := 72) rfl))) (ty := .char) (by decide)
  have F176 : Fld Z h168 b168 "com/example/rouse/rouse/shell/ShellWords" "inWord" "Z" (.int (0 : Int32)) := D168 (Or.inl (hw _ (List.mem_of_getElem? (i := 81) rfl))) (ty := .boolean) (by decide)
  have g177 : n0 ≤ b168 := Nat.le_trans (Nat.le_trans z107 K106.1) (Nat.le_of_eq g168.symm)
  have z179 : n0 ≤ h168.size := (Nat.le_trans (Nat.le_trans z107 K106.1) E168.1)
  obtain ⟨_, _, ⟨T178, L178, k178, n178⟩, -, X178, ⟨Lc178, hQ178, l178, y178, z178⟩, st178⟩ := X168.specialBack hx (y := (⟨"com/example/rouse/rouse/shell/ShellWords", "<init>", "()V"⟩ : MethodName)) rfl hown (mvT hZ (hw _ (List.mem_of_getElem? (i := 11) rfl))) (mvT hZ (hw _ (List.mem_of_getElem? (i := 12) rfl))) (mvT hZ (hw _ (List.mem_of_getElem? (i := 13) rfl))) (by decide) (backOf (W := 1) (rm3 l Z a0 hw [] b168 h168 n0 z179 A168 F170 F175 F174 F176 F173 F171 F172 g177) hZ (hw _ (List.mem_of_getElem? (i := 13) rfl)) (hw _ (List.mem_of_getElem? (i := 10) rfl)) (by decide) (by decide)) (g := (mkF m 150 #[.val (.int p1), .val (.int p2), .val (.int p3), .val (.int p4), .val (.int (p1 &&& (3 : Int32))), .val (.int c101), .val (.int c103), .val (.int c106), .val (.int (own_10 c101)), .val (.int (own_l9 c101 c103 (own_10 c101))), .val (.int (own_l10 c101 c103 (own_10 c101) (own_l9 c101 c103 (own_10 c101)))), .val (.int (own_l11 c106 (own_l10 c101 c103 (own_10 c101) (own_l9 c101 c103 (own_10 c101))))), .unset, .unset] [(.ref b168), (.ref b168)])) rfl (by rw [hml]; rfl) (Steps.refl _) (a := b168) (argsL := []) (rest := [(.ref b168)]) (lenOf pd_2 rfl) rfl (by show 2 * 0 + _ ≤ _; exact Nat.le_of_eq rfl) (hb hby at_150) (fun _ _ => ⟨rfl, e168, (by decide : 4 + 3 ≤ _), (by decide : 31 + 39 ≤ _)⟩)
  dsimp only [Pt.U, Pt.locs, Pt.cells, Pt.slots] at X178 l178 y178 z178 st178 hQ178
  subst l178 y178 z178
  obtain ⟨cl178, cb178, ck178, cvs178, wb178, wk178, wvs178, rfl, Nq178, K178, R178_1, R178_2, R178_3, R178_4, R178_5, R178_6, R178_7, R178_8, R178_9, R178_10, R178_11, R178_12, R178_13, R178_14, R178_15, R178_16, R178_17, R178_18, R178_19, R178_20, R178_21⟩ := hQ178
  have N178 := Fr.app N157 Nq178
  have hs180 : ∀ x ∈ ([b168] : List Addr), Safe Z own_EL s.vm h168 x := (allS (P := fun x => Safe Z own_EL s.vm h168 x) (Safe.exa hZ.alike A168 (by decide) (by decide)) (all0 (P := fun x => Safe Z own_EL s.vm h168 x)))
  have Hc180 := CHv.keep K178 hs180 Hc169
  have Cr180 := Cr169.trans (CHr.keep K178 hs180 Hc169)
  have SbR178_8 := Safe.keep K178 hs180 Hc169 (Safe.new R178_8)
  have SbR178_9 := Safe.keep K178 hs180 Hc169 (Safe.new R178_9)
  have SbR178_10 := Safe.keep K178 hs180 Hc169 (Safe.new R178_10)
  have z182 : n0 ≤ T178.heap.size := (Nat.le_trans z179 K178.1)
  have f183 : Exa Z T178.heap b168 "com/example/rouse/rouse/shell/ShellWords" := (A168.keep K178)
  obtain ⟨cq181, kq181, q181a, q181b, q181c⟩ := isOf hZ rfl f183
  obtain ⟨_, _, ⟨T181, L181, k181, n181⟩, -, X181, ⟨Lc181, hQ181, l181, y181, z181⟩, st181⟩ := X178.virtualBack hx (y := (⟨"com/example/rouse/rouse/shell/ShellWords", "continues", "()Z"⟩ : MethodName)) (z := (⟨"com/example/rouse/rouse/shell/ShellWords", "continues", "()Z"⟩ : MethodName)) hown (mvT hZ (hw _ (List.mem_of_getElem? (i := 40) rfl))) (mvT hZ (hw _ (List.mem_of_getElem? (i := 41) rfl))) (notFace_of_selects (args := #[]) (mvT hZ (hw _ (List.mem_of_getElem? (i := 43) rfl)))) (mvT hZ (hw _ (List.mem_of_getElem? (i := 43) rfl))) (mvT hZ (hw _ (List.mem_of_getElem? (i := 42) rfl))) (by decide) (backOf (W := 0) (rm7 l Z a0 hw [] b168 (0 : Int32) T178.heap n0 z182 R178_6) hZ (hw _ (List.mem_of_getElem? (i := 44) rfl)) (hw _ (List.mem_of_getElem? (i := 10) rfl)) (by decide) (by decide)) q181a q181c (g := (mkF m 157 #[.val (.int p1), .val (.int p2), .val (.int p3), .val (.int p4), .val (.int (p1 &&& (3 : Int32))), .val (.int c101), .val (.int c103), .val (.int c106), .val (.int (own_10 c101)), .val (.int (own_l9 c101 c103 (own_10 c101))), .val (.int (own_l10 c101 c103 (own_10 c101) (own_l9 c101 c103 (own_10 c101)))), .val (.int (own_l11 c106 (own_l10 c101 c103 (own_10 c101) (own_l9 c101 c103 (own_10 c101))))), .val (.ref b168), .unset] [(.ref b168)])) rfl (by rw [hml]; rfl) (Steps.refl _) (argsL := []) (rest := []) (lenOf pd_3 rfl) rfl (by show 2 * 0 + _ ≤ _; exact Nat.le_of_eq rfl) (hb hby at_157) (fun _ _ => ⟨rfl, rfl, (by decide : 7 + 0 ≤ _), (by decide : 70 + 0 ≤ _)⟩)
  dsimp only [Pt.U, Pt.locs, Pt.cells, Pt.slots] at X181 l181 y181 z181 st181 hQ181
  subst l181 y181 z181
  obtain ⟨rfl, Nq181, Heq181⟩ := hQ181
  have N181 := Fr.app N178 Nq181
  have pre184 : ∀ t, Steps p.tables e below (T181.setTop (mkF m 173 #[.val (.int p1), .val (.int p2), .val (.int p3), .val (.int p4), .val (.int (p1 &&& (3 : Int32))), .val (.int c101), .val (.int c103), .val (.int c106), .val (.int (own_10 c101)), .val (.int (own_l9 c101 c103 (own_10 c101))), .val (.int (own_l10 c101 c103 (own_10 c101) (own_l9 c101 c103 (own_10 c101)))), .val (.int (own_l11 c106 (own_l10 c101 c103 (own_10 c101) (own_l9 c101 c103 (own_10 c101))))), .val (.ref b168), .val (.int (1 : Int32))] [(.int (1 : Int32)), (.int (p1 &&& (3 : Int32)))])) t → Steps p.tables e below (s₁.setTop (entryFrame m #[(.int p1), (.int p2), (.int p3), (.int p4)] maxLocals)) t := fun t kt => by
    refine pre157 t ?_
    show Steps p.tables e below (T157.setTop (mkF m 146 #[.val (.int p1), .val (.int p2), .val (.int p3), .val (.int p4), .val (.int (p1 &&& (3 : Int32))), .val (.int c101), .val (.int c103), .val (.int c106), .val (.int (own_10 c101)), .val (.int (own_l9 c101 c103 (own_10 c101))), .val (.int (own_l10 c101 c103 (own_10 c101) (own_l9 c101 c103 (own_10 c101)))), .val (.int (own_l11 c106 (own_l10 c101 c103 (own_10 c101) (own_l9 c101 c103 (own_10 c101))))), .unset, .unset] [])) _
    refine st168 _ ?_
    show Steps p.tables e below (T168.setTop (mkF m 149 #[.val (.int p1), .val (.int p2), .val (.int p3), .val (.int p4), .val (.int (p1 &&& (3 : Int32))), .val (.int c101), .val (.int c103), .val (.int c106), .val (.int (own_10 c101)), .val (.int (own_l9 c101 c103 (own_10 c101))), .val (.int (own_l10 c101 c103 (own_10 c101) (own_l9 c101 c103 (own_10 c101)))), .val (.int (own_l11 c106 (own_l10 c101 c103 (own_10 c101) (own_l9 c101 c103 (own_10 c101))))), .unset, .unset] [(.ref b168)])) _
    refine XS.dup X168.here hx rfl (hb hby at_149) rfl rfl ?_
    show Steps p.tables e below (T168.setTop (mkF m 150 #[.val (.int p1), .val (.int p2), .val (.int p3), .val (.int p4), .val (.int (p1 &&& (3 : Int32))), .val (.int c101), .val (.int c103), .val (.int c106), .val (.int (own_10 c101)), .val (.int (own_l9 c101 c103 (own_10 c101))), .val (.int (own_l10 c101 c103 (own_10 c101) (own_l9 c101 c103 (own_10 c101)))), .val (.int (own_l11 c106 (own_l10 c101 c103 (own_10 c101) (own_l9 c101 c103 (own_10 c101))))), .unset, .unset] [(.ref b168), (.ref b168)])) _
    refine st178.trans ?_
    show Steps p.tables e below (T178.setTop (mkF m 153 #[.val (.int p1), .val (.int p2), .val (.int p3), .val (.int p4), .val (.int (p1 &&& (3 : Int32))), .val (.int c101), .val (.int c103), .val (.int c106), .val (.int (own_10 c101)), .val (.int (own_l9 c101 c103 (own_10 c101))), .val (.int (own_l10 c101 c103 (own_10 c101) (own_l9 c101 c103 (own_10 c101)))), .val (.int (own_l11 c106 (own_l10 c101 c103 (own_10 c101) (own_l9 c101 c103 (own_10 c101))))), .unset, .unset] [(.ref b168)])) _
    refine XS.astore X178.here hx rfl (hb hby at_153) rfl rfl (l' := #[.val (.int p1), .val (.int p2), .val (.int p3), .val (.int p4), .val (.int (p1 &&& (3 : Int32))), .val (.int c101), .val (.int c103), .val (.int c106), .val (.int (own_10 c101)), .val (.int (own_l9 c101 c103 (own_10 c101))), .val (.int (own_l10 c101 c103 (own_10 c101) (own_l9 c101 c103 (own_10 c101)))), .val (.int (own_l11 c106 (own_l10 c101 c103 (own_10 c101) (own_l9 c101 c103 (own_10 c101))))), .val (.ref b168), .unset]) rfl ?_
    show Steps p.tables e below (T178.setTop (mkF m 155 #[.val (.int p1), .val (.int p2), .val (.int p3), .val (.int p4), .val (.int (p1 &&& (3 : Int32))), .val (.int c101), .val (.int c103), .val (.int c106), .val (.int (own_10 c101)), .val (.int (own_l9 c101 c103 (own_10 c101))), .val (.int (own_l10 c101 c103 (own_10 c101) (own_l9 c101 c103 (own_10 c101)))), .val (.int (own_l11 c106 (own_l10 c101 c103 (own_10 c101) (own_l9 c101 c103 (own_10 c101))))), .val (.ref b168), .unset] [])) _
    refine XS.aload X178.here hx rfl (hb hby at_155) rfl rfl ?_
    show Steps p.tables e below (T178.setTop (mkF m 157 #[.val (.int p1), .val (.int p2), .val (.int p3), .val (.int p4), .val (.int (p1 &&& (3 : Int32))), .val (.int c101), .val (.int c103), .val (.int c106), .val (.int (own_10 c101)), .val (.int (own_l9 c101 c103 (own_10 c101))), .val (.int (own_l10 c101 c103 (own_10 c101) (own_l9 c101 c103 (own_10 c101)))), .val (.int (own_l11 c106 (own_l10 c101 c103 (own_10 c101) (own_l9 c101 c103 (own_10 c101))))), .val (.ref b168), .unset] [(.ref b168)])) _
    refine st181.trans ?_
    show Steps p.tables e below (T181.setTop (mkF m 160 #[.val (.int p1), .val (.int p2), .val (.int p3), .val (.int p4), .val (.int (p1 &&& (3 : Int32))), .val (.int c101), .val (.int c103), .val (.int c106), .val (.int (own_10 c101)), .val (.int (own_l9 c101 c103 (own_10 c101))), .val (.int (own_l10 c101 c103 (own_10 c101) (own_l9 c101 c103 (own_10 c101)))), .val (.int (own_l11 c106 (own_l10 c101 c103 (own_10 c101) (own_l9 c101 c103 (own_10 c101))))), .val (.ref b168), .unset] [(.int (own_pos (0 : Int32)))])) _
    refine XS.ifNo X181.here hx rfl (hb hby at_160) rfl ((if0 _ _).trans (teq (by decide : (own_pos (0 : Int32)) = (0 : Int32))).2) ?_
    show Steps p.tables e below (T181.setTop (mkF m 163 #[.val (.int p1), .val (.int p2), .val (.int p3), .val (.int p4), .val (.int (p1 &&& (3 : Int32))), .val (.int c101), .val (.int c103), .val (.int c106), .val (.int (own_10 c101)), .val (.int (own_l9 c101 c103 (own_10 c101))), .val (.int (own_l10 c101 c103 (own_10 c101) (own_l9 c101 c103 (own_10 c101)))), .val (.int (own_l11 c106 (own_l10 c101 c103 (own_10 c101) (own_l9 c101 c103 (own_10 c101))))), .val (.ref b168), .unset] [])) _
    refine XS.iconst X181.here hx rfl (hb hby at_163) ?_
    show Steps p.tables e below (T181.setTop (mkF m 164 #[.val (.int p1), .val (.int p2), .val (.int p3), .val (.int p4), .val (.int (p1 &&& (3 : Int32))), .val (.int c101), .val (.int c103), .val (.int c106), .val (.int (own_10 c101)), .val (.int (own_l9 c101 c103 (own_10 c101))), .val (.int (own_l10 c101 c103 (own_10 c101) (own_l9 c101 c103 (own_10 c101)))), .val (.int (own_l11 c106 (own_l10 c101 c103 (own_10 c101) (own_l9 c101 c103 (own_10 c101))))), .val (.ref b168), .unset] [(.int (1 : Int32))])) _
    refine XS.goto X181.here hx rfl (pc0 := 164) (pc' := 168) rfl (hb hby at_164) (by decide) (by decide) ?_
    show Steps p.tables e below (T181.setTop (mkF m 168 #[.val (.int p1), .val (.int p2), .val (.int p3), .val (.int p4), .val (.int (p1 &&& (3 : Int32))), .val (.int c101), .val (.int c103), .val (.int c106), .val (.int (own_10 c101)), .val (.int (own_l9 c101 c103 (own_10 c101))), .val (.int (own_l10 c101 c103 (own_10 c101) (own_l9 c101 c103 (own_10 c101)))), .val (.int (own_l11 c106 (own_l10 c101 c103 (own_10 c101) (own_l9 c101 c103 (own_10 c101))))), .val (.ref b168), .unset] [(.int (1 : Int32))])) _
    refine XS.istore X181.here hx rfl (hb hby at_168) rfl (l' := #[.val (.int p1), .val (.int p2), .val (.int p3), .val (.int p4), .val (.int (p1 &&& (3 : Int32))), .val (.int c101), .val (.int c103), .val (.int c106), .val (.int (own_10 c101)), .val (.int (own_l9 c101 c103 (own_10 c101))), .val (.int (own_l10 c101 c103 (own_10 c101) (own_l9 c101 c103 (own_10 c101)))), .val (.int (own_l11 c106 (own_l10 c101 c103 (own_10 c101) (own_l9 c101 c103 (own_10 c101))))), .val (.ref b168), .val (.int (1 : Int32))]) rfl ?_
    show Steps p.tables e below (T181.setTop (mkF m 170 #[.val (.int p1), .val (.int p2), .val (.int p3), .val (.int p4), .val (.int (p1 &&& (3 : Int32))), .val (.int c101), .val (.int c103), .val (.int c106), .val (.int (own_10 c101)), .val (.int (own_l9 c101 c103 (own_10 c101))), .val (.int (own_l10 c101 c103 (own_10 c101) (own_l9 c101 c103 (own_10 c101)))), .val (.int (own_l11 c106 (own_l10 c101 c103 (own_10 c101) (own_l9 c101 c103 (own_10 c101))))), .val (.ref b168), .val (.int (1 : Int32))] [])) _
    refine XS.iload X181.here hx rfl (hb hby at_170) rfl ?_
    show Steps p.tables e below (T181.setTop (mkF m 172 #[.val (.int p1), .val (.int p2), .val (.int p3), .val (.int p4), .val (.int (p1 &&& (3 : Int32))), .val (.int c101), .val (.int c103), .val (.int c106), .val (.int (own_10 c101)), .val (.int (own_l9 c101 c103 (own_10 c101))), .val (.int (own_l10 c101 c103 (own_10 c101) (own_l9 c101 c103 (own_10 c101)))), .val (.int (own_l11 c106 (own_l10 c101 c103 (own_10 c101) (own_l9 c101 c103 (own_10 c101))))), .val (.ref b168), .val (.int (1 : Int32))] [(.int (p1 &&& (3 : Int32)))])) _
    refine XS.iconst X181.here hx rfl (hb hby at_172) ?_
    show Steps p.tables e below (T181.setTop (mkF m 173 #[.val (.int p1), .val (.int p2), .val (.int p3), .val (.int p4), .val (.int (p1 &&& (3 : Int32))), .val (.int c101), .val (.int c103), .val (.int c106), .val (.int (own_10 c101)), .val (.int (own_l9 c101 c103 (own_10 c101))), .val (.int (own_l10 c101 c103 (own_10 c101) (own_l9 c101 c103 (own_10 c101)))), .val (.int (own_l11 c106 (own_l10 c101 c103 (own_10 c101) (own_l9 c101 c103 (own_10 c101))))), .val (.ref b168), .val (.int (1 : Int32))] [(.int (1 : Int32)), (.int (p1 &&& (3 : Int32)))])) _
    exact kt
  by_cases hc173_185 : (p1 &&& (3 : Int32)) < (1 : Int32)
  · skip
    obtain ⟨fs, hr, hrun, hended, hEnd⟩ := X181.leaveW hS0 (by rw [Heq181]; exact (Nat.le_trans (Nat.le_trans (Nat.le_trans (Nat.le_trans (Nat.le_trans (Nat.zero_le _) K101.1) K103.1) K106.1) E168.1) K178.1)) (v := some (.int (1 : Int32))) (fun h => by rw [Bd.returns] at h; cases h)
    refine ⟨_, _, pre184 _ ?_, hrun, hended, _, _, rfl, ?_, (show CHr Z own_EL s.vm s.heap T181.vm T181.heap from by rw [hh, Heq181]; exact Cr180.trans (CHv.at X181 hZ hEL Hc180)), hEnd.1, hEnd.2.1, hEnd.2.2.1, hEnd.2.2.2.mono (by decide) (by decide)⟩
    · skip
      show Steps p.tables e below (T181.setTop (mkF m 173 #[.val (.int p1), .val (.int p2), .val (.int p3), .val (.int p4), .val (.int (p1 &&& (3 : Int32))), .val (.int c101), .val (.int c103), .val (.int c106), .val (.int (own_10 c101)), .val (.int (own_l9 c101 c103 (own_10 c101))), .val (.int (own_l10 c101 c103 (own_10 c101) (own_l9 c101 c103 (own_10 c101)))), .val (.int (own_l11 c106 (own_l10 c101 c103 (own_10 c101) (own_l9 c101 c103 (own_10 c101))))), .val (.ref b168), .val (.int (1 : Int32))] [(.int (1 : Int32)), (.int (p1 &&& (3 : Int32)))])) _
      refine XS.icmpYes X181.here hx rfl (pc0 := 173) (pc' := 214) rfl (hb hby at_173) rfl (tlt (hc173_185 : (p1 &&& (3 : Int32)) < (1 : Int32))).1 (by decide) (by decide) ?_
      show Steps p.tables e below (T181.setTop (mkF m 214 #[.val (.int p1), .val (.int p2), .val (.int p3), .val (.int p4), .val (.int (p1 &&& (3 : Int32))), .val (.int c101), .val (.int c103), .val (.int c106), .val (.int (own_10 c101)), .val (.int (own_l9 c101 c103 (own_10 c101))), .val (.int (own_l10 c101 c103 (own_10 c101) (own_l9 c101 c103 (own_10 c101)))), .val (.int (own_l11 c106 (own_l10 c101 c103 (own_10 c101) (own_l9 c101 c103 (own_10 c101))))), .val (.ref b168), .val (.int (1 : Int32))] [])) _
      refine XS.iload X181.here hx rfl (hb hby at_214) rfl ?_
      show Steps p.tables e below (T181.setTop (mkF m 216 #[.val (.int p1), .val (.int p2), .val (.int p3), .val (.int p4), .val (.int (p1 &&& (3 : Int32))), .val (.int c101), .val (.int c103), .val (.int c106), .val (.int (own_10 c101)), .val (.int (own_l9 c101 c103 (own_10 c101))), .val (.int (own_l10 c101 c103 (own_10 c101) (own_l9 c101 c103 (own_10 c101)))), .val (.int (own_l11 c106 (own_l10 c101 c103 (own_10 c101) (own_l9 c101 c103 (own_10 c101))))), .val (.ref b168), .val (.int (1 : Int32))] [(.int (p1 &&& (3 : Int32)))])) _
      refine XS.iconst X181.here hx rfl (hb hby at_216) ?_
      show Steps p.tables e below (T181.setTop (mkF m 217 #[.val (.int p1), .val (.int p2), .val (.int p3), .val (.int p4), .val (.int (p1 &&& (3 : Int32))), .val (.int c101), .val (.int c103), .val (.int c106), .val (.int (own_10 c101)), .val (.int (own_l9 c101 c103 (own_10 c101))), .val (.int (own_l10 c101 c103 (own_10 c101) (own_l9 c101 c103 (own_10 c101)))), .val (.int (own_l11 c106 (own_l10 c101 c103 (own_10 c101) (own_l9 c101 c103 (own_10 c101))))), .val (.ref b168), .val (.int (1 : Int32))] [(.int (2 : Int32)), (.int (p1 &&& (3 : Int32)))])) _
      refine XS.icmpYes X181.here hx rfl (pc0 := 217) (pc' := 258) rfl (hb hby at_217) rfl (tlt (own_up hc173_185 (by decide) : (p1 &&& (3 : Int32)) < (2 : Int32))).1 (by decide) (by decide) ?_
      show Steps p.tables e below (T181.setTop (mkF m 258 #[.val (.int p1), .val (.int p2), .val (.int p3), .val (.int p4), .val (.int (p1 &&& (3 : Int32))), .val (.int c101), .val (.int c103), .val (.int c106), .val (.int (own_10 c101)), .val (.int (own_l9 c101 c103 (own_10 c101))), .val (.int (own_l10 c101 c103 (own_10 c101) (own_l9 c101 c103 (own_10 c101)))), .val (.int (own_l11 c106 (own_l10 c101 c103 (own_10 c101) (own_l9 c101 c103 (own_10 c101))))), .val (.ref b168), .val (.int (1 : Int32))] [])) _
      refine XS.iload X181.here hx rfl (hb hby at_258) rfl ?_
      show Steps p.tables e below (T181.setTop (mkF m 260 #[.val (.int p1), .val (.int p2), .val (.int p3), .val (.int p4), .val (.int (p1 &&& (3 : Int32))), .val (.int c101), .val (.int c103), .val (.int c106), .val (.int (own_10 c101)), .val (.int (own_l9 c101 c103 (own_10 c101))), .val (.int (own_l10 c101 c103 (own_10 c101) (own_l9 c101 c103 (own_10 c101)))), .val (.int (own_l11 c106 (own_l10 c101 c103 (own_10 c101) (own_l9 c101 c103 (own_10 c101))))), .val (.ref b168), .val (.int (1 : Int32))] [(.int (p1 &&& (3 : Int32)))])) _
      refine XS.iconst X181.here hx rfl (hb hby at_260) ?_
      show Steps p.tables e below (T181.setTop (mkF m 261 #[.val (.int p1), .val (.int p2), .val (.int p3), .val (.int p4), .val (.int (p1 &&& (3 : Int32))), .val (.int c101), .val (.int c103), .val (.int c106), .val (.int (own_10 c101)), .val (.int (own_l9 c101 c103 (own_10 c101))), .val (.int (own_l10 c101 c103 (own_10 c101) (own_l9 c101 c103 (own_10 c101)))), .val (.int (own_l11 c106 (own_l10 c101 c103 (own_10 c101) (own_l9 c101 c103 (own_10 c101))))), .val (.ref b168), .val (.int (1 : Int32))] [(.int (3 : Int32)), (.int (p1 &&& (3 : Int32)))])) _
      refine XS.icmpYes X181.here hx rfl (pc0 := 261) (pc' := 302) rfl (hb hby at_261) rfl (tlt (own_up hc173_185 (by decide) : (p1 &&& (3 : Int32)) < (3 : Int32))).1 (by decide) (by decide) ?_
      show Steps p.tables e below (T181.setTop (mkF m 302 #[.val (.int p1), .val (.int p2), .val (.int p3), .val (.int p4), .val (.int (p1 &&& (3 : Int32))), .val (.int c101), .val (.int c103), .val (.int c106), .val (.int (own_10 c101)), .val (.int (own_l9 c101 c103 (own_10 c101))), .val (.int (own_l10 c101 c103 (own_10 c101) (own_l9 c101 c103 (own_10 c101)))), .val (.int (own_l11 c106 (own_l10 c101 c103 (own_10 c101) (own_l9 c101 c103 (own_10 c101))))), .val (.ref b168), .val (.int (1 : Int32))] [])) _
      refine XS.iload X181.here hx rfl (hb hby at_302) rfl ?_
      show Steps p.tables e below (T181.setTop (mkF m 304 #[.val (.int p1), .val (.int p2), .val (.int p3), .val (.int p4), .val (.int (p1 &&& (3 : Int32))), .val (.int c101), .val (.int c103), .val (.int c106), .val (.int (own_10 c101)), .val (.int (own_l9 c101 c103 (own_10 c101))), .val (.int (own_l10 c101 c103 (own_10 c101) (own_l9 c101 c103 (own_10 c101)))), .val (.int (own_l11 c106 (own_l10 c101 c103 (own_10 c101) (own_l9 c101 c103 (own_10 c101))))), .val (.ref b168), .val (.int (1 : Int32))] [(.int (1 : Int32))])) _
      exact retN X181 hx (t := .boolean) Bd.returns (by simp) (hb hby at_304) hr
    · show Q0 Z p1 p2 p3 p4 em cz h0 n0 _ T181.heap _
      rw [Heq181]
      exact ⟨rfl, N181⟩
  · skip
    have f186 : Sta Z T178.heap "java/util/ImmutableCollections" "EMPTY_LIST" "Ljava/util/ImmutableCollections$ListN;" (.ref em) := (own_sta_keep ((own_sta_keep (own_sta_keep (own_sta_keep H0 K101 own_pl0) K103 own_pl0) K106 own_pl0).ext E168) K178 (own_plS (own_pl_exa A168) own_pl0))
    have f187 : Sta Z T178.heap "java/lang/String" "COMPACT_STRINGS" "Z" (.int cz) := (own_sta_keep ((own_sta_keep (own_sta_keep (own_sta_keep H1 K101 own_pl0) K103 own_pl0) K106 own_pl0).ext E168) K178 (own_plS (own_pl_exa A168) own_pl0))
    have g188 : n0 ≤ cl178 := Nat.le_trans (Nat.le_trans (Nat.le_trans (Nat.le_trans (Nat.le_trans Z0 K101.1) K103.1) K106.1) E168.1) R178_8
    have g189 : n0 ≤ cb178 := Nat.le_trans (Nat.le_trans (Nat.le_trans (Nat.le_trans (Nat.le_trans Z0 K101.1) K103.1) K106.1) E168.1) R178_9
    have g190 : n0 ≤ wb178 := Nat.le_trans (Nat.le_trans (Nat.le_trans (Nat.le_trans (Nat.le_trans Z0 K101.1) K103.1) K106.1) E168.1) R178_10
    obtain ⟨cq191, kq191, q191a, q191b, q191c⟩ := isOf hZ Heq181 f183
    obtain ⟨_, _, ⟨T191, L191, k191, n191⟩, -, X191, hS191', hgr191, ⟨Lc191, hQ191, l191, y191, z191, Cq191⟩, st191⟩ := X181.virtualBackS hx (y := (⟨"com/example/rouse/rouse/shell/ShellWords", "read", "(C)Ljava/lang/Iterable;"⟩ : MethodName)) (z := (⟨"com/example/rouse/rouse/shell/ShellWords", "read", "(C)Ljava/lang/Iterable;"⟩ : MethodName)) hown (mvT hZ (hw _ (List.mem_of_getElem? (i := 50) rfl))) (mvT hZ (hw _ (List.mem_of_getElem? (i := 51) rfl))) (notFace_of_selects (args := #[]) (mvT hZ (hw _ (List.mem_of_getElem? (i := 53) rfl)))) (mvT hZ (hw _ (List.mem_of_getElem? (i := 53) rfl))) (mvT hZ (hw _ (List.mem_of_getElem? (i := 52) rfl))) (by decide) (backOfSH (W := 0) (rm9 l Z a0 hw [] hEL b168 c101 em cz cl178 (0 : Int32) (0 : Int32) (0 : Int32) cb178 ck178 cvs178 wb178 wk178 wvs178 (0 : Int32) (0 : Int32) (0 : Int32) (0 : Int32) (0 : Int32) 0 T178.heap n0 z182 f186 f187 H2 f183 R178_1 R178_2 R178_3 R178_4 R178_5 R178_6 R178_7 R178_11 R178_12 R178_13 R178_14 R178_15 R178_16 R178_18 R178_19 g177 g188 g189 g190 R178_17 R178_20 R178_21 (by first | assumption | decide) (by first | assumption | decide) R101_1 (by first | assumption | decide)) hZ (hw _ (List.mem_of_getElem? (i := 54) rfl)) (hw _ (List.mem_of_getElem? (i := 10) rfl)) (by decide) (by decide) hEL Hc180) q191a q191c (g := (mkF m 180 #[.val (.int p1), .val (.int p2), .val (.int p3), .val (.int p4), .val (.int (p1 &&& (3 : Int32))), .val (.int c101), .val (.int c103), .val (.int c106), .val (.int (own_10 c101)), .val (.int (own_l9 c101 c103 (own_10 c101))), .val (.int (own_l10 c101 c103 (own_10 c101) (own_l9 c101 c103 (own_10 c101)))), .val (.int (own_l11 c106 (own_l10 c101 c103 (own_10 c101) (own_l9 c101 c103 (own_10 c101))))), .val (.ref b168), .val (.int (1 : Int32))] [(.int c101), (.ref b168)])) rfl (by rw [hml]; rfl) (Steps.refl _) (argsL := [(.int c101)]) (rest := []) (lenOf pd_16 rfl) rfl (by show 2 * 0 + _ ≤ _; exact Nat.le_of_eq rfl) (hb hby at_180) (fun _ _ => ⟨rfl, Heq181, (by decide : 7 + 3 ≤ _), (by decide : 70 + 39 ≤ _)⟩)
    dsimp only [Pt.U, Pt.locs, Pt.cells, Pt.slots] at X191 l191 y191 z191 st191 hQ191 hS191' hgr191 Cq191
    subst l191 y191 z191
    obtain ⟨X191, hS191, hZ, hown⟩ := rebS hS0 (by rw [Heq181]; exact (Nat.le_trans (Nat.le_trans (Nat.le_trans (Nat.le_trans (Nat.le_trans (Nat.zero_le _) K101.1) K103.1) K106.1) E168.1) K178.1)) X191 hS191' hgr191 hZ hown
    have Cr191 := Cr180.trans Cq191
    have Hc191 := Cq191.1
    have Sf191_0 := Cq191.safe R178_11.lt SbR178_8
    have Sf191_1 := Cq191.safe R178_18.lt SbR178_9
    have Sf191_2 := Cq191.safe R178_19.lt SbR178_10
    obtain ⟨rv191, iwx191, cly191, wx191, cx191, nx191, cby191, wby191, cky191, wky191, cvy191, wvy191, rfl, Nq191, K191, R191_1, R191_2, R191_3, R191_4, R191_5, R191_6, R191_7, R191_8, R191_9, R191_10, R191_11, R191_12, R191_13, R191_14, R191_15, R191_16, R191_17, R191_18, R191_19, R191_20, R191_21, R191_22, R191_23, R191_24⟩ := hQ191
    have N191 := Fr.app N181 Nq191
    have pre192 : ∀ t, Steps p.tables e below (T191.setTop (mkF m 184 #[.val (.int p1), .val (.int p2), .val (.int p3), .val (.int p4), .val (.int (p1 &&& (3 : Int32))), .val (.int c101), .val (.int c103), .val (.int c106), .val (.int (own_10 c101)), .val (.int (own_l9 c101 c103 (own_10 c101))), .val (.int (own_l10 c101 c103 (own_10 c101) (own_l9 c101 c103 (own_10 c101)))), .val (.int (own_l11 c106 (own_l10 c101 c103 (own_10 c101) (own_l9 c101 c103 (own_10 c101))))), .val (.ref b168), .val (.int (1 : Int32))] [])) t → Steps p.tables e below (s₁.setTop (entryFrame m #[(.int p1), (.int p2), (.int p3), (.int p4)] maxLocals)) t := fun t kt => by
      refine pre184 t ?_
      show Steps p.tables e below (T181.setTop (mkF m 173 #[.val (.int p1), .val (.int p2), .val (.int p3), .val (.int p4), .val (.int (p1 &&& (3 : Int32))), .val (.int c101), .val (.int c103), .val (.int c106), .val (.int (own_10 c101)), .val (.int (own_l9 c101 c103 (own_10 c101))), .val (.int (own_l10 c101 c103 (own_10 c101) (own_l9 c101 c103 (own_10 c101)))), .val (.int (own_l11 c106 (own_l10 c101 c103 (own_10 c101) (own_l9 c101 c103 (own_10 c101))))), .val (.ref b168), .val (.int (1 : Int32))] [(.int (1 : Int32)), (.int (p1 &&& (3 : Int32)))])) _
      refine XS.icmpNo X181.here hx rfl (hb hby at_173) rfl (flt (hc173_185 : ¬ ((p1 &&& (3 : Int32)) < (1 : Int32)))).1 ?_
      show Steps p.tables e below (T181.setTop (mkF m 176 #[.val (.int p1), .val (.int p2), .val (.int p3), .val (.int p4), .val (.int (p1 &&& (3 : Int32))), .val (.int c101), .val (.int c103), .val (.int c106), .val (.int (own_10 c101)), .val (.int (own_l9 c101 c103 (own_10 c101))), .val (.int (own_l10 c101 c103 (own_10 c101) (own_l9 c101 c103 (own_10 c101)))), .val (.int (own_l11 c106 (own_l10 c101 c103 (own_10 c101) (own_l9 c101 c103 (own_10 c101))))), .val (.ref b168), .val (.int (1 : Int32))] [])) _
      refine XS.aload X181.here hx rfl (hb hby at_176) rfl rfl ?_
      show Steps p.tables e below (T181.setTop (mkF m 178 #[.val (.int p1), .val (.int p2), .val (.int p3), .val (.int p4), .val (.int (p1 &&& (3 : Int32))), .val (.int c101), .val (.int c103), .val (.int c106), .val (.int (own_10 c101)), .val (.int (own_l9 c101 c103 (own_10 c101))), .val (.int (own_l10 c101 c103 (own_10 c101) (own_l9 c101 c103 (own_10 c101)))), .val (.int (own_l11 c106 (own_l10 c101 c103 (own_10 c101) (own_l9 c101 c103 (own_10 c101))))), .val (.ref b168), .val (.int (1 : Int32))] [(.ref b168)])) _
      refine XS.iload X181.here hx rfl (hb hby at_178) rfl ?_
      show Steps p.tables e below (T181.setTop (mkF m 180 #[.val (.int p1), .val (.int p2), .val (.int p3), .val (.int p4), .val (.int (p1 &&& (3 : Int32))), .val (.int c101), .val (.int c103), .val (.int c106), .val (.int (own_10 c101)), .val (.int (own_l9 c101 c103 (own_10 c101))), .val (.int (own_l10 c101 c103 (own_10 c101) (own_l9 c101 c103 (own_10 c101)))), .val (.int (own_l11 c106 (own_l10 c101 c103 (own_10 c101) (own_l9 c101 c103 (own_10 c101))))), .val (.ref b168), .val (.int (1 : Int32))] [(.int c101), (.ref b168)])) _
      refine st191.trans ?_
      show Steps p.tables e below (T191.setTop (mkF m 183 #[.val (.int p1), .val (.int p2), .val (.int p3), .val (.int p4), .val (.int (p1 &&& (3 : Int32))), .val (.int c101), .val (.int c103), .val (.int c106), .val (.int (own_10 c101)), .val (.int (own_l9 c101 c103 (own_10 c101))), .val (.int (own_l10 c101 c103 (own_10 c101) (own_l9 c101 c103 (own_10 c101)))), .val (.int (own_l11 c106 (own_l10 c101 c103 (own_10 c101) (own_l9 c101 c103 (own_10 c101))))), .val (.ref b168), .val (.int (1 : Int32))] [rv191])) _
      refine XS.pop X191.here hx rfl (hb hby at_183) rfl R191_24 ?_
      show Steps p.tables e below (T191.setTop (mkF m 184 #[.val (.int p1), .val (.int p2), .val (.int p3), .val (.int p4), .val (.int (p1 &&& (3 : Int32))), .val (.int c101), .val (.int c103), .val (.int c106), .val (.int (own_10 c101)), .val (.int (own_l9 c101 c103 (own_10 c101))), .val (.int (own_l10 c101 c103 (own_10 c101) (own_l9 c101 c103 (own_10 c101)))), .val (.int (own_l11 c106 (own_l10 c101 c103 (own_10 c101) (own_l9 c101 c103 (own_10 c101))))), .val (.ref b168), .val (.int (1 : Int32))] [])) _
      exact kt
    obtain ⟨T193, L193, X193, N193, e193, pre193⟩ : ∃ (T' : State) (L' : List Loc), Stand p l e room_1 (s.setVm T191.vm) m #[(.int p1), (.int p2), (.int p3), (.int p4)] below meth c T' L' 10 109 ∧ Fr n0 L' ∧ T'.heap = T191.heap ∧ ∀ t, Steps p.tables e below (T'.setTop (mkF m 214 #[.val (.int p1), .val (.int p2), .val (.int p3), .val (.int p4), .val (.int (p1 &&& (3 : Int32))), .val (.int c101), .val (.int c103), .val (.int c106), .val (.int (own_10 c101)), .val (.int (own_l9 c101 c103 (own_10 c101))), .val (.int (own_l10 c101 c103 (own_10 c101) (own_l9 c101 c103 (own_10 c101)))), .val (.int (own_l11 c106 (own_l10 c101 c103 (own_10 c101) (own_l9 c101 c103 (own_10 c101))))), .val (.ref b168), .val (.int (1 : Int32))] [])) t → Steps p.tables e below (s₁.setTop (entryFrame m #[(.int p1), (.int p2), (.int p3), (.int p4)] maxLocals)) t := by
      have z195 : n0 ≤ T191.heap.size := (Nat.le_trans z182 K191.1)
      have f196 : Exa Z T191.heap b168 "com/example/rouse/rouse/shell/ShellWords" := (f183.keep K191)
      obtain ⟨cq194, kq194, q194a, q194b, q194c⟩ := isOf hZ rfl f196
      obtain ⟨_, _, ⟨T194, L194, k194, n194⟩, -, X194, ⟨Lc194, hQ194, l194, y194, z194⟩, st194⟩ := X191.virtualBack hx (y := (⟨"com/example/rouse/rouse/shell/ShellWords", "continues", "()Z"⟩ : MethodName)) (z := (⟨"com/example/rouse/rouse/shell/ShellWords", "continues", "()Z"⟩ : MethodName)) hown (mvT hZ (hw _ (List.mem_of_getElem? (i := 40) rfl))) (mvT hZ (hw _ (List.mem_of_getElem? (i := 41) rfl))) (notFace_of_selects (args := #[]) (mvT hZ (hw _ (List.mem_of_getElem? (i := 43) rfl)))) (mvT hZ (hw _ (List.mem_of_getElem? (i := 43) rfl))) (mvT hZ (hw _ (List.mem_of_getElem? (i := 42) rfl))) (by decide) (backOf (W := 0) (rm7 l Z a0 hw [] b168 (own_rlen c101 (0 : Int32) (0 : Int32) (0 : Int32)) T191.heap n0 z195 R191_6) hZ (hw _ (List.mem_of_getElem? (i := 44) rfl)) (hw _ (List.mem_of_getElem? (i := 10) rfl)) (by decide) (by decide)) q194a q194c (g := (mkF m 191 #[.val (.int p1), .val (.int p2), .val (.int p3), .val (.int p4), .val (.int (p1 &&& (3 : Int32))), .val (.int c101), .val (.int c103), .val (.int c106), .val (.int (own_10 c101)), .val (.int (own_l9 c101 c103 (own_10 c101))), .val (.int (own_l10 c101 c103 (own_10 c101) (own_l9 c101 c103 (own_10 c101)))), .val (.int (own_l11 c106 (own_l10 c101 c103 (own_10 c101) (own_l9 c101 c103 (own_10 c101))))), .val (.ref b168), .val (.int (1 : Int32))] [(.ref b168)])) rfl (by rw [hml]; rfl) (Steps.refl _) (argsL := []) (rest := []) (lenOf pd_3 rfl) rfl (by show 2 * 0 + _ ≤ _; exact Nat.le_of_eq rfl) (hb hby at_191) (fun _ _ => ⟨rfl, rfl, (by decide : 10 + 0 ≤ _), (by decide : 109 + 0 ≤ _)⟩)
      dsimp only [Pt.U, Pt.locs, Pt.cells, Pt.slots] at X194 l194 y194 z194 st194 hQ194
      subst l194 y194 z194
      obtain ⟨rfl, Nq194, Heq194⟩ := hQ194
      have N194 := Fr.app N191 Nq194
      have pre197 : ∀ t, Steps p.tables e below (T194.setTop (mkF m 196 #[.val (.int p1), .val (.int p2), .val (.int p3), .val (.int p4), .val (.int (p1 &&& (3 : Int32))), .val (.int c101), .val (.int c103), .val (.int c106), .val (.int (own_10 c101)), .val (.int (own_l9 c101 c103 (own_10 c101))), .val (.int (own_l10 c101 c103 (own_10 c101) (own_l9 c101 c103 (own_10 c101)))), .val (.int (own_l11 c106 (own_l10 c101 c103 (own_10 c101) (own_l9 c101 c103 (own_10 c101))))), .val (.ref b168), .val (.int (1 : Int32))] [(.int (own_10 c101)), (.int (own_pos (own_rlen c101 (0 : Int32) (0 : Int32) (0 : Int32))))])) t → Steps p.tables e below (s₁.setTop (entryFrame m #[(.int p1), (.int p2), (.int p3), (.int p4)] maxLocals)) t := fun t kt => by
        refine pre192 t ?_
        show Steps p.tables e below (T191.setTop (mkF m 184 #[.val (.int p1), .val (.int p2), .val (.int p3), .val (.int p4), .val (.int (p1 &&& (3 : Int32))), .val (.int c101), .val (.int c103), .val (.int c106), .val (.int (own_10 c101)), .val (.int (own_l9 c101 c103 (own_10 c101))), .val (.int (own_l10 c101 c103 (own_10 c101) (own_l9 c101 c103 (own_10 c101)))), .val (.int (own_l11 c106 (own_l10 c101 c103 (own_10 c101) (own_l9 c101 c103 (own_10 c101))))), .val (.ref b168), .val (.int (1 : Int32))] [])) _
        refine XS.iload X191.here hx rfl (hb hby at_184) rfl ?_
        show Steps p.tables e below (T191.setTop (mkF m 186 #[.val (.int p1), .val (.int p2), .val (.int p3), .val (.int p4), .val (.int (p1 &&& (3 : Int32))), .val (.int c101), .val (.int c103), .val (.int c106), .val (.int (own_10 c101)), .val (.int (own_l9 c101 c103 (own_10 c101))), .val (.int (own_l10 c101 c103 (own_10 c101) (own_l9 c101 c103 (own_10 c101)))), .val (.int (own_l11 c106 (own_l10 c101 c103 (own_10 c101) (own_l9 c101 c103 (own_10 c101))))), .val (.ref b168), .val (.int (1 : Int32))] [(.int (1 : Int32))])) _
        refine XS.ifNo X191.here hx rfl (hb hby at_186) rfl ((if0 _ _).trans (feq (by decide : ¬ ((1 : Int32) = (0 : Int32)))).1) ?_
        show Steps p.tables e below (T191.setTop (mkF m 189 #[.val (.int p1), .val (.int p2), .val (.int p3), .val (.int p4), .val (.int (p1 &&& (3 : Int32))), .val (.int c101), .val (.int c103), .val (.int c106), .val (.int (own_10 c101)), .val (.int (own_l9 c101 c103 (own_10 c101))), .val (.int (own_l10 c101 c103 (own_10 c101) (own_l9 c101 c103 (own_10 c101)))), .val (.int (own_l11 c106 (own_l10 c101 c103 (own_10 c101) (own_l9 c101 c103 (own_10 c101))))), .val (.ref b168), .val (.int (1 : Int32))] [])) _
        refine XS.aload X191.here hx rfl (hb hby at_189) rfl rfl ?_
        show Steps p.tables e below (T191.setTop (mkF m 191 #[.val (.int p1), .val (.int p2), .val (.int p3), .val (.int p4), .val (.int (p1 &&& (3 : Int32))), .val (.int c101), .val (.int c103), .val (.int c106), .val (.int (own_10 c101)), .val (.int (own_l9 c101 c103 (own_10 c101))), .val (.int (own_l10 c101 c103 (own_10 c101) (own_l9 c101 c103 (own_10 c101)))), .val (.int (own_l11 c106 (own_l10 c101 c103 (own_10 c101) (own_l9 c101 c103 (own_10 c101))))), .val (.ref b168), .val (.int (1 : Int32))] [(.ref b168)])) _
        refine st194.trans ?_
        show Steps p.tables e below (T194.setTop (mkF m 194 #[.val (.int p1), .val (.int p2), .val (.int p3), .val (.int p4), .val (.int (p1 &&& (3 : Int32))), .val (.int c101), .val (.int c103), .val (.int c106), .val (.int (own_10 c101)), .val (.int (own_l9 c101 c103 (own_10 c101))), .val (.int (own_l10 c101 c103 (own_10 c101) (own_l9 c101 c103 (own_10 c101)))), .val (.int (own_l11 c106 (own_l10 c101 c103 (own_10 c101) (own_l9 c101 c103 (own_10 c101))))), .val (.ref b168), .val (.int (1 : Int32))] [(.int (own_pos (own_rlen c101 (0 : Int32) (0 : Int32) (0 : Int32))))])) _
        refine XS.iload X194.here hx rfl (hb hby at_194) rfl ?_
        show Steps p.tables e below (T194.setTop (mkF m 196 #[.val (.int p1), .val (.int p2), .val (.int p3), .val (.int p4), .val (.int (p1 &&& (3 : Int32))), .val (.int c101), .val (.int c103), .val (.int c106), .val (.int (own_10 c101)), .val (.int (own_l9 c101 c103 (own_10 c101))), .val (.int (own_l10 c101 c103 (own_10 c101) (own_l9 c101 c103 (own_10 c101)))), .val (.int (own_l11 c106 (own_l10 c101 c103 (own_10 c101) (own_l9 c101 c103 (own_10 c101))))), .val (.ref b168), .val (.int (1 : Int32))] [(.int (own_10 c101)), (.int (own_pos (own_rlen c101 (0 : Int32) (0 : Int32) (0 : Int32))))])) _
        exact kt
      by_cases hc196_198 : (own_10 c101) = (0 : Int32)
      · skip
        have pre199 : ∀ t, Steps p.tables e below (T194.setTop (mkF m 214 #[.val (.int p1), .val (.int p2), .val (.int p3), .val (.int p4), .val (.int (p1 &&& (3 : Int32))), .val (.int c101), .val (.int c103), .val (.int c106), .val (.int (own_10 c101)), .val (.int (own_l9 c101 c103 (own_10 c101))), .val (.int (own_l10 c101 c103 (own_10 c101) (own_l9 c101 c103 (own_10 c101)))), .val (.int (own_l11 c106 (own_l10 c101 c103 (own_10 c101) (own_l9 c101 c103 (own_10 c101))))), .val (.ref b168), .val (.int (1 : Int32))] [])) t → Steps p.tables e below (s₁.setTop (entryFrame m #[(.int p1), (.int p2), (.int p3), (.int p4)] maxLocals)) t := fun t kt => by
          refine pre197 t ?_
          show Steps p.tables e below (T194.setTop (mkF m 196 #[.val (.int p1), .val (.int p2), .val (.int p3), .val (.int p4), .val (.int (p1 &&& (3 : Int32))), .val (.int c101), .val (.int c103), .val (.int c106), .val (.int (own_10 c101)), .val (.int (own_l9 c101 c103 (own_10 c101))), .val (.int (own_l10 c101 c103 (own_10 c101) (own_l9 c101 c103 (own_10 c101)))), .val (.int (own_l11 c106 (own_l10 c101 c103 (own_10 c101) (own_l9 c101 c103 (own_10 c101))))), .val (.ref b168), .val (.int (1 : Int32))] [(.int (own_10 c101)), (.int (own_pos (own_rlen c101 (0 : Int32) (0 : Int32) (0 : Int32))))])) _
          refine XS.ifNo X194.here hx rfl (hb hby at_196) rfl ((if0 _ _).trans (teq (hc196_198 : (own_10 c101) = (0 : Int32))).2) ?_
          show Steps p.tables e below (T194.setTop (mkF m 199 #[.val (.int p1), .val (.int p2), .val (.int p3), .val (.int p4), .val (.int (p1 &&& (3 : Int32))), .val (.int c101), .val (.int c103), .val (.int c106), .val (.int (own_10 c101)), .val (.int (own_l9 c101 c103 (own_10 c101))), .val (.int (own_l10 c101 c103 (own_10 c101) (own_l9 c101 c103 (own_10 c101)))), .val (.int (own_l11 c106 (own_l10 c101 c103 (own_10 c101) (own_l9 c101 c103 (own_10 c101))))), .val (.ref b168), .val (.int (1 : Int32))] [(.int (own_pos (own_rlen c101 (0 : Int32) (0 : Int32) (0 : Int32))))])) _
          refine XS.iconst X194.here hx rfl (hb hby at_199) ?_
          show Steps p.tables e below (T194.setTop (mkF m 200 #[.val (.int p1), .val (.int p2), .val (.int p3), .val (.int p4), .val (.int (p1 &&& (3 : Int32))), .val (.int c101), .val (.int c103), .val (.int c106), .val (.int (own_10 c101)), .val (.int (own_l9 c101 c103 (own_10 c101))), .val (.int (own_l10 c101 c103 (own_10 c101) (own_l9 c101 c103 (own_10 c101)))), .val (.int (own_l11 c106 (own_l10 c101 c103 (own_10 c101) (own_l9 c101 c103 (own_10 c101))))), .val (.ref b168), .val (.int (1 : Int32))] [(.int (1 : Int32)), (.int (own_pos (own_rlen c101 (0 : Int32) (0 : Int32) (0 : Int32))))])) _
          refine XS.goto X194.here hx rfl (pc0 := 200) (pc' := 204) rfl (hb hby at_200) (by decide) (by decide) ?_
          show Steps p.tables e below (T194.setTop (mkF m 204 #[.val (.int p1), .val (.int p2), .val (.int p3), .val (.int p4), .val (.int (p1 &&& (3 : Int32))), .val (.int c101), .val (.int c103), .val (.int c106), .val (.int (own_10 c101)), .val (.int (own_l9 c101 c103 (own_10 c101))), .val (.int (own_l10 c101 c103 (own_10 c101) (own_l9 c101 c103 (own_10 c101)))), .val (.int (own_l11 c106 (own_l10 c101 c103 (own_10 c101) (own_l9 c101 c103 (own_10 c101))))), .val (.ref b168), .val (.int (1 : Int32))] [(.int (1 : Int32)), (.int (own_pos (own_rlen c101 (0 : Int32) (0 : Int32) (0 : Int32))))])) _
          refine XS.icmpNo X194.here hx rfl (hb hby at_204) rfl (teq (own_not1 (own_law1 _) hc196_198 : (own_pos (own_rlen c101 (0 : Int32) (0 : Int32) (0 : Int32))) = (1 : Int32))).2 ?_
          show Steps p.tables e below (T194.setTop (mkF m 207 #[.val (.int p1), .val (.int p2), .val (.int p3), .val (.int p4), .val (.int (p1 &&& (3 : Int32))), .val (.int c101), .val (.int c103), .val (.int c106), .val (.int (own_10 c101)), .val (.int (own_l9 c101 c103 (own_10 c101))), .val (.int (own_l10 c101 c103 (own_10 c101) (own_l9 c101 c103 (own_10 c101)))), .val (.int (own_l11 c106 (own_l10 c101 c103 (own_10 c101) (own_l9 c101 c103 (own_10 c101))))), .val (.ref b168), .val (.int (1 : Int32))] [])) _
          refine XS.iconst X194.here hx rfl (hb hby at_207) ?_
          show Steps p.tables e below (T194.setTop (mkF m 208 #[.val (.int p1), .val (.int p2), .val (.int p3), .val (.int p4), .val (.int (p1 &&& (3 : Int32))), .val (.int c101), .val (.int c103), .val (.int c106), .val (.int (own_10 c101)), .val (.int (own_l9 c101 c103 (own_10 c101))), .val (.int (own_l10 c101 c103 (own_10 c101) (own_l9 c101 c103 (own_10 c101)))), .val (.int (own_l11 c106 (own_l10 c101 c103 (own_10 c101) (own_l9 c101 c103 (own_10 c101))))), .val (.ref b168), .val (.int (1 : Int32))] [(.int (1 : Int32))])) _
          refine XS.goto X194.here hx rfl (pc0 := 208) (pc' := 212) rfl (hb hby at_208) (by decide) (by decide) ?_
          show Steps p.tables e below (T194.setTop (mkF m 212 #[.val (.int p1), .val (.int p2), .val (.int p3), .val (.int p4), .val (.int (p1 &&& (3 : Int32))), .val (.int c101), .val (.int c103), .val (.int c106), .val (.int (own_10 c101)), .val (.int (own_l9 c101 c103 (own_10 c101))), .val (.int (own_l10 c101 c103 (own_10 c101) (own_l9 c101 c103 (own_10 c101)))), .val (.int (own_l11 c106 (own_l10 c101 c103 (own_10 c101) (own_l9 c101 c103 (own_10 c101))))), .val (.ref b168), .val (.int (1 : Int32))] [(.int (1 : Int32))])) _
          refine XS.istore X194.here hx rfl (hb hby at_212) rfl (l' := #[.val (.int p1), .val (.int p2), .val (.int p3), .val (.int p4), .val (.int (p1 &&& (3 : Int32))), .val (.int c101), .val (.int c103), .val (.int c106), .val (.int (own_10 c101)), .val (.int (own_l9 c101 c103 (own_10 c101))), .val (.int (own_l10 c101 c103 (own_10 c101) (own_l9 c101 c103 (own_10 c101)))), .val (.int (own_l11 c106 (own_l10 c101 c103 (own_10 c101) (own_l9 c101 c103 (own_10 c101))))), .val (.ref b168), .val (.int (1 : Int32))]) rfl ?_
          show Steps p.tables e below (T194.setTop (mkF m 214 #[.val (.int p1), .val (.int p2), .val (.int p3), .val (.int p4), .val (.int (p1 &&& (3 : Int32))), .val (.int c101), .val (.int c103), .val (.int c106), .val (.int (own_10 c101)), .val (.int (own_l9 c101 c103 (own_10 c101))), .val (.int (own_l10 c101 c103 (own_10 c101) (own_l9 c101 c103 (own_10 c101)))), .val (.int (own_l11 c106 (own_l10 c101 c103 (own_10 c101) (own_l9 c101 c103 (own_10 c101))))), .val (.ref b168), .val (.int (1 : Int32))] [])) _
          exact kt
        exact ⟨_, _, X194, N194, Heq194, fun t kt => pre199 t kt⟩
      · skip
        have pre201 : ∀ t, Steps p.tables e below (T194.setTop (mkF m 214 #[.val (.int p1), .val (.int p2), .val (.int p3), .val (.int p4), .val (.int (p1 &&& (3 : Int32))), .val (.int c101), .val (.int c103), .val (.int c106), .val (.int (own_10 c101)), .val (.int (own_l9 c101 c103 (own_10 c101))), .val (.int (own_l10 c101 c103 (own_10 c101) (own_l9 c101 c103 (own_10 c101)))), .val (.int (own_l11 c106 (own_l10 c101 c103 (own_10 c101) (own_l9 c101 c103 (own_10 c101))))), .val (.ref b168), .val (.int (1 : Int32))] [])) t → Steps p.tables e below (s₁.setTop (entryFrame m #[(.int p1), (.int p2), (.int p3), (.int p4)] maxLocals)) t := fun t kt => by
          refine pre197 t ?_
          show Steps p.tables e below (T194.setTop (mkF m 196 #[.val (.int p1), .val (.int p2), .val (.int p3), .val (.int p4), .val (.int (p1 &&& (3 : Int32))), .val (.int c101), .val (.int c103), .val (.int c106), .val (.int (own_10 c101)), .val (.int (own_l9 c101 c103 (own_10 c101))), .val (.int (own_l10 c101 c103 (own_10 c101) (own_l9 c101 c103 (own_10 c101)))), .val (.int (own_l11 c106 (own_l10 c101 c103 (own_10 c101) (own_l9 c101 c103 (own_10 c101))))), .val (.ref b168), .val (.int (1 : Int32))] [(.int (own_10 c101)), (.int (own_pos (own_rlen c101 (0 : Int32) (0 : Int32) (0 : Int32))))])) _
          refine XS.ifYes X194.here hx rfl (pc0 := 196) (pc' := 203) rfl (hb hby at_196) rfl ((if0 _ _).trans (feq (hc196_198 : ¬ ((own_10 c101) = (0 : Int32)))).2) (by decide) (by decide) ?_
          show Steps p.tables e below (T194.setTop (mkF m 203 #[.val (.int p1), .val (.int p2), .val (.int p3), .val (.int p4), .val (.int (p1 &&& (3 : Int32))), .val (.int c101), .val (.int c103), .val (.int c106), .val (.int (own_10 c101)), .val (.int (own_l9 c101 c103 (own_10 c101))), .val (.int (own_l10 c101 c103 (own_10 c101) (own_l9 c101 c103 (own_10 c101)))), .val (.int (own_l11 c106 (own_l10 c101 c103 (own_10 c101) (own_l9 c101 c103 (own_10 c101))))), .val (.ref b168), .val (.int (1 : Int32))] [(.int (own_pos (own_rlen c101 (0 : Int32) (0 : Int32) (0 : Int32))))])) _
          refine XS.iconst X194.here hx rfl (hb hby at_203) ?_
          show Steps p.tables e below (T194.setTop (mkF m 204 #[.val (.int p1), .val (.int p2), .val (.int p3), .val (.int p4), .val (.int (p1 &&& (3 : Int32))), .val (.int c101), .val (.int c103), .val (.int c106), .val (.int (own_10 c101)), .val (.int (own_l9 c101 c103 (own_10 c101))), .val (.int (own_l10 c101 c103 (own_10 c101) (own_l9 c101 c103 (own_10 c101)))), .val (.int (own_l11 c106 (own_l10 c101 c103 (own_10 c101) (own_l9 c101 c103 (own_10 c101))))), .val (.ref b168), .val (.int (1 : Int32))] [(.int (0 : Int32)), (.int (own_pos (own_rlen c101 (0 : Int32) (0 : Int32) (0 : Int32))))])) _
          refine XS.icmpNo X194.here hx rfl (hb hby at_204) rfl (teq (own_not0 (own_law1 _) hc196_198 : (own_pos (own_rlen c101 (0 : Int32) (0 : Int32) (0 : Int32))) = (0 : Int32))).2 ?_
          show Steps p.tables e below (T194.setTop (mkF m 207 #[.val (.int p1), .val (.int p2), .val (.int p3), .val (.int p4), .val (.int (p1 &&& (3 : Int32))), .val (.int c101), .val (.int c103), .val (.int c106), .val (.int (own_10 c101)), .val (.int (own_l9 c101 c103 (own_10 c101))), .val (.int (own_l10 c101 c103 (own_10 c101) (own_l9 c101 c103 (own_10 c101)))), .val (.int (own_l11 c106 (own_l10 c101 c103 (own_10 c101) (own_l9 c101 c103 (own_10 c101))))), .val (.ref b168), .val (.int (1 : Int32))] [])) _
          refine XS.iconst X194.here hx rfl (hb hby at_207) ?_
          show Steps p.tables e below (T194.setTop (mkF m 208 #[.val (.int p1), .val (.int p2), .val (.int p3), .val (.int p4), .val (.int (p1 &&& (3 : Int32))), .val (.int c101), .val (.int c103), .val (.int c106), .val (.int (own_10 c101)), .val (.int (own_l9 c101 c103 (own_10 c101))), .val (.int (own_l10 c101 c103 (own_10 c101) (own_l9 c101 c103 (own_10 c101)))), .val (.int (own_l11 c106 (own_l10 c101 c103 (own_10 c101) (own_l9 c101 c103 (own_10 c101))))), .val (.ref b168), .val (.int (1 : Int32))] [(.int (1 : Int32))])) _
          refine XS.goto X194.here hx rfl (pc0 := 208) (pc' := 212) rfl (hb hby at_208) (by decide) (by decide) ?_
          show Steps p.tables e below (T194.setTop (mkF m 212 #[.val (.int p1), .val (.int p2), .val (.int p3), .val (.int p4), .val (.int (p1 &&& (3 : Int32))), .val (.int c101), .val (.int c103), .val (.int c106), .val (.int (own_10 c101)), .val (.int (own_l9 c101 c103 (own_10 c101))), .val (.int (own_l10 c101 c103 (own_10 c101) (own_l9 c101 c103 (own_10 c101)))), .val (.int (own_l11 c106 (own_l10 c101 c103 (own_10 c101) (own_l9 c101 c103 (own_10 c101))))), .val (.ref b168), .val (.int (1 : Int32))] [(.int (1 : Int32))])) _
          refine XS.istore X194.here hx rfl (hb hby at_212) rfl (l' := #[.val (.int p1), .val (.int p2), .val (.int p3), .val (.int p4), .val (.int (p1 &&& (3 : Int32))), .val (.int c101), .val (.int c103), .val (.int c106), .val (.int (own_10 c101)), .val (.int (own_l9 c101 c103 (own_10 c101))), .val (.int (own_l10 c101 c103 (own_10 c101) (own_l9 c101 c103 (own_10 c101)))), .val (.int (own_l11 c106 (own_l10 c101 c103 (own_10 c101) (own_l9 c101 c103 (own_10 c101))))), .val (.ref b168), .val (.int (1 : Int32))]) rfl ?_
          show Steps p.tables e below (T194.setTop (mkF m 214 #[.val (.int p1), .val (.int p2), .val (.int p3), .val (.int p4), .val (.int (p1 &&& (3 : Int32))), .val (.int c101), .val (.int c103), .val (.int c106), .val (.int (own_10 c101)), .val (.int (own_l9 c101 c103 (own_10 c101))), .val (.int (own_l10 c101 c103 (own_10 c101) (own_l9 c101 c103 (own_10 c101)))), .val (.int (own_l11 c106 (own_l10 c101 c103 (own_10 c101) (own_l9 c101 c103 (own_10 c101))))), .val (.ref b168), .val (.int (1 : Int32))] [])) _
          exact kt
        exact ⟨_, _, X194, N194, Heq194, fun t kt => pre201 t kt⟩
    have pre203 : ∀ t, Steps p.tables e below (T193.setTop (mkF m 217 #[.val (.int p1), .val (.int p2), .val (.int p3), .val (.int p4), .val (.int (p1 &&& (3 : Int32))), .val (.int c101), .val (.int c103), .val (.int c106), .val (.int (own_10 c101)), .val (.int (own_l9 c101 c103 (own_10 c101))), .val (.int (own_l10 c101 c103 (own_10 c101) (own_l9 c101 c103 (own_10 c101)))), .val (.int (own_l11 c106 (own_l10 c101 c103 (own_10 c101) (own_l9 c101 c103 (own_10 c101))))), .val (.ref b168), .val (.int (1 : Int32))] [(.int (2 : Int32)), (.int (p1 &&& (3 : Int32)))])) t → Steps p.tables e below (s₁.setTop (entryFrame m #[(.int p1), (.int p2), (.int p3), (.int p4)] maxLocals)) t := fun t kt => by
      refine pre193 t ?_
      show Steps p.tables e below (T193.setTop (mkF m 214 #[.val (.int p1), .val (.int p2), .val (.int p3), .val (.int p4), .val (.int (p1 &&& (3 : Int32))), .val (.int c101), .val (.int c103), .val (.int c106), .val (.int (own_10 c101)), .val (.int (own_l9 c101 c103 (own_10 c101))), .val (.int (own_l10 c101 c103 (own_10 c101) (own_l9 c101 c103 (own_10 c101)))), .val (.int (own_l11 c106 (own_l10 c101 c103 (own_10 c101) (own_l9 c101 c103 (own_10 c101))))), .val (.ref b168), .val (.int (1 : Int32))] [])) _
      refine XS.iload X193.here hx rfl (hb hby at_214) rfl ?_
      show Steps p.tables e below (T193.setTop (mkF m 216 #[.val (.int p1), .val (.int p2), .val (.int p3), .val (.int p4), .val (.int (p1 &&& (3 : Int32))), .val (.int c101), .val (.int c103), .val (.int c106), .val (.int (own_10 c101)), .val (.int (own_l9 c101 c103 (own_10 c101))), .val (.int (own_l10 c101 c103 (own_10 c101) (own_l9 c101 c103 (own_10 c101)))), .val (.int (own_l11 c106 (own_l10 c101 c103 (own_10 c101) (own_l9 c101 c103 (own_10 c101))))), .val (.ref b168), .val (.int (1 : Int32))] [(.int (p1 &&& (3 : Int32)))])) _
      refine XS.iconst X193.here hx rfl (hb hby at_216) ?_
      show Steps p.tables e below (T193.setTop (mkF m 217 #[.val (.int p1), .val (.int p2), .val (.int p3), .val (.int p4), .val (.int (p1 &&& (3 : Int32))), .val (.int c101), .val (.int c103), .val (.int c106), .val (.int (own_10 c101)), .val (.int (own_l9 c101 c103 (own_10 c101))), .val (.int (own_l10 c101 c103 (own_10 c101) (own_l9 c101 c103 (own_10 c101)))), .val (.int (own_l11 c106 (own_l10 c101 c103 (own_10 c101) (own_l9 c101 c103 (own_10 c101))))), .val (.ref b168), .val (.int (1 : Int32))] [(.int (2 : Int32)), (.int (p1 &&& (3 : Int32)))])) _
      exact kt
    by_cases hc217_204 : (p1 &&& (3 : Int32)) < (2 : Int32)
    · skip
      obtain ⟨fs, hr, hrun, hended, hEnd⟩ := X193.leaveW hS191 (by rw [e193]; exact (Nat.le_refl _)) (v := some (.int (1 : Int32))) (fun h => by rw [Bd.returns] at h; cases h)
      refine ⟨_, _, pre203 _ ?_, hrun, hended, _, _, rfl, ?_, (show CHr Z own_EL s.vm s.heap T193.vm T193.heap from by rw [hh, e193]; exact Cr191.trans (CHv.at X193 hZ hEL Hc191)), hEnd.1, hEnd.2.1, hEnd.2.2.1, hEnd.2.2.2.mono (by decide) (by decide)⟩
      · skip
        show Steps p.tables e below (T193.setTop (mkF m 217 #[.val (.int p1), .val (.int p2), .val (.int p3), .val (.int p4), .val (.int (p1 &&& (3 : Int32))), .val (.int c101), .val (.int c103), .val (.int c106), .val (.int (own_10 c101)), .val (.int (own_l9 c101 c103 (own_10 c101))), .val (.int (own_l10 c101 c103 (own_10 c101) (own_l9 c101 c103 (own_10 c101)))), .val (.int (own_l11 c106 (own_l10 c101 c103 (own_10 c101) (own_l9 c101 c103 (own_10 c101))))), .val (.ref b168), .val (.int (1 : Int32))] [(.int (2 : Int32)), (.int (p1 &&& (3 : Int32)))])) _
        refine XS.icmpYes X193.here hx rfl (pc0 := 217) (pc' := 258) rfl (hb hby at_217) rfl (tlt (hc217_204 : (p1 &&& (3 : Int32)) < (2 : Int32))).1 (by decide) (by decide) ?_
        show Steps p.tables e below (T193.setTop (mkF m 258 #[.val (.int p1), .val (.int p2), .val (.int p3), .val (.int p4), .val (.int (p1 &&& (3 : Int32))), .val (.int c101), .val (.int c103), .val (.int c106), .val (.int (own_10 c101)), .val (.int (own_l9 c101 c103 (own_10 c101))), .val (.int (own_l10 c101 c103 (own_10 c101) (own_l9 c101 c103 (own_10 c101)))), .val (.int (own_l11 c106 (own_l10 c101 c103 (own_10 c101) (own_l9 c101 c103 (own_10 c101))))), .val (.ref b168), .val (.int (1 : Int32))] [])) _
        refine XS.iload X193.here hx rfl (hb hby at_258) rfl ?_
        show Steps p.tables e below (T193.setTop (mkF m 260 #[.val (.int p1), .val (.int p2), .val (.int p3), .val (.int p4), .val (.int (p1 &&& (3 : Int32))), .val (.int c101), .val (.int c103), .val (.int c106), .val (.int (own_10 c101)), .val (.int (own_l9 c101 c103 (own_10 c101))), .val (.int (own_l10 c101 c103 (own_10 c101) (own_l9 c101 c103 (own_10 c101)))), .val (.int (own_l11 c106 (own_l10 c101 c103 (own_10 c101) (own_l9 c101 c103 (own_10 c101))))), .val (.ref b168), .val (.int (1 : Int32))] [(.int (p1 &&& (3 : Int32)))])) _
        refine XS.iconst X193.here hx rfl (hb hby at_260) ?_
        show Steps p.tables e below (T193.setTop (mkF m 261 #[.val (.int p1), .val (.int p2), .val (.int p3), .val (.int p4), .val (.int (p1 &&& (3 : Int32))), .val (.int c101), .val (.int c103), .val (.int c106), .val (.int (own_10 c101)), .val (.int (own_l9 c101 c103 (own_10 c101))), .val (.int (own_l10 c101 c103 (own_10 c101) (own_l9 c101 c103 (own_10 c101)))), .val (.int (own_l11 c106 (own_l10 c101 c103 (own_10 c101) (own_l9 c101 c103 (own_10 c101))))), .val (.ref b168), .val (.int (1 : Int32))] [(.int (3 : Int32)), (.int (p1 &&& (3 : Int32)))])) _
        refine XS.icmpYes X193.here hx rfl (pc0 := 261) (pc' := 302) rfl (hb hby at_261) rfl (tlt (own_up hc217_204 (by decide) : (p1 &&& (3 : Int32)) < (3 : Int32))).1 (by decide) (by decide) ?_
        show Steps p.tables e below (T193.setTop (mkF m 302 #[.val (.int p1), .val (.int p2), .val (.int p3), .val (.int p4), .val (.int (p1 &&& (3 : Int32))), .val (.int c101), .val (.int c103), .val (.int c106), .val (.int (own_10 c101)), .val (.int (own_l9 c101 c103 (own_10 c101))), .val (.int (own_l10 c101 c103 (own_10 c101) (own_l9 c101 c103 (own_10 c101)))), .val (.int (own_l11 c106 (own_l10 c101 c103 (own_10 c101) (own_l9 c101 c103 (own_10 c101))))), .val (.ref b168), .val (.int (1 : Int32))] [])) _
        refine XS.iload X193.here hx rfl (hb hby at_302) rfl ?_
        show Steps p.tables e below (T193.setTop (mkF m 304 #[.val (.int p1), .val (.int p2), .val (.int p3), .val (.int p4), .val (.int (p1 &&& (3 : Int32))), .val (.int c101), .val (.int c103), .val (.int c106), .val (.int (own_10 c101)), .val (.int (own_l9 c101 c103 (own_10 c101))), .val (.int (own_l10 c101 c103 (own_10 c101) (own_l9 c101 c103 (own_10 c101)))), .val (.int (own_l11 c106 (own_l10 c101 c103 (own_10 c101) (own_l9 c101 c103 (own_10 c101))))), .val (.ref b168), .val (.int (1 : Int32))] [(.int (1 : Int32))])) _
        exact retN X193 hx (t := .boolean) Bd.returns (by simp) (hb hby at_304) hr
      · show Q0 Z p1 p2 p3 p4 em cz h0 n0 _ T193.heap _
        rw [e193]
        exact ⟨rfl, N193⟩
    · skip
      have f205 : Sta Z T191.heap "java/util/ImmutableCollections" "EMPTY_LIST" "Ljava/util/ImmutableCollections$ListN;" (.ref em) := (own_sta_keep f186 K191 (own_plS (own_pl_exa f183) (own_plS (own_pl_exa R178_11) (own_plS (own_pl_arv R178_18) (own_plS (own_pl_arv R178_19) own_pl0)))))
      have f206 : Sta Z T191.heap "java/lang/String" "COMPACT_STRINGS" "Z" (.int cz) := (own_sta_keep f187 K191 (own_plS (own_pl_exa f183) (own_plS (own_pl_exa R178_11) (own_plS (own_pl_arv R178_18) (own_plS (own_pl_arv R178_19) own_pl0)))))
      have f207 : Exa Z T191.heap b168 "com/example/rouse/rouse/shell/ShellWords" := (f183.keep K191)
      have z209 : n0 ≤ T191.heap.size := (Nat.le_trans z182 K191.1)
      obtain ⟨cq208, kq208, q208a, q208b, q208c⟩ := isOf hZ e193 f207
      obtain ⟨_, _, ⟨T208, L208, k208, n208⟩, -, X208, hS208', hgr208, ⟨Lc208, hQ208, l208, y208, z208, Cq208⟩, st208⟩ := X193.virtualBackS hx (y := (⟨"com/example/rouse/rouse/shell/ShellWords", "read", "(C)Ljava/lang/Iterable;"⟩ : MethodName)) (z := (⟨"com/example/rouse/rouse/shell/ShellWords", "read", "(C)Ljava/lang/Iterable;"⟩ : MethodName)) hown (mvT hZ (hw _ (List.mem_of_getElem? (i := 50) rfl))) (mvT hZ (hw _ (List.mem_of_getElem? (i := 51) rfl))) (notFace_of_selects (args := #[]) (mvT hZ (hw _ (List.mem_of_getElem? (i := 53) rfl)))) (mvT hZ (hw _ (List.mem_of_getElem? (i := 53) rfl))) (mvT hZ (hw _ (List.mem_of_getElem? (i := 52) rfl))) (by decide) (backOfSH (W := 0) (rm9 l Z a0 hw [] hEL b168 c103 em cz cly191 wx191 cx191 nx191 cby191 cky191 cvy191 wby191 wky191 wvy191 (own_Rq c101 (0 : Int32) (0 : Int32) (0 : Int32)) (own_Re c101 (0 : Int32) (0 : Int32) (0 : Int32)) iwx191 (own_Ric c101 (0 : Int32) (0 : Int32) (0 : Int32) (0 : Int32)) (own_rlen c101 (0 : Int32) (0 : Int32) (0 : Int32)) (0 + 2) T191.heap n0 z209 f205 f206 H2 f207 R191_1 R191_2 R191_3 R191_4 R191_5 R191_6 R191_7 R191_8 R191_9 R191_10 R191_11 R191_12 R191_13 R191_14 R191_15 g177 R191_16 R191_17 R191_18 R191_19 R191_20 R191_21 R191_22 (by first | assumption | decide) R103_1 R191_23) hZ (hw _ (List.mem_of_getElem? (i := 54) rfl)) (hw _ (List.mem_of_getElem? (i := 10) rfl)) (by decide) (by decide) hEL Hc191) q208a q208c (g := (mkF m 224 #[.val (.int p1), .val (.int p2), .val (.int p3), .val (.int p4), .val (.int (p1 &&& (3 : Int32))), .val (.int c101), .val (.int c103), .val (.int c106), .val (.int (own_10 c101)), .val (.int (own_l9 c101 c103 (own_10 c101))), .val (.int (own_l10 c101 c103 (own_10 c101) (own_l9 c101 c103 (own_10 c101)))), .val (.int (own_l11 c106 (own_l10 c101 c103 (own_10 c101) (own_l9 c101 c103 (own_10 c101))))), .val (.ref b168), .val (.int (1 : Int32))] [(.int c103), (.ref b168)])) rfl (by rw [hml]; rfl) (Steps.refl _) (argsL := [(.int c103)]) (rest := []) (lenOf pd_16 rfl) rfl (by show 2 * 0 + _ ≤ _; exact Nat.le_of_eq rfl) (hb hby at_224) (fun _ _ => ⟨rfl, e193, (by decide : 10 + 3 ≤ _), (by decide : 109 + 39 ≤ _)⟩)
      dsimp only [Pt.U, Pt.locs, Pt.cells, Pt.slots] at X208 l208 y208 z208 st208 hQ208 hS208' hgr208 Cq208
      subst l208 y208 z208
      obtain ⟨X208, hS208, hZ, hown⟩ := rebS hS191 (by rw [e193]; exact (Nat.le_refl _)) X208 hS208' hgr208 hZ hown
      have Cr208 := Cr191.trans Cq208
      have Hc208 := Cq208.1
      have f210 : Exa Z T191.heap cl178 "com/example/rouse/rouse/shell/CommandLine" := (R178_11.keep K191)
      have Sf208_0 := Cq208.safe f210.lt Sf191_0
      obtain ⟨rv208, iwx208, cly208, wx208, cx208, nx208, cby208, wby208, cky208, wky208, cvy208, wvy208, rfl, Nq208, K208, R208_1, R208_2, R208_3, R208_4, R208_5, R208_6, R208_7, R208_8, R208_9, R208_10, R208_11, R208_12, R208_13, R208_14, R208_15, R208_16, R208_17, R208_18, R208_19, R208_20, R208_21, R208_22, R208_23, R208_24⟩ := hQ208
      have N208 := Fr.app N193 Nq208
      have pre211 : ∀ t, Steps p.tables e below (T208.setTop (mkF m 228 #[.val (.int p1), .val (.int p2), .val (.int p3), .val (.int p4), .val (.int (p1 &&& (3 : Int32))), .val (.int c101), .val (.int c103), .val (.int c106), .val (.int (own_10 c101)), .val (.int (own_l9 c101 c103 (own_10 c101))), .val (.int (own_l10 c101 c103 (own_10 c101) (own_l9 c101 c103 (own_10 c101)))), .val (.int (own_l11 c106 (own_l10 c101 c103 (own_10 c101) (own_l9 c101 c103 (own_10 c101))))), .val (.ref b168), .val (.int (1 : Int32))] [])) t → Steps p.tables e below (s₁.setTop (entryFrame m #[(.int p1), (.int p2), (.int p3), (.int p4)] maxLocals)) t := fun t kt => by
        refine pre203 t ?_
        show Steps p.tables e below (T193.setTop (mkF m 217 #[.val (.int p1), .val (.int p2), .val (.int p3), .val (.int p4), .val (.int (p1 &&& (3 : Int32))), .val (.int c101), .val (.int c103), .val (.int c106), .val (.int (own_10 c101)), .val (.int (own_l9 c101 c103 (own_10 c101))), .val (.int (own_l10 c101 c103 (own_10 c101) (own_l9 c101 c103 (own_10 c101)))), .val (.int (own_l11 c106 (own_l10 c101 c103 (own_10 c101) (own_l9 c101 c103 (own_10 c101))))), .val (.ref b168), .val (.int (1 : Int32))] [(.int (2 : Int32)), (.int (p1 &&& (3 : Int32)))])) _
        refine XS.icmpNo X193.here hx rfl (hb hby at_217) rfl (flt (hc217_204 : ¬ ((p1 &&& (3 : Int32)) < (2 : Int32)))).1 ?_
        show Steps p.tables e below (T193.setTop (mkF m 220 #[.val (.int p1), .val (.int p2), .val (.int p3), .val (.int p4), .val (.int (p1 &&& (3 : Int32))), .val (.int c101), .val (.int c103), .val (.int c106), .val (.int (own_10 c101)), .val (.int (own_l9 c101 c103 (own_10 c101))), .val (.int (own_l10 c101 c103 (own_10 c101) (own_l9 c101 c103 (own_10 c101)))), .val (.int (own_l11 c106 (own_l10 c101 c103 (own_10 c101) (own_l9 c101 c103 (own_10 c101))))), .val (.ref b168), .val (.int (1 : Int32))] [])) _
        refine XS.aload X193.here hx rfl (hb hby at_220) rfl rfl ?_
        show Steps p.tables e below (T193.setTop (mkF m 222 #[.val (.int p1), .val (.int p2), .val (.int p3), .val (.int p4), .val (.int (p1 &&& (3 : Int32))), .val (.int c101), .val (.int c103), .val (.int c106), .val (.int (own_10 c101)), .val (.int (own_l9 c101 c103 (own_10 c101))), .val (.int (own_l10 c101 c103 (own_10 c101) (own_l9 c101 c103 (own_10 c101)))), .val (.int (own_l11 c106 (own_l10 c101 c103 (own_10 c101) (own_l9 c101 c103 (own_10 c101))))), .val (.ref b168), .val (.int (1 : Int32))] [(.ref b168)])) _
        refine XS.iload X193.here hx rfl (hb hby at_222) rfl ?_
        show Steps p.tables e below (T193.setTop (mkF m 224 #[.val (.int p1), .val (.int p2), .val (.int p3), .val (.int p4), .val (.int (p1 &&& (3 : Int32))), .val (.int c101), .val (.int c103), .val (.int c106), .val (.int (own_10 c101)), .val (.int (own_l9 c101 c103 (own_10 c101))), .val (.int (own_l10 c101 c103 (own_10 c101) (own_l9 c101 c103 (own_10 c101)))), .val (.int (own_l11 c106 (own_l10 c101 c103 (own_10 c101) (own_l9 c101 c103 (own_10 c101))))), .val (.ref b168), .val (.int (1 : Int32))] [(.int c103), (.ref b168)])) _
        refine st208.trans ?_
        show Steps p.tables e below (T208.setTop (mkF m 227 #[.val (.int p1), .val (.int p2), .val (.int p3), .val (.int p4), .val (.int (p1 &&& (3 : Int32))), .val (.int c101), .val (.int c103), .val (.int c106), .val (.int (own_10 c101)), .val (.int (own_l9 c101 c103 (own_10 c101))), .val (.int (own_l10 c101 c103 (own_10 c101) (own_l9 c101 c103 (own_10 c101)))), .val (.int (own_l11 c106 (own_l10 c101 c103 (own_10 c101) (own_l9 c101 c103 (own_10 c101))))), .val (.ref b168), .val (.int (1 : Int32))] [rv208])) _
        refine XS.pop X208.here hx rfl (hb hby at_227) rfl R208_24 ?_
        show Steps p.tables e below (T208.setTop (mkF m 228 #[.val (.int p1), .val (.int p2), .val (.int p3), .val (.int p4), .val (.int (p1 &&& (3 : Int32))), .val (.int c101), .val (.int c103), .val (.int c106), .val (.int (own_10 c101)), .val (.int (own_l9 c101 c103 (own_10 c101))), .val (.int (own_l10 c101 c103 (own_10 c101) (own_l9 c101 c103 (own_10 c101)))), .val (.int (own_l11 c106 (own_l10 c101 c103 (own_10 c101) (own_l9 c101 c103 (own_10 c101))))), .val (.ref b168), .val (.int (1 : Int32))] [])) _
        exact kt
      obtain ⟨T212, L212, X212, N212, e212, pre212⟩ : ∃ (T' : State) (L' : List Loc), Stand p l e room_1 (s.setVm T208.vm) m #[(.int p1), (.int p2), (.int p3), (.int p4)] below meth c T' L' 13 148 ∧ Fr n0 L' ∧ T'.heap = T208.heap ∧ ∀ t, Steps p.tables e below (T'.setTop (mkF m 258 #[.val (.int p1), .val (.int p2), .val (.int p3), .val (.int p4), .val (.int (p1 &&& (3 : Int32))), .val (.int c101), .val (.int c103), .val (.int c106), .val (.int (own_10 c101)), .val (.int (own_l9 c101 c103 (own_10 c101))), .val (.int (own_l10 c101 c103 (own_10 c101) (own_l9 c101 c103 (own_10 c101)))), .val (.int (own_l11 c106 (own_l10 c101 c103 (own_10 c101) (own_l9 c101 c103 (own_10 c101))))), .val (.ref b168), .val (.int (1 : Int32))] [])) t → Steps p.tables e below (s₁.setTop (entryFrame m #[(.int p1), (.int p2), (.int p3), (.int p4)] maxLocals)) t := by
        have z214 : n0 ≤ T208.heap.size := (Nat.le_trans z209 K208.1)
        have f215 : Exa Z T208.heap b168 "com/example/rouse/rouse/shell/ShellWords" := (f207.keep K208)
        obtain ⟨cq213, kq213, q213a, q213b, q213c⟩ := isOf hZ rfl f215
        obtain ⟨_, _, ⟨T213, L213, k213, n213⟩, -, X213, ⟨Lc213, hQ213, l213, y213, z213⟩, st213⟩ := X208.virtualBack hx (y := (⟨"com/example/rouse/rouse/shell/ShellWords", "continues", "()Z"⟩ : MethodName)) (z := (⟨"com/example/rouse/rouse/shell/ShellWords", "continues", "()Z"⟩ : MethodName)) hown (mvT hZ (hw _ (List.mem_of_getElem? (i := 40) rfl))) (mvT hZ (hw _ (List.mem_of_getElem? (i := 41) rfl))) (notFace_of_selects (args := #[]) (mvT hZ (hw _ (List.mem_of_getElem? (i := 43) rfl)))) (mvT hZ (hw _ (List.mem_of_getElem? (i := 43) rfl))) (mvT hZ (hw _ (List.mem_of_getElem? (i := 42) rfl))) (by decide) (backOf (W := 0) (rm7 l Z a0 hw [] b168 (own_rlen c103 (own_Rq c101 (0 : Int32) (0 : Int32) (0 : Int32)) (own_Re c101 (0 : Int32) (0 : Int32) (0 : Int32)) (own_rlen c101 (0 : Int32) (0 : Int32) (0 : Int32))) T208.heap n0 z214 R208_6) hZ (hw _ (List.mem_of_getElem? (i := 44) rfl)) (hw _ (List.mem_of_getElem? (i := 10) rfl)) (by decide) (by decide)) q213a q213c (g := (mkF m 235 #[.val (.int p1), .val (.int p2), .val (.int p3), .val (.int p4), .val (.int (p1 &&& (3 : Int32))), .val (.int c101), .val (.int c103), .val (.int c106), .val (.int (own_10 c101)), .val (.int (own_l9 c101 c103 (own_10 c101))), .val (.int (own_l10 c101 c103 (own_10 c101) (own_l9 c101 c103 (own_10 c101)))), .val (.int (own_l11 c106 (own_l10 c101 c103 (own_10 c101) (own_l9 c101 c103 (own_10 c101))))), .val (.ref b168), .val (.int (1 : Int32))] [(.ref b168)])) rfl (by rw [hml]; rfl) (Steps.refl _) (argsL := []) (rest := []) (lenOf pd_3 rfl) rfl (by show 2 * 0 + _ ≤ _; exact Nat.le_of_eq rfl) (hb hby at_235) (fun _ _ => ⟨rfl, rfl, (by decide : 13 + 0 ≤ _), (by decide : 148 + 0 ≤ _)⟩)
        dsimp only [Pt.U, Pt.locs, Pt.cells, Pt.slots] at X213 l213 y213 z213 st213 hQ213
        subst l213 y213 z213
        obtain ⟨rfl, Nq213, Heq213⟩ := hQ213
        have N213 := Fr.app N208 Nq213
        have pre216 : ∀ t, Steps p.tables e below (T213.setTop (mkF m 240 #[.val (.int p1), .val (.int p2), .val (.int p3), .val (.int p4), .val (.int (p1 &&& (3 : Int32))), .val (.int c101), .val (.int c103), .val (.int c106), .val (.int (own_10 c101)), .val (.int (own_l9 c101 c103 (own_10 c101))), .val (.int (own_l10 c101 c103 (own_10 c101) (own_l9 c101 c103 (own_10 c101)))), .val (.int (own_l11 c106 (own_l10 c101 c103 (own_10 c101) (own_l9 c101 c103 (own_10 c101))))), .val (.ref b168), .val (.int (1 : Int32))] [(.int (own_l9 c101 c103 (own_10 c101))), (.int (own_pos (own_rlen c103 (own_Rq c101 (0 : Int32) (0 : Int32) (0 : Int32)) (own_Re c101 (0 : Int32) (0 : Int32) (0 : Int32)) (own_rlen c101 (0 : Int32) (0 : Int32) (0 : Int32)))))])) t → Steps p.tables e below (s₁.setTop (entryFrame m #[(.int p1), (.int p2), (.int p3), (.int p4)] maxLocals)) t := fun t kt => by
          refine pre211 t ?_
          show Steps p.tables e below (T208.setTop (mkF m 228 #[.val (.int p1), .val (.int p2), .val (.int p3), .val (.int p4), .val (.int (p1 &&& (3 : Int32))), .val (.int c101), .val (.int c103), .val (.int c106), .val (.int (own_10 c101)), .val (.int (own_l9 c101 c103 (own_10 c101))), .val (.int (own_l10 c101 c103 (own_10 c101) (own_l9 c101 c103 (own_10 c101)))), .val (.int (own_l11 c106 (own_l10 c101 c103 (own_10 c101) (own_l9 c101 c103 (own_10 c101))))), .val (.ref b168), .val (.int (1 : Int32))] [])) _
          refine XS.iload X208.here hx rfl (hb hby at_228) rfl ?_
          show Steps p.tables e below (T208.setTop (mkF m 230 #[.val (.int p1), .val (.int p2), .val (.int p3), .val (.int p4), .val (.int (p1 &&& (3 : Int32))), .val (.int c101), .val (.int c103), .val (.int c106), .val (.int (own_10 c101)), .val (.int (own_l9 c101 c103 (own_10 c101))), .val (.int (own_l10 c101 c103 (own_10 c101) (own_l9 c101 c103 (own_10 c101)))), .val (.int (own_l11 c106 (own_l10 c101 c103 (own_10 c101) (own_l9 c101 c103 (own_10 c101))))), .val (.ref b168), .val (.int (1 : Int32))] [(.int (1 : Int32))])) _
          refine XS.ifNo X208.here hx rfl (hb hby at_230) rfl ((if0 _ _).trans (feq (by decide : ¬ ((1 : Int32) = (0 : Int32)))).1) ?_
          show Steps p.tables e below (T208.setTop (mkF m 233 #[.val (.int p1), .val (.int p2), .val (.int p3), .val (.int p4), .val (.int (p1 &&& (3 : Int32))), .val (.int c101), .val (.int c103), .val (.int c106), .val (.int (own_10 c101)), .val (.int (own_l9 c101 c103 (own_10 c101))), .val (.int (own_l10 c101 c103 (own_10 c101) (own_l9 c101 c103 (own_10 c101)))), .val (.int (own_l11 c106 (own_l10 c101 c103 (own_10 c101) (own_l9 c101 c103 (own_10 c101))))), .val (.ref b168), .val (.int (1 : Int32))] [])) _
          refine XS.aload X208.here hx rfl (hb hby at_233) rfl rfl ?_
          show Steps p.tables e below (T208.setTop (mkF m 235 #[.val (.int p1), .val (.int p2), .val (.int p3), .val (.int p4), .val (.int (p1 &&& (3 : Int32))), .val (.int c101), .val (.int c103), .val (.int c106), .val (.int (own_10 c101)), .val (.int (own_l9 c101 c103 (own_10 c101))), .val (.int (own_l10 c101 c103 (own_10 c101) (own_l9 c101 c103 (own_10 c101)))), .val (.int (own_l11 c106 (own_l10 c101 c103 (own_10 c101) (own_l9 c101 c103 (own_10 c101))))), .val (.ref b168), .val (.int (1 : Int32))] [(.ref b168)])) _
          refine st213.trans ?_
          show Steps p.tables e below (T213.setTop (mkF m 238 #[.val (.int p1), .val (.int p2), .val (.int p3), .val (.int p4), .val (.int (p1 &&& (3 : Int32))), .val (.int c101), .val (.int c103), .val (.int c106), .val (.int (own_10 c101)), .val (.int (own_l9 c101 c103 (own_10 c101))), .val (.int (own_l10 c101 c103 (own_10 c101) (own_l9 c101 c103 (own_10 c101)))), .val (.int (own_l11 c106 (own_l10 c101 c103 (own_10 c101) (own_l9 c101 c103 (own_10 c101))))), .val (.ref b168), .val (.int (1 : Int32))] [(.int (own_pos (own_rlen c103 (own_Rq c101 (0 : Int32) (0 : Int32) (0 : Int32)) (own_Re c101 (0 : Int32) (0 : Int32) (0 : Int32)) (own_rlen c101 (0 : Int32) (0 : Int32) (0 : Int32)))))])) _
          refine XS.iload X213.here hx rfl (hb hby at_238) rfl ?_
          show Steps p.tables e below (T213.setTop (mkF m 240 #[.val (.int p1), .val (.int p2), .val (.int p3), .val (.int p4), .val (.int (p1 &&& (3 : Int32))), .val (.int c101), .val (.int c103), .val (.int c106), .val (.int (own_10 c101)), .val (.int (own_l9 c101 c103 (own_10 c101))), .val (.int (own_l10 c101 c103 (own_10 c101) (own_l9 c101 c103 (own_10 c101)))), .val (.int (own_l11 c106 (own_l10 c101 c103 (own_10 c101) (own_l9 c101 c103 (own_10 c101))))), .val (.ref b168), .val (.int (1 : Int32))] [(.int (own_l9 c101 c103 (own_10 c101))), (.int (own_pos (own_rlen c103 (own_Rq c101 (0 : Int32) (0 : Int32) (0 : Int32)) (own_Re c101 (0 : Int32) (0 : Int32) (0 : Int32)) (own_rlen c101 (0 : Int32) (0 : Int32) (0 : Int32)))))])) _
          exact kt
        by_cases hc240_217 : (own_l9 c101 c103 (own_10 c101)) = (0 : Int32)
        · skip
          have pre218 : ∀ t, Steps p.tables e below (T213.setTop (mkF m 258 #[.val (.int p1), .val (.int p2), .val (.int p3), .val (.int p4), .val (.int (p1 &&& (3 : Int32))), .val (.int c101), .val (.int c103), .val (.int c106), .val (.int (own_10 c101)), .val (.int (own_l9 c101 c103 (own_10 c101))), .val (.int (own_l10 c101 c103 (own_10 c101) (own_l9 c101 c103 (own_10 c101)))), .val (.int (own_l11 c106 (own_l10 c101 c103 (own_10 c101) (own_l9 c101 c103 (own_10 c101))))), .val (.ref b168), .val (.int (1 : Int32))] [])) t → Steps p.tables e below (s₁.setTop (entryFrame m #[(.int p1), (.int p2), (.int p3), (.int p4)] maxLocals)) t := fun t kt => by
            refine pre216 t ?_
            show Steps p.tables e below (T213.setTop (mkF m 240 #[.val (.int p1), .val (.int p2), .val (.int p3), .val (.int p4), .val (.int (p1 &&& (3 : Int32))), .val (.int c101), .val (.int c103), .val (.int c106), .val (.int (own_10 c101)), .val (.int (own_l9 c101 c103 (own_10 c101))), .val (.int (own_l10 c101 c103 (own_10 c101) (own_l9 c101 c103 (own_10 c101)))), .val (.int (own_l11 c106 (own_l10 c101 c103 (own_10 c101) (own_l9 c101 c103 (own_10 c101))))), .val (.ref b168), .val (.int (1 : Int32))] [(.int (own_l9 c101 c103 (own_10 c101))), (.int (own_pos (own_rlen c103 (own_Rq c101 (0 : Int32) (0 : Int32) (0 : Int32)) (own_Re c101 (0 : Int32) (0 : Int32) (0 : Int32)) (own_rlen c101 (0 : Int32) (0 : Int32) (0 : Int32)))))])) _
            refine XS.ifNo X213.here hx rfl (hb hby at_240) rfl ((if0 _ _).trans (teq (hc240_217 : (own_l9 c101 c103 (own_10 c101)) = (0 : Int32))).2) ?_
            show Steps p.tables e below (T213.setTop (mkF m 243 #[.val (.int p1), .val (.int p2), .val (.int p3), .val (.int p4), .val (.int (p1 &&& (3 : Int32))), .val (.int c101), .val (.int c103), .val (.int c106), .val (.int (own_10 c101)), .val (.int (own_l9 c101 c103 (own_10 c101))), .val (.int (own_l10 c101 c103 (own_10 c101) (own_l9 c101 c103 (own_10 c101)))), .val (.int (own_l11 c106 (own_l10 c101 c103 (own_10 c101) (own_l9 c101 c103 (own_10 c101))))), .val (.ref b168), .val (.int (1 : Int32))] [(.int (own_pos (own_rlen c103 (own_Rq c101 (0 : Int32) (0 : Int32) (0 : Int32)) (own_Re c101 (0 : Int32) (0 : Int32) (0 : Int32)) (own_rlen c101 (0 : Int32) (0 : Int32) (0 : Int32)))))])) _
            refine XS.iconst X213.here hx rfl (hb hby at_243) ?_
            show Steps p.tables e below (T213.setTop (mkF m 244 #[.val (.int p1), .val (.int p2), .val (.int p3), .val (.int p4), .val (.int (p1 &&& (3 : Int32))), .val (.int c101), .val (.int c103), .val (.int c106), .val (.int (own_10 c101)), .val (.int (own_l9 c101 c103 (own_10 c101))), .val (.int (own_l10 c101 c103 (own_10 c101) (own_l9 c101 c103 (own_10 c101)))), .val (.int (own_l11 c106 (own_l10 c101 c103 (own_10 c101) (own_l9 c101 c103 (own_10 c101))))), .val (.ref b168), .val (.int (1 : Int32))] [(.int (1 : Int32)), (.int (own_pos (own_rlen c103 (own_Rq c101 (0 : Int32) (0 : Int32) (0 : Int32)) (own_Re c101 (0 : Int32) (0 : Int32) (0 : Int32)) (own_rlen c101 (0 : Int32) (0 : Int32) (0 : Int32)))))])) _
            refine XS.goto X213.here hx rfl (pc0 := 244) (pc' := 248) rfl (hb hby at_244) (by decide) (by decide) ?_
            show Steps p.tables e below (T213.setTop (mkF m 248 #[.val (.int p1), .val (.int p2), .val (.int p3), .val (.int p4), .val (.int (p1 &&& (3 : Int32))), .val (.int c101), .val (.int c103), .val (.int c106), .val (.int (own_10 c101)), .val (.int (own_l9 c101 c103 (own_10 c101))), .val (.int (own_l10 c101 c103 (own_10 c101) (own_l9 c101 c103 (own_10 c101)))), .val (.int (own_l11 c106 (own_l10 c101 c103 (own_10 c101) (own_l9 c101 c103 (own_10 c101))))), .val (.ref b168), .val (.int (1 : Int32))] [(.int (1 : Int32)), (.int (own_pos (own_rlen c103 (own_Rq c101 (0 : Int32) (0 : Int32) (0 : Int32)) (own_Re c101 (0 : Int32) (0 : Int32) (0 : Int32)) (own_rlen c101 (0 : Int32) (0 : Int32) (0 : Int32)))))])) _
            refine XS.icmpNo X213.here hx rfl (hb hby at_248) rfl (teq (own_not1 (own_law2 _ _) hc240_217 : (own_pos (own_rlen c103 (own_Rq c101 (0 : Int32) (0 : Int32) (0 : Int32)) (own_Re c101 (0 : Int32) (0 : Int32) (0 : Int32)) (own_rlen c101 (0 : Int32) (0 : Int32) (0 : Int32)))) = (1 : Int32))).2 ?_
            show Steps p.tables e below (T213.setTop (mkF m 251 #[.val (.int p1), .val (.int p2), .val (.int p3), .val (.int p4), .val (.int (p1 &&& (3 : Int32))), .val (.int c101), .val (.int c103), .val (.int c106), .val (.int (own_10 c101)), .val (.int (own_l9 c101 c103 (own_10 c101))), .val (.int (own_l10 c101 c103 (own_10 c101) (own_l9 c101 c103 (own_10 c101)))), .val (.int (own_l11 c106 (own_l10 c101 c103 (own_10 c101) (own_l9 c101 c103 (own_10 c101))))), .val (.ref b168), .val (.int (1 : Int32))] [])) _
            refine XS.iconst X213.here hx rfl (hb hby at_251) ?_
            show Steps p.tables e below (T213.setTop (mkF m 252 #[.val (.int p1), .val (.int p2), .val (.int p3), .val (.int p4), .val (.int (p1 &&& (3 : Int32))), .val (.int c101), .val (.int c103), .val (.int c106), .val (.int (own_10 c101)), .val (.int (own_l9 c101 c103 (own_10 c101))), .val (.int (own_l10 c101 c103 (own_10 c101) (own_l9 c101 c103 (own_10 c101)))), .val (.int (own_l11 c106 (own_l10 c101 c103 (own_10 c101) (own_l9 c101 c103 (own_10 c101))))), .val (.ref b168), .val (.int (1 : Int32))] [(.int (1 : Int32))])) _
            refine XS.goto X213.here hx rfl (pc0 := 252) (pc' := 256) rfl (hb hby at_252) (by decide) (by decide) ?_
            show Steps p.tables e below (T213.setTop (mkF m 256 #[.val (.int p1), .val (.int p2), .val (.int p3), .val (.int p4), .val (.int (p1 &&& (3 : Int32))), .val (.int c101), .val (.int c103), .val (.int c106), .val (.int (own_10 c101)), .val (.int (own_l9 c101 c103 (own_10 c101))), .val (.int (own_l10 c101 c103 (own_10 c101) (own_l9 c101 c103 (own_10 c101)))), .val (.int (own_l11 c106 (own_l10 c101 c103 (own_10 c101) (own_l9 c101 c103 (own_10 c101))))), .val (.ref b168), .val (.int (1 : Int32))] [(.int (1 : Int32))])) _
            refine XS.istore X213.here hx rfl (hb hby at_256) rfl (l' := #[.val (.int p1), .val (.int p2), .val (.int p3), .val (.int p4), .val (.int (p1 &&& (3 : Int32))), .val (.int c101), .val (.int c103), .val (.int c106), .val (.int (own_10 c101)), .val (.int (own_l9 c101 c103 (own_10 c101))), .val (.int (own_l10 c101 c103 (own_10 c101) (own_l9 c101 c103 (own_10 c101)))), .val (.int (own_l11 c106 (own_l10 c101 c103 (own_10 c101) (own_l9 c101 c103 (own_10 c101))))), .val (.ref b168), .val (.int (1 : Int32))]) rfl ?_
            show Steps p.tables e below (T213.setTop (mkF m 258 #[.val (.int p1), .val (.int p2), .val (.int p3), .val (.int p4), .val (.int (p1 &&& (3 : Int32))), .val (.int c101), .val (.int c103), .val (.int c106), .val (.int (own_10 c101)), .val (.int (own_l9 c101 c103 (own_10 c101))), .val (.int (own_l10 c101 c103 (own_10 c101) (own_l9 c101 c103 (own_10 c101)))), .val (.int (own_l11 c106 (own_l10 c101 c103 (own_10 c101) (own_l9 c101 c103 (own_10 c101))))), .val (.ref b168), .val (.int (1 : Int32))] [])) _
            exact kt
          exact ⟨_, _, X213, N213, Heq213, fun t kt => pre218 t kt⟩
        · skip
          have pre220 : ∀ t, Steps p.tables e below (T213.setTop (mkF m 258 #[.val (.int p1), .val (.int p2), .val (.int p3), .val (.int p4), .val (.int (p1 &&& (3 : Int32))), .val (.int c101), .val (.int c103), .val (.int c106), .val (.int (own_10 c101)), .val (.int (own_l9 c101 c103 (own_10 c101))), .val (.int (own_l10 c101 c103 (own_10 c101) (own_l9 c101 c103 (own_10 c101)))), .val (.int (own_l11 c106 (own_l10 c101 c103 (own_10 c101) (own_l9 c101 c103 (own_10 c101))))), .val (.ref b168), .val (.int (1 : Int32))] [])) t → Steps p.tables e below (s₁.setTop (entryFrame m #[(.int p1), (.int p2), (.int p3), (.int p4)] maxLocals)) t := fun t kt => by
            refine pre216 t ?_
            show Steps p.tables e below (T213.setTop (mkF m 240 #[.val (.int p1), .val (.int p2), .val (.int p3), .val (.int p4), .val (.int (p1 &&& (3 : Int32))), .val (.int c101), .val (.int c103), .val (.int c106), .val (.int (own_10 c101)), .val (.int (own_l9 c101 c103 (own_10 c101))), .val (.int (own_l10 c101 c103 (own_10 c101) (own_l9 c101 c103 (own_10 c101)))), .val (.int (own_l11 c106 (own_l10 c101 c103 (own_10 c101) (own_l9 c101 c103 (own_10 c101))))), .val (.ref b168), .val (.int (1 : Int32))] [(.int (own_l9 c101 c103 (own_10 c101))), (.int (own_pos (own_rlen c103 (own_Rq c101 (0 : Int32) (0 : Int32) (0 : Int32)) (own_Re c101 (0 : Int32) (0 : Int32) (0 : Int32)) (own_rlen c101 (0 : Int32) (0 : Int32) (0 : Int32)))))])) _
            refine XS.ifYes X213.here hx rfl (pc0 := 240) (pc' := 247) rfl (hb hby at_240) rfl ((if0 _ _).trans (feq (hc240_217 : ¬ ((own_l9 c101 c103 (own_10 c101)) = (0 : Int32)))).2) (by decide) (by decide) ?_
            show Steps p.tables e below (T213.setTop (mkF m 247 #[.val (.int p1), .val (.int p2), .val (.int p3), .val (.int p4), .val (.int (p1 &&& (3 : Int32))), .val (.int c101), .val (.int c103), .val (.int c106), .val (.int (own_10 c101)), .val (.int (own_l9 c101 c103 (own_10 c101))), .val (.int (own_l10 c101 c103 (own_10 c101) (own_l9 c101 c103 (own_10 c101)))), .val (.int (own_l11 c106 (own_l10 c101 c103 (own_10 c101) (own_l9 c101 c103 (own_10 c101))))), .val (.ref b168), .val (.int (1 : Int32))] [(.int (own_pos (own_rlen c103 (own_Rq c101 (0 : Int32) (0 : Int32) (0 : Int32)) (own_Re c101 (0 : Int32) (0 : Int32) (0 : Int32)) (own_rlen c101 (0 : Int32) (0 : Int32) (0 : Int32)))))])) _
            refine XS.iconst X213.here hx rfl (hb hby at_247) ?_
            show Steps p.tables e below (T213.setTop (mkF m 248 #[.val (.int p1), .val (.int p2), .val (.int p3), .val (.int p4), .val (.int (p1 &&& (3 : Int32))), .val (.int c101), .val (.int c103), .val (.int c106), .val (.int (own_10 c101)), .val (.int (own_l9 c101 c103 (own_10 c101))), .val (.int (own_l10 c101 c103 (own_10 c101) (own_l9 c101 c103 (own_10 c101)))), .val (.int (own_l11 c106 (own_l10 c101 c103 (own_10 c101) (own_l9 c101 c103 (own_10 c101))))), .val (.ref b168), .val (.int (1 : Int32))] [(.int (0 : Int32)), (.int (own_pos (own_rlen c103 (own_Rq c101 (0 : Int32) (0 : Int32) (0 : Int32)) (own_Re c101 (0 : Int32) (0 : Int32) (0 : Int32)) (own_rlen c101 (0 : Int32) (0 : Int32) (0 : Int32)))))])) _
            refine XS.icmpNo X213.here hx rfl (hb hby at_248) rfl (teq (own_not0 (own_law2 _ _) hc240_217 : (own_pos (own_rlen c103 (own_Rq c101 (0 : Int32) (0 : Int32) (0 : Int32)) (own_Re c101 (0 : Int32) (0 : Int32) (0 : Int32)) (own_rlen c101 (0 : Int32) (0 : Int32) (0 : Int32)))) = (0 : Int32))).2 ?_
            show Steps p.tables e below (T213.setTop (mkF m 251 #[.val (.int p1), .val (.int p2), .val (.int p3), .val (.int p4), .val (.int (p1 &&& (3 : Int32))), .val (.int c101), .val (.int c103), .val (.int c106), .val (.int (own_10 c101)), .val (.int (own_l9 c101 c103 (own_10 c101))), .val (.int (own_l10 c101 c103 (own_10 c101) (own_l9 c101 c103 (own_10 c101)))), .val (.int (own_l11 c106 (own_l10 c101 c103 (own_10 c101) (own_l9 c101 c103 (own_10 c101))))), .val (.ref b168), .val (.int (1 : Int32))] [])) _
            refine XS.iconst X213.here hx rfl (hb hby at_251) ?_
            show Steps p.tables e below (T213.setTop (mkF m 252 #[.val (.int p1), .val (.int p2), .val (.int p3), .val (.int p4), .val (.int (p1 &&& (3 : Int32))), .val (.int c101), .val (.int c103), .val (.int c106), .val (.int (own_10 c101)), .val (.int (own_l9 c101 c103 (own_10 c101))), .val (.int (own_l10 c101 c103 (own_10 c101) (own_l9 c101 c103 (own_10 c101)))), .val (.int (own_l11 c106 (own_l10 c101 c103 (own_10 c101) (own_l9 c101 c103 (own_10 c101))))), .val (.ref b168), .val (.int (1 : Int32))] [(.int (1 : Int32))])) _
            refine XS.goto X213.here hx rfl (pc0 := 252) (pc' := 256) rfl (hb hby at_252) (by decide) (by decide) ?_
            show Steps p.tables e below (T213.setTop (mkF m 256 #[.val (.int p1), .val (.int p2), .val (.int p3), .val (.int p4), .val (.int (p1 &&& (3 : Int32))), .val (.int c101), .val (.int c103), .val (.int c106), .val (.int (own_10 c101)), .val (.int (own_l9 c101 c103 (own_10 c101))), .val (.int (own_l10 c101 c103 (own_10 c101) (own_l9 c101 c103 (own_10 c101)))), .val (.int (own_l11 c106 (own_l10 c101 c103 (own_10 c101) (own_l9 c101 c103 (own_10 c101))))), .val (.ref b168), .val (.int (1 : Int32))] [(.int (1 : Int32))])) _
            refine XS.istore X213.here hx rfl (hb hby at_256) rfl (l' := #[.val (.int p1), .val (.int p2), .val (.int p3), .val (.int p4), .val (.int (p1 &&& (3 : Int32))), .val (.int c101), .val (.int c103), .val (.int c106), .val (.int (own_10 c101)), .val (.int (own_l9 c101 c103 (own_10 c101))), .val (.int (own_l10 c101 c103 (own_10 c101) (own_l9 c101 c103 (own_10 c101)))), .val (.int (own_l11 c106 (own_l10 c101 c103 (own_10 c101) (own_l9 c101 c103 (own_10 c101))))), .val (.ref b168), .val (.int (1 : Int32))]) rfl ?_
            show Steps p.tables e below (T213.setTop (mkF m 258 #[.val (.int p1), .val (.int p2), .val (.int p3), .val (.int p4), .val (.int (p1 &&& (3 : Int32))), .val (.int c101), .val (.int c103), .val (.int c106), .val (.int (own_10 c101)), .val (.int (own_l9 c101 c103 (own_10 c101))), .val (.int (own_l10 c101 c103 (own_10 c101) (own_l9 c101 c103 (own_10 c101)))), .val (.int (own_l11 c106 (own_l10 c101 c103 (own_10 c101) (own_l9 c101 c103 (own_10 c101))))), .val (.ref b168), .val (.int (1 : Int32))] [])) _
            exact kt
          exact ⟨_, _, X213, N213, Heq213, fun t kt => pre220 t kt⟩
      have pre222 : ∀ t, Steps p.tables e below (T212.setTop (mkF m 261 #[.val (.int p1), .val (.int p2), .val (.int p3), .val (.int p4), .val (.int (p1 &&& (3 : Int32))), .val (.int c101), .val (.int c103), .val (.int c106), .val (.int (own_10 c101)), .val (.int (own_l9 c101 c103 (own_10 c101))), .val (.int (own_l10 c101 c103 (own_10 c101) (own_l9 c101 c103 (own_10 c101)))), .val (.int (own_l11 c106 (own_l10 c101 c103 (own_10 c101) (own_l9 c101 c103 (own_10 c101))))), .val (.ref b168), .val (.int (1 : Int32))] [(.int (3 : Int32)), (.int (p1 &&& (3 : Int32)))])) t → Steps p.tables e below (s₁.setTop (entryFrame m #[(.int p1), (.int p2), (.int p3), (.int p4)] maxLocals)) t := fun t kt => by
        refine pre212 t ?_
        show Steps p.tables e below (T212.setTop (mkF m 258 #[.val (.int p1), .val (.int p2), .val (.int p3), .val (.int p4), .val (.int (p1 &&& (3 : Int32))), .val (.int c101), .val (.int c103), .val (.int c106), .val (.int (own_10 c101)), .val (.int (own_l9 c101 c103 (own_10 c101))), .val (.int (own_l10 c101 c103 (own_10 c101) (own_l9 c101 c103 (own_10 c101)))), .val (.int (own_l11 c106 (own_l10 c101 c103 (own_10 c101) (own_l9 c101 c103 (own_10 c101))))), .val (.ref b168), .val (.int (1 : Int32))] [])) _
        refine XS.iload X212.here hx rfl (hb hby at_258) rfl ?_
        show Steps p.tables e below (T212.setTop (mkF m 260 #[.val (.int p1), .val (.int p2), .val (.int p3), .val (.int p4), .val (.int (p1 &&& (3 : Int32))), .val (.int c101), .val (.int c103), .val (.int c106), .val (.int (own_10 c101)), .val (.int (own_l9 c101 c103 (own_10 c101))), .val (.int (own_l10 c101 c103 (own_10 c101) (own_l9 c101 c103 (own_10 c101)))), .val (.int (own_l11 c106 (own_l10 c101 c103 (own_10 c101) (own_l9 c101 c103 (own_10 c101))))), .val (.ref b168), .val (.int (1 : Int32))] [(.int (p1 &&& (3 : Int32)))])) _
        refine XS.iconst X212.here hx rfl (hb hby at_260) ?_
        show Steps p.tables e below (T212.setTop (mkF m 261 #[.val (.int p1), .val (.int p2), .val (.int p3), .val (.int p4), .val (.int (p1 &&& (3 : Int32))), .val (.int c101), .val (.int c103), .val (.int c106), .val (.int (own_10 c101)), .val (.int (own_l9 c101 c103 (own_10 c101))), .val (.int (own_l10 c101 c103 (own_10 c101) (own_l9 c101 c103 (own_10 c101)))), .val (.int (own_l11 c106 (own_l10 c101 c103 (own_10 c101) (own_l9 c101 c103 (own_10 c101))))), .val (.ref b168), .val (.int (1 : Int32))] [(.int (3 : Int32)), (.int (p1 &&& (3 : Int32)))])) _
        exact kt
      by_cases hc261_223 : (p1 &&& (3 : Int32)) < (3 : Int32)
      · skip
        obtain ⟨fs, hr, hrun, hended, hEnd⟩ := X212.leaveW hS208 (by rw [e212]; exact (Nat.le_refl _)) (v := some (.int (1 : Int32))) (fun h => by rw [Bd.returns] at h; cases h)
        refine ⟨_, _, pre222 _ ?_, hrun, hended, _, _, rfl, ?_, (show CHr Z own_EL s.vm s.heap T212.vm T212.heap from by rw [hh, e212]; exact Cr208.trans (CHv.at X212 hZ hEL Hc208)), hEnd.1, hEnd.2.1, hEnd.2.2.1, hEnd.2.2.2.mono (by decide) (by decide)⟩
        · skip
          show Steps p.tables e below (T212.setTop (mkF m 261 #[.val (.int p1), .val (.int p2), .val (.int p3), .val (.int p4), .val (.int (p1 &&& (3 : Int32))), .val (.int c101), .val (.int c103), .val (.int c106), .val (.int (own_10 c101)), .val (.int (own_l9 c101 c103 (own_10 c101))), .val (.int (own_l10 c101 c103 (own_10 c101) (own_l9 c101 c103 (own_10 c101)))), .val (.int (own_l11 c106 (own_l10 c101 c103 (own_10 c101) (own_l9 c101 c103 (own_10 c101))))), .val (.ref b168), .val (.int (1 : Int32))] [(.int (3 : Int32)), (.int (p1 &&& (3 : Int32)))])) _
          refine XS.icmpYes X212.here hx rfl (pc0 := 261) (pc' := 302) rfl (hb hby at_261) rfl (tlt (hc261_223 : (p1 &&& (3 : Int32)) < (3 : Int32))).1 (by decide) (by decide) ?_
          show Steps p.tables e below (T212.setTop (mkF m 302 #[.val (.int p1), .val (.int p2), .val (.int p3), .val (.int p4), .val (.int (p1 &&& (3 : Int32))), .val (.int c101), .val (.int c103), .val (.int c106), .val (.int (own_10 c101)), .val (.int (own_l9 c101 c103 (own_10 c101))), .val (.int (own_l10 c101 c103 (own_10 c101) (own_l9 c101 c103 (own_10 c101)))), .val (.int (own_l11 c106 (own_l10 c101 c103 (own_10 c101) (own_l9 c101 c103 (own_10 c101))))), .val (.ref b168), .val (.int (1 : Int32))] [])) _
          refine XS.iload X212.here hx rfl (hb hby at_302) rfl ?_
          show Steps p.tables e below (T212.setTop (mkF m 304 #[.val (.int p1), .val (.int p2), .val (.int p3), .val (.int p4), .val (.int (p1 &&& (3 : Int32))), .val (.int c101), .val (.int c103), .val (.int c106), .val (.int (own_10 c101)), .val (.int (own_l9 c101 c103 (own_10 c101))), .val (.int (own_l10 c101 c103 (own_10 c101) (own_l9 c101 c103 (own_10 c101)))), .val (.int (own_l11 c106 (own_l10 c101 c103 (own_10 c101) (own_l9 c101 c103 (own_10 c101))))), .val (.ref b168), .val (.int (1 : Int32))] [(.int (1 : Int32))])) _
          exact retN X212 hx (t := .boolean) Bd.returns (by simp) (hb hby at_304) hr
        · show Q0 Z p1 p2 p3 p4 em cz h0 n0 _ T212.heap _
          rw [e212]
          exact ⟨rfl, N212⟩
      · skip
        have f224 : Sta Z T208.heap "java/util/ImmutableCollections" "EMPTY_LIST" "Ljava/util/ImmutableCollections$ListN;" (.ref em) := (own_sta_keep f205 K208 (own_plS (own_pl_exa f207) (own_plS (own_pl_exa R191_8) (own_plS (own_pl_arv R191_14) (own_plS (own_pl_arv R191_15) own_pl0)))))
        have f225 : Sta Z T208.heap "java/lang/String" "COMPACT_STRINGS" "Z" (.int cz) := (own_sta_keep f206 K208 (own_plS (own_pl_exa f207) (own_plS (own_pl_exa R191_8) (own_plS (own_pl_arv R191_14) (own_plS (own_pl_arv R191_15) own_pl0)))))
        have f226 : Exa Z T208.heap b168 "com/example/rouse/rouse/shell/ShellWords" := (f207.keep K208)
        have z228 : n0 ≤ T208.heap.size := (Nat.le_trans z209 K208.1)
        obtain ⟨cq227, kq227, q227a, q227b, q227c⟩ := isOf hZ e212 f226
        obtain ⟨_, _, ⟨T227, L227, k227, n227⟩, -, X227, hS227', hgr227, ⟨Lc227, hQ227, l227, y227, z227, Cq227⟩, st227⟩ := X212.virtualBackS hx (y := (⟨"com/example/rouse/rouse/shell/ShellWords", "read", "(C)Ljava/lang/Iterable;"⟩ : MethodName)) (z := (⟨"com/example/rouse/rouse/shell/ShellWords", "read", "(C)Ljava/lang/Iterable;"⟩ : MethodName)) hown (mvT hZ (hw _ (List.mem_of_getElem? (i := 50) rfl))) (mvT hZ (hw _ (List.mem_of_getElem? (i := 51) rfl))) (notFace_of_selects (args := #[]) (mvT hZ (hw _ (List.mem_of_getElem? (i := 53) rfl)))) (mvT hZ (hw _ (List.mem_of_getElem? (i := 53) rfl))) (mvT hZ (hw _ (List.mem_of_getElem? (i := 52) rfl))) (by decide) (backOfSH (W := 0) (rm9 l Z a0 hw [] hEL b168 c106 em cz cly208 wx208 cx208 nx208 cby208 cky208 cvy208 wby208 wky208 wvy208 (own_Rq c103 (own_Rq c101 (0 : Int32) (0 : Int32) (0 : Int32)) (own_Re c101 (0 : Int32) (0 : Int32) (0 : Int32)) (own_Ric c101 (0 : Int32) (0 : Int32) (0 : Int32) (0 : Int32))) (own_Re c103 (own_Rq c101 (0 : Int32) (0 : Int32) (0 : Int32)) (own_Re c101 (0 : Int32) (0 : Int32) (0 : Int32)) (own_Ric c101 (0 : Int32) (0 : Int32) (0 : Int32) (0 : Int32))) iwx208 (own_Ric c103 (own_Rq c101 (0 : Int32) (0 : Int32) (0 : Int32)) (own_Re c101 (0 : Int32) (0 : Int32) (0 : Int32)) iwx191 (own_Ric c101 (0 : Int32) (0 : Int32) (0 : Int32) (0 : Int32))) (own_rlen c103 (own_Rq c101 (0 : Int32) (0 : Int32) (0 : Int32)) (own_Re c101 (0 : Int32) (0 : Int32) (0 : Int32)) (own_rlen c101 (0 : Int32) (0 : Int32) (0 : Int32))) ((0 + 2) + 2) T208.heap n0 z228 f224 f225 H2 f226 R208_1 R208_2 R208_3 R208_4 R208_5 R208_6 R208_7 R208_8 R208_9 R208_10 R208_11 R208_12 R208_13 R208_14 R208_15 g177 R208_16 R208_17 R208_18 R208_19 R208_20 R208_21 R208_22 (by first | assumption | decide) R106_1 R208_23) hZ (hw _ (List.mem_of_getElem? (i := 54) rfl)) (hw _ (List.mem_of_getElem? (i := 10) rfl)) (by decide) (by decide) hEL Hc208) q227a q227c (g := (mkF m 268 #[.val (.int p1), .val (.int p2), .val (.int p3), .val (.int p4), .val (.int (p1 &&& (3 : Int32))), .val (.int c101), .val (.int c103), .val (.int c106), .val (.int (own_10 c101)), .val (.int (own_l9 c101 c103 (own_10 c101))), .val (.int (own_l10 c101 c103 (own_10 c101) (own_l9 c101 c103 (own_10 c101)))), .val (.int (own_l11 c106 (own_l10 c101 c103 (own_10 c101) (own_l9 c101 c103 (own_10 c101))))), .val (.ref b168), .val (.int (1 : Int32))] [(.int c106), (.ref b168)])) rfl (by rw [hml]; rfl) (Steps.refl _) (argsL := [(.int c106)]) (rest := []) (lenOf pd_16 rfl) rfl (by show 2 * 0 + _ ≤ _; exact Nat.le_of_eq rfl) (hb hby at_268) (fun _ _ => ⟨rfl, e212, (by decide : 13 + 3 ≤ _), (by decide : 148 + 39 ≤ _)⟩)
        dsimp only [Pt.U, Pt.locs, Pt.cells, Pt.slots] at X227 l227 y227 z227 st227 hQ227 hS227' hgr227 Cq227
        subst l227 y227 z227
        obtain ⟨X227, hS227, hZ, hown⟩ := rebS hS208 (by rw [e212]; exact (Nat.le_refl _)) X227 hS227' hgr227 hZ hown
        have Cr227 := Cr208.trans Cq227
        have Hc227 := Cq227.1
        have f229 : Exa Z T208.heap cl178 "com/example/rouse/rouse/shell/CommandLine" := (f210.keep K208)
        have Sf227_0 := Cq227.safe f229.lt Sf208_0
        obtain ⟨rv227, iwx227, cly227, wx227, cx227, nx227, cby227, wby227, cky227, wky227, cvy227, wvy227, rfl, Nq227, K227, R227_1, R227_2, R227_3, R227_4, R227_5, R227_6, R227_7, R227_8, R227_9, R227_10, R227_11, R227_12, R227_13, R227_14, R227_15, R227_16, R227_17, R227_18, R227_19, R227_20, R227_21, R227_22, R227_23, R227_24⟩ := hQ227
        have N227 := Fr.app N212 Nq227
        have pre230 : ∀ t, Steps p.tables e below (T227.setTop (mkF m 272 #[.val (.int p1), .val (.int p2), .val (.int p3), .val (.int p4), .val (.int (p1 &&& (3 : Int32))), .val (.int c101), .val (.int c103), .val (.int c106), .val (.int (own_10 c101)), .val (.int (own_l9 c101 c103 (own_10 c101))), .val (.int (own_l10 c101 c103 (own_10 c101) (own_l9 c101 c103 (own_10 c101)))), .val (.int (own_l11 c106 (own_l10 c101 c103 (own_10 c101) (own_l9 c101 c103 (own_10 c101))))), .val (.ref b168), .val (.int (1 : Int32))] [])) t → Steps p.tables e below (s₁.setTop (entryFrame m #[(.int p1), (.int p2), (.int p3), (.int p4)] maxLocals)) t := fun t kt => by
          refine pre222 t ?_
          show Steps p.tables e below (T212.setTop (mkF m 261 #[.val (.int p1), .val (.int p2), .val (.int p3), .val (.int p4), .val (.int (p1 &&& (3 : Int32))), .val (.int c101), .val (.int c103), .val (.int c106), .val (.int (own_10 c101)), .val (.int (own_l9 c101 c103 (own_10 c101))), .val (.int (own_l10 c101 c103 (own_10 c101) (own_l9 c101 c103 (own_10 c101)))), .val (.int (own_l11 c106 (own_l10 c101 c103 (own_10 c101) (own_l9 c101 c103 (own_10 c101))))), .val (.ref b168), .val (.int (1 : Int32))] [(.int (3 : Int32)), (.int (p1 &&& (3 : Int32)))])) _
          refine XS.icmpNo X212.here hx rfl (hb hby at_261) rfl (flt (hc261_223 : ¬ ((p1 &&& (3 : Int32)) < (3 : Int32)))).1 ?_
          show Steps p.tables e below (T212.setTop (mkF m 264 #[.val (.int p1), .val (.int p2), .val (.int p3), .val (.int p4), .val (.int (p1 &&& (3 : Int32))), .val (.int c101), .val (.int c103), .val (.int c106), .val (.int (own_10 c101)), .val (.int (own_l9 c101 c103 (own_10 c101))), .val (.int (own_l10 c101 c103 (own_10 c101) (own_l9 c101 c103 (own_10 c101)))), .val (.int (own_l11 c106 (own_l10 c101 c103 (own_10 c101) (own_l9 c101 c103 (own_10 c101))))), .val (.ref b168), .val (.int (1 : Int32))] [])) _
          refine XS.aload X212.here hx rfl (hb hby at_264) rfl rfl ?_
          show Steps p.tables e below (T212.setTop (mkF m 266 #[.val (.int p1), .val (.int p2), .val (.int p3), .val (.int p4), .val (.int (p1 &&& (3 : Int32))), .val (.int c101), .val (.int c103), .val (.int c106), .val (.int (own_10 c101)), .val (.int (own_l9 c101 c103 (own_10 c101))), .val (.int (own_l10 c101 c103 (own_10 c101) (own_l9 c101 c103 (own_10 c101)))), .val (.int (own_l11 c106 (own_l10 c101 c103 (own_10 c101) (own_l9 c101 c103 (own_10 c101))))), .val (.ref b168), .val (.int (1 : Int32))] [(.ref b168)])) _
          refine XS.iload X212.here hx rfl (hb hby at_266) rfl ?_
          show Steps p.tables e below (T212.setTop (mkF m 268 #[.val (.int p1), .val (.int p2), .val (.int p3), .val (.int p4), .val (.int (p1 &&& (3 : Int32))), .val (.int c101), .val (.int c103), .val (.int c106), .val (.int (own_10 c101)), .val (.int (own_l9 c101 c103 (own_10 c101))), .val (.int (own_l10 c101 c103 (own_10 c101) (own_l9 c101 c103 (own_10 c101)))), .val (.int (own_l11 c106 (own_l10 c101 c103 (own_10 c101) (own_l9 c101 c103 (own_10 c101))))), .val (.ref b168), .val (.int (1 : Int32))] [(.int c106), (.ref b168)])) _
          refine st227.trans ?_
          show Steps p.tables e below (T227.setTop (mkF m 271 #[.val (.int p1), .val (.int p2), .val (.int p3), .val (.int p4), .val (.int (p1 &&& (3 : Int32))), .val (.int c101), .val (.int c103), .val (.int c106), .val (.int (own_10 c101)), .val (.int (own_l9 c101 c103 (own_10 c101))), .val (.int (own_l10 c101 c103 (own_10 c101) (own_l9 c101 c103 (own_10 c101)))), .val (.int (own_l11 c106 (own_l10 c101 c103 (own_10 c101) (own_l9 c101 c103 (own_10 c101))))), .val (.ref b168), .val (.int (1 : Int32))] [rv227])) _
          refine XS.pop X227.here hx rfl (hb hby at_271) rfl R227_24 ?_
          show Steps p.tables e below (T227.setTop (mkF m 272 #[.val (.int p1), .val (.int p2), .val (.int p3), .val (.int p4), .val (.int (p1 &&& (3 : Int32))), .val (.int c101), .val (.int c103), .val (.int c106), .val (.int (own_10 c101)), .val (.int (own_l9 c101 c103 (own_10 c101))), .val (.int (own_l10 c101 c103 (own_10 c101) (own_l9 c101 c103 (own_10 c101)))), .val (.int (own_l11 c106 (own_l10 c101 c103 (own_10 c101) (own_l9 c101 c103 (own_10 c101))))), .val (.ref b168), .val (.int (1 : Int32))] [])) _
          exact kt
        obtain ⟨T231, L231, X231, N231, e231, pre231⟩ : ∃ (T' : State) (L' : List Loc), Stand p l e room_1 (s.setVm T227.vm) m #[(.int p1), (.int p2), (.int p3), (.int p4)] below meth c T' L' 16 187 ∧ Fr n0 L' ∧ T'.heap = T227.heap ∧ ∀ t, Steps p.tables e below (T'.setTop (mkF m 302 #[.val (.int p1), .val (.int p2), .val (.int p3), .val (.int p4), .val (.int (p1 &&& (3 : Int32))), .val (.int c101), .val (.int c103), .val (.int c106), .val (.int (own_10 c101)), .val (.int (own_l9 c101 c103 (own_10 c101))), .val (.int (own_l10 c101 c103 (own_10 c101) (own_l9 c101 c103 (own_10 c101)))), .val (.int (own_l11 c106 (own_l10 c101 c103 (own_10 c101) (own_l9 c101 c103 (own_10 c101))))), .val (.ref b168), .val (.int (1 : Int32))] [])) t → Steps p.tables e below (s₁.setTop (entryFrame m #[(.int p1), (.int p2), (.int p3), (.int p4)] maxLocals)) t := by
          have z233 : n0 ≤ T227.heap.size := (Nat.le_trans z228 K227.1)
          have f234 : Exa Z T227.heap b168 "com/example/rouse/rouse/shell/ShellWords" := (f226.keep K227)
          obtain ⟨cq232, kq232, q232a, q232b, q232c⟩ := isOf hZ rfl f234
          obtain ⟨_, _, ⟨T232, L232, k232, n232⟩, -, X232, ⟨Lc232, hQ232, l232, y232, z232⟩, st232⟩ := X227.virtualBack hx (y := (⟨"com/example/rouse/rouse/shell/ShellWords", "continues", "()Z"⟩ : MethodName)) (z := (⟨"com/example/rouse/rouse/shell/ShellWords", "continues", "()Z"⟩ : MethodName)) hown (mvT hZ (hw _ (List.mem_of_getElem? (i := 40) rfl))) (mvT hZ (hw _ (List.mem_of_getElem? (i := 41) rfl))) (notFace_of_selects (args := #[]) (mvT hZ (hw _ (List.mem_of_getElem? (i := 43) rfl)))) (mvT hZ (hw _ (List.mem_of_getElem? (i := 43) rfl))) (mvT hZ (hw _ (List.mem_of_getElem? (i := 42) rfl))) (by decide) (backOf (W := 0) (rm7 l Z a0 hw [] b168 (own_rlen c106 (own_Rq c103 (own_Rq c101 (0 : Int32) (0 : Int32) (0 : Int32)) (own_Re c101 (0 : Int32) (0 : Int32) (0 : Int32)) (own_Ric c101 (0 : Int32) (0 : Int32) (0 : Int32) (0 : Int32))) (own_Re c103 (own_Rq c101 (0 : Int32) (0 : Int32) (0 : Int32)) (own_Re c101 (0 : Int32) (0 : Int32) (0 : Int32)) (own_Ric c101 (0 : Int32) (0 : Int32) (0 : Int32) (0 : Int32))) (own_rlen c103 (own_Rq c101 (0 : Int32) (0 : Int32) (0 : Int32)) (own_Re c101 (0 : Int32) (0 : Int32) (0 : Int32)) (own_rlen c101 (0 : Int32) (0 : Int32) (0 : Int32)))) T227.heap n0 z233 R227_6) hZ (hw _ (List.mem_of_getElem? (i := 44) rfl)) (hw _ (List.mem_of_getElem? (i := 10) rfl)) (by decide) (by decide)) q232a q232c (g := (mkF m 279 #[.val (.int p1), .val (.int p2), .val (.int p3), .val (.int p4), .val (.int (p1 &&& (3 : Int32))), .val (.int c101), .val (.int c103), .val (.int c106), .val (.int (own_10 c101)), .val (.int (own_l9 c101 c103 (own_10 c101))), .val (.int (own_l10 c101 c103 (own_10 c101) (own_l9 c101 c103 (own_10 c101)))), .val (.int (own_l11 c106 (own_l10 c101 c103 (own_10 c101) (own_l9 c101 c103 (own_10 c101))))), .val (.ref b168), .val (.int (1 : Int32))] [(.ref b168)])) rfl (by rw [hml]; rfl) (Steps.refl _) (argsL := []) (rest := []) (lenOf pd_3 rfl) rfl (by show 2 * 0 + _ ≤ _; exact Nat.le_of_eq rfl) (hb hby at_279) (fun _ _ => ⟨rfl, rfl, (by decide : 16 + 0 ≤ _), (by decide : 187 + 0 ≤ _)⟩)
          dsimp only [Pt.U, Pt.locs, Pt.cells, Pt.slots] at X232 l232 y232 z232 st232 hQ232
          subst l232 y232 z232
          obtain ⟨rfl, Nq232, Heq232⟩ := hQ232
          have N232 := Fr.app N227 Nq232
          have pre235 : ∀ t, Steps p.tables e below (T232.setTop (mkF m 284 #[.val (.int p1), .val (.int p2), .val (.int p3), .val (.int p4), .val (.int (p1 &&& (3 : Int32))), .val (.int c101), .val (.int c103), .val (.int c106), .val (.int (own_10 c101)), .val (.int (own_l9 c101 c103 (own_10 c101))), .val (.int (own_l10 c101 c103 (own_10 c101) (own_l9 c101 c103 (own_10 c101)))), .val (.int (own_l11 c106 (own_l10 c101 c103 (own_10 c101) (own_l9 c101 c103 (own_10 c101))))), .val (.ref b168), .val (.int (1 : Int32))] [(.int (own_l11 c106 (own_l10 c101 c103 (own_10 c101) (own_l9 c101 c103 (own_10 c101))))), (.int (own_pos (own_rlen c106 (own_Rq c103 (own_Rq c101 (0 : Int32) (0 : Int32) (0 : Int32)) (own_Re c101 (0 : Int32) (0 : Int32) (0 : Int32)) (own_Ric c101 (0 : Int32) (0 : Int32) (0 : Int32) (0 : Int32))) (own_Re c103 (own_Rq c101 (0 : Int32) (0 : Int32) (0 : Int32)) (own_Re c101 (0 : Int32) (0 : Int32) (0 : Int32)) (own_Ric c101 (0 : Int32) (0 : Int32) (0 : Int32) (0 : Int32))) (own_rlen c103 (own_Rq c101 (0 : Int32) (0 : Int32) (0 : Int32)) (own_Re c101 (0 : Int32) (0 : Int32) (0 : Int32)) (own_rlen c101 (0 : Int32) (0 : Int32) (0 : Int32))))))])) t → Steps p.tables e below (s₁.setTop (entryFrame m #[(.int p1), (.int p2), (.int p3), (.int p4)] maxLocals)) t := fun t kt => by
            refine pre230 t ?_
            show Steps p.tables e below (T227.setTop (mkF m 272 #[.val (.int p1), .val (.int p2), .val (.int p3), .val (.int p4), .val (.int (p1 &&& (3 : Int32))), .val (.int c101), .val (.int c103), .val (.int c106), .val (.int (own_10 c101)), .val (.int (own_l9 c101 c103 (own_10 c101))), .val (.int (own_l10 c101 c103 (own_10 c101) (own_l9 c101 c103 (own_10 c101)))), .val (.int (own_l11 c106 (own_l10 c101 c103 (own_10 c101) (own_l9 c101 c103 (own_10 c101))))), .val (.ref b168), .val (.int (1 : Int32))] [])) _
            refine XS.iload X227.here hx rfl (hb hby at_272) rfl ?_
            show Steps p.tables e below (T227.setTop (mkF m 274 #[.val (.int p1), .val (.int p2), .val (.int p3), .val (.int p4), .val (.int (p1 &&& (3 : Int32))), .val (.int c101), .val (.int c103), .val (.int c106), .val (.int (own_10 c101)), .val (.int (own_l9 c101 c103 (own_10 c101))), .val (.int (own_l10 c101 c103 (own_10 c101) (own_l9 c101 c103 (own_10 c101)))), .val (.int (own_l11 c106 (own_l10 c101 c103 (own_10 c101) (own_l9 c101 c103 (own_10 c101))))), .val (.ref b168), .val (.int (1 : Int32))] [(.int (1 : Int32))])) _
            refine XS.ifNo X227.here hx rfl (hb hby at_274) rfl ((if0 _ _).trans (feq (by decide : ¬ ((1 : Int32) = (0 : Int32)))).1) ?_
            show Steps p.tables e below (T227.setTop (mkF m 277 #[.val (.int p1), .val (.int p2), .val (.int p3), .val (.int p4), .val (.int (p1 &&& (3 : Int32))), .val (.int c101), .val (.int c103), .val (.int c106), .val (.int (own_10 c101)), .val (.int (own_l9 c101 c103 (own_10 c101))), .val (.int (own_l10 c101 c103 (own_10 c101) (own_l9 c101 c103 (own_10 c101)))), .val (.int (own_l11 c106 (own_l10 c101 c103 (own_10 c101) (own_l9 c101 c103 (own_10 c101))))), .val (.ref b168), .val (.int (1 : Int32))] [])) _
            refine XS.aload X227.here hx rfl (hb hby at_277) rfl rfl ?_
            show Steps p.tables e below (T227.setTop (mkF m 279 #[.val (.int p1), .val (.int p2), .val (.int p3), .val (.int p4), .val (.int (p1 &&& (3 : Int32))), .val (.int c101), .val (.int c103), .val (.int c106), .val (.int (own_10 c101)), .val (.int (own_l9 c101 c103 (own_10 c101))), .val (.int (own_l10 c101 c103 (own_10 c101) (own_l9 c101 c103 (own_10 c101)))), .val (.int (own_l11 c106 (own_l10 c101 c103 (own_10 c101) (own_l9 c101 c103 (own_10 c101))))), .val (.ref b168), .val (.int (1 : Int32))] [(.ref b168)])) _
            refine st232.trans ?_
            show Steps p.tables e below (T232.setTop (mkF m 282 #[.val (.int p1), .val (.int p2), .val (.int p3), .val (.int p4), .val (.int (p1 &&& (3 : Int32))), .val (.int c101), .val (.int c103), .val (.int c106), .val (.int (own_10 c101)), .val (.int (own_l9 c101 c103 (own_10 c101))), .val (.int (own_l10 c101 c103 (own_10 c101) (own_l9 c101 c103 (own_10 c101)))), .val (.int (own_l11 c106 (own_l10 c101 c103 (own_10 c101) (own_l9 c101 c103 (own_10 c101))))), .val (.ref b168), .val (.int (1 : Int32))] [(.int (own_pos (own_rlen c106 (own_Rq c103 (own_Rq c101 (0 : Int32) (0 : Int32) (0 : Int32)) (own_Re c101 (0 : Int32) (0 : Int32) (0 : Int32)) (own_Ric c101 (0 : Int32) (0 : Int32) (0 : Int32) (0 : Int32))) (own_Re c103 (own_Rq c101 (0 : Int32) (0 : Int32) (0 : Int32)) (own_Re c101 (0 : Int32) (0 : Int32) (0 : Int32)) (own_Ric c101 (0 : Int32) (0 : Int32) (0 : Int32) (0 : Int32))) (own_rlen c103 (own_Rq c101 (0 : Int32) (0 : Int32) (0 : Int32)) (own_Re c101 (0 : Int32) (0 : Int32) (0 : Int32)) (own_rlen c101 (0 : Int32) (0 : Int32) (0 : Int32))))))])) _
            refine XS.iload X232.here hx rfl (hb hby at_282) rfl ?_
            show Steps p.tables e below (T232.setTop (mkF m 284 #[.val (.int p1), .val (.int p2), .val (.int p3), .val (.int p4), .val (.int (p1 &&& (3 : Int32))), .val (.int c101), .val (.int c103), .val (.int c106), .val (.int (own_10 c101)), .val (.int (own_l9 c101 c103 (own_10 c101))), .val (.int (own_l10 c101 c103 (own_10 c101) (own_l9 c101 c103 (own_10 c101)))), .val (.int (own_l11 c106 (own_l10 c101 c103 (own_10 c101) (own_l9 c101 c103 (own_10 c101))))), .val (.ref b168), .val (.int (1 : Int32))] [(.int (own_l11 c106 (own_l10 c101 c103 (own_10 c101) (own_l9 c101 c103 (own_10 c101))))), (.int (own_pos (own_rlen c106 (own_Rq c103 (own_Rq c101 (0 : Int32) (0 : Int32) (0 : Int32)) (own_Re c101 (0 : Int32) (0 : Int32) (0 : Int32)) (own_Ric c101 (0 : Int32) (0 : Int32) (0 : Int32) (0 : Int32))) (own_Re c103 (own_Rq c101 (0 : Int32) (0 : Int32) (0 : Int32)) (own_Re c101 (0 : Int32) (0 : Int32) (0 : Int32)) (own_Ric c101 (0 : Int32) (0 : Int32) (0 : Int32) (0 : Int32))) (own_rlen c103 (own_Rq c101 (0 : Int32) (0 : Int32) (0 : Int32)) (own_Re c101 (0 : Int32) (0 : Int32) (0 : Int32)) (own_rlen c101 (0 : Int32) (0 : Int32) (0 : Int32))))))])) _
            exact kt
          by_cases hc284_236 : (own_l11 c106 (own_l10 c101 c103 (own_10 c101) (own_l9 c101 c103 (own_10 c101)))) = (0 : Int32)
          · skip
            have pre237 : ∀ t, Steps p.tables e below (T232.setTop (mkF m 302 #[.val (.int p1), .val (.int p2), .val (.int p3), .val (.int p4), .val (.int (p1 &&& (3 : Int32))), .val (.int c101), .val (.int c103), .val (.int c106), .val (.int (own_10 c101)), .val (.int (own_l9 c101 c103 (own_10 c101))), .val (.int (own_l10 c101 c103 (own_10 c101) (own_l9 c101 c103 (own_10 c101)))), .val (.int (own_l11 c106 (own_l10 c101 c103 (own_10 c101) (own_l9 c101 c103 (own_10 c101))))), .val (.ref b168), .val (.int (1 : Int32))] [])) t → Steps p.tables e below (s₁.setTop (entryFrame m #[(.int p1), (.int p2), (.int p3), (.int p4)] maxLocals)) t := fun t kt => by
              refine pre235 t ?_
              show Steps p.tables e below (T232.setTop (mkF m 284 #[.val (.int p1), .val (.int p2), .val (.int p3), .val (.int p4), .val (.int (p1 &&& (3 : Int32))), .val (.int c101), .val (.int c103), .val (.int c106), .val (.int (own_10 c101)), .val (.int (own_l9 c101 c103 (own_10 c101))), .val (.int (own_l10 c101 c103 (own_10 c101) (own_l9 c101 c103 (own_10 c101)))), .val (.int (own_l11 c106 (own_l10 c101 c103 (own_10 c101) (own_l9 c101 c103 (own_10 c101))))), .val (.ref b168), .val (.int (1 : Int32))] [(.int (own_l11 c106 (own_l10 c101 c103 (own_10 c101) (own_l9 c101 c103 (own_10 c101))))), (.int (own_pos (own_rlen c106 (own_Rq c103 (own_Rq c101 (0 : Int32) (0 : Int32) (0 : Int32)) (own_Re c101 (0 : Int32) (0 : Int32) (0 : Int32)) (own_Ric c101 (0 : Int32) (0 : Int32) (0 : Int32) (0 : Int32))) (own_Re c103 (own_Rq c101 (0 : Int32) (0 : Int32) (0 : Int32)) (own_Re c101 (0 : Int32) (0 : Int32) (0 : Int32)) (own_Ric c101 (0 : Int32) (0 : Int32) (0 : Int32) (0 : Int32))) (own_rlen c103 (own_Rq c101 (0 : Int32) (0 : Int32) (0 : Int32)) (own_Re c101 (0 : Int32) (0 : Int32) (0 : Int32)) (own_rlen c101 (0 : Int32) (0 : Int32) (0 : Int32))))))])) _
              refine XS.ifNo X232.here hx rfl (hb hby at_284) rfl ((if0 _ _).trans (teq (hc284_236 : (own_l11 c106 (own_l10 c101 c103 (own_10 c101) (own_l9 c101 c103 (own_10 c101)))) = (0 : Int32))).2) ?_
              show Steps p.tables e below (T232.setTop (mkF m 287 #[.val (.int p1), .val (.int p2), .val (.int p3), .val (.int p4), .val (.int (p1 &&& (3 : Int32))), .val (.int c101), .val (.int c103), .val (.int c106), .val (.int (own_10 c101)), .val (.int (own_l9 c101 c103 (own_10 c101))), .val (.int (own_l10 c101 c103 (own_10 c101) (own_l9 c101 c103 (own_10 c101)))), .val (.int (own_l11 c106 (own_l10 c101 c103 (own_10 c101) (own_l9 c101 c103 (own_10 c101))))), .val (.ref b168), .val (.int (1 : Int32))] [(.int (own_pos (own_rlen c106 (own_Rq c103 (own_Rq c101 (0 : Int32) (0 : Int32) (0 : Int32)) (own_Re c101 (0 : Int32) (0 : Int32) (0 : Int32)) (own_Ric c101 (0 : Int32) (0 : Int32) (0 : Int32) (0 : Int32))) (own_Re c103 (own_Rq c101 (0 : Int32) (0 : Int32) (0 : Int32)) (own_Re c101 (0 : Int32) (0 : Int32) (0 : Int32)) (own_Ric c101 (0 : Int32) (0 : Int32) (0 : Int32) (0 : Int32))) (own_rlen c103 (own_Rq c101 (0 : Int32) (0 : Int32) (0 : Int32)) (own_Re c101 (0 : Int32) (0 : Int32) (0 : Int32)) (own_rlen c101 (0 : Int32) (0 : Int32) (0 : Int32))))))])) _
              refine XS.iconst X232.here hx rfl (hb hby at_287) ?_
              show Steps p.tables e below (T232.setTop (mkF m 288 #[.val (.int p1), .val (.int p2), .val (.int p3), .val (.int p4), .val (.int (p1 &&& (3 : Int32))), .val (.int c101), .val (.int c103), .val (.int c106), .val (.int (own_10 c101)), .val (.int (own_l9 c101 c103 (own_10 c101))), .val (.int (own_l10 c101 c103 (own_10 c101) (own_l9 c101 c103 (own_10 c101)))), .val (.int (own_l11 c106 (own_l10 c101 c103 (own_10 c101) (own_l9 c101 c103 (own_10 c101))))), .val (.ref b168), .val (.int (1 : Int32))] [(.int (1 : Int32)), (.int (own_pos (own_rlen c106 (own_Rq c103 (own_Rq c101 (0 : Int32) (0 : Int32) (0 : Int32)) (own_Re c101 (0 : Int32) (0 : Int32) (0 : Int32)) (own_Ric c101 (0 : Int32) (0 : Int32) (0 : Int32) (0 : Int32))) (own_Re c103 (own_Rq c101 (0 : Int32) (0 : Int32) (0 : Int32)) (own_Re c101 (0 : Int32) (0 : Int32) (0 : Int32)) (own_Ric c101 (0 : Int32) (0 : Int32) (0 : Int32) (0 : Int32))) (own_rlen c103 (own_Rq c101 (0 : Int32) (0 : Int32) (0 : Int32)) (own_Re c101 (0 : Int32) (0 : Int32) (0 : Int32)) (own_rlen c101 (0 : Int32) (0 : Int32) (0 : Int32))))))])) _
              refine XS.goto X232.here hx rfl (pc0 := 288) (pc' := 292) rfl (hb hby at_288) (by decide) (by decide) ?_
              show Steps p.tables e below (T232.setTop (mkF m 292 #[.val (.int p1), .val (.int p2), .val (.int p3), .val (.int p4), .val (.int (p1 &&& (3 : Int32))), .val (.int c101), .val (.int c103), .val (.int c106), .val (.int (own_10 c101)), .val (.int (own_l9 c101 c103 (own_10 c101))), .val (.int (own_l10 c101 c103 (own_10 c101) (own_l9 c101 c103 (own_10 c101)))), .val (.int (own_l11 c106 (own_l10 c101 c103 (own_10 c101) (own_l9 c101 c103 (own_10 c101))))), .val (.ref b168), .val (.int (1 : Int32))] [(.int (1 : Int32)), (.int (own_pos (own_rlen c106 (own_Rq c103 (own_Rq c101 (0 : Int32) (0 : Int32) (0 : Int32)) (own_Re c101 (0 : Int32) (0 : Int32) (0 : Int32)) (own_Ric c101 (0 : Int32) (0 : Int32) (0 : Int32) (0 : Int32))) (own_Re c103 (own_Rq c101 (0 : Int32) (0 : Int32) (0 : Int32)) (own_Re c101 (0 : Int32) (0 : Int32) (0 : Int32)) (own_Ric c101 (0 : Int32) (0 : Int32) (0 : Int32) (0 : Int32))) (own_rlen c103 (own_Rq c101 (0 : Int32) (0 : Int32) (0 : Int32)) (own_Re c101 (0 : Int32) (0 : Int32) (0 : Int32)) (own_rlen c101 (0 : Int32) (0 : Int32) (0 : Int32))))))])) _
              refine XS.icmpNo X232.here hx rfl (hb hby at_292) rfl (teq (own_not1 (own_law3 _ _ _) hc284_236 : (own_pos (own_rlen c106 (own_Rq c103 (own_Rq c101 (0 : Int32) (0 : Int32) (0 : Int32)) (own_Re c101 (0 : Int32) (0 : Int32) (0 : Int32)) (own_Ric c101 (0 : Int32) (0 : Int32) (0 : Int32) (0 : Int32))) (own_Re c103 (own_Rq c101 (0 : Int32) (0 : Int32) (0 : Int32)) (own_Re c101 (0 : Int32) (0 : Int32) (0 : Int32)) (own_Ric c101 (0 : Int32) (0 : Int32) (0 : Int32) (0 : Int32))) (own_rlen c103 (own_Rq c101 (0 : Int32) (0 : Int32) (0 : Int32)) (own_Re c101 (0 : Int32) (0 : Int32) (0 : Int32)) (own_rlen c101 (0 : Int32) (0 : Int32) (0 : Int32))))) = (1 : Int32))).2 ?_
              show Steps p.tables e below (T232.setTop (mkF m 295 #[.val (.int p1), .val (.int p2), .val (.int p3), .val (.int p4), .val (.int (p1 &&& (3 : Int32))), .val (.int c101), .val (.int c103), .val (.int c106), .val (.int (own_10 c101)), .val (.int (own_l9 c101 c103 (own_10 c101))), .val (.int (own_l10 c101 c103 (own_10 c101) (own_l9 c101 c103 (own_10 c101)))), .val (.int (own_l11 c106 (own_l10 c101 c103 (own_10 c101) (own_l9 c101 c103 (own_10 c101))))), .val (.ref b168), .val (.int (1 : Int32))] [])) _
              refine XS.iconst X232.here hx rfl (hb hby at_295) ?_
              show Steps p.tables e below (T232.setTop (mkF m 296 #[.val (.int p1), .val (.int p2), .val (.int p3), .val (.int p4), .val (.int (p1 &&& (3 : Int32))), .val (.int c101), .val (.int c103), .val (.int c106), .val (.int (own_10 c101)), .val (.int (own_l9 c101 c103 (own_10 c101))), .val (.int (own_l10 c101 c103 (own_10 c101) (own_l9 c101 c103 (own_10 c101)))), .val (.int (own_l11 c106 (own_l10 c101 c103 (own_10 c101) (own_l9 c101 c103 (own_10 c101))))), .val (.ref b168), .val (.int (1 : Int32))] [(.int (1 : Int32))])) _
              refine XS.goto X232.here hx rfl (pc0 := 296) (pc' := 300) rfl (hb hby at_296) (by decide) (by decide) ?_
              show Steps p.tables e below (T232.setTop (mkF m 300 #[.val (.int p1), .val (.int p2), .val (.int p3), .val (.int p4), .val (.int (p1 &&& (3 : Int32))), .val (.int c101), .val (.int c103), .val (.int c106), .val (.int (own_10 c101)), .val (.int (own_l9 c101 c103 (own_10 c101))), .val (.int (own_l10 c101 c103 (own_10 c101) (own_l9 c101 c103 (own_10 c101)))), .val (.int (own_l11 c106 (own_l10 c101 c103 (own_10 c101) (own_l9 c101 c103 (own_10 c101))))), .val (.ref b168), .val (.int (1 : Int32))] [(.int (1 : Int32))])) _
              refine XS.istore X232.here hx rfl (hb hby at_300) rfl (l' := #[.val (.int p1), .val (.int p2), .val (.int p3), .val (.int p4), .val (.int (p1 &&& (3 : Int32))), .val (.int c101), .val (.int c103), .val (.int c106), .val (.int (own_10 c101)), .val (.int (own_l9 c101 c103 (own_10 c101))), .val (.int (own_l10 c101 c103 (own_10 c101) (own_l9 c101 c103 (own_10 c101)))), .val (.int (own_l11 c106 (own_l10 c101 c103 (own_10 c101) (own_l9 c101 c103 (own_10 c101))))), .val (.ref b168), .val (.int (1 : Int32))]) rfl ?_
              show Steps p.tables e below (T232.setTop (mkF m 302 #[.val (.int p1), .val (.int p2), .val (.int p3), .val (.int p4), .val (.int (p1 &&& (3 : Int32))), .val (.int c101), .val (.int c103), .val (.int c106), .val (.int (own_10 c101)), .val (.int (own_l9 c101 c103 (own_10 c101))), .val (.int (own_l10 c101 c103 (own_10 c101) (own_l9 c101 c103 (own_10 c101)))), .val (.int (own_l11 c106 (own_l10 c101 c103 (own_10 c101) (own_l9 c101 c103 (own_10 c101))))), .val (.ref b168), .val (.int (1 : Int32))] [])) _
              exact kt
            exact ⟨_, _, X232, N232, Heq232, fun t kt => pre237 t kt⟩
          · skip
            have pre239 : ∀ t, Steps p.tables e below (T232.setTop (mkF m 302 #[.val (.int p1), .val (.int p2), .val (.int p3), .val (.int p4), .val (.int (p1 &&& (3 : Int32))), .val (.int c101), .val (.int c103), .val (.int c106), .val (.int (own_10 c101)), .val (.int (own_l9 c101 c103 (own_10 c101))), .val (.int (own_l10 c101 c103 (own_10 c101) (own_l9 c101 c103 (own_10 c101)))), .val (.int (own_l11 c106 (own_l10 c101 c103 (own_10 c101) (own_l9 c101 c103 (own_10 c101))))), .val (.ref b168), .val (.int (1 : Int32))] [])) t → Steps p.tables e below (s₁.setTop (entryFrame m #[(.int p1), (.int p2), (.int p3), (.int p4)] maxLocals)) t := fun t kt => by
              refine pre235 t ?_
              show Steps p.tables e below (T232.setTop (mkF m 284 #[.val (.int p1), .val (.int p2), .val (.int p3), .val (.int p4), .val (.int (p1 &&& (3 : Int32))), .val (.int c101), .val (.int c103), .val (.int c106), .val (.int (own_10 c101)), .val (.int (own_l9 c101 c103 (own_10 c101))), .val (.int (own_l10 c101 c103 (own_10 c101) (own_l9 c101 c103 (own_10 c101)))), .val (.int (own_l11 c106 (own_l10 c101 c103 (own_10 c101) (own_l9 c101 c103 (own_10 c101))))), .val (.ref b168), .val (.int (1 : Int32))] [(.int (own_l11 c106 (own_l10 c101 c103 (own_10 c101) (own_l9 c101 c103 (own_10 c101))))), (.int (own_pos (own_rlen c106 (own_Rq c103 (own_Rq c101 (0 : Int32) (0 : Int32) (0 : Int32)) (own_Re c101 (0 : Int32) (0 : Int32) (0 : Int32)) (own_Ric c101 (0 : Int32) (0 : Int32) (0 : Int32) (0 : Int32))) (own_Re c103 (own_Rq c101 (0 : Int32) (0 : Int32) (0 : Int32)) (own_Re c101 (0 : Int32) (0 : Int32) (0 : Int32)) (own_Ric c101 (0 : Int32) (0 : Int32) (0 : Int32) (0 : Int32))) (own_rlen c103 (own_Rq c101 (0 : Int32) (0 : Int32) (0 : Int32)) (own_Re c101 (0 : Int32) (0 : Int32) (0 : Int32)) (own_rlen c101 (0 : Int32) (0 : Int32) (0 : Int32))))))])) _
              refine XS.ifYes X232.here hx rfl (pc0 := 284) (pc' := 291) rfl (hb hby at_284) rfl ((if0 _ _).trans (feq (hc284_236 : ¬ ((own_l11 c106 (own_l10 c101 c103 (own_10 c101) (own_l9 c101 c103 (own_10 c101)))) = (0 : Int32)))).2) (by decide) (by decide) ?_
              show Steps p.tables e below (T232.setTop (mkF m 291 #[.val (.int p1), .val (.int p2), .val (.int p3), .val (.int p4), .val (.int (p1 &&& (3 : Int32))), .val (.int c101), .val (.int c103), .val (.int c106), .val (.int (own_10 c101)), .val (.int (own_l9 c101 c103 (own_10 c101))), .val (.int (own_l10 c101 c103 (own_10 c101) (own_l9 c101 c103 (own_10 c101)))), .val (.int (own_l11 c106 (own_l10 c101 c103 (own_10 c101) (own_l9 c101 c103 (own_10 c101))))), .val (.ref b168), .val (.int (1 : Int32))] [(.int (own_pos (own_rlen c106 (own_Rq c103 (own_Rq c101 (0 : Int32) (0 : Int32) (0 : Int32)) (own_Re c101 (0 : Int32) (0 : Int32) (0 : Int32)) (own_Ric c101 (0 : Int32) (0 : Int32) (0 : Int32) (0 : Int32))) (own_Re c103 (own_Rq c101 (0 : Int32) (0 : Int32) (0 : Int32)) (own_Re c101 (0 : Int32) (0 : Int32) (0 : Int32)) (own_Ric c101 (0 : Int32) (0 : Int32) (0 : Int32) (0 : Int32))) (own_rlen c103 (own_Rq c101 (0 : Int32) (0 : Int32) (0 : Int32)) (own_Re c101 (0 : Int32) (0 : Int32) (0 : Int32)) (own_rlen c101 (0 : Int32) (0 : Int32) (0 : Int32))))))])) _
              refine XS.iconst X232.here hx rfl (hb hby at_291) ?_
              show Steps p.tables e below (T232.setTop (mkF m 292 #[.val (.int p1), .val (.int p2), .val (.int p3), .val (.int p4), .val (.int (p1 &&& (3 : Int32))), .val (.int c101), .val (.int c103), .val (.int c106), .val (.int (own_10 c101)), .val (.int (own_l9 c101 c103 (own_10 c101))), .val (.int (own_l10 c101 c103 (own_10 c101) (own_l9 c101 c103 (own_10 c101)))), .val (.int (own_l11 c106 (own_l10 c101 c103 (own_10 c101) (own_l9 c101 c103 (own_10 c101))))), .val (.ref b168), .val (.int (1 : Int32))] [(.int (0 : Int32)), (.int (own_pos (own_rlen c106 (own_Rq c103 (own_Rq c101 (0 : Int32) (0 : Int32) (0 : Int32)) (own_Re c101 (0 : Int32) (0 : Int32) (0 : Int32)) (own_Ric c101 (0 : Int32) (0 : Int32) (0 : Int32) (0 : Int32))) (own_Re c103 (own_Rq c101 (0 : Int32) (0 : Int32) (0 : Int32)) (own_Re c101 (0 : Int32) (0 : Int32) (0 : Int32)) (own_Ric c101 (0 : Int32) (0 : Int32) (0 : Int32) (0 : Int32))) (own_rlen c103 (own_Rq c101 (0 : Int32) (0 : Int32) (0 : Int32)) (own_Re c101 (0 : Int32) (0 : Int32) (0 : Int32)) (own_rlen c101 (0 : Int32) (0 : Int32) (0 : Int32))))))])) _
              refine XS.icmpNo X232.here hx rfl (hb hby at_292) rfl (teq (own_not0 (own_law3 _ _ _) hc284_236 : (own_pos (own_rlen c106 (own_Rq c103 (own_Rq c101 (0 : Int32) (0 : Int32) (0 : Int32)) (own_Re c101 (0 : Int32) (0 : Int32) (0 : Int32)) (own_Ric c101 (0 : Int32) (0 : Int32) (0 : Int32) (0 : Int32))) (own_Re c103 (own_Rq c101 (0 : Int32) (0 : Int32) (0 : Int32)) (own_Re c101 (0 : Int32) (0 : Int32) (0 : Int32)) (own_Ric c101 (0 : Int32) (0 : Int32) (0 : Int32) (0 : Int32))) (own_rlen c103 (own_Rq c101 (0 : Int32) (0 : Int32) (0 : Int32)) (own_Re c101 (0 : Int32) (0 : Int32) (0 : Int32)) (own_rlen c101 (0 : Int32) (0 : Int32) (0 : Int32))))) = (0 : Int32))).2 ?_
              show Steps p.tables e below (T232.setTop (mkF m 295 #[.val (.int p1), .val (.int p2), .val (.int p3), .val (.int p4), .val (.int (p1 &&& (3 : Int32))), .val (.int c101), .val (.int c103), .val (.int c106), .val (.int (own_10 c101)), .val (.int (own_l9 c101 c103 (own_10 c101))), .val (.int (own_l10 c101 c103 (own_10 c101) (own_l9 c101 c103 (own_10 c101)))), .val (.int (own_l11 c106 (own_l10 c101 c103 (own_10 c101) (own_l9 c101 c103 (own_10 c101))))), .val (.ref b168), .val (.int (1 : Int32))] [])) _
              refine XS.iconst X232.here hx rfl (hb hby at_295) ?_
              show Steps p.tables e below (T232.setTop (mkF m 296 #[.val (.int p1), .val (.int p2), .val (.int p3), .val (.int p4), .val (.int (p1 &&& (3 : Int32))), .val (.int c101), .val (.int c103), .val (.int c106), .val (.int (own_10 c101)), .val (.int (own_l9 c101 c103 (own_10 c101))), .val (.int (own_l10 c101 c103 (own_10 c101) (own_l9 c101 c103 (own_10 c101)))), .val (.int (own_l11 c106 (own_l10 c101 c103 (own_10 c101) (own_l9 c101 c103 (own_10 c101))))), .val (.ref b168), .val (.int (1 : Int32))] [(.int (1 : Int32))])) _
              refine XS.goto X232.here hx rfl (pc0 := 296) (pc' := 300) rfl (hb hby at_296) (by decide) (by decide) ?_
              show Steps p.tables e below (T232.setTop (mkF m 300 #[.val (.int p1), .val (.int p2), .val (.int p3), .val (.int p4), .val (.int (p1 &&& (3 : Int32))), .val (.int c101), .val (.int c103), .val (.int c106), .val (.int (own_10 c101)), .val (.int (own_l9 c101 c103 (own_10 c101))), .val (.int (own_l10 c101 c103 (own_10 c101) (own_l9 c101 c103 (own_10 c101)))), .val (.int (own_l11 c106 (own_l10 c101 c103 (own_10 c101) (own_l9 c101 c103 (own_10 c101))))), .val (.ref b168), .val (.int (1 : Int32))] [(.int (1 : Int32))])) _
              refine XS.istore X232.here hx rfl (hb hby at_300) rfl (l' := #[.val (.int p1), .val (.int p2), .val (.int p3), .val (.int p4), .val (.int (p1 &&& (3 : Int32))), .val (.int c101), .val (.int c103), .val (.int c106), .val (.int (own_10 c101)), .val (.int (own_l9 c101 c103 (own_10 c101))), .val (.int (own_l10 c101 c103 (own_10 c101) (own_l9 c101 c103 (own_10 c101)))), .val (.int (own_l11 c106 (own_l10 c101 c103 (own_10 c101) (own_l9 c101 c103 (own_10 c101))))), .val (.ref b168), .val (.int (1 : Int32))]) rfl ?_
              show Steps p.tables e below (T232.setTop (mkF m 302 #[.val (.int p1), .val (.int p2), .val (.int p3), .val (.int p4), .val (.int (p1 &&& (3 : Int32))), .val (.int c101), .val (.int c103), .val (.int c106), .val (.int (own_10 c101)), .val (.int (own_l9 c101 c103 (own_10 c101))), .val (.int (own_l10 c101 c103 (own_10 c101) (own_l9 c101 c103 (own_10 c101)))), .val (.int (own_l11 c106 (own_l10 c101 c103 (own_10 c101) (own_l9 c101 c103 (own_10 c101))))), .val (.ref b168), .val (.int (1 : Int32))] [])) _
              exact kt
            exact ⟨_, _, X232, N232, Heq232, fun t kt => pre239 t kt⟩
        obtain ⟨fs, hr, hrun, hended, hEnd⟩ := X231.leaveW hS227 (by rw [e231]; exact (Nat.le_refl _)) (v := some (.int (1 : Int32))) (fun h => by rw [Bd.returns] at h; cases h)
        refine ⟨_, _, pre231 _ ?_, hrun, hended, _, _, rfl, ?_, (show CHr Z own_EL s.vm s.heap T231.vm T231.heap from by rw [hh, e231]; exact Cr227.trans (CHv.at X231 hZ hEL Hc227)), hEnd.1, hEnd.2.1, hEnd.2.2.1, hEnd.2.2.2.mono (by decide) (by decide)⟩
        · skip
          show Steps p.tables e below (T231.setTop (mkF m 302 #[.val (.int p1), .val (.int p2), .val (.int p3), .val (.int p4), .val (.int (p1 &&& (3 : Int32))), .val (.int c101), .val (.int c103), .val (.int c106), .val (.int (own_10 c101)), .val (.int (own_l9 c101 c103 (own_10 c101))), .val (.int (own_l10 c101 c103 (own_10 c101) (own_l9 c101 c103 (own_10 c101)))), .val (.int (own_l11 c106 (own_l10 c101 c103 (own_10 c101) (own_l9 c101 c103 (own_10 c101))))), .val (.ref b168), .val (.int (1 : Int32))] [])) _
          refine XS.iload X231.here hx rfl (hb hby at_302) rfl ?_
          show Steps p.tables e below (T231.setTop (mkF m 304 #[.val (.int p1), .val (.int p2), .val (.int p3), .val (.int p4), .val (.int (p1 &&& (3 : Int32))), .val (.int c101), .val (.int c103), .val (.int c106), .val (.int (own_10 c101)), .val (.int (own_l9 c101 c103 (own_10 c101))), .val (.int (own_l10 c101 c103 (own_10 c101) (own_l9 c101 c103 (own_10 c101)))), .val (.int (own_l11 c106 (own_l10 c101 c103 (own_10 c101) (own_l9 c101 c103 (own_10 c101))))), .val (.ref b168), .val (.int (1 : Int32))] [(.int (1 : Int32))])) _
          exact retN X231 hx (t := .boolean) Bd.returns (by simp) (hb hby at_304) hr
        · show Q0 Z p1 p2 p3 p4 em cz h0 n0 _ T231.heap _
          rw [e231]
          exact ⟨rfl, N231⟩
set_option maxRecDepth 65536 in
set_option maxHeartbeats 40000000 in
theorem comes_1 {Post : Tables → Env → Array Value → State → Outcome → State → Prop} (hpost : ∀ tb e args s v u, (limb_1_1.after args s (.returned v) u = true ∧ limb_1_2.after args s (.returned v) u = true ∧ True) → Jvm.D.FramedW s (.returned v) u (Jvm.fieldLocs frame_1_writes args s ++ Jvm.arrayLocs frame_1_arrays args s ++ Jvm.staticLocs frame_1_statics s) 48 1472 → Post tb e args s (.returned v) u) :
    ArmFor flags0 classFile x code maxLocals ret World_1 tables_1 room_1 Calls_1 rest_1 Pre_1 Post := by
  intro l hfl _ _ p e ha hc hk s m args below hf hA hF happ hP
  obtain ⟨hcalls, hrest, hpre⟩ := hP
  obtain ⟨-, -, -, hnamed, -, -, -, hat⟩ := (Spec.applies_iff hf).mp happ
  obtain ⟨hg, hn⟩ := and_e (Cond.before_iff.mp (show (Jvm.Cond.and given_1 narrow_1).before args s = true from hpre))
  obtain ⟨gc, ga0⟩ := and_e hg
  obtain ⟨gv0, ga1⟩ := and_e ga0
  obtain ⟨gv1, ga2⟩ := and_e ga1
  obtain ⟨gv2, ga3⟩ := and_e ga2
  obtain ⟨w0, w1, w2, w3, rfl⟩ : ∃ w0 w1 w2 w3 : Value, args = #[w0, w1, w2, w3] := by
    have hs : args.size = 4 := by simpa [Cond.value, given_1] using gc
    obtain ⟨L⟩ := args
    match L, hs with
    | [w0, w1, w2, w3], _ => exact ⟨w0, w1, w2, w3, rfl⟩
  have hw := fun d (hd : d ∈ tables_1) => atoms_spec (ws := Jvm.Cond.code x code maxLocals ret :: tables_1) hat d (List.mem_cons_of_mem _ hd)
  have hfit : Fit s := fun {y c} hc i hi => by
    obtain ⟨ha, rfl⟩ := Array.getElem?_eq_some_iff.mp hc
    have q := List.all_eq_true.mp ((Array.all_eq_true_iff_forall_mem.mp hF) _ (Array.getElem_mem ha)) i (List.mem_range.mpr hi)
    simpa [Array.getElem?_eq_getElem hi] using q
  obtain ⟨i0, ei0⟩ := is_v gv0
  obtain rfl : w0 = (.int i0) := Option.some.inj ei0
  obtain ⟨i1, ei1⟩ := is_v gv1
  obtain rfl : w1 = (.int i1) := Option.some.inj ei1
  obtain ⟨i2, ei2⟩ := is_v gv2
  obtain rfl : w2 = (.int i2) := Option.some.inj ei2
  obtain ⟨i3, ei3⟩ := is_v ga3
  obtain rfl : w3 = (.int i3) := Option.some.inj ei3
  obtain ⟨hsets, hown0⟩ := atoms_of _ (rest_1_c_eq ▸ (show rest_1_c.before _ s = true from hrest))
  have hr0 := Cond.before_iff.mp hown0
  obtain ⟨em, vm⟩ := exa_v (Cond.before_iff.mp (hsets _ (List.mem_of_getElem? (i := 2) rfl)))
  have Sm := Sta.start vm (Or.inl (hsets _ (List.mem_of_getElem? (i := 1) rfl)))
  obtain ⟨cz, vcs⟩ := is_v (Cond.before_iff.mp (hsets _ (List.mem_of_getElem? (i := 8) rfl)))
  have Scs := Sta.start vcs (Or.inl (hsets _ (List.mem_of_getElem? (i := 7) rfl)))
  have hcs : ¬ (cz = (0 : Int32)) := own_nz vcs (Cond.before_iff.mp (hsets _ (List.mem_of_getElem? (i := 9) rfl)))
  have hEL : EW s _ own_EL := (EW.cons (hw _ (List.mem_of_getElem? (i := 104) rfl)) (by decide +kernel) EW.nil)
  have CH : CHv s own_EL s.vm s.heap := CHv.start hEL (fun p hp => hcalls.1 p hp) (hsets _ (List.mem_of_getElem? (i := 9) rfl)) (hw _ (List.mem_of_getElem? (i := 107) rfl)) (hw _ (List.mem_of_getElem? (i := 106) rfl))
  obtain ⟨n, o, h1, h2, h3, _, L, rfl, ⟨rfl, N⟩, -, hq⟩ := rm0 l s _ hw tables_1 hEL i0 i1 i2 i3 em cz s.heap s.heap.size (Nat.le_refl _) Sm Scs hcs p e ha hc hk s m _ below hf ((Spec.applies_iff_loose hf).mp happ).1 ⟨rfl, State.Warmed39.refl s, rfl, CH⟩ trivial
  refine ⟨n, _, h1, h2, h3, hpost _ _ _ _ _ _ ⟨Cond.after_iff.mpr rfl, Cond.after_iff.mpr (eq_i res_at (Term.int_eval (1)) rfl), trivial⟩ ⟨hq.1, hq.2.1, hq.2.2.1, (hq.2.2.2.sift fun y hy => Or.inr (N y hy)).mono (by decide) (by decide)⟩⟩
theorem main_1_1 : Claimed_1_1 := comes_1 fun _ _ _ _ _ _ h hF => ⟨h.1, hF⟩
theorem main_1_2 : Claimed_1_2 := comes_1 fun _ _ _ _ _ _ h hF => ⟨h.2.1, hF⟩
end Jvm.Pilot.@@N@@
namespace Jvm.Pilot.@@N@@
open Jvm Jvm.ClassFile Sem Op Lib Jvm.Free Jvm.Stand Jvm.Pilot.@@N@@.Jvm.D
/-! MADE BY PROGRAM (witnessworld.py) out of the Statement's table words and the real class files: 32 classes; the members and pool entries that the words name. The judged class is class 1, her method 4. -/
namespace start1
open Jvm.ClassFile
def u (s : String) : CpInfo := .utf8 (stringToUtf16 s)
/-- a pool by its gaps: so many unusable entries, then the entry; so many at the end -/
def gap : Nat → List CpInfo → List CpInfo
  | 0, r => r
  | n + 1, r => .unusable :: gap n r
def poolList (es : List (Nat × CpInfo)) (last : Nat) : List CpInfo := es.foldr (fun e r => gap e.1 (e.2 :: r)) (gap last [])
def pool (es : List (Nat × CpInfo)) (last : Nat) : Array CpInfo := ⟨poolList es last⟩
def fileOf (pool : Array CpInfo) (this : Nat) (attrs : Array Attribute := #[]) (ms : Array MethodInfo := #[]) (fl : Nat := 33) (sup : Nat := 0) (ifs : Array Nat := #[]) (fds : Array FieldInfo := #[]) : ClassFile where
  minorVersion := 0
  majorVersion := 65
  constantPool := pool
  accessFlags := fl
  thisClass := this
  superClass := sup
  interfaces := ifs
  fields := fds
  methods := ms
  attributes := attrs
def plain (name : String) (sup : Option ClassId) : Class where
  name := name
  kind := .ordinary
  loader := none
  accessFlags := 33
  super := sup
  interfaces := #[]
  cf := none
  fields := #[]
  methods := #[]
  instanceTypes := #[]
  staticTypes := #[]
  resolved := #[]
  callSites := []
  init := .initialized
  statics := none
  mirror := none

def pool0 : Array CpInfo := pool [(5, u "<init>"), (0, u "()V"), (1, .class_ 10), (1, u "java/lang/Object")] 113

def k0c0 : Code := { maxStack := 0, maxLocals := 1, code := object_method_1_code, exceptionTable := #[], attributes := #[] }
def k0m0 : Method := { name := "<init>", desc := "()V", sig := { parameters := [], returnType := none }, accessFlags := 1, code := some k0c0 }
/-- java/lang/Object -/
def k0 : Class := { plain "java/lang/Object" none with
  accessFlags := 33
  interfaces := #[]
  cf := some (fileOf pool0 8 #[] #[{ accessFlags := 1, nameIndex := 5, descriptorIndex := 6, attributes := #[] }] 33 0 #[] #[])
  fields := #[]
  methods := #[k0m0]
  instanceTypes := #[]
  staticTypes := #[]
  resolved := Array.replicate 124 none
  statics := none }

def pool1 : Array CpInfo := pool [(2, .class_ 4), (0, .nameAndType 5 6), (0, u "java/lang/Object"), (0, u "<init>"), (0, u "()V"), (0, .methodref 8 9), (0, .class_ 10), (0, .nameAndType 11 12), (0, u "com/example/rouse/rouse/shell/ShellWordsContinuesPinLaw"), (0, u "keeps"), (0, u "(C)Z"), (0, .methodref 8 14), (0, .nameAndType 15 16), (0, u "draw"), (0, u "(I)C"), (0, .methodref 8 18), (0, .nameAndType 19 20), (0, u "open"), (0, u "(ICC)Z"), (0, .class_ 22), (0, u "com/example/rouse/rouse/shell/ShellWords"), (0, .methodref 21 3), (0, .methodref 21 25), (0, .nameAndType 26 27), (0, u "continues"), (0, u "()Z"), (0, .methodref 21 29), (0, .nameAndType 30 31), (0, u "read"), (0, u "(C)Ljava/lang/Iterable;"), (5, u "law"), (0, u "(IIII)Z")] 2

def k1m0 : Method := { name := "<init>", desc := "()V", sig := { parameters := [], returnType := none }, accessFlags := 1, code := none }
def k1c1 : Code := { maxStack := 4, maxLocals := 4, code := method_2_code, exceptionTable := #[], attributes := #[] }
def k1m1 : Method := { name := "draw", desc := "(I)C", sig := { parameters := [.int], returnType := some .char }, accessFlags := 10, code := some k1c1 }
def k1c2 : Code := { maxStack := 2, maxLocals := 1, code := method_3_code, exceptionTable := #[], attributes := #[] }
def k1m2 : Method := { name := "keeps", desc := "(C)Z", sig := { parameters := [.char], returnType := some .boolean }, accessFlags := 10, code := some k1c2 }
def k1c3 : Code := { maxStack := 2, maxLocals := 3, code := method_4_code, exceptionTable := #[], attributes := #[] }
def k1m3 : Method := { name := "open", desc := "(ICC)Z", sig := { parameters := [.int, .char, .char], returnType := some .boolean }, accessFlags := 10, code := some k1c3 }
def k1c4 : Code := { maxStack := 3, maxLocals := 14, code := code, exceptionTable := #[], attributes := #[] }
def k1m4 : Method := { name := "law", desc := "(IIII)Z", sig := { parameters := [.int, .int, .int, .int], returnType := some .boolean }, accessFlags := 9, code := some k1c4 }
/-- com/example/rouse/rouse/shell/ShellWordsContinuesPinLaw -/
def k1 : Class := { plain "com/example/rouse/rouse/shell/ShellWordsContinuesPinLaw" (some 0) with
  accessFlags := 49
  interfaces := #[]
  cf := some (fileOf pool1 8 #[] #[{ accessFlags := 1, nameIndex := 5, descriptorIndex := 6, attributes := #[] }, { accessFlags := 10, nameIndex := 15, descriptorIndex := 16, attributes := #[] }, { accessFlags := 10, nameIndex := 11, descriptorIndex := 12, attributes := #[] }, { accessFlags := 10, nameIndex := 19, descriptorIndex := 20, attributes := #[] }, { accessFlags := 9, nameIndex := 37, descriptorIndex := 38, attributes := #[] }] 49 2 #[] #[])
  fields := #[]
  methods := #[k1m0, k1m1, k1m2, k1m3, k1m4]
  instanceTypes := #[]
  staticTypes := #[]
  resolved := Array.replicate 41 none
  statics := none }

def pool2 : Array CpInfo := pool [(1, .class_ 2), (0, u "com/example/rouse/rouse/shell/ShellWords"), (0, .methodref 4 5), (0, .class_ 6), (0, .nameAndType 7 8), (0, u "java/lang/Object"), (0, u "<init>"), (0, u "()V"), (0, .methodref 1 10), (0, .nameAndType 11 12), (0, u "newLine"), (0, u "()Lcom/example/rouse/rouse/shell/CommandLine;"), (0, .fieldref 1 14), (0, .nameAndType 15 16), (0, u "line"), (0, u "Lcom/example/rouse/rouse/shell/CommandLine;"), (0, .fieldref 1 18), (0, .nameAndType 19 20), (0, u "skippingLine"), (0, u "Z"), (0, .interfaceMethodref 22 23), (0, .class_ 24), (0, .nameAndType 25 26), (0, u "java/util/List"), (0, u "of"), (0, u "()Ljava/util/List;"), (0, .fieldref 1 28), (0, .nameAndType 29 30), (0, u "quote"), (0, u "C"), (0, .fieldref 1 32), (0, .nameAndType 33 20), (0, u "escaped"), (0, .fieldref 1 35), (0, .nameAndType 36 20), (0, u "inComment"), (0, .methodref 1 38), (0, .nameAndType 39 40), (0, u "endCommandLine"), (0, u "()Ljava/lang/Iterable;"), (0, .fieldref 1 42), (0, .nameAndType 43 44), (0, u "length"), (0, u "I"), (0, .integer 1048576), (6, .methodref 1 53), (0, .nameAndType 54 55), (0, u "readInWords"), (0, u "(C)V"), (0, .string 57), (0, u "$`\"\\\n"), (0, .methodref 59 60), (0, .class_ 61), (0, .nameAndType 62 63), (0, u "java/lang/String"), (0, u "indexOf"), (0, u "(I)I"), (0, .methodref 65 66), (0, .class_ 67), (0, .nameAndType 68 55), (0, u "com/example/rouse/rouse/shell/CommandLine"), (0, u "append"), (0, .fieldref 1 70), (0, .nameAndType 71 20), (0, u "inWord"), (0, .methodref 1 73), (0, .nameAndType 74 8), (0, u "endWord"), (0, .methodref 65 76), (0, .nameAndType 77 78), (0, u "commandHasWords"), (0, u "()Z"), (2, .methodref 65 82), (0, .nameAndType 83 8), (0, u "endCommand"), (2, .methodref 65 73), (0, .integer 524288), (0, .methodref 65 89), (0, .nameAndType 7 90), (0, u "(II)V"), (5, u "MAX_COMMAND_LINE"), (1, u "MAX_WORDS"), (0, u "ESCAPED_IN_DOUBLE_QUOTES"), (0, u "Ljava/lang/String;"), (2, u "read"), (0, u "(C)Ljava/lang/Iterable;"), (7, u "continues")] 6

def k2c0 : Code := { maxStack := 2, maxLocals := 1, code := prog_69_method_1_code, exceptionTable := #[], attributes := #[] }
def k2m0 : Method := { name := "<init>", desc := "()V", sig := { parameters := [], returnType := none }, accessFlags := 0, code := some k2c0 }
def k2c1 : Code := { maxStack := 3, maxLocals := 3, code := prog_69_method_2_code, exceptionTable := #[], attributes := #[] }
def k2m1 : Method := { name := "read", desc := "(C)Ljava/lang/Iterable;", sig := { parameters := [.char], returnType := some (.object "java/lang/Iterable") }, accessFlags := 0, code := some k2c1 }
def k2c2 : Code := { maxStack := 3, maxLocals := 2, code := prog_69_method_3_code, exceptionTable := #[], attributes := #[] }
def k2m2 : Method := { name := "readInWords", desc := "(C)V", sig := { parameters := [.char], returnType := none }, accessFlags := 2, code := some k2c2 }
def k2c3 : Code := { maxStack := 1, maxLocals := 1, code := prog_69_method_5_code, exceptionTable := #[], attributes := #[] }
def k2m3 : Method := { name := "continues", desc := "()Z", sig := { parameters := [], returnType := some .boolean }, accessFlags := 0, code := some k2c3 }
def k2c4 : Code := { maxStack := 2, maxLocals := 1, code := prog_69_method_6_code, exceptionTable := #[], attributes := #[] }
def k2m4 : Method := { name := "endWord", desc := "()V", sig := { parameters := [], returnType := none }, accessFlags := 2, code := some k2c4 }
def k2c5 : Code := { maxStack := 2, maxLocals := 2, code := prog_69_method_7_code, exceptionTable := #[], attributes := #[] }
def k2m5 : Method := { name := "endCommandLine", desc := "()Ljava/lang/Iterable;", sig := { parameters := [], returnType := some (.object "java/lang/Iterable") }, accessFlags := 2, code := some k2c5 }
def k2c6 : Code := { maxStack := 4, maxLocals := 0, code := prog_69_method_8_code, exceptionTable := #[], attributes := #[] }
def k2m6 : Method := { name := "newLine", desc := "()Lcom/example/rouse/rouse/shell/CommandLine;", sig := { parameters := [], returnType := some (.object "com/example/rouse/rouse/shell/CommandLine") }, accessFlags := 10, code := some k2c6 }
/-- com/example/rouse/rouse/shell/ShellWords -/
def k2 : Class := { plain "com/example/rouse/rouse/shell/ShellWords" (some 0) with
  accessFlags := 48
  interfaces := #[]
  cf := some (fileOf pool2 1 #[] #[{ accessFlags := 0, nameIndex := 7, descriptorIndex := 8, attributes := #[] }, { accessFlags := 0, nameIndex := 103, descriptorIndex := 104, attributes := #[] }, { accessFlags := 2, nameIndex := 54, descriptorIndex := 55, attributes := #[] }, { accessFlags := 0, nameIndex := 112, descriptorIndex := 78, attributes := #[] }, { accessFlags := 2, nameIndex := 74, descriptorIndex := 8, attributes := #[] }, { accessFlags := 2, nameIndex := 39, descriptorIndex := 40, attributes := #[] }, { accessFlags := 10, nameIndex := 11, descriptorIndex := 12, attributes := #[] }] 48 4 #[] #[{ accessFlags := 24, nameIndex := 96, descriptorIndex := 44, attributes := #[] }, { accessFlags := 24, nameIndex := 98, descriptorIndex := 44, attributes := #[] }, { accessFlags := 26, nameIndex := 99, descriptorIndex := 100, attributes := #[] }, { accessFlags := 2, nameIndex := 15, descriptorIndex := 16, attributes := #[] }, { accessFlags := 2, nameIndex := 71, descriptorIndex := 20, attributes := #[] }, { accessFlags := 2, nameIndex := 29, descriptorIndex := 30, attributes := #[] }, { accessFlags := 2, nameIndex := 33, descriptorIndex := 20, attributes := #[] }, { accessFlags := 2, nameIndex := 36, descriptorIndex := 20, attributes := #[] }, { accessFlags := 2, nameIndex := 19, descriptorIndex := 20, attributes := #[] }, { accessFlags := 2, nameIndex := 43, descriptorIndex := 44, attributes := #[] }])
  fields := #[{ name := "MAX_COMMAND_LINE", type := .int, accessFlags := 24, slot := 0, constantValue := 0 }, { name := "MAX_WORDS", type := .int, accessFlags := 24, slot := 1, constantValue := 0 }, { name := "ESCAPED_IN_DOUBLE_QUOTES", type := (.object "java/lang/String"), accessFlags := 26, slot := 2, constantValue := 0 }, { name := "line", type := (.object "com/example/rouse/rouse/shell/CommandLine"), accessFlags := 2, slot := 0, constantValue := 0 }, { name := "inWord", type := .boolean, accessFlags := 2, slot := 1, constantValue := 0 }, { name := "quote", type := .char, accessFlags := 2, slot := 2, constantValue := 0 }, { name := "escaped", type := .boolean, accessFlags := 2, slot := 3, constantValue := 0 }, { name := "inComment", type := .boolean, accessFlags := 2, slot := 4, constantValue := 0 }, { name := "skippingLine", type := .boolean, accessFlags := 2, slot := 5, constantValue := 0 }, { name := "length", type := .int, accessFlags := 2, slot := 6, constantValue := 0 }]
  methods := #[k2m0, k2m1, k2m2, k2m3, k2m4, k2m5, k2m6]
  instanceTypes := #[(.object "com/example/rouse/rouse/shell/CommandLine"), .boolean, .char, .boolean, .boolean, .boolean, .int]
  staticTypes := #[.int, .int, (.object "java/lang/String")]
  resolved := Array.replicate 119 none
  statics := none }

def pool3 : Array CpInfo := pool [(8, .class_ 10), (1, u "java/lang/Iterable"), (24, .class_ 36), (0, u "java/lang/Object")] 25

/-- java/lang/Iterable -/
def k3 : Class := { plain "java/lang/Iterable" (some 0) with
  accessFlags := 1537
  interfaces := #[]
  cf := some (fileOf pool3 8 #[] #[] 1537 35 #[] #[])
  fields := #[]
  methods := #[]
  instanceTypes := #[]
  staticTypes := #[]
  resolved := Array.replicate 62 none
  statics := none }

def pool4 : Array CpInfo := pool [(1, .methodref 2 3), (0, .class_ 4), (0, .nameAndType 5 6), (0, u "java/lang/Object"), (0, u "<init>"), (0, u "()V"), (0, .class_ 8), (0, u "com/example/rouse/rouse/shell/CommandLine"), (0, .fieldref 7 10), (0, .nameAndType 11 12), (0, u "characters"), (0, u "[C"), (0, .fieldref 7 14), (0, .nameAndType 15 16), (0, u "wordEnds"), (0, u "[I"), (0, .fieldref 7 18), (0, .nameAndType 19 20), (0, u "maxCharacters"), (0, u "I"), (0, .fieldref 7 22), (0, .nameAndType 23 20), (0, u "maxWords"), (0, .fieldref 7 25), (0, .nameAndType 26 20), (0, u "length"), (0, .methodref 28 29), (0, .class_ 30), (0, .nameAndType 31 32), (0, u "java/lang/Math"), (0, u "min"), (0, u "(II)I"), (6, .fieldref 7 40), (0, .nameAndType 41 20), (0, u "words"), (3, .fieldref 7 46), (0, .nameAndType 47 20), (0, u "commandStart"), (0, .class_ 49), (0, u "com/example/rouse/rouse/shell/CommandLine$1"), (7, .class_ 58), (0, u "java/lang/Iterable"), (0, u "FIRST_CAPACITY"), (2, u "(II)V"), (2, u "append"), (0, u "(C)V"), (1, u "endWord"), (0, u "commandHasWords"), (0, u "()Z"), (0, u "endCommand"), (9, .class_ 82), (0, u "com/example/rouse/rouse/shell/CommandLine$Words")] 2

def k4c0 : Code := { maxStack := 2, maxLocals := 3, code := prog_64_method_1_code, exceptionTable := #[], attributes := #[] }
def k4m0 : Method := { name := "<init>", desc := "(II)V", sig := { parameters := [.int, .int], returnType := none }, accessFlags := 0, code := some k4c0 }
def k4c1 : Code := { maxStack := 5, maxLocals := 2, code := prog_64_method_2_code, exceptionTable := #[], attributes := #[] }
def k4m1 : Method := { name := "append", desc := "(C)V", sig := { parameters := [.char], returnType := none }, accessFlags := 0, code := some k4c1 }
def k4c2 : Code := { maxStack := 5, maxLocals := 1, code := prog_64_method_3_code, exceptionTable := #[], attributes := #[] }
def k4m2 : Method := { name := "endWord", desc := "()V", sig := { parameters := [], returnType := none }, accessFlags := 0, code := some k4c2 }
def k4c3 : Code := { maxStack := 2, maxLocals := 1, code := prog_64_method_4_code, exceptionTable := #[], attributes := #[] }
def k4m3 : Method := { name := "commandHasWords", desc := "()Z", sig := { parameters := [], returnType := some .boolean }, accessFlags := 0, code := some k4c3 }
def k4c4 : Code := { maxStack := 5, maxLocals := 1, code := prog_64_method_5_code, exceptionTable := #[], attributes := #[] }
def k4m4 : Method := { name := "endCommand", desc := "()V", sig := { parameters := [], returnType := none }, accessFlags := 0, code := some k4c4 }
/-- com/example/rouse/rouse/shell/CommandLine -/
def k4 : Class := { plain "com/example/rouse/rouse/shell/CommandLine" (some 0) with
  accessFlags := 48
  interfaces := #[3]
  cf := some (fileOf pool4 7 #[.nestMembers #[81, 48]] #[{ accessFlags := 0, nameIndex := 5, descriptorIndex := 62, attributes := #[] }, { accessFlags := 0, nameIndex := 65, descriptorIndex := 66, attributes := #[] }, { accessFlags := 0, nameIndex := 68, descriptorIndex := 6, attributes := #[] }, { accessFlags := 0, nameIndex := 69, descriptorIndex := 70, attributes := #[] }, { accessFlags := 0, nameIndex := 71, descriptorIndex := 6, attributes := #[] }] 48 2 #[57] #[{ accessFlags := 26, nameIndex := 59, descriptorIndex := 20, attributes := #[] }, { accessFlags := 18, nameIndex := 19, descriptorIndex := 20, attributes := #[] }, { accessFlags := 18, nameIndex := 23, descriptorIndex := 20, attributes := #[] }, { accessFlags := 2, nameIndex := 11, descriptorIndex := 12, attributes := #[] }, { accessFlags := 2, nameIndex := 26, descriptorIndex := 20, attributes := #[] }, { accessFlags := 2, nameIndex := 15, descriptorIndex := 16, attributes := #[] }, { accessFlags := 2, nameIndex := 41, descriptorIndex := 20, attributes := #[] }, { accessFlags := 2, nameIndex := 47, descriptorIndex := 20, attributes := #[] }])
  fields := #[{ name := "FIRST_CAPACITY", type := .int, accessFlags := 26, slot := 0, constantValue := 0 }, { name := "maxCharacters", type := .int, accessFlags := 18, slot := 0, constantValue := 0 }, { name := "maxWords", type := .int, accessFlags := 18, slot := 1, constantValue := 0 }, { name := "characters", type := (.array .char), accessFlags := 2, slot := 2, constantValue := 0 }, { name := "length", type := .int, accessFlags := 2, slot := 3, constantValue := 0 }, { name := "wordEnds", type := (.array .int), accessFlags := 2, slot := 4, constantValue := 0 }, { name := "words", type := .int, accessFlags := 2, slot := 5, constantValue := 0 }, { name := "commandStart", type := .int, accessFlags := 2, slot := 6, constantValue := 0 }]
  methods := #[k4m0, k4m1, k4m2, k4m3, k4m4]
  instanceTypes := #[.int, .int, (.array .char), .int, (.array .int), .int, .int]
  staticTypes := #[.int]
  resolved := Array.replicate 85 none
  statics := none }

def pool5 : Array CpInfo := pool [(10, .class_ 12), (1, u "java/util/Collection"), (47, .class_ 61), (0, u "java/lang/Object"), (0, .class_ 63), (0, u "java/lang/Iterable")] 51

/-- java/util/Collection -/
def k5 : Class := { plain "java/util/Collection" (some 0) with
  accessFlags := 1537
  interfaces := #[3]
  cf := some (fileOf pool5 10 #[] #[] 1537 60 #[62] #[])
  fields := #[]
  methods := #[]
  instanceTypes := #[]
  staticTypes := #[]
  resolved := Array.replicate 115 none
  statics := none }

def pool6 : Array CpInfo := pool [(8, .class_ 10), (1, u "java/util/SequencedCollection"), (15, .class_ 27), (0, u "java/lang/Object"), (0, .class_ 29), (0, u "java/util/Collection")] 27

/-- java/util/SequencedCollection -/
def k6 : Class := { plain "java/util/SequencedCollection" (some 0) with
  accessFlags := 1537
  interfaces := #[5]
  cf := some (fileOf pool6 8 #[] #[] 1537 26 #[28] #[])
  fields := #[]
  methods := #[]
  instanceTypes := #[]
  staticTypes := #[]
  resolved := Array.replicate 57 none
  statics := none }

def pool7 : Array CpInfo := pool [(8, .class_ 10), (1, u "java/util/List"), (77, u "of"), (1, .fieldref 91 92), (0, .class_ 93), (0, .nameAndType 94 95), (0, u "java/util/ImmutableCollections"), (0, u "EMPTY_LIST"), (0, u "Ljava/util/ImmutableCollections$ListN;"), (7, .class_ 104), (0, u "java/lang/Object"), (14, u "()Ljava/util/List;"), (0, .class_ 121), (0, u "java/util/SequencedCollection")] 129

def k7c0 : Code := { maxStack := 1, maxLocals := 0, code := jdk_40_method_36_code, exceptionTable := #[], attributes := #[] }
def k7m0 : Method := { name := "of", desc := "()Ljava/util/List;", sig := { parameters := [], returnType := some (.object "java/util/List") }, accessFlags := 9, code := some k7c0 }
/-- java/util/List -/
def k7 : Class := { plain "java/util/List" (some 0) with
  accessFlags := 1537
  interfaces := #[6]
  cf := some (fileOf pool7 8 #[] #[{ accessFlags := 9, nameIndex := 88, descriptorIndex := 119, attributes := #[] }] 1537 103 #[120] #[])
  fields := #[]
  methods := #[k7m0]
  instanceTypes := #[]
  staticTypes := #[]
  resolved := Array.replicate 251 none
  statics := none }

def pool8 : Array CpInfo := pool [(2, .class_ 4), (1, u "java/lang/Object"), (0, u "<init>"), (0, u "()V"), (3, .class_ 11), (0, u "java/util/ImmutableCollections$List12"), (0, .class_ 13), (0, u "java/util/ImmutableCollections$ListN"), (3, u "Z"), (29, .class_ 49), (1, u "java/util/ImmutableCollections"), (0, u "$assertionsDisabled"), (5, u "[Ljava/lang/Object;"), (5, u "EMPTY_LIST"), (0, u "Ljava/util/ImmutableCollections$ListN;"), (8, u "EMPTY_LIST_NULLS"), (22, u "SALT32L"), (0, u "J"), (2, u "REVERSE"), (6, u "archivedObjects"), (2, u "EMPTY"), (0, u "Ljava/lang/Object;"), (0, .class_ 112), (0, u "java/util/ImmutableCollections$SetN"), (5, u "EMPTY_SET"), (0, u "Ljava/util/ImmutableCollections$SetN;"), (0, .class_ 121), (0, u "java/util/ImmutableCollections$MapN"), (3, u "EMPTY_MAP"), (0, u "Ljava/util/ImmutableCollections$MapN;"), (4, u "EXPAND_FACTOR"), (0, u "I"), (36, .class_ 170), (0, u "java/util/ImmutableCollections$MapN$MapNIterator"), (0, .class_ 172), (0, u "java/util/ImmutableCollections$MapN$1"), (0, .class_ 174), (0, u "java/util/ImmutableCollections$Map1"), (0, .class_ 176), (0, u "java/util/ImmutableCollections$AbstractImmutableMap"), (0, .class_ 178), (0, u "java/util/ImmutableCollections$SetN$SetNIterator"), (0, .class_ 180), (0, u "java/util/ImmutableCollections$Set12"), (0, .class_ 182), (0, u "java/util/ImmutableCollections$Set12$1"), (0, .class_ 184), (0, u "java/util/ImmutableCollections$AbstractImmutableSet"), (0, .class_ 186), (0, u "java/util/ImmutableCollections$SubList"), (0, .class_ 188), (0, u "java/util/ImmutableCollections$ListItr"), (0, .class_ 190), (0, u "java/util/ImmutableCollections$AbstractImmutableList"), (0, .class_ 192), (0, u "java/util/ImmutableCollections$AbstractImmutableCollection"), (0, .class_ 194), (0, u "java/util/ImmutableCollections$Access"), (0, .class_ 196), (0, u "java/util/ImmutableCollections$Access$1")] 16

def k8m0 : Method := { name := "<init>", desc := "()V", sig := { parameters := [], returnType := none }, accessFlags := 2, code := none }
/-- java/util/ImmutableCollections -/
def k8 : Class := { plain "java/util/ImmutableCollections" (some 0) with
  accessFlags := 32
  interfaces := #[]
  cf := some (fileOf pool8 47 #[.nestMembers #[120, 169, 171, 173, 175, 111, 177, 179, 181, 183, 12, 10, 185, 187, 189, 191, 193, 195]] #[{ accessFlags := 2, nameIndex := 5, descriptorIndex := 6, attributes := #[] }] 32 2 #[] #[{ accessFlags := 26, nameIndex := 95, descriptorIndex := 96, attributes := #[] }, { accessFlags := 26, nameIndex := 99, descriptorIndex := 17, attributes := #[] }, { accessFlags := 10, nameIndex := 106, descriptorIndex := 56, attributes := #[] }, { accessFlags := 26, nameIndex := 109, descriptorIndex := 110, attributes := #[] }, { accessFlags := 24, nameIndex := 62, descriptorIndex := 63, attributes := #[] }, { accessFlags := 24, nameIndex := 72, descriptorIndex := 63, attributes := #[] }, { accessFlags := 24, nameIndex := 118, descriptorIndex := 119, attributes := #[] }, { accessFlags := 24, nameIndex := 125, descriptorIndex := 126, attributes := #[] }, { accessFlags := 24, nameIndex := 131, descriptorIndex := 132, attributes := #[] }, { accessFlags := 4120, nameIndex := 50, descriptorIndex := 17, attributes := #[] }])
  fields := #[{ name := "SALT32L", type := .long, accessFlags := 26, slot := 0, constantValue := 0 }, { name := "REVERSE", type := .boolean, accessFlags := 26, slot := 1, constantValue := 0 }, { name := "archivedObjects", type := (.array (.object "java/lang/Object")), accessFlags := 10, slot := 2, constantValue := 0 }, { name := "EMPTY", type := (.object "java/lang/Object"), accessFlags := 26, slot := 3, constantValue := 0 }, { name := "EMPTY_LIST", type := (.object "java/util/ImmutableCollections$ListN"), accessFlags := 24, slot := 4, constantValue := 0 }, { name := "EMPTY_LIST_NULLS", type := (.object "java/util/ImmutableCollections$ListN"), accessFlags := 24, slot := 5, constantValue := 0 }, { name := "EMPTY_SET", type := (.object "java/util/ImmutableCollections$SetN"), accessFlags := 24, slot := 6, constantValue := 0 }, { name := "EMPTY_MAP", type := (.object "java/util/ImmutableCollections$MapN"), accessFlags := 24, slot := 7, constantValue := 0 }, { name := "EXPAND_FACTOR", type := .int, accessFlags := 24, slot := 8, constantValue := 0 }, { name := "$assertionsDisabled", type := .boolean, accessFlags := 4120, slot := 9, constantValue := 0 }]
  methods := #[k8m0]
  instanceTypes := #[]
  staticTypes := #[.long, .boolean, (.array (.object "java/lang/Object")), (.object "java/lang/Object"), (.object "java/util/ImmutableCollections$ListN"), (.object "java/util/ImmutableCollections$ListN"), (.object "java/util/ImmutableCollections$SetN"), (.object "java/util/ImmutableCollections$MapN"), .int, .boolean]
  resolved := Array.replicate 213 none
  statics := some 0 }

def pool9 : Array CpInfo := pool [(1, .class_ 2), (0, u "java/io/Serializable"), (0, .class_ 4), (0, u "java/lang/Object")] 2

/-- java/io/Serializable -/
def k9 : Class := { plain "java/io/Serializable" (some 0) with
  accessFlags := 1537
  interfaces := #[]
  cf := some (fileOf pool9 1 #[] #[] 1537 3 #[] #[])
  fields := #[]
  methods := #[]
  instanceTypes := #[]
  staticTypes := #[]
  resolved := Array.replicate 7 none
  statics := none }

def pool10 : Array CpInfo := pool [(1, .class_ 2), (0, u "java/lang/Comparable"), (0, .class_ 4), (0, u "java/lang/Object")] 7

/-- java/lang/Comparable -/
def k10 : Class := { plain "java/lang/Comparable" (some 0) with
  accessFlags := 1537
  interfaces := #[]
  cf := some (fileOf pool10 1 #[] #[] 1537 3 #[] #[])
  fields := #[]
  methods := #[]
  instanceTypes := #[]
  staticTypes := #[]
  resolved := Array.replicate 12 none
  statics := none }

def pool11 : Array CpInfo := pool [(2, .class_ 4), (1, u "java/lang/CharSequence"), (42, .class_ 48), (0, u "java/lang/CharSequence$1CodePointIterator"), (10, .class_ 60), (0, u "java/lang/CharSequence$1CharIterator"), (5, .class_ 67), (0, u "java/lang/Object")] 63

/-- java/lang/CharSequence -/
def k11 : Class := { plain "java/lang/CharSequence" (some 0) with
  accessFlags := 1537
  interfaces := #[]
  cf := some (fileOf pool11 2 #[.nestMembers #[47, 59]] #[] 1537 66 #[] #[])
  fields := #[]
  methods := #[]
  instanceTypes := #[]
  staticTypes := #[]
  resolved := Array.replicate 131 none
  statics := none }

def pool12 : Array CpInfo := pool [(1, .class_ 2), (0, u "java/lang/constant/Constable"), (0, .class_ 4), (0, u "java/lang/Object")] 6

/-- java/lang/constant/Constable -/
def k12 : Class := { plain "java/lang/constant/Constable" (some 0) with
  accessFlags := 1537
  interfaces := #[]
  cf := some (fileOf pool12 1 #[] #[] 1537 3 #[] #[])
  fields := #[]
  methods := #[]
  instanceTypes := #[]
  staticTypes := #[]
  resolved := Array.replicate 11 none
  statics := none }

def pool13 : Array CpInfo := pool [(1, .class_ 2), (0, u "java/lang/constant/ConstantDesc"), (0, .class_ 4), (0, u "java/lang/Object")] 32

/-- java/lang/constant/ConstantDesc -/
def k13 : Class := { plain "java/lang/constant/ConstantDesc" (some 0) with
  accessFlags := 1537
  interfaces := #[]
  cf := some (fileOf pool13 1 #[] #[] 1537 3 #[] #[])
  fields := #[]
  methods := #[]
  instanceTypes := #[]
  staticTypes := #[]
  resolved := Array.replicate 37 none
  statics := none }

def pool14 : Array CpInfo := pool [(2, .class_ 4), (1, u "java/lang/Object"), (0, u "<init>"), (0, u "()V"), (2, .fieldref 10 11), (0, .class_ 12), (0, .nameAndType 13 14), (0, u "java/lang/String"), (0, u "value"), (0, u "[B"), (0, .fieldref 10 16), (0, .nameAndType 17 18), (0, u "coder"), (0, u "B"), (2, u "hash"), (0, u "I"), (2, u "hashIsZero"), (0, u "Z"), (11, .fieldref 10 39), (0, .nameAndType 40 26), (0, u "COMPACT_STRINGS"), (66, .class_ 109), (1, u "java/lang/StringLatin1"), (32, u "()Z"), (191, u "()I"), (0, .methodref 10 336), (0, .nameAndType 17 337), (0, u "()B"), (154, .methodref 10 493), (0, .nameAndType 494 142), (0, u "isLatin1"), (10, .methodref 10 506), (0, .nameAndType 507 334), (0, u "length"), (67, .class_ 576), (0, u "java/lang/CharSequence"), (22, u "CASE_INSENSITIVE_ORDER"), (0, u "Ljava/util/Comparator;"), (32, .methodref 10 634), (0, .nameAndType 635 636), (0, u "indexOf"), (0, u "(II)I"), (0, .methodref 107 638), (0, .nameAndType 635 639), (0, u "([BIII)I"), (125, u "(I)I"), (335, u "serialPersistentFields"), (0, u "[Ljava/io/ObjectStreamField;"), (0, .class_ 1104), (0, u "java/lang/String$CaseInsensitiveComparator"), (1, .class_ 1107), (0, u "java/io/Serializable"), (0, .class_ 1109), (0, u "java/lang/Comparable"), (0, .class_ 1111), (0, u "java/lang/constant/Constable"), (0, .class_ 1113), (0, u "java/lang/constant/ConstantDesc"), (2, u "serialVersionUID"), (0, u "J"), (3, u "REPL"), (0, u "C"), (2, u "LATIN1"), (1, u "UTF16")] 323

def k14m0 : Method := { name := "<init>", desc := "()V", sig := { parameters := [], returnType := none }, accessFlags := 1, code := none }
def k14c1 : Code := { maxStack := 2, maxLocals := 1, code := jdk_42_method_54_code, exceptionTable := #[], attributes := #[] }
def k14m1 : Method := { name := "length", desc := "()I", sig := { parameters := [], returnType := some .int }, accessFlags := 1, code := some k14c1 }
def k14c2 : Code := { maxStack := 3, maxLocals := 2, code := jdk_42_method_79_code, exceptionTable := #[], attributes := #[] }
def k14m2 : Method := { name := "indexOf", desc := "(I)I", sig := { parameters := [.int], returnType := some .int }, accessFlags := 1, code := some k14c2 }
def k14c3 : Code := { maxStack := 4, maxLocals := 3, code := jdk_42_method_80_code, exceptionTable := #[], attributes := #[] }
def k14m3 : Method := { name := "indexOf", desc := "(II)I", sig := { parameters := [.int, .int], returnType := some .int }, accessFlags := 1, code := some k14c3 }
def k14c4 : Code := { maxStack := 1, maxLocals := 1, code := jdk_42_method_152_code, exceptionTable := #[], attributes := #[] }
def k14m4 : Method := { name := "coder", desc := "()B", sig := { parameters := [], returnType := some .byte }, accessFlags := 0, code := some k14c4 }
def k14c5 : Code := { maxStack := 1, maxLocals := 1, code := jdk_42_method_154_code, exceptionTable := #[], attributes := #[] }
def k14m5 : Method := { name := "isLatin1", desc := "()Z", sig := { parameters := [], returnType := some .boolean }, accessFlags := 0, code := some k14c5 }
/-- java/lang/String -/
def k14 : Class := { plain "java/lang/String" (some 0) with
  accessFlags := 49
  interfaces := #[9, 10, 11, 12, 13]
  cf := some (fileOf pool14 10 #[.nestMembers #[1103]] #[{ accessFlags := 1, nameIndex := 5, descriptorIndex := 6, attributes := #[] }, { accessFlags := 1, nameIndex := 507, descriptorIndex := 334, attributes := #[] }, { accessFlags := 1, nameIndex := 635, descriptorIndex := 765, attributes := #[] }, { accessFlags := 1, nameIndex := 635, descriptorIndex := 636, attributes := #[] }, { accessFlags := 0, nameIndex := 17, descriptorIndex := 337, attributes := #[] }, { accessFlags := 0, nameIndex := 494, descriptorIndex := 142, attributes := #[] }] 49 2 #[1106, 1108, 575, 1110, 1112] #[{ accessFlags := 18, nameIndex := 13, descriptorIndex := 14, attributes := #[] }, { accessFlags := 18, nameIndex := 17, descriptorIndex := 18, attributes := #[] }, { accessFlags := 2, nameIndex := 21, descriptorIndex := 22, attributes := #[] }, { accessFlags := 2, nameIndex := 25, descriptorIndex := 26, attributes := #[] }, { accessFlags := 26, nameIndex := 1116, descriptorIndex := 1117, attributes := #[] }, { accessFlags := 24, nameIndex := 40, descriptorIndex := 26, attributes := #[] }, { accessFlags := 26, nameIndex := 1101, descriptorIndex := 1102, attributes := #[] }, { accessFlags := 26, nameIndex := 1121, descriptorIndex := 1122, attributes := #[] }, { accessFlags := 25, nameIndex := 599, descriptorIndex := 600, attributes := #[] }, { accessFlags := 24, nameIndex := 1125, descriptorIndex := 18, attributes := #[] }, { accessFlags := 24, nameIndex := 1127, descriptorIndex := 18, attributes := #[] }])
  fields := #[{ name := "value", type := (.array .byte), accessFlags := 18, slot := 0, constantValue := 0 }, { name := "coder", type := .byte, accessFlags := 18, slot := 1, constantValue := 0 }, { name := "hash", type := .int, accessFlags := 2, slot := 2, constantValue := 0 }, { name := "hashIsZero", type := .boolean, accessFlags := 2, slot := 3, constantValue := 0 }, { name := "serialVersionUID", type := .long, accessFlags := 26, slot := 0, constantValue := 0 }, { name := "COMPACT_STRINGS", type := .boolean, accessFlags := 24, slot := 1, constantValue := 0 }, { name := "serialPersistentFields", type := (.array (.object "java/io/ObjectStreamField")), accessFlags := 26, slot := 2, constantValue := 0 }, { name := "REPL", type := .char, accessFlags := 26, slot := 3, constantValue := 0 }, { name := "CASE_INSENSITIVE_ORDER", type := (.object "java/util/Comparator"), accessFlags := 25, slot := 4, constantValue := 0 }, { name := "LATIN1", type := .byte, accessFlags := 24, slot := 5, constantValue := 0 }, { name := "UTF16", type := .byte, accessFlags := 24, slot := 6, constantValue := 0 }]
  methods := #[k14m0, k14m1, k14m2, k14m3, k14m4, k14m5]
  instanceTypes := #[(.array .byte), .byte, .int, .boolean]
  staticTypes := #[.long, .boolean, (.array (.object "java/io/ObjectStreamField")), .char, (.object "java/util/Comparator"), .byte, .byte]
  resolved := Array.replicate 1451 none
  statics := some 1 }

def pool15 : Array CpInfo := pool [(4, .class_ 6), (1, u "java/lang/Object"), (0, u "<init>"), (0, u "()V"), (5, .class_ 16), (1, u "java/lang/StringLatin1"), (21, .methodref 39 40), (0, .class_ 41), (0, .nameAndType 42 43), (0, u "java/lang/Math"), (0, u "min"), (0, u "(II)I"), (44, .methodref 14 89), (0, .nameAndType 90 91), (0, u "canEncode"), (0, u "(I)Z"), (0, .methodref 39 93), (0, .nameAndType 94 43), (0, u "max"), (0, .methodref 14 96), (0, .nameAndType 97 98), (0, u "indexOfChar"), (0, u "([BIII)I"), (2, u "indexOf"), (19, u "$assertionsDisabled"), (0, u "Z"), (98, .class_ 223), (1, u "java/lang/StringLatin1$LinesSpliterator"), (166, .class_ 391), (0, u "java/lang/StringLatin1$CharsSpliterator")] 3

def k15m0 : Method := { name := "<init>", desc := "()V", sig := { parameters := [], returnType := none }, accessFlags := 0, code := none }
def k15c1 : Code := { maxStack := 2, maxLocals := 1, code := jdk_43_method_4_code, exceptionTable := #[], attributes := #[] }
def k15m1 : Method := { name := "canEncode", desc := "(I)Z", sig := { parameters := [.int], returnType := some .boolean }, accessFlags := 9, code := some k15c1 }
def k15c2 : Code := { maxStack := 4, maxLocals := 4, code := jdk_43_method_22_code, exceptionTable := #[], attributes := #[] }
def k15m2 : Method := { name := "indexOf", desc := "([BIII)I", sig := { parameters := [(.array .byte), .int, .int, .int], returnType := some .int }, accessFlags := 9, code := some k15c2 }
def k15c3 : Code := { maxStack := 2, maxLocals := 6, code := jdk_43_method_23_code, exceptionTable := #[], attributes := #[] }
def k15m3 : Method := { name := "indexOfChar", desc := "([BIII)I", sig := { parameters := [(.array .byte), .int, .int, .int], returnType := some .int }, accessFlags := 10, code := some k15c3 }
/-- java/lang/StringLatin1 -/
def k15 : Class := { plain "java/lang/StringLatin1" (some 0) with
  accessFlags := 48
  interfaces := #[]
  cf := some (fileOf pool15 14 #[.nestMembers #[390, 221]] #[{ accessFlags := 0, nameIndex := 7, descriptorIndex := 8, attributes := #[] }, { accessFlags := 9, nameIndex := 90, descriptorIndex := 91, attributes := #[] }, { accessFlags := 9, nameIndex := 101, descriptorIndex := 98, attributes := #[] }, { accessFlags := 10, nameIndex := 97, descriptorIndex := 98, attributes := #[] }] 48 4 #[] #[{ accessFlags := 4120, nameIndex := 121, descriptorIndex := 122, attributes := #[] }])
  fields := #[{ name := "$assertionsDisabled", type := .boolean, accessFlags := 4120, slot := 0, constantValue := 0 }]
  methods := #[k15m0, k15m1, k15m2, k15m3]
  instanceTypes := #[]
  staticTypes := #[.boolean]
  resolved := Array.replicate 395 none
  statics := none }

def pool16 : Array CpInfo := pool [(1, .class_ 2), (0, u "java/lang/Math"), (1, .class_ 6), (1, u "java/lang/Object"), (0, u "<init>"), (0, u "()V"), (89, .class_ 100), (1, u "java/lang/Math$RandomNumberGeneratorHolder"), (71, u "negativeZeroFloatBits"), (0, u "J"), (2, u "negativeZeroDoubleBits"), (21, u "max"), (2, u "min"), (43, u "$assertionsDisabled"), (0, u "Z"), (88, u "(II)I"), (2, u "twoToTheDoubleScaleDown"), (0, u "D"), (4, u "twoToTheDoubleScaleUp"), (9, u "E"), (3, u "PI"), (2, u "TAU"), (2, u "DEGREES_TO_RADIANS"), (0, u "RADIANS_TO_DEGREES")] 94

def k16m0 : Method := { name := "<init>", desc := "()V", sig := { parameters := [], returnType := none }, accessFlags := 2, code := none }
def k16c1 : Code := { maxStack := 2, maxLocals := 2, code := jdk_29_method_65_code, exceptionTable := #[], attributes := #[] }
def k16m1 : Method := { name := "max", desc := "(II)I", sig := { parameters := [.int, .int], returnType := some .int }, accessFlags := 9, code := some k16c1 }
def k16c2 : Code := { maxStack := 2, maxLocals := 2, code := jdk_29_method_69_code, exceptionTable := #[], attributes := #[] }
def k16m2 : Method := { name := "min", desc := "(II)I", sig := { parameters := [.int, .int], returnType := some .int }, accessFlags := 9, code := some k16c2 }
/-- java/lang/Math -/
def k16 : Class := { plain "java/lang/Math" (some 0) with
  accessFlags := 49
  interfaces := #[]
  cf := some (fileOf pool16 1 #[.nestMembers #[98]] #[{ accessFlags := 2, nameIndex := 7, descriptorIndex := 8, attributes := #[] }, { accessFlags := 9, nameIndex := 198, descriptorIndex := 335, attributes := #[] }, { accessFlags := 9, nameIndex := 201, descriptorIndex := 335, attributes := #[] }] 49 4 #[] #[{ accessFlags := 25, nameIndex := 354, descriptorIndex := 339, attributes := #[] }, { accessFlags := 25, nameIndex := 358, descriptorIndex := 339, attributes := #[] }, { accessFlags := 25, nameIndex := 361, descriptorIndex := 339, attributes := #[] }, { accessFlags := 26, nameIndex := 364, descriptorIndex := 339, attributes := #[] }, { accessFlags := 26, nameIndex := 365, descriptorIndex := 339, attributes := #[] }, { accessFlags := 26, nameIndex := 172, descriptorIndex := 173, attributes := #[] }, { accessFlags := 26, nameIndex := 176, descriptorIndex := 173, attributes := #[] }, { accessFlags := 8, nameIndex := 344, descriptorIndex := 339, attributes := #[] }, { accessFlags := 8, nameIndex := 338, descriptorIndex := 339, attributes := #[] }, { accessFlags := 4120, nameIndex := 245, descriptorIndex := 246, attributes := #[] }])
  fields := #[{ name := "E", type := .double, accessFlags := 25, slot := 0, constantValue := 0 }, { name := "PI", type := .double, accessFlags := 25, slot := 1, constantValue := 0 }, { name := "TAU", type := .double, accessFlags := 25, slot := 2, constantValue := 0 }, { name := "DEGREES_TO_RADIANS", type := .double, accessFlags := 26, slot := 3, constantValue := 0 }, { name := "RADIANS_TO_DEGREES", type := .double, accessFlags := 26, slot := 4, constantValue := 0 }, { name := "negativeZeroFloatBits", type := .long, accessFlags := 26, slot := 5, constantValue := 0 }, { name := "negativeZeroDoubleBits", type := .long, accessFlags := 26, slot := 6, constantValue := 0 }, { name := "twoToTheDoubleScaleUp", type := .double, accessFlags := 8, slot := 7, constantValue := 0 }, { name := "twoToTheDoubleScaleDown", type := .double, accessFlags := 8, slot := 8, constantValue := 0 }, { name := "$assertionsDisabled", type := .boolean, accessFlags := 4120, slot := 9, constantValue := 0 }]
  methods := #[k16m0, k16m1, k16m2]
  instanceTypes := #[]
  staticTypes := #[.double, .double, .double, .double, .double, .long, .long, .double, .double, .boolean]
  resolved := Array.replicate 460 none
  statics := none }

def pool17 : Array CpInfo := pool [(2, .class_ 4), (1, u "java/lang/Object"), (0, u "<init>"), (0, u "()V"), (17, .class_ 26), (1, u "jdk/internal/util/Preconditions"), (28, .class_ 56), (0, u "jdk/internal/util/Preconditions$4"), (57, .class_ 115), (0, u "jdk/internal/util/Preconditions$1"), (7, u "SIOOBE_FORMATTER"), (0, u "Ljava/util/function/BiFunction;"), (0, .class_ 126), (0, u "jdk/internal/util/Preconditions$2"), (3, u "AIOOBE_FORMATTER"), (0, .class_ 132), (0, u "jdk/internal/util/Preconditions$3"), (3, u "IOOBE_FORMATTER")] 57

def k17m0 : Method := { name := "<init>", desc := "()V", sig := { parameters := [], returnType := none }, accessFlags := 1, code := none }
/-- jdk/internal/util/Preconditions -/
def k17 : Class := { plain "jdk/internal/util/Preconditions" (some 0) with
  accessFlags := 33
  interfaces := #[]
  cf := some (fileOf pool17 24 #[.nestMembers #[55, 131, 125, 114]] #[{ accessFlags := 1, nameIndex := 5, descriptorIndex := 6, attributes := #[] }] 33 2 #[] #[{ accessFlags := 25, nameIndex := 123, descriptorIndex := 124, attributes := #[] }, { accessFlags := 25, nameIndex := 130, descriptorIndex := 124, attributes := #[] }, { accessFlags := 25, nameIndex := 136, descriptorIndex := 124, attributes := #[] }])
  fields := #[{ name := "SIOOBE_FORMATTER", type := (.object "java/util/function/BiFunction"), accessFlags := 25, slot := 0, constantValue := 0 }, { name := "AIOOBE_FORMATTER", type := (.object "java/util/function/BiFunction"), accessFlags := 25, slot := 1, constantValue := 0 }, { name := "IOOBE_FORMATTER", type := (.object "java/util/function/BiFunction"), accessFlags := 25, slot := 2, constantValue := 0 }]
  methods := #[k17m0]
  instanceTypes := #[]
  staticTypes := #[(.object "java/util/function/BiFunction"), (.object "java/util/function/BiFunction"), (.object "java/util/function/BiFunction")]
  resolved := Array.replicate 194 none
  statics := some 2 }

def pool18 : Array CpInfo := pool [(9, u "<init>"), (6, .class_ 18), (1, u "java/lang/Object"), (0, u "()V"), (1, .class_ 23), (1, u "jdk/internal/util/ArraysSupport"), (0, u "LOG2_ARRAY_LONG_INDEX_SCALE"), (0, u "I"), (2, u "U"), (0, u "Ljdk/internal/misc/Unsafe;"), (8, u "BIG_ENDIAN"), (0, u "Z"), (8, u "LOG2_BYTE_BIT_SIZE"), (4, u "LOG2_ARRAY_INT_INDEX_SCALE"), (54, u "JLA"), (0, u "Ljdk/internal/access/JavaLangAccess;"), (11, u "LOG2_ARRAY_BOOLEAN_INDEX_SCALE"), (9, u "LOG2_ARRAY_BYTE_INDEX_SCALE"), (5, u "LOG2_ARRAY_CHAR_INDEX_SCALE"), (5, u "LOG2_ARRAY_SHORT_INDEX_SCALE"), (18, u "LOG2_ARRAY_FLOAT_INDEX_SCALE"), (24, u "LOG2_ARRAY_DOUBLE_INDEX_SCALE"), (89, u "T_BOOLEAN"), (2, u "T_CHAR"), (1, u "T_FLOAT"), (1, u "T_DOUBLE"), (1, u "T_BYTE"), (1, u "T_SHORT"), (1, u "T_INT"), (1, u "T_LONG"), (1, u "SOFT_MAX_ARRAY_LENGTH")] 83

def k18m0 : Method := { name := "<init>", desc := "()V", sig := { parameters := [], returnType := none }, accessFlags := 2, code := none }
/-- jdk/internal/util/ArraysSupport -/
def k18 : Class := { plain "jdk/internal/util/ArraysSupport" (some 0) with
  accessFlags := 33
  interfaces := #[]
  cf := some (fileOf pool18 21 #[] #[{ accessFlags := 2, nameIndex := 9, descriptorIndex := 19, attributes := #[] }] 33 16 #[] #[{ accessFlags := 24, nameIndex := 28, descriptorIndex := 29, attributes := #[] }, { accessFlags := 26, nameIndex := 38, descriptorIndex := 39, attributes := #[] }, { accessFlags := 25, nameIndex := 121, descriptorIndex := 25, attributes := #[] }, { accessFlags := 25, nameIndex := 131, descriptorIndex := 25, attributes := #[] }, { accessFlags := 25, nameIndex := 137, descriptorIndex := 25, attributes := #[] }, { accessFlags := 25, nameIndex := 143, descriptorIndex := 25, attributes := #[] }, { accessFlags := 25, nameIndex := 53, descriptorIndex := 25, attributes := #[] }, { accessFlags := 25, nameIndex := 24, descriptorIndex := 25, attributes := #[] }, { accessFlags := 25, nameIndex := 162, descriptorIndex := 25, attributes := #[] }, { accessFlags := 25, nameIndex := 187, descriptorIndex := 25, attributes := #[] }, { accessFlags := 26, nameIndex := 48, descriptorIndex := 25, attributes := #[] }, { accessFlags := 25, nameIndex := 277, descriptorIndex := 25, attributes := #[] }, { accessFlags := 25, nameIndex := 280, descriptorIndex := 25, attributes := #[] }, { accessFlags := 25, nameIndex := 282, descriptorIndex := 25, attributes := #[] }, { accessFlags := 25, nameIndex := 284, descriptorIndex := 25, attributes := #[] }, { accessFlags := 25, nameIndex := 286, descriptorIndex := 25, attributes := #[] }, { accessFlags := 25, nameIndex := 288, descriptorIndex := 25, attributes := #[] }, { accessFlags := 25, nameIndex := 290, descriptorIndex := 25, attributes := #[] }, { accessFlags := 25, nameIndex := 292, descriptorIndex := 25, attributes := #[] }, { accessFlags := 26, nameIndex := 108, descriptorIndex := 109, attributes := #[] }, { accessFlags := 25, nameIndex := 294, descriptorIndex := 25, attributes := #[] }])
  fields := #[{ name := "U", type := (.object "jdk/internal/misc/Unsafe"), accessFlags := 24, slot := 0, constantValue := 0 }, { name := "BIG_ENDIAN", type := .boolean, accessFlags := 26, slot := 1, constantValue := 0 }, { name := "LOG2_ARRAY_BOOLEAN_INDEX_SCALE", type := .int, accessFlags := 25, slot := 2, constantValue := 0 }, { name := "LOG2_ARRAY_BYTE_INDEX_SCALE", type := .int, accessFlags := 25, slot := 3, constantValue := 0 }, { name := "LOG2_ARRAY_CHAR_INDEX_SCALE", type := .int, accessFlags := 25, slot := 4, constantValue := 0 }, { name := "LOG2_ARRAY_SHORT_INDEX_SCALE", type := .int, accessFlags := 25, slot := 5, constantValue := 0 }, { name := "LOG2_ARRAY_INT_INDEX_SCALE", type := .int, accessFlags := 25, slot := 6, constantValue := 0 }, { name := "LOG2_ARRAY_LONG_INDEX_SCALE", type := .int, accessFlags := 25, slot := 7, constantValue := 0 }, { name := "LOG2_ARRAY_FLOAT_INDEX_SCALE", type := .int, accessFlags := 25, slot := 8, constantValue := 0 }, { name := "LOG2_ARRAY_DOUBLE_INDEX_SCALE", type := .int, accessFlags := 25, slot := 9, constantValue := 0 }, { name := "LOG2_BYTE_BIT_SIZE", type := .int, accessFlags := 26, slot := 10, constantValue := 0 }, { name := "T_BOOLEAN", type := .int, accessFlags := 25, slot := 11, constantValue := 0 }, { name := "T_CHAR", type := .int, accessFlags := 25, slot := 12, constantValue := 0 }, { name := "T_FLOAT", type := .int, accessFlags := 25, slot := 13, constantValue := 0 }, { name := "T_DOUBLE", type := .int, accessFlags := 25, slot := 14, constantValue := 0 }, { name := "T_BYTE", type := .int, accessFlags := 25, slot := 15, constantValue := 0 }, { name := "T_SHORT", type := .int, accessFlags := 25, slot := 16, constantValue := 0 }, { name := "T_INT", type := .int, accessFlags := 25, slot := 17, constantValue := 0 }, { name := "T_LONG", type := .int, accessFlags := 25, slot := 18, constantValue := 0 }, { name := "JLA", type := (.object "jdk/internal/access/JavaLangAccess"), accessFlags := 26, slot := 19, constantValue := 0 }, { name := "SOFT_MAX_ARRAY_LENGTH", type := .int, accessFlags := 25, slot := 20, constantValue := 0 }]
  methods := #[k18m0]
  instanceTypes := #[]
  staticTypes := #[(.object "jdk/internal/misc/Unsafe"), .boolean, .int, .int, .int, .int, .int, .int, .int, .int, .int, .int, .int, .int, .int, .int, .int, .int, .int, (.object "jdk/internal/access/JavaLangAccess"), .int]
  resolved := Array.replicate 378 none
  statics := none }

def pool19 : Array CpInfo := pool [(2, .class_ 4), (1, u "java/lang/Object"), (0, u "<init>"), (0, u "()V"), (1, .class_ 10), (1, u "java/util/AbstractCollection"), (66, .class_ 78), (0, u "java/util/Collection")] 81

def k19m0 : Method := { name := "<init>", desc := "()V", sig := { parameters := [], returnType := none }, accessFlags := 4, code := none }
/-- java/util/AbstractCollection -/
def k19 : Class := { plain "java/util/AbstractCollection" (some 0) with
  accessFlags := 1057
  interfaces := #[5]
  cf := some (fileOf pool19 8 #[] #[{ accessFlags := 4, nameIndex := 5, descriptorIndex := 6, attributes := #[] }] 1057 2 #[77] #[])
  fields := #[]
  methods := #[k19m0]
  instanceTypes := #[]
  staticTypes := #[]
  resolved := Array.replicate 160 none
  statics := none }

def pool20 : Array CpInfo := pool [(2, .class_ 4), (1, u "java/util/AbstractCollection"), (0, u "<init>"), (0, u "()V"), (1, .class_ 10), (1, u "java/util/ImmutableCollections"), (2, .class_ 14), (0, u "java/util/ImmutableCollections$AbstractImmutableCollection")] 41

def k20m0 : Method := { name := "<init>", desc := "()V", sig := { parameters := [], returnType := none }, accessFlags := 0, code := none }
/-- java/util/ImmutableCollections$AbstractImmutableCollection -/
def k20 : Class := { plain "java/util/ImmutableCollections$AbstractImmutableCollection" (some 19) with
  accessFlags := 1056
  interfaces := #[]
  cf := some (fileOf pool20 13 #[.nestHost 8] #[{ accessFlags := 0, nameIndex := 5, descriptorIndex := 6, attributes := #[] }] 1056 2 #[] #[])
  fields := #[]
  methods := #[k20m0]
  instanceTypes := #[]
  staticTypes := #[]
  resolved := Array.replicate 56 none
  statics := none }

def pool21 : Array CpInfo := pool [(1, .class_ 2), (0, u "java/util/RandomAccess"), (0, .class_ 4), (0, u "java/lang/Object")] 2

/-- java/util/RandomAccess -/
def k21 : Class := { plain "java/util/RandomAccess" (some 0) with
  accessFlags := 1537
  interfaces := #[]
  cf := some (fileOf pool21 1 #[] #[] 1537 3 #[] #[])
  fields := #[]
  methods := #[]
  instanceTypes := #[]
  staticTypes := #[]
  resolved := Array.replicate 7 none
  statics := none }

def pool22 : Array CpInfo := pool [(2, .class_ 4), (1, u "java/util/ImmutableCollections$AbstractImmutableCollection"), (0, u "<init>"), (0, u "()V"), (1, .class_ 10), (1, u "java/util/ImmutableCollections"), (3, .class_ 16), (1, u "java/util/ImmutableCollections$AbstractImmutableList"), (60, .class_ 78), (0, u "java/util/List"), (45, .class_ 125), (0, u "java/util/RandomAccess")] 70

def k22m0 : Method := { name := "<init>", desc := "()V", sig := { parameters := [], returnType := none }, accessFlags := 0, code := none }
/-- java/util/ImmutableCollections$AbstractImmutableList -/
def k22 : Class := { plain "java/util/ImmutableCollections$AbstractImmutableList" (some 20) with
  accessFlags := 1056
  interfaces := #[7, 21]
  cf := some (fileOf pool22 14 #[.nestHost 8] #[{ accessFlags := 0, nameIndex := 5, descriptorIndex := 6, attributes := #[] }] 1056 2 #[77, 124] #[])
  fields := #[]
  methods := #[k22m0]
  instanceTypes := #[]
  staticTypes := #[]
  resolved := Array.replicate 196 none
  statics := none }

def pool23 : Array CpInfo := pool [(2, .class_ 4), (1, u "java/util/ImmutableCollections$AbstractImmutableList"), (3, .class_ 10), (1, u "java/util/ImmutableCollections$ListN"), (0, u "elements"), (0, u "[Ljava/lang/Object;"), (2, u "allowNulls"), (0, u "Z"), (42, .class_ 60), (0, u "java/io/Serializable"), (53, .class_ 115), (0, u "java/util/ImmutableCollections")] 3

/-- java/util/ImmutableCollections$ListN -/
def k23 : Class := { plain "java/util/ImmutableCollections$ListN" (some 22) with
  accessFlags := 48
  interfaces := #[9]
  cf := some (fileOf pool23 8 #[.nestHost 114] #[] 48 2 #[59] #[{ accessFlags := 18, nameIndex := 11, descriptorIndex := 12, attributes := #[] }, { accessFlags := 18, nameIndex := 15, descriptorIndex := 16, attributes := #[] }])
  fields := #[{ name := "elements", type := (.array (.object "java/lang/Object")), accessFlags := 18, slot := 0, constantValue := 0 }, { name := "allowNulls", type := .boolean, accessFlags := 18, slot := 1, constantValue := 0 }]
  methods := #[]
  instanceTypes := #[(.array (.object "java/lang/Object")), .boolean]
  staticTypes := #[]
  resolved := Array.replicate 119 none
  statics := none }

def pool24 : Array CpInfo := pool [(1, u "java/lang/Cloneable"), (0, .class_ 1), (0, u "java/lang/Object"), (0, .class_ 3)] 3

/-- java/lang/Cloneable -/
def k24 : Class := { plain "java/lang/Cloneable" (some 0) with
  accessFlags := 1537
  interfaces := #[]
  cf := some (fileOf pool24 2 #[] #[] 1537 4 #[] #[])
  fields := #[]
  methods := #[]
  instanceTypes := #[]
  staticTypes := #[]
  resolved := Array.replicate 8 none
  statics := none }

/-- the primitive byte -/
def k25 : Class := { plain "byte" none with kind := .primitive 'B', accessFlags := 0x411 }
/-- [B -/
def k26 : Class := { plain "[B" (some 0) with kind := .array 25 .byte, interfaces := #[24, 9], accessFlags := 1041 }

/-- the primitive char -/
def k27 : Class := { plain "char" none with kind := .primitive 'C', accessFlags := 0x411 }
/-- [C -/
def k28 : Class := { plain "[C" (some 0) with kind := .array 27 .char, interfaces := #[24, 9], accessFlags := 1041 }

/-- the primitive int -/
def k29 : Class := { plain "int" none with kind := .primitive 'I', accessFlags := 0x411 }
/-- [I -/
def k30 : Class := { plain "[I" (some 0) with kind := .array 29 .int, interfaces := #[24, 9], accessFlags := 1041 }

/-- [Ljava/lang/Object; -/
def k31 : Class := { plain "[Ljava/lang/Object;" (some 0) with kind := .array 0 (.object "java/lang/Object"), interfaces := #[24, 9], accessFlags := 1041 }

def heap : Heap := #[{ cls := 8, slots := #[.long 0, .int 0, .null, .null, .ref 4, .null, .null, .null, .int 0, .int 0], vm := .statics 8 },
  { cls := 14, slots := #[.long 0, .int 1, .null, .int 0, .null, .int 0, .int 0], vm := .statics 14 },
  { cls := 17, slots := #[.null, .null, .null], vm := .statics 17 },
  { cls := 31, slots := #[], vm := .none },
  { cls := 23, slots := #[.ref 3, .int 0], vm := .none }]
def classes : Array Class := #[k0, k1, k2, k3, k4, k5, k6, k7, k8, k9, k10, k11, k12, k13, k14, k15, k16, k17, k18, k19, k20, k21, k22, k23, k24, k25, k26, k27, k28, k29, k30, k31]
def interned : List (Array UInt16 × Addr) := []
def slotsUsed : Nat := 22
def theMethod : MethodId := ⟨1, 4⟩
def args0 : Array Value := #[.int 3, .int 6, .int 7, .int 8]
def aboutOver (below : List Frame) : State where
  vm := { classes := classes, interned := interned.toArray }
  heap := heap
  slotsUsed := slotsUsed
  threads := #[{ frames := .invoking theMethod args0 :: below }]
def below0 : List Frame := [.native { method := ⟨0, 0⟩, args := #[] }]
def about1 : State := aboutOver below0
def p0 : Program := .bare "" "" ""
def e0 : Env := launch0.env 0 0 0
theorem w_frames : about1.frames = Frame.invoking theMethod args0 :: below0 := rfl
set_option maxRecDepth 65536 in
theorem w_args : argsFit about1.vm theMethod args0 = true := by decide +kernel
set_option maxRecDepth 65536 in
theorem w_heap : heapFits about1 = true := by decide +kernel
set_option maxRecDepth 65536 in
theorem w_runnable : about1.curStatus? = some .runnable := by decide +kernel
set_option maxRecDepth 65536 in
theorem w_alone : about1.alone = true := by decide +kernel
set_option maxRecDepth 65536 in
theorem w_named : about1.methodNamed? x = some theMethod := by decide +kernel
set_option maxRecDepth 65536 in
theorem w_hears : about1.hears theMethod below0 = true := by decide +kernel
set_option maxRecDepth 65536 in
theorem w_ripe : about1.ripe theMethod args0 below0 = true := by decide +kernel
theorem w_running : about1.status = .running := rfl
set_option maxRecDepth 65536 in
theorem w_room : about1.hasRoom e0.platform room_1 = true :=
  launch0.hasRoom_least _ room_1 (by decide +kernel) (by decide +kernel) (by decide +kernel) (by decide +kernel) (by decide +kernel) (by decide +kernel)
theorem allAtoms_all (ts : List Jvm.Cond) (a : Array Jvm.Value) (st : Jvm.State) : (allAtoms ts).before a st = ts.all (fun c => c.before a st) := by
  induction ts with
  | nil => rfl
  | cons c t ih =>
    show (Jvm.Cond.and c (allAtoms t)).before a st = _
    rw [Jvm.Cond.before_and, ih, List.all_cons]
def words1 : List Jvm.Cond := Jvm.Cond.code x code maxLocals ret :: tables_1
/-- a 'code' word, met by the world's own term for the bytes: nothing is compared byte by byte -/
theorem code_word {y : MethodName} {bytes : ByteArray} {mx : Nat} {rt : Option FieldType} {a : Array Value} {s : State} {m : MethodId} {meth : Method} {c : Code} (h1 : s.methodNamed? y = some m) (h2 : s.vm.method? m = some meth) (h3 : meth.code = some c) (h4 : c.code = bytes)
    (h5 : (c.maxLocals == mx && c.exceptionTable.isEmpty && decide (c.maxStack ≤ mostOperands) && decide (meth.sig.returnType = rt) && !meth.locks && decide (parseMethodDescriptor y.desc = some meth.sig)) = true) : (Jvm.Cond.code y bytes mx rt).before a s = true := by
  simp only [Bool.and_eq_true, beq_iff_eq, Bool.not_eq_true', decide_eq_true_eq] at h5
  obtain ⟨⟨⟨⟨⟨g1, g2⟩, g3⟩, g4⟩, g5⟩, g6⟩ := h5
  simp [Cond.before, Cond.holds, Cond.value, h1, h2, h3, h4, g1, g2, g3, g4, g5, g6]
def isCode : Jvm.Cond → Bool
  | .code _ _ _ _ => true
  | _ => false
theorem all_split {L : List Jvm.Cond} {P : Jvm.Cond → Bool} (h1 : L.all (fun c => isCode c || P c) = true) (h2 : ∀ c ∈ L.filter isCode, P c = true) : L.all P = true := by
  refine List.all_eq_true.mpr fun c hc => ?_
  have h := List.all_eq_true.mp h1 c hc
  rcases Bool.eq_false_or_eq_true (isCode c) with hi | hi
  · exact h2 c (List.mem_filter.mpr ⟨hc, hi⟩)
  · simpa [hi] using h
set_option maxRecDepth 65536 in
theorem w_c0 : (Jvm.Cond.code x code maxLocals ret).before args0 about1 = true := code_word (m := ⟨1, 4⟩) (meth := k1m4) (c := k1c4) (by decide +kernel) rfl rfl rfl (by decide +kernel)
set_option maxRecDepth 65536 in
theorem w_c1 : (Jvm.Cond.code ({ cls := "com/example/rouse/rouse/shell/ShellWordsContinuesPinLaw", name := "draw", desc := "(I)C" } : Jvm.MethodName) method_2_code (4 : Nat) (Option.some Jvm.ClassFile.FieldType.char)).before args0 about1 = true := code_word (m := ⟨1, 1⟩) (meth := k1m1) (c := k1c1) (by decide +kernel) rfl rfl rfl (by decide +kernel)
set_option maxRecDepth 65536 in
theorem w_c2 : (Jvm.Cond.code ({ cls := "com/example/rouse/rouse/shell/ShellWordsContinuesPinLaw", name := "open", desc := "(ICC)Z" } : Jvm.MethodName) method_4_code (3 : Nat) (Option.some Jvm.ClassFile.FieldType.boolean)).before args0 about1 = true := code_word (m := ⟨1, 3⟩) (meth := k1m3) (c := k1c3) (by decide +kernel) rfl rfl rfl (by decide +kernel)
set_option maxRecDepth 65536 in
theorem w_c3 : (Jvm.Cond.code ({ cls := "com/example/rouse/rouse/shell/ShellWords", name := "<init>", desc := "()V" } : Jvm.MethodName) prog_69_method_1_code (1 : Nat) (Option.none : Option Jvm.ClassFile.FieldType)).before args0 about1 = true := code_word (m := ⟨2, 0⟩) (meth := k2m0) (c := k2c0) (by decide +kernel) rfl rfl rfl (by decide +kernel)
set_option maxRecDepth 65536 in
theorem w_c4 : (Jvm.Cond.code ({ cls := "java/lang/Object", name := "<init>", desc := "()V" } : Jvm.MethodName) object_method_1_code (1 : Nat) (Option.none : Option Jvm.ClassFile.FieldType)).before args0 about1 = true := code_word (m := ⟨0, 0⟩) (meth := k0m0) (c := k0c0) (by decide +kernel) rfl rfl rfl (by decide +kernel)
set_option maxRecDepth 65536 in
theorem w_c5 : (Jvm.Cond.code ({ cls := "com/example/rouse/rouse/shell/ShellWords", name := "newLine", desc := "()Lcom/example/rouse/rouse/shell/CommandLine;" } : Jvm.MethodName) prog_69_method_8_code (0 : Nat) (Option.some (Jvm.ClassFile.FieldType.object "com/example/rouse/rouse/shell/CommandLine"))).before args0 about1 = true := code_word (m := ⟨2, 6⟩) (meth := k2m6) (c := k2c6) (by decide +kernel) rfl rfl rfl (by decide +kernel)
set_option maxRecDepth 65536 in
theorem w_c6 : (Jvm.Cond.code ({ cls := "com/example/rouse/rouse/shell/CommandLine", name := "<init>", desc := "(II)V" } : Jvm.MethodName) prog_64_method_1_code (3 : Nat) (Option.none : Option Jvm.ClassFile.FieldType)).before args0 about1 = true := code_word (m := ⟨4, 0⟩) (meth := k4m0) (c := k4c0) (by decide +kernel) rfl rfl rfl (by decide +kernel)
set_option maxRecDepth 65536 in
theorem w_c7 : (Jvm.Cond.code ({ cls := "com/example/rouse/rouse/shell/ShellWords", name := "continues", desc := "()Z" } : Jvm.MethodName) prog_69_method_5_code (1 : Nat) (Option.some Jvm.ClassFile.FieldType.boolean)).before args0 about1 = true := code_word (m := ⟨2, 3⟩) (meth := k2m3) (c := k2c3) (by decide +kernel) rfl rfl rfl (by decide +kernel)
set_option maxRecDepth 65536 in
theorem w_c8 : (Jvm.Cond.code ({ cls := "com/example/rouse/rouse/shell/ShellWordsContinuesPinLaw", name := "keeps", desc := "(C)Z" } : Jvm.MethodName) method_3_code (1 : Nat) (Option.some Jvm.ClassFile.FieldType.boolean)).before args0 about1 = true := code_word (m := ⟨1, 2⟩) (meth := k1m2) (c := k1c2) (by decide +kernel) rfl rfl rfl (by decide +kernel)
set_option maxRecDepth 65536 in
theorem w_c9 : (Jvm.Cond.code ({ cls := "com/example/rouse/rouse/shell/ShellWords", name := "read", desc := "(C)Ljava/lang/Iterable;" } : Jvm.MethodName) prog_69_method_2_code (3 : Nat) (Option.some (Jvm.ClassFile.FieldType.object "java/lang/Iterable"))).before args0 about1 = true := code_word (m := ⟨2, 1⟩) (meth := k2m1) (c := k2c1) (by decide +kernel) rfl rfl rfl (by decide +kernel)
set_option maxRecDepth 65536 in
theorem w_c10 : (Jvm.Cond.code ({ cls := "java/util/List", name := "of", desc := "()Ljava/util/List;" } : Jvm.MethodName) jdk_40_method_36_code (0 : Nat) (Option.some (Jvm.ClassFile.FieldType.object "java/util/List"))).before args0 about1 = true := code_word (m := ⟨7, 0⟩) (meth := k7m0) (c := k7c0) (by decide +kernel) rfl rfl rfl (by decide +kernel)
set_option maxRecDepth 65536 in
theorem w_c11 : (Jvm.Cond.code ({ cls := "com/example/rouse/rouse/shell/ShellWords", name := "readInWords", desc := "(C)V" } : Jvm.MethodName) prog_69_method_3_code (2 : Nat) (Option.none : Option Jvm.ClassFile.FieldType)).before args0 about1 = true := code_word (m := ⟨2, 2⟩) (meth := k2m2) (c := k2c2) (by decide +kernel) rfl rfl rfl (by decide +kernel)
set_option maxRecDepth 65536 in
theorem w_c12 : (Jvm.Cond.code ({ cls := "com/example/rouse/rouse/shell/CommandLine", name := "append", desc := "(C)V" } : Jvm.MethodName) prog_64_method_2_code (2 : Nat) (Option.none : Option Jvm.ClassFile.FieldType)).before args0 about1 = true := code_word (m := ⟨4, 1⟩) (meth := k4m1) (c := k4c1) (by decide +kernel) rfl rfl rfl (by decide +kernel)
set_option maxRecDepth 65536 in
theorem w_c13 : (Jvm.Cond.code ({ cls := "com/example/rouse/rouse/shell/ShellWords", name := "endWord", desc := "()V" } : Jvm.MethodName) prog_69_method_6_code (1 : Nat) (Option.none : Option Jvm.ClassFile.FieldType)).before args0 about1 = true := code_word (m := ⟨2, 4⟩) (meth := k2m4) (c := k2c4) (by decide +kernel) rfl rfl rfl (by decide +kernel)
set_option maxRecDepth 65536 in
theorem w_c14 : (Jvm.Cond.code ({ cls := "com/example/rouse/rouse/shell/CommandLine", name := "endWord", desc := "()V" } : Jvm.MethodName) prog_64_method_3_code (1 : Nat) (Option.none : Option Jvm.ClassFile.FieldType)).before args0 about1 = true := code_word (m := ⟨4, 2⟩) (meth := k4m2) (c := k4c2) (by decide +kernel) rfl rfl rfl (by decide +kernel)
set_option maxRecDepth 65536 in
theorem w_c15 : (Jvm.Cond.code ({ cls := "com/example/rouse/rouse/shell/ShellWords", name := "endCommandLine", desc := "()Ljava/lang/Iterable;" } : Jvm.MethodName) prog_69_method_7_code (2 : Nat) (Option.some (Jvm.ClassFile.FieldType.object "java/lang/Iterable"))).before args0 about1 = true := code_word (m := ⟨2, 5⟩) (meth := k2m5) (c := k2c5) (by decide +kernel) rfl rfl rfl (by decide +kernel)
set_option maxRecDepth 65536 in
theorem w_c16 : (Jvm.Cond.code ({ cls := "com/example/rouse/rouse/shell/CommandLine", name := "commandHasWords", desc := "()Z" } : Jvm.MethodName) prog_64_method_4_code (1 : Nat) (Option.some Jvm.ClassFile.FieldType.boolean)).before args0 about1 = true := code_word (m := ⟨4, 3⟩) (meth := k4m3) (c := k4c3) (by decide +kernel) rfl rfl rfl (by decide +kernel)
set_option maxRecDepth 65536 in
theorem w_c17 : (Jvm.Cond.code ({ cls := "java/lang/String", name := "indexOf", desc := "(I)I" } : Jvm.MethodName) jdk_42_method_79_code (2 : Nat) (Option.some Jvm.ClassFile.FieldType.int)).before args0 about1 = true := code_word (m := ⟨14, 2⟩) (meth := k14m2) (c := k14c2) (by decide +kernel) rfl rfl rfl (by decide +kernel)
set_option maxRecDepth 65536 in
theorem w_c18 : (Jvm.Cond.code ({ cls := "java/lang/String", name := "indexOf", desc := "(II)I" } : Jvm.MethodName) jdk_42_method_80_code (3 : Nat) (Option.some Jvm.ClassFile.FieldType.int)).before args0 about1 = true := code_word (m := ⟨14, 3⟩) (meth := k14m3) (c := k14c3) (by decide +kernel) rfl rfl rfl (by decide +kernel)
set_option maxRecDepth 65536 in
theorem w_c19 : (Jvm.Cond.code ({ cls := "java/lang/String", name := "isLatin1", desc := "()Z" } : Jvm.MethodName) jdk_42_method_154_code (1 : Nat) (Option.some Jvm.ClassFile.FieldType.boolean)).before args0 about1 = true := code_word (m := ⟨14, 5⟩) (meth := k14m5) (c := k14c5) (by decide +kernel) rfl rfl rfl (by decide +kernel)
set_option maxRecDepth 65536 in
theorem w_c20 : (Jvm.Cond.code ({ cls := "java/lang/String", name := "length", desc := "()I" } : Jvm.MethodName) jdk_42_method_54_code (1 : Nat) (Option.some Jvm.ClassFile.FieldType.int)).before args0 about1 = true := code_word (m := ⟨14, 1⟩) (meth := k14m1) (c := k14c1) (by decide +kernel) rfl rfl rfl (by decide +kernel)
set_option maxRecDepth 65536 in
theorem w_c21 : (Jvm.Cond.code ({ cls := "java/lang/String", name := "coder", desc := "()B" } : Jvm.MethodName) jdk_42_method_152_code (1 : Nat) (Option.some Jvm.ClassFile.FieldType.byte)).before args0 about1 = true := code_word (m := ⟨14, 4⟩) (meth := k14m4) (c := k14c4) (by decide +kernel) rfl rfl rfl (by decide +kernel)
set_option maxRecDepth 65536 in
theorem w_c22 : (Jvm.Cond.code ({ cls := "java/lang/StringLatin1", name := "indexOf", desc := "([BIII)I" } : Jvm.MethodName) jdk_43_method_22_code (4 : Nat) (Option.some Jvm.ClassFile.FieldType.int)).before args0 about1 = true := code_word (m := ⟨15, 2⟩) (meth := k15m2) (c := k15c2) (by decide +kernel) rfl rfl rfl (by decide +kernel)
set_option maxRecDepth 65536 in
theorem w_c23 : (Jvm.Cond.code ({ cls := "java/lang/StringLatin1", name := "canEncode", desc := "(I)Z" } : Jvm.MethodName) jdk_43_method_4_code (1 : Nat) (Option.some Jvm.ClassFile.FieldType.boolean)).before args0 about1 = true := code_word (m := ⟨15, 1⟩) (meth := k15m1) (c := k15c1) (by decide +kernel) rfl rfl rfl (by decide +kernel)
set_option maxRecDepth 65536 in
theorem w_c24 : (Jvm.Cond.code ({ cls := "java/lang/Math", name := "max", desc := "(II)I" } : Jvm.MethodName) jdk_29_method_65_code (2 : Nat) (Option.some Jvm.ClassFile.FieldType.int)).before args0 about1 = true := code_word (m := ⟨16, 1⟩) (meth := k16m1) (c := k16c1) (by decide +kernel) rfl rfl rfl (by decide +kernel)
set_option maxRecDepth 65536 in
theorem w_c25 : (Jvm.Cond.code ({ cls := "java/lang/Math", name := "min", desc := "(II)I" } : Jvm.MethodName) jdk_29_method_69_code (2 : Nat) (Option.some Jvm.ClassFile.FieldType.int)).before args0 about1 = true := code_word (m := ⟨16, 2⟩) (meth := k16m2) (c := k16c2) (by decide +kernel) rfl rfl rfl (by decide +kernel)
set_option maxRecDepth 65536 in
theorem w_c26 : (Jvm.Cond.code ({ cls := "java/lang/StringLatin1", name := "indexOfChar", desc := "([BIII)I" } : Jvm.MethodName) jdk_43_method_23_code (6 : Nat) (Option.some Jvm.ClassFile.FieldType.int)).before args0 about1 = true := code_word (m := ⟨15, 3⟩) (meth := k15m3) (c := k15c3) (by decide +kernel) rfl rfl rfl (by decide +kernel)
set_option maxRecDepth 65536 in
theorem w_c27 : (Jvm.Cond.code ({ cls := "com/example/rouse/rouse/shell/CommandLine", name := "endCommand", desc := "()V" } : Jvm.MethodName) prog_64_method_5_code (1 : Nat) (Option.none : Option Jvm.ClassFile.FieldType)).before args0 about1 = true := code_word (m := ⟨4, 4⟩) (meth := k4m4) (c := k4c4) (by decide +kernel) rfl rfl rfl (by decide +kernel)
def codes1 : List Jvm.Cond := [Jvm.Cond.code x code maxLocals ret, Jvm.Cond.code ({ cls := "com/example/rouse/rouse/shell/ShellWordsContinuesPinLaw", name := "draw", desc := "(I)C" } : Jvm.MethodName) method_2_code (4 : Nat) (Option.some Jvm.ClassFile.FieldType.char), Jvm.Cond.code ({ cls := "com/example/rouse/rouse/shell/ShellWordsContinuesPinLaw", name := "open", desc := "(ICC)Z" } : Jvm.MethodName) method_4_code (3 : Nat) (Option.some Jvm.ClassFile.FieldType.boolean), Jvm.Cond.code ({ cls := "com/example/rouse/rouse/shell/ShellWords", name := "<init>", desc := "()V" } : Jvm.MethodName) prog_69_method_1_code (1 : Nat) (Option.none : Option Jvm.ClassFile.FieldType), Jvm.Cond.code ({ cls := "java/lang/Object", name := "<init>", desc := "()V" } : Jvm.MethodName) object_method_1_code (1 : Nat) (Option.none : Option Jvm.ClassFile.FieldType), Jvm.Cond.code ({ cls := "com/example/rouse/rouse/shell/ShellWords", name := "newLine", desc := "()Lcom/example/rouse/rouse/shell/CommandLine;" } : Jvm.MethodName) prog_69_method_8_code (0 : Nat) (Option.some (Jvm.ClassFile.FieldType.object "com/example/rouse/rouse/shell/CommandLine")), Jvm.Cond.code ({ cls := "com/example/rouse/rouse/shell/CommandLine", name := "<init>", desc := "(II)V" } : Jvm.MethodName) prog_64_method_1_code (3 : Nat) (Option.none : Option Jvm.ClassFile.FieldType), Jvm.Cond.code ({ cls := "com/example/rouse/rouse/shell/ShellWords", name := "continues", desc := "()Z" } : Jvm.MethodName) prog_69_method_5_code (1 : Nat) (Option.some Jvm.ClassFile.FieldType.boolean), Jvm.Cond.code ({ cls := "com/example/rouse/rouse/shell/ShellWordsContinuesPinLaw", name := "keeps", desc := "(C)Z" } : Jvm.MethodName) method_3_code (1 : Nat) (Option.some Jvm.ClassFile.FieldType.boolean), Jvm.Cond.code ({ cls := "com/example/rouse/rouse/shell/ShellWords", name := "read", desc := "(C)Ljava/lang/Iterable;" } : Jvm.MethodName) prog_69_method_2_code (3 : Nat) (Option.some (Jvm.ClassFile.FieldType.object "java/lang/Iterable")), Jvm.Cond.code ({ cls := "java/util/List", name := "of", desc := "()Ljava/util/List;" } : Jvm.MethodName) jdk_40_method_36_code (0 : Nat) (Option.some (Jvm.ClassFile.FieldType.object "java/util/List")), Jvm.Cond.code ({ cls := "com/example/rouse/rouse/shell/ShellWords", name := "readInWords", desc := "(C)V" } : Jvm.MethodName) prog_69_method_3_code (2 : Nat) (Option.none : Option Jvm.ClassFile.FieldType), Jvm.Cond.code ({ cls := "com/example/rouse/rouse/shell/CommandLine", name := "append", desc := "(C)V" } : Jvm.MethodName) prog_64_method_2_code (2 : Nat) (Option.none : Option Jvm.ClassFile.FieldType), Jvm.Cond.code ({ cls := "com/example/rouse/rouse/shell/ShellWords", name := "endWord", desc := "()V" } : Jvm.MethodName) prog_69_method_6_code (1 : Nat) (Option.none : Option Jvm.ClassFile.FieldType), Jvm.Cond.code ({ cls := "com/example/rouse/rouse/shell/CommandLine", name := "endWord", desc := "()V" } : Jvm.MethodName) prog_64_method_3_code (1 : Nat) (Option.none : Option Jvm.ClassFile.FieldType), Jvm.Cond.code ({ cls := "com/example/rouse/rouse/shell/ShellWords", name := "endCommandLine", desc := "()Ljava/lang/Iterable;" } : Jvm.MethodName) prog_69_method_7_code (2 : Nat) (Option.some (Jvm.ClassFile.FieldType.object "java/lang/Iterable")), Jvm.Cond.code ({ cls := "com/example/rouse/rouse/shell/CommandLine", name := "commandHasWords", desc := "()Z" } : Jvm.MethodName) prog_64_method_4_code (1 : Nat) (Option.some Jvm.ClassFile.FieldType.boolean), Jvm.Cond.code ({ cls := "java/lang/String", name := "indexOf", desc := "(I)I" } : Jvm.MethodName) jdk_42_method_79_code (2 : Nat) (Option.some Jvm.ClassFile.FieldType.int), Jvm.Cond.code ({ cls := "java/lang/String", name := "indexOf", desc := "(II)I" } : Jvm.MethodName) jdk_42_method_80_code (3 : Nat) (Option.some Jvm.ClassFile.FieldType.int), Jvm.Cond.code ({ cls := "java/lang/String", name := "isLatin1", desc := "()Z" } : Jvm.MethodName) jdk_42_method_154_code (1 : Nat) (Option.some Jvm.ClassFile.FieldType.boolean), Jvm.Cond.code ({ cls := "java/lang/String", name := "length", desc := "()I" } : Jvm.MethodName) jdk_42_method_54_code (1 : Nat) (Option.some Jvm.ClassFile.FieldType.int), Jvm.Cond.code ({ cls := "java/lang/String", name := "coder", desc := "()B" } : Jvm.MethodName) jdk_42_method_152_code (1 : Nat) (Option.some Jvm.ClassFile.FieldType.byte), Jvm.Cond.code ({ cls := "java/lang/StringLatin1", name := "indexOf", desc := "([BIII)I" } : Jvm.MethodName) jdk_43_method_22_code (4 : Nat) (Option.some Jvm.ClassFile.FieldType.int), Jvm.Cond.code ({ cls := "java/lang/StringLatin1", name := "canEncode", desc := "(I)Z" } : Jvm.MethodName) jdk_43_method_4_code (1 : Nat) (Option.some Jvm.ClassFile.FieldType.boolean), Jvm.Cond.code ({ cls := "java/lang/Math", name := "max", desc := "(II)I" } : Jvm.MethodName) jdk_29_method_65_code (2 : Nat) (Option.some Jvm.ClassFile.FieldType.int), Jvm.Cond.code ({ cls := "java/lang/Math", name := "min", desc := "(II)I" } : Jvm.MethodName) jdk_29_method_69_code (2 : Nat) (Option.some Jvm.ClassFile.FieldType.int), Jvm.Cond.code ({ cls := "java/lang/StringLatin1", name := "indexOfChar", desc := "([BIII)I" } : Jvm.MethodName) jdk_43_method_23_code (6 : Nat) (Option.some Jvm.ClassFile.FieldType.int), Jvm.Cond.code ({ cls := "com/example/rouse/rouse/shell/CommandLine", name := "endCommand", desc := "()V" } : Jvm.MethodName) prog_64_method_5_code (1 : Nat) (Option.none : Option Jvm.ClassFile.FieldType)]
set_option maxRecDepth 65536 in
theorem codes_eq : words1.filter isCode = codes1 := rfl
theorem w_codes : ∀ c ∈ words1.filter isCode, c.before args0 about1 = true := by
  rw [codes_eq]
  intro c hc
  simp only [codes1, List.mem_cons, List.not_mem_nil, or_false] at hc
  rcases hc with rfl | rfl | rfl | rfl | rfl | rfl | rfl | rfl | rfl | rfl | rfl | rfl | rfl | rfl | rfl | rfl | rfl | rfl | rfl | rfl | rfl | rfl | rfl | rfl | rfl | rfl | rfl | rfl
  · exact w_c0
  · exact w_c1
  · exact w_c2
  · exact w_c3
  · exact w_c4
  · exact w_c5
  · exact w_c6
  · exact w_c7
  · exact w_c8
  · exact w_c9
  · exact w_c10
  · exact w_c11
  · exact w_c12
  · exact w_c13
  · exact w_c14
  · exact w_c15
  · exact w_c16
  · exact w_c17
  · exact w_c18
  · exact w_c19
  · exact w_c20
  · exact w_c21
  · exact w_c22
  · exact w_c23
  · exact w_c24
  · exact w_c25
  · exact w_c26
  · exact w_c27
set_option maxRecDepth 65536 in
theorem w_t1 : (words1.take 24).all (fun c => isCode c || c.before args0 about1) = true := by decide +kernel
set_option maxRecDepth 65536 in
theorem w_t2 : ((words1.drop 24).take 24).all (fun c => isCode c || c.before args0 about1) = true := by decide +kernel
set_option maxRecDepth 65536 in
theorem w_t3 : (((words1.drop 24).drop 24).take 24).all (fun c => isCode c || c.before args0 about1) = true := by decide +kernel
set_option maxRecDepth 65536 in
theorem w_t4 : ((((words1.drop 24).drop 24).drop 24).take 24).all (fun c => isCode c || c.before args0 about1) = true := by decide +kernel
set_option maxRecDepth 65536 in
theorem w_t5 : (((((words1.drop 24).drop 24).drop 24).drop 24).take 24).all (fun c => isCode c || c.before args0 about1) = true := by decide +kernel
set_option maxRecDepth 65536 in
theorem w_t6 : ((((((words1.drop 24).drop 24).drop 24).drop 24).drop 24).take 24).all (fun c => isCode c || c.before args0 about1) = true := by decide +kernel
set_option maxRecDepth 65536 in
theorem w_t7 : ((((((words1.drop 24).drop 24).drop 24).drop 24).drop 24).drop 24).all (fun c => isCode c || c.before args0 about1) = true := by decide +kernel
theorem w_tables : (allAtoms (Jvm.Cond.code x code maxLocals ret :: tables_1)).before args0 about1 = true := by
  rw [allAtoms_all]
  show words1.all (fun c => c.before args0 about1) = true
  refine all_split ?_ w_codes
  rw [← List.take_append_drop 24 words1, List.all_append, w_t1, ← List.take_append_drop 24 (words1.drop 24), List.all_append, w_t2, ← List.take_append_drop 24 ((words1.drop 24).drop 24), List.all_append, w_t3, ← List.take_append_drop 24 (((words1.drop 24).drop 24).drop 24), List.all_append, w_t4, ← List.take_append_drop 24 ((((words1.drop 24).drop 24).drop 24).drop 24), List.all_append, w_t5, ← List.take_append_drop 24 (((((words1.drop 24).drop 24).drop 24).drop 24).drop 24), List.all_append, w_t6, w_t7]
  rfl
set_option maxRecDepth 65536 in
theorem w_rest : rest_1_c.before args0 about1 = true := by decide +kernel
set_option maxRecDepth 65536 in
theorem w_case : (Jvm.Cond.and given_1 narrow_1).before args0 about1 = true := by decide +kernel
set_option maxRecDepth 65536 in
theorem w_consts : constsHeld consts_1 about1 := Jvm.Lit.constsHeldB_iff.mp (by decide +kernel)
theorem w_applies : (headSpec (Jvm.Cond.code x code maxLocals ret :: tables_1) room_1).applies x e0.platform about1 = true :=
  (Spec.applies_iff w_frames).mpr ⟨w_running, w_runnable, w_alone, w_named, w_hears, w_ripe, w_room, w_tables⟩
theorem atStart : AtStart classFile x code maxLocals ret World_1 tables_1 room_1 Calls_1 rest_1 Pre_1 launch0 p0 e0 about1 theMethod args0 below0 :=
  ⟨lists_1, trivial, launch0.admits_env _ _ _, launch0.least_env, fairChoices_fair.cas, fairChoices_fair.clock, w_frames, w_args, w_heap, w_applies, ⟨w_consts, trivial⟩, w_rest, w_case⟩
end start1
theorem witness_1 : WitnessClaimed_1 := ⟨start1.p0, start1.e0, start1.about1, start1.theMethod, start1.args0, start1.below0, start1.atStart⟩
end Jvm.Pilot.@@N@@
