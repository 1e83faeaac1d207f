import JvmDerived
import JvmDerived.Pilot.@@N@@Statement
import JvmDerived.Pilot.@@N@@Code
set_option linter.unusedVariables false
set_option linter.unusedSimpArgs false
namespace Jvm.RoadKit
open Sem ClassFile Op Lib Jvm.Stand Jvm.Free Jvm.LawKit
section New
variable {p : Program} {l : Launch} {e : Env} {R : Room} {s : State} {m : MethodId} {args : Array Value} {below : List Frame} {meth : Method} {c : Code} {T : State} {locs : List Loc} {cells slots : Nat}
theorem retI (X : Stand p l e R s m args below meth c T locs cells slots) (hx : p.tables.exec = Jvm.exec) {pc : Nat} {Ls : Array Slot} {z : Int32} {rest : List Value} (hret : meth.sig.returnType = some .int) (hd : decode c.code pc = .ok (.ireturn, 1)) {fs : List Frame}
    (hl : ∀ (f : JFrame) (acts : List Action), f.method = m → f.locked = none → f.entered = [] → (doReturn e (T.setTop f) acts (some (.int z))).1 = T.setFrames fs) : Steps p.tables e below (T.setTop (mkF m pc Ls (.int z :: rest))) (T.setFrames fs) := by
  have hm' : T.vm.method? m = some meth := X.method'
  have hn : narrow .int (.int z) = .int z := rfl
  show Steps p.tables e below (T.setTop { method := m, pc := pc, locals := Ls, stack := _ :: rest, locked := none }) _
  jvm_step X.here [X.here.top, hx, hd, hm', hret, hn]
  first | (intro acts; rw [hl _ acts rfl rfl rfl]) | rw [hl _ _ rfl rfl rfl]
  exact Steps.refl _
end New
end Jvm.RoadKit
namespace Jvm.Pilot.@@N@@
open Jvm Jvm.ClassFile Sem Op Lib Jvm.Free Jvm.Stand Jvm.LawKit Jvm.RoadKit Bundle Jvm.Pilot.@@N@@.Jvm.D
theorem own_retJ {p : Program} {l : Launch} {e : Env} {R : Room} {s : State} {m : MethodId} {args : Array Value} {below : List Frame} {meth : Method} {c : Code} {T : State} {locs : List Loc} {cells slots : Nat} (X : Stand p l e R s m args below meth c T locs cells slots) (hx : p.tables.exec = Jvm.exec) {pc : Nat} {Ls : Array Slot} {z : Int64} {rest : List Value} (hret : meth.sig.returnType = some .long) (hd : decode c.code pc = .ok (.lreturn, 1)) {fs : List Frame}
    (hl : ∀ (f : JFrame) (acts : List Action), f.method = m → f.locked = none → f.entered = [] → (doReturn e (T.setTop f) acts (some (.long z))).1 = T.setFrames fs) : Steps p.tables e below (T.setTop (mkF m pc Ls (.long z :: rest))) (T.setFrames fs) := by
  have hm' : T.vm.method? m = some meth := X.method'
  have hn : narrow .long (.long z) = .long z := rfl
  show Steps p.tables e below (T.setTop { method := m, pc := pc, locals := Ls, stack := _ :: rest, locked := none }) _
  jvm_step X.here [X.here.top, hx, hd, hm', hret, hn]
  first | (intro acts; rw [hl _ acts rfl rfl rfl]) | rw [hl _ _ rfl rfl rfl]
  exact Steps.refl _
theorem own_retD {p : Program} {l : Launch} {e : Env} {R : Room} {s : State} {m : MethodId} {args : Array Value} {below : List Frame} {meth : Method} {c : Code} {T : State} {locs : List Loc} {cells slots : Nat} (X : Stand p l e R s m args below meth c T locs cells slots) (hx : p.tables.exec = Jvm.exec) {pc : Nat} {Ls : Array Slot} {z : UInt64} {rest : List Value} (hret : meth.sig.returnType = some .double) (hd : decode c.code pc = .ok (.dreturn, 1)) {fs : List Frame}
    (hl : ∀ (f : JFrame) (acts : List Action), f.method = m → f.locked = none → f.entered = [] → (doReturn e (T.setTop f) acts (some (.double z))).1 = T.setFrames fs) : Steps p.tables e below (T.setTop (mkF m pc Ls (.double z :: rest))) (T.setFrames fs) := by
  have hm' : T.vm.method? m = some meth := X.method'
  have hn : narrow .double (.double z) = .double z := rfl
  show Steps p.tables e below (T.setTop { method := m, pc := pc, locals := Ls, stack := _ :: rest, locked := none }) _
  jvm_step X.here [X.here.top, hx, hd, hm', hret, hn]
  first | (intro acts; rw [hl _ acts rfl rfl rfl]) | rw [hl _ _ rfl rfl rfl]
  exact Steps.refl _
theorem own_sta_keep {Z : State} {h h' : Heap} {C n d : String} {v : Value} {ws : List Addr} (F : Sta Z h C n d v) (K : Keep h h' ws) (q : ∀ x ∈ ws, ∀ c : Cell, h[x]? = some c → c.vm.isStatics = false) : Sta Z h' C n d v := by
  obtain ⟨cf, i, k, f, st, cell, h1, h2, h3, h4, h5, h6, h7⟩ := F
  exact ⟨cf, i, k, f, st, cell, h1, h2, h3, h4, K.2.1 st cell h5 (fun z => by have := q st z cell h5; rw [h6] at this; cases this), h6, h7⟩
theorem own_ins_keep {Z : State} {h h' : Heap} {a : Addr} {C : String} {b : Bool} {ws : List Addr} (F : Ins Z h a C b) (K : Keep h h' ws) : Ins Z h' a C b := by
  obtain ⟨cell, cT, h1, h2, h3⟩ := F
  obtain ⟨c', e1, e2, e3, -⟩ := K.2.2 a cell h1
  exact ⟨c', cT, e1, h2, by rw [e2, e3]; exact h3⟩
theorem own_pl0 {h : Heap} : ∀ x ∈ ([] : List Addr), ∀ c : Cell, h[x]? = some c → c.vm.isStatics = false := fun _ q => nomatch q
theorem own_plS {h : Heap} {y : Addr} {L : List Addr} (q : ∀ c : Cell, h[y]? = some c → c.vm.isStatics = false) (r : ∀ x ∈ L, ∀ c : Cell, h[x]? = some c → c.vm.isStatics = false) : ∀ x ∈ y :: L, ∀ c : Cell, h[x]? = some c → c.vm.isStatics = false := fun x z => (List.mem_cons.mp z).elim (fun u => u ▸ q) (r x)
theorem own_pl_exa {Z : State} {h : Heap} {a : Addr} {C : String} (F : Exa Z h a C) : ∀ c : Cell, h[a]? = some c → c.vm.isStatics = false := fun c hc => by
  obtain ⟨cell, k, h1, -, -, h4, -⟩ := F; cases h1.symm.trans hc; exact h4
theorem own_pl_fld {Z : State} {h : Heap} {a : Addr} {C n d : String} {v : Value} (F : Fld Z h a C n d v) : ∀ c : Cell, h[a]? = some c → c.vm.isStatics = false := fun c hc => by
  obtain ⟨cell, cf, k, i, f, h1, -, -, -, h5, -⟩ := F; cases h1.symm.trans hc; exact h5
theorem own_pl_arv {Z : State} {h : Heap} {a : Addr} {k : ClassId} {ty : FieldType} {z : Int32} {vs : List Value} {d : Value} (F : Arv Z h a k ty z vs d) : ∀ c : Cell, h[a]? = some c → c.vm.isStatics = false := fun c hc => by
  obtain ⟨cl, A, -⟩ := F; cases A.1.symm.trans hc; exact A.plain
theorem own_isr {s : State} {args : Array Value} {t : Term} (h : (Jvm.Cond.isRef t).value args s none s [] = some true) : ∃ v, t.eval args s none [] s = some v ∧ v.isRef = true := by
  simp only [Cond.value, Option.map_eq_some_iff] at h
  obtain ⟨v, h1, h2⟩ := h
  refine ⟨v, h1, ?_⟩
  cases v <;> first | rfl | cases h2
theorem own_nz {s : State} {args : Array Value} {t : Term} {z : Int32} (ev : t.eval args s none [] s = some (.int z)) (h : (Jvm.Cond.not (.eq t (.int (0 : Int32)))).value args s none s [] = some true) : ¬ (z = (0 : Int32)) := fun q => by
  have z2 : (Jvm.Cond.eq t (.int (0 : Int32))).value args s none s [] = some true := by rw [Cond.eq_ints ev (Term.int_eval 0), q]; rfl
  have h' : ((Jvm.Cond.eq t (.int (0 : Int32))).value args s none s []).map (!·) = some true := h
  rw [z2] at h'
  cases h'
theorem own_len {s : State} {args : Array Value} {t : Term} {a : Addr} {cl : Cell} {ty : FieldType} {z : Int32} (ev : t.eval args s none [] s = some (.ref a)) (A : Arr s s.heap a cl ty) (n3 : (Jvm.Cond.eq (.length t) (.int z)).value args s none s [] = some true) : cl.slots.size < 2 ^ 31 ∧ cl.slots.size.toInt32 = z := by
  have hlen := Cond.eq_int (Cond.before_iff.mpr n3) (Term.int_eval z)
  have hat : s.arrayAt? a = some cl := A.fin (Vm.Alike.refl _)
  have h31 := SBG.length_lt ev hat hlen
  obtain ⟨a', cell, e1, e2, e3⟩ := Term.length_spec hlen
  cases e1.symm.trans ev
  cases e2.symm.trans hat
  exact ⟨h31, (Value.int.inj e3).symm⟩
theorem own_elem {s : State} {args : Array Value} {t u : Term} {a : Addr} {cl : Cell} {ty : FieldType} {i : Int32} {v : Value} (ev : t.eval args s none [] s = some (.ref a)) (A : Arr s s.heap a cl ty) (h : (Jvm.Cond.eq (.elem t (.int i)) u).value args s none s [] = some true) (hu : u.eval args s none [] s = some v) (hv : v.isRef = true) : cl.slots[i.toNatClampNeg]? = some v :=
  (elem_in (Cond.eq_refs (Cond.before_iff.mpr h) hu hv) ev (Term.int_eval i) A.1).2
theorem own_fld {s : State} {args : Array Value} {t : Term} {a : Addr} {C n d : String} {z : Int32} (ev : t.eval args s none [] s = some (.ref a)) (h : (Jvm.Cond.eq (.field t C n d) (.int z)).value args s none s [] = some true) : Fld s s.heap a C n d (.int z) :=
  Fld.start ((fld_at ev).symm.trans (Cond.eq_int (Cond.before_iff.mpr h) (Term.int_eval z)))
theorem own_sta {s : State} {args : Array Value} {C n d K : String} (w1 : (Jvm.Cond.initialized C).before args s = true) (w2 : (Jvm.Cond.laysStatic C n d).before args s = true) (h : (Jvm.Cond.exactly (.static C n d) K).value args s none s [] = some true) : ∃ a : Addr, (Term.static C n d).eval args s none [] s = some (.ref a) ∧ Sta s s.heap C n d (.ref a) ∧ Exa s s.heap a K := by
  obtain ⟨a, ev⟩ := exa_v h
  exact ⟨a, ev, Sta.start ev (Or.inr ⟨w1, w2⟩), Exa.start ev h⟩
theorem own_selp {y : MethodName} {Z : State} {a0 : Array Value} {n : Nat} (hy : y.cls ≠ "java/lang/invoke/MethodHandle" ∧ y.cls ≠ "java/lang/invoke/VarHandle") (hins : (Jvm.Cond.instantiable y.cls n).before a0 Z = true) (hpriv : (Jvm.Cond.privateMethod y).before a0 Z = true) (hinst : (Jvm.Cond.instanceMethod y).before a0 Z = true) : (Jvm.Cond.selects y.cls y y).before a0 Z = true := by
  obtain ⟨c, k, hc, hk, -, hniab, -, -⟩ := Cond.instantiable_spec hins
  have hni : k.isInterface = false := (Bool.or_eq_false_iff.mp hniab).1
  obtain ⟨mk, methM, hnamed, hmethM, -, -⟩ := Cond.instanceMethod_spec hinst
  have hfound : Z.methodFound? y.cls y.name y.desc = some mk := State.methodFound?_of_named hnamed hy
  have hcls : mk.cls = c := Option.some.inj ((findClass_of_methodNamed hnamed).symm.trans hc)
  have hsel : selectMethod {} Z.vm c mk = .method mk := selectMethod_private hmethM (Cond.privateMethod_at hpriv mk methM hnamed hmethM)
  simp only [Cond.before, Cond.holds, Cond.value, hc, hfound, hnamed, hsel, hcls, hk]
  simp; exact hni
theorem own_catI (z : Int32) : (Value.int z).category = 1 := rfl
theorem own_catJ (z : Int64) : (Value.long z).category = 2 := rfl
theorem own_catR (z : Addr) : (Value.ref z).category = 1 := rfl
theorem own_catN : Value.null.category = 1 := rfl
theorem own_catD (z : UInt64) : (Value.double z).category = 2 := rfl
theorem own_same {Z : State} {a0 : Array Value} {y x2 y2 : MethodName} {K : String} (hi : (Jvm.Cond.instanceMethod y).before a0 Z = true) (hs : (Jvm.Cond.selects K x2 y2).before a0 Z = true) (e : y2.cls = y.cls) (hx : y.cls ≠ "java/lang/invoke/MethodHandle" ∧ y.cls ≠ "java/lang/invoke/VarHandle") : (Jvm.Cond.sameMethod y.cls y.cls y.name y.desc).before a0 Z = true := by
  obtain ⟨mk, meth, hn, -, -, -⟩ := Cond.instanceMethod_spec hi
  obtain ⟨c2, r2, m2, q1, q2, q3, q4, kP, hkP, hkPi⟩ := Cond.selects_spec hs
  have hf := State.methodFound?_of_named hn hx
  have hc := findClass_of_methodNamed hn
  have hc2 := findClass_of_methodNamed q3
  rw [e] at hc2
  have em : m2.cls = mk.cls := Option.some.inj (hc2.symm.trans hc)
  rw [em] at hkP
  have hn' : Z.methodNamed? ⟨y.cls, y.name, y.desc⟩ = some mk := hn
  simp [Cond.before, Cond.holds, Cond.value, hc, hf, hn', hkP, hkPi]
theorem own_nf {Z : State} {a0 : Array Value} {y x2 y2 : MethodName} {K : String} (hs : (Jvm.Cond.selects K x2 y2).before a0 Z = true) (e : y2.cls = y.cls) : NotFace Z y := fun r0 h0 => by
  obtain ⟨c2, r2, m2, q1, q2, q3, q4, kP, hkP, hkPi⟩ := Cond.selects_spec hs
  have hc := findClass_of_methodNamed h0
  have hc2 := findClass_of_methodNamed q3
  rw [e] at hc2
  have em : m2.cls = r0.cls := Option.some.inj (hc2.symm.trans hc)
  exact ⟨kP, em ▸ hkP, hkPi⟩
theorem own_declares {Z : State} {a0 : Array Value} {y : MethodName} {bytes : ByteArray} {maxL : Nat} {r : Option FieldType} (hi : (Jvm.Cond.instanceMethod y).before a0 Z = true) (hc : (Jvm.Cond.code y bytes maxL r).before a0 Z = true) : (Jvm.Cond.declares y).before a0 Z = true := by
  obtain ⟨mk, meth, hn, hm, hst, -⟩ := Cond.instanceMethod_spec hi
  obtain ⟨m2, cM, q1, -, -, -, -, -, -, hsig⟩ := Cond.code_spec hn hc
  cases hm.symm.trans q1
  simp [Cond.before, Cond.holds, Cond.value, hn, hm, hst, hsig]
def own_EL : List (String × Nat) := [("com/example/ghostseat/ghostseat/modes/comics/Title", 105), ("com/example/ghostseat/ghostseat/modes/comics/TitleLeastForATitlePinLaw", 30)]
theorem own_wS {Z : State} {a0 : Array Value} (hw : ∀ d ∈ tables_1, d.before a0 Z = true) : ∀ a ∈ Bundle.stringAtoms, a.before a0 Z = true := by
  intro a ha
  simp only [Bundle.stringAtoms, Bundle.sN, List.mem_cons, List.not_mem_nil, or_false] at ha
  rcases ha with rfl | rfl | rfl | rfl | rfl | rfl | rfl
  · exact hw _ (List.mem_of_getElem? (i := 62) rfl)
  · exact hw _ (List.mem_of_getElem? (i := 100) rfl)
  · exact hw _ (List.mem_of_getElem? (i := 63) rfl)
  · exact hw _ (List.mem_of_getElem? (i := 101) rfl)
  · exact hw _ (List.mem_of_getElem? (i := 102) rfl)
  · exact hw _ (List.mem_of_getElem? (i := 103) rfl)
  · exact hw _ (List.mem_of_getElem? (i := 104) rfl)
theorem own_safe_arv {Z : State} {vm : Vm} {h : Heap} {a : Addr} {k : ClassId} {ty : FieldType} {z : Int32} {vs : List Value} {d : Value} (hal : Z.vm.Alike vm) (F : Arv Z h a k ty z vs d) (ht : ty ≠ .byte) : Safe Z own_EL vm h a := by
  obtain ⟨cl, A, -⟩ := F; exact Safe.arr hal A ht
def own_ones : List Value := [(.int (48 : Int32)), (.int (49 : Int32)), (.int (50 : Int32)), (.int (51 : Int32)), (.int (52 : Int32)), (.int (53 : Int32)), (.int (54 : Int32)), (.int (55 : Int32)), (.int (56 : Int32)), (.int (57 : Int32)), (.int (48 : Int32)), (.int (49 : Int32)), (.int (50 : Int32)), (.int (51 : Int32)), (.int (52 : Int32)), (.int (53 : Int32)), (.int (54 : Int32)), (.int (55 : Int32)), (.int (56 : Int32)), (.int (57 : Int32)), (.int (48 : Int32)), (.int (49 : Int32)), (.int (50 : Int32)), (.int (51 : Int32)), (.int (52 : Int32)), (.int (53 : Int32)), (.int (54 : Int32)), (.int (55 : Int32)), (.int (56 : Int32)), (.int (57 : Int32)), (.int (48 : Int32)), (.int (49 : Int32)), (.int (50 : Int32)), (.int (51 : Int32)), (.int (52 : Int32)), (.int (53 : Int32)), (.int (54 : Int32)), (.int (55 : Int32)), (.int (56 : Int32)), (.int (57 : Int32)), (.int (48 : Int32)), (.int (49 : Int32)), (.int (50 : Int32)), (.int (51 : Int32)), (.int (52 : Int32)), (.int (53 : Int32)), (.int (54 : Int32)), (.int (55 : Int32)), (.int (56 : Int32)), (.int (57 : Int32)), (.int (48 : Int32)), (.int (49 : Int32)), (.int (50 : Int32)), (.int (51 : Int32)), (.int (52 : Int32)), (.int (53 : Int32)), (.int (54 : Int32)), (.int (55 : Int32)), (.int (56 : Int32)), (.int (57 : Int32)), (.int (48 : Int32)), (.int (49 : Int32)), (.int (50 : Int32)), (.int (51 : Int32)), (.int (52 : Int32)), (.int (53 : Int32)), (.int (54 : Int32)), (.int (55 : Int32)), (.int (56 : Int32)), (.int (57 : Int32)), (.int (48 : Int32)), (.int (49 : Int32)), (.int (50 : Int32)), (.int (51 : Int32)), (.int (52 : Int32)), (.int (53 : Int32)), (.int (54 : Int32)), (.int (55 : Int32)), (.int (56 : Int32)), (.int (57 : Int32)), (.int (48 : Int32)), (.int (49 : Int32)), (.int (50 : Int32)), (.int (51 : Int32)), (.int (52 : Int32)), (.int (53 : Int32)), (.int (54 : Int32)), (.int (55 : Int32)), (.int (56 : Int32)), (.int (57 : Int32)), (.int (48 : Int32)), (.int (49 : Int32)), (.int (50 : Int32)), (.int (51 : Int32)), (.int (52 : Int32)), (.int (53 : Int32)), (.int (54 : Int32)), (.int (55 : Int32)), (.int (56 : Int32)), (.int (57 : Int32))]
def own_tens : List Value := [(.int (48 : Int32)), (.int (48 : Int32)), (.int (48 : Int32)), (.int (48 : Int32)), (.int (48 : Int32)), (.int (48 : Int32)), (.int (48 : Int32)), (.int (48 : Int32)), (.int (48 : Int32)), (.int (48 : Int32)), (.int (49 : Int32)), (.int (49 : Int32)), (.int (49 : Int32)), (.int (49 : Int32)), (.int (49 : Int32)), (.int (49 : Int32)), (.int (49 : Int32)), (.int (49 : Int32)), (.int (49 : Int32)), (.int (49 : Int32)), (.int (50 : Int32)), (.int (50 : Int32)), (.int (50 : Int32)), (.int (50 : Int32)), (.int (50 : Int32)), (.int (50 : Int32)), (.int (50 : Int32)), (.int (50 : Int32)), (.int (50 : Int32)), (.int (50 : Int32)), (.int (51 : Int32)), (.int (51 : Int32)), (.int (51 : Int32)), (.int (51 : Int32)), (.int (51 : Int32)), (.int (51 : Int32)), (.int (51 : Int32)), (.int (51 : Int32)), (.int (51 : Int32)), (.int (51 : Int32)), (.int (52 : Int32)), (.int (52 : Int32)), (.int (52 : Int32)), (.int (52 : Int32)), (.int (52 : Int32)), (.int (52 : Int32)), (.int (52 : Int32)), (.int (52 : Int32)), (.int (52 : Int32)), (.int (52 : Int32)), (.int (53 : Int32)), (.int (53 : Int32)), (.int (53 : Int32)), (.int (53 : Int32)), (.int (53 : Int32)), (.int (53 : Int32)), (.int (53 : Int32)), (.int (53 : Int32)), (.int (53 : Int32)), (.int (53 : Int32)), (.int (54 : Int32)), (.int (54 : Int32)), (.int (54 : Int32)), (.int (54 : Int32)), (.int (54 : Int32)), (.int (54 : Int32)), (.int (54 : Int32)), (.int (54 : Int32)), (.int (54 : Int32)), (.int (54 : Int32)), (.int (55 : Int32)), (.int (55 : Int32)), (.int (55 : Int32)), (.int (55 : Int32)), (.int (55 : Int32)), (.int (55 : Int32)), (.int (55 : Int32)), (.int (55 : Int32)), (.int (55 : Int32)), (.int (55 : Int32)), (.int (56 : Int32)), (.int (56 : Int32)), (.int (56 : Int32)), (.int (56 : Int32)), (.int (56 : Int32)), (.int (56 : Int32)), (.int (56 : Int32)), (.int (56 : Int32)), (.int (56 : Int32)), (.int (56 : Int32)), (.int (57 : Int32)), (.int (57 : Int32)), (.int (57 : Int32)), (.int (57 : Int32)), (.int (57 : Int32)), (.int (57 : Int32)), (.int (57 : Int32)), (.int (57 : Int32)), (.int (57 : Int32)), (.int (57 : Int32))]
theorem own_arrB {s : State} {args : Array Value} {t : Term} {a : Addr} {z : Int32} (ev : t.eval args s none [] s = some (.ref a)) (hx : (Jvm.Cond.exactly t "[B").value args s none s [] = some true) (wa : (Jvm.Cond.arrayClass .byte).before args s = true) (hl : (Jvm.Cond.eq (.length t) (.int z)).value args s none s [] = some true) : ∃ cl, Arr s s.heap a cl .byte := by
  obtain ⟨d, cB, D, kB, hev, hfcB, hcellD, hkB, hstatD, hclsD, -⟩ := Cond.exactly_spec (Cond.before_iff.mpr hx)
  cases ev.symm.trans hev
  obtain ⟨a', cell, e1, e2, e3⟩ := Term.length_spec (Cond.eq_int (Cond.before_iff.mpr hl) (Term.int_eval z))
  cases ev.symm.trans e1
  obtain ⟨hc', hkn, -, -⟩ := State.arrayAt?_spec e2
  cases hcellD.symm.trans hc'
  obtain ⟨cB', kB', comp, hnameB, hkB', hkindB⟩ := Cond.arrayClass_spec wa
  have eBA : ("[" ++ FieldType.toString .byte) = "[B" := by decide
  rw [eBA] at hnameB
  cases hfcB.symm.trans hnameB
  cases hkB.symm.trans hkB'
  exact ⟨D, hcellD, ⟨(fun q h => by rw [h] at hstatD; cases hstatD), kB, (by rw [hclsD]; exact hkB), comp, hkindB⟩, hkn⟩
theorem own_dig {s : State} {args : Array Value} {t rhs : Term} {a : Addr} {cl : Cell} {F : Nat → Int32} {vs : List Value} {dv : Value} (hfit : Fit s) (ev : ∀ idx, t.eval args s none idx s = some (.ref a)) (A : Arr s s.heap a cl .byte) (l1 : cl.slots.size < 2 ^ 31) (l2 : cl.slots.size.toInt32 = (100 : Int32)) (h : (Jvm.Cond.all t (.eq (.elem t (.index 0)) rhs)).value args s none s [] = some true) (hr : ∀ i, i < 100 → rhs.eval args s none [i] s = some (.int (F i)) ∧ vs.getD i dv = .int (F i)) : Arv s s.heap a cl.cls .byte (100 : Int32) vs dv := by
  have S : cl.slots.size = (100 : Int32).toNatClampNeg := by rw [← l2]; simp only [Int32.toNatClampNeg, len_toInt l1]; rfl
  have S' : cl.slots.size = 100 := S
  have hat : s.arrayAt? a = some cl := A.fin (Vm.Alike.refl _)
  have H : Has cl vs dv := fun j hj => by
    have q := Cond.all_elim (ev []) hat h j hj
    obtain ⟨r1, r2⟩ := hr j (S' ▸ hj)
    have q2 := Cond.eq_int (show (Jvm.Cond.eq (.elem t (.index 0)) rhs).holds args s none s [j] = true by simp only [Cond.holds, q]; rfl) r1
    have q3 : (Term.elem t (.index 0)).eval args s none [j] s = cl.slots[j]? := Jvm.Free.SBG.elem_at (ix := .index 0) (ev [j]) hat hj l1 rfl
    rw [r2, ← q3]; exact q2
  refine ⟨cl, A, rfl, S, by decide, H, fun j hj => ?_⟩
  have e1 : (Nat.toInt32 j).toNatClampNeg = j := by simp only [Int32.toNatClampNeg, len_toInt (Nat.lt_trans hj l1)]; rfl
  exact elem_fits (j := Nat.toInt32 j) hfit A (idx_in hj l1) (by rw [e1]; exact H j hj)
theorem own_ones_at : ∀ i, i < 100 → (48 : Int32) + Int32.ofNat i % 10 = Int32.ofNat (48 + i % 10) ∧ own_ones.getD i (.int 0) = .int (Int32.ofNat (48 + i % 10)) := by decide +kernel
theorem own_tens_at : ∀ i, i < 100 → (48 : Int32) + Int32.ofNat i / 10 = Int32.ofNat (48 + i / 10) ∧ own_tens.getD i (.int 0) = .int (Int32.ofNat (48 + i / 10)) := by decide +kernel
theorem own_cat {v : Value} (h : v.isRef = true) : v.category = 1 := by cases v <;> first | rfl | cases h
theorem pd_0 : parseMethodDescriptor "()I" = some ⟨[], some .int⟩ := by decide +kernel
theorem pd_1 : parseMethodDescriptor "(I)V" = some ⟨[.int], none⟩ := by decide +kernel
theorem pd_2 : parseMethodDescriptor "()V" = some ⟨[], none⟩ := by decide +kernel
theorem pd_3 : parseMethodDescriptor "(I)I" = some ⟨[.int], some .int⟩ := by decide +kernel
theorem pd_4 : parseMethodDescriptor "()Z" = some ⟨[], some .boolean⟩ := by decide +kernel
theorem pd_5 : parseMethodDescriptor "(II[B)I" = some ⟨[.int, .int, (.array .byte)], some .int⟩ := by decide +kernel
theorem pd_6 : parseMethodDescriptor "(I)Ljava/lang/AbstractStringBuilder;" = some ⟨[.int], some (.object "java/lang/AbstractStringBuilder")⟩ := by decide +kernel
theorem pd_7 : parseMethodDescriptor "(I)Ljava/lang/StringBuilder;" = some ⟨[.int], some (.object "java/lang/StringBuilder")⟩ := by decide +kernel
theorem pd_8 : parseMethodDescriptor "()B" = some ⟨[], some .byte⟩ := by decide +kernel
theorem pd_9 : parseMethodDescriptor "(Ljava/lang/String;)V" = some ⟨[(.object "java/lang/String")], none⟩ := by decide +kernel
theorem pd_10 : parseMethodDescriptor "([BIB)V" = some ⟨[(.array .byte), .int, .byte], none⟩ := by decide +kernel
theorem pd_11 : parseMethodDescriptor "(ILjava/lang/String;)V" = some ⟨[.int, (.object "java/lang/String")], none⟩ := by decide +kernel
theorem pd_12 : parseMethodDescriptor "(Ljava/lang/String;)Ljava/lang/AbstractStringBuilder;" = some ⟨[(.object "java/lang/String")], some (.object "java/lang/AbstractStringBuilder")⟩ := by decide +kernel
theorem pd_13 : parseMethodDescriptor "(Ljava/lang/String;)Ljava/lang/StringBuilder;" = some ⟨[(.object "java/lang/String")], some (.object "java/lang/StringBuilder")⟩ := by decide +kernel
theorem pd_14 : parseMethodDescriptor "(I)Ljava/lang/Object;" = some ⟨[.int], some (.object "java/lang/Object")⟩ := by decide +kernel
theorem pd_15 : parseMethodDescriptor "()[B" = some ⟨[], some (.array .byte)⟩ := by decide +kernel
theorem pd_16 : parseMethodDescriptor "(II)V" = some ⟨[.int, .int], none⟩ := by decide +kernel
theorem pd_17 : parseMethodDescriptor "(II)I" = some ⟨[.int, .int], some .int⟩ := by decide +kernel
theorem pd_18 : parseMethodDescriptor "([BII)[B" = some ⟨[(.array .byte), .int, .int], some (.array .byte)⟩ := by decide +kernel
theorem pd_19 : parseMethodDescriptor "(Ljava/lang/AbstractStringBuilder;Ljava/lang/Void;)V" = some ⟨[(.object "java/lang/AbstractStringBuilder"), (.object "java/lang/Void")], none⟩ := by decide +kernel
theorem pd_20 : parseMethodDescriptor "(Ljava/lang/StringBuilder;)V" = some ⟨[(.object "java/lang/StringBuilder")], none⟩ := by decide +kernel
theorem pd_21 : parseMethodDescriptor "()Ljava/lang/String;" = some ⟨[], some (.object "java/lang/String")⟩ := by decide +kernel
theorem pd_22 : parseMethodDescriptor "([B[B)Z" = some ⟨[(.array .byte), (.array .byte)], some .boolean⟩ := by decide +kernel
theorem pd_23 : parseMethodDescriptor "(IILjava/util/function/BiFunction;)I" = some ⟨[.int, .int, (.object "java/util/function/BiFunction")], some .int⟩ := by decide +kernel
theorem pd_24 : parseMethodDescriptor "([BI)C" = some ⟨[(.array .byte), .int], some .char⟩ := by decide +kernel
theorem pd_25 : parseMethodDescriptor "(I)C" = some ⟨[.int], some .char⟩ := by decide +kernel
theorem pd_26 : parseMethodDescriptor "(Ljava/lang/Object;)Z" = some ⟨[(.object "java/lang/Object")], some .boolean⟩ := by decide +kernel
theorem d5_0 : decode jdk_37_method_2_code 0 = .ok (.aload_n 0, 1) := by decide +kernel
theorem d5_1 : decode jdk_37_method_2_code 1 = .ok (.getfield 7, 3) := by decide +kernel
theorem d5_4 : decode jdk_37_method_2_code 4 = .ok (.ireturn, 1) := by decide +kernel
theorem pn_java_lang_Enum : plainName "java/lang/Enum" = true := by first | (simp [plainName, overriddenIn]; done) | decide +kernel
theorem ef_5x1 (m : MethodId) (ra0 : Addr) : entryFrame m #[(.ref ra0)] 1 = mkF m 0 #[.val (.ref ra0)] [] := by first | (simp [entryFrame, mkF, argsToLocals, Value.category]; done) | rfl
def Q5x1 (Z : State) (ra0 : Addr) (h0 : Heap) (n0 : Nat) (v : Option Value) (h : Heap) (L : List Loc) : Prop := v = some (.int (6 : Int32)) ∧ Fr n0 L ∧ h = h0
set_option maxRecDepth 65536 in
set_option maxHeartbeats 40000000 in
theorem rm5x1 (l : Launch) (Z : State) (a0 : Array Value) (hw : ∀ d ∈ tables_1, d.before a0 Z = true) (ws : List Jvm.Cond) (ra0 : Addr) (h0 : Heap) (n0 : Nat) (Z0 : n0 ≤ h0.size) (H0 : Fld Z h0 ra0 "java/lang/Enum" "ordinal" "I" (.int (6 : Int32))) :
    MetFree l (⟨"java/lang/Enum", "ordinal", "()I"⟩ : MethodName) (head1 (Jvm.Cond.code (⟨"java/lang/Enum", "ordinal", "()I"⟩ : MethodName) jdk_37_method_2_code 1 (some .int) :: ws) ({ frames := 0, cells := 0, slots := 0, locals := 0 } : Room)) (fun a U => a = #[(.ref ra0)] ∧ Z.Warmed39 U.vm ∧ U.heap = h0) (fun _ _ _ _ _ => True) (fun _ U o U' => ∃ v L, o = .returned v ∧ Q5x1 Z ra0 h0 n0 v U'.heap L ∧ FrameEnd U o U' L ({ frames := 0, cells := 0, slots := 0, locals := 0 } : Room).cells ({ frames := 0, cells := 0, slots := 0, locals := 0 } : Room).slots) := by
  refine MetFree.of_bodySF (plainFor_of_name pn_java_lang_Enum) hisR ?_
  intro p e s m args below meth c s₁ Bd hml0 hP hK
  obtain ⟨rfl, hZ, hh⟩ := hP
  have hx := Bd.exec
  have hby := Bd.bytes
  have hml : c.maxLocals = 1 := hml0
  have hown : s.vm.findClass "java/lang/Enum" = some m.cls := findClass_of_methodNamed Bd.named
  have hnm := (name_of_methodNamed Bd.named Bd.method).1
  have X0 : Stand p l e ({ frames := 0, cells := 0, slots := 0, locals := 0 } : Room) s m #[(.ref ra0)] below meth c s₁ [] 0 0 := Stand.of_body Bd
  have e0 : s₁.heap = h0 := by rw [← hh, Bd.state]; rfl
  have N0 := Fr.nil n0
  have pre0 : ∀ t, Steps p.tables e below (s₁.setTop (mkF m 0 #[.val (.ref ra0)] [])) t → Steps p.tables e below (s₁.setTop (entryFrame m #[(.ref ra0)] 1)) t := fun t k => castTop (ef_5x1 m ra0) k
  obtain ⟨T101, X101, e101, st101⟩ := getF X0 hx hZ hown (host := "") (Or.inl (hw _ (List.mem_of_getElem? (i := 44) rfl))) Via.refl e0 H0 (g := (mkF m 1 #[.val (.ref ra0)] [(.ref ra0)])) rfl rfl (hb hby d5_1)
  obtain ⟨fs, hr, hrun, hended, hW, hsame⟩ := X101.leave (v := some (.int (6 : Int32))) (fun h => by rw [Bd.returns] at h; cases h)
  refine ⟨_, _, pre0 _ ?_, hrun, hended, _, _, rfl, ?_, ⟨_, rfl⟩, hW, hsame.mono (by decide) (by decide)⟩
  · skip
    show Steps p.tables e below (s₁.setTop (mkF m 0 #[.val (.ref ra0)] [])) _
    refine XS.aloadN X0.here hx rfl (hb hby d5_0) rfl rfl ?_
    show Steps p.tables e below (s₁.setTop (mkF m 1 #[.val (.ref ra0)] [(.ref ra0)])) _
    refine st101 _ ?_
    show Steps p.tables e below (T101.setTop (mkF m 4 #[.val (.ref ra0)] [(.int (6 : Int32))])) _
    exact retI X101 hx Bd.returns (hb hby d5_4) hr
  · show Q5x1 Z ra0 h0 n0 _ T101.heap _
    rw [e101]
    exact ⟨rfl, N0, rfl⟩
theorem d7_0 : decode jdk_68_method_2_code 0 = .ok (.aload_n 0, 1) := by decide +kernel
theorem d7_1 : decode jdk_68_method_2_code 1 = .ok (.invokespecial 3, 3) := by decide +kernel
theorem d7_4 : decode jdk_68_method_2_code 4 = .ok (.getstatic 18, 3) := by decide +kernel
theorem d7_7 : decode jdk_68_method_2_code 7 = .ok (.ifCond .eq 18, 3) := by decide +kernel
theorem d7_10 : decode jdk_68_method_2_code 10 = .ok (.aload_n 0, 1) := by decide +kernel
theorem d7_11 : decode jdk_68_method_2_code 11 = .ok (.iload_n 1, 1) := by decide +kernel
theorem d7_12 : decode jdk_68_method_2_code 12 = .ok (.newarray .byte, 2) := by decide +kernel
theorem d7_14 : decode jdk_68_method_2_code 14 = .ok (.putfield 15, 3) := by decide +kernel
theorem d7_17 : decode jdk_68_method_2_code 17 = .ok (.aload_n 0, 1) := by decide +kernel
theorem d7_18 : decode jdk_68_method_2_code 18 = .ok (.iconst 0, 1) := by decide +kernel
theorem d7_19 : decode jdk_68_method_2_code 19 = .ok (.putfield 22, 3) := by decide +kernel
theorem d7_22 : decode jdk_68_method_2_code 22 = .ok (.goto 16, 3) := by decide +kernel
theorem d7_38 : decode jdk_68_method_2_code 38 = .ok (.return_, 1) := by decide +kernel
theorem pn_java_lang_AbstractStringBuilder : plainName "java/lang/AbstractStringBuilder" = true := by first | (simp [plainName, overriddenIn]; done) | decide +kernel
theorem ef_7x3 (m : MethodId) (ra0 : Addr) : entryFrame m #[(.ref ra0), (.int (16 : Int32))] 2 = mkF m 0 #[.val (.ref ra0), .val (.int (16 : Int32))] [] := by first | (simp [entryFrame, mkF, argsToLocals, Value.category]; done) | rfl
def Q7x3 (Z : State) (ra0 : Addr) (ui1 : Int32) (h0 : Heap) (n0 : Nat) (v : Option Value) (h : Heap) (L : List Loc) : Prop := ∃ (b103 : Addr) (k103 : ClassId), v = none ∧ Fr n0 L ∧ Keep h0 h [ra0] ∧ Fld Z h ra0 "java/lang/AbstractStringBuilder" "coder" "B" (.int (0 : Int32)) ∧ Fld Z h ra0 "java/lang/AbstractStringBuilder" "count" "I" (.int (0 : Int32)) ∧ Fld Z h ra0 "java/lang/AbstractStringBuilder" "value" "[B" (.ref b103) ∧ h0.size ≤ b103 ∧ Exa Z h b103 "[B" ∧ Arv Z h b103 k103 .byte (16 : Int32) [(.int (0 : Int32)), (.int (0 : Int32)), (.int (0 : Int32)), (.int (0 : Int32)), (.int (0 : Int32)), (.int (0 : Int32)), (.int (0 : Int32)), (.int (0 : Int32)), (.int (0 : Int32)), (.int (0 : Int32)), (.int (0 : Int32)), (.int (0 : Int32)), (.int (0 : Int32)), (.int (0 : Int32)), (.int (0 : Int32)), (.int (0 : Int32))] (.int (0 : Int32))
set_option maxRecDepth 65536 in
set_option maxHeartbeats 40000000 in
theorem rm7x3 (l : Launch) (Z : State) (a0 : Array Value) (hw : ∀ d ∈ tables_1, d.before a0 Z = true) (ws : List Jvm.Cond) (ra0 : Addr) (ui1 : Int32) (h0 : Heap) (n0 : Nat) (Z0 : n0 ≤ h0.size) (H0 : Sta Z h0 "java/lang/String" "COMPACT_STRINGS" "Z" (.int ui1)) (H1 : ¬ (ui1 = (0 : Int32))) (H2 : Exa Z h0 ra0 "java/lang/StringBuilder") (H3 : Fld Z h0 ra0 "java/lang/AbstractStringBuilder" "value" "[B" .null) (H4 : n0 ≤ ra0) (H5 : Fld Z h0 ra0 "java/lang/AbstractStringBuilder" "coder" "B" (.int (0 : Int32))) (H6 : Fld Z h0 ra0 "java/lang/AbstractStringBuilder" "count" "I" (.int (0 : Int32))) :
    MetFree l (⟨"java/lang/AbstractStringBuilder", "<init>", "(I)V"⟩ : MethodName) (head1 (Jvm.Cond.code (⟨"java/lang/AbstractStringBuilder", "<init>", "(I)V"⟩ : MethodName) jdk_68_method_2_code 2 none :: ws) ({ frames := 1, cells := 1, slots := 16, locals := 12 } : Room)) (fun a U => a = #[(.ref ra0), (.int (16 : Int32))] ∧ Z.Warmed39 U.vm ∧ U.heap = h0) (fun _ _ _ _ _ => True) (fun _ U o U' => ∃ v L, o = .returned v ∧ Q7x3 Z ra0 ui1 h0 n0 v U'.heap L ∧ FrameEnd U o U' L ({ frames := 1, cells := 1, slots := 16, locals := 12 } : Room).cells ({ frames := 1, cells := 1, slots := 16, locals := 12 } : Room).slots) := by
  refine MetFree.of_bodySF (plainFor_of_name pn_java_lang_AbstractStringBuilder) hisR ?_
  intro p e s m args below meth c s₁ Bd hml0 hP hK
  obtain ⟨rfl, hZ, hh⟩ := hP
  have hx := Bd.exec
  have hby := Bd.bytes
  have hml : c.maxLocals = 2 := hml0
  have hown : s.vm.findClass "java/lang/AbstractStringBuilder" = some m.cls := findClass_of_methodNamed Bd.named
  have hnm := (name_of_methodNamed Bd.named Bd.method).1
  have X0 : Stand p l e ({ frames := 1, cells := 1, slots := 16, locals := 12 } : Room) s m #[(.ref ra0), (.int (16 : Int32))] below meth c s₁ [] 0 0 := Stand.of_body Bd
  have e0 : s₁.heap = h0 := by rw [← hh, Bd.state]; rfl
  have N0 := Fr.nil n0
  have pre0 : ∀ t, Steps p.tables e below (s₁.setTop (mkF m 0 #[.val (.ref ra0), .val (.int (16 : Int32))] [])) t → Steps p.tables e below (s₁.setTop (entryFrame m #[(.ref ra0), (.int (16 : Int32))] 2)) t := fun t k => castTop (ef_7x3 m ra0) k
  obtain ⟨T101, X101, e101, st101⟩ := initO X0 hx hZ hown (hw _ (List.mem_of_getElem? (i := 58) rfl)) (hw _ (List.mem_of_getElem? (i := 59) rfl)) (hw _ (List.mem_of_getElem? (i := 60) rfl)) e0 (g := (mkF m 1 #[.val (.ref ra0), .val (.int (16 : Int32))] [(.ref ra0)])) rfl (by rw [hml]; rfl) rfl (hb hby d7_1) (by decide) (W := 0) (by show 2 * 0 + _ ≤ _; exact Nat.le_of_eq rfl) (by decide)
  obtain ⟨T102, X102, e102, st102⟩ := getS2 X101 hx hZ hown (host := "") (Or.inl (hw _ (List.mem_of_getElem? (i := 61) rfl))) Via.refl e101 H0 (g := (mkF m 4 #[.val (.ref ra0), .val (.int (16 : Int32))] [])) rfl (hb hby d7_4)
  obtain ⟨T103, h103, k103, X103, e103, E103, A103, Qe103, st103⟩ := newPE X102 hx hZ (hw _ (List.mem_of_getElem? (i := 63) rfl)) e102 (g := (mkF m 12 #[.val (.ref ra0), .val (.int (16 : Int32))] [(.int (16 : Int32)), (.ref ra0)])) rfl (hb hby d7_12) rfl (by decide) (cap := 16) (by decide) (by decide) (by decide) (by decide) (ad := "[B") (by decide)
  obtain ⟨b103, g103⟩ : ∃ z, z = h0.size := ⟨_, rfl⟩
  rw [← g103] at A103 Qe103 st103
  have V103 : Arv Z h103 b103 k103 .byte (16 : Int32) [(.int (0 : Int32)), (.int (0 : Int32)), (.int (0 : Int32)), (.int (0 : Int32)), (.int (0 : Int32)), (.int (0 : Int32)), (.int (0 : Int32)), (.int (0 : Int32)), (.int (0 : Int32)), (.int (0 : Int32)), (.int (0 : Int32)), (.int (0 : Int32)), (.int (0 : Int32)), (.int (0 : Int32)), (.int (0 : Int32)), (.int (0 : Int32))] (.int (0 : Int32)) := (Arv.new A103 (by decide)).pad (pad_rep [] (.int (0 : Int32)) 16)
  have f104 : Fld Z h103 ra0 "java/lang/AbstractStringBuilder" "value" "[B" .null := (H3.ext E103)
  have f105 : Exa Z h103 ra0 "java/lang/StringBuilder" := (H2.ext E103)
  obtain ⟨T106, h106, X106, e106, W106, st106⟩ := putF X103 hx hZ hown (host := "") (Or.inl (hw _ (List.mem_of_getElem? (i := 64) rfl))) Via.refl e103 f104 f105 (Or.inl (hw _ (List.mem_of_getElem? (i := 65) rfl))) (hw _ (List.mem_of_getElem? (i := 47) rfl)) (ty := (.array .byte)) (by decide) rfl rfl (g := (mkF m 14 #[.val (.ref ra0), .val (.int (16 : Int32))] [(.ref b103), (.ref ra0)])) rfl rfl (hb hby d7_14)
  have Fw106 := f104.same W106
  have N106 := Fr.snoc X106 N0 H4
  have f107 : Fld Z h106 ra0 "java/lang/AbstractStringBuilder" "coder" "B" (.int (0 : Int32)) := ((H5.ext E103).other W106 (Or.inr (slot_ne (Or.inl (hw _ (List.mem_of_getElem? (i := 67) rfl))) (Or.inl (hw _ (List.mem_of_getElem? (i := 65) rfl))) (by decide) (t := .byte) (t' := (.array .byte)) (by decide) (by decide))))
  have f108 : Exa Z h106 ra0 "java/lang/StringBuilder" := (f105.wr W106)
  obtain ⟨T109, h109, X109, e109, W109, st109⟩ := putFN X106 hx hZ hown (hw _ (List.mem_of_getElem? (i := 66) rfl)) Via.refl e106 f107 f108 (Or.inl (hw _ (List.mem_of_getElem? (i := 67) rfl))) (hw _ (List.mem_of_getElem? (i := 47) rfl)) (ty := .byte) (v' := (.int (nar .byte (0 : Int32)))) (by decide) rfl (fits_nar_byte _) (g := (mkF m 19 #[.val (.ref ra0), .val (.int (16 : Int32))] [(.int (0 : Int32)), (.ref ra0)])) rfl rfl (hb hby d7_19)
  rw [show nar .byte (0 : Int32) = (0 : Int32) from by decide] at W109
  have Fw109 := f107.same W109
  have N109 := Fr.snoc X109 N106 H4
  have f110 : Fld Z h109 ra0 "java/lang/AbstractStringBuilder" "count" "I" (.int (0 : Int32)) := (((H6.ext E103).other W106 (Or.inr (slot_ne (Or.inl (hw _ (List.mem_of_getElem? (i := 79) rfl))) (Or.inl (hw _ (List.mem_of_getElem? (i := 65) rfl))) (by decide) (t := .int) (t' := (.array .byte)) (by decide) (by decide)))).other W109 (Or.inr (slot_ne (Or.inl (hw _ (List.mem_of_getElem? (i := 79) rfl))) (Or.inl (hw _ (List.mem_of_getElem? (i := 67) rfl))) (by decide) (t := .int) (t' := .byte) (by decide) (by decide))))
  have f111 : Fld Z h109 ra0 "java/lang/AbstractStringBuilder" "value" "[B" (.ref b103) := (Fw106.other W109 (Or.inr (slot_ne (Or.inl (hw _ (List.mem_of_getElem? (i := 65) rfl))) (Or.inl (hw _ (List.mem_of_getElem? (i := 67) rfl))) (by decide) (t := (.array .byte)) (t' := .byte) (by decide) (by decide))))
  have f112 : Exa Z h109 b103 "[B" := ((Qe103.wr W106).wr W109)
  have ne113 : ra0 ≠ b103 := (Nat.ne_of_lt (Nat.lt_of_lt_of_le H2.lt (Nat.le_of_eq g103.symm)))
  have f114 : Arv Z h109 b103 k103 .byte (16 : Int32) [(.int (0 : Int32)), (.int (0 : Int32)), (.int (0 : Int32)), (.int (0 : Int32)), (.int (0 : Int32)), (.int (0 : Int32)), (.int (0 : Int32)), (.int (0 : Int32)), (.int (0 : Int32)), (.int (0 : Int32)), (.int (0 : Int32)), (.int (0 : Int32)), (.int (0 : Int32)), (.int (0 : Int32)), (.int (0 : Int32)), (.int (0 : Int32))] (.int (0 : Int32)) := ((V103.other W106 (Ne.symm ne113)).other W109 (Ne.symm ne113))
  obtain ⟨fs, hr, hrun, hended, hW, hsame⟩ := X109.leave (v := none) (fun _ => rfl)
  refine ⟨_, _, pre0 _ ?_, hrun, hended, _, _, rfl, ?_, ⟨_, rfl⟩, hW, hsame.mono (by decide) (by decide)⟩
  · skip
    show Steps p.tables e below (s₁.setTop (mkF m 0 #[.val (.ref ra0), .val (.int (16 : Int32))] [])) _
    refine XS.aloadN X0.here hx rfl (hb hby d7_0) rfl rfl ?_
    show Steps p.tables e below (s₁.setTop (mkF m 1 #[.val (.ref ra0), .val (.int (16 : Int32))] [(.ref ra0)])) _
    refine st101 _ ?_
    show Steps p.tables e below (T101.setTop (mkF m 4 #[.val (.ref ra0), .val (.int (16 : Int32))] [])) _
    refine st102 _ ?_
    show Steps p.tables e below (T102.setTop (mkF m 7 #[.val (.ref ra0), .val (.int (16 : Int32))] [(.int ui1)])) _
    refine XS.ifNo X102.here hx rfl (hb hby d7_7) rfl ((if0 _ _).trans (feq (H1 : ¬ (ui1 = (0 : Int32)))).1) ?_
    show Steps p.tables e below (T102.setTop (mkF m 10 #[.val (.ref ra0), .val (.int (16 : Int32))] [])) _
    refine XS.aloadN X102.here hx rfl (hb hby d7_10) rfl rfl ?_
    show Steps p.tables e below (T102.setTop (mkF m 11 #[.val (.ref ra0), .val (.int (16 : Int32))] [(.ref ra0)])) _
    refine XS.iloadN X102.here hx rfl (hb hby d7_11) rfl ?_
    show Steps p.tables e below (T102.setTop (mkF m 12 #[.val (.ref ra0), .val (.int (16 : Int32))] [(.int (16 : Int32)), (.ref ra0)])) _
    refine st103 _ ?_
    show Steps p.tables e below (T103.setTop (mkF m 14 #[.val (.ref ra0), .val (.int (16 : Int32))] [(.ref b103), (.ref ra0)])) _
    refine st106 _ ?_
    show Steps p.tables e below (T106.setTop (mkF m 17 #[.val (.ref ra0), .val (.int (16 : Int32))] [])) _
    refine XS.aloadN X106.here hx rfl (hb hby d7_17) rfl rfl ?_
    show Steps p.tables e below (T106.setTop (mkF m 18 #[.val (.ref ra0), .val (.int (16 : Int32))] [(.ref ra0)])) _
    refine XS.iconst X106.here hx rfl (hb hby d7_18) ?_
    show Steps p.tables e below (T106.setTop (mkF m 19 #[.val (.ref ra0), .val (.int (16 : Int32))] [(.int (0 : Int32)), (.ref ra0)])) _
    refine st109 _ ?_
    show Steps p.tables e below (T109.setTop (mkF m 22 #[.val (.ref ra0), .val (.int (16 : Int32))] [])) _
    refine XS.goto X109.here hx rfl (pc0 := 22) (pc' := 38) rfl (hb hby d7_22) (by decide) (by decide) ?_
    show Steps p.tables e below (T109.setTop (mkF m 38 #[.val (.ref ra0), .val (.int (16 : Int32))] [])) _
    exact X109.returnOut hx Bd.returns (hb hby d7_38) hr
  · show Q7x3 Z ra0 ui1 h0 n0 _ T109.heap _
    rw [e109]
    exact ⟨b103, k103, rfl, N109, ((((Keep.refl h0 [ra0]).ext E103).wr W106 (Or.inl (List.mem_of_getElem? (i := 0) rfl))).wr W109 (Or.inl (List.mem_of_getElem? (i := 0) rfl))), Fw109, f110, f111, (Nat.le_trans (Nat.le_refl _) (Nat.le_of_eq g103.symm)), f112, f114⟩
theorem d6_0 : decode jdk_67_method_1_code 0 = .ok (.aload_n 0, 1) := by decide +kernel
theorem d6_1 : decode jdk_67_method_1_code 1 = .ok (.bipush 16, 2) := by decide +kernel
theorem d6_3 : decode jdk_67_method_1_code 3 = .ok (.invokespecial 1, 3) := by decide +kernel
theorem d6_6 : decode jdk_67_method_1_code 6 = .ok (.return_, 1) := by decide +kernel
theorem pn_java_lang_StringBuilder : plainName "java/lang/StringBuilder" = true := by first | (simp [plainName, overriddenIn]; done) | decide +kernel
theorem ef_6x2 (m : MethodId) (ra0 : Addr) : entryFrame m #[(.ref ra0)] 1 = mkF m 0 #[.val (.ref ra0)] [] := by first | (simp [entryFrame, mkF, argsToLocals, Value.category]; done) | rfl
def Q6x2 (Z : State) (ra0 : Addr) (ui1 : Int32) (h0 : Heap) (n0 : Nat) (v : Option Value) (h : Heap) (L : List Loc) : Prop := ∃ (b103101 : Addr) (k103101 : ClassId), v = none ∧ Fr n0 L ∧ Keep h0 h [ra0] ∧ Fld Z h ra0 "java/lang/AbstractStringBuilder" "coder" "B" (.int (0 : Int32)) ∧ Fld Z h ra0 "java/lang/AbstractStringBuilder" "count" "I" (.int (0 : Int32)) ∧ Fld Z h ra0 "java/lang/AbstractStringBuilder" "value" "[B" (.ref b103101) ∧ h0.size ≤ b103101 ∧ Exa Z h b103101 "[B" ∧ Arv Z h b103101 k103101 .byte (16 : Int32) [(.int (0 : Int32)), (.int (0 : Int32)), (.int (0 : Int32)), (.int (0 : Int32)), (.int (0 : Int32)), (.int (0 : Int32)), (.int (0 : Int32)), (.int (0 : Int32)), (.int (0 : Int32)), (.int (0 : Int32)), (.int (0 : Int32)), (.int (0 : Int32)), (.int (0 : Int32)), (.int (0 : Int32)), (.int (0 : Int32)), (.int (0 : Int32))] (.int (0 : Int32))
set_option maxRecDepth 65536 in
set_option maxHeartbeats 40000000 in
theorem rm6x2 (l : Launch) (Z : State) (a0 : Array Value) (hw : ∀ d ∈ tables_1, d.before a0 Z = true) (ws : List Jvm.Cond) (ra0 : Addr) (ui1 : Int32) (h0 : Heap) (n0 : Nat) (Z0 : n0 ≤ h0.size) (H0 : Sta Z h0 "java/lang/String" "COMPACT_STRINGS" "Z" (.int ui1)) (H1 : ¬ (ui1 = (0 : Int32))) (H2 : Exa Z h0 ra0 "java/lang/StringBuilder") (H3 : Fld Z h0 ra0 "java/lang/AbstractStringBuilder" "value" "[B" .null) (H4 : n0 ≤ ra0) (H5 : Fld Z h0 ra0 "java/lang/AbstractStringBuilder" "coder" "B" (.int (0 : Int32))) (H6 : Fld Z h0 ra0 "java/lang/AbstractStringBuilder" "count" "I" (.int (0 : Int32))) :
    MetFree l (⟨"java/lang/StringBuilder", "<init>", "()V"⟩ : MethodName) (head1 (Jvm.Cond.code (⟨"java/lang/StringBuilder", "<init>", "()V"⟩ : MethodName) jdk_67_method_1_code 1 none :: ws) ({ frames := 2, cells := 1, slots := 16, locals := 25 } : Room)) (fun a U => a = #[(.ref ra0)] ∧ Z.Warmed39 U.vm ∧ U.heap = h0) (fun _ _ _ _ _ => True) (fun _ U o U' => ∃ v L, o = .returned v ∧ Q6x2 Z ra0 ui1 h0 n0 v U'.heap L ∧ FrameEnd U o U' L ({ frames := 2, cells := 1, slots := 16, locals := 25 } : Room).cells ({ frames := 2, cells := 1, slots := 16, locals := 25 } : Room).slots) := by
  refine MetFree.of_bodySF (plainFor_of_name pn_java_lang_StringBuilder) hisR ?_
  intro p e s m args below meth c s₁ Bd hml0 hP hK
  obtain ⟨rfl, hZ, hh⟩ := hP
  have hx := Bd.exec
  have hby := Bd.bytes
  have hml : c.maxLocals = 1 := hml0
  have hown : s.vm.findClass "java/lang/StringBuilder" = some m.cls := findClass_of_methodNamed Bd.named
  have hnm := (name_of_methodNamed Bd.named Bd.method).1
  have X0 : Stand p l e ({ frames := 2, cells := 1, slots := 16, locals := 25 } : Room) s m #[(.ref ra0)] below meth c s₁ [] 0 0 := Stand.of_body Bd
  have e0 : s₁.heap = h0 := by rw [← hh, Bd.state]; rfl
  have N0 := Fr.nil n0
  have pre0 : ∀ t, Steps p.tables e below (s₁.setTop (mkF m 0 #[.val (.ref ra0)] [])) t → Steps p.tables e below (s₁.setTop (entryFrame m #[(.ref ra0)] 1)) t := fun t k => castTop (ef_6x2 m ra0) k
  obtain ⟨_, _, ⟨T101, L101, k101, n101⟩, -, X101, ⟨Lc101, hQ101, l101, y101, z101⟩, st101⟩ := X0.specialBack hx (y := (⟨"java/lang/AbstractStringBuilder", "<init>", "(I)V"⟩ : MethodName)) rfl hown (mvT hZ (hw _ (List.mem_of_getElem? (i := 52) rfl))) (mvT hZ (hw _ (List.mem_of_getElem? (i := 53) rfl))) (mvT hZ (hw _ (List.mem_of_getElem? (i := 57) rfl))) (by decide) (backOf (W := 0) (rm7x3 l Z a0 hw [] ra0 ui1 h0 n0 Z0 H0 H1 H2 H3 H4 H5 H6) hZ (hw _ (List.mem_of_getElem? (i := 57) rfl)) (hw _ (List.mem_of_getElem? (i := 56) rfl)) (by decide) (by decide)) (g := (mkF m 3 #[.val (.ref ra0)] [(.int (16 : Int32)), (.ref ra0)])) rfl (by rw [hml]; rfl) (Steps.refl _) (a := ra0) (argsL := [(.int (16 : Int32))]) (rest := []) (lenOf pd_1 rfl) rfl (by show 2 * 0 + _ ≤ _; exact Nat.le_of_eq rfl) (hb hby d6_3) (fun _ _ => ⟨rfl, e0, (by decide : 0 + 1 ≤ _), (by decide : 0 + 16 ≤ _)⟩)
  dsimp only [Pt.U, Pt.locs, Pt.cells, Pt.slots] at X101 l101 y101 z101 st101 hQ101
  subst l101 y101 z101
  obtain ⟨b103101, k103101, rfl, Nq101, K101, R101_1, R101_2, R101_3, R101_4, R101_5, R101_6⟩ := hQ101
  have N101 := Fr.app N0 Nq101
  obtain ⟨fs, hr, hrun, hended, hW, hsame⟩ := X101.leave (v := none) (fun _ => rfl)
  refine ⟨_, _, pre0 _ ?_, hrun, hended, _, _, rfl, ?_, ⟨_, rfl⟩, hW, hsame.mono (by decide) (by decide)⟩
  · skip
    show Steps p.tables e below (s₁.setTop (mkF m 0 #[.val (.ref ra0)] [])) _
    refine XS.aloadN X0.here hx rfl (hb hby d6_0) rfl rfl ?_
    show Steps p.tables e below (s₁.setTop (mkF m 1 #[.val (.ref ra0)] [(.ref ra0)])) _
    refine XS.bipush X0.here hx rfl (hb hby d6_1) ?_
    show Steps p.tables e below (s₁.setTop (mkF m 3 #[.val (.ref ra0)] [(.int (16 : Int32)), (.ref ra0)])) _
    refine st101.trans ?_
    show Steps p.tables e below (T101.setTop (mkF m 6 #[.val (.ref ra0)] [])) _
    exact X101.returnOut hx Bd.returns (hb hby d6_6) hr
  · show Q6x2 Z ra0 ui1 h0 n0 _ T101.heap _
    exact ⟨b103101, k103101, rfl, N101, ((Keep.refl h0 [ra0]).trans K101 (allS (P := (fun x => x ∈ [ra0] ∨ h0.size ≤ x)) (Or.inl (List.mem_of_getElem? (i := 0) rfl)) all0)), R101_1, R101_2, R101_3, (Nat.le_trans (Nat.le_refl _) R101_4), R101_5, R101_6⟩
theorem d11_0 : decode jdk_33_method_13_code 0 = .ok (.iconst 1, 1) := by decide +kernel
theorem d11_1 : decode jdk_33_method_13_code 1 = .ok (.istore_n 1, 1) := by decide +kernel
theorem d11_2 : decode jdk_33_method_13_code 2 = .ok (.iload_n 0, 1) := by decide +kernel
theorem d11_3 : decode jdk_33_method_13_code 3 = .ok (.ifCond .lt 8, 3) := by decide +kernel
theorem d11_6 : decode jdk_33_method_13_code 6 = .ok (.iconst 0, 1) := by decide +kernel
theorem d11_7 : decode jdk_33_method_13_code 7 = .ok (.istore_n 1, 1) := by decide +kernel
theorem d11_8 : decode jdk_33_method_13_code 8 = .ok (.iload_n 0, 1) := by decide +kernel
theorem d11_9 : decode jdk_33_method_13_code 9 = .ok (.ineg, 1) := by decide +kernel
theorem d11_10 : decode jdk_33_method_13_code 10 = .ok (.istore_n 0, 1) := by decide +kernel
theorem d11_11 : decode jdk_33_method_13_code 11 = .ok (.bipush (-10), 2) := by decide +kernel
theorem d11_13 : decode jdk_33_method_13_code 13 = .ok (.istore_n 2, 1) := by decide +kernel
theorem d11_14 : decode jdk_33_method_13_code 14 = .ok (.iconst 1, 1) := by decide +kernel
theorem d11_15 : decode jdk_33_method_13_code 15 = .ok (.istore_n 3, 1) := by decide +kernel
theorem d11_16 : decode jdk_33_method_13_code 16 = .ok (.iload_n 3, 1) := by decide +kernel
theorem d11_17 : decode jdk_33_method_13_code 17 = .ok (.bipush 10, 2) := by decide +kernel
theorem d11_19 : decode jdk_33_method_13_code 19 = .ok (.if_icmp .ge 23, 3) := by decide +kernel
theorem d11_22 : decode jdk_33_method_13_code 22 = .ok (.iload_n 0, 1) := by decide +kernel
theorem d11_23 : decode jdk_33_method_13_code 23 = .ok (.iload_n 2, 1) := by decide +kernel
theorem d11_24 : decode jdk_33_method_13_code 24 = .ok (.if_icmp .le 7, 3) := by decide +kernel
theorem d11_31 : decode jdk_33_method_13_code 31 = .ok (.bipush 10, 2) := by decide +kernel
theorem d11_33 : decode jdk_33_method_13_code 33 = .ok (.iload_n 2, 1) := by decide +kernel
theorem d11_34 : decode jdk_33_method_13_code 34 = .ok (.imul, 1) := by decide +kernel
theorem d11_35 : decode jdk_33_method_13_code 35 = .ok (.istore_n 2, 1) := by decide +kernel
theorem d11_36 : decode jdk_33_method_13_code 36 = .ok (.iinc 3 1, 3) := by decide +kernel
theorem d11_39 : decode jdk_33_method_13_code 39 = .ok (.goto (-23), 3) := by decide +kernel
theorem d11_27 : decode jdk_33_method_13_code 27 = .ok (.iload_n 3, 1) := by decide +kernel
theorem d11_28 : decode jdk_33_method_13_code 28 = .ok (.iload_n 1, 1) := by decide +kernel
theorem d11_29 : decode jdk_33_method_13_code 29 = .ok (.iadd, 1) := by decide +kernel
theorem d11_30 : decode jdk_33_method_13_code 30 = .ok (.ireturn, 1) := by decide +kernel
theorem pn_java_lang_Integer : plainName "java/lang/Integer" = true := by first | (simp [plainName, overriddenIn]; done) | decide +kernel
theorem ef_11x6 (m : MethodId)  : entryFrame m #[(.int (50 : Int32))] 4 = mkF m 0 #[.val (.int (50 : Int32)), .unset, .unset, .unset] [] := by first | (simp [entryFrame, mkF, argsToLocals, Value.category]; done) | rfl
def Q11x6 (Z : State)  (h0 : Heap) (n0 : Nat) (v : Option Value) (h : Heap) (L : List Loc) : Prop := v = some (.int (2 : Int32)) ∧ Fr n0 L ∧ h = h0
set_option maxRecDepth 65536 in
set_option maxHeartbeats 40000000 in
theorem rm11x6 (l : Launch) (Z : State) (a0 : Array Value) (hw : ∀ d ∈ tables_1, d.before a0 Z = true) (ws : List Jvm.Cond)  (h0 : Heap) (n0 : Nat) (Z0 : n0 ≤ h0.size) :
    MetFree l (⟨"java/lang/Integer", "stringSize", "(I)I"⟩ : MethodName) (head1 (Jvm.Cond.code (⟨"java/lang/Integer", "stringSize", "(I)I"⟩ : MethodName) jdk_33_method_13_code 4 (some .int) :: ws) ({ frames := 0, cells := 0, slots := 0, locals := 0 } : Room)) (fun a U => a = #[(.int (50 : Int32))] ∧ Z.Warmed39 U.vm ∧ U.heap = h0) (fun _ _ _ _ _ => True) (fun _ U o U' => ∃ v L, o = .returned v ∧ Q11x6 Z  h0 n0 v U'.heap L ∧ FrameEnd U o U' L ({ frames := 0, cells := 0, slots := 0, locals := 0 } : Room).cells ({ frames := 0, cells := 0, slots := 0, locals := 0 } : Room).slots) := by
  refine MetFree.of_bodySF (plainFor_of_name pn_java_lang_Integer) hisR ?_
  intro p e s m args below meth c s₁ Bd hml0 hP hK
  obtain ⟨rfl, hZ, hh⟩ := hP
  have hx := Bd.exec
  have hby := Bd.bytes
  have hml : c.maxLocals = 4 := hml0
  have hown : s.vm.findClass "java/lang/Integer" = some m.cls := findClass_of_methodNamed Bd.named
  have hnm := (name_of_methodNamed Bd.named Bd.method).1
  have X0 : Stand p l e ({ frames := 0, cells := 0, slots := 0, locals := 0 } : Room) s m #[(.int (50 : Int32))] below meth c s₁ [] 0 0 := Stand.of_body Bd
  have e0 : s₁.heap = h0 := by rw [← hh, Bd.state]; rfl
  have N0 := Fr.nil n0
  have pre0 : ∀ t, Steps p.tables e below (s₁.setTop (mkF m 0 #[.val (.int (50 : Int32)), .unset, .unset, .unset] [])) t → Steps p.tables e below (s₁.setTop (entryFrame m #[(.int (50 : Int32))] 4)) t := fun t k => castTop (ef_11x6 m ) k
  obtain ⟨fs, hr, hrun, hended, hW, hsame⟩ := X0.leave (v := some (.int (2 : Int32))) (fun h => by rw [Bd.returns] at h; cases h)
  refine ⟨_, _, pre0 _ ?_, hrun, hended, _, _, rfl, ?_, ⟨_, rfl⟩, hW, hsame.mono (by decide) (by decide)⟩
  · skip
    show Steps p.tables e below (s₁.setTop (mkF m 0 #[.val (.int (50 : Int32)), .unset, .unset, .unset] [])) _
    refine XS.iconst X0.here hx rfl (hb hby d11_0) ?_
    show Steps p.tables e below (s₁.setTop (mkF m 1 #[.val (.int (50 : Int32)), .unset, .unset, .unset] [(.int (1 : Int32))])) _
    refine XS.istoreN X0.here hx rfl (hb hby d11_1) rfl (l' := #[.val (.int (50 : Int32)), .val (.int (1 : Int32)), .unset, .unset]) rfl ?_
    show Steps p.tables e below (s₁.setTop (mkF m 2 #[.val (.int (50 : Int32)), .val (.int (1 : Int32)), .unset, .unset] [])) _
    refine XS.iloadN X0.here hx rfl (hb hby d11_2) rfl ?_
    show Steps p.tables e below (s₁.setTop (mkF m 3 #[.val (.int (50 : Int32)), .val (.int (1 : Int32)), .unset, .unset] [(.int (50 : Int32))])) _
    refine XS.ifNo X0.here hx rfl (hb hby d11_3) rfl ((if0 _ _).trans (flt (by decide : ¬ ((50 : Int32) < (0 : Int32)))).1) ?_
    show Steps p.tables e below (s₁.setTop (mkF m 6 #[.val (.int (50 : Int32)), .val (.int (1 : Int32)), .unset, .unset] [])) _
    refine XS.iconst X0.here hx rfl (hb hby d11_6) ?_
    show Steps p.tables e below (s₁.setTop (mkF m 7 #[.val (.int (50 : Int32)), .val (.int (1 : Int32)), .unset, .unset] [(.int (0 : Int32))])) _
    refine XS.istoreN X0.here hx rfl (hb hby d11_7) rfl (l' := #[.val (.int (50 : Int32)), .val (.int (0 : Int32)), .unset, .unset]) rfl ?_
    show Steps p.tables e below (s₁.setTop (mkF m 8 #[.val (.int (50 : Int32)), .val (.int (0 : Int32)), .unset, .unset] [])) _
    refine XS.iloadN X0.here hx rfl (hb hby d11_8) rfl ?_
    show Steps p.tables e below (s₁.setTop (mkF m 9 #[.val (.int (50 : Int32)), .val (.int (0 : Int32)), .unset, .unset] [(.int (50 : Int32))])) _
    refine XS.ineg X0.here hx rfl (hb hby d11_9) rfl ?_
    show Steps p.tables e below (s₁.setTop (mkF m 10 #[.val (.int (50 : Int32)), .val (.int (0 : Int32)), .unset, .unset] [(.int (-(50 : Int32)))])) _
    rw [show (-(50 : Int32)) = (-50 : Int32) from by decide]
    show Steps p.tables e below (s₁.setTop (mkF m 10 #[.val (.int (50 : Int32)), .val (.int (0 : Int32)), .unset, .unset] [(.int (-50 : Int32))])) _
    refine XS.istoreN X0.here hx rfl (hb hby d11_10) rfl (l' := #[.val (.int (-50 : Int32)), .val (.int (0 : Int32)), .unset, .unset]) rfl ?_
    show Steps p.tables e below (s₁.setTop (mkF m 11 #[.val (.int (-50 : Int32)), .val (.int (0 : Int32)), .unset, .unset] [])) _
    refine XS.bipush X0.here hx rfl (hb hby d11_11) ?_
    show Steps p.tables e below (s₁.setTop (mkF m 13 #[.val (.int (-50 : Int32)), .val (.int (0 : Int32)), .unset, .unset] [(.int (-10 : Int32))])) _
    refine XS.istoreN X0.here hx rfl (hb hby d11_13) rfl (l' := #[.val (.int (-50 : Int32)), .val (.int (0 : Int32)), .val (.int (-10 : Int32)), .unset]) rfl ?_
    show Steps p.tables e below (s₁.setTop (mkF m 14 #[.val (.int (-50 : Int32)), .val (.int (0 : Int32)), .val (.int (-10 : Int32)), .unset] [])) _
    refine XS.iconst X0.here hx rfl (hb hby d11_14) ?_
    show Steps p.tables e below (s₁.setTop (mkF m 15 #[.val (.int (-50 : Int32)), .val (.int (0 : Int32)), .val (.int (-10 : Int32)), .unset] [(.int (1 : Int32))])) _
    refine XS.istoreN X0.here hx rfl (hb hby d11_15) rfl (l' := #[.val (.int (-50 : Int32)), .val (.int (0 : Int32)), .val (.int (-10 : Int32)), .val (.int (1 : Int32))]) rfl ?_
    show Steps p.tables e below (s₁.setTop (mkF m 16 #[.val (.int (-50 : Int32)), .val (.int (0 : Int32)), .val (.int (-10 : Int32)), .val (.int (1 : Int32))] [])) _
    refine XS.iloadN X0.here hx rfl (hb hby d11_16) rfl ?_
    show Steps p.tables e below (s₁.setTop (mkF m 17 #[.val (.int (-50 : Int32)), .val (.int (0 : Int32)), .val (.int (-10 : Int32)), .val (.int (1 : Int32))] [(.int (1 : Int32))])) _
    refine XS.bipush X0.here hx rfl (hb hby d11_17) ?_
    show Steps p.tables e below (s₁.setTop (mkF m 19 #[.val (.int (-50 : Int32)), .val (.int (0 : Int32)), .val (.int (-10 : Int32)), .val (.int (1 : Int32))] [(.int (10 : Int32)), (.int (1 : Int32))])) _
    refine XS.icmpNo X0.here hx rfl (hb hby d11_19) rfl (tlt (by decide : (1 : Int32) < (10 : Int32))).2.1 ?_
    show Steps p.tables e below (s₁.setTop (mkF m 22 #[.val (.int (-50 : Int32)), .val (.int (0 : Int32)), .val (.int (-10 : Int32)), .val (.int (1 : Int32))] [])) _
    refine XS.iloadN X0.here hx rfl (hb hby d11_22) rfl ?_
    show Steps p.tables e below (s₁.setTop (mkF m 23 #[.val (.int (-50 : Int32)), .val (.int (0 : Int32)), .val (.int (-10 : Int32)), .val (.int (1 : Int32))] [(.int (-50 : Int32))])) _
    refine XS.iloadN X0.here hx rfl (hb hby d11_23) rfl ?_
    show Steps p.tables e below (s₁.setTop (mkF m 24 #[.val (.int (-50 : Int32)), .val (.int (0 : Int32)), .val (.int (-10 : Int32)), .val (.int (1 : Int32))] [(.int (-10 : Int32)), (.int (-50 : Int32))])) _
    refine XS.icmpYes X0.here hx rfl (pc0 := 24) (pc' := 31) rfl (hb hby d11_24) rfl (flt (by decide : ¬ ((-10 : Int32) < (-50 : Int32)))).2.2.2 (by decide) (by decide) ?_
    show Steps p.tables e below (s₁.setTop (mkF m 31 #[.val (.int (-50 : Int32)), .val (.int (0 : Int32)), .val (.int (-10 : Int32)), .val (.int (1 : Int32))] [])) _
    refine XS.bipush X0.here hx rfl (hb hby d11_31) ?_
    show Steps p.tables e below (s₁.setTop (mkF m 33 #[.val (.int (-50 : Int32)), .val (.int (0 : Int32)), .val (.int (-10 : Int32)), .val (.int (1 : Int32))] [(.int (10 : Int32))])) _
    refine XS.iloadN X0.here hx rfl (hb hby d11_33) rfl ?_
    show Steps p.tables e below (s₁.setTop (mkF m 34 #[.val (.int (-50 : Int32)), .val (.int (0 : Int32)), .val (.int (-10 : Int32)), .val (.int (1 : Int32))] [(.int (-10 : Int32)), (.int (10 : Int32))])) _
    refine XS.imul X0.here hx rfl (hb hby d11_34) rfl ?_
    show Steps p.tables e below (s₁.setTop (mkF m 35 #[.val (.int (-50 : Int32)), .val (.int (0 : Int32)), .val (.int (-10 : Int32)), .val (.int (1 : Int32))] [(.int ((10 : Int32) * (-10 : Int32)))])) _
    rw [show ((10 : Int32) * (-10 : Int32)) = (-100 : Int32) from by decide]
    show Steps p.tables e below (s₁.setTop (mkF m 35 #[.val (.int (-50 : Int32)), .val (.int (0 : Int32)), .val (.int (-10 : Int32)), .val (.int (1 : Int32))] [(.int (-100 : Int32))])) _
    refine XS.istoreN X0.here hx rfl (hb hby d11_35) rfl (l' := #[.val (.int (-50 : Int32)), .val (.int (0 : Int32)), .val (.int (-100 : Int32)), .val (.int (1 : Int32))]) rfl ?_
    show Steps p.tables e below (s₁.setTop (mkF m 36 #[.val (.int (-50 : Int32)), .val (.int (0 : Int32)), .val (.int (-100 : Int32)), .val (.int (1 : Int32))] [])) _
    refine XS.iinc X0.here hx rfl (hb hby d11_36) rfl (l' := #[.val (.int (-50 : Int32)), .val (.int (0 : Int32)), .val (.int (-100 : Int32)), .val (.int ((1 : Int32) + (1 : Int32)))]) rfl ?_
    show Steps p.tables e below (s₁.setTop (mkF m 39 #[.val (.int (-50 : Int32)), .val (.int (0 : Int32)), .val (.int (-100 : Int32)), .val (.int ((1 : Int32) + (1 : Int32)))] [])) _
    rw [show ((1 : Int32) + (1 : Int32)) = (2 : Int32) from by decide]
    show Steps p.tables e below (s₁.setTop (mkF m 39 #[.val (.int (-50 : Int32)), .val (.int (0 : Int32)), .val (.int (-100 : Int32)), .val (.int (2 : Int32))] [])) _
    refine XS.goto X0.here hx rfl (pc0 := 39) (pc' := 16) rfl (hb hby d11_39) (by decide) (by decide) ?_
    show Steps p.tables e below (s₁.setTop (mkF m 16 #[.val (.int (-50 : Int32)), .val (.int (0 : Int32)), .val (.int (-100 : Int32)), .val (.int (2 : Int32))] [])) _
    refine XS.iloadN X0.here hx rfl (hb hby d11_16) rfl ?_
    show Steps p.tables e below (s₁.setTop (mkF m 17 #[.val (.int (-50 : Int32)), .val (.int (0 : Int32)), .val (.int (-100 : Int32)), .val (.int (2 : Int32))] [(.int (2 : Int32))])) _
    refine XS.bipush X0.here hx rfl (hb hby d11_17) ?_
    show Steps p.tables e below (s₁.setTop (mkF m 19 #[.val (.int (-50 : Int32)), .val (.int (0 : Int32)), .val (.int (-100 : Int32)), .val (.int (2 : Int32))] [(.int (10 : Int32)), (.int (2 : Int32))])) _
    refine XS.icmpNo X0.here hx rfl (hb hby d11_19) rfl (tlt (by decide : (2 : Int32) < (10 : Int32))).2.1 ?_
    show Steps p.tables e below (s₁.setTop (mkF m 22 #[.val (.int (-50 : Int32)), .val (.int (0 : Int32)), .val (.int (-100 : Int32)), .val (.int (2 : Int32))] [])) _
    refine XS.iloadN X0.here hx rfl (hb hby d11_22) rfl ?_
    show Steps p.tables e below (s₁.setTop (mkF m 23 #[.val (.int (-50 : Int32)), .val (.int (0 : Int32)), .val (.int (-100 : Int32)), .val (.int (2 : Int32))] [(.int (-50 : Int32))])) _
    refine XS.iloadN X0.here hx rfl (hb hby d11_23) rfl ?_
    show Steps p.tables e below (s₁.setTop (mkF m 24 #[.val (.int (-50 : Int32)), .val (.int (0 : Int32)), .val (.int (-100 : Int32)), .val (.int (2 : Int32))] [(.int (-100 : Int32)), (.int (-50 : Int32))])) _
    refine XS.icmpNo X0.here hx rfl (hb hby d11_24) rfl (tlt (by decide : (-100 : Int32) < (-50 : Int32))).2.2.2 ?_
    show Steps p.tables e below (s₁.setTop (mkF m 27 #[.val (.int (-50 : Int32)), .val (.int (0 : Int32)), .val (.int (-100 : Int32)), .val (.int (2 : Int32))] [])) _
    refine XS.iloadN X0.here hx rfl (hb hby d11_27) rfl ?_
    show Steps p.tables e below (s₁.setTop (mkF m 28 #[.val (.int (-50 : Int32)), .val (.int (0 : Int32)), .val (.int (-100 : Int32)), .val (.int (2 : Int32))] [(.int (2 : Int32))])) _
    refine XS.iloadN X0.here hx rfl (hb hby d11_28) rfl ?_
    show Steps p.tables e below (s₁.setTop (mkF m 29 #[.val (.int (-50 : Int32)), .val (.int (0 : Int32)), .val (.int (-100 : Int32)), .val (.int (2 : Int32))] [(.int (0 : Int32)), (.int (2 : Int32))])) _
    refine XS.iadd X0.here hx rfl (hb hby d11_29) rfl ?_
    show Steps p.tables e below (s₁.setTop (mkF m 30 #[.val (.int (-50 : Int32)), .val (.int (0 : Int32)), .val (.int (-100 : Int32)), .val (.int (2 : Int32))] [(.int ((2 : Int32) + (0 : Int32)))])) _
    rw [show ((2 : Int32) + (0 : Int32)) = (2 : Int32) from by decide]
    show Steps p.tables e below (s₁.setTop (mkF m 30 #[.val (.int (-50 : Int32)), .val (.int (0 : Int32)), .val (.int (-100 : Int32)), .val (.int (2 : Int32))] [(.int (2 : Int32))])) _
    exact retI X0 hx Bd.returns (hb hby d11_30) hr
  · show Q11x6 Z  h0 n0 _ s₁.heap _
    rw [e0]
    exact ⟨rfl, N0, rfl⟩
theorem d12_0 : decode jdk_68_method_9_code 0 = .ok (.aload_n 0, 1) := by decide +kernel
theorem d12_1 : decode jdk_68_method_9_code 1 = .ok (.getfield 15, 3) := by decide +kernel
theorem d12_4 : decode jdk_68_method_9_code 4 = .ok (.arraylength, 1) := by decide +kernel
theorem d12_5 : decode jdk_68_method_9_code 5 = .ok (.aload_n 0, 1) := by decide +kernel
theorem d12_6 : decode jdk_68_method_9_code 6 = .ok (.getfield 22, 3) := by decide +kernel
theorem d12_9 : decode jdk_68_method_9_code 9 = .ok (.ishr, 1) := by decide +kernel
theorem d12_10 : decode jdk_68_method_9_code 10 = .ok (.istore_n 2, 1) := by decide +kernel
theorem d12_11 : decode jdk_68_method_9_code 11 = .ok (.iload_n 1, 1) := by decide +kernel
theorem d12_12 : decode jdk_68_method_9_code 12 = .ok (.iload_n 2, 1) := by decide +kernel
theorem d12_13 : decode jdk_68_method_9_code 13 = .ok (.isub, 1) := by decide +kernel
theorem d12_14 : decode jdk_68_method_9_code 14 = .ok (.ifCond .le 24, 3) := by decide +kernel
theorem d12_38 : decode jdk_68_method_9_code 38 = .ok (.return_, 1) := by decide +kernel
theorem ef_12x7 (m : MethodId) (ra0 : Addr) : entryFrame m #[(.ref ra0), (.int (2 : Int32))] 3 = mkF m 0 #[.val (.ref ra0), .val (.int (2 : Int32)), .unset] [] := by first | (simp [entryFrame, mkF, argsToLocals, Value.category]; done) | rfl
def Q12x7 (Z : State) (ra0 : Addr) (uo1 : Addr) (uk2 : ClassId) (h0 : Heap) (n0 : Nat) (v : Option Value) (h : Heap) (L : List Loc) : Prop := v = none ∧ Fr n0 L ∧ h = h0
set_option maxRecDepth 65536 in
set_option maxHeartbeats 40000000 in
theorem rm12x7 (l : Launch) (Z : State) (a0 : Array Value) (hw : ∀ d ∈ tables_1, d.before a0 Z = true) (ws : List Jvm.Cond) (ra0 : Addr) (uo1 : Addr) (uk2 : ClassId) (h0 : Heap) (n0 : Nat) (Z0 : n0 ≤ h0.size) (H0 : Fld Z h0 ra0 "java/lang/AbstractStringBuilder" "value" "[B" (.ref uo1)) (H1 : Arv Z h0 uo1 uk2 .byte (16 : Int32) [(.int (0 : Int32)), (.int (0 : Int32)), (.int (0 : Int32)), (.int (0 : Int32)), (.int (0 : Int32)), (.int (0 : Int32)), (.int (0 : Int32)), (.int (0 : Int32)), (.int (0 : Int32)), (.int (0 : Int32)), (.int (0 : Int32)), (.int (0 : Int32)), (.int (0 : Int32)), (.int (0 : Int32)), (.int (0 : Int32)), (.int (0 : Int32))] (.int (0 : Int32))) (H2 : Fld Z h0 ra0 "java/lang/AbstractStringBuilder" "coder" "B" (.int (0 : Int32))) :
    MetFree l (⟨"java/lang/AbstractStringBuilder", "ensureCapacityInternal", "(I)V"⟩ : MethodName) (head1 (Jvm.Cond.code (⟨"java/lang/AbstractStringBuilder", "ensureCapacityInternal", "(I)V"⟩ : MethodName) jdk_68_method_9_code 3 none :: ws) ({ frames := 0, cells := 0, slots := 0, locals := 0 } : Room)) (fun a U => a = #[(.ref ra0), (.int (2 : Int32))] ∧ Z.Warmed39 U.vm ∧ U.heap = h0) (fun _ _ _ _ _ => True) (fun _ U o U' => ∃ v L, o = .returned v ∧ Q12x7 Z ra0 uo1 uk2 h0 n0 v U'.heap L ∧ FrameEnd U o U' L ({ frames := 0, cells := 0, slots := 0, locals := 0 } : Room).cells ({ frames := 0, cells := 0, slots := 0, locals := 0 } : Room).slots) := by
  refine MetFree.of_bodySF (plainFor_of_name pn_java_lang_AbstractStringBuilder) hisR ?_
  intro p e s m args below meth c s₁ Bd hml0 hP hK
  obtain ⟨rfl, hZ, hh⟩ := hP
  have hx := Bd.exec
  have hby := Bd.bytes
  have hml : c.maxLocals = 3 := hml0
  have hown : s.vm.findClass "java/lang/AbstractStringBuilder" = some m.cls := findClass_of_methodNamed Bd.named
  have hnm := (name_of_methodNamed Bd.named Bd.method).1
  have X0 : Stand p l e ({ frames := 0, cells := 0, slots := 0, locals := 0 } : Room) s m #[(.ref ra0), (.int (2 : Int32))] below meth c s₁ [] 0 0 := Stand.of_body Bd
  have e0 : s₁.heap = h0 := by rw [← hh, Bd.state]; rfl
  have N0 := Fr.nil n0
  have pre0 : ∀ t, Steps p.tables e below (s₁.setTop (mkF m 0 #[.val (.ref ra0), .val (.int (2 : Int32)), .unset] [])) t → Steps p.tables e below (s₁.setTop (entryFrame m #[(.ref ra0), (.int (2 : Int32))] 3)) t := fun t k => castTop (ef_12x7 m ra0) k
  obtain ⟨T101, X101, e101, st101⟩ := getF X0 hx hZ hown (host := "") (Or.inl (hw _ (List.mem_of_getElem? (i := 64) rfl))) Via.refl e0 H0 (g := (mkF m 1 #[.val (.ref ra0), .val (.int (2 : Int32)), .unset] [(.ref ra0)])) rfl rfl (hb hby d12_1)
  obtain ⟨cl102, Ar102, -, S102, M102, -, -⟩ := id H1
  obtain ⟨T103, X103, e103, st103⟩ := getF X101 hx hZ hown (host := "") (Or.inl (hw _ (List.mem_of_getElem? (i := 66) rfl))) Via.refl e101 H2 (g := (mkF m 6 #[.val (.ref ra0), .val (.int (2 : Int32)), .unset] [(.ref ra0), (.int (16 : Int32))])) rfl rfl (hb hby d12_6)
  obtain ⟨fs, hr, hrun, hended, hW, hsame⟩ := X103.leave (v := none) (fun _ => rfl)
  refine ⟨_, _, pre0 _ ?_, hrun, hended, _, _, rfl, ?_, ⟨_, rfl⟩, hW, hsame.mono (by decide) (by decide)⟩
  · skip
    show Steps p.tables e below (s₁.setTop (mkF m 0 #[.val (.ref ra0), .val (.int (2 : Int32)), .unset] [])) _
    refine XS.aloadN X0.here hx rfl (hb hby d12_0) rfl rfl ?_
    show Steps p.tables e below (s₁.setTop (mkF m 1 #[.val (.ref ra0), .val (.int (2 : Int32)), .unset] [(.ref ra0)])) _
    refine st101 _ ?_
    show Steps p.tables e below (T101.setTop (mkF m 4 #[.val (.ref ra0), .val (.int (2 : Int32)), .unset] [(.ref uo1)])) _
    refine X101.arraylength hx (by rw [e101]; exact Ar102.1) (State.isArrayOf_alike hZ.alike Ar102.2.1) (g := (mkF m 4 #[.val (.ref ra0), .val (.int (2 : Int32)), .unset] [(.ref uo1)])) rfl rfl (hb hby d12_4) _ ?_
    rw [len_of S102 M102]
    show Steps p.tables e below (T101.setTop (mkF m 5 #[.val (.ref ra0), .val (.int (2 : Int32)), .unset] [(.int (16 : Int32))])) _
    refine XS.aloadN X101.here hx rfl (hb hby d12_5) rfl rfl ?_
    show Steps p.tables e below (T101.setTop (mkF m 6 #[.val (.ref ra0), .val (.int (2 : Int32)), .unset] [(.ref ra0), (.int (16 : Int32))])) _
    refine st103 _ ?_
    show Steps p.tables e below (T103.setTop (mkF m 9 #[.val (.ref ra0), .val (.int (2 : Int32)), .unset] [(.int (0 : Int32)), (.int (16 : Int32))])) _
    refine XS.ishr X103.here hx rfl (hb hby d12_9) rfl ?_
    show Steps p.tables e below (T103.setTop (mkF m 10 #[.val (.ref ra0), .val (.int (2 : Int32)), .unset] [(.int ((16 : Int32) >>> ((0 : Int32) &&& 31)))])) _
    rw [show ((16 : Int32) >>> ((0 : Int32) &&& 31)) = (16 : Int32) from by decide]
    show Steps p.tables e below (T103.setTop (mkF m 10 #[.val (.ref ra0), .val (.int (2 : Int32)), .unset] [(.int (16 : Int32))])) _
    refine XS.istoreN X103.here hx rfl (hb hby d12_10) rfl (l' := #[.val (.ref ra0), .val (.int (2 : Int32)), .val (.int (16 : Int32))]) rfl ?_
    show Steps p.tables e below (T103.setTop (mkF m 11 #[.val (.ref ra0), .val (.int (2 : Int32)), .val (.int (16 : Int32))] [])) _
    refine XS.iloadN X103.here hx rfl (hb hby d12_11) rfl ?_
    show Steps p.tables e below (T103.setTop (mkF m 12 #[.val (.ref ra0), .val (.int (2 : Int32)), .val (.int (16 : Int32))] [(.int (2 : Int32))])) _
    refine XS.iloadN X103.here hx rfl (hb hby d12_12) rfl ?_
    show Steps p.tables e below (T103.setTop (mkF m 13 #[.val (.ref ra0), .val (.int (2 : Int32)), .val (.int (16 : Int32))] [(.int (16 : Int32)), (.int (2 : Int32))])) _
    refine XS.isub X103.here hx rfl (hb hby d12_13) rfl ?_
    show Steps p.tables e below (T103.setTop (mkF m 14 #[.val (.ref ra0), .val (.int (2 : Int32)), .val (.int (16 : Int32))] [(.int ((2 : Int32) - (16 : Int32)))])) _
    rw [show ((2 : Int32) - (16 : Int32)) = (-14 : Int32) from by decide]
    show Steps p.tables e below (T103.setTop (mkF m 14 #[.val (.ref ra0), .val (.int (2 : Int32)), .val (.int (16 : Int32))] [(.int (-14 : Int32))])) _
    refine XS.ifYes X103.here hx rfl (pc0 := 14) (pc' := 38) rfl (hb hby d12_14) rfl ((if0 _ _).trans (flt (by decide : ¬ ((0 : Int32) < (-14 : Int32)))).2.2.2) (by decide) (by decide) ?_
    show Steps p.tables e below (T103.setTop (mkF m 38 #[.val (.ref ra0), .val (.int (2 : Int32)), .val (.int (16 : Int32))] [])) _
    exact X103.returnOut hx Bd.returns (hb hby d12_38) hr
  · show Q12x7 Z ra0 uo1 uk2 h0 n0 _ T103.heap _
    rw [e103]
    exact ⟨rfl, N0, rfl⟩
theorem d13_0 : decode jdk_68_method_68_code 0 = .ok (.getstatic 18, 3) := by decide +kernel
theorem d13_3 : decode jdk_68_method_68_code 3 = .ok (.ifCond .eq 14, 3) := by decide +kernel
theorem d13_6 : decode jdk_68_method_68_code 6 = .ok (.aload_n 0, 1) := by decide +kernel
theorem d13_7 : decode jdk_68_method_68_code 7 = .ok (.getfield 22, 3) := by decide +kernel
theorem d13_10 : decode jdk_68_method_68_code 10 = .ok (.ifCond .ne 7, 3) := by decide +kernel
theorem d13_13 : decode jdk_68_method_68_code 13 = .ok (.iconst 1, 1) := by decide +kernel
theorem d13_14 : decode jdk_68_method_68_code 14 = .ok (.goto 4, 3) := by decide +kernel
theorem d13_18 : decode jdk_68_method_68_code 18 = .ok (.ireturn, 1) := by decide +kernel
theorem ef_13x8 (m : MethodId) (ra0 : Addr) : entryFrame m #[(.ref ra0)] 1 = mkF m 0 #[.val (.ref ra0)] [] := by first | (simp [entryFrame, mkF, argsToLocals, Value.category]; done) | rfl
def Q13x8 (Z : State) (ra0 : Addr) (ui1 : Int32) (h0 : Heap) (n0 : Nat) (v : Option Value) (h : Heap) (L : List Loc) : Prop := v = some (.int (1 : Int32)) ∧ Fr n0 L ∧ h = h0
set_option maxRecDepth 65536 in
set_option maxHeartbeats 40000000 in
theorem rm13x8 (l : Launch) (Z : State) (a0 : Array Value) (hw : ∀ d ∈ tables_1, d.before a0 Z = true) (ws : List Jvm.Cond) (ra0 : Addr) (ui1 : Int32) (h0 : Heap) (n0 : Nat) (Z0 : n0 ≤ h0.size) (H0 : Sta Z h0 "java/lang/String" "COMPACT_STRINGS" "Z" (.int ui1)) (H1 : ¬ (ui1 = (0 : Int32))) (H2 : Fld Z h0 ra0 "java/lang/AbstractStringBuilder" "coder" "B" (.int (0 : Int32))) :
    MetFree l (⟨"java/lang/AbstractStringBuilder", "isLatin1", "()Z"⟩ : MethodName) (head1 (Jvm.Cond.code (⟨"java/lang/AbstractStringBuilder", "isLatin1", "()Z"⟩ : MethodName) jdk_68_method_68_code 1 (some .boolean) :: ws) ({ frames := 0, cells := 0, slots := 0, locals := 0 } : Room)) (fun a U => a = #[(.ref ra0)] ∧ Z.Warmed39 U.vm ∧ U.heap = h0) (fun _ _ _ _ _ => True) (fun _ U o U' => ∃ v L, o = .returned v ∧ Q13x8 Z ra0 ui1 h0 n0 v U'.heap L ∧ FrameEnd U o U' L ({ frames := 0, cells := 0, slots := 0, locals := 0 } : Room).cells ({ frames := 0, cells := 0, slots := 0, locals := 0 } : Room).slots) := by
  refine MetFree.of_bodySF (plainFor_of_name pn_java_lang_AbstractStringBuilder) hisR ?_
  intro p e s m args below meth c s₁ Bd hml0 hP hK
  obtain ⟨rfl, hZ, hh⟩ := hP
  have hx := Bd.exec
  have hby := Bd.bytes
  have hml : c.maxLocals = 1 := hml0
  have hown : s.vm.findClass "java/lang/AbstractStringBuilder" = some m.cls := findClass_of_methodNamed Bd.named
  have hnm := (name_of_methodNamed Bd.named Bd.method).1
  have X0 : Stand p l e ({ frames := 0, cells := 0, slots := 0, locals := 0 } : Room) s m #[(.ref ra0)] below meth c s₁ [] 0 0 := Stand.of_body Bd
  have e0 : s₁.heap = h0 := by rw [← hh, Bd.state]; rfl
  have N0 := Fr.nil n0
  have pre0 : ∀ t, Steps p.tables e below (s₁.setTop (mkF m 0 #[.val (.ref ra0)] [])) t → Steps p.tables e below (s₁.setTop (entryFrame m #[(.ref ra0)] 1)) t := fun t k => castTop (ef_13x8 m ra0) k
  obtain ⟨T101, X101, e101, st101⟩ := getS2 X0 hx hZ hown (host := "") (Or.inl (hw _ (List.mem_of_getElem? (i := 61) rfl))) Via.refl e0 H0 (g := (mkF m 0 #[.val (.ref ra0)] [])) rfl (hb hby d13_0)
  obtain ⟨T102, X102, e102, st102⟩ := getF X101 hx hZ hown (host := "") (Or.inl (hw _ (List.mem_of_getElem? (i := 66) rfl))) Via.refl e101 H2 (g := (mkF m 7 #[.val (.ref ra0)] [(.ref ra0)])) rfl rfl (hb hby d13_7)
  obtain ⟨fs, hr, hrun, hended, hW, hsame⟩ := X102.leave (v := some (.int (1 : Int32))) (fun h => by rw [Bd.returns] at h; cases h)
  refine ⟨_, _, pre0 _ ?_, hrun, hended, _, _, rfl, ?_, ⟨_, rfl⟩, hW, hsame.mono (by decide) (by decide)⟩
  · skip
    show Steps p.tables e below (s₁.setTop (mkF m 0 #[.val (.ref ra0)] [])) _
    refine st101 _ ?_
    show Steps p.tables e below (T101.setTop (mkF m 3 #[.val (.ref ra0)] [(.int ui1)])) _
    refine XS.ifNo X101.here hx rfl (hb hby d13_3) rfl ((if0 _ _).trans (feq (H1 : ¬ (ui1 = (0 : Int32)))).1) ?_
    show Steps p.tables e below (T101.setTop (mkF m 6 #[.val (.ref ra0)] [])) _
    refine XS.aloadN X101.here hx rfl (hb hby d13_6) rfl rfl ?_
    show Steps p.tables e below (T101.setTop (mkF m 7 #[.val (.ref ra0)] [(.ref ra0)])) _
    refine st102 _ ?_
    show Steps p.tables e below (T102.setTop (mkF m 10 #[.val (.ref ra0)] [(.int (0 : Int32))])) _
    refine XS.ifNo X102.here hx rfl (hb hby d13_10) rfl ((if0 _ _).trans (teq (by decide : (0 : Int32) = (0 : Int32))).2) ?_
    show Steps p.tables e below (T102.setTop (mkF m 13 #[.val (.ref ra0)] [])) _
    refine XS.iconst X102.here hx rfl (hb hby d13_13) ?_
    show Steps p.tables e below (T102.setTop (mkF m 14 #[.val (.ref ra0)] [(.int (1 : Int32))])) _
    refine XS.goto X102.here hx rfl (pc0 := 14) (pc' := 18) rfl (hb hby d13_14) (by decide) (by decide) ?_
    show Steps p.tables e below (T102.setTop (mkF m 18 #[.val (.ref ra0)] [(.int (1 : Int32))])) _
    exact retN X102 hx (t := .boolean) Bd.returns (by simp) (hb hby d13_18) hr
  · show Q13x8 Z ra0 ui1 h0 n0 _ T102.heap _
    rw [e102]
    exact ⟨rfl, N0, rfl⟩
theorem d14_0 : decode jdk_33_method_12_code 0 = .ok (.iload_n 1, 1) := by decide +kernel
theorem d14_1 : decode jdk_33_method_12_code 1 = .ok (.istore 5, 2) := by decide +kernel
theorem d14_3 : decode jdk_33_method_12_code 3 = .ok (.iload_n 0, 1) := by decide +kernel
theorem d14_4 : decode jdk_33_method_12_code 4 = .ok (.ifCond .ge 7, 3) := by decide +kernel
theorem d14_11 : decode jdk_33_method_12_code 11 = .ok (.iconst 0, 1) := by decide +kernel
theorem d14_12 : decode jdk_33_method_12_code 12 = .ok (.istore 6, 2) := by decide +kernel
theorem d14_14 : decode jdk_33_method_12_code 14 = .ok (.iload 6, 2) := by decide +kernel
theorem d14_16 : decode jdk_33_method_12_code 16 = .ok (.ifCond .ne 6, 3) := by decide +kernel
theorem d14_19 : decode jdk_33_method_12_code 19 = .ok (.iload_n 0, 1) := by decide +kernel
theorem d14_20 : decode jdk_33_method_12_code 20 = .ok (.ineg, 1) := by decide +kernel
theorem d14_21 : decode jdk_33_method_12_code 21 = .ok (.istore_n 0, 1) := by decide +kernel
theorem d14_22 : decode jdk_33_method_12_code 22 = .ok (.iload_n 0, 1) := by decide +kernel
theorem d14_23 : decode jdk_33_method_12_code 23 = .ok (.bipush (-100), 2) := by decide +kernel
theorem d14_25 : decode jdk_33_method_12_code 25 = .ok (.if_icmp .gt 47, 3) := by decide +kernel
theorem d14_72 : decode jdk_33_method_12_code 72 = .ok (.aload_n 2, 1) := by decide +kernel
theorem d14_73 : decode jdk_33_method_12_code 73 = .ok (.iinc 5 (-1), 3) := by decide +kernel
theorem d14_76 : decode jdk_33_method_12_code 76 = .ok (.iload 5, 2) := by decide +kernel
theorem d14_78 : decode jdk_33_method_12_code 78 = .ok (.getstatic 83, 3) := by decide +kernel
theorem d14_81 : decode jdk_33_method_12_code 81 = .ok (.iload_n 0, 1) := by decide +kernel
theorem d14_82 : decode jdk_33_method_12_code 82 = .ok (.ineg, 1) := by decide +kernel
theorem d14_83 : decode jdk_33_method_12_code 83 = .ok (.baload, 1) := by decide +kernel
theorem d14_84 : decode jdk_33_method_12_code 84 = .ok (.bastore, 1) := by decide +kernel
theorem d14_85 : decode jdk_33_method_12_code 85 = .ok (.iload_n 0, 1) := by decide +kernel
theorem d14_86 : decode jdk_33_method_12_code 86 = .ok (.bipush (-9), 2) := by decide +kernel
theorem d14_88 : decode jdk_33_method_12_code 88 = .ok (.if_icmp .ge 16, 3) := by decide +kernel
theorem d14_91 : decode jdk_33_method_12_code 91 = .ok (.aload_n 2, 1) := by decide +kernel
theorem d14_92 : decode jdk_33_method_12_code 92 = .ok (.iinc 5 (-1), 3) := by decide +kernel
theorem d14_95 : decode jdk_33_method_12_code 95 = .ok (.iload 5, 2) := by decide +kernel
theorem d14_97 : decode jdk_33_method_12_code 97 = .ok (.getstatic 87, 3) := by decide +kernel
theorem d14_100 : decode jdk_33_method_12_code 100 = .ok (.iload_n 0, 1) := by decide +kernel
theorem d14_101 : decode jdk_33_method_12_code 101 = .ok (.ineg, 1) := by decide +kernel
theorem d14_102 : decode jdk_33_method_12_code 102 = .ok (.baload, 1) := by decide +kernel
theorem d14_103 : decode jdk_33_method_12_code 103 = .ok (.bastore, 1) := by decide +kernel
theorem d14_104 : decode jdk_33_method_12_code 104 = .ok (.iload 6, 2) := by decide +kernel
theorem d14_106 : decode jdk_33_method_12_code 106 = .ok (.ifCond .eq 12, 3) := by decide +kernel
theorem d14_118 : decode jdk_33_method_12_code 118 = .ok (.iload 5, 2) := by decide +kernel
theorem d14_120 : decode jdk_33_method_12_code 120 = .ok (.ireturn, 1) := by decide +kernel
theorem ef_14x9 (m : MethodId) (ra2 : Addr) : entryFrame m #[(.int (50 : Int32)), (.int (2 : Int32)), (.ref ra2)] 7 = mkF m 0 #[.val (.int (50 : Int32)), .val (.int (2 : Int32)), .val (.ref ra2), .unset, .unset, .unset, .unset] [] := by first | (simp [entryFrame, mkF, argsToLocals, Value.category]; done) | rfl
def Q14x9 (Z : State) (ra2 : Addr) (uo1 : Addr) (uk2 : ClassId) (uk3 : ClassId) (uo4 : Addr) (uk5 : ClassId) (h0 : Heap) (n0 : Nat) (v : Option Value) (h : Heap) (L : List Loc) : Prop := v = some (.int (0 : Int32)) ∧ Fr n0 L ∧ Keep h0 h [ra2] ∧ Arv Z h ra2 uk3 .byte (16 : Int32) [(.int (53 : Int32)), (.int (48 : Int32)), (.int (0 : Int32)), (.int (0 : Int32)), (.int (0 : Int32)), (.int (0 : Int32)), (.int (0 : Int32)), (.int (0 : Int32)), (.int (0 : Int32)), (.int (0 : Int32)), (.int (0 : Int32)), (.int (0 : Int32)), (.int (0 : Int32)), (.int (0 : Int32)), (.int (0 : Int32)), (.int (0 : Int32))] (.int (0 : Int32))
set_option maxRecDepth 65536 in
set_option maxHeartbeats 40000000 in
theorem rm14x9 (l : Launch) (Z : State) (a0 : Array Value) (hw : ∀ d ∈ tables_1, d.before a0 Z = true) (ws : List Jvm.Cond) (ra2 : Addr) (uo1 : Addr) (uk2 : ClassId) (uk3 : ClassId) (uo4 : Addr) (uk5 : ClassId) (h0 : Heap) (n0 : Nat) (Z0 : n0 ≤ h0.size) (H0 : Sta Z h0 "java/lang/Integer" "DigitOnes" "[B" (.ref uo1)) (H1 : Arv Z h0 uo1 uk2 .byte (100 : Int32) own_ones (.int (0 : Int32))) (H2 : Arv Z h0 ra2 uk3 .byte (16 : Int32) [(.int (0 : Int32)), (.int (0 : Int32)), (.int (0 : Int32)), (.int (0 : Int32)), (.int (0 : Int32)), (.int (0 : Int32)), (.int (0 : Int32)), (.int (0 : Int32)), (.int (0 : Int32)), (.int (0 : Int32)), (.int (0 : Int32)), (.int (0 : Int32)), (.int (0 : Int32)), (.int (0 : Int32)), (.int (0 : Int32)), (.int (0 : Int32))] (.int (0 : Int32))) (H3 : n0 ≤ ra2) (H4 : Sta Z h0 "java/lang/Integer" "DigitTens" "[B" (.ref uo4)) (H5 : Arv Z h0 uo4 uk5 .byte (100 : Int32) own_tens (.int (0 : Int32))) (H6 : uo4 ≠ ra2) (H7 : Exa Z h0 ra2 "[B") :
    MetFree l (⟨"java/lang/Integer", "getChars", "(II[B)I"⟩ : MethodName) (head1 (Jvm.Cond.code (⟨"java/lang/Integer", "getChars", "(II[B)I"⟩ : MethodName) jdk_33_method_12_code 7 (some .int) :: ws) ({ frames := 0, cells := 0, slots := 0, locals := 0 } : Room)) (fun a U => a = #[(.int (50 : Int32)), (.int (2 : Int32)), (.ref ra2)] ∧ Z.Warmed39 U.vm ∧ U.heap = h0) (fun _ _ _ _ _ => True) (fun _ U o U' => ∃ v L, o = .returned v ∧ Q14x9 Z ra2 uo1 uk2 uk3 uo4 uk5 h0 n0 v U'.heap L ∧ FrameEnd U o U' L ({ frames := 0, cells := 0, slots := 0, locals := 0 } : Room).cells ({ frames := 0, cells := 0, slots := 0, locals := 0 } : Room).slots) := by
  refine MetFree.of_bodySF (plainFor_of_name pn_java_lang_Integer) hisR ?_
  intro p e s m args below meth c s₁ Bd hml0 hP hK
  obtain ⟨rfl, hZ, hh⟩ := hP
  have hx := Bd.exec
  have hby := Bd.bytes
  have hml : c.maxLocals = 7 := hml0
  have hown : s.vm.findClass "java/lang/Integer" = some m.cls := findClass_of_methodNamed Bd.named
  have hnm := (name_of_methodNamed Bd.named Bd.method).1
  have X0 : Stand p l e ({ frames := 0, cells := 0, slots := 0, locals := 0 } : Room) s m #[(.int (50 : Int32)), (.int (2 : Int32)), (.ref ra2)] below meth c s₁ [] 0 0 := Stand.of_body Bd
  have e0 : s₁.heap = h0 := by rw [← hh, Bd.state]; rfl
  have N0 := Fr.nil n0
  have pre0 : ∀ t, Steps p.tables e below (s₁.setTop (mkF m 0 #[.val (.int (50 : Int32)), .val (.int (2 : Int32)), .val (.ref ra2), .unset, .unset, .unset, .unset] [])) t → Steps p.tables e below (s₁.setTop (entryFrame m #[(.int (50 : Int32)), (.int (2 : Int32)), (.ref ra2)] 7)) t := fun t k => castTop (ef_14x9 m ra2) k
  obtain ⟨T101, X101, e101, st101⟩ := getS2 X0 hx hZ hown (host := "") (Or.inl (hw _ (List.mem_of_getElem? (i := 97) rfl))) Via.refl e0 H0 (g := (mkF m 78 #[.val (.int (-50 : Int32)), .val (.int (2 : Int32)), .val (.ref ra2), .unset, .unset, .val (.int (1 : Int32)), .val (.int (0 : Int32))] [(.int (1 : Int32)), (.ref ra2)])) rfl (hb hby d14_78)
  obtain ⟨cl102, Ar102, qc102, S102, M102, Hh102, G102⟩ := id H1
  have hin102 : ¬ ((50 : Int32) < 0 ∨ cl102.slots.size ≤ ((50 : Int32)).toNatClampNeg) := inb_of S102 ⟨by decide, by decide⟩
  obtain ⟨cl103, Ar103, qc103, S103, M103, Hh103, G103⟩ := id H2
  have hin103 : ¬ ((1 : Int32) < 0 ∨ cl103.slots.size ≤ ((1 : Int32)).toNatClampNeg) := inb_of S103 ⟨by decide, by decide⟩
  obtain ⟨T103, h103, X103, e103, W103, st103⟩ := stB X101 hx hZ e101 Ar103 (j := (1 : Int32)) hin103 (g := (mkF m 84 #[.val (.int (-50 : Int32)), .val (.int (2 : Int32)), .val (.ref ra2), .unset, .unset, .val (.int (1 : Int32)), .val (.int (0 : Int32))] [(.int (48 : Int32)), (.int (1 : Int32)), (.ref ra2)])) rfl rfl (hb hby d14_84)
  rw [show nar .byte (48 : Int32) = (48 : Int32) from by decide] at W103
  have V103 : Arv Z h103 ra2 uk3 .byte (16 : Int32) [(.int (0 : Int32)), (.int (48 : Int32)), (.int (0 : Int32)), (.int (0 : Int32)), (.int (0 : Int32)), (.int (0 : Int32)), (.int (0 : Int32)), (.int (0 : Int32)), (.int (0 : Int32)), (.int (0 : Int32)), (.int (0 : Int32)), (.int (0 : Int32)), (.int (0 : Int32)), (.int (0 : Int32)), (.int (0 : Int32)), (.int (0 : Int32))] (.int (0 : Int32)) := Arv.set Ar103 qc103 S103 M103 Hh103 G103 (by decide) W103 1 rfl (by first | decide | (simp; done))
  have N103 := Fr.snoc X103 N0 H3
  have f104 : Sta Z h103 "java/lang/Integer" "DigitTens" "[B" (.ref uo4) := (H4.wr W103)
  obtain ⟨T105, X105, e105, st105⟩ := getS2 X103 hx hZ hown (host := "") (Or.inl (hw _ (List.mem_of_getElem? (i := 98) rfl))) Via.refl e103 f104 (g := (mkF m 97 #[.val (.int (-50 : Int32)), .val (.int (2 : Int32)), .val (.ref ra2), .unset, .unset, .val (.int (0 : Int32)), .val (.int (0 : Int32))] [(.int (0 : Int32)), (.ref ra2)])) rfl (hb hby d14_97)
  have f106 : Arv Z h103 uo4 uk5 .byte (100 : Int32) own_tens (.int (0 : Int32)) := (H5.other W103 H6)
  obtain ⟨cl107, Ar107, qc107, S107, M107, Hh107, G107⟩ := id f106
  have hin107 : ¬ ((50 : Int32) < 0 ∨ cl107.slots.size ≤ ((50 : Int32)).toNatClampNeg) := inb_of S107 ⟨by decide, by decide⟩
  obtain ⟨cl108, Ar108, qc108, S108, M108, Hh108, G108⟩ := id V103
  have hin108 : ¬ ((0 : Int32) < 0 ∨ cl108.slots.size ≤ ((0 : Int32)).toNatClampNeg) := inb_of S108 ⟨by decide, by decide⟩
  obtain ⟨T108, h108, X108, e108, W108, st108⟩ := stB X105 hx hZ e105 Ar108 (j := (0 : Int32)) hin108 (g := (mkF m 103 #[.val (.int (-50 : Int32)), .val (.int (2 : Int32)), .val (.ref ra2), .unset, .unset, .val (.int (0 : Int32)), .val (.int (0 : Int32))] [(.int (53 : Int32)), (.int (0 : Int32)), (.ref ra2)])) rfl rfl (hb hby d14_103)
  rw [show nar .byte (53 : Int32) = (53 : Int32) from by decide] at W108
  have V108 : Arv Z h108 ra2 uk3 .byte (16 : Int32) [(.int (53 : Int32)), (.int (48 : Int32)), (.int (0 : Int32)), (.int (0 : Int32)), (.int (0 : Int32)), (.int (0 : Int32)), (.int (0 : Int32)), (.int (0 : Int32)), (.int (0 : Int32)), (.int (0 : Int32)), (.int (0 : Int32)), (.int (0 : Int32)), (.int (0 : Int32)), (.int (0 : Int32)), (.int (0 : Int32)), (.int (0 : Int32))] (.int (0 : Int32)) := Arv.set Ar108 qc108 S108 M108 Hh108 G108 (by decide) W108 0 rfl (by first | decide | (simp; done))
  have N108 := Fr.snoc X108 N103 H3
  obtain ⟨fs, hr, hrun, hended, hW, hsame⟩ := X108.leave (v := some (.int (0 : Int32))) (fun h => by rw [Bd.returns] at h; cases h)
  refine ⟨_, _, pre0 _ ?_, hrun, hended, _, _, rfl, ?_, ⟨_, rfl⟩, hW, hsame.mono (by decide) (by decide)⟩
  · skip
    show Steps p.tables e below (s₁.setTop (mkF m 0 #[.val (.int (50 : Int32)), .val (.int (2 : Int32)), .val (.ref ra2), .unset, .unset, .unset, .unset] [])) _
    refine XS.iloadN X0.here hx rfl (hb hby d14_0) rfl ?_
    show Steps p.tables e below (s₁.setTop (mkF m 1 #[.val (.int (50 : Int32)), .val (.int (2 : Int32)), .val (.ref ra2), .unset, .unset, .unset, .unset] [(.int (2 : Int32))])) _
    refine XS.istore X0.here hx rfl (hb hby d14_1) rfl (l' := #[.val (.int (50 : Int32)), .val (.int (2 : Int32)), .val (.ref ra2), .unset, .unset, .val (.int (2 : Int32)), .unset]) rfl ?_
    show Steps p.tables e below (s₁.setTop (mkF m 3 #[.val (.int (50 : Int32)), .val (.int (2 : Int32)), .val (.ref ra2), .unset, .unset, .val (.int (2 : Int32)), .unset] [])) _
    refine XS.iloadN X0.here hx rfl (hb hby d14_3) rfl ?_
    show Steps p.tables e below (s₁.setTop (mkF m 4 #[.val (.int (50 : Int32)), .val (.int (2 : Int32)), .val (.ref ra2), .unset, .unset, .val (.int (2 : Int32)), .unset] [(.int (50 : Int32))])) _
    refine XS.ifYes X0.here hx rfl (pc0 := 4) (pc' := 11) rfl (hb hby d14_4) rfl ((if0 _ _).trans (flt (by decide : ¬ ((50 : Int32) < (0 : Int32)))).2.1) (by decide) (by decide) ?_
    show Steps p.tables e below (s₁.setTop (mkF m 11 #[.val (.int (50 : Int32)), .val (.int (2 : Int32)), .val (.ref ra2), .unset, .unset, .val (.int (2 : Int32)), .unset] [])) _
    refine XS.iconst X0.here hx rfl (hb hby d14_11) ?_
    show Steps p.tables e below (s₁.setTop (mkF m 12 #[.val (.int (50 : Int32)), .val (.int (2 : Int32)), .val (.ref ra2), .unset, .unset, .val (.int (2 : Int32)), .unset] [(.int (0 : Int32))])) _
    refine XS.istore X0.here hx rfl (hb hby d14_12) rfl (l' := #[.val (.int (50 : Int32)), .val (.int (2 : Int32)), .val (.ref ra2), .unset, .unset, .val (.int (2 : Int32)), .val (.int (0 : Int32))]) rfl ?_
    show Steps p.tables e below (s₁.setTop (mkF m 14 #[.val (.int (50 : Int32)), .val (.int (2 : Int32)), .val (.ref ra2), .unset, .unset, .val (.int (2 : Int32)), .val (.int (0 : Int32))] [])) _
    refine XS.iload X0.here hx rfl (hb hby d14_14) rfl ?_
    show Steps p.tables e below (s₁.setTop (mkF m 16 #[.val (.int (50 : Int32)), .val (.int (2 : Int32)), .val (.ref ra2), .unset, .unset, .val (.int (2 : Int32)), .val (.int (0 : Int32))] [(.int (0 : Int32))])) _
    refine XS.ifNo X0.here hx rfl (hb hby d14_16) rfl ((if0 _ _).trans (teq (by decide : (0 : Int32) = (0 : Int32))).2) ?_
    show Steps p.tables e below (s₁.setTop (mkF m 19 #[.val (.int (50 : Int32)), .val (.int (2 : Int32)), .val (.ref ra2), .unset, .unset, .val (.int (2 : Int32)), .val (.int (0 : Int32))] [])) _
    refine XS.iloadN X0.here hx rfl (hb hby d14_19) rfl ?_
    show Steps p.tables e below (s₁.setTop (mkF m 20 #[.val (.int (50 : Int32)), .val (.int (2 : Int32)), .val (.ref ra2), .unset, .unset, .val (.int (2 : Int32)), .val (.int (0 : Int32))] [(.int (50 : Int32))])) _
    refine XS.ineg X0.here hx rfl (hb hby d14_20) rfl ?_
    show Steps p.tables e below (s₁.setTop (mkF m 21 #[.val (.int (50 : Int32)), .val (.int (2 : Int32)), .val (.ref ra2), .unset, .unset, .val (.int (2 : Int32)), .val (.int (0 : Int32))] [(.int (-(50 : Int32)))])) _
    rw [show (-(50 : Int32)) = (-50 : Int32) from by decide]
    show Steps p.tables e below (s₁.setTop (mkF m 21 #[.val (.int (50 : Int32)), .val (.int (2 : Int32)), .val (.ref ra2), .unset, .unset, .val (.int (2 : Int32)), .val (.int (0 : Int32))] [(.int (-50 : Int32))])) _
    refine XS.istoreN X0.here hx rfl (hb hby d14_21) rfl (l' := #[.val (.int (-50 : Int32)), .val (.int (2 : Int32)), .val (.ref ra2), .unset, .unset, .val (.int (2 : Int32)), .val (.int (0 : Int32))]) rfl ?_
    show Steps p.tables e below (s₁.setTop (mkF m 22 #[.val (.int (-50 : Int32)), .val (.int (2 : Int32)), .val (.ref ra2), .unset, .unset, .val (.int (2 : Int32)), .val (.int (0 : Int32))] [])) _
    refine XS.iloadN X0.here hx rfl (hb hby d14_22) rfl ?_
    show Steps p.tables e below (s₁.setTop (mkF m 23 #[.val (.int (-50 : Int32)), .val (.int (2 : Int32)), .val (.ref ra2), .unset, .unset, .val (.int (2 : Int32)), .val (.int (0 : Int32))] [(.int (-50 : Int32))])) _
    refine XS.bipush X0.here hx rfl (hb hby d14_23) ?_
    show Steps p.tables e below (s₁.setTop (mkF m 25 #[.val (.int (-50 : Int32)), .val (.int (2 : Int32)), .val (.ref ra2), .unset, .unset, .val (.int (2 : Int32)), .val (.int (0 : Int32))] [(.int (-100 : Int32)), (.int (-50 : Int32))])) _
    refine XS.icmpYes X0.here hx rfl (pc0 := 25) (pc' := 72) rfl (hb hby d14_25) rfl (tlt (by decide : (-100 : Int32) < (-50 : Int32))).2.2.1 (by decide) (by decide) ?_
    show Steps p.tables e below (s₁.setTop (mkF m 72 #[.val (.int (-50 : Int32)), .val (.int (2 : Int32)), .val (.ref ra2), .unset, .unset, .val (.int (2 : Int32)), .val (.int (0 : Int32))] [])) _
    refine XS.aloadN X0.here hx rfl (hb hby d14_72) rfl rfl ?_
    show Steps p.tables e below (s₁.setTop (mkF m 73 #[.val (.int (-50 : Int32)), .val (.int (2 : Int32)), .val (.ref ra2), .unset, .unset, .val (.int (2 : Int32)), .val (.int (0 : Int32))] [(.ref ra2)])) _
    refine XS.iinc X0.here hx rfl (hb hby d14_73) rfl (l' := #[.val (.int (-50 : Int32)), .val (.int (2 : Int32)), .val (.ref ra2), .unset, .unset, .val (.int ((2 : Int32) + (-1 : Int32))), .val (.int (0 : Int32))]) rfl ?_
    show Steps p.tables e below (s₁.setTop (mkF m 76 #[.val (.int (-50 : Int32)), .val (.int (2 : Int32)), .val (.ref ra2), .unset, .unset, .val (.int ((2 : Int32) + (-1 : Int32))), .val (.int (0 : Int32))] [(.ref ra2)])) _
    rw [show ((2 : Int32) + (-1 : Int32)) = (1 : Int32) from by decide]
    show Steps p.tables e below (s₁.setTop (mkF m 76 #[.val (.int (-50 : Int32)), .val (.int (2 : Int32)), .val (.ref ra2), .unset, .unset, .val (.int (1 : Int32)), .val (.int (0 : Int32))] [(.ref ra2)])) _
    refine XS.iload X0.here hx rfl (hb hby d14_76) rfl ?_
    show Steps p.tables e below (s₁.setTop (mkF m 78 #[.val (.int (-50 : Int32)), .val (.int (2 : Int32)), .val (.ref ra2), .unset, .unset, .val (.int (1 : Int32)), .val (.int (0 : Int32))] [(.int (1 : Int32)), (.ref ra2)])) _
    refine st101 _ ?_
    show Steps p.tables e below (T101.setTop (mkF m 81 #[.val (.int (-50 : Int32)), .val (.int (2 : Int32)), .val (.ref ra2), .unset, .unset, .val (.int (1 : Int32)), .val (.int (0 : Int32))] [(.ref uo1), (.int (1 : Int32)), (.ref ra2)])) _
    refine XS.iloadN X101.here hx rfl (hb hby d14_81) rfl ?_
    show Steps p.tables e below (T101.setTop (mkF m 82 #[.val (.int (-50 : Int32)), .val (.int (2 : Int32)), .val (.ref ra2), .unset, .unset, .val (.int (1 : Int32)), .val (.int (0 : Int32))] [(.int (-50 : Int32)), (.ref uo1), (.int (1 : Int32)), (.ref ra2)])) _
    refine XS.ineg X101.here hx rfl (hb hby d14_82) rfl ?_
    show Steps p.tables e below (T101.setTop (mkF m 83 #[.val (.int (-50 : Int32)), .val (.int (2 : Int32)), .val (.ref ra2), .unset, .unset, .val (.int (1 : Int32)), .val (.int (0 : Int32))] [(.int (-(-50 : Int32))), (.ref uo1), (.int (1 : Int32)), (.ref ra2)])) _
    rw [show (-(-50 : Int32)) = (50 : Int32) from by decide]
    show Steps p.tables e below (T101.setTop (mkF m 83 #[.val (.int (-50 : Int32)), .val (.int (2 : Int32)), .val (.ref ra2), .unset, .unset, .val (.int (1 : Int32)), .val (.int (0 : Int32))] [(.int (50 : Int32)), (.ref uo1), (.int (1 : Int32)), (.ref ra2)])) _
    refine X101.baloadBytes hx (j := (50 : Int32)) (v := (.int (48 : Int32))) (by rw [e101]; exact Ar102.1) (State.isArrayOf_alike hZ.alike Ar102.2.1) Ar102.2.2 hin102 (Hh102.at hin102 (rfl)) (g := (mkF m 83 #[.val (.int (-50 : Int32)), .val (.int (2 : Int32)), .val (.ref ra2), .unset, .unset, .val (.int (1 : Int32)), .val (.int (0 : Int32))] [(.int (50 : Int32)), (.ref uo1), (.int (1 : Int32)), (.ref ra2)])) rfl rfl (hb hby d14_83) _ ?_
    show Steps p.tables e below (T101.setTop (mkF m 84 #[.val (.int (-50 : Int32)), .val (.int (2 : Int32)), .val (.ref ra2), .unset, .unset, .val (.int (1 : Int32)), .val (.int (0 : Int32))] [(.int (48 : Int32)), (.int (1 : Int32)), (.ref ra2)])) _
    refine st103 _ ?_
    show Steps p.tables e below (T103.setTop (mkF m 85 #[.val (.int (-50 : Int32)), .val (.int (2 : Int32)), .val (.ref ra2), .unset, .unset, .val (.int (1 : Int32)), .val (.int (0 : Int32))] [])) _
    refine XS.iloadN X103.here hx rfl (hb hby d14_85) rfl ?_
    show Steps p.tables e below (T103.setTop (mkF m 86 #[.val (.int (-50 : Int32)), .val (.int (2 : Int32)), .val (.ref ra2), .unset, .unset, .val (.int (1 : Int32)), .val (.int (0 : Int32))] [(.int (-50 : Int32))])) _
    refine XS.bipush X103.here hx rfl (hb hby d14_86) ?_
    show Steps p.tables e below (T103.setTop (mkF m 88 #[.val (.int (-50 : Int32)), .val (.int (2 : Int32)), .val (.ref ra2), .unset, .unset, .val (.int (1 : Int32)), .val (.int (0 : Int32))] [(.int (-9 : Int32)), (.int (-50 : Int32))])) _
    refine XS.icmpNo X103.here hx rfl (hb hby d14_88) rfl (tlt (by decide : (-50 : Int32) < (-9 : Int32))).2.1 ?_
    show Steps p.tables e below (T103.setTop (mkF m 91 #[.val (.int (-50 : Int32)), .val (.int (2 : Int32)), .val (.ref ra2), .unset, .unset, .val (.int (1 : Int32)), .val (.int (0 : Int32))] [])) _
    refine XS.aloadN X103.here hx rfl (hb hby d14_91) rfl rfl ?_
    show Steps p.tables e below (T103.setTop (mkF m 92 #[.val (.int (-50 : Int32)), .val (.int (2 : Int32)), .val (.ref ra2), .unset, .unset, .val (.int (1 : Int32)), .val (.int (0 : Int32))] [(.ref ra2)])) _
    refine XS.iinc X103.here hx rfl (hb hby d14_92) rfl (l' := #[.val (.int (-50 : Int32)), .val (.int (2 : Int32)), .val (.ref ra2), .unset, .unset, .val (.int ((1 : Int32) + (-1 : Int32))), .val (.int (0 : Int32))]) rfl ?_
    show Steps p.tables e below (T103.setTop (mkF m 95 #[.val (.int (-50 : Int32)), .val (.int (2 : Int32)), .val (.ref ra2), .unset, .unset, .val (.int ((1 : Int32) + (-1 : Int32))), .val (.int (0 : Int32))] [(.ref ra2)])) _
    rw [show ((1 : Int32) + (-1 : Int32)) = (0 : Int32) from by decide]
    show Steps p.tables e below (T103.setTop (mkF m 95 #[.val (.int (-50 : Int32)), .val (.int (2 : Int32)), .val (.ref ra2), .unset, .unset, .val (.int (0 : Int32)), .val (.int (0 : Int32))] [(.ref ra2)])) _
    refine XS.iload X103.here hx rfl (hb hby d14_95) rfl ?_
    show Steps p.tables e below (T103.setTop (mkF m 97 #[.val (.int (-50 : Int32)), .val (.int (2 : Int32)), .val (.ref ra2), .unset, .unset, .val (.int (0 : Int32)), .val (.int (0 : Int32))] [(.int (0 : Int32)), (.ref ra2)])) _
    refine st105 _ ?_
    show Steps p.tables e below (T105.setTop (mkF m 100 #[.val (.int (-50 : Int32)), .val (.int (2 : Int32)), .val (.ref ra2), .unset, .unset, .val (.int (0 : Int32)), .val (.int (0 : Int32))] [(.ref uo4), (.int (0 : Int32)), (.ref ra2)])) _
    refine XS.iloadN X105.here hx rfl (hb hby d14_100) rfl ?_
    show Steps p.tables e below (T105.setTop (mkF m 101 #[.val (.int (-50 : Int32)), .val (.int (2 : Int32)), .val (.ref ra2), .unset, .unset, .val (.int (0 : Int32)), .val (.int (0 : Int32))] [(.int (-50 : Int32)), (.ref uo4), (.int (0 : Int32)), (.ref ra2)])) _
    refine XS.ineg X105.here hx rfl (hb hby d14_101) rfl ?_
    show Steps p.tables e below (T105.setTop (mkF m 102 #[.val (.int (-50 : Int32)), .val (.int (2 : Int32)), .val (.ref ra2), .unset, .unset, .val (.int (0 : Int32)), .val (.int (0 : Int32))] [(.int (-(-50 : Int32))), (.ref uo4), (.int (0 : Int32)), (.ref ra2)])) _
    rw [show (-(-50 : Int32)) = (50 : Int32) from by decide]
    show Steps p.tables e below (T105.setTop (mkF m 102 #[.val (.int (-50 : Int32)), .val (.int (2 : Int32)), .val (.ref ra2), .unset, .unset, .val (.int (0 : Int32)), .val (.int (0 : Int32))] [(.int (50 : Int32)), (.ref uo4), (.int (0 : Int32)), (.ref ra2)])) _
    refine X105.baloadBytes hx (j := (50 : Int32)) (v := (.int (53 : Int32))) (by rw [e105]; exact Ar107.1) (State.isArrayOf_alike hZ.alike Ar107.2.1) Ar107.2.2 hin107 (Hh107.at hin107 (rfl)) (g := (mkF m 102 #[.val (.int (-50 : Int32)), .val (.int (2 : Int32)), .val (.ref ra2), .unset, .unset, .val (.int (0 : Int32)), .val (.int (0 : Int32))] [(.int (50 : Int32)), (.ref uo4), (.int (0 : Int32)), (.ref ra2)])) rfl rfl (hb hby d14_102) _ ?_
    show Steps p.tables e below (T105.setTop (mkF m 103 #[.val (.int (-50 : Int32)), .val (.int (2 : Int32)), .val (.ref ra2), .unset, .unset, .val (.int (0 : Int32)), .val (.int (0 : Int32))] [(.int (53 : Int32)), (.int (0 : Int32)), (.ref ra2)])) _
    refine st108 _ ?_
    show Steps p.tables e below (T108.setTop (mkF m 104 #[.val (.int (-50 : Int32)), .val (.int (2 : Int32)), .val (.ref ra2), .unset, .unset, .val (.int (0 : Int32)), .val (.int (0 : Int32))] [])) _
    refine XS.iload X108.here hx rfl (hb hby d14_104) rfl ?_
    show Steps p.tables e below (T108.setTop (mkF m 106 #[.val (.int (-50 : Int32)), .val (.int (2 : Int32)), .val (.ref ra2), .unset, .unset, .val (.int (0 : Int32)), .val (.int (0 : Int32))] [(.int (0 : Int32))])) _
    refine XS.ifYes X108.here hx rfl (pc0 := 106) (pc' := 118) rfl (hb hby d14_106) rfl ((if0 _ _).trans (teq (by decide : (0 : Int32) = (0 : Int32))).1) (by decide) (by decide) ?_
    show Steps p.tables e below (T108.setTop (mkF m 118 #[.val (.int (-50 : Int32)), .val (.int (2 : Int32)), .val (.ref ra2), .unset, .unset, .val (.int (0 : Int32)), .val (.int (0 : Int32))] [])) _
    refine XS.iload X108.here hx rfl (hb hby d14_118) rfl ?_
    show Steps p.tables e below (T108.setTop (mkF m 120 #[.val (.int (-50 : Int32)), .val (.int (2 : Int32)), .val (.ref ra2), .unset, .unset, .val (.int (0 : Int32)), .val (.int (0 : Int32))] [(.int (0 : Int32))])) _
    exact retI X108 hx Bd.returns (hb hby d14_120) hr
  · show Q14x9 Z ra2 uo1 uk2 uk3 uo4 uk5 h0 n0 _ T108.heap _
    rw [e108]
    exact ⟨rfl, N108, (((Keep.refl h0 [ra2]).wr W103 (Or.inl (List.mem_of_getElem? (i := 0) rfl))).wr W108 (Or.inl (List.mem_of_getElem? (i := 0) rfl))), V108⟩
theorem d10_0 : decode jdk_68_method_32_code 0 = .ok (.aload_n 0, 1) := by decide +kernel
theorem d10_1 : decode jdk_68_method_32_code 1 = .ok (.getfield 79, 3) := by decide +kernel
theorem d10_4 : decode jdk_68_method_32_code 4 = .ok (.istore_n 2, 1) := by decide +kernel
theorem d10_5 : decode jdk_68_method_32_code 5 = .ok (.iload_n 2, 1) := by decide +kernel
theorem d10_6 : decode jdk_68_method_32_code 6 = .ok (.iload_n 1, 1) := by decide +kernel
theorem d10_7 : decode jdk_68_method_32_code 7 = .ok (.invokestatic 245, 3) := by decide +kernel
theorem d10_10 : decode jdk_68_method_32_code 10 = .ok (.iadd, 1) := by decide +kernel
theorem d10_11 : decode jdk_68_method_32_code 11 = .ok (.istore_n 3, 1) := by decide +kernel
theorem d10_12 : decode jdk_68_method_32_code 12 = .ok (.aload_n 0, 1) := by decide +kernel
theorem d10_13 : decode jdk_68_method_32_code 13 = .ok (.iload_n 3, 1) := by decide +kernel
theorem d10_14 : decode jdk_68_method_32_code 14 = .ok (.invokevirtual 100, 3) := by decide +kernel
theorem d10_17 : decode jdk_68_method_32_code 17 = .ok (.aload_n 0, 1) := by decide +kernel
theorem d10_18 : decode jdk_68_method_32_code 18 = .ok (.invokevirtual 83, 3) := by decide +kernel
theorem d10_21 : decode jdk_68_method_32_code 21 = .ok (.ifCond .eq 16, 3) := by decide +kernel
theorem d10_24 : decode jdk_68_method_32_code 24 = .ok (.iload_n 1, 1) := by decide +kernel
theorem d10_25 : decode jdk_68_method_32_code 25 = .ok (.iload_n 3, 1) := by decide +kernel
theorem d10_26 : decode jdk_68_method_32_code 26 = .ok (.aload_n 0, 1) := by decide +kernel
theorem d10_27 : decode jdk_68_method_32_code 27 = .ok (.getfield 15, 3) := by decide +kernel
theorem d10_30 : decode jdk_68_method_32_code 30 = .ok (.invokestatic 248, 3) := by decide +kernel
theorem d10_33 : decode jdk_68_method_32_code 33 = .ok (.pop, 1) := by decide +kernel
theorem d10_34 : decode jdk_68_method_32_code 34 = .ok (.goto 14, 3) := by decide +kernel
theorem d10_48 : decode jdk_68_method_32_code 48 = .ok (.aload_n 0, 1) := by decide +kernel
theorem d10_49 : decode jdk_68_method_32_code 49 = .ok (.iload_n 3, 1) := by decide +kernel
theorem d10_50 : decode jdk_68_method_32_code 50 = .ok (.putfield 79, 3) := by decide +kernel
theorem d10_53 : decode jdk_68_method_32_code 53 = .ok (.aload_n 0, 1) := by decide +kernel
theorem d10_54 : decode jdk_68_method_32_code 54 = .ok (.areturn, 1) := by decide +kernel
theorem ef_10x5 (m : MethodId) (ra0 : Addr) : entryFrame m #[(.ref ra0), (.int (50 : Int32))] 4 = mkF m 0 #[.val (.ref ra0), .val (.int (50 : Int32)), .unset, .unset] [] := by first | (simp [entryFrame, mkF, argsToLocals, Value.category]; done) | rfl
def Q10x5 (Z : State) (ra0 : Addr) (uo1 : Addr) (uk2 : ClassId) (ui3 : Int32) (uo4 : Addr) (uk5 : ClassId) (uo6 : Addr) (uk7 : ClassId) (h0 : Heap) (n0 : Nat) (v : Option Value) (h : Heap) (L : List Loc) : Prop := v = some (.ref ra0) ∧ Fr n0 L ∧ Keep h0 h [uo1, ra0] ∧ Arv Z h uo1 uk2 .byte (16 : Int32) [(.int (53 : Int32)), (.int (48 : Int32)), (.int (0 : Int32)), (.int (0 : Int32)), (.int (0 : Int32)), (.int (0 : Int32)), (.int (0 : Int32)), (.int (0 : Int32)), (.int (0 : Int32)), (.int (0 : Int32)), (.int (0 : Int32)), (.int (0 : Int32)), (.int (0 : Int32)), (.int (0 : Int32)), (.int (0 : Int32)), (.int (0 : Int32))] (.int (0 : Int32)) ∧ Fld Z h ra0 "java/lang/AbstractStringBuilder" "coder" "B" (.int (0 : Int32)) ∧ Fld Z h ra0 "java/lang/AbstractStringBuilder" "count" "I" (.int (2 : Int32)) ∧ Fld Z h ra0 "java/lang/AbstractStringBuilder" "value" "[B" (.ref uo1)
set_option maxRecDepth 65536 in
set_option maxHeartbeats 40000000 in
theorem rm10x5 (l : Launch) (Z : State) (a0 : Array Value) (hw : ∀ d ∈ tables_1, d.before a0 Z = true) (ws : List Jvm.Cond) (ra0 : Addr) (uo1 : Addr) (uk2 : ClassId) (ui3 : Int32) (uo4 : Addr) (uk5 : ClassId) (uo6 : Addr) (uk7 : ClassId) (h0 : Heap) (n0 : Nat) (Z0 : n0 ≤ h0.size) (H0 : Fld Z h0 ra0 "java/lang/AbstractStringBuilder" "count" "I" (.int (0 : Int32))) (H1 : Exa Z h0 ra0 "java/lang/StringBuilder") (H2 : Fld Z h0 ra0 "java/lang/AbstractStringBuilder" "value" "[B" (.ref uo1)) (H3 : Arv Z h0 uo1 uk2 .byte (16 : Int32) [(.int (0 : Int32)), (.int (0 : Int32)), (.int (0 : Int32)), (.int (0 : Int32)), (.int (0 : Int32)), (.int (0 : Int32)), (.int (0 : Int32)), (.int (0 : Int32)), (.int (0 : Int32)), (.int (0 : Int32)), (.int (0 : Int32)), (.int (0 : Int32)), (.int (0 : Int32)), (.int (0 : Int32)), (.int (0 : Int32)), (.int (0 : Int32))] (.int (0 : Int32))) (H4 : Fld Z h0 ra0 "java/lang/AbstractStringBuilder" "coder" "B" (.int (0 : Int32))) (H5 : Sta Z h0 "java/lang/String" "COMPACT_STRINGS" "Z" (.int ui3)) (H6 : ¬ (ui3 = (0 : Int32))) (H7 : Sta Z h0 "java/lang/Integer" "DigitOnes" "[B" (.ref uo4)) (H8 : Arv Z h0 uo4 uk5 .byte (100 : Int32) own_ones (.int (0 : Int32))) (H9 : n0 ≤ uo1) (H10 : Sta Z h0 "java/lang/Integer" "DigitTens" "[B" (.ref uo6)) (H11 : Arv Z h0 uo6 uk7 .byte (100 : Int32) own_tens (.int (0 : Int32))) (H12 : uo6 ≠ uo1) (H13 : Exa Z h0 uo1 "[B") (H14 : n0 ≤ ra0) :
    MetFree l (⟨"java/lang/AbstractStringBuilder", "append", "(I)Ljava/lang/AbstractStringBuilder;"⟩ : MethodName) (head1 (Jvm.Cond.code (⟨"java/lang/AbstractStringBuilder", "append", "(I)Ljava/lang/AbstractStringBuilder;"⟩ : MethodName) jdk_68_method_32_code 4 (some (.object "java/lang/AbstractStringBuilder")) :: ws) ({ frames := 1, cells := 0, slots := 0, locals := 18 } : Room)) (fun a U => a = #[(.ref ra0), (.int (50 : Int32))] ∧ Z.Warmed39 U.vm ∧ U.heap = h0) (fun _ _ _ _ _ => True) (fun _ U o U' => ∃ v L, o = .returned v ∧ Q10x5 Z ra0 uo1 uk2 ui3 uo4 uk5 uo6 uk7 h0 n0 v U'.heap L ∧ FrameEnd U o U' L ({ frames := 1, cells := 0, slots := 0, locals := 18 } : Room).cells ({ frames := 1, cells := 0, slots := 0, locals := 18 } : Room).slots) := by
  refine MetFree.of_bodySF (plainFor_of_name pn_java_lang_AbstractStringBuilder) hisR ?_
  intro p e s m args below meth c s₁ Bd hml0 hP hK
  obtain ⟨rfl, hZ, hh⟩ := hP
  have hx := Bd.exec
  have hby := Bd.bytes
  have hml : c.maxLocals = 4 := hml0
  have hown : s.vm.findClass "java/lang/AbstractStringBuilder" = some m.cls := findClass_of_methodNamed Bd.named
  have hnm := (name_of_methodNamed Bd.named Bd.method).1
  have X0 : Stand p l e ({ frames := 1, cells := 0, slots := 0, locals := 18 } : Room) s m #[(.ref ra0), (.int (50 : Int32))] below meth c s₁ [] 0 0 := Stand.of_body Bd
  have e0 : s₁.heap = h0 := by rw [← hh, Bd.state]; rfl
  have N0 := Fr.nil n0
  have pre0 : ∀ t, Steps p.tables e below (s₁.setTop (mkF m 0 #[.val (.ref ra0), .val (.int (50 : Int32)), .unset, .unset] [])) t → Steps p.tables e below (s₁.setTop (entryFrame m #[(.ref ra0), (.int (50 : Int32))] 4)) t := fun t k => castTop (ef_10x5 m ra0) k
  obtain ⟨T101, X101, e101, st101⟩ := getF X0 hx hZ hown (host := "") (Or.inl (hw _ (List.mem_of_getElem? (i := 78) rfl))) Via.refl e0 H0 (g := (mkF m 1 #[.val (.ref ra0), .val (.int (50 : Int32)), .unset, .unset] [(.ref ra0)])) rfl rfl (hb hby d10_1)
  obtain ⟨_, _, ⟨T102, L102, k102, n102⟩, -, X102, ⟨Lc102, hQ102, l102, y102, z102⟩, st102⟩ := Jvm.LawKit.callS X101 hx (y := (⟨"java/lang/Integer", "stringSize", "(I)I"⟩ : MethodName)) hown (mvT hZ (hw _ (List.mem_of_getElem? (i := 80) rfl))) (mvT hZ (hw _ (List.mem_of_getElem? (i := 81) rfl))) (mvT hZ (hw _ (List.mem_of_getElem? (i := 82) rfl))) (mvT hZ (hw _ (List.mem_of_getElem? (i := 83) rfl))) (by decide) (backOf (W := 1) (rm11x6 l Z a0 hw []  h0 n0 Z0) hZ (hw _ (List.mem_of_getElem? (i := 83) rfl)) (hw _ (List.mem_of_getElem? (i := 82) rfl)) (by decide) (by decide)) (g := (mkF m 7 #[.val (.ref ra0), .val (.int (50 : Int32)), .val (.int (0 : Int32)), .unset] [(.int (50 : Int32)), (.int (0 : Int32))])) rfl (by rw [hml]; rfl) (argsL := [(.int (50 : Int32))]) (rest := [(.int (0 : Int32))]) (lenOf pd_3 rfl) rfl (by show 2 * 0 + _ ≤ _; exact Nat.le_of_eq rfl) (hb hby d10_7) (fun _ _ => ⟨rfl, e101, (by decide : 0 + 0 ≤ _), (by decide : 0 + 0 ≤ _)⟩)
  dsimp only [Pt.U, Pt.locs, Pt.cells, Pt.slots] at X102 l102 y102 z102 st102 hQ102
  subst l102 y102 z102
  obtain ⟨rfl, Nq102, Heq102⟩ := hQ102
  have N102 := Fr.app N0 Nq102
  obtain ⟨cq103, kq103, q103a, q103b, q103c⟩ := isOf hZ Heq102 H1
  obtain ⟨_, _, ⟨T103, L103, k103, n103⟩, -, X103, ⟨Lc103, hQ103, l103, y103, z103⟩, st103⟩ := X102.virtualBack hx (y := (⟨"java/lang/AbstractStringBuilder", "ensureCapacityInternal", "(I)V"⟩ : MethodName)) (z := (⟨"java/lang/AbstractStringBuilder", "ensureCapacityInternal", "(I)V"⟩ : MethodName)) hown (mvT hZ (hw _ (List.mem_of_getElem? (i := 84) rfl))) (mvT hZ (own_declares (hw _ (List.mem_of_getElem? (i := 85) rfl)) (hw _ (List.mem_of_getElem? (i := 88) rfl)))) (notFace_of_selects (args := #[]) (mvT hZ (hw _ (List.mem_of_getElem? (i := 87) rfl)))) (mvT hZ (hw _ (List.mem_of_getElem? (i := 87) rfl))) (mvT hZ (hw _ (List.mem_of_getElem? (i := 85) rfl))) (by decide) (backOf (W := 0) (rm12x7 l Z a0 hw [] ra0 uo1 uk2 h0 n0 Z0 H2 H3 H4) hZ (hw _ (List.mem_of_getElem? (i := 88) rfl)) (hw _ (List.mem_of_getElem? (i := 56) rfl)) (by decide) (by decide)) q103a q103c (g := (mkF m 14 #[.val (.ref ra0), .val (.int (50 : Int32)), .val (.int (0 : Int32)), .val (.int (2 : Int32))] [(.int (2 : Int32)), (.ref ra0)])) rfl (by rw [hml]; rfl) (Steps.refl _) (argsL := [(.int (2 : Int32))]) (rest := []) (lenOf pd_1 rfl) rfl (by show 2 * 0 + _ ≤ _; exact Nat.le_of_eq rfl) (hb hby d10_14) (fun _ _ => ⟨rfl, Heq102, (by decide : 0 + 0 ≤ _), (by decide : 0 + 0 ≤ _)⟩)
  dsimp only [Pt.U, Pt.locs, Pt.cells, Pt.slots] at X103 l103 y103 z103 st103 hQ103
  subst l103 y103 z103
  obtain ⟨rfl, Nq103, Heq103⟩ := hQ103
  have N103 := Fr.app N102 Nq103
  obtain ⟨cq104, kq104, q104a, q104b, q104c⟩ := isOf hZ Heq103 H1
  obtain ⟨_, _, ⟨T104, L104, k104, n104⟩, -, X104, ⟨Lc104, hQ104, l104, y104, z104⟩, st104⟩ := X103.virtualBack hx (y := (⟨"java/lang/AbstractStringBuilder", "isLatin1", "()Z"⟩ : MethodName)) (z := (⟨"java/lang/AbstractStringBuilder", "isLatin1", "()Z"⟩ : MethodName)) hown (mvT hZ (hw _ (List.mem_of_getElem? (i := 89) rfl))) (mvT hZ (hw _ (List.mem_of_getElem? (i := 90) rfl))) (notFace_of_selects (args := #[]) (mvT hZ (hw _ (List.mem_of_getElem? (i := 92) rfl)))) (mvT hZ (hw _ (List.mem_of_getElem? (i := 92) rfl))) (mvT hZ (hw _ (List.mem_of_getElem? (i := 91) rfl))) (by decide) (backOf (W := 0) (rm13x8 l Z a0 hw [] ra0 ui3 h0 n0 Z0 H5 H6 H4) hZ (hw _ (List.mem_of_getElem? (i := 93) rfl)) (hw _ (List.mem_of_getElem? (i := 56) rfl)) (by decide) (by decide)) q104a q104c (g := (mkF m 18 #[.val (.ref ra0), .val (.int (50 : Int32)), .val (.int (0 : Int32)), .val (.int (2 : Int32))] [(.ref ra0)])) rfl (by rw [hml]; rfl) (Steps.refl _) (argsL := []) (rest := []) (lenOf pd_4 rfl) rfl (by show 2 * 0 + _ ≤ _; exact Nat.le_of_eq rfl) (hb hby d10_18) (fun _ _ => ⟨rfl, Heq103, (by decide : 0 + 0 ≤ _), (by decide : 0 + 0 ≤ _)⟩)
  dsimp only [Pt.U, Pt.locs, Pt.cells, Pt.slots] at X104 l104 y104 z104 st104 hQ104
  subst l104 y104 z104
  obtain ⟨rfl, Nq104, Heq104⟩ := hQ104
  have N104 := Fr.app N103 Nq104
  obtain ⟨T105, X105, e105, st105⟩ := getF X104 hx hZ hown (host := "") (Or.inl (hw _ (List.mem_of_getElem? (i := 64) rfl))) Via.refl Heq104 H2 (g := (mkF m 27 #[.val (.ref ra0), .val (.int (50 : Int32)), .val (.int (0 : Int32)), .val (.int (2 : Int32))] [(.ref ra0), (.int (2 : Int32)), (.int (50 : Int32))])) rfl rfl (hb hby d10_27)
  obtain ⟨_, _, ⟨T106, L106, k106, n106⟩, -, X106, ⟨Lc106, hQ106, l106, y106, z106⟩, st106⟩ := Jvm.LawKit.callS X105 hx (y := (⟨"java/lang/Integer", "getChars", "(II[B)I"⟩ : MethodName)) hown (mvT hZ (hw _ (List.mem_of_getElem? (i := 94) rfl))) (mvT hZ (hw _ (List.mem_of_getElem? (i := 95) rfl))) (mvT hZ (hw _ (List.mem_of_getElem? (i := 82) rfl))) (mvT hZ (hw _ (List.mem_of_getElem? (i := 96) rfl))) (by decide) (backOf (W := 0) (rm14x9 l Z a0 hw [] uo1 uo4 uk5 uk2 uo6 uk7 h0 n0 Z0 H7 H8 H3 H9 H10 H11 H12 H13) hZ (hw _ (List.mem_of_getElem? (i := 96) rfl)) (hw _ (List.mem_of_getElem? (i := 82) rfl)) (by decide) (by decide)) (g := (mkF m 30 #[.val (.ref ra0), .val (.int (50 : Int32)), .val (.int (0 : Int32)), .val (.int (2 : Int32))] [(.ref uo1), (.int (2 : Int32)), (.int (50 : Int32))])) rfl (by rw [hml]; rfl) (argsL := [(.int (50 : Int32)), (.int (2 : Int32)), (.ref uo1)]) (rest := []) (lenOf pd_5 rfl) rfl (by show 2 * 0 + _ ≤ _; exact Nat.le_of_eq rfl) (hb hby d10_30) (fun _ _ => ⟨rfl, e105, (by decide : 0 + 0 ≤ _), (by decide : 0 + 0 ≤ _)⟩)
  dsimp only [Pt.U, Pt.locs, Pt.cells, Pt.slots] at X106 l106 y106 z106 st106 hQ106
  subst l106 y106 z106
  obtain ⟨rfl, Nq106, K106, R106_1⟩ := hQ106
  have N106 := Fr.app N104 Nq106
  have ne107 : ra0 ≠ uo1 := ne_exa H1 H13 (by decide)
  have f108 : Fld Z T106.heap ra0 "java/lang/AbstractStringBuilder" "count" "I" (.int (0 : Int32)) := (H0.keep K106 (ninS ne107 nin0))
  have f109 : Exa Z T106.heap ra0 "java/lang/StringBuilder" := (H1.keep K106)
  obtain ⟨T110, h110, X110, e110, W110, st110⟩ := putF X106 hx hZ hown (host := "") (Or.inl (hw _ (List.mem_of_getElem? (i := 78) rfl))) Via.refl rfl f108 f109 (Or.inl (hw _ (List.mem_of_getElem? (i := 79) rfl))) (hw _ (List.mem_of_getElem? (i := 47) rfl)) (ty := .int) (by decide) rfl rfl (g := (mkF m 50 #[.val (.ref ra0), .val (.int (50 : Int32)), .val (.int (0 : Int32)), .val (.int (2 : Int32))] [(.int (2 : Int32)), (.ref ra0)])) rfl rfl (hb hby d10_50)
  have Fw110 := f108.same W110
  have N110 := Fr.snoc X110 N106 H14
  have f111 : Arv Z h110 uo1 uk2 .byte (16 : Int32) [(.int (53 : Int32)), (.int (48 : Int32)), (.int (0 : Int32)), (.int (0 : Int32)), (.int (0 : Int32)), (.int (0 : Int32)), (.int (0 : Int32)), (.int (0 : Int32)), (.int (0 : Int32)), (.int (0 : Int32)), (.int (0 : Int32)), (.int (0 : Int32)), (.int (0 : Int32)), (.int (0 : Int32)), (.int (0 : Int32)), (.int (0 : Int32))] (.int (0 : Int32)) := (R106_1.other W110 (Ne.symm ne107))
  have f112 : Fld Z h110 ra0 "java/lang/AbstractStringBuilder" "coder" "B" (.int (0 : Int32)) := ((H4.keep K106 (ninS ne107 nin0)).other W110 (Or.inr (slot_ne (Or.inl (hw _ (List.mem_of_getElem? (i := 67) rfl))) (Or.inl (hw _ (List.mem_of_getElem? (i := 79) rfl))) (by decide) (t := .byte) (t' := .int) (by decide) (by decide))))
  have f113 : Fld Z h110 ra0 "java/lang/AbstractStringBuilder" "value" "[B" (.ref uo1) := ((H2.keep K106 (ninS ne107 nin0)).other W110 (Or.inr (slot_ne (Or.inl (hw _ (List.mem_of_getElem? (i := 65) rfl))) (Or.inl (hw _ (List.mem_of_getElem? (i := 79) rfl))) (by decide) (t := (.array .byte)) (t' := .int) (by decide) (by decide))))
  obtain ⟨fs, hr, hrun, hended, hW, hsame⟩ := X110.leave (v := some (.ref ra0)) (fun h => by rw [Bd.returns] at h; cases h)
  refine ⟨_, _, pre0 _ ?_, hrun, hended, _, _, rfl, ?_, ⟨_, rfl⟩, hW, hsame.mono (by decide) (by decide)⟩
  · skip
    show Steps p.tables e below (s₁.setTop (mkF m 0 #[.val (.ref ra0), .val (.int (50 : Int32)), .unset, .unset] [])) _
    refine XS.aloadN X0.here hx rfl (hb hby d10_0) rfl rfl ?_
    show Steps p.tables e below (s₁.setTop (mkF m 1 #[.val (.ref ra0), .val (.int (50 : Int32)), .unset, .unset] [(.ref ra0)])) _
    refine st101 _ ?_
    show Steps p.tables e below (T101.setTop (mkF m 4 #[.val (.ref ra0), .val (.int (50 : Int32)), .unset, .unset] [(.int (0 : Int32))])) _
    refine XS.istoreN X101.here hx rfl (hb hby d10_4) rfl (l' := #[.val (.ref ra0), .val (.int (50 : Int32)), .val (.int (0 : Int32)), .unset]) rfl ?_
    show Steps p.tables e below (T101.setTop (mkF m 5 #[.val (.ref ra0), .val (.int (50 : Int32)), .val (.int (0 : Int32)), .unset] [])) _
    refine XS.iloadN X101.here hx rfl (hb hby d10_5) rfl ?_
    show Steps p.tables e below (T101.setTop (mkF m 6 #[.val (.ref ra0), .val (.int (50 : Int32)), .val (.int (0 : Int32)), .unset] [(.int (0 : Int32))])) _
    refine XS.iloadN X101.here hx rfl (hb hby d10_6) rfl ?_
    show Steps p.tables e below (T101.setTop (mkF m 7 #[.val (.ref ra0), .val (.int (50 : Int32)), .val (.int (0 : Int32)), .unset] [(.int (50 : Int32)), (.int (0 : Int32))])) _
    refine st102 _ ?_
    show Steps p.tables e below (T102.setTop (mkF m 10 #[.val (.ref ra0), .val (.int (50 : Int32)), .val (.int (0 : Int32)), .unset] [(.int (2 : Int32)), (.int (0 : Int32))])) _
    refine XS.iadd X102.here hx rfl (hb hby d10_10) rfl ?_
    show Steps p.tables e below (T102.setTop (mkF m 11 #[.val (.ref ra0), .val (.int (50 : Int32)), .val (.int (0 : Int32)), .unset] [(.int ((0 : Int32) + (2 : Int32)))])) _
    rw [show ((0 : Int32) + (2 : Int32)) = (2 : Int32) from by decide]
    show Steps p.tables e below (T102.setTop (mkF m 11 #[.val (.ref ra0), .val (.int (50 : Int32)), .val (.int (0 : Int32)), .unset] [(.int (2 : Int32))])) _
    refine XS.istoreN X102.here hx rfl (hb hby d10_11) rfl (l' := #[.val (.ref ra0), .val (.int (50 : Int32)), .val (.int (0 : Int32)), .val (.int (2 : Int32))]) rfl ?_
    show Steps p.tables e below (T102.setTop (mkF m 12 #[.val (.ref ra0), .val (.int (50 : Int32)), .val (.int (0 : Int32)), .val (.int (2 : Int32))] [])) _
    refine XS.aloadN X102.here hx rfl (hb hby d10_12) rfl rfl ?_
    show Steps p.tables e below (T102.setTop (mkF m 13 #[.val (.ref ra0), .val (.int (50 : Int32)), .val (.int (0 : Int32)), .val (.int (2 : Int32))] [(.ref ra0)])) _
    refine XS.iloadN X102.here hx rfl (hb hby d10_13) rfl ?_
    show Steps p.tables e below (T102.setTop (mkF m 14 #[.val (.ref ra0), .val (.int (50 : Int32)), .val (.int (0 : Int32)), .val (.int (2 : Int32))] [(.int (2 : Int32)), (.ref ra0)])) _
    refine st103.trans ?_
    show Steps p.tables e below (T103.setTop (mkF m 17 #[.val (.ref ra0), .val (.int (50 : Int32)), .val (.int (0 : Int32)), .val (.int (2 : Int32))] [])) _
    refine XS.aloadN X103.here hx rfl (hb hby d10_17) rfl rfl ?_
    show Steps p.tables e below (T103.setTop (mkF m 18 #[.val (.ref ra0), .val (.int (50 : Int32)), .val (.int (0 : Int32)), .val (.int (2 : Int32))] [(.ref ra0)])) _
    refine st104.trans ?_
    show Steps p.tables e below (T104.setTop (mkF m 21 #[.val (.ref ra0), .val (.int (50 : Int32)), .val (.int (0 : Int32)), .val (.int (2 : Int32))] [(.int (1 : Int32))])) _
    refine XS.ifNo X104.here hx rfl (hb hby d10_21) rfl ((if0 _ _).trans (feq (by decide : ¬ ((1 : Int32) = (0 : Int32)))).1) ?_
    show Steps p.tables e below (T104.setTop (mkF m 24 #[.val (.ref ra0), .val (.int (50 : Int32)), .val (.int (0 : Int32)), .val (.int (2 : Int32))] [])) _
    refine XS.iloadN X104.here hx rfl (hb hby d10_24) rfl ?_
    show Steps p.tables e below (T104.setTop (mkF m 25 #[.val (.ref ra0), .val (.int (50 : Int32)), .val (.int (0 : Int32)), .val (.int (2 : Int32))] [(.int (50 : Int32))])) _
    refine XS.iloadN X104.here hx rfl (hb hby d10_25) rfl ?_
    show Steps p.tables e below (T104.setTop (mkF m 26 #[.val (.ref ra0), .val (.int (50 : Int32)), .val (.int (0 : Int32)), .val (.int (2 : Int32))] [(.int (2 : Int32)), (.int (50 : Int32))])) _
    refine XS.aloadN X104.here hx rfl (hb hby d10_26) rfl rfl ?_
    show Steps p.tables e below (T104.setTop (mkF m 27 #[.val (.ref ra0), .val (.int (50 : Int32)), .val (.int (0 : Int32)), .val (.int (2 : Int32))] [(.ref ra0), (.int (2 : Int32)), (.int (50 : Int32))])) _
    refine st105 _ ?_
    show Steps p.tables e below (T105.setTop (mkF m 30 #[.val (.ref ra0), .val (.int (50 : Int32)), .val (.int (0 : Int32)), .val (.int (2 : Int32))] [(.ref uo1), (.int (2 : Int32)), (.int (50 : Int32))])) _
    refine st106 _ ?_
    show Steps p.tables e below (T106.setTop (mkF m 33 #[.val (.ref ra0), .val (.int (50 : Int32)), .val (.int (0 : Int32)), .val (.int (2 : Int32))] [(.int (0 : Int32))])) _
    refine XS.pop X106.here hx rfl (hb hby d10_33) rfl rfl ?_
    show Steps p.tables e below (T106.setTop (mkF m 34 #[.val (.ref ra0), .val (.int (50 : Int32)), .val (.int (0 : Int32)), .val (.int (2 : Int32))] [])) _
    refine XS.goto X106.here hx rfl (pc0 := 34) (pc' := 48) rfl (hb hby d10_34) (by decide) (by decide) ?_
    show Steps p.tables e below (T106.setTop (mkF m 48 #[.val (.ref ra0), .val (.int (50 : Int32)), .val (.int (0 : Int32)), .val (.int (2 : Int32))] [])) _
    refine XS.aloadN X106.here hx rfl (hb hby d10_48) rfl rfl ?_
    show Steps p.tables e below (T106.setTop (mkF m 49 #[.val (.ref ra0), .val (.int (50 : Int32)), .val (.int (0 : Int32)), .val (.int (2 : Int32))] [(.ref ra0)])) _
    refine XS.iloadN X106.here hx rfl (hb hby d10_49) rfl ?_
    show Steps p.tables e below (T106.setTop (mkF m 50 #[.val (.ref ra0), .val (.int (50 : Int32)), .val (.int (0 : Int32)), .val (.int (2 : Int32))] [(.int (2 : Int32)), (.ref ra0)])) _
    refine st110 _ ?_
    show Steps p.tables e below (T110.setTop (mkF m 53 #[.val (.ref ra0), .val (.int (50 : Int32)), .val (.int (0 : Int32)), .val (.int (2 : Int32))] [])) _
    refine XS.aloadN X110.here hx rfl (hb hby d10_53) rfl rfl ?_
    show Steps p.tables e below (T110.setTop (mkF m 54 #[.val (.ref ra0), .val (.int (50 : Int32)), .val (.int (0 : Int32)), .val (.int (2 : Int32))] [(.ref ra0)])) _
    jvm_step X110.here [X110.here.top, hx, (hb hby d10_54), X110.method', Bd.returns, Value.isRef, FieldType.isReference]
    first | (intro acts; rw [hr _ acts rfl rfl rfl]) | rw [hr _ _ rfl rfl rfl]
    exact Steps.refl _
  · show Q10x5 Z ra0 uo1 uk2 ui3 uo4 uk5 uo6 uk7 h0 n0 _ T110.heap _
    rw [e110]
    exact ⟨rfl, N110, (((Keep.refl h0 [uo1, ra0]).trans K106 (allS (P := (fun x => x ∈ [uo1, ra0] ∨ h0.size ≤ x)) (Or.inl (List.mem_of_getElem? (i := 0) rfl)) all0)).wr W110 (Or.inl (List.mem_of_getElem? (i := 1) rfl))), f111, f112, Fw110, f113⟩
theorem d9_0 : decode jdk_67_method_15_code 0 = .ok (.aload_n 0, 1) := by decide +kernel
theorem d9_1 : decode jdk_67_method_15_code 1 = .ok (.iload_n 1, 1) := by decide +kernel
theorem d9_2 : decode jdk_67_method_15_code 2 = .ok (.invokespecial 53, 3) := by decide +kernel
theorem d9_5 : decode jdk_67_method_15_code 5 = .ok (.pop, 1) := by decide +kernel
theorem d9_6 : decode jdk_67_method_15_code 6 = .ok (.aload_n 0, 1) := by decide +kernel
theorem d9_7 : decode jdk_67_method_15_code 7 = .ok (.areturn, 1) := by decide +kernel
theorem ef_9x4 (m : MethodId) (ra0 : Addr) : entryFrame m #[(.ref ra0), (.int (50 : Int32))] 2 = mkF m 0 #[.val (.ref ra0), .val (.int (50 : Int32))] [] := by first | (simp [entryFrame, mkF, argsToLocals, Value.category]; done) | rfl
def Q9x4 (Z : State) (ra0 : Addr) (uo1 : Addr) (uk2 : ClassId) (ui3 : Int32) (uo4 : Addr) (uk5 : ClassId) (uo6 : Addr) (uk7 : ClassId) (h0 : Heap) (n0 : Nat) (v : Option Value) (h : Heap) (L : List Loc) : Prop := v = some (.ref ra0) ∧ Fr n0 L ∧ Keep h0 h [uo1, ra0] ∧ Arv Z h uo1 uk2 .byte (16 : Int32) [(.int (53 : Int32)), (.int (48 : Int32)), (.int (0 : Int32)), (.int (0 : Int32)), (.int (0 : Int32)), (.int (0 : Int32)), (.int (0 : Int32)), (.int (0 : Int32)), (.int (0 : Int32)), (.int (0 : Int32)), (.int (0 : Int32)), (.int (0 : Int32)), (.int (0 : Int32)), (.int (0 : Int32)), (.int (0 : Int32)), (.int (0 : Int32))] (.int (0 : Int32)) ∧ Fld Z h ra0 "java/lang/AbstractStringBuilder" "coder" "B" (.int (0 : Int32)) ∧ Fld Z h ra0 "java/lang/AbstractStringBuilder" "count" "I" (.int (2 : Int32)) ∧ Fld Z h ra0 "java/lang/AbstractStringBuilder" "value" "[B" (.ref uo1)
set_option maxRecDepth 65536 in
set_option maxHeartbeats 40000000 in
theorem rm9x4 (l : Launch) (Z : State) (a0 : Array Value) (hw : ∀ d ∈ tables_1, d.before a0 Z = true) (ws : List Jvm.Cond) (ra0 : Addr) (uo1 : Addr) (uk2 : ClassId) (ui3 : Int32) (uo4 : Addr) (uk5 : ClassId) (uo6 : Addr) (uk7 : ClassId) (h0 : Heap) (n0 : Nat) (Z0 : n0 ≤ h0.size) (H0 : Fld Z h0 ra0 "java/lang/AbstractStringBuilder" "count" "I" (.int (0 : Int32))) (H1 : Exa Z h0 ra0 "java/lang/StringBuilder") (H2 : Fld Z h0 ra0 "java/lang/AbstractStringBuilder" "value" "[B" (.ref uo1)) (H3 : Arv Z h0 uo1 uk2 .byte (16 : Int32) [(.int (0 : Int32)), (.int (0 : Int32)), (.int (0 : Int32)), (.int (0 : Int32)), (.int (0 : Int32)), (.int (0 : Int32)), (.int (0 : Int32)), (.int (0 : Int32)), (.int (0 : Int32)), (.int (0 : Int32)), (.int (0 : Int32)), (.int (0 : Int32)), (.int (0 : Int32)), (.int (0 : Int32)), (.int (0 : Int32)), (.int (0 : Int32))] (.int (0 : Int32))) (H4 : Fld Z h0 ra0 "java/lang/AbstractStringBuilder" "coder" "B" (.int (0 : Int32))) (H5 : Sta Z h0 "java/lang/String" "COMPACT_STRINGS" "Z" (.int ui3)) (H6 : ¬ (ui3 = (0 : Int32))) (H7 : Sta Z h0 "java/lang/Integer" "DigitOnes" "[B" (.ref uo4)) (H8 : Arv Z h0 uo4 uk5 .byte (100 : Int32) own_ones (.int (0 : Int32))) (H9 : n0 ≤ uo1) (H10 : Sta Z h0 "java/lang/Integer" "DigitTens" "[B" (.ref uo6)) (H11 : Arv Z h0 uo6 uk7 .byte (100 : Int32) own_tens (.int (0 : Int32))) (H12 : uo6 ≠ uo1) (H13 : Exa Z h0 uo1 "[B") (H14 : n0 ≤ ra0) :
    MetFree l (⟨"java/lang/StringBuilder", "append", "(I)Ljava/lang/StringBuilder;"⟩ : MethodName) (head1 (Jvm.Cond.code (⟨"java/lang/StringBuilder", "append", "(I)Ljava/lang/StringBuilder;"⟩ : MethodName) jdk_67_method_15_code 2 (some (.object "java/lang/StringBuilder")) :: ws) ({ frames := 2, cells := 0, slots := 0, locals := 33 } : Room)) (fun a U => a = #[(.ref ra0), (.int (50 : Int32))] ∧ Z.Warmed39 U.vm ∧ U.heap = h0) (fun _ _ _ _ _ => True) (fun _ U o U' => ∃ v L, o = .returned v ∧ Q9x4 Z ra0 uo1 uk2 ui3 uo4 uk5 uo6 uk7 h0 n0 v U'.heap L ∧ FrameEnd U o U' L ({ frames := 2, cells := 0, slots := 0, locals := 33 } : Room).cells ({ frames := 2, cells := 0, slots := 0, locals := 33 } : Room).slots) := by
  refine MetFree.of_bodySF (plainFor_of_name pn_java_lang_StringBuilder) hisR ?_
  intro p e s m args below meth c s₁ Bd hml0 hP hK
  obtain ⟨rfl, hZ, hh⟩ := hP
  have hx := Bd.exec
  have hby := Bd.bytes
  have hml : c.maxLocals = 2 := hml0
  have hown : s.vm.findClass "java/lang/StringBuilder" = some m.cls := findClass_of_methodNamed Bd.named
  have hnm := (name_of_methodNamed Bd.named Bd.method).1
  have X0 : Stand p l e ({ frames := 2, cells := 0, slots := 0, locals := 33 } : Room) s m #[(.ref ra0), (.int (50 : Int32))] below meth c s₁ [] 0 0 := Stand.of_body Bd
  have e0 : s₁.heap = h0 := by rw [← hh, Bd.state]; rfl
  have N0 := Fr.nil n0
  have pre0 : ∀ t, Steps p.tables e below (s₁.setTop (mkF m 0 #[.val (.ref ra0), .val (.int (50 : Int32))] [])) t → Steps p.tables e below (s₁.setTop (entryFrame m #[(.ref ra0), (.int (50 : Int32))] 2)) t := fun t k => castTop (ef_9x4 m ra0) k
  obtain ⟨_, _, ⟨T101, L101, k101, n101⟩, -, X101, ⟨Lc101, hQ101, l101, y101, z101⟩, st101⟩ := superBack X0 hx hZ (y := (⟨"java/lang/AbstractStringBuilder", "append", "(I)Ljava/lang/AbstractStringBuilder;"⟩ : MethodName)) hown (hw _ (List.mem_of_getElem? (i := 73) rfl)) (own_same (hw _ (List.mem_of_getElem? (i := 74) rfl)) (hw _ (List.mem_of_getElem? (i := 87) rfl)) rfl (by decide)) (hw _ (List.mem_of_getElem? (i := 74) rfl)) (hw _ (List.mem_of_getElem? (i := 75) rfl)) (by decide) (backOf (W := 0) (rm10x5 l Z a0 hw [] ra0 uo1 uk2 ui3 uo4 uk5 uo6 uk7 h0 n0 Z0 H0 H1 H2 H3 H4 H5 H6 H7 H8 H9 H10 H11 H12 H13 H14) hZ (hw _ (List.mem_of_getElem? (i := 77) rfl)) (hw _ (List.mem_of_getElem? (i := 56) rfl)) (by decide) (by decide)) e0 (Ins.self H1) (g := (mkF m 2 #[.val (.ref ra0), .val (.int (50 : Int32))] [(.int (50 : Int32)), (.ref ra0)])) rfl (by rw [hml]; rfl) (hw _ (List.mem_of_getElem? (i := 77) rfl)) (argsL := [(.int (50 : Int32))]) (rest := []) (lenOf pd_6 rfl) rfl (by show 2 * 0 + _ ≤ _; exact Nat.le_of_eq rfl) (hb hby d9_2) (fun _ _ => ⟨rfl, e0, (by decide : 0 + 0 ≤ _), (by decide : 0 + 0 ≤ _)⟩)
  dsimp only [Pt.U, Pt.locs, Pt.cells, Pt.slots] at X101 l101 y101 z101 st101 hQ101
  subst l101 y101 z101
  obtain ⟨rfl, Nq101, K101, R101_1, R101_2, R101_3, R101_4⟩ := hQ101
  have N101 := Fr.app N0 Nq101
  obtain ⟨fs, hr, hrun, hended, hW, hsame⟩ := X101.leave (v := some (.ref ra0)) (fun h => by rw [Bd.returns] at h; cases h)
  refine ⟨_, _, pre0 _ ?_, hrun, hended, _, _, rfl, ?_, ⟨_, rfl⟩, hW, hsame.mono (by decide) (by decide)⟩
  · skip
    show Steps p.tables e below (s₁.setTop (mkF m 0 #[.val (.ref ra0), .val (.int (50 : Int32))] [])) _
    refine XS.aloadN X0.here hx rfl (hb hby d9_0) rfl rfl ?_
    show Steps p.tables e below (s₁.setTop (mkF m 1 #[.val (.ref ra0), .val (.int (50 : Int32))] [(.ref ra0)])) _
    refine XS.iloadN X0.here hx rfl (hb hby d9_1) rfl ?_
    show Steps p.tables e below (s₁.setTop (mkF m 2 #[.val (.ref ra0), .val (.int (50 : Int32))] [(.int (50 : Int32)), (.ref ra0)])) _
    refine st101.trans ?_
    show Steps p.tables e below (T101.setTop (mkF m 5 #[.val (.ref ra0), .val (.int (50 : Int32))] [(.ref ra0)])) _
    refine XS.pop X101.here hx rfl (hb hby d9_5) rfl rfl ?_
    show Steps p.tables e below (T101.setTop (mkF m 6 #[.val (.ref ra0), .val (.int (50 : Int32))] [])) _
    refine XS.aloadN X101.here hx rfl (hb hby d9_6) rfl rfl ?_
    show Steps p.tables e below (T101.setTop (mkF m 7 #[.val (.ref ra0), .val (.int (50 : Int32))] [(.ref ra0)])) _
    jvm_step X101.here [X101.here.top, hx, (hb hby d9_7), X101.method', Bd.returns, Value.isRef, FieldType.isReference]
    first | (intro acts; rw [hr _ acts rfl rfl rfl]) | rw [hr _ _ rfl rfl rfl]
    exact Steps.refl _
  · show Q9x4 Z ra0 uo1 uk2 ui3 uo4 uk5 uo6 uk7 h0 n0 _ T101.heap _
    exact ⟨rfl, N101, ((Keep.refl h0 [uo1, ra0]).trans K101 (allS (P := (fun x => x ∈ [uo1, ra0] ∨ h0.size ≤ x)) (Or.inl (List.mem_of_getElem? (i := 0) rfl)) (allS (P := (fun x => x ∈ [uo1, ra0] ∨ h0.size ≤ x)) (Or.inl (List.mem_of_getElem? (i := 1) rfl)) all0))), R101_1, R101_2, R101_3, R101_4⟩
theorem d18_0 : decode jdk_42_method_152_code 0 = .ok (.getstatic 38, 3) := by decide +kernel
theorem d18_3 : decode jdk_42_method_152_code 3 = .ok (.ifCond .eq 10, 3) := by decide +kernel
theorem d18_6 : decode jdk_42_method_152_code 6 = .ok (.aload_n 0, 1) := by decide +kernel
theorem d18_7 : decode jdk_42_method_152_code 7 = .ok (.getfield 15, 3) := by decide +kernel
theorem d18_10 : decode jdk_42_method_152_code 10 = .ok (.goto 4, 3) := by decide +kernel
theorem d18_14 : decode jdk_42_method_152_code 14 = .ok (.ireturn, 1) := by decide +kernel
theorem pn_java_lang_String : plainName "java/lang/String" = true := by first | (simp [plainName, overriddenIn]; done) | decide +kernel
theorem ef_18x13 (m : MethodId) (ra0 : Addr) : entryFrame m #[(.ref ra0)] 1 = mkF m 0 #[.val (.ref ra0)] [] := by first | (simp [entryFrame, mkF, argsToLocals, Value.category]; done) | rfl
def Q18x13 (Z : State) (ra0 : Addr) (ui1 : Int32) (h0 : Heap) (n0 : Nat) (v : Option Value) (h : Heap) (L : List Loc) : Prop := v = some (.int (0 : Int32)) ∧ Fr n0 L ∧ h = h0
set_option maxRecDepth 65536 in
set_option maxHeartbeats 40000000 in
theorem rm18x13 (l : Launch) (Z : State) (a0 : Array Value) (hw : ∀ d ∈ tables_1, d.before a0 Z = true) (ws : List Jvm.Cond) (ra0 : Addr) (ui1 : Int32) (h0 : Heap) (n0 : Nat) (Z0 : n0 ≤ h0.size) (H0 : Sta Z h0 "java/lang/String" "COMPACT_STRINGS" "Z" (.int ui1)) (H1 : ¬ (ui1 = (0 : Int32))) (H2 : Fld Z h0 ra0 "java/lang/String" "coder" "B" (.int (0 : Int32))) :
    MetFree l (⟨"java/lang/String", "coder", "()B"⟩ : MethodName) (head1 (Jvm.Cond.code (⟨"java/lang/String", "coder", "()B"⟩ : MethodName) jdk_42_method_152_code 1 (some .byte) :: ws) ({ frames := 0, cells := 0, slots := 0, locals := 0 } : Room)) (fun a U => a = #[(.ref ra0)] ∧ Z.Warmed39 U.vm ∧ U.heap = h0) (fun _ _ _ _ _ => True) (fun _ U o U' => ∃ v L, o = .returned v ∧ Q18x13 Z ra0 ui1 h0 n0 v U'.heap L ∧ FrameEnd U o U' L ({ frames := 0, cells := 0, slots := 0, locals := 0 } : Room).cells ({ frames := 0, cells := 0, slots := 0, locals := 0 } : Room).slots) := by
  refine MetFree.of_bodySF (plainFor_of_name pn_java_lang_String) hisR ?_
  intro p e s m args below meth c s₁ Bd hml0 hP hK
  obtain ⟨rfl, hZ, hh⟩ := hP
  have hx := Bd.exec
  have hby := Bd.bytes
  have hml : c.maxLocals = 1 := hml0
  have hown : s.vm.findClass "java/lang/String" = some m.cls := findClass_of_methodNamed Bd.named
  have hnm := (name_of_methodNamed Bd.named Bd.method).1
  have X0 : Stand p l e ({ frames := 0, cells := 0, slots := 0, locals := 0 } : Room) s m #[(.ref ra0)] below meth c s₁ [] 0 0 := Stand.of_body Bd
  have e0 : s₁.heap = h0 := by rw [← hh, Bd.state]; rfl
  have N0 := Fr.nil n0
  have pre0 : ∀ t, Steps p.tables e below (s₁.setTop (mkF m 0 #[.val (.ref ra0)] [])) t → Steps p.tables e below (s₁.setTop (entryFrame m #[(.ref ra0)] 1)) t := fun t k => castTop (ef_18x13 m ra0) k
  obtain ⟨T101, X101, e101, st101⟩ := getS2 X0 hx hZ hown (host := "") (Or.inl (hw _ (List.mem_of_getElem? (i := 125) rfl))) Via.refl e0 H0 (g := (mkF m 0 #[.val (.ref ra0)] [])) rfl (hb hby d18_0)
  obtain ⟨T102, X102, e102, st102⟩ := getF X101 hx hZ hown (host := "") (Or.inl (hw _ (List.mem_of_getElem? (i := 126) rfl))) Via.refl e101 H2 (g := (mkF m 7 #[.val (.ref ra0)] [(.ref ra0)])) rfl rfl (hb hby d18_7)
  obtain ⟨fs, hr, hrun, hended, hW, hsame⟩ := X102.leave (v := some (.int (0 : Int32))) (fun h => by rw [Bd.returns] at h; cases h)
  refine ⟨_, _, pre0 _ ?_, hrun, hended, _, _, rfl, ?_, ⟨_, rfl⟩, hW, hsame.mono (by decide) (by decide)⟩
  · skip
    show Steps p.tables e below (s₁.setTop (mkF m 0 #[.val (.ref ra0)] [])) _
    refine st101 _ ?_
    show Steps p.tables e below (T101.setTop (mkF m 3 #[.val (.ref ra0)] [(.int ui1)])) _
    refine XS.ifNo X101.here hx rfl (hb hby d18_3) rfl ((if0 _ _).trans (feq (H1 : ¬ (ui1 = (0 : Int32)))).1) ?_
    show Steps p.tables e below (T101.setTop (mkF m 6 #[.val (.ref ra0)] [])) _
    refine XS.aloadN X101.here hx rfl (hb hby d18_6) rfl rfl ?_
    show Steps p.tables e below (T101.setTop (mkF m 7 #[.val (.ref ra0)] [(.ref ra0)])) _
    refine st102 _ ?_
    show Steps p.tables e below (T102.setTop (mkF m 10 #[.val (.ref ra0)] [(.int (0 : Int32))])) _
    refine XS.goto X102.here hx rfl (pc0 := 10) (pc' := 14) rfl (hb hby d18_10) (by decide) (by decide) ?_
    show Steps p.tables e below (T102.setTop (mkF m 14 #[.val (.ref ra0)] [(.int (0 : Int32))])) _
    exact retN X102 hx (t := .byte) Bd.returns (by simp) (hb hby d18_14) hr
  · show Q18x13 Z ra0 ui1 h0 n0 _ T102.heap _
    rw [e102]
    exact ⟨rfl, N0, rfl⟩
theorem d17_0 : decode jdk_42_method_54_code 0 = .ok (.aload_n 0, 1) := by decide +kernel
theorem d17_1 : decode jdk_42_method_54_code 1 = .ok (.getfield 9, 3) := by decide +kernel
theorem d17_4 : decode jdk_42_method_54_code 4 = .ok (.arraylength, 1) := by decide +kernel
theorem d17_5 : decode jdk_42_method_54_code 5 = .ok (.aload_n 0, 1) := by decide +kernel
theorem d17_6 : decode jdk_42_method_54_code 6 = .ok (.invokevirtual 335, 3) := by decide +kernel
theorem d17_9 : decode jdk_42_method_54_code 9 = .ok (.ishr, 1) := by decide +kernel
theorem d17_10 : decode jdk_42_method_54_code 10 = .ok (.ireturn, 1) := by decide +kernel
theorem ef_17x12 (m : MethodId) (ra0 : Addr) : entryFrame m #[(.ref ra0)] 1 = mkF m 0 #[.val (.ref ra0)] [] := by first | (simp [entryFrame, mkF, argsToLocals, Value.category]; done) | rfl
def Q17x12 (Z : State) (ra0 : Addr) (uo1 : Addr) (uk2 : ClassId) (ui3 : Int32) (h0 : Heap) (n0 : Nat) (v : Option Value) (h : Heap) (L : List Loc) : Prop := v = some (.int (1 : Int32)) ∧ Fr n0 L ∧ h = h0
set_option maxRecDepth 65536 in
set_option maxHeartbeats 40000000 in
theorem rm17x12 (l : Launch) (Z : State) (a0 : Array Value) (hw : ∀ d ∈ tables_1, d.before a0 Z = true) (ws : List Jvm.Cond) (ra0 : Addr) (uo1 : Addr) (uk2 : ClassId) (ui3 : Int32) (h0 : Heap) (n0 : Nat) (Z0 : n0 ≤ h0.size) (H0 : Fld Z h0 ra0 "java/lang/String" "value" "[B" (.ref uo1)) (H1 : Arv Z h0 uo1 uk2 .byte (1 : Int32) [(.int (45 : Int32))] (.int 0)) (H2 : Exa Z h0 ra0 "java/lang/String") (H3 : Sta Z h0 "java/lang/String" "COMPACT_STRINGS" "Z" (.int ui3)) (H4 : ¬ (ui3 = (0 : Int32))) (H5 : Fld Z h0 ra0 "java/lang/String" "coder" "B" (.int (0 : Int32))) :
    MetFree l (⟨"java/lang/String", "length", "()I"⟩ : MethodName) (head1 (Jvm.Cond.code (⟨"java/lang/String", "length", "()I"⟩ : MethodName) jdk_42_method_54_code 1 (some .int) :: ws) ({ frames := 1, cells := 0, slots := 0, locals := 13 } : Room)) (fun a U => a = #[(.ref ra0)] ∧ Z.Warmed39 U.vm ∧ U.heap = h0) (fun _ _ _ _ _ => True) (fun _ U o U' => ∃ v L, o = .returned v ∧ Q17x12 Z ra0 uo1 uk2 ui3 h0 n0 v U'.heap L ∧ FrameEnd U o U' L ({ frames := 1, cells := 0, slots := 0, locals := 13 } : Room).cells ({ frames := 1, cells := 0, slots := 0, locals := 13 } : Room).slots) := by
  refine MetFree.of_bodySF (plainFor_of_name pn_java_lang_String) hisR ?_
  intro p e s m args below meth c s₁ Bd hml0 hP hK
  obtain ⟨rfl, hZ, hh⟩ := hP
  have hx := Bd.exec
  have hby := Bd.bytes
  have hml : c.maxLocals = 1 := hml0
  have hown : s.vm.findClass "java/lang/String" = some m.cls := findClass_of_methodNamed Bd.named
  have hnm := (name_of_methodNamed Bd.named Bd.method).1
  have X0 : Stand p l e ({ frames := 1, cells := 0, slots := 0, locals := 13 } : Room) s m #[(.ref ra0)] below meth c s₁ [] 0 0 := Stand.of_body Bd
  have e0 : s₁.heap = h0 := by rw [← hh, Bd.state]; rfl
  have N0 := Fr.nil n0
  have pre0 : ∀ t, Steps p.tables e below (s₁.setTop (mkF m 0 #[.val (.ref ra0)] [])) t → Steps p.tables e below (s₁.setTop (entryFrame m #[(.ref ra0)] 1)) t := fun t k => castTop (ef_17x12 m ra0) k
  obtain ⟨T101, X101, e101, st101⟩ := getF X0 hx hZ hown (host := "") (Or.inl (hw _ (List.mem_of_getElem? (i := 119) rfl))) Via.refl e0 H0 (g := (mkF m 1 #[.val (.ref ra0)] [(.ref ra0)])) rfl rfl (hb hby d17_1)
  obtain ⟨cl102, Ar102, -, S102, M102, -, -⟩ := id H1
  obtain ⟨cq103, kq103, q103a, q103b, q103c⟩ := isOf hZ e101 H2
  obtain ⟨_, _, ⟨T103, L103, k103, n103⟩, -, X103, ⟨Lc103, hQ103, l103, y103, z103⟩, st103⟩ := X101.virtualBack hx (y := (⟨"java/lang/String", "coder", "()B"⟩ : MethodName)) (z := (⟨"java/lang/String", "coder", "()B"⟩ : MethodName)) hown (mvT hZ (hw _ (List.mem_of_getElem? (i := 120) rfl))) (mvT hZ (hw _ (List.mem_of_getElem? (i := 121) rfl))) (notFace_of_selects (args := #[]) (mvT hZ (hw _ (List.mem_of_getElem? (i := 123) rfl)))) (mvT hZ (hw _ (List.mem_of_getElem? (i := 123) rfl))) (mvT hZ (hw _ (List.mem_of_getElem? (i := 122) rfl))) (by decide) (backOf (W := 1) (rm18x13 l Z a0 hw [] ra0 ui3 h0 n0 Z0 H3 H4 H5) hZ (hw _ (List.mem_of_getElem? (i := 124) rfl)) (hw _ (List.mem_of_getElem? (i := 62) rfl)) (by decide) (by decide)) q103a q103c (g := (mkF m 6 #[.val (.ref ra0)] [(.ref ra0), (.int (1 : Int32))])) rfl (by rw [hml]; rfl) (Steps.refl _) (argsL := []) (rest := [(.int (1 : Int32))]) (lenOf pd_8 rfl) rfl (by show 2 * 0 + _ ≤ _; exact Nat.le_of_eq rfl) (hb hby d17_6) (fun _ _ => ⟨rfl, e101, (by decide : 0 + 0 ≤ _), (by decide : 0 + 0 ≤ _)⟩)
  dsimp only [Pt.U, Pt.locs, Pt.cells, Pt.slots] at X103 l103 y103 z103 st103 hQ103
  subst l103 y103 z103
  obtain ⟨rfl, Nq103, Heq103⟩ := hQ103
  have N103 := Fr.app N0 Nq103
  obtain ⟨fs, hr, hrun, hended, hW, hsame⟩ := X103.leave (v := some (.int (1 : Int32))) (fun h => by rw [Bd.returns] at h; cases h)
  refine ⟨_, _, pre0 _ ?_, hrun, hended, _, _, rfl, ?_, ⟨_, rfl⟩, hW, hsame.mono (by decide) (by decide)⟩
  · skip
    show Steps p.tables e below (s₁.setTop (mkF m 0 #[.val (.ref ra0)] [])) _
    refine XS.aloadN X0.here hx rfl (hb hby d17_0) rfl rfl ?_
    show Steps p.tables e below (s₁.setTop (mkF m 1 #[.val (.ref ra0)] [(.ref ra0)])) _
    refine st101 _ ?_
    show Steps p.tables e below (T101.setTop (mkF m 4 #[.val (.ref ra0)] [(.ref uo1)])) _
    refine X101.arraylength hx (by rw [e101]; exact Ar102.1) (State.isArrayOf_alike hZ.alike Ar102.2.1) (g := (mkF m 4 #[.val (.ref ra0)] [(.ref uo1)])) rfl rfl (hb hby d17_4) _ ?_
    rw [len_of S102 M102]
    show Steps p.tables e below (T101.setTop (mkF m 5 #[.val (.ref ra0)] [(.int (1 : Int32))])) _
    refine XS.aloadN X101.here hx rfl (hb hby d17_5) rfl rfl ?_
    show Steps p.tables e below (T101.setTop (mkF m 6 #[.val (.ref ra0)] [(.ref ra0), (.int (1 : Int32))])) _
    refine st103.trans ?_
    show Steps p.tables e below (T103.setTop (mkF m 9 #[.val (.ref ra0)] [(.int (0 : Int32)), (.int (1 : Int32))])) _
    refine XS.ishr X103.here hx rfl (hb hby d17_9) rfl ?_
    show Steps p.tables e below (T103.setTop (mkF m 10 #[.val (.ref ra0)] [(.int ((1 : Int32) >>> ((0 : Int32) &&& 31)))])) _
    rw [show ((1 : Int32) >>> ((0 : Int32) &&& 31)) = (1 : Int32) from by decide]
    show Steps p.tables e below (T103.setTop (mkF m 10 #[.val (.ref ra0)] [(.int (1 : Int32))])) _
    exact retI X103 hx Bd.returns (hb hby d17_10) hr
  · show Q17x12 Z ra0 uo1 uk2 ui3 h0 n0 _ T103.heap _
    rw [Heq103]
    exact ⟨rfl, N103, rfl⟩
theorem ef_12x14 (m : MethodId) (ra0 : Addr) : entryFrame m #[(.ref ra0), (.int (3 : Int32))] 3 = mkF m 0 #[.val (.ref ra0), .val (.int (3 : Int32)), .unset] [] := by first | (simp [entryFrame, mkF, argsToLocals, Value.category]; done) | rfl
def Q12x14 (Z : State) (ra0 : Addr) (uo1 : Addr) (uk2 : ClassId) (h0 : Heap) (n0 : Nat) (v : Option Value) (h : Heap) (L : List Loc) : Prop := v = none ∧ Fr n0 L ∧ h = h0
set_option maxRecDepth 65536 in
set_option maxHeartbeats 40000000 in
theorem rm12x14 (l : Launch) (Z : State) (a0 : Array Value) (hw : ∀ d ∈ tables_1, d.before a0 Z = true) (ws : List Jvm.Cond) (ra0 : Addr) (uo1 : Addr) (uk2 : ClassId) (h0 : Heap) (n0 : Nat) (Z0 : n0 ≤ h0.size) (H0 : Fld Z h0 ra0 "java/lang/AbstractStringBuilder" "value" "[B" (.ref uo1)) (H1 : Arv Z h0 uo1 uk2 .byte (16 : Int32) [(.int (53 : Int32)), (.int (48 : Int32)), (.int (0 : Int32)), (.int (0 : Int32)), (.int (0 : Int32)), (.int (0 : Int32)), (.int (0 : Int32)), (.int (0 : Int32)), (.int (0 : Int32)), (.int (0 : Int32)), (.int (0 : Int32)), (.int (0 : Int32)), (.int (0 : Int32)), (.int (0 : Int32)), (.int (0 : Int32)), (.int (0 : Int32))] (.int (0 : Int32))) (H2 : Fld Z h0 ra0 "java/lang/AbstractStringBuilder" "coder" "B" (.int (0 : Int32))) :
    MetFree l (⟨"java/lang/AbstractStringBuilder", "ensureCapacityInternal", "(I)V"⟩ : MethodName) (head1 (Jvm.Cond.code (⟨"java/lang/AbstractStringBuilder", "ensureCapacityInternal", "(I)V"⟩ : MethodName) jdk_68_method_9_code 3 none :: ws) ({ frames := 0, cells := 0, slots := 0, locals := 0 } : Room)) (fun a U => a = #[(.ref ra0), (.int (3 : Int32))] ∧ Z.Warmed39 U.vm ∧ U.heap = h0) (fun _ _ _ _ _ => True) (fun _ U o U' => ∃ v L, o = .returned v ∧ Q12x14 Z ra0 uo1 uk2 h0 n0 v U'.heap L ∧ FrameEnd U o U' L ({ frames := 0, cells := 0, slots := 0, locals := 0 } : Room).cells ({ frames := 0, cells := 0, slots := 0, locals := 0 } : Room).slots) := by
  refine MetFree.of_bodySF (plainFor_of_name pn_java_lang_AbstractStringBuilder) hisR ?_
  intro p e s m args below meth c s₁ Bd hml0 hP hK
  obtain ⟨rfl, hZ, hh⟩ := hP
  have hx := Bd.exec
  have hby := Bd.bytes
  have hml : c.maxLocals = 3 := hml0
  have hown : s.vm.findClass "java/lang/AbstractStringBuilder" = some m.cls := findClass_of_methodNamed Bd.named
  have hnm := (name_of_methodNamed Bd.named Bd.method).1
  have X0 : Stand p l e ({ frames := 0, cells := 0, slots := 0, locals := 0 } : Room) s m #[(.ref ra0), (.int (3 : Int32))] below meth c s₁ [] 0 0 := Stand.of_body Bd
  have e0 : s₁.heap = h0 := by rw [← hh, Bd.state]; rfl
  have N0 := Fr.nil n0
  have pre0 : ∀ t, Steps p.tables e below (s₁.setTop (mkF m 0 #[.val (.ref ra0), .val (.int (3 : Int32)), .unset] [])) t → Steps p.tables e below (s₁.setTop (entryFrame m #[(.ref ra0), (.int (3 : Int32))] 3)) t := fun t k => castTop (ef_12x14 m ra0) k
  obtain ⟨T101, X101, e101, st101⟩ := getF X0 hx hZ hown (host := "") (Or.inl (hw _ (List.mem_of_getElem? (i := 64) rfl))) Via.refl e0 H0 (g := (mkF m 1 #[.val (.ref ra0), .val (.int (3 : Int32)), .unset] [(.ref ra0)])) rfl rfl (hb hby d12_1)
  obtain ⟨cl102, Ar102, -, S102, M102, -, -⟩ := id H1
  obtain ⟨T103, X103, e103, st103⟩ := getF X101 hx hZ hown (host := "") (Or.inl (hw _ (List.mem_of_getElem? (i := 66) rfl))) Via.refl e101 H2 (g := (mkF m 6 #[.val (.ref ra0), .val (.int (3 : Int32)), .unset] [(.ref ra0), (.int (16 : Int32))])) rfl rfl (hb hby d12_6)
  obtain ⟨fs, hr, hrun, hended, hW, hsame⟩ := X103.leave (v := none) (fun _ => rfl)
  refine ⟨_, _, pre0 _ ?_, hrun, hended, _, _, rfl, ?_, ⟨_, rfl⟩, hW, hsame.mono (by decide) (by decide)⟩
  · skip
    show Steps p.tables e below (s₁.setTop (mkF m 0 #[.val (.ref ra0), .val (.int (3 : Int32)), .unset] [])) _
    refine XS.aloadN X0.here hx rfl (hb hby d12_0) rfl rfl ?_
    show Steps p.tables e below (s₁.setTop (mkF m 1 #[.val (.ref ra0), .val (.int (3 : Int32)), .unset] [(.ref ra0)])) _
    refine st101 _ ?_
    show Steps p.tables e below (T101.setTop (mkF m 4 #[.val (.ref ra0), .val (.int (3 : Int32)), .unset] [(.ref uo1)])) _
    refine X101.arraylength hx (by rw [e101]; exact Ar102.1) (State.isArrayOf_alike hZ.alike Ar102.2.1) (g := (mkF m 4 #[.val (.ref ra0), .val (.int (3 : Int32)), .unset] [(.ref uo1)])) rfl rfl (hb hby d12_4) _ ?_
    rw [len_of S102 M102]
    show Steps p.tables e below (T101.setTop (mkF m 5 #[.val (.ref ra0), .val (.int (3 : Int32)), .unset] [(.int (16 : Int32))])) _
    refine XS.aloadN X101.here hx rfl (hb hby d12_5) rfl rfl ?_
    show Steps p.tables e below (T101.setTop (mkF m 6 #[.val (.ref ra0), .val (.int (3 : Int32)), .unset] [(.ref ra0), (.int (16 : Int32))])) _
    refine st103 _ ?_
    show Steps p.tables e below (T103.setTop (mkF m 9 #[.val (.ref ra0), .val (.int (3 : Int32)), .unset] [(.int (0 : Int32)), (.int (16 : Int32))])) _
    refine XS.ishr X103.here hx rfl (hb hby d12_9) rfl ?_
    show Steps p.tables e below (T103.setTop (mkF m 10 #[.val (.ref ra0), .val (.int (3 : Int32)), .unset] [(.int ((16 : Int32) >>> ((0 : Int32) &&& 31)))])) _
    rw [show ((16 : Int32) >>> ((0 : Int32) &&& 31)) = (16 : Int32) from by decide]
    show Steps p.tables e below (T103.setTop (mkF m 10 #[.val (.ref ra0), .val (.int (3 : Int32)), .unset] [(.int (16 : Int32))])) _
    refine XS.istoreN X103.here hx rfl (hb hby d12_10) rfl (l' := #[.val (.ref ra0), .val (.int (3 : Int32)), .val (.int (16 : Int32))]) rfl ?_
    show Steps p.tables e below (T103.setTop (mkF m 11 #[.val (.ref ra0), .val (.int (3 : Int32)), .val (.int (16 : Int32))] [])) _
    refine XS.iloadN X103.here hx rfl (hb hby d12_11) rfl ?_
    show Steps p.tables e below (T103.setTop (mkF m 12 #[.val (.ref ra0), .val (.int (3 : Int32)), .val (.int (16 : Int32))] [(.int (3 : Int32))])) _
    refine XS.iloadN X103.here hx rfl (hb hby d12_12) rfl ?_
    show Steps p.tables e below (T103.setTop (mkF m 13 #[.val (.ref ra0), .val (.int (3 : Int32)), .val (.int (16 : Int32))] [(.int (16 : Int32)), (.int (3 : Int32))])) _
    refine XS.isub X103.here hx rfl (hb hby d12_13) rfl ?_
    show Steps p.tables e below (T103.setTop (mkF m 14 #[.val (.ref ra0), .val (.int (3 : Int32)), .val (.int (16 : Int32))] [(.int ((3 : Int32) - (16 : Int32)))])) _
    rw [show ((3 : Int32) - (16 : Int32)) = (-13 : Int32) from by decide]
    show Steps p.tables e below (T103.setTop (mkF m 14 #[.val (.ref ra0), .val (.int (3 : Int32)), .val (.int (16 : Int32))] [(.int (-13 : Int32))])) _
    refine XS.ifYes X103.here hx rfl (pc0 := 14) (pc' := 38) rfl (hb hby d12_14) rfl ((if0 _ _).trans (flt (by decide : ¬ ((0 : Int32) < (-13 : Int32)))).2.2.2) (by decide) (by decide) ?_
    show Steps p.tables e below (T103.setTop (mkF m 38 #[.val (.ref ra0), .val (.int (3 : Int32)), .val (.int (16 : Int32))] [])) _
    exact X103.returnOut hx Bd.returns (hb hby d12_38) hr
  · show Q12x14 Z ra0 uo1 uk2 h0 n0 _ T103.heap _
    rw [e103]
    exact ⟨rfl, N0, rfl⟩
theorem ef_18x17 (m : MethodId) (ra0 : Addr) : entryFrame m #[(.ref ra0)] 1 = mkF m 0 #[.val (.ref ra0)] [] := by first | (simp [entryFrame, mkF, argsToLocals, Value.category]; done) | rfl
def Q18x17 (Z : State) (ra0 : Addr) (ui1 : Int32) (h0 : Heap) (n0 : Nat) (v : Option Value) (h : Heap) (L : List Loc) : Prop := v = some (.int (0 : Int32)) ∧ Fr n0 L ∧ h = h0
set_option maxRecDepth 65536 in
set_option maxHeartbeats 40000000 in
theorem rm18x17 (l : Launch) (Z : State) (a0 : Array Value) (hw : ∀ d ∈ tables_1, d.before a0 Z = true) (ws : List Jvm.Cond) (ra0 : Addr) (ui1 : Int32) (h0 : Heap) (n0 : Nat) (Z0 : n0 ≤ h0.size) (H0 : Sta Z h0 "java/lang/String" "COMPACT_STRINGS" "Z" (.int ui1)) (H1 : ¬ (ui1 = (0 : Int32))) (H2 : Fld Z h0 ra0 "java/lang/String" "coder" "B" (.int (0 : Int32))) :
    MetFree l (⟨"java/lang/String", "coder", "()B"⟩ : MethodName) (head1 (Jvm.Cond.code (⟨"java/lang/String", "coder", "()B"⟩ : MethodName) jdk_42_method_152_code 1 (some .byte) :: ws) ({ frames := 0, cells := 0, slots := 0, locals := 0 } : Room)) (fun a U => a = #[(.ref ra0)] ∧ Z.Warmed39 U.vm ∧ U.heap = h0) (fun _ _ _ _ _ => True) (fun _ U o U' => ∃ v L, o = .returned v ∧ Q18x17 Z ra0 ui1 h0 n0 v U'.heap L ∧ FrameEnd U o U' L ({ frames := 0, cells := 0, slots := 0, locals := 0 } : Room).cells ({ frames := 0, cells := 0, slots := 0, locals := 0 } : Room).slots) := by
  refine MetFree.of_bodySF (plainFor_of_name pn_java_lang_String) hisR ?_
  intro p e s m args below meth c s₁ Bd hml0 hP hK
  obtain ⟨rfl, hZ, hh⟩ := hP
  have hx := Bd.exec
  have hby := Bd.bytes
  have hml : c.maxLocals = 1 := hml0
  have hown : s.vm.findClass "java/lang/String" = some m.cls := findClass_of_methodNamed Bd.named
  have hnm := (name_of_methodNamed Bd.named Bd.method).1
  have X0 : Stand p l e ({ frames := 0, cells := 0, slots := 0, locals := 0 } : Room) s m #[(.ref ra0)] below meth c s₁ [] 0 0 := Stand.of_body Bd
  have e0 : s₁.heap = h0 := by rw [← hh, Bd.state]; rfl
  have N0 := Fr.nil n0
  have pre0 : ∀ t, Steps p.tables e below (s₁.setTop (mkF m 0 #[.val (.ref ra0)] [])) t → Steps p.tables e below (s₁.setTop (entryFrame m #[(.ref ra0)] 1)) t := fun t k => castTop (ef_18x17 m ra0) k
  obtain ⟨T101, X101, e101, st101⟩ := getS2 X0 hx hZ hown (host := "") (Or.inl (hw _ (List.mem_of_getElem? (i := 125) rfl))) Via.refl e0 H0 (g := (mkF m 0 #[.val (.ref ra0)] [])) rfl (hb hby d18_0)
  obtain ⟨T102, X102, e102, st102⟩ := getF X101 hx hZ hown (host := "") (Or.inl (hw _ (List.mem_of_getElem? (i := 126) rfl))) Via.refl e101 H2 (g := (mkF m 7 #[.val (.ref ra0)] [(.ref ra0)])) rfl rfl (hb hby d18_7)
  obtain ⟨fs, hr, hrun, hended, hW, hsame⟩ := X102.leave (v := some (.int (0 : Int32))) (fun h => by rw [Bd.returns] at h; cases h)
  refine ⟨_, _, pre0 _ ?_, hrun, hended, _, _, rfl, ?_, ⟨_, rfl⟩, hW, hsame.mono (by decide) (by decide)⟩
  · skip
    show Steps p.tables e below (s₁.setTop (mkF m 0 #[.val (.ref ra0)] [])) _
    refine st101 _ ?_
    show Steps p.tables e below (T101.setTop (mkF m 3 #[.val (.ref ra0)] [(.int ui1)])) _
    refine XS.ifNo X101.here hx rfl (hb hby d18_3) rfl ((if0 _ _).trans (feq (H1 : ¬ (ui1 = (0 : Int32)))).1) ?_
    show Steps p.tables e below (T101.setTop (mkF m 6 #[.val (.ref ra0)] [])) _
    refine XS.aloadN X101.here hx rfl (hb hby d18_6) rfl rfl ?_
    show Steps p.tables e below (T101.setTop (mkF m 7 #[.val (.ref ra0)] [(.ref ra0)])) _
    refine st102 _ ?_
    show Steps p.tables e below (T102.setTop (mkF m 10 #[.val (.ref ra0)] [(.int (0 : Int32))])) _
    refine XS.goto X102.here hx rfl (pc0 := 10) (pc' := 14) rfl (hb hby d18_10) (by decide) (by decide) ?_
    show Steps p.tables e below (T102.setTop (mkF m 14 #[.val (.ref ra0)] [(.int (0 : Int32))])) _
    exact retN X102 hx (t := .byte) Bd.returns (by simp) (hb hby d18_14) hr
  · show Q18x17 Z ra0 ui1 h0 n0 _ T102.heap _
    rw [e102]
    exact ⟨rfl, N0, rfl⟩
theorem d20_0 : decode jdk_68_method_71_code 0 = .ok (.getstatic 18, 3) := by decide +kernel
theorem d20_3 : decode jdk_68_method_71_code 3 = .ok (.ifCond .eq 18, 3) := by decide +kernel
theorem d20_6 : decode jdk_68_method_71_code 6 = .ok (.aload_n 0, 1) := by decide +kernel
theorem d20_7 : decode jdk_68_method_71_code 7 = .ok (.getfield 22, 3) := by decide +kernel
theorem d20_10 : decode jdk_68_method_71_code 10 = .ok (.aload_n 1, 1) := by decide +kernel
theorem d20_11 : decode jdk_68_method_71_code 11 = .ok (.invokevirtual 40, 3) := by decide +kernel
theorem d20_14 : decode jdk_68_method_71_code 14 = .ok (.if_icmp .eq 7, 3) := by decide +kernel
theorem d20_21 : decode jdk_68_method_71_code 21 = .ok (.return_, 1) := by decide +kernel
theorem ef_20x16 (m : MethodId) (ra0 : Addr) (ra1 : Addr) : entryFrame m #[(.ref ra0), (.ref ra1)] 2 = mkF m 0 #[.val (.ref ra0), .val (.ref ra1)] [] := by first | (simp [entryFrame, mkF, argsToLocals, Value.category]; done) | rfl
def Q20x16 (Z : State) (ra0 : Addr) (ra1 : Addr) (ui1 : Int32) (h0 : Heap) (n0 : Nat) (v : Option Value) (h : Heap) (L : List Loc) : Prop := v = none ∧ Fr n0 L ∧ h = h0
set_option maxRecDepth 65536 in
set_option maxHeartbeats 40000000 in
theorem rm20x16 (l : Launch) (Z : State) (a0 : Array Value) (hw : ∀ d ∈ tables_1, d.before a0 Z = true) (ws : List Jvm.Cond) (ra0 : Addr) (ra1 : Addr) (ui1 : Int32) (h0 : Heap) (n0 : Nat) (Z0 : n0 ≤ h0.size) (H0 : Sta Z h0 "java/lang/String" "COMPACT_STRINGS" "Z" (.int ui1)) (H1 : ¬ (ui1 = (0 : Int32))) (H2 : Fld Z h0 ra0 "java/lang/AbstractStringBuilder" "coder" "B" (.int (0 : Int32))) (H3 : Exa Z h0 ra1 "java/lang/String") (H4 : Fld Z h0 ra1 "java/lang/String" "coder" "B" (.int (0 : Int32))) :
    MetFree l (⟨"java/lang/AbstractStringBuilder", "inflateIfNeededFor", "(Ljava/lang/String;)V"⟩ : MethodName) (head1 (Jvm.Cond.code (⟨"java/lang/AbstractStringBuilder", "inflateIfNeededFor", "(Ljava/lang/String;)V"⟩ : MethodName) jdk_68_method_71_code 2 none :: ws) ({ frames := 1, cells := 0, slots := 0, locals := 13 } : Room)) (fun a U => a = #[(.ref ra0), (.ref ra1)] ∧ Z.Warmed39 U.vm ∧ U.heap = h0) (fun _ _ _ _ _ => True) (fun _ U o U' => ∃ v L, o = .returned v ∧ Q20x16 Z ra0 ra1 ui1 h0 n0 v U'.heap L ∧ FrameEnd U o U' L ({ frames := 1, cells := 0, slots := 0, locals := 13 } : Room).cells ({ frames := 1, cells := 0, slots := 0, locals := 13 } : Room).slots) := by
  refine MetFree.of_bodySF (plainFor_of_name pn_java_lang_AbstractStringBuilder) hisR ?_
  intro p e s m args below meth c s₁ Bd hml0 hP hK
  obtain ⟨rfl, hZ, hh⟩ := hP
  have hx := Bd.exec
  have hby := Bd.bytes
  have hml : c.maxLocals = 2 := hml0
  have hown : s.vm.findClass "java/lang/AbstractStringBuilder" = some m.cls := findClass_of_methodNamed Bd.named
  have hnm := (name_of_methodNamed Bd.named Bd.method).1
  have X0 : Stand p l e ({ frames := 1, cells := 0, slots := 0, locals := 13 } : Room) s m #[(.ref ra0), (.ref ra1)] below meth c s₁ [] 0 0 := Stand.of_body Bd
  have e0 : s₁.heap = h0 := by rw [← hh, Bd.state]; rfl
  have N0 := Fr.nil n0
  have pre0 : ∀ t, Steps p.tables e below (s₁.setTop (mkF m 0 #[.val (.ref ra0), .val (.ref ra1)] [])) t → Steps p.tables e below (s₁.setTop (entryFrame m #[(.ref ra0), (.ref ra1)] 2)) t := fun t k => castTop (ef_20x16 m ra0 ra1) k
  obtain ⟨T101, X101, e101, st101⟩ := getS2 X0 hx hZ hown (host := "") (Or.inl (hw _ (List.mem_of_getElem? (i := 61) rfl))) Via.refl e0 H0 (g := (mkF m 0 #[.val (.ref ra0), .val (.ref ra1)] [])) rfl (hb hby d20_0)
  obtain ⟨T102, X102, e102, st102⟩ := getF X101 hx hZ hown (host := "") (Or.inl (hw _ (List.mem_of_getElem? (i := 66) rfl))) Via.refl e101 H2 (g := (mkF m 7 #[.val (.ref ra0), .val (.ref ra1)] [(.ref ra0)])) rfl rfl (hb hby d20_7)
  obtain ⟨cq103, kq103, q103a, q103b, q103c⟩ := isOf hZ e102 H3
  obtain ⟨_, _, ⟨T103, L103, k103, n103⟩, -, X103, ⟨Lc103, hQ103, l103, y103, z103⟩, st103⟩ := X102.virtualBack hx (y := (⟨"java/lang/String", "coder", "()B"⟩ : MethodName)) (z := (⟨"java/lang/String", "coder", "()B"⟩ : MethodName)) hown (mvT hZ (hw _ (List.mem_of_getElem? (i := 137) rfl))) (mvT hZ (hw _ (List.mem_of_getElem? (i := 121) rfl))) (notFace_of_selects (args := #[]) (mvT hZ (hw _ (List.mem_of_getElem? (i := 123) rfl)))) (mvT hZ (hw _ (List.mem_of_getElem? (i := 123) rfl))) (mvT hZ (hw _ (List.mem_of_getElem? (i := 122) rfl))) (by decide) (backOf (W := 1) (rm18x17 l Z a0 hw [] ra1 ui1 h0 n0 Z0 H0 H1 H4) hZ (hw _ (List.mem_of_getElem? (i := 124) rfl)) (hw _ (List.mem_of_getElem? (i := 62) rfl)) (by decide) (by decide)) q103a q103c (g := (mkF m 11 #[.val (.ref ra0), .val (.ref ra1)] [(.ref ra1), (.int (0 : Int32))])) rfl (by rw [hml]; rfl) (Steps.refl _) (argsL := []) (rest := [(.int (0 : Int32))]) (lenOf pd_8 rfl) rfl (by show 2 * 0 + _ ≤ _; exact Nat.le_of_eq rfl) (hb hby d20_11) (fun _ _ => ⟨rfl, e102, (by decide : 0 + 0 ≤ _), (by decide : 0 + 0 ≤ _)⟩)
  dsimp only [Pt.U, Pt.locs, Pt.cells, Pt.slots] at X103 l103 y103 z103 st103 hQ103
  subst l103 y103 z103
  obtain ⟨rfl, Nq103, Heq103⟩ := hQ103
  have N103 := Fr.app N0 Nq103
  obtain ⟨fs, hr, hrun, hended, hW, hsame⟩ := X103.leave (v := none) (fun _ => rfl)
  refine ⟨_, _, pre0 _ ?_, hrun, hended, _, _, rfl, ?_, ⟨_, rfl⟩, hW, hsame.mono (by decide) (by decide)⟩
  · skip
    show Steps p.tables e below (s₁.setTop (mkF m 0 #[.val (.ref ra0), .val (.ref ra1)] [])) _
    refine st101 _ ?_
    show Steps p.tables e below (T101.setTop (mkF m 3 #[.val (.ref ra0), .val (.ref ra1)] [(.int ui1)])) _
    refine XS.ifNo X101.here hx rfl (hb hby d20_3) rfl ((if0 _ _).trans (feq (H1 : ¬ (ui1 = (0 : Int32)))).1) ?_
    show Steps p.tables e below (T101.setTop (mkF m 6 #[.val (.ref ra0), .val (.ref ra1)] [])) _
    refine XS.aloadN X101.here hx rfl (hb hby d20_6) rfl rfl ?_
    show Steps p.tables e below (T101.setTop (mkF m 7 #[.val (.ref ra0), .val (.ref ra1)] [(.ref ra0)])) _
    refine st102 _ ?_
    show Steps p.tables e below (T102.setTop (mkF m 10 #[.val (.ref ra0), .val (.ref ra1)] [(.int (0 : Int32))])) _
    refine XS.aloadN X102.here hx rfl (hb hby d20_10) rfl rfl ?_
    show Steps p.tables e below (T102.setTop (mkF m 11 #[.val (.ref ra0), .val (.ref ra1)] [(.ref ra1), (.int (0 : Int32))])) _
    refine st103.trans ?_
    show Steps p.tables e below (T103.setTop (mkF m 14 #[.val (.ref ra0), .val (.ref ra1)] [(.int (0 : Int32)), (.int (0 : Int32))])) _
    refine XS.icmpYes X103.here hx rfl (pc0 := 14) (pc' := 21) rfl (hb hby d20_14) rfl (teq (by decide : (0 : Int32) = (0 : Int32))).1 (by decide) (by decide) ?_
    show Steps p.tables e below (T103.setTop (mkF m 21 #[.val (.ref ra0), .val (.ref ra1)] [])) _
    exact X103.returnOut hx Bd.returns (hb hby d20_21) hr
  · show Q20x16 Z ra0 ra1 ui1 h0 n0 _ T103.heap _
    rw [Heq103]
    exact ⟨rfl, N103, rfl⟩
theorem ef_18x19 (m : MethodId) (ra0 : Addr) : entryFrame m #[(.ref ra0)] 1 = mkF m 0 #[.val (.ref ra0)] [] := by first | (simp [entryFrame, mkF, argsToLocals, Value.category]; done) | rfl
def Q18x19 (Z : State) (ra0 : Addr) (ui1 : Int32) (h0 : Heap) (n0 : Nat) (v : Option Value) (h : Heap) (L : List Loc) : Prop := v = some (.int (0 : Int32)) ∧ Fr n0 L ∧ h = h0
set_option maxRecDepth 65536 in
set_option maxHeartbeats 40000000 in
theorem rm18x19 (l : Launch) (Z : State) (a0 : Array Value) (hw : ∀ d ∈ tables_1, d.before a0 Z = true) (ws : List Jvm.Cond) (ra0 : Addr) (ui1 : Int32) (h0 : Heap) (n0 : Nat) (Z0 : n0 ≤ h0.size) (H0 : Sta Z h0 "java/lang/String" "COMPACT_STRINGS" "Z" (.int ui1)) (H1 : ¬ (ui1 = (0 : Int32))) (H2 : Fld Z h0 ra0 "java/lang/String" "coder" "B" (.int (0 : Int32))) :
    MetFree l (⟨"java/lang/String", "coder", "()B"⟩ : MethodName) (head1 (Jvm.Cond.code (⟨"java/lang/String", "coder", "()B"⟩ : MethodName) jdk_42_method_152_code 1 (some .byte) :: ws) ({ frames := 0, cells := 0, slots := 0, locals := 0 } : Room)) (fun a U => a = #[(.ref ra0)] ∧ Z.Warmed39 U.vm ∧ U.heap = h0) (fun _ _ _ _ _ => True) (fun _ U o U' => ∃ v L, o = .returned v ∧ Q18x19 Z ra0 ui1 h0 n0 v U'.heap L ∧ FrameEnd U o U' L ({ frames := 0, cells := 0, slots := 0, locals := 0 } : Room).cells ({ frames := 0, cells := 0, slots := 0, locals := 0 } : Room).slots) := by
  refine MetFree.of_bodySF (plainFor_of_name pn_java_lang_String) hisR ?_
  intro p e s m args below meth c s₁ Bd hml0 hP hK
  obtain ⟨rfl, hZ, hh⟩ := hP
  have hx := Bd.exec
  have hby := Bd.bytes
  have hml : c.maxLocals = 1 := hml0
  have hown : s.vm.findClass "java/lang/String" = some m.cls := findClass_of_methodNamed Bd.named
  have hnm := (name_of_methodNamed Bd.named Bd.method).1
  have X0 : Stand p l e ({ frames := 0, cells := 0, slots := 0, locals := 0 } : Room) s m #[(.ref ra0)] below meth c s₁ [] 0 0 := Stand.of_body Bd
  have e0 : s₁.heap = h0 := by rw [← hh, Bd.state]; rfl
  have N0 := Fr.nil n0
  have pre0 : ∀ t, Steps p.tables e below (s₁.setTop (mkF m 0 #[.val (.ref ra0)] [])) t → Steps p.tables e below (s₁.setTop (entryFrame m #[(.ref ra0)] 1)) t := fun t k => castTop (ef_18x19 m ra0) k
  obtain ⟨T101, X101, e101, st101⟩ := getS2 X0 hx hZ hown (host := "") (Or.inl (hw _ (List.mem_of_getElem? (i := 125) rfl))) Via.refl e0 H0 (g := (mkF m 0 #[.val (.ref ra0)] [])) rfl (hb hby d18_0)
  obtain ⟨T102, X102, e102, st102⟩ := getF X101 hx hZ hown (host := "") (Or.inl (hw _ (List.mem_of_getElem? (i := 126) rfl))) Via.refl e101 H2 (g := (mkF m 7 #[.val (.ref ra0)] [(.ref ra0)])) rfl rfl (hb hby d18_7)
  obtain ⟨fs, hr, hrun, hended, hW, hsame⟩ := X102.leave (v := some (.int (0 : Int32))) (fun h => by rw [Bd.returns] at h; cases h)
  refine ⟨_, _, pre0 _ ?_, hrun, hended, _, _, rfl, ?_, ⟨_, rfl⟩, hW, hsame.mono (by decide) (by decide)⟩
  · skip
    show Steps p.tables e below (s₁.setTop (mkF m 0 #[.val (.ref ra0)] [])) _
    refine st101 _ ?_
    show Steps p.tables e below (T101.setTop (mkF m 3 #[.val (.ref ra0)] [(.int ui1)])) _
    refine XS.ifNo X101.here hx rfl (hb hby d18_3) rfl ((if0 _ _).trans (feq (H1 : ¬ (ui1 = (0 : Int32)))).1) ?_
    show Steps p.tables e below (T101.setTop (mkF m 6 #[.val (.ref ra0)] [])) _
    refine XS.aloadN X101.here hx rfl (hb hby d18_6) rfl rfl ?_
    show Steps p.tables e below (T101.setTop (mkF m 7 #[.val (.ref ra0)] [(.ref ra0)])) _
    refine st102 _ ?_
    show Steps p.tables e below (T102.setTop (mkF m 10 #[.val (.ref ra0)] [(.int (0 : Int32))])) _
    refine XS.goto X102.here hx rfl (pc0 := 10) (pc' := 14) rfl (hb hby d18_10) (by decide) (by decide) ?_
    show Steps p.tables e below (T102.setTop (mkF m 14 #[.val (.ref ra0)] [(.int (0 : Int32))])) _
    exact retN X102 hx (t := .byte) Bd.returns (by simp) (hb hby d18_14) hr
  · show Q18x19 Z ra0 ui1 h0 n0 _ T102.heap _
    rw [e102]
    exact ⟨rfl, N0, rfl⟩
theorem d21_0 : decode jdk_42_method_147_code 0 = .ok (.aload_n 0, 1) := by decide +kernel
theorem d21_1 : decode jdk_42_method_147_code 1 = .ok (.invokevirtual 335, 3) := by decide +kernel
theorem d21_4 : decode jdk_42_method_147_code 4 = .ok (.iload_n 3, 1) := by decide +kernel
theorem d21_5 : decode jdk_42_method_147_code 5 = .ok (.if_icmp .ne 23, 3) := by decide +kernel
theorem d21_8 : decode jdk_42_method_147_code 8 = .ok (.aload_n 0, 1) := by decide +kernel
theorem d21_9 : decode jdk_42_method_147_code 9 = .ok (.getfield 9, 3) := by decide +kernel
theorem d21_12 : decode jdk_42_method_147_code 12 = .ok (.iconst 0, 1) := by decide +kernel
theorem d21_13 : decode jdk_42_method_147_code 13 = .ok (.aload_n 1, 1) := by decide +kernel
theorem d21_14 : decode jdk_42_method_147_code 14 = .ok (.iload_n 2, 1) := by decide +kernel
theorem d21_15 : decode jdk_42_method_147_code 15 = .ok (.iload_n 3, 1) := by decide +kernel
theorem d21_16 : decode jdk_42_method_147_code 16 = .ok (.ishl, 1) := by decide +kernel
theorem d21_17 : decode jdk_42_method_147_code 17 = .ok (.aload_n 0, 1) := by decide +kernel
theorem d21_18 : decode jdk_42_method_147_code 18 = .ok (.getfield 9, 3) := by decide +kernel
theorem d21_21 : decode jdk_42_method_147_code 21 = .ok (.arraylength, 1) := by decide +kernel
theorem d21_22 : decode jdk_42_method_147_code 22 = .ok (.invokestatic 212, 3) := by decide +kernel
theorem d21_25 : decode jdk_42_method_147_code 25 = .ok (.goto 18, 3) := by decide +kernel
theorem d21_43 : decode jdk_42_method_147_code 43 = .ok (.return_, 1) := by decide +kernel
theorem ef_21x18 (m : MethodId) (ra0 : Addr) (ra1 : Addr) : entryFrame m #[(.ref ra0), (.ref ra1), (.int (2 : Int32)), (.int (0 : Int32))] 4 = mkF m 0 #[.val (.ref ra0), .val (.ref ra1), .val (.int (2 : Int32)), .val (.int (0 : Int32))] [] := by first | (simp [entryFrame, mkF, argsToLocals, Value.category]; done) | rfl
def Q21x18 (Z : State) (ra0 : Addr) (ra1 : Addr) (ui1 : Int32) (uo2 : Addr) (uk3 : ClassId) (uk4 : ClassId) (h0 : Heap) (n0 : Nat) (v : Option Value) (h : Heap) (L : List Loc) : Prop := v = none ∧ Fr n0 L ∧ Keep h0 h [ra1] ∧ Arv Z h ra1 uk4 .byte (16 : Int32) [(.int (53 : Int32)), (.int (48 : Int32)), (.int (45 : Int32)), (.int (0 : Int32)), (.int (0 : Int32)), (.int (0 : Int32)), (.int (0 : Int32)), (.int (0 : Int32)), (.int (0 : Int32)), (.int (0 : Int32)), (.int (0 : Int32)), (.int (0 : Int32)), (.int (0 : Int32)), (.int (0 : Int32)), (.int (0 : Int32)), (.int (0 : Int32))] (.int (0 : Int32))
set_option maxRecDepth 65536 in
set_option maxHeartbeats 40000000 in
theorem rm21x18 (l : Launch) (Z : State) (a0 : Array Value) (hw : ∀ d ∈ tables_1, d.before a0 Z = true) (ws : List Jvm.Cond) (ra0 : Addr) (ra1 : Addr) (ui1 : Int32) (uo2 : Addr) (uk3 : ClassId) (uk4 : ClassId) (h0 : Heap) (n0 : Nat) (Z0 : n0 ≤ h0.size) (H0 : Exa Z h0 ra0 "java/lang/String") (H1 : Sta Z h0 "java/lang/String" "COMPACT_STRINGS" "Z" (.int ui1)) (H2 : ¬ (ui1 = (0 : Int32))) (H3 : Fld Z h0 ra0 "java/lang/String" "coder" "B" (.int (0 : Int32))) (H4 : Fld Z h0 ra0 "java/lang/String" "value" "[B" (.ref uo2)) (H5 : Arv Z h0 uo2 uk3 .byte (1 : Int32) [(.int (45 : Int32))] (.int 0)) (H6 : Arv Z h0 ra1 uk4 .byte (16 : Int32) [(.int (53 : Int32)), (.int (48 : Int32)), (.int (0 : Int32)), (.int (0 : Int32)), (.int (0 : Int32)), (.int (0 : Int32)), (.int (0 : Int32)), (.int (0 : Int32)), (.int (0 : Int32)), (.int (0 : Int32)), (.int (0 : Int32)), (.int (0 : Int32)), (.int (0 : Int32)), (.int (0 : Int32)), (.int (0 : Int32)), (.int (0 : Int32))] (.int (0 : Int32))) (H7 : n0 ≤ ra1) (H8 : Exa Z h0 ra1 "[B") :
    MetFree l (⟨"java/lang/String", "getBytes", "([BIB)V"⟩ : MethodName) (head1 (Jvm.Cond.code (⟨"java/lang/String", "getBytes", "([BIB)V"⟩ : MethodName) jdk_42_method_147_code 4 none :: ws) ({ frames := 1, cells := 0, slots := 0, locals := 18 } : Room)) (fun a U => a = #[(.ref ra0), (.ref ra1), (.int (2 : Int32)), (.int (0 : Int32))] ∧ Z.Warmed39 U.vm ∧ U.heap = h0) (fun _ _ _ _ _ => True) (fun _ U o U' => ∃ v L, o = .returned v ∧ Q21x18 Z ra0 ra1 ui1 uo2 uk3 uk4 h0 n0 v U'.heap L ∧ FrameEnd U o U' L ({ frames := 1, cells := 0, slots := 0, locals := 18 } : Room).cells ({ frames := 1, cells := 0, slots := 0, locals := 18 } : Room).slots) := by
  refine MetFree.of_bodySF (plainFor_of_name pn_java_lang_String) hisR ?_
  intro p e s m args below meth c s₁ Bd hml0 hP hK
  obtain ⟨rfl, hZ, hh⟩ := hP
  have hx := Bd.exec
  have hby := Bd.bytes
  have hml : c.maxLocals = 4 := hml0
  have hown : s.vm.findClass "java/lang/String" = some m.cls := findClass_of_methodNamed Bd.named
  have hnm := (name_of_methodNamed Bd.named Bd.method).1
  have X0 : Stand p l e ({ frames := 1, cells := 0, slots := 0, locals := 18 } : Room) s m #[(.ref ra0), (.ref ra1), (.int (2 : Int32)), (.int (0 : Int32))] below meth c s₁ [] 0 0 := Stand.of_body Bd
  have e0 : s₁.heap = h0 := by rw [← hh, Bd.state]; rfl
  have N0 := Fr.nil n0
  have pre0 : ∀ t, Steps p.tables e below (s₁.setTop (mkF m 0 #[.val (.ref ra0), .val (.ref ra1), .val (.int (2 : Int32)), .val (.int (0 : Int32))] [])) t → Steps p.tables e below (s₁.setTop (entryFrame m #[(.ref ra0), (.ref ra1), (.int (2 : Int32)), (.int (0 : Int32))] 4)) t := fun t k => castTop (ef_21x18 m ra0 ra1) k
  obtain ⟨cq101, kq101, q101a, q101b, q101c⟩ := isOf hZ e0 H0
  obtain ⟨_, _, ⟨T101, L101, k101, n101⟩, -, X101, ⟨Lc101, hQ101, l101, y101, z101⟩, st101⟩ := X0.virtualBack hx (y := (⟨"java/lang/String", "coder", "()B"⟩ : MethodName)) (z := (⟨"java/lang/String", "coder", "()B"⟩ : MethodName)) hown (mvT hZ (hw _ (List.mem_of_getElem? (i := 120) rfl))) (mvT hZ (hw _ (List.mem_of_getElem? (i := 121) rfl))) (notFace_of_selects (args := #[]) (mvT hZ (hw _ (List.mem_of_getElem? (i := 123) rfl)))) (mvT hZ (hw _ (List.mem_of_getElem? (i := 123) rfl))) (mvT hZ (hw _ (List.mem_of_getElem? (i := 122) rfl))) (by decide) (backOf (W := 0) (rm18x19 l Z a0 hw [] ra0 ui1 h0 n0 Z0 H1 H2 H3) hZ (hw _ (List.mem_of_getElem? (i := 124) rfl)) (hw _ (List.mem_of_getElem? (i := 62) rfl)) (by decide) (by decide)) q101a q101c (g := (mkF m 1 #[.val (.ref ra0), .val (.ref ra1), .val (.int (2 : Int32)), .val (.int (0 : Int32))] [(.ref ra0)])) rfl (by rw [hml]; rfl) (Steps.refl _) (argsL := []) (rest := []) (lenOf pd_8 rfl) rfl (by show 2 * 0 + _ ≤ _; exact Nat.le_of_eq rfl) (hb hby d21_1) (fun _ _ => ⟨rfl, e0, (by decide : 0 + 0 ≤ _), (by decide : 0 + 0 ≤ _)⟩)
  dsimp only [Pt.U, Pt.locs, Pt.cells, Pt.slots] at X101 l101 y101 z101 st101 hQ101
  subst l101 y101 z101
  obtain ⟨rfl, Nq101, Heq101⟩ := hQ101
  have N101 := Fr.app N0 Nq101
  obtain ⟨T102, X102, e102, st102⟩ := getF X101 hx hZ hown (host := "") (Or.inl (hw _ (List.mem_of_getElem? (i := 119) rfl))) Via.refl Heq101 H4 (g := (mkF m 9 #[.val (.ref ra0), .val (.ref ra1), .val (.int (2 : Int32)), .val (.int (0 : Int32))] [(.ref ra0)])) rfl rfl (hb hby d21_9)
  obtain ⟨T103, X103, e103, st103⟩ := getF X102 hx hZ hown (host := "") (Or.inl (hw _ (List.mem_of_getElem? (i := 119) rfl))) Via.refl e102 H4 (g := (mkF m 18 #[.val (.ref ra0), .val (.ref ra1), .val (.int (2 : Int32)), .val (.int (0 : Int32))] [(.ref ra0), (.int (2 : Int32)), (.ref ra1), (.int (0 : Int32)), (.ref uo2)])) rfl rfl (hb hby d21_18)
  obtain ⟨cl104, Ar104, -, S104, M104, -, -⟩ := id H5
  obtain ⟨T105, h105, L105, X105, e105, N105, K105, V105, st105⟩ := cpA X103 hx hZ hown (hw _ (List.mem_of_getElem? (i := 143) rfl)) (hw _ (List.mem_of_getElem? (i := 146) rfl)) (hw _ (List.mem_of_getElem? (i := 144) rfl)) (hw _ (List.mem_of_getElem? (i := 145) rfl)) e103 H5 H6 (us := [(.int (45 : Int32))]) (Or.inl ⟨rfl, rfl⟩) (by decide) (by decide) (by decide) (by decide) (by decide) (by first | rfl | decide) (by decide) N101 H7 (g := (mkF m 22 #[.val (.ref ra0), .val (.ref ra1), .val (.int (2 : Int32)), .val (.int (0 : Int32))] [(.int (1 : Int32)), (.int (2 : Int32)), (.ref ra1), (.int (0 : Int32)), (.ref uo2)])) rfl (by rw [hml]; rfl) rfl (hb hby d21_22) (by decide) (W := 0) (by show 2 * 0 + _ ≤ _; exact Nat.le_of_eq rfl) (by decide)
  have V105' : Arv Z h105 ra1 uk4 .byte (16 : Int32) [(.int (53 : Int32)), (.int (48 : Int32)), (.int (45 : Int32)), (.int (0 : Int32)), (.int (0 : Int32)), (.int (0 : Int32)), (.int (0 : Int32)), (.int (0 : Int32)), (.int (0 : Int32)), (.int (0 : Int32)), (.int (0 : Int32)), (.int (0 : Int32)), (.int (0 : Int32)), (.int (0 : Int32)), (.int (0 : Int32)), (.int (0 : Int32))] (.int (0 : Int32)) := V105
  obtain ⟨fs, hr, hrun, hended, hW, hsame⟩ := X105.leave (v := none) (fun _ => rfl)
  refine ⟨_, _, pre0 _ ?_, hrun, hended, _, _, rfl, ?_, ⟨_, rfl⟩, hW, hsame.mono (by decide) (by decide)⟩
  · skip
    show Steps p.tables e below (s₁.setTop (mkF m 0 #[.val (.ref ra0), .val (.ref ra1), .val (.int (2 : Int32)), .val (.int (0 : Int32))] [])) _
    refine XS.aloadN X0.here hx rfl (hb hby d21_0) rfl rfl ?_
    show Steps p.tables e below (s₁.setTop (mkF m 1 #[.val (.ref ra0), .val (.ref ra1), .val (.int (2 : Int32)), .val (.int (0 : Int32))] [(.ref ra0)])) _
    refine st101.trans ?_
    show Steps p.tables e below (T101.setTop (mkF m 4 #[.val (.ref ra0), .val (.ref ra1), .val (.int (2 : Int32)), .val (.int (0 : Int32))] [(.int (0 : Int32))])) _
    refine XS.iloadN X101.here hx rfl (hb hby d21_4) rfl ?_
    show Steps p.tables e below (T101.setTop (mkF m 5 #[.val (.ref ra0), .val (.ref ra1), .val (.int (2 : Int32)), .val (.int (0 : Int32))] [(.int (0 : Int32)), (.int (0 : Int32))])) _
    refine XS.icmpNo X101.here hx rfl (hb hby d21_5) rfl (teq (by decide : (0 : Int32) = (0 : Int32))).2 ?_
    show Steps p.tables e below (T101.setTop (mkF m 8 #[.val (.ref ra0), .val (.ref ra1), .val (.int (2 : Int32)), .val (.int (0 : Int32))] [])) _
    refine XS.aloadN X101.here hx rfl (hb hby d21_8) rfl rfl ?_
    show Steps p.tables e below (T101.setTop (mkF m 9 #[.val (.ref ra0), .val (.ref ra1), .val (.int (2 : Int32)), .val (.int (0 : Int32))] [(.ref ra0)])) _
    refine st102 _ ?_
    show Steps p.tables e below (T102.setTop (mkF m 12 #[.val (.ref ra0), .val (.ref ra1), .val (.int (2 : Int32)), .val (.int (0 : Int32))] [(.ref uo2)])) _
    refine XS.iconst X102.here hx rfl (hb hby d21_12) ?_
    show Steps p.tables e below (T102.setTop (mkF m 13 #[.val (.ref ra0), .val (.ref ra1), .val (.int (2 : Int32)), .val (.int (0 : Int32))] [(.int (0 : Int32)), (.ref uo2)])) _
    refine XS.aloadN X102.here hx rfl (hb hby d21_13) rfl rfl ?_
    show Steps p.tables e below (T102.setTop (mkF m 14 #[.val (.ref ra0), .val (.ref ra1), .val (.int (2 : Int32)), .val (.int (0 : Int32))] [(.ref ra1), (.int (0 : Int32)), (.ref uo2)])) _
    refine XS.iloadN X102.here hx rfl (hb hby d21_14) rfl ?_
    show Steps p.tables e below (T102.setTop (mkF m 15 #[.val (.ref ra0), .val (.ref ra1), .val (.int (2 : Int32)), .val (.int (0 : Int32))] [(.int (2 : Int32)), (.ref ra1), (.int (0 : Int32)), (.ref uo2)])) _
    refine XS.iloadN X102.here hx rfl (hb hby d21_15) rfl ?_
    show Steps p.tables e below (T102.setTop (mkF m 16 #[.val (.ref ra0), .val (.ref ra1), .val (.int (2 : Int32)), .val (.int (0 : Int32))] [(.int (0 : Int32)), (.int (2 : Int32)), (.ref ra1), (.int (0 : Int32)), (.ref uo2)])) _
    refine XS.ishl X102.here hx rfl (hb hby d21_16) rfl ?_
    show Steps p.tables e below (T102.setTop (mkF m 17 #[.val (.ref ra0), .val (.ref ra1), .val (.int (2 : Int32)), .val (.int (0 : Int32))] [(.int ((2 : Int32) <<< ((0 : Int32) &&& 31))), (.ref ra1), (.int (0 : Int32)), (.ref uo2)])) _
    rw [show ((2 : Int32) <<< ((0 : Int32) &&& 31)) = (2 : Int32) from by decide]
    show Steps p.tables e below (T102.setTop (mkF m 17 #[.val (.ref ra0), .val (.ref ra1), .val (.int (2 : Int32)), .val (.int (0 : Int32))] [(.int (2 : Int32)), (.ref ra1), (.int (0 : Int32)), (.ref uo2)])) _
    refine XS.aloadN X102.here hx rfl (hb hby d21_17) rfl rfl ?_
    show Steps p.tables e below (T102.setTop (mkF m 18 #[.val (.ref ra0), .val (.ref ra1), .val (.int (2 : Int32)), .val (.int (0 : Int32))] [(.ref ra0), (.int (2 : Int32)), (.ref ra1), (.int (0 : Int32)), (.ref uo2)])) _
    refine st103 _ ?_
    show Steps p.tables e below (T103.setTop (mkF m 21 #[.val (.ref ra0), .val (.ref ra1), .val (.int (2 : Int32)), .val (.int (0 : Int32))] [(.ref uo2), (.int (2 : Int32)), (.ref ra1), (.int (0 : Int32)), (.ref uo2)])) _
    refine X103.arraylength hx (by rw [e103]; exact Ar104.1) (State.isArrayOf_alike hZ.alike Ar104.2.1) (g := (mkF m 21 #[.val (.ref ra0), .val (.ref ra1), .val (.int (2 : Int32)), .val (.int (0 : Int32))] [(.ref uo2), (.int (2 : Int32)), (.ref ra1), (.int (0 : Int32)), (.ref uo2)])) rfl rfl (hb hby d21_21) _ ?_
    rw [len_of S104 M104]
    show Steps p.tables e below (T103.setTop (mkF m 22 #[.val (.ref ra0), .val (.ref ra1), .val (.int (2 : Int32)), .val (.int (0 : Int32))] [(.int (1 : Int32)), (.int (2 : Int32)), (.ref ra1), (.int (0 : Int32)), (.ref uo2)])) _
    refine st105 _ ?_
    show Steps p.tables e below (T105.setTop (mkF m 25 #[.val (.ref ra0), .val (.ref ra1), .val (.int (2 : Int32)), .val (.int (0 : Int32))] [])) _
    refine XS.goto X105.here hx rfl (pc0 := 25) (pc' := 43) rfl (hb hby d21_25) (by decide) (by decide) ?_
    show Steps p.tables e below (T105.setTop (mkF m 43 #[.val (.ref ra0), .val (.ref ra1), .val (.int (2 : Int32)), .val (.int (0 : Int32))] [])) _
    exact X105.returnOut hx Bd.returns (hb hby d21_43) hr
  · show Q21x18 Z ra0 ra1 ui1 uo2 uk3 uk4 h0 n0 _ T105.heap _
    rw [e105]
    exact ⟨rfl, N105, ((Keep.refl h0 [ra1]).trans K105 (allS (P := (fun x => x ∈ [ra1] ∨ h0.size ≤ x)) (Or.inl (List.mem_of_getElem? (i := 0) rfl)) all0)), V105'⟩
theorem d19_0 : decode jdk_68_method_73_code 0 = .ok (.aload_n 0, 1) := by decide +kernel
theorem d19_1 : decode jdk_68_method_73_code 1 = .ok (.aload_n 2, 1) := by decide +kernel
theorem d19_2 : decode jdk_68_method_73_code 2 = .ok (.invokevirtual 397, 3) := by decide +kernel
theorem d19_5 : decode jdk_68_method_73_code 5 = .ok (.aload_n 2, 1) := by decide +kernel
theorem d19_6 : decode jdk_68_method_73_code 6 = .ok (.aload_n 0, 1) := by decide +kernel
theorem d19_7 : decode jdk_68_method_73_code 7 = .ok (.getfield 15, 3) := by decide +kernel
theorem d19_10 : decode jdk_68_method_73_code 10 = .ok (.iload_n 1, 1) := by decide +kernel
theorem d19_11 : decode jdk_68_method_73_code 11 = .ok (.aload_n 0, 1) := by decide +kernel
theorem d19_12 : decode jdk_68_method_73_code 12 = .ok (.getfield 22, 3) := by decide +kernel
theorem d19_15 : decode jdk_68_method_73_code 15 = .ok (.invokevirtual 399, 3) := by decide +kernel
theorem d19_18 : decode jdk_68_method_73_code 18 = .ok (.return_, 1) := by decide +kernel
theorem ef_19x15 (m : MethodId) (ra0 : Addr) (ra2 : Addr) : entryFrame m #[(.ref ra0), (.int (2 : Int32)), (.ref ra2)] 3 = mkF m 0 #[.val (.ref ra0), .val (.int (2 : Int32)), .val (.ref ra2)] [] := by first | (simp [entryFrame, mkF, argsToLocals, Value.category]; done) | rfl
def Q19x15 (Z : State) (ra0 : Addr) (ra2 : Addr) (ui1 : Int32) (uo2 : Addr) (uo3 : Addr) (uk4 : ClassId) (uk5 : ClassId) (h0 : Heap) (n0 : Nat) (v : Option Value) (h : Heap) (L : List Loc) : Prop := v = none ∧ Fr n0 L ∧ Keep h0 h [uo2] ∧ Arv Z h uo2 uk5 .byte (16 : Int32) [(.int (53 : Int32)), (.int (48 : Int32)), (.int (45 : Int32)), (.int (0 : Int32)), (.int (0 : Int32)), (.int (0 : Int32)), (.int (0 : Int32)), (.int (0 : Int32)), (.int (0 : Int32)), (.int (0 : Int32)), (.int (0 : Int32)), (.int (0 : Int32)), (.int (0 : Int32)), (.int (0 : Int32)), (.int (0 : Int32)), (.int (0 : Int32))] (.int (0 : Int32))
set_option maxRecDepth 65536 in
set_option maxHeartbeats 40000000 in
theorem rm19x15 (l : Launch) (Z : State) (a0 : Array Value) (hw : ∀ d ∈ tables_1, d.before a0 Z = true) (ws : List Jvm.Cond) (ra0 : Addr) (ra2 : Addr) (ui1 : Int32) (uo2 : Addr) (uo3 : Addr) (uk4 : ClassId) (uk5 : ClassId) (h0 : Heap) (n0 : Nat) (Z0 : n0 ≤ h0.size) (H0 : Exa Z h0 ra0 "java/lang/StringBuilder") (H1 : Sta Z h0 "java/lang/String" "COMPACT_STRINGS" "Z" (.int ui1)) (H2 : ¬ (ui1 = (0 : Int32))) (H3 : Fld Z h0 ra0 "java/lang/AbstractStringBuilder" "coder" "B" (.int (0 : Int32))) (H4 : Exa Z h0 ra2 "java/lang/String") (H5 : Fld Z h0 ra2 "java/lang/String" "coder" "B" (.int (0 : Int32))) (H6 : Fld Z h0 ra0 "java/lang/AbstractStringBuilder" "value" "[B" (.ref uo2)) (H7 : Fld Z h0 ra2 "java/lang/String" "value" "[B" (.ref uo3)) (H8 : Arv Z h0 uo3 uk4 .byte (1 : Int32) [(.int (45 : Int32))] (.int 0)) (H9 : Arv Z h0 uo2 uk5 .byte (16 : Int32) [(.int (53 : Int32)), (.int (48 : Int32)), (.int (0 : Int32)), (.int (0 : Int32)), (.int (0 : Int32)), (.int (0 : Int32)), (.int (0 : Int32)), (.int (0 : Int32)), (.int (0 : Int32)), (.int (0 : Int32)), (.int (0 : Int32)), (.int (0 : Int32)), (.int (0 : Int32)), (.int (0 : Int32)), (.int (0 : Int32)), (.int (0 : Int32))] (.int (0 : Int32))) (H10 : n0 ≤ uo2) (H11 : Exa Z h0 uo2 "[B") :
    MetFree l (⟨"java/lang/AbstractStringBuilder", "putStringAt", "(ILjava/lang/String;)V"⟩ : MethodName) (head1 (Jvm.Cond.code (⟨"java/lang/AbstractStringBuilder", "putStringAt", "(ILjava/lang/String;)V"⟩ : MethodName) jdk_68_method_73_code 3 none :: ws) ({ frames := 2, cells := 0, slots := 0, locals := 33 } : Room)) (fun a U => a = #[(.ref ra0), (.int (2 : Int32)), (.ref ra2)] ∧ Z.Warmed39 U.vm ∧ U.heap = h0) (fun _ _ _ _ _ => True) (fun _ U o U' => ∃ v L, o = .returned v ∧ Q19x15 Z ra0 ra2 ui1 uo2 uo3 uk4 uk5 h0 n0 v U'.heap L ∧ FrameEnd U o U' L ({ frames := 2, cells := 0, slots := 0, locals := 33 } : Room).cells ({ frames := 2, cells := 0, slots := 0, locals := 33 } : Room).slots) := by
  refine MetFree.of_bodySF (plainFor_of_name pn_java_lang_AbstractStringBuilder) hisR ?_
  intro p e s m args below meth c s₁ Bd hml0 hP hK
  obtain ⟨rfl, hZ, hh⟩ := hP
  have hx := Bd.exec
  have hby := Bd.bytes
  have hml : c.maxLocals = 3 := hml0
  have hown : s.vm.findClass "java/lang/AbstractStringBuilder" = some m.cls := findClass_of_methodNamed Bd.named
  have hnm := (name_of_methodNamed Bd.named Bd.method).1
  have X0 : Stand p l e ({ frames := 2, cells := 0, slots := 0, locals := 33 } : Room) s m #[(.ref ra0), (.int (2 : Int32)), (.ref ra2)] below meth c s₁ [] 0 0 := Stand.of_body Bd
  have e0 : s₁.heap = h0 := by rw [← hh, Bd.state]; rfl
  have N0 := Fr.nil n0
  have pre0 : ∀ t, Steps p.tables e below (s₁.setTop (mkF m 0 #[.val (.ref ra0), .val (.int (2 : Int32)), .val (.ref ra2)] [])) t → Steps p.tables e below (s₁.setTop (entryFrame m #[(.ref ra0), (.int (2 : Int32)), (.ref ra2)] 3)) t := fun t k => castTop (ef_19x15 m ra0 ra2) k
  obtain ⟨cq101, kq101, q101a, q101b, q101c⟩ := isOf hZ e0 H0
  obtain ⟨_, _, ⟨T101, L101, k101, n101⟩, -, X101, ⟨Lc101, hQ101, l101, y101, z101⟩, st101⟩ := X0.virtualBack hx (y := (⟨"java/lang/AbstractStringBuilder", "inflateIfNeededFor", "(Ljava/lang/String;)V"⟩ : MethodName)) (z := (⟨"java/lang/AbstractStringBuilder", "inflateIfNeededFor", "(Ljava/lang/String;)V"⟩ : MethodName)) hown (mvT hZ (hw _ (List.mem_of_getElem? (i := 132) rfl))) (mvT hZ (own_declares (hw _ (List.mem_of_getElem? (i := 133) rfl)) (hw _ (List.mem_of_getElem? (i := 136) rfl)))) (notFace_of_selects (args := #[]) (mvT hZ (hw _ (List.mem_of_getElem? (i := 135) rfl)))) (mvT hZ (hw _ (List.mem_of_getElem? (i := 135) rfl))) (mvT hZ (hw _ (List.mem_of_getElem? (i := 133) rfl))) (by decide) (backOf (W := 0) (rm20x16 l Z a0 hw [] ra0 ra2 ui1 h0 n0 Z0 H1 H2 H3 H4 H5) hZ (hw _ (List.mem_of_getElem? (i := 136) rfl)) (hw _ (List.mem_of_getElem? (i := 56) rfl)) (by decide) (by decide)) q101a q101c (g := (mkF m 2 #[.val (.ref ra0), .val (.int (2 : Int32)), .val (.ref ra2)] [(.ref ra2), (.ref ra0)])) rfl (by rw [hml]; rfl) (Steps.refl _) (argsL := [(.ref ra2)]) (rest := []) (lenOf pd_9 rfl) rfl (by show 2 * 0 + _ ≤ _; exact Nat.le_of_eq rfl) (hb hby d19_2) (fun _ _ => ⟨rfl, e0, (by decide : 0 + 0 ≤ _), (by decide : 0 + 0 ≤ _)⟩)
  dsimp only [Pt.U, Pt.locs, Pt.cells, Pt.slots] at X101 l101 y101 z101 st101 hQ101
  subst l101 y101 z101
  obtain ⟨rfl, Nq101, Heq101⟩ := hQ101
  have N101 := Fr.app N0 Nq101
  obtain ⟨T102, X102, e102, st102⟩ := getF X101 hx hZ hown (host := "") (Or.inl (hw _ (List.mem_of_getElem? (i := 64) rfl))) Via.refl Heq101 H6 (g := (mkF m 7 #[.val (.ref ra0), .val (.int (2 : Int32)), .val (.ref ra2)] [(.ref ra0), (.ref ra2)])) rfl rfl (hb hby d19_7)
  obtain ⟨T103, X103, e103, st103⟩ := getF X102 hx hZ hown (host := "") (Or.inl (hw _ (List.mem_of_getElem? (i := 66) rfl))) Via.refl e102 H3 (g := (mkF m 12 #[.val (.ref ra0), .val (.int (2 : Int32)), .val (.ref ra2)] [(.ref ra0), (.int (2 : Int32)), (.ref uo2), (.ref ra2)])) rfl rfl (hb hby d19_12)
  obtain ⟨cq104, kq104, q104a, q104b, q104c⟩ := isOf hZ e103 H4
  obtain ⟨_, _, ⟨T104, L104, k104, n104⟩, -, X104, ⟨Lc104, hQ104, l104, y104, z104⟩, st104⟩ := X103.virtualBack hx (y := (⟨"java/lang/String", "getBytes", "([BIB)V"⟩ : MethodName)) (z := (⟨"java/lang/String", "getBytes", "([BIB)V"⟩ : MethodName)) hown (mvT hZ (hw _ (List.mem_of_getElem? (i := 138) rfl))) (mvT hZ (hw _ (List.mem_of_getElem? (i := 139) rfl))) (notFace_of_selects (args := #[]) (mvT hZ (hw _ (List.mem_of_getElem? (i := 141) rfl)))) (mvT hZ (hw _ (List.mem_of_getElem? (i := 141) rfl))) (mvT hZ (hw _ (List.mem_of_getElem? (i := 140) rfl))) (by decide) (backOf (W := 0) (rm21x18 l Z a0 hw [] ra2 uo2 ui1 uo3 uk4 uk5 h0 n0 Z0 H4 H1 H2 H5 H7 H8 H9 H10 H11) hZ (hw _ (List.mem_of_getElem? (i := 142) rfl)) (hw _ (List.mem_of_getElem? (i := 62) rfl)) (by decide) (by decide)) q104a q104c (g := (mkF m 15 #[.val (.ref ra0), .val (.int (2 : Int32)), .val (.ref ra2)] [(.int (0 : Int32)), (.int (2 : Int32)), (.ref uo2), (.ref ra2)])) rfl (by rw [hml]; rfl) (Steps.refl _) (argsL := [(.ref uo2), (.int (2 : Int32)), (.int (0 : Int32))]) (rest := []) (lenOf pd_10 rfl) rfl (by show 2 * 0 + _ ≤ _; exact Nat.le_of_eq rfl) (hb hby d19_15) (fun _ _ => ⟨rfl, e103, (by decide : 0 + 0 ≤ _), (by decide : 0 + 0 ≤ _)⟩)
  dsimp only [Pt.U, Pt.locs, Pt.cells, Pt.slots] at X104 l104 y104 z104 st104 hQ104
  subst l104 y104 z104
  obtain ⟨rfl, Nq104, K104, R104_1⟩ := hQ104
  have N104 := Fr.app N101 Nq104
  obtain ⟨fs, hr, hrun, hended, hW, hsame⟩ := X104.leave (v := none) (fun _ => rfl)
  refine ⟨_, _, pre0 _ ?_, hrun, hended, _, _, rfl, ?_, ⟨_, rfl⟩, hW, hsame.mono (by decide) (by decide)⟩
  · skip
    show Steps p.tables e below (s₁.setTop (mkF m 0 #[.val (.ref ra0), .val (.int (2 : Int32)), .val (.ref ra2)] [])) _
    refine XS.aloadN X0.here hx rfl (hb hby d19_0) rfl rfl ?_
    show Steps p.tables e below (s₁.setTop (mkF m 1 #[.val (.ref ra0), .val (.int (2 : Int32)), .val (.ref ra2)] [(.ref ra0)])) _
    refine XS.aloadN X0.here hx rfl (hb hby d19_1) rfl rfl ?_
    show Steps p.tables e below (s₁.setTop (mkF m 2 #[.val (.ref ra0), .val (.int (2 : Int32)), .val (.ref ra2)] [(.ref ra2), (.ref ra0)])) _
    refine st101.trans ?_
    show Steps p.tables e below (T101.setTop (mkF m 5 #[.val (.ref ra0), .val (.int (2 : Int32)), .val (.ref ra2)] [])) _
    refine XS.aloadN X101.here hx rfl (hb hby d19_5) rfl rfl ?_
    show Steps p.tables e below (T101.setTop (mkF m 6 #[.val (.ref ra0), .val (.int (2 : Int32)), .val (.ref ra2)] [(.ref ra2)])) _
    refine XS.aloadN X101.here hx rfl (hb hby d19_6) rfl rfl ?_
    show Steps p.tables e below (T101.setTop (mkF m 7 #[.val (.ref ra0), .val (.int (2 : Int32)), .val (.ref ra2)] [(.ref ra0), (.ref ra2)])) _
    refine st102 _ ?_
    show Steps p.tables e below (T102.setTop (mkF m 10 #[.val (.ref ra0), .val (.int (2 : Int32)), .val (.ref ra2)] [(.ref uo2), (.ref ra2)])) _
    refine XS.iloadN X102.here hx rfl (hb hby d19_10) rfl ?_
    show Steps p.tables e below (T102.setTop (mkF m 11 #[.val (.ref ra0), .val (.int (2 : Int32)), .val (.ref ra2)] [(.int (2 : Int32)), (.ref uo2), (.ref ra2)])) _
    refine XS.aloadN X102.here hx rfl (hb hby d19_11) rfl rfl ?_
    show Steps p.tables e below (T102.setTop (mkF m 12 #[.val (.ref ra0), .val (.int (2 : Int32)), .val (.ref ra2)] [(.ref ra0), (.int (2 : Int32)), (.ref uo2), (.ref ra2)])) _
    refine st103 _ ?_
    show Steps p.tables e below (T103.setTop (mkF m 15 #[.val (.ref ra0), .val (.int (2 : Int32)), .val (.ref ra2)] [(.int (0 : Int32)), (.int (2 : Int32)), (.ref uo2), (.ref ra2)])) _
    refine st104.trans ?_
    show Steps p.tables e below (T104.setTop (mkF m 18 #[.val (.ref ra0), .val (.int (2 : Int32)), .val (.ref ra2)] [])) _
    exact X104.returnOut hx Bd.returns (hb hby d19_18) hr
  · show Q19x15 Z ra0 ra2 ui1 uo2 uo3 uk4 uk5 h0 n0 _ T104.heap _
    exact ⟨rfl, N104, ((Keep.refl h0 [uo2]).trans K104 (allS (P := (fun x => x ∈ [uo2] ∨ h0.size ≤ x)) (Or.inl (List.mem_of_getElem? (i := 0) rfl)) all0)), R104_1⟩
theorem d16_0 : decode jdk_68_method_22_code 0 = .ok (.aload_n 1, 1) := by decide +kernel
theorem d16_1 : decode jdk_68_method_22_code 1 = .ok (.ifnonnull 8, 3) := by decide +kernel
theorem d16_9 : decode jdk_68_method_22_code 9 = .ok (.aload_n 1, 1) := by decide +kernel
theorem d16_10 : decode jdk_68_method_22_code 10 = .ok (.invokevirtual 32, 3) := by decide +kernel
theorem d16_13 : decode jdk_68_method_22_code 13 = .ok (.istore_n 2, 1) := by decide +kernel
theorem d16_14 : decode jdk_68_method_22_code 14 = .ok (.aload_n 0, 1) := by decide +kernel
theorem d16_15 : decode jdk_68_method_22_code 15 = .ok (.aload_n 0, 1) := by decide +kernel
theorem d16_16 : decode jdk_68_method_22_code 16 = .ok (.getfield 79, 3) := by decide +kernel
theorem d16_19 : decode jdk_68_method_22_code 19 = .ok (.iload_n 2, 1) := by decide +kernel
theorem d16_20 : decode jdk_68_method_22_code 20 = .ok (.iadd, 1) := by decide +kernel
theorem d16_21 : decode jdk_68_method_22_code 21 = .ok (.invokevirtual 100, 3) := by decide +kernel
theorem d16_24 : decode jdk_68_method_22_code 24 = .ok (.aload_n 0, 1) := by decide +kernel
theorem d16_25 : decode jdk_68_method_22_code 25 = .ok (.aload_n 0, 1) := by decide +kernel
theorem d16_26 : decode jdk_68_method_22_code 26 = .ok (.getfield 79, 3) := by decide +kernel
theorem d16_29 : decode jdk_68_method_22_code 29 = .ok (.aload_n 1, 1) := by decide +kernel
theorem d16_30 : decode jdk_68_method_22_code 30 = .ok (.invokevirtual 208, 3) := by decide +kernel
theorem d16_33 : decode jdk_68_method_22_code 33 = .ok (.aload_n 0, 1) := by decide +kernel
theorem d16_34 : decode jdk_68_method_22_code 34 = .ok (.dup, 1) := by decide +kernel
theorem d16_35 : decode jdk_68_method_22_code 35 = .ok (.getfield 79, 3) := by decide +kernel
theorem d16_38 : decode jdk_68_method_22_code 38 = .ok (.iload_n 2, 1) := by decide +kernel
theorem d16_39 : decode jdk_68_method_22_code 39 = .ok (.iadd, 1) := by decide +kernel
theorem d16_40 : decode jdk_68_method_22_code 40 = .ok (.putfield 79, 3) := by decide +kernel
theorem d16_43 : decode jdk_68_method_22_code 43 = .ok (.aload_n 0, 1) := by decide +kernel
theorem d16_44 : decode jdk_68_method_22_code 44 = .ok (.areturn, 1) := by decide +kernel
theorem ef_16x11 (m : MethodId) (ra0 : Addr) (ra1 : Addr) : entryFrame m #[(.ref ra0), (.ref ra1)] 3 = mkF m 0 #[.val (.ref ra0), .val (.ref ra1), .unset] [] := by first | (simp [entryFrame, mkF, argsToLocals, Value.category]; done) | rfl
def Q16x11 (Z : State) (ra0 : Addr) (ra1 : Addr) (uo1 : Addr) (uk2 : ClassId) (ui3 : Int32) (uo4 : Addr) (uk5 : ClassId) (h0 : Heap) (n0 : Nat) (v : Option Value) (h : Heap) (L : List Loc) : Prop := v = some (.ref ra0) ∧ Fr n0 L ∧ Keep h0 h [uo4, ra0] ∧ Arv Z h uo4 uk5 .byte (16 : Int32) [(.int (53 : Int32)), (.int (48 : Int32)), (.int (45 : Int32)), (.int (0 : Int32)), (.int (0 : Int32)), (.int (0 : Int32)), (.int (0 : Int32)), (.int (0 : Int32)), (.int (0 : Int32)), (.int (0 : Int32)), (.int (0 : Int32)), (.int (0 : Int32)), (.int (0 : Int32)), (.int (0 : Int32)), (.int (0 : Int32)), (.int (0 : Int32))] (.int (0 : Int32)) ∧ Fld Z h ra0 "java/lang/AbstractStringBuilder" "coder" "B" (.int (0 : Int32)) ∧ Fld Z h ra0 "java/lang/AbstractStringBuilder" "count" "I" (.int (3 : Int32)) ∧ Fld Z h ra0 "java/lang/AbstractStringBuilder" "value" "[B" (.ref uo4)
set_option maxRecDepth 65536 in
set_option maxHeartbeats 40000000 in
theorem rm16x11 (l : Launch) (Z : State) (a0 : Array Value) (hw : ∀ d ∈ tables_1, d.before a0 Z = true) (ws : List Jvm.Cond) (ra0 : Addr) (ra1 : Addr) (uo1 : Addr) (uk2 : ClassId) (ui3 : Int32) (uo4 : Addr) (uk5 : ClassId) (h0 : Heap) (n0 : Nat) (Z0 : n0 ≤ h0.size) (H0 : Exa Z h0 ra1 "java/lang/String") (H1 : Fld Z h0 ra1 "java/lang/String" "value" "[B" (.ref uo1)) (H2 : Arv Z h0 uo1 uk2 .byte (1 : Int32) [(.int (45 : Int32))] (.int 0)) (H3 : Sta Z h0 "java/lang/String" "COMPACT_STRINGS" "Z" (.int ui3)) (H4 : ¬ (ui3 = (0 : Int32))) (H5 : Fld Z h0 ra1 "java/lang/String" "coder" "B" (.int (0 : Int32))) (H6 : Fld Z h0 ra0 "java/lang/AbstractStringBuilder" "count" "I" (.int (2 : Int32))) (H7 : Exa Z h0 ra0 "java/lang/StringBuilder") (H8 : Fld Z h0 ra0 "java/lang/AbstractStringBuilder" "value" "[B" (.ref uo4)) (H9 : Arv Z h0 uo4 uk5 .byte (16 : Int32) [(.int (53 : Int32)), (.int (48 : Int32)), (.int (0 : Int32)), (.int (0 : Int32)), (.int (0 : Int32)), (.int (0 : Int32)), (.int (0 : Int32)), (.int (0 : Int32)), (.int (0 : Int32)), (.int (0 : Int32)), (.int (0 : Int32)), (.int (0 : Int32)), (.int (0 : Int32)), (.int (0 : Int32)), (.int (0 : Int32)), (.int (0 : Int32))] (.int (0 : Int32))) (H10 : Fld Z h0 ra0 "java/lang/AbstractStringBuilder" "coder" "B" (.int (0 : Int32))) (H11 : n0 ≤ uo4) (H12 : Exa Z h0 uo4 "[B") (H13 : n0 ≤ ra0) :
    MetFree l (⟨"java/lang/AbstractStringBuilder", "append", "(Ljava/lang/String;)Ljava/lang/AbstractStringBuilder;"⟩ : MethodName) (head1 (Jvm.Cond.code (⟨"java/lang/AbstractStringBuilder", "append", "(Ljava/lang/String;)Ljava/lang/AbstractStringBuilder;"⟩ : MethodName) jdk_68_method_22_code 3 (some (.object "java/lang/AbstractStringBuilder")) :: ws) ({ frames := 3, cells := 0, slots := 0, locals := 47 } : Room)) (fun a U => a = #[(.ref ra0), (.ref ra1)] ∧ Z.Warmed39 U.vm ∧ U.heap = h0) (fun _ _ _ _ _ => True) (fun _ U o U' => ∃ v L, o = .returned v ∧ Q16x11 Z ra0 ra1 uo1 uk2 ui3 uo4 uk5 h0 n0 v U'.heap L ∧ FrameEnd U o U' L ({ frames := 3, cells := 0, slots := 0, locals := 47 } : Room).cells ({ frames := 3, cells := 0, slots := 0, locals := 47 } : Room).slots) := by
  refine MetFree.of_bodySF (plainFor_of_name pn_java_lang_AbstractStringBuilder) hisR ?_
  intro p e s m args below meth c s₁ Bd hml0 hP hK
  obtain ⟨rfl, hZ, hh⟩ := hP
  have hx := Bd.exec
  have hby := Bd.bytes
  have hml : c.maxLocals = 3 := hml0
  have hown : s.vm.findClass "java/lang/AbstractStringBuilder" = some m.cls := findClass_of_methodNamed Bd.named
  have hnm := (name_of_methodNamed Bd.named Bd.method).1
  have X0 : Stand p l e ({ frames := 3, cells := 0, slots := 0, locals := 47 } : Room) s m #[(.ref ra0), (.ref ra1)] below meth c s₁ [] 0 0 := Stand.of_body Bd
  have e0 : s₁.heap = h0 := by rw [← hh, Bd.state]; rfl
  have N0 := Fr.nil n0
  have pre0 : ∀ t, Steps p.tables e below (s₁.setTop (mkF m 0 #[.val (.ref ra0), .val (.ref ra1), .unset] [])) t → Steps p.tables e below (s₁.setTop (entryFrame m #[(.ref ra0), (.ref ra1)] 3)) t := fun t k => castTop (ef_16x11 m ra0 ra1) k
  obtain ⟨cq101, kq101, q101a, q101b, q101c⟩ := isOf hZ e0 H0
  obtain ⟨_, _, ⟨T101, L101, k101, n101⟩, -, X101, ⟨Lc101, hQ101, l101, y101, z101⟩, st101⟩ := X0.virtualBack hx (y := (⟨"java/lang/String", "length", "()I"⟩ : MethodName)) (z := (⟨"java/lang/String", "length", "()I"⟩ : MethodName)) hown (mvT hZ (hw _ (List.mem_of_getElem? (i := 114) rfl))) (mvT hZ (hw _ (List.mem_of_getElem? (i := 115) rfl))) (notFace_of_selects (args := #[]) (mvT hZ (hw _ (List.mem_of_getElem? (i := 117) rfl)))) (mvT hZ (hw _ (List.mem_of_getElem? (i := 117) rfl))) (mvT hZ (hw _ (List.mem_of_getElem? (i := 116) rfl))) (by decide) (backOf (W := 0) (rm17x12 l Z a0 hw [] ra1 uo1 uk2 ui3 h0 n0 Z0 H1 H2 H0 H3 H4 H5) hZ (hw _ (List.mem_of_getElem? (i := 118) rfl)) (hw _ (List.mem_of_getElem? (i := 62) rfl)) (by decide) (by decide)) q101a q101c (g := (mkF m 10 #[.val (.ref ra0), .val (.ref ra1), .unset] [(.ref ra1)])) rfl (by rw [hml]; rfl) (Steps.refl _) (argsL := []) (rest := []) (lenOf pd_0 rfl) rfl (by show 2 * 0 + _ ≤ _; exact Nat.le_of_eq rfl) (hb hby d16_10) (fun _ _ => ⟨rfl, e0, (by decide : 0 + 0 ≤ _), (by decide : 0 + 0 ≤ _)⟩)
  dsimp only [Pt.U, Pt.locs, Pt.cells, Pt.slots] at X101 l101 y101 z101 st101 hQ101
  subst l101 y101 z101
  obtain ⟨rfl, Nq101, Heq101⟩ := hQ101
  have N101 := Fr.app N0 Nq101
  obtain ⟨T102, X102, e102, st102⟩ := getF X101 hx hZ hown (host := "") (Or.inl (hw _ (List.mem_of_getElem? (i := 78) rfl))) Via.refl Heq101 H6 (g := (mkF m 16 #[.val (.ref ra0), .val (.ref ra1), .val (.int (1 : Int32))] [(.ref ra0), (.ref ra0)])) rfl rfl (hb hby d16_16)
  obtain ⟨cq103, kq103, q103a, q103b, q103c⟩ := isOf hZ e102 H7
  obtain ⟨_, _, ⟨T103, L103, k103, n103⟩, -, X103, ⟨Lc103, hQ103, l103, y103, z103⟩, st103⟩ := X102.virtualBack hx (y := (⟨"java/lang/AbstractStringBuilder", "ensureCapacityInternal", "(I)V"⟩ : MethodName)) (z := (⟨"java/lang/AbstractStringBuilder", "ensureCapacityInternal", "(I)V"⟩ : MethodName)) hown (mvT hZ (hw _ (List.mem_of_getElem? (i := 84) rfl))) (mvT hZ (own_declares (hw _ (List.mem_of_getElem? (i := 85) rfl)) (hw _ (List.mem_of_getElem? (i := 88) rfl)))) (notFace_of_selects (args := #[]) (mvT hZ (hw _ (List.mem_of_getElem? (i := 87) rfl)))) (mvT hZ (hw _ (List.mem_of_getElem? (i := 87) rfl))) (mvT hZ (hw _ (List.mem_of_getElem? (i := 85) rfl))) (by decide) (backOf (W := 0) (rm12x14 l Z a0 hw [] ra0 uo4 uk5 h0 n0 Z0 H8 H9 H10) hZ (hw _ (List.mem_of_getElem? (i := 88) rfl)) (hw _ (List.mem_of_getElem? (i := 56) rfl)) (by decide) (by decide)) q103a q103c (g := (mkF m 21 #[.val (.ref ra0), .val (.ref ra1), .val (.int (1 : Int32))] [(.int (3 : Int32)), (.ref ra0)])) rfl (by rw [hml]; rfl) (Steps.refl _) (argsL := [(.int (3 : Int32))]) (rest := []) (lenOf pd_1 rfl) rfl (by show 2 * 0 + _ ≤ _; exact Nat.le_of_eq rfl) (hb hby d16_21) (fun _ _ => ⟨rfl, e102, (by decide : 0 + 0 ≤ _), (by decide : 0 + 0 ≤ _)⟩)
  dsimp only [Pt.U, Pt.locs, Pt.cells, Pt.slots] at X103 l103 y103 z103 st103 hQ103
  subst l103 y103 z103
  obtain ⟨rfl, Nq103, Heq103⟩ := hQ103
  have N103 := Fr.app N101 Nq103
  obtain ⟨T104, X104, e104, st104⟩ := getF X103 hx hZ hown (host := "") (Or.inl (hw _ (List.mem_of_getElem? (i := 78) rfl))) Via.refl Heq103 H6 (g := (mkF m 26 #[.val (.ref ra0), .val (.ref ra1), .val (.int (1 : Int32))] [(.ref ra0), (.ref ra0)])) rfl rfl (hb hby d16_26)
  obtain ⟨cq105, kq105, q105a, q105b, q105c⟩ := isOf hZ e104 H7
  obtain ⟨_, _, ⟨T105, L105, k105, n105⟩, -, X105, ⟨Lc105, hQ105, l105, y105, z105⟩, st105⟩ := X104.virtualBack hx (y := (⟨"java/lang/AbstractStringBuilder", "putStringAt", "(ILjava/lang/String;)V"⟩ : MethodName)) (z := (⟨"java/lang/AbstractStringBuilder", "putStringAt", "(ILjava/lang/String;)V"⟩ : MethodName)) hown (mvT hZ (hw _ (List.mem_of_getElem? (i := 127) rfl))) (mvT hZ (own_declares (hw _ (List.mem_of_getElem? (i := 128) rfl)) (hw _ (List.mem_of_getElem? (i := 131) rfl)))) (notFace_of_selects (args := #[]) (mvT hZ (hw _ (List.mem_of_getElem? (i := 130) rfl)))) (mvT hZ (hw _ (List.mem_of_getElem? (i := 130) rfl))) (mvT hZ (hw _ (List.mem_of_getElem? (i := 128) rfl))) (by decide) (backOf (W := 0) (rm19x15 l Z a0 hw [] ra0 ra1 ui3 uo4 uo1 uk2 uk5 h0 n0 Z0 H7 H3 H4 H10 H0 H5 H8 H1 H2 H9 H11 H12) hZ (hw _ (List.mem_of_getElem? (i := 131) rfl)) (hw _ (List.mem_of_getElem? (i := 56) rfl)) (by decide) (by decide)) q105a q105c (g := (mkF m 30 #[.val (.ref ra0), .val (.ref ra1), .val (.int (1 : Int32))] [(.ref ra1), (.int (2 : Int32)), (.ref ra0)])) rfl (by rw [hml]; rfl) (Steps.refl _) (argsL := [(.int (2 : Int32)), (.ref ra1)]) (rest := []) (lenOf pd_11 rfl) rfl (by show 2 * 0 + _ ≤ _; exact Nat.le_of_eq rfl) (hb hby d16_30) (fun _ _ => ⟨rfl, e104, (by decide : 0 + 0 ≤ _), (by decide : 0 + 0 ≤ _)⟩)
  dsimp only [Pt.U, Pt.locs, Pt.cells, Pt.slots] at X105 l105 y105 z105 st105 hQ105
  subst l105 y105 z105
  obtain ⟨rfl, Nq105, K105, R105_1⟩ := hQ105
  have N105 := Fr.app N103 Nq105
  have ne106 : ra0 ≠ uo4 := ne_exa H7 H12 (by decide)
  have f107 : Fld Z T105.heap ra0 "java/lang/AbstractStringBuilder" "count" "I" (.int (2 : Int32)) := (H6.keep K105 (ninS ne106 nin0))
  obtain ⟨T108, X108, e108, st108⟩ := getF X105 hx hZ hown (host := "") (Or.inl (hw _ (List.mem_of_getElem? (i := 78) rfl))) Via.refl rfl f107 (g := (mkF m 35 #[.val (.ref ra0), .val (.ref ra1), .val (.int (1 : Int32))] [(.ref ra0), (.ref ra0)])) rfl rfl (hb hby d16_35)
  have f109 : Exa Z T105.heap ra0 "java/lang/StringBuilder" := (H7.keep K105)
  obtain ⟨T110, h110, X110, e110, W110, st110⟩ := putF X108 hx hZ hown (host := "") (Or.inl (hw _ (List.mem_of_getElem? (i := 78) rfl))) Via.refl e108 f107 f109 (Or.inl (hw _ (List.mem_of_getElem? (i := 79) rfl))) (hw _ (List.mem_of_getElem? (i := 47) rfl)) (ty := .int) (by decide) rfl rfl (g := (mkF m 40 #[.val (.ref ra0), .val (.ref ra1), .val (.int (1 : Int32))] [(.int (3 : Int32)), (.ref ra0)])) rfl rfl (hb hby d16_40)
  have Fw110 := f107.same W110
  have N110 := Fr.snoc X110 N105 H13
  have f111 : Arv Z h110 uo4 uk5 .byte (16 : Int32) [(.int (53 : Int32)), (.int (48 : Int32)), (.int (45 : Int32)), (.int (0 : Int32)), (.int (0 : Int32)), (.int (0 : Int32)), (.int (0 : Int32)), (.int (0 : Int32)), (.int (0 : Int32)), (.int (0 : Int32)), (.int (0 : Int32)), (.int (0 : Int32)), (.int (0 : Int32)), (.int (0 : Int32)), (.int (0 : Int32)), (.int (0 : Int32))] (.int (0 : Int32)) := (R105_1.other W110 (Ne.symm ne106))
  have f112 : Fld Z h110 ra0 "java/lang/AbstractStringBuilder" "coder" "B" (.int (0 : Int32)) := ((H10.keep K105 (ninS ne106 nin0)).other W110 (Or.inr (slot_ne (Or.inl (hw _ (List.mem_of_getElem? (i := 67) rfl))) (Or.inl (hw _ (List.mem_of_getElem? (i := 79) rfl))) (by decide) (t := .byte) (t' := .int) (by decide) (by decide))))
  have f113 : Fld Z h110 ra0 "java/lang/AbstractStringBuilder" "value" "[B" (.ref uo4) := ((H8.keep K105 (ninS ne106 nin0)).other W110 (Or.inr (slot_ne (Or.inl (hw _ (List.mem_of_getElem? (i := 65) rfl))) (Or.inl (hw _ (List.mem_of_getElem? (i := 79) rfl))) (by decide) (t := (.array .byte)) (t' := .int) (by decide) (by decide))))
  obtain ⟨fs, hr, hrun, hended, hW, hsame⟩ := X110.leave (v := some (.ref ra0)) (fun h => by rw [Bd.returns] at h; cases h)
  refine ⟨_, _, pre0 _ ?_, hrun, hended, _, _, rfl, ?_, ⟨_, rfl⟩, hW, hsame.mono (by decide) (by decide)⟩
  · skip
    show Steps p.tables e below (s₁.setTop (mkF m 0 #[.val (.ref ra0), .val (.ref ra1), .unset] [])) _
    refine XS.aloadN X0.here hx rfl (hb hby d16_0) rfl rfl ?_
    show Steps p.tables e below (s₁.setTop (mkF m 1 #[.val (.ref ra0), .val (.ref ra1), .unset] [(.ref ra1)])) _
    refine XS.ifnonnullYes X0.here hx rfl (pc0 := 1) (pc' := 9) rfl (hb hby d16_1) rfl (by decide) (by decide) ?_
    show Steps p.tables e below (s₁.setTop (mkF m 9 #[.val (.ref ra0), .val (.ref ra1), .unset] [])) _
    refine XS.aloadN X0.here hx rfl (hb hby d16_9) rfl rfl ?_
    show Steps p.tables e below (s₁.setTop (mkF m 10 #[.val (.ref ra0), .val (.ref ra1), .unset] [(.ref ra1)])) _
    refine st101.trans ?_
    show Steps p.tables e below (T101.setTop (mkF m 13 #[.val (.ref ra0), .val (.ref ra1), .unset] [(.int (1 : Int32))])) _
    refine XS.istoreN X101.here hx rfl (hb hby d16_13) rfl (l' := #[.val (.ref ra0), .val (.ref ra1), .val (.int (1 : Int32))]) rfl ?_
    show Steps p.tables e below (T101.setTop (mkF m 14 #[.val (.ref ra0), .val (.ref ra1), .val (.int (1 : Int32))] [])) _
    refine XS.aloadN X101.here hx rfl (hb hby d16_14) rfl rfl ?_
    show Steps p.tables e below (T101.setTop (mkF m 15 #[.val (.ref ra0), .val (.ref ra1), .val (.int (1 : Int32))] [(.ref ra0)])) _
    refine XS.aloadN X101.here hx rfl (hb hby d16_15) rfl rfl ?_
    show Steps p.tables e below (T101.setTop (mkF m 16 #[.val (.ref ra0), .val (.ref ra1), .val (.int (1 : Int32))] [(.ref ra0), (.ref ra0)])) _
    refine st102 _ ?_
    show Steps p.tables e below (T102.setTop (mkF m 19 #[.val (.ref ra0), .val (.ref ra1), .val (.int (1 : Int32))] [(.int (2 : Int32)), (.ref ra0)])) _
    refine XS.iloadN X102.here hx rfl (hb hby d16_19) rfl ?_
    show Steps p.tables e below (T102.setTop (mkF m 20 #[.val (.ref ra0), .val (.ref ra1), .val (.int (1 : Int32))] [(.int (1 : Int32)), (.int (2 : Int32)), (.ref ra0)])) _
    refine XS.iadd X102.here hx rfl (hb hby d16_20) rfl ?_
    show Steps p.tables e below (T102.setTop (mkF m 21 #[.val (.ref ra0), .val (.ref ra1), .val (.int (1 : Int32))] [(.int ((2 : Int32) + (1 : Int32))), (.ref ra0)])) _
    rw [show ((2 : Int32) + (1 : Int32)) = (3 : Int32) from by decide]
    show Steps p.tables e below (T102.setTop (mkF m 21 #[.val (.ref ra0), .val (.ref ra1), .val (.int (1 : Int32))] [(.int (3 : Int32)), (.ref ra0)])) _
    refine st103.trans ?_
    show Steps p.tables e below (T103.setTop (mkF m 24 #[.val (.ref ra0), .val (.ref ra1), .val (.int (1 : Int32))] [])) _
    refine XS.aloadN X103.here hx rfl (hb hby d16_24) rfl rfl ?_
    show Steps p.tables e below (T103.setTop (mkF m 25 #[.val (.ref ra0), .val (.ref ra1), .val (.int (1 : Int32))] [(.ref ra0)])) _
    refine XS.aloadN X103.here hx rfl (hb hby d16_25) rfl rfl ?_
    show Steps p.tables e below (T103.setTop (mkF m 26 #[.val (.ref ra0), .val (.ref ra1), .val (.int (1 : Int32))] [(.ref ra0), (.ref ra0)])) _
    refine st104 _ ?_
    show Steps p.tables e below (T104.setTop (mkF m 29 #[.val (.ref ra0), .val (.ref ra1), .val (.int (1 : Int32))] [(.int (2 : Int32)), (.ref ra0)])) _
    refine XS.aloadN X104.here hx rfl (hb hby d16_29) rfl rfl ?_
    show Steps p.tables e below (T104.setTop (mkF m 30 #[.val (.ref ra0), .val (.ref ra1), .val (.int (1 : Int32))] [(.ref ra1), (.int (2 : Int32)), (.ref ra0)])) _
    refine st105.trans ?_
    show Steps p.tables e below (T105.setTop (mkF m 33 #[.val (.ref ra0), .val (.ref ra1), .val (.int (1 : Int32))] [])) _
    refine XS.aloadN X105.here hx rfl (hb hby d16_33) rfl rfl ?_
    show Steps p.tables e below (T105.setTop (mkF m 34 #[.val (.ref ra0), .val (.ref ra1), .val (.int (1 : Int32))] [(.ref ra0)])) _
    refine XS.dup X105.here hx rfl (hb hby d16_34) rfl rfl ?_
    show Steps p.tables e below (T105.setTop (mkF m 35 #[.val (.ref ra0), .val (.ref ra1), .val (.int (1 : Int32))] [(.ref ra0), (.ref ra0)])) _
    refine st108 _ ?_
    show Steps p.tables e below (T108.setTop (mkF m 38 #[.val (.ref ra0), .val (.ref ra1), .val (.int (1 : Int32))] [(.int (2 : Int32)), (.ref ra0)])) _
    refine XS.iloadN X108.here hx rfl (hb hby d16_38) rfl ?_
    show Steps p.tables e below (T108.setTop (mkF m 39 #[.val (.ref ra0), .val (.ref ra1), .val (.int (1 : Int32))] [(.int (1 : Int32)), (.int (2 : Int32)), (.ref ra0)])) _
    refine XS.iadd X108.here hx rfl (hb hby d16_39) rfl ?_
    show Steps p.tables e below (T108.setTop (mkF m 40 #[.val (.ref ra0), .val (.ref ra1), .val (.int (1 : Int32))] [(.int ((2 : Int32) + (1 : Int32))), (.ref ra0)])) _
    rw [show ((2 : Int32) + (1 : Int32)) = (3 : Int32) from by decide]
    show Steps p.tables e below (T108.setTop (mkF m 40 #[.val (.ref ra0), .val (.ref ra1), .val (.int (1 : Int32))] [(.int (3 : Int32)), (.ref ra0)])) _
    refine st110 _ ?_
    show Steps p.tables e below (T110.setTop (mkF m 43 #[.val (.ref ra0), .val (.ref ra1), .val (.int (1 : Int32))] [])) _
    refine XS.aloadN X110.here hx rfl (hb hby d16_43) rfl rfl ?_
    show Steps p.tables e below (T110.setTop (mkF m 44 #[.val (.ref ra0), .val (.ref ra1), .val (.int (1 : Int32))] [(.ref ra0)])) _
    jvm_step X110.here [X110.here.top, hx, (hb hby d16_44), X110.method', Bd.returns, Value.isRef, FieldType.isReference]
    first | (intro acts; rw [hr _ acts rfl rfl rfl]) | rw [hr _ _ rfl rfl rfl]
    exact Steps.refl _
  · show Q16x11 Z ra0 ra1 uo1 uk2 ui3 uo4 uk5 h0 n0 _ T110.heap _
    rw [e110]
    exact ⟨rfl, N110, (((Keep.refl h0 [uo4, ra0]).trans K105 (allS (P := (fun x => x ∈ [uo4, ra0] ∨ h0.size ≤ x)) (Or.inl (List.mem_of_getElem? (i := 0) rfl)) all0)).wr W110 (Or.inl (List.mem_of_getElem? (i := 1) rfl))), f111, f112, Fw110, f113⟩
theorem d15_0 : decode jdk_67_method_7_code 0 = .ok (.aload_n 0, 1) := by decide +kernel
theorem d15_1 : decode jdk_67_method_7_code 1 = .ok (.aload_n 1, 1) := by decide +kernel
theorem d15_2 : decode jdk_67_method_7_code 2 = .ok (.invokespecial 29, 3) := by decide +kernel
theorem d15_5 : decode jdk_67_method_7_code 5 = .ok (.pop, 1) := by decide +kernel
theorem d15_6 : decode jdk_67_method_7_code 6 = .ok (.aload_n 0, 1) := by decide +kernel
theorem d15_7 : decode jdk_67_method_7_code 7 = .ok (.areturn, 1) := by decide +kernel
theorem ef_15x10 (m : MethodId) (ra0 : Addr) (ra1 : Addr) : entryFrame m #[(.ref ra0), (.ref ra1)] 2 = mkF m 0 #[.val (.ref ra0), .val (.ref ra1)] [] := by first | (simp [entryFrame, mkF, argsToLocals, Value.category]; done) | rfl
def Q15x10 (Z : State) (ra0 : Addr) (ra1 : Addr) (uo1 : Addr) (uk2 : ClassId) (ui3 : Int32) (uo4 : Addr) (uk5 : ClassId) (h0 : Heap) (n0 : Nat) (v : Option Value) (h : Heap) (L : List Loc) : Prop := v = some (.ref ra0) ∧ Fr n0 L ∧ Keep h0 h [uo4, ra0] ∧ Arv Z h uo4 uk5 .byte (16 : Int32) [(.int (53 : Int32)), (.int (48 : Int32)), (.int (45 : Int32)), (.int (0 : Int32)), (.int (0 : Int32)), (.int (0 : Int32)), (.int (0 : Int32)), (.int (0 : Int32)), (.int (0 : Int32)), (.int (0 : Int32)), (.int (0 : Int32)), (.int (0 : Int32)), (.int (0 : Int32)), (.int (0 : Int32)), (.int (0 : Int32)), (.int (0 : Int32))] (.int (0 : Int32)) ∧ Fld Z h ra0 "java/lang/AbstractStringBuilder" "coder" "B" (.int (0 : Int32)) ∧ Fld Z h ra0 "java/lang/AbstractStringBuilder" "count" "I" (.int (3 : Int32)) ∧ Fld Z h ra0 "java/lang/AbstractStringBuilder" "value" "[B" (.ref uo4)
set_option maxRecDepth 65536 in
set_option maxHeartbeats 40000000 in
theorem rm15x10 (l : Launch) (Z : State) (a0 : Array Value) (hw : ∀ d ∈ tables_1, d.before a0 Z = true) (ws : List Jvm.Cond) (ra0 : Addr) (ra1 : Addr) (uo1 : Addr) (uk2 : ClassId) (ui3 : Int32) (uo4 : Addr) (uk5 : ClassId) (h0 : Heap) (n0 : Nat) (Z0 : n0 ≤ h0.size) (H0 : Exa Z h0 ra1 "java/lang/String") (H1 : Fld Z h0 ra1 "java/lang/String" "value" "[B" (.ref uo1)) (H2 : Arv Z h0 uo1 uk2 .byte (1 : Int32) [(.int (45 : Int32))] (.int 0)) (H3 : Sta Z h0 "java/lang/String" "COMPACT_STRINGS" "Z" (.int ui3)) (H4 : ¬ (ui3 = (0 : Int32))) (H5 : Fld Z h0 ra1 "java/lang/String" "coder" "B" (.int (0 : Int32))) (H6 : Fld Z h0 ra0 "java/lang/AbstractStringBuilder" "count" "I" (.int (2 : Int32))) (H7 : Exa Z h0 ra0 "java/lang/StringBuilder") (H8 : Fld Z h0 ra0 "java/lang/AbstractStringBuilder" "value" "[B" (.ref uo4)) (H9 : Arv Z h0 uo4 uk5 .byte (16 : Int32) [(.int (53 : Int32)), (.int (48 : Int32)), (.int (0 : Int32)), (.int (0 : Int32)), (.int (0 : Int32)), (.int (0 : Int32)), (.int (0 : Int32)), (.int (0 : Int32)), (.int (0 : Int32)), (.int (0 : Int32)), (.int (0 : Int32)), (.int (0 : Int32)), (.int (0 : Int32)), (.int (0 : Int32)), (.int (0 : Int32)), (.int (0 : Int32))] (.int (0 : Int32))) (H10 : Fld Z h0 ra0 "java/lang/AbstractStringBuilder" "coder" "B" (.int (0 : Int32))) (H11 : n0 ≤ uo4) (H12 : Exa Z h0 uo4 "[B") (H13 : n0 ≤ ra0) :
    MetFree l (⟨"java/lang/StringBuilder", "append", "(Ljava/lang/String;)Ljava/lang/StringBuilder;"⟩ : MethodName) (head1 (Jvm.Cond.code (⟨"java/lang/StringBuilder", "append", "(Ljava/lang/String;)Ljava/lang/StringBuilder;"⟩ : MethodName) jdk_67_method_7_code 2 (some (.object "java/lang/StringBuilder")) :: ws) ({ frames := 4, cells := 0, slots := 0, locals := 61 } : Room)) (fun a U => a = #[(.ref ra0), (.ref ra1)] ∧ Z.Warmed39 U.vm ∧ U.heap = h0) (fun _ _ _ _ _ => True) (fun _ U o U' => ∃ v L, o = .returned v ∧ Q15x10 Z ra0 ra1 uo1 uk2 ui3 uo4 uk5 h0 n0 v U'.heap L ∧ FrameEnd U o U' L ({ frames := 4, cells := 0, slots := 0, locals := 61 } : Room).cells ({ frames := 4, cells := 0, slots := 0, locals := 61 } : Room).slots) := by
  refine MetFree.of_bodySF (plainFor_of_name pn_java_lang_StringBuilder) hisR ?_
  intro p e s m args below meth c s₁ Bd hml0 hP hK
  obtain ⟨rfl, hZ, hh⟩ := hP
  have hx := Bd.exec
  have hby := Bd.bytes
  have hml : c.maxLocals = 2 := hml0
  have hown : s.vm.findClass "java/lang/StringBuilder" = some m.cls := findClass_of_methodNamed Bd.named
  have hnm := (name_of_methodNamed Bd.named Bd.method).1
  have X0 : Stand p l e ({ frames := 4, cells := 0, slots := 0, locals := 61 } : Room) s m #[(.ref ra0), (.ref ra1)] below meth c s₁ [] 0 0 := Stand.of_body Bd
  have e0 : s₁.heap = h0 := by rw [← hh, Bd.state]; rfl
  have N0 := Fr.nil n0
  have pre0 : ∀ t, Steps p.tables e below (s₁.setTop (mkF m 0 #[.val (.ref ra0), .val (.ref ra1)] [])) t → Steps p.tables e below (s₁.setTop (entryFrame m #[(.ref ra0), (.ref ra1)] 2)) t := fun t k => castTop (ef_15x10 m ra0 ra1) k
  obtain ⟨_, _, ⟨T101, L101, k101, n101⟩, -, X101, ⟨Lc101, hQ101, l101, y101, z101⟩, st101⟩ := superBack X0 hx hZ (y := (⟨"java/lang/AbstractStringBuilder", "append", "(Ljava/lang/String;)Ljava/lang/AbstractStringBuilder;"⟩ : MethodName)) hown (hw _ (List.mem_of_getElem? (i := 110) rfl)) (own_same (hw _ (List.mem_of_getElem? (i := 111) rfl)) (hw _ (List.mem_of_getElem? (i := 87) rfl)) rfl (by decide)) (hw _ (List.mem_of_getElem? (i := 111) rfl)) (hw _ (List.mem_of_getElem? (i := 75) rfl)) (by decide) (backOf (W := 0) (rm16x11 l Z a0 hw [] ra0 ra1 uo1 uk2 ui3 uo4 uk5 h0 n0 Z0 H0 H1 H2 H3 H4 H5 H6 H7 H8 H9 H10 H11 H12 H13) hZ (hw _ (List.mem_of_getElem? (i := 113) rfl)) (hw _ (List.mem_of_getElem? (i := 56) rfl)) (by decide) (by decide)) e0 (Ins.self H7) (g := (mkF m 2 #[.val (.ref ra0), .val (.ref ra1)] [(.ref ra1), (.ref ra0)])) rfl (by rw [hml]; rfl) (hw _ (List.mem_of_getElem? (i := 113) rfl)) (argsL := [(.ref ra1)]) (rest := []) (lenOf pd_12 rfl) rfl (by show 2 * 0 + _ ≤ _; exact Nat.le_of_eq rfl) (hb hby d15_2) (fun _ _ => ⟨rfl, e0, (by decide : 0 + 0 ≤ _), (by decide : 0 + 0 ≤ _)⟩)
  dsimp only [Pt.U, Pt.locs, Pt.cells, Pt.slots] at X101 l101 y101 z101 st101 hQ101
  subst l101 y101 z101
  obtain ⟨rfl, Nq101, K101, R101_1, R101_2, R101_3, R101_4⟩ := hQ101
  have N101 := Fr.app N0 Nq101
  obtain ⟨fs, hr, hrun, hended, hW, hsame⟩ := X101.leave (v := some (.ref ra0)) (fun h => by rw [Bd.returns] at h; cases h)
  refine ⟨_, _, pre0 _ ?_, hrun, hended, _, _, rfl, ?_, ⟨_, rfl⟩, hW, hsame.mono (by decide) (by decide)⟩
  · skip
    show Steps p.tables e below (s₁.setTop (mkF m 0 #[.val (.ref ra0), .val (.ref ra1)] [])) _
    refine XS.aloadN X0.here hx rfl (hb hby d15_0) rfl rfl ?_
    show Steps p.tables e below (s₁.setTop (mkF m 1 #[.val (.ref ra0), .val (.ref ra1)] [(.ref ra0)])) _
    refine XS.aloadN X0.here hx rfl (hb hby d15_1) rfl rfl ?_
    show Steps p.tables e below (s₁.setTop (mkF m 2 #[.val (.ref ra0), .val (.ref ra1)] [(.ref ra1), (.ref ra0)])) _
    refine st101.trans ?_
    show Steps p.tables e below (T101.setTop (mkF m 5 #[.val (.ref ra0), .val (.ref ra1)] [(.ref ra0)])) _
    refine XS.pop X101.here hx rfl (hb hby d15_5) rfl rfl ?_
    show Steps p.tables e below (T101.setTop (mkF m 6 #[.val (.ref ra0), .val (.ref ra1)] [])) _
    refine XS.aloadN X101.here hx rfl (hb hby d15_6) rfl rfl ?_
    show Steps p.tables e below (T101.setTop (mkF m 7 #[.val (.ref ra0), .val (.ref ra1)] [(.ref ra0)])) _
    jvm_step X101.here [X101.here.top, hx, (hb hby d15_7), X101.method', Bd.returns, Value.isRef, FieldType.isReference]
    first | (intro acts; rw [hr _ acts rfl rfl rfl]) | rw [hr _ _ rfl rfl rfl]
    exact Steps.refl _
  · show Q15x10 Z ra0 ra1 uo1 uk2 ui3 uo4 uk5 h0 n0 _ T101.heap _
    exact ⟨rfl, N101, ((Keep.refl h0 [uo4, ra0]).trans K101 (allS (P := (fun x => x ∈ [uo4, ra0] ∨ h0.size ≤ x)) (Or.inl (List.mem_of_getElem? (i := 0) rfl)) (allS (P := (fun x => x ∈ [uo4, ra0] ∨ h0.size ≤ x)) (Or.inl (List.mem_of_getElem? (i := 1) rfl)) all0))), R101_1, R101_2, R101_3, R101_4⟩
theorem ef_5x20 (m : MethodId) (ra0 : Addr) : entryFrame m #[(.ref ra0)] 1 = mkF m 0 #[.val (.ref ra0)] [] := by first | (simp [entryFrame, mkF, argsToLocals, Value.category]; done) | rfl
def Q5x20 (Z : State) (ra0 : Addr) (h0 : Heap) (n0 : Nat) (v : Option Value) (h : Heap) (L : List Loc) : Prop := v = some (.int (6 : Int32)) ∧ Fr n0 L ∧ h = h0
set_option maxRecDepth 65536 in
set_option maxHeartbeats 40000000 in
theorem rm5x20 (l : Launch) (Z : State) (a0 : Array Value) (hw : ∀ d ∈ tables_1, d.before a0 Z = true) (ws : List Jvm.Cond) (ra0 : Addr) (h0 : Heap) (n0 : Nat) (Z0 : n0 ≤ h0.size) (H0 : Fld Z h0 ra0 "java/lang/Enum" "ordinal" "I" (.int (6 : Int32))) :
    MetFree l (⟨"java/lang/Enum", "ordinal", "()I"⟩ : MethodName) (head1 (Jvm.Cond.code (⟨"java/lang/Enum", "ordinal", "()I"⟩ : MethodName) jdk_37_method_2_code 1 (some .int) :: ws) ({ frames := 0, cells := 0, slots := 0, locals := 0 } : Room)) (fun a U => a = #[(.ref ra0)] ∧ Z.Warmed39 U.vm ∧ U.heap = h0) (fun _ _ _ _ _ => True) (fun _ U o U' => ∃ v L, o = .returned v ∧ Q5x20 Z ra0 h0 n0 v U'.heap L ∧ FrameEnd U o U' L ({ frames := 0, cells := 0, slots := 0, locals := 0 } : Room).cells ({ frames := 0, cells := 0, slots := 0, locals := 0 } : Room).slots) := by
  refine MetFree.of_bodySF (plainFor_of_name pn_java_lang_Enum) hisR ?_
  intro p e s m args below meth c s₁ Bd hml0 hP hK
  obtain ⟨rfl, hZ, hh⟩ := hP
  have hx := Bd.exec
  have hby := Bd.bytes
  have hml : c.maxLocals = 1 := hml0
  have hown : s.vm.findClass "java/lang/Enum" = some m.cls := findClass_of_methodNamed Bd.named
  have hnm := (name_of_methodNamed Bd.named Bd.method).1
  have X0 : Stand p l e ({ frames := 0, cells := 0, slots := 0, locals := 0 } : Room) s m #[(.ref ra0)] below meth c s₁ [] 0 0 := Stand.of_body Bd
  have e0 : s₁.heap = h0 := by rw [← hh, Bd.state]; rfl
  have N0 := Fr.nil n0
  have pre0 : ∀ t, Steps p.tables e below (s₁.setTop (mkF m 0 #[.val (.ref ra0)] [])) t → Steps p.tables e below (s₁.setTop (entryFrame m #[(.ref ra0)] 1)) t := fun t k => castTop (ef_5x20 m ra0) k
  obtain ⟨T101, X101, e101, st101⟩ := getF X0 hx hZ hown (host := "") (Or.inl (hw _ (List.mem_of_getElem? (i := 44) rfl))) Via.refl e0 H0 (g := (mkF m 1 #[.val (.ref ra0)] [(.ref ra0)])) rfl rfl (hb hby d5_1)
  obtain ⟨fs, hr, hrun, hended, hW, hsame⟩ := X101.leave (v := some (.int (6 : Int32))) (fun h => by rw [Bd.returns] at h; cases h)
  refine ⟨_, _, pre0 _ ?_, hrun, hended, _, _, rfl, ?_, ⟨_, rfl⟩, hW, hsame.mono (by decide) (by decide)⟩
  · skip
    show Steps p.tables e below (s₁.setTop (mkF m 0 #[.val (.ref ra0)] [])) _
    refine XS.aloadN X0.here hx rfl (hb hby d5_0) rfl rfl ?_
    show Steps p.tables e below (s₁.setTop (mkF m 1 #[.val (.ref ra0)] [(.ref ra0)])) _
    refine st101 _ ?_
    show Steps p.tables e below (T101.setTop (mkF m 4 #[.val (.ref ra0)] [(.int (6 : Int32))])) _
    exact retI X101 hx Bd.returns (hb hby d5_4) hr
  · show Q5x20 Z ra0 h0 n0 _ T101.heap _
    rw [e101]
    exact ⟨rfl, N0, rfl⟩
theorem d3_0 : decode jdk_45_method_4_code 0 = .ok (.aload_n 0, 1) := by decide +kernel
theorem d3_1 : decode jdk_45_method_4_code 1 = .ok (.getfield 7, 3) := by decide +kernel
theorem d3_4 : decode jdk_45_method_4_code 4 = .ok (.iload_n 1, 1) := by decide +kernel
theorem d3_5 : decode jdk_45_method_4_code 5 = .ok (.aaload, 1) := by decide +kernel
theorem d3_6 : decode jdk_45_method_4_code 6 = .ok (.areturn, 1) := by decide +kernel
theorem pn_java_util_ImmutableCollections_ListN : plainName "java/util/ImmutableCollections$ListN" = true := by first | (simp [plainName, overriddenIn]; done) | decide +kernel
theorem ef_3x21 (m : MethodId) (ra0 : Addr) : entryFrame m #[(.ref ra0), (.int (5 : Int32))] 2 = mkF m 0 #[.val (.ref ra0), .val (.int (5 : Int32))] [] := by first | (simp [entryFrame, mkF, argsToLocals, Value.category]; done) | rfl
def Q3x21 (Z : State) (ra0 : Addr) (uo1 : Addr) (uo2 : Addr) (uo3 : Addr) (uo4 : Addr) (uo5 : Addr) (uo6 : Addr) (uo7 : Addr) (uo8 : Addr) (uk9 : ClassId) (h0 : Heap) (n0 : Nat) (v : Option Value) (h : Heap) (L : List Loc) : Prop := v = some (.ref uo7) ∧ Fr n0 L ∧ h = h0
set_option maxRecDepth 65536 in
set_option maxHeartbeats 40000000 in
theorem rm3x21 (l : Launch) (Z : State) (a0 : Array Value) (hw : ∀ d ∈ tables_1, d.before a0 Z = true) (ws : List Jvm.Cond) (ra0 : Addr) (uo1 : Addr) (uo2 : Addr) (uo3 : Addr) (uo4 : Addr) (uo5 : Addr) (uo6 : Addr) (uo7 : Addr) (uo8 : Addr) (uk9 : ClassId) (h0 : Heap) (n0 : Nat) (Z0 : n0 ≤ h0.size) (H0 : Fld Z h0 ra0 "java/util/ImmutableCollections$ListN" "elements" "[Ljava/lang/Object;" (.ref uo1)) (H1 : Arv Z h0 uo1 uk9 (.object "java/lang/Object") (7 : Int32) [(.ref uo2), (.ref uo3), (.ref uo4), (.ref uo5), (.ref uo6), (.ref uo7), (.ref uo8)] .null) :
    MetFree l (⟨"java/util/ImmutableCollections$ListN", "get", "(I)Ljava/lang/Object;"⟩ : MethodName) (head1 (Jvm.Cond.code (⟨"java/util/ImmutableCollections$ListN", "get", "(I)Ljava/lang/Object;"⟩ : MethodName) jdk_45_method_4_code 2 (some (.object "java/lang/Object")) :: ws) ({ frames := 0, cells := 0, slots := 0, locals := 0 } : Room)) (fun a U => a = #[(.ref ra0), (.int (5 : Int32))] ∧ Z.Warmed39 U.vm ∧ U.heap = h0) (fun _ _ _ _ _ => True) (fun _ U o U' => ∃ v L, o = .returned v ∧ Q3x21 Z ra0 uo1 uo2 uo3 uo4 uo5 uo6 uo7 uo8 uk9 h0 n0 v U'.heap L ∧ FrameEnd U o U' L ({ frames := 0, cells := 0, slots := 0, locals := 0 } : Room).cells ({ frames := 0, cells := 0, slots := 0, locals := 0 } : Room).slots) := by
  refine MetFree.of_bodySF (plainFor_of_name pn_java_util_ImmutableCollections_ListN) hisR ?_
  intro p e s m args below meth c s₁ Bd hml0 hP hK
  obtain ⟨rfl, hZ, hh⟩ := hP
  have hx := Bd.exec
  have hby := Bd.bytes
  have hml : c.maxLocals = 2 := hml0
  have hown : s.vm.findClass "java/util/ImmutableCollections$ListN" = some m.cls := findClass_of_methodNamed Bd.named
  have hnm := (name_of_methodNamed Bd.named Bd.method).1
  have X0 : Stand p l e ({ frames := 0, cells := 0, slots := 0, locals := 0 } : Room) s m #[(.ref ra0), (.int (5 : Int32))] below meth c s₁ [] 0 0 := Stand.of_body Bd
  have e0 : s₁.heap = h0 := by rw [← hh, Bd.state]; rfl
  have N0 := Fr.nil n0
  have pre0 : ∀ t, Steps p.tables e below (s₁.setTop (mkF m 0 #[.val (.ref ra0), .val (.int (5 : Int32))] [])) t → Steps p.tables e below (s₁.setTop (entryFrame m #[(.ref ra0), (.int (5 : Int32))] 2)) t := fun t k => castTop (ef_3x21 m ra0) k
  obtain ⟨T101, X101, e101, st101⟩ := getF X0 hx hZ hown (host := "") (Or.inl (hw _ (List.mem_of_getElem? (i := 16) rfl))) Via.refl e0 H0 (g := (mkF m 1 #[.val (.ref ra0), .val (.int (5 : Int32))] [(.ref ra0)])) rfl rfl (hb hby d3_1)
  obtain ⟨cl102, Ar102, qc102, S102, M102, Hh102, G102⟩ := id H1
  have hin102 : ¬ ((5 : Int32) < 0 ∨ cl102.slots.size ≤ ((5 : Int32)).toNatClampNeg) := inb_of S102 ⟨by decide, by decide⟩
  obtain ⟨fs, hr, hrun, hended, hW, hsame⟩ := X101.leave (v := some (.ref uo7)) (fun h => by rw [Bd.returns] at h; cases h)
  refine ⟨_, _, pre0 _ ?_, hrun, hended, _, _, rfl, ?_, ⟨_, rfl⟩, hW, hsame.mono (by decide) (by decide)⟩
  · skip
    show Steps p.tables e below (s₁.setTop (mkF m 0 #[.val (.ref ra0), .val (.int (5 : Int32))] [])) _
    refine XS.aloadN X0.here hx rfl (hb hby d3_0) rfl rfl ?_
    show Steps p.tables e below (s₁.setTop (mkF m 1 #[.val (.ref ra0), .val (.int (5 : Int32))] [(.ref ra0)])) _
    refine st101 _ ?_
    show Steps p.tables e below (T101.setTop (mkF m 4 #[.val (.ref ra0), .val (.int (5 : Int32))] [(.ref uo1)])) _
    refine XS.iloadN X101.here hx rfl (hb hby d3_4) rfl ?_
    show Steps p.tables e below (T101.setTop (mkF m 5 #[.val (.ref ra0), .val (.int (5 : Int32))] [(.int (5 : Int32)), (.ref uo1)])) _
    refine X101.aaload hx (j := (5 : Int32)) (v := (.ref uo7)) (by rw [e101]; exact Ar102.1) (State.isArrayOf_alike hZ.alike Ar102.2.1) rfl Ar102.2.2 hin102 (Hh102.at hin102 (rfl)) (g := (mkF m 5 #[.val (.ref ra0), .val (.int (5 : Int32))] [(.int (5 : Int32)), (.ref uo1)])) rfl rfl (hb hby d3_5) _ ?_
    show Steps p.tables e below (T101.setTop (mkF m 6 #[.val (.ref ra0), .val (.int (5 : Int32))] [(.ref uo7)])) _
    jvm_step X101.here [X101.here.top, hx, (hb hby d3_6), X101.method', Bd.returns, Value.isRef, FieldType.isReference]
    first | (intro acts; rw [hr _ acts rfl rfl rfl]) | rw [hr _ _ rfl rfl rfl]
    exact Steps.refl _
  · show Q3x21 Z ra0 uo1 uo2 uo3 uo4 uo5 uo6 uo7 uo8 uk9 h0 n0 _ T101.heap _
    rw [e101]
    exact ⟨rfl, N0, rfl⟩
theorem ef_11x24 (m : MethodId)  : entryFrame m #[(.int (59 : Int32))] 4 = mkF m 0 #[.val (.int (59 : Int32)), .unset, .unset, .unset] [] := by first | (simp [entryFrame, mkF, argsToLocals, Value.category]; done) | rfl
def Q11x24 (Z : State)  (h0 : Heap) (n0 : Nat) (v : Option Value) (h : Heap) (L : List Loc) : Prop := v = some (.int (2 : Int32)) ∧ Fr n0 L ∧ h = h0
set_option maxRecDepth 65536 in
set_option maxHeartbeats 40000000 in
theorem rm11x24 (l : Launch) (Z : State) (a0 : Array Value) (hw : ∀ d ∈ tables_1, d.before a0 Z = true) (ws : List Jvm.Cond)  (h0 : Heap) (n0 : Nat) (Z0 : n0 ≤ h0.size) :
    MetFree l (⟨"java/lang/Integer", "stringSize", "(I)I"⟩ : MethodName) (head1 (Jvm.Cond.code (⟨"java/lang/Integer", "stringSize", "(I)I"⟩ : MethodName) jdk_33_method_13_code 4 (some .int) :: ws) ({ frames := 0, cells := 0, slots := 0, locals := 0 } : Room)) (fun a U => a = #[(.int (59 : Int32))] ∧ Z.Warmed39 U.vm ∧ U.heap = h0) (fun _ _ _ _ _ => True) (fun _ U o U' => ∃ v L, o = .returned v ∧ Q11x24 Z  h0 n0 v U'.heap L ∧ FrameEnd U o U' L ({ frames := 0, cells := 0, slots := 0, locals := 0 } : Room).cells ({ frames := 0, cells := 0, slots := 0, locals := 0 } : Room).slots) := by
  refine MetFree.of_bodySF (plainFor_of_name pn_java_lang_Integer) hisR ?_
  intro p e s m args below meth c s₁ Bd hml0 hP hK
  obtain ⟨rfl, hZ, hh⟩ := hP
  have hx := Bd.exec
  have hby := Bd.bytes
  have hml : c.maxLocals = 4 := hml0
  have hown : s.vm.findClass "java/lang/Integer" = some m.cls := findClass_of_methodNamed Bd.named
  have hnm := (name_of_methodNamed Bd.named Bd.method).1
  have X0 : Stand p l e ({ frames := 0, cells := 0, slots := 0, locals := 0 } : Room) s m #[(.int (59 : Int32))] below meth c s₁ [] 0 0 := Stand.of_body Bd
  have e0 : s₁.heap = h0 := by rw [← hh, Bd.state]; rfl
  have N0 := Fr.nil n0
  have pre0 : ∀ t, Steps p.tables e below (s₁.setTop (mkF m 0 #[.val (.int (59 : Int32)), .unset, .unset, .unset] [])) t → Steps p.tables e below (s₁.setTop (entryFrame m #[(.int (59 : Int32))] 4)) t := fun t k => castTop (ef_11x24 m ) k
  obtain ⟨fs, hr, hrun, hended, hW, hsame⟩ := X0.leave (v := some (.int (2 : Int32))) (fun h => by rw [Bd.returns] at h; cases h)
  refine ⟨_, _, pre0 _ ?_, hrun, hended, _, _, rfl, ?_, ⟨_, rfl⟩, hW, hsame.mono (by decide) (by decide)⟩
  · skip
    show Steps p.tables e below (s₁.setTop (mkF m 0 #[.val (.int (59 : Int32)), .unset, .unset, .unset] [])) _
    refine XS.iconst X0.here hx rfl (hb hby d11_0) ?_
    show Steps p.tables e below (s₁.setTop (mkF m 1 #[.val (.int (59 : Int32)), .unset, .unset, .unset] [(.int (1 : Int32))])) _
    refine XS.istoreN X0.here hx rfl (hb hby d11_1) rfl (l' := #[.val (.int (59 : Int32)), .val (.int (1 : Int32)), .unset, .unset]) rfl ?_
    show Steps p.tables e below (s₁.setTop (mkF m 2 #[.val (.int (59 : Int32)), .val (.int (1 : Int32)), .unset, .unset] [])) _
    refine XS.iloadN X0.here hx rfl (hb hby d11_2) rfl ?_
    show Steps p.tables e below (s₁.setTop (mkF m 3 #[.val (.int (59 : Int32)), .val (.int (1 : Int32)), .unset, .unset] [(.int (59 : Int32))])) _
    refine XS.ifNo X0.here hx rfl (hb hby d11_3) rfl ((if0 _ _).trans (flt (by decide : ¬ ((59 : Int32) < (0 : Int32)))).1) ?_
    show Steps p.tables e below (s₁.setTop (mkF m 6 #[.val (.int (59 : Int32)), .val (.int (1 : Int32)), .unset, .unset] [])) _
    refine XS.iconst X0.here hx rfl (hb hby d11_6) ?_
    show Steps p.tables e below (s₁.setTop (mkF m 7 #[.val (.int (59 : Int32)), .val (.int (1 : Int32)), .unset, .unset] [(.int (0 : Int32))])) _
    refine XS.istoreN X0.here hx rfl (hb hby d11_7) rfl (l' := #[.val (.int (59 : Int32)), .val (.int (0 : Int32)), .unset, .unset]) rfl ?_
    show Steps p.tables e below (s₁.setTop (mkF m 8 #[.val (.int (59 : Int32)), .val (.int (0 : Int32)), .unset, .unset] [])) _
    refine XS.iloadN X0.here hx rfl (hb hby d11_8) rfl ?_
    show Steps p.tables e below (s₁.setTop (mkF m 9 #[.val (.int (59 : Int32)), .val (.int (0 : Int32)), .unset, .unset] [(.int (59 : Int32))])) _
    refine XS.ineg X0.here hx rfl (hb hby d11_9) rfl ?_
    show Steps p.tables e below (s₁.setTop (mkF m 10 #[.val (.int (59 : Int32)), .val (.int (0 : Int32)), .unset, .unset] [(.int (-(59 : Int32)))])) _
    rw [show (-(59 : Int32)) = (-59 : Int32) from by decide]
    show Steps p.tables e below (s₁.setTop (mkF m 10 #[.val (.int (59 : Int32)), .val (.int (0 : Int32)), .unset, .unset] [(.int (-59 : Int32))])) _
    refine XS.istoreN X0.here hx rfl (hb hby d11_10) rfl (l' := #[.val (.int (-59 : Int32)), .val (.int (0 : Int32)), .unset, .unset]) rfl ?_
    show Steps p.tables e below (s₁.setTop (mkF m 11 #[.val (.int (-59 : Int32)), .val (.int (0 : Int32)), .unset, .unset] [])) _
    refine XS.bipush X0.here hx rfl (hb hby d11_11) ?_
    show Steps p.tables e below (s₁.setTop (mkF m 13 #[.val (.int (-59 : Int32)), .val (.int (0 : Int32)), .unset, .unset] [(.int (-10 : Int32))])) _
    refine XS.istoreN X0.here hx rfl (hb hby d11_13) rfl (l' := #[.val (.int (-59 : Int32)), .val (.int (0 : Int32)), .val (.int (-10 : Int32)), .unset]) rfl ?_
    show Steps p.tables e below (s₁.setTop (mkF m 14 #[.val (.int (-59 : Int32)), .val (.int (0 : Int32)), .val (.int (-10 : Int32)), .unset] [])) _
    refine XS.iconst X0.here hx rfl (hb hby d11_14) ?_
    show Steps p.tables e below (s₁.setTop (mkF m 15 #[.val (.int (-59 : Int32)), .val (.int (0 : Int32)), .val (.int (-10 : Int32)), .unset] [(.int (1 : Int32))])) _
    refine XS.istoreN X0.here hx rfl (hb hby d11_15) rfl (l' := #[.val (.int (-59 : Int32)), .val (.int (0 : Int32)), .val (.int (-10 : Int32)), .val (.int (1 : Int32))]) rfl ?_
    show Steps p.tables e below (s₁.setTop (mkF m 16 #[.val (.int (-59 : Int32)), .val (.int (0 : Int32)), .val (.int (-10 : Int32)), .val (.int (1 : Int32))] [])) _
    refine XS.iloadN X0.here hx rfl (hb hby d11_16) rfl ?_
    show Steps p.tables e below (s₁.setTop (mkF m 17 #[.val (.int (-59 : Int32)), .val (.int (0 : Int32)), .val (.int (-10 : Int32)), .val (.int (1 : Int32))] [(.int (1 : Int32))])) _
    refine XS.bipush X0.here hx rfl (hb hby d11_17) ?_
    show Steps p.tables e below (s₁.setTop (mkF m 19 #[.val (.int (-59 : Int32)), .val (.int (0 : Int32)), .val (.int (-10 : Int32)), .val (.int (1 : Int32))] [(.int (10 : Int32)), (.int (1 : Int32))])) _
    refine XS.icmpNo X0.here hx rfl (hb hby d11_19) rfl (tlt (by decide : (1 : Int32) < (10 : Int32))).2.1 ?_
    show Steps p.tables e below (s₁.setTop (mkF m 22 #[.val (.int (-59 : Int32)), .val (.int (0 : Int32)), .val (.int (-10 : Int32)), .val (.int (1 : Int32))] [])) _
    refine XS.iloadN X0.here hx rfl (hb hby d11_22) rfl ?_
    show Steps p.tables e below (s₁.setTop (mkF m 23 #[.val (.int (-59 : Int32)), .val (.int (0 : Int32)), .val (.int (-10 : Int32)), .val (.int (1 : Int32))] [(.int (-59 : Int32))])) _
    refine XS.iloadN X0.here hx rfl (hb hby d11_23) rfl ?_
    show Steps p.tables e below (s₁.setTop (mkF m 24 #[.val (.int (-59 : Int32)), .val (.int (0 : Int32)), .val (.int (-10 : Int32)), .val (.int (1 : Int32))] [(.int (-10 : Int32)), (.int (-59 : Int32))])) _
    refine XS.icmpYes X0.here hx rfl (pc0 := 24) (pc' := 31) rfl (hb hby d11_24) rfl (flt (by decide : ¬ ((-10 : Int32) < (-59 : Int32)))).2.2.2 (by decide) (by decide) ?_
    show Steps p.tables e below (s₁.setTop (mkF m 31 #[.val (.int (-59 : Int32)), .val (.int (0 : Int32)), .val (.int (-10 : Int32)), .val (.int (1 : Int32))] [])) _
    refine XS.bipush X0.here hx rfl (hb hby d11_31) ?_
    show Steps p.tables e below (s₁.setTop (mkF m 33 #[.val (.int (-59 : Int32)), .val (.int (0 : Int32)), .val (.int (-10 : Int32)), .val (.int (1 : Int32))] [(.int (10 : Int32))])) _
    refine XS.iloadN X0.here hx rfl (hb hby d11_33) rfl ?_
    show Steps p.tables e below (s₁.setTop (mkF m 34 #[.val (.int (-59 : Int32)), .val (.int (0 : Int32)), .val (.int (-10 : Int32)), .val (.int (1 : Int32))] [(.int (-10 : Int32)), (.int (10 : Int32))])) _
    refine XS.imul X0.here hx rfl (hb hby d11_34) rfl ?_
    show Steps p.tables e below (s₁.setTop (mkF m 35 #[.val (.int (-59 : Int32)), .val (.int (0 : Int32)), .val (.int (-10 : Int32)), .val (.int (1 : Int32))] [(.int ((10 : Int32) * (-10 : Int32)))])) _
    rw [show ((10 : Int32) * (-10 : Int32)) = (-100 : Int32) from by decide]
    show Steps p.tables e below (s₁.setTop (mkF m 35 #[.val (.int (-59 : Int32)), .val (.int (0 : Int32)), .val (.int (-10 : Int32)), .val (.int (1 : Int32))] [(.int (-100 : Int32))])) _
    refine XS.istoreN X0.here hx rfl (hb hby d11_35) rfl (l' := #[.val (.int (-59 : Int32)), .val (.int (0 : Int32)), .val (.int (-100 : Int32)), .val (.int (1 : Int32))]) rfl ?_
    show Steps p.tables e below (s₁.setTop (mkF m 36 #[.val (.int (-59 : Int32)), .val (.int (0 : Int32)), .val (.int (-100 : Int32)), .val (.int (1 : Int32))] [])) _
    refine XS.iinc X0.here hx rfl (hb hby d11_36) rfl (l' := #[.val (.int (-59 : Int32)), .val (.int (0 : Int32)), .val (.int (-100 : Int32)), .val (.int ((1 : Int32) + (1 : Int32)))]) rfl ?_
    show Steps p.tables e below (s₁.setTop (mkF m 39 #[.val (.int (-59 : Int32)), .val (.int (0 : Int32)), .val (.int (-100 : Int32)), .val (.int ((1 : Int32) + (1 : Int32)))] [])) _
    rw [show ((1 : Int32) + (1 : Int32)) = (2 : Int32) from by decide]
    show Steps p.tables e below (s₁.setTop (mkF m 39 #[.val (.int (-59 : Int32)), .val (.int (0 : Int32)), .val (.int (-100 : Int32)), .val (.int (2 : Int32))] [])) _
    refine XS.goto X0.here hx rfl (pc0 := 39) (pc' := 16) rfl (hb hby d11_39) (by decide) (by decide) ?_
    show Steps p.tables e below (s₁.setTop (mkF m 16 #[.val (.int (-59 : Int32)), .val (.int (0 : Int32)), .val (.int (-100 : Int32)), .val (.int (2 : Int32))] [])) _
    refine XS.iloadN X0.here hx rfl (hb hby d11_16) rfl ?_
    show Steps p.tables e below (s₁.setTop (mkF m 17 #[.val (.int (-59 : Int32)), .val (.int (0 : Int32)), .val (.int (-100 : Int32)), .val (.int (2 : Int32))] [(.int (2 : Int32))])) _
    refine XS.bipush X0.here hx rfl (hb hby d11_17) ?_
    show Steps p.tables e below (s₁.setTop (mkF m 19 #[.val (.int (-59 : Int32)), .val (.int (0 : Int32)), .val (.int (-100 : Int32)), .val (.int (2 : Int32))] [(.int (10 : Int32)), (.int (2 : Int32))])) _
    refine XS.icmpNo X0.here hx rfl (hb hby d11_19) rfl (tlt (by decide : (2 : Int32) < (10 : Int32))).2.1 ?_
    show Steps p.tables e below (s₁.setTop (mkF m 22 #[.val (.int (-59 : Int32)), .val (.int (0 : Int32)), .val (.int (-100 : Int32)), .val (.int (2 : Int32))] [])) _
    refine XS.iloadN X0.here hx rfl (hb hby d11_22) rfl ?_
    show Steps p.tables e below (s₁.setTop (mkF m 23 #[.val (.int (-59 : Int32)), .val (.int (0 : Int32)), .val (.int (-100 : Int32)), .val (.int (2 : Int32))] [(.int (-59 : Int32))])) _
    refine XS.iloadN X0.here hx rfl (hb hby d11_23) rfl ?_
    show Steps p.tables e below (s₁.setTop (mkF m 24 #[.val (.int (-59 : Int32)), .val (.int (0 : Int32)), .val (.int (-100 : Int32)), .val (.int (2 : Int32))] [(.int (-100 : Int32)), (.int (-59 : Int32))])) _
    refine XS.icmpNo X0.here hx rfl (hb hby d11_24) rfl (tlt (by decide : (-100 : Int32) < (-59 : Int32))).2.2.2 ?_
    show Steps p.tables e below (s₁.setTop (mkF m 27 #[.val (.int (-59 : Int32)), .val (.int (0 : Int32)), .val (.int (-100 : Int32)), .val (.int (2 : Int32))] [])) _
    refine XS.iloadN X0.here hx rfl (hb hby d11_27) rfl ?_
    show Steps p.tables e below (s₁.setTop (mkF m 28 #[.val (.int (-59 : Int32)), .val (.int (0 : Int32)), .val (.int (-100 : Int32)), .val (.int (2 : Int32))] [(.int (2 : Int32))])) _
    refine XS.iloadN X0.here hx rfl (hb hby d11_28) rfl ?_
    show Steps p.tables e below (s₁.setTop (mkF m 29 #[.val (.int (-59 : Int32)), .val (.int (0 : Int32)), .val (.int (-100 : Int32)), .val (.int (2 : Int32))] [(.int (0 : Int32)), (.int (2 : Int32))])) _
    refine XS.iadd X0.here hx rfl (hb hby d11_29) rfl ?_
    show Steps p.tables e below (s₁.setTop (mkF m 30 #[.val (.int (-59 : Int32)), .val (.int (0 : Int32)), .val (.int (-100 : Int32)), .val (.int (2 : Int32))] [(.int ((2 : Int32) + (0 : Int32)))])) _
    rw [show ((2 : Int32) + (0 : Int32)) = (2 : Int32) from by decide]
    show Steps p.tables e below (s₁.setTop (mkF m 30 #[.val (.int (-59 : Int32)), .val (.int (0 : Int32)), .val (.int (-100 : Int32)), .val (.int (2 : Int32))] [(.int (2 : Int32))])) _
    exact retI X0 hx Bd.returns (hb hby d11_30) hr
  · show Q11x24 Z  h0 n0 _ s₁.heap _
    rw [e0]
    exact ⟨rfl, N0, rfl⟩
theorem ef_12x25 (m : MethodId) (ra0 : Addr) : entryFrame m #[(.ref ra0), (.int (5 : Int32))] 3 = mkF m 0 #[.val (.ref ra0), .val (.int (5 : Int32)), .unset] [] := by first | (simp [entryFrame, mkF, argsToLocals, Value.category]; done) | rfl
def Q12x25 (Z : State) (ra0 : Addr) (uo1 : Addr) (uk2 : ClassId) (h0 : Heap) (n0 : Nat) (v : Option Value) (h : Heap) (L : List Loc) : Prop := v = none ∧ Fr n0 L ∧ h = h0
set_option maxRecDepth 65536 in
set_option maxHeartbeats 40000000 in
theorem rm12x25 (l : Launch) (Z : State) (a0 : Array Value) (hw : ∀ d ∈ tables_1, d.before a0 Z = true) (ws : List Jvm.Cond) (ra0 : Addr) (uo1 : Addr) (uk2 : ClassId) (h0 : Heap) (n0 : Nat) (Z0 : n0 ≤ h0.size) (H0 : Fld Z h0 ra0 "java/lang/AbstractStringBuilder" "value" "[B" (.ref uo1)) (H1 : Arv Z h0 uo1 uk2 .byte (16 : Int32) [(.int (53 : Int32)), (.int (48 : Int32)), (.int (45 : Int32)), (.int (0 : Int32)), (.int (0 : Int32)), (.int (0 : Int32)), (.int (0 : Int32)), (.int (0 : Int32)), (.int (0 : Int32)), (.int (0 : Int32)), (.int (0 : Int32)), (.int (0 : Int32)), (.int (0 : Int32)), (.int (0 : Int32)), (.int (0 : Int32)), (.int (0 : Int32))] (.int (0 : Int32))) (H2 : Fld Z h0 ra0 "java/lang/AbstractStringBuilder" "coder" "B" (.int (0 : Int32))) :
    MetFree l (⟨"java/lang/AbstractStringBuilder", "ensureCapacityInternal", "(I)V"⟩ : MethodName) (head1 (Jvm.Cond.code (⟨"java/lang/AbstractStringBuilder", "ensureCapacityInternal", "(I)V"⟩ : MethodName) jdk_68_method_9_code 3 none :: ws) ({ frames := 0, cells := 0, slots := 0, locals := 0 } : Room)) (fun a U => a = #[(.ref ra0), (.int (5 : Int32))] ∧ Z.Warmed39 U.vm ∧ U.heap = h0) (fun _ _ _ _ _ => True) (fun _ U o U' => ∃ v L, o = .returned v ∧ Q12x25 Z ra0 uo1 uk2 h0 n0 v U'.heap L ∧ FrameEnd U o U' L ({ frames := 0, cells := 0, slots := 0, locals := 0 } : Room).cells ({ frames := 0, cells := 0, slots := 0, locals := 0 } : Room).slots) := by
  refine MetFree.of_bodySF (plainFor_of_name pn_java_lang_AbstractStringBuilder) hisR ?_
  intro p e s m args below meth c s₁ Bd hml0 hP hK
  obtain ⟨rfl, hZ, hh⟩ := hP
  have hx := Bd.exec
  have hby := Bd.bytes
  have hml : c.maxLocals = 3 := hml0
  have hown : s.vm.findClass "java/lang/AbstractStringBuilder" = some m.cls := findClass_of_methodNamed Bd.named
  have hnm := (name_of_methodNamed Bd.named Bd.method).1
  have X0 : Stand p l e ({ frames := 0, cells := 0, slots := 0, locals := 0 } : Room) s m #[(.ref ra0), (.int (5 : Int32))] below meth c s₁ [] 0 0 := Stand.of_body Bd
  have e0 : s₁.heap = h0 := by rw [← hh, Bd.state]; rfl
  have N0 := Fr.nil n0
  have pre0 : ∀ t, Steps p.tables e below (s₁.setTop (mkF m 0 #[.val (.ref ra0), .val (.int (5 : Int32)), .unset] [])) t → Steps p.tables e below (s₁.setTop (entryFrame m #[(.ref ra0), (.int (5 : Int32))] 3)) t := fun t k => castTop (ef_12x25 m ra0) k
  obtain ⟨T101, X101, e101, st101⟩ := getF X0 hx hZ hown (host := "") (Or.inl (hw _ (List.mem_of_getElem? (i := 64) rfl))) Via.refl e0 H0 (g := (mkF m 1 #[.val (.ref ra0), .val (.int (5 : Int32)), .unset] [(.ref ra0)])) rfl rfl (hb hby d12_1)
  obtain ⟨cl102, Ar102, -, S102, M102, -, -⟩ := id H1
  obtain ⟨T103, X103, e103, st103⟩ := getF X101 hx hZ hown (host := "") (Or.inl (hw _ (List.mem_of_getElem? (i := 66) rfl))) Via.refl e101 H2 (g := (mkF m 6 #[.val (.ref ra0), .val (.int (5 : Int32)), .unset] [(.ref ra0), (.int (16 : Int32))])) rfl rfl (hb hby d12_6)
  obtain ⟨fs, hr, hrun, hended, hW, hsame⟩ := X103.leave (v := none) (fun _ => rfl)
  refine ⟨_, _, pre0 _ ?_, hrun, hended, _, _, rfl, ?_, ⟨_, rfl⟩, hW, hsame.mono (by decide) (by decide)⟩
  · skip
    show Steps p.tables e below (s₁.setTop (mkF m 0 #[.val (.ref ra0), .val (.int (5 : Int32)), .unset] [])) _
    refine XS.aloadN X0.here hx rfl (hb hby d12_0) rfl rfl ?_
    show Steps p.tables e below (s₁.setTop (mkF m 1 #[.val (.ref ra0), .val (.int (5 : Int32)), .unset] [(.ref ra0)])) _
    refine st101 _ ?_
    show Steps p.tables e below (T101.setTop (mkF m 4 #[.val (.ref ra0), .val (.int (5 : Int32)), .unset] [(.ref uo1)])) _
    refine X101.arraylength hx (by rw [e101]; exact Ar102.1) (State.isArrayOf_alike hZ.alike Ar102.2.1) (g := (mkF m 4 #[.val (.ref ra0), .val (.int (5 : Int32)), .unset] [(.ref uo1)])) rfl rfl (hb hby d12_4) _ ?_
    rw [len_of S102 M102]
    show Steps p.tables e below (T101.setTop (mkF m 5 #[.val (.ref ra0), .val (.int (5 : Int32)), .unset] [(.int (16 : Int32))])) _
    refine XS.aloadN X101.here hx rfl (hb hby d12_5) rfl rfl ?_
    show Steps p.tables e below (T101.setTop (mkF m 6 #[.val (.ref ra0), .val (.int (5 : Int32)), .unset] [(.ref ra0), (.int (16 : Int32))])) _
    refine st103 _ ?_
    show Steps p.tables e below (T103.setTop (mkF m 9 #[.val (.ref ra0), .val (.int (5 : Int32)), .unset] [(.int (0 : Int32)), (.int (16 : Int32))])) _
    refine XS.ishr X103.here hx rfl (hb hby d12_9) rfl ?_
    show Steps p.tables e below (T103.setTop (mkF m 10 #[.val (.ref ra0), .val (.int (5 : Int32)), .unset] [(.int ((16 : Int32) >>> ((0 : Int32) &&& 31)))])) _
    rw [show ((16 : Int32) >>> ((0 : Int32) &&& 31)) = (16 : Int32) from by decide]
    show Steps p.tables e below (T103.setTop (mkF m 10 #[.val (.ref ra0), .val (.int (5 : Int32)), .unset] [(.int (16 : Int32))])) _
    refine XS.istoreN X103.here hx rfl (hb hby d12_10) rfl (l' := #[.val (.ref ra0), .val (.int (5 : Int32)), .val (.int (16 : Int32))]) rfl ?_
    show Steps p.tables e below (T103.setTop (mkF m 11 #[.val (.ref ra0), .val (.int (5 : Int32)), .val (.int (16 : Int32))] [])) _
    refine XS.iloadN X103.here hx rfl (hb hby d12_11) rfl ?_
    show Steps p.tables e below (T103.setTop (mkF m 12 #[.val (.ref ra0), .val (.int (5 : Int32)), .val (.int (16 : Int32))] [(.int (5 : Int32))])) _
    refine XS.iloadN X103.here hx rfl (hb hby d12_12) rfl ?_
    show Steps p.tables e below (T103.setTop (mkF m 13 #[.val (.ref ra0), .val (.int (5 : Int32)), .val (.int (16 : Int32))] [(.int (16 : Int32)), (.int (5 : Int32))])) _
    refine XS.isub X103.here hx rfl (hb hby d12_13) rfl ?_
    show Steps p.tables e below (T103.setTop (mkF m 14 #[.val (.ref ra0), .val (.int (5 : Int32)), .val (.int (16 : Int32))] [(.int ((5 : Int32) - (16 : Int32)))])) _
    rw [show ((5 : Int32) - (16 : Int32)) = (-11 : Int32) from by decide]
    show Steps p.tables e below (T103.setTop (mkF m 14 #[.val (.ref ra0), .val (.int (5 : Int32)), .val (.int (16 : Int32))] [(.int (-11 : Int32))])) _
    refine XS.ifYes X103.here hx rfl (pc0 := 14) (pc' := 38) rfl (hb hby d12_14) rfl ((if0 _ _).trans (flt (by decide : ¬ ((0 : Int32) < (-11 : Int32)))).2.2.2) (by decide) (by decide) ?_
    show Steps p.tables e below (T103.setTop (mkF m 38 #[.val (.ref ra0), .val (.int (5 : Int32)), .val (.int (16 : Int32))] [])) _
    exact X103.returnOut hx Bd.returns (hb hby d12_38) hr
  · show Q12x25 Z ra0 uo1 uk2 h0 n0 _ T103.heap _
    rw [e103]
    exact ⟨rfl, N0, rfl⟩
theorem ef_13x26 (m : MethodId) (ra0 : Addr) : entryFrame m #[(.ref ra0)] 1 = mkF m 0 #[.val (.ref ra0)] [] := by first | (simp [entryFrame, mkF, argsToLocals, Value.category]; done) | rfl
def Q13x26 (Z : State) (ra0 : Addr) (ui1 : Int32) (h0 : Heap) (n0 : Nat) (v : Option Value) (h : Heap) (L : List Loc) : Prop := v = some (.int (1 : Int32)) ∧ Fr n0 L ∧ h = h0
set_option maxRecDepth 65536 in
set_option maxHeartbeats 40000000 in
theorem rm13x26 (l : Launch) (Z : State) (a0 : Array Value) (hw : ∀ d ∈ tables_1, d.before a0 Z = true) (ws : List Jvm.Cond) (ra0 : Addr) (ui1 : Int32) (h0 : Heap) (n0 : Nat) (Z0 : n0 ≤ h0.size) (H0 : Sta Z h0 "java/lang/String" "COMPACT_STRINGS" "Z" (.int ui1)) (H1 : ¬ (ui1 = (0 : Int32))) (H2 : Fld Z h0 ra0 "java/lang/AbstractStringBuilder" "coder" "B" (.int (0 : Int32))) :
    MetFree l (⟨"java/lang/AbstractStringBuilder", "isLatin1", "()Z"⟩ : MethodName) (head1 (Jvm.Cond.code (⟨"java/lang/AbstractStringBuilder", "isLatin1", "()Z"⟩ : MethodName) jdk_68_method_68_code 1 (some .boolean) :: ws) ({ frames := 0, cells := 0, slots := 0, locals := 0 } : Room)) (fun a U => a = #[(.ref ra0)] ∧ Z.Warmed39 U.vm ∧ U.heap = h0) (fun _ _ _ _ _ => True) (fun _ U o U' => ∃ v L, o = .returned v ∧ Q13x26 Z ra0 ui1 h0 n0 v U'.heap L ∧ FrameEnd U o U' L ({ frames := 0, cells := 0, slots := 0, locals := 0 } : Room).cells ({ frames := 0, cells := 0, slots := 0, locals := 0 } : Room).slots) := by
  refine MetFree.of_bodySF (plainFor_of_name pn_java_lang_AbstractStringBuilder) hisR ?_
  intro p e s m args below meth c s₁ Bd hml0 hP hK
  obtain ⟨rfl, hZ, hh⟩ := hP
  have hx := Bd.exec
  have hby := Bd.bytes
  have hml : c.maxLocals = 1 := hml0
  have hown : s.vm.findClass "java/lang/AbstractStringBuilder" = some m.cls := findClass_of_methodNamed Bd.named
  have hnm := (name_of_methodNamed Bd.named Bd.method).1
  have X0 : Stand p l e ({ frames := 0, cells := 0, slots := 0, locals := 0 } : Room) s m #[(.ref ra0)] below meth c s₁ [] 0 0 := Stand.of_body Bd
  have e0 : s₁.heap = h0 := by rw [← hh, Bd.state]; rfl
  have N0 := Fr.nil n0
  have pre0 : ∀ t, Steps p.tables e below (s₁.setTop (mkF m 0 #[.val (.ref ra0)] [])) t → Steps p.tables e below (s₁.setTop (entryFrame m #[(.ref ra0)] 1)) t := fun t k => castTop (ef_13x26 m ra0) k
  obtain ⟨T101, X101, e101, st101⟩ := getS2 X0 hx hZ hown (host := "") (Or.inl (hw _ (List.mem_of_getElem? (i := 61) rfl))) Via.refl e0 H0 (g := (mkF m 0 #[.val (.ref ra0)] [])) rfl (hb hby d13_0)
  obtain ⟨T102, X102, e102, st102⟩ := getF X101 hx hZ hown (host := "") (Or.inl (hw _ (List.mem_of_getElem? (i := 66) rfl))) Via.refl e101 H2 (g := (mkF m 7 #[.val (.ref ra0)] [(.ref ra0)])) rfl rfl (hb hby d13_7)
  obtain ⟨fs, hr, hrun, hended, hW, hsame⟩ := X102.leave (v := some (.int (1 : Int32))) (fun h => by rw [Bd.returns] at h; cases h)
  refine ⟨_, _, pre0 _ ?_, hrun, hended, _, _, rfl, ?_, ⟨_, rfl⟩, hW, hsame.mono (by decide) (by decide)⟩
  · skip
    show Steps p.tables e below (s₁.setTop (mkF m 0 #[.val (.ref ra0)] [])) _
    refine st101 _ ?_
    show Steps p.tables e below (T101.setTop (mkF m 3 #[.val (.ref ra0)] [(.int ui1)])) _
    refine XS.ifNo X101.here hx rfl (hb hby d13_3) rfl ((if0 _ _).trans (feq (H1 : ¬ (ui1 = (0 : Int32)))).1) ?_
    show Steps p.tables e below (T101.setTop (mkF m 6 #[.val (.ref ra0)] [])) _
    refine XS.aloadN X101.here hx rfl (hb hby d13_6) rfl rfl ?_
    show Steps p.tables e below (T101.setTop (mkF m 7 #[.val (.ref ra0)] [(.ref ra0)])) _
    refine st102 _ ?_
    show Steps p.tables e below (T102.setTop (mkF m 10 #[.val (.ref ra0)] [(.int (0 : Int32))])) _
    refine XS.ifNo X102.here hx rfl (hb hby d13_10) rfl ((if0 _ _).trans (teq (by decide : (0 : Int32) = (0 : Int32))).2) ?_
    show Steps p.tables e below (T102.setTop (mkF m 13 #[.val (.ref ra0)] [])) _
    refine XS.iconst X102.here hx rfl (hb hby d13_13) ?_
    show Steps p.tables e below (T102.setTop (mkF m 14 #[.val (.ref ra0)] [(.int (1 : Int32))])) _
    refine XS.goto X102.here hx rfl (pc0 := 14) (pc' := 18) rfl (hb hby d13_14) (by decide) (by decide) ?_
    show Steps p.tables e below (T102.setTop (mkF m 18 #[.val (.ref ra0)] [(.int (1 : Int32))])) _
    exact retN X102 hx (t := .boolean) Bd.returns (by simp) (hb hby d13_18) hr
  · show Q13x26 Z ra0 ui1 h0 n0 _ T102.heap _
    rw [e102]
    exact ⟨rfl, N0, rfl⟩
theorem ef_14x27 (m : MethodId) (ra2 : Addr) : entryFrame m #[(.int (59 : Int32)), (.int (5 : Int32)), (.ref ra2)] 7 = mkF m 0 #[.val (.int (59 : Int32)), .val (.int (5 : Int32)), .val (.ref ra2), .unset, .unset, .unset, .unset] [] := by first | (simp [entryFrame, mkF, argsToLocals, Value.category]; done) | rfl
def Q14x27 (Z : State) (ra2 : Addr) (uo1 : Addr) (uk2 : ClassId) (uk3 : ClassId) (uo4 : Addr) (uk5 : ClassId) (h0 : Heap) (n0 : Nat) (v : Option Value) (h : Heap) (L : List Loc) : Prop := v = some (.int (3 : Int32)) ∧ Fr n0 L ∧ Keep h0 h [ra2] ∧ Arv Z h ra2 uk3 .byte (16 : Int32) [(.int (53 : Int32)), (.int (48 : Int32)), (.int (45 : Int32)), (.int (53 : Int32)), (.int (57 : Int32)), (.int (0 : Int32)), (.int (0 : Int32)), (.int (0 : Int32)), (.int (0 : Int32)), (.int (0 : Int32)), (.int (0 : Int32)), (.int (0 : Int32)), (.int (0 : Int32)), (.int (0 : Int32)), (.int (0 : Int32)), (.int (0 : Int32))] (.int (0 : Int32))
set_option maxRecDepth 65536 in
set_option maxHeartbeats 40000000 in
theorem rm14x27 (l : Launch) (Z : State) (a0 : Array Value) (hw : ∀ d ∈ tables_1, d.before a0 Z = true) (ws : List Jvm.Cond) (ra2 : Addr) (uo1 : Addr) (uk2 : ClassId) (uk3 : ClassId) (uo4 : Addr) (uk5 : ClassId) (h0 : Heap) (n0 : Nat) (Z0 : n0 ≤ h0.size) (H0 : Sta Z h0 "java/lang/Integer" "DigitOnes" "[B" (.ref uo1)) (H1 : Arv Z h0 uo1 uk2 .byte (100 : Int32) own_ones (.int (0 : Int32))) (H2 : Arv Z h0 ra2 uk3 .byte (16 : Int32) [(.int (53 : Int32)), (.int (48 : Int32)), (.int (45 : Int32)), (.int (0 : Int32)), (.int (0 : Int32)), (.int (0 : Int32)), (.int (0 : Int32)), (.int (0 : Int32)), (.int (0 : Int32)), (.int (0 : Int32)), (.int (0 : Int32)), (.int (0 : Int32)), (.int (0 : Int32)), (.int (0 : Int32)), (.int (0 : Int32)), (.int (0 : Int32))] (.int (0 : Int32))) (H3 : n0 ≤ ra2) (H4 : Sta Z h0 "java/lang/Integer" "DigitTens" "[B" (.ref uo4)) (H5 : Arv Z h0 uo4 uk5 .byte (100 : Int32) own_tens (.int (0 : Int32))) (H6 : uo4 ≠ ra2) (H7 : Exa Z h0 ra2 "[B") :
    MetFree l (⟨"java/lang/Integer", "getChars", "(II[B)I"⟩ : MethodName) (head1 (Jvm.Cond.code (⟨"java/lang/Integer", "getChars", "(II[B)I"⟩ : MethodName) jdk_33_method_12_code 7 (some .int) :: ws) ({ frames := 0, cells := 0, slots := 0, locals := 0 } : Room)) (fun a U => a = #[(.int (59 : Int32)), (.int (5 : Int32)), (.ref ra2)] ∧ Z.Warmed39 U.vm ∧ U.heap = h0) (fun _ _ _ _ _ => True) (fun _ U o U' => ∃ v L, o = .returned v ∧ Q14x27 Z ra2 uo1 uk2 uk3 uo4 uk5 h0 n0 v U'.heap L ∧ FrameEnd U o U' L ({ frames := 0, cells := 0, slots := 0, locals := 0 } : Room).cells ({ frames := 0, cells := 0, slots := 0, locals := 0 } : Room).slots) := by
  refine MetFree.of_bodySF (plainFor_of_name pn_java_lang_Integer) hisR ?_
  intro p e s m args below meth c s₁ Bd hml0 hP hK
  obtain ⟨rfl, hZ, hh⟩ := hP
  have hx := Bd.exec
  have hby := Bd.bytes
  have hml : c.maxLocals = 7 := hml0
  have hown : s.vm.findClass "java/lang/Integer" = some m.cls := findClass_of_methodNamed Bd.named
  have hnm := (name_of_methodNamed Bd.named Bd.method).1
  have X0 : Stand p l e ({ frames := 0, cells := 0, slots := 0, locals := 0 } : Room) s m #[(.int (59 : Int32)), (.int (5 : Int32)), (.ref ra2)] below meth c s₁ [] 0 0 := Stand.of_body Bd
  have e0 : s₁.heap = h0 := by rw [← hh, Bd.state]; rfl
  have N0 := Fr.nil n0
  have pre0 : ∀ t, Steps p.tables e below (s₁.setTop (mkF m 0 #[.val (.int (59 : Int32)), .val (.int (5 : Int32)), .val (.ref ra2), .unset, .unset, .unset, .unset] [])) t → Steps p.tables e below (s₁.setTop (entryFrame m #[(.int (59 : Int32)), (.int (5 : Int32)), (.ref ra2)] 7)) t := fun t k => castTop (ef_14x27 m ra2) k
  obtain ⟨T101, X101, e101, st101⟩ := getS2 X0 hx hZ hown (host := "") (Or.inl (hw _ (List.mem_of_getElem? (i := 97) rfl))) Via.refl e0 H0 (g := (mkF m 78 #[.val (.int (-59 : Int32)), .val (.int (5 : Int32)), .val (.ref ra2), .unset, .unset, .val (.int (4 : Int32)), .val (.int (0 : Int32))] [(.int (4 : Int32)), (.ref ra2)])) rfl (hb hby d14_78)
  obtain ⟨cl102, Ar102, qc102, S102, M102, Hh102, G102⟩ := id H1
  have hin102 : ¬ ((59 : Int32) < 0 ∨ cl102.slots.size ≤ ((59 : Int32)).toNatClampNeg) := inb_of S102 ⟨by decide, by decide⟩
  obtain ⟨cl103, Ar103, qc103, S103, M103, Hh103, G103⟩ := id H2
  have hin103 : ¬ ((4 : Int32) < 0 ∨ cl103.slots.size ≤ ((4 : Int32)).toNatClampNeg) := inb_of S103 ⟨by decide, by decide⟩
  obtain ⟨T103, h103, X103, e103, W103, st103⟩ := stB X101 hx hZ e101 Ar103 (j := (4 : Int32)) hin103 (g := (mkF m 84 #[.val (.int (-59 : Int32)), .val (.int (5 : Int32)), .val (.ref ra2), .unset, .unset, .val (.int (4 : Int32)), .val (.int (0 : Int32))] [(.int (57 : Int32)), (.int (4 : Int32)), (.ref ra2)])) rfl rfl (hb hby d14_84)
  rw [show nar .byte (57 : Int32) = (57 : Int32) from by decide] at W103
  have V103 : Arv Z h103 ra2 uk3 .byte (16 : Int32) [(.int (53 : Int32)), (.int (48 : Int32)), (.int (45 : Int32)), (.int (0 : Int32)), (.int (57 : Int32)), (.int (0 : Int32)), (.int (0 : Int32)), (.int (0 : Int32)), (.int (0 : Int32)), (.int (0 : Int32)), (.int (0 : Int32)), (.int (0 : Int32)), (.int (0 : Int32)), (.int (0 : Int32)), (.int (0 : Int32)), (.int (0 : Int32))] (.int (0 : Int32)) := Arv.set Ar103 qc103 S103 M103 Hh103 G103 (by decide) W103 4 rfl (by first | decide | (simp; done))
  have N103 := Fr.snoc X103 N0 H3
  have f104 : Sta Z h103 "java/lang/Integer" "DigitTens" "[B" (.ref uo4) := (H4.wr W103)
  obtain ⟨T105, X105, e105, st105⟩ := getS2 X103 hx hZ hown (host := "") (Or.inl (hw _ (List.mem_of_getElem? (i := 98) rfl))) Via.refl e103 f104 (g := (mkF m 97 #[.val (.int (-59 : Int32)), .val (.int (5 : Int32)), .val (.ref ra2), .unset, .unset, .val (.int (3 : Int32)), .val (.int (0 : Int32))] [(.int (3 : Int32)), (.ref ra2)])) rfl (hb hby d14_97)
  have f106 : Arv Z h103 uo4 uk5 .byte (100 : Int32) own_tens (.int (0 : Int32)) := (H5.other W103 H6)
  obtain ⟨cl107, Ar107, qc107, S107, M107, Hh107, G107⟩ := id f106
  have hin107 : ¬ ((59 : Int32) < 0 ∨ cl107.slots.size ≤ ((59 : Int32)).toNatClampNeg) := inb_of S107 ⟨by decide, by decide⟩
  obtain ⟨cl108, Ar108, qc108, S108, M108, Hh108, G108⟩ := id V103
  have hin108 : ¬ ((3 : Int32) < 0 ∨ cl108.slots.size ≤ ((3 : Int32)).toNatClampNeg) := inb_of S108 ⟨by decide, by decide⟩
  obtain ⟨T108, h108, X108, e108, W108, st108⟩ := stB X105 hx hZ e105 Ar108 (j := (3 : Int32)) hin108 (g := (mkF m 103 #[.val (.int (-59 : Int32)), .val (.int (5 : Int32)), .val (.ref ra2), .unset, .unset, .val (.int (3 : Int32)), .val (.int (0 : Int32))] [(.int (53 : Int32)), (.int (3 : Int32)), (.ref ra2)])) rfl rfl (hb hby d14_103)
  rw [show nar .byte (53 : Int32) = (53 : Int32) from by decide] at W108
  have V108 : Arv Z h108 ra2 uk3 .byte (16 : Int32) [(.int (53 : Int32)), (.int (48 : Int32)), (.int (45 : Int32)), (.int (53 : Int32)), (.int (57 : Int32)), (.int (0 : Int32)), (.int (0 : Int32)), (.int (0 : Int32)), (.int (0 : Int32)), (.int (0 : Int32)), (.int (0 : Int32)), (.int (0 : Int32)), (.int (0 : Int32)), (.int (0 : Int32)), (.int (0 : Int32)), (.int (0 : Int32))] (.int (0 : Int32)) := Arv.set Ar108 qc108 S108 M108 Hh108 G108 (by decide) W108 3 rfl (by first | decide | (simp; done))
  have N108 := Fr.snoc X108 N103 H3
  obtain ⟨fs, hr, hrun, hended, hW, hsame⟩ := X108.leave (v := some (.int (3 : Int32))) (fun h => by rw [Bd.returns] at h; cases h)
  refine ⟨_, _, pre0 _ ?_, hrun, hended, _, _, rfl, ?_, ⟨_, rfl⟩, hW, hsame.mono (by decide) (by decide)⟩
  · skip
    show Steps p.tables e below (s₁.setTop (mkF m 0 #[.val (.int (59 : Int32)), .val (.int (5 : Int32)), .val (.ref ra2), .unset, .unset, .unset, .unset] [])) _
    refine XS.iloadN X0.here hx rfl (hb hby d14_0) rfl ?_
    show Steps p.tables e below (s₁.setTop (mkF m 1 #[.val (.int (59 : Int32)), .val (.int (5 : Int32)), .val (.ref ra2), .unset, .unset, .unset, .unset] [(.int (5 : Int32))])) _
    refine XS.istore X0.here hx rfl (hb hby d14_1) rfl (l' := #[.val (.int (59 : Int32)), .val (.int (5 : Int32)), .val (.ref ra2), .unset, .unset, .val (.int (5 : Int32)), .unset]) rfl ?_
    show Steps p.tables e below (s₁.setTop (mkF m 3 #[.val (.int (59 : Int32)), .val (.int (5 : Int32)), .val (.ref ra2), .unset, .unset, .val (.int (5 : Int32)), .unset] [])) _
    refine XS.iloadN X0.here hx rfl (hb hby d14_3) rfl ?_
    show Steps p.tables e below (s₁.setTop (mkF m 4 #[.val (.int (59 : Int32)), .val (.int (5 : Int32)), .val (.ref ra2), .unset, .unset, .val (.int (5 : Int32)), .unset] [(.int (59 : Int32))])) _
    refine XS.ifYes X0.here hx rfl (pc0 := 4) (pc' := 11) rfl (hb hby d14_4) rfl ((if0 _ _).trans (flt (by decide : ¬ ((59 : Int32) < (0 : Int32)))).2.1) (by decide) (by decide) ?_
    show Steps p.tables e below (s₁.setTop (mkF m 11 #[.val (.int (59 : Int32)), .val (.int (5 : Int32)), .val (.ref ra2), .unset, .unset, .val (.int (5 : Int32)), .unset] [])) _
    refine XS.iconst X0.here hx rfl (hb hby d14_11) ?_
    show Steps p.tables e below (s₁.setTop (mkF m 12 #[.val (.int (59 : Int32)), .val (.int (5 : Int32)), .val (.ref ra2), .unset, .unset, .val (.int (5 : Int32)), .unset] [(.int (0 : Int32))])) _
    refine XS.istore X0.here hx rfl (hb hby d14_12) rfl (l' := #[.val (.int (59 : Int32)), .val (.int (5 : Int32)), .val (.ref ra2), .unset, .unset, .val (.int (5 : Int32)), .val (.int (0 : Int32))]) rfl ?_
    show Steps p.tables e below (s₁.setTop (mkF m 14 #[.val (.int (59 : Int32)), .val (.int (5 : Int32)), .val (.ref ra2), .unset, .unset, .val (.int (5 : Int32)), .val (.int (0 : Int32))] [])) _
    refine XS.iload X0.here hx rfl (hb hby d14_14) rfl ?_
    show Steps p.tables e below (s₁.setTop (mkF m 16 #[.val (.int (59 : Int32)), .val (.int (5 : Int32)), .val (.ref ra2), .unset, .unset, .val (.int (5 : Int32)), .val (.int (0 : Int32))] [(.int (0 : Int32))])) _
    refine XS.ifNo X0.here hx rfl (hb hby d14_16) rfl ((if0 _ _).trans (teq (by decide : (0 : Int32) = (0 : Int32))).2) ?_
    show Steps p.tables e below (s₁.setTop (mkF m 19 #[.val (.int (59 : Int32)), .val (.int (5 : Int32)), .val (.ref ra2), .unset, .unset, .val (.int (5 : Int32)), .val (.int (0 : Int32))] [])) _
    refine XS.iloadN X0.here hx rfl (hb hby d14_19) rfl ?_
    show Steps p.tables e below (s₁.setTop (mkF m 20 #[.val (.int (59 : Int32)), .val (.int (5 : Int32)), .val (.ref ra2), .unset, .unset, .val (.int (5 : Int32)), .val (.int (0 : Int32))] [(.int (59 : Int32))])) _
    refine XS.ineg X0.here hx rfl (hb hby d14_20) rfl ?_
    show Steps p.tables e below (s₁.setTop (mkF m 21 #[.val (.int (59 : Int32)), .val (.int (5 : Int32)), .val (.ref ra2), .unset, .unset, .val (.int (5 : Int32)), .val (.int (0 : Int32))] [(.int (-(59 : Int32)))])) _
    rw [show (-(59 : Int32)) = (-59 : Int32) from by decide]
    show Steps p.tables e below (s₁.setTop (mkF m 21 #[.val (.int (59 : Int32)), .val (.int (5 : Int32)), .val (.ref ra2), .unset, .unset, .val (.int (5 : Int32)), .val (.int (0 : Int32))] [(.int (-59 : Int32))])) _
    refine XS.istoreN X0.here hx rfl (hb hby d14_21) rfl (l' := #[.val (.int (-59 : Int32)), .val (.int (5 : Int32)), .val (.ref ra2), .unset, .unset, .val (.int (5 : Int32)), .val (.int (0 : Int32))]) rfl ?_
    show Steps p.tables e below (s₁.setTop (mkF m 22 #[.val (.int (-59 : Int32)), .val (.int (5 : Int32)), .val (.ref ra2), .unset, .unset, .val (.int (5 : Int32)), .val (.int (0 : Int32))] [])) _
    refine XS.iloadN X0.here hx rfl (hb hby d14_22) rfl ?_
    show Steps p.tables e below (s₁.setTop (mkF m 23 #[.val (.int (-59 : Int32)), .val (.int (5 : Int32)), .val (.ref ra2), .unset, .unset, .val (.int (5 : Int32)), .val (.int (0 : Int32))] [(.int (-59 : Int32))])) _
    refine XS.bipush X0.here hx rfl (hb hby d14_23) ?_
    show Steps p.tables e below (s₁.setTop (mkF m 25 #[.val (.int (-59 : Int32)), .val (.int (5 : Int32)), .val (.ref ra2), .unset, .unset, .val (.int (5 : Int32)), .val (.int (0 : Int32))] [(.int (-100 : Int32)), (.int (-59 : Int32))])) _
    refine XS.icmpYes X0.here hx rfl (pc0 := 25) (pc' := 72) rfl (hb hby d14_25) rfl (tlt (by decide : (-100 : Int32) < (-59 : Int32))).2.2.1 (by decide) (by decide) ?_
    show Steps p.tables e below (s₁.setTop (mkF m 72 #[.val (.int (-59 : Int32)), .val (.int (5 : Int32)), .val (.ref ra2), .unset, .unset, .val (.int (5 : Int32)), .val (.int (0 : Int32))] [])) _
    refine XS.aloadN X0.here hx rfl (hb hby d14_72) rfl rfl ?_
    show Steps p.tables e below (s₁.setTop (mkF m 73 #[.val (.int (-59 : Int32)), .val (.int (5 : Int32)), .val (.ref ra2), .unset, .unset, .val (.int (5 : Int32)), .val (.int (0 : Int32))] [(.ref ra2)])) _
    refine XS.iinc X0.here hx rfl (hb hby d14_73) rfl (l' := #[.val (.int (-59 : Int32)), .val (.int (5 : Int32)), .val (.ref ra2), .unset, .unset, .val (.int ((5 : Int32) + (-1 : Int32))), .val (.int (0 : Int32))]) rfl ?_
    show Steps p.tables e below (s₁.setTop (mkF m 76 #[.val (.int (-59 : Int32)), .val (.int (5 : Int32)), .val (.ref ra2), .unset, .unset, .val (.int ((5 : Int32) + (-1 : Int32))), .val (.int (0 : Int32))] [(.ref ra2)])) _
    rw [show ((5 : Int32) + (-1 : Int32)) = (4 : Int32) from by decide]
    show Steps p.tables e below (s₁.setTop (mkF m 76 #[.val (.int (-59 : Int32)), .val (.int (5 : Int32)), .val (.ref ra2), .unset, .unset, .val (.int (4 : Int32)), .val (.int (0 : Int32))] [(.ref ra2)])) _
    refine XS.iload X0.here hx rfl (hb hby d14_76) rfl ?_
    show Steps p.tables e below (s₁.setTop (mkF m 78 #[.val (.int (-59 : Int32)), .val (.int (5 : Int32)), .val (.ref ra2), .unset, .unset, .val (.int (4 : Int32)), .val (.int (0 : Int32))] [(.int (4 : Int32)), (.ref ra2)])) _
    refine st101 _ ?_
    show Steps p.tables e below (T101.setTop (mkF m 81 #[.val (.int (-59 : Int32)), .val (.int (5 : Int32)), .val (.ref ra2), .unset, .unset, .val (.int (4 : Int32)), .val (.int (0 : Int32))] [(.ref uo1), (.int (4 : Int32)), (.ref ra2)])) _
    refine XS.iloadN X101.here hx rfl (hb hby d14_81) rfl ?_
    show Steps p.tables e below (T101.setTop (mkF m 82 #[.val (.int (-59 : Int32)), .val (.int (5 : Int32)), .val (.ref ra2), .unset, .unset, .val (.int (4 : Int32)), .val (.int (0 : Int32))] [(.int (-59 : Int32)), (.ref uo1), (.int (4 : Int32)), (.ref ra2)])) _
    refine XS.ineg X101.here hx rfl (hb hby d14_82) rfl ?_
    show Steps p.tables e below (T101.setTop (mkF m 83 #[.val (.int (-59 : Int32)), .val (.int (5 : Int32)), .val (.ref ra2), .unset, .unset, .val (.int (4 : Int32)), .val (.int (0 : Int32))] [(.int (-(-59 : Int32))), (.ref uo1), (.int (4 : Int32)), (.ref ra2)])) _
    rw [show (-(-59 : Int32)) = (59 : Int32) from by decide]
    show Steps p.tables e below (T101.setTop (mkF m 83 #[.val (.int (-59 : Int32)), .val (.int (5 : Int32)), .val (.ref ra2), .unset, .unset, .val (.int (4 : Int32)), .val (.int (0 : Int32))] [(.int (59 : Int32)), (.ref uo1), (.int (4 : Int32)), (.ref ra2)])) _
    refine X101.baloadBytes hx (j := (59 : Int32)) (v := (.int (57 : Int32))) (by rw [e101]; exact Ar102.1) (State.isArrayOf_alike hZ.alike Ar102.2.1) Ar102.2.2 hin102 (Hh102.at hin102 (rfl)) (g := (mkF m 83 #[.val (.int (-59 : Int32)), .val (.int (5 : Int32)), .val (.ref ra2), .unset, .unset, .val (.int (4 : Int32)), .val (.int (0 : Int32))] [(.int (59 : Int32)), (.ref uo1), (.int (4 : Int32)), (.ref ra2)])) rfl rfl (hb hby d14_83) _ ?_
    show Steps p.tables e below (T101.setTop (mkF m 84 #[.val (.int (-59 : Int32)), .val (.int (5 : Int32)), .val (.ref ra2), .unset, .unset, .val (.int (4 : Int32)), .val (.int (0 : Int32))] [(.int (57 : Int32)), (.int (4 : Int32)), (.ref ra2)])) _
    refine st103 _ ?_
    show Steps p.tables e below (T103.setTop (mkF m 85 #[.val (.int (-59 : Int32)), .val (.int (5 : Int32)), .val (.ref ra2), .unset, .unset, .val (.int (4 : Int32)), .val (.int (0 : Int32))] [])) _
    refine XS.iloadN X103.here hx rfl (hb hby d14_85) rfl ?_
    show Steps p.tables e below (T103.setTop (mkF m 86 #[.val (.int (-59 : Int32)), .val (.int (5 : Int32)), .val (.ref ra2), .unset, .unset, .val (.int (4 : Int32)), .val (.int (0 : Int32))] [(.int (-59 : Int32))])) _
    refine XS.bipush X103.here hx rfl (hb hby d14_86) ?_
    show Steps p.tables e below (T103.setTop (mkF m 88 #[.val (.int (-59 : Int32)), .val (.int (5 : Int32)), .val (.ref ra2), .unset, .unset, .val (.int (4 : Int32)), .val (.int (0 : Int32))] [(.int (-9 : Int32)), (.int (-59 : Int32))])) _
    refine XS.icmpNo X103.here hx rfl (hb hby d14_88) rfl (tlt (by decide : (-59 : Int32) < (-9 : Int32))).2.1 ?_
    show Steps p.tables e below (T103.setTop (mkF m 91 #[.val (.int (-59 : Int32)), .val (.int (5 : Int32)), .val (.ref ra2), .unset, .unset, .val (.int (4 : Int32)), .val (.int (0 : Int32))] [])) _
    refine XS.aloadN X103.here hx rfl (hb hby d14_91) rfl rfl ?_
    show Steps p.tables e below (T103.setTop (mkF m 92 #[.val (.int (-59 : Int32)), .val (.int (5 : Int32)), .val (.ref ra2), .unset, .unset, .val (.int (4 : Int32)), .val (.int (0 : Int32))] [(.ref ra2)])) _
    refine XS.iinc X103.here hx rfl (hb hby d14_92) rfl (l' := #[.val (.int (-59 : Int32)), .val (.int (5 : Int32)), .val (.ref ra2), .unset, .unset, .val (.int ((4 : Int32) + (-1 : Int32))), .val (.int (0 : Int32))]) rfl ?_
    show Steps p.tables e below (T103.setTop (mkF m 95 #[.val (.int (-59 : Int32)), .val (.int (5 : Int32)), .val (.ref ra2), .unset, .unset, .val (.int ((4 : Int32) + (-1 : Int32))), .val (.int (0 : Int32))] [(.ref ra2)])) _
    rw [show ((4 : Int32) + (-1 : Int32)) = (3 : Int32) from by decide]
    show Steps p.tables e below (T103.setTop (mkF m 95 #[.val (.int (-59 : Int32)), .val (.int (5 : Int32)), .val (.ref ra2), .unset, .unset, .val (.int (3 : Int32)), .val (.int (0 : Int32))] [(.ref ra2)])) _
    refine XS.iload X103.here hx rfl (hb hby d14_95) rfl ?_
    show Steps p.tables e below (T103.setTop (mkF m 97 #[.val (.int (-59 : Int32)), .val (.int (5 : Int32)), .val (.ref ra2), .unset, .unset, .val (.int (3 : Int32)), .val (.int (0 : Int32))] [(.int (3 : Int32)), (.ref ra2)])) _
    refine st105 _ ?_
    show Steps p.tables e below (T105.setTop (mkF m 100 #[.val (.int (-59 : Int32)), .val (.int (5 : Int32)), .val (.ref ra2), .unset, .unset, .val (.int (3 : Int32)), .val (.int (0 : Int32))] [(.ref uo4), (.int (3 : Int32)), (.ref ra2)])) _
    refine XS.iloadN X105.here hx rfl (hb hby d14_100) rfl ?_
    show Steps p.tables e below (T105.setTop (mkF m 101 #[.val (.int (-59 : Int32)), .val (.int (5 : Int32)), .val (.ref ra2), .unset, .unset, .val (.int (3 : Int32)), .val (.int (0 : Int32))] [(.int (-59 : Int32)), (.ref uo4), (.int (3 : Int32)), (.ref ra2)])) _
    refine XS.ineg X105.here hx rfl (hb hby d14_101) rfl ?_
    show Steps p.tables e below (T105.setTop (mkF m 102 #[.val (.int (-59 : Int32)), .val (.int (5 : Int32)), .val (.ref ra2), .unset, .unset, .val (.int (3 : Int32)), .val (.int (0 : Int32))] [(.int (-(-59 : Int32))), (.ref uo4), (.int (3 : Int32)), (.ref ra2)])) _
    rw [show (-(-59 : Int32)) = (59 : Int32) from by decide]
    show Steps p.tables e below (T105.setTop (mkF m 102 #[.val (.int (-59 : Int32)), .val (.int (5 : Int32)), .val (.ref ra2), .unset, .unset, .val (.int (3 : Int32)), .val (.int (0 : Int32))] [(.int (59 : Int32)), (.ref uo4), (.int (3 : Int32)), (.ref ra2)])) _
    refine X105.baloadBytes hx (j := (59 : Int32)) (v := (.int (53 : Int32))) (by rw [e105]; exact Ar107.1) (State.isArrayOf_alike hZ.alike Ar107.2.1) Ar107.2.2 hin107 (Hh107.at hin107 (rfl)) (g := (mkF m 102 #[.val (.int (-59 : Int32)), .val (.int (5 : Int32)), .val (.ref ra2), .unset, .unset, .val (.int (3 : Int32)), .val (.int (0 : Int32))] [(.int (59 : Int32)), (.ref uo4), (.int (3 : Int32)), (.ref ra2)])) rfl rfl (hb hby d14_102) _ ?_
    show Steps p.tables e below (T105.setTop (mkF m 103 #[.val (.int (-59 : Int32)), .val (.int (5 : Int32)), .val (.ref ra2), .unset, .unset, .val (.int (3 : Int32)), .val (.int (0 : Int32))] [(.int (53 : Int32)), (.int (3 : Int32)), (.ref ra2)])) _
    refine st108 _ ?_
    show Steps p.tables e below (T108.setTop (mkF m 104 #[.val (.int (-59 : Int32)), .val (.int (5 : Int32)), .val (.ref ra2), .unset, .unset, .val (.int (3 : Int32)), .val (.int (0 : Int32))] [])) _
    refine XS.iload X108.here hx rfl (hb hby d14_104) rfl ?_
    show Steps p.tables e below (T108.setTop (mkF m 106 #[.val (.int (-59 : Int32)), .val (.int (5 : Int32)), .val (.ref ra2), .unset, .unset, .val (.int (3 : Int32)), .val (.int (0 : Int32))] [(.int (0 : Int32))])) _
    refine XS.ifYes X108.here hx rfl (pc0 := 106) (pc' := 118) rfl (hb hby d14_106) rfl ((if0 _ _).trans (teq (by decide : (0 : Int32) = (0 : Int32))).1) (by decide) (by decide) ?_
    show Steps p.tables e below (T108.setTop (mkF m 118 #[.val (.int (-59 : Int32)), .val (.int (5 : Int32)), .val (.ref ra2), .unset, .unset, .val (.int (3 : Int32)), .val (.int (0 : Int32))] [])) _
    refine XS.iload X108.here hx rfl (hb hby d14_118) rfl ?_
    show Steps p.tables e below (T108.setTop (mkF m 120 #[.val (.int (-59 : Int32)), .val (.int (5 : Int32)), .val (.ref ra2), .unset, .unset, .val (.int (3 : Int32)), .val (.int (0 : Int32))] [(.int (3 : Int32))])) _
    exact retI X108 hx Bd.returns (hb hby d14_120) hr
  · show Q14x27 Z ra2 uo1 uk2 uk3 uo4 uk5 h0 n0 _ T108.heap _
    rw [e108]
    exact ⟨rfl, N108, (((Keep.refl h0 [ra2]).wr W103 (Or.inl (List.mem_of_getElem? (i := 0) rfl))).wr W108 (Or.inl (List.mem_of_getElem? (i := 0) rfl))), V108⟩
theorem ef_10x23 (m : MethodId) (ra0 : Addr) : entryFrame m #[(.ref ra0), (.int (59 : Int32))] 4 = mkF m 0 #[.val (.ref ra0), .val (.int (59 : Int32)), .unset, .unset] [] := by first | (simp [entryFrame, mkF, argsToLocals, Value.category]; done) | rfl
def Q10x23 (Z : State) (ra0 : Addr) (uo1 : Addr) (uk2 : ClassId) (ui3 : Int32) (uo4 : Addr) (uk5 : ClassId) (uo6 : Addr) (uk7 : ClassId) (h0 : Heap) (n0 : Nat) (v : Option Value) (h : Heap) (L : List Loc) : Prop := v = some (.ref ra0) ∧ Fr n0 L ∧ Keep h0 h [uo1, ra0] ∧ Arv Z h uo1 uk2 .byte (16 : Int32) [(.int (53 : Int32)), (.int (48 : Int32)), (.int (45 : Int32)), (.int (53 : Int32)), (.int (57 : Int32)), (.int (0 : Int32)), (.int (0 : Int32)), (.int (0 : Int32)), (.int (0 : Int32)), (.int (0 : Int32)), (.int (0 : Int32)), (.int (0 : Int32)), (.int (0 : Int32)), (.int (0 : Int32)), (.int (0 : Int32)), (.int (0 : Int32))] (.int (0 : Int32)) ∧ Fld Z h ra0 "java/lang/AbstractStringBuilder" "coder" "B" (.int (0 : Int32)) ∧ Fld Z h ra0 "java/lang/AbstractStringBuilder" "count" "I" (.int (5 : Int32)) ∧ Fld Z h ra0 "java/lang/AbstractStringBuilder" "value" "[B" (.ref uo1)
set_option maxRecDepth 65536 in
set_option maxHeartbeats 40000000 in
theorem rm10x23 (l : Launch) (Z : State) (a0 : Array Value) (hw : ∀ d ∈ tables_1, d.before a0 Z = true) (ws : List Jvm.Cond) (ra0 : Addr) (uo1 : Addr) (uk2 : ClassId) (ui3 : Int32) (uo4 : Addr) (uk5 : ClassId) (uo6 : Addr) (uk7 : ClassId) (h0 : Heap) (n0 : Nat) (Z0 : n0 ≤ h0.size) (H0 : Fld Z h0 ra0 "java/lang/AbstractStringBuilder" "count" "I" (.int (3 : Int32))) (H1 : Exa Z h0 ra0 "java/lang/StringBuilder") (H2 : Fld Z h0 ra0 "java/lang/AbstractStringBuilder" "value" "[B" (.ref uo1)) (H3 : Arv Z h0 uo1 uk2 .byte (16 : Int32) [(.int (53 : Int32)), (.int (48 : Int32)), (.int (45 : Int32)), (.int (0 : Int32)), (.int (0 : Int32)), (.int (0 : Int32)), (.int (0 : Int32)), (.int (0 : Int32)), (.int (0 : Int32)), (.int (0 : Int32)), (.int (0 : Int32)), (.int (0 : Int32)), (.int (0 : Int32)), (.int (0 : Int32)), (.int (0 : Int32)), (.int (0 : Int32))] (.int (0 : Int32))) (H4 : Fld Z h0 ra0 "java/lang/AbstractStringBuilder" "coder" "B" (.int (0 : Int32))) (H5 : Sta Z h0 "java/lang/String" "COMPACT_STRINGS" "Z" (.int ui3)) (H6 : ¬ (ui3 = (0 : Int32))) (H7 : Sta Z h0 "java/lang/Integer" "DigitOnes" "[B" (.ref uo4)) (H8 : Arv Z h0 uo4 uk5 .byte (100 : Int32) own_ones (.int (0 : Int32))) (H9 : n0 ≤ uo1) (H10 : Sta Z h0 "java/lang/Integer" "DigitTens" "[B" (.ref uo6)) (H11 : Arv Z h0 uo6 uk7 .byte (100 : Int32) own_tens (.int (0 : Int32))) (H12 : uo6 ≠ uo1) (H13 : Exa Z h0 uo1 "[B") (H14 : n0 ≤ ra0) :
    MetFree l (⟨"java/lang/AbstractStringBuilder", "append", "(I)Ljava/lang/AbstractStringBuilder;"⟩ : MethodName) (head1 (Jvm.Cond.code (⟨"java/lang/AbstractStringBuilder", "append", "(I)Ljava/lang/AbstractStringBuilder;"⟩ : MethodName) jdk_68_method_32_code 4 (some (.object "java/lang/AbstractStringBuilder")) :: ws) ({ frames := 1, cells := 0, slots := 0, locals := 18 } : Room)) (fun a U => a = #[(.ref ra0), (.int (59 : Int32))] ∧ Z.Warmed39 U.vm ∧ U.heap = h0) (fun _ _ _ _ _ => True) (fun _ U o U' => ∃ v L, o = .returned v ∧ Q10x23 Z ra0 uo1 uk2 ui3 uo4 uk5 uo6 uk7 h0 n0 v U'.heap L ∧ FrameEnd U o U' L ({ frames := 1, cells := 0, slots := 0, locals := 18 } : Room).cells ({ frames := 1, cells := 0, slots := 0, locals := 18 } : Room).slots) := by
  refine MetFree.of_bodySF (plainFor_of_name pn_java_lang_AbstractStringBuilder) hisR ?_
  intro p e s m args below meth c s₁ Bd hml0 hP hK
  obtain ⟨rfl, hZ, hh⟩ := hP
  have hx := Bd.exec
  have hby := Bd.bytes
  have hml : c.maxLocals = 4 := hml0
  have hown : s.vm.findClass "java/lang/AbstractStringBuilder" = some m.cls := findClass_of_methodNamed Bd.named
  have hnm := (name_of_methodNamed Bd.named Bd.method).1
  have X0 : Stand p l e ({ frames := 1, cells := 0, slots := 0, locals := 18 } : Room) s m #[(.ref ra0), (.int (59 : Int32))] below meth c s₁ [] 0 0 := Stand.of_body Bd
  have e0 : s₁.heap = h0 := by rw [← hh, Bd.state]; rfl
  have N0 := Fr.nil n0
  have pre0 : ∀ t, Steps p.tables e below (s₁.setTop (mkF m 0 #[.val (.ref ra0), .val (.int (59 : Int32)), .unset, .unset] [])) t → Steps p.tables e below (s₁.setTop (entryFrame m #[(.ref ra0), (.int (59 : Int32))] 4)) t := fun t k => castTop (ef_10x23 m ra0) k
  obtain ⟨T101, X101, e101, st101⟩ := getF X0 hx hZ hown (host := "") (Or.inl (hw _ (List.mem_of_getElem? (i := 78) rfl))) Via.refl e0 H0 (g := (mkF m 1 #[.val (.ref ra0), .val (.int (59 : Int32)), .unset, .unset] [(.ref ra0)])) rfl rfl (hb hby d10_1)
  obtain ⟨_, _, ⟨T102, L102, k102, n102⟩, -, X102, ⟨Lc102, hQ102, l102, y102, z102⟩, st102⟩ := Jvm.LawKit.callS X101 hx (y := (⟨"java/lang/Integer", "stringSize", "(I)I"⟩ : MethodName)) hown (mvT hZ (hw _ (List.mem_of_getElem? (i := 80) rfl))) (mvT hZ (hw _ (List.mem_of_getElem? (i := 81) rfl))) (mvT hZ (hw _ (List.mem_of_getElem? (i := 82) rfl))) (mvT hZ (hw _ (List.mem_of_getElem? (i := 83) rfl))) (by decide) (backOf (W := 1) (rm11x24 l Z a0 hw []  h0 n0 Z0) hZ (hw _ (List.mem_of_getElem? (i := 83) rfl)) (hw _ (List.mem_of_getElem? (i := 82) rfl)) (by decide) (by decide)) (g := (mkF m 7 #[.val (.ref ra0), .val (.int (59 : Int32)), .val (.int (3 : Int32)), .unset] [(.int (59 : Int32)), (.int (3 : Int32))])) rfl (by rw [hml]; rfl) (argsL := [(.int (59 : Int32))]) (rest := [(.int (3 : Int32))]) (lenOf pd_3 rfl) rfl (by show 2 * 0 + _ ≤ _; exact Nat.le_of_eq rfl) (hb hby d10_7) (fun _ _ => ⟨rfl, e101, (by decide : 0 + 0 ≤ _), (by decide : 0 + 0 ≤ _)⟩)
  dsimp only [Pt.U, Pt.locs, Pt.cells, Pt.slots] at X102 l102 y102 z102 st102 hQ102
  subst l102 y102 z102
  obtain ⟨rfl, Nq102, Heq102⟩ := hQ102
  have N102 := Fr.app N0 Nq102
  obtain ⟨cq103, kq103, q103a, q103b, q103c⟩ := isOf hZ Heq102 H1
  obtain ⟨_, _, ⟨T103, L103, k103, n103⟩, -, X103, ⟨Lc103, hQ103, l103, y103, z103⟩, st103⟩ := X102.virtualBack hx (y := (⟨"java/lang/AbstractStringBuilder", "ensureCapacityInternal", "(I)V"⟩ : MethodName)) (z := (⟨"java/lang/AbstractStringBuilder", "ensureCapacityInternal", "(I)V"⟩ : MethodName)) hown (mvT hZ (hw _ (List.mem_of_getElem? (i := 84) rfl))) (mvT hZ (own_declares (hw _ (List.mem_of_getElem? (i := 85) rfl)) (hw _ (List.mem_of_getElem? (i := 88) rfl)))) (notFace_of_selects (args := #[]) (mvT hZ (hw _ (List.mem_of_getElem? (i := 87) rfl)))) (mvT hZ (hw _ (List.mem_of_getElem? (i := 87) rfl))) (mvT hZ (hw _ (List.mem_of_getElem? (i := 85) rfl))) (by decide) (backOf (W := 0) (rm12x25 l Z a0 hw [] ra0 uo1 uk2 h0 n0 Z0 H2 H3 H4) hZ (hw _ (List.mem_of_getElem? (i := 88) rfl)) (hw _ (List.mem_of_getElem? (i := 56) rfl)) (by decide) (by decide)) q103a q103c (g := (mkF m 14 #[.val (.ref ra0), .val (.int (59 : Int32)), .val (.int (3 : Int32)), .val (.int (5 : Int32))] [(.int (5 : Int32)), (.ref ra0)])) rfl (by rw [hml]; rfl) (Steps.refl _) (argsL := [(.int (5 : Int32))]) (rest := []) (lenOf pd_1 rfl) rfl (by show 2 * 0 + _ ≤ _; exact Nat.le_of_eq rfl) (hb hby d10_14) (fun _ _ => ⟨rfl, Heq102, (by decide : 0 + 0 ≤ _), (by decide : 0 + 0 ≤ _)⟩)
  dsimp only [Pt.U, Pt.locs, Pt.cells, Pt.slots] at X103 l103 y103 z103 st103 hQ103
  subst l103 y103 z103
  obtain ⟨rfl, Nq103, Heq103⟩ := hQ103
  have N103 := Fr.app N102 Nq103
  obtain ⟨cq104, kq104, q104a, q104b, q104c⟩ := isOf hZ Heq103 H1
  obtain ⟨_, _, ⟨T104, L104, k104, n104⟩, -, X104, ⟨Lc104, hQ104, l104, y104, z104⟩, st104⟩ := X103.virtualBack hx (y := (⟨"java/lang/AbstractStringBuilder", "isLatin1", "()Z"⟩ : MethodName)) (z := (⟨"java/lang/AbstractStringBuilder", "isLatin1", "()Z"⟩ : MethodName)) hown (mvT hZ (hw _ (List.mem_of_getElem? (i := 89) rfl))) (mvT hZ (hw _ (List.mem_of_getElem? (i := 90) rfl))) (notFace_of_selects (args := #[]) (mvT hZ (hw _ (List.mem_of_getElem? (i := 92) rfl)))) (mvT hZ (hw _ (List.mem_of_getElem? (i := 92) rfl))) (mvT hZ (hw _ (List.mem_of_getElem? (i := 91) rfl))) (by decide) (backOf (W := 0) (rm13x26 l Z a0 hw [] ra0 ui3 h0 n0 Z0 H5 H6 H4) hZ (hw _ (List.mem_of_getElem? (i := 93) rfl)) (hw _ (List.mem_of_getElem? (i := 56) rfl)) (by decide) (by decide)) q104a q104c (g := (mkF m 18 #[.val (.ref ra0), .val (.int (59 : Int32)), .val (.int (3 : Int32)), .val (.int (5 : Int32))] [(.ref ra0)])) rfl (by rw [hml]; rfl) (Steps.refl _) (argsL := []) (rest := []) (lenOf pd_4 rfl) rfl (by show 2 * 0 + _ ≤ _; exact Nat.le_of_eq rfl) (hb hby d10_18) (fun _ _ => ⟨rfl, Heq103, (by decide : 0 + 0 ≤ _), (by decide : 0 + 0 ≤ _)⟩)
  dsimp only [Pt.U, Pt.locs, Pt.cells, Pt.slots] at X104 l104 y104 z104 st104 hQ104
  subst l104 y104 z104
  obtain ⟨rfl, Nq104, Heq104⟩ := hQ104
  have N104 := Fr.app N103 Nq104
  obtain ⟨T105, X105, e105, st105⟩ := getF X104 hx hZ hown (host := "") (Or.inl (hw _ (List.mem_of_getElem? (i := 64) rfl))) Via.refl Heq104 H2 (g := (mkF m 27 #[.val (.ref ra0), .val (.int (59 : Int32)), .val (.int (3 : Int32)), .val (.int (5 : Int32))] [(.ref ra0), (.int (5 : Int32)), (.int (59 : Int32))])) rfl rfl (hb hby d10_27)
  obtain ⟨_, _, ⟨T106, L106, k106, n106⟩, -, X106, ⟨Lc106, hQ106, l106, y106, z106⟩, st106⟩ := Jvm.LawKit.callS X105 hx (y := (⟨"java/lang/Integer", "getChars", "(II[B)I"⟩ : MethodName)) hown (mvT hZ (hw _ (List.mem_of_getElem? (i := 94) rfl))) (mvT hZ (hw _ (List.mem_of_getElem? (i := 95) rfl))) (mvT hZ (hw _ (List.mem_of_getElem? (i := 82) rfl))) (mvT hZ (hw _ (List.mem_of_getElem? (i := 96) rfl))) (by decide) (backOf (W := 0) (rm14x27 l Z a0 hw [] uo1 uo4 uk5 uk2 uo6 uk7 h0 n0 Z0 H7 H8 H3 H9 H10 H11 H12 H13) hZ (hw _ (List.mem_of_getElem? (i := 96) rfl)) (hw _ (List.mem_of_getElem? (i := 82) rfl)) (by decide) (by decide)) (g := (mkF m 30 #[.val (.ref ra0), .val (.int (59 : Int32)), .val (.int (3 : Int32)), .val (.int (5 : Int32))] [(.ref uo1), (.int (5 : Int32)), (.int (59 : Int32))])) rfl (by rw [hml]; rfl) (argsL := [(.int (59 : Int32)), (.int (5 : Int32)), (.ref uo1)]) (rest := []) (lenOf pd_5 rfl) rfl (by show 2 * 0 + _ ≤ _; exact Nat.le_of_eq rfl) (hb hby d10_30) (fun _ _ => ⟨rfl, e105, (by decide : 0 + 0 ≤ _), (by decide : 0 + 0 ≤ _)⟩)
  dsimp only [Pt.U, Pt.locs, Pt.cells, Pt.slots] at X106 l106 y106 z106 st106 hQ106
  subst l106 y106 z106
  obtain ⟨rfl, Nq106, K106, R106_1⟩ := hQ106
  have N106 := Fr.app N104 Nq106
  have ne107 : ra0 ≠ uo1 := ne_exa H1 H13 (by decide)
  have f108 : Fld Z T106.heap ra0 "java/lang/AbstractStringBuilder" "count" "I" (.int (3 : Int32)) := (H0.keep K106 (ninS ne107 nin0))
  have f109 : Exa Z T106.heap ra0 "java/lang/StringBuilder" := (H1.keep K106)
  obtain ⟨T110, h110, X110, e110, W110, st110⟩ := putF X106 hx hZ hown (host := "") (Or.inl (hw _ (List.mem_of_getElem? (i := 78) rfl))) Via.refl rfl f108 f109 (Or.inl (hw _ (List.mem_of_getElem? (i := 79) rfl))) (hw _ (List.mem_of_getElem? (i := 47) rfl)) (ty := .int) (by decide) rfl rfl (g := (mkF m 50 #[.val (.ref ra0), .val (.int (59 : Int32)), .val (.int (3 : Int32)), .val (.int (5 : Int32))] [(.int (5 : Int32)), (.ref ra0)])) rfl rfl (hb hby d10_50)
  have Fw110 := f108.same W110
  have N110 := Fr.snoc X110 N106 H14
  have f111 : Arv Z h110 uo1 uk2 .byte (16 : Int32) [(.int (53 : Int32)), (.int (48 : Int32)), (.int (45 : Int32)), (.int (53 : Int32)), (.int (57 : Int32)), (.int (0 : Int32)), (.int (0 : Int32)), (.int (0 : Int32)), (.int (0 : Int32)), (.int (0 : Int32)), (.int (0 : Int32)), (.int (0 : Int32)), (.int (0 : Int32)), (.int (0 : Int32)), (.int (0 : Int32)), (.int (0 : Int32))] (.int (0 : Int32)) := (R106_1.other W110 (Ne.symm ne107))
  have f112 : Fld Z h110 ra0 "java/lang/AbstractStringBuilder" "coder" "B" (.int (0 : Int32)) := ((H4.keep K106 (ninS ne107 nin0)).other W110 (Or.inr (slot_ne (Or.inl (hw _ (List.mem_of_getElem? (i := 67) rfl))) (Or.inl (hw _ (List.mem_of_getElem? (i := 79) rfl))) (by decide) (t := .byte) (t' := .int) (by decide) (by decide))))
  have f113 : Fld Z h110 ra0 "java/lang/AbstractStringBuilder" "value" "[B" (.ref uo1) := ((H2.keep K106 (ninS ne107 nin0)).other W110 (Or.inr (slot_ne (Or.inl (hw _ (List.mem_of_getElem? (i := 65) rfl))) (Or.inl (hw _ (List.mem_of_getElem? (i := 79) rfl))) (by decide) (t := (.array .byte)) (t' := .int) (by decide) (by decide))))
  obtain ⟨fs, hr, hrun, hended, hW, hsame⟩ := X110.leave (v := some (.ref ra0)) (fun h => by rw [Bd.returns] at h; cases h)
  refine ⟨_, _, pre0 _ ?_, hrun, hended, _, _, rfl, ?_, ⟨_, rfl⟩, hW, hsame.mono (by decide) (by decide)⟩
  · skip
    show Steps p.tables e below (s₁.setTop (mkF m 0 #[.val (.ref ra0), .val (.int (59 : Int32)), .unset, .unset] [])) _
    refine XS.aloadN X0.here hx rfl (hb hby d10_0) rfl rfl ?_
    show Steps p.tables e below (s₁.setTop (mkF m 1 #[.val (.ref ra0), .val (.int (59 : Int32)), .unset, .unset] [(.ref ra0)])) _
    refine st101 _ ?_
    show Steps p.tables e below (T101.setTop (mkF m 4 #[.val (.ref ra0), .val (.int (59 : Int32)), .unset, .unset] [(.int (3 : Int32))])) _
    refine XS.istoreN X101.here hx rfl (hb hby d10_4) rfl (l' := #[.val (.ref ra0), .val (.int (59 : Int32)), .val (.int (3 : Int32)), .unset]) rfl ?_
    show Steps p.tables e below (T101.setTop (mkF m 5 #[.val (.ref ra0), .val (.int (59 : Int32)), .val (.int (3 : Int32)), .unset] [])) _
    refine XS.iloadN X101.here hx rfl (hb hby d10_5) rfl ?_
    show Steps p.tables e below (T101.setTop (mkF m 6 #[.val (.ref ra0), .val (.int (59 : Int32)), .val (.int (3 : Int32)), .unset] [(.int (3 : Int32))])) _
    refine XS.iloadN X101.here hx rfl (hb hby d10_6) rfl ?_
    show Steps p.tables e below (T101.setTop (mkF m 7 #[.val (.ref ra0), .val (.int (59 : Int32)), .val (.int (3 : Int32)), .unset] [(.int (59 : Int32)), (.int (3 : Int32))])) _
    refine st102 _ ?_
    show Steps p.tables e below (T102.setTop (mkF m 10 #[.val (.ref ra0), .val (.int (59 : Int32)), .val (.int (3 : Int32)), .unset] [(.int (2 : Int32)), (.int (3 : Int32))])) _
    refine XS.iadd X102.here hx rfl (hb hby d10_10) rfl ?_
    show Steps p.tables e below (T102.setTop (mkF m 11 #[.val (.ref ra0), .val (.int (59 : Int32)), .val (.int (3 : Int32)), .unset] [(.int ((3 : Int32) + (2 : Int32)))])) _
    rw [show ((3 : Int32) + (2 : Int32)) = (5 : Int32) from by decide]
    show Steps p.tables e below (T102.setTop (mkF m 11 #[.val (.ref ra0), .val (.int (59 : Int32)), .val (.int (3 : Int32)), .unset] [(.int (5 : Int32))])) _
    refine XS.istoreN X102.here hx rfl (hb hby d10_11) rfl (l' := #[.val (.ref ra0), .val (.int (59 : Int32)), .val (.int (3 : Int32)), .val (.int (5 : Int32))]) rfl ?_
    show Steps p.tables e below (T102.setTop (mkF m 12 #[.val (.ref ra0), .val (.int (59 : Int32)), .val (.int (3 : Int32)), .val (.int (5 : Int32))] [])) _
    refine XS.aloadN X102.here hx rfl (hb hby d10_12) rfl rfl ?_
    show Steps p.tables e below (T102.setTop (mkF m 13 #[.val (.ref ra0), .val (.int (59 : Int32)), .val (.int (3 : Int32)), .val (.int (5 : Int32))] [(.ref ra0)])) _
    refine XS.iloadN X102.here hx rfl (hb hby d10_13) rfl ?_
    show Steps p.tables e below (T102.setTop (mkF m 14 #[.val (.ref ra0), .val (.int (59 : Int32)), .val (.int (3 : Int32)), .val (.int (5 : Int32))] [(.int (5 : Int32)), (.ref ra0)])) _
    refine st103.trans ?_
    show Steps p.tables e below (T103.setTop (mkF m 17 #[.val (.ref ra0), .val (.int (59 : Int32)), .val (.int (3 : Int32)), .val (.int (5 : Int32))] [])) _
    refine XS.aloadN X103.here hx rfl (hb hby d10_17) rfl rfl ?_
    show Steps p.tables e below (T103.setTop (mkF m 18 #[.val (.ref ra0), .val (.int (59 : Int32)), .val (.int (3 : Int32)), .val (.int (5 : Int32))] [(.ref ra0)])) _
    refine st104.trans ?_
    show Steps p.tables e below (T104.setTop (mkF m 21 #[.val (.ref ra0), .val (.int (59 : Int32)), .val (.int (3 : Int32)), .val (.int (5 : Int32))] [(.int (1 : Int32))])) _
    refine XS.ifNo X104.here hx rfl (hb hby d10_21) rfl ((if0 _ _).trans (feq (by decide : ¬ ((1 : Int32) = (0 : Int32)))).1) ?_
    show Steps p.tables e below (T104.setTop (mkF m 24 #[.val (.ref ra0), .val (.int (59 : Int32)), .val (.int (3 : Int32)), .val (.int (5 : Int32))] [])) _
    refine XS.iloadN X104.here hx rfl (hb hby d10_24) rfl ?_
    show Steps p.tables e below (T104.setTop (mkF m 25 #[.val (.ref ra0), .val (.int (59 : Int32)), .val (.int (3 : Int32)), .val (.int (5 : Int32))] [(.int (59 : Int32))])) _
    refine XS.iloadN X104.here hx rfl (hb hby d10_25) rfl ?_
    show Steps p.tables e below (T104.setTop (mkF m 26 #[.val (.ref ra0), .val (.int (59 : Int32)), .val (.int (3 : Int32)), .val (.int (5 : Int32))] [(.int (5 : Int32)), (.int (59 : Int32))])) _
    refine XS.aloadN X104.here hx rfl (hb hby d10_26) rfl rfl ?_
    show Steps p.tables e below (T104.setTop (mkF m 27 #[.val (.ref ra0), .val (.int (59 : Int32)), .val (.int (3 : Int32)), .val (.int (5 : Int32))] [(.ref ra0), (.int (5 : Int32)), (.int (59 : Int32))])) _
    refine st105 _ ?_
    show Steps p.tables e below (T105.setTop (mkF m 30 #[.val (.ref ra0), .val (.int (59 : Int32)), .val (.int (3 : Int32)), .val (.int (5 : Int32))] [(.ref uo1), (.int (5 : Int32)), (.int (59 : Int32))])) _
    refine st106 _ ?_
    show Steps p.tables e below (T106.setTop (mkF m 33 #[.val (.ref ra0), .val (.int (59 : Int32)), .val (.int (3 : Int32)), .val (.int (5 : Int32))] [(.int (3 : Int32))])) _
    refine XS.pop X106.here hx rfl (hb hby d10_33) rfl rfl ?_
    show Steps p.tables e below (T106.setTop (mkF m 34 #[.val (.ref ra0), .val (.int (59 : Int32)), .val (.int (3 : Int32)), .val (.int (5 : Int32))] [])) _
    refine XS.goto X106.here hx rfl (pc0 := 34) (pc' := 48) rfl (hb hby d10_34) (by decide) (by decide) ?_
    show Steps p.tables e below (T106.setTop (mkF m 48 #[.val (.ref ra0), .val (.int (59 : Int32)), .val (.int (3 : Int32)), .val (.int (5 : Int32))] [])) _
    refine XS.aloadN X106.here hx rfl (hb hby d10_48) rfl rfl ?_
    show Steps p.tables e below (T106.setTop (mkF m 49 #[.val (.ref ra0), .val (.int (59 : Int32)), .val (.int (3 : Int32)), .val (.int (5 : Int32))] [(.ref ra0)])) _
    refine XS.iloadN X106.here hx rfl (hb hby d10_49) rfl ?_
    show Steps p.tables e below (T106.setTop (mkF m 50 #[.val (.ref ra0), .val (.int (59 : Int32)), .val (.int (3 : Int32)), .val (.int (5 : Int32))] [(.int (5 : Int32)), (.ref ra0)])) _
    refine st110 _ ?_
    show Steps p.tables e below (T110.setTop (mkF m 53 #[.val (.ref ra0), .val (.int (59 : Int32)), .val (.int (3 : Int32)), .val (.int (5 : Int32))] [])) _
    refine XS.aloadN X110.here hx rfl (hb hby d10_53) rfl rfl ?_
    show Steps p.tables e below (T110.setTop (mkF m 54 #[.val (.ref ra0), .val (.int (59 : Int32)), .val (.int (3 : Int32)), .val (.int (5 : Int32))] [(.ref ra0)])) _
    jvm_step X110.here [X110.here.top, hx, (hb hby d10_54), X110.method', Bd.returns, Value.isRef, FieldType.isReference]
    first | (intro acts; rw [hr _ acts rfl rfl rfl]) | rw [hr _ _ rfl rfl rfl]
    exact Steps.refl _
  · show Q10x23 Z ra0 uo1 uk2 ui3 uo4 uk5 uo6 uk7 h0 n0 _ T110.heap _
    rw [e110]
    exact ⟨rfl, N110, (((Keep.refl h0 [uo1, ra0]).trans K106 (allS (P := (fun x => x ∈ [uo1, ra0] ∨ h0.size ≤ x)) (Or.inl (List.mem_of_getElem? (i := 0) rfl)) all0)).wr W110 (Or.inl (List.mem_of_getElem? (i := 1) rfl))), f111, f112, Fw110, f113⟩
theorem ef_9x22 (m : MethodId) (ra0 : Addr) : entryFrame m #[(.ref ra0), (.int (59 : Int32))] 2 = mkF m 0 #[.val (.ref ra0), .val (.int (59 : Int32))] [] := by first | (simp [entryFrame, mkF, argsToLocals, Value.category]; done) | rfl
def Q9x22 (Z : State) (ra0 : Addr) (uo1 : Addr) (uk2 : ClassId) (ui3 : Int32) (uo4 : Addr) (uk5 : ClassId) (uo6 : Addr) (uk7 : ClassId) (h0 : Heap) (n0 : Nat) (v : Option Value) (h : Heap) (L : List Loc) : Prop := v = some (.ref ra0) ∧ Fr n0 L ∧ Keep h0 h [uo1, ra0] ∧ Arv Z h uo1 uk2 .byte (16 : Int32) [(.int (53 : Int32)), (.int (48 : Int32)), (.int (45 : Int32)), (.int (53 : Int32)), (.int (57 : Int32)), (.int (0 : Int32)), (.int (0 : Int32)), (.int (0 : Int32)), (.int (0 : Int32)), (.int (0 : Int32)), (.int (0 : Int32)), (.int (0 : Int32)), (.int (0 : Int32)), (.int (0 : Int32)), (.int (0 : Int32)), (.int (0 : Int32))] (.int (0 : Int32)) ∧ Fld Z h ra0 "java/lang/AbstractStringBuilder" "coder" "B" (.int (0 : Int32)) ∧ Fld Z h ra0 "java/lang/AbstractStringBuilder" "count" "I" (.int (5 : Int32)) ∧ Fld Z h ra0 "java/lang/AbstractStringBuilder" "value" "[B" (.ref uo1)
set_option maxRecDepth 65536 in
set_option maxHeartbeats 40000000 in
theorem rm9x22 (l : Launch) (Z : State) (a0 : Array Value) (hw : ∀ d ∈ tables_1, d.before a0 Z = true) (ws : List Jvm.Cond) (ra0 : Addr) (uo1 : Addr) (uk2 : ClassId) (ui3 : Int32) (uo4 : Addr) (uk5 : ClassId) (uo6 : Addr) (uk7 : ClassId) (h0 : Heap) (n0 : Nat) (Z0 : n0 ≤ h0.size) (H0 : Fld Z h0 ra0 "java/lang/AbstractStringBuilder" "count" "I" (.int (3 : Int32))) (H1 : Exa Z h0 ra0 "java/lang/StringBuilder") (H2 : Fld Z h0 ra0 "java/lang/AbstractStringBuilder" "value" "[B" (.ref uo1)) (H3 : Arv Z h0 uo1 uk2 .byte (16 : Int32) [(.int (53 : Int32)), (.int (48 : Int32)), (.int (45 : Int32)), (.int (0 : Int32)), (.int (0 : Int32)), (.int (0 : Int32)), (.int (0 : Int32)), (.int (0 : Int32)), (.int (0 : Int32)), (.int (0 : Int32)), (.int (0 : Int32)), (.int (0 : Int32)), (.int (0 : Int32)), (.int (0 : Int32)), (.int (0 : Int32)), (.int (0 : Int32))] (.int (0 : Int32))) (H4 : Fld Z h0 ra0 "java/lang/AbstractStringBuilder" "coder" "B" (.int (0 : Int32))) (H5 : Sta Z h0 "java/lang/String" "COMPACT_STRINGS" "Z" (.int ui3)) (H6 : ¬ (ui3 = (0 : Int32))) (H7 : Sta Z h0 "java/lang/Integer" "DigitOnes" "[B" (.ref uo4)) (H8 : Arv Z h0 uo4 uk5 .byte (100 : Int32) own_ones (.int (0 : Int32))) (H9 : n0 ≤ uo1) (H10 : Sta Z h0 "java/lang/Integer" "DigitTens" "[B" (.ref uo6)) (H11 : Arv Z h0 uo6 uk7 .byte (100 : Int32) own_tens (.int (0 : Int32))) (H12 : uo6 ≠ uo1) (H13 : Exa Z h0 uo1 "[B") (H14 : n0 ≤ ra0) :
    MetFree l (⟨"java/lang/StringBuilder", "append", "(I)Ljava/lang/StringBuilder;"⟩ : MethodName) (head1 (Jvm.Cond.code (⟨"java/lang/StringBuilder", "append", "(I)Ljava/lang/StringBuilder;"⟩ : MethodName) jdk_67_method_15_code 2 (some (.object "java/lang/StringBuilder")) :: ws) ({ frames := 2, cells := 0, slots := 0, locals := 33 } : Room)) (fun a U => a = #[(.ref ra0), (.int (59 : Int32))] ∧ Z.Warmed39 U.vm ∧ U.heap = h0) (fun _ _ _ _ _ => True) (fun _ U o U' => ∃ v L, o = .returned v ∧ Q9x22 Z ra0 uo1 uk2 ui3 uo4 uk5 uo6 uk7 h0 n0 v U'.heap L ∧ FrameEnd U o U' L ({ frames := 2, cells := 0, slots := 0, locals := 33 } : Room).cells ({ frames := 2, cells := 0, slots := 0, locals := 33 } : Room).slots) := by
  refine MetFree.of_bodySF (plainFor_of_name pn_java_lang_StringBuilder) hisR ?_
  intro p e s m args below meth c s₁ Bd hml0 hP hK
  obtain ⟨rfl, hZ, hh⟩ := hP
  have hx := Bd.exec
  have hby := Bd.bytes
  have hml : c.maxLocals = 2 := hml0
  have hown : s.vm.findClass "java/lang/StringBuilder" = some m.cls := findClass_of_methodNamed Bd.named
  have hnm := (name_of_methodNamed Bd.named Bd.method).1
  have X0 : Stand p l e ({ frames := 2, cells := 0, slots := 0, locals := 33 } : Room) s m #[(.ref ra0), (.int (59 : Int32))] below meth c s₁ [] 0 0 := Stand.of_body Bd
  have e0 : s₁.heap = h0 := by rw [← hh, Bd.state]; rfl
  have N0 := Fr.nil n0
  have pre0 : ∀ t, Steps p.tables e below (s₁.setTop (mkF m 0 #[.val (.ref ra0), .val (.int (59 : Int32))] [])) t → Steps p.tables e below (s₁.setTop (entryFrame m #[(.ref ra0), (.int (59 : Int32))] 2)) t := fun t k => castTop (ef_9x22 m ra0) k
  obtain ⟨_, _, ⟨T101, L101, k101, n101⟩, -, X101, ⟨Lc101, hQ101, l101, y101, z101⟩, st101⟩ := superBack X0 hx hZ (y := (⟨"java/lang/AbstractStringBuilder", "append", "(I)Ljava/lang/AbstractStringBuilder;"⟩ : MethodName)) hown (hw _ (List.mem_of_getElem? (i := 73) rfl)) (own_same (hw _ (List.mem_of_getElem? (i := 74) rfl)) (hw _ (List.mem_of_getElem? (i := 87) rfl)) rfl (by decide)) (hw _ (List.mem_of_getElem? (i := 74) rfl)) (hw _ (List.mem_of_getElem? (i := 75) rfl)) (by decide) (backOf (W := 0) (rm10x23 l Z a0 hw [] ra0 uo1 uk2 ui3 uo4 uk5 uo6 uk7 h0 n0 Z0 H0 H1 H2 H3 H4 H5 H6 H7 H8 H9 H10 H11 H12 H13 H14) hZ (hw _ (List.mem_of_getElem? (i := 77) rfl)) (hw _ (List.mem_of_getElem? (i := 56) rfl)) (by decide) (by decide)) e0 (Ins.self H1) (g := (mkF m 2 #[.val (.ref ra0), .val (.int (59 : Int32))] [(.int (59 : Int32)), (.ref ra0)])) rfl (by rw [hml]; rfl) (hw _ (List.mem_of_getElem? (i := 77) rfl)) (argsL := [(.int (59 : Int32))]) (rest := []) (lenOf pd_6 rfl) rfl (by show 2 * 0 + _ ≤ _; exact Nat.le_of_eq rfl) (hb hby d9_2) (fun _ _ => ⟨rfl, e0, (by decide : 0 + 0 ≤ _), (by decide : 0 + 0 ≤ _)⟩)
  dsimp only [Pt.U, Pt.locs, Pt.cells, Pt.slots] at X101 l101 y101 z101 st101 hQ101
  subst l101 y101 z101
  obtain ⟨rfl, Nq101, K101, R101_1, R101_2, R101_3, R101_4⟩ := hQ101
  have N101 := Fr.app N0 Nq101
  obtain ⟨fs, hr, hrun, hended, hW, hsame⟩ := X101.leave (v := some (.ref ra0)) (fun h => by rw [Bd.returns] at h; cases h)
  refine ⟨_, _, pre0 _ ?_, hrun, hended, _, _, rfl, ?_, ⟨_, rfl⟩, hW, hsame.mono (by decide) (by decide)⟩
  · skip
    show Steps p.tables e below (s₁.setTop (mkF m 0 #[.val (.ref ra0), .val (.int (59 : Int32))] [])) _
    refine XS.aloadN X0.here hx rfl (hb hby d9_0) rfl rfl ?_
    show Steps p.tables e below (s₁.setTop (mkF m 1 #[.val (.ref ra0), .val (.int (59 : Int32))] [(.ref ra0)])) _
    refine XS.iloadN X0.here hx rfl (hb hby d9_1) rfl ?_
    show Steps p.tables e below (s₁.setTop (mkF m 2 #[.val (.ref ra0), .val (.int (59 : Int32))] [(.int (59 : Int32)), (.ref ra0)])) _
    refine st101.trans ?_
    show Steps p.tables e below (T101.setTop (mkF m 5 #[.val (.ref ra0), .val (.int (59 : Int32))] [(.ref ra0)])) _
    refine XS.pop X101.here hx rfl (hb hby d9_5) rfl rfl ?_
    show Steps p.tables e below (T101.setTop (mkF m 6 #[.val (.ref ra0), .val (.int (59 : Int32))] [])) _
    refine XS.aloadN X101.here hx rfl (hb hby d9_6) rfl rfl ?_
    show Steps p.tables e below (T101.setTop (mkF m 7 #[.val (.ref ra0), .val (.int (59 : Int32))] [(.ref ra0)])) _
    jvm_step X101.here [X101.here.top, hx, (hb hby d9_7), X101.method', Bd.returns, Value.isRef, FieldType.isReference]
    first | (intro acts; rw [hr _ acts rfl rfl rfl]) | rw [hr _ _ rfl rfl rfl]
    exact Steps.refl _
  · show Q9x22 Z ra0 uo1 uk2 ui3 uo4 uk5 uo6 uk7 h0 n0 _ T101.heap _
    exact ⟨rfl, N101, ((Keep.refl h0 [uo1, ra0]).trans K101 (allS (P := (fun x => x ∈ [uo1, ra0] ∨ h0.size ≤ x)) (Or.inl (List.mem_of_getElem? (i := 0) rfl)) (allS (P := (fun x => x ∈ [uo1, ra0] ∨ h0.size ≤ x)) (Or.inl (List.mem_of_getElem? (i := 1) rfl)) all0))), R101_1, R101_2, R101_3, R101_4⟩
theorem d25_0 : decode jdk_68_method_64_code 0 = .ok (.aload_n 0, 1) := by decide +kernel
theorem d25_1 : decode jdk_68_method_64_code 1 = .ok (.getfield 15, 3) := by decide +kernel
theorem d25_4 : decode jdk_68_method_64_code 4 = .ok (.areturn, 1) := by decide +kernel
theorem ef_25x31 (m : MethodId) (ra0 : Addr) : entryFrame m #[(.ref ra0)] 1 = mkF m 0 #[.val (.ref ra0)] [] := by first | (simp [entryFrame, mkF, argsToLocals, Value.category]; done) | rfl
def Q25x31 (Z : State) (ra0 : Addr) (uo1 : Addr) (h0 : Heap) (n0 : Nat) (v : Option Value) (h : Heap) (L : List Loc) : Prop := v = some (.ref uo1) ∧ Fr n0 L ∧ h = h0
set_option maxRecDepth 65536 in
set_option maxHeartbeats 40000000 in
theorem rm25x31 (l : Launch) (Z : State) (a0 : Array Value) (hw : ∀ d ∈ tables_1, d.before a0 Z = true) (ws : List Jvm.Cond) (ra0 : Addr) (uo1 : Addr) (h0 : Heap) (n0 : Nat) (Z0 : n0 ≤ h0.size) (H0 : Fld Z h0 ra0 "java/lang/AbstractStringBuilder" "value" "[B" (.ref uo1)) :
    MetFree l (⟨"java/lang/AbstractStringBuilder", "getValue", "()[B"⟩ : MethodName) (head1 (Jvm.Cond.code (⟨"java/lang/AbstractStringBuilder", "getValue", "()[B"⟩ : MethodName) jdk_68_method_64_code 1 (some (.array .byte)) :: ws) ({ frames := 0, cells := 0, slots := 0, locals := 0 } : Room)) (fun a U => a = #[(.ref ra0)] ∧ Z.Warmed39 U.vm ∧ U.heap = h0) (fun _ _ _ _ _ => True) (fun _ U o U' => ∃ v L, o = .returned v ∧ Q25x31 Z ra0 uo1 h0 n0 v U'.heap L ∧ FrameEnd U o U' L ({ frames := 0, cells := 0, slots := 0, locals := 0 } : Room).cells ({ frames := 0, cells := 0, slots := 0, locals := 0 } : Room).slots) := by
  refine MetFree.of_bodySF (plainFor_of_name pn_java_lang_AbstractStringBuilder) hisR ?_
  intro p e s m args below meth c s₁ Bd hml0 hP hK
  obtain ⟨rfl, hZ, hh⟩ := hP
  have hx := Bd.exec
  have hby := Bd.bytes
  have hml : c.maxLocals = 1 := hml0
  have hown : s.vm.findClass "java/lang/AbstractStringBuilder" = some m.cls := findClass_of_methodNamed Bd.named
  have hnm := (name_of_methodNamed Bd.named Bd.method).1
  have X0 : Stand p l e ({ frames := 0, cells := 0, slots := 0, locals := 0 } : Room) s m #[(.ref ra0)] below meth c s₁ [] 0 0 := Stand.of_body Bd
  have e0 : s₁.heap = h0 := by rw [← hh, Bd.state]; rfl
  have N0 := Fr.nil n0
  have pre0 : ∀ t, Steps p.tables e below (s₁.setTop (mkF m 0 #[.val (.ref ra0)] [])) t → Steps p.tables e below (s₁.setTop (entryFrame m #[(.ref ra0)] 1)) t := fun t k => castTop (ef_25x31 m ra0) k
  obtain ⟨T101, X101, e101, st101⟩ := getF X0 hx hZ hown (host := "") (Or.inl (hw _ (List.mem_of_getElem? (i := 64) rfl))) Via.refl e0 H0 (g := (mkF m 1 #[.val (.ref ra0)] [(.ref ra0)])) rfl rfl (hb hby d25_1)
  obtain ⟨fs, hr, hrun, hended, hW, hsame⟩ := X101.leave (v := some (.ref uo1)) (fun h => by rw [Bd.returns] at h; cases h)
  refine ⟨_, _, pre0 _ ?_, hrun, hended, _, _, rfl, ?_, ⟨_, rfl⟩, hW, hsame.mono (by decide) (by decide)⟩
  · skip
    show Steps p.tables e below (s₁.setTop (mkF m 0 #[.val (.ref ra0)] [])) _
    refine XS.aloadN X0.here hx rfl (hb hby d25_0) rfl rfl ?_
    show Steps p.tables e below (s₁.setTop (mkF m 1 #[.val (.ref ra0)] [(.ref ra0)])) _
    refine st101 _ ?_
    show Steps p.tables e below (T101.setTop (mkF m 4 #[.val (.ref ra0)] [(.ref uo1)])) _
    jvm_step X101.here [X101.here.top, hx, (hb hby d25_4), X101.method', Bd.returns, Value.isRef, FieldType.isReference]
    first | (intro acts; rw [hr _ acts rfl rfl rfl]) | rw [hr _ _ rfl rfl rfl]
    exact Steps.refl _
  · show Q25x31 Z ra0 uo1 h0 n0 _ T101.heap _
    rw [e101]
    exact ⟨rfl, N0, rfl⟩
theorem d27_0 : decode jdk_68_method_6_code 0 = .ok (.aload_n 0, 1) := by decide +kernel
theorem d27_1 : decode jdk_68_method_6_code 1 = .ok (.getfield 79, 3) := by decide +kernel
theorem d27_4 : decode jdk_68_method_6_code 4 = .ok (.ireturn, 1) := by decide +kernel
theorem ef_27x33 (m : MethodId) (ra0 : Addr) : entryFrame m #[(.ref ra0)] 1 = mkF m 0 #[.val (.ref ra0)] [] := by first | (simp [entryFrame, mkF, argsToLocals, Value.category]; done) | rfl
def Q27x33 (Z : State) (ra0 : Addr) (h0 : Heap) (n0 : Nat) (v : Option Value) (h : Heap) (L : List Loc) : Prop := v = some (.int (5 : Int32)) ∧ Fr n0 L ∧ h = h0
set_option maxRecDepth 65536 in
set_option maxHeartbeats 40000000 in
theorem rm27x33 (l : Launch) (Z : State) (a0 : Array Value) (hw : ∀ d ∈ tables_1, d.before a0 Z = true) (ws : List Jvm.Cond) (ra0 : Addr) (h0 : Heap) (n0 : Nat) (Z0 : n0 ≤ h0.size) (H0 : Fld Z h0 ra0 "java/lang/AbstractStringBuilder" "count" "I" (.int (5 : Int32))) :
    MetFree l (⟨"java/lang/AbstractStringBuilder", "length", "()I"⟩ : MethodName) (head1 (Jvm.Cond.code (⟨"java/lang/AbstractStringBuilder", "length", "()I"⟩ : MethodName) jdk_68_method_6_code 1 (some .int) :: ws) ({ frames := 0, cells := 0, slots := 0, locals := 0 } : Room)) (fun a U => a = #[(.ref ra0)] ∧ Z.Warmed39 U.vm ∧ U.heap = h0) (fun _ _ _ _ _ => True) (fun _ U o U' => ∃ v L, o = .returned v ∧ Q27x33 Z ra0 h0 n0 v U'.heap L ∧ FrameEnd U o U' L ({ frames := 0, cells := 0, slots := 0, locals := 0 } : Room).cells ({ frames := 0, cells := 0, slots := 0, locals := 0 } : Room).slots) := by
  refine MetFree.of_bodySF (plainFor_of_name pn_java_lang_AbstractStringBuilder) hisR ?_
  intro p e s m args below meth c s₁ Bd hml0 hP hK
  obtain ⟨rfl, hZ, hh⟩ := hP
  have hx := Bd.exec
  have hby := Bd.bytes
  have hml : c.maxLocals = 1 := hml0
  have hown : s.vm.findClass "java/lang/AbstractStringBuilder" = some m.cls := findClass_of_methodNamed Bd.named
  have hnm := (name_of_methodNamed Bd.named Bd.method).1
  have X0 : Stand p l e ({ frames := 0, cells := 0, slots := 0, locals := 0 } : Room) s m #[(.ref ra0)] below meth c s₁ [] 0 0 := Stand.of_body Bd
  have e0 : s₁.heap = h0 := by rw [← hh, Bd.state]; rfl
  have N0 := Fr.nil n0
  have pre0 : ∀ t, Steps p.tables e below (s₁.setTop (mkF m 0 #[.val (.ref ra0)] [])) t → Steps p.tables e below (s₁.setTop (entryFrame m #[(.ref ra0)] 1)) t := fun t k => castTop (ef_27x33 m ra0) k
  obtain ⟨T101, X101, e101, st101⟩ := getF X0 hx hZ hown (host := "") (Or.inl (hw _ (List.mem_of_getElem? (i := 78) rfl))) Via.refl e0 H0 (g := (mkF m 1 #[.val (.ref ra0)] [(.ref ra0)])) rfl rfl (hb hby d27_1)
  obtain ⟨fs, hr, hrun, hended, hW, hsame⟩ := X101.leave (v := some (.int (5 : Int32))) (fun h => by rw [Bd.returns] at h; cases h)
  refine ⟨_, _, pre0 _ ?_, hrun, hended, _, _, rfl, ?_, ⟨_, rfl⟩, hW, hsame.mono (by decide) (by decide)⟩
  · skip
    show Steps p.tables e below (s₁.setTop (mkF m 0 #[.val (.ref ra0)] [])) _
    refine XS.aloadN X0.here hx rfl (hb hby d27_0) rfl rfl ?_
    show Steps p.tables e below (s₁.setTop (mkF m 1 #[.val (.ref ra0)] [(.ref ra0)])) _
    refine st101 _ ?_
    show Steps p.tables e below (T101.setTop (mkF m 4 #[.val (.ref ra0)] [(.int (5 : Int32))])) _
    exact retI X101 hx Bd.returns (hb hby d27_4) hr
  · show Q27x33 Z ra0 h0 n0 _ T101.heap _
    rw [e101]
    exact ⟨rfl, N0, rfl⟩
theorem d26_0 : decode jdk_67_method_93_code 0 = .ok (.aload_n 0, 1) := by decide +kernel
theorem d26_1 : decode jdk_67_method_93_code 1 = .ok (.invokespecial 343, 3) := by decide +kernel
theorem d26_4 : decode jdk_67_method_93_code 4 = .ok (.ireturn, 1) := by decide +kernel
theorem ef_26x32 (m : MethodId) (ra0 : Addr) : entryFrame m #[(.ref ra0)] 1 = mkF m 0 #[.val (.ref ra0)] [] := by first | (simp [entryFrame, mkF, argsToLocals, Value.category]; done) | rfl
def Q26x32 (Z : State) (ra0 : Addr) (h0 : Heap) (n0 : Nat) (v : Option Value) (h : Heap) (L : List Loc) : Prop := v = some (.int (5 : Int32)) ∧ Fr n0 L ∧ h = h0
set_option maxRecDepth 65536 in
set_option maxHeartbeats 40000000 in
theorem rm26x32 (l : Launch) (Z : State) (a0 : Array Value) (hw : ∀ d ∈ tables_1, d.before a0 Z = true) (ws : List Jvm.Cond) (ra0 : Addr) (h0 : Heap) (n0 : Nat) (Z0 : n0 ≤ h0.size) (H0 : Fld Z h0 ra0 "java/lang/AbstractStringBuilder" "count" "I" (.int (5 : Int32))) (H1 : Exa Z h0 ra0 "java/lang/StringBuilder") :
    MetFree l (⟨"java/lang/StringBuilder", "length", "()I"⟩ : MethodName) (head1 (Jvm.Cond.code (⟨"java/lang/StringBuilder", "length", "()I"⟩ : MethodName) jdk_67_method_93_code 1 (some .int) :: ws) ({ frames := 1, cells := 0, slots := 0, locals := 12 } : Room)) (fun a U => a = #[(.ref ra0)] ∧ Z.Warmed39 U.vm ∧ U.heap = h0) (fun _ _ _ _ _ => True) (fun _ U o U' => ∃ v L, o = .returned v ∧ Q26x32 Z ra0 h0 n0 v U'.heap L ∧ FrameEnd U o U' L ({ frames := 1, cells := 0, slots := 0, locals := 12 } : Room).cells ({ frames := 1, cells := 0, slots := 0, locals := 12 } : Room).slots) := by
  refine MetFree.of_bodySF (plainFor_of_name pn_java_lang_StringBuilder) hisR ?_
  intro p e s m args below meth c s₁ Bd hml0 hP hK
  obtain ⟨rfl, hZ, hh⟩ := hP
  have hx := Bd.exec
  have hby := Bd.bytes
  have hml : c.maxLocals = 1 := hml0
  have hown : s.vm.findClass "java/lang/StringBuilder" = some m.cls := findClass_of_methodNamed Bd.named
  have hnm := (name_of_methodNamed Bd.named Bd.method).1
  have X0 : Stand p l e ({ frames := 1, cells := 0, slots := 0, locals := 12 } : Room) s m #[(.ref ra0)] below meth c s₁ [] 0 0 := Stand.of_body Bd
  have e0 : s₁.heap = h0 := by rw [← hh, Bd.state]; rfl
  have N0 := Fr.nil n0
  have pre0 : ∀ t, Steps p.tables e below (s₁.setTop (mkF m 0 #[.val (.ref ra0)] [])) t → Steps p.tables e below (s₁.setTop (entryFrame m #[(.ref ra0)] 1)) t := fun t k => castTop (ef_26x32 m ra0) k
  obtain ⟨_, _, ⟨T101, L101, k101, n101⟩, -, X101, ⟨Lc101, hQ101, l101, y101, z101⟩, st101⟩ := superBack X0 hx hZ (y := (⟨"java/lang/AbstractStringBuilder", "length", "()I"⟩ : MethodName)) hown (hw _ (List.mem_of_getElem? (i := 173) rfl)) (own_same (hw _ (List.mem_of_getElem? (i := 169) rfl)) (hw _ (List.mem_of_getElem? (i := 87) rfl)) rfl (by decide)) (hw _ (List.mem_of_getElem? (i := 169) rfl)) (hw _ (List.mem_of_getElem? (i := 75) rfl)) (by decide) (backOf (W := 0) (rm27x33 l Z a0 hw [] ra0 h0 n0 Z0 H0) hZ (hw _ (List.mem_of_getElem? (i := 174) rfl)) (hw _ (List.mem_of_getElem? (i := 56) rfl)) (by decide) (by decide)) e0 (Ins.self H1) (g := (mkF m 1 #[.val (.ref ra0)] [(.ref ra0)])) rfl (by rw [hml]; rfl) (hw _ (List.mem_of_getElem? (i := 174) rfl)) (argsL := []) (rest := []) (lenOf pd_0 rfl) rfl (by show 2 * 0 + _ ≤ _; exact Nat.le_of_eq rfl) (hb hby d26_1) (fun _ _ => ⟨rfl, e0, (by decide : 0 + 0 ≤ _), (by decide : 0 + 0 ≤ _)⟩)
  dsimp only [Pt.U, Pt.locs, Pt.cells, Pt.slots] at X101 l101 y101 z101 st101 hQ101
  subst l101 y101 z101
  obtain ⟨rfl, Nq101, Heq101⟩ := hQ101
  have N101 := Fr.app N0 Nq101
  obtain ⟨fs, hr, hrun, hended, hW, hsame⟩ := X101.leave (v := some (.int (5 : Int32))) (fun h => by rw [Bd.returns] at h; cases h)
  refine ⟨_, _, pre0 _ ?_, hrun, hended, _, _, rfl, ?_, ⟨_, rfl⟩, hW, hsame.mono (by decide) (by decide)⟩
  · skip
    show Steps p.tables e below (s₁.setTop (mkF m 0 #[.val (.ref ra0)] [])) _
    refine XS.aloadN X0.here hx rfl (hb hby d26_0) rfl rfl ?_
    show Steps p.tables e below (s₁.setTop (mkF m 1 #[.val (.ref ra0)] [(.ref ra0)])) _
    refine st101.trans ?_
    show Steps p.tables e below (T101.setTop (mkF m 4 #[.val (.ref ra0)] [(.int (5 : Int32))])) _
    exact retI X101 hx Bd.returns (hb hby d26_4) hr
  · show Q26x32 Z ra0 h0 n0 _ T101.heap _
    rw [Heq101]
    exact ⟨rfl, N101, rfl⟩
theorem ef_13x34 (m : MethodId) (ra0 : Addr) : entryFrame m #[(.ref ra0)] 1 = mkF m 0 #[.val (.ref ra0)] [] := by first | (simp [entryFrame, mkF, argsToLocals, Value.category]; done) | rfl
def Q13x34 (Z : State) (ra0 : Addr) (ui1 : Int32) (h0 : Heap) (n0 : Nat) (v : Option Value) (h : Heap) (L : List Loc) : Prop := v = some (.int (1 : Int32)) ∧ Fr n0 L ∧ h = h0
set_option maxRecDepth 65536 in
set_option maxHeartbeats 40000000 in
theorem rm13x34 (l : Launch) (Z : State) (a0 : Array Value) (hw : ∀ d ∈ tables_1, d.before a0 Z = true) (ws : List Jvm.Cond) (ra0 : Addr) (ui1 : Int32) (h0 : Heap) (n0 : Nat) (Z0 : n0 ≤ h0.size) (H0 : Sta Z h0 "java/lang/String" "COMPACT_STRINGS" "Z" (.int ui1)) (H1 : ¬ (ui1 = (0 : Int32))) (H2 : Fld Z h0 ra0 "java/lang/AbstractStringBuilder" "coder" "B" (.int (0 : Int32))) :
    MetFree l (⟨"java/lang/AbstractStringBuilder", "isLatin1", "()Z"⟩ : MethodName) (head1 (Jvm.Cond.code (⟨"java/lang/AbstractStringBuilder", "isLatin1", "()Z"⟩ : MethodName) jdk_68_method_68_code 1 (some .boolean) :: ws) ({ frames := 0, cells := 0, slots := 0, locals := 0 } : Room)) (fun a U => a = #[(.ref ra0)] ∧ Z.Warmed39 U.vm ∧ U.heap = h0) (fun _ _ _ _ _ => True) (fun _ U o U' => ∃ v L, o = .returned v ∧ Q13x34 Z ra0 ui1 h0 n0 v U'.heap L ∧ FrameEnd U o U' L ({ frames := 0, cells := 0, slots := 0, locals := 0 } : Room).cells ({ frames := 0, cells := 0, slots := 0, locals := 0 } : Room).slots) := by
  refine MetFree.of_bodySF (plainFor_of_name pn_java_lang_AbstractStringBuilder) hisR ?_
  intro p e s m args below meth c s₁ Bd hml0 hP hK
  obtain ⟨rfl, hZ, hh⟩ := hP
  have hx := Bd.exec
  have hby := Bd.bytes
  have hml : c.maxLocals = 1 := hml0
  have hown : s.vm.findClass "java/lang/AbstractStringBuilder" = some m.cls := findClass_of_methodNamed Bd.named
  have hnm := (name_of_methodNamed Bd.named Bd.method).1
  have X0 : Stand p l e ({ frames := 0, cells := 0, slots := 0, locals := 0 } : Room) s m #[(.ref ra0)] below meth c s₁ [] 0 0 := Stand.of_body Bd
  have e0 : s₁.heap = h0 := by rw [← hh, Bd.state]; rfl
  have N0 := Fr.nil n0
  have pre0 : ∀ t, Steps p.tables e below (s₁.setTop (mkF m 0 #[.val (.ref ra0)] [])) t → Steps p.tables e below (s₁.setTop (entryFrame m #[(.ref ra0)] 1)) t := fun t k => castTop (ef_13x34 m ra0) k
  obtain ⟨T101, X101, e101, st101⟩ := getS2 X0 hx hZ hown (host := "") (Or.inl (hw _ (List.mem_of_getElem? (i := 61) rfl))) Via.refl e0 H0 (g := (mkF m 0 #[.val (.ref ra0)] [])) rfl (hb hby d13_0)
  obtain ⟨T102, X102, e102, st102⟩ := getF X101 hx hZ hown (host := "") (Or.inl (hw _ (List.mem_of_getElem? (i := 66) rfl))) Via.refl e101 H2 (g := (mkF m 7 #[.val (.ref ra0)] [(.ref ra0)])) rfl rfl (hb hby d13_7)
  obtain ⟨fs, hr, hrun, hended, hW, hsame⟩ := X102.leave (v := some (.int (1 : Int32))) (fun h => by rw [Bd.returns] at h; cases h)
  refine ⟨_, _, pre0 _ ?_, hrun, hended, _, _, rfl, ?_, ⟨_, rfl⟩, hW, hsame.mono (by decide) (by decide)⟩
  · skip
    show Steps p.tables e below (s₁.setTop (mkF m 0 #[.val (.ref ra0)] [])) _
    refine st101 _ ?_
    show Steps p.tables e below (T101.setTop (mkF m 3 #[.val (.ref ra0)] [(.int ui1)])) _
    refine XS.ifNo X101.here hx rfl (hb hby d13_3) rfl ((if0 _ _).trans (feq (H1 : ¬ (ui1 = (0 : Int32)))).1) ?_
    show Steps p.tables e below (T101.setTop (mkF m 6 #[.val (.ref ra0)] [])) _
    refine XS.aloadN X101.here hx rfl (hb hby d13_6) rfl rfl ?_
    show Steps p.tables e below (T101.setTop (mkF m 7 #[.val (.ref ra0)] [(.ref ra0)])) _
    refine st102 _ ?_
    show Steps p.tables e below (T102.setTop (mkF m 10 #[.val (.ref ra0)] [(.int (0 : Int32))])) _
    refine XS.ifNo X102.here hx rfl (hb hby d13_10) rfl ((if0 _ _).trans (teq (by decide : (0 : Int32) = (0 : Int32))).2) ?_
    show Steps p.tables e below (T102.setTop (mkF m 13 #[.val (.ref ra0)] [])) _
    refine XS.iconst X102.here hx rfl (hb hby d13_13) ?_
    show Steps p.tables e below (T102.setTop (mkF m 14 #[.val (.ref ra0)] [(.int (1 : Int32))])) _
    refine XS.goto X102.here hx rfl (pc0 := 14) (pc' := 18) rfl (hb hby d13_14) (by decide) (by decide) ?_
    show Steps p.tables e below (T102.setTop (mkF m 18 #[.val (.ref ra0)] [(.int (1 : Int32))])) _
    exact retN X102 hx (t := .boolean) Bd.returns (by simp) (hb hby d13_18) hr
  · show Q13x34 Z ra0 ui1 h0 n0 _ T102.heap _
    rw [e102]
    exact ⟨rfl, N0, rfl⟩
theorem d30_0 : decode jdk_65_method_131_code 0 = .ok (.iload_n 1, 1) := by decide +kernel
theorem d30_1 : decode jdk_65_method_131_code 1 = .ok (.iload_n 0, 1) := by decide +kernel
theorem d30_2 : decode jdk_65_method_131_code 2 = .ok (.if_icmp .ge 35, 3) := by decide +kernel
theorem d30_37 : decode jdk_65_method_131_code 37 = .ok (.return_, 1) := by decide +kernel
theorem pn_java_util_Arrays : plainName "java/util/Arrays" = true := by first | (simp [plainName, overriddenIn]; done) | decide +kernel
theorem ef_30x37 (m : MethodId)  : entryFrame m #[(.int (0 : Int32)), (.int (5 : Int32))] 2 = mkF m 0 #[.val (.int (0 : Int32)), .val (.int (5 : Int32))] [] := by first | (simp [entryFrame, mkF, argsToLocals, Value.category]; done) | rfl
def Q30x37 (Z : State)  (h0 : Heap) (n0 : Nat) (v : Option Value) (h : Heap) (L : List Loc) : Prop := v = none ∧ Fr n0 L ∧ h = h0
set_option maxRecDepth 65536 in
set_option maxHeartbeats 40000000 in
theorem rm30x37 (l : Launch) (Z : State) (a0 : Array Value) (hw : ∀ d ∈ tables_1, d.before a0 Z = true) (ws : List Jvm.Cond)  (h0 : Heap) (n0 : Nat) (Z0 : n0 ≤ h0.size) :
    MetFree l (⟨"java/util/Arrays", "checkLength", "(II)V"⟩ : MethodName) (head1 (Jvm.Cond.code (⟨"java/util/Arrays", "checkLength", "(II)V"⟩ : MethodName) jdk_65_method_131_code 2 none :: ws) ({ frames := 0, cells := 0, slots := 0, locals := 0 } : Room)) (fun a U => a = #[(.int (0 : Int32)), (.int (5 : Int32))] ∧ Z.Warmed39 U.vm ∧ U.heap = h0) (fun _ _ _ _ _ => True) (fun _ U o U' => ∃ v L, o = .returned v ∧ Q30x37 Z  h0 n0 v U'.heap L ∧ FrameEnd U o U' L ({ frames := 0, cells := 0, slots := 0, locals := 0 } : Room).cells ({ frames := 0, cells := 0, slots := 0, locals := 0 } : Room).slots) := by
  refine MetFree.of_bodySF (plainFor_of_name pn_java_util_Arrays) hisR ?_
  intro p e s m args below meth c s₁ Bd hml0 hP hK
  obtain ⟨rfl, hZ, hh⟩ := hP
  have hx := Bd.exec
  have hby := Bd.bytes
  have hml : c.maxLocals = 2 := hml0
  have hown : s.vm.findClass "java/util/Arrays" = some m.cls := findClass_of_methodNamed Bd.named
  have hnm := (name_of_methodNamed Bd.named Bd.method).1
  have X0 : Stand p l e ({ frames := 0, cells := 0, slots := 0, locals := 0 } : Room) s m #[(.int (0 : Int32)), (.int (5 : Int32))] below meth c s₁ [] 0 0 := Stand.of_body Bd
  have e0 : s₁.heap = h0 := by rw [← hh, Bd.state]; rfl
  have N0 := Fr.nil n0
  have pre0 : ∀ t, Steps p.tables e below (s₁.setTop (mkF m 0 #[.val (.int (0 : Int32)), .val (.int (5 : Int32))] [])) t → Steps p.tables e below (s₁.setTop (entryFrame m #[(.int (0 : Int32)), (.int (5 : Int32))] 2)) t := fun t k => castTop (ef_30x37 m ) k
  obtain ⟨fs, hr, hrun, hended, hW, hsame⟩ := X0.leave (v := none) (fun _ => rfl)
  refine ⟨_, _, pre0 _ ?_, hrun, hended, _, _, rfl, ?_, ⟨_, rfl⟩, hW, hsame.mono (by decide) (by decide)⟩
  · skip
    show Steps p.tables e below (s₁.setTop (mkF m 0 #[.val (.int (0 : Int32)), .val (.int (5 : Int32))] [])) _
    refine XS.iloadN X0.here hx rfl (hb hby d30_0) rfl ?_
    show Steps p.tables e below (s₁.setTop (mkF m 1 #[.val (.int (0 : Int32)), .val (.int (5 : Int32))] [(.int (5 : Int32))])) _
    refine XS.iloadN X0.here hx rfl (hb hby d30_1) rfl ?_
    show Steps p.tables e below (s₁.setTop (mkF m 2 #[.val (.int (0 : Int32)), .val (.int (5 : Int32))] [(.int (0 : Int32)), (.int (5 : Int32))])) _
    refine XS.icmpYes X0.here hx rfl (pc0 := 2) (pc' := 37) rfl (hb hby d30_2) rfl (flt (by decide : ¬ ((5 : Int32) < (0 : Int32)))).2.1 (by decide) (by decide) ?_
    show Steps p.tables e below (s₁.setTop (mkF m 37 #[.val (.int (0 : Int32)), .val (.int (5 : Int32))] [])) _
    exact X0.returnOut hx Bd.returns (hb hby d30_37) hr
  · show Q30x37 Z  h0 n0 _ s₁.heap _
    rw [e0]
    exact ⟨rfl, N0, rfl⟩
theorem d31_0 : decode jdk_29_method_69_code 0 = .ok (.iload_n 0, 1) := by decide +kernel
theorem d31_1 : decode jdk_29_method_69_code 1 = .ok (.iload_n 1, 1) := by decide +kernel
theorem d31_2 : decode jdk_29_method_69_code 2 = .ok (.if_icmp .gt 7, 3) := by decide +kernel
theorem d31_9 : decode jdk_29_method_69_code 9 = .ok (.iload_n 1, 1) := by decide +kernel
theorem d31_10 : decode jdk_29_method_69_code 10 = .ok (.ireturn, 1) := by decide +kernel
theorem ef_31x38 (m : MethodId)  : entryFrame m #[(.int (16 : Int32)), (.int (5 : Int32))] 2 = mkF m 0 #[.val (.int (16 : Int32)), .val (.int (5 : Int32))] [] := by first | (simp [entryFrame, mkF, argsToLocals, Value.category]; done) | rfl
def Q31x38 (Z : State)  (h0 : Heap) (n0 : Nat) (v : Option Value) (h : Heap) (L : List Loc) : Prop := v = some (.int (5 : Int32)) ∧ Fr n0 L ∧ h = h0
set_option maxRecDepth 65536 in
set_option maxHeartbeats 40000000 in
theorem rm31x38 (l : Launch) (Z : State) (a0 : Array Value) (hw : ∀ d ∈ tables_1, d.before a0 Z = true) (ws : List Jvm.Cond)  (h0 : Heap) (n0 : Nat) (Z0 : n0 ≤ h0.size) :
    MetFree l (⟨"java/lang/Math", "min", "(II)I"⟩ : MethodName) (head1 (Jvm.Cond.code (⟨"java/lang/Math", "min", "(II)I"⟩ : MethodName) jdk_29_method_69_code 2 (some .int) :: ws) ({ frames := 0, cells := 0, slots := 0, locals := 0 } : Room)) (fun a U => a = #[(.int (16 : Int32)), (.int (5 : Int32))] ∧ Z.Warmed39 U.vm ∧ U.heap = h0) (fun _ _ _ _ _ => True) (fun _ U o U' => ∃ v L, o = .returned v ∧ Q31x38 Z  h0 n0 v U'.heap L ∧ FrameEnd U o U' L ({ frames := 0, cells := 0, slots := 0, locals := 0 } : Room).cells ({ frames := 0, cells := 0, slots := 0, locals := 0 } : Room).slots) := by
  refine MetFree.of_bodySF (Jvm.Free.JP.mathPlain rfl (by decide +kernel)) hisR ?_
  intro p e s m args below meth c s₁ Bd hml0 hP hK
  obtain ⟨rfl, hZ, hh⟩ := hP
  have hx := Bd.exec
  have hby := Bd.bytes
  have hml : c.maxLocals = 2 := hml0
  have hown : s.vm.findClass "java/lang/Math" = some m.cls := findClass_of_methodNamed Bd.named
  have hnm := (name_of_methodNamed Bd.named Bd.method).1
  have X0 : Stand p l e ({ frames := 0, cells := 0, slots := 0, locals := 0 } : Room) s m #[(.int (16 : Int32)), (.int (5 : Int32))] below meth c s₁ [] 0 0 := Stand.of_body Bd
  have e0 : s₁.heap = h0 := by rw [← hh, Bd.state]; rfl
  have N0 := Fr.nil n0
  have pre0 : ∀ t, Steps p.tables e below (s₁.setTop (mkF m 0 #[.val (.int (16 : Int32)), .val (.int (5 : Int32))] [])) t → Steps p.tables e below (s₁.setTop (entryFrame m #[(.int (16 : Int32)), (.int (5 : Int32))] 2)) t := fun t k => castTop (ef_31x38 m ) k
  obtain ⟨fs, hr, hrun, hended, hW, hsame⟩ := X0.leave (v := some (.int (5 : Int32))) (fun h => by rw [Bd.returns] at h; cases h)
  refine ⟨_, _, pre0 _ ?_, hrun, hended, _, _, rfl, ?_, ⟨_, rfl⟩, hW, hsame.mono (by decide) (by decide)⟩
  · skip
    show Steps p.tables e below (s₁.setTop (mkF m 0 #[.val (.int (16 : Int32)), .val (.int (5 : Int32))] [])) _
    refine XS.iloadN X0.here hx rfl (hb hby d31_0) rfl ?_
    show Steps p.tables e below (s₁.setTop (mkF m 1 #[.val (.int (16 : Int32)), .val (.int (5 : Int32))] [(.int (16 : Int32))])) _
    refine XS.iloadN X0.here hx rfl (hb hby d31_1) rfl ?_
    show Steps p.tables e below (s₁.setTop (mkF m 2 #[.val (.int (16 : Int32)), .val (.int (5 : Int32))] [(.int (5 : Int32)), (.int (16 : Int32))])) _
    refine XS.icmpYes X0.here hx rfl (pc0 := 2) (pc' := 9) rfl (hb hby d31_2) rfl (tlt (by decide : (5 : Int32) < (16 : Int32))).2.2.1 (by decide) (by decide) ?_
    show Steps p.tables e below (s₁.setTop (mkF m 9 #[.val (.int (16 : Int32)), .val (.int (5 : Int32))] [])) _
    refine XS.iloadN X0.here hx rfl (hb hby d31_9) rfl ?_
    show Steps p.tables e below (s₁.setTop (mkF m 10 #[.val (.int (16 : Int32)), .val (.int (5 : Int32))] [(.int (5 : Int32))])) _
    exact retI X0 hx Bd.returns (hb hby d31_10) hr
  · show Q31x38 Z  h0 n0 _ s₁.heap _
    rw [e0]
    exact ⟨rfl, N0, rfl⟩
theorem d29_0 : decode jdk_65_method_133_code 0 = .ok (.iload_n 1, 1) := by decide +kernel
theorem d29_1 : decode jdk_65_method_133_code 1 = .ok (.iload_n 2, 1) := by decide +kernel
theorem d29_2 : decode jdk_65_method_133_code 2 = .ok (.invokestatic 343, 3) := by decide +kernel
theorem d29_5 : decode jdk_65_method_133_code 5 = .ok (.iload_n 2, 1) := by decide +kernel
theorem d29_6 : decode jdk_65_method_133_code 6 = .ok (.iload_n 1, 1) := by decide +kernel
theorem d29_7 : decode jdk_65_method_133_code 7 = .ok (.isub, 1) := by decide +kernel
theorem d29_8 : decode jdk_65_method_133_code 8 = .ok (.istore_n 3, 1) := by decide +kernel
theorem d29_9 : decode jdk_65_method_133_code 9 = .ok (.iload_n 3, 1) := by decide +kernel
theorem d29_10 : decode jdk_65_method_133_code 10 = .ok (.newarray .byte, 2) := by decide +kernel
theorem d29_12 : decode jdk_65_method_133_code 12 = .ok (.astore 4, 2) := by decide +kernel
theorem d29_14 : decode jdk_65_method_133_code 14 = .ok (.aload_n 0, 1) := by decide +kernel
theorem d29_15 : decode jdk_65_method_133_code 15 = .ok (.iload_n 1, 1) := by decide +kernel
theorem d29_16 : decode jdk_65_method_133_code 16 = .ok (.aload 4, 2) := by decide +kernel
theorem d29_18 : decode jdk_65_method_133_code 18 = .ok (.iconst 0, 1) := by decide +kernel
theorem d29_19 : decode jdk_65_method_133_code 19 = .ok (.aload_n 0, 1) := by decide +kernel
theorem d29_20 : decode jdk_65_method_133_code 20 = .ok (.arraylength, 1) := by decide +kernel
theorem d29_21 : decode jdk_65_method_133_code 21 = .ok (.iload_n 1, 1) := by decide +kernel
theorem d29_22 : decode jdk_65_method_133_code 22 = .ok (.isub, 1) := by decide +kernel
theorem d29_23 : decode jdk_65_method_133_code 23 = .ok (.iload_n 3, 1) := by decide +kernel
theorem d29_24 : decode jdk_65_method_133_code 24 = .ok (.invokestatic 304, 3) := by decide +kernel
theorem d29_27 : decode jdk_65_method_133_code 27 = .ok (.invokestatic 150, 3) := by decide +kernel
theorem d29_30 : decode jdk_65_method_133_code 30 = .ok (.aload 4, 2) := by decide +kernel
theorem d29_32 : decode jdk_65_method_133_code 32 = .ok (.areturn, 1) := by decide +kernel
theorem ef_29x36 (m : MethodId) (ra0 : Addr) : entryFrame m #[(.ref ra0), (.int (0 : Int32)), (.int (5 : Int32))] 5 = mkF m 0 #[.val (.ref ra0), .val (.int (0 : Int32)), .val (.int (5 : Int32)), .unset, .unset] [] := by first | (simp [entryFrame, mkF, argsToLocals, Value.category]; done) | rfl
def Q29x36 (Z : State) (ra0 : Addr) (uk1 : ClassId) (h0 : Heap) (n0 : Nat) (v : Option Value) (h : Heap) (L : List Loc) : Prop := ∃ (b102 : Addr) (k102 : ClassId), v = some (.ref b102) ∧ Fr n0 L ∧ Keep h0 h [] ∧ h0.size ≤ b102 ∧ Exa Z h b102 "[B" ∧ Arv Z h b102 k102 .byte (5 : Int32) [(.int (53 : Int32)), (.int (48 : Int32)), (.int (45 : Int32)), (.int (53 : Int32)), (.int (57 : Int32))] (.int (0 : Int32))
set_option maxRecDepth 65536 in
set_option maxHeartbeats 40000000 in
theorem rm29x36 (l : Launch) (Z : State) (a0 : Array Value) (hw : ∀ d ∈ tables_1, d.before a0 Z = true) (ws : List Jvm.Cond) (ra0 : Addr) (uk1 : ClassId) (h0 : Heap) (n0 : Nat) (Z0 : n0 ≤ h0.size) (H0 : Arv Z h0 ra0 uk1 .byte (16 : Int32) [(.int (53 : Int32)), (.int (48 : Int32)), (.int (45 : Int32)), (.int (53 : Int32)), (.int (57 : Int32)), (.int (0 : Int32)), (.int (0 : Int32)), (.int (0 : Int32)), (.int (0 : Int32)), (.int (0 : Int32)), (.int (0 : Int32)), (.int (0 : Int32)), (.int (0 : Int32)), (.int (0 : Int32)), (.int (0 : Int32)), (.int (0 : Int32))] (.int (0 : Int32))) :
    MetFree l (⟨"java/util/Arrays", "copyOfRangeByte", "([BII)[B"⟩ : MethodName) (head1 (Jvm.Cond.code (⟨"java/util/Arrays", "copyOfRangeByte", "([BII)[B"⟩ : MethodName) jdk_65_method_133_code 5 (some (.array .byte)) :: ws) ({ frames := 1, cells := 1, slots := 5, locals := 18 } : Room)) (fun a U => a = #[(.ref ra0), (.int (0 : Int32)), (.int (5 : Int32))] ∧ Z.Warmed39 U.vm ∧ U.heap = h0) (fun _ _ _ _ _ => True) (fun _ U o U' => ∃ v L, o = .returned v ∧ Q29x36 Z ra0 uk1 h0 n0 v U'.heap L ∧ FrameEnd U o U' L ({ frames := 1, cells := 1, slots := 5, locals := 18 } : Room).cells ({ frames := 1, cells := 1, slots := 5, locals := 18 } : Room).slots) := by
  refine MetFree.of_bodySF (plainFor_of_name pn_java_util_Arrays) hisR ?_
  intro p e s m args below meth c s₁ Bd hml0 hP hK
  obtain ⟨rfl, hZ, hh⟩ := hP
  have hx := Bd.exec
  have hby := Bd.bytes
  have hml : c.maxLocals = 5 := hml0
  have hown : s.vm.findClass "java/util/Arrays" = some m.cls := findClass_of_methodNamed Bd.named
  have hnm := (name_of_methodNamed Bd.named Bd.method).1
  have X0 : Stand p l e ({ frames := 1, cells := 1, slots := 5, locals := 18 } : Room) s m #[(.ref ra0), (.int (0 : Int32)), (.int (5 : Int32))] below meth c s₁ [] 0 0 := Stand.of_body Bd
  have e0 : s₁.heap = h0 := by rw [← hh, Bd.state]; rfl
  have N0 := Fr.nil n0
  have pre0 : ∀ t, Steps p.tables e below (s₁.setTop (mkF m 0 #[.val (.ref ra0), .val (.int (0 : Int32)), .val (.int (5 : Int32)), .unset, .unset] [])) t → Steps p.tables e below (s₁.setTop (entryFrame m #[(.ref ra0), (.int (0 : Int32)), (.int (5 : Int32))] 5)) t := fun t k => castTop (ef_29x36 m ra0) k
  obtain ⟨_, _, ⟨T101, L101, k101, n101⟩, -, X101, ⟨Lc101, hQ101, l101, y101, z101⟩, st101⟩ := Jvm.LawKit.callS X0 hx (y := (⟨"java/util/Arrays", "checkLength", "(II)V"⟩ : MethodName)) hown (mvT hZ (hw _ (List.mem_of_getElem? (i := 183) rfl))) (mvT hZ (hw _ (List.mem_of_getElem? (i := 184) rfl))) (mvT hZ (hw _ (List.mem_of_getElem? (i := 178) rfl))) (mvT hZ (hw _ (List.mem_of_getElem? (i := 185) rfl))) (by decide) (backOf (W := 0) (rm30x37 l Z a0 hw []  h0 n0 Z0) hZ (hw _ (List.mem_of_getElem? (i := 185) rfl)) (hw _ (List.mem_of_getElem? (i := 178) rfl)) (by decide) (by decide)) (g := (mkF m 2 #[.val (.ref ra0), .val (.int (0 : Int32)), .val (.int (5 : Int32)), .unset, .unset] [(.int (5 : Int32)), (.int (0 : Int32))])) rfl (by rw [hml]; rfl) (argsL := [(.int (0 : Int32)), (.int (5 : Int32))]) (rest := []) (lenOf pd_16 rfl) rfl (by show 2 * 0 + _ ≤ _; exact Nat.le_of_eq rfl) (hb hby d29_2) (fun _ _ => ⟨rfl, e0, (by decide : 0 + 0 ≤ _), (by decide : 0 + 0 ≤ _)⟩)
  dsimp only [Pt.U, Pt.locs, Pt.cells, Pt.slots] at X101 l101 y101 z101 st101 hQ101
  subst l101 y101 z101
  obtain ⟨rfl, Nq101, Heq101⟩ := hQ101
  have N101 := Fr.app N0 Nq101
  obtain ⟨T102, h102, k102, X102, e102, E102, A102, Qe102, st102⟩ := newPE X101 hx hZ (hw _ (List.mem_of_getElem? (i := 63) rfl)) Heq101 (g := (mkF m 10 #[.val (.ref ra0), .val (.int (0 : Int32)), .val (.int (5 : Int32)), .val (.int (5 : Int32)), .unset] [(.int (5 : Int32))])) rfl (hb hby d29_10) rfl (by decide) (cap := 5) (by decide) (by decide) (by decide) (by decide) (ad := "[B") (by decide)
  obtain ⟨b102, g102⟩ : ∃ z, z = h0.size := ⟨_, rfl⟩
  rw [← g102] at A102 Qe102 st102
  have V102 : Arv Z h102 b102 k102 .byte (5 : Int32) [(.int (0 : Int32)), (.int (0 : Int32)), (.int (0 : Int32)), (.int (0 : Int32)), (.int (0 : Int32))] (.int (0 : Int32)) := (Arv.new A102 (by decide)).pad (pad_rep [] (.int (0 : Int32)) 5)
  have f103 : Arv Z h102 ra0 uk1 .byte (16 : Int32) [(.int (53 : Int32)), (.int (48 : Int32)), (.int (45 : Int32)), (.int (53 : Int32)), (.int (57 : Int32)), (.int (0 : Int32)), (.int (0 : Int32)), (.int (0 : Int32)), (.int (0 : Int32)), (.int (0 : Int32)), (.int (0 : Int32)), (.int (0 : Int32)), (.int (0 : Int32)), (.int (0 : Int32)), (.int (0 : Int32)), (.int (0 : Int32))] (.int (0 : Int32)) := (H0.ext E102)
  obtain ⟨cl104, Ar104, -, S104, M104, -, -⟩ := id f103
  have z106 : n0 ≤ h102.size := (Nat.le_trans Z0 E102.1)
  obtain ⟨_, _, ⟨T105, L105, k105, n105⟩, -, X105, ⟨Lc105, hQ105, l105, y105, z105⟩, st105⟩ := Jvm.LawKit.callS X102 hx (y := (⟨"java/lang/Math", "min", "(II)I"⟩ : MethodName)) hown (mvT hZ (hw _ (List.mem_of_getElem? (i := 186) rfl))) (mvT hZ (hw _ (List.mem_of_getElem? (i := 187) rfl))) (mvT hZ (hw _ (List.mem_of_getElem? (i := 188) rfl))) (mvT hZ (hw _ (List.mem_of_getElem? (i := 189) rfl))) (by decide) (backOf (W := 4) (rm31x38 l Z a0 hw []  h102 n0 z106) hZ (hw _ (List.mem_of_getElem? (i := 189) rfl)) (hw _ (List.mem_of_getElem? (i := 188) rfl)) (by decide) (by decide)) (g := (mkF m 24 #[.val (.ref ra0), .val (.int (0 : Int32)), .val (.int (5 : Int32)), .val (.int (5 : Int32)), .val (.ref b102)] [(.int (5 : Int32)), (.int (16 : Int32)), (.int (0 : Int32)), (.ref b102), (.int (0 : Int32)), (.ref ra0)])) rfl (by rw [hml]; rfl) (argsL := [(.int (16 : Int32)), (.int (5 : Int32))]) (rest := [(.int (0 : Int32)), (.ref b102), (.int (0 : Int32)), (.ref ra0)]) (lenOf pd_17 rfl) rfl (by show 2 * 0 + _ ≤ _; exact Nat.le_of_eq rfl) (hb hby d29_24) (fun _ _ => ⟨rfl, e102, (by decide : 1 + 0 ≤ _), (by decide : 5 + 0 ≤ _)⟩)
  dsimp only [Pt.U, Pt.locs, Pt.cells, Pt.slots] at X105 l105 y105 z105 st105 hQ105
  subst l105 y105 z105
  obtain ⟨rfl, Nq105, Heq105⟩ := hQ105
  have N105 := Fr.app N101 Nq105
  have g108 : n0 ≤ b102 := Nat.le_trans Z0 (Nat.le_of_eq g102.symm)
  obtain ⟨T107, h107, L107, X107, e107, N107, K107, V107, st107⟩ := cpA X105 hx hZ hown (hw _ (List.mem_of_getElem? (i := 190) rfl)) (hw _ (List.mem_of_getElem? (i := 146) rfl)) (hw _ (List.mem_of_getElem? (i := 144) rfl)) (hw _ (List.mem_of_getElem? (i := 145) rfl)) Heq105 f103 V102 (us := [(.int (53 : Int32)), (.int (48 : Int32)), (.int (45 : Int32)), (.int (53 : Int32)), (.int (57 : Int32))]) (Or.inl ⟨rfl, rfl⟩) (by decide) (by decide) (by decide) (by decide) (by decide) (by first | rfl | decide) (by decide) N105 g108 (g := (mkF m 27 #[.val (.ref ra0), .val (.int (0 : Int32)), .val (.int (5 : Int32)), .val (.int (5 : Int32)), .val (.ref b102)] [(.int (5 : Int32)), (.int (0 : Int32)), (.ref b102), (.int (0 : Int32)), (.ref ra0)])) rfl (by rw [hml]; rfl) rfl (hb hby d29_27) (by decide) (W := 0) (by show 2 * 0 + _ ≤ _; exact Nat.le_of_eq rfl) (by decide)
  have V107' : Arv Z h107 b102 k102 .byte (5 : Int32) [(.int (53 : Int32)), (.int (48 : Int32)), (.int (45 : Int32)), (.int (53 : Int32)), (.int (57 : Int32))] (.int (0 : Int32)) := V107
  have f109 : Exa Z h107 b102 "[B" := (Qe102.keep K107)
  obtain ⟨fs, hr, hrun, hended, hW, hsame⟩ := X107.leave (v := some (.ref b102)) (fun h => by rw [Bd.returns] at h; cases h)
  refine ⟨_, _, pre0 _ ?_, hrun, hended, _, _, rfl, ?_, ⟨_, rfl⟩, hW, hsame.mono (by decide) (by decide)⟩
  · skip
    show Steps p.tables e below (s₁.setTop (mkF m 0 #[.val (.ref ra0), .val (.int (0 : Int32)), .val (.int (5 : Int32)), .unset, .unset] [])) _
    refine XS.iloadN X0.here hx rfl (hb hby d29_0) rfl ?_
    show Steps p.tables e below (s₁.setTop (mkF m 1 #[.val (.ref ra0), .val (.int (0 : Int32)), .val (.int (5 : Int32)), .unset, .unset] [(.int (0 : Int32))])) _
    refine XS.iloadN X0.here hx rfl (hb hby d29_1) rfl ?_
    show Steps p.tables e below (s₁.setTop (mkF m 2 #[.val (.ref ra0), .val (.int (0 : Int32)), .val (.int (5 : Int32)), .unset, .unset] [(.int (5 : Int32)), (.int (0 : Int32))])) _
    refine st101 _ ?_
    show Steps p.tables e below (T101.setTop (mkF m 5 #[.val (.ref ra0), .val (.int (0 : Int32)), .val (.int (5 : Int32)), .unset, .unset] [])) _
    refine XS.iloadN X101.here hx rfl (hb hby d29_5) rfl ?_
    show Steps p.tables e below (T101.setTop (mkF m 6 #[.val (.ref ra0), .val (.int (0 : Int32)), .val (.int (5 : Int32)), .unset, .unset] [(.int (5 : Int32))])) _
    refine XS.iloadN X101.here hx rfl (hb hby d29_6) rfl ?_
    show Steps p.tables e below (T101.setTop (mkF m 7 #[.val (.ref ra0), .val (.int (0 : Int32)), .val (.int (5 : Int32)), .unset, .unset] [(.int (0 : Int32)), (.int (5 : Int32))])) _
    refine XS.isub X101.here hx rfl (hb hby d29_7) rfl ?_
    show Steps p.tables e below (T101.setTop (mkF m 8 #[.val (.ref ra0), .val (.int (0 : Int32)), .val (.int (5 : Int32)), .unset, .unset] [(.int ((5 : Int32) - (0 : Int32)))])) _
    rw [show ((5 : Int32) - (0 : Int32)) = (5 : Int32) from by decide]
    show Steps p.tables e below (T101.setTop (mkF m 8 #[.val (.ref ra0), .val (.int (0 : Int32)), .val (.int (5 : Int32)), .unset, .unset] [(.int (5 : Int32))])) _
    refine XS.istoreN X101.here hx rfl (hb hby d29_8) rfl (l' := #[.val (.ref ra0), .val (.int (0 : Int32)), .val (.int (5 : Int32)), .val (.int (5 : Int32)), .unset]) rfl ?_
    show Steps p.tables e below (T101.setTop (mkF m 9 #[.val (.ref ra0), .val (.int (0 : Int32)), .val (.int (5 : Int32)), .val (.int (5 : Int32)), .unset] [])) _
    refine XS.iloadN X101.here hx rfl (hb hby d29_9) rfl ?_
    show Steps p.tables e below (T101.setTop (mkF m 10 #[.val (.ref ra0), .val (.int (0 : Int32)), .val (.int (5 : Int32)), .val (.int (5 : Int32)), .unset] [(.int (5 : Int32))])) _
    refine st102 _ ?_
    show Steps p.tables e below (T102.setTop (mkF m 12 #[.val (.ref ra0), .val (.int (0 : Int32)), .val (.int (5 : Int32)), .val (.int (5 : Int32)), .unset] [(.ref b102)])) _
    refine XS.astore X102.here hx rfl (hb hby d29_12) rfl rfl (l' := #[.val (.ref ra0), .val (.int (0 : Int32)), .val (.int (5 : Int32)), .val (.int (5 : Int32)), .val (.ref b102)]) rfl ?_
    show Steps p.tables e below (T102.setTop (mkF m 14 #[.val (.ref ra0), .val (.int (0 : Int32)), .val (.int (5 : Int32)), .val (.int (5 : Int32)), .val (.ref b102)] [])) _
    refine XS.aloadN X102.here hx rfl (hb hby d29_14) rfl rfl ?_
    show Steps p.tables e below (T102.setTop (mkF m 15 #[.val (.ref ra0), .val (.int (0 : Int32)), .val (.int (5 : Int32)), .val (.int (5 : Int32)), .val (.ref b102)] [(.ref ra0)])) _
    refine XS.iloadN X102.here hx rfl (hb hby d29_15) rfl ?_
    show Steps p.tables e below (T102.setTop (mkF m 16 #[.val (.ref ra0), .val (.int (0 : Int32)), .val (.int (5 : Int32)), .val (.int (5 : Int32)), .val (.ref b102)] [(.int (0 : Int32)), (.ref ra0)])) _
    refine XS.aload X102.here hx rfl (hb hby d29_16) rfl rfl ?_
    show Steps p.tables e below (T102.setTop (mkF m 18 #[.val (.ref ra0), .val (.int (0 : Int32)), .val (.int (5 : Int32)), .val (.int (5 : Int32)), .val (.ref b102)] [(.ref b102), (.int (0 : Int32)), (.ref ra0)])) _
    refine XS.iconst X102.here hx rfl (hb hby d29_18) ?_
    show Steps p.tables e below (T102.setTop (mkF m 19 #[.val (.ref ra0), .val (.int (0 : Int32)), .val (.int (5 : Int32)), .val (.int (5 : Int32)), .val (.ref b102)] [(.int (0 : Int32)), (.ref b102), (.int (0 : Int32)), (.ref ra0)])) _
    refine XS.aloadN X102.here hx rfl (hb hby d29_19) rfl rfl ?_
    show Steps p.tables e below (T102.setTop (mkF m 20 #[.val (.ref ra0), .val (.int (0 : Int32)), .val (.int (5 : Int32)), .val (.int (5 : Int32)), .val (.ref b102)] [(.ref ra0), (.int (0 : Int32)), (.ref b102), (.int (0 : Int32)), (.ref ra0)])) _
    refine X102.arraylength hx (by rw [e102]; exact Ar104.1) (State.isArrayOf_alike hZ.alike Ar104.2.1) (g := (mkF m 20 #[.val (.ref ra0), .val (.int (0 : Int32)), .val (.int (5 : Int32)), .val (.int (5 : Int32)), .val (.ref b102)] [(.ref ra0), (.int (0 : Int32)), (.ref b102), (.int (0 : Int32)), (.ref ra0)])) rfl rfl (hb hby d29_20) _ ?_
    rw [len_of S104 M104]
    show Steps p.tables e below (T102.setTop (mkF m 21 #[.val (.ref ra0), .val (.int (0 : Int32)), .val (.int (5 : Int32)), .val (.int (5 : Int32)), .val (.ref b102)] [(.int (16 : Int32)), (.int (0 : Int32)), (.ref b102), (.int (0 : Int32)), (.ref ra0)])) _
    refine XS.iloadN X102.here hx rfl (hb hby d29_21) rfl ?_
    show Steps p.tables e below (T102.setTop (mkF m 22 #[.val (.ref ra0), .val (.int (0 : Int32)), .val (.int (5 : Int32)), .val (.int (5 : Int32)), .val (.ref b102)] [(.int (0 : Int32)), (.int (16 : Int32)), (.int (0 : Int32)), (.ref b102), (.int (0 : Int32)), (.ref ra0)])) _
    refine XS.isub X102.here hx rfl (hb hby d29_22) rfl ?_
    show Steps p.tables e below (T102.setTop (mkF m 23 #[.val (.ref ra0), .val (.int (0 : Int32)), .val (.int (5 : Int32)), .val (.int (5 : Int32)), .val (.ref b102)] [(.int ((16 : Int32) - (0 : Int32))), (.int (0 : Int32)), (.ref b102), (.int (0 : Int32)), (.ref ra0)])) _
    rw [show ((16 : Int32) - (0 : Int32)) = (16 : Int32) from by decide]
    show Steps p.tables e below (T102.setTop (mkF m 23 #[.val (.ref ra0), .val (.int (0 : Int32)), .val (.int (5 : Int32)), .val (.int (5 : Int32)), .val (.ref b102)] [(.int (16 : Int32)), (.int (0 : Int32)), (.ref b102), (.int (0 : Int32)), (.ref ra0)])) _
    refine XS.iloadN X102.here hx rfl (hb hby d29_23) rfl ?_
    show Steps p.tables e below (T102.setTop (mkF m 24 #[.val (.ref ra0), .val (.int (0 : Int32)), .val (.int (5 : Int32)), .val (.int (5 : Int32)), .val (.ref b102)] [(.int (5 : Int32)), (.int (16 : Int32)), (.int (0 : Int32)), (.ref b102), (.int (0 : Int32)), (.ref ra0)])) _
    refine st105 _ ?_
    show Steps p.tables e below (T105.setTop (mkF m 27 #[.val (.ref ra0), .val (.int (0 : Int32)), .val (.int (5 : Int32)), .val (.int (5 : Int32)), .val (.ref b102)] [(.int (5 : Int32)), (.int (0 : Int32)), (.ref b102), (.int (0 : Int32)), (.ref ra0)])) _
    refine st107 _ ?_
    show Steps p.tables e below (T107.setTop (mkF m 30 #[.val (.ref ra0), .val (.int (0 : Int32)), .val (.int (5 : Int32)), .val (.int (5 : Int32)), .val (.ref b102)] [])) _
    refine XS.aload X107.here hx rfl (hb hby d29_30) rfl rfl ?_
    show Steps p.tables e below (T107.setTop (mkF m 32 #[.val (.ref ra0), .val (.int (0 : Int32)), .val (.int (5 : Int32)), .val (.int (5 : Int32)), .val (.ref b102)] [(.ref b102)])) _
    jvm_step X107.here [X107.here.top, hx, (hb hby d29_32), X107.method', Bd.returns, Value.isRef, FieldType.isReference]
    first | (intro acts; rw [hr _ acts rfl rfl rfl]) | rw [hr _ _ rfl rfl rfl]
    exact Steps.refl _
  · show Q29x36 Z ra0 uk1 h0 n0 _ T107.heap _
    rw [e107]
    exact ⟨b102, k102, rfl, N107, (((Keep.refl h0 []).ext E102).trans K107 (allS (P := (fun x => x ∈ [] ∨ h0.size ≤ x)) (Or.inr (Nat.le_trans (Nat.le_refl _) (Nat.le_of_eq g102.symm))) all0)), (Nat.le_trans (Nat.le_refl _) (Nat.le_of_eq g102.symm)), f109, V107'⟩
theorem d28_0 : decode jdk_65_method_132_code 0 = .ok (.iload_n 1, 1) := by decide +kernel
theorem d28_1 : decode jdk_65_method_132_code 1 = .ok (.ifCond .ne 9, 3) := by decide +kernel
theorem d28_4 : decode jdk_65_method_132_code 4 = .ok (.iload_n 2, 1) := by decide +kernel
theorem d28_5 : decode jdk_65_method_132_code 5 = .ok (.aload_n 0, 1) := by decide +kernel
theorem d28_6 : decode jdk_65_method_132_code 6 = .ok (.arraylength, 1) := by decide +kernel
theorem d28_7 : decode jdk_65_method_132_code 7 = .ok (.if_icmp .eq 10, 3) := by decide +kernel
theorem d28_10 : decode jdk_65_method_132_code 10 = .ok (.aload_n 0, 1) := by decide +kernel
theorem d28_11 : decode jdk_65_method_132_code 11 = .ok (.iload_n 1, 1) := by decide +kernel
theorem d28_12 : decode jdk_65_method_132_code 12 = .ok (.iload_n 2, 1) := by decide +kernel
theorem d28_13 : decode jdk_65_method_132_code 13 = .ok (.invokestatic 339, 3) := by decide +kernel
theorem d28_16 : decode jdk_65_method_132_code 16 = .ok (.areturn, 1) := by decide +kernel
theorem ef_28x35 (m : MethodId) (ra0 : Addr) : entryFrame m #[(.ref ra0), (.int (0 : Int32)), (.int (5 : Int32))] 3 = mkF m 0 #[.val (.ref ra0), .val (.int (0 : Int32)), .val (.int (5 : Int32))] [] := by first | (simp [entryFrame, mkF, argsToLocals, Value.category]; done) | rfl
def Q28x35 (Z : State) (ra0 : Addr) (uk1 : ClassId) (h0 : Heap) (n0 : Nat) (v : Option Value) (h : Heap) (L : List Loc) : Prop := ∃ (b102102 : Addr) (k102102 : ClassId), v = some (.ref b102102) ∧ Fr n0 L ∧ Keep h0 h [] ∧ h0.size ≤ b102102 ∧ Exa Z h b102102 "[B" ∧ Arv Z h b102102 k102102 .byte (5 : Int32) [(.int (53 : Int32)), (.int (48 : Int32)), (.int (45 : Int32)), (.int (53 : Int32)), (.int (57 : Int32))] (.int (0 : Int32))
set_option maxRecDepth 65536 in
set_option maxHeartbeats 40000000 in
theorem rm28x35 (l : Launch) (Z : State) (a0 : Array Value) (hw : ∀ d ∈ tables_1, d.before a0 Z = true) (ws : List Jvm.Cond) (ra0 : Addr) (uk1 : ClassId) (h0 : Heap) (n0 : Nat) (Z0 : n0 ≤ h0.size) (H0 : Arv Z h0 ra0 uk1 .byte (16 : Int32) [(.int (53 : Int32)), (.int (48 : Int32)), (.int (45 : Int32)), (.int (53 : Int32)), (.int (57 : Int32)), (.int (0 : Int32)), (.int (0 : Int32)), (.int (0 : Int32)), (.int (0 : Int32)), (.int (0 : Int32)), (.int (0 : Int32)), (.int (0 : Int32)), (.int (0 : Int32)), (.int (0 : Int32)), (.int (0 : Int32)), (.int (0 : Int32))] (.int (0 : Int32))) :
    MetFree l (⟨"java/util/Arrays", "copyOfRange", "([BII)[B"⟩ : MethodName) (head1 (Jvm.Cond.code (⟨"java/util/Arrays", "copyOfRange", "([BII)[B"⟩ : MethodName) jdk_65_method_132_code 3 (some (.array .byte)) :: ws) ({ frames := 2, cells := 1, slots := 5, locals := 34 } : Room)) (fun a U => a = #[(.ref ra0), (.int (0 : Int32)), (.int (5 : Int32))] ∧ Z.Warmed39 U.vm ∧ U.heap = h0) (fun _ _ _ _ _ => True) (fun _ U o U' => ∃ v L, o = .returned v ∧ Q28x35 Z ra0 uk1 h0 n0 v U'.heap L ∧ FrameEnd U o U' L ({ frames := 2, cells := 1, slots := 5, locals := 34 } : Room).cells ({ frames := 2, cells := 1, slots := 5, locals := 34 } : Room).slots) := by
  refine MetFree.of_bodySF (plainFor_of_name pn_java_util_Arrays) hisR ?_
  intro p e s m args below meth c s₁ Bd hml0 hP hK
  obtain ⟨rfl, hZ, hh⟩ := hP
  have hx := Bd.exec
  have hby := Bd.bytes
  have hml : c.maxLocals = 3 := hml0
  have hown : s.vm.findClass "java/util/Arrays" = some m.cls := findClass_of_methodNamed Bd.named
  have hnm := (name_of_methodNamed Bd.named Bd.method).1
  have X0 : Stand p l e ({ frames := 2, cells := 1, slots := 5, locals := 34 } : Room) s m #[(.ref ra0), (.int (0 : Int32)), (.int (5 : Int32))] below meth c s₁ [] 0 0 := Stand.of_body Bd
  have e0 : s₁.heap = h0 := by rw [← hh, Bd.state]; rfl
  have N0 := Fr.nil n0
  have pre0 : ∀ t, Steps p.tables e below (s₁.setTop (mkF m 0 #[.val (.ref ra0), .val (.int (0 : Int32)), .val (.int (5 : Int32))] [])) t → Steps p.tables e below (s₁.setTop (entryFrame m #[(.ref ra0), (.int (0 : Int32)), (.int (5 : Int32))] 3)) t := fun t k => castTop (ef_28x35 m ra0) k
  obtain ⟨cl101, Ar101, -, S101, M101, -, -⟩ := id H0
  obtain ⟨_, _, ⟨T102, L102, k102, n102⟩, -, X102, ⟨Lc102, hQ102, l102, y102, z102⟩, st102⟩ := Jvm.LawKit.callS X0 hx (y := (⟨"java/util/Arrays", "copyOfRangeByte", "([BII)[B"⟩ : MethodName)) hown (mvT hZ (hw _ (List.mem_of_getElem? (i := 180) rfl))) (mvT hZ (hw _ (List.mem_of_getElem? (i := 181) rfl))) (mvT hZ (hw _ (List.mem_of_getElem? (i := 178) rfl))) (mvT hZ (hw _ (List.mem_of_getElem? (i := 182) rfl))) (by decide) (backOf (W := 0) (rm29x36 l Z a0 hw [] ra0 uk1 h0 n0 Z0 H0) hZ (hw _ (List.mem_of_getElem? (i := 182) rfl)) (hw _ (List.mem_of_getElem? (i := 178) rfl)) (by decide) (by decide)) (g := (mkF m 13 #[.val (.ref ra0), .val (.int (0 : Int32)), .val (.int (5 : Int32))] [(.int (5 : Int32)), (.int (0 : Int32)), (.ref ra0)])) rfl (by rw [hml]; rfl) (argsL := [(.ref ra0), (.int (0 : Int32)), (.int (5 : Int32))]) (rest := []) (lenOf pd_18 rfl) rfl (by show 2 * 0 + _ ≤ _; exact Nat.le_of_eq rfl) (hb hby d28_13) (fun _ _ => ⟨rfl, e0, (by decide : 0 + 1 ≤ _), (by decide : 0 + 5 ≤ _)⟩)
  dsimp only [Pt.U, Pt.locs, Pt.cells, Pt.slots] at X102 l102 y102 z102 st102 hQ102
  subst l102 y102 z102
  obtain ⟨b102102, k102102, rfl, Nq102, K102, R102_1, R102_2, R102_3⟩ := hQ102
  have N102 := Fr.app N0 Nq102
  obtain ⟨fs, hr, hrun, hended, hW, hsame⟩ := X102.leave (v := some (.ref b102102)) (fun h => by rw [Bd.returns] at h; cases h)
  refine ⟨_, _, pre0 _ ?_, hrun, hended, _, _, rfl, ?_, ⟨_, rfl⟩, hW, hsame.mono (by decide) (by decide)⟩
  · skip
    show Steps p.tables e below (s₁.setTop (mkF m 0 #[.val (.ref ra0), .val (.int (0 : Int32)), .val (.int (5 : Int32))] [])) _
    refine XS.iloadN X0.here hx rfl (hb hby d28_0) rfl ?_
    show Steps p.tables e below (s₁.setTop (mkF m 1 #[.val (.ref ra0), .val (.int (0 : Int32)), .val (.int (5 : Int32))] [(.int (0 : Int32))])) _
    refine XS.ifNo X0.here hx rfl (hb hby d28_1) rfl ((if0 _ _).trans (teq (by decide : (0 : Int32) = (0 : Int32))).2) ?_
    show Steps p.tables e below (s₁.setTop (mkF m 4 #[.val (.ref ra0), .val (.int (0 : Int32)), .val (.int (5 : Int32))] [])) _
    refine XS.iloadN X0.here hx rfl (hb hby d28_4) rfl ?_
    show Steps p.tables e below (s₁.setTop (mkF m 5 #[.val (.ref ra0), .val (.int (0 : Int32)), .val (.int (5 : Int32))] [(.int (5 : Int32))])) _
    refine XS.aloadN X0.here hx rfl (hb hby d28_5) rfl rfl ?_
    show Steps p.tables e below (s₁.setTop (mkF m 6 #[.val (.ref ra0), .val (.int (0 : Int32)), .val (.int (5 : Int32))] [(.ref ra0), (.int (5 : Int32))])) _
    refine X0.arraylength hx (by rw [e0]; exact Ar101.1) (State.isArrayOf_alike hZ.alike Ar101.2.1) (g := (mkF m 6 #[.val (.ref ra0), .val (.int (0 : Int32)), .val (.int (5 : Int32))] [(.ref ra0), (.int (5 : Int32))])) rfl rfl (hb hby d28_6) _ ?_
    rw [len_of S101 M101]
    show Steps p.tables e below (s₁.setTop (mkF m 7 #[.val (.ref ra0), .val (.int (0 : Int32)), .val (.int (5 : Int32))] [(.int (16 : Int32)), (.int (5 : Int32))])) _
    refine XS.icmpNo X0.here hx rfl (hb hby d28_7) rfl (feq (by decide : ¬ ((5 : Int32) = (16 : Int32)))).1 ?_
    show Steps p.tables e below (s₁.setTop (mkF m 10 #[.val (.ref ra0), .val (.int (0 : Int32)), .val (.int (5 : Int32))] [])) _
    refine XS.aloadN X0.here hx rfl (hb hby d28_10) rfl rfl ?_
    show Steps p.tables e below (s₁.setTop (mkF m 11 #[.val (.ref ra0), .val (.int (0 : Int32)), .val (.int (5 : Int32))] [(.ref ra0)])) _
    refine XS.iloadN X0.here hx rfl (hb hby d28_11) rfl ?_
    show Steps p.tables e below (s₁.setTop (mkF m 12 #[.val (.ref ra0), .val (.int (0 : Int32)), .val (.int (5 : Int32))] [(.int (0 : Int32)), (.ref ra0)])) _
    refine XS.iloadN X0.here hx rfl (hb hby d28_12) rfl ?_
    show Steps p.tables e below (s₁.setTop (mkF m 13 #[.val (.ref ra0), .val (.int (0 : Int32)), .val (.int (5 : Int32))] [(.int (5 : Int32)), (.int (0 : Int32)), (.ref ra0)])) _
    refine st102 _ ?_
    show Steps p.tables e below (T102.setTop (mkF m 16 #[.val (.ref ra0), .val (.int (0 : Int32)), .val (.int (5 : Int32))] [(.ref b102102)])) _
    jvm_step X102.here [X102.here.top, hx, (hb hby d28_16), X102.method', Bd.returns, Value.isRef, FieldType.isReference]
    first | (intro acts; rw [hr _ acts rfl rfl rfl]) | rw [hr _ _ rfl rfl rfl]
    exact Steps.refl _
  · show Q28x35 Z ra0 uk1 h0 n0 _ T102.heap _
    exact ⟨b102102, k102102, rfl, N102, ((Keep.refl h0 []).trans K102 (all0 (P := (fun x => x ∈ [] ∨ h0.size ≤ x)))), (Nat.le_trans (Nat.le_refl _) R102_1), R102_2, R102_3⟩
theorem d24_0 : decode jdk_42_method_150_code 0 = .ok (.aload_n 0, 1) := by decide +kernel
theorem d24_1 : decode jdk_42_method_150_code 1 = .ok (.invokespecial 1, 3) := by decide +kernel
theorem d24_4 : decode jdk_42_method_150_code 4 = .ok (.aload_n 1, 1) := by decide +kernel
theorem d24_5 : decode jdk_42_method_150_code 5 = .ok (.invokevirtual 552, 3) := by decide +kernel
theorem d24_8 : decode jdk_42_method_150_code 8 = .ok (.astore_n 3, 1) := by decide +kernel
theorem d24_9 : decode jdk_42_method_150_code 9 = .ok (.aload_n 1, 1) := by decide +kernel
theorem d24_10 : decode jdk_42_method_150_code 10 = .ok (.invokevirtual 549, 3) := by decide +kernel
theorem d24_13 : decode jdk_42_method_150_code 13 = .ok (.istore 4, 2) := by decide +kernel
theorem d24_15 : decode jdk_42_method_150_code 15 = .ok (.aload_n 1, 1) := by decide +kernel
theorem d24_16 : decode jdk_42_method_150_code 16 = .ok (.invokevirtual 1047, 3) := by decide +kernel
theorem d24_19 : decode jdk_42_method_150_code 19 = .ok (.ifCond .eq 22, 3) := by decide +kernel
theorem d24_22 : decode jdk_42_method_150_code 22 = .ok (.aload_n 0, 1) := by decide +kernel
theorem d24_23 : decode jdk_42_method_150_code 23 = .ok (.iconst 0, 1) := by decide +kernel
theorem d24_24 : decode jdk_42_method_150_code 24 = .ok (.putfield 15, 3) := by decide +kernel
theorem d24_27 : decode jdk_42_method_150_code 27 = .ok (.aload_n 0, 1) := by decide +kernel
theorem d24_28 : decode jdk_42_method_150_code 28 = .ok (.aload_n 3, 1) := by decide +kernel
theorem d24_29 : decode jdk_42_method_150_code 29 = .ok (.iconst 0, 1) := by decide +kernel
theorem d24_30 : decode jdk_42_method_150_code 30 = .ok (.iload 4, 2) := by decide +kernel
theorem d24_32 : decode jdk_42_method_150_code 32 = .ok (.invokestatic 54, 3) := by decide +kernel
theorem d24_35 : decode jdk_42_method_150_code 35 = .ok (.putfield 9, 3) := by decide +kernel
theorem d24_38 : decode jdk_42_method_150_code 38 = .ok (.goto 59, 3) := by decide +kernel
theorem d24_97 : decode jdk_42_method_150_code 97 = .ok (.return_, 1) := by decide +kernel
theorem ef_24x30 (m : MethodId) (ra0 : Addr) (ra1 : Addr) : entryFrame m #[(.ref ra0), (.ref ra1), .null] 5 = mkF m 0 #[.val (.ref ra0), .val (.ref ra1), .val .null, .unset, .unset] [] := by first | (simp [entryFrame, mkF, argsToLocals, Value.category]; done) | rfl
def Q24x30 (Z : State) (ra0 : Addr) (ra1 : Addr) (uo1 : Addr) (ui2 : Int32) (uk3 : ClassId) (h0 : Heap) (n0 : Nat) (v : Option Value) (h : Heap) (L : List Loc) : Prop := ∃ (b102102108 : Addr) (k102102108 : ClassId), v = none ∧ Fr n0 L ∧ Keep h0 h [ra0] ∧ Fld Z h ra0 "java/lang/String" "coder" "B" (.int (0 : Int32)) ∧ Fld Z h ra0 "java/lang/String" "value" "[B" (.ref b102102108) ∧ h0.size ≤ b102102108 ∧ Exa Z h b102102108 "[B" ∧ Arv Z h b102102108 k102102108 .byte (5 : Int32) [(.int (53 : Int32)), (.int (48 : Int32)), (.int (45 : Int32)), (.int (53 : Int32)), (.int (57 : Int32))] (.int (0 : Int32))
set_option maxRecDepth 65536 in
set_option maxHeartbeats 40000000 in
theorem rm24x30 (l : Launch) (Z : State) (a0 : Array Value) (hw : ∀ d ∈ tables_1, d.before a0 Z = true) (ws : List Jvm.Cond) (ra0 : Addr) (ra1 : Addr) (uo1 : Addr) (ui2 : Int32) (uk3 : ClassId) (h0 : Heap) (n0 : Nat) (Z0 : n0 ≤ h0.size) (H0 : Exa Z h0 ra1 "java/lang/StringBuilder") (H1 : Fld Z h0 ra1 "java/lang/AbstractStringBuilder" "value" "[B" (.ref uo1)) (H2 : Fld Z h0 ra1 "java/lang/AbstractStringBuilder" "count" "I" (.int (5 : Int32))) (H3 : Sta Z h0 "java/lang/String" "COMPACT_STRINGS" "Z" (.int ui2)) (H4 : ¬ (ui2 = (0 : Int32))) (H5 : Fld Z h0 ra1 "java/lang/AbstractStringBuilder" "coder" "B" (.int (0 : Int32))) (H6 : Exa Z h0 ra0 "java/lang/String") (H7 : Fld Z h0 ra0 "java/lang/String" "coder" "B" (.int (0 : Int32))) (H8 : n0 ≤ ra0) (H9 : Arv Z h0 uo1 uk3 .byte (16 : Int32) [(.int (53 : Int32)), (.int (48 : Int32)), (.int (45 : Int32)), (.int (53 : Int32)), (.int (57 : Int32)), (.int (0 : Int32)), (.int (0 : Int32)), (.int (0 : Int32)), (.int (0 : Int32)), (.int (0 : Int32)), (.int (0 : Int32)), (.int (0 : Int32)), (.int (0 : Int32)), (.int (0 : Int32)), (.int (0 : Int32)), (.int (0 : Int32))] (.int (0 : Int32))) (H10 : Fld Z h0 ra0 "java/lang/String" "value" "[B" .null) :
    MetFree l (⟨"java/lang/String", "<init>", "(Ljava/lang/AbstractStringBuilder;Ljava/lang/Void;)V"⟩ : MethodName) (head1 (Jvm.Cond.code (⟨"java/lang/String", "<init>", "(Ljava/lang/AbstractStringBuilder;Ljava/lang/Void;)V"⟩ : MethodName) jdk_42_method_150_code 5 none :: ws) ({ frames := 3, cells := 1, slots := 5, locals := 49 } : Room)) (fun a U => a = #[(.ref ra0), (.ref ra1), .null] ∧ Z.Warmed39 U.vm ∧ U.heap = h0) (fun _ _ _ _ _ => True) (fun _ U o U' => ∃ v L, o = .returned v ∧ Q24x30 Z ra0 ra1 uo1 ui2 uk3 h0 n0 v U'.heap L ∧ FrameEnd U o U' L ({ frames := 3, cells := 1, slots := 5, locals := 49 } : Room).cells ({ frames := 3, cells := 1, slots := 5, locals := 49 } : Room).slots) := by
  refine MetFree.of_bodySF (plainFor_of_name pn_java_lang_String) hisR ?_
  intro p e s m args below meth c s₁ Bd hml0 hP hK
  obtain ⟨rfl, hZ, hh⟩ := hP
  have hx := Bd.exec
  have hby := Bd.bytes
  have hml : c.maxLocals = 5 := hml0
  have hown : s.vm.findClass "java/lang/String" = some m.cls := findClass_of_methodNamed Bd.named
  have hnm := (name_of_methodNamed Bd.named Bd.method).1
  have X0 : Stand p l e ({ frames := 3, cells := 1, slots := 5, locals := 49 } : Room) s m #[(.ref ra0), (.ref ra1), .null] below meth c s₁ [] 0 0 := Stand.of_body Bd
  have e0 : s₁.heap = h0 := by rw [← hh, Bd.state]; rfl
  have N0 := Fr.nil n0
  have pre0 : ∀ t, Steps p.tables e below (s₁.setTop (mkF m 0 #[.val (.ref ra0), .val (.ref ra1), .val .null, .unset, .unset] [])) t → Steps p.tables e below (s₁.setTop (entryFrame m #[(.ref ra0), (.ref ra1), .null] 5)) t := fun t k => castTop (ef_24x30 m ra0 ra1) k
  obtain ⟨T101, X101, e101, st101⟩ := initO X0 hx hZ hown (hw _ (List.mem_of_getElem? (i := 161) rfl)) (hw _ (List.mem_of_getElem? (i := 59) rfl)) (hw _ (List.mem_of_getElem? (i := 60) rfl)) e0 (g := (mkF m 1 #[.val (.ref ra0), .val (.ref ra1), .val .null, .unset, .unset] [(.ref ra0)])) rfl (by rw [hml]; rfl) rfl (hb hby d24_1) (by decide) (W := 0) (by show 2 * 0 + _ ≤ _; exact Nat.le_of_eq rfl) (by decide)
  obtain ⟨cq102, kq102, q102a, q102b, q102c⟩ := isOf hZ e101 H0
  obtain ⟨_, _, ⟨T102, L102, k102, n102⟩, -, X102, ⟨Lc102, hQ102, l102, y102, z102⟩, st102⟩ := X101.virtualBack hx (y := (⟨"java/lang/AbstractStringBuilder", "getValue", "()[B"⟩ : MethodName)) (z := (⟨"java/lang/AbstractStringBuilder", "getValue", "()[B"⟩ : MethodName)) hown (mvT hZ (hw _ (List.mem_of_getElem? (i := 162) rfl))) (mvT hZ (hw _ (List.mem_of_getElem? (i := 163) rfl))) (notFace_of_selects (args := #[]) (mvT hZ (hw _ (List.mem_of_getElem? (i := 165) rfl)))) (mvT hZ (hw _ (List.mem_of_getElem? (i := 165) rfl))) (mvT hZ (hw _ (List.mem_of_getElem? (i := 164) rfl))) (by decide) (backOf (W := 0) (rm25x31 l Z a0 hw [] ra1 uo1 h0 n0 Z0 H1) hZ (hw _ (List.mem_of_getElem? (i := 166) rfl)) (hw _ (List.mem_of_getElem? (i := 56) rfl)) (by decide) (by decide)) q102a q102c (g := (mkF m 5 #[.val (.ref ra0), .val (.ref ra1), .val .null, .unset, .unset] [(.ref ra1)])) rfl (by rw [hml]; rfl) (Steps.refl _) (argsL := []) (rest := []) (lenOf pd_15 rfl) rfl (by show 2 * 0 + _ ≤ _; exact Nat.le_of_eq rfl) (hb hby d24_5) (fun _ _ => ⟨rfl, e101, (by decide : 0 + 0 ≤ _), (by decide : 0 + 0 ≤ _)⟩)
  dsimp only [Pt.U, Pt.locs, Pt.cells, Pt.slots] at X102 l102 y102 z102 st102 hQ102
  subst l102 y102 z102
  obtain ⟨rfl, Nq102, Heq102⟩ := hQ102
  have N102 := Fr.app N0 Nq102
  obtain ⟨cq103, kq103, q103a, q103b, q103c⟩ := isOf hZ Heq102 H0
  obtain ⟨_, _, ⟨T103, L103, k103, n103⟩, -, X103, ⟨Lc103, hQ103, l103, y103, z103⟩, st103⟩ := X102.virtualBack hx (y := (⟨"java/lang/AbstractStringBuilder", "length", "()I"⟩ : MethodName)) (z := (⟨"java/lang/StringBuilder", "length", "()I"⟩ : MethodName)) hown (mvT hZ (hw _ (List.mem_of_getElem? (i := 167) rfl))) (mvT hZ (hw _ (List.mem_of_getElem? (i := 168) rfl))) (own_nf (a0 := #[]) (mvT hZ (hw _ (List.mem_of_getElem? (i := 87) rfl))) rfl) (mvT hZ (hw _ (List.mem_of_getElem? (i := 170) rfl))) (mvT hZ (hw _ (List.mem_of_getElem? (i := 171) rfl))) (by decide) (backOf (W := 0) (rm26x32 l Z a0 hw [] ra1 h0 n0 Z0 H2 H0) hZ (hw _ (List.mem_of_getElem? (i := 172) rfl)) (hw _ (List.mem_of_getElem? (i := 48) rfl)) (by decide) (by decide)) q103a q103c (g := (mkF m 10 #[.val (.ref ra0), .val (.ref ra1), .val .null, .val (.ref uo1), .unset] [(.ref ra1)])) rfl (by rw [hml]; rfl) (Steps.refl _) (argsL := []) (rest := []) (lenOf pd_0 rfl) rfl (by show 2 * 0 + _ ≤ _; exact Nat.le_of_eq rfl) (hb hby d24_10) (fun _ _ => ⟨rfl, Heq102, (by decide : 0 + 0 ≤ _), (by decide : 0 + 0 ≤ _)⟩)
  dsimp only [Pt.U, Pt.locs, Pt.cells, Pt.slots] at X103 l103 y103 z103 st103 hQ103
  subst l103 y103 z103
  obtain ⟨rfl, Nq103, Heq103⟩ := hQ103
  have N103 := Fr.app N102 Nq103
  obtain ⟨cq104, kq104, q104a, q104b, q104c⟩ := isOf hZ Heq103 H0
  obtain ⟨_, _, ⟨T104, L104, k104, n104⟩, -, X104, ⟨Lc104, hQ104, l104, y104, z104⟩, st104⟩ := X103.virtualBack hx (y := (⟨"java/lang/AbstractStringBuilder", "isLatin1", "()Z"⟩ : MethodName)) (z := (⟨"java/lang/AbstractStringBuilder", "isLatin1", "()Z"⟩ : MethodName)) hown (mvT hZ (hw _ (List.mem_of_getElem? (i := 175) rfl))) (mvT hZ (hw _ (List.mem_of_getElem? (i := 90) rfl))) (notFace_of_selects (args := #[]) (mvT hZ (hw _ (List.mem_of_getElem? (i := 92) rfl)))) (mvT hZ (hw _ (List.mem_of_getElem? (i := 92) rfl))) (mvT hZ (hw _ (List.mem_of_getElem? (i := 91) rfl))) (by decide) (backOf (W := 0) (rm13x34 l Z a0 hw [] ra1 ui2 h0 n0 Z0 H3 H4 H5) hZ (hw _ (List.mem_of_getElem? (i := 93) rfl)) (hw _ (List.mem_of_getElem? (i := 56) rfl)) (by decide) (by decide)) q104a q104c (g := (mkF m 16 #[.val (.ref ra0), .val (.ref ra1), .val .null, .val (.ref uo1), .val (.int (5 : Int32))] [(.ref ra1)])) rfl (by rw [hml]; rfl) (Steps.refl _) (argsL := []) (rest := []) (lenOf pd_4 rfl) rfl (by show 2 * 0 + _ ≤ _; exact Nat.le_of_eq rfl) (hb hby d24_16) (fun _ _ => ⟨rfl, Heq103, (by decide : 0 + 0 ≤ _), (by decide : 0 + 0 ≤ _)⟩)
  dsimp only [Pt.U, Pt.locs, Pt.cells, Pt.slots] at X104 l104 y104 z104 st104 hQ104
  subst l104 y104 z104
  obtain ⟨rfl, Nq104, Heq104⟩ := hQ104
  have N104 := Fr.app N103 Nq104
  obtain ⟨T105, h105, X105, e105, W105, st105⟩ := putFN X104 hx hZ hown (hw _ (List.mem_of_getElem? (i := 126) rfl)) Via.refl Heq104 H7 H6 (Or.inr ⟨(hw _ (List.mem_of_getElem? (i := 102) rfl)), rfl, hnm⟩) (hw _ (List.mem_of_getElem? (i := 100) rfl)) (ty := .byte) (v' := (.int (nar .byte (0 : Int32)))) (by decide) rfl (fits_nar_byte _) (g := (mkF m 24 #[.val (.ref ra0), .val (.ref ra1), .val .null, .val (.ref uo1), .val (.int (5 : Int32))] [(.int (0 : Int32)), (.ref ra0)])) rfl rfl (hb hby d24_24)
  rw [show nar .byte (0 : Int32) = (0 : Int32) from by decide] at W105
  have Fw105 := H7.same W105
  have N105 := Fr.snoc X105 N104 H8
  have ne106 : ra0 ≠ uo1 := Exa.neArv H6 H9 (hw _ (List.mem_of_getElem? (i := 100) rfl))
  have f107 : Arv Z h105 uo1 uk3 .byte (16 : Int32) [(.int (53 : Int32)), (.int (48 : Int32)), (.int (45 : Int32)), (.int (53 : Int32)), (.int (57 : Int32)), (.int (0 : Int32)), (.int (0 : Int32)), (.int (0 : Int32)), (.int (0 : Int32)), (.int (0 : Int32)), (.int (0 : Int32)), (.int (0 : Int32)), (.int (0 : Int32)), (.int (0 : Int32)), (.int (0 : Int32)), (.int (0 : Int32))] (.int (0 : Int32)) := (H9.other W105 (Ne.symm ne106))
  have z109 : n0 ≤ h105.size := (Nat.le_trans Z0 (Nat.le_of_eq W105.size.symm))
  obtain ⟨_, _, ⟨T108, L108, k108, n108⟩, -, X108, ⟨Lc108, hQ108, l108, y108, z108⟩, st108⟩ := Jvm.LawKit.callS X105 hx (y := (⟨"java/util/Arrays", "copyOfRange", "([BII)[B"⟩ : MethodName)) hown (mvT hZ (hw _ (List.mem_of_getElem? (i := 176) rfl))) (mvT hZ (hw _ (List.mem_of_getElem? (i := 177) rfl))) (mvT hZ (hw _ (List.mem_of_getElem? (i := 178) rfl))) (mvT hZ (hw _ (List.mem_of_getElem? (i := 179) rfl))) (by decide) (backOf (W := 1) (rm28x35 l Z a0 hw [] uo1 uk3 h105 n0 z109 f107) hZ (hw _ (List.mem_of_getElem? (i := 179) rfl)) (hw _ (List.mem_of_getElem? (i := 178) rfl)) (by decide) (by decide)) (g := (mkF m 32 #[.val (.ref ra0), .val (.ref ra1), .val .null, .val (.ref uo1), .val (.int (5 : Int32))] [(.int (5 : Int32)), (.int (0 : Int32)), (.ref uo1), (.ref ra0)])) rfl (by rw [hml]; rfl) (argsL := [(.ref uo1), (.int (0 : Int32)), (.int (5 : Int32))]) (rest := [(.ref ra0)]) (lenOf pd_18 rfl) rfl (by show 2 * 0 + _ ≤ _; exact Nat.le_of_eq rfl) (hb hby d24_32) (fun _ _ => ⟨rfl, e105, (by decide : 0 + 1 ≤ _), (by decide : 0 + 5 ≤ _)⟩)
  dsimp only [Pt.U, Pt.locs, Pt.cells, Pt.slots] at X108 l108 y108 z108 st108 hQ108
  subst l108 y108 z108
  obtain ⟨b102102108, k102102108, rfl, Nq108, K108, R108_1, R108_2, R108_3⟩ := hQ108
  have N108 := Fr.app N105 Nq108
  have f110 : Fld Z T108.heap ra0 "java/lang/String" "value" "[B" .null := ((H10.other W105 (Or.inr (slot_ne (Or.inr (hw _ (List.mem_of_getElem? (i := 101) rfl))) (Or.inr (hw _ (List.mem_of_getElem? (i := 102) rfl))) (by decide) (t := (.array .byte)) (t' := .byte) (by decide) (by decide)))).keep K108 nin0)
  have f111 : Exa Z T108.heap ra0 "java/lang/String" := ((H6.wr W105).keep K108)
  obtain ⟨T112, h112, X112, e112, W112, st112⟩ := putF X108 hx hZ hown (host := "") (Or.inl (hw _ (List.mem_of_getElem? (i := 119) rfl))) Via.refl rfl f110 f111 (Or.inr ⟨(hw _ (List.mem_of_getElem? (i := 101) rfl)), rfl, hnm⟩) (hw _ (List.mem_of_getElem? (i := 100) rfl)) (ty := (.array .byte)) (by decide) rfl rfl (g := (mkF m 35 #[.val (.ref ra0), .val (.ref ra1), .val .null, .val (.ref uo1), .val (.int (5 : Int32))] [(.ref b102102108), (.ref ra0)])) rfl rfl (hb hby d24_35)
  have Fw112 := f110.same W112
  have N112 := Fr.snoc X112 N108 H8
  have f113 : Fld Z h112 ra0 "java/lang/String" "coder" "B" (.int (0 : Int32)) := ((Fw105.keep K108 nin0).other W112 (Or.inr (slot_ne (Or.inr (hw _ (List.mem_of_getElem? (i := 102) rfl))) (Or.inr (hw _ (List.mem_of_getElem? (i := 101) rfl))) (by decide) (t := .byte) (t' := (.array .byte)) (by decide) (by decide))))
  have f114 : Exa Z h112 b102102108 "[B" := (R108_2.wr W112)
  have ne115 : ra0 ≠ b102102108 := (Nat.ne_of_lt (Nat.lt_of_lt_of_le (H6.wr W105).lt R108_1))
  have f116 : Arv Z h112 b102102108 k102102108 .byte (5 : Int32) [(.int (53 : Int32)), (.int (48 : Int32)), (.int (45 : Int32)), (.int (53 : Int32)), (.int (57 : Int32))] (.int (0 : Int32)) := (R108_3.other W112 (Ne.symm ne115))
  obtain ⟨fs, hr, hrun, hended, hW, hsame⟩ := X112.leave (v := none) (fun _ => rfl)
  refine ⟨_, _, pre0 _ ?_, hrun, hended, _, _, rfl, ?_, ⟨_, rfl⟩, hW, hsame.mono (by decide) (by decide)⟩
  · skip
    show Steps p.tables e below (s₁.setTop (mkF m 0 #[.val (.ref ra0), .val (.ref ra1), .val .null, .unset, .unset] [])) _
    refine XS.aloadN X0.here hx rfl (hb hby d24_0) rfl rfl ?_
    show Steps p.tables e below (s₁.setTop (mkF m 1 #[.val (.ref ra0), .val (.ref ra1), .val .null, .unset, .unset] [(.ref ra0)])) _
    refine st101 _ ?_
    show Steps p.tables e below (T101.setTop (mkF m 4 #[.val (.ref ra0), .val (.ref ra1), .val .null, .unset, .unset] [])) _
    refine XS.aloadN X101.here hx rfl (hb hby d24_4) rfl rfl ?_
    show Steps p.tables e below (T101.setTop (mkF m 5 #[.val (.ref ra0), .val (.ref ra1), .val .null, .unset, .unset] [(.ref ra1)])) _
    refine st102.trans ?_
    show Steps p.tables e below (T102.setTop (mkF m 8 #[.val (.ref ra0), .val (.ref ra1), .val .null, .unset, .unset] [(.ref uo1)])) _
    refine XS.astoreN X102.here hx rfl (hb hby d24_8) rfl rfl (l' := #[.val (.ref ra0), .val (.ref ra1), .val .null, .val (.ref uo1), .unset]) rfl ?_
    show Steps p.tables e below (T102.setTop (mkF m 9 #[.val (.ref ra0), .val (.ref ra1), .val .null, .val (.ref uo1), .unset] [])) _
    refine XS.aloadN X102.here hx rfl (hb hby d24_9) rfl rfl ?_
    show Steps p.tables e below (T102.setTop (mkF m 10 #[.val (.ref ra0), .val (.ref ra1), .val .null, .val (.ref uo1), .unset] [(.ref ra1)])) _
    refine st103.trans ?_
    show Steps p.tables e below (T103.setTop (mkF m 13 #[.val (.ref ra0), .val (.ref ra1), .val .null, .val (.ref uo1), .unset] [(.int (5 : Int32))])) _
    refine XS.istore X103.here hx rfl (hb hby d24_13) rfl (l' := #[.val (.ref ra0), .val (.ref ra1), .val .null, .val (.ref uo1), .val (.int (5 : Int32))]) rfl ?_
    show Steps p.tables e below (T103.setTop (mkF m 15 #[.val (.ref ra0), .val (.ref ra1), .val .null, .val (.ref uo1), .val (.int (5 : Int32))] [])) _
    refine XS.aloadN X103.here hx rfl (hb hby d24_15) rfl rfl ?_
    show Steps p.tables e below (T103.setTop (mkF m 16 #[.val (.ref ra0), .val (.ref ra1), .val .null, .val (.ref uo1), .val (.int (5 : Int32))] [(.ref ra1)])) _
    refine st104.trans ?_
    show Steps p.tables e below (T104.setTop (mkF m 19 #[.val (.ref ra0), .val (.ref ra1), .val .null, .val (.ref uo1), .val (.int (5 : Int32))] [(.int (1 : Int32))])) _
    refine XS.ifNo X104.here hx rfl (hb hby d24_19) rfl ((if0 _ _).trans (feq (by decide : ¬ ((1 : Int32) = (0 : Int32)))).1) ?_
    show Steps p.tables e below (T104.setTop (mkF m 22 #[.val (.ref ra0), .val (.ref ra1), .val .null, .val (.ref uo1), .val (.int (5 : Int32))] [])) _
    refine XS.aloadN X104.here hx rfl (hb hby d24_22) rfl rfl ?_
    show Steps p.tables e below (T104.setTop (mkF m 23 #[.val (.ref ra0), .val (.ref ra1), .val .null, .val (.ref uo1), .val (.int (5 : Int32))] [(.ref ra0)])) _
    refine XS.iconst X104.here hx rfl (hb hby d24_23) ?_
    show Steps p.tables e below (T104.setTop (mkF m 24 #[.val (.ref ra0), .val (.ref ra1), .val .null, .val (.ref uo1), .val (.int (5 : Int32))] [(.int (0 : Int32)), (.ref ra0)])) _
    refine st105 _ ?_
    show Steps p.tables e below (T105.setTop (mkF m 27 #[.val (.ref ra0), .val (.ref ra1), .val .null, .val (.ref uo1), .val (.int (5 : Int32))] [])) _
    refine XS.aloadN X105.here hx rfl (hb hby d24_27) rfl rfl ?_
    show Steps p.tables e below (T105.setTop (mkF m 28 #[.val (.ref ra0), .val (.ref ra1), .val .null, .val (.ref uo1), .val (.int (5 : Int32))] [(.ref ra0)])) _
    refine XS.aloadN X105.here hx rfl (hb hby d24_28) rfl rfl ?_
    show Steps p.tables e below (T105.setTop (mkF m 29 #[.val (.ref ra0), .val (.ref ra1), .val .null, .val (.ref uo1), .val (.int (5 : Int32))] [(.ref uo1), (.ref ra0)])) _
    refine XS.iconst X105.here hx rfl (hb hby d24_29) ?_
    show Steps p.tables e below (T105.setTop (mkF m 30 #[.val (.ref ra0), .val (.ref ra1), .val .null, .val (.ref uo1), .val (.int (5 : Int32))] [(.int (0 : Int32)), (.ref uo1), (.ref ra0)])) _
    refine XS.iload X105.here hx rfl (hb hby d24_30) rfl ?_
    show Steps p.tables e below (T105.setTop (mkF m 32 #[.val (.ref ra0), .val (.ref ra1), .val .null, .val (.ref uo1), .val (.int (5 : Int32))] [(.int (5 : Int32)), (.int (0 : Int32)), (.ref uo1), (.ref ra0)])) _
    refine st108 _ ?_
    show Steps p.tables e below (T108.setTop (mkF m 35 #[.val (.ref ra0), .val (.ref ra1), .val .null, .val (.ref uo1), .val (.int (5 : Int32))] [(.ref b102102108), (.ref ra0)])) _
    refine st112 _ ?_
    show Steps p.tables e below (T112.setTop (mkF m 38 #[.val (.ref ra0), .val (.ref ra1), .val .null, .val (.ref uo1), .val (.int (5 : Int32))] [])) _
    refine XS.goto X112.here hx rfl (pc0 := 38) (pc' := 97) rfl (hb hby d24_38) (by decide) (by decide) ?_
    show Steps p.tables e below (T112.setTop (mkF m 97 #[.val (.ref ra0), .val (.ref ra1), .val .null, .val (.ref uo1), .val (.int (5 : Int32))] [])) _
    exact X112.returnOut hx Bd.returns (hb hby d24_97) hr
  · show Q24x30 Z ra0 ra1 uo1 ui2 uk3 h0 n0 _ T112.heap _
    rw [e112]
    exact ⟨b102102108, k102102108, rfl, N112, ((((Keep.refl h0 [ra0]).wr W105 (Or.inl (List.mem_of_getElem? (i := 0) rfl))).trans K108 (all0 (P := (fun x => x ∈ [ra0] ∨ h0.size ≤ x)))).wr W112 (Or.inl (List.mem_of_getElem? (i := 0) rfl))), f113, Fw112, (Nat.le_trans (Nat.le_trans (Nat.le_refl _) (Nat.le_of_eq W105.size.symm)) R108_1), f114, f116⟩
theorem d23_0 : decode jdk_42_method_53_code 0 = .ok (.aload_n 0, 1) := by decide +kernel
theorem d23_1 : decode jdk_42_method_53_code 1 = .ok (.aload_n 1, 1) := by decide +kernel
theorem d23_2 : decode jdk_42_method_53_code 2 = .ok (.aconst_null, 1) := by decide +kernel
theorem d23_3 : decode jdk_42_method_53_code 3 = .ok (.invokespecial 489, 3) := by decide +kernel
theorem d23_6 : decode jdk_42_method_53_code 6 = .ok (.return_, 1) := by decide +kernel
theorem ef_23x29 (m : MethodId) (ra0 : Addr) (ra1 : Addr) : entryFrame m #[(.ref ra0), (.ref ra1)] 2 = mkF m 0 #[.val (.ref ra0), .val (.ref ra1)] [] := by first | (simp [entryFrame, mkF, argsToLocals, Value.category]; done) | rfl
def Q23x29 (Z : State) (ra0 : Addr) (ra1 : Addr) (uo1 : Addr) (ui2 : Int32) (uk3 : ClassId) (h0 : Heap) (n0 : Nat) (v : Option Value) (h : Heap) (L : List Loc) : Prop := ∃ (b102102108101 : Addr) (k102102108101 : ClassId), v = none ∧ Fr n0 L ∧ Keep h0 h [ra0] ∧ Fld Z h ra0 "java/lang/String" "coder" "B" (.int (0 : Int32)) ∧ Fld Z h ra0 "java/lang/String" "value" "[B" (.ref b102102108101) ∧ h0.size ≤ b102102108101 ∧ Exa Z h b102102108101 "[B" ∧ Arv Z h b102102108101 k102102108101 .byte (5 : Int32) [(.int (53 : Int32)), (.int (48 : Int32)), (.int (45 : Int32)), (.int (53 : Int32)), (.int (57 : Int32))] (.int (0 : Int32))
set_option maxRecDepth 65536 in
set_option maxHeartbeats 40000000 in
theorem rm23x29 (l : Launch) (Z : State) (a0 : Array Value) (hw : ∀ d ∈ tables_1, d.before a0 Z = true) (ws : List Jvm.Cond) (ra0 : Addr) (ra1 : Addr) (uo1 : Addr) (ui2 : Int32) (uk3 : ClassId) (h0 : Heap) (n0 : Nat) (Z0 : n0 ≤ h0.size) (H0 : Exa Z h0 ra1 "java/lang/StringBuilder") (H1 : Fld Z h0 ra1 "java/lang/AbstractStringBuilder" "value" "[B" (.ref uo1)) (H2 : Fld Z h0 ra1 "java/lang/AbstractStringBuilder" "count" "I" (.int (5 : Int32))) (H3 : Sta Z h0 "java/lang/String" "COMPACT_STRINGS" "Z" (.int ui2)) (H4 : ¬ (ui2 = (0 : Int32))) (H5 : Fld Z h0 ra1 "java/lang/AbstractStringBuilder" "coder" "B" (.int (0 : Int32))) (H6 : Exa Z h0 ra0 "java/lang/String") (H7 : Fld Z h0 ra0 "java/lang/String" "coder" "B" (.int (0 : Int32))) (H8 : n0 ≤ ra0) (H9 : Arv Z h0 uo1 uk3 .byte (16 : Int32) [(.int (53 : Int32)), (.int (48 : Int32)), (.int (45 : Int32)), (.int (53 : Int32)), (.int (57 : Int32)), (.int (0 : Int32)), (.int (0 : Int32)), (.int (0 : Int32)), (.int (0 : Int32)), (.int (0 : Int32)), (.int (0 : Int32)), (.int (0 : Int32)), (.int (0 : Int32)), (.int (0 : Int32)), (.int (0 : Int32)), (.int (0 : Int32))] (.int (0 : Int32))) (H10 : Fld Z h0 ra0 "java/lang/String" "value" "[B" .null) :
    MetFree l (⟨"java/lang/String", "<init>", "(Ljava/lang/StringBuilder;)V"⟩ : MethodName) (head1 (Jvm.Cond.code (⟨"java/lang/String", "<init>", "(Ljava/lang/StringBuilder;)V"⟩ : MethodName) jdk_42_method_53_code 2 none :: ws) ({ frames := 4, cells := 1, slots := 5, locals := 65 } : Room)) (fun a U => a = #[(.ref ra0), (.ref ra1)] ∧ Z.Warmed39 U.vm ∧ U.heap = h0) (fun _ _ _ _ _ => True) (fun _ U o U' => ∃ v L, o = .returned v ∧ Q23x29 Z ra0 ra1 uo1 ui2 uk3 h0 n0 v U'.heap L ∧ FrameEnd U o U' L ({ frames := 4, cells := 1, slots := 5, locals := 65 } : Room).cells ({ frames := 4, cells := 1, slots := 5, locals := 65 } : Room).slots) := by
  refine MetFree.of_bodySF (plainFor_of_name pn_java_lang_String) hisR ?_
  intro p e s m args below meth c s₁ Bd hml0 hP hK
  obtain ⟨rfl, hZ, hh⟩ := hP
  have hx := Bd.exec
  have hby := Bd.bytes
  have hml : c.maxLocals = 2 := hml0
  have hown : s.vm.findClass "java/lang/String" = some m.cls := findClass_of_methodNamed Bd.named
  have hnm := (name_of_methodNamed Bd.named Bd.method).1
  have X0 : Stand p l e ({ frames := 4, cells := 1, slots := 5, locals := 65 } : Room) s m #[(.ref ra0), (.ref ra1)] below meth c s₁ [] 0 0 := Stand.of_body Bd
  have e0 : s₁.heap = h0 := by rw [← hh, Bd.state]; rfl
  have N0 := Fr.nil n0
  have pre0 : ∀ t, Steps p.tables e below (s₁.setTop (mkF m 0 #[.val (.ref ra0), .val (.ref ra1)] [])) t → Steps p.tables e below (s₁.setTop (entryFrame m #[(.ref ra0), (.ref ra1)] 2)) t := fun t k => castTop (ef_23x29 m ra0 ra1) k
  obtain ⟨_, _, ⟨T101, L101, k101, n101⟩, -, X101, ⟨Lc101, hQ101, l101, y101, z101⟩, st101⟩ := X0.specialBack hx (y := (⟨"java/lang/String", "<init>", "(Ljava/lang/AbstractStringBuilder;Ljava/lang/Void;)V"⟩ : MethodName)) rfl hown (mvT hZ (hw _ (List.mem_of_getElem? (i := 158) rfl))) (mvT hZ (hw _ (List.mem_of_getElem? (i := 159) rfl))) (mvT hZ (hw _ (List.mem_of_getElem? (i := 160) rfl))) (by decide) (backOf (W := 0) (rm24x30 l Z a0 hw [] ra0 ra1 uo1 ui2 uk3 h0 n0 Z0 H0 H1 H2 H3 H4 H5 H6 H7 H8 H9 H10) hZ (hw _ (List.mem_of_getElem? (i := 160) rfl)) (hw _ (List.mem_of_getElem? (i := 62) rfl)) (by decide) (by decide)) (g := (mkF m 3 #[.val (.ref ra0), .val (.ref ra1)] [.null, (.ref ra1), (.ref ra0)])) rfl (by rw [hml]; rfl) (Steps.refl _) (a := ra0) (argsL := [(.ref ra1), .null]) (rest := []) (lenOf pd_19 rfl) rfl (by show 2 * 0 + _ ≤ _; exact Nat.le_of_eq rfl) (hb hby d23_3) (fun _ _ => ⟨rfl, e0, (by decide : 0 + 1 ≤ _), (by decide : 0 + 5 ≤ _)⟩)
  dsimp only [Pt.U, Pt.locs, Pt.cells, Pt.slots] at X101 l101 y101 z101 st101 hQ101
  subst l101 y101 z101
  obtain ⟨b102102108101, k102102108101, rfl, Nq101, K101, R101_1, R101_2, R101_3, R101_4, R101_5⟩ := hQ101
  have N101 := Fr.app N0 Nq101
  obtain ⟨fs, hr, hrun, hended, hW, hsame⟩ := X101.leave (v := none) (fun _ => rfl)
  refine ⟨_, _, pre0 _ ?_, hrun, hended, _, _, rfl, ?_, ⟨_, rfl⟩, hW, hsame.mono (by decide) (by decide)⟩
  · skip
    show Steps p.tables e below (s₁.setTop (mkF m 0 #[.val (.ref ra0), .val (.ref ra1)] [])) _
    refine XS.aloadN X0.here hx rfl (hb hby d23_0) rfl rfl ?_
    show Steps p.tables e below (s₁.setTop (mkF m 1 #[.val (.ref ra0), .val (.ref ra1)] [(.ref ra0)])) _
    refine XS.aloadN X0.here hx rfl (hb hby d23_1) rfl rfl ?_
    show Steps p.tables e below (s₁.setTop (mkF m 2 #[.val (.ref ra0), .val (.ref ra1)] [(.ref ra1), (.ref ra0)])) _
    refine XS.aconstNull X0.here hx rfl (hb hby d23_2) ?_
    show Steps p.tables e below (s₁.setTop (mkF m 3 #[.val (.ref ra0), .val (.ref ra1)] [.null, (.ref ra1), (.ref ra0)])) _
    refine st101.trans ?_
    show Steps p.tables e below (T101.setTop (mkF m 6 #[.val (.ref ra0), .val (.ref ra1)] [])) _
    exact X101.returnOut hx Bd.returns (hb hby d23_6) hr
  · show Q23x29 Z ra0 ra1 uo1 ui2 uk3 h0 n0 _ T101.heap _
    exact ⟨b102102108101, k102102108101, rfl, N101, ((Keep.refl h0 [ra0]).trans K101 (allS (P := (fun x => x ∈ [ra0] ∨ h0.size ≤ x)) (Or.inl (List.mem_of_getElem? (i := 0) rfl)) all0)), R101_1, R101_2, (Nat.le_trans (Nat.le_refl _) R101_3), R101_4, R101_5⟩
theorem d22_0 : decode jdk_67_method_42_code 0 = .ok (.new 18, 3) := by decide +kernel
theorem d22_3 : decode jdk_67_method_42_code 3 = .ok (.dup, 1) := by decide +kernel
theorem d22_4 : decode jdk_67_method_42_code 4 = .ok (.aload_n 0, 1) := by decide +kernel
theorem d22_5 : decode jdk_67_method_42_code 5 = .ok (.invokespecial 137, 3) := by decide +kernel
theorem d22_8 : decode jdk_67_method_42_code 8 = .ok (.areturn, 1) := by decide +kernel
theorem ef_22x28 (m : MethodId) (ra0 : Addr) : entryFrame m #[(.ref ra0)] 1 = mkF m 0 #[.val (.ref ra0)] [] := by first | (simp [entryFrame, mkF, argsToLocals, Value.category]; done) | rfl
def Q22x28 (Z : State) (ra0 : Addr) (uo1 : Addr) (ui2 : Int32) (uk3 : ClassId) (h0 : Heap) (n0 : Nat) (v : Option Value) (h : Heap) (L : List Loc) : Prop := ∃ (b101 : Addr) (b102102108101111 : Addr) (k102102108101111 : ClassId), v = some (.ref b101) ∧ Fr n0 L ∧ Keep h0 h [] ∧ h0.size ≤ b101 ∧ Exa Z h b101 "java/lang/String" ∧ Fld Z h b101 "java/lang/String" "coder" "B" (.int (0 : Int32)) ∧ Fld Z h b101 "java/lang/String" "value" "[B" (.ref b102102108101111) ∧ h0.size ≤ b102102108101111 ∧ Exa Z h b102102108101111 "[B" ∧ Arv Z h b102102108101111 k102102108101111 .byte (5 : Int32) [(.int (53 : Int32)), (.int (48 : Int32)), (.int (45 : Int32)), (.int (53 : Int32)), (.int (57 : Int32))] (.int (0 : Int32)) ∧ b102102108101111 ≠ b101
set_option maxRecDepth 65536 in
set_option maxHeartbeats 40000000 in
theorem rm22x28 (l : Launch) (Z : State) (a0 : Array Value) (hw : ∀ d ∈ tables_1, d.before a0 Z = true) (ws : List Jvm.Cond) (ra0 : Addr) (uo1 : Addr) (ui2 : Int32) (uk3 : ClassId) (h0 : Heap) (n0 : Nat) (Z0 : n0 ≤ h0.size) (H0 : Exa Z h0 ra0 "java/lang/StringBuilder") (H1 : Fld Z h0 ra0 "java/lang/AbstractStringBuilder" "value" "[B" (.ref uo1)) (H2 : Fld Z h0 ra0 "java/lang/AbstractStringBuilder" "count" "I" (.int (5 : Int32))) (H3 : Sta Z h0 "java/lang/String" "COMPACT_STRINGS" "Z" (.int ui2)) (H4 : ¬ (ui2 = (0 : Int32))) (H5 : Fld Z h0 ra0 "java/lang/AbstractStringBuilder" "coder" "B" (.int (0 : Int32))) (H6 : Arv Z h0 uo1 uk3 .byte (16 : Int32) [(.int (53 : Int32)), (.int (48 : Int32)), (.int (45 : Int32)), (.int (53 : Int32)), (.int (57 : Int32)), (.int (0 : Int32)), (.int (0 : Int32)), (.int (0 : Int32)), (.int (0 : Int32)), (.int (0 : Int32)), (.int (0 : Int32)), (.int (0 : Int32)), (.int (0 : Int32)), (.int (0 : Int32)), (.int (0 : Int32)), (.int (0 : Int32))] (.int (0 : Int32))) :
    MetFree l (⟨"java/lang/StringBuilder", "toString", "()Ljava/lang/String;"⟩ : MethodName) (head1 (Jvm.Cond.code (⟨"java/lang/StringBuilder", "toString", "()Ljava/lang/String;"⟩ : MethodName) jdk_67_method_42_code 1 (some (.object "java/lang/String")) :: ws) ({ frames := 5, cells := 2, slots := 9, locals := 79 } : Room)) (fun a U => a = #[(.ref ra0)] ∧ Z.Warmed39 U.vm ∧ U.heap = h0) (fun _ _ _ _ _ => True) (fun _ U o U' => ∃ v L, o = .returned v ∧ Q22x28 Z ra0 uo1 ui2 uk3 h0 n0 v U'.heap L ∧ FrameEnd U o U' L ({ frames := 5, cells := 2, slots := 9, locals := 79 } : Room).cells ({ frames := 5, cells := 2, slots := 9, locals := 79 } : Room).slots) := by
  refine MetFree.of_bodySF (plainFor_of_name pn_java_lang_StringBuilder) hisR ?_
  intro p e s m args below meth c s₁ Bd hml0 hP hK
  obtain ⟨rfl, hZ, hh⟩ := hP
  have hx := Bd.exec
  have hby := Bd.bytes
  have hml : c.maxLocals = 1 := hml0
  have hown : s.vm.findClass "java/lang/StringBuilder" = some m.cls := findClass_of_methodNamed Bd.named
  have hnm := (name_of_methodNamed Bd.named Bd.method).1
  have X0 : Stand p l e ({ frames := 5, cells := 2, slots := 9, locals := 79 } : Room) s m #[(.ref ra0)] below meth c s₁ [] 0 0 := Stand.of_body Bd
  have e0 : s₁.heap = h0 := by rw [← hh, Bd.state]; rfl
  have N0 := Fr.nil n0
  have pre0 : ∀ t, Steps p.tables e below (s₁.setTop (mkF m 0 #[.val (.ref ra0)] [])) t → Steps p.tables e below (s₁.setTop (entryFrame m #[(.ref ra0)] 1)) t := fun t k => castTop (ef_22x28 m ra0) k
  obtain ⟨T101, h101, X101, e101, E101, A101, D101, -, st101⟩ := newO X0 hx hZ hown (hw _ (List.mem_of_getElem? (i := 153) rfl)) (hw _ (List.mem_of_getElem? (i := 100) rfl)) (hw _ (List.mem_of_getElem? (i := 62) rfl)) e0 (g := (mkF m 0 #[.val (.ref ra0)] [])) rfl (hb hby d22_0) (by decide) (by decide)
  obtain ⟨b101, g101⟩ : ∃ z, z = h0.size := ⟨_, rfl⟩
  rw [← g101] at A101 D101 st101
  have F102 : Fld Z h101 b101 "java/lang/String" "value" "[B" .null := D101 (Or.inr (hw _ (List.mem_of_getElem? (i := 101) rfl))) (ty := (.array .byte)) (by decide)
  have F103 : Fld Z h101 b101 "java/lang/String" "coder" "B" (.int (0 : Int32)) := D101 (Or.inr (hw _ (List.mem_of_getElem? (i := 102) rfl))) (ty := .byte) (by decide)
  have g104 : n0 ≤ b101 := Nat.le_trans Z0 (Nat.le_of_eq g101.symm)
  have f105 : Exa Z h101 ra0 "java/lang/StringBuilder" := (H0.ext E101)
  have f106 : Fld Z h101 ra0 "java/lang/AbstractStringBuilder" "value" "[B" (.ref uo1) := (H1.ext E101)
  have f107 : Fld Z h101 ra0 "java/lang/AbstractStringBuilder" "count" "I" (.int (5 : Int32)) := (H2.ext E101)
  have f108 : Sta Z h101 "java/lang/String" "COMPACT_STRINGS" "Z" (.int ui2) := (H3.ext E101)
  have f109 : Fld Z h101 ra0 "java/lang/AbstractStringBuilder" "coder" "B" (.int (0 : Int32)) := (H5.ext E101)
  have f110 : Arv Z h101 uo1 uk3 .byte (16 : Int32) [(.int (53 : Int32)), (.int (48 : Int32)), (.int (45 : Int32)), (.int (53 : Int32)), (.int (57 : Int32)), (.int (0 : Int32)), (.int (0 : Int32)), (.int (0 : Int32)), (.int (0 : Int32)), (.int (0 : Int32)), (.int (0 : Int32)), (.int (0 : Int32)), (.int (0 : Int32)), (.int (0 : Int32)), (.int (0 : Int32)), (.int (0 : Int32))] (.int (0 : Int32)) := (H6.ext E101)
  have z112 : n0 ≤ h101.size := (Nat.le_trans Z0 E101.1)
  obtain ⟨_, _, ⟨T111, L111, k111, n111⟩, -, X111, ⟨Lc111, hQ111, l111, y111, z111⟩, st111⟩ := X101.specialBack hx (y := (⟨"java/lang/String", "<init>", "(Ljava/lang/StringBuilder;)V"⟩ : MethodName)) rfl hown (mvT hZ (hw _ (List.mem_of_getElem? (i := 154) rfl))) (mvT hZ (hw _ (List.mem_of_getElem? (i := 155) rfl))) (mvT hZ (hw _ (List.mem_of_getElem? (i := 157) rfl))) (by decide) (backOf (W := 1) (rm23x29 l Z a0 hw [] b101 ra0 uo1 ui2 uk3 h101 n0 z112 f105 f106 f107 f108 H4 f109 A101 F103 g104 f110 F102) hZ (hw _ (List.mem_of_getElem? (i := 157) rfl)) (hw _ (List.mem_of_getElem? (i := 62) rfl)) (by decide) (by decide)) (g := (mkF m 5 #[.val (.ref ra0)] [(.ref ra0), (.ref b101), (.ref b101)])) rfl (by rw [hml]; rfl) (Steps.refl _) (a := b101) (argsL := [(.ref ra0)]) (rest := [(.ref b101)]) (lenOf pd_20 rfl) rfl (by show 2 * 0 + _ ≤ _; exact Nat.le_of_eq rfl) (hb hby d22_5) (fun _ _ => ⟨rfl, e101, (by decide : 1 + 1 ≤ _), (by decide : 4 + 5 ≤ _)⟩)
  dsimp only [Pt.U, Pt.locs, Pt.cells, Pt.slots] at X111 l111 y111 z111 st111 hQ111
  subst l111 y111 z111
  obtain ⟨b102102108101111, k102102108101111, rfl, Nq111, K111, R111_1, R111_2, R111_3, R111_4, R111_5⟩ := hQ111
  have N111 := Fr.app N0 Nq111
  have f113 : Exa Z T111.heap b101 "java/lang/String" := (A101.keep K111)
  have ne114 : b101 ≠ b102102108101111 := (Nat.ne_of_lt (Nat.lt_of_lt_of_le A101.lt R111_3))
  obtain ⟨fs, hr, hrun, hended, hW, hsame⟩ := X111.leave (v := some (.ref b101)) (fun h => by rw [Bd.returns] at h; cases h)
  refine ⟨_, _, pre0 _ ?_, hrun, hended, _, _, rfl, ?_, ⟨_, rfl⟩, hW, hsame.mono (by decide) (by decide)⟩
  · skip
    show Steps p.tables e below (s₁.setTop (mkF m 0 #[.val (.ref ra0)] [])) _
    refine st101 _ ?_
    show Steps p.tables e below (T101.setTop (mkF m 3 #[.val (.ref ra0)] [(.ref b101)])) _
    refine XS.dup X101.here hx rfl (hb hby d22_3) rfl rfl ?_
    show Steps p.tables e below (T101.setTop (mkF m 4 #[.val (.ref ra0)] [(.ref b101), (.ref b101)])) _
    refine XS.aloadN X101.here hx rfl (hb hby d22_4) rfl rfl ?_
    show Steps p.tables e below (T101.setTop (mkF m 5 #[.val (.ref ra0)] [(.ref ra0), (.ref b101), (.ref b101)])) _
    refine st111.trans ?_
    show Steps p.tables e below (T111.setTop (mkF m 8 #[.val (.ref ra0)] [(.ref b101)])) _
    jvm_step X111.here [X111.here.top, hx, (hb hby d22_8), X111.method', Bd.returns, Value.isRef, FieldType.isReference]
    first | (intro acts; rw [hr _ acts rfl rfl rfl]) | rw [hr _ _ rfl rfl rfl]
    exact Steps.refl _
  · show Q22x28 Z ra0 uo1 ui2 uk3 h0 n0 _ T111.heap _
    exact ⟨b101, b102102108101111, k102102108101111, rfl, N111, (((Keep.refl h0 []).ext E101).trans K111 (allS (P := (fun x => x ∈ [] ∨ h0.size ≤ x)) (Or.inr (Nat.le_trans (Nat.le_refl _) (Nat.le_of_eq g101.symm))) all0)), (Nat.le_trans (Nat.le_refl _) (Nat.le_of_eq g101.symm)), f113, R111_1, R111_2, (Nat.le_trans (Nat.le_trans (Nat.le_refl _) E101.1) R111_3), R111_4, R111_5, (Ne.symm ne114)⟩
theorem d4_0 : decode prog_20_method_6_code 0 = .ok (.aload_n 0, 1) := by decide +kernel
theorem d4_1 : decode prog_20_method_6_code 1 = .ok (.invokevirtual 84, 3) := by decide +kernel
theorem d4_4 : decode prog_20_method_6_code 4 = .ok (.ifCond .ne 28, 3) := by decide +kernel
theorem d4_32 : decode prog_20_method_6_code 32 = .ok (.new 87, 3) := by decide +kernel
theorem d4_35 : decode prog_20_method_6_code 35 = .ok (.dup, 1) := by decide +kernel
theorem d4_36 : decode prog_20_method_6_code 36 = .ok (.invokespecial 89, 3) := by decide +kernel
theorem d4_39 : decode prog_20_method_6_code 39 = .ok (.aload_n 0, 1) := by decide +kernel
theorem d4_40 : decode prog_20_method_6_code 40 = .ok (.getfield 44, 3) := by decide +kernel
theorem d4_43 : decode prog_20_method_6_code 43 = .ok (.invokevirtual 92, 3) := by decide +kernel
theorem d4_46 : decode prog_20_method_6_code 46 = .ok (.ldc 105, 2) := by decide +kernel
theorem d4_48 : decode prog_20_method_6_code 48 = .ok (.invokevirtual 98, 3) := by decide +kernel
theorem d4_51 : decode prog_20_method_6_code 51 = .ok (.getstatic 52, 3) := by decide +kernel
theorem d4_54 : decode prog_20_method_6_code 54 = .ok (.aload_n 0, 1) := by decide +kernel
theorem d4_55 : decode prog_20_method_6_code 55 = .ok (.invokevirtual 84, 3) := by decide +kernel
theorem d4_58 : decode prog_20_method_6_code 58 = .ok (.iconst 1, 1) := by decide +kernel
theorem d4_59 : decode prog_20_method_6_code 59 = .ok (.isub, 1) := by decide +kernel
theorem d4_60 : decode prog_20_method_6_code 60 = .ok (.invokeinterface 80 2, 5) := by decide +kernel
theorem d4_65 : decode prog_20_method_6_code 65 = .ok (.checkcast 1, 3) := by decide +kernel
theorem d4_68 : decode prog_20_method_6_code 68 = .ok (.getfield 44, 3) := by decide +kernel
theorem d4_71 : decode prog_20_method_6_code 71 = .ok (.iconst 1, 1) := by decide +kernel
theorem d4_72 : decode prog_20_method_6_code 72 = .ok (.isub, 1) := by decide +kernel
theorem d4_73 : decode prog_20_method_6_code 73 = .ok (.invokevirtual 92, 3) := by decide +kernel
theorem d4_76 : decode prog_20_method_6_code 76 = .ok (.invokevirtual 101, 3) := by decide +kernel
theorem d4_79 : decode prog_20_method_6_code 79 = .ok (.areturn, 1) := by decide +kernel
theorem pn_com_example_ghostseat_ghostseat_modes_comics_Title : plainName "com/example/ghostseat/ghostseat/modes/comics/Title" = true := by first | (simp [plainName, overriddenIn]; done) | decide +kernel
theorem ef_4 (m : MethodId) (o6 : Addr) : entryFrame m #[(.ref o6)] 1 = mkF m 0 #[.val (.ref o6)] [] := by first | (simp [entryFrame, mkF, argsToLocals, Value.category]; done) | rfl
def Q4 (Z : State) (o6 : Addr) (cs : Int32) (d1 : Addr) (k1 : ClassId) (d2 : Addr) (k2 : ClassId) (hf : Addr) (el : Addr) (ek : ClassId) (o0 : Addr) (o1 : Addr) (o2 : Addr) (o3 : Addr) (o4 : Addr) (o5 : Addr) (h0 : Heap) (n0 : Nat) (v : Option Value) (h : Heap) (L : List Loc) : Prop := ∃ (x : Addr) (xb : Addr) (xk : ClassId), v = some (.ref x) ∧ Fr n0 L ∧ Keep h0 h [] ∧ Exa Z h x "java/lang/String" ∧ Fld Z h x "java/lang/String" "coder" "B" (.int (0 : Int32)) ∧ Fld Z h x "java/lang/String" "value" "[B" (.ref xb) ∧ Arv Z h xb xk .byte (5 : Int32) [(.int (53 : Int32)), (.int (48 : Int32)), (.int (45 : Int32)), (.int (53 : Int32)), (.int (57 : Int32))] (.int (0 : Int32))
set_option maxRecDepth 65536 in
set_option maxHeartbeats 40000000 in
theorem rm4 (l : Launch) (Z : State) (a0 : Array Value) (hw : ∀ d ∈ tables_1, d.before a0 Z = true) (ws : List Jvm.Cond) (hEL : EW Z a0 own_EL) (o6 : Addr) (cs : Int32) (d1 : Addr) (k1 : ClassId) (d2 : Addr) (k2 : ClassId) (hf : Addr) (el : Addr) (ek : ClassId) (o0 : Addr) (o1 : Addr) (o2 : Addr) (o3 : Addr) (o4 : Addr) (o5 : Addr) (h0 : Heap) (n0 : Nat) (Z0 : n0 ≤ h0.size) (H0 : Sta Z h0 "java/lang/String" "COMPACT_STRINGS" "Z" (.int cs)) (H1 : ¬ (cs = (0 : Int32))) (H2 : Sta Z h0 "java/lang/Integer" "DigitOnes" "[B" (.ref d1)) (H3 : Arv Z h0 d1 k1 .byte (100 : Int32) own_ones (.int (0 : Int32))) (H4 : Sta Z h0 "java/lang/Integer" "DigitTens" "[B" (.ref d2)) (H5 : Arv Z h0 d2 k2 .byte (100 : Int32) own_tens (.int (0 : Int32))) (H6 : Sta Z h0 "com/example/ghostseat/ghostseat/modes/comics/Title" "HIGHEST_FIRST" "Ljava/util/List;" (.ref hf)) (H7 : Exa Z h0 hf "java/util/ImmutableCollections$ListN") (H8 : Fld Z h0 hf "java/util/ImmutableCollections$ListN" "elements" "[Ljava/lang/Object;" (.ref el)) (H9 : Arv Z h0 el ek (.object "java/lang/Object") (7 : Int32) [(.ref o0), (.ref o1), (.ref o2), (.ref o3), (.ref o4), (.ref o5), (.ref o6)] .null) (H10 : Exa Z h0 o6 "com/example/ghostseat/ghostseat/modes/comics/Title") (H11 : Fld Z h0 o6 "com/example/ghostseat/ghostseat/modes/comics/Title" "least" "I" (.int (50 : Int32))) (H12 : Fld Z h0 o6 "java/lang/Enum" "ordinal" "I" (.int (6 : Int32))) (H13 : Exa Z h0 o5 "com/example/ghostseat/ghostseat/modes/comics/Title") (H14 : Fld Z h0 o5 "com/example/ghostseat/ghostseat/modes/comics/Title" "least" "I" (.int (60 : Int32))) :
    MetFree l (⟨"com/example/ghostseat/ghostseat/modes/comics/Title", "range", "()Ljava/lang/String;"⟩ : MethodName) (head1 (Jvm.Cond.code (⟨"com/example/ghostseat/ghostseat/modes/comics/Title", "range", "()Ljava/lang/String;"⟩ : MethodName) prog_20_method_6_code 1 (some (.object "java/lang/String")) :: ws) ({ frames := 6, cells := 6, slots := 37, locals := 91 } : Room)) (fun a U => a = #[(.ref o6)] ∧ Z.Warmed39 U.vm ∧ U.heap = h0 ∧ CHv Z own_EL U.vm h0) (fun _ _ _ _ _ => True) (fun _ U o U' => ∃ v L, o = .returned v ∧ Q4 Z o6 cs d1 k1 d2 k2 hf el ek o0 o1 o2 o3 o4 o5 h0 n0 v U'.heap L ∧ CHr Z own_EL U.vm U.heap U'.vm U'.heap ∧ ReturnedEndW U o U' L ({ frames := 6, cells := 6, slots := 37, locals := 91 } : Room).cells ({ frames := 6, cells := 6, slots := 37, locals := 91 } : Room).slots) := by
  refine MetFree.of_bodySF (plainFor_of_name pn_com_example_ghostseat_ghostseat_modes_comics_Title) hisR ?_
  intro p e s m args below meth c s₁ Bd hml0 hP hK
  obtain ⟨rfl, hZ, hh, hH⟩ := hP
  have hx := Bd.exec
  have hby := Bd.bytes
  have hml : c.maxLocals = 1 := hml0
  have hown : s.vm.findClass "com/example/ghostseat/ghostseat/modes/comics/Title" = some m.cls := findClass_of_methodNamed Bd.named
  have hnm := (name_of_methodNamed Bd.named Bd.method).1
  have X0 : Stand p l e ({ frames := 6, cells := 6, slots := 37, locals := 91 } : Room) s m #[(.ref o6)] below meth c s₁ [] 0 0 := Stand.of_body Bd
  have e0 : s₁.heap = h0 := by rw [← hh, Bd.state]; rfl
  have N0 := Fr.nil n0
  have X0 : Stand p l e ({ frames := 6, cells := 6, slots := 37, locals := 91 } : Room) (s.setVm s.vm) m #[(.ref o6)] below meth c s₁ [] 0 0 := X0
  have hZ : Z.Warmed39 (s.setVm s.vm).vm := hZ
  have hown : (s.setVm s.vm).vm.findClass "com/example/ghostseat/ghostseat/modes/comics/Title" = some m.cls := hown
  have hS0 : s.Since s.vm 0 := State.WarmedH.since (State.WarmedH.refl s) 0
  have Cr0 : CHr Z own_EL s.vm h0 s.vm h0 := CHr.refl hH
  have pre0 : ∀ t, Steps p.tables e below (s₁.setTop (mkF m 0 #[.val (.ref o6)] [])) t → Steps p.tables e below (s₁.setTop (entryFrame m #[(.ref o6)] 1)) t := fun t k => castTop (ef_4 m o6) k
  obtain ⟨cq101, kq101, q101a, q101b, q101c⟩ := isOf hZ e0 H10
  obtain ⟨_, _, ⟨T101, L101, k101, n101⟩, -, X101, ⟨Lc101, hQ101, l101, y101, z101⟩, st101⟩ := X0.virtualBackUp hx (owner := "java/lang/Enum") (x := (⟨"com/example/ghostseat/ghostseat/modes/comics/Title", "ordinal", "()I"⟩ : MethodName)) (y := (⟨"java/lang/Enum", "ordinal", "()I"⟩ : MethodName)) hown (mvT hZ (hw _ (List.mem_of_getElem? (i := 37) rfl))) (mvT hZ (hw _ (List.mem_of_getElem? (i := 38) rfl))) (mvT hZ (hw _ (List.mem_of_getElem? (i := 39) rfl))) (by decide) (mvT hZ (hw _ (List.mem_of_getElem? (i := 41) rfl))) (mvT hZ (hw _ (List.mem_of_getElem? (i := 40) rfl))) (backOf (W := 0) (rm5x1 l Z a0 hw [] o6 h0 n0 Z0 H12) hZ (hw _ (List.mem_of_getElem? (i := 43) rfl)) (hw _ (List.mem_of_getElem? (i := 42) rfl)) (by decide) (by decide)) q101a q101c (g := (mkF m 1 #[.val (.ref o6)] [(.ref o6)])) rfl (by rw [hml]; rfl) (Steps.refl _) (argsL := []) (rest := []) (lenOf pd_0 rfl) rfl (by show 2 * 0 + _ ≤ _; exact Nat.le_of_eq rfl) (hb hby d4_1) (fun _ _ => ⟨rfl, e0, (by decide : 0 + 0 ≤ _), (by decide : 0 + 0 ≤ _)⟩)
  dsimp only [Pt.U, Pt.locs, Pt.cells, Pt.slots] at X101 l101 y101 z101 st101 hQ101
  subst l101 y101 z101
  obtain ⟨rfl, Nq101, Heq101⟩ := hQ101
  have N101 := Fr.app N0 Nq101
  obtain ⟨T102, h102, X102, e102, E102, A102, D102, -, st102⟩ := newO X101 hx hZ hown (hw _ (List.mem_of_getElem? (i := 46) rfl)) (hw _ (List.mem_of_getElem? (i := 47) rfl)) (hw _ (List.mem_of_getElem? (i := 48) rfl)) Heq101 (g := (mkF m 32 #[.val (.ref o6)] [])) rfl (hb hby d4_32) (by decide) (by decide)
  obtain ⟨b102, g102⟩ : ∃ z, z = h0.size := ⟨_, rfl⟩
  rw [← g102] at A102 D102 st102
  have Hc103 := CHv.ext E102 hH
  have Cr103 := Cr0.trans (CHr.ext E102 hH)
  have F104 : Fld Z h102 b102 "java/lang/AbstractStringBuilder" "value" "[B" .null := D102 (Or.inl (hw _ (List.mem_of_getElem? (i := 65) rfl))) (ty := (.array .byte)) (by decide)
  have F105 : Fld Z h102 b102 "java/lang/AbstractStringBuilder" "coder" "B" (.int (0 : Int32)) := D102 (Or.inl (hw _ (List.mem_of_getElem? (i := 67) rfl))) (ty := .byte) (by decide)
  have F106 : Fld Z h102 b102 "java/lang/AbstractStringBuilder" "count" "I" (.int (0 : Int32)) := D102 (Or.inl (hw _ (List.mem_of_getElem? (i := 79) rfl))) (ty := .int) (by decide)
  have g107 : n0 ≤ b102 := Nat.le_trans Z0 (Nat.le_of_eq g102.symm)
  have f108 : Sta Z h102 "java/lang/String" "COMPACT_STRINGS" "Z" (.int cs) := (H0.ext E102)
  have z110 : n0 ≤ h102.size := (Nat.le_trans Z0 E102.1)
  obtain ⟨_, _, ⟨T109, L109, k109, n109⟩, -, X109, ⟨Lc109, hQ109, l109, y109, z109⟩, st109⟩ := X102.specialBack hx (y := (⟨"java/lang/StringBuilder", "<init>", "()V"⟩ : MethodName)) rfl hown (mvT hZ (hw _ (List.mem_of_getElem? (i := 49) rfl))) (mvT hZ (hw _ (List.mem_of_getElem? (i := 50) rfl))) (mvT hZ (hw _ (List.mem_of_getElem? (i := 51) rfl))) (by decide) (backOf (W := 1) (rm6x2 l Z a0 hw [] b102 cs h102 n0 z110 f108 H1 A102 F104 g107 F105 F106) hZ (hw _ (List.mem_of_getElem? (i := 51) rfl)) (hw _ (List.mem_of_getElem? (i := 48) rfl)) (by decide) (by decide)) (g := (mkF m 36 #[.val (.ref o6)] [(.ref b102), (.ref b102)])) rfl (by rw [hml]; rfl) (Steps.refl _) (a := b102) (argsL := []) (rest := [(.ref b102)]) (lenOf pd_2 rfl) rfl (by show 2 * 0 + _ ≤ _; exact Nat.le_of_eq rfl) (hb hby d4_36) (fun _ _ => ⟨rfl, e102, (by decide : 1 + 1 ≤ _), (by decide : 4 + 16 ≤ _)⟩)
  dsimp only [Pt.U, Pt.locs, Pt.cells, Pt.slots] at X109 l109 y109 z109 st109 hQ109
  subst l109 y109 z109
  obtain ⟨b103101109, k103101109, rfl, Nq109, K109, R109_1, R109_2, R109_3, R109_4, R109_5, R109_6⟩ := hQ109
  have N109 := Fr.app N101 Nq109
  have hs111 : ∀ x ∈ ([b102] : List Addr), Safe Z own_EL s.vm h102 x := (allS (P := fun x => Safe Z own_EL s.vm h102 x) (Safe.exa hZ.alike A102 (by decide) (by decide)) (all0 (P := fun x => Safe Z own_EL s.vm h102 x)))
  have Hc111 := CHv.keep K109 hs111 Hc103
  have Cr111 := Cr103.trans (CHr.keep K109 hs111 Hc103)
  have SbR109_4 := Safe.keep K109 hs111 Hc103 (Safe.new R109_4)
  have ne112 : o6 ≠ b102 := (Nat.ne_of_lt (Nat.lt_of_lt_of_le H10.lt (Nat.le_of_eq g102.symm)))
  have f113 : Fld Z T109.heap o6 "com/example/ghostseat/ghostseat/modes/comics/Title" "least" "I" (.int (50 : Int32)) := ((H11.ext E102).keep K109 (ninS ne112 nin0))
  obtain ⟨T114, X114, e114, st114⟩ := getF X109 hx hZ hown (host := "") (Or.inl (hw _ (List.mem_of_getElem? (i := 29) rfl))) Via.refl rfl f113 (g := (mkF m 40 #[.val (.ref o6)] [(.ref o6), (.ref b102)])) rfl rfl (hb hby d4_40)
  have g115 : n0 ≤ b103101109 := Nat.le_trans z110 R109_4
  have ne116 : d2 ≠ b103101109 := (Nat.ne_of_lt (Nat.lt_of_lt_of_le (H5.ext E102).lt R109_4))
  have f117 : Exa Z T109.heap b102 "java/lang/StringBuilder" := (A102.keep K109)
  have f118 : Sta Z T109.heap "java/lang/String" "COMPACT_STRINGS" "Z" (.int cs) := (own_sta_keep f108 K109 (own_plS (own_pl_exa A102) own_pl0))
  have f119 : Sta Z T109.heap "java/lang/Integer" "DigitOnes" "[B" (.ref d1) := (own_sta_keep (H2.ext E102) K109 (own_plS (own_pl_exa A102) own_pl0))
  have ne120 : d1 ≠ b102 := (Nat.ne_of_lt (Nat.lt_of_lt_of_le H3.lt (Nat.le_of_eq g102.symm)))
  have f121 : Arv Z T109.heap d1 k1 .byte (100 : Int32) own_ones (.int (0 : Int32)) := ((H3.ext E102).keep K109 (ninS ne120 nin0))
  have f122 : Sta Z T109.heap "java/lang/Integer" "DigitTens" "[B" (.ref d2) := (own_sta_keep (H4.ext E102) K109 (own_plS (own_pl_exa A102) own_pl0))
  have ne123 : d2 ≠ b102 := (Nat.ne_of_lt (Nat.lt_of_lt_of_le H5.lt (Nat.le_of_eq g102.symm)))
  have f124 : Arv Z T109.heap d2 k2 .byte (100 : Int32) own_tens (.int (0 : Int32)) := ((H5.ext E102).keep K109 (ninS ne123 nin0))
  have z126 : n0 ≤ T109.heap.size := (Nat.le_trans z110 K109.1)
  obtain ⟨cq125, kq125, q125a, q125b, q125c⟩ := isOf hZ e114 f117
  obtain ⟨_, _, ⟨T125, L125, k125, n125⟩, -, X125, ⟨Lc125, hQ125, l125, y125, z125⟩, st125⟩ := X114.virtualBack hx (y := (⟨"java/lang/StringBuilder", "append", "(I)Ljava/lang/StringBuilder;"⟩ : MethodName)) (z := (⟨"java/lang/StringBuilder", "append", "(I)Ljava/lang/StringBuilder;"⟩ : MethodName)) hown (mvT hZ (hw _ (List.mem_of_getElem? (i := 68) rfl))) (mvT hZ (hw _ (List.mem_of_getElem? (i := 69) rfl))) (notFace_of_selects (args := #[]) (mvT hZ (hw _ (List.mem_of_getElem? (i := 71) rfl)))) (mvT hZ (hw _ (List.mem_of_getElem? (i := 71) rfl))) (mvT hZ (hw _ (List.mem_of_getElem? (i := 70) rfl))) (by decide) (backOf (W := 0) (rm9x4 l Z a0 hw [] b102 b103101109 k103101109 cs d1 k1 d2 k2 T109.heap n0 z126 R109_2 f117 R109_3 R109_6 R109_1 f118 H1 f119 f121 g115 f122 f124 ne116 R109_5 g107) hZ (hw _ (List.mem_of_getElem? (i := 72) rfl)) (hw _ (List.mem_of_getElem? (i := 48) rfl)) (by decide) (by decide)) q125a q125c (g := (mkF m 43 #[.val (.ref o6)] [(.int (50 : Int32)), (.ref b102)])) rfl (by rw [hml]; rfl) (Steps.refl _) (argsL := [(.int (50 : Int32))]) (rest := []) (lenOf pd_7 rfl) rfl (by show 2 * 0 + _ ≤ _; exact Nat.le_of_eq rfl) (hb hby d4_43) (fun _ _ => ⟨rfl, e114, (by decide : 2 + 0 ≤ _), (by decide : 20 + 0 ≤ _)⟩)
  dsimp only [Pt.U, Pt.locs, Pt.cells, Pt.slots] at X125 l125 y125 z125 st125 hQ125
  subst l125 y125 z125
  obtain ⟨rfl, Nq125, K125, R125_1, R125_2, R125_3, R125_4⟩ := hQ125
  have N125 := Fr.app N109 Nq125
  have hs127 : ∀ x ∈ ([b103101109, b102] : List Addr), Safe Z own_EL s.vm T109.heap x := (allS (P := fun x => Safe Z own_EL s.vm T109.heap x) SbR109_4 (allS (P := fun x => Safe Z own_EL s.vm T109.heap x) (Safe.exa hZ.alike f117 (by decide) (by decide)) (all0 (P := fun x => Safe Z own_EL s.vm T109.heap x))))
  have Hc127 := CHv.keep K125 hs127 Hc111
  have Cr127 := Cr111.trans (CHr.keep K125 hs127 Hc111)
  have Sf127_0 := Safe.keep K125 hs127 Hc111 SbR109_4
  have f129 : Exa Z T125.heap b103101109 "[B" := (R109_5.keep K125)
  obtain ⟨a128, T128, h128, kk128, b128, k128, X128, e128, E128, hS128, hk128, hZ, hown, A128, Fc128, Fv128, V128, -, -, Cq128, -, sp128, st128⟩ := ldcCH X125 hx hZ hown (hw _ (List.mem_of_getElem? (i := 99) rfl)) (own_wS hw) rfl hS0 (Nat.le_trans (Nat.le_trans (Nat.le_trans (Nat.zero_le _) E102.1) K109.1) K125.1) hEL (List.mem_of_getElem? (i := 0) rfl) Hc127 (vs := [(.int (45 : Int32))]) (z := (1 : Int32)) ⟨by decide +kernel, by first | rfl | decide +kernel⟩ (by decide) rfl (g := (mkF m 46 #[.val (.ref o6)] [(.ref b102)])) rfl (hb hby d4_46) (n := 4) (by decide +kernel) (by decide) (by decide) (by decide)
  have Cr128 := Cr127.trans Cq128
  have Hc128 := Cq128.1
  have Sf128_0 := Cq128.safe f129.lt Sf127_0
  have f130 : Sta Z h128 "java/lang/String" "COMPACT_STRINGS" "Z" (.int cs) := ((own_sta_keep f118 K125 (own_plS (own_pl_exa R109_5) (own_plS (own_pl_exa f117) own_pl0))).ext E128)
  have f131 : Fld Z h128 b102 "java/lang/AbstractStringBuilder" "count" "I" (.int (2 : Int32)) := (R125_3.ext E128)
  have f132 : Exa Z h128 b102 "java/lang/StringBuilder" := ((f117.keep K125).ext E128)
  have f133 : Fld Z h128 b102 "java/lang/AbstractStringBuilder" "value" "[B" (.ref b103101109) := (R125_4.ext E128)
  have f134 : Arv Z h128 b103101109 k103101109 .byte (16 : Int32) [(.int (53 : Int32)), (.int (48 : Int32)), (.int (0 : Int32)), (.int (0 : Int32)), (.int (0 : Int32)), (.int (0 : Int32)), (.int (0 : Int32)), (.int (0 : Int32)), (.int (0 : Int32)), (.int (0 : Int32)), (.int (0 : Int32)), (.int (0 : Int32)), (.int (0 : Int32)), (.int (0 : Int32)), (.int (0 : Int32)), (.int (0 : Int32))] (.int (0 : Int32)) := (R125_1.ext E128)
  have f135 : Fld Z h128 b102 "java/lang/AbstractStringBuilder" "coder" "B" (.int (0 : Int32)) := (R125_2.ext E128)
  have f136 : Exa Z h128 b103101109 "[B" := (f129.ext E128)
  have z138 : n0 ≤ h128.size := (Nat.le_trans (Nat.le_trans z126 K125.1) E128.1)
  obtain ⟨cq137, kq137, q137a, q137b, q137c⟩ := isOf hZ e128 f132
  obtain ⟨_, _, ⟨T137, L137, k137, n137⟩, -, X137, ⟨Lc137, hQ137, l137, y137, z137⟩, st137⟩ := X128.virtualBack hx (y := (⟨"java/lang/StringBuilder", "append", "(Ljava/lang/String;)Ljava/lang/StringBuilder;"⟩ : MethodName)) (z := (⟨"java/lang/StringBuilder", "append", "(Ljava/lang/String;)Ljava/lang/StringBuilder;"⟩ : MethodName)) hown (mvT hZ (hw _ (List.mem_of_getElem? (i := 105) rfl))) (mvT hZ (hw _ (List.mem_of_getElem? (i := 106) rfl))) (notFace_of_selects (args := #[]) (mvT hZ (hw _ (List.mem_of_getElem? (i := 108) rfl)))) (mvT hZ (hw _ (List.mem_of_getElem? (i := 108) rfl))) (mvT hZ (hw _ (List.mem_of_getElem? (i := 107) rfl))) (by decide) (backOf (W := 0) (rm15x10 l Z a0 hw [] b102 a128 b128 k128 cs b103101109 k103101109 h128 n0 z138 A128 Fv128 V128 f130 H1 Fc128 f131 f132 f133 f134 f135 g115 f136 g107) hZ (hw _ (List.mem_of_getElem? (i := 109) rfl)) (hw _ (List.mem_of_getElem? (i := 48) rfl)) (by decide) (by decide)) q137a q137c (g := (mkF m 48 #[.val (.ref o6)] [(.ref a128), (.ref b102)])) rfl (by rw [hml]; rfl) (Steps.refl _) (argsL := [(.ref a128)]) (rest := []) (lenOf pd_13 rfl) rfl (by show 2 * 0 + _ ≤ _; exact Nat.le_of_eq rfl) (hb hby d4_48) (fun _ _ => ⟨rfl, e128, (by decide : 4 + 0 ≤ _), (by decide : 28 + 0 ≤ _)⟩)
  dsimp only [Pt.U, Pt.locs, Pt.cells, Pt.slots] at X137 l137 y137 z137 st137 hQ137
  subst l137 y137 z137
  obtain ⟨rfl, Nq137, K137, R137_1, R137_2, R137_3, R137_4⟩ := hQ137
  have N137 := Fr.app N125 Nq137
  have hs139 : ∀ x ∈ ([b103101109, b102] : List Addr), Safe Z own_EL T128.vm h128 x := (allS (P := fun x => Safe Z own_EL T128.vm h128 x) Sf128_0 (allS (P := fun x => Safe Z own_EL T128.vm h128 x) (Safe.exa hZ.alike f132 (by decide) (by decide)) (all0 (P := fun x => Safe Z own_EL T128.vm h128 x))))
  have Hc139 := CHv.keep K137 hs139 Hc128
  have Cr139 := Cr128.trans (CHr.keep K137 hs139 Hc128)
  have Sf139_0 := Safe.keep K137 hs139 Hc128 Sf128_0
  have f140 : Sta Z T137.heap "com/example/ghostseat/ghostseat/modes/comics/Title" "HIGHEST_FIRST" "Ljava/util/List;" (.ref hf) := (own_sta_keep ((own_sta_keep (own_sta_keep (H6.ext E102) K109 (own_plS (own_pl_exa A102) own_pl0)) K125 (own_plS (own_pl_exa R109_5) (own_plS (own_pl_exa f117) own_pl0))).ext E128) K137 (own_plS (own_pl_exa f136) (own_plS (own_pl_exa f132) own_pl0)))
  obtain ⟨T141, X141, e141, st141⟩ := getS2 X137 hx hZ hown (host := "") (Or.inl (hw _ (List.mem_of_getElem? (i := 4) rfl))) Via.refl rfl f140 (g := (mkF m 51 #[.val (.ref o6)] [(.ref b102)])) rfl (hb hby d4_51)
  have ne142 : o6 ≠ b103101109 := (Nat.ne_of_lt (Nat.lt_of_lt_of_le (H10.ext E102).lt R109_4))
  have f143 : Fld Z T137.heap o6 "java/lang/Enum" "ordinal" "I" (.int (6 : Int32)) := (((((H12.ext E102).keep K109 (ninS ne112 nin0)).keep K125 (ninS ne142 (ninS ne112 nin0))).ext E128).keep K137 (ninS ne142 (ninS ne112 nin0)))
  have z145 : n0 ≤ T137.heap.size := (Nat.le_trans z138 K137.1)
  have f146 : Exa Z T137.heap o6 "com/example/ghostseat/ghostseat/modes/comics/Title" := (((((H10.ext E102).keep K109).keep K125).ext E128).keep K137)
  obtain ⟨cq144, kq144, q144a, q144b, q144c⟩ := isOf hZ e141 f146
  obtain ⟨_, _, ⟨T144, L144, k144, n144⟩, -, X144, ⟨Lc144, hQ144, l144, y144, z144⟩, st144⟩ := X141.virtualBackUp hx (owner := "java/lang/Enum") (x := (⟨"com/example/ghostseat/ghostseat/modes/comics/Title", "ordinal", "()I"⟩ : MethodName)) (y := (⟨"java/lang/Enum", "ordinal", "()I"⟩ : MethodName)) hown (mvT hZ (hw _ (List.mem_of_getElem? (i := 37) rfl))) (mvT hZ (hw _ (List.mem_of_getElem? (i := 38) rfl))) (mvT hZ (hw _ (List.mem_of_getElem? (i := 39) rfl))) (by decide) (mvT hZ (hw _ (List.mem_of_getElem? (i := 41) rfl))) (mvT hZ (hw _ (List.mem_of_getElem? (i := 40) rfl))) (backOf (W := 2) (rm5x20 l Z a0 hw [] o6 T137.heap n0 z145 f143) hZ (hw _ (List.mem_of_getElem? (i := 43) rfl)) (hw _ (List.mem_of_getElem? (i := 42) rfl)) (by decide) (by decide)) q144a q144c (g := (mkF m 55 #[.val (.ref o6)] [(.ref o6), (.ref hf), (.ref b102)])) rfl (by rw [hml]; rfl) (Steps.refl _) (argsL := []) (rest := [(.ref hf), (.ref b102)]) (lenOf pd_0 rfl) rfl (by show 2 * 0 + _ ≤ _; exact Nat.le_of_eq rfl) (hb hby d4_55) (fun _ _ => ⟨rfl, e141, (by decide : 4 + 0 ≤ _), (by decide : 28 + 0 ≤ _)⟩)
  dsimp only [Pt.U, Pt.locs, Pt.cells, Pt.slots] at X144 l144 y144 z144 st144 hQ144
  subst l144 y144 z144
  obtain ⟨rfl, Nq144, Heq144⟩ := hQ144
  have N144 := Fr.app N137 Nq144
  have ne147 : hf ≠ b102 := (Nat.ne_of_lt (Nat.lt_of_lt_of_le H7.lt (Nat.le_of_eq g102.symm)))
  have ne148 : hf ≠ b103101109 := (Nat.ne_of_lt (Nat.lt_of_lt_of_le (H7.ext E102).lt R109_4))
  have f149 : Fld Z T137.heap hf "java/util/ImmutableCollections$ListN" "elements" "[Ljava/lang/Object;" (.ref el) := (((((H8.ext E102).keep K109 (ninS ne147 nin0)).keep K125 (ninS ne148 (ninS ne147 nin0))).ext E128).keep K137 (ninS ne148 (ninS ne147 nin0)))
  have ne150 : el ≠ b102 := (Nat.ne_of_lt (Nat.lt_of_lt_of_le H9.lt (Nat.le_of_eq g102.symm)))
  have ne151 : el ≠ b103101109 := (Nat.ne_of_lt (Nat.lt_of_lt_of_le (H9.ext E102).lt R109_4))
  have f152 : Arv Z T137.heap el ek (.object "java/lang/Object") (7 : Int32) [(.ref o0), (.ref o1), (.ref o2), (.ref o3), (.ref o4), (.ref o5), (.ref o6)] .null := (((((H9.ext E102).keep K109 (ninS ne150 nin0)).keep K125 (ninS ne151 (ninS ne150 nin0))).ext E128).keep K137 (ninS ne151 (ninS ne150 nin0)))
  have f154 : Exa Z T137.heap hf "java/util/ImmutableCollections$ListN" := (((((H7.ext E102).keep K109).keep K125).ext E128).keep K137)
  obtain ⟨cq153, kq153, q153a, q153b, q153c⟩ := isOf hZ Heq144 f154
  obtain ⟨_, _, ⟨T153, L153, k153, n153⟩, -, X153, ⟨Lc153, hQ153, l153, y153, z153⟩, st153⟩ := X144.interfaceBack hx (xi := (⟨"java/util/List", "get", "(I)Ljava/lang/Object;"⟩ : MethodName)) (y := (⟨"java/util/ImmutableCollections$ListN", "get", "(I)Ljava/lang/Object;"⟩ : MethodName)) hown (mvT hZ (hw _ (List.mem_of_getElem? (i := 18) rfl))) (mvT hZ (hw _ (List.mem_of_getElem? (i := 19) rfl))) (mvT hZ (hw _ (List.mem_of_getElem? (i := 20) rfl))) (mvT hZ (hw _ (List.mem_of_getElem? (i := 21) rfl))) (mvT hZ (hw _ (List.mem_of_getElem? (i := 22) rfl))) (mvT hZ (hw _ (List.mem_of_getElem? (i := 23) rfl))) (mvT hZ (hw _ (List.mem_of_getElem? (i := 24) rfl))) (mvT hZ (hw _ (List.mem_of_getElem? (i := 13) rfl))) (by decide) (backOf (W := 1) (rm3x21 l Z a0 hw [] hf el o0 o1 o2 o3 o4 o5 o6 ek T137.heap n0 z145 f149 f152) hZ (hw _ (List.mem_of_getElem? (i := 25) rfl)) (hw _ (List.mem_of_getElem? (i := 14) rfl)) (by decide) (by decide)) q153a q153b q153c (g := (mkF m 60 #[.val (.ref o6)] [(.int (5 : Int32)), (.ref hf), (.ref b102)])) rfl (by rw [hml]; rfl) (Steps.refl _) (argsL := [(.int (5 : Int32))]) (rest := [(.ref b102)]) (lenOf pd_14 rfl) rfl (by show 2 * 0 + _ ≤ _; exact Nat.le_of_eq rfl) (hb hby d4_60) (fun _ _ => ⟨rfl, Heq144, (by decide : 4 + 0 ≤ _), (by decide : 28 + 0 ≤ _)⟩)
  dsimp only [Pt.U, Pt.locs, Pt.cells, Pt.slots] at X153 l153 y153 z153 st153 hQ153
  subst l153 y153 z153
  obtain ⟨rfl, Nq153, Heq153⟩ := hQ153
  have N153 := Fr.app N144 Nq153
  have f155 : Exa Z T137.heap o5 "com/example/ghostseat/ghostseat/modes/comics/Title" := (((((H13.ext E102).keep K109).keep K125).ext E128).keep K137)
  obtain ⟨T156, X156, e156, st156⟩ := castY X153 hx hZ hown (hw _ (List.mem_of_getElem? (i := 27) rfl)) Heq153 (Ins.self f155) (g := (mkF m 65 #[.val (.ref o6)] [(.ref o5), (.ref b102)])) rfl rfl (hb hby d4_65)
  have ne157 : o5 ≠ b102 := (Nat.ne_of_lt (Nat.lt_of_lt_of_le H13.lt (Nat.le_of_eq g102.symm)))
  have ne158 : o5 ≠ b103101109 := (Nat.ne_of_lt (Nat.lt_of_lt_of_le (H13.ext E102).lt R109_4))
  have f159 : Fld Z T137.heap o5 "com/example/ghostseat/ghostseat/modes/comics/Title" "least" "I" (.int (60 : Int32)) := (((((H14.ext E102).keep K109 (ninS ne157 nin0)).keep K125 (ninS ne158 (ninS ne157 nin0))).ext E128).keep K137 (ninS ne158 (ninS ne157 nin0)))
  obtain ⟨T160, X160, e160, st160⟩ := getF X156 hx hZ hown (host := "") (Or.inl (hw _ (List.mem_of_getElem? (i := 29) rfl))) Via.refl e156 f159 (g := (mkF m 68 #[.val (.ref o6)] [(.ref o5), (.ref b102)])) rfl rfl (hb hby d4_68)
  have f161 : Exa Z T137.heap b102 "java/lang/StringBuilder" := (f132.keep K137)
  have f162 : Sta Z T137.heap "java/lang/String" "COMPACT_STRINGS" "Z" (.int cs) := (own_sta_keep f130 K137 (own_plS (own_pl_exa f136) (own_plS (own_pl_exa f132) own_pl0)))
  have f163 : Sta Z T137.heap "java/lang/Integer" "DigitOnes" "[B" (.ref d1) := (own_sta_keep ((own_sta_keep f119 K125 (own_plS (own_pl_exa R109_5) (own_plS (own_pl_exa f117) own_pl0))).ext E128) K137 (own_plS (own_pl_exa f136) (own_plS (own_pl_exa f132) own_pl0)))
  have ne164 : d1 ≠ b103101109 := (Nat.ne_of_lt (Nat.lt_of_lt_of_le (H3.ext E102).lt R109_4))
  have f165 : Arv Z T137.heap d1 k1 .byte (100 : Int32) own_ones (.int (0 : Int32)) := (((f121.keep K125 (ninS ne164 (ninS ne120 nin0))).ext E128).keep K137 (ninS ne164 (ninS ne120 nin0)))
  have f166 : Sta Z T137.heap "java/lang/Integer" "DigitTens" "[B" (.ref d2) := (own_sta_keep ((own_sta_keep f122 K125 (own_plS (own_pl_exa R109_5) (own_plS (own_pl_exa f117) own_pl0))).ext E128) K137 (own_plS (own_pl_exa f136) (own_plS (own_pl_exa f132) own_pl0)))
  have f167 : Arv Z T137.heap d2 k2 .byte (100 : Int32) own_tens (.int (0 : Int32)) := (((f124.keep K125 (ninS ne116 (ninS ne123 nin0))).ext E128).keep K137 (ninS ne116 (ninS ne123 nin0)))
  have f168 : Exa Z T137.heap b103101109 "[B" := (f136.keep K137)
  obtain ⟨cq169, kq169, q169a, q169b, q169c⟩ := isOf hZ e160 f161
  obtain ⟨_, _, ⟨T169, L169, k169, n169⟩, -, X169, ⟨Lc169, hQ169, l169, y169, z169⟩, st169⟩ := X160.virtualBack hx (y := (⟨"java/lang/StringBuilder", "append", "(I)Ljava/lang/StringBuilder;"⟩ : MethodName)) (z := (⟨"java/lang/StringBuilder", "append", "(I)Ljava/lang/StringBuilder;"⟩ : MethodName)) hown (mvT hZ (hw _ (List.mem_of_getElem? (i := 68) rfl))) (mvT hZ (hw _ (List.mem_of_getElem? (i := 69) rfl))) (notFace_of_selects (args := #[]) (mvT hZ (hw _ (List.mem_of_getElem? (i := 71) rfl)))) (mvT hZ (hw _ (List.mem_of_getElem? (i := 71) rfl))) (mvT hZ (hw _ (List.mem_of_getElem? (i := 70) rfl))) (by decide) (backOf (W := 0) (rm9x22 l Z a0 hw [] b102 b103101109 k103101109 cs d1 k1 d2 k2 T137.heap n0 z145 R137_3 f161 R137_4 R137_1 R137_2 f162 H1 f163 f165 g115 f166 f167 ne116 f168 g107) hZ (hw _ (List.mem_of_getElem? (i := 72) rfl)) (hw _ (List.mem_of_getElem? (i := 48) rfl)) (by decide) (by decide)) q169a q169c (g := (mkF m 73 #[.val (.ref o6)] [(.int (59 : Int32)), (.ref b102)])) rfl (by rw [hml]; rfl) (Steps.refl _) (argsL := [(.int (59 : Int32))]) (rest := []) (lenOf pd_7 rfl) rfl (by show 2 * 0 + _ ≤ _; exact Nat.le_of_eq rfl) (hb hby d4_73) (fun _ _ => ⟨rfl, e160, (by decide : 4 + 0 ≤ _), (by decide : 28 + 0 ≤ _)⟩)
  dsimp only [Pt.U, Pt.locs, Pt.cells, Pt.slots] at X169 l169 y169 z169 st169 hQ169
  subst l169 y169 z169
  obtain ⟨rfl, Nq169, K169, R169_1, R169_2, R169_3, R169_4⟩ := hQ169
  have N169 := Fr.app N153 Nq169
  have hs170 : ∀ x ∈ ([b103101109, b102] : List Addr), Safe Z own_EL T128.vm T137.heap x := (allS (P := fun x => Safe Z own_EL T128.vm T137.heap x) Sf139_0 (allS (P := fun x => Safe Z own_EL T128.vm T137.heap x) (Safe.exa hZ.alike f161 (by decide) (by decide)) (all0 (P := fun x => Safe Z own_EL T128.vm T137.heap x))))
  have Hc170 := CHv.keep K169 hs170 Hc139
  have Cr170 := Cr139.trans (CHr.keep K169 hs170 Hc139)
  have Sf170_0 := Safe.keep K169 hs170 Hc139 Sf139_0
  have f171 : Exa Z T169.heap b102 "java/lang/StringBuilder" := (f161.keep K169)
  have f172 : Sta Z T169.heap "java/lang/String" "COMPACT_STRINGS" "Z" (.int cs) := (own_sta_keep f162 K169 (own_plS (own_pl_exa f168) (own_plS (own_pl_exa f161) own_pl0)))
  have z174 : n0 ≤ T169.heap.size := (Nat.le_trans z145 K169.1)
  obtain ⟨cq173, kq173, q173a, q173b, q173c⟩ := isOf hZ rfl f171
  obtain ⟨_, _, ⟨T173, L173, k173, n173⟩, -, X173, ⟨Lc173, hQ173, l173, y173, z173⟩, st173⟩ := X169.virtualBack hx (y := (⟨"java/lang/StringBuilder", "toString", "()Ljava/lang/String;"⟩ : MethodName)) (z := (⟨"java/lang/StringBuilder", "toString", "()Ljava/lang/String;"⟩ : MethodName)) hown (mvT hZ (hw _ (List.mem_of_getElem? (i := 148) rfl))) (mvT hZ (hw _ (List.mem_of_getElem? (i := 149) rfl))) (notFace_of_selects (args := #[]) (mvT hZ (hw _ (List.mem_of_getElem? (i := 151) rfl)))) (mvT hZ (hw _ (List.mem_of_getElem? (i := 151) rfl))) (mvT hZ (hw _ (List.mem_of_getElem? (i := 150) rfl))) (by decide) (backOf (W := 0) (rm22x28 l Z a0 hw [] b102 b103101109 cs k103101109 T169.heap n0 z174 f171 R169_4 R169_3 f172 H1 R169_2 R169_1) hZ (hw _ (List.mem_of_getElem? (i := 152) rfl)) (hw _ (List.mem_of_getElem? (i := 48) rfl)) (by decide) (by decide)) q173a q173c (g := (mkF m 76 #[.val (.ref o6)] [(.ref b102)])) rfl (by rw [hml]; rfl) (Steps.refl _) (argsL := []) (rest := []) (lenOf pd_21 rfl) rfl (by show 2 * 0 + _ ≤ _; exact Nat.le_of_eq rfl) (hb hby d4_76) (fun _ _ => ⟨rfl, rfl, (by decide : 4 + 2 ≤ _), (by decide : 28 + 9 ≤ _)⟩)
  dsimp only [Pt.U, Pt.locs, Pt.cells, Pt.slots] at X173 l173 y173 z173 st173 hQ173
  subst l173 y173 z173
  obtain ⟨b101173, b102102108101111173, k102102108101111173, rfl, Nq173, K173, R173_1, R173_2, R173_3, R173_4, R173_5, R173_6, R173_7, R173_8⟩ := hQ173
  have N173 := Fr.app N169 Nq173
  have hs175 : ∀ x ∈ ([] : List Addr), Safe Z own_EL T128.vm T169.heap x := (all0 (P := fun x => Safe Z own_EL T128.vm T169.heap x))
  have Hc175 := CHv.keep K173 hs175 Hc170
  have Cr175 := Cr170.trans (CHr.keep K173 hs175 Hc170)
  have Sf175_0 := Safe.keep K173 hs175 Hc170 Sf170_0
  have SbR173_1 := Safe.keep K173 hs175 Hc170 (Safe.new R173_1)
  have SbR173_5 := Safe.keep K173 hs175 Hc170 (Safe.new R173_5)
  obtain ⟨fs, hr, hrun, hended, hEnd⟩ := X173.leaveW hS128 (Nat.le_trans (Nat.le_trans (Nat.le_trans hk128 K137.1) K169.1) K173.1) (v := some (.ref b101173)) (fun h => by rw [Bd.returns] at h; cases h)
  refine ⟨_, _, pre0 _ ?_, hrun, hended, _, _, rfl, ?_, (show CHr Z own_EL s.vm s.heap T173.vm T173.heap from by rw [hh]; exact Cr175.trans (CHv.at X173 hZ hEL Hc175)), hEnd.1, hEnd.2.1, hEnd.2.2.1, hEnd.2.2.2.mono (by decide) (by decide)⟩
  · skip
    show Steps p.tables e below (s₁.setTop (mkF m 0 #[.val (.ref o6)] [])) _
    refine XS.aloadN X0.here hx rfl (hb hby d4_0) rfl rfl ?_
    show Steps p.tables e below (s₁.setTop (mkF m 1 #[.val (.ref o6)] [(.ref o6)])) _
    refine st101.trans ?_
    show Steps p.tables e below (T101.setTop (mkF m 4 #[.val (.ref o6)] [(.int (6 : Int32))])) _
    refine XS.ifYes X101.here hx rfl (pc0 := 4) (pc' := 32) rfl (hb hby d4_4) rfl ((if0 _ _).trans (feq (by decide : ¬ ((6 : Int32) = (0 : Int32)))).2) (by decide) (by decide) ?_
    show Steps p.tables e below (T101.setTop (mkF m 32 #[.val (.ref o6)] [])) _
    refine st102 _ ?_
    show Steps p.tables e below (T102.setTop (mkF m 35 #[.val (.ref o6)] [(.ref b102)])) _
    refine XS.dup X102.here hx rfl (hb hby d4_35) rfl rfl ?_
    show Steps p.tables e below (T102.setTop (mkF m 36 #[.val (.ref o6)] [(.ref b102), (.ref b102)])) _
    refine st109.trans ?_
    show Steps p.tables e below (T109.setTop (mkF m 39 #[.val (.ref o6)] [(.ref b102)])) _
    refine XS.aloadN X109.here hx rfl (hb hby d4_39) rfl rfl ?_
    show Steps p.tables e below (T109.setTop (mkF m 40 #[.val (.ref o6)] [(.ref o6), (.ref b102)])) _
    refine st114 _ ?_
    show Steps p.tables e below (T114.setTop (mkF m 43 #[.val (.ref o6)] [(.int (50 : Int32)), (.ref b102)])) _
    refine st125.trans ?_
    show Steps p.tables e below (T125.setTop (mkF m 46 #[.val (.ref o6)] [(.ref b102)])) _
    refine st128 _ ?_
    show Steps p.tables e below (T128.setTop (mkF m 48 #[.val (.ref o6)] [(.ref a128), (.ref b102)])) _
    refine st137.trans ?_
    show Steps p.tables e below (T137.setTop (mkF m 51 #[.val (.ref o6)] [(.ref b102)])) _
    refine st141 _ ?_
    show Steps p.tables e below (T141.setTop (mkF m 54 #[.val (.ref o6)] [(.ref hf), (.ref b102)])) _
    refine XS.aloadN X141.here hx rfl (hb hby d4_54) rfl rfl ?_
    show Steps p.tables e below (T141.setTop (mkF m 55 #[.val (.ref o6)] [(.ref o6), (.ref hf), (.ref b102)])) _
    refine st144.trans ?_
    show Steps p.tables e below (T144.setTop (mkF m 58 #[.val (.ref o6)] [(.int (6 : Int32)), (.ref hf), (.ref b102)])) _
    refine XS.iconst X144.here hx rfl (hb hby d4_58) ?_
    show Steps p.tables e below (T144.setTop (mkF m 59 #[.val (.ref o6)] [(.int (1 : Int32)), (.int (6 : Int32)), (.ref hf), (.ref b102)])) _
    refine XS.isub X144.here hx rfl (hb hby d4_59) rfl ?_
    show Steps p.tables e below (T144.setTop (mkF m 60 #[.val (.ref o6)] [(.int ((6 : Int32) - (1 : Int32))), (.ref hf), (.ref b102)])) _
    rw [show ((6 : Int32) - (1 : Int32)) = (5 : Int32) from by decide]
    show Steps p.tables e below (T144.setTop (mkF m 60 #[.val (.ref o6)] [(.int (5 : Int32)), (.ref hf), (.ref b102)])) _
    refine st153.trans ?_
    show Steps p.tables e below (T153.setTop (mkF m 65 #[.val (.ref o6)] [(.ref o5), (.ref b102)])) _
    refine st156 _ ?_
    show Steps p.tables e below (T156.setTop (mkF m 68 #[.val (.ref o6)] [(.ref o5), (.ref b102)])) _
    refine st160 _ ?_
    show Steps p.tables e below (T160.setTop (mkF m 71 #[.val (.ref o6)] [(.int (60 : Int32)), (.ref b102)])) _
    refine XS.iconst X160.here hx rfl (hb hby d4_71) ?_
    show Steps p.tables e below (T160.setTop (mkF m 72 #[.val (.ref o6)] [(.int (1 : Int32)), (.int (60 : Int32)), (.ref b102)])) _
    refine XS.isub X160.here hx rfl (hb hby d4_72) rfl ?_
    show Steps p.tables e below (T160.setTop (mkF m 73 #[.val (.ref o6)] [(.int ((60 : Int32) - (1 : Int32))), (.ref b102)])) _
    rw [show ((60 : Int32) - (1 : Int32)) = (59 : Int32) from by decide]
    show Steps p.tables e below (T160.setTop (mkF m 73 #[.val (.ref o6)] [(.int (59 : Int32)), (.ref b102)])) _
    refine st169.trans ?_
    show Steps p.tables e below (T169.setTop (mkF m 76 #[.val (.ref o6)] [(.ref b102)])) _
    refine st173.trans ?_
    show Steps p.tables e below (T173.setTop (mkF m 79 #[.val (.ref o6)] [(.ref b101173)])) _
    jvm_step X173.here [X173.here.top, hx, (hb hby d4_79), X173.method', Bd.returns, Value.isRef, FieldType.isReference]
    first | (intro acts; rw [hr _ acts rfl rfl rfl]) | rw [hr _ _ rfl rfl rfl]
    exact Steps.refl _
  · show Q4 Z o6 cs d1 k1 d2 k2 hf el ek o0 o1 o2 o3 o4 o5 h0 n0 _ T173.heap _
    exact ⟨b101173, b102102108101111173, k102102108101111173, rfl, N173, ((((((((Keep.refl h0 []).ext E102).trans K109 (allS (P := (fun x => x ∈ [] ∨ h0.size ≤ x)) (Or.inr (Nat.le_trans (Nat.le_refl _) (Nat.le_of_eq g102.symm))) all0)).trans K125 (allS (P := (fun x => x ∈ [] ∨ h0.size ≤ x)) (Or.inr (Nat.le_trans (Nat.le_trans (Nat.le_refl _) E102.1) R109_4)) (allS (P := (fun x => x ∈ [] ∨ h0.size ≤ x)) (Or.inr (Nat.le_trans (Nat.le_refl _) (Nat.le_of_eq g102.symm))) all0))).ext E128).trans K137 (allS (P := (fun x => x ∈ [] ∨ h0.size ≤ x)) (Or.inr (Nat.le_trans (Nat.le_trans (Nat.le_refl _) E102.1) R109_4)) (allS (P := (fun x => x ∈ [] ∨ h0.size ≤ x)) (Or.inr (Nat.le_trans (Nat.le_refl _) (Nat.le_of_eq g102.symm))) all0))).trans K169 (allS (P := (fun x => x ∈ [] ∨ h0.size ≤ x)) (Or.inr (Nat.le_trans (Nat.le_trans (Nat.le_refl _) E102.1) R109_4)) (allS (P := (fun x => x ∈ [] ∨ h0.size ≤ x)) (Or.inr (Nat.le_trans (Nat.le_refl _) (Nat.le_of_eq g102.symm))) all0))).trans K173 (all0 (P := (fun x => x ∈ [] ∨ h0.size ≤ x)))), R173_2, R173_3, R173_4, R173_7⟩
theorem d38_0 : decode jdk_43_method_13_code 0 = .ok (.aload_n 0, 1) := by decide +kernel
theorem d38_1 : decode jdk_43_method_13_code 1 = .ok (.arraylength, 1) := by decide +kernel
theorem d38_2 : decode jdk_43_method_13_code 2 = .ok (.aload_n 1, 1) := by decide +kernel
theorem d38_3 : decode jdk_43_method_13_code 3 = .ok (.arraylength, 1) := by decide +kernel
theorem d38_4 : decode jdk_43_method_13_code 4 = .ok (.if_icmp .ne 30, 3) := by decide +kernel
theorem d38_7 : decode jdk_43_method_13_code 7 = .ok (.iconst 0, 1) := by decide +kernel
theorem d38_8 : decode jdk_43_method_13_code 8 = .ok (.istore_n 2, 1) := by decide +kernel
theorem d38_9 : decode jdk_43_method_13_code 9 = .ok (.iload_n 2, 1) := by decide +kernel
theorem d38_10 : decode jdk_43_method_13_code 10 = .ok (.aload_n 0, 1) := by decide +kernel
theorem d38_11 : decode jdk_43_method_13_code 11 = .ok (.arraylength, 1) := by decide +kernel
theorem d38_12 : decode jdk_43_method_13_code 12 = .ok (.if_icmp .ge 20, 3) := by decide +kernel
theorem d38_15 : decode jdk_43_method_13_code 15 = .ok (.aload_n 0, 1) := by decide +kernel
theorem d38_16 : decode jdk_43_method_13_code 16 = .ok (.iload_n 2, 1) := by decide +kernel
theorem d38_17 : decode jdk_43_method_13_code 17 = .ok (.baload, 1) := by decide +kernel
theorem d38_18 : decode jdk_43_method_13_code 18 = .ok (.aload_n 1, 1) := by decide +kernel
theorem d38_19 : decode jdk_43_method_13_code 19 = .ok (.iload_n 2, 1) := by decide +kernel
theorem d38_20 : decode jdk_43_method_13_code 20 = .ok (.baload, 1) := by decide +kernel
theorem d38_21 : decode jdk_43_method_13_code 21 = .ok (.if_icmp .eq 5, 3) := by decide +kernel
theorem d38_26 : decode jdk_43_method_13_code 26 = .ok (.iinc 2 1, 3) := by decide +kernel
theorem d38_29 : decode jdk_43_method_13_code 29 = .ok (.goto (-20), 3) := by decide +kernel
theorem d38_32 : decode jdk_43_method_13_code 32 = .ok (.iconst 1, 1) := by decide +kernel
theorem d38_33 : decode jdk_43_method_13_code 33 = .ok (.ireturn, 1) := by decide +kernel
theorem pn_java_lang_StringLatin1 : plainName "java/lang/StringLatin1" = true := by first | (simp [plainName, overriddenIn]; done) | decide +kernel
theorem ef_38x39 (m : MethodId) (ra0 : Addr) (ra1 : Addr) : entryFrame m #[(.ref ra0), (.ref ra1)] 3 = mkF m 0 #[.val (.ref ra0), .val (.ref ra1), .unset] [] := by first | (simp [entryFrame, mkF, argsToLocals, Value.category]; done) | rfl
def Q38x39 (Z : State) (ra0 : Addr) (ra1 : Addr) (uk1 : ClassId) (uk2 : ClassId) (h0 : Heap) (n0 : Nat) (v : Option Value) (h : Heap) (L : List Loc) : Prop := v = some (.int (1 : Int32)) ∧ Fr n0 L ∧ h = h0
set_option maxRecDepth 65536 in
set_option maxHeartbeats 40000000 in
theorem rm38x39 (l : Launch) (Z : State) (a0 : Array Value) (hw : ∀ d ∈ tables_1, d.before a0 Z = true) (ws : List Jvm.Cond) (ra0 : Addr) (ra1 : Addr) (uk1 : ClassId) (uk2 : ClassId) (h0 : Heap) (n0 : Nat) (Z0 : n0 ≤ h0.size) (H0 : Arv Z h0 ra0 uk1 .byte (5 : Int32) [(.int (53 : Int32)), (.int (48 : Int32)), (.int (45 : Int32)), (.int (53 : Int32)), (.int (57 : Int32))] (.int (0 : Int32))) (H1 : Arv Z h0 ra1 uk2 .byte (5 : Int32) [(.int (53 : Int32)), (.int (48 : Int32)), (.int (45 : Int32)), (.int (53 : Int32)), (.int (57 : Int32))] (.int (0 : Int32))) :
    MetFree l (⟨"java/lang/StringLatin1", "equals", "([B[B)Z"⟩ : MethodName) (head1 (Jvm.Cond.code (⟨"java/lang/StringLatin1", "equals", "([B[B)Z"⟩ : MethodName) jdk_43_method_13_code 3 (some .boolean) :: ws) ({ frames := 0, cells := 0, slots := 0, locals := 0 } : Room)) (fun a U => a = #[(.ref ra0), (.ref ra1)] ∧ Z.Warmed39 U.vm ∧ U.heap = h0) (fun _ _ _ _ _ => True) (fun _ U o U' => ∃ v L, o = .returned v ∧ Q38x39 Z ra0 ra1 uk1 uk2 h0 n0 v U'.heap L ∧ FrameEnd U o U' L ({ frames := 0, cells := 0, slots := 0, locals := 0 } : Room).cells ({ frames := 0, cells := 0, slots := 0, locals := 0 } : Room).slots) := by
  refine MetFree.of_bodySF (plainFor_of_name pn_java_lang_StringLatin1) hisR ?_
  intro p e s m args below meth c s₁ Bd hml0 hP hK
  obtain ⟨rfl, hZ, hh⟩ := hP
  have hx := Bd.exec
  have hby := Bd.bytes
  have hml : c.maxLocals = 3 := hml0
  have hown : s.vm.findClass "java/lang/StringLatin1" = some m.cls := findClass_of_methodNamed Bd.named
  have hnm := (name_of_methodNamed Bd.named Bd.method).1
  have X0 : Stand p l e ({ frames := 0, cells := 0, slots := 0, locals := 0 } : Room) s m #[(.ref ra0), (.ref ra1)] below meth c s₁ [] 0 0 := Stand.of_body Bd
  have e0 : s₁.heap = h0 := by rw [← hh, Bd.state]; rfl
  have N0 := Fr.nil n0
  have pre0 : ∀ t, Steps p.tables e below (s₁.setTop (mkF m 0 #[.val (.ref ra0), .val (.ref ra1), .unset] [])) t → Steps p.tables e below (s₁.setTop (entryFrame m #[(.ref ra0), (.ref ra1)] 3)) t := fun t k => castTop (ef_38x39 m ra0 ra1) k
  obtain ⟨cl101, Ar101, -, S101, M101, -, -⟩ := id H0
  obtain ⟨cl102, Ar102, -, S102, M102, -, -⟩ := id H1
  obtain ⟨cl103, Ar103, -, S103, M103, -, -⟩ := id H0
  obtain ⟨cl104, Ar104, qc104, S104, M104, Hh104, G104⟩ := id H0
  have hin104 : ¬ ((0 : Int32) < 0 ∨ cl104.slots.size ≤ ((0 : Int32)).toNatClampNeg) := inb_of S104 ⟨by decide, by decide⟩
  obtain ⟨cl105, Ar105, qc105, S105, M105, Hh105, G105⟩ := id H1
  have hin105 : ¬ ((0 : Int32) < 0 ∨ cl105.slots.size ≤ ((0 : Int32)).toNatClampNeg) := inb_of S105 ⟨by decide, by decide⟩
  obtain ⟨cl106, Ar106, -, S106, M106, -, -⟩ := id H0
  obtain ⟨cl107, Ar107, qc107, S107, M107, Hh107, G107⟩ := id H0
  have hin107 : ¬ ((1 : Int32) < 0 ∨ cl107.slots.size ≤ ((1 : Int32)).toNatClampNeg) := inb_of S107 ⟨by decide, by decide⟩
  obtain ⟨cl108, Ar108, qc108, S108, M108, Hh108, G108⟩ := id H1
  have hin108 : ¬ ((1 : Int32) < 0 ∨ cl108.slots.size ≤ ((1 : Int32)).toNatClampNeg) := inb_of S108 ⟨by decide, by decide⟩
  obtain ⟨cl109, Ar109, -, S109, M109, -, -⟩ := id H0
  obtain ⟨cl110, Ar110, qc110, S110, M110, Hh110, G110⟩ := id H0
  have hin110 : ¬ ((2 : Int32) < 0 ∨ cl110.slots.size ≤ ((2 : Int32)).toNatClampNeg) := inb_of S110 ⟨by decide, by decide⟩
  obtain ⟨cl111, Ar111, qc111, S111, M111, Hh111, G111⟩ := id H1
  have hin111 : ¬ ((2 : Int32) < 0 ∨ cl111.slots.size ≤ ((2 : Int32)).toNatClampNeg) := inb_of S111 ⟨by decide, by decide⟩
  obtain ⟨cl112, Ar112, -, S112, M112, -, -⟩ := id H0
  obtain ⟨cl113, Ar113, qc113, S113, M113, Hh113, G113⟩ := id H0
  have hin113 : ¬ ((3 : Int32) < 0 ∨ cl113.slots.size ≤ ((3 : Int32)).toNatClampNeg) := inb_of S113 ⟨by decide, by decide⟩
  obtain ⟨cl114, Ar114, qc114, S114, M114, Hh114, G114⟩ := id H1
  have hin114 : ¬ ((3 : Int32) < 0 ∨ cl114.slots.size ≤ ((3 : Int32)).toNatClampNeg) := inb_of S114 ⟨by decide, by decide⟩
  obtain ⟨cl115, Ar115, -, S115, M115, -, -⟩ := id H0
  obtain ⟨cl116, Ar116, qc116, S116, M116, Hh116, G116⟩ := id H0
  have hin116 : ¬ ((4 : Int32) < 0 ∨ cl116.slots.size ≤ ((4 : Int32)).toNatClampNeg) := inb_of S116 ⟨by decide, by decide⟩
  obtain ⟨cl117, Ar117, qc117, S117, M117, Hh117, G117⟩ := id H1
  have hin117 : ¬ ((4 : Int32) < 0 ∨ cl117.slots.size ≤ ((4 : Int32)).toNatClampNeg) := inb_of S117 ⟨by decide, by decide⟩
  obtain ⟨cl118, Ar118, -, S118, M118, -, -⟩ := id H0
  obtain ⟨fs, hr, hrun, hended, hW, hsame⟩ := X0.leave (v := some (.int (1 : Int32))) (fun h => by rw [Bd.returns] at h; cases h)
  refine ⟨_, _, pre0 _ ?_, hrun, hended, _, _, rfl, ?_, ⟨_, rfl⟩, hW, hsame.mono (by decide) (by decide)⟩
  · skip
    show Steps p.tables e below (s₁.setTop (mkF m 0 #[.val (.ref ra0), .val (.ref ra1), .unset] [])) _
    refine XS.aloadN X0.here hx rfl (hb hby d38_0) rfl rfl ?_
    show Steps p.tables e below (s₁.setTop (mkF m 1 #[.val (.ref ra0), .val (.ref ra1), .unset] [(.ref ra0)])) _
    refine X0.arraylength hx (by rw [e0]; exact Ar101.1) (State.isArrayOf_alike hZ.alike Ar101.2.1) (g := (mkF m 1 #[.val (.ref ra0), .val (.ref ra1), .unset] [(.ref ra0)])) rfl rfl (hb hby d38_1) _ ?_
    rw [len_of S101 M101]
    show Steps p.tables e below (s₁.setTop (mkF m 2 #[.val (.ref ra0), .val (.ref ra1), .unset] [(.int (5 : Int32))])) _
    refine XS.aloadN X0.here hx rfl (hb hby d38_2) rfl rfl ?_
    show Steps p.tables e below (s₁.setTop (mkF m 3 #[.val (.ref ra0), .val (.ref ra1), .unset] [(.ref ra1), (.int (5 : Int32))])) _
    refine X0.arraylength hx (by rw [e0]; exact Ar102.1) (State.isArrayOf_alike hZ.alike Ar102.2.1) (g := (mkF m 3 #[.val (.ref ra0), .val (.ref ra1), .unset] [(.ref ra1), (.int (5 : Int32))])) rfl rfl (hb hby d38_3) _ ?_
    rw [len_of S102 M102]
    show Steps p.tables e below (s₁.setTop (mkF m 4 #[.val (.ref ra0), .val (.ref ra1), .unset] [(.int (5 : Int32)), (.int (5 : Int32))])) _
    refine XS.icmpNo X0.here hx rfl (hb hby d38_4) rfl (teq (by decide : (5 : Int32) = (5 : Int32))).2 ?_
    show Steps p.tables e below (s₁.setTop (mkF m 7 #[.val (.ref ra0), .val (.ref ra1), .unset] [])) _
    refine XS.iconst X0.here hx rfl (hb hby d38_7) ?_
    show Steps p.tables e below (s₁.setTop (mkF m 8 #[.val (.ref ra0), .val (.ref ra1), .unset] [(.int (0 : Int32))])) _
    refine XS.istoreN X0.here hx rfl (hb hby d38_8) rfl (l' := #[.val (.ref ra0), .val (.ref ra1), .val (.int (0 : Int32))]) rfl ?_
    show Steps p.tables e below (s₁.setTop (mkF m 9 #[.val (.ref ra0), .val (.ref ra1), .val (.int (0 : Int32))] [])) _
    refine XS.iloadN X0.here hx rfl (hb hby d38_9) rfl ?_
    show Steps p.tables e below (s₁.setTop (mkF m 10 #[.val (.ref ra0), .val (.ref ra1), .val (.int (0 : Int32))] [(.int (0 : Int32))])) _
    refine XS.aloadN X0.here hx rfl (hb hby d38_10) rfl rfl ?_
    show Steps p.tables e below (s₁.setTop (mkF m 11 #[.val (.ref ra0), .val (.ref ra1), .val (.int (0 : Int32))] [(.ref ra0), (.int (0 : Int32))])) _
    refine X0.arraylength hx (by rw [e0]; exact Ar103.1) (State.isArrayOf_alike hZ.alike Ar103.2.1) (g := (mkF m 11 #[.val (.ref ra0), .val (.ref ra1), .val (.int (0 : Int32))] [(.ref ra0), (.int (0 : Int32))])) rfl rfl (hb hby d38_11) _ ?_
    rw [len_of S103 M103]
    show Steps p.tables e below (s₁.setTop (mkF m 12 #[.val (.ref ra0), .val (.ref ra1), .val (.int (0 : Int32))] [(.int (5 : Int32)), (.int (0 : Int32))])) _
    refine XS.icmpNo X0.here hx rfl (hb hby d38_12) rfl (tlt (by decide : (0 : Int32) < (5 : Int32))).2.1 ?_
    show Steps p.tables e below (s₁.setTop (mkF m 15 #[.val (.ref ra0), .val (.ref ra1), .val (.int (0 : Int32))] [])) _
    refine XS.aloadN X0.here hx rfl (hb hby d38_15) rfl rfl ?_
    show Steps p.tables e below (s₁.setTop (mkF m 16 #[.val (.ref ra0), .val (.ref ra1), .val (.int (0 : Int32))] [(.ref ra0)])) _
    refine XS.iloadN X0.here hx rfl (hb hby d38_16) rfl ?_
    show Steps p.tables e below (s₁.setTop (mkF m 17 #[.val (.ref ra0), .val (.ref ra1), .val (.int (0 : Int32))] [(.int (0 : Int32)), (.ref ra0)])) _
    refine X0.baloadBytes hx (j := (0 : Int32)) (v := (.int (53 : Int32))) (by rw [e0]; exact Ar104.1) (State.isArrayOf_alike hZ.alike Ar104.2.1) Ar104.2.2 hin104 (Hh104.at hin104 (rfl)) (g := (mkF m 17 #[.val (.ref ra0), .val (.ref ra1), .val (.int (0 : Int32))] [(.int (0 : Int32)), (.ref ra0)])) rfl rfl (hb hby d38_17) _ ?_
    show Steps p.tables e below (s₁.setTop (mkF m 18 #[.val (.ref ra0), .val (.ref ra1), .val (.int (0 : Int32))] [(.int (53 : Int32))])) _
    refine XS.aloadN X0.here hx rfl (hb hby d38_18) rfl rfl ?_
    show Steps p.tables e below (s₁.setTop (mkF m 19 #[.val (.ref ra0), .val (.ref ra1), .val (.int (0 : Int32))] [(.ref ra1), (.int (53 : Int32))])) _
    refine XS.iloadN X0.here hx rfl (hb hby d38_19) rfl ?_
    show Steps p.tables e below (s₁.setTop (mkF m 20 #[.val (.ref ra0), .val (.ref ra1), .val (.int (0 : Int32))] [(.int (0 : Int32)), (.ref ra1), (.int (53 : Int32))])) _
    refine X0.baloadBytes hx (j := (0 : Int32)) (v := (.int (53 : Int32))) (by rw [e0]; exact Ar105.1) (State.isArrayOf_alike hZ.alike Ar105.2.1) Ar105.2.2 hin105 (Hh105.at hin105 (rfl)) (g := (mkF m 20 #[.val (.ref ra0), .val (.ref ra1), .val (.int (0 : Int32))] [(.int (0 : Int32)), (.ref ra1), (.int (53 : Int32))])) rfl rfl (hb hby d38_20) _ ?_
    show Steps p.tables e below (s₁.setTop (mkF m 21 #[.val (.ref ra0), .val (.ref ra1), .val (.int (0 : Int32))] [(.int (53 : Int32)), (.int (53 : Int32))])) _
    refine XS.icmpYes X0.here hx rfl (pc0 := 21) (pc' := 26) rfl (hb hby d38_21) rfl (teq (by decide : (53 : Int32) = (53 : Int32))).1 (by decide) (by decide) ?_
    show Steps p.tables e below (s₁.setTop (mkF m 26 #[.val (.ref ra0), .val (.ref ra1), .val (.int (0 : Int32))] [])) _
    refine XS.iinc X0.here hx rfl (hb hby d38_26) rfl (l' := #[.val (.ref ra0), .val (.ref ra1), .val (.int ((0 : Int32) + (1 : Int32)))]) rfl ?_
    show Steps p.tables e below (s₁.setTop (mkF m 29 #[.val (.ref ra0), .val (.ref ra1), .val (.int ((0 : Int32) + (1 : Int32)))] [])) _
    rw [show ((0 : Int32) + (1 : Int32)) = (1 : Int32) from by decide]
    show Steps p.tables e below (s₁.setTop (mkF m 29 #[.val (.ref ra0), .val (.ref ra1), .val (.int (1 : Int32))] [])) _
    refine XS.goto X0.here hx rfl (pc0 := 29) (pc' := 9) rfl (hb hby d38_29) (by decide) (by decide) ?_
    show Steps p.tables e below (s₁.setTop (mkF m 9 #[.val (.ref ra0), .val (.ref ra1), .val (.int (1 : Int32))] [])) _
    refine XS.iloadN X0.here hx rfl (hb hby d38_9) rfl ?_
    show Steps p.tables e below (s₁.setTop (mkF m 10 #[.val (.ref ra0), .val (.ref ra1), .val (.int (1 : Int32))] [(.int (1 : Int32))])) _
    refine XS.aloadN X0.here hx rfl (hb hby d38_10) rfl rfl ?_
    show Steps p.tables e below (s₁.setTop (mkF m 11 #[.val (.ref ra0), .val (.ref ra1), .val (.int (1 : Int32))] [(.ref ra0), (.int (1 : Int32))])) _
    refine X0.arraylength hx (by rw [e0]; exact Ar106.1) (State.isArrayOf_alike hZ.alike Ar106.2.1) (g := (mkF m 11 #[.val (.ref ra0), .val (.ref ra1), .val (.int (1 : Int32))] [(.ref ra0), (.int (1 : Int32))])) rfl rfl (hb hby d38_11) _ ?_
    rw [len_of S106 M106]
    show Steps p.tables e below (s₁.setTop (mkF m 12 #[.val (.ref ra0), .val (.ref ra1), .val (.int (1 : Int32))] [(.int (5 : Int32)), (.int (1 : Int32))])) _
    refine XS.icmpNo X0.here hx rfl (hb hby d38_12) rfl (tlt (by decide : (1 : Int32) < (5 : Int32))).2.1 ?_
    show Steps p.tables e below (s₁.setTop (mkF m 15 #[.val (.ref ra0), .val (.ref ra1), .val (.int (1 : Int32))] [])) _
    refine XS.aloadN X0.here hx rfl (hb hby d38_15) rfl rfl ?_
    show Steps p.tables e below (s₁.setTop (mkF m 16 #[.val (.ref ra0), .val (.ref ra1), .val (.int (1 : Int32))] [(.ref ra0)])) _
    refine XS.iloadN X0.here hx rfl (hb hby d38_16) rfl ?_
    show Steps p.tables e below (s₁.setTop (mkF m 17 #[.val (.ref ra0), .val (.ref ra1), .val (.int (1 : Int32))] [(.int (1 : Int32)), (.ref ra0)])) _
    refine X0.baloadBytes hx (j := (1 : Int32)) (v := (.int (48 : Int32))) (by rw [e0]; exact Ar107.1) (State.isArrayOf_alike hZ.alike Ar107.2.1) Ar107.2.2 hin107 (Hh107.at hin107 (rfl)) (g := (mkF m 17 #[.val (.ref ra0), .val (.ref ra1), .val (.int (1 : Int32))] [(.int (1 : Int32)), (.ref ra0)])) rfl rfl (hb hby d38_17) _ ?_
    show Steps p.tables e below (s₁.setTop (mkF m 18 #[.val (.ref ra0), .val (.ref ra1), .val (.int (1 : Int32))] [(.int (48 : Int32))])) _
    refine XS.aloadN X0.here hx rfl (hb hby d38_18) rfl rfl ?_
    show Steps p.tables e below (s₁.setTop (mkF m 19 #[.val (.ref ra0), .val (.ref ra1), .val (.int (1 : Int32))] [(.ref ra1), (.int (48 : Int32))])) _
    refine XS.iloadN X0.here hx rfl (hb hby d38_19) rfl ?_
    show Steps p.tables e below (s₁.setTop (mkF m 20 #[.val (.ref ra0), .val (.ref ra1), .val (.int (1 : Int32))] [(.int (1 : Int32)), (.ref ra1), (.int (48 : Int32))])) _
    refine X0.baloadBytes hx (j := (1 : Int32)) (v := (.int (48 : Int32))) (by rw [e0]; exact Ar108.1) (State.isArrayOf_alike hZ.alike Ar108.2.1) Ar108.2.2 hin108 (Hh108.at hin108 (rfl)) (g := (mkF m 20 #[.val (.ref ra0), .val (.ref ra1), .val (.int (1 : Int32))] [(.int (1 : Int32)), (.ref ra1), (.int (48 : Int32))])) rfl rfl (hb hby d38_20) _ ?_
    show Steps p.tables e below (s₁.setTop (mkF m 21 #[.val (.ref ra0), .val (.ref ra1), .val (.int (1 : Int32))] [(.int (48 : Int32)), (.int (48 : Int32))])) _
    refine XS.icmpYes X0.here hx rfl (pc0 := 21) (pc' := 26) rfl (hb hby d38_21) rfl (teq (by decide : (48 : Int32) = (48 : Int32))).1 (by decide) (by decide) ?_
    show Steps p.tables e below (s₁.setTop (mkF m 26 #[.val (.ref ra0), .val (.ref ra1), .val (.int (1 : Int32))] [])) _
    refine XS.iinc X0.here hx rfl (hb hby d38_26) rfl (l' := #[.val (.ref ra0), .val (.ref ra1), .val (.int ((1 : Int32) + (1 : Int32)))]) rfl ?_
    show Steps p.tables e below (s₁.setTop (mkF m 29 #[.val (.ref ra0), .val (.ref ra1), .val (.int ((1 : Int32) + (1 : Int32)))] [])) _
    rw [show ((1 : Int32) + (1 : Int32)) = (2 : Int32) from by decide]
    show Steps p.tables e below (s₁.setTop (mkF m 29 #[.val (.ref ra0), .val (.ref ra1), .val (.int (2 : Int32))] [])) _
    refine XS.goto X0.here hx rfl (pc0 := 29) (pc' := 9) rfl (hb hby d38_29) (by decide) (by decide) ?_
    show Steps p.tables e below (s₁.setTop (mkF m 9 #[.val (.ref ra0), .val (.ref ra1), .val (.int (2 : Int32))] [])) _
    refine XS.iloadN X0.here hx rfl (hb hby d38_9) rfl ?_
    show Steps p.tables e below (s₁.setTop (mkF m 10 #[.val (.ref ra0), .val (.ref ra1), .val (.int (2 : Int32))] [(.int (2 : Int32))])) _
    refine XS.aloadN X0.here hx rfl (hb hby d38_10) rfl rfl ?_
    show Steps p.tables e below (s₁.setTop (mkF m 11 #[.val (.ref ra0), .val (.ref ra1), .val (.int (2 : Int32))] [(.ref ra0), (.int (2 : Int32))])) _
    refine X0.arraylength hx (by rw [e0]; exact Ar109.1) (State.isArrayOf_alike hZ.alike Ar109.2.1) (g := (mkF m 11 #[.val (.ref ra0), .val (.ref ra1), .val (.int (2 : Int32))] [(.ref ra0), (.int (2 : Int32))])) rfl rfl (hb hby d38_11) _ ?_
    rw [len_of S109 M109]
    show Steps p.tables e below (s₁.setTop (mkF m 12 #[.val (.ref ra0), .val (.ref ra1), .val (.int (2 : Int32))] [(.int (5 : Int32)), (.int (2 : Int32))])) _
    refine XS.icmpNo X0.here hx rfl (hb hby d38_12) rfl (tlt (by decide : (2 : Int32) < (5 : Int32))).2.1 ?_
    show Steps p.tables e below (s₁.setTop (mkF m 15 #[.val (.ref ra0), .val (.ref ra1), .val (.int (2 : Int32))] [])) _
    refine XS.aloadN X0.here hx rfl (hb hby d38_15) rfl rfl ?_
    show Steps p.tables e below (s₁.setTop (mkF m 16 #[.val (.ref ra0), .val (.ref ra1), .val (.int (2 : Int32))] [(.ref ra0)])) _
    refine XS.iloadN X0.here hx rfl (hb hby d38_16) rfl ?_
    show Steps p.tables e below (s₁.setTop (mkF m 17 #[.val (.ref ra0), .val (.ref ra1), .val (.int (2 : Int32))] [(.int (2 : Int32)), (.ref ra0)])) _
    refine X0.baloadBytes hx (j := (2 : Int32)) (v := (.int (45 : Int32))) (by rw [e0]; exact Ar110.1) (State.isArrayOf_alike hZ.alike Ar110.2.1) Ar110.2.2 hin110 (Hh110.at hin110 (rfl)) (g := (mkF m 17 #[.val (.ref ra0), .val (.ref ra1), .val (.int (2 : Int32))] [(.int (2 : Int32)), (.ref ra0)])) rfl rfl (hb hby d38_17) _ ?_
    show Steps p.tables e below (s₁.setTop (mkF m 18 #[.val (.ref ra0), .val (.ref ra1), .val (.int (2 : Int32))] [(.int (45 : Int32))])) _
    refine XS.aloadN X0.here hx rfl (hb hby d38_18) rfl rfl ?_
    show Steps p.tables e below (s₁.setTop (mkF m 19 #[.val (.ref ra0), .val (.ref ra1), .val (.int (2 : Int32))] [(.ref ra1), (.int (45 : Int32))])) _
    refine XS.iloadN X0.here hx rfl (hb hby d38_19) rfl ?_
    show Steps p.tables e below (s₁.setTop (mkF m 20 #[.val (.ref ra0), .val (.ref ra1), .val (.int (2 : Int32))] [(.int (2 : Int32)), (.ref ra1), (.int (45 : Int32))])) _
    refine X0.baloadBytes hx (j := (2 : Int32)) (v := (.int (45 : Int32))) (by rw [e0]; exact Ar111.1) (State.isArrayOf_alike hZ.alike Ar111.2.1) Ar111.2.2 hin111 (Hh111.at hin111 (rfl)) (g := (mkF m 20 #[.val (.ref ra0), .val (.ref ra1), .val (.int (2 : Int32))] [(.int (2 : Int32)), (.ref ra1), (.int (45 : Int32))])) rfl rfl (hb hby d38_20) _ ?_
    show Steps p.tables e below (s₁.setTop (mkF m 21 #[.val (.ref ra0), .val (.ref ra1), .val (.int (2 : Int32))] [(.int (45 : Int32)), (.int (45 : Int32))])) _
    refine XS.icmpYes X0.here hx rfl (pc0 := 21) (pc' := 26) rfl (hb hby d38_21) rfl (teq (by decide : (45 : Int32) = (45 : Int32))).1 (by decide) (by decide) ?_
    show Steps p.tables e below (s₁.setTop (mkF m 26 #[.val (.ref ra0), .val (.ref ra1), .val (.int (2 : Int32))] [])) _
    refine XS.iinc X0.here hx rfl (hb hby d38_26) rfl (l' := #[.val (.ref ra0), .val (.ref ra1), .val (.int ((2 : Int32) + (1 : Int32)))]) rfl ?_
    show Steps p.tables e below (s₁.setTop (mkF m 29 #[.val (.ref ra0), .val (.ref ra1), .val (.int ((2 : Int32) + (1 : Int32)))] [])) _
    rw [show ((2 : Int32) + (1 : Int32)) = (3 : Int32) from by decide]
    show Steps p.tables e below (s₁.setTop (mkF m 29 #[.val (.ref ra0), .val (.ref ra1), .val (.int (3 : Int32))] [])) _
    refine XS.goto X0.here hx rfl (pc0 := 29) (pc' := 9) rfl (hb hby d38_29) (by decide) (by decide) ?_
    show Steps p.tables e below (s₁.setTop (mkF m 9 #[.val (.ref ra0), .val (.ref ra1), .val (.int (3 : Int32))] [])) _
    refine XS.iloadN X0.here hx rfl (hb hby d38_9) rfl ?_
    show Steps p.tables e below (s₁.setTop (mkF m 10 #[.val (.ref ra0), .val (.ref ra1), .val (.int (3 : Int32))] [(.int (3 : Int32))])) _
    refine XS.aloadN X0.here hx rfl (hb hby d38_10) rfl rfl ?_
    show Steps p.tables e below (s₁.setTop (mkF m 11 #[.val (.ref ra0), .val (.ref ra1), .val (.int (3 : Int32))] [(.ref ra0), (.int (3 : Int32))])) _
    refine X0.arraylength hx (by rw [e0]; exact Ar112.1) (State.isArrayOf_alike hZ.alike Ar112.2.1) (g := (mkF m 11 #[.val (.ref ra0), .val (.ref ra1), .val (.int (3 : Int32))] [(.ref ra0), (.int (3 : Int32))])) rfl rfl (hb hby d38_11) _ ?_
    rw [len_of S112 M112]
    show Steps p.tables e below (s₁.setTop (mkF m 12 #[.val (.ref ra0), .val (.ref ra1), .val (.int (3 : Int32))] [(.int (5 : Int32)), (.int (3 : Int32))])) _
    refine XS.icmpNo X0.here hx rfl (hb hby d38_12) rfl (tlt (by decide : (3 : Int32) < (5 : Int32))).2.1 ?_
    show Steps p.tables e below (s₁.setTop (mkF m 15 #[.val (.ref ra0), .val (.ref ra1), .val (.int (3 : Int32))] [])) _
    refine XS.aloadN X0.here hx rfl (hb hby d38_15) rfl rfl ?_
    show Steps p.tables e below (s₁.setTop (mkF m 16 #[.val (.ref ra0), .val (.ref ra1), .val (.int (3 : Int32))] [(.ref ra0)])) _
    refine XS.iloadN X0.here hx rfl (hb hby d38_16) rfl ?_
    show Steps p.tables e below (s₁.setTop (mkF m 17 #[.val (.ref ra0), .val (.ref ra1), .val (.int (3 : Int32))] [(.int (3 : Int32)), (.ref ra0)])) _
    refine X0.baloadBytes hx (j := (3 : Int32)) (v := (.int (53 : Int32))) (by rw [e0]; exact Ar113.1) (State.isArrayOf_alike hZ.alike Ar113.2.1) Ar113.2.2 hin113 (Hh113.at hin113 (rfl)) (g := (mkF m 17 #[.val (.ref ra0), .val (.ref ra1), .val (.int (3 : Int32))] [(.int (3 : Int32)), (.ref ra0)])) rfl rfl (hb hby d38_17) _ ?_
    show Steps p.tables e below (s₁.setTop (mkF m 18 #[.val (.ref ra0), .val (.ref ra1), .val (.int (3 : Int32))] [(.int (53 : Int32))])) _
    refine XS.aloadN X0.here hx rfl (hb hby d38_18) rfl rfl ?_
    show Steps p.tables e below (s₁.setTop (mkF m 19 #[.val (.ref ra0), .val (.ref ra1), .val (.int (3 : Int32))] [(.ref ra1), (.int (53 : Int32))])) _
    refine XS.iloadN X0.here hx rfl (hb hby d38_19) rfl ?_
    show Steps p.tables e below (s₁.setTop (mkF m 20 #[.val (.ref ra0), .val (.ref ra1), .val (.int (3 : Int32))] [(.int (3 : Int32)), (.ref ra1), (.int (53 : Int32))])) _
    refine X0.baloadBytes hx (j := (3 : Int32)) (v := (.int (53 : Int32))) (by rw [e0]; exact Ar114.1) (State.isArrayOf_alike hZ.alike Ar114.2.1) Ar114.2.2 hin114 (Hh114.at hin114 (rfl)) (g := (mkF m 20 #[.val (.ref ra0), .val (.ref ra1), .val (.int (3 : Int32))] [(.int (3 : Int32)), (.ref ra1), (.int (53 : Int32))])) rfl rfl (hb hby d38_20) _ ?_
    show Steps p.tables e below (s₁.setTop (mkF m 21 #[.val (.ref ra0), .val (.ref ra1), .val (.int (3 : Int32))] [(.int (53 : Int32)), (.int (53 : Int32))])) _
    refine XS.icmpYes X0.here hx rfl (pc0 := 21) (pc' := 26) rfl (hb hby d38_21) rfl (teq (by decide : (53 : Int32) = (53 : Int32))).1 (by decide) (by decide) ?_
    show Steps p.tables e below (s₁.setTop (mkF m 26 #[.val (.ref ra0), .val (.ref ra1), .val (.int (3 : Int32))] [])) _
    refine XS.iinc X0.here hx rfl (hb hby d38_26) rfl (l' := #[.val (.ref ra0), .val (.ref ra1), .val (.int ((3 : Int32) + (1 : Int32)))]) rfl ?_
    show Steps p.tables e below (s₁.setTop (mkF m 29 #[.val (.ref ra0), .val (.ref ra1), .val (.int ((3 : Int32) + (1 : Int32)))] [])) _
    rw [show ((3 : Int32) + (1 : Int32)) = (4 : Int32) from by decide]
    show Steps p.tables e below (s₁.setTop (mkF m 29 #[.val (.ref ra0), .val (.ref ra1), .val (.int (4 : Int32))] [])) _
    refine XS.goto X0.here hx rfl (pc0 := 29) (pc' := 9) rfl (hb hby d38_29) (by decide) (by decide) ?_
    show Steps p.tables e below (s₁.setTop (mkF m 9 #[.val (.ref ra0), .val (.ref ra1), .val (.int (4 : Int32))] [])) _
    refine XS.iloadN X0.here hx rfl (hb hby d38_9) rfl ?_
    show Steps p.tables e below (s₁.setTop (mkF m 10 #[.val (.ref ra0), .val (.ref ra1), .val (.int (4 : Int32))] [(.int (4 : Int32))])) _
    refine XS.aloadN X0.here hx rfl (hb hby d38_10) rfl rfl ?_
    show Steps p.tables e below (s₁.setTop (mkF m 11 #[.val (.ref ra0), .val (.ref ra1), .val (.int (4 : Int32))] [(.ref ra0), (.int (4 : Int32))])) _
    refine X0.arraylength hx (by rw [e0]; exact Ar115.1) (State.isArrayOf_alike hZ.alike Ar115.2.1) (g := (mkF m 11 #[.val (.ref ra0), .val (.ref ra1), .val (.int (4 : Int32))] [(.ref ra0), (.int (4 : Int32))])) rfl rfl (hb hby d38_11) _ ?_
    rw [len_of S115 M115]
    show Steps p.tables e below (s₁.setTop (mkF m 12 #[.val (.ref ra0), .val (.ref ra1), .val (.int (4 : Int32))] [(.int (5 : Int32)), (.int (4 : Int32))])) _
    refine XS.icmpNo X0.here hx rfl (hb hby d38_12) rfl (tlt (by decide : (4 : Int32) < (5 : Int32))).2.1 ?_
    show Steps p.tables e below (s₁.setTop (mkF m 15 #[.val (.ref ra0), .val (.ref ra1), .val (.int (4 : Int32))] [])) _
    refine XS.aloadN X0.here hx rfl (hb hby d38_15) rfl rfl ?_
    show Steps p.tables e below (s₁.setTop (mkF m 16 #[.val (.ref ra0), .val (.ref ra1), .val (.int (4 : Int32))] [(.ref ra0)])) _
    refine XS.iloadN X0.here hx rfl (hb hby d38_16) rfl ?_
    show Steps p.tables e below (s₁.setTop (mkF m 17 #[.val (.ref ra0), .val (.ref ra1), .val (.int (4 : Int32))] [(.int (4 : Int32)), (.ref ra0)])) _
    refine X0.baloadBytes hx (j := (4 : Int32)) (v := (.int (57 : Int32))) (by rw [e0]; exact Ar116.1) (State.isArrayOf_alike hZ.alike Ar116.2.1) Ar116.2.2 hin116 (Hh116.at hin116 (rfl)) (g := (mkF m 17 #[.val (.ref ra0), .val (.ref ra1), .val (.int (4 : Int32))] [(.int (4 : Int32)), (.ref ra0)])) rfl rfl (hb hby d38_17) _ ?_
    show Steps p.tables e below (s₁.setTop (mkF m 18 #[.val (.ref ra0), .val (.ref ra1), .val (.int (4 : Int32))] [(.int (57 : Int32))])) _
    refine XS.aloadN X0.here hx rfl (hb hby d38_18) rfl rfl ?_
    show Steps p.tables e below (s₁.setTop (mkF m 19 #[.val (.ref ra0), .val (.ref ra1), .val (.int (4 : Int32))] [(.ref ra1), (.int (57 : Int32))])) _
    refine XS.iloadN X0.here hx rfl (hb hby d38_19) rfl ?_
    show Steps p.tables e below (s₁.setTop (mkF m 20 #[.val (.ref ra0), .val (.ref ra1), .val (.int (4 : Int32))] [(.int (4 : Int32)), (.ref ra1), (.int (57 : Int32))])) _
    refine X0.baloadBytes hx (j := (4 : Int32)) (v := (.int (57 : Int32))) (by rw [e0]; exact Ar117.1) (State.isArrayOf_alike hZ.alike Ar117.2.1) Ar117.2.2 hin117 (Hh117.at hin117 (rfl)) (g := (mkF m 20 #[.val (.ref ra0), .val (.ref ra1), .val (.int (4 : Int32))] [(.int (4 : Int32)), (.ref ra1), (.int (57 : Int32))])) rfl rfl (hb hby d38_20) _ ?_
    show Steps p.tables e below (s₁.setTop (mkF m 21 #[.val (.ref ra0), .val (.ref ra1), .val (.int (4 : Int32))] [(.int (57 : Int32)), (.int (57 : Int32))])) _
    refine XS.icmpYes X0.here hx rfl (pc0 := 21) (pc' := 26) rfl (hb hby d38_21) rfl (teq (by decide : (57 : Int32) = (57 : Int32))).1 (by decide) (by decide) ?_
    show Steps p.tables e below (s₁.setTop (mkF m 26 #[.val (.ref ra0), .val (.ref ra1), .val (.int (4 : Int32))] [])) _
    refine XS.iinc X0.here hx rfl (hb hby d38_26) rfl (l' := #[.val (.ref ra0), .val (.ref ra1), .val (.int ((4 : Int32) + (1 : Int32)))]) rfl ?_
    show Steps p.tables e below (s₁.setTop (mkF m 29 #[.val (.ref ra0), .val (.ref ra1), .val (.int ((4 : Int32) + (1 : Int32)))] [])) _
    rw [show ((4 : Int32) + (1 : Int32)) = (5 : Int32) from by decide]
    show Steps p.tables e below (s₁.setTop (mkF m 29 #[.val (.ref ra0), .val (.ref ra1), .val (.int (5 : Int32))] [])) _
    refine XS.goto X0.here hx rfl (pc0 := 29) (pc' := 9) rfl (hb hby d38_29) (by decide) (by decide) ?_
    show Steps p.tables e below (s₁.setTop (mkF m 9 #[.val (.ref ra0), .val (.ref ra1), .val (.int (5 : Int32))] [])) _
    refine XS.iloadN X0.here hx rfl (hb hby d38_9) rfl ?_
    show Steps p.tables e below (s₁.setTop (mkF m 10 #[.val (.ref ra0), .val (.ref ra1), .val (.int (5 : Int32))] [(.int (5 : Int32))])) _
    refine XS.aloadN X0.here hx rfl (hb hby d38_10) rfl rfl ?_
    show Steps p.tables e below (s₁.setTop (mkF m 11 #[.val (.ref ra0), .val (.ref ra1), .val (.int (5 : Int32))] [(.ref ra0), (.int (5 : Int32))])) _
    refine X0.arraylength hx (by rw [e0]; exact Ar118.1) (State.isArrayOf_alike hZ.alike Ar118.2.1) (g := (mkF m 11 #[.val (.ref ra0), .val (.ref ra1), .val (.int (5 : Int32))] [(.ref ra0), (.int (5 : Int32))])) rfl rfl (hb hby d38_11) _ ?_
    rw [len_of S118 M118]
    show Steps p.tables e below (s₁.setTop (mkF m 12 #[.val (.ref ra0), .val (.ref ra1), .val (.int (5 : Int32))] [(.int (5 : Int32)), (.int (5 : Int32))])) _
    refine XS.icmpYes X0.here hx rfl (pc0 := 12) (pc' := 32) rfl (hb hby d38_12) rfl (flt (by decide : ¬ ((5 : Int32) < (5 : Int32)))).2.1 (by decide) (by decide) ?_
    show Steps p.tables e below (s₁.setTop (mkF m 32 #[.val (.ref ra0), .val (.ref ra1), .val (.int (5 : Int32))] [])) _
    refine XS.iconst X0.here hx rfl (hb hby d38_32) ?_
    show Steps p.tables e below (s₁.setTop (mkF m 33 #[.val (.ref ra0), .val (.ref ra1), .val (.int (5 : Int32))] [(.int (1 : Int32))])) _
    exact retN X0 hx (t := .boolean) Bd.returns (by simp) (hb hby d38_33) hr
  · show Q38x39 Z ra0 ra1 uk1 uk2 h0 n0 _ s₁.heap _
    rw [e0]
    exact ⟨rfl, N0, rfl⟩
theorem d37_0 : decode jdk_42_method_66_code 0 = .ok (.aload_n 0, 1) := by decide +kernel
theorem d37_1 : decode jdk_42_method_66_code 1 = .ok (.aload_n 1, 1) := by decide +kernel
theorem d37_2 : decode jdk_42_method_66_code 2 = .ok (.if_acmp .ne 5, 3) := by decide +kernel
theorem d37_5 : decode jdk_42_method_66_code 5 = .ok (.iconst 1, 1) := by decide +kernel
theorem d37_6 : decode jdk_42_method_66_code 6 = .ok (.ireturn, 1) := by decide +kernel
theorem d37_7 : decode jdk_42_method_66_code 7 = .ok (.aload_n 1, 1) := by decide +kernel
theorem d37_8 : decode jdk_42_method_66_code 8 = .ok (.instanceof 10, 3) := by decide +kernel
theorem d37_11 : decode jdk_42_method_66_code 11 = .ok (.ifCond .eq 43, 3) := by decide +kernel
theorem d37_14 : decode jdk_42_method_66_code 14 = .ok (.aload_n 1, 1) := by decide +kernel
theorem d37_15 : decode jdk_42_method_66_code 15 = .ok (.checkcast 10, 3) := by decide +kernel
theorem d37_18 : decode jdk_42_method_66_code 18 = .ok (.astore_n 2, 1) := by decide +kernel
theorem d37_19 : decode jdk_42_method_66_code 19 = .ok (.getstatic 38, 3) := by decide +kernel
theorem d37_22 : decode jdk_42_method_66_code 22 = .ok (.ifCond .eq 14, 3) := by decide +kernel
theorem d37_25 : decode jdk_42_method_66_code 25 = .ok (.aload_n 0, 1) := by decide +kernel
theorem d37_26 : decode jdk_42_method_66_code 26 = .ok (.getfield 15, 3) := by decide +kernel
theorem d37_29 : decode jdk_42_method_66_code 29 = .ok (.aload_n 2, 1) := by decide +kernel
theorem d37_30 : decode jdk_42_method_66_code 30 = .ok (.getfield 15, 3) := by decide +kernel
theorem d37_33 : decode jdk_42_method_66_code 33 = .ok (.if_icmp .ne 21, 3) := by decide +kernel
theorem d37_36 : decode jdk_42_method_66_code 36 = .ok (.aload_n 0, 1) := by decide +kernel
theorem d37_37 : decode jdk_42_method_66_code 37 = .ok (.getfield 9, 3) := by decide +kernel
theorem d37_40 : decode jdk_42_method_66_code 40 = .ok (.aload_n 2, 1) := by decide +kernel
theorem d37_41 : decode jdk_42_method_66_code 41 = .ok (.getfield 9, 3) := by decide +kernel
theorem d37_44 : decode jdk_42_method_66_code 44 = .ok (.invokestatic 541, 3) := by decide +kernel
theorem d37_47 : decode jdk_42_method_66_code 47 = .ok (.ifCond .eq 7, 3) := by decide +kernel
theorem d37_50 : decode jdk_42_method_66_code 50 = .ok (.iconst 1, 1) := by decide +kernel
theorem d37_51 : decode jdk_42_method_66_code 51 = .ok (.goto 4, 3) := by decide +kernel
theorem d37_55 : decode jdk_42_method_66_code 55 = .ok (.ireturn, 1) := by decide +kernel
theorem ef_37 (m : MethodId) (a1 : Addr) (a2 : Addr) : entryFrame m #[(.ref a1), (.ref a2)] 3 = mkF m 0 #[.val (.ref a1), .val (.ref a2), .unset] [] := by first | (simp [entryFrame, mkF, argsToLocals, Value.category]; done) | rfl
def Q37 (Z : State) (a1 : Addr) (a2 : Addr) (cs : Int32) (b1 : Addr) (k1 : ClassId) (b2 : Addr) (k2 : ClassId) (h0 : Heap) (n0 : Nat) (v : Option Value) (h : Heap) (L : List Loc) : Prop := v = some (.int (1 : Int32)) ∧ Fr n0 L ∧ h = h0
set_option maxRecDepth 65536 in
set_option maxHeartbeats 40000000 in
theorem rm37 (l : Launch) (Z : State) (a0 : Array Value) (hw : ∀ d ∈ tables_1, d.before a0 Z = true) (ws : List Jvm.Cond) (a1 : Addr) (a2 : Addr) (cs : Int32) (b1 : Addr) (k1 : ClassId) (b2 : Addr) (k2 : ClassId) (h0 : Heap) (n0 : Nat) (Z0 : n0 ≤ h0.size) (H0 : Sta Z h0 "java/lang/String" "COMPACT_STRINGS" "Z" (.int cs)) (H1 : ¬ (cs = (0 : Int32))) (H2 : Exa Z h0 a1 "java/lang/String") (H3 : Fld Z h0 a1 "java/lang/String" "coder" "B" (.int (0 : Int32))) (H4 : Fld Z h0 a1 "java/lang/String" "value" "[B" (.ref b1)) (H5 : Arv Z h0 b1 k1 .byte (5 : Int32) [(.int (53 : Int32)), (.int (48 : Int32)), (.int (45 : Int32)), (.int (53 : Int32)), (.int (57 : Int32))] (.int (0 : Int32))) (H6 : Exa Z h0 a2 "java/lang/String") (H7 : Fld Z h0 a2 "java/lang/String" "coder" "B" (.int (0 : Int32))) (H8 : Fld Z h0 a2 "java/lang/String" "value" "[B" (.ref b2)) (H9 : Arv Z h0 b2 k2 .byte (5 : Int32) [(.int (53 : Int32)), (.int (48 : Int32)), (.int (45 : Int32)), (.int (53 : Int32)), (.int (57 : Int32))] (.int (0 : Int32))) :
    MetFree l (⟨"java/lang/String", "equals", "(Ljava/lang/Object;)Z"⟩ : MethodName) (head1 (Jvm.Cond.code (⟨"java/lang/String", "equals", "(Ljava/lang/Object;)Z"⟩ : MethodName) jdk_42_method_66_code 3 (some .boolean) :: ws) ({ frames := 1, cells := 0, slots := 0, locals := 14 } : Room)) (fun a U => a = #[(.ref a1), (.ref a2)] ∧ Z.Warmed39 U.vm ∧ U.heap = h0) (fun _ _ _ _ _ => True) (fun _ U o U' => ∃ v L, o = .returned v ∧ Q37 Z a1 a2 cs b1 k1 b2 k2 h0 n0 v U'.heap L ∧ FrameEnd U o U' L ({ frames := 1, cells := 0, slots := 0, locals := 14 } : Room).cells ({ frames := 1, cells := 0, slots := 0, locals := 14 } : Room).slots) := by
  refine MetFree.of_bodySF (plainFor_of_name pn_java_lang_String) hisR ?_
  intro p e s m args below meth c s₁ Bd hml0 hP hK
  obtain ⟨rfl, hZ, hh⟩ := hP
  have hx := Bd.exec
  have hby := Bd.bytes
  have hml : c.maxLocals = 3 := hml0
  have hown : s.vm.findClass "java/lang/String" = some m.cls := findClass_of_methodNamed Bd.named
  have hnm := (name_of_methodNamed Bd.named Bd.method).1
  have X0 : Stand p l e ({ frames := 1, cells := 0, slots := 0, locals := 14 } : Room) s m #[(.ref a1), (.ref a2)] below meth c s₁ [] 0 0 := Stand.of_body Bd
  have e0 : s₁.heap = h0 := by rw [← hh, Bd.state]; rfl
  have N0 := Fr.nil n0
  have pre0 : ∀ t, Steps p.tables e below (s₁.setTop (mkF m 0 #[.val (.ref a1), .val (.ref a2), .unset] [])) t → Steps p.tables e below (s₁.setTop (entryFrame m #[(.ref a1), (.ref a2)] 3)) t := fun t k => castTop (ef_37 m a1 a2) k
  have pre101 : ∀ t, Steps p.tables e below (s₁.setTop (mkF m 2 #[.val (.ref a1), .val (.ref a2), .unset] [(.ref a2), (.ref a1)])) t → Steps p.tables e below (s₁.setTop (entryFrame m #[(.ref a1), (.ref a2)] 3)) t := fun t kt => by
    refine pre0 t ?_
    show Steps p.tables e below (s₁.setTop (mkF m 0 #[.val (.ref a1), .val (.ref a2), .unset] [])) _
    refine XS.aloadN X0.here hx rfl (hb hby d37_0) rfl rfl ?_
    show Steps p.tables e below (s₁.setTop (mkF m 1 #[.val (.ref a1), .val (.ref a2), .unset] [(.ref a1)])) _
    refine XS.aloadN X0.here hx rfl (hb hby d37_1) rfl rfl ?_
    show Steps p.tables e below (s₁.setTop (mkF m 2 #[.val (.ref a1), .val (.ref a2), .unset] [(.ref a2), (.ref a1)])) _
    exact kt
  by_cases hc2_102 : ((.ref a1) : Value) = (.ref a2)
  · skip
    obtain ⟨fs, hr, hrun, hended, hW, hsame⟩ := X0.leave (v := some (.int (1 : Int32))) (fun h => by rw [Bd.returns] at h; cases h)
    refine ⟨_, _, pre101 _ ?_, hrun, hended, _, _, rfl, ?_, ⟨_, rfl⟩, hW, hsame.mono (by decide) (by decide)⟩
    · skip
      show Steps p.tables e below (s₁.setTop (mkF m 2 #[.val (.ref a1), .val (.ref a2), .unset] [(.ref a2), (.ref a1)])) _
      refine Jvm.RoadKit.acmp (g := (mkF m 2 #[.val (.ref a1), .val (.ref a2), .unset] [(.ref a2), (.ref a1)])) X0 hx rfl rfl rfl (pc0 := 2) (pc' := 5) (same := true) rfl (hb hby d37_2) rfl (decide_eq_true (hc2_102 : ((.ref a1) : Value) = (.ref a2))) (by decide) (by decide) ?_
      show Steps p.tables e below (s₁.setTop (mkF m 5 #[.val (.ref a1), .val (.ref a2), .unset] [])) _
      refine XS.iconst X0.here hx rfl (hb hby d37_5) ?_
      show Steps p.tables e below (s₁.setTop (mkF m 6 #[.val (.ref a1), .val (.ref a2), .unset] [(.int (1 : Int32))])) _
      exact retN X0 hx (t := .boolean) Bd.returns (by simp) (hb hby d37_6) hr
    · show Q37 Z a1 a2 cs b1 k1 b2 k2 h0 n0 _ s₁.heap _
      rw [e0]
      exact ⟨rfl, N0, rfl⟩
  · skip
    obtain ⟨T103, X103, e103, st103⟩ := instY X0 hx hZ hown (hw _ (List.mem_of_getElem? (i := 220) rfl)) e0 (Ins.self H6) (g := (mkF m 8 #[.val (.ref a1), .val (.ref a2), .unset] [(.ref a2)])) rfl rfl (hb hby d37_8)
    obtain ⟨T104, X104, e104, st104⟩ := castY X103 hx hZ hown (hw _ (List.mem_of_getElem? (i := 220) rfl)) e103 (Ins.self H6) (g := (mkF m 15 #[.val (.ref a1), .val (.ref a2), .unset] [(.ref a2)])) rfl rfl (hb hby d37_15)
    obtain ⟨T105, X105, e105, st105⟩ := getS2 X104 hx hZ hown (host := "") (Or.inl (hw _ (List.mem_of_getElem? (i := 125) rfl))) Via.refl e104 H0 (g := (mkF m 19 #[.val (.ref a1), .val (.ref a2), .val (.ref a2)] [])) rfl (hb hby d37_19)
    obtain ⟨T106, X106, e106, st106⟩ := getF X105 hx hZ hown (host := "") (Or.inl (hw _ (List.mem_of_getElem? (i := 126) rfl))) Via.refl e105 H3 (g := (mkF m 26 #[.val (.ref a1), .val (.ref a2), .val (.ref a2)] [(.ref a1)])) rfl rfl (hb hby d37_26)
    obtain ⟨T107, X107, e107, st107⟩ := getF X106 hx hZ hown (host := "") (Or.inl (hw _ (List.mem_of_getElem? (i := 126) rfl))) Via.refl e106 H7 (g := (mkF m 30 #[.val (.ref a1), .val (.ref a2), .val (.ref a2)] [(.ref a2), (.int (0 : Int32))])) rfl rfl (hb hby d37_30)
    obtain ⟨T108, X108, e108, st108⟩ := getF X107 hx hZ hown (host := "") (Or.inl (hw _ (List.mem_of_getElem? (i := 119) rfl))) Via.refl e107 H4 (g := (mkF m 37 #[.val (.ref a1), .val (.ref a2), .val (.ref a2)] [(.ref a1)])) rfl rfl (hb hby d37_37)
    obtain ⟨T109, X109, e109, st109⟩ := getF X108 hx hZ hown (host := "") (Or.inl (hw _ (List.mem_of_getElem? (i := 119) rfl))) Via.refl e108 H8 (g := (mkF m 41 #[.val (.ref a1), .val (.ref a2), .val (.ref a2)] [(.ref a2), (.ref b1)])) rfl rfl (hb hby d37_41)
    obtain ⟨_, _, ⟨T110, L110, k110, n110⟩, -, X110, ⟨Lc110, hQ110, l110, y110, z110⟩, st110⟩ := Jvm.LawKit.callS X109 hx (y := (⟨"java/lang/StringLatin1", "equals", "([B[B)Z"⟩ : MethodName)) hown (mvT hZ (hw _ (List.mem_of_getElem? (i := 221) rfl))) (mvT hZ (hw _ (List.mem_of_getElem? (i := 222) rfl))) (mvT hZ (hw _ (List.mem_of_getElem? (i := 204) rfl))) (mvT hZ (hw _ (List.mem_of_getElem? (i := 223) rfl))) (by decide) (backOf (W := 0) (rm38x39 l Z a0 hw [] b1 b2 k1 k2 h0 n0 Z0 H5 H9) hZ (hw _ (List.mem_of_getElem? (i := 223) rfl)) (hw _ (List.mem_of_getElem? (i := 204) rfl)) (by decide) (by decide)) (g := (mkF m 44 #[.val (.ref a1), .val (.ref a2), .val (.ref a2)] [(.ref b2), (.ref b1)])) rfl (by rw [hml]; rfl) (argsL := [(.ref b1), (.ref b2)]) (rest := []) (lenOf pd_22 rfl) rfl (by show 2 * 0 + _ ≤ _; exact Nat.le_of_eq rfl) (hb hby d37_44) (fun _ _ => ⟨rfl, e109, (by decide : 0 + 0 ≤ _), (by decide : 0 + 0 ≤ _)⟩)
    dsimp only [Pt.U, Pt.locs, Pt.cells, Pt.slots] at X110 l110 y110 z110 st110 hQ110
    subst l110 y110 z110
    obtain ⟨rfl, Nq110, Heq110⟩ := hQ110
    have N110 := Fr.app N0 Nq110
    obtain ⟨fs, hr, hrun, hended, hW, hsame⟩ := X110.leave (v := some (.int (1 : Int32))) (fun h => by rw [Bd.returns] at h; cases h)
    refine ⟨_, _, pre101 _ ?_, hrun, hended, _, _, rfl, ?_, ⟨_, rfl⟩, hW, hsame.mono (by decide) (by decide)⟩
    · skip
      show Steps p.tables e below (s₁.setTop (mkF m 2 #[.val (.ref a1), .val (.ref a2), .unset] [(.ref a2), (.ref a1)])) _
      refine Jvm.RoadKit.acmp (g := (mkF m 2 #[.val (.ref a1), .val (.ref a2), .unset] [(.ref a2), (.ref a1)])) X0 hx rfl rfl rfl (pc0 := 2) (pc' := 7) (same := false) rfl (hb hby d37_2) rfl (decide_eq_false (hc2_102 : ¬ (((.ref a1) : Value) = (.ref a2)))) (by decide) (by decide) ?_
      show Steps p.tables e below (s₁.setTop (mkF m 7 #[.val (.ref a1), .val (.ref a2), .unset] [])) _
      refine XS.aloadN X0.here hx rfl (hb hby d37_7) rfl rfl ?_
      show Steps p.tables e below (s₁.setTop (mkF m 8 #[.val (.ref a1), .val (.ref a2), .unset] [(.ref a2)])) _
      refine st103 _ ?_
      show Steps p.tables e below (T103.setTop (mkF m 11 #[.val (.ref a1), .val (.ref a2), .unset] [(.int (1 : Int32))])) _
      refine XS.ifNo X103.here hx rfl (hb hby d37_11) rfl ((if0 _ _).trans (feq (by decide : ¬ ((1 : Int32) = (0 : Int32)))).1) ?_
      show Steps p.tables e below (T103.setTop (mkF m 14 #[.val (.ref a1), .val (.ref a2), .unset] [])) _
      refine XS.aloadN X103.here hx rfl (hb hby d37_14) rfl rfl ?_
      show Steps p.tables e below (T103.setTop (mkF m 15 #[.val (.ref a1), .val (.ref a2), .unset] [(.ref a2)])) _
      refine st104 _ ?_
      show Steps p.tables e below (T104.setTop (mkF m 18 #[.val (.ref a1), .val (.ref a2), .unset] [(.ref a2)])) _
      refine XS.astoreN X104.here hx rfl (hb hby d37_18) rfl rfl (l' := #[.val (.ref a1), .val (.ref a2), .val (.ref a2)]) rfl ?_
      show Steps p.tables e below (T104.setTop (mkF m 19 #[.val (.ref a1), .val (.ref a2), .val (.ref a2)] [])) _
      refine st105 _ ?_
      show Steps p.tables e below (T105.setTop (mkF m 22 #[.val (.ref a1), .val (.ref a2), .val (.ref a2)] [(.int cs)])) _
      refine XS.ifNo X105.here hx rfl (hb hby d37_22) rfl ((if0 _ _).trans (feq (H1 : ¬ (cs = (0 : Int32)))).1) ?_
      show Steps p.tables e below (T105.setTop (mkF m 25 #[.val (.ref a1), .val (.ref a2), .val (.ref a2)] [])) _
      refine XS.aloadN X105.here hx rfl (hb hby d37_25) rfl rfl ?_
      show Steps p.tables e below (T105.setTop (mkF m 26 #[.val (.ref a1), .val (.ref a2), .val (.ref a2)] [(.ref a1)])) _
      refine st106 _ ?_
      show Steps p.tables e below (T106.setTop (mkF m 29 #[.val (.ref a1), .val (.ref a2), .val (.ref a2)] [(.int (0 : Int32))])) _
      refine XS.aloadN X106.here hx rfl (hb hby d37_29) rfl rfl ?_
      show Steps p.tables e below (T106.setTop (mkF m 30 #[.val (.ref a1), .val (.ref a2), .val (.ref a2)] [(.ref a2), (.int (0 : Int32))])) _
      refine st107 _ ?_
      show Steps p.tables e below (T107.setTop (mkF m 33 #[.val (.ref a1), .val (.ref a2), .val (.ref a2)] [(.int (0 : Int32)), (.int (0 : Int32))])) _
      refine XS.icmpNo X107.here hx rfl (hb hby d37_33) rfl (teq (by decide : (0 : Int32) = (0 : Int32))).2 ?_
      show Steps p.tables e below (T107.setTop (mkF m 36 #[.val (.ref a1), .val (.ref a2), .val (.ref a2)] [])) _
      refine XS.aloadN X107.here hx rfl (hb hby d37_36) rfl rfl ?_
      show Steps p.tables e below (T107.setTop (mkF m 37 #[.val (.ref a1), .val (.ref a2), .val (.ref a2)] [(.ref a1)])) _
      refine st108 _ ?_
      show Steps p.tables e below (T108.setTop (mkF m 40 #[.val (.ref a1), .val (.ref a2), .val (.ref a2)] [(.ref b1)])) _
      refine XS.aloadN X108.here hx rfl (hb hby d37_40) rfl rfl ?_
      show Steps p.tables e below (T108.setTop (mkF m 41 #[.val (.ref a1), .val (.ref a2), .val (.ref a2)] [(.ref a2), (.ref b1)])) _
      refine st109 _ ?_
      show Steps p.tables e below (T109.setTop (mkF m 44 #[.val (.ref a1), .val (.ref a2), .val (.ref a2)] [(.ref b2), (.ref b1)])) _
      refine st110 _ ?_
      show Steps p.tables e below (T110.setTop (mkF m 47 #[.val (.ref a1), .val (.ref a2), .val (.ref a2)] [(.int (1 : Int32))])) _
      refine XS.ifNo X110.here hx rfl (hb hby d37_47) rfl ((if0 _ _).trans (feq (by decide : ¬ ((1 : Int32) = (0 : Int32)))).1) ?_
      show Steps p.tables e below (T110.setTop (mkF m 50 #[.val (.ref a1), .val (.ref a2), .val (.ref a2)] [])) _
      refine XS.iconst X110.here hx rfl (hb hby d37_50) ?_
      show Steps p.tables e below (T110.setTop (mkF m 51 #[.val (.ref a1), .val (.ref a2), .val (.ref a2)] [(.int (1 : Int32))])) _
      refine XS.goto X110.here hx rfl (pc0 := 51) (pc' := 55) rfl (hb hby d37_51) (by decide) (by decide) ?_
      show Steps p.tables e below (T110.setTop (mkF m 55 #[.val (.ref a1), .val (.ref a2), .val (.ref a2)] [(.int (1 : Int32))])) _
      exact retN X110 hx (t := .boolean) Bd.returns (by simp) (hb hby d37_55) hr
    · show Q37 Z a1 a2 cs b1 k1 b2 k2 h0 n0 _ T110.heap _
      rw [Heq110]
      exact ⟨rfl, N110, rfl⟩
theorem d2_0 : decode jdk_45_method_3_code 0 = .ok (.aload_n 0, 1) := by decide +kernel
theorem d2_1 : decode jdk_45_method_3_code 1 = .ok (.getfield 7, 3) := by decide +kernel
theorem d2_4 : decode jdk_45_method_3_code 4 = .ok (.arraylength, 1) := by decide +kernel
theorem d2_5 : decode jdk_45_method_3_code 5 = .ok (.ireturn, 1) := by decide +kernel
theorem ef_2x41 (m : MethodId) (ra0 : Addr) : entryFrame m #[(.ref ra0)] 1 = mkF m 0 #[.val (.ref ra0)] [] := by first | (simp [entryFrame, mkF, argsToLocals, Value.category]; done) | rfl
def Q2x41 (Z : State) (ra0 : Addr) (uo1 : Addr) (uo2 : Addr) (uo3 : Addr) (uo4 : Addr) (uo5 : Addr) (uo6 : Addr) (uo7 : Addr) (uo8 : Addr) (uk9 : ClassId) (h0 : Heap) (n0 : Nat) (v : Option Value) (h : Heap) (L : List Loc) : Prop := v = some (.int (7 : Int32)) ∧ Fr n0 L ∧ h = h0
set_option maxRecDepth 65536 in
set_option maxHeartbeats 40000000 in
theorem rm2x41 (l : Launch) (Z : State) (a0 : Array Value) (hw : ∀ d ∈ tables_1, d.before a0 Z = true) (ws : List Jvm.Cond) (ra0 : Addr) (uo1 : Addr) (uo2 : Addr) (uo3 : Addr) (uo4 : Addr) (uo5 : Addr) (uo6 : Addr) (uo7 : Addr) (uo8 : Addr) (uk9 : ClassId) (h0 : Heap) (n0 : Nat) (Z0 : n0 ≤ h0.size) (H0 : Fld Z h0 ra0 "java/util/ImmutableCollections$ListN" "elements" "[Ljava/lang/Object;" (.ref uo1)) (H1 : Arv Z h0 uo1 uk9 (.object "java/lang/Object") (7 : Int32) [(.ref uo2), (.ref uo3), (.ref uo4), (.ref uo5), (.ref uo6), (.ref uo7), (.ref uo8)] .null) :
    MetFree l (⟨"java/util/ImmutableCollections$ListN", "size", "()I"⟩ : MethodName) (head1 (Jvm.Cond.code (⟨"java/util/ImmutableCollections$ListN", "size", "()I"⟩ : MethodName) jdk_45_method_3_code 1 (some .int) :: ws) ({ frames := 0, cells := 0, slots := 0, locals := 0 } : Room)) (fun a U => a = #[(.ref ra0)] ∧ Z.Warmed39 U.vm ∧ U.heap = h0) (fun _ _ _ _ _ => True) (fun _ U o U' => ∃ v L, o = .returned v ∧ Q2x41 Z ra0 uo1 uo2 uo3 uo4 uo5 uo6 uo7 uo8 uk9 h0 n0 v U'.heap L ∧ FrameEnd U o U' L ({ frames := 0, cells := 0, slots := 0, locals := 0 } : Room).cells ({ frames := 0, cells := 0, slots := 0, locals := 0 } : Room).slots) := by
  refine MetFree.of_bodySF (plainFor_of_name pn_java_util_ImmutableCollections_ListN) hisR ?_
  intro p e s m args below meth c s₁ Bd hml0 hP hK
  obtain ⟨rfl, hZ, hh⟩ := hP
  have hx := Bd.exec
  have hby := Bd.bytes
  have hml : c.maxLocals = 1 := hml0
  have hown : s.vm.findClass "java/util/ImmutableCollections$ListN" = some m.cls := findClass_of_methodNamed Bd.named
  have hnm := (name_of_methodNamed Bd.named Bd.method).1
  have X0 : Stand p l e ({ frames := 0, cells := 0, slots := 0, locals := 0 } : Room) s m #[(.ref ra0)] below meth c s₁ [] 0 0 := Stand.of_body Bd
  have e0 : s₁.heap = h0 := by rw [← hh, Bd.state]; rfl
  have N0 := Fr.nil n0
  have pre0 : ∀ t, Steps p.tables e below (s₁.setTop (mkF m 0 #[.val (.ref ra0)] [])) t → Steps p.tables e below (s₁.setTop (entryFrame m #[(.ref ra0)] 1)) t := fun t k => castTop (ef_2x41 m ra0) k
  obtain ⟨T101, X101, e101, st101⟩ := getF X0 hx hZ hown (host := "") (Or.inl (hw _ (List.mem_of_getElem? (i := 16) rfl))) Via.refl e0 H0 (g := (mkF m 1 #[.val (.ref ra0)] [(.ref ra0)])) rfl rfl (hb hby d2_1)
  obtain ⟨cl102, Ar102, -, S102, M102, -, -⟩ := id H1
  obtain ⟨fs, hr, hrun, hended, hW, hsame⟩ := X101.leave (v := some (.int (7 : Int32))) (fun h => by rw [Bd.returns] at h; cases h)
  refine ⟨_, _, pre0 _ ?_, hrun, hended, _, _, rfl, ?_, ⟨_, rfl⟩, hW, hsame.mono (by decide) (by decide)⟩
  · skip
    show Steps p.tables e below (s₁.setTop (mkF m 0 #[.val (.ref ra0)] [])) _
    refine XS.aloadN X0.here hx rfl (hb hby d2_0) rfl rfl ?_
    show Steps p.tables e below (s₁.setTop (mkF m 1 #[.val (.ref ra0)] [(.ref ra0)])) _
    refine st101 _ ?_
    show Steps p.tables e below (T101.setTop (mkF m 4 #[.val (.ref ra0)] [(.ref uo1)])) _
    refine X101.arraylength hx (by rw [e101]; exact Ar102.1) (State.isArrayOf_alike hZ.alike Ar102.2.1) (g := (mkF m 4 #[.val (.ref ra0)] [(.ref uo1)])) rfl rfl (hb hby d2_4) _ ?_
    rw [len_of S102 M102]
    show Steps p.tables e below (T101.setTop (mkF m 5 #[.val (.ref ra0)] [(.int (7 : Int32))])) _
    exact retI X101 hx Bd.returns (hb hby d2_5) hr
  · show Q2x41 Z ra0 uo1 uo2 uo3 uo4 uo5 uo6 uo7 uo8 uk9 h0 n0 _ T101.heap _
    rw [e101]
    exact ⟨rfl, N0, rfl⟩
theorem ef_3x42 (m : MethodId) (ra0 : Addr) : entryFrame m #[(.ref ra0), (.int (6 : Int32))] 2 = mkF m 0 #[.val (.ref ra0), .val (.int (6 : Int32))] [] := by first | (simp [entryFrame, mkF, argsToLocals, Value.category]; done) | rfl
def Q3x42 (Z : State) (ra0 : Addr) (uo1 : Addr) (uo2 : Addr) (uo3 : Addr) (uo4 : Addr) (uo5 : Addr) (uo6 : Addr) (uo7 : Addr) (uo8 : Addr) (uk9 : ClassId) (h0 : Heap) (n0 : Nat) (v : Option Value) (h : Heap) (L : List Loc) : Prop := v = some (.ref uo8) ∧ Fr n0 L ∧ h = h0
set_option maxRecDepth 65536 in
set_option maxHeartbeats 40000000 in
theorem rm3x42 (l : Launch) (Z : State) (a0 : Array Value) (hw : ∀ d ∈ tables_1, d.before a0 Z = true) (ws : List Jvm.Cond) (ra0 : Addr) (uo1 : Addr) (uo2 : Addr) (uo3 : Addr) (uo4 : Addr) (uo5 : Addr) (uo6 : Addr) (uo7 : Addr) (uo8 : Addr) (uk9 : ClassId) (h0 : Heap) (n0 : Nat) (Z0 : n0 ≤ h0.size) (H0 : Fld Z h0 ra0 "java/util/ImmutableCollections$ListN" "elements" "[Ljava/lang/Object;" (.ref uo1)) (H1 : Arv Z h0 uo1 uk9 (.object "java/lang/Object") (7 : Int32) [(.ref uo2), (.ref uo3), (.ref uo4), (.ref uo5), (.ref uo6), (.ref uo7), (.ref uo8)] .null) :
    MetFree l (⟨"java/util/ImmutableCollections$ListN", "get", "(I)Ljava/lang/Object;"⟩ : MethodName) (head1 (Jvm.Cond.code (⟨"java/util/ImmutableCollections$ListN", "get", "(I)Ljava/lang/Object;"⟩ : MethodName) jdk_45_method_4_code 2 (some (.object "java/lang/Object")) :: ws) ({ frames := 0, cells := 0, slots := 0, locals := 0 } : Room)) (fun a U => a = #[(.ref ra0), (.int (6 : Int32))] ∧ Z.Warmed39 U.vm ∧ U.heap = h0) (fun _ _ _ _ _ => True) (fun _ U o U' => ∃ v L, o = .returned v ∧ Q3x42 Z ra0 uo1 uo2 uo3 uo4 uo5 uo6 uo7 uo8 uk9 h0 n0 v U'.heap L ∧ FrameEnd U o U' L ({ frames := 0, cells := 0, slots := 0, locals := 0 } : Room).cells ({ frames := 0, cells := 0, slots := 0, locals := 0 } : Room).slots) := by
  refine MetFree.of_bodySF (plainFor_of_name pn_java_util_ImmutableCollections_ListN) hisR ?_
  intro p e s m args below meth c s₁ Bd hml0 hP hK
  obtain ⟨rfl, hZ, hh⟩ := hP
  have hx := Bd.exec
  have hby := Bd.bytes
  have hml : c.maxLocals = 2 := hml0
  have hown : s.vm.findClass "java/util/ImmutableCollections$ListN" = some m.cls := findClass_of_methodNamed Bd.named
  have hnm := (name_of_methodNamed Bd.named Bd.method).1
  have X0 : Stand p l e ({ frames := 0, cells := 0, slots := 0, locals := 0 } : Room) s m #[(.ref ra0), (.int (6 : Int32))] below meth c s₁ [] 0 0 := Stand.of_body Bd
  have e0 : s₁.heap = h0 := by rw [← hh, Bd.state]; rfl
  have N0 := Fr.nil n0
  have pre0 : ∀ t, Steps p.tables e below (s₁.setTop (mkF m 0 #[.val (.ref ra0), .val (.int (6 : Int32))] [])) t → Steps p.tables e below (s₁.setTop (entryFrame m #[(.ref ra0), (.int (6 : Int32))] 2)) t := fun t k => castTop (ef_3x42 m ra0) k
  obtain ⟨T101, X101, e101, st101⟩ := getF X0 hx hZ hown (host := "") (Or.inl (hw _ (List.mem_of_getElem? (i := 16) rfl))) Via.refl e0 H0 (g := (mkF m 1 #[.val (.ref ra0), .val (.int (6 : Int32))] [(.ref ra0)])) rfl rfl (hb hby d3_1)
  obtain ⟨cl102, Ar102, qc102, S102, M102, Hh102, G102⟩ := id H1
  have hin102 : ¬ ((6 : Int32) < 0 ∨ cl102.slots.size ≤ ((6 : Int32)).toNatClampNeg) := inb_of S102 ⟨by decide, by decide⟩
  obtain ⟨fs, hr, hrun, hended, hW, hsame⟩ := X101.leave (v := some (.ref uo8)) (fun h => by rw [Bd.returns] at h; cases h)
  refine ⟨_, _, pre0 _ ?_, hrun, hended, _, _, rfl, ?_, ⟨_, rfl⟩, hW, hsame.mono (by decide) (by decide)⟩
  · skip
    show Steps p.tables e below (s₁.setTop (mkF m 0 #[.val (.ref ra0), .val (.int (6 : Int32))] [])) _
    refine XS.aloadN X0.here hx rfl (hb hby d3_0) rfl rfl ?_
    show Steps p.tables e below (s₁.setTop (mkF m 1 #[.val (.ref ra0), .val (.int (6 : Int32))] [(.ref ra0)])) _
    refine st101 _ ?_
    show Steps p.tables e below (T101.setTop (mkF m 4 #[.val (.ref ra0), .val (.int (6 : Int32))] [(.ref uo1)])) _
    refine XS.iloadN X101.here hx rfl (hb hby d3_4) rfl ?_
    show Steps p.tables e below (T101.setTop (mkF m 5 #[.val (.ref ra0), .val (.int (6 : Int32))] [(.int (6 : Int32)), (.ref uo1)])) _
    refine X101.aaload hx (j := (6 : Int32)) (v := (.ref uo8)) (by rw [e101]; exact Ar102.1) (State.isArrayOf_alike hZ.alike Ar102.2.1) rfl Ar102.2.2 hin102 (Hh102.at hin102 (rfl)) (g := (mkF m 5 #[.val (.ref ra0), .val (.int (6 : Int32))] [(.int (6 : Int32)), (.ref uo1)])) rfl rfl (hb hby d3_5) _ ?_
    show Steps p.tables e below (T101.setTop (mkF m 6 #[.val (.ref ra0), .val (.int (6 : Int32))] [(.ref uo8)])) _
    jvm_step X101.here [X101.here.top, hx, (hb hby d3_6), X101.method', Bd.returns, Value.isRef, FieldType.isReference]
    first | (intro acts; rw [hr _ acts rfl rfl rfl]) | rw [hr _ _ rfl rfl rfl]
    exact Steps.refl _
  · show Q3x42 Z ra0 uo1 uo2 uo3 uo4 uo5 uo6 uo7 uo8 uk9 h0 n0 _ T101.heap _
    rw [e101]
    exact ⟨rfl, N0, rfl⟩
theorem d1_0 : decode prog_20_method_5_code 0 = .ok (.getstatic 52, 3) := by decide +kernel
theorem d1_3 : decode prog_20_method_5_code 3 = .ok (.getstatic 52, 3) := by decide +kernel
theorem d1_6 : decode prog_20_method_5_code 6 = .ok (.invokeinterface 76 1, 5) := by decide +kernel
theorem d1_11 : decode prog_20_method_5_code 11 = .ok (.iconst 1, 1) := by decide +kernel
theorem d1_12 : decode prog_20_method_5_code 12 = .ok (.isub, 1) := by decide +kernel
theorem d1_13 : decode prog_20_method_5_code 13 = .ok (.invokeinterface 80 2, 5) := by decide +kernel
theorem d1_18 : decode prog_20_method_5_code 18 = .ok (.checkcast 1, 3) := by decide +kernel
theorem d1_21 : decode prog_20_method_5_code 21 = .ok (.getfield 44, 3) := by decide +kernel
theorem d1_24 : decode prog_20_method_5_code 24 = .ok (.ireturn, 1) := by decide +kernel
theorem ef_1x40 (m : MethodId)  : entryFrame m #[] 0 = mkF m 0 #[] [] := by first | (simp [entryFrame, mkF, argsToLocals, Value.category]; done) | rfl
def Q1x40 (Z : State) (uo1 : Addr) (uo2 : Addr) (uo3 : Addr) (uo4 : Addr) (uo5 : Addr) (uo6 : Addr) (uo7 : Addr) (uo8 : Addr) (uo9 : Addr) (uk10 : ClassId) (h0 : Heap) (n0 : Nat) (v : Option Value) (h : Heap) (L : List Loc) : Prop := v = some (.int (50 : Int32)) ∧ Fr n0 L ∧ h = h0
set_option maxRecDepth 65536 in
set_option maxHeartbeats 40000000 in
theorem rm1x40 (l : Launch) (Z : State) (a0 : Array Value) (hw : ∀ d ∈ tables_1, d.before a0 Z = true) (ws : List Jvm.Cond) (uo1 : Addr) (uo2 : Addr) (uo3 : Addr) (uo4 : Addr) (uo5 : Addr) (uo6 : Addr) (uo7 : Addr) (uo8 : Addr) (uo9 : Addr) (uk10 : ClassId) (h0 : Heap) (n0 : Nat) (Z0 : n0 ≤ h0.size) (H0 : Sta Z h0 "com/example/ghostseat/ghostseat/modes/comics/Title" "HIGHEST_FIRST" "Ljava/util/List;" (.ref uo1)) (H1 : Exa Z h0 uo1 "java/util/ImmutableCollections$ListN") (H2 : Fld Z h0 uo1 "java/util/ImmutableCollections$ListN" "elements" "[Ljava/lang/Object;" (.ref uo2)) (H3 : Arv Z h0 uo2 uk10 (.object "java/lang/Object") (7 : Int32) [(.ref uo3), (.ref uo4), (.ref uo5), (.ref uo6), (.ref uo7), (.ref uo8), (.ref uo9)] .null) (H4 : Exa Z h0 uo9 "com/example/ghostseat/ghostseat/modes/comics/Title") (H5 : Fld Z h0 uo9 "com/example/ghostseat/ghostseat/modes/comics/Title" "least" "I" (.int (50 : Int32))) :
    MetFree l (⟨"com/example/ghostseat/ghostseat/modes/comics/Title", "leastForATitle", "()I"⟩ : MethodName) (head1 (Jvm.Cond.code (⟨"com/example/ghostseat/ghostseat/modes/comics/Title", "leastForATitle", "()I"⟩ : MethodName) prog_20_method_5_code 0 (some .int) :: ws) ({ frames := 1, cells := 0, slots := 0, locals := 13 } : Room)) (fun a U => a = #[] ∧ Z.Warmed39 U.vm ∧ U.heap = h0) (fun _ _ _ _ _ => True) (fun _ U o U' => ∃ v L, o = .returned v ∧ Q1x40 Z uo1 uo2 uo3 uo4 uo5 uo6 uo7 uo8 uo9 uk10 h0 n0 v U'.heap L ∧ FrameEnd U o U' L ({ frames := 1, cells := 0, slots := 0, locals := 13 } : Room).cells ({ frames := 1, cells := 0, slots := 0, locals := 13 } : Room).slots) := by
  refine MetFree.of_bodySF (plainFor_of_name pn_com_example_ghostseat_ghostseat_modes_comics_Title) hisR ?_
  intro p e s m args below meth c s₁ Bd hml0 hP hK
  obtain ⟨rfl, hZ, hh⟩ := hP
  have hx := Bd.exec
  have hby := Bd.bytes
  have hml : c.maxLocals = 0 := hml0
  have hown : s.vm.findClass "com/example/ghostseat/ghostseat/modes/comics/Title" = some m.cls := findClass_of_methodNamed Bd.named
  have hnm := (name_of_methodNamed Bd.named Bd.method).1
  have X0 : Stand p l e ({ frames := 1, cells := 0, slots := 0, locals := 13 } : Room) s m #[] below meth c s₁ [] 0 0 := Stand.of_body Bd
  have e0 : s₁.heap = h0 := by rw [← hh, Bd.state]; rfl
  have N0 := Fr.nil n0
  have pre0 : ∀ t, Steps p.tables e below (s₁.setTop (mkF m 0 #[] [])) t → Steps p.tables e below (s₁.setTop (entryFrame m #[] 0)) t := fun t k => castTop (ef_1x40 m ) k
  obtain ⟨T101, X101, e101, st101⟩ := getS2 X0 hx hZ hown (host := "") (Or.inl (hw _ (List.mem_of_getElem? (i := 4) rfl))) Via.refl e0 H0 (g := (mkF m 0 #[] [])) rfl (hb hby d1_0)
  obtain ⟨T102, X102, e102, st102⟩ := getS2 X101 hx hZ hown (host := "") (Or.inl (hw _ (List.mem_of_getElem? (i := 4) rfl))) Via.refl e101 H0 (g := (mkF m 3 #[] [(.ref uo1)])) rfl (hb hby d1_3)
  obtain ⟨cq103, kq103, q103a, q103b, q103c⟩ := isOf hZ e102 H1
  obtain ⟨_, _, ⟨T103, L103, k103, n103⟩, -, X103, ⟨Lc103, hQ103, l103, y103, z103⟩, st103⟩ := X102.interfaceBack hx (xi := (⟨"java/util/List", "size", "()I"⟩ : MethodName)) (y := (⟨"java/util/ImmutableCollections$ListN", "size", "()I"⟩ : MethodName)) hown (mvT hZ (hw _ (List.mem_of_getElem? (i := 6) rfl))) (mvT hZ (hw _ (List.mem_of_getElem? (i := 7) rfl))) (mvT hZ (hw _ (List.mem_of_getElem? (i := 8) rfl))) (mvT hZ (hw _ (List.mem_of_getElem? (i := 9) rfl))) (mvT hZ (hw _ (List.mem_of_getElem? (i := 10) rfl))) (mvT hZ (hw _ (List.mem_of_getElem? (i := 11) rfl))) (mvT hZ (hw _ (List.mem_of_getElem? (i := 12) rfl))) (mvT hZ (hw _ (List.mem_of_getElem? (i := 13) rfl))) (by decide) (backOf (W := 1) (rm2x41 l Z a0 hw [] uo1 uo2 uo3 uo4 uo5 uo6 uo7 uo8 uo9 uk10 h0 n0 Z0 H2 H3) hZ (hw _ (List.mem_of_getElem? (i := 15) rfl)) (hw _ (List.mem_of_getElem? (i := 14) rfl)) (by decide) (by decide)) q103a q103b q103c (g := (mkF m 6 #[] [(.ref uo1), (.ref uo1)])) rfl (by rw [hml]; rfl) (Steps.refl _) (argsL := []) (rest := [(.ref uo1)]) (lenOf pd_0 rfl) rfl (by show 2 * 0 + _ ≤ _; exact Nat.le_of_eq rfl) (hb hby d1_6) (fun _ _ => ⟨rfl, e102, (by decide : 0 + 0 ≤ _), (by decide : 0 + 0 ≤ _)⟩)
  dsimp only [Pt.U, Pt.locs, Pt.cells, Pt.slots] at X103 l103 y103 z103 st103 hQ103
  subst l103 y103 z103
  obtain ⟨rfl, Nq103, Heq103⟩ := hQ103
  have N103 := Fr.app N0 Nq103
  obtain ⟨cq104, kq104, q104a, q104b, q104c⟩ := isOf hZ Heq103 H1
  obtain ⟨_, _, ⟨T104, L104, k104, n104⟩, -, X104, ⟨Lc104, hQ104, l104, y104, z104⟩, st104⟩ := X103.interfaceBack hx (xi := (⟨"java/util/List", "get", "(I)Ljava/lang/Object;"⟩ : MethodName)) (y := (⟨"java/util/ImmutableCollections$ListN", "get", "(I)Ljava/lang/Object;"⟩ : MethodName)) hown (mvT hZ (hw _ (List.mem_of_getElem? (i := 18) rfl))) (mvT hZ (hw _ (List.mem_of_getElem? (i := 19) rfl))) (mvT hZ (hw _ (List.mem_of_getElem? (i := 20) rfl))) (mvT hZ (hw _ (List.mem_of_getElem? (i := 21) rfl))) (mvT hZ (hw _ (List.mem_of_getElem? (i := 22) rfl))) (mvT hZ (hw _ (List.mem_of_getElem? (i := 23) rfl))) (mvT hZ (hw _ (List.mem_of_getElem? (i := 24) rfl))) (mvT hZ (hw _ (List.mem_of_getElem? (i := 13) rfl))) (by decide) (backOf (W := 0) (rm3x42 l Z a0 hw [] uo1 uo2 uo3 uo4 uo5 uo6 uo7 uo8 uo9 uk10 h0 n0 Z0 H2 H3) hZ (hw _ (List.mem_of_getElem? (i := 25) rfl)) (hw _ (List.mem_of_getElem? (i := 14) rfl)) (by decide) (by decide)) q104a q104b q104c (g := (mkF m 13 #[] [(.int (6 : Int32)), (.ref uo1)])) rfl (by rw [hml]; rfl) (Steps.refl _) (argsL := [(.int (6 : Int32))]) (rest := []) (lenOf pd_14 rfl) rfl (by show 2 * 0 + _ ≤ _; exact Nat.le_of_eq rfl) (hb hby d1_13) (fun _ _ => ⟨rfl, Heq103, (by decide : 0 + 0 ≤ _), (by decide : 0 + 0 ≤ _)⟩)
  dsimp only [Pt.U, Pt.locs, Pt.cells, Pt.slots] at X104 l104 y104 z104 st104 hQ104
  subst l104 y104 z104
  obtain ⟨rfl, Nq104, Heq104⟩ := hQ104
  have N104 := Fr.app N103 Nq104
  obtain ⟨T105, X105, e105, st105⟩ := castY X104 hx hZ hown (hw _ (List.mem_of_getElem? (i := 27) rfl)) Heq104 (Ins.self H4) (g := (mkF m 18 #[] [(.ref uo9)])) rfl rfl (hb hby d1_18)
  obtain ⟨T106, X106, e106, st106⟩ := getF X105 hx hZ hown (host := "") (Or.inl (hw _ (List.mem_of_getElem? (i := 29) rfl))) Via.refl e105 H5 (g := (mkF m 21 #[] [(.ref uo9)])) rfl rfl (hb hby d1_21)
  obtain ⟨fs, hr, hrun, hended, hW, hsame⟩ := X106.leave (v := some (.int (50 : Int32))) (fun h => by rw [Bd.returns] at h; cases h)
  refine ⟨_, _, pre0 _ ?_, hrun, hended, _, _, rfl, ?_, ⟨_, rfl⟩, hW, hsame.mono (by decide) (by decide)⟩
  · skip
    show Steps p.tables e below (s₁.setTop (mkF m 0 #[] [])) _
    refine st101 _ ?_
    show Steps p.tables e below (T101.setTop (mkF m 3 #[] [(.ref uo1)])) _
    refine st102 _ ?_
    show Steps p.tables e below (T102.setTop (mkF m 6 #[] [(.ref uo1), (.ref uo1)])) _
    refine st103.trans ?_
    show Steps p.tables e below (T103.setTop (mkF m 11 #[] [(.int (7 : Int32)), (.ref uo1)])) _
    refine XS.iconst X103.here hx rfl (hb hby d1_11) ?_
    show Steps p.tables e below (T103.setTop (mkF m 12 #[] [(.int (1 : Int32)), (.int (7 : Int32)), (.ref uo1)])) _
    refine XS.isub X103.here hx rfl (hb hby d1_12) rfl ?_
    show Steps p.tables e below (T103.setTop (mkF m 13 #[] [(.int ((7 : Int32) - (1 : Int32))), (.ref uo1)])) _
    rw [show ((7 : Int32) - (1 : Int32)) = (6 : Int32) from by decide]
    show Steps p.tables e below (T103.setTop (mkF m 13 #[] [(.int (6 : Int32)), (.ref uo1)])) _
    refine st104.trans ?_
    show Steps p.tables e below (T104.setTop (mkF m 18 #[] [(.ref uo9)])) _
    refine st105 _ ?_
    show Steps p.tables e below (T105.setTop (mkF m 21 #[] [(.ref uo9)])) _
    refine st106 _ ?_
    show Steps p.tables e below (T106.setTop (mkF m 24 #[] [(.int (50 : Int32))])) _
    exact retI X106 hx Bd.returns (hb hby d1_24) hr
  · show Q1x40 Z uo1 uo2 uo3 uo4 uo5 uo6 uo7 uo8 uo9 uk10 h0 n0 _ T106.heap _
    rw [e106]
    exact ⟨rfl, N104, rfl⟩
theorem ef_18x44 (m : MethodId) (ra0 : Addr) : entryFrame m #[(.ref ra0)] 1 = mkF m 0 #[.val (.ref ra0)] [] := by first | (simp [entryFrame, mkF, argsToLocals, Value.category]; done) | rfl
def Q18x44 (Z : State) (ra0 : Addr) (ui1 : Int32) (h0 : Heap) (n0 : Nat) (v : Option Value) (h : Heap) (L : List Loc) : Prop := v = some (.int (0 : Int32)) ∧ Fr n0 L ∧ h = h0
set_option maxRecDepth 65536 in
set_option maxHeartbeats 40000000 in
theorem rm18x44 (l : Launch) (Z : State) (a0 : Array Value) (hw : ∀ d ∈ tables_1, d.before a0 Z = true) (ws : List Jvm.Cond) (ra0 : Addr) (ui1 : Int32) (h0 : Heap) (n0 : Nat) (Z0 : n0 ≤ h0.size) (H0 : Sta Z h0 "java/lang/String" "COMPACT_STRINGS" "Z" (.int ui1)) (H1 : ¬ (ui1 = (0 : Int32))) (H2 : Fld Z h0 ra0 "java/lang/String" "coder" "B" (.int (0 : Int32))) :
    MetFree l (⟨"java/lang/String", "coder", "()B"⟩ : MethodName) (head1 (Jvm.Cond.code (⟨"java/lang/String", "coder", "()B"⟩ : MethodName) jdk_42_method_152_code 1 (some .byte) :: ws) ({ frames := 0, cells := 0, slots := 0, locals := 0 } : Room)) (fun a U => a = #[(.ref ra0)] ∧ Z.Warmed39 U.vm ∧ U.heap = h0) (fun _ _ _ _ _ => True) (fun _ U o U' => ∃ v L, o = .returned v ∧ Q18x44 Z ra0 ui1 h0 n0 v U'.heap L ∧ FrameEnd U o U' L ({ frames := 0, cells := 0, slots := 0, locals := 0 } : Room).cells ({ frames := 0, cells := 0, slots := 0, locals := 0 } : Room).slots) := by
  refine MetFree.of_bodySF (plainFor_of_name pn_java_lang_String) hisR ?_
  intro p e s m args below meth c s₁ Bd hml0 hP hK
  obtain ⟨rfl, hZ, hh⟩ := hP
  have hx := Bd.exec
  have hby := Bd.bytes
  have hml : c.maxLocals = 1 := hml0
  have hown : s.vm.findClass "java/lang/String" = some m.cls := findClass_of_methodNamed Bd.named
  have hnm := (name_of_methodNamed Bd.named Bd.method).1
  have X0 : Stand p l e ({ frames := 0, cells := 0, slots := 0, locals := 0 } : Room) s m #[(.ref ra0)] below meth c s₁ [] 0 0 := Stand.of_body Bd
  have e0 : s₁.heap = h0 := by rw [← hh, Bd.state]; rfl
  have N0 := Fr.nil n0
  have pre0 : ∀ t, Steps p.tables e below (s₁.setTop (mkF m 0 #[.val (.ref ra0)] [])) t → Steps p.tables e below (s₁.setTop (entryFrame m #[(.ref ra0)] 1)) t := fun t k => castTop (ef_18x44 m ra0) k
  obtain ⟨T101, X101, e101, st101⟩ := getS2 X0 hx hZ hown (host := "") (Or.inl (hw _ (List.mem_of_getElem? (i := 125) rfl))) Via.refl e0 H0 (g := (mkF m 0 #[.val (.ref ra0)] [])) rfl (hb hby d18_0)
  obtain ⟨T102, X102, e102, st102⟩ := getF X101 hx hZ hown (host := "") (Or.inl (hw _ (List.mem_of_getElem? (i := 126) rfl))) Via.refl e101 H2 (g := (mkF m 7 #[.val (.ref ra0)] [(.ref ra0)])) rfl rfl (hb hby d18_7)
  obtain ⟨fs, hr, hrun, hended, hW, hsame⟩ := X102.leave (v := some (.int (0 : Int32))) (fun h => by rw [Bd.returns] at h; cases h)
  refine ⟨_, _, pre0 _ ?_, hrun, hended, _, _, rfl, ?_, ⟨_, rfl⟩, hW, hsame.mono (by decide) (by decide)⟩
  · skip
    show Steps p.tables e below (s₁.setTop (mkF m 0 #[.val (.ref ra0)] [])) _
    refine st101 _ ?_
    show Steps p.tables e below (T101.setTop (mkF m 3 #[.val (.ref ra0)] [(.int ui1)])) _
    refine XS.ifNo X101.here hx rfl (hb hby d18_3) rfl ((if0 _ _).trans (feq (H1 : ¬ (ui1 = (0 : Int32)))).1) ?_
    show Steps p.tables e below (T101.setTop (mkF m 6 #[.val (.ref ra0)] [])) _
    refine XS.aloadN X101.here hx rfl (hb hby d18_6) rfl rfl ?_
    show Steps p.tables e below (T101.setTop (mkF m 7 #[.val (.ref ra0)] [(.ref ra0)])) _
    refine st102 _ ?_
    show Steps p.tables e below (T102.setTop (mkF m 10 #[.val (.ref ra0)] [(.int (0 : Int32))])) _
    refine XS.goto X102.here hx rfl (pc0 := 10) (pc' := 14) rfl (hb hby d18_10) (by decide) (by decide) ?_
    show Steps p.tables e below (T102.setTop (mkF m 14 #[.val (.ref ra0)] [(.int (0 : Int32))])) _
    exact retN X102 hx (t := .byte) Bd.returns (by simp) (hb hby d18_14) hr
  · show Q18x44 Z ra0 ui1 h0 n0 _ T102.heap _
    rw [e102]
    exact ⟨rfl, N0, rfl⟩
theorem ef_17x43 (m : MethodId) (ra0 : Addr) : entryFrame m #[(.ref ra0)] 1 = mkF m 0 #[.val (.ref ra0)] [] := by first | (simp [entryFrame, mkF, argsToLocals, Value.category]; done) | rfl
def Q17x43 (Z : State) (ra0 : Addr) (uo1 : Addr) (uk2 : ClassId) (ui3 : Int32) (h0 : Heap) (n0 : Nat) (v : Option Value) (h : Heap) (L : List Loc) : Prop := v = some (.int (5 : Int32)) ∧ Fr n0 L ∧ h = h0
set_option maxRecDepth 65536 in
set_option maxHeartbeats 40000000 in
theorem rm17x43 (l : Launch) (Z : State) (a0 : Array Value) (hw : ∀ d ∈ tables_1, d.before a0 Z = true) (ws : List Jvm.Cond) (ra0 : Addr) (uo1 : Addr) (uk2 : ClassId) (ui3 : Int32) (h0 : Heap) (n0 : Nat) (Z0 : n0 ≤ h0.size) (H0 : Fld Z h0 ra0 "java/lang/String" "value" "[B" (.ref uo1)) (H1 : Arv Z h0 uo1 uk2 .byte (5 : Int32) [(.int (53 : Int32)), (.int (48 : Int32)), (.int (45 : Int32)), (.int (53 : Int32)), (.int (57 : Int32))] (.int (0 : Int32))) (H2 : Exa Z h0 ra0 "java/lang/String") (H3 : Sta Z h0 "java/lang/String" "COMPACT_STRINGS" "Z" (.int ui3)) (H4 : ¬ (ui3 = (0 : Int32))) (H5 : Fld Z h0 ra0 "java/lang/String" "coder" "B" (.int (0 : Int32))) :
    MetFree l (⟨"java/lang/String", "length", "()I"⟩ : MethodName) (head1 (Jvm.Cond.code (⟨"java/lang/String", "length", "()I"⟩ : MethodName) jdk_42_method_54_code 1 (some .int) :: ws) ({ frames := 1, cells := 0, slots := 0, locals := 13 } : Room)) (fun a U => a = #[(.ref ra0)] ∧ Z.Warmed39 U.vm ∧ U.heap = h0) (fun _ _ _ _ _ => True) (fun _ U o U' => ∃ v L, o = .returned v ∧ Q17x43 Z ra0 uo1 uk2 ui3 h0 n0 v U'.heap L ∧ FrameEnd U o U' L ({ frames := 1, cells := 0, slots := 0, locals := 13 } : Room).cells ({ frames := 1, cells := 0, slots := 0, locals := 13 } : Room).slots) := by
  refine MetFree.of_bodySF (plainFor_of_name pn_java_lang_String) hisR ?_
  intro p e s m args below meth c s₁ Bd hml0 hP hK
  obtain ⟨rfl, hZ, hh⟩ := hP
  have hx := Bd.exec
  have hby := Bd.bytes
  have hml : c.maxLocals = 1 := hml0
  have hown : s.vm.findClass "java/lang/String" = some m.cls := findClass_of_methodNamed Bd.named
  have hnm := (name_of_methodNamed Bd.named Bd.method).1
  have X0 : Stand p l e ({ frames := 1, cells := 0, slots := 0, locals := 13 } : Room) s m #[(.ref ra0)] below meth c s₁ [] 0 0 := Stand.of_body Bd
  have e0 : s₁.heap = h0 := by rw [← hh, Bd.state]; rfl
  have N0 := Fr.nil n0
  have pre0 : ∀ t, Steps p.tables e below (s₁.setTop (mkF m 0 #[.val (.ref ra0)] [])) t → Steps p.tables e below (s₁.setTop (entryFrame m #[(.ref ra0)] 1)) t := fun t k => castTop (ef_17x43 m ra0) k
  obtain ⟨T101, X101, e101, st101⟩ := getF X0 hx hZ hown (host := "") (Or.inl (hw _ (List.mem_of_getElem? (i := 119) rfl))) Via.refl e0 H0 (g := (mkF m 1 #[.val (.ref ra0)] [(.ref ra0)])) rfl rfl (hb hby d17_1)
  obtain ⟨cl102, Ar102, -, S102, M102, -, -⟩ := id H1
  obtain ⟨cq103, kq103, q103a, q103b, q103c⟩ := isOf hZ e101 H2
  obtain ⟨_, _, ⟨T103, L103, k103, n103⟩, -, X103, ⟨Lc103, hQ103, l103, y103, z103⟩, st103⟩ := X101.virtualBack hx (y := (⟨"java/lang/String", "coder", "()B"⟩ : MethodName)) (z := (⟨"java/lang/String", "coder", "()B"⟩ : MethodName)) hown (mvT hZ (hw _ (List.mem_of_getElem? (i := 120) rfl))) (mvT hZ (hw _ (List.mem_of_getElem? (i := 121) rfl))) (notFace_of_selects (args := #[]) (mvT hZ (hw _ (List.mem_of_getElem? (i := 123) rfl)))) (mvT hZ (hw _ (List.mem_of_getElem? (i := 123) rfl))) (mvT hZ (hw _ (List.mem_of_getElem? (i := 122) rfl))) (by decide) (backOf (W := 1) (rm18x44 l Z a0 hw [] ra0 ui3 h0 n0 Z0 H3 H4 H5) hZ (hw _ (List.mem_of_getElem? (i := 124) rfl)) (hw _ (List.mem_of_getElem? (i := 62) rfl)) (by decide) (by decide)) q103a q103c (g := (mkF m 6 #[.val (.ref ra0)] [(.ref ra0), (.int (5 : Int32))])) rfl (by rw [hml]; rfl) (Steps.refl _) (argsL := []) (rest := [(.int (5 : Int32))]) (lenOf pd_8 rfl) rfl (by show 2 * 0 + _ ≤ _; exact Nat.le_of_eq rfl) (hb hby d17_6) (fun _ _ => ⟨rfl, e101, (by decide : 0 + 0 ≤ _), (by decide : 0 + 0 ≤ _)⟩)
  dsimp only [Pt.U, Pt.locs, Pt.cells, Pt.slots] at X103 l103 y103 z103 st103 hQ103
  subst l103 y103 z103
  obtain ⟨rfl, Nq103, Heq103⟩ := hQ103
  have N103 := Fr.app N0 Nq103
  obtain ⟨fs, hr, hrun, hended, hW, hsame⟩ := X103.leave (v := some (.int (5 : Int32))) (fun h => by rw [Bd.returns] at h; cases h)
  refine ⟨_, _, pre0 _ ?_, hrun, hended, _, _, rfl, ?_, ⟨_, rfl⟩, hW, hsame.mono (by decide) (by decide)⟩
  · skip
    show Steps p.tables e below (s₁.setTop (mkF m 0 #[.val (.ref ra0)] [])) _
    refine XS.aloadN X0.here hx rfl (hb hby d17_0) rfl rfl ?_
    show Steps p.tables e below (s₁.setTop (mkF m 1 #[.val (.ref ra0)] [(.ref ra0)])) _
    refine st101 _ ?_
    show Steps p.tables e below (T101.setTop (mkF m 4 #[.val (.ref ra0)] [(.ref uo1)])) _
    refine X101.arraylength hx (by rw [e101]; exact Ar102.1) (State.isArrayOf_alike hZ.alike Ar102.2.1) (g := (mkF m 4 #[.val (.ref ra0)] [(.ref uo1)])) rfl rfl (hb hby d17_4) _ ?_
    rw [len_of S102 M102]
    show Steps p.tables e below (T101.setTop (mkF m 5 #[.val (.ref ra0)] [(.int (5 : Int32))])) _
    refine XS.aloadN X101.here hx rfl (hb hby d17_5) rfl rfl ?_
    show Steps p.tables e below (T101.setTop (mkF m 6 #[.val (.ref ra0)] [(.ref ra0), (.int (5 : Int32))])) _
    refine st103.trans ?_
    show Steps p.tables e below (T103.setTop (mkF m 9 #[.val (.ref ra0)] [(.int (0 : Int32)), (.int (5 : Int32))])) _
    refine XS.ishr X103.here hx rfl (hb hby d17_9) rfl ?_
    show Steps p.tables e below (T103.setTop (mkF m 10 #[.val (.ref ra0)] [(.int ((5 : Int32) >>> ((0 : Int32) &&& 31)))])) _
    rw [show ((5 : Int32) >>> ((0 : Int32) &&& 31)) = (5 : Int32) from by decide]
    show Steps p.tables e below (T103.setTop (mkF m 10 #[.val (.ref ra0)] [(.int (5 : Int32))])) _
    exact retI X103 hx Bd.returns (hb hby d17_10) hr
  · show Q17x43 Z ra0 uo1 uk2 ui3 h0 n0 _ T103.heap _
    rw [Heq103]
    exact ⟨rfl, N103, rfl⟩
theorem d33_0 : decode jdk_42_method_154_code 0 = .ok (.getstatic 38, 3) := by decide +kernel
theorem d33_3 : decode jdk_42_method_154_code 3 = .ok (.ifCond .eq 14, 3) := by decide +kernel
theorem d33_6 : decode jdk_42_method_154_code 6 = .ok (.aload_n 0, 1) := by decide +kernel
theorem d33_7 : decode jdk_42_method_154_code 7 = .ok (.getfield 15, 3) := by decide +kernel
theorem d33_10 : decode jdk_42_method_154_code 10 = .ok (.ifCond .ne 7, 3) := by decide +kernel
theorem d33_13 : decode jdk_42_method_154_code 13 = .ok (.iconst 1, 1) := by decide +kernel
theorem d33_14 : decode jdk_42_method_154_code 14 = .ok (.goto 4, 3) := by decide +kernel
theorem d33_18 : decode jdk_42_method_154_code 18 = .ok (.ireturn, 1) := by decide +kernel
theorem ef_33x46 (m : MethodId) (ra0 : Addr) : entryFrame m #[(.ref ra0)] 1 = mkF m 0 #[.val (.ref ra0)] [] := by first | (simp [entryFrame, mkF, argsToLocals, Value.category]; done) | rfl
def Q33x46 (Z : State) (ra0 : Addr) (ui1 : Int32) (h0 : Heap) (n0 : Nat) (v : Option Value) (h : Heap) (L : List Loc) : Prop := v = some (.int (1 : Int32)) ∧ Fr n0 L ∧ h = h0
set_option maxRecDepth 65536 in
set_option maxHeartbeats 40000000 in
theorem rm33x46 (l : Launch) (Z : State) (a0 : Array Value) (hw : ∀ d ∈ tables_1, d.before a0 Z = true) (ws : List Jvm.Cond) (ra0 : Addr) (ui1 : Int32) (h0 : Heap) (n0 : Nat) (Z0 : n0 ≤ h0.size) (H0 : Sta Z h0 "java/lang/String" "COMPACT_STRINGS" "Z" (.int ui1)) (H1 : ¬ (ui1 = (0 : Int32))) (H2 : Fld Z h0 ra0 "java/lang/String" "coder" "B" (.int (0 : Int32))) :
    MetFree l (⟨"java/lang/String", "isLatin1", "()Z"⟩ : MethodName) (head1 (Jvm.Cond.code (⟨"java/lang/String", "isLatin1", "()Z"⟩ : MethodName) jdk_42_method_154_code 1 (some .boolean) :: ws) ({ frames := 0, cells := 0, slots := 0, locals := 0 } : Room)) (fun a U => a = #[(.ref ra0)] ∧ Z.Warmed39 U.vm ∧ U.heap = h0) (fun _ _ _ _ _ => True) (fun _ U o U' => ∃ v L, o = .returned v ∧ Q33x46 Z ra0 ui1 h0 n0 v U'.heap L ∧ FrameEnd U o U' L ({ frames := 0, cells := 0, slots := 0, locals := 0 } : Room).cells ({ frames := 0, cells := 0, slots := 0, locals := 0 } : Room).slots) := by
  refine MetFree.of_bodySF (plainFor_of_name pn_java_lang_String) hisR ?_
  intro p e s m args below meth c s₁ Bd hml0 hP hK
  obtain ⟨rfl, hZ, hh⟩ := hP
  have hx := Bd.exec
  have hby := Bd.bytes
  have hml : c.maxLocals = 1 := hml0
  have hown : s.vm.findClass "java/lang/String" = some m.cls := findClass_of_methodNamed Bd.named
  have hnm := (name_of_methodNamed Bd.named Bd.method).1
  have X0 : Stand p l e ({ frames := 0, cells := 0, slots := 0, locals := 0 } : Room) s m #[(.ref ra0)] below meth c s₁ [] 0 0 := Stand.of_body Bd
  have e0 : s₁.heap = h0 := by rw [← hh, Bd.state]; rfl
  have N0 := Fr.nil n0
  have pre0 : ∀ t, Steps p.tables e below (s₁.setTop (mkF m 0 #[.val (.ref ra0)] [])) t → Steps p.tables e below (s₁.setTop (entryFrame m #[(.ref ra0)] 1)) t := fun t k => castTop (ef_33x46 m ra0) k
  obtain ⟨T101, X101, e101, st101⟩ := getS2 X0 hx hZ hown (host := "") (Or.inl (hw _ (List.mem_of_getElem? (i := 125) rfl))) Via.refl e0 H0 (g := (mkF m 0 #[.val (.ref ra0)] [])) rfl (hb hby d33_0)
  obtain ⟨T102, X102, e102, st102⟩ := getF X101 hx hZ hown (host := "") (Or.inl (hw _ (List.mem_of_getElem? (i := 126) rfl))) Via.refl e101 H2 (g := (mkF m 7 #[.val (.ref ra0)] [(.ref ra0)])) rfl rfl (hb hby d33_7)
  obtain ⟨fs, hr, hrun, hended, hW, hsame⟩ := X102.leave (v := some (.int (1 : Int32))) (fun h => by rw [Bd.returns] at h; cases h)
  refine ⟨_, _, pre0 _ ?_, hrun, hended, _, _, rfl, ?_, ⟨_, rfl⟩, hW, hsame.mono (by decide) (by decide)⟩
  · skip
    show Steps p.tables e below (s₁.setTop (mkF m 0 #[.val (.ref ra0)] [])) _
    refine st101 _ ?_
    show Steps p.tables e below (T101.setTop (mkF m 3 #[.val (.ref ra0)] [(.int ui1)])) _
    refine XS.ifNo X101.here hx rfl (hb hby d33_3) rfl ((if0 _ _).trans (feq (H1 : ¬ (ui1 = (0 : Int32)))).1) ?_
    show Steps p.tables e below (T101.setTop (mkF m 6 #[.val (.ref ra0)] [])) _
    refine XS.aloadN X101.here hx rfl (hb hby d33_6) rfl rfl ?_
    show Steps p.tables e below (T101.setTop (mkF m 7 #[.val (.ref ra0)] [(.ref ra0)])) _
    refine st102 _ ?_
    show Steps p.tables e below (T102.setTop (mkF m 10 #[.val (.ref ra0)] [(.int (0 : Int32))])) _
    refine XS.ifNo X102.here hx rfl (hb hby d33_10) rfl ((if0 _ _).trans (teq (by decide : (0 : Int32) = (0 : Int32))).2) ?_
    show Steps p.tables e below (T102.setTop (mkF m 13 #[.val (.ref ra0)] [])) _
    refine XS.iconst X102.here hx rfl (hb hby d33_13) ?_
    show Steps p.tables e below (T102.setTop (mkF m 14 #[.val (.ref ra0)] [(.int (1 : Int32))])) _
    refine XS.goto X102.here hx rfl (pc0 := 14) (pc' := 18) rfl (hb hby d33_14) (by decide) (by decide) ?_
    show Steps p.tables e below (T102.setTop (mkF m 18 #[.val (.ref ra0)] [(.int (1 : Int32))])) _
    exact retN X102 hx (t := .boolean) Bd.returns (by simp) (hb hby d33_18) hr
  · show Q33x46 Z ra0 ui1 h0 n0 _ T102.heap _
    rw [e102]
    exact ⟨rfl, N0, rfl⟩
theorem d36_0 : decode jdk_41_method_11_code 0 = .ok (.iload_n 0, 1) := by decide +kernel
theorem d36_1 : decode jdk_41_method_11_code 1 = .ok (.ifCond .lt 8, 3) := by decide +kernel
theorem d36_4 : decode jdk_41_method_11_code 4 = .ok (.iload_n 0, 1) := by decide +kernel
theorem d36_5 : decode jdk_41_method_11_code 5 = .ok (.iload_n 1, 1) := by decide +kernel
theorem d36_6 : decode jdk_41_method_11_code 6 = .ok (.if_icmp .lt 10, 3) := by decide +kernel
theorem d36_16 : decode jdk_41_method_11_code 16 = .ok (.iload_n 0, 1) := by decide +kernel
theorem d36_17 : decode jdk_41_method_11_code 17 = .ok (.ireturn, 1) := by decide +kernel
theorem pn_jdk_internal_util_Preconditions : plainName "jdk/internal/util/Preconditions" = true := by first | (simp [plainName, overriddenIn]; done) | decide +kernel
theorem ef_36x49 (m : MethodId) (wv2 : Value) (hc_wv2 : wv2.category = 1) : entryFrame m #[(.int (0 : Int32)), (.int (5 : Int32)), wv2] 3 = mkF m 0 #[.val (.int (0 : Int32)), .val (.int (5 : Int32)), .val wv2] [] := by first | (simp [entryFrame, mkF, argsToLocals, own_catI, own_catJ, own_catR, own_catN, own_catD, hc_wv2]; done) | rfl
def Q36x49 (Z : State) (wv2 : Value) (h0 : Heap) (n0 : Nat) (v : Option Value) (h : Heap) (L : List Loc) : Prop := v = some (.int (0 : Int32)) ∧ Fr n0 L ∧ h = h0
set_option maxRecDepth 65536 in
set_option maxHeartbeats 40000000 in
theorem rm36x49 (l : Launch) (Z : State) (a0 : Array Value) (hw : ∀ d ∈ tables_1, d.before a0 Z = true) (ws : List Jvm.Cond) (wv2 : Value) (h0 : Heap) (n0 : Nat) (Z0 : n0 ≤ h0.size) (H0 : wv2.category = 1) :
    MetFree l (⟨"jdk/internal/util/Preconditions", "checkIndex", "(IILjava/util/function/BiFunction;)I"⟩ : MethodName) (head1 (Jvm.Cond.code (⟨"jdk/internal/util/Preconditions", "checkIndex", "(IILjava/util/function/BiFunction;)I"⟩ : MethodName) jdk_41_method_11_code 3 (some .int) :: ws) ({ frames := 0, cells := 0, slots := 0, locals := 0 } : Room)) (fun a U => a = #[(.int (0 : Int32)), (.int (5 : Int32)), wv2] ∧ Z.Warmed39 U.vm ∧ U.heap = h0) (fun _ _ _ _ _ => True) (fun _ U o U' => ∃ v L, o = .returned v ∧ Q36x49 Z wv2 h0 n0 v U'.heap L ∧ FrameEnd U o U' L ({ frames := 0, cells := 0, slots := 0, locals := 0 } : Room).cells ({ frames := 0, cells := 0, slots := 0, locals := 0 } : Room).slots) := by
  refine MetFree.of_bodySF (plainFor_of_name pn_jdk_internal_util_Preconditions) hisR ?_
  intro p e s m args below meth c s₁ Bd hml0 hP hK
  obtain ⟨rfl, hZ, hh⟩ := hP
  have hx := Bd.exec
  have hby := Bd.bytes
  have hml : c.maxLocals = 3 := hml0
  have hown : s.vm.findClass "jdk/internal/util/Preconditions" = some m.cls := findClass_of_methodNamed Bd.named
  have hnm := (name_of_methodNamed Bd.named Bd.method).1
  have X0 : Stand p l e ({ frames := 0, cells := 0, slots := 0, locals := 0 } : Room) s m #[(.int (0 : Int32)), (.int (5 : Int32)), wv2] below meth c s₁ [] 0 0 := Stand.of_body Bd
  have e0 : s₁.heap = h0 := by rw [← hh, Bd.state]; rfl
  have N0 := Fr.nil n0
  have pre0 : ∀ t, Steps p.tables e below (s₁.setTop (mkF m 0 #[.val (.int (0 : Int32)), .val (.int (5 : Int32)), .val wv2] [])) t → Steps p.tables e below (s₁.setTop (entryFrame m #[(.int (0 : Int32)), (.int (5 : Int32)), wv2] 3)) t := fun t k => castTop (ef_36x49 m wv2 H0) k
  obtain ⟨fs, hr, hrun, hended, hW, hsame⟩ := X0.leave (v := some (.int (0 : Int32))) (fun h => by rw [Bd.returns] at h; cases h)
  refine ⟨_, _, pre0 _ ?_, hrun, hended, _, _, rfl, ?_, ⟨_, rfl⟩, hW, hsame.mono (by decide) (by decide)⟩
  · skip
    show Steps p.tables e below (s₁.setTop (mkF m 0 #[.val (.int (0 : Int32)), .val (.int (5 : Int32)), .val wv2] [])) _
    refine XS.iloadN X0.here hx rfl (hb hby d36_0) rfl ?_
    show Steps p.tables e below (s₁.setTop (mkF m 1 #[.val (.int (0 : Int32)), .val (.int (5 : Int32)), .val wv2] [(.int (0 : Int32))])) _
    refine XS.ifNo X0.here hx rfl (hb hby d36_1) rfl ((if0 _ _).trans (flt (by decide : ¬ ((0 : Int32) < (0 : Int32)))).1) ?_
    show Steps p.tables e below (s₁.setTop (mkF m 4 #[.val (.int (0 : Int32)), .val (.int (5 : Int32)), .val wv2] [])) _
    refine XS.iloadN X0.here hx rfl (hb hby d36_4) rfl ?_
    show Steps p.tables e below (s₁.setTop (mkF m 5 #[.val (.int (0 : Int32)), .val (.int (5 : Int32)), .val wv2] [(.int (0 : Int32))])) _
    refine XS.iloadN X0.here hx rfl (hb hby d36_5) rfl ?_
    show Steps p.tables e below (s₁.setTop (mkF m 6 #[.val (.int (0 : Int32)), .val (.int (5 : Int32)), .val wv2] [(.int (5 : Int32)), (.int (0 : Int32))])) _
    refine XS.icmpYes X0.here hx rfl (pc0 := 6) (pc' := 16) rfl (hb hby d36_6) rfl (tlt (by decide : (0 : Int32) < (5 : Int32))).1 (by decide) (by decide) ?_
    show Steps p.tables e below (s₁.setTop (mkF m 16 #[.val (.int (0 : Int32)), .val (.int (5 : Int32)), .val wv2] [])) _
    refine XS.iloadN X0.here hx rfl (hb hby d36_16) rfl ?_
    show Steps p.tables e below (s₁.setTop (mkF m 17 #[.val (.int (0 : Int32)), .val (.int (5 : Int32)), .val wv2] [(.int (0 : Int32))])) _
    exact retI X0 hx Bd.returns (hb hby d36_17) hr
  · show Q36x49 Z wv2 h0 n0 _ s₁.heap _
    rw [e0]
    exact ⟨rfl, N0, rfl⟩
theorem d35_0 : decode jdk_42_method_155_code 0 = .ok (.iload_n 0, 1) := by decide +kernel
theorem d35_1 : decode jdk_42_method_155_code 1 = .ok (.iload_n 1, 1) := by decide +kernel
theorem d35_2 : decode jdk_42_method_155_code 2 = .ok (.getstatic 1053, 3) := by decide +kernel
theorem d35_5 : decode jdk_42_method_155_code 5 = .ok (.invokestatic 1059, 3) := by decide +kernel
theorem d35_8 : decode jdk_42_method_155_code 8 = .ok (.pop, 1) := by decide +kernel
theorem d35_9 : decode jdk_42_method_155_code 9 = .ok (.return_, 1) := by decide +kernel
theorem ef_35x48 (m : MethodId)  : entryFrame m #[(.int (0 : Int32)), (.int (5 : Int32))] 2 = mkF m 0 #[.val (.int (0 : Int32)), .val (.int (5 : Int32))] [] := by first | (simp [entryFrame, mkF, argsToLocals, Value.category]; done) | rfl
def Q35x48 (Z : State) (uv1 : Value) (h0 : Heap) (n0 : Nat) (v : Option Value) (h : Heap) (L : List Loc) : Prop := v = none ∧ Fr n0 L ∧ h = h0
set_option maxRecDepth 65536 in
set_option maxHeartbeats 40000000 in
theorem rm35x48 (l : Launch) (Z : State) (a0 : Array Value) (hw : ∀ d ∈ tables_1, d.before a0 Z = true) (ws : List Jvm.Cond) (uv1 : Value) (h0 : Heap) (n0 : Nat) (Z0 : n0 ≤ h0.size) (H0 : Sta Z h0 "jdk/internal/util/Preconditions" "SIOOBE_FORMATTER" "Ljava/util/function/BiFunction;" uv1) (H1 : uv1.category = 1) :
    MetFree l (⟨"java/lang/String", "checkIndex", "(II)V"⟩ : MethodName) (head1 (Jvm.Cond.code (⟨"java/lang/String", "checkIndex", "(II)V"⟩ : MethodName) jdk_42_method_155_code 2 none :: ws) ({ frames := 1, cells := 0, slots := 0, locals := 14 } : Room)) (fun a U => a = #[(.int (0 : Int32)), (.int (5 : Int32))] ∧ Z.Warmed39 U.vm ∧ U.heap = h0) (fun _ _ _ _ _ => True) (fun _ U o U' => ∃ v L, o = .returned v ∧ Q35x48 Z uv1 h0 n0 v U'.heap L ∧ FrameEnd U o U' L ({ frames := 1, cells := 0, slots := 0, locals := 14 } : Room).cells ({ frames := 1, cells := 0, slots := 0, locals := 14 } : Room).slots) := by
  refine MetFree.of_bodySF (plainFor_of_name pn_java_lang_String) hisR ?_
  intro p e s m args below meth c s₁ Bd hml0 hP hK
  obtain ⟨rfl, hZ, hh⟩ := hP
  have hx := Bd.exec
  have hby := Bd.bytes
  have hml : c.maxLocals = 2 := hml0
  have hown : s.vm.findClass "java/lang/String" = some m.cls := findClass_of_methodNamed Bd.named
  have hnm := (name_of_methodNamed Bd.named Bd.method).1
  have X0 : Stand p l e ({ frames := 1, cells := 0, slots := 0, locals := 14 } : Room) s m #[(.int (0 : Int32)), (.int (5 : Int32))] below meth c s₁ [] 0 0 := Stand.of_body Bd
  have e0 : s₁.heap = h0 := by rw [← hh, Bd.state]; rfl
  have N0 := Fr.nil n0
  have pre0 : ∀ t, Steps p.tables e below (s₁.setTop (mkF m 0 #[.val (.int (0 : Int32)), .val (.int (5 : Int32))] [])) t → Steps p.tables e below (s₁.setTop (entryFrame m #[(.int (0 : Int32)), (.int (5 : Int32))] 2)) t := fun t k => castTop (ef_35x48 m ) k
  obtain ⟨T101, X101, e101, st101⟩ := getS2 X0 hx hZ hown (host := "") (Or.inl (hw _ (List.mem_of_getElem? (i := 209) rfl))) Via.refl e0 H0 (g := (mkF m 2 #[.val (.int (0 : Int32)), .val (.int (5 : Int32))] [(.int (5 : Int32)), (.int (0 : Int32))])) rfl (hb hby d35_2)
  obtain ⟨_, _, ⟨T102, L102, k102, n102⟩, -, X102, ⟨Lc102, hQ102, l102, y102, z102⟩, st102⟩ := Jvm.LawKit.callS X101 hx (y := (⟨"jdk/internal/util/Preconditions", "checkIndex", "(IILjava/util/function/BiFunction;)I"⟩ : MethodName)) hown (mvT hZ (hw _ (List.mem_of_getElem? (i := 211) rfl))) (mvT hZ (hw _ (List.mem_of_getElem? (i := 212) rfl))) (mvT hZ (hw _ (List.mem_of_getElem? (i := 210) rfl))) (mvT hZ (hw _ (List.mem_of_getElem? (i := 213) rfl))) (by decide) (backOf (W := 0) (rm36x49 l Z a0 hw [] uv1 h0 n0 Z0 H1) hZ (hw _ (List.mem_of_getElem? (i := 213) rfl)) (hw _ (List.mem_of_getElem? (i := 210) rfl)) (by decide) (by decide)) (g := (mkF m 5 #[.val (.int (0 : Int32)), .val (.int (5 : Int32))] [uv1, (.int (5 : Int32)), (.int (0 : Int32))])) rfl (by rw [hml]; rfl) (argsL := [(.int (0 : Int32)), (.int (5 : Int32)), uv1]) (rest := []) (lenOf pd_23 rfl) rfl (by show 2 * 0 + _ ≤ _; exact Nat.le_of_eq rfl) (hb hby d35_5) (fun _ _ => ⟨rfl, e101, (by decide : 0 + 0 ≤ _), (by decide : 0 + 0 ≤ _)⟩)
  dsimp only [Pt.U, Pt.locs, Pt.cells, Pt.slots] at X102 l102 y102 z102 st102 hQ102
  subst l102 y102 z102
  obtain ⟨rfl, Nq102, Heq102⟩ := hQ102
  have N102 := Fr.app N0 Nq102
  obtain ⟨fs, hr, hrun, hended, hW, hsame⟩ := X102.leave (v := none) (fun _ => rfl)
  refine ⟨_, _, pre0 _ ?_, hrun, hended, _, _, rfl, ?_, ⟨_, rfl⟩, hW, hsame.mono (by decide) (by decide)⟩
  · skip
    show Steps p.tables e below (s₁.setTop (mkF m 0 #[.val (.int (0 : Int32)), .val (.int (5 : Int32))] [])) _
    refine XS.iloadN X0.here hx rfl (hb hby d35_0) rfl ?_
    show Steps p.tables e below (s₁.setTop (mkF m 1 #[.val (.int (0 : Int32)), .val (.int (5 : Int32))] [(.int (0 : Int32))])) _
    refine XS.iloadN X0.here hx rfl (hb hby d35_1) rfl ?_
    show Steps p.tables e below (s₁.setTop (mkF m 2 #[.val (.int (0 : Int32)), .val (.int (5 : Int32))] [(.int (5 : Int32)), (.int (0 : Int32))])) _
    refine st101 _ ?_
    show Steps p.tables e below (T101.setTop (mkF m 5 #[.val (.int (0 : Int32)), .val (.int (5 : Int32))] [uv1, (.int (5 : Int32)), (.int (0 : Int32))])) _
    refine st102 _ ?_
    show Steps p.tables e below (T102.setTop (mkF m 8 #[.val (.int (0 : Int32)), .val (.int (5 : Int32))] [(.int (0 : Int32))])) _
    refine XS.pop X102.here hx rfl (hb hby d35_8) rfl rfl ?_
    show Steps p.tables e below (T102.setTop (mkF m 9 #[.val (.int (0 : Int32)), .val (.int (5 : Int32))] [])) _
    exact X102.returnOut hx Bd.returns (hb hby d35_9) hr
  · show Q35x48 Z uv1 h0 n0 _ T102.heap _
    rw [Heq102]
    exact ⟨rfl, N102, rfl⟩
theorem d34_0 : decode jdk_43_method_2_code 0 = .ok (.iload_n 1, 1) := by decide +kernel
theorem d34_1 : decode jdk_43_method_2_code 1 = .ok (.aload_n 0, 1) := by decide +kernel
theorem d34_2 : decode jdk_43_method_2_code 2 = .ok (.arraylength, 1) := by decide +kernel
theorem d34_3 : decode jdk_43_method_2_code 3 = .ok (.invokestatic 9, 3) := by decide +kernel
theorem d34_6 : decode jdk_43_method_2_code 6 = .ok (.aload_n 0, 1) := by decide +kernel
theorem d34_7 : decode jdk_43_method_2_code 7 = .ok (.iload_n 1, 1) := by decide +kernel
theorem d34_8 : decode jdk_43_method_2_code 8 = .ok (.baload, 1) := by decide +kernel
theorem d34_9 : decode jdk_43_method_2_code 9 = .ok (.sipush 255, 3) := by decide +kernel
theorem d34_12 : decode jdk_43_method_2_code 12 = .ok (.iand, 1) := by decide +kernel
theorem d34_13 : decode jdk_43_method_2_code 13 = .ok (.i2c, 1) := by decide +kernel
theorem d34_14 : decode jdk_43_method_2_code 14 = .ok (.ireturn, 1) := by decide +kernel
theorem ef_34x47 (m : MethodId) (ra0 : Addr) : entryFrame m #[(.ref ra0), (.int (0 : Int32))] 2 = mkF m 0 #[.val (.ref ra0), .val (.int (0 : Int32))] [] := by first | (simp [entryFrame, mkF, argsToLocals, Value.category]; done) | rfl
def Q34x47 (Z : State) (ra0 : Addr) (uk1 : ClassId) (uv2 : Value) (h0 : Heap) (n0 : Nat) (v : Option Value) (h : Heap) (L : List Loc) : Prop := v = some (.int (53 : Int32)) ∧ Fr n0 L ∧ h = h0
set_option maxRecDepth 65536 in
set_option maxHeartbeats 40000000 in
theorem rm34x47 (l : Launch) (Z : State) (a0 : Array Value) (hw : ∀ d ∈ tables_1, d.before a0 Z = true) (ws : List Jvm.Cond) (ra0 : Addr) (uk1 : ClassId) (uv2 : Value) (h0 : Heap) (n0 : Nat) (Z0 : n0 ≤ h0.size) (H0 : Arv Z h0 ra0 uk1 .byte (5 : Int32) [(.int (53 : Int32)), (.int (48 : Int32)), (.int (45 : Int32)), (.int (53 : Int32)), (.int (57 : Int32))] (.int (0 : Int32))) (H1 : Sta Z h0 "jdk/internal/util/Preconditions" "SIOOBE_FORMATTER" "Ljava/util/function/BiFunction;" uv2) (H2 : uv2.category = 1) :
    MetFree l (⟨"java/lang/StringLatin1", "charAt", "([BI)C"⟩ : MethodName) (head1 (Jvm.Cond.code (⟨"java/lang/StringLatin1", "charAt", "([BI)C"⟩ : MethodName) jdk_43_method_2_code 2 (some .char) :: ws) ({ frames := 2, cells := 0, slots := 0, locals := 27 } : Room)) (fun a U => a = #[(.ref ra0), (.int (0 : Int32))] ∧ Z.Warmed39 U.vm ∧ U.heap = h0) (fun _ _ _ _ _ => True) (fun _ U o U' => ∃ v L, o = .returned v ∧ Q34x47 Z ra0 uk1 uv2 h0 n0 v U'.heap L ∧ FrameEnd U o U' L ({ frames := 2, cells := 0, slots := 0, locals := 27 } : Room).cells ({ frames := 2, cells := 0, slots := 0, locals := 27 } : Room).slots) := by
  refine MetFree.of_bodySF (plainFor_of_name pn_java_lang_StringLatin1) hisR ?_
  intro p e s m args below meth c s₁ Bd hml0 hP hK
  obtain ⟨rfl, hZ, hh⟩ := hP
  have hx := Bd.exec
  have hby := Bd.bytes
  have hml : c.maxLocals = 2 := hml0
  have hown : s.vm.findClass "java/lang/StringLatin1" = some m.cls := findClass_of_methodNamed Bd.named
  have hnm := (name_of_methodNamed Bd.named Bd.method).1
  have X0 : Stand p l e ({ frames := 2, cells := 0, slots := 0, locals := 27 } : Room) s m #[(.ref ra0), (.int (0 : Int32))] below meth c s₁ [] 0 0 := Stand.of_body Bd
  have e0 : s₁.heap = h0 := by rw [← hh, Bd.state]; rfl
  have N0 := Fr.nil n0
  have pre0 : ∀ t, Steps p.tables e below (s₁.setTop (mkF m 0 #[.val (.ref ra0), .val (.int (0 : Int32))] [])) t → Steps p.tables e below (s₁.setTop (entryFrame m #[(.ref ra0), (.int (0 : Int32))] 2)) t := fun t k => castTop (ef_34x47 m ra0) k
  obtain ⟨cl101, Ar101, -, S101, M101, -, -⟩ := id H0
  obtain ⟨_, _, ⟨T102, L102, k102, n102⟩, -, X102, ⟨Lc102, hQ102, l102, y102, z102⟩, st102⟩ := Jvm.LawKit.callS X0 hx (y := (⟨"java/lang/String", "checkIndex", "(II)V"⟩ : MethodName)) hown (mvT hZ (hw _ (List.mem_of_getElem? (i := 206) rfl))) (mvT hZ (hw _ (List.mem_of_getElem? (i := 207) rfl))) (mvT hZ (hw _ (List.mem_of_getElem? (i := 62) rfl))) (mvT hZ (hw _ (List.mem_of_getElem? (i := 208) rfl))) (by decide) (backOf (W := 0) (rm35x48 l Z a0 hw [] uv2 h0 n0 Z0 H1 H2) hZ (hw _ (List.mem_of_getElem? (i := 208) rfl)) (hw _ (List.mem_of_getElem? (i := 62) rfl)) (by decide) (by decide)) (g := (mkF m 3 #[.val (.ref ra0), .val (.int (0 : Int32))] [(.int (5 : Int32)), (.int (0 : Int32))])) rfl (by rw [hml]; rfl) (argsL := [(.int (0 : Int32)), (.int (5 : Int32))]) (rest := []) (lenOf pd_16 rfl) rfl (by show 2 * 0 + _ ≤ _; exact Nat.le_of_eq rfl) (hb hby d34_3) (fun _ _ => ⟨rfl, e0, (by decide : 0 + 0 ≤ _), (by decide : 0 + 0 ≤ _)⟩)
  dsimp only [Pt.U, Pt.locs, Pt.cells, Pt.slots] at X102 l102 y102 z102 st102 hQ102
  subst l102 y102 z102
  obtain ⟨rfl, Nq102, Heq102⟩ := hQ102
  have N102 := Fr.app N0 Nq102
  obtain ⟨cl103, Ar103, qc103, S103, M103, Hh103, G103⟩ := id H0
  have hin103 : ¬ ((0 : Int32) < 0 ∨ cl103.slots.size ≤ ((0 : Int32)).toNatClampNeg) := inb_of S103 ⟨by decide, by decide⟩
  obtain ⟨fs, hr, hrun, hended, hW, hsame⟩ := X102.leave (v := some (.int (53 : Int32))) (fun h => by rw [Bd.returns] at h; cases h)
  refine ⟨_, _, pre0 _ ?_, hrun, hended, _, _, rfl, ?_, ⟨_, rfl⟩, hW, hsame.mono (by decide) (by decide)⟩
  · skip
    show Steps p.tables e below (s₁.setTop (mkF m 0 #[.val (.ref ra0), .val (.int (0 : Int32))] [])) _
    refine XS.iloadN X0.here hx rfl (hb hby d34_0) rfl ?_
    show Steps p.tables e below (s₁.setTop (mkF m 1 #[.val (.ref ra0), .val (.int (0 : Int32))] [(.int (0 : Int32))])) _
    refine XS.aloadN X0.here hx rfl (hb hby d34_1) rfl rfl ?_
    show Steps p.tables e below (s₁.setTop (mkF m 2 #[.val (.ref ra0), .val (.int (0 : Int32))] [(.ref ra0), (.int (0 : Int32))])) _
    refine X0.arraylength hx (by rw [e0]; exact Ar101.1) (State.isArrayOf_alike hZ.alike Ar101.2.1) (g := (mkF m 2 #[.val (.ref ra0), .val (.int (0 : Int32))] [(.ref ra0), (.int (0 : Int32))])) rfl rfl (hb hby d34_2) _ ?_
    rw [len_of S101 M101]
    show Steps p.tables e below (s₁.setTop (mkF m 3 #[.val (.ref ra0), .val (.int (0 : Int32))] [(.int (5 : Int32)), (.int (0 : Int32))])) _
    refine st102 _ ?_
    show Steps p.tables e below (T102.setTop (mkF m 6 #[.val (.ref ra0), .val (.int (0 : Int32))] [])) _
    refine XS.aloadN X102.here hx rfl (hb hby d34_6) rfl rfl ?_
    show Steps p.tables e below (T102.setTop (mkF m 7 #[.val (.ref ra0), .val (.int (0 : Int32))] [(.ref ra0)])) _
    refine XS.iloadN X102.here hx rfl (hb hby d34_7) rfl ?_
    show Steps p.tables e below (T102.setTop (mkF m 8 #[.val (.ref ra0), .val (.int (0 : Int32))] [(.int (0 : Int32)), (.ref ra0)])) _
    refine X102.baloadBytes hx (j := (0 : Int32)) (v := (.int (53 : Int32))) (by rw [Heq102]; exact Ar103.1) (State.isArrayOf_alike hZ.alike Ar103.2.1) Ar103.2.2 hin103 (Hh103.at hin103 (rfl)) (g := (mkF m 8 #[.val (.ref ra0), .val (.int (0 : Int32))] [(.int (0 : Int32)), (.ref ra0)])) rfl rfl (hb hby d34_8) _ ?_
    show Steps p.tables e below (T102.setTop (mkF m 9 #[.val (.ref ra0), .val (.int (0 : Int32))] [(.int (53 : Int32))])) _
    refine XS.sipush X102.here hx rfl (hb hby d34_9) ?_
    show Steps p.tables e below (T102.setTop (mkF m 12 #[.val (.ref ra0), .val (.int (0 : Int32))] [(.int (255 : Int32)), (.int (53 : Int32))])) _
    refine XS.iand X102.here hx rfl (hb hby d34_12) rfl ?_
    show Steps p.tables e below (T102.setTop (mkF m 13 #[.val (.ref ra0), .val (.int (0 : Int32))] [(.int ((53 : Int32) &&& (255 : Int32)))])) _
    rw [show ((53 : Int32) &&& (255 : Int32)) = (53 : Int32) from by decide]
    show Steps p.tables e below (T102.setTop (mkF m 13 #[.val (.ref ra0), .val (.int (0 : Int32))] [(.int (53 : Int32))])) _
    refine XS.i2c X102.here hx rfl (hb hby d34_13) rfl ?_
    show Steps p.tables e below (T102.setTop (mkF m 14 #[.val (.ref ra0), .val (.int (0 : Int32))] [(.int ((53 : Int32).toUInt32.toUInt16.toUInt32.toInt32))])) _
    rw [show ((53 : Int32).toUInt32.toUInt16.toUInt32.toInt32) = (53 : Int32) from by decide]
    show Steps p.tables e below (T102.setTop (mkF m 14 #[.val (.ref ra0), .val (.int (0 : Int32))] [(.int (53 : Int32))])) _
    exact retN X102 hx (t := .char) Bd.returns (by simp) (hb hby d34_14) hr
  · show Q34x47 Z ra0 uk1 uv2 h0 n0 _ T102.heap _
    rw [Heq102]
    exact ⟨rfl, N102, rfl⟩
theorem d32_0 : decode jdk_42_method_56_code 0 = .ok (.aload_n 0, 1) := by decide +kernel
theorem d32_1 : decode jdk_42_method_56_code 1 = .ok (.invokevirtual 492, 3) := by decide +kernel
theorem d32_4 : decode jdk_42_method_56_code 4 = .ok (.ifCond .eq 12, 3) := by decide +kernel
theorem d32_7 : decode jdk_42_method_56_code 7 = .ok (.aload_n 0, 1) := by decide +kernel
theorem d32_8 : decode jdk_42_method_56_code 8 = .ok (.getfield 9, 3) := by decide +kernel
theorem d32_11 : decode jdk_42_method_56_code 11 = .ok (.iload_n 1, 1) := by decide +kernel
theorem d32_12 : decode jdk_42_method_56_code 12 = .ok (.invokestatic 495, 3) := by decide +kernel
theorem d32_15 : decode jdk_42_method_56_code 15 = .ok (.ireturn, 1) := by decide +kernel
theorem ef_32x45 (m : MethodId) (ra0 : Addr) : entryFrame m #[(.ref ra0), (.int (0 : Int32))] 2 = mkF m 0 #[.val (.ref ra0), .val (.int (0 : Int32))] [] := by first | (simp [entryFrame, mkF, argsToLocals, Value.category]; done) | rfl
def Q32x45 (Z : State) (ra0 : Addr) (ui1 : Int32) (uo2 : Addr) (uk3 : ClassId) (uv4 : Value) (h0 : Heap) (n0 : Nat) (v : Option Value) (h : Heap) (L : List Loc) : Prop := v = some (.int (53 : Int32)) ∧ Fr n0 L ∧ h = h0
set_option maxRecDepth 65536 in
set_option maxHeartbeats 40000000 in
theorem rm32x45 (l : Launch) (Z : State) (a0 : Array Value) (hw : ∀ d ∈ tables_1, d.before a0 Z = true) (ws : List Jvm.Cond) (ra0 : Addr) (ui1 : Int32) (uo2 : Addr) (uk3 : ClassId) (uv4 : Value) (h0 : Heap) (n0 : Nat) (Z0 : n0 ≤ h0.size) (H0 : Exa Z h0 ra0 "java/lang/String") (H1 : Sta Z h0 "java/lang/String" "COMPACT_STRINGS" "Z" (.int ui1)) (H2 : ¬ (ui1 = (0 : Int32))) (H3 : Fld Z h0 ra0 "java/lang/String" "coder" "B" (.int (0 : Int32))) (H4 : Fld Z h0 ra0 "java/lang/String" "value" "[B" (.ref uo2)) (H5 : Arv Z h0 uo2 uk3 .byte (5 : Int32) [(.int (53 : Int32)), (.int (48 : Int32)), (.int (45 : Int32)), (.int (53 : Int32)), (.int (57 : Int32))] (.int (0 : Int32))) (H6 : Sta Z h0 "jdk/internal/util/Preconditions" "SIOOBE_FORMATTER" "Ljava/util/function/BiFunction;" uv4) (H7 : uv4.category = 1) :
    MetFree l (⟨"java/lang/String", "charAt", "(I)C"⟩ : MethodName) (head1 (Jvm.Cond.code (⟨"java/lang/String", "charAt", "(I)C"⟩ : MethodName) jdk_42_method_56_code 2 (some .char) :: ws) ({ frames := 3, cells := 0, slots := 0, locals := 40 } : Room)) (fun a U => a = #[(.ref ra0), (.int (0 : Int32))] ∧ Z.Warmed39 U.vm ∧ U.heap = h0) (fun _ _ _ _ _ => True) (fun _ U o U' => ∃ v L, o = .returned v ∧ Q32x45 Z ra0 ui1 uo2 uk3 uv4 h0 n0 v U'.heap L ∧ FrameEnd U o U' L ({ frames := 3, cells := 0, slots := 0, locals := 40 } : Room).cells ({ frames := 3, cells := 0, slots := 0, locals := 40 } : Room).slots) := by
  refine MetFree.of_bodySF (plainFor_of_name pn_java_lang_String) hisR ?_
  intro p e s m args below meth c s₁ Bd hml0 hP hK
  obtain ⟨rfl, hZ, hh⟩ := hP
  have hx := Bd.exec
  have hby := Bd.bytes
  have hml : c.maxLocals = 2 := hml0
  have hown : s.vm.findClass "java/lang/String" = some m.cls := findClass_of_methodNamed Bd.named
  have hnm := (name_of_methodNamed Bd.named Bd.method).1
  have X0 : Stand p l e ({ frames := 3, cells := 0, slots := 0, locals := 40 } : Room) s m #[(.ref ra0), (.int (0 : Int32))] below meth c s₁ [] 0 0 := Stand.of_body Bd
  have e0 : s₁.heap = h0 := by rw [← hh, Bd.state]; rfl
  have N0 := Fr.nil n0
  have pre0 : ∀ t, Steps p.tables e below (s₁.setTop (mkF m 0 #[.val (.ref ra0), .val (.int (0 : Int32))] [])) t → Steps p.tables e below (s₁.setTop (entryFrame m #[(.ref ra0), (.int (0 : Int32))] 2)) t := fun t k => castTop (ef_32x45 m ra0) k
  obtain ⟨cq101, kq101, q101a, q101b, q101c⟩ := isOf hZ e0 H0
  obtain ⟨_, _, ⟨T101, L101, k101, n101⟩, -, X101, ⟨Lc101, hQ101, l101, y101, z101⟩, st101⟩ := X0.virtualBack hx (y := (⟨"java/lang/String", "isLatin1", "()Z"⟩ : MethodName)) (z := (⟨"java/lang/String", "isLatin1", "()Z"⟩ : MethodName)) hown (mvT hZ (hw _ (List.mem_of_getElem? (i := 197) rfl))) (mvT hZ (hw _ (List.mem_of_getElem? (i := 198) rfl))) (notFace_of_selects (args := #[]) (mvT hZ (hw _ (List.mem_of_getElem? (i := 200) rfl)))) (mvT hZ (hw _ (List.mem_of_getElem? (i := 200) rfl))) (mvT hZ (hw _ (List.mem_of_getElem? (i := 199) rfl))) (by decide) (backOf (W := 0) (rm33x46 l Z a0 hw [] ra0 ui1 h0 n0 Z0 H1 H2 H3) hZ (hw _ (List.mem_of_getElem? (i := 201) rfl)) (hw _ (List.mem_of_getElem? (i := 62) rfl)) (by decide) (by decide)) q101a q101c (g := (mkF m 1 #[.val (.ref ra0), .val (.int (0 : Int32))] [(.ref ra0)])) rfl (by rw [hml]; rfl) (Steps.refl _) (argsL := []) (rest := []) (lenOf pd_4 rfl) rfl (by show 2 * 0 + _ ≤ _; exact Nat.le_of_eq rfl) (hb hby d32_1) (fun _ _ => ⟨rfl, e0, (by decide : 0 + 0 ≤ _), (by decide : 0 + 0 ≤ _)⟩)
  dsimp only [Pt.U, Pt.locs, Pt.cells, Pt.slots] at X101 l101 y101 z101 st101 hQ101
  subst l101 y101 z101
  obtain ⟨rfl, Nq101, Heq101⟩ := hQ101
  have N101 := Fr.app N0 Nq101
  obtain ⟨T102, X102, e102, st102⟩ := getF X101 hx hZ hown (host := "") (Or.inl (hw _ (List.mem_of_getElem? (i := 119) rfl))) Via.refl Heq101 H4 (g := (mkF m 8 #[.val (.ref ra0), .val (.int (0 : Int32))] [(.ref ra0)])) rfl rfl (hb hby d32_8)
  obtain ⟨_, _, ⟨T103, L103, k103, n103⟩, -, X103, ⟨Lc103, hQ103, l103, y103, z103⟩, st103⟩ := Jvm.LawKit.callS X102 hx (y := (⟨"java/lang/StringLatin1", "charAt", "([BI)C"⟩ : MethodName)) hown (mvT hZ (hw _ (List.mem_of_getElem? (i := 202) rfl))) (mvT hZ (hw _ (List.mem_of_getElem? (i := 203) rfl))) (mvT hZ (hw _ (List.mem_of_getElem? (i := 204) rfl))) (mvT hZ (hw _ (List.mem_of_getElem? (i := 205) rfl))) (by decide) (backOf (W := 0) (rm34x47 l Z a0 hw [] uo2 uk3 uv4 h0 n0 Z0 H5 H6 H7) hZ (hw _ (List.mem_of_getElem? (i := 205) rfl)) (hw _ (List.mem_of_getElem? (i := 204) rfl)) (by decide) (by decide)) (g := (mkF m 12 #[.val (.ref ra0), .val (.int (0 : Int32))] [(.int (0 : Int32)), (.ref uo2)])) rfl (by rw [hml]; rfl) (argsL := [(.ref uo2), (.int (0 : Int32))]) (rest := []) (lenOf pd_24 rfl) rfl (by show 2 * 0 + _ ≤ _; exact Nat.le_of_eq rfl) (hb hby d32_12) (fun _ _ => ⟨rfl, e102, (by decide : 0 + 0 ≤ _), (by decide : 0 + 0 ≤ _)⟩)
  dsimp only [Pt.U, Pt.locs, Pt.cells, Pt.slots] at X103 l103 y103 z103 st103 hQ103
  subst l103 y103 z103
  obtain ⟨rfl, Nq103, Heq103⟩ := hQ103
  have N103 := Fr.app N101 Nq103
  obtain ⟨fs, hr, hrun, hended, hW, hsame⟩ := X103.leave (v := some (.int (53 : Int32))) (fun h => by rw [Bd.returns] at h; cases h)
  refine ⟨_, _, pre0 _ ?_, hrun, hended, _, _, rfl, ?_, ⟨_, rfl⟩, hW, hsame.mono (by decide) (by decide)⟩
  · skip
    show Steps p.tables e below (s₁.setTop (mkF m 0 #[.val (.ref ra0), .val (.int (0 : Int32))] [])) _
    refine XS.aloadN X0.here hx rfl (hb hby d32_0) rfl rfl ?_
    show Steps p.tables e below (s₁.setTop (mkF m 1 #[.val (.ref ra0), .val (.int (0 : Int32))] [(.ref ra0)])) _
    refine st101.trans ?_
    show Steps p.tables e below (T101.setTop (mkF m 4 #[.val (.ref ra0), .val (.int (0 : Int32))] [(.int (1 : Int32))])) _
    refine XS.ifNo X101.here hx rfl (hb hby d32_4) rfl ((if0 _ _).trans (feq (by decide : ¬ ((1 : Int32) = (0 : Int32)))).1) ?_
    show Steps p.tables e below (T101.setTop (mkF m 7 #[.val (.ref ra0), .val (.int (0 : Int32))] [])) _
    refine XS.aloadN X101.here hx rfl (hb hby d32_7) rfl rfl ?_
    show Steps p.tables e below (T101.setTop (mkF m 8 #[.val (.ref ra0), .val (.int (0 : Int32))] [(.ref ra0)])) _
    refine st102 _ ?_
    show Steps p.tables e below (T102.setTop (mkF m 11 #[.val (.ref ra0), .val (.int (0 : Int32))] [(.ref uo2)])) _
    refine XS.iloadN X102.here hx rfl (hb hby d32_11) rfl ?_
    show Steps p.tables e below (T102.setTop (mkF m 12 #[.val (.ref ra0), .val (.int (0 : Int32))] [(.int (0 : Int32)), (.ref uo2)])) _
    refine st103 _ ?_
    show Steps p.tables e below (T103.setTop (mkF m 15 #[.val (.ref ra0), .val (.int (0 : Int32))] [(.int (53 : Int32))])) _
    exact retN X103 hx (t := .char) Bd.returns (by simp) (hb hby d32_15) hr
  · show Q32x45 Z ra0 ui1 uo2 uk3 uv4 h0 n0 _ T103.heap _
    rw [Heq103]
    exact ⟨rfl, N103, rfl⟩
theorem ef_33x51 (m : MethodId) (ra0 : Addr) : entryFrame m #[(.ref ra0)] 1 = mkF m 0 #[.val (.ref ra0)] [] := by first | (simp [entryFrame, mkF, argsToLocals, Value.category]; done) | rfl
def Q33x51 (Z : State) (ra0 : Addr) (ui1 : Int32) (h0 : Heap) (n0 : Nat) (v : Option Value) (h : Heap) (L : List Loc) : Prop := v = some (.int (1 : Int32)) ∧ Fr n0 L ∧ h = h0
set_option maxRecDepth 65536 in
set_option maxHeartbeats 40000000 in
theorem rm33x51 (l : Launch) (Z : State) (a0 : Array Value) (hw : ∀ d ∈ tables_1, d.before a0 Z = true) (ws : List Jvm.Cond) (ra0 : Addr) (ui1 : Int32) (h0 : Heap) (n0 : Nat) (Z0 : n0 ≤ h0.size) (H0 : Sta Z h0 "java/lang/String" "COMPACT_STRINGS" "Z" (.int ui1)) (H1 : ¬ (ui1 = (0 : Int32))) (H2 : Fld Z h0 ra0 "java/lang/String" "coder" "B" (.int (0 : Int32))) :
    MetFree l (⟨"java/lang/String", "isLatin1", "()Z"⟩ : MethodName) (head1 (Jvm.Cond.code (⟨"java/lang/String", "isLatin1", "()Z"⟩ : MethodName) jdk_42_method_154_code 1 (some .boolean) :: ws) ({ frames := 0, cells := 0, slots := 0, locals := 0 } : Room)) (fun a U => a = #[(.ref ra0)] ∧ Z.Warmed39 U.vm ∧ U.heap = h0) (fun _ _ _ _ _ => True) (fun _ U o U' => ∃ v L, o = .returned v ∧ Q33x51 Z ra0 ui1 h0 n0 v U'.heap L ∧ FrameEnd U o U' L ({ frames := 0, cells := 0, slots := 0, locals := 0 } : Room).cells ({ frames := 0, cells := 0, slots := 0, locals := 0 } : Room).slots) := by
  refine MetFree.of_bodySF (plainFor_of_name pn_java_lang_String) hisR ?_
  intro p e s m args below meth c s₁ Bd hml0 hP hK
  obtain ⟨rfl, hZ, hh⟩ := hP
  have hx := Bd.exec
  have hby := Bd.bytes
  have hml : c.maxLocals = 1 := hml0
  have hown : s.vm.findClass "java/lang/String" = some m.cls := findClass_of_methodNamed Bd.named
  have hnm := (name_of_methodNamed Bd.named Bd.method).1
  have X0 : Stand p l e ({ frames := 0, cells := 0, slots := 0, locals := 0 } : Room) s m #[(.ref ra0)] below meth c s₁ [] 0 0 := Stand.of_body Bd
  have e0 : s₁.heap = h0 := by rw [← hh, Bd.state]; rfl
  have N0 := Fr.nil n0
  have pre0 : ∀ t, Steps p.tables e below (s₁.setTop (mkF m 0 #[.val (.ref ra0)] [])) t → Steps p.tables e below (s₁.setTop (entryFrame m #[(.ref ra0)] 1)) t := fun t k => castTop (ef_33x51 m ra0) k
  obtain ⟨T101, X101, e101, st101⟩ := getS2 X0 hx hZ hown (host := "") (Or.inl (hw _ (List.mem_of_getElem? (i := 125) rfl))) Via.refl e0 H0 (g := (mkF m 0 #[.val (.ref ra0)] [])) rfl (hb hby d33_0)
  obtain ⟨T102, X102, e102, st102⟩ := getF X101 hx hZ hown (host := "") (Or.inl (hw _ (List.mem_of_getElem? (i := 126) rfl))) Via.refl e101 H2 (g := (mkF m 7 #[.val (.ref ra0)] [(.ref ra0)])) rfl rfl (hb hby d33_7)
  obtain ⟨fs, hr, hrun, hended, hW, hsame⟩ := X102.leave (v := some (.int (1 : Int32))) (fun h => by rw [Bd.returns] at h; cases h)
  refine ⟨_, _, pre0 _ ?_, hrun, hended, _, _, rfl, ?_, ⟨_, rfl⟩, hW, hsame.mono (by decide) (by decide)⟩
  · skip
    show Steps p.tables e below (s₁.setTop (mkF m 0 #[.val (.ref ra0)] [])) _
    refine st101 _ ?_
    show Steps p.tables e below (T101.setTop (mkF m 3 #[.val (.ref ra0)] [(.int ui1)])) _
    refine XS.ifNo X101.here hx rfl (hb hby d33_3) rfl ((if0 _ _).trans (feq (H1 : ¬ (ui1 = (0 : Int32)))).1) ?_
    show Steps p.tables e below (T101.setTop (mkF m 6 #[.val (.ref ra0)] [])) _
    refine XS.aloadN X101.here hx rfl (hb hby d33_6) rfl rfl ?_
    show Steps p.tables e below (T101.setTop (mkF m 7 #[.val (.ref ra0)] [(.ref ra0)])) _
    refine st102 _ ?_
    show Steps p.tables e below (T102.setTop (mkF m 10 #[.val (.ref ra0)] [(.int (0 : Int32))])) _
    refine XS.ifNo X102.here hx rfl (hb hby d33_10) rfl ((if0 _ _).trans (teq (by decide : (0 : Int32) = (0 : Int32))).2) ?_
    show Steps p.tables e below (T102.setTop (mkF m 13 #[.val (.ref ra0)] [])) _
    refine XS.iconst X102.here hx rfl (hb hby d33_13) ?_
    show Steps p.tables e below (T102.setTop (mkF m 14 #[.val (.ref ra0)] [(.int (1 : Int32))])) _
    refine XS.goto X102.here hx rfl (pc0 := 14) (pc' := 18) rfl (hb hby d33_14) (by decide) (by decide) ?_
    show Steps p.tables e below (T102.setTop (mkF m 18 #[.val (.ref ra0)] [(.int (1 : Int32))])) _
    exact retN X102 hx (t := .boolean) Bd.returns (by simp) (hb hby d33_18) hr
  · show Q33x51 Z ra0 ui1 h0 n0 _ T102.heap _
    rw [e102]
    exact ⟨rfl, N0, rfl⟩
theorem ef_36x54 (m : MethodId) (wv2 : Value) (hc_wv2 : wv2.category = 1) : entryFrame m #[(.int (1 : Int32)), (.int (5 : Int32)), wv2] 3 = mkF m 0 #[.val (.int (1 : Int32)), .val (.int (5 : Int32)), .val wv2] [] := by first | (simp [entryFrame, mkF, argsToLocals, own_catI, own_catJ, own_catR, own_catN, own_catD, hc_wv2]; done) | rfl
def Q36x54 (Z : State) (wv2 : Value) (h0 : Heap) (n0 : Nat) (v : Option Value) (h : Heap) (L : List Loc) : Prop := v = some (.int (1 : Int32)) ∧ Fr n0 L ∧ h = h0
set_option maxRecDepth 65536 in
set_option maxHeartbeats 40000000 in
theorem rm36x54 (l : Launch) (Z : State) (a0 : Array Value) (hw : ∀ d ∈ tables_1, d.before a0 Z = true) (ws : List Jvm.Cond) (wv2 : Value) (h0 : Heap) (n0 : Nat) (Z0 : n0 ≤ h0.size) (H0 : wv2.category = 1) :
    MetFree l (⟨"jdk/internal/util/Preconditions", "checkIndex", "(IILjava/util/function/BiFunction;)I"⟩ : MethodName) (head1 (Jvm.Cond.code (⟨"jdk/internal/util/Preconditions", "checkIndex", "(IILjava/util/function/BiFunction;)I"⟩ : MethodName) jdk_41_method_11_code 3 (some .int) :: ws) ({ frames := 0, cells := 0, slots := 0, locals := 0 } : Room)) (fun a U => a = #[(.int (1 : Int32)), (.int (5 : Int32)), wv2] ∧ Z.Warmed39 U.vm ∧ U.heap = h0) (fun _ _ _ _ _ => True) (fun _ U o U' => ∃ v L, o = .returned v ∧ Q36x54 Z wv2 h0 n0 v U'.heap L ∧ FrameEnd U o U' L ({ frames := 0, cells := 0, slots := 0, locals := 0 } : Room).cells ({ frames := 0, cells := 0, slots := 0, locals := 0 } : Room).slots) := by
  refine MetFree.of_bodySF (plainFor_of_name pn_jdk_internal_util_Preconditions) hisR ?_
  intro p e s m args below meth c s₁ Bd hml0 hP hK
  obtain ⟨rfl, hZ, hh⟩ := hP
  have hx := Bd.exec
  have hby := Bd.bytes
  have hml : c.maxLocals = 3 := hml0
  have hown : s.vm.findClass "jdk/internal/util/Preconditions" = some m.cls := findClass_of_methodNamed Bd.named
  have hnm := (name_of_methodNamed Bd.named Bd.method).1
  have X0 : Stand p l e ({ frames := 0, cells := 0, slots := 0, locals := 0 } : Room) s m #[(.int (1 : Int32)), (.int (5 : Int32)), wv2] below meth c s₁ [] 0 0 := Stand.of_body Bd
  have e0 : s₁.heap = h0 := by rw [← hh, Bd.state]; rfl
  have N0 := Fr.nil n0
  have pre0 : ∀ t, Steps p.tables e below (s₁.setTop (mkF m 0 #[.val (.int (1 : Int32)), .val (.int (5 : Int32)), .val wv2] [])) t → Steps p.tables e below (s₁.setTop (entryFrame m #[(.int (1 : Int32)), (.int (5 : Int32)), wv2] 3)) t := fun t k => castTop (ef_36x54 m wv2 H0) k
  obtain ⟨fs, hr, hrun, hended, hW, hsame⟩ := X0.leave (v := some (.int (1 : Int32))) (fun h => by rw [Bd.returns] at h; cases h)
  refine ⟨_, _, pre0 _ ?_, hrun, hended, _, _, rfl, ?_, ⟨_, rfl⟩, hW, hsame.mono (by decide) (by decide)⟩
  · skip
    show Steps p.tables e below (s₁.setTop (mkF m 0 #[.val (.int (1 : Int32)), .val (.int (5 : Int32)), .val wv2] [])) _
    refine XS.iloadN X0.here hx rfl (hb hby d36_0) rfl ?_
    show Steps p.tables e below (s₁.setTop (mkF m 1 #[.val (.int (1 : Int32)), .val (.int (5 : Int32)), .val wv2] [(.int (1 : Int32))])) _
    refine XS.ifNo X0.here hx rfl (hb hby d36_1) rfl ((if0 _ _).trans (flt (by decide : ¬ ((1 : Int32) < (0 : Int32)))).1) ?_
    show Steps p.tables e below (s₁.setTop (mkF m 4 #[.val (.int (1 : Int32)), .val (.int (5 : Int32)), .val wv2] [])) _
    refine XS.iloadN X0.here hx rfl (hb hby d36_4) rfl ?_
    show Steps p.tables e below (s₁.setTop (mkF m 5 #[.val (.int (1 : Int32)), .val (.int (5 : Int32)), .val wv2] [(.int (1 : Int32))])) _
    refine XS.iloadN X0.here hx rfl (hb hby d36_5) rfl ?_
    show Steps p.tables e below (s₁.setTop (mkF m 6 #[.val (.int (1 : Int32)), .val (.int (5 : Int32)), .val wv2] [(.int (5 : Int32)), (.int (1 : Int32))])) _
    refine XS.icmpYes X0.here hx rfl (pc0 := 6) (pc' := 16) rfl (hb hby d36_6) rfl (tlt (by decide : (1 : Int32) < (5 : Int32))).1 (by decide) (by decide) ?_
    show Steps p.tables e below (s₁.setTop (mkF m 16 #[.val (.int (1 : Int32)), .val (.int (5 : Int32)), .val wv2] [])) _
    refine XS.iloadN X0.here hx rfl (hb hby d36_16) rfl ?_
    show Steps p.tables e below (s₁.setTop (mkF m 17 #[.val (.int (1 : Int32)), .val (.int (5 : Int32)), .val wv2] [(.int (1 : Int32))])) _
    exact retI X0 hx Bd.returns (hb hby d36_17) hr
  · show Q36x54 Z wv2 h0 n0 _ s₁.heap _
    rw [e0]
    exact ⟨rfl, N0, rfl⟩
theorem ef_35x53 (m : MethodId)  : entryFrame m #[(.int (1 : Int32)), (.int (5 : Int32))] 2 = mkF m 0 #[.val (.int (1 : Int32)), .val (.int (5 : Int32))] [] := by first | (simp [entryFrame, mkF, argsToLocals, Value.category]; done) | rfl
def Q35x53 (Z : State) (uv1 : Value) (h0 : Heap) (n0 : Nat) (v : Option Value) (h : Heap) (L : List Loc) : Prop := v = none ∧ Fr n0 L ∧ h = h0
set_option maxRecDepth 65536 in
set_option maxHeartbeats 40000000 in
theorem rm35x53 (l : Launch) (Z : State) (a0 : Array Value) (hw : ∀ d ∈ tables_1, d.before a0 Z = true) (ws : List Jvm.Cond) (uv1 : Value) (h0 : Heap) (n0 : Nat) (Z0 : n0 ≤ h0.size) (H0 : Sta Z h0 "jdk/internal/util/Preconditions" "SIOOBE_FORMATTER" "Ljava/util/function/BiFunction;" uv1) (H1 : uv1.category = 1) :
    MetFree l (⟨"java/lang/String", "checkIndex", "(II)V"⟩ : MethodName) (head1 (Jvm.Cond.code (⟨"java/lang/String", "checkIndex", "(II)V"⟩ : MethodName) jdk_42_method_155_code 2 none :: ws) ({ frames := 1, cells := 0, slots := 0, locals := 14 } : Room)) (fun a U => a = #[(.int (1 : Int32)), (.int (5 : Int32))] ∧ Z.Warmed39 U.vm ∧ U.heap = h0) (fun _ _ _ _ _ => True) (fun _ U o U' => ∃ v L, o = .returned v ∧ Q35x53 Z uv1 h0 n0 v U'.heap L ∧ FrameEnd U o U' L ({ frames := 1, cells := 0, slots := 0, locals := 14 } : Room).cells ({ frames := 1, cells := 0, slots := 0, locals := 14 } : Room).slots) := by
  refine MetFree.of_bodySF (plainFor_of_name pn_java_lang_String) hisR ?_
  intro p e s m args below meth c s₁ Bd hml0 hP hK
  obtain ⟨rfl, hZ, hh⟩ := hP
  have hx := Bd.exec
  have hby := Bd.bytes
  have hml : c.maxLocals = 2 := hml0
  have hown : s.vm.findClass "java/lang/String" = some m.cls := findClass_of_methodNamed Bd.named
  have hnm := (name_of_methodNamed Bd.named Bd.method).1
  have X0 : Stand p l e ({ frames := 1, cells := 0, slots := 0, locals := 14 } : Room) s m #[(.int (1 : Int32)), (.int (5 : Int32))] below meth c s₁ [] 0 0 := Stand.of_body Bd
  have e0 : s₁.heap = h0 := by rw [← hh, Bd.state]; rfl
  have N0 := Fr.nil n0
  have pre0 : ∀ t, Steps p.tables e below (s₁.setTop (mkF m 0 #[.val (.int (1 : Int32)), .val (.int (5 : Int32))] [])) t → Steps p.tables e below (s₁.setTop (entryFrame m #[(.int (1 : Int32)), (.int (5 : Int32))] 2)) t := fun t k => castTop (ef_35x53 m ) k
  obtain ⟨T101, X101, e101, st101⟩ := getS2 X0 hx hZ hown (host := "") (Or.inl (hw _ (List.mem_of_getElem? (i := 209) rfl))) Via.refl e0 H0 (g := (mkF m 2 #[.val (.int (1 : Int32)), .val (.int (5 : Int32))] [(.int (5 : Int32)), (.int (1 : Int32))])) rfl (hb hby d35_2)
  obtain ⟨_, _, ⟨T102, L102, k102, n102⟩, -, X102, ⟨Lc102, hQ102, l102, y102, z102⟩, st102⟩ := Jvm.LawKit.callS X101 hx (y := (⟨"jdk/internal/util/Preconditions", "checkIndex", "(IILjava/util/function/BiFunction;)I"⟩ : MethodName)) hown (mvT hZ (hw _ (List.mem_of_getElem? (i := 211) rfl))) (mvT hZ (hw _ (List.mem_of_getElem? (i := 212) rfl))) (mvT hZ (hw _ (List.mem_of_getElem? (i := 210) rfl))) (mvT hZ (hw _ (List.mem_of_getElem? (i := 213) rfl))) (by decide) (backOf (W := 0) (rm36x54 l Z a0 hw [] uv1 h0 n0 Z0 H1) hZ (hw _ (List.mem_of_getElem? (i := 213) rfl)) (hw _ (List.mem_of_getElem? (i := 210) rfl)) (by decide) (by decide)) (g := (mkF m 5 #[.val (.int (1 : Int32)), .val (.int (5 : Int32))] [uv1, (.int (5 : Int32)), (.int (1 : Int32))])) rfl (by rw [hml]; rfl) (argsL := [(.int (1 : Int32)), (.int (5 : Int32)), uv1]) (rest := []) (lenOf pd_23 rfl) rfl (by show 2 * 0 + _ ≤ _; exact Nat.le_of_eq rfl) (hb hby d35_5) (fun _ _ => ⟨rfl, e101, (by decide : 0 + 0 ≤ _), (by decide : 0 + 0 ≤ _)⟩)
  dsimp only [Pt.U, Pt.locs, Pt.cells, Pt.slots] at X102 l102 y102 z102 st102 hQ102
  subst l102 y102 z102
  obtain ⟨rfl, Nq102, Heq102⟩ := hQ102
  have N102 := Fr.app N0 Nq102
  obtain ⟨fs, hr, hrun, hended, hW, hsame⟩ := X102.leave (v := none) (fun _ => rfl)
  refine ⟨_, _, pre0 _ ?_, hrun, hended, _, _, rfl, ?_, ⟨_, rfl⟩, hW, hsame.mono (by decide) (by decide)⟩
  · skip
    show Steps p.tables e below (s₁.setTop (mkF m 0 #[.val (.int (1 : Int32)), .val (.int (5 : Int32))] [])) _
    refine XS.iloadN X0.here hx rfl (hb hby d35_0) rfl ?_
    show Steps p.tables e below (s₁.setTop (mkF m 1 #[.val (.int (1 : Int32)), .val (.int (5 : Int32))] [(.int (1 : Int32))])) _
    refine XS.iloadN X0.here hx rfl (hb hby d35_1) rfl ?_
    show Steps p.tables e below (s₁.setTop (mkF m 2 #[.val (.int (1 : Int32)), .val (.int (5 : Int32))] [(.int (5 : Int32)), (.int (1 : Int32))])) _
    refine st101 _ ?_
    show Steps p.tables e below (T101.setTop (mkF m 5 #[.val (.int (1 : Int32)), .val (.int (5 : Int32))] [uv1, (.int (5 : Int32)), (.int (1 : Int32))])) _
    refine st102 _ ?_
    show Steps p.tables e below (T102.setTop (mkF m 8 #[.val (.int (1 : Int32)), .val (.int (5 : Int32))] [(.int (1 : Int32))])) _
    refine XS.pop X102.here hx rfl (hb hby d35_8) rfl rfl ?_
    show Steps p.tables e below (T102.setTop (mkF m 9 #[.val (.int (1 : Int32)), .val (.int (5 : Int32))] [])) _
    exact X102.returnOut hx Bd.returns (hb hby d35_9) hr
  · show Q35x53 Z uv1 h0 n0 _ T102.heap _
    rw [Heq102]
    exact ⟨rfl, N102, rfl⟩
theorem ef_34x52 (m : MethodId) (ra0 : Addr) : entryFrame m #[(.ref ra0), (.int (1 : Int32))] 2 = mkF m 0 #[.val (.ref ra0), .val (.int (1 : Int32))] [] := by first | (simp [entryFrame, mkF, argsToLocals, Value.category]; done) | rfl
def Q34x52 (Z : State) (ra0 : Addr) (uk1 : ClassId) (uv2 : Value) (h0 : Heap) (n0 : Nat) (v : Option Value) (h : Heap) (L : List Loc) : Prop := v = some (.int (48 : Int32)) ∧ Fr n0 L ∧ h = h0
set_option maxRecDepth 65536 in
set_option maxHeartbeats 40000000 in
theorem rm34x52 (l : Launch) (Z : State) (a0 : Array Value) (hw : ∀ d ∈ tables_1, d.before a0 Z = true) (ws : List Jvm.Cond) (ra0 : Addr) (uk1 : ClassId) (uv2 : Value) (h0 : Heap) (n0 : Nat) (Z0 : n0 ≤ h0.size) (H0 : Arv Z h0 ra0 uk1 .byte (5 : Int32) [(.int (53 : Int32)), (.int (48 : Int32)), (.int (45 : Int32)), (.int (53 : Int32)), (.int (57 : Int32))] (.int (0 : Int32))) (H1 : Sta Z h0 "jdk/internal/util/Preconditions" "SIOOBE_FORMATTER" "Ljava/util/function/BiFunction;" uv2) (H2 : uv2.category = 1) :
    MetFree l (⟨"java/lang/StringLatin1", "charAt", "([BI)C"⟩ : MethodName) (head1 (Jvm.Cond.code (⟨"java/lang/StringLatin1", "charAt", "([BI)C"⟩ : MethodName) jdk_43_method_2_code 2 (some .char) :: ws) ({ frames := 2, cells := 0, slots := 0, locals := 27 } : Room)) (fun a U => a = #[(.ref ra0), (.int (1 : Int32))] ∧ Z.Warmed39 U.vm ∧ U.heap = h0) (fun _ _ _ _ _ => True) (fun _ U o U' => ∃ v L, o = .returned v ∧ Q34x52 Z ra0 uk1 uv2 h0 n0 v U'.heap L ∧ FrameEnd U o U' L ({ frames := 2, cells := 0, slots := 0, locals := 27 } : Room).cells ({ frames := 2, cells := 0, slots := 0, locals := 27 } : Room).slots) := by
  refine MetFree.of_bodySF (plainFor_of_name pn_java_lang_StringLatin1) hisR ?_
  intro p e s m args below meth c s₁ Bd hml0 hP hK
  obtain ⟨rfl, hZ, hh⟩ := hP
  have hx := Bd.exec
  have hby := Bd.bytes
  have hml : c.maxLocals = 2 := hml0
  have hown : s.vm.findClass "java/lang/StringLatin1" = some m.cls := findClass_of_methodNamed Bd.named
  have hnm := (name_of_methodNamed Bd.named Bd.method).1
  have X0 : Stand p l e ({ frames := 2, cells := 0, slots := 0, locals := 27 } : Room) s m #[(.ref ra0), (.int (1 : Int32))] below meth c s₁ [] 0 0 := Stand.of_body Bd
  have e0 : s₁.heap = h0 := by rw [← hh, Bd.state]; rfl
  have N0 := Fr.nil n0
  have pre0 : ∀ t, Steps p.tables e below (s₁.setTop (mkF m 0 #[.val (.ref ra0), .val (.int (1 : Int32))] [])) t → Steps p.tables e below (s₁.setTop (entryFrame m #[(.ref ra0), (.int (1 : Int32))] 2)) t := fun t k => castTop (ef_34x52 m ra0) k
  obtain ⟨cl101, Ar101, -, S101, M101, -, -⟩ := id H0
  obtain ⟨_, _, ⟨T102, L102, k102, n102⟩, -, X102, ⟨Lc102, hQ102, l102, y102, z102⟩, st102⟩ := Jvm.LawKit.callS X0 hx (y := (⟨"java/lang/String", "checkIndex", "(II)V"⟩ : MethodName)) hown (mvT hZ (hw _ (List.mem_of_getElem? (i := 206) rfl))) (mvT hZ (hw _ (List.mem_of_getElem? (i := 207) rfl))) (mvT hZ (hw _ (List.mem_of_getElem? (i := 62) rfl))) (mvT hZ (hw _ (List.mem_of_getElem? (i := 208) rfl))) (by decide) (backOf (W := 0) (rm35x53 l Z a0 hw [] uv2 h0 n0 Z0 H1 H2) hZ (hw _ (List.mem_of_getElem? (i := 208) rfl)) (hw _ (List.mem_of_getElem? (i := 62) rfl)) (by decide) (by decide)) (g := (mkF m 3 #[.val (.ref ra0), .val (.int (1 : Int32))] [(.int (5 : Int32)), (.int (1 : Int32))])) rfl (by rw [hml]; rfl) (argsL := [(.int (1 : Int32)), (.int (5 : Int32))]) (rest := []) (lenOf pd_16 rfl) rfl (by show 2 * 0 + _ ≤ _; exact Nat.le_of_eq rfl) (hb hby d34_3) (fun _ _ => ⟨rfl, e0, (by decide : 0 + 0 ≤ _), (by decide : 0 + 0 ≤ _)⟩)
  dsimp only [Pt.U, Pt.locs, Pt.cells, Pt.slots] at X102 l102 y102 z102 st102 hQ102
  subst l102 y102 z102
  obtain ⟨rfl, Nq102, Heq102⟩ := hQ102
  have N102 := Fr.app N0 Nq102
  obtain ⟨cl103, Ar103, qc103, S103, M103, Hh103, G103⟩ := id H0
  have hin103 : ¬ ((1 : Int32) < 0 ∨ cl103.slots.size ≤ ((1 : Int32)).toNatClampNeg) := inb_of S103 ⟨by decide, by decide⟩
  obtain ⟨fs, hr, hrun, hended, hW, hsame⟩ := X102.leave (v := some (.int (48 : Int32))) (fun h => by rw [Bd.returns] at h; cases h)
  refine ⟨_, _, pre0 _ ?_, hrun, hended, _, _, rfl, ?_, ⟨_, rfl⟩, hW, hsame.mono (by decide) (by decide)⟩
  · skip
    show Steps p.tables e below (s₁.setTop (mkF m 0 #[.val (.ref ra0), .val (.int (1 : Int32))] [])) _
    refine XS.iloadN X0.here hx rfl (hb hby d34_0) rfl ?_
    show Steps p.tables e below (s₁.setTop (mkF m 1 #[.val (.ref ra0), .val (.int (1 : Int32))] [(.int (1 : Int32))])) _
    refine XS.aloadN X0.here hx rfl (hb hby d34_1) rfl rfl ?_
    show Steps p.tables e below (s₁.setTop (mkF m 2 #[.val (.ref ra0), .val (.int (1 : Int32))] [(.ref ra0), (.int (1 : Int32))])) _
    refine X0.arraylength hx (by rw [e0]; exact Ar101.1) (State.isArrayOf_alike hZ.alike Ar101.2.1) (g := (mkF m 2 #[.val (.ref ra0), .val (.int (1 : Int32))] [(.ref ra0), (.int (1 : Int32))])) rfl rfl (hb hby d34_2) _ ?_
    rw [len_of S101 M101]
    show Steps p.tables e below (s₁.setTop (mkF m 3 #[.val (.ref ra0), .val (.int (1 : Int32))] [(.int (5 : Int32)), (.int (1 : Int32))])) _
    refine st102 _ ?_
    show Steps p.tables e below (T102.setTop (mkF m 6 #[.val (.ref ra0), .val (.int (1 : Int32))] [])) _
    refine XS.aloadN X102.here hx rfl (hb hby d34_6) rfl rfl ?_
    show Steps p.tables e below (T102.setTop (mkF m 7 #[.val (.ref ra0), .val (.int (1 : Int32))] [(.ref ra0)])) _
    refine XS.iloadN X102.here hx rfl (hb hby d34_7) rfl ?_
    show Steps p.tables e below (T102.setTop (mkF m 8 #[.val (.ref ra0), .val (.int (1 : Int32))] [(.int (1 : Int32)), (.ref ra0)])) _
    refine X102.baloadBytes hx (j := (1 : Int32)) (v := (.int (48 : Int32))) (by rw [Heq102]; exact Ar103.1) (State.isArrayOf_alike hZ.alike Ar103.2.1) Ar103.2.2 hin103 (Hh103.at hin103 (rfl)) (g := (mkF m 8 #[.val (.ref ra0), .val (.int (1 : Int32))] [(.int (1 : Int32)), (.ref ra0)])) rfl rfl (hb hby d34_8) _ ?_
    show Steps p.tables e below (T102.setTop (mkF m 9 #[.val (.ref ra0), .val (.int (1 : Int32))] [(.int (48 : Int32))])) _
    refine XS.sipush X102.here hx rfl (hb hby d34_9) ?_
    show Steps p.tables e below (T102.setTop (mkF m 12 #[.val (.ref ra0), .val (.int (1 : Int32))] [(.int (255 : Int32)), (.int (48 : Int32))])) _
    refine XS.iand X102.here hx rfl (hb hby d34_12) rfl ?_
    show Steps p.tables e below (T102.setTop (mkF m 13 #[.val (.ref ra0), .val (.int (1 : Int32))] [(.int ((48 : Int32) &&& (255 : Int32)))])) _
    rw [show ((48 : Int32) &&& (255 : Int32)) = (48 : Int32) from by decide]
    show Steps p.tables e below (T102.setTop (mkF m 13 #[.val (.ref ra0), .val (.int (1 : Int32))] [(.int (48 : Int32))])) _
    refine XS.i2c X102.here hx rfl (hb hby d34_13) rfl ?_
    show Steps p.tables e below (T102.setTop (mkF m 14 #[.val (.ref ra0), .val (.int (1 : Int32))] [(.int ((48 : Int32).toUInt32.toUInt16.toUInt32.toInt32))])) _
    rw [show ((48 : Int32).toUInt32.toUInt16.toUInt32.toInt32) = (48 : Int32) from by decide]
    show Steps p.tables e below (T102.setTop (mkF m 14 #[.val (.ref ra0), .val (.int (1 : Int32))] [(.int (48 : Int32))])) _
    exact retN X102 hx (t := .char) Bd.returns (by simp) (hb hby d34_14) hr
  · show Q34x52 Z ra0 uk1 uv2 h0 n0 _ T102.heap _
    rw [Heq102]
    exact ⟨rfl, N102, rfl⟩
theorem ef_32x50 (m : MethodId) (ra0 : Addr) : entryFrame m #[(.ref ra0), (.int (1 : Int32))] 2 = mkF m 0 #[.val (.ref ra0), .val (.int (1 : Int32))] [] := by first | (simp [entryFrame, mkF, argsToLocals, Value.category]; done) | rfl
def Q32x50 (Z : State) (ra0 : Addr) (ui1 : Int32) (uo2 : Addr) (uk3 : ClassId) (uv4 : Value) (h0 : Heap) (n0 : Nat) (v : Option Value) (h : Heap) (L : List Loc) : Prop := v = some (.int (48 : Int32)) ∧ Fr n0 L ∧ h = h0
set_option maxRecDepth 65536 in
set_option maxHeartbeats 40000000 in
theorem rm32x50 (l : Launch) (Z : State) (a0 : Array Value) (hw : ∀ d ∈ tables_1, d.before a0 Z = true) (ws : List Jvm.Cond) (ra0 : Addr) (ui1 : Int32) (uo2 : Addr) (uk3 : ClassId) (uv4 : Value) (h0 : Heap) (n0 : Nat) (Z0 : n0 ≤ h0.size) (H0 : Exa Z h0 ra0 "java/lang/String") (H1 : Sta Z h0 "java/lang/String" "COMPACT_STRINGS" "Z" (.int ui1)) (H2 : ¬ (ui1 = (0 : Int32))) (H3 : Fld Z h0 ra0 "java/lang/String" "coder" "B" (.int (0 : Int32))) (H4 : Fld Z h0 ra0 "java/lang/String" "value" "[B" (.ref uo2)) (H5 : Arv Z h0 uo2 uk3 .byte (5 : Int32) [(.int (53 : Int32)), (.int (48 : Int32)), (.int (45 : Int32)), (.int (53 : Int32)), (.int (57 : Int32))] (.int (0 : Int32))) (H6 : Sta Z h0 "jdk/internal/util/Preconditions" "SIOOBE_FORMATTER" "Ljava/util/function/BiFunction;" uv4) (H7 : uv4.category = 1) :
    MetFree l (⟨"java/lang/String", "charAt", "(I)C"⟩ : MethodName) (head1 (Jvm.Cond.code (⟨"java/lang/String", "charAt", "(I)C"⟩ : MethodName) jdk_42_method_56_code 2 (some .char) :: ws) ({ frames := 3, cells := 0, slots := 0, locals := 40 } : Room)) (fun a U => a = #[(.ref ra0), (.int (1 : Int32))] ∧ Z.Warmed39 U.vm ∧ U.heap = h0) (fun _ _ _ _ _ => True) (fun _ U o U' => ∃ v L, o = .returned v ∧ Q32x50 Z ra0 ui1 uo2 uk3 uv4 h0 n0 v U'.heap L ∧ FrameEnd U o U' L ({ frames := 3, cells := 0, slots := 0, locals := 40 } : Room).cells ({ frames := 3, cells := 0, slots := 0, locals := 40 } : Room).slots) := by
  refine MetFree.of_bodySF (plainFor_of_name pn_java_lang_String) hisR ?_
  intro p e s m args below meth c s₁ Bd hml0 hP hK
  obtain ⟨rfl, hZ, hh⟩ := hP
  have hx := Bd.exec
  have hby := Bd.bytes
  have hml : c.maxLocals = 2 := hml0
  have hown : s.vm.findClass "java/lang/String" = some m.cls := findClass_of_methodNamed Bd.named
  have hnm := (name_of_methodNamed Bd.named Bd.method).1
  have X0 : Stand p l e ({ frames := 3, cells := 0, slots := 0, locals := 40 } : Room) s m #[(.ref ra0), (.int (1 : Int32))] below meth c s₁ [] 0 0 := Stand.of_body Bd
  have e0 : s₁.heap = h0 := by rw [← hh, Bd.state]; rfl
  have N0 := Fr.nil n0
  have pre0 : ∀ t, Steps p.tables e below (s₁.setTop (mkF m 0 #[.val (.ref ra0), .val (.int (1 : Int32))] [])) t → Steps p.tables e below (s₁.setTop (entryFrame m #[(.ref ra0), (.int (1 : Int32))] 2)) t := fun t k => castTop (ef_32x50 m ra0) k
  obtain ⟨cq101, kq101, q101a, q101b, q101c⟩ := isOf hZ e0 H0
  obtain ⟨_, _, ⟨T101, L101, k101, n101⟩, -, X101, ⟨Lc101, hQ101, l101, y101, z101⟩, st101⟩ := X0.virtualBack hx (y := (⟨"java/lang/String", "isLatin1", "()Z"⟩ : MethodName)) (z := (⟨"java/lang/String", "isLatin1", "()Z"⟩ : MethodName)) hown (mvT hZ (hw _ (List.mem_of_getElem? (i := 197) rfl))) (mvT hZ (hw _ (List.mem_of_getElem? (i := 198) rfl))) (notFace_of_selects (args := #[]) (mvT hZ (hw _ (List.mem_of_getElem? (i := 200) rfl)))) (mvT hZ (hw _ (List.mem_of_getElem? (i := 200) rfl))) (mvT hZ (hw _ (List.mem_of_getElem? (i := 199) rfl))) (by decide) (backOf (W := 0) (rm33x51 l Z a0 hw [] ra0 ui1 h0 n0 Z0 H1 H2 H3) hZ (hw _ (List.mem_of_getElem? (i := 201) rfl)) (hw _ (List.mem_of_getElem? (i := 62) rfl)) (by decide) (by decide)) q101a q101c (g := (mkF m 1 #[.val (.ref ra0), .val (.int (1 : Int32))] [(.ref ra0)])) rfl (by rw [hml]; rfl) (Steps.refl _) (argsL := []) (rest := []) (lenOf pd_4 rfl) rfl (by show 2 * 0 + _ ≤ _; exact Nat.le_of_eq rfl) (hb hby d32_1) (fun _ _ => ⟨rfl, e0, (by decide : 0 + 0 ≤ _), (by decide : 0 + 0 ≤ _)⟩)
  dsimp only [Pt.U, Pt.locs, Pt.cells, Pt.slots] at X101 l101 y101 z101 st101 hQ101
  subst l101 y101 z101
  obtain ⟨rfl, Nq101, Heq101⟩ := hQ101
  have N101 := Fr.app N0 Nq101
  obtain ⟨T102, X102, e102, st102⟩ := getF X101 hx hZ hown (host := "") (Or.inl (hw _ (List.mem_of_getElem? (i := 119) rfl))) Via.refl Heq101 H4 (g := (mkF m 8 #[.val (.ref ra0), .val (.int (1 : Int32))] [(.ref ra0)])) rfl rfl (hb hby d32_8)
  obtain ⟨_, _, ⟨T103, L103, k103, n103⟩, -, X103, ⟨Lc103, hQ103, l103, y103, z103⟩, st103⟩ := Jvm.LawKit.callS X102 hx (y := (⟨"java/lang/StringLatin1", "charAt", "([BI)C"⟩ : MethodName)) hown (mvT hZ (hw _ (List.mem_of_getElem? (i := 202) rfl))) (mvT hZ (hw _ (List.mem_of_getElem? (i := 203) rfl))) (mvT hZ (hw _ (List.mem_of_getElem? (i := 204) rfl))) (mvT hZ (hw _ (List.mem_of_getElem? (i := 205) rfl))) (by decide) (backOf (W := 0) (rm34x52 l Z a0 hw [] uo2 uk3 uv4 h0 n0 Z0 H5 H6 H7) hZ (hw _ (List.mem_of_getElem? (i := 205) rfl)) (hw _ (List.mem_of_getElem? (i := 204) rfl)) (by decide) (by decide)) (g := (mkF m 12 #[.val (.ref ra0), .val (.int (1 : Int32))] [(.int (1 : Int32)), (.ref uo2)])) rfl (by rw [hml]; rfl) (argsL := [(.ref uo2), (.int (1 : Int32))]) (rest := []) (lenOf pd_24 rfl) rfl (by show 2 * 0 + _ ≤ _; exact Nat.le_of_eq rfl) (hb hby d32_12) (fun _ _ => ⟨rfl, e102, (by decide : 0 + 0 ≤ _), (by decide : 0 + 0 ≤ _)⟩)
  dsimp only [Pt.U, Pt.locs, Pt.cells, Pt.slots] at X103 l103 y103 z103 st103 hQ103
  subst l103 y103 z103
  obtain ⟨rfl, Nq103, Heq103⟩ := hQ103
  have N103 := Fr.app N101 Nq103
  obtain ⟨fs, hr, hrun, hended, hW, hsame⟩ := X103.leave (v := some (.int (48 : Int32))) (fun h => by rw [Bd.returns] at h; cases h)
  refine ⟨_, _, pre0 _ ?_, hrun, hended, _, _, rfl, ?_, ⟨_, rfl⟩, hW, hsame.mono (by decide) (by decide)⟩
  · skip
    show Steps p.tables e below (s₁.setTop (mkF m 0 #[.val (.ref ra0), .val (.int (1 : Int32))] [])) _
    refine XS.aloadN X0.here hx rfl (hb hby d32_0) rfl rfl ?_
    show Steps p.tables e below (s₁.setTop (mkF m 1 #[.val (.ref ra0), .val (.int (1 : Int32))] [(.ref ra0)])) _
    refine st101.trans ?_
    show Steps p.tables e below (T101.setTop (mkF m 4 #[.val (.ref ra0), .val (.int (1 : Int32))] [(.int (1 : Int32))])) _
    refine XS.ifNo X101.here hx rfl (hb hby d32_4) rfl ((if0 _ _).trans (feq (by decide : ¬ ((1 : Int32) = (0 : Int32)))).1) ?_
    show Steps p.tables e below (T101.setTop (mkF m 7 #[.val (.ref ra0), .val (.int (1 : Int32))] [])) _
    refine XS.aloadN X101.here hx rfl (hb hby d32_7) rfl rfl ?_
    show Steps p.tables e below (T101.setTop (mkF m 8 #[.val (.ref ra0), .val (.int (1 : Int32))] [(.ref ra0)])) _
    refine st102 _ ?_
    show Steps p.tables e below (T102.setTop (mkF m 11 #[.val (.ref ra0), .val (.int (1 : Int32))] [(.ref uo2)])) _
    refine XS.iloadN X102.here hx rfl (hb hby d32_11) rfl ?_
    show Steps p.tables e below (T102.setTop (mkF m 12 #[.val (.ref ra0), .val (.int (1 : Int32))] [(.int (1 : Int32)), (.ref uo2)])) _
    refine st103 _ ?_
    show Steps p.tables e below (T103.setTop (mkF m 15 #[.val (.ref ra0), .val (.int (1 : Int32))] [(.int (48 : Int32))])) _
    exact retN X103 hx (t := .char) Bd.returns (by simp) (hb hby d32_15) hr
  · show Q32x50 Z ra0 ui1 uo2 uk3 uv4 h0 n0 _ T103.heap _
    rw [Heq103]
    exact ⟨rfl, N103, rfl⟩
theorem ef_33x56 (m : MethodId) (ra0 : Addr) : entryFrame m #[(.ref ra0)] 1 = mkF m 0 #[.val (.ref ra0)] [] := by first | (simp [entryFrame, mkF, argsToLocals, Value.category]; done) | rfl
def Q33x56 (Z : State) (ra0 : Addr) (ui1 : Int32) (h0 : Heap) (n0 : Nat) (v : Option Value) (h : Heap) (L : List Loc) : Prop := v = some (.int (1 : Int32)) ∧ Fr n0 L ∧ h = h0
set_option maxRecDepth 65536 in
set_option maxHeartbeats 40000000 in
theorem rm33x56 (l : Launch) (Z : State) (a0 : Array Value) (hw : ∀ d ∈ tables_1, d.before a0 Z = true) (ws : List Jvm.Cond) (ra0 : Addr) (ui1 : Int32) (h0 : Heap) (n0 : Nat) (Z0 : n0 ≤ h0.size) (H0 : Sta Z h0 "java/lang/String" "COMPACT_STRINGS" "Z" (.int ui1)) (H1 : ¬ (ui1 = (0 : Int32))) (H2 : Fld Z h0 ra0 "java/lang/String" "coder" "B" (.int (0 : Int32))) :
    MetFree l (⟨"java/lang/String", "isLatin1", "()Z"⟩ : MethodName) (head1 (Jvm.Cond.code (⟨"java/lang/String", "isLatin1", "()Z"⟩ : MethodName) jdk_42_method_154_code 1 (some .boolean) :: ws) ({ frames := 0, cells := 0, slots := 0, locals := 0 } : Room)) (fun a U => a = #[(.ref ra0)] ∧ Z.Warmed39 U.vm ∧ U.heap = h0) (fun _ _ _ _ _ => True) (fun _ U o U' => ∃ v L, o = .returned v ∧ Q33x56 Z ra0 ui1 h0 n0 v U'.heap L ∧ FrameEnd U o U' L ({ frames := 0, cells := 0, slots := 0, locals := 0 } : Room).cells ({ frames := 0, cells := 0, slots := 0, locals := 0 } : Room).slots) := by
  refine MetFree.of_bodySF (plainFor_of_name pn_java_lang_String) hisR ?_
  intro p e s m args below meth c s₁ Bd hml0 hP hK
  obtain ⟨rfl, hZ, hh⟩ := hP
  have hx := Bd.exec
  have hby := Bd.bytes
  have hml : c.maxLocals = 1 := hml0
  have hown : s.vm.findClass "java/lang/String" = some m.cls := findClass_of_methodNamed Bd.named
  have hnm := (name_of_methodNamed Bd.named Bd.method).1
  have X0 : Stand p l e ({ frames := 0, cells := 0, slots := 0, locals := 0 } : Room) s m #[(.ref ra0)] below meth c s₁ [] 0 0 := Stand.of_body Bd
  have e0 : s₁.heap = h0 := by rw [← hh, Bd.state]; rfl
  have N0 := Fr.nil n0
  have pre0 : ∀ t, Steps p.tables e below (s₁.setTop (mkF m 0 #[.val (.ref ra0)] [])) t → Steps p.tables e below (s₁.setTop (entryFrame m #[(.ref ra0)] 1)) t := fun t k => castTop (ef_33x56 m ra0) k
  obtain ⟨T101, X101, e101, st101⟩ := getS2 X0 hx hZ hown (host := "") (Or.inl (hw _ (List.mem_of_getElem? (i := 125) rfl))) Via.refl e0 H0 (g := (mkF m 0 #[.val (.ref ra0)] [])) rfl (hb hby d33_0)
  obtain ⟨T102, X102, e102, st102⟩ := getF X101 hx hZ hown (host := "") (Or.inl (hw _ (List.mem_of_getElem? (i := 126) rfl))) Via.refl e101 H2 (g := (mkF m 7 #[.val (.ref ra0)] [(.ref ra0)])) rfl rfl (hb hby d33_7)
  obtain ⟨fs, hr, hrun, hended, hW, hsame⟩ := X102.leave (v := some (.int (1 : Int32))) (fun h => by rw [Bd.returns] at h; cases h)
  refine ⟨_, _, pre0 _ ?_, hrun, hended, _, _, rfl, ?_, ⟨_, rfl⟩, hW, hsame.mono (by decide) (by decide)⟩
  · skip
    show Steps p.tables e below (s₁.setTop (mkF m 0 #[.val (.ref ra0)] [])) _
    refine st101 _ ?_
    show Steps p.tables e below (T101.setTop (mkF m 3 #[.val (.ref ra0)] [(.int ui1)])) _
    refine XS.ifNo X101.here hx rfl (hb hby d33_3) rfl ((if0 _ _).trans (feq (H1 : ¬ (ui1 = (0 : Int32)))).1) ?_
    show Steps p.tables e below (T101.setTop (mkF m 6 #[.val (.ref ra0)] [])) _
    refine XS.aloadN X101.here hx rfl (hb hby d33_6) rfl rfl ?_
    show Steps p.tables e below (T101.setTop (mkF m 7 #[.val (.ref ra0)] [(.ref ra0)])) _
    refine st102 _ ?_
    show Steps p.tables e below (T102.setTop (mkF m 10 #[.val (.ref ra0)] [(.int (0 : Int32))])) _
    refine XS.ifNo X102.here hx rfl (hb hby d33_10) rfl ((if0 _ _).trans (teq (by decide : (0 : Int32) = (0 : Int32))).2) ?_
    show Steps p.tables e below (T102.setTop (mkF m 13 #[.val (.ref ra0)] [])) _
    refine XS.iconst X102.here hx rfl (hb hby d33_13) ?_
    show Steps p.tables e below (T102.setTop (mkF m 14 #[.val (.ref ra0)] [(.int (1 : Int32))])) _
    refine XS.goto X102.here hx rfl (pc0 := 14) (pc' := 18) rfl (hb hby d33_14) (by decide) (by decide) ?_
    show Steps p.tables e below (T102.setTop (mkF m 18 #[.val (.ref ra0)] [(.int (1 : Int32))])) _
    exact retN X102 hx (t := .boolean) Bd.returns (by simp) (hb hby d33_18) hr
  · show Q33x56 Z ra0 ui1 h0 n0 _ T102.heap _
    rw [e102]
    exact ⟨rfl, N0, rfl⟩
theorem ef_36x59 (m : MethodId) (wv2 : Value) (hc_wv2 : wv2.category = 1) : entryFrame m #[(.int (2 : Int32)), (.int (5 : Int32)), wv2] 3 = mkF m 0 #[.val (.int (2 : Int32)), .val (.int (5 : Int32)), .val wv2] [] := by first | (simp [entryFrame, mkF, argsToLocals, own_catI, own_catJ, own_catR, own_catN, own_catD, hc_wv2]; done) | rfl
def Q36x59 (Z : State) (wv2 : Value) (h0 : Heap) (n0 : Nat) (v : Option Value) (h : Heap) (L : List Loc) : Prop := v = some (.int (2 : Int32)) ∧ Fr n0 L ∧ h = h0
set_option maxRecDepth 65536 in
set_option maxHeartbeats 40000000 in
theorem rm36x59 (l : Launch) (Z : State) (a0 : Array Value) (hw : ∀ d ∈ tables_1, d.before a0 Z = true) (ws : List Jvm.Cond) (wv2 : Value) (h0 : Heap) (n0 : Nat) (Z0 : n0 ≤ h0.size) (H0 : wv2.category = 1) :
    MetFree l (⟨"jdk/internal/util/Preconditions", "checkIndex", "(IILjava/util/function/BiFunction;)I"⟩ : MethodName) (head1 (Jvm.Cond.code (⟨"jdk/internal/util/Preconditions", "checkIndex", "(IILjava/util/function/BiFunction;)I"⟩ : MethodName) jdk_41_method_11_code 3 (some .int) :: ws) ({ frames := 0, cells := 0, slots := 0, locals := 0 } : Room)) (fun a U => a = #[(.int (2 : Int32)), (.int (5 : Int32)), wv2] ∧ Z.Warmed39 U.vm ∧ U.heap = h0) (fun _ _ _ _ _ => True) (fun _ U o U' => ∃ v L, o = .returned v ∧ Q36x59 Z wv2 h0 n0 v U'.heap L ∧ FrameEnd U o U' L ({ frames := 0, cells := 0, slots := 0, locals := 0 } : Room).cells ({ frames := 0, cells := 0, slots := 0, locals := 0 } : Room).slots) := by
  refine MetFree.of_bodySF (plainFor_of_name pn_jdk_internal_util_Preconditions) hisR ?_
  intro p e s m args below meth c s₁ Bd hml0 hP hK
  obtain ⟨rfl, hZ, hh⟩ := hP
  have hx := Bd.exec
  have hby := Bd.bytes
  have hml : c.maxLocals = 3 := hml0
  have hown : s.vm.findClass "jdk/internal/util/Preconditions" = some m.cls := findClass_of_methodNamed Bd.named
  have hnm := (name_of_methodNamed Bd.named Bd.method).1
  have X0 : Stand p l e ({ frames := 0, cells := 0, slots := 0, locals := 0 } : Room) s m #[(.int (2 : Int32)), (.int (5 : Int32)), wv2] below meth c s₁ [] 0 0 := Stand.of_body Bd
  have e0 : s₁.heap = h0 := by rw [← hh, Bd.state]; rfl
  have N0 := Fr.nil n0
  have pre0 : ∀ t, Steps p.tables e below (s₁.setTop (mkF m 0 #[.val (.int (2 : Int32)), .val (.int (5 : Int32)), .val wv2] [])) t → Steps p.tables e below (s₁.setTop (entryFrame m #[(.int (2 : Int32)), (.int (5 : Int32)), wv2] 3)) t := fun t k => castTop (ef_36x59 m wv2 H0) k
  obtain ⟨fs, hr, hrun, hended, hW, hsame⟩ := X0.leave (v := some (.int (2 : Int32))) (fun h => by rw [Bd.returns] at h; cases h)
  refine ⟨_, _, pre0 _ ?_, hrun, hended, _, _, rfl, ?_, ⟨_, rfl⟩, hW, hsame.mono (by decide) (by decide)⟩
  · skip
    show Steps p.tables e below (s₁.setTop (mkF m 0 #[.val (.int (2 : Int32)), .val (.int (5 : Int32)), .val wv2] [])) _
    refine XS.iloadN X0.here hx rfl (hb hby d36_0) rfl ?_
    show Steps p.tables e below (s₁.setTop (mkF m 1 #[.val (.int (2 : Int32)), .val (.int (5 : Int32)), .val wv2] [(.int (2 : Int32))])) _
    refine XS.ifNo X0.here hx rfl (hb hby d36_1) rfl ((if0 _ _).trans (flt (by decide : ¬ ((2 : Int32) < (0 : Int32)))).1) ?_
    show Steps p.tables e below (s₁.setTop (mkF m 4 #[.val (.int (2 : Int32)), .val (.int (5 : Int32)), .val wv2] [])) _
    refine XS.iloadN X0.here hx rfl (hb hby d36_4) rfl ?_
    show Steps p.tables e below (s₁.setTop (mkF m 5 #[.val (.int (2 : Int32)), .val (.int (5 : Int32)), .val wv2] [(.int (2 : Int32))])) _
    refine XS.iloadN X0.here hx rfl (hb hby d36_5) rfl ?_
    show Steps p.tables e below (s₁.setTop (mkF m 6 #[.val (.int (2 : Int32)), .val (.int (5 : Int32)), .val wv2] [(.int (5 : Int32)), (.int (2 : Int32))])) _
    refine XS.icmpYes X0.here hx rfl (pc0 := 6) (pc' := 16) rfl (hb hby d36_6) rfl (tlt (by decide : (2 : Int32) < (5 : Int32))).1 (by decide) (by decide) ?_
    show Steps p.tables e below (s₁.setTop (mkF m 16 #[.val (.int (2 : Int32)), .val (.int (5 : Int32)), .val wv2] [])) _
    refine XS.iloadN X0.here hx rfl (hb hby d36_16) rfl ?_
    show Steps p.tables e below (s₁.setTop (mkF m 17 #[.val (.int (2 : Int32)), .val (.int (5 : Int32)), .val wv2] [(.int (2 : Int32))])) _
    exact retI X0 hx Bd.returns (hb hby d36_17) hr
  · show Q36x59 Z wv2 h0 n0 _ s₁.heap _
    rw [e0]
    exact ⟨rfl, N0, rfl⟩
theorem ef_35x58 (m : MethodId)  : entryFrame m #[(.int (2 : Int32)), (.int (5 : Int32))] 2 = mkF m 0 #[.val (.int (2 : Int32)), .val (.int (5 : Int32))] [] := by first | (simp [entryFrame, mkF, argsToLocals, Value.category]; done) | rfl
def Q35x58 (Z : State) (uv1 : Value) (h0 : Heap) (n0 : Nat) (v : Option Value) (h : Heap) (L : List Loc) : Prop := v = none ∧ Fr n0 L ∧ h = h0
set_option maxRecDepth 65536 in
set_option maxHeartbeats 40000000 in
theorem rm35x58 (l : Launch) (Z : State) (a0 : Array Value) (hw : ∀ d ∈ tables_1, d.before a0 Z = true) (ws : List Jvm.Cond) (uv1 : Value) (h0 : Heap) (n0 : Nat) (Z0 : n0 ≤ h0.size) (H0 : Sta Z h0 "jdk/internal/util/Preconditions" "SIOOBE_FORMATTER" "Ljava/util/function/BiFunction;" uv1) (H1 : uv1.category = 1) :
    MetFree l (⟨"java/lang/String", "checkIndex", "(II)V"⟩ : MethodName) (head1 (Jvm.Cond.code (⟨"java/lang/String", "checkIndex", "(II)V"⟩ : MethodName) jdk_42_method_155_code 2 none :: ws) ({ frames := 1, cells := 0, slots := 0, locals := 14 } : Room)) (fun a U => a = #[(.int (2 : Int32)), (.int (5 : Int32))] ∧ Z.Warmed39 U.vm ∧ U.heap = h0) (fun _ _ _ _ _ => True) (fun _ U o U' => ∃ v L, o = .returned v ∧ Q35x58 Z uv1 h0 n0 v U'.heap L ∧ FrameEnd U o U' L ({ frames := 1, cells := 0, slots := 0, locals := 14 } : Room).cells ({ frames := 1, cells := 0, slots := 0, locals := 14 } : Room).slots) := by
  refine MetFree.of_bodySF (plainFor_of_name pn_java_lang_String) hisR ?_
  intro p e s m args below meth c s₁ Bd hml0 hP hK
  obtain ⟨rfl, hZ, hh⟩ := hP
  have hx := Bd.exec
  have hby := Bd.bytes
  have hml : c.maxLocals = 2 := hml0
  have hown : s.vm.findClass "java/lang/String" = some m.cls := findClass_of_methodNamed Bd.named
  have hnm := (name_of_methodNamed Bd.named Bd.method).1
  have X0 : Stand p l e ({ frames := 1, cells := 0, slots := 0, locals := 14 } : Room) s m #[(.int (2 : Int32)), (.int (5 : Int32))] below meth c s₁ [] 0 0 := Stand.of_body Bd
  have e0 : s₁.heap = h0 := by rw [← hh, Bd.state]; rfl
  have N0 := Fr.nil n0
  have pre0 : ∀ t, Steps p.tables e below (s₁.setTop (mkF m 0 #[.val (.int (2 : Int32)), .val (.int (5 : Int32))] [])) t → Steps p.tables e below (s₁.setTop (entryFrame m #[(.int (2 : Int32)), (.int (5 : Int32))] 2)) t := fun t k => castTop (ef_35x58 m ) k
  obtain ⟨T101, X101, e101, st101⟩ := getS2 X0 hx hZ hown (host := "") (Or.inl (hw _ (List.mem_of_getElem? (i := 209) rfl))) Via.refl e0 H0 (g := (mkF m 2 #[.val (.int (2 : Int32)), .val (.int (5 : Int32))] [(.int (5 : Int32)), (.int (2 : Int32))])) rfl (hb hby d35_2)
  obtain ⟨_, _, ⟨T102, L102, k102, n102⟩, -, X102, ⟨Lc102, hQ102, l102, y102, z102⟩, st102⟩ := Jvm.LawKit.callS X101 hx (y := (⟨"jdk/internal/util/Preconditions", "checkIndex", "(IILjava/util/function/BiFunction;)I"⟩ : MethodName)) hown (mvT hZ (hw _ (List.mem_of_getElem? (i := 211) rfl))) (mvT hZ (hw _ (List.mem_of_getElem? (i := 212) rfl))) (mvT hZ (hw _ (List.mem_of_getElem? (i := 210) rfl))) (mvT hZ (hw _ (List.mem_of_getElem? (i := 213) rfl))) (by decide) (backOf (W := 0) (rm36x59 l Z a0 hw [] uv1 h0 n0 Z0 H1) hZ (hw _ (List.mem_of_getElem? (i := 213) rfl)) (hw _ (List.mem_of_getElem? (i := 210) rfl)) (by decide) (by decide)) (g := (mkF m 5 #[.val (.int (2 : Int32)), .val (.int (5 : Int32))] [uv1, (.int (5 : Int32)), (.int (2 : Int32))])) rfl (by rw [hml]; rfl) (argsL := [(.int (2 : Int32)), (.int (5 : Int32)), uv1]) (rest := []) (lenOf pd_23 rfl) rfl (by show 2 * 0 + _ ≤ _; exact Nat.le_of_eq rfl) (hb hby d35_5) (fun _ _ => ⟨rfl, e101, (by decide : 0 + 0 ≤ _), (by decide : 0 + 0 ≤ _)⟩)
  dsimp only [Pt.U, Pt.locs, Pt.cells, Pt.slots] at X102 l102 y102 z102 st102 hQ102
  subst l102 y102 z102
  obtain ⟨rfl, Nq102, Heq102⟩ := hQ102
  have N102 := Fr.app N0 Nq102
  obtain ⟨fs, hr, hrun, hended, hW, hsame⟩ := X102.leave (v := none) (fun _ => rfl)
  refine ⟨_, _, pre0 _ ?_, hrun, hended, _, _, rfl, ?_, ⟨_, rfl⟩, hW, hsame.mono (by decide) (by decide)⟩
  · skip
    show Steps p.tables e below (s₁.setTop (mkF m 0 #[.val (.int (2 : Int32)), .val (.int (5 : Int32))] [])) _
    refine XS.iloadN X0.here hx rfl (hb hby d35_0) rfl ?_
    show Steps p.tables e below (s₁.setTop (mkF m 1 #[.val (.int (2 : Int32)), .val (.int (5 : Int32))] [(.int (2 : Int32))])) _
    refine XS.iloadN X0.here hx rfl (hb hby d35_1) rfl ?_
    show Steps p.tables e below (s₁.setTop (mkF m 2 #[.val (.int (2 : Int32)), .val (.int (5 : Int32))] [(.int (5 : Int32)), (.int (2 : Int32))])) _
    refine st101 _ ?_
    show Steps p.tables e below (T101.setTop (mkF m 5 #[.val (.int (2 : Int32)), .val (.int (5 : Int32))] [uv1, (.int (5 : Int32)), (.int (2 : Int32))])) _
    refine st102 _ ?_
    show Steps p.tables e below (T102.setTop (mkF m 8 #[.val (.int (2 : Int32)), .val (.int (5 : Int32))] [(.int (2 : Int32))])) _
    refine XS.pop X102.here hx rfl (hb hby d35_8) rfl rfl ?_
    show Steps p.tables e below (T102.setTop (mkF m 9 #[.val (.int (2 : Int32)), .val (.int (5 : Int32))] [])) _
    exact X102.returnOut hx Bd.returns (hb hby d35_9) hr
  · show Q35x58 Z uv1 h0 n0 _ T102.heap _
    rw [Heq102]
    exact ⟨rfl, N102, rfl⟩
theorem ef_34x57 (m : MethodId) (ra0 : Addr) : entryFrame m #[(.ref ra0), (.int (2 : Int32))] 2 = mkF m 0 #[.val (.ref ra0), .val (.int (2 : Int32))] [] := by first | (simp [entryFrame, mkF, argsToLocals, Value.category]; done) | rfl
def Q34x57 (Z : State) (ra0 : Addr) (uk1 : ClassId) (uv2 : Value) (h0 : Heap) (n0 : Nat) (v : Option Value) (h : Heap) (L : List Loc) : Prop := v = some (.int (45 : Int32)) ∧ Fr n0 L ∧ h = h0
set_option maxRecDepth 65536 in
set_option maxHeartbeats 40000000 in
theorem rm34x57 (l : Launch) (Z : State) (a0 : Array Value) (hw : ∀ d ∈ tables_1, d.before a0 Z = true) (ws : List Jvm.Cond) (ra0 : Addr) (uk1 : ClassId) (uv2 : Value) (h0 : Heap) (n0 : Nat) (Z0 : n0 ≤ h0.size) (H0 : Arv Z h0 ra0 uk1 .byte (5 : Int32) [(.int (53 : Int32)), (.int (48 : Int32)), (.int (45 : Int32)), (.int (53 : Int32)), (.int (57 : Int32))] (.int (0 : Int32))) (H1 : Sta Z h0 "jdk/internal/util/Preconditions" "SIOOBE_FORMATTER" "Ljava/util/function/BiFunction;" uv2) (H2 : uv2.category = 1) :
    MetFree l (⟨"java/lang/StringLatin1", "charAt", "([BI)C"⟩ : MethodName) (head1 (Jvm.Cond.code (⟨"java/lang/StringLatin1", "charAt", "([BI)C"⟩ : MethodName) jdk_43_method_2_code 2 (some .char) :: ws) ({ frames := 2, cells := 0, slots := 0, locals := 27 } : Room)) (fun a U => a = #[(.ref ra0), (.int (2 : Int32))] ∧ Z.Warmed39 U.vm ∧ U.heap = h0) (fun _ _ _ _ _ => True) (fun _ U o U' => ∃ v L, o = .returned v ∧ Q34x57 Z ra0 uk1 uv2 h0 n0 v U'.heap L ∧ FrameEnd U o U' L ({ frames := 2, cells := 0, slots := 0, locals := 27 } : Room).cells ({ frames := 2, cells := 0, slots := 0, locals := 27 } : Room).slots) := by
  refine MetFree.of_bodySF (plainFor_of_name pn_java_lang_StringLatin1) hisR ?_
  intro p e s m args below meth c s₁ Bd hml0 hP hK
  obtain ⟨rfl, hZ, hh⟩ := hP
  have hx := Bd.exec
  have hby := Bd.bytes
  have hml : c.maxLocals = 2 := hml0
  have hown : s.vm.findClass "java/lang/StringLatin1" = some m.cls := findClass_of_methodNamed Bd.named
  have hnm := (name_of_methodNamed Bd.named Bd.method).1
  have X0 : Stand p l e ({ frames := 2, cells := 0, slots := 0, locals := 27 } : Room) s m #[(.ref ra0), (.int (2 : Int32))] below meth c s₁ [] 0 0 := Stand.of_body Bd
  have e0 : s₁.heap = h0 := by rw [← hh, Bd.state]; rfl
  have N0 := Fr.nil n0
  have pre0 : ∀ t, Steps p.tables e below (s₁.setTop (mkF m 0 #[.val (.ref ra0), .val (.int (2 : Int32))] [])) t → Steps p.tables e below (s₁.setTop (entryFrame m #[(.ref ra0), (.int (2 : Int32))] 2)) t := fun t k => castTop (ef_34x57 m ra0) k
  obtain ⟨cl101, Ar101, -, S101, M101, -, -⟩ := id H0
  obtain ⟨_, _, ⟨T102, L102, k102, n102⟩, -, X102, ⟨Lc102, hQ102, l102, y102, z102⟩, st102⟩ := Jvm.LawKit.callS X0 hx (y := (⟨"java/lang/String", "checkIndex", "(II)V"⟩ : MethodName)) hown (mvT hZ (hw _ (List.mem_of_getElem? (i := 206) rfl))) (mvT hZ (hw _ (List.mem_of_getElem? (i := 207) rfl))) (mvT hZ (hw _ (List.mem_of_getElem? (i := 62) rfl))) (mvT hZ (hw _ (List.mem_of_getElem? (i := 208) rfl))) (by decide) (backOf (W := 0) (rm35x58 l Z a0 hw [] uv2 h0 n0 Z0 H1 H2) hZ (hw _ (List.mem_of_getElem? (i := 208) rfl)) (hw _ (List.mem_of_getElem? (i := 62) rfl)) (by decide) (by decide)) (g := (mkF m 3 #[.val (.ref ra0), .val (.int (2 : Int32))] [(.int (5 : Int32)), (.int (2 : Int32))])) rfl (by rw [hml]; rfl) (argsL := [(.int (2 : Int32)), (.int (5 : Int32))]) (rest := []) (lenOf pd_16 rfl) rfl (by show 2 * 0 + _ ≤ _; exact Nat.le_of_eq rfl) (hb hby d34_3) (fun _ _ => ⟨rfl, e0, (by decide : 0 + 0 ≤ _), (by decide : 0 + 0 ≤ _)⟩)
  dsimp only [Pt.U, Pt.locs, Pt.cells, Pt.slots] at X102 l102 y102 z102 st102 hQ102
  subst l102 y102 z102
  obtain ⟨rfl, Nq102, Heq102⟩ := hQ102
  have N102 := Fr.app N0 Nq102
  obtain ⟨cl103, Ar103, qc103, S103, M103, Hh103, G103⟩ := id H0
  have hin103 : ¬ ((2 : Int32) < 0 ∨ cl103.slots.size ≤ ((2 : Int32)).toNatClampNeg) := inb_of S103 ⟨by decide, by decide⟩
  obtain ⟨fs, hr, hrun, hended, hW, hsame⟩ := X102.leave (v := some (.int (45 : Int32))) (fun h => by rw [Bd.returns] at h; cases h)
  refine ⟨_, _, pre0 _ ?_, hrun, hended, _, _, rfl, ?_, ⟨_, rfl⟩, hW, hsame.mono (by decide) (by decide)⟩
  · skip
    show Steps p.tables e below (s₁.setTop (mkF m 0 #[.val (.ref ra0), .val (.int (2 : Int32))] [])) _
    refine XS.iloadN X0.here hx rfl (hb hby d34_0) rfl ?_
    show Steps p.tables e below (s₁.setTop (mkF m 1 #[.val (.ref ra0), .val (.int (2 : Int32))] [(.int (2 : Int32))])) _
    refine XS.aloadN X0.here hx rfl (hb hby d34_1) rfl rfl ?_
    show Steps p.tables e below (s₁.setTop (mkF m 2 #[.val (.ref ra0), .val (.int (2 : Int32))] [(.ref ra0), (.int (2 : Int32))])) _
    refine X0.arraylength hx (by rw [e0]; exact Ar101.1) (State.isArrayOf_alike hZ.alike Ar101.2.1) (g := (mkF m 2 #[.val (.ref ra0), .val (.int (2 : Int32))] [(.ref ra0), (.int (2 : Int32))])) rfl rfl (hb hby d34_2) _ ?_
    rw [len_of S101 M101]
    show Steps p.tables e below (s₁.setTop (mkF m 3 #[.val (.ref ra0), .val (.int (2 : Int32))] [(.int (5 : Int32)), (.int (2 : Int32))])) _
    refine st102 _ ?_
    show Steps p.tables e below (T102.setTop (mkF m 6 #[.val (.ref ra0), .val (.int (2 : Int32))] [])) _
    refine XS.aloadN X102.here hx rfl (hb hby d34_6) rfl rfl ?_
    show Steps p.tables e below (T102.setTop (mkF m 7 #[.val (.ref ra0), .val (.int (2 : Int32))] [(.ref ra0)])) _
    refine XS.iloadN X102.here hx rfl (hb hby d34_7) rfl ?_
    show Steps p.tables e below (T102.setTop (mkF m 8 #[.val (.ref ra0), .val (.int (2 : Int32))] [(.int (2 : Int32)), (.ref ra0)])) _
    refine X102.baloadBytes hx (j := (2 : Int32)) (v := (.int (45 : Int32))) (by rw [Heq102]; exact Ar103.1) (State.isArrayOf_alike hZ.alike Ar103.2.1) Ar103.2.2 hin103 (Hh103.at hin103 (rfl)) (g := (mkF m 8 #[.val (.ref ra0), .val (.int (2 : Int32))] [(.int (2 : Int32)), (.ref ra0)])) rfl rfl (hb hby d34_8) _ ?_
    show Steps p.tables e below (T102.setTop (mkF m 9 #[.val (.ref ra0), .val (.int (2 : Int32))] [(.int (45 : Int32))])) _
    refine XS.sipush X102.here hx rfl (hb hby d34_9) ?_
    show Steps p.tables e below (T102.setTop (mkF m 12 #[.val (.ref ra0), .val (.int (2 : Int32))] [(.int (255 : Int32)), (.int (45 : Int32))])) _
    refine XS.iand X102.here hx rfl (hb hby d34_12) rfl ?_
    show Steps p.tables e below (T102.setTop (mkF m 13 #[.val (.ref ra0), .val (.int (2 : Int32))] [(.int ((45 : Int32) &&& (255 : Int32)))])) _
    rw [show ((45 : Int32) &&& (255 : Int32)) = (45 : Int32) from by decide]
    show Steps p.tables e below (T102.setTop (mkF m 13 #[.val (.ref ra0), .val (.int (2 : Int32))] [(.int (45 : Int32))])) _
    refine XS.i2c X102.here hx rfl (hb hby d34_13) rfl ?_
    show Steps p.tables e below (T102.setTop (mkF m 14 #[.val (.ref ra0), .val (.int (2 : Int32))] [(.int ((45 : Int32).toUInt32.toUInt16.toUInt32.toInt32))])) _
    rw [show ((45 : Int32).toUInt32.toUInt16.toUInt32.toInt32) = (45 : Int32) from by decide]
    show Steps p.tables e below (T102.setTop (mkF m 14 #[.val (.ref ra0), .val (.int (2 : Int32))] [(.int (45 : Int32))])) _
    exact retN X102 hx (t := .char) Bd.returns (by simp) (hb hby d34_14) hr
  · show Q34x57 Z ra0 uk1 uv2 h0 n0 _ T102.heap _
    rw [Heq102]
    exact ⟨rfl, N102, rfl⟩
theorem ef_32x55 (m : MethodId) (ra0 : Addr) : entryFrame m #[(.ref ra0), (.int (2 : Int32))] 2 = mkF m 0 #[.val (.ref ra0), .val (.int (2 : Int32))] [] := by first | (simp [entryFrame, mkF, argsToLocals, Value.category]; done) | rfl
def Q32x55 (Z : State) (ra0 : Addr) (ui1 : Int32) (uo2 : Addr) (uk3 : ClassId) (uv4 : Value) (h0 : Heap) (n0 : Nat) (v : Option Value) (h : Heap) (L : List Loc) : Prop := v = some (.int (45 : Int32)) ∧ Fr n0 L ∧ h = h0
set_option maxRecDepth 65536 in
set_option maxHeartbeats 40000000 in
theorem rm32x55 (l : Launch) (Z : State) (a0 : Array Value) (hw : ∀ d ∈ tables_1, d.before a0 Z = true) (ws : List Jvm.Cond) (ra0 : Addr) (ui1 : Int32) (uo2 : Addr) (uk3 : ClassId) (uv4 : Value) (h0 : Heap) (n0 : Nat) (Z0 : n0 ≤ h0.size) (H0 : Exa Z h0 ra0 "java/lang/String") (H1 : Sta Z h0 "java/lang/String" "COMPACT_STRINGS" "Z" (.int ui1)) (H2 : ¬ (ui1 = (0 : Int32))) (H3 : Fld Z h0 ra0 "java/lang/String" "coder" "B" (.int (0 : Int32))) (H4 : Fld Z h0 ra0 "java/lang/String" "value" "[B" (.ref uo2)) (H5 : Arv Z h0 uo2 uk3 .byte (5 : Int32) [(.int (53 : Int32)), (.int (48 : Int32)), (.int (45 : Int32)), (.int (53 : Int32)), (.int (57 : Int32))] (.int (0 : Int32))) (H6 : Sta Z h0 "jdk/internal/util/Preconditions" "SIOOBE_FORMATTER" "Ljava/util/function/BiFunction;" uv4) (H7 : uv4.category = 1) :
    MetFree l (⟨"java/lang/String", "charAt", "(I)C"⟩ : MethodName) (head1 (Jvm.Cond.code (⟨"java/lang/String", "charAt", "(I)C"⟩ : MethodName) jdk_42_method_56_code 2 (some .char) :: ws) ({ frames := 3, cells := 0, slots := 0, locals := 40 } : Room)) (fun a U => a = #[(.ref ra0), (.int (2 : Int32))] ∧ Z.Warmed39 U.vm ∧ U.heap = h0) (fun _ _ _ _ _ => True) (fun _ U o U' => ∃ v L, o = .returned v ∧ Q32x55 Z ra0 ui1 uo2 uk3 uv4 h0 n0 v U'.heap L ∧ FrameEnd U o U' L ({ frames := 3, cells := 0, slots := 0, locals := 40 } : Room).cells ({ frames := 3, cells := 0, slots := 0, locals := 40 } : Room).slots) := by
  refine MetFree.of_bodySF (plainFor_of_name pn_java_lang_String) hisR ?_
  intro p e s m args below meth c s₁ Bd hml0 hP hK
  obtain ⟨rfl, hZ, hh⟩ := hP
  have hx := Bd.exec
  have hby := Bd.bytes
  have hml : c.maxLocals = 2 := hml0
  have hown : s.vm.findClass "java/lang/String" = some m.cls := findClass_of_methodNamed Bd.named
  have hnm := (name_of_methodNamed Bd.named Bd.method).1
  have X0 : Stand p l e ({ frames := 3, cells := 0, slots := 0, locals := 40 } : Room) s m #[(.ref ra0), (.int (2 : Int32))] below meth c s₁ [] 0 0 := Stand.of_body Bd
  have e0 : s₁.heap = h0 := by rw [← hh, Bd.state]; rfl
  have N0 := Fr.nil n0
  have pre0 : ∀ t, Steps p.tables e below (s₁.setTop (mkF m 0 #[.val (.ref ra0), .val (.int (2 : Int32))] [])) t → Steps p.tables e below (s₁.setTop (entryFrame m #[(.ref ra0), (.int (2 : Int32))] 2)) t := fun t k => castTop (ef_32x55 m ra0) k
  obtain ⟨cq101, kq101, q101a, q101b, q101c⟩ := isOf hZ e0 H0
  obtain ⟨_, _, ⟨T101, L101, k101, n101⟩, -, X101, ⟨Lc101, hQ101, l101, y101, z101⟩, st101⟩ := X0.virtualBack hx (y := (⟨"java/lang/String", "isLatin1", "()Z"⟩ : MethodName)) (z := (⟨"java/lang/String", "isLatin1", "()Z"⟩ : MethodName)) hown (mvT hZ (hw _ (List.mem_of_getElem? (i := 197) rfl))) (mvT hZ (hw _ (List.mem_of_getElem? (i := 198) rfl))) (notFace_of_selects (args := #[]) (mvT hZ (hw _ (List.mem_of_getElem? (i := 200) rfl)))) (mvT hZ (hw _ (List.mem_of_getElem? (i := 200) rfl))) (mvT hZ (hw _ (List.mem_of_getElem? (i := 199) rfl))) (by decide) (backOf (W := 0) (rm33x56 l Z a0 hw [] ra0 ui1 h0 n0 Z0 H1 H2 H3) hZ (hw _ (List.mem_of_getElem? (i := 201) rfl)) (hw _ (List.mem_of_getElem? (i := 62) rfl)) (by decide) (by decide)) q101a q101c (g := (mkF m 1 #[.val (.ref ra0), .val (.int (2 : Int32))] [(.ref ra0)])) rfl (by rw [hml]; rfl) (Steps.refl _) (argsL := []) (rest := []) (lenOf pd_4 rfl) rfl (by show 2 * 0 + _ ≤ _; exact Nat.le_of_eq rfl) (hb hby d32_1) (fun _ _ => ⟨rfl, e0, (by decide : 0 + 0 ≤ _), (by decide : 0 + 0 ≤ _)⟩)
  dsimp only [Pt.U, Pt.locs, Pt.cells, Pt.slots] at X101 l101 y101 z101 st101 hQ101
  subst l101 y101 z101
  obtain ⟨rfl, Nq101, Heq101⟩ := hQ101
  have N101 := Fr.app N0 Nq101
  obtain ⟨T102, X102, e102, st102⟩ := getF X101 hx hZ hown (host := "") (Or.inl (hw _ (List.mem_of_getElem? (i := 119) rfl))) Via.refl Heq101 H4 (g := (mkF m 8 #[.val (.ref ra0), .val (.int (2 : Int32))] [(.ref ra0)])) rfl rfl (hb hby d32_8)
  obtain ⟨_, _, ⟨T103, L103, k103, n103⟩, -, X103, ⟨Lc103, hQ103, l103, y103, z103⟩, st103⟩ := Jvm.LawKit.callS X102 hx (y := (⟨"java/lang/StringLatin1", "charAt", "([BI)C"⟩ : MethodName)) hown (mvT hZ (hw _ (List.mem_of_getElem? (i := 202) rfl))) (mvT hZ (hw _ (List.mem_of_getElem? (i := 203) rfl))) (mvT hZ (hw _ (List.mem_of_getElem? (i := 204) rfl))) (mvT hZ (hw _ (List.mem_of_getElem? (i := 205) rfl))) (by decide) (backOf (W := 0) (rm34x57 l Z a0 hw [] uo2 uk3 uv4 h0 n0 Z0 H5 H6 H7) hZ (hw _ (List.mem_of_getElem? (i := 205) rfl)) (hw _ (List.mem_of_getElem? (i := 204) rfl)) (by decide) (by decide)) (g := (mkF m 12 #[.val (.ref ra0), .val (.int (2 : Int32))] [(.int (2 : Int32)), (.ref uo2)])) rfl (by rw [hml]; rfl) (argsL := [(.ref uo2), (.int (2 : Int32))]) (rest := []) (lenOf pd_24 rfl) rfl (by show 2 * 0 + _ ≤ _; exact Nat.le_of_eq rfl) (hb hby d32_12) (fun _ _ => ⟨rfl, e102, (by decide : 0 + 0 ≤ _), (by decide : 0 + 0 ≤ _)⟩)
  dsimp only [Pt.U, Pt.locs, Pt.cells, Pt.slots] at X103 l103 y103 z103 st103 hQ103
  subst l103 y103 z103
  obtain ⟨rfl, Nq103, Heq103⟩ := hQ103
  have N103 := Fr.app N101 Nq103
  obtain ⟨fs, hr, hrun, hended, hW, hsame⟩ := X103.leave (v := some (.int (45 : Int32))) (fun h => by rw [Bd.returns] at h; cases h)
  refine ⟨_, _, pre0 _ ?_, hrun, hended, _, _, rfl, ?_, ⟨_, rfl⟩, hW, hsame.mono (by decide) (by decide)⟩
  · skip
    show Steps p.tables e below (s₁.setTop (mkF m 0 #[.val (.ref ra0), .val (.int (2 : Int32))] [])) _
    refine XS.aloadN X0.here hx rfl (hb hby d32_0) rfl rfl ?_
    show Steps p.tables e below (s₁.setTop (mkF m 1 #[.val (.ref ra0), .val (.int (2 : Int32))] [(.ref ra0)])) _
    refine st101.trans ?_
    show Steps p.tables e below (T101.setTop (mkF m 4 #[.val (.ref ra0), .val (.int (2 : Int32))] [(.int (1 : Int32))])) _
    refine XS.ifNo X101.here hx rfl (hb hby d32_4) rfl ((if0 _ _).trans (feq (by decide : ¬ ((1 : Int32) = (0 : Int32)))).1) ?_
    show Steps p.tables e below (T101.setTop (mkF m 7 #[.val (.ref ra0), .val (.int (2 : Int32))] [])) _
    refine XS.aloadN X101.here hx rfl (hb hby d32_7) rfl rfl ?_
    show Steps p.tables e below (T101.setTop (mkF m 8 #[.val (.ref ra0), .val (.int (2 : Int32))] [(.ref ra0)])) _
    refine st102 _ ?_
    show Steps p.tables e below (T102.setTop (mkF m 11 #[.val (.ref ra0), .val (.int (2 : Int32))] [(.ref uo2)])) _
    refine XS.iloadN X102.here hx rfl (hb hby d32_11) rfl ?_
    show Steps p.tables e below (T102.setTop (mkF m 12 #[.val (.ref ra0), .val (.int (2 : Int32))] [(.int (2 : Int32)), (.ref uo2)])) _
    refine st103 _ ?_
    show Steps p.tables e below (T103.setTop (mkF m 15 #[.val (.ref ra0), .val (.int (2 : Int32))] [(.int (45 : Int32))])) _
    exact retN X103 hx (t := .char) Bd.returns (by simp) (hb hby d32_15) hr
  · show Q32x55 Z ra0 ui1 uo2 uk3 uv4 h0 n0 _ T103.heap _
    rw [Heq103]
    exact ⟨rfl, N103, rfl⟩
theorem pn_com_example_ghostseat_ghostseat_modes_comics_TitleLeastForATitlePinLaw : plainName "com/example/ghostseat/ghostseat/modes/comics/TitleLeastForATitlePinLaw" = true := by first | (simp [plainName, overriddenIn]; done) | decide +kernel
theorem ef_0 (m : MethodId)  : entryFrame m #[] maxLocals = mkF m 0 #[.unset, .unset, .unset, .unset] [] := by first | (simp [entryFrame, mkF, argsToLocals, Value.category, maxLocals]; done) | rfl
def Q0 (Z : State) (cs : Int32) (d1 : Addr) (k1 : ClassId) (d2 : Addr) (k2 : ClassId) (hf : Addr) (el : Addr) (ek : ClassId) (o0 : Addr) (o1 : Addr) (o2 : Addr) (o3 : Addr) (o4 : Addr) (o5 : Addr) (o6 : Addr) (sf : Value) (h0 : Heap) (n0 : Nat) (v : Option Value) (h : Heap) (L : List Loc) : Prop := v = some (.int (1 : Int32)) ∧ Fr n0 L
set_option maxRecDepth 65536 in
set_option maxHeartbeats 40000000 in
theorem rm0 (l : Launch) (Z : State) (a0 : Array Value) (hw : ∀ d ∈ tables_1, d.before a0 Z = true) (ws : List Jvm.Cond) (hEL : EW Z a0 own_EL) (cs : Int32) (d1 : Addr) (k1 : ClassId) (d2 : Addr) (k2 : ClassId) (hf : Addr) (el : Addr) (ek : ClassId) (o0 : Addr) (o1 : Addr) (o2 : Addr) (o3 : Addr) (o4 : Addr) (o5 : Addr) (o6 : Addr) (sf : Value) (h0 : Heap) (n0 : Nat) (Z0 : n0 ≤ h0.size) (H0 : Sta Z h0 "java/lang/String" "COMPACT_STRINGS" "Z" (.int cs)) (H1 : ¬ (cs = (0 : Int32))) (H2 : Sta Z h0 "java/lang/Integer" "DigitOnes" "[B" (.ref d1)) (H3 : Arv Z h0 d1 k1 .byte (100 : Int32) own_ones (.int (0 : Int32))) (H4 : Sta Z h0 "java/lang/Integer" "DigitTens" "[B" (.ref d2)) (H5 : Arv Z h0 d2 k2 .byte (100 : Int32) own_tens (.int (0 : Int32))) (H6 : Sta Z h0 "com/example/ghostseat/ghostseat/modes/comics/Title" "HIGHEST_FIRST" "Ljava/util/List;" (.ref hf)) (H7 : Exa Z h0 hf "java/util/ImmutableCollections$ListN") (H8 : Fld Z h0 hf "java/util/ImmutableCollections$ListN" "elements" "[Ljava/lang/Object;" (.ref el)) (H9 : Arv Z h0 el ek (.object "java/lang/Object") (7 : Int32) [(.ref o0), (.ref o1), (.ref o2), (.ref o3), (.ref o4), (.ref o5), (.ref o6)] .null) (H10 : Sta Z h0 "com/example/ghostseat/ghostseat/modes/comics/Title" "PROOFREADER" "Lcom/example/ghostseat/ghostseat/modes/comics/Title;" (.ref o6)) (H11 : Exa Z h0 o6 "com/example/ghostseat/ghostseat/modes/comics/Title") (H12 : Fld Z h0 o6 "com/example/ghostseat/ghostseat/modes/comics/Title" "least" "I" (.int (50 : Int32))) (H13 : Fld Z h0 o6 "java/lang/Enum" "ordinal" "I" (.int (6 : Int32))) (H14 : Exa Z h0 o5 "com/example/ghostseat/ghostseat/modes/comics/Title") (H15 : Fld Z h0 o5 "com/example/ghostseat/ghostseat/modes/comics/Title" "least" "I" (.int (60 : Int32))) (H16 : Sta Z h0 "jdk/internal/util/Preconditions" "SIOOBE_FORMATTER" "Ljava/util/function/BiFunction;" sf) (H17 : sf.category = 1) :
    MetFree l x (head1 (Jvm.Cond.code x code maxLocals ret :: ws) room_1) (fun a U => a = #[] ∧ Z.Warmed39 U.vm ∧ U.heap = h0 ∧ CHv Z own_EL U.vm h0) (fun _ _ _ _ _ => True) (fun _ U o U' => ∃ v L, o = .returned v ∧ Q0 Z cs d1 k1 d2 k2 hf el ek o0 o1 o2 o3 o4 o5 o6 sf h0 n0 v U'.heap L ∧ CHr Z own_EL U.vm U.heap U'.vm U'.heap ∧ ReturnedEndW U o U' L room_1.cells room_1.slots) := by
  refine MetFree.of_bodySF (plainFor_of_name pn_com_example_ghostseat_ghostseat_modes_comics_TitleLeastForATitlePinLaw) hisR ?_
  intro p e s m args below meth c s₁ Bd hml0 hP hK
  obtain ⟨rfl, hZ, hh, hH⟩ := hP
  have hx := Bd.exec
  have hby := Bd.bytes
  have hml : c.maxLocals = 4 := hml0
  have hown : s.vm.findClass "com/example/ghostseat/ghostseat/modes/comics/TitleLeastForATitlePinLaw" = some m.cls := findClass_of_methodNamed Bd.named
  have hnm := (name_of_methodNamed Bd.named Bd.method).1
  have X0 : Stand p l e room_1 s m #[] below meth c s₁ [] 0 0 := Stand.of_body Bd
  have e0 : s₁.heap = h0 := by rw [← hh, Bd.state]; rfl
  have N0 := Fr.nil n0
  have X0 : Stand p l e room_1 (s.setVm s.vm) m #[] below meth c s₁ [] 0 0 := X0
  have hZ : Z.Warmed39 (s.setVm s.vm).vm := hZ
  have hown : (s.setVm s.vm).vm.findClass "com/example/ghostseat/ghostseat/modes/comics/TitleLeastForATitlePinLaw" = some m.cls := hown
  have hS0 : s.Since s.vm 0 := State.WarmedH.since (State.WarmedH.refl s) 0
  have Cr0 : CHr Z own_EL s.vm h0 s.vm h0 := CHr.refl hH
  have pre0 : ∀ t, Steps p.tables e below (s₁.setTop (mkF m 0 #[.unset, .unset, .unset, .unset] [])) t → Steps p.tables e below (s₁.setTop (entryFrame m #[] maxLocals)) t := fun t k => castTop (ef_0 m ) k
  obtain ⟨_, _, ⟨T101, L101, k101, n101⟩, -, X101, ⟨Lc101, hQ101, l101, y101, z101⟩, st101⟩ := Jvm.LawKit.callS X0 hx (y := (⟨"com/example/ghostseat/ghostseat/modes/comics/Title", "leastForATitle", "()I"⟩ : MethodName)) hown (mvT hZ (hw _ (List.mem_of_getElem? (i := 0) rfl))) (mvT hZ (hw _ (List.mem_of_getElem? (i := 1) rfl))) (mvT hZ (hw _ (List.mem_of_getElem? (i := 2) rfl))) (mvT hZ (hw _ (List.mem_of_getElem? (i := 3) rfl))) (by decide) (backOf (W := 0) (rm1x40 l Z a0 hw [] hf el o0 o1 o2 o3 o4 o5 o6 ek h0 n0 Z0 H6 H7 H8 H9 H11 H12) hZ (hw _ (List.mem_of_getElem? (i := 3) rfl)) (hw _ (List.mem_of_getElem? (i := 2) rfl)) (by decide) (by decide)) (g := (mkF m 0 #[.unset, .unset, .unset, .unset] [])) rfl (by rw [hml]; rfl) (argsL := []) (rest := []) (lenOf pd_0 rfl) rfl (by show 2 * 0 + _ ≤ _; exact Nat.le_of_eq rfl) (hb hby at_0) (fun _ _ => ⟨rfl, e0, (by decide : 0 + 0 ≤ _), (by decide : 0 + 0 ≤ _)⟩)
  dsimp only [Pt.U, Pt.locs, Pt.cells, Pt.slots] at X101 l101 y101 z101 st101 hQ101
  subst l101 y101 z101
  obtain ⟨rfl, Nq101, Heq101⟩ := hQ101
  have N101 := Fr.app N0 Nq101
  obtain ⟨T102, X102, e102, st102⟩ := getS2 X101 hx hZ hown (host := "") (Or.inl (hw _ (List.mem_of_getElem? (i := 31) rfl))) Via.refl Heq101 H10 (g := (mkF m 12 #[.val (.int (50 : Int32)), .unset, .unset, .unset] [])) rfl (hb hby at_12)
  obtain ⟨cq103, kq103, q103a, q103b, q103c⟩ := isOf hZ e102 H11
  obtain ⟨_, _, ⟨T103, L103, k103, n103⟩, -, X103, hS103', hgr103, ⟨Lc103, hQ103, l103, y103, z103, Cq103⟩, st103⟩ := X102.virtualBackS hx (y := (⟨"com/example/ghostseat/ghostseat/modes/comics/Title", "range", "()Ljava/lang/String;"⟩ : MethodName)) (z := (⟨"com/example/ghostseat/ghostseat/modes/comics/Title", "range", "()Ljava/lang/String;"⟩ : MethodName)) hown (mvT hZ (hw _ (List.mem_of_getElem? (i := 32) rfl))) (mvT hZ (hw _ (List.mem_of_getElem? (i := 33) rfl))) (notFace_of_selects (args := #[]) (mvT hZ (hw _ (List.mem_of_getElem? (i := 35) rfl)))) (mvT hZ (hw _ (List.mem_of_getElem? (i := 35) rfl))) (mvT hZ (hw _ (List.mem_of_getElem? (i := 34) rfl))) (by decide) (backOfSH (W := 0) (rm4 l Z a0 hw [] hEL o6 cs d1 k1 d2 k2 hf el ek o0 o1 o2 o3 o4 o5 h0 n0 Z0 H0 H1 H2 H3 H4 H5 H6 H7 H8 H9 H11 H12 H13 H14 H15) hZ (hw _ (List.mem_of_getElem? (i := 36) rfl)) (hw _ (List.mem_of_getElem? (i := 2) rfl)) (by decide) (by decide) hEL hH) q103a q103c (g := (mkF m 15 #[.val (.int (50 : Int32)), .unset, .unset, .unset] [(.ref o6)])) rfl (by rw [hml]; rfl) (Steps.refl _) (argsL := []) (rest := []) (lenOf pd_21 rfl) rfl (by show 2 * 0 + _ ≤ _; exact Nat.le_of_eq rfl) (hb hby at_15) (fun _ _ => ⟨rfl, e102, (by decide : 0 + 6 ≤ _), (by decide : 0 + 37 ≤ _)⟩)
  dsimp only [Pt.U, Pt.locs, Pt.cells, Pt.slots] at X103 l103 y103 z103 st103 hQ103 hS103' hgr103 Cq103
  subst l103 y103 z103
  obtain ⟨X103, hS103, hZ, hown⟩ := rebS hS0 (by rw [e102]; exact (Nat.zero_le _)) X103 hS103' hgr103 hZ hown
  have Cr103 := Cr0.trans Cq103
  have Hc103 := Cq103.1
  obtain ⟨x103, xb103, xk103, rfl, Nq103, K103, R103_1, R103_2, R103_3, R103_4⟩ := hQ103
  have N103 := Fr.app N101 Nq103
  have f104 : Sta Z T103.heap "java/lang/String" "COMPACT_STRINGS" "Z" (.int cs) := (own_sta_keep H0 K103 own_pl0)
  have z106 : n0 ≤ T103.heap.size := (Nat.le_trans Z0 K103.1)
  obtain ⟨cq105, kq105, q105a, q105b, q105c⟩ := isOf hZ rfl R103_1
  obtain ⟨_, _, ⟨T105, L105, k105, n105⟩, -, X105, ⟨Lc105, hQ105, l105, y105, z105⟩, st105⟩ := X103.virtualBack hx (y := (⟨"java/lang/String", "length", "()I"⟩ : MethodName)) (z := (⟨"java/lang/String", "length", "()I"⟩ : MethodName)) hown (mvT hZ (hw _ (List.mem_of_getElem? (i := 191) rfl))) (mvT hZ (hw _ (List.mem_of_getElem? (i := 115) rfl))) (notFace_of_selects (args := #[]) (mvT hZ (hw _ (List.mem_of_getElem? (i := 117) rfl)))) (mvT hZ (hw _ (List.mem_of_getElem? (i := 117) rfl))) (mvT hZ (hw _ (List.mem_of_getElem? (i := 116) rfl))) (by decide) (backOf (W := 0) (rm17x43 l Z a0 hw [] x103 xb103 xk103 cs T103.heap n0 z106 R103_3 R103_4 R103_1 f104 H1 R103_2) hZ (hw _ (List.mem_of_getElem? (i := 118) rfl)) (hw _ (List.mem_of_getElem? (i := 62) rfl)) (by decide) (by decide)) q105a q105c (g := (mkF m 20 #[.val (.int (50 : Int32)), .val (.ref x103), .unset, .unset] [(.ref x103)])) rfl (by rw [hml]; rfl) (Steps.refl _) (argsL := []) (rest := []) (lenOf pd_0 rfl) rfl (by show 2 * 0 + _ ≤ _; exact Nat.le_of_eq rfl) (hb hby at_20) (fun _ _ => ⟨rfl, rfl, (by decide : 6 + 0 ≤ _), (by decide : 37 + 0 ≤ _)⟩)
  dsimp only [Pt.U, Pt.locs, Pt.cells, Pt.slots] at X105 l105 y105 z105 st105 hQ105
  subst l105 y105 z105
  obtain ⟨rfl, Nq105, Heq105⟩ := hQ105
  have N105 := Fr.app N103 Nq105
  have f107 : Sta Z T103.heap "jdk/internal/util/Preconditions" "SIOOBE_FORMATTER" "Ljava/util/function/BiFunction;" sf := (own_sta_keep H16 K103 own_pl0)
  obtain ⟨cq108, kq108, q108a, q108b, q108c⟩ := isOf hZ Heq105 R103_1
  obtain ⟨_, _, ⟨T108, L108, k108, n108⟩, -, X108, ⟨Lc108, hQ108, l108, y108, z108⟩, st108⟩ := X105.virtualBack hx (y := (⟨"java/lang/String", "charAt", "(I)C"⟩ : MethodName)) (z := (⟨"java/lang/String", "charAt", "(I)C"⟩ : MethodName)) hown (mvT hZ (hw _ (List.mem_of_getElem? (i := 192) rfl))) (mvT hZ (hw _ (List.mem_of_getElem? (i := 193) rfl))) (notFace_of_selects (args := #[]) (mvT hZ (hw _ (List.mem_of_getElem? (i := 195) rfl)))) (mvT hZ (hw _ (List.mem_of_getElem? (i := 195) rfl))) (mvT hZ (hw _ (List.mem_of_getElem? (i := 194) rfl))) (by decide) (backOf (W := 0) (rm32x45 l Z a0 hw [] x103 cs xb103 xk103 sf T103.heap n0 z106 R103_1 f104 H1 R103_2 R103_3 R103_4 f107 H17) hZ (hw _ (List.mem_of_getElem? (i := 196) rfl)) (hw _ (List.mem_of_getElem? (i := 62) rfl)) (by decide) (by decide)) q108a q108c (g := (mkF m 49 #[.val (.int (50 : Int32)), .val (.ref x103), .val (.int (53 : Int32)), .val (.int (48 : Int32))] [(.int (0 : Int32)), (.ref x103)])) rfl (by rw [hml]; rfl) (Steps.refl _) (argsL := [(.int (0 : Int32))]) (rest := []) (lenOf pd_25 rfl) rfl (by show 2 * 0 + _ ≤ _; exact Nat.le_of_eq rfl) (hb hby at_49) (fun _ _ => ⟨rfl, Heq105, (by decide : 6 + 0 ≤ _), (by decide : 37 + 0 ≤ _)⟩)
  dsimp only [Pt.U, Pt.locs, Pt.cells, Pt.slots] at X108 l108 y108 z108 st108 hQ108
  subst l108 y108 z108
  obtain ⟨rfl, Nq108, Heq108⟩ := hQ108
  have N108 := Fr.app N105 Nq108
  obtain ⟨cq109, kq109, q109a, q109b, q109c⟩ := isOf hZ Heq108 R103_1
  obtain ⟨_, _, ⟨T109, L109, k109, n109⟩, -, X109, ⟨Lc109, hQ109, l109, y109, z109⟩, st109⟩ := X108.virtualBack hx (y := (⟨"java/lang/String", "charAt", "(I)C"⟩ : MethodName)) (z := (⟨"java/lang/String", "charAt", "(I)C"⟩ : MethodName)) hown (mvT hZ (hw _ (List.mem_of_getElem? (i := 192) rfl))) (mvT hZ (hw _ (List.mem_of_getElem? (i := 193) rfl))) (notFace_of_selects (args := #[]) (mvT hZ (hw _ (List.mem_of_getElem? (i := 195) rfl)))) (mvT hZ (hw _ (List.mem_of_getElem? (i := 195) rfl))) (mvT hZ (hw _ (List.mem_of_getElem? (i := 194) rfl))) (by decide) (backOf (W := 0) (rm32x50 l Z a0 hw [] x103 cs xb103 xk103 sf T103.heap n0 z106 R103_1 f104 H1 R103_2 R103_3 R103_4 f107 H17) hZ (hw _ (List.mem_of_getElem? (i := 196) rfl)) (hw _ (List.mem_of_getElem? (i := 62) rfl)) (by decide) (by decide)) q109a q109c (g := (mkF m 58 #[.val (.int (50 : Int32)), .val (.ref x103), .val (.int (53 : Int32)), .val (.int (48 : Int32))] [(.int (1 : Int32)), (.ref x103)])) rfl (by rw [hml]; rfl) (Steps.refl _) (argsL := [(.int (1 : Int32))]) (rest := []) (lenOf pd_25 rfl) rfl (by show 2 * 0 + _ ≤ _; exact Nat.le_of_eq rfl) (hb hby at_58) (fun _ _ => ⟨rfl, Heq108, (by decide : 6 + 0 ≤ _), (by decide : 37 + 0 ≤ _)⟩)
  dsimp only [Pt.U, Pt.locs, Pt.cells, Pt.slots] at X109 l109 y109 z109 st109 hQ109
  subst l109 y109 z109
  obtain ⟨rfl, Nq109, Heq109⟩ := hQ109
  have N109 := Fr.app N108 Nq109
  obtain ⟨cq110, kq110, q110a, q110b, q110c⟩ := isOf hZ Heq109 R103_1
  obtain ⟨_, _, ⟨T110, L110, k110, n110⟩, -, X110, ⟨Lc110, hQ110, l110, y110, z110⟩, st110⟩ := X109.virtualBack hx (y := (⟨"java/lang/String", "charAt", "(I)C"⟩ : MethodName)) (z := (⟨"java/lang/String", "charAt", "(I)C"⟩ : MethodName)) hown (mvT hZ (hw _ (List.mem_of_getElem? (i := 192) rfl))) (mvT hZ (hw _ (List.mem_of_getElem? (i := 193) rfl))) (notFace_of_selects (args := #[]) (mvT hZ (hw _ (List.mem_of_getElem? (i := 195) rfl)))) (mvT hZ (hw _ (List.mem_of_getElem? (i := 195) rfl))) (mvT hZ (hw _ (List.mem_of_getElem? (i := 194) rfl))) (by decide) (backOf (W := 0) (rm32x55 l Z a0 hw [] x103 cs xb103 xk103 sf T103.heap n0 z106 R103_1 f104 H1 R103_2 R103_3 R103_4 f107 H17) hZ (hw _ (List.mem_of_getElem? (i := 196) rfl)) (hw _ (List.mem_of_getElem? (i := 62) rfl)) (by decide) (by decide)) q110a q110c (g := (mkF m 67 #[.val (.int (50 : Int32)), .val (.ref x103), .val (.int (53 : Int32)), .val (.int (48 : Int32))] [(.int (2 : Int32)), (.ref x103)])) rfl (by rw [hml]; rfl) (Steps.refl _) (argsL := [(.int (2 : Int32))]) (rest := []) (lenOf pd_25 rfl) rfl (by show 2 * 0 + _ ≤ _; exact Nat.le_of_eq rfl) (hb hby at_67) (fun _ _ => ⟨rfl, Heq109, (by decide : 6 + 0 ≤ _), (by decide : 37 + 0 ≤ _)⟩)
  dsimp only [Pt.U, Pt.locs, Pt.cells, Pt.slots] at X110 l110 y110 z110 st110 hQ110
  subst l110 y110 z110
  obtain ⟨rfl, Nq110, Heq110⟩ := hQ110
  have N110 := Fr.app N109 Nq110
  obtain ⟨a111, T111, h111, kk111, b111, k111, X111, e111, E111, hS111, hk111, hZ, hown, A111, Fc111, Fv111, V111, -, -, Cq111, -, sp111, st111⟩ := ldcCH X110 hx hZ hown (hw _ (List.mem_of_getElem? (i := 214) rfl)) (own_wS hw) Heq110 hS103 (Nat.le_refl _) hEL (List.mem_of_getElem? (i := 1) rfl) Hc103 (vs := [(.int (53 : Int32)), (.int (48 : Int32)), (.int (45 : Int32)), (.int (53 : Int32)), (.int (57 : Int32))]) (z := (5 : Int32)) ⟨by decide +kernel, by first | rfl | decide +kernel⟩ (by decide) rfl (g := (mkF m 76 #[.val (.int (50 : Int32)), .val (.ref x103), .val (.int (53 : Int32)), .val (.int (48 : Int32))] [(.ref x103)])) rfl (hb hby at_76) (n := 20) (by decide +kernel) (by decide) (by decide) (by decide)
  have Cr111 := Cr103.trans Cq111
  have Hc111 := Cq111.1
  have f112 : Sta Z h111 "java/lang/String" "COMPACT_STRINGS" "Z" (.int cs) := (f104.ext E111)
  have f113 : Exa Z h111 x103 "java/lang/String" := (R103_1.ext E111)
  have f114 : Fld Z h111 x103 "java/lang/String" "coder" "B" (.int (0 : Int32)) := (R103_2.ext E111)
  have f115 : Fld Z h111 x103 "java/lang/String" "value" "[B" (.ref xb103) := (R103_3.ext E111)
  have f116 : Arv Z h111 xb103 xk103 .byte (5 : Int32) [(.int (53 : Int32)), (.int (48 : Int32)), (.int (45 : Int32)), (.int (53 : Int32)), (.int (57 : Int32))] (.int (0 : Int32)) := (R103_4.ext E111)
  have z118 : n0 ≤ h111.size := (Nat.le_trans z106 E111.1)
  obtain ⟨cq117, kq117, q117a, q117b, q117c⟩ := isOf hZ e111 f113
  obtain ⟨_, _, ⟨T117, L117, k117, n117⟩, -, X117, ⟨Lc117, hQ117, l117, y117, z117⟩, st117⟩ := X111.virtualBack hx (y := (⟨"java/lang/String", "equals", "(Ljava/lang/Object;)Z"⟩ : MethodName)) (z := (⟨"java/lang/String", "equals", "(Ljava/lang/Object;)Z"⟩ : MethodName)) hown (mvT hZ (hw _ (List.mem_of_getElem? (i := 215) rfl))) (mvT hZ (hw _ (List.mem_of_getElem? (i := 216) rfl))) (notFace_of_selects (args := #[]) (mvT hZ (hw _ (List.mem_of_getElem? (i := 218) rfl)))) (mvT hZ (hw _ (List.mem_of_getElem? (i := 218) rfl))) (mvT hZ (hw _ (List.mem_of_getElem? (i := 217) rfl))) (by decide) (backOf (W := 0) (rm37 l Z a0 hw [] x103 a111 cs xb103 xk103 b111 k111 h111 n0 z118 f112 H1 f113 f114 f115 f116 A111 Fc111 Fv111 V111) hZ (hw _ (List.mem_of_getElem? (i := 219) rfl)) (hw _ (List.mem_of_getElem? (i := 62) rfl)) (by decide) (by decide)) q117a q117c (g := (mkF m 78 #[.val (.int (50 : Int32)), .val (.ref x103), .val (.int (53 : Int32)), .val (.int (48 : Int32))] [(.ref a111), (.ref x103)])) rfl (by rw [hml]; rfl) (Steps.refl _) (argsL := [(.ref a111)]) (rest := []) (lenOf pd_26 rfl) rfl (by show 2 * 0 + _ ≤ _; exact Nat.le_of_eq rfl) (hb hby at_78) (fun _ _ => ⟨rfl, e111, (by decide : 8 + 0 ≤ _), (by decide : 61 + 0 ≤ _)⟩)
  dsimp only [Pt.U, Pt.locs, Pt.cells, Pt.slots] at X117 l117 y117 z117 st117 hQ117
  subst l117 y117 z117
  obtain ⟨rfl, Nq117, Heq117⟩ := hQ117
  have N117 := Fr.app N110 Nq117
  obtain ⟨fs, hr, hrun, hended, hEnd⟩ := X117.leaveW hS111 (by rw [Heq117]; exact hk111) (v := some (.int (1 : Int32))) (fun h => by rw [Bd.returns] at h; cases h)
  refine ⟨_, _, pre0 _ ?_, hrun, hended, _, _, rfl, ?_, (show CHr Z own_EL s.vm s.heap T117.vm T117.heap from by rw [hh, Heq117]; exact Cr111.trans (CHv.at X117 hZ hEL Hc111)), hEnd.1, hEnd.2.1, hEnd.2.2.1, hEnd.2.2.2.mono (by decide) (by decide)⟩
  · skip
    show Steps p.tables e below (s₁.setTop (mkF m 0 #[.unset, .unset, .unset, .unset] [])) _
    refine st101 _ ?_
    show Steps p.tables e below (T101.setTop (mkF m 3 #[.unset, .unset, .unset, .unset] [(.int (50 : Int32))])) _
    refine XS.istoreN X101.here hx rfl (hb hby at_3) rfl (l' := #[.val (.int (50 : Int32)), .unset, .unset, .unset]) rfl ?_
    show Steps p.tables e below (T101.setTop (mkF m 4 #[.val (.int (50 : Int32)), .unset, .unset, .unset] [])) _
    refine XS.iloadN X101.here hx rfl (hb hby at_4) rfl ?_
    show Steps p.tables e below (T101.setTop (mkF m 5 #[.val (.int (50 : Int32)), .unset, .unset, .unset] [(.int (50 : Int32))])) _
    refine XS.bipush X101.here hx rfl (hb hby at_5) ?_
    show Steps p.tables e below (T101.setTop (mkF m 7 #[.val (.int (50 : Int32)), .unset, .unset, .unset] [(.int (50 : Int32)), (.int (50 : Int32))])) _
    refine XS.icmpYes X101.here hx rfl (pc0 := 7) (pc' := 12) rfl (hb hby at_7) rfl (teq (by decide : (50 : Int32) = (50 : Int32))).1 (by decide) (by decide) ?_
    show Steps p.tables e below (T101.setTop (mkF m 12 #[.val (.int (50 : Int32)), .unset, .unset, .unset] [])) _
    refine st102 _ ?_
    show Steps p.tables e below (T102.setTop (mkF m 15 #[.val (.int (50 : Int32)), .unset, .unset, .unset] [(.ref o6)])) _
    refine st103.trans ?_
    show Steps p.tables e below (T103.setTop (mkF m 18 #[.val (.int (50 : Int32)), .unset, .unset, .unset] [(.ref x103)])) _
    refine XS.astoreN X103.here hx rfl (hb hby at_18) rfl rfl (l' := #[.val (.int (50 : Int32)), .val (.ref x103), .unset, .unset]) rfl ?_
    show Steps p.tables e below (T103.setTop (mkF m 19 #[.val (.int (50 : Int32)), .val (.ref x103), .unset, .unset] [])) _
    refine XS.aloadN X103.here hx rfl (hb hby at_19) rfl rfl ?_
    show Steps p.tables e below (T103.setTop (mkF m 20 #[.val (.int (50 : Int32)), .val (.ref x103), .unset, .unset] [(.ref x103)])) _
    refine st105.trans ?_
    show Steps p.tables e below (T105.setTop (mkF m 23 #[.val (.int (50 : Int32)), .val (.ref x103), .unset, .unset] [(.int (5 : Int32))])) _
    refine XS.iconst X105.here hx rfl (hb hby at_23) ?_
    show Steps p.tables e below (T105.setTop (mkF m 24 #[.val (.int (50 : Int32)), .val (.ref x103), .unset, .unset] [(.int (3 : Int32)), (.int (5 : Int32))])) _
    refine XS.icmpYes X105.here hx rfl (pc0 := 24) (pc' := 29) rfl (hb hby at_24) rfl (flt (by decide : ¬ ((5 : Int32) < (3 : Int32)))).2.1 (by decide) (by decide) ?_
    show Steps p.tables e below (T105.setTop (mkF m 29 #[.val (.int (50 : Int32)), .val (.ref x103), .unset, .unset] [])) _
    refine XS.bipush X105.here hx rfl (hb hby at_29) ?_
    show Steps p.tables e below (T105.setTop (mkF m 31 #[.val (.int (50 : Int32)), .val (.ref x103), .unset, .unset] [(.int (48 : Int32))])) _
    refine XS.iloadN X105.here hx rfl (hb hby at_31) rfl ?_
    show Steps p.tables e below (T105.setTop (mkF m 32 #[.val (.int (50 : Int32)), .val (.ref x103), .unset, .unset] [(.int (50 : Int32)), (.int (48 : Int32))])) _
    refine XS.bipush X105.here hx rfl (hb hby at_32) ?_
    show Steps p.tables e below (T105.setTop (mkF m 34 #[.val (.int (50 : Int32)), .val (.ref x103), .unset, .unset] [(.int (10 : Int32)), (.int (50 : Int32)), (.int (48 : Int32))])) _
    refine XS.idiv X105.here hx rfl (hb hby at_34) rfl (by decide) ?_
    show Steps p.tables e below (T105.setTop (mkF m 35 #[.val (.int (50 : Int32)), .val (.ref x103), .unset, .unset] [(.int ((50 : Int32) / (10 : Int32))), (.int (48 : Int32))])) _
    rw [show ((50 : Int32) / (10 : Int32)) = (5 : Int32) from by decide]
    show Steps p.tables e below (T105.setTop (mkF m 35 #[.val (.int (50 : Int32)), .val (.ref x103), .unset, .unset] [(.int (5 : Int32)), (.int (48 : Int32))])) _
    refine XS.iadd X105.here hx rfl (hb hby at_35) rfl ?_
    show Steps p.tables e below (T105.setTop (mkF m 36 #[.val (.int (50 : Int32)), .val (.ref x103), .unset, .unset] [(.int ((48 : Int32) + (5 : Int32)))])) _
    rw [show ((48 : Int32) + (5 : Int32)) = (53 : Int32) from by decide]
    show Steps p.tables e below (T105.setTop (mkF m 36 #[.val (.int (50 : Int32)), .val (.ref x103), .unset, .unset] [(.int (53 : Int32))])) _
    refine XS.i2c X105.here hx rfl (hb hby at_36) rfl ?_
    show Steps p.tables e below (T105.setTop (mkF m 37 #[.val (.int (50 : Int32)), .val (.ref x103), .unset, .unset] [(.int ((53 : Int32).toUInt32.toUInt16.toUInt32.toInt32))])) _
    rw [show ((53 : Int32).toUInt32.toUInt16.toUInt32.toInt32) = (53 : Int32) from by decide]
    show Steps p.tables e below (T105.setTop (mkF m 37 #[.val (.int (50 : Int32)), .val (.ref x103), .unset, .unset] [(.int (53 : Int32))])) _
    refine XS.istoreN X105.here hx rfl (hb hby at_37) rfl (l' := #[.val (.int (50 : Int32)), .val (.ref x103), .val (.int (53 : Int32)), .unset]) rfl ?_
    show Steps p.tables e below (T105.setTop (mkF m 38 #[.val (.int (50 : Int32)), .val (.ref x103), .val (.int (53 : Int32)), .unset] [])) _
    refine XS.bipush X105.here hx rfl (hb hby at_38) ?_
    show Steps p.tables e below (T105.setTop (mkF m 40 #[.val (.int (50 : Int32)), .val (.ref x103), .val (.int (53 : Int32)), .unset] [(.int (48 : Int32))])) _
    refine XS.iloadN X105.here hx rfl (hb hby at_40) rfl ?_
    show Steps p.tables e below (T105.setTop (mkF m 41 #[.val (.int (50 : Int32)), .val (.ref x103), .val (.int (53 : Int32)), .unset] [(.int (50 : Int32)), (.int (48 : Int32))])) _
    refine XS.bipush X105.here hx rfl (hb hby at_41) ?_
    show Steps p.tables e below (T105.setTop (mkF m 43 #[.val (.int (50 : Int32)), .val (.ref x103), .val (.int (53 : Int32)), .unset] [(.int (10 : Int32)), (.int (50 : Int32)), (.int (48 : Int32))])) _
    refine iremM (g := (mkF m 43 #[.val (.int (50 : Int32)), .val (.ref x103), .val (.int (53 : Int32)), .unset] [(.int (10 : Int32)), (.int (50 : Int32)), (.int (48 : Int32))])) X105 hx rfl (hb hby at_43) rfl (by decide) ?_
    show Steps p.tables e below (T105.setTop (mkF m 44 #[.val (.int (50 : Int32)), .val (.ref x103), .val (.int (53 : Int32)), .unset] [(.int ((50 : Int32) % (10 : Int32))), (.int (48 : Int32))])) _
    rw [show ((50 : Int32) % (10 : Int32)) = (0 : Int32) from by decide]
    show Steps p.tables e below (T105.setTop (mkF m 44 #[.val (.int (50 : Int32)), .val (.ref x103), .val (.int (53 : Int32)), .unset] [(.int (0 : Int32)), (.int (48 : Int32))])) _
    refine XS.iadd X105.here hx rfl (hb hby at_44) rfl ?_
    show Steps p.tables e below (T105.setTop (mkF m 45 #[.val (.int (50 : Int32)), .val (.ref x103), .val (.int (53 : Int32)), .unset] [(.int ((48 : Int32) + (0 : Int32)))])) _
    rw [show ((48 : Int32) + (0 : Int32)) = (48 : Int32) from by decide]
    show Steps p.tables e below (T105.setTop (mkF m 45 #[.val (.int (50 : Int32)), .val (.ref x103), .val (.int (53 : Int32)), .unset] [(.int (48 : Int32))])) _
    refine XS.i2c X105.here hx rfl (hb hby at_45) rfl ?_
    show Steps p.tables e below (T105.setTop (mkF m 46 #[.val (.int (50 : Int32)), .val (.ref x103), .val (.int (53 : Int32)), .unset] [(.int ((48 : Int32).toUInt32.toUInt16.toUInt32.toInt32))])) _
    rw [show ((48 : Int32).toUInt32.toUInt16.toUInt32.toInt32) = (48 : Int32) from by decide]
    show Steps p.tables e below (T105.setTop (mkF m 46 #[.val (.int (50 : Int32)), .val (.ref x103), .val (.int (53 : Int32)), .unset] [(.int (48 : Int32))])) _
    refine XS.istoreN X105.here hx rfl (hb hby at_46) rfl (l' := #[.val (.int (50 : Int32)), .val (.ref x103), .val (.int (53 : Int32)), .val (.int (48 : Int32))]) rfl ?_
    show Steps p.tables e below (T105.setTop (mkF m 47 #[.val (.int (50 : Int32)), .val (.ref x103), .val (.int (53 : Int32)), .val (.int (48 : Int32))] [])) _
    refine XS.aloadN X105.here hx rfl (hb hby at_47) rfl rfl ?_
    show Steps p.tables e below (T105.setTop (mkF m 48 #[.val (.int (50 : Int32)), .val (.ref x103), .val (.int (53 : Int32)), .val (.int (48 : Int32))] [(.ref x103)])) _
    refine XS.iconst X105.here hx rfl (hb hby at_48) ?_
    show Steps p.tables e below (T105.setTop (mkF m 49 #[.val (.int (50 : Int32)), .val (.ref x103), .val (.int (53 : Int32)), .val (.int (48 : Int32))] [(.int (0 : Int32)), (.ref x103)])) _
    refine st108.trans ?_
    show Steps p.tables e below (T108.setTop (mkF m 52 #[.val (.int (50 : Int32)), .val (.ref x103), .val (.int (53 : Int32)), .val (.int (48 : Int32))] [(.int (53 : Int32))])) _
    refine XS.iloadN X108.here hx rfl (hb hby at_52) rfl ?_
    show Steps p.tables e below (T108.setTop (mkF m 53 #[.val (.int (50 : Int32)), .val (.ref x103), .val (.int (53 : Int32)), .val (.int (48 : Int32))] [(.int (53 : Int32)), (.int (53 : Int32))])) _
    refine XS.icmpNo X108.here hx rfl (hb hby at_53) rfl (teq (by decide : (53 : Int32) = (53 : Int32))).2 ?_
    show Steps p.tables e below (T108.setTop (mkF m 56 #[.val (.int (50 : Int32)), .val (.ref x103), .val (.int (53 : Int32)), .val (.int (48 : Int32))] [])) _
    refine XS.aloadN X108.here hx rfl (hb hby at_56) rfl rfl ?_
    show Steps p.tables e below (T108.setTop (mkF m 57 #[.val (.int (50 : Int32)), .val (.ref x103), .val (.int (53 : Int32)), .val (.int (48 : Int32))] [(.ref x103)])) _
    refine XS.iconst X108.here hx rfl (hb hby at_57) ?_
    show Steps p.tables e below (T108.setTop (mkF m 58 #[.val (.int (50 : Int32)), .val (.ref x103), .val (.int (53 : Int32)), .val (.int (48 : Int32))] [(.int (1 : Int32)), (.ref x103)])) _
    refine st109.trans ?_
    show Steps p.tables e below (T109.setTop (mkF m 61 #[.val (.int (50 : Int32)), .val (.ref x103), .val (.int (53 : Int32)), .val (.int (48 : Int32))] [(.int (48 : Int32))])) _
    refine XS.iloadN X109.here hx rfl (hb hby at_61) rfl ?_
    show Steps p.tables e below (T109.setTop (mkF m 62 #[.val (.int (50 : Int32)), .val (.ref x103), .val (.int (53 : Int32)), .val (.int (48 : Int32))] [(.int (48 : Int32)), (.int (48 : Int32))])) _
    refine XS.icmpNo X109.here hx rfl (hb hby at_62) rfl (teq (by decide : (48 : Int32) = (48 : Int32))).2 ?_
    show Steps p.tables e below (T109.setTop (mkF m 65 #[.val (.int (50 : Int32)), .val (.ref x103), .val (.int (53 : Int32)), .val (.int (48 : Int32))] [])) _
    refine XS.aloadN X109.here hx rfl (hb hby at_65) rfl rfl ?_
    show Steps p.tables e below (T109.setTop (mkF m 66 #[.val (.int (50 : Int32)), .val (.ref x103), .val (.int (53 : Int32)), .val (.int (48 : Int32))] [(.ref x103)])) _
    refine XS.iconst X109.here hx rfl (hb hby at_66) ?_
    show Steps p.tables e below (T109.setTop (mkF m 67 #[.val (.int (50 : Int32)), .val (.ref x103), .val (.int (53 : Int32)), .val (.int (48 : Int32))] [(.int (2 : Int32)), (.ref x103)])) _
    refine st110.trans ?_
    show Steps p.tables e below (T110.setTop (mkF m 70 #[.val (.int (50 : Int32)), .val (.ref x103), .val (.int (53 : Int32)), .val (.int (48 : Int32))] [(.int (45 : Int32))])) _
    refine XS.bipush X110.here hx rfl (hb hby at_70) ?_
    show Steps p.tables e below (T110.setTop (mkF m 72 #[.val (.int (50 : Int32)), .val (.ref x103), .val (.int (53 : Int32)), .val (.int (48 : Int32))] [(.int (45 : Int32)), (.int (45 : Int32))])) _
    refine XS.icmpNo X110.here hx rfl (hb hby at_72) rfl (teq (by decide : (45 : Int32) = (45 : Int32))).2 ?_
    show Steps p.tables e below (T110.setTop (mkF m 75 #[.val (.int (50 : Int32)), .val (.ref x103), .val (.int (53 : Int32)), .val (.int (48 : Int32))] [])) _
    refine XS.aloadN X110.here hx rfl (hb hby at_75) rfl rfl ?_
    show Steps p.tables e below (T110.setTop (mkF m 76 #[.val (.int (50 : Int32)), .val (.ref x103), .val (.int (53 : Int32)), .val (.int (48 : Int32))] [(.ref x103)])) _
    refine st111 _ ?_
    show Steps p.tables e below (T111.setTop (mkF m 78 #[.val (.int (50 : Int32)), .val (.ref x103), .val (.int (53 : Int32)), .val (.int (48 : Int32))] [(.ref a111), (.ref x103)])) _
    refine st117.trans ?_
    show Steps p.tables e below (T117.setTop (mkF m 81 #[.val (.int (50 : Int32)), .val (.ref x103), .val (.int (53 : Int32)), .val (.int (48 : Int32))] [(.int (1 : Int32))])) _
    refine XS.ifNo X117.here hx rfl (hb hby at_81) rfl ((if0 _ _).trans (feq (by decide : ¬ ((1 : Int32) = (0 : Int32)))).1) ?_
    show Steps p.tables e below (T117.setTop (mkF m 84 #[.val (.int (50 : Int32)), .val (.ref x103), .val (.int (53 : Int32)), .val (.int (48 : Int32))] [])) _
    refine XS.iconst X117.here hx rfl (hb hby at_84) ?_
    show Steps p.tables e below (T117.setTop (mkF m 85 #[.val (.int (50 : Int32)), .val (.ref x103), .val (.int (53 : Int32)), .val (.int (48 : Int32))] [(.int (1 : Int32))])) _
    refine XS.goto X117.here hx rfl (pc0 := 85) (pc' := 89) rfl (hb hby at_85) (by decide) (by decide) ?_
    show Steps p.tables e below (T117.setTop (mkF m 89 #[.val (.int (50 : Int32)), .val (.ref x103), .val (.int (53 : Int32)), .val (.int (48 : Int32))] [(.int (1 : Int32))])) _
    exact retN X117 hx (t := .boolean) Bd.returns (by simp) (hb hby at_89) hr
  · show Q0 Z cs d1 k1 d2 k2 hf el ek o0 o1 o2 o3 o4 o5 o6 sf h0 n0 _ T117.heap _
    rw [Heq117]
    exact ⟨rfl, N117⟩
set_option maxRecDepth 65536 in
set_option maxHeartbeats 40000000 in
theorem comes_1 {Post : Tables → Env → Array Value → State → Outcome → State → Prop} (hpost : ∀ tb e args s v u, (limb_1_1.after args s (.returned v) u = true ∧ limb_1_2.after args s (.returned v) u = true ∧ True) → Jvm.D.FramedW s (.returned v) u (Jvm.fieldLocs frame_1_writes args s ++ Jvm.arrayLocs frame_1_arrays args s ++ Jvm.staticLocs frame_1_statics s) 24 2240 → Post tb e args s (.returned v) u) :
    ArmFor flags0 classFile x code maxLocals ret World_1 tables_1 room_1 Calls_1 rest_1 Pre_1 Post := by
  intro l hfl _ _ p e ha hc hk s m args below hf hA hF happ hP
  obtain ⟨hcalls, hrest, hpre⟩ := hP
  obtain ⟨-, -, -, hnamed, -, -, -, hat⟩ := (Spec.applies_iff hf).mp happ
  obtain ⟨hg, hn⟩ := and_e (Cond.before_iff.mp (show (Jvm.Cond.and given_1 narrow_1).before args s = true from hpre))
  have gc := hg
  obtain rfl : args = #[] := by
    have hs : args.size = 0 := by simpa [Cond.value, given_1] using gc
    exact Array.eq_empty_of_size_eq_zero hs
  have hw := fun d (hd : d ∈ tables_1) => atoms_spec (ws := Jvm.Cond.code x code maxLocals ret :: tables_1) hat d (List.mem_cons_of_mem _ hd)
  have hfit : Fit s := fun {y c} hc i hi => by
    obtain ⟨ha, rfl⟩ := Array.getElem?_eq_some_iff.mp hc
    have q := List.all_eq_true.mp ((Array.all_eq_true_iff_forall_mem.mp hF) _ (Array.getElem_mem ha)) i (List.mem_range.mpr hi)
    simpa [Array.getElem?_eq_getElem hi] using q
  obtain ⟨hsets, hown0⟩ := atoms_of _ (rest_1_c_eq ▸ (show rest_1_c.before _ s = true from hrest))
  have hr0 := Cond.before_iff.mp hown0
  obtain ⟨n1, m1⟩ := and_e hn
  obtain ⟨n2, m2⟩ := and_e m1
  obtain ⟨n3, m3⟩ := and_e m2
  obtain ⟨n4, m4⟩ := and_e m3
  obtain ⟨n5, m5⟩ := and_e m4
  obtain ⟨n6, m6⟩ := and_e m5
  obtain ⟨n7, m7⟩ := and_e m6
  obtain ⟨n8, m8⟩ := and_e m7
  obtain ⟨n9, m9⟩ := and_e m8
  obtain ⟨n10, m10⟩ := and_e m9
  obtain ⟨n11, m11⟩ := and_e m10
  obtain ⟨n12, m12⟩ := and_e m11
  obtain ⟨n13, m13⟩ := and_e m12
  obtain ⟨n14, m14⟩ := and_e m13
  obtain ⟨n15, m15⟩ := and_e m14
  obtain ⟨n16, m16⟩ := and_e m15
  obtain ⟨n17, m17⟩ := and_e m16
  obtain ⟨n18, m18⟩ := and_e m17
  obtain ⟨n19, m19⟩ := and_e m18
  obtain ⟨n20, m20⟩ := and_e m19
  obtain ⟨hg_, vhf, Shf, Ehf⟩ := own_sta (hw _ (List.mem_of_getElem? (i := 2) rfl)) (hw _ (List.mem_of_getElem? (i := 5) rfl)) n1
  obtain ⟨el, ve⟩ := arr_v n2
  have Fe := Fld.start ((fld_at vhf).symm.trans ve)
  obtain ⟨cl, A⟩ := Arr.start ve n2
  obtain ⟨h31, hz⟩ := own_len ve A n3
  obtain ⟨o6, v6, S6, E6⟩ := own_sta (hw _ (List.mem_of_getElem? (i := 2) rfl)) (hw _ (List.mem_of_getElem? (i := 26) rfl)) n4
  have x6 := own_elem ve A n5 v6 rfl
  obtain ⟨o5, v5, S5, E5⟩ := own_sta (hw _ (List.mem_of_getElem? (i := 2) rfl)) (hw _ (List.mem_of_getElem? (i := 147) rfl)) n8
  have x5 := own_elem ve A n9 v5 rfl
  obtain ⟨o0, v0, S0, E0⟩ := own_sta (hw _ (List.mem_of_getElem? (i := 2) rfl)) (hw _ (List.mem_of_getElem? (i := 224) rfl)) n11
  have x0 := own_elem ve A n12 v0 rfl
  obtain ⟨o1, v1, S1, E1⟩ := own_sta (hw _ (List.mem_of_getElem? (i := 2) rfl)) (hw _ (List.mem_of_getElem? (i := 225) rfl)) n13
  have x1 := own_elem ve A n14 v1 rfl
  obtain ⟨o2, v2, S2, E2⟩ := own_sta (hw _ (List.mem_of_getElem? (i := 2) rfl)) (hw _ (List.mem_of_getElem? (i := 226) rfl)) n15
  have x2 := own_elem ve A n16 v2 rfl
  obtain ⟨o3, v3, S3, E3⟩ := own_sta (hw _ (List.mem_of_getElem? (i := 2) rfl)) (hw _ (List.mem_of_getElem? (i := 227) rfl)) n17
  have x3 := own_elem ve A n18 v3 rfl
  obtain ⟨o4, v4, S4, E4⟩ := own_sta (hw _ (List.mem_of_getElem? (i := 2) rfl)) (hw _ (List.mem_of_getElem? (i := 228) rfl)) n19
  have x4 := own_elem ve A n20 v4 rfl
  have F1 := own_fld v6 n6
  have F2 := own_fld v6 n7
  have F3 := own_fld v5 n10
  have Vel : Arv s s.heap el cl.cls (.object "java/lang/Object") (7 : Int32) [(.ref o0), (.ref o1), (.ref o2), (.ref o3), (.ref o4), (.ref o5), (.ref o6)] .null := Arv.start hfit A h31 hz (by decide) rfl ⟨x0, x1, x2, x3, x4, x5, x6, trivial⟩
  obtain ⟨cs, vcs⟩ := is_v (Cond.before_iff.mp (hsets _ (List.mem_of_getElem? (i := 1) rfl)))
  have Scs := Sta.start vcs (Or.inl (hsets _ (List.mem_of_getElem? (i := 0) rfl)))
  have hcs : ¬ (cs = (0 : Int32)) := own_nz vcs (Cond.before_iff.mp (hsets _ (List.mem_of_getElem? (i := 2) rfl)))
  obtain ⟨sf, vsf, hsf⟩ := own_isr (Cond.before_iff.mp (hsets _ (List.mem_of_getElem? (i := 8) rfl)))
  have Ssf := Sta.start vsf (Or.inl (hsets _ (List.mem_of_getElem? (i := 7) rfl)))
  obtain ⟨d1, vd1⟩ := exa_v (Cond.before_iff.mp (hsets _ (List.mem_of_getElem? (i := 12) rfl)))
  obtain ⟨cd1, Ad1⟩ := own_arrB vd1 (Cond.before_iff.mp (hsets _ (List.mem_of_getElem? (i := 12) rfl))) (hw _ (List.mem_of_getElem? (i := 63) rfl)) (Cond.before_iff.mp (hsets _ (List.mem_of_getElem? (i := 13) rfl)))
  obtain ⟨ld1, zd1⟩ := own_len vd1 Ad1 (Cond.before_iff.mp (hsets _ (List.mem_of_getElem? (i := 13) rfl)))
  have Sd1 := Sta.start vd1 (Or.inr ⟨(hsets _ (List.mem_of_getElem? (i := 9) rfl)), (hsets _ (List.mem_of_getElem? (i := 10) rfl))⟩)
  have Vd1 := own_dig hfit (fun idx => vd1) Ad1 ld1 zd1 (Cond.before_iff.mp (hsets _ (List.mem_of_getElem? (i := 14) rfl))) (fun i hi => ⟨congrArg some (congrArg Value.int (own_ones_at i hi).1), (own_ones_at i hi).2⟩)
  obtain ⟨d2, vd2⟩ := exa_v (Cond.before_iff.mp (hsets _ (List.mem_of_getElem? (i := 17) rfl)))
  obtain ⟨cd2, Ad2⟩ := own_arrB vd2 (Cond.before_iff.mp (hsets _ (List.mem_of_getElem? (i := 17) rfl))) (hw _ (List.mem_of_getElem? (i := 63) rfl)) (Cond.before_iff.mp (hsets _ (List.mem_of_getElem? (i := 18) rfl)))
  obtain ⟨ld2, zd2⟩ := own_len vd2 Ad2 (Cond.before_iff.mp (hsets _ (List.mem_of_getElem? (i := 18) rfl)))
  have Sd2 := Sta.start vd2 (Or.inr ⟨(hsets _ (List.mem_of_getElem? (i := 9) rfl)), (hsets _ (List.mem_of_getElem? (i := 15) rfl))⟩)
  have Vd2 := own_dig hfit (fun idx => vd2) Ad2 ld2 zd2 (Cond.before_iff.mp (hsets _ (List.mem_of_getElem? (i := 19) rfl))) (fun i hi => ⟨congrArg some (congrArg Value.int (own_tens_at i hi).1), (own_tens_at i hi).2⟩)
  have hEL : EW s _ own_EL := (EW.cons (hw _ (List.mem_of_getElem? (i := 99) rfl)) (by decide +kernel) (EW.cons (hw _ (List.mem_of_getElem? (i := 214) rfl)) (by decide +kernel) EW.nil))
  have CH : CHv s own_EL s.vm s.heap := CHv.start hEL (fun p hp => hcalls.1 p hp) (hsets _ (List.mem_of_getElem? (i := 2) rfl)) (hw _ (List.mem_of_getElem? (i := 63) rfl)) (hw _ (List.mem_of_getElem? (i := 100) rfl))
  obtain ⟨n, o, h1, h2, h3, _, L, rfl, ⟨rfl, N⟩, -, hq⟩ := rm0 l s _ hw tables_1 hEL  cs d1 cd1.cls d2 cd2.cls hg_ el cl.cls o0 o1 o2 o3 o4 o5 o6 sf s.heap s.heap.size (Nat.le_refl _) Scs hcs Sd1 Vd1 Sd2 Vd2 Shf Ehf Fe Vel S6 E6 F1 F2 E5 F3 Ssf (own_cat hsf) p e ha hc hk s m _ below hf ((Spec.applies_iff_loose hf).mp happ).1 ⟨rfl, State.Warmed39.refl s, rfl, CH⟩ trivial
  refine ⟨n, _, h1, h2, h3, hpost _ _ _ _ _ _ ⟨Cond.after_iff.mpr rfl, Cond.after_iff.mpr (eq_i res_at (Term.int_eval (1)) rfl), trivial⟩ ⟨hq.1, hq.2.1, hq.2.2.1, (hq.2.2.2.sift fun y hy => Or.inr (N y hy)).mono (by decide) (by decide)⟩⟩
theorem main_1_1 : Claimed_1_1 := comes_1 fun _ _ _ _ _ _ h hF => ⟨h.1, hF⟩
theorem main_1_2 : Claimed_1_2 := comes_1 fun _ _ _ _ _ _ h hF => ⟨h.2.1, hF⟩
end Jvm.Pilot.@@N@@
namespace Jvm.Pilot.@@N@@
open Jvm Jvm.ClassFile Sem Op Lib Jvm.Free Jvm.Stand Jvm.Pilot.@@N@@.Jvm.D
/-! MADE BY PROGRAM (witnessworld.py) out of the Statement's table words and the real class files: 36 classes; the members and pool entries that the words name. The judged class is class 1, her method 1. -/
namespace start1
open Jvm.ClassFile
def u (s : String) : CpInfo := .utf8 (stringToUtf16 s)
/-- a pool by its gaps: so many unusable entries, then the entry; so many at the end -/
def gap : Nat → List CpInfo → List CpInfo
  | 0, r => r
  | n + 1, r => .unusable :: gap n r
def poolList (es : List (Nat × CpInfo)) (last : Nat) : List CpInfo := es.foldr (fun e r => gap e.1 (e.2 :: r)) (gap last [])
def pool (es : List (Nat × CpInfo)) (last : Nat) : Array CpInfo := ⟨poolList es last⟩
def fileOf (pool : Array CpInfo) (this : Nat) (attrs : Array Attribute := #[]) (ms : Array MethodInfo := #[]) (fl : Nat := 33) (sup : Nat := 0) (ifs : Array Nat := #[]) (fds : Array FieldInfo := #[]) : ClassFile where
  minorVersion := 0
  majorVersion := 65
  constantPool := pool
  accessFlags := fl
  thisClass := this
  superClass := sup
  interfaces := ifs
  fields := fds
  methods := ms
  attributes := attrs
def plain (name : String) (sup : Option ClassId) : Class where
  name := name
  kind := .ordinary
  loader := none
  accessFlags := 33
  super := sup
  interfaces := #[]
  cf := none
  fields := #[]
  methods := #[]
  instanceTypes := #[]
  staticTypes := #[]
  resolved := #[]
  callSites := []
  init := .initialized
  statics := none
  mirror := none

def pool0 : Array CpInfo := pool [(5, u "<init>"), (0, u "()V"), (1, .class_ 10), (1, u "java/lang/Object")] 113

def k0c0 : Code := { maxStack := 0, maxLocals := 1, code := object_method_1_code, exceptionTable := #[], attributes := #[] }
def k0m0 : Method := { name := "<init>", desc := "()V", sig := { parameters := [], returnType := none }, accessFlags := 1, code := some k0c0 }
/-- java/lang/Object -/
def k0 : Class := { plain "java/lang/Object" none with
  accessFlags := 33
  interfaces := #[]
  cf := some (fileOf pool0 8 #[] #[{ accessFlags := 1, nameIndex := 5, descriptorIndex := 6, attributes := #[] }] 33 0 #[] #[])
  fields := #[]
  methods := #[k0m0]
  instanceTypes := #[]
  staticTypes := #[]
  resolved := Array.replicate 124 none
  statics := none }

def pool1 : Array CpInfo := pool [(2, .class_ 4), (1, u "java/lang/Object"), (0, u "<init>"), (0, u "()V"), (0, .methodref 8 9), (0, .class_ 10), (0, .nameAndType 11 12), (0, u "com/example/ghostseat/ghostseat/modes/comics/Title"), (0, u "leastForATitle"), (0, u "()I"), (0, .fieldref 8 14), (0, .nameAndType 15 16), (0, u "PROOFREADER"), (0, u "Lcom/example/ghostseat/ghostseat/modes/comics/Title;"), (0, .methodref 8 18), (0, .nameAndType 19 20), (0, u "range"), (0, u "()Ljava/lang/String;"), (0, .methodref 22 23), (0, .class_ 24), (0, .nameAndType 25 12), (0, u "java/lang/String"), (0, u "length"), (0, .methodref 22 27), (0, .nameAndType 28 29), (0, u "charAt"), (0, u "(I)C"), (0, .string 31), (0, u "50-59"), (0, .methodref 22 33), (0, .nameAndType 34 35), (0, u "equals"), (0, u "(Ljava/lang/Object;)Z"), (0, .class_ 37), (0, u "com/example/ghostseat/ghostseat/modes/comics/TitleLeastForATitlePinLaw"), (2, u "law"), (0, u "()Z")] 3

def k1m0 : Method := { name := "<init>", desc := "()V", sig := { parameters := [], returnType := none }, accessFlags := 1, code := none }
def k1c1 : Code := { maxStack := 3, maxLocals := 4, code := code, exceptionTable := #[], attributes := #[] }
def k1m1 : Method := { name := "law", desc := "()Z", sig := { parameters := [], returnType := some .boolean }, accessFlags := 9, code := some k1c1 }
/-- com/example/ghostseat/ghostseat/modes/comics/TitleLeastForATitlePinLaw -/
def k1 : Class := { plain "com/example/ghostseat/ghostseat/modes/comics/TitleLeastForATitlePinLaw" (some 0) with
  accessFlags := 49
  interfaces := #[]
  cf := some (fileOf pool1 36 #[] #[{ accessFlags := 1, nameIndex := 5, descriptorIndex := 6, attributes := #[] }, { accessFlags := 9, nameIndex := 40, descriptorIndex := 41, attributes := #[] }] 49 2 #[] #[])
  fields := #[]
  methods := #[k1m0, k1m1]
  instanceTypes := #[]
  staticTypes := #[]
  resolved := Array.replicate 45 none
  statics := none }

def pool2 : Array CpInfo := pool [(1, .class_ 2), (0, u "java/lang/constant/Constable"), (0, .class_ 4), (0, u "java/lang/Object")] 6

/-- java/lang/constant/Constable -/
def k2 : Class := { plain "java/lang/constant/Constable" (some 0) with
  accessFlags := 1537
  interfaces := #[]
  cf := some (fileOf pool2 1 #[] #[] 1537 3 #[] #[])
  fields := #[]
  methods := #[]
  instanceTypes := #[]
  staticTypes := #[]
  resolved := Array.replicate 11 none
  statics := none }

def pool3 : Array CpInfo := pool [(1, .class_ 2), (0, u "java/lang/Comparable"), (0, .class_ 4), (0, u "java/lang/Object")] 7

/-- java/lang/Comparable -/
def k3 : Class := { plain "java/lang/Comparable" (some 0) with
  accessFlags := 1537
  interfaces := #[]
  cf := some (fileOf pool3 1 #[] #[] 1537 3 #[] #[])
  fields := #[]
  methods := #[]
  instanceTypes := #[]
  staticTypes := #[]
  resolved := Array.replicate 12 none
  statics := none }

def pool4 : Array CpInfo := pool [(1, .class_ 2), (0, u "java/io/Serializable"), (0, .class_ 4), (0, u "java/lang/Object")] 2

/-- java/io/Serializable -/
def k4 : Class := { plain "java/io/Serializable" (some 0) with
  accessFlags := 1537
  interfaces := #[]
  cf := some (fileOf pool4 1 #[] #[] 1537 3 #[] #[])
  fields := #[]
  methods := #[]
  instanceTypes := #[]
  staticTypes := #[]
  resolved := Array.replicate 7 none
  statics := none }

def pool5 : Array CpInfo := pool [(2, .class_ 4), (1, u "java/lang/Enum"), (0, u "name"), (0, u "Ljava/lang/String;"), (0, .fieldref 2 8), (0, .nameAndType 9 10), (0, u "ordinal"), (0, u "I"), (1, .class_ 14), (1, u "java/lang/Object"), (4, u "hash"), (86, .class_ 108), (1, u "java/lang/Enum$EnumDesc"), (2, .class_ 112), (0, u "java/lang/constant/Constable"), (0, .class_ 114), (0, u "java/lang/Comparable"), (0, .class_ 116), (0, u "java/io/Serializable"), (9, u "()I")] 77

def k5c0 : Code := { maxStack := 1, maxLocals := 1, code := jdk_37_method_2_code, exceptionTable := #[], attributes := #[] }
def k5m0 : Method := { name := "ordinal", desc := "()I", sig := { parameters := [], returnType := some .int }, accessFlags := 17, code := some k5c0 }
/-- java/lang/Enum -/
def k5 : Class := { plain "java/lang/Enum" (some 0) with
  accessFlags := 1057
  interfaces := #[2, 3, 4]
  cf := some (fileOf pool5 2 #[.nestMembers #[106]] #[{ accessFlags := 17, nameIndex := 9, descriptorIndex := 126, attributes := #[] }] 1057 12 #[111, 113, 115] #[{ accessFlags := 18, nameIndex := 5, descriptorIndex := 6, attributes := #[] }, { accessFlags := 18, nameIndex := 9, descriptorIndex := 10, attributes := #[] }, { accessFlags := 2, nameIndex := 19, descriptorIndex := 10, attributes := #[] }])
  fields := #[{ name := "name", type := (.object "java/lang/String"), accessFlags := 18, slot := 0, constantValue := 0 }, { name := "ordinal", type := .int, accessFlags := 18, slot := 1, constantValue := 0 }, { name := "hash", type := .int, accessFlags := 2, slot := 2, constantValue := 0 }]
  methods := #[k5m0]
  instanceTypes := #[(.object "java/lang/String"), .int, .int]
  staticTypes := #[]
  resolved := Array.replicate 204 none
  statics := none }

def pool6 : Array CpInfo := pool [(1, .class_ 2), (0, u "com/example/ghostseat/ghostseat/modes/comics/Title"), (2, u "PUBLISHER"), (0, u "Lcom/example/ghostseat/ghostseat/modes/comics/Title;"), (2, u "EDITOR_IN_CHIEF"), (2, u "SENIOR_EDITOR"), (2, u "ASSOCIATE_EDITOR"), (2, u "EDITOR"), (2, u "ASSISTANT_EDITOR"), (2, u "PROOFREADER"), (2, u "$VALUES"), (0, u "[Lcom/example/ghostseat/ghostseat/modes/comics/Title;"), (6, .class_ 37), (1, u "java/lang/Enum"), (4, u "<init>"), (1, .fieldref 1 45), (0, .nameAndType 46 47), (0, u "least"), (0, u "I"), (2, u "name"), (0, u "Ljava/lang/String;"), (0, .fieldref 1 53), (0, .nameAndType 54 55), (0, u "HIGHEST_FIRST"), (0, u "Ljava/util/List;"), (1, .class_ 59), (1, u "java/util/List"), (16, .interfaceMethodref 57 77), (0, .nameAndType 78 79), (0, u "size"), (0, u "()I"), (0, .interfaceMethodref 57 81), (0, .nameAndType 82 83), (0, u "get"), (0, u "(I)Ljava/lang/Object;"), (0, .methodref 1 85), (0, .nameAndType 86 79), (0, u "ordinal"), (0, .class_ 88), (0, u "java/lang/StringBuilder"), (0, .methodref 87 90), (0, .nameAndType 42 91), (0, u "()V"), (0, .methodref 87 93), (0, .nameAndType 94 95), (0, u "append"), (0, u "(I)Ljava/lang/StringBuilder;"), (2, .methodref 87 99), (0, .nameAndType 94 100), (0, u "(Ljava/lang/String;)Ljava/lang/StringBuilder;"), (0, .methodref 87 102), (0, .nameAndType 103 104), (0, u "toString"), (0, u "()Ljava/lang/String;"), (0, .string 106), (0, u "-"), (45, u "leastForATitle"), (0, u "range")] 30

def k6c0 : Code := { maxStack := 3, maxLocals := 0, code := prog_20_method_5_code, exceptionTable := #[], attributes := #[] }
def k6m0 : Method := { name := "leastForATitle", desc := "()I", sig := { parameters := [], returnType := some .int }, accessFlags := 8, code := some k6c0 }
def k6c1 : Code := { maxStack := 4, maxLocals := 1, code := prog_20_method_6_code, exceptionTable := #[], attributes := #[] }
def k6m1 : Method := { name := "range", desc := "()Ljava/lang/String;", sig := { parameters := [], returnType := some (.object "java/lang/String") }, accessFlags := 0, code := some k6c1 }
/-- com/example/ghostseat/ghostseat/modes/comics/Title -/
def k6 : Class := { plain "com/example/ghostseat/ghostseat/modes/comics/Title" (some 5) with
  accessFlags := 16432
  interfaces := #[]
  cf := some (fileOf pool6 1 #[] #[{ accessFlags := 8, nameIndex := 152, descriptorIndex := 79, attributes := #[] }, { accessFlags := 0, nameIndex := 153, descriptorIndex := 104, attributes := #[] }] 16432 35 #[] #[{ accessFlags := 16409, nameIndex := 5, descriptorIndex := 6, attributes := #[] }, { accessFlags := 16409, nameIndex := 9, descriptorIndex := 6, attributes := #[] }, { accessFlags := 16409, nameIndex := 12, descriptorIndex := 6, attributes := #[] }, { accessFlags := 16409, nameIndex := 15, descriptorIndex := 6, attributes := #[] }, { accessFlags := 16409, nameIndex := 18, descriptorIndex := 6, attributes := #[] }, { accessFlags := 16409, nameIndex := 21, descriptorIndex := 6, attributes := #[] }, { accessFlags := 16409, nameIndex := 24, descriptorIndex := 6, attributes := #[] }, { accessFlags := 26, nameIndex := 54, descriptorIndex := 55, attributes := #[] }, { accessFlags := 18, nameIndex := 46, descriptorIndex := 47, attributes := #[] }, { accessFlags := 18, nameIndex := 50, descriptorIndex := 51, attributes := #[] }, { accessFlags := 4122, nameIndex := 27, descriptorIndex := 28, attributes := #[] }])
  fields := #[{ name := "PUBLISHER", type := (.object "com/example/ghostseat/ghostseat/modes/comics/Title"), accessFlags := 16409, slot := 0, constantValue := 0 }, { name := "EDITOR_IN_CHIEF", type := (.object "com/example/ghostseat/ghostseat/modes/comics/Title"), accessFlags := 16409, slot := 1, constantValue := 0 }, { name := "SENIOR_EDITOR", type := (.object "com/example/ghostseat/ghostseat/modes/comics/Title"), accessFlags := 16409, slot := 2, constantValue := 0 }, { name := "ASSOCIATE_EDITOR", type := (.object "com/example/ghostseat/ghostseat/modes/comics/Title"), accessFlags := 16409, slot := 3, constantValue := 0 }, { name := "EDITOR", type := (.object "com/example/ghostseat/ghostseat/modes/comics/Title"), accessFlags := 16409, slot := 4, constantValue := 0 }, { name := "ASSISTANT_EDITOR", type := (.object "com/example/ghostseat/ghostseat/modes/comics/Title"), accessFlags := 16409, slot := 5, constantValue := 0 }, { name := "PROOFREADER", type := (.object "com/example/ghostseat/ghostseat/modes/comics/Title"), accessFlags := 16409, slot := 6, constantValue := 0 }, { name := "HIGHEST_FIRST", type := (.object "java/util/List"), accessFlags := 26, slot := 7, constantValue := 0 }, { name := "least", type := .int, accessFlags := 18, slot := 3, constantValue := 0 }, { name := "name", type := (.object "java/lang/String"), accessFlags := 18, slot := 4, constantValue := 0 }, { name := "$VALUES", type := (.array (.object "com/example/ghostseat/ghostseat/modes/comics/Title")), accessFlags := 4122, slot := 8, constantValue := 0 }]
  methods := #[k6m0, k6m1]
  instanceTypes := #[(.object "java/lang/String"), .int, .int, .int, (.object "java/lang/String")]
  staticTypes := #[(.object "com/example/ghostseat/ghostseat/modes/comics/Title"), (.object "com/example/ghostseat/ghostseat/modes/comics/Title"), (.object "com/example/ghostseat/ghostseat/modes/comics/Title"), (.object "com/example/ghostseat/ghostseat/modes/comics/Title"), (.object "com/example/ghostseat/ghostseat/modes/comics/Title"), (.object "com/example/ghostseat/ghostseat/modes/comics/Title"), (.object "com/example/ghostseat/ghostseat/modes/comics/Title"), (.object "java/util/List"), (.array (.object "com/example/ghostseat/ghostseat/modes/comics/Title"))]
  resolved := Array.replicate 184 none
  statics := some 0 }

def pool7 : Array CpInfo := pool [(8, .class_ 10), (1, u "java/lang/Iterable"), (24, .class_ 36), (0, u "java/lang/Object")] 25

/-- java/lang/Iterable -/
def k7 : Class := { plain "java/lang/Iterable" (some 0) with
  accessFlags := 1537
  interfaces := #[]
  cf := some (fileOf pool7 8 #[] #[] 1537 35 #[] #[])
  fields := #[]
  methods := #[]
  instanceTypes := #[]
  staticTypes := #[]
  resolved := Array.replicate 62 none
  statics := none }

def pool8 : Array CpInfo := pool [(10, .class_ 12), (1, u "java/util/Collection"), (47, .class_ 61), (0, u "java/lang/Object"), (0, .class_ 63), (0, u "java/lang/Iterable")] 51

/-- java/util/Collection -/
def k8 : Class := { plain "java/util/Collection" (some 0) with
  accessFlags := 1537
  interfaces := #[7]
  cf := some (fileOf pool8 10 #[] #[] 1537 60 #[62] #[])
  fields := #[]
  methods := #[]
  instanceTypes := #[]
  staticTypes := #[]
  resolved := Array.replicate 115 none
  statics := none }

def pool9 : Array CpInfo := pool [(8, .class_ 10), (1, u "java/util/SequencedCollection"), (15, .class_ 27), (0, u "java/lang/Object"), (0, .class_ 29), (0, u "java/util/Collection")] 27

/-- java/util/SequencedCollection -/
def k9 : Class := { plain "java/util/SequencedCollection" (some 0) with
  accessFlags := 1537
  interfaces := #[8]
  cf := some (fileOf pool9 8 #[] #[] 1537 26 #[28] #[])
  fields := #[]
  methods := #[]
  instanceTypes := #[]
  staticTypes := #[]
  resolved := Array.replicate 57 none
  statics := none }

def pool10 : Array CpInfo := pool [(8, .class_ 10), (1, u "java/util/List"), (64, u "get"), (0, u "(I)Ljava/lang/Object;"), (2, u "size"), (0, u "()I"), (22, .class_ 104), (0, u "java/lang/Object"), (15, .class_ 121), (0, u "java/util/SequencedCollection")] 129

def k10m0 : Method := { name := "size", desc := "()I", sig := { parameters := [], returnType := some .int }, accessFlags := 1025, code := none }
def k10m1 : Method := { name := "get", desc := "(I)Ljava/lang/Object;", sig := { parameters := [.int], returnType := some (.object "java/lang/Object") }, accessFlags := 1025, code := none }
/-- java/util/List -/
def k10 : Class := { plain "java/util/List" (some 0) with
  accessFlags := 1537
  interfaces := #[9]
  cf := some (fileOf pool10 8 #[] #[{ accessFlags := 1025, nameIndex := 79, descriptorIndex := 80, attributes := #[] }, { accessFlags := 1025, nameIndex := 75, descriptorIndex := 76, attributes := #[] }] 1537 103 #[120] #[])
  fields := #[]
  methods := #[k10m0, k10m1]
  instanceTypes := #[]
  staticTypes := #[]
  resolved := Array.replicate 251 none
  statics := none }

def pool11 : Array CpInfo := pool [(2, .class_ 4), (1, u "java/lang/Object"), (0, u "<init>"), (0, u "()V"), (1, .class_ 10), (1, u "java/util/AbstractCollection"), (66, .class_ 78), (0, u "java/util/Collection")] 81

def k11m0 : Method := { name := "<init>", desc := "()V", sig := { parameters := [], returnType := none }, accessFlags := 4, code := none }
/-- java/util/AbstractCollection -/
def k11 : Class := { plain "java/util/AbstractCollection" (some 0) with
  accessFlags := 1057
  interfaces := #[8]
  cf := some (fileOf pool11 8 #[] #[{ accessFlags := 4, nameIndex := 5, descriptorIndex := 6, attributes := #[] }] 1057 2 #[77] #[])
  fields := #[]
  methods := #[k11m0]
  instanceTypes := #[]
  staticTypes := #[]
  resolved := Array.replicate 160 none
  statics := none }

def pool12 : Array CpInfo := pool [(2, .class_ 4), (1, u "java/util/AbstractCollection"), (0, u "<init>"), (0, u "()V"), (1, .class_ 10), (1, u "java/util/ImmutableCollections"), (2, .class_ 14), (0, u "java/util/ImmutableCollections$AbstractImmutableCollection")] 41

def k12m0 : Method := { name := "<init>", desc := "()V", sig := { parameters := [], returnType := none }, accessFlags := 0, code := none }
/-- java/util/ImmutableCollections$AbstractImmutableCollection -/
def k12 : Class := { plain "java/util/ImmutableCollections$AbstractImmutableCollection" (some 11) with
  accessFlags := 1056
  interfaces := #[]
  cf := some (fileOf pool12 13 #[.nestHost 8] #[{ accessFlags := 0, nameIndex := 5, descriptorIndex := 6, attributes := #[] }] 1056 2 #[] #[])
  fields := #[]
  methods := #[k12m0]
  instanceTypes := #[]
  staticTypes := #[]
  resolved := Array.replicate 56 none
  statics := none }

def pool13 : Array CpInfo := pool [(1, .class_ 2), (0, u "java/util/RandomAccess"), (0, .class_ 4), (0, u "java/lang/Object")] 2

/-- java/util/RandomAccess -/
def k13 : Class := { plain "java/util/RandomAccess" (some 0) with
  accessFlags := 1537
  interfaces := #[]
  cf := some (fileOf pool13 1 #[] #[] 1537 3 #[] #[])
  fields := #[]
  methods := #[]
  instanceTypes := #[]
  staticTypes := #[]
  resolved := Array.replicate 7 none
  statics := none }

def pool14 : Array CpInfo := pool [(2, .class_ 4), (1, u "java/util/ImmutableCollections$AbstractImmutableCollection"), (0, u "<init>"), (0, u "()V"), (1, .class_ 10), (1, u "java/util/ImmutableCollections"), (3, .class_ 16), (1, u "java/util/ImmutableCollections$AbstractImmutableList"), (60, .class_ 78), (0, u "java/util/List"), (45, .class_ 125), (0, u "java/util/RandomAccess")] 70

def k14m0 : Method := { name := "<init>", desc := "()V", sig := { parameters := [], returnType := none }, accessFlags := 0, code := none }
/-- java/util/ImmutableCollections$AbstractImmutableList -/
def k14 : Class := { plain "java/util/ImmutableCollections$AbstractImmutableList" (some 12) with
  accessFlags := 1056
  interfaces := #[10, 13]
  cf := some (fileOf pool14 14 #[.nestHost 8] #[{ accessFlags := 0, nameIndex := 5, descriptorIndex := 6, attributes := #[] }] 1056 2 #[77, 124] #[])
  fields := #[]
  methods := #[k14m0]
  instanceTypes := #[]
  staticTypes := #[]
  resolved := Array.replicate 196 none
  statics := none }

def pool15 : Array CpInfo := pool [(2, .class_ 4), (1, u "java/util/ImmutableCollections$AbstractImmutableList"), (2, .fieldref 8 9), (0, .class_ 10), (0, .nameAndType 11 12), (0, u "java/util/ImmutableCollections$ListN"), (0, u "elements"), (0, u "[Ljava/lang/Object;"), (2, u "allowNulls"), (0, u "Z"), (42, .class_ 60), (0, u "java/io/Serializable"), (16, u "size"), (0, u "()I"), (0, u "get"), (0, u "(I)Ljava/lang/Object;"), (33, .class_ 115), (0, u "java/util/ImmutableCollections")] 3

def k15c0 : Code := { maxStack := 1, maxLocals := 1, code := jdk_45_method_3_code, exceptionTable := #[], attributes := #[] }
def k15m0 : Method := { name := "size", desc := "()I", sig := { parameters := [], returnType := some .int }, accessFlags := 1, code := some k15c0 }
def k15c1 : Code := { maxStack := 2, maxLocals := 2, code := jdk_45_method_4_code, exceptionTable := #[], attributes := #[] }
def k15m1 : Method := { name := "get", desc := "(I)Ljava/lang/Object;", sig := { parameters := [.int], returnType := some (.object "java/lang/Object") }, accessFlags := 1, code := some k15c1 }
/-- java/util/ImmutableCollections$ListN -/
def k15 : Class := { plain "java/util/ImmutableCollections$ListN" (some 14) with
  accessFlags := 48
  interfaces := #[4]
  cf := some (fileOf pool15 8 #[.nestHost 114] #[{ accessFlags := 1, nameIndex := 77, descriptorIndex := 78, attributes := #[] }, { accessFlags := 1, nameIndex := 79, descriptorIndex := 80, attributes := #[] }] 48 2 #[59] #[{ accessFlags := 18, nameIndex := 11, descriptorIndex := 12, attributes := #[] }, { accessFlags := 18, nameIndex := 15, descriptorIndex := 16, attributes := #[] }])
  fields := #[{ name := "elements", type := (.array (.object "java/lang/Object")), accessFlags := 18, slot := 0, constantValue := 0 }, { name := "allowNulls", type := .boolean, accessFlags := 18, slot := 1, constantValue := 0 }]
  methods := #[k15m0, k15m1]
  instanceTypes := #[(.array (.object "java/lang/Object")), .boolean]
  staticTypes := #[]
  resolved := Array.replicate 119 none
  statics := none }

def pool16 : Array CpInfo := pool [(1, .class_ 2), (0, u "java/lang/Appendable"), (0, .class_ 4), (0, u "java/lang/Object")] 9

/-- java/lang/Appendable -/
def k16 : Class := { plain "java/lang/Appendable" (some 0) with
  accessFlags := 1537
  interfaces := #[]
  cf := some (fileOf pool16 1 #[] #[] 1537 3 #[] #[])
  fields := #[]
  methods := #[]
  instanceTypes := #[]
  staticTypes := #[]
  resolved := Array.replicate 14 none
  statics := none }

def pool17 : Array CpInfo := pool [(2, .class_ 4), (1, u "java/lang/CharSequence"), (42, .class_ 48), (0, u "java/lang/CharSequence$1CodePointIterator"), (10, .class_ 60), (0, u "java/lang/CharSequence$1CharIterator"), (5, .class_ 67), (0, u "java/lang/Object")] 63

/-- java/lang/CharSequence -/
def k17 : Class := { plain "java/lang/CharSequence" (some 0) with
  accessFlags := 1537
  interfaces := #[]
  cf := some (fileOf pool17 2 #[.nestMembers #[47, 59]] #[] 1537 66 #[] #[])
  fields := #[]
  methods := #[]
  instanceTypes := #[]
  staticTypes := #[]
  resolved := Array.replicate 131 none
  statics := none }

def pool18 : Array CpInfo := pool [(1, .class_ 2), (0, u "java/lang/String"), (0, .methodref 4 5), (0, .class_ 6), (0, .nameAndType 7 8), (0, u "java/lang/Object"), (0, u "<init>"), (0, u "()V"), (1, .class_ 12), (1, u "java/lang/AbstractStringBuilder"), (0, u "EMPTYVALUE"), (0, u "[B"), (0, .fieldref 10 16), (0, .nameAndType 17 14), (0, u "value"), (0, .fieldref 1 19), (0, .nameAndType 20 21), (0, u "COMPACT_STRINGS"), (0, u "Z"), (0, .fieldref 10 23), (0, .nameAndType 24 25), (0, u "coder"), (0, u "B"), (6, .methodref 1 33), (0, .nameAndType 34 35), (0, u "length"), (0, u "()I"), (0, .class_ 37), (0, u "java/lang/Integer"), (2, .methodref 1 41), (0, .nameAndType 24 42), (0, u "()B"), (2, u "append"), (0, u "(Ljava/lang/String;)Ljava/lang/AbstractStringBuilder;"), (1, .class_ 49), (0, u "java/lang/CharSequence"), (19, u "(Ljava/lang/String;)V"), (5, u "maybeLatin1"), (3, .fieldref 10 80), (0, .nameAndType 81 82), (0, u "count"), (0, u "I"), (0, .methodref 10 84), (0, .nameAndType 85 86), (0, u "isLatin1"), (0, u "()Z"), (13, .methodref 10 101), (0, .nameAndType 102 103), (0, u "ensureCapacityInternal"), (0, u "(I)V"), (3, u "(I)I"), (80, u "getChars"), (19, .methodref 10 209), (0, .nameAndType 210 211), (0, u "putStringAt"), (0, u "(ILjava/lang/String;)V"), (5, u "inflateIfNeededFor"), (2, .nameAndType 221 222), (0, u "getBytes"), (0, u "([BIB)V"), (22, .methodref 36 246), (0, .nameAndType 247 107), (0, u "stringSize"), (0, .methodref 36 249), (0, .nameAndType 188 250), (0, u "(II[B)I"), (146, .methodref 10 398), (0, .nameAndType 217 69), (0, .methodref 1 220), (3, u "()[B"), (40, .class_ 445), (0, u "java/lang/Appendable"), (65, u "(I)Ljava/lang/AbstractStringBuilder;"), (40, u "getValue")] 56

def k18m0 : Method := { name := "<init>", desc := "()V", sig := { parameters := [], returnType := none }, accessFlags := 0, code := none }
def k18c1 : Code := { maxStack := 2, maxLocals := 2, code := jdk_68_method_2_code, exceptionTable := #[], attributes := #[] }
def k18m1 : Method := { name := "<init>", desc := "(I)V", sig := { parameters := [.int], returnType := none }, accessFlags := 0, code := some k18c1 }
def k18c2 : Code := { maxStack := 1, maxLocals := 1, code := jdk_68_method_6_code, exceptionTable := #[], attributes := #[] }
def k18m2 : Method := { name := "length", desc := "()I", sig := { parameters := [], returnType := some .int }, accessFlags := 1, code := some k18c2 }
def k18c3 : Code := { maxStack := 4, maxLocals := 3, code := jdk_68_method_9_code, exceptionTable := #[], attributes := #[] }
def k18m3 : Method := { name := "ensureCapacityInternal", desc := "(I)V", sig := { parameters := [.int], returnType := none }, accessFlags := 2, code := some k18c3 }
def k18c4 : Code := { maxStack := 3, maxLocals := 3, code := jdk_68_method_22_code, exceptionTable := #[], attributes := #[] }
def k18m4 : Method := { name := "append", desc := "(Ljava/lang/String;)Ljava/lang/AbstractStringBuilder;", sig := { parameters := [(.object "java/lang/String")], returnType := some (.object "java/lang/AbstractStringBuilder") }, accessFlags := 1, code := some k18c4 }
def k18c5 : Code := { maxStack := 4, maxLocals := 4, code := jdk_68_method_32_code, exceptionTable := #[], attributes := #[] }
def k18m5 : Method := { name := "append", desc := "(I)Ljava/lang/AbstractStringBuilder;", sig := { parameters := [.int], returnType := some (.object "java/lang/AbstractStringBuilder") }, accessFlags := 1, code := some k18c5 }
def k18c6 : Code := { maxStack := 1, maxLocals := 1, code := jdk_68_method_64_code, exceptionTable := #[], attributes := #[] }
def k18m6 : Method := { name := "getValue", desc := "()[B", sig := { parameters := [], returnType := some (.array .byte) }, accessFlags := 16, code := some k18c6 }
def k18c7 : Code := { maxStack := 1, maxLocals := 1, code := jdk_68_method_68_code, exceptionTable := #[], attributes := #[] }
def k18m7 : Method := { name := "isLatin1", desc := "()Z", sig := { parameters := [], returnType := some .boolean }, accessFlags := 16, code := some k18c7 }
def k18c8 : Code := { maxStack := 2, maxLocals := 2, code := jdk_68_method_71_code, exceptionTable := #[], attributes := #[] }
def k18m8 : Method := { name := "inflateIfNeededFor", desc := "(Ljava/lang/String;)V", sig := { parameters := [(.object "java/lang/String")], returnType := none }, accessFlags := 2, code := some k18c8 }
def k18c9 : Code := { maxStack := 4, maxLocals := 3, code := jdk_68_method_73_code, exceptionTable := #[], attributes := #[] }
def k18m9 : Method := { name := "putStringAt", desc := "(ILjava/lang/String;)V", sig := { parameters := [.int, (.object "java/lang/String")], returnType := none }, accessFlags := 2, code := some k18c9 }
/-- java/lang/AbstractStringBuilder -/
def k18 : Class := { plain "java/lang/AbstractStringBuilder" (some 0) with
  accessFlags := 1056
  interfaces := #[16, 17]
  cf := some (fileOf pool18 10 #[] #[{ accessFlags := 0, nameIndex := 7, descriptorIndex := 8, attributes := #[] }, { accessFlags := 0, nameIndex := 7, descriptorIndex := 103, attributes := #[] }, { accessFlags := 1, nameIndex := 34, descriptorIndex := 35, attributes := #[] }, { accessFlags := 2, nameIndex := 102, descriptorIndex := 103, attributes := #[] }, { accessFlags := 1, nameIndex := 45, descriptorIndex := 46, attributes := #[] }, { accessFlags := 1, nameIndex := 45, descriptorIndex := 511, attributes := #[] }, { accessFlags := 16, nameIndex := 552, descriptorIndex := 403, attributes := #[] }, { accessFlags := 16, nameIndex := 85, descriptorIndex := 86, attributes := #[] }, { accessFlags := 2, nameIndex := 217, descriptorIndex := 69, attributes := #[] }, { accessFlags := 2, nameIndex := 210, descriptorIndex := 211, attributes := #[] }] 1056 4 #[444, 48] #[{ accessFlags := 0, nameIndex := 17, descriptorIndex := 14, attributes := #[] }, { accessFlags := 0, nameIndex := 24, descriptorIndex := 25, attributes := #[] }, { accessFlags := 0, nameIndex := 75, descriptorIndex := 21, attributes := #[] }, { accessFlags := 0, nameIndex := 81, descriptorIndex := 82, attributes := #[] }, { accessFlags := 26, nameIndex := 13, descriptorIndex := 14, attributes := #[] }])
  fields := #[{ name := "value", type := (.array .byte), accessFlags := 0, slot := 0, constantValue := 0 }, { name := "coder", type := .byte, accessFlags := 0, slot := 1, constantValue := 0 }, { name := "maybeLatin1", type := .boolean, accessFlags := 0, slot := 2, constantValue := 0 }, { name := "count", type := .int, accessFlags := 0, slot := 3, constantValue := 0 }, { name := "EMPTYVALUE", type := (.array .byte), accessFlags := 26, slot := 0, constantValue := 0 }]
  methods := #[k18m0, k18m1, k18m2, k18m3, k18m4, k18m5, k18m6, k18m7, k18m8, k18m9]
  instanceTypes := #[(.array .byte), .byte, .boolean, .int]
  staticTypes := #[(.array .byte)]
  resolved := Array.replicate 609 none
  statics := none }

def pool19 : Array CpInfo := pool [(1, .methodref 2 3), (0, .class_ 4), (0, .nameAndType 5 6), (0, u "java/lang/AbstractStringBuilder"), (0, u "<init>"), (0, u "(I)V"), (11, .class_ 20), (1, u "java/lang/String"), (3, .class_ 26), (1, u "java/lang/StringBuilder"), (0, u "append"), (0, u "(Ljava/lang/String;)Ljava/lang/StringBuilder;"), (0, .methodref 2 30), (0, .nameAndType 27 31), (0, u "(Ljava/lang/String;)Ljava/lang/AbstractStringBuilder;"), (21, .methodref 2 54), (0, .nameAndType 27 55), (0, u "(I)Ljava/lang/AbstractStringBuilder;"), (81, .methodref 18 138), (0, .nameAndType 5 139), (0, u "(Ljava/lang/StringBuilder;)V"), (5, u "()V"), (10, u "()I"), (111, u "(I)Ljava/lang/StringBuilder;"), (74, .methodref 2 344), (0, .nameAndType 345 156), (0, u "length"), (3, .class_ 350), (0, u "java/lang/Appendable"), (0, .class_ 352), (0, u "java/io/Serializable"), (0, .class_ 354), (0, u "java/lang/Comparable"), (0, .class_ 356), (0, u "java/lang/CharSequence"), (0, u "serialVersionUID"), (0, u "J"), (40, u "toString"), (0, u "()Ljava/lang/String;")] 21

def k19c0 : Code := { maxStack := 2, maxLocals := 1, code := jdk_67_method_1_code, exceptionTable := #[], attributes := #[] }
def k19m0 : Method := { name := "<init>", desc := "()V", sig := { parameters := [], returnType := none }, accessFlags := 1, code := some k19c0 }
def k19c1 : Code := { maxStack := 2, maxLocals := 2, code := jdk_67_method_7_code, exceptionTable := #[], attributes := #[] }
def k19m1 : Method := { name := "append", desc := "(Ljava/lang/String;)Ljava/lang/StringBuilder;", sig := { parameters := [(.object "java/lang/String")], returnType := some (.object "java/lang/StringBuilder") }, accessFlags := 1, code := some k19c1 }
def k19c2 : Code := { maxStack := 2, maxLocals := 2, code := jdk_67_method_15_code, exceptionTable := #[], attributes := #[] }
def k19m2 : Method := { name := "append", desc := "(I)Ljava/lang/StringBuilder;", sig := { parameters := [.int], returnType := some (.object "java/lang/StringBuilder") }, accessFlags := 1, code := some k19c2 }
def k19c3 : Code := { maxStack := 3, maxLocals := 1, code := jdk_67_method_42_code, exceptionTable := #[], attributes := #[] }
def k19m3 : Method := { name := "toString", desc := "()Ljava/lang/String;", sig := { parameters := [], returnType := some (.object "java/lang/String") }, accessFlags := 1, code := some k19c3 }
def k19c4 : Code := { maxStack := 1, maxLocals := 1, code := jdk_67_method_93_code, exceptionTable := #[], attributes := #[] }
def k19m4 : Method := { name := "length", desc := "()I", sig := { parameters := [], returnType := some .int }, accessFlags := 4161, code := some k19c4 }
/-- java/lang/StringBuilder -/
def k19 : Class := { plain "java/lang/StringBuilder" (some 18) with
  accessFlags := 49
  interfaces := #[16, 4, 3, 17]
  cf := some (fileOf pool19 24 #[] #[{ accessFlags := 1, nameIndex := 5, descriptorIndex := 145, attributes := #[] }, { accessFlags := 1, nameIndex := 27, descriptorIndex := 28, attributes := #[] }, { accessFlags := 1, nameIndex := 27, descriptorIndex := 268, attributes := #[] }, { accessFlags := 1, nameIndex := 399, descriptorIndex := 400, attributes := #[] }, { accessFlags := 4161, nameIndex := 345, descriptorIndex := 156, attributes := #[] }] 49 2 #[349, 351, 353, 355] #[{ accessFlags := 24, nameIndex := 357, descriptorIndex := 358, attributes := #[] }])
  fields := #[{ name := "serialVersionUID", type := .long, accessFlags := 24, slot := 0, constantValue := 0 }]
  methods := #[k19m0, k19m1, k19m2, k19m3, k19m4]
  instanceTypes := #[(.array .byte), .byte, .boolean, .int]
  staticTypes := #[.long]
  resolved := Array.replicate 422 none
  statics := none }

def pool20 : Array CpInfo := pool [(1, .class_ 2), (0, u "java/lang/constant/ConstantDesc"), (0, .class_ 4), (0, u "java/lang/Object")] 32

/-- java/lang/constant/ConstantDesc -/
def k20 : Class := { plain "java/lang/constant/ConstantDesc" (some 0) with
  accessFlags := 1537
  interfaces := #[]
  cf := some (fileOf pool20 1 #[] #[] 1537 3 #[] #[])
  fields := #[]
  methods := #[]
  instanceTypes := #[]
  staticTypes := #[]
  resolved := Array.replicate 37 none
  statics := none }

def pool21 : Array CpInfo := pool [(1, .methodref 2 3), (0, .class_ 4), (0, .nameAndType 5 6), (0, u "java/lang/Object"), (0, u "<init>"), (0, u "()V"), (2, .fieldref 10 11), (0, .class_ 12), (0, .nameAndType 13 14), (0, u "java/lang/String"), (0, u "value"), (0, u "[B"), (0, .fieldref 10 16), (0, .nameAndType 17 18), (0, u "coder"), (0, u "B"), (2, u "hash"), (0, u "I"), (2, u "hashIsZero"), (0, u "Z"), (11, .fieldref 10 39), (0, .nameAndType 40 26), (0, u "COMPACT_STRINGS"), (13, .methodref 55 56), (0, .class_ 57), (0, .nameAndType 58 59), (0, u "java/util/Arrays"), (0, u "copyOfRange"), (0, u "([BII)[B"), (47, .class_ 109), (1, u "java/lang/StringLatin1"), (32, u "()Z"), (50, .class_ 195), (1, u "java/lang/System"), (16, .methodref 193 213), (0, .nameAndType 214 215), (0, u "arraycopy"), (0, u "(Ljava/lang/Object;ILjava/lang/Object;II)V"), (118, u "()I"), (0, .methodref 10 336), (0, .nameAndType 17 337), (0, u "()B"), (2, u "()[B"), (22, u "([BI)C"), (27, u "(II)V"), (35, u "(I)C"), (61, .methodref 10 490), (0, .nameAndType 5 491), (0, u "(Ljava/lang/AbstractStringBuilder;Ljava/lang/Void;)V"), (0, .methodref 10 493), (0, .nameAndType 494 142), (0, u "isLatin1"), (0, .methodref 107 496), (0, .nameAndType 497 363), (0, u "charAt"), (3, u "checkIndex"), (4, .nameAndType 507 334), (0, u "length"), (24, u "getBytes"), (8, .methodref 107 542), (0, .nameAndType 543 544), (0, u "equals"), (0, u "([B[B)Z"), (4, .methodref 550 506), (0, .class_ 551), (0, u "java/lang/AbstractStringBuilder"), (0, .methodref 550 553), (0, .nameAndType 554 340), (0, u "getValue"), (18, u "(Ljava/lang/Object;)Z"), (1, .class_ 576), (0, u "java/lang/CharSequence"), (22, u "CASE_INSENSITIVE_ORDER"), (0, u "Ljava/util/Comparator;"), (220, u "([BIB)V"), (225, .methodref 550 493), (5, .fieldref 1054 1055), (0, .class_ 1056), (0, .nameAndType 1057 1058), (0, u "jdk/internal/util/Preconditions"), (0, u "SIOOBE_FORMATTER"), (0, u "Ljava/util/function/BiFunction;"), (0, .methodref 1054 1060), (0, .nameAndType 501 1061), (0, u "(IILjava/util/function/BiFunction;)I"), (39, u "serialPersistentFields"), (0, u "[Ljava/io/ObjectStreamField;"), (0, .class_ 1104), (0, u "java/lang/String$CaseInsensitiveComparator"), (1, .class_ 1107), (0, u "java/io/Serializable"), (0, .class_ 1109), (0, u "java/lang/Comparable"), (0, .class_ 1111), (0, u "java/lang/constant/Constable"), (0, .class_ 1113), (0, u "java/lang/constant/ConstantDesc"), (2, u "serialVersionUID"), (0, u "J"), (3, u "REPL"), (0, u "C"), (2, u "LATIN1"), (1, u "UTF16"), (105, u "(Ljava/lang/StringBuilder;)V")] 217

def k21m0 : Method := { name := "<init>", desc := "()V", sig := { parameters := [], returnType := none }, accessFlags := 1, code := none }
def k21c1 : Code := { maxStack := 3, maxLocals := 2, code := jdk_42_method_53_code, exceptionTable := #[], attributes := #[] }
def k21m1 : Method := { name := "<init>", desc := "(Ljava/lang/StringBuilder;)V", sig := { parameters := [(.object "java/lang/StringBuilder")], returnType := none }, accessFlags := 1, code := some k21c1 }
def k21c2 : Code := { maxStack := 2, maxLocals := 1, code := jdk_42_method_54_code, exceptionTable := #[], attributes := #[] }
def k21m2 : Method := { name := "length", desc := "()I", sig := { parameters := [], returnType := some .int }, accessFlags := 1, code := some k21c2 }
def k21c3 : Code := { maxStack := 2, maxLocals := 2, code := jdk_42_method_56_code, exceptionTable := #[], attributes := #[] }
def k21m3 : Method := { name := "charAt", desc := "(I)C", sig := { parameters := [.int], returnType := some .char }, accessFlags := 1, code := some k21c3 }
def k21c4 : Code := { maxStack := 2, maxLocals := 3, code := jdk_42_method_66_code, exceptionTable := #[], attributes := #[] }
def k21m4 : Method := { name := "equals", desc := "(Ljava/lang/Object;)Z", sig := { parameters := [(.object "java/lang/Object")], returnType := some .boolean }, accessFlags := 1, code := some k21c4 }
def k21c5 : Code := { maxStack := 5, maxLocals := 4, code := jdk_42_method_147_code, exceptionTable := #[], attributes := #[] }
def k21m5 : Method := { name := "getBytes", desc := "([BIB)V", sig := { parameters := [(.array .byte), .int, .byte], returnType := none }, accessFlags := 0, code := some k21c5 }
def k21c6 : Code := { maxStack := 5, maxLocals := 5, code := jdk_42_method_150_code, exceptionTable := #[], attributes := #[] }
def k21m6 : Method := { name := "<init>", desc := "(Ljava/lang/AbstractStringBuilder;Ljava/lang/Void;)V", sig := { parameters := [(.object "java/lang/AbstractStringBuilder"), (.object "java/lang/Void")], returnType := none }, accessFlags := 0, code := some k21c6 }
def k21c7 : Code := { maxStack := 1, maxLocals := 1, code := jdk_42_method_152_code, exceptionTable := #[], attributes := #[] }
def k21m7 : Method := { name := "coder", desc := "()B", sig := { parameters := [], returnType := some .byte }, accessFlags := 0, code := some k21c7 }
def k21c8 : Code := { maxStack := 1, maxLocals := 1, code := jdk_42_method_154_code, exceptionTable := #[], attributes := #[] }
def k21m8 : Method := { name := "isLatin1", desc := "()Z", sig := { parameters := [], returnType := some .boolean }, accessFlags := 0, code := some k21c8 }
def k21c9 : Code := { maxStack := 3, maxLocals := 2, code := jdk_42_method_155_code, exceptionTable := #[], attributes := #[] }
def k21m9 : Method := { name := "checkIndex", desc := "(II)V", sig := { parameters := [.int, .int], returnType := none }, accessFlags := 8, code := some k21c9 }
/-- java/lang/String -/
def k21 : Class := { plain "java/lang/String" (some 0) with
  accessFlags := 49
  interfaces := #[4, 3, 17, 2, 20]
  cf := some (fileOf pool21 10 #[.nestMembers #[1103]] #[{ accessFlags := 1, nameIndex := 5, descriptorIndex := 6, attributes := #[] }, { accessFlags := 1, nameIndex := 5, descriptorIndex := 1233, attributes := #[] }, { accessFlags := 1, nameIndex := 507, descriptorIndex := 334, attributes := #[] }, { accessFlags := 1, nameIndex := 497, descriptorIndex := 427, attributes := #[] }, { accessFlags := 1, nameIndex := 543, descriptorIndex := 573, attributes := #[] }, { accessFlags := 0, nameIndex := 532, descriptorIndex := 821, attributes := #[] }, { accessFlags := 0, nameIndex := 5, descriptorIndex := 491, attributes := #[] }, { accessFlags := 0, nameIndex := 17, descriptorIndex := 337, attributes := #[] }, { accessFlags := 0, nameIndex := 494, descriptorIndex := 142, attributes := #[] }, { accessFlags := 8, nameIndex := 501, descriptorIndex := 391, attributes := #[] }] 49 2 #[1106, 1108, 575, 1110, 1112] #[{ accessFlags := 18, nameIndex := 13, descriptorIndex := 14, attributes := #[] }, { accessFlags := 18, nameIndex := 17, descriptorIndex := 18, attributes := #[] }, { accessFlags := 2, nameIndex := 21, descriptorIndex := 22, attributes := #[] }, { accessFlags := 2, nameIndex := 25, descriptorIndex := 26, attributes := #[] }, { accessFlags := 26, nameIndex := 1116, descriptorIndex := 1117, attributes := #[] }, { accessFlags := 24, nameIndex := 40, descriptorIndex := 26, attributes := #[] }, { accessFlags := 26, nameIndex := 1101, descriptorIndex := 1102, attributes := #[] }, { accessFlags := 26, nameIndex := 1121, descriptorIndex := 1122, attributes := #[] }, { accessFlags := 25, nameIndex := 599, descriptorIndex := 600, attributes := #[] }, { accessFlags := 24, nameIndex := 1125, descriptorIndex := 18, attributes := #[] }, { accessFlags := 24, nameIndex := 1127, descriptorIndex := 18, attributes := #[] }])
  fields := #[{ name := "value", type := (.array .byte), accessFlags := 18, slot := 0, constantValue := 0 }, { name := "coder", type := .byte, accessFlags := 18, slot := 1, constantValue := 0 }, { name := "hash", type := .int, accessFlags := 2, slot := 2, constantValue := 0 }, { name := "hashIsZero", type := .boolean, accessFlags := 2, slot := 3, constantValue := 0 }, { name := "serialVersionUID", type := .long, accessFlags := 26, slot := 0, constantValue := 0 }, { name := "COMPACT_STRINGS", type := .boolean, accessFlags := 24, slot := 1, constantValue := 0 }, { name := "serialPersistentFields", type := (.array (.object "java/io/ObjectStreamField")), accessFlags := 26, slot := 2, constantValue := 0 }, { name := "REPL", type := .char, accessFlags := 26, slot := 3, constantValue := 0 }, { name := "CASE_INSENSITIVE_ORDER", type := (.object "java/util/Comparator"), accessFlags := 25, slot := 4, constantValue := 0 }, { name := "LATIN1", type := .byte, accessFlags := 24, slot := 5, constantValue := 0 }, { name := "UTF16", type := .byte, accessFlags := 24, slot := 6, constantValue := 0 }]
  methods := #[k21m0, k21m1, k21m2, k21m3, k21m4, k21m5, k21m6, k21m7, k21m8, k21m9]
  instanceTypes := #[(.array .byte), .byte, .int, .boolean]
  staticTypes := #[.long, .boolean, (.array (.object "java/io/ObjectStreamField")), .char, (.object "java/util/Comparator"), .byte, .byte]
  resolved := Array.replicate 1451 none
  statics := some 1 }

def pool22 : Array CpInfo := pool [(2, .class_ 4), (1, u "java/lang/Object"), (0, u "<init>"), (0, u "()V"), (1, .class_ 10), (1, u "java/lang/Number"), (2, .class_ 14), (0, u "java/io/Serializable"), (0, u "serialVersionUID"), (0, u "J")] 20

def k22m0 : Method := { name := "<init>", desc := "()V", sig := { parameters := [], returnType := none }, accessFlags := 1, code := none }
/-- java/lang/Number -/
def k22 : Class := { plain "java/lang/Number" (some 0) with
  accessFlags := 1057
  interfaces := #[4]
  cf := some (fileOf pool22 8 #[] #[{ accessFlags := 1, nameIndex := 5, descriptorIndex := 6, attributes := #[] }] 1057 2 #[13] #[{ accessFlags := 26, nameIndex := 15, descriptorIndex := 16, attributes := #[] }])
  fields := #[{ name := "serialVersionUID", type := .long, accessFlags := 26, slot := 0, constantValue := 0 }]
  methods := #[k22m0]
  instanceTypes := #[]
  staticTypes := #[.long]
  resolved := Array.replicate 37 none
  statics := none }

def pool23 : Array CpInfo := pool [(1, .class_ 2), (0, u "java/lang/Integer"), (16, u "digits"), (0, u "[C"), (33, u "(I)I"), (19, u "stringSize"), (2, u "getChars"), (0, u "(II[B)I"), (4, .fieldref 1 84), (0, .nameAndType 85 86), (0, u "DigitOnes"), (0, u "[B"), (0, .fieldref 1 88), (0, .nameAndType 89 86), (0, u "DigitTens"), (99, .class_ 190), (0, u "java/lang/Integer$IntegerCache"), (3, u "I"), (8, .class_ 204), (0, u "java/lang/Number"), (2, u "value"), (94, u "TYPE"), (0, u "Ljava/lang/Class;"), (0, .class_ 305), (0, u "java/lang/Comparable"), (0, .class_ 307), (0, u "java/lang/constant/Constable"), (0, .class_ 309), (0, u "java/lang/constant/ConstantDesc"), (0, u "MIN_VALUE"), (1, u "MAX_VALUE"), (3, u "SIZE"), (1, u "BYTES"), (1, u "serialVersionUID"), (0, u "J")] 131

def k23c0 : Code := { maxStack := 4, maxLocals := 7, code := jdk_33_method_12_code, exceptionTable := #[], attributes := #[] }
def k23m0 : Method := { name := "getChars", desc := "(II[B)I", sig := { parameters := [.int, .int, (.array .byte)], returnType := some .int }, accessFlags := 8, code := some k23c0 }
def k23c1 : Code := { maxStack := 2, maxLocals := 4, code := jdk_33_method_13_code, exceptionTable := #[], attributes := #[] }
def k23m1 : Method := { name := "stringSize", desc := "(I)I", sig := { parameters := [.int], returnType := some .int }, accessFlags := 8, code := some k23c1 }
/-- java/lang/Integer -/
def k23 : Class := { plain "java/lang/Integer" (some 22) with
  accessFlags := 49
  interfaces := #[3, 2, 20]
  cf := some (fileOf pool23 1 #[.nestMembers #[189]] #[{ accessFlags := 8, nameIndex := 77, descriptorIndex := 78, attributes := #[] }, { accessFlags := 8, nameIndex := 74, descriptorIndex := 54, attributes := #[] }] 49 203 #[304, 306, 308] #[{ accessFlags := 25, nameIndex := 310, descriptorIndex := 194, attributes := #[] }, { accessFlags := 25, nameIndex := 312, descriptorIndex := 194, attributes := #[] }, { accessFlags := 25, nameIndex := 302, descriptorIndex := 303, attributes := #[] }, { accessFlags := 24, nameIndex := 19, descriptorIndex := 20, attributes := #[] }, { accessFlags := 24, nameIndex := 89, descriptorIndex := 86, attributes := #[] }, { accessFlags := 24, nameIndex := 85, descriptorIndex := 86, attributes := #[] }, { accessFlags := 18, nameIndex := 207, descriptorIndex := 194, attributes := #[] }, { accessFlags := 25, nameIndex := 316, descriptorIndex := 194, attributes := #[] }, { accessFlags := 25, nameIndex := 318, descriptorIndex := 194, attributes := #[] }, { accessFlags := 26, nameIndex := 320, descriptorIndex := 321, attributes := #[] }])
  fields := #[{ name := "MIN_VALUE", type := .int, accessFlags := 25, slot := 0, constantValue := 0 }, { name := "MAX_VALUE", type := .int, accessFlags := 25, slot := 1, constantValue := 0 }, { name := "TYPE", type := (.object "java/lang/Class"), accessFlags := 25, slot := 2, constantValue := 0 }, { name := "digits", type := (.array .char), accessFlags := 24, slot := 3, constantValue := 0 }, { name := "DigitTens", type := (.array .byte), accessFlags := 24, slot := 4, constantValue := 0 }, { name := "DigitOnes", type := (.array .byte), accessFlags := 24, slot := 5, constantValue := 0 }, { name := "value", type := .int, accessFlags := 18, slot := 0, constantValue := 0 }, { name := "SIZE", type := .int, accessFlags := 25, slot := 6, constantValue := 0 }, { name := "BYTES", type := .int, accessFlags := 25, slot := 7, constantValue := 0 }, { name := "serialVersionUID", type := .long, accessFlags := 26, slot := 8, constantValue := 0 }]
  methods := #[k23m0, k23m1]
  instanceTypes := #[.int]
  staticTypes := #[.int, .int, (.object "java/lang/Class"), (.array .char), (.array .byte), (.array .byte), .int, .int, .long]
  resolved := Array.replicate 453 none
  statics := some 2 }

def pool24 : Array CpInfo := pool [(2, .class_ 4), (1, u "java/lang/Object"), (0, u "<init>"), (0, u "()V"), (1, .class_ 10), (1, u "java/lang/System"), (0, u "allowSecurityManager"), (0, u "I"), (16, u "cons"), (0, u "Ljava/io/Console;"), (77, .class_ 110), (1, u "java/lang/System$CallersHolder"), (43, u "initialErrStream"), (0, u "Ljava/io/PrintStream;"), (19, u "security"), (0, u "Ljava/lang/SecurityManager;"), (31, .class_ 209), (0, u "java/lang/System$1"), (7, u "props"), (0, u "Ljava/util/Properties;"), (2, u "lineSeparator"), (0, u "Ljava/lang/String;"), (96, .class_ 321), (1, u "java/lang/System$LoggerFinder"), (5, .class_ 328), (0, u "java/lang/System$Logger"), (67, u "err"), (2, u "out"), (91, u "notSupportedJnuEncoding"), (15, u "in"), (17, u "initialIn"), (0, u "Ljava/io/InputStream;"), (35, u "bootLayer"), (0, u "Ljava/lang/ModuleLayer;"), (99, .class_ 664), (0, u "java/lang/System$2"), (9, u "NEVER"), (2, u "MAYBE"), (49, u "arraycopy"), (0, u "(Ljava/lang/Object;ILjava/lang/Object;II)V"), (72, .class_ 802), (0, u "java/lang/System$Logger$Level")] 31

def k24m0 : Method := { name := "<init>", desc := "()V", sig := { parameters := [], returnType := none }, accessFlags := 2, code := none }
def k24m1 : Method := { name := "arraycopy", desc := "(Ljava/lang/Object;ILjava/lang/Object;II)V", sig := { parameters := [(.object "java/lang/Object"), .int, (.object "java/lang/Object"), .int, .int], returnType := none }, accessFlags := 265, code := none }
/-- java/lang/System -/
def k24 : Class := { plain "java/lang/System" (some 0) with
  accessFlags := 49
  interfaces := #[]
  cf := some (fileOf pool24 8 #[.nestMembers #[319, 327, 801, 108, 663, 208]] #[{ accessFlags := 2, nameIndex := 5, descriptorIndex := 6, attributes := #[] }, { accessFlags := 265, nameIndex := 727, descriptorIndex := 728, attributes := #[] }] 49 2 #[] #[{ accessFlags := 25, nameIndex := 507, descriptorIndex := 526, attributes := #[] }, { accessFlags := 25, nameIndex := 399, descriptorIndex := 155, attributes := #[] }, { accessFlags := 25, nameIndex := 396, descriptorIndex := 155, attributes := #[] }, { accessFlags := 10, nameIndex := 525, descriptorIndex := 526, attributes := #[] }, { accessFlags := 26, nameIndex := 674, descriptorIndex := 12, attributes := #[] }, { accessFlags := 26, nameIndex := 677, descriptorIndex := 12, attributes := #[] }, { accessFlags := 10, nameIndex := 11, descriptorIndex := 12, attributes := #[] }, { accessFlags := 74, nameIndex := 175, descriptorIndex := 176, attributes := #[] }, { accessFlags := 10, nameIndex := 491, descriptorIndex := 222, attributes := #[] }, { accessFlags := 74, nameIndex := 29, descriptorIndex := 30, attributes := #[] }, { accessFlags := 74, nameIndex := 154, descriptorIndex := 155, attributes := #[] }, { accessFlags := 10, nameIndex := 217, descriptorIndex := 218, attributes := #[] }, { accessFlags := 10, nameIndex := 221, descriptorIndex := 222, attributes := #[] }, { accessFlags := 8, nameIndex := 562, descriptorIndex := 563, attributes := #[] }])
  fields := #[{ name := "in", type := (.object "java/io/InputStream"), accessFlags := 25, slot := 0, constantValue := 0 }, { name := "out", type := (.object "java/io/PrintStream"), accessFlags := 25, slot := 1, constantValue := 0 }, { name := "err", type := (.object "java/io/PrintStream"), accessFlags := 25, slot := 2, constantValue := 0 }, { name := "initialIn", type := (.object "java/io/InputStream"), accessFlags := 10, slot := 3, constantValue := 0 }, { name := "NEVER", type := .int, accessFlags := 26, slot := 4, constantValue := 0 }, { name := "MAYBE", type := .int, accessFlags := 26, slot := 5, constantValue := 0 }, { name := "allowSecurityManager", type := .int, accessFlags := 10, slot := 6, constantValue := 0 }, { name := "security", type := (.object "java/lang/SecurityManager"), accessFlags := 74, slot := 7, constantValue := 0 }, { name := "notSupportedJnuEncoding", type := (.object "java/lang/String"), accessFlags := 10, slot := 8, constantValue := 0 }, { name := "cons", type := (.object "java/io/Console"), accessFlags := 74, slot := 9, constantValue := 0 }, { name := "initialErrStream", type := (.object "java/io/PrintStream"), accessFlags := 74, slot := 10, constantValue := 0 }, { name := "props", type := (.object "java/util/Properties"), accessFlags := 10, slot := 11, constantValue := 0 }, { name := "lineSeparator", type := (.object "java/lang/String"), accessFlags := 10, slot := 12, constantValue := 0 }, { name := "bootLayer", type := (.object "java/lang/ModuleLayer"), accessFlags := 8, slot := 13, constantValue := 0 }]
  methods := #[k24m0, k24m1]
  instanceTypes := #[]
  staticTypes := #[(.object "java/io/InputStream"), (.object "java/io/PrintStream"), (.object "java/io/PrintStream"), (.object "java/io/InputStream"), .int, .int, .int, (.object "java/lang/SecurityManager"), (.object "java/lang/String"), (.object "java/io/Console"), (.object "java/io/PrintStream"), (.object "java/util/Properties"), (.object "java/lang/String"), (.object "java/lang/ModuleLayer")]
  resolved := Array.replicate 834 none
  statics := none }

def pool25 : Array CpInfo := pool [(2, .class_ 4), (1, u "java/lang/Object"), (0, u "<init>"), (0, u "()V"), (7, .class_ 16), (1, u "java/util/Arrays"), (57, .class_ 76), (1, u "java/util/Arrays$NaturalOrder"), (36, .class_ 115), (1, u "java/util/Arrays$LegacyMergeSort"), (1, u "Z"), (21, u "copyOfRange"), (10, .methodref 151 152), (0, .class_ 153), (0, .nameAndType 154 155), (0, u "java/lang/System"), (0, u "arraycopy"), (0, u "(Ljava/lang/Object;ILjava/lang/Object;II)V"), (148, .methodref 305 306), (0, .class_ 307), (0, .nameAndType 308 309), (0, u "java/lang/Math"), (0, u "min"), (0, u "(II)I"), (29, .methodref 14 340), (0, .nameAndType 341 342), (0, u "copyOfRangeByte"), (0, u "([BII)[B"), (0, .methodref 14 344), (0, .nameAndType 345 346), (0, u "checkLength"), (0, u "(II)V"), (28, .class_ 376), (0, u "java/util/Arrays$ArrayList"), (68, u "$assertionsDisabled"), (269, u "MIN_ARRAY_SORT_GRAN"), (0, u "I"), (2, u "INSERTIONSORT_THRESHOLD"), (255, .class_ 976), (0, u "java/util/Arrays$ArrayItr")] 52

def k25m0 : Method := { name := "<init>", desc := "()V", sig := { parameters := [], returnType := none }, accessFlags := 2, code := none }
def k25c1 : Code := { maxStack := 4, maxLocals := 2, code := jdk_65_method_131_code, exceptionTable := #[], attributes := #[] }
def k25m1 : Method := { name := "checkLength", desc := "(II)V", sig := { parameters := [.int, .int], returnType := none }, accessFlags := 10, code := some k25c1 }
def k25c2 : Code := { maxStack := 3, maxLocals := 3, code := jdk_65_method_132_code, exceptionTable := #[], attributes := #[] }
def k25m2 : Method := { name := "copyOfRange", desc := "([BII)[B", sig := { parameters := [(.array .byte), .int, .int], returnType := some (.array .byte) }, accessFlags := 9, code := some k25c2 }
def k25c3 : Code := { maxStack := 6, maxLocals := 5, code := jdk_65_method_133_code, exceptionTable := #[], attributes := #[] }
def k25m3 : Method := { name := "copyOfRangeByte", desc := "([BII)[B", sig := { parameters := [(.array .byte), .int, .int], returnType := some (.array .byte) }, accessFlags := 10, code := some k25c3 }
/-- java/util/Arrays -/
def k25 : Class := { plain "java/util/Arrays" (some 0) with
  accessFlags := 49
  interfaces := #[]
  cf := some (fileOf pool25 14 #[.nestMembers #[975, 375, 113, 74]] #[{ accessFlags := 2, nameIndex := 5, descriptorIndex := 6, attributes := #[] }, { accessFlags := 10, nameIndex := 345, descriptorIndex := 346, attributes := #[] }, { accessFlags := 9, nameIndex := 139, descriptorIndex := 342, attributes := #[] }, { accessFlags := 10, nameIndex := 341, descriptorIndex := 342, attributes := #[] }] 49 2 #[] #[{ accessFlags := 26, nameIndex := 715, descriptorIndex := 716, attributes := #[] }, { accessFlags := 26, nameIndex := 719, descriptorIndex := 716, attributes := #[] }, { accessFlags := 4120, nameIndex := 445, descriptorIndex := 117, attributes := #[] }])
  fields := #[{ name := "MIN_ARRAY_SORT_GRAN", type := .int, accessFlags := 26, slot := 0, constantValue := 0 }, { name := "INSERTIONSORT_THRESHOLD", type := .int, accessFlags := 26, slot := 1, constantValue := 0 }, { name := "$assertionsDisabled", type := .boolean, accessFlags := 4120, slot := 2, constantValue := 0 }]
  methods := #[k25m0, k25m1, k25m2, k25m3]
  instanceTypes := #[]
  staticTypes := #[.int, .int, .boolean]
  resolved := Array.replicate 1029 none
  statics := none }

def pool26 : Array CpInfo := pool [(1, .class_ 2), (0, u "java/lang/Math"), (1, .class_ 6), (1, u "java/lang/Object"), (0, u "<init>"), (0, u "()V"), (89, .class_ 100), (1, u "java/lang/Math$RandomNumberGeneratorHolder"), (71, u "negativeZeroFloatBits"), (0, u "J"), (2, u "negativeZeroDoubleBits"), (24, u "min"), (43, u "$assertionsDisabled"), (0, u "Z"), (88, u "(II)I"), (2, u "twoToTheDoubleScaleDown"), (0, u "D"), (4, u "twoToTheDoubleScaleUp"), (9, u "E"), (3, u "PI"), (2, u "TAU"), (2, u "DEGREES_TO_RADIANS"), (0, u "RADIANS_TO_DEGREES")] 94

def k26m0 : Method := { name := "<init>", desc := "()V", sig := { parameters := [], returnType := none }, accessFlags := 2, code := none }
def k26c1 : Code := { maxStack := 2, maxLocals := 2, code := jdk_29_method_69_code, exceptionTable := #[], attributes := #[] }
def k26m1 : Method := { name := "min", desc := "(II)I", sig := { parameters := [.int, .int], returnType := some .int }, accessFlags := 9, code := some k26c1 }
/-- java/lang/Math -/
def k26 : Class := { plain "java/lang/Math" (some 0) with
  accessFlags := 49
  interfaces := #[]
  cf := some (fileOf pool26 1 #[.nestMembers #[98]] #[{ accessFlags := 2, nameIndex := 7, descriptorIndex := 8, attributes := #[] }, { accessFlags := 9, nameIndex := 201, descriptorIndex := 335, attributes := #[] }] 49 4 #[] #[{ accessFlags := 25, nameIndex := 354, descriptorIndex := 339, attributes := #[] }, { accessFlags := 25, nameIndex := 358, descriptorIndex := 339, attributes := #[] }, { accessFlags := 25, nameIndex := 361, descriptorIndex := 339, attributes := #[] }, { accessFlags := 26, nameIndex := 364, descriptorIndex := 339, attributes := #[] }, { accessFlags := 26, nameIndex := 365, descriptorIndex := 339, attributes := #[] }, { accessFlags := 26, nameIndex := 172, descriptorIndex := 173, attributes := #[] }, { accessFlags := 26, nameIndex := 176, descriptorIndex := 173, attributes := #[] }, { accessFlags := 8, nameIndex := 344, descriptorIndex := 339, attributes := #[] }, { accessFlags := 8, nameIndex := 338, descriptorIndex := 339, attributes := #[] }, { accessFlags := 4120, nameIndex := 245, descriptorIndex := 246, attributes := #[] }])
  fields := #[{ name := "E", type := .double, accessFlags := 25, slot := 0, constantValue := 0 }, { name := "PI", type := .double, accessFlags := 25, slot := 1, constantValue := 0 }, { name := "TAU", type := .double, accessFlags := 25, slot := 2, constantValue := 0 }, { name := "DEGREES_TO_RADIANS", type := .double, accessFlags := 26, slot := 3, constantValue := 0 }, { name := "RADIANS_TO_DEGREES", type := .double, accessFlags := 26, slot := 4, constantValue := 0 }, { name := "negativeZeroFloatBits", type := .long, accessFlags := 26, slot := 5, constantValue := 0 }, { name := "negativeZeroDoubleBits", type := .long, accessFlags := 26, slot := 6, constantValue := 0 }, { name := "twoToTheDoubleScaleUp", type := .double, accessFlags := 8, slot := 7, constantValue := 0 }, { name := "twoToTheDoubleScaleDown", type := .double, accessFlags := 8, slot := 8, constantValue := 0 }, { name := "$assertionsDisabled", type := .boolean, accessFlags := 4120, slot := 9, constantValue := 0 }]
  methods := #[k26m0, k26m1]
  instanceTypes := #[]
  staticTypes := #[.double, .double, .double, .double, .double, .long, .long, .double, .double, .boolean]
  resolved := Array.replicate 460 none
  statics := none }

def pool27 : Array CpInfo := pool [(1, .class_ 2), (0, u "java/lang/String"), (1, .class_ 6), (1, u "java/lang/Object"), (0, u "<init>"), (0, u "()V"), (0, .methodref 1 10), (0, .nameAndType 11 12), (0, u "checkIndex"), (0, u "(II)V"), (1, .class_ 16), (1, u "java/lang/StringLatin1"), (36, u "([BI)C"), (67, u "$assertionsDisabled"), (0, u "Z"), (98, .class_ 223), (1, u "java/lang/StringLatin1$LinesSpliterator"), (28, u "charAt"), (28, u "equals"), (0, u "([B[B)Z"), (107, .class_ 391), (0, u "java/lang/StringLatin1$CharsSpliterator")] 3

def k27m0 : Method := { name := "<init>", desc := "()V", sig := { parameters := [], returnType := none }, accessFlags := 0, code := none }
def k27c1 : Code := { maxStack := 2, maxLocals := 2, code := jdk_43_method_2_code, exceptionTable := #[], attributes := #[] }
def k27m1 : Method := { name := "charAt", desc := "([BI)C", sig := { parameters := [(.array .byte), .int], returnType := some .char }, accessFlags := 9, code := some k27c1 }
def k27c2 : Code := { maxStack := 3, maxLocals := 3, code := jdk_43_method_13_code, exceptionTable := #[], attributes := #[] }
def k27m2 : Method := { name := "equals", desc := "([B[B)Z", sig := { parameters := [(.array .byte), (.array .byte)], returnType := some .boolean }, accessFlags := 9, code := some k27c2 }
/-- java/lang/StringLatin1 -/
def k27 : Class := { plain "java/lang/StringLatin1" (some 0) with
  accessFlags := 48
  interfaces := #[]
  cf := some (fileOf pool27 14 #[.nestMembers #[390, 221]] #[{ accessFlags := 0, nameIndex := 7, descriptorIndex := 8, attributes := #[] }, { accessFlags := 9, nameIndex := 252, descriptorIndex := 53, attributes := #[] }, { accessFlags := 9, nameIndex := 281, descriptorIndex := 282, attributes := #[] }] 48 4 #[] #[{ accessFlags := 4120, nameIndex := 121, descriptorIndex := 122, attributes := #[] }])
  fields := #[{ name := "$assertionsDisabled", type := .boolean, accessFlags := 4120, slot := 0, constantValue := 0 }]
  methods := #[k27m0, k27m1, k27m2]
  instanceTypes := #[]
  staticTypes := #[.boolean]
  resolved := Array.replicate 395 none
  statics := none }

def pool28 : Array CpInfo := pool [(2, .class_ 4), (1, u "java/lang/Object"), (0, u "<init>"), (0, u "()V"), (17, .class_ 26), (1, u "jdk/internal/util/Preconditions"), (6, u "checkIndex"), (21, .class_ 56), (0, u "jdk/internal/util/Preconditions$4"), (57, .class_ 115), (0, u "jdk/internal/util/Preconditions$1"), (7, u "SIOOBE_FORMATTER"), (0, u "Ljava/util/function/BiFunction;"), (0, .class_ 126), (0, u "jdk/internal/util/Preconditions$2"), (3, u "AIOOBE_FORMATTER"), (0, .class_ 132), (0, u "jdk/internal/util/Preconditions$3"), (3, u "IOOBE_FORMATTER"), (41, u "(IILjava/util/function/BiFunction;)I")] 15

def k28m0 : Method := { name := "<init>", desc := "()V", sig := { parameters := [], returnType := none }, accessFlags := 1, code := none }
def k28c1 : Code := { maxStack := 3, maxLocals := 3, code := jdk_41_method_11_code, exceptionTable := #[], attributes := #[] }
def k28m1 : Method := { name := "checkIndex", desc := "(IILjava/util/function/BiFunction;)I", sig := { parameters := [.int, .int, (.object "java/util/function/BiFunction")], returnType := some .int }, accessFlags := 9, code := some k28c1 }
/-- jdk/internal/util/Preconditions -/
def k28 : Class := { plain "jdk/internal/util/Preconditions" (some 0) with
  accessFlags := 33
  interfaces := #[]
  cf := some (fileOf pool28 24 #[.nestMembers #[55, 131, 125, 114]] #[{ accessFlags := 1, nameIndex := 5, descriptorIndex := 6, attributes := #[] }, { accessFlags := 9, nameIndex := 33, descriptorIndex := 178, attributes := #[] }] 33 2 #[] #[{ accessFlags := 25, nameIndex := 123, descriptorIndex := 124, attributes := #[] }, { accessFlags := 25, nameIndex := 130, descriptorIndex := 124, attributes := #[] }, { accessFlags := 25, nameIndex := 136, descriptorIndex := 124, attributes := #[] }])
  fields := #[{ name := "SIOOBE_FORMATTER", type := (.object "java/util/function/BiFunction"), accessFlags := 25, slot := 0, constantValue := 0 }, { name := "AIOOBE_FORMATTER", type := (.object "java/util/function/BiFunction"), accessFlags := 25, slot := 1, constantValue := 0 }, { name := "IOOBE_FORMATTER", type := (.object "java/util/function/BiFunction"), accessFlags := 25, slot := 2, constantValue := 0 }]
  methods := #[k28m0, k28m1]
  instanceTypes := #[]
  staticTypes := #[(.object "java/util/function/BiFunction"), (.object "java/util/function/BiFunction"), (.object "java/util/function/BiFunction")]
  resolved := Array.replicate 194 none
  statics := some 3 }

def pool29 : Array CpInfo := pool [(9, u "<init>"), (6, .class_ 18), (1, u "java/lang/Object"), (0, u "()V"), (1, .class_ 23), (1, u "jdk/internal/util/ArraysSupport"), (0, u "LOG2_ARRAY_LONG_INDEX_SCALE"), (0, u "I"), (2, u "U"), (0, u "Ljdk/internal/misc/Unsafe;"), (8, u "BIG_ENDIAN"), (0, u "Z"), (8, u "LOG2_BYTE_BIT_SIZE"), (4, u "LOG2_ARRAY_INT_INDEX_SCALE"), (54, u "JLA"), (0, u "Ljdk/internal/access/JavaLangAccess;"), (11, u "LOG2_ARRAY_BOOLEAN_INDEX_SCALE"), (9, u "LOG2_ARRAY_BYTE_INDEX_SCALE"), (5, u "LOG2_ARRAY_CHAR_INDEX_SCALE"), (5, u "LOG2_ARRAY_SHORT_INDEX_SCALE"), (18, u "LOG2_ARRAY_FLOAT_INDEX_SCALE"), (24, u "LOG2_ARRAY_DOUBLE_INDEX_SCALE"), (89, u "T_BOOLEAN"), (2, u "T_CHAR"), (1, u "T_FLOAT"), (1, u "T_DOUBLE"), (1, u "T_BYTE"), (1, u "T_SHORT"), (1, u "T_INT"), (1, u "T_LONG"), (1, u "SOFT_MAX_ARRAY_LENGTH")] 83

def k29m0 : Method := { name := "<init>", desc := "()V", sig := { parameters := [], returnType := none }, accessFlags := 2, code := none }
/-- jdk/internal/util/ArraysSupport -/
def k29 : Class := { plain "jdk/internal/util/ArraysSupport" (some 0) with
  accessFlags := 33
  interfaces := #[]
  cf := some (fileOf pool29 21 #[] #[{ accessFlags := 2, nameIndex := 9, descriptorIndex := 19, attributes := #[] }] 33 16 #[] #[{ accessFlags := 24, nameIndex := 28, descriptorIndex := 29, attributes := #[] }, { accessFlags := 26, nameIndex := 38, descriptorIndex := 39, attributes := #[] }, { accessFlags := 25, nameIndex := 121, descriptorIndex := 25, attributes := #[] }, { accessFlags := 25, nameIndex := 131, descriptorIndex := 25, attributes := #[] }, { accessFlags := 25, nameIndex := 137, descriptorIndex := 25, attributes := #[] }, { accessFlags := 25, nameIndex := 143, descriptorIndex := 25, attributes := #[] }, { accessFlags := 25, nameIndex := 53, descriptorIndex := 25, attributes := #[] }, { accessFlags := 25, nameIndex := 24, descriptorIndex := 25, attributes := #[] }, { accessFlags := 25, nameIndex := 162, descriptorIndex := 25, attributes := #[] }, { accessFlags := 25, nameIndex := 187, descriptorIndex := 25, attributes := #[] }, { accessFlags := 26, nameIndex := 48, descriptorIndex := 25, attributes := #[] }, { accessFlags := 25, nameIndex := 277, descriptorIndex := 25, attributes := #[] }, { accessFlags := 25, nameIndex := 280, descriptorIndex := 25, attributes := #[] }, { accessFlags := 25, nameIndex := 282, descriptorIndex := 25, attributes := #[] }, { accessFlags := 25, nameIndex := 284, descriptorIndex := 25, attributes := #[] }, { accessFlags := 25, nameIndex := 286, descriptorIndex := 25, attributes := #[] }, { accessFlags := 25, nameIndex := 288, descriptorIndex := 25, attributes := #[] }, { accessFlags := 25, nameIndex := 290, descriptorIndex := 25, attributes := #[] }, { accessFlags := 25, nameIndex := 292, descriptorIndex := 25, attributes := #[] }, { accessFlags := 26, nameIndex := 108, descriptorIndex := 109, attributes := #[] }, { accessFlags := 25, nameIndex := 294, descriptorIndex := 25, attributes := #[] }])
  fields := #[{ name := "U", type := (.object "jdk/internal/misc/Unsafe"), accessFlags := 24, slot := 0, constantValue := 0 }, { name := "BIG_ENDIAN", type := .boolean, accessFlags := 26, slot := 1, constantValue := 0 }, { name := "LOG2_ARRAY_BOOLEAN_INDEX_SCALE", type := .int, accessFlags := 25, slot := 2, constantValue := 0 }, { name := "LOG2_ARRAY_BYTE_INDEX_SCALE", type := .int, accessFlags := 25, slot := 3, constantValue := 0 }, { name := "LOG2_ARRAY_CHAR_INDEX_SCALE", type := .int, accessFlags := 25, slot := 4, constantValue := 0 }, { name := "LOG2_ARRAY_SHORT_INDEX_SCALE", type := .int, accessFlags := 25, slot := 5, constantValue := 0 }, { name := "LOG2_ARRAY_INT_INDEX_SCALE", type := .int, accessFlags := 25, slot := 6, constantValue := 0 }, { name := "LOG2_ARRAY_LONG_INDEX_SCALE", type := .int, accessFlags := 25, slot := 7, constantValue := 0 }, { name := "LOG2_ARRAY_FLOAT_INDEX_SCALE", type := .int, accessFlags := 25, slot := 8, constantValue := 0 }, { name := "LOG2_ARRAY_DOUBLE_INDEX_SCALE", type := .int, accessFlags := 25, slot := 9, constantValue := 0 }, { name := "LOG2_BYTE_BIT_SIZE", type := .int, accessFlags := 26, slot := 10, constantValue := 0 }, { name := "T_BOOLEAN", type := .int, accessFlags := 25, slot := 11, constantValue := 0 }, { name := "T_CHAR", type := .int, accessFlags := 25, slot := 12, constantValue := 0 }, { name := "T_FLOAT", type := .int, accessFlags := 25, slot := 13, constantValue := 0 }, { name := "T_DOUBLE", type := .int, accessFlags := 25, slot := 14, constantValue := 0 }, { name := "T_BYTE", type := .int, accessFlags := 25, slot := 15, constantValue := 0 }, { name := "T_SHORT", type := .int, accessFlags := 25, slot := 16, constantValue := 0 }, { name := "T_INT", type := .int, accessFlags := 25, slot := 17, constantValue := 0 }, { name := "T_LONG", type := .int, accessFlags := 25, slot := 18, constantValue := 0 }, { name := "JLA", type := (.object "jdk/internal/access/JavaLangAccess"), accessFlags := 26, slot := 19, constantValue := 0 }, { name := "SOFT_MAX_ARRAY_LENGTH", type := .int, accessFlags := 25, slot := 20, constantValue := 0 }]
  methods := #[k29m0]
  instanceTypes := #[]
  staticTypes := #[(.object "jdk/internal/misc/Unsafe"), .boolean, .int, .int, .int, .int, .int, .int, .int, .int, .int, .int, .int, .int, .int, .int, .int, .int, .int, (.object "jdk/internal/access/JavaLangAccess"), .int]
  resolved := Array.replicate 378 none
  statics := none }

def pool30 : Array CpInfo := pool [(1, u "java/lang/Cloneable"), (0, .class_ 1), (0, u "java/lang/Object"), (0, .class_ 3)] 3

/-- java/lang/Cloneable -/
def k30 : Class := { plain "java/lang/Cloneable" (some 0) with
  accessFlags := 1537
  interfaces := #[]
  cf := some (fileOf pool30 2 #[] #[] 1537 4 #[] #[])
  fields := #[]
  methods := #[]
  instanceTypes := #[]
  staticTypes := #[]
  resolved := Array.replicate 8 none
  statics := none }

/-- the primitive byte -/
def k31 : Class := { plain "byte" none with kind := .primitive 'B', accessFlags := 0x411 }
/-- [B -/
def k32 : Class := { plain "[B" (some 0) with kind := .array 31 .byte, interfaces := #[30, 4], accessFlags := 1041 }

/-- the primitive int -/
def k33 : Class := { plain "int" none with kind := .primitive 'I', accessFlags := 0x411 }
/-- [I -/
def k34 : Class := { plain "[I" (some 0) with kind := .array 33 .int, interfaces := #[30, 4], accessFlags := 1041 }

/-- [Ljava/lang/Object; -/
def k35 : Class := { plain "[Ljava/lang/Object;" (some 0) with kind := .array 0 (.object "java/lang/Object"), interfaces := #[30, 4], accessFlags := 1041 }

def heap : Heap := #[{ cls := 6, slots := #[.ref 6, .ref 7, .ref 8, .ref 9, .ref 10, .ref 11, .ref 12, .ref 5, .null], vm := .statics 6 },
  { cls := 21, slots := #[.long 0, .int 1, .null, .int 0, .null, .int 0, .int 0], vm := .statics 21 },
  { cls := 23, slots := #[.int 0, .int 0, .null, .null, .ref 14, .ref 13, .int 0, .int 0, .long 0], vm := .statics 23 },
  { cls := 28, slots := #[.null, .null, .null], vm := .statics 28 },
  { cls := 35, slots := #[.ref 6, .ref 7, .ref 8, .ref 9, .ref 10, .ref 11, .ref 12], vm := .none },
  { cls := 15, slots := #[.ref 4, .int 0], vm := .none },
  { cls := 6, slots := #[.null, .int 0, .int 0, .int 110, .null], vm := .none },
  { cls := 6, slots := #[.null, .int 1, .int 0, .int 100, .null], vm := .none },
  { cls := 6, slots := #[.null, .int 2, .int 0, .int 90, .null], vm := .none },
  { cls := 6, slots := #[.null, .int 3, .int 0, .int 80, .null], vm := .none },
  { cls := 6, slots := #[.null, .int 4, .int 0, .int 70, .null], vm := .none },
  { cls := 6, slots := #[.null, .int 5, .int 0, .int 60, .null], vm := .none },
  { cls := 6, slots := #[.null, .int 6, .int 0, .int 50, .null], vm := .none },
  { cls := 32, slots := #[.int 48, .int 49, .int 50, .int 51, .int 52, .int 53, .int 54, .int 55, .int 56, .int 57, .int 48, .int 49, .int 50, .int 51, .int 52, .int 53, .int 54, .int 55, .int 56, .int 57, .int 48, .int 49, .int 50, .int 51, .int 52, .int 53, .int 54, .int 55, .int 56, .int 57, .int 48, .int 49, .int 50, .int 51, .int 52, .int 53, .int 54, .int 55, .int 56, .int 57, .int 48, .int 49, .int 50, .int 51, .int 52, .int 53, .int 54, .int 55, .int 56, .int 57, .int 48, .int 49, .int 50, .int 51, .int 52, .int 53, .int 54, .int 55, .int 56, .int 57, .int 48, .int 49, .int 50, .int 51, .int 52, .int 53, .int 54, .int 55, .int 56, .int 57, .int 48, .int 49, .int 50, .int 51, .int 52, .int 53, .int 54, .int 55, .int 56, .int 57, .int 48, .int 49, .int 50, .int 51, .int 52, .int 53, .int 54, .int 55, .int 56, .int 57, .int 48, .int 49, .int 50, .int 51, .int 52, .int 53, .int 54, .int 55, .int 56, .int 57], vm := .none },
  { cls := 32, slots := #[.int 48, .int 48, .int 48, .int 48, .int 48, .int 48, .int 48, .int 48, .int 48, .int 48, .int 49, .int 49, .int 49, .int 49, .int 49, .int 49, .int 49, .int 49, .int 49, .int 49, .int 50, .int 50, .int 50, .int 50, .int 50, .int 50, .int 50, .int 50, .int 50, .int 50, .int 51, .int 51, .int 51, .int 51, .int 51, .int 51, .int 51, .int 51, .int 51, .int 51, .int 52, .int 52, .int 52, .int 52, .int 52, .int 52, .int 52, .int 52, .int 52, .int 52, .int 53, .int 53, .int 53, .int 53, .int 53, .int 53, .int 53, .int 53, .int 53, .int 53, .int 54, .int 54, .int 54, .int 54, .int 54, .int 54, .int 54, .int 54, .int 54, .int 54, .int 55, .int 55, .int 55, .int 55, .int 55, .int 55, .int 55, .int 55, .int 55, .int 55, .int 56, .int 56, .int 56, .int 56, .int 56, .int 56, .int 56, .int 56, .int 56, .int 56, .int 57, .int 57, .int 57, .int 57, .int 57, .int 57, .int 57, .int 57, .int 57, .int 57], vm := .none }]
def classes : Array Class := #[k0, k1, k2, k3, k4, k5, k6, k7, k8, k9, k10, k11, k12, k13, k14, k15, k16, k17, k18, k19, k20, k21, k22, k23, k24, k25, k26, k27, k28, k29, k30, k31, k32, k33, k34, k35]
def interned : List (Array UInt16 × Addr) := []
def slotsUsed : Nat := 272
def theMethod : MethodId := ⟨1, 1⟩
def args0 : Array Value := #[]
def aboutOver (below : List Frame) : State where
  vm := { classes := classes, interned := interned.toArray }
  heap := heap
  slotsUsed := slotsUsed
  threads := #[{ frames := .invoking theMethod args0 :: below }]
def below0 : List Frame := [.native { method := ⟨0, 0⟩, args := #[] }]
def about1 : State := aboutOver below0
def p0 : Program := .bare "" "" ""
def e0 : Env := launch0.env 0 0 0
theorem w_frames : about1.frames = Frame.invoking theMethod args0 :: below0 := rfl
set_option maxRecDepth 65536 in
theorem w_args : argsFit about1.vm theMethod args0 = true := by decide +kernel
set_option maxRecDepth 65536 in
theorem w_heap : heapFits about1 = true := by decide +kernel
set_option maxRecDepth 65536 in
theorem w_runnable : about1.curStatus? = some .runnable := by decide +kernel
set_option maxRecDepth 65536 in
theorem w_alone : about1.alone = true := by decide +kernel
set_option maxRecDepth 65536 in
theorem w_named : about1.methodNamed? x = some theMethod := by decide +kernel
set_option maxRecDepth 65536 in
theorem w_hears : about1.hears theMethod below0 = true := by decide +kernel
set_option maxRecDepth 65536 in
theorem w_ripe : about1.ripe theMethod args0 below0 = true := by decide +kernel
theorem w_running : about1.status = .running := rfl
set_option maxRecDepth 65536 in
theorem w_room : about1.hasRoom e0.platform room_1 = true :=
  launch0.hasRoom_least _ room_1 (by decide +kernel) (by decide +kernel) (by decide +kernel) (by decide +kernel) (by decide +kernel) (by decide +kernel)
theorem allAtoms_all (ts : List Jvm.Cond) (a : Array Jvm.Value) (st : Jvm.State) : (allAtoms ts).before a st = ts.all (fun c => c.before a st) := by
  induction ts with
  | nil => rfl
  | cons c t ih =>
    show (Jvm.Cond.and c (allAtoms t)).before a st = _
    rw [Jvm.Cond.before_and, ih, List.all_cons]
def words1 : List Jvm.Cond := Jvm.Cond.code x code maxLocals ret :: tables_1
/-- a 'code' word, met by the world's own term for the bytes: nothing is compared byte by byte -/
theorem code_word {y : MethodName} {bytes : ByteArray} {mx : Nat} {rt : Option FieldType} {a : Array Value} {s : State} {m : MethodId} {meth : Method} {c : Code} (h1 : s.methodNamed? y = some m) (h2 : s.vm.method? m = some meth) (h3 : meth.code = some c) (h4 : c.code = bytes)
    (h5 : (c.maxLocals == mx && c.exceptionTable.isEmpty && decide (c.maxStack ≤ mostOperands) && decide (meth.sig.returnType = rt) && !meth.locks && decide (parseMethodDescriptor y.desc = some meth.sig)) = true) : (Jvm.Cond.code y bytes mx rt).before a s = true := by
  simp only [Bool.and_eq_true, beq_iff_eq, Bool.not_eq_true', decide_eq_true_eq] at h5
  obtain ⟨⟨⟨⟨⟨g1, g2⟩, g3⟩, g4⟩, g5⟩, g6⟩ := h5
  simp [Cond.before, Cond.holds, Cond.value, h1, h2, h3, h4, g1, g2, g3, g4, g5, g6]
def isCode : Jvm.Cond → Bool
  | .code _ _ _ _ => true
  | _ => false
theorem all_split {L : List Jvm.Cond} {P : Jvm.Cond → Bool} (h1 : L.all (fun c => isCode c || P c) = true) (h2 : ∀ c ∈ L.filter isCode, P c = true) : L.all P = true := by
  refine List.all_eq_true.mpr fun c hc => ?_
  have h := List.all_eq_true.mp h1 c hc
  rcases Bool.eq_false_or_eq_true (isCode c) with hi | hi
  · exact h2 c (List.mem_filter.mpr ⟨hc, hi⟩)
  · simpa [hi] using h
set_option maxRecDepth 65536 in
theorem w_c0 : (Jvm.Cond.code x code maxLocals ret).before args0 about1 = true := code_word (m := ⟨1, 1⟩) (meth := k1m1) (c := k1c1) (by decide +kernel) rfl rfl rfl (by decide +kernel)
set_option maxRecDepth 65536 in
theorem w_c1 : (Jvm.Cond.code ({ cls := "com/example/ghostseat/ghostseat/modes/comics/Title", name := "leastForATitle", desc := "()I" } : Jvm.MethodName) prog_20_method_5_code (0 : Nat) (Option.some Jvm.ClassFile.FieldType.int)).before args0 about1 = true := code_word (m := ⟨6, 0⟩) (meth := k6m0) (c := k6c0) (by decide +kernel) rfl rfl rfl (by decide +kernel)
set_option maxRecDepth 65536 in
theorem w_c2 : (Jvm.Cond.code ({ cls := "java/util/ImmutableCollections$ListN", name := "size", desc := "()I" } : Jvm.MethodName) jdk_45_method_3_code (1 : Nat) (Option.some Jvm.ClassFile.FieldType.int)).before args0 about1 = true := code_word (m := ⟨15, 0⟩) (meth := k15m0) (c := k15c0) (by decide +kernel) rfl rfl rfl (by decide +kernel)
set_option maxRecDepth 65536 in
theorem w_c3 : (Jvm.Cond.code ({ cls := "java/util/ImmutableCollections$ListN", name := "get", desc := "(I)Ljava/lang/Object;" } : Jvm.MethodName) jdk_45_method_4_code (2 : Nat) (Option.some (Jvm.ClassFile.FieldType.object "java/lang/Object"))).before args0 about1 = true := code_word (m := ⟨15, 1⟩) (meth := k15m1) (c := k15c1) (by decide +kernel) rfl rfl rfl (by decide +kernel)
set_option maxRecDepth 65536 in
theorem w_c4 : (Jvm.Cond.code ({ cls := "com/example/ghostseat/ghostseat/modes/comics/Title", name := "range", desc := "()Ljava/lang/String;" } : Jvm.MethodName) prog_20_method_6_code (1 : Nat) (Option.some (Jvm.ClassFile.FieldType.object "java/lang/String"))).before args0 about1 = true := code_word (m := ⟨6, 1⟩) (meth := k6m1) (c := k6c1) (by decide +kernel) rfl rfl rfl (by decide +kernel)
set_option maxRecDepth 65536 in
theorem w_c5 : (Jvm.Cond.code ({ cls := "java/lang/Enum", name := "ordinal", desc := "()I" } : Jvm.MethodName) jdk_37_method_2_code (1 : Nat) (Option.some Jvm.ClassFile.FieldType.int)).before args0 about1 = true := code_word (m := ⟨5, 0⟩) (meth := k5m0) (c := k5c0) (by decide +kernel) rfl rfl rfl (by decide +kernel)
set_option maxRecDepth 65536 in
theorem w_c6 : (Jvm.Cond.code ({ cls := "java/lang/StringBuilder", name := "<init>", desc := "()V" } : Jvm.MethodName) jdk_67_method_1_code (1 : Nat) (Option.none : Option Jvm.ClassFile.FieldType)).before args0 about1 = true := code_word (m := ⟨19, 0⟩) (meth := k19m0) (c := k19c0) (by decide +kernel) rfl rfl rfl (by decide +kernel)
set_option maxRecDepth 65536 in
theorem w_c7 : (Jvm.Cond.code ({ cls := "java/lang/AbstractStringBuilder", name := "<init>", desc := "(I)V" } : Jvm.MethodName) jdk_68_method_2_code (2 : Nat) (Option.none : Option Jvm.ClassFile.FieldType)).before args0 about1 = true := code_word (m := ⟨18, 1⟩) (meth := k18m1) (c := k18c1) (by decide +kernel) rfl rfl rfl (by decide +kernel)
set_option maxRecDepth 65536 in
theorem w_c8 : (Jvm.Cond.code ({ cls := "java/lang/Object", name := "<init>", desc := "()V" } : Jvm.MethodName) object_method_1_code (1 : Nat) (Option.none : Option Jvm.ClassFile.FieldType)).before args0 about1 = true := code_word (m := ⟨0, 0⟩) (meth := k0m0) (c := k0c0) (by decide +kernel) rfl rfl rfl (by decide +kernel)
set_option maxRecDepth 65536 in
theorem w_c9 : (Jvm.Cond.code ({ cls := "java/lang/StringBuilder", name := "append", desc := "(I)Ljava/lang/StringBuilder;" } : Jvm.MethodName) jdk_67_method_15_code (2 : Nat) (Option.some (Jvm.ClassFile.FieldType.object "java/lang/StringBuilder"))).before args0 about1 = true := code_word (m := ⟨19, 2⟩) (meth := k19m2) (c := k19c2) (by decide +kernel) rfl rfl rfl (by decide +kernel)
set_option maxRecDepth 65536 in
theorem w_c10 : (Jvm.Cond.code ({ cls := "java/lang/AbstractStringBuilder", name := "append", desc := "(I)Ljava/lang/AbstractStringBuilder;" } : Jvm.MethodName) jdk_68_method_32_code (4 : Nat) (Option.some (Jvm.ClassFile.FieldType.object "java/lang/AbstractStringBuilder"))).before args0 about1 = true := code_word (m := ⟨18, 5⟩) (meth := k18m5) (c := k18c5) (by decide +kernel) rfl rfl rfl (by decide +kernel)
set_option maxRecDepth 65536 in
theorem w_c11 : (Jvm.Cond.code ({ cls := "java/lang/Integer", name := "stringSize", desc := "(I)I" } : Jvm.MethodName) jdk_33_method_13_code (4 : Nat) (Option.some Jvm.ClassFile.FieldType.int)).before args0 about1 = true := code_word (m := ⟨23, 1⟩) (meth := k23m1) (c := k23c1) (by decide +kernel) rfl rfl rfl (by decide +kernel)
set_option maxRecDepth 65536 in
theorem w_c12 : (Jvm.Cond.code ({ cls := "java/lang/AbstractStringBuilder", name := "ensureCapacityInternal", desc := "(I)V" } : Jvm.MethodName) jdk_68_method_9_code (3 : Nat) (Option.none : Option Jvm.ClassFile.FieldType)).before args0 about1 = true := code_word (m := ⟨18, 3⟩) (meth := k18m3) (c := k18c3) (by decide +kernel) rfl rfl rfl (by decide +kernel)
set_option maxRecDepth 65536 in
theorem w_c13 : (Jvm.Cond.code ({ cls := "java/lang/AbstractStringBuilder", name := "isLatin1", desc := "()Z" } : Jvm.MethodName) jdk_68_method_68_code (1 : Nat) (Option.some Jvm.ClassFile.FieldType.boolean)).before args0 about1 = true := code_word (m := ⟨18, 7⟩) (meth := k18m7) (c := k18c7) (by decide +kernel) rfl rfl rfl (by decide +kernel)
set_option maxRecDepth 65536 in
theorem w_c14 : (Jvm.Cond.code ({ cls := "java/lang/Integer", name := "getChars", desc := "(II[B)I" } : Jvm.MethodName) jdk_33_method_12_code (7 : Nat) (Option.some Jvm.ClassFile.FieldType.int)).before args0 about1 = true := code_word (m := ⟨23, 0⟩) (meth := k23m0) (c := k23c0) (by decide +kernel) rfl rfl rfl (by decide +kernel)
set_option maxRecDepth 65536 in
theorem w_c15 : (Jvm.Cond.code ({ cls := "java/lang/StringBuilder", name := "append", desc := "(Ljava/lang/String;)Ljava/lang/StringBuilder;" } : Jvm.MethodName) jdk_67_method_7_code (2 : Nat) (Option.some (Jvm.ClassFile.FieldType.object "java/lang/StringBuilder"))).before args0 about1 = true := code_word (m := ⟨19, 1⟩) (meth := k19m1) (c := k19c1) (by decide +kernel) rfl rfl rfl (by decide +kernel)
set_option maxRecDepth 65536 in
theorem w_c16 : (Jvm.Cond.code ({ cls := "java/lang/AbstractStringBuilder", name := "append", desc := "(Ljava/lang/String;)Ljava/lang/AbstractStringBuilder;" } : Jvm.MethodName) jdk_68_method_22_code (3 : Nat) (Option.some (Jvm.ClassFile.FieldType.object "java/lang/AbstractStringBuilder"))).before args0 about1 = true := code_word (m := ⟨18, 4⟩) (meth := k18m4) (c := k18c4) (by decide +kernel) rfl rfl rfl (by decide +kernel)
set_option maxRecDepth 65536 in
theorem w_c17 : (Jvm.Cond.code ({ cls := "java/lang/String", name := "length", desc := "()I" } : Jvm.MethodName) jdk_42_method_54_code (1 : Nat) (Option.some Jvm.ClassFile.FieldType.int)).before args0 about1 = true := code_word (m := ⟨21, 2⟩) (meth := k21m2) (c := k21c2) (by decide +kernel) rfl rfl rfl (by decide +kernel)
set_option maxRecDepth 65536 in
theorem w_c18 : (Jvm.Cond.code ({ cls := "java/lang/String", name := "coder", desc := "()B" } : Jvm.MethodName) jdk_42_method_152_code (1 : Nat) (Option.some Jvm.ClassFile.FieldType.byte)).before args0 about1 = true := code_word (m := ⟨21, 7⟩) (meth := k21m7) (c := k21c7) (by decide +kernel) rfl rfl rfl (by decide +kernel)
set_option maxRecDepth 65536 in
theorem w_c19 : (Jvm.Cond.code ({ cls := "java/lang/AbstractStringBuilder", name := "putStringAt", desc := "(ILjava/lang/String;)V" } : Jvm.MethodName) jdk_68_method_73_code (3 : Nat) (Option.none : Option Jvm.ClassFile.FieldType)).before args0 about1 = true := code_word (m := ⟨18, 9⟩) (meth := k18m9) (c := k18c9) (by decide +kernel) rfl rfl rfl (by decide +kernel)
set_option maxRecDepth 65536 in
theorem w_c20 : (Jvm.Cond.code ({ cls := "java/lang/AbstractStringBuilder", name := "inflateIfNeededFor", desc := "(Ljava/lang/String;)V" } : Jvm.MethodName) jdk_68_method_71_code (2 : Nat) (Option.none : Option Jvm.ClassFile.FieldType)).before args0 about1 = true := code_word (m := ⟨18, 8⟩) (meth := k18m8) (c := k18c8) (by decide +kernel) rfl rfl rfl (by decide +kernel)
set_option maxRecDepth 65536 in
theorem w_c21 : (Jvm.Cond.code ({ cls := "java/lang/String", name := "getBytes", desc := "([BIB)V" } : Jvm.MethodName) jdk_42_method_147_code (4 : Nat) (Option.none : Option Jvm.ClassFile.FieldType)).before args0 about1 = true := code_word (m := ⟨21, 5⟩) (meth := k21m5) (c := k21c5) (by decide +kernel) rfl rfl rfl (by decide +kernel)
set_option maxRecDepth 65536 in
theorem w_c22 : (Jvm.Cond.code ({ cls := "java/lang/StringBuilder", name := "toString", desc := "()Ljava/lang/String;" } : Jvm.MethodName) jdk_67_method_42_code (1 : Nat) (Option.some (Jvm.ClassFile.FieldType.object "java/lang/String"))).before args0 about1 = true := code_word (m := ⟨19, 3⟩) (meth := k19m3) (c := k19c3) (by decide +kernel) rfl rfl rfl (by decide +kernel)
set_option maxRecDepth 65536 in
theorem w_c23 : (Jvm.Cond.code ({ cls := "java/lang/String", name := "<init>", desc := "(Ljava/lang/StringBuilder;)V" } : Jvm.MethodName) jdk_42_method_53_code (2 : Nat) (Option.none : Option Jvm.ClassFile.FieldType)).before args0 about1 = true := code_word (m := ⟨21, 1⟩) (meth := k21m1) (c := k21c1) (by decide +kernel) rfl rfl rfl (by decide +kernel)
set_option maxRecDepth 65536 in
theorem w_c24 : (Jvm.Cond.code ({ cls := "java/lang/String", name := "<init>", desc := "(Ljava/lang/AbstractStringBuilder;Ljava/lang/Void;)V" } : Jvm.MethodName) jdk_42_method_150_code (5 : Nat) (Option.none : Option Jvm.ClassFile.FieldType)).before args0 about1 = true := code_word (m := ⟨21, 6⟩) (meth := k21m6) (c := k21c6) (by decide +kernel) rfl rfl rfl (by decide +kernel)
set_option maxRecDepth 65536 in
theorem w_c25 : (Jvm.Cond.code ({ cls := "java/lang/AbstractStringBuilder", name := "getValue", desc := "()[B" } : Jvm.MethodName) jdk_68_method_64_code (1 : Nat) (Option.some (Jvm.ClassFile.FieldType.array Jvm.ClassFile.FieldType.byte))).before args0 about1 = true := code_word (m := ⟨18, 6⟩) (meth := k18m6) (c := k18c6) (by decide +kernel) rfl rfl rfl (by decide +kernel)
set_option maxRecDepth 65536 in
theorem w_c26 : (Jvm.Cond.code ({ cls := "java/lang/StringBuilder", name := "length", desc := "()I" } : Jvm.MethodName) jdk_67_method_93_code (1 : Nat) (Option.some Jvm.ClassFile.FieldType.int)).before args0 about1 = true := code_word (m := ⟨19, 4⟩) (meth := k19m4) (c := k19c4) (by decide +kernel) rfl rfl rfl (by decide +kernel)
set_option maxRecDepth 65536 in
theorem w_c27 : (Jvm.Cond.code ({ cls := "java/lang/AbstractStringBuilder", name := "length", desc := "()I" } : Jvm.MethodName) jdk_68_method_6_code (1 : Nat) (Option.some Jvm.ClassFile.FieldType.int)).before args0 about1 = true := code_word (m := ⟨18, 2⟩) (meth := k18m2) (c := k18c2) (by decide +kernel) rfl rfl rfl (by decide +kernel)
set_option maxRecDepth 65536 in
theorem w_c28 : (Jvm.Cond.code ({ cls := "java/util/Arrays", name := "copyOfRange", desc := "([BII)[B" } : Jvm.MethodName) jdk_65_method_132_code (3 : Nat) (Option.some (Jvm.ClassFile.FieldType.array Jvm.ClassFile.FieldType.byte))).before args0 about1 = true := code_word (m := ⟨25, 2⟩) (meth := k25m2) (c := k25c2) (by decide +kernel) rfl rfl rfl (by decide +kernel)
set_option maxRecDepth 65536 in
theorem w_c29 : (Jvm.Cond.code ({ cls := "java/util/Arrays", name := "copyOfRangeByte", desc := "([BII)[B" } : Jvm.MethodName) jdk_65_method_133_code (5 : Nat) (Option.some (Jvm.ClassFile.FieldType.array Jvm.ClassFile.FieldType.byte))).before args0 about1 = true := code_word (m := ⟨25, 3⟩) (meth := k25m3) (c := k25c3) (by decide +kernel) rfl rfl rfl (by decide +kernel)
set_option maxRecDepth 65536 in
theorem w_c30 : (Jvm.Cond.code ({ cls := "java/util/Arrays", name := "checkLength", desc := "(II)V" } : Jvm.MethodName) jdk_65_method_131_code (2 : Nat) (Option.none : Option Jvm.ClassFile.FieldType)).before args0 about1 = true := code_word (m := ⟨25, 1⟩) (meth := k25m1) (c := k25c1) (by decide +kernel) rfl rfl rfl (by decide +kernel)
set_option maxRecDepth 65536 in
theorem w_c31 : (Jvm.Cond.code ({ cls := "java/lang/Math", name := "min", desc := "(II)I" } : Jvm.MethodName) jdk_29_method_69_code (2 : Nat) (Option.some Jvm.ClassFile.FieldType.int)).before args0 about1 = true := code_word (m := ⟨26, 1⟩) (meth := k26m1) (c := k26c1) (by decide +kernel) rfl rfl rfl (by decide +kernel)
set_option maxRecDepth 65536 in
theorem w_c32 : (Jvm.Cond.code ({ cls := "java/lang/String", name := "charAt", desc := "(I)C" } : Jvm.MethodName) jdk_42_method_56_code (2 : Nat) (Option.some Jvm.ClassFile.FieldType.char)).before args0 about1 = true := code_word (m := ⟨21, 3⟩) (meth := k21m3) (c := k21c3) (by decide +kernel) rfl rfl rfl (by decide +kernel)
set_option maxRecDepth 65536 in
theorem w_c33 : (Jvm.Cond.code ({ cls := "java/lang/String", name := "isLatin1", desc := "()Z" } : Jvm.MethodName) jdk_42_method_154_code (1 : Nat) (Option.some Jvm.ClassFile.FieldType.boolean)).before args0 about1 = true := code_word (m := ⟨21, 8⟩) (meth := k21m8) (c := k21c8) (by decide +kernel) rfl rfl rfl (by decide +kernel)
set_option maxRecDepth 65536 in
theorem w_c34 : (Jvm.Cond.code ({ cls := "java/lang/StringLatin1", name := "charAt", desc := "([BI)C" } : Jvm.MethodName) jdk_43_method_2_code (2 : Nat) (Option.some Jvm.ClassFile.FieldType.char)).before args0 about1 = true := code_word (m := ⟨27, 1⟩) (meth := k27m1) (c := k27c1) (by decide +kernel) rfl rfl rfl (by decide +kernel)
set_option maxRecDepth 65536 in
theorem w_c35 : (Jvm.Cond.code ({ cls := "java/lang/String", name := "checkIndex", desc := "(II)V" } : Jvm.MethodName) jdk_42_method_155_code (2 : Nat) (Option.none : Option Jvm.ClassFile.FieldType)).before args0 about1 = true := code_word (m := ⟨21, 9⟩) (meth := k21m9) (c := k21c9) (by decide +kernel) rfl rfl rfl (by decide +kernel)
set_option maxRecDepth 65536 in
theorem w_c36 : (Jvm.Cond.code ({ cls := "jdk/internal/util/Preconditions", name := "checkIndex", desc := "(IILjava/util/function/BiFunction;)I" } : Jvm.MethodName) jdk_41_method_11_code (3 : Nat) (Option.some Jvm.ClassFile.FieldType.int)).before args0 about1 = true := code_word (m := ⟨28, 1⟩) (meth := k28m1) (c := k28c1) (by decide +kernel) rfl rfl rfl (by decide +kernel)
set_option maxRecDepth 65536 in
theorem w_c37 : (Jvm.Cond.code ({ cls := "java/lang/String", name := "equals", desc := "(Ljava/lang/Object;)Z" } : Jvm.MethodName) jdk_42_method_66_code (3 : Nat) (Option.some Jvm.ClassFile.FieldType.boolean)).before args0 about1 = true := code_word (m := ⟨21, 4⟩) (meth := k21m4) (c := k21c4) (by decide +kernel) rfl rfl rfl (by decide +kernel)
set_option maxRecDepth 65536 in
theorem w_c38 : (Jvm.Cond.code ({ cls := "java/lang/StringLatin1", name := "equals", desc := "([B[B)Z" } : Jvm.MethodName) jdk_43_method_13_code (3 : Nat) (Option.some Jvm.ClassFile.FieldType.boolean)).before args0 about1 = true := code_word (m := ⟨27, 2⟩) (meth := k27m2) (c := k27c2) (by decide +kernel) rfl rfl rfl (by decide +kernel)
def codes1 : List Jvm.Cond := [Jvm.Cond.code x code maxLocals ret, Jvm.Cond.code ({ cls := "com/example/ghostseat/ghostseat/modes/comics/Title", name := "leastForATitle", desc := "()I" } : Jvm.MethodName) prog_20_method_5_code (0 : Nat) (Option.some Jvm.ClassFile.FieldType.int), Jvm.Cond.code ({ cls := "java/util/ImmutableCollections$ListN", name := "size", desc := "()I" } : Jvm.MethodName) jdk_45_method_3_code (1 : Nat) (Option.some Jvm.ClassFile.FieldType.int), Jvm.Cond.code ({ cls := "java/util/ImmutableCollections$ListN", name := "get", desc := "(I)Ljava/lang/Object;" } : Jvm.MethodName) jdk_45_method_4_code (2 : Nat) (Option.some (Jvm.ClassFile.FieldType.object "java/lang/Object")), Jvm.Cond.code ({ cls := "com/example/ghostseat/ghostseat/modes/comics/Title", name := "range", desc := "()Ljava/lang/String;" } : Jvm.MethodName) prog_20_method_6_code (1 : Nat) (Option.some (Jvm.ClassFile.FieldType.object "java/lang/String")), Jvm.Cond.code ({ cls := "java/lang/Enum", name := "ordinal", desc := "()I" } : Jvm.MethodName) jdk_37_method_2_code (1 : Nat) (Option.some Jvm.ClassFile.FieldType.int), Jvm.Cond.code ({ cls := "java/lang/StringBuilder", name := "<init>", desc := "()V" } : Jvm.MethodName) jdk_67_method_1_code (1 : Nat) (Option.none : Option Jvm.ClassFile.FieldType), Jvm.Cond.code ({ cls := "java/lang/AbstractStringBuilder", name := "<init>", desc := "(I)V" } : Jvm.MethodName) jdk_68_method_2_code (2 : Nat) (Option.none : Option Jvm.ClassFile.FieldType), Jvm.Cond.code ({ cls := "java/lang/Object", name := "<init>", desc := "()V" } : Jvm.MethodName) object_method_1_code (1 : Nat) (Option.none : Option Jvm.ClassFile.FieldType), Jvm.Cond.code ({ cls := "java/lang/StringBuilder", name := "append", desc := "(I)Ljava/lang/StringBuilder;" } : Jvm.MethodName) jdk_67_method_15_code (2 : Nat) (Option.some (Jvm.ClassFile.FieldType.object "java/lang/StringBuilder")), Jvm.Cond.code ({ cls := "java/lang/AbstractStringBuilder", name := "append", desc := "(I)Ljava/lang/AbstractStringBuilder;" } : Jvm.MethodName) jdk_68_method_32_code (4 : Nat) (Option.some (Jvm.ClassFile.FieldType.object "java/lang/AbstractStringBuilder")), Jvm.Cond.code ({ cls := "java/lang/Integer", name := "stringSize", desc := "(I)I" } : Jvm.MethodName) jdk_33_method_13_code (4 : Nat) (Option.some Jvm.ClassFile.FieldType.int), Jvm.Cond.code ({ cls := "java/lang/AbstractStringBuilder", name := "ensureCapacityInternal", desc := "(I)V" } : Jvm.MethodName) jdk_68_method_9_code (3 : Nat) (Option.none : Option Jvm.ClassFile.FieldType), Jvm.Cond.code ({ cls := "java/lang/AbstractStringBuilder", name := "isLatin1", desc := "()Z" } : Jvm.MethodName) jdk_68_method_68_code (1 : Nat) (Option.some Jvm.ClassFile.FieldType.boolean), Jvm.Cond.code ({ cls := "java/lang/Integer", name := "getChars", desc := "(II[B)I" } : Jvm.MethodName) jdk_33_method_12_code (7 : Nat) (Option.some Jvm.ClassFile.FieldType.int), Jvm.Cond.code ({ cls := "java/lang/StringBuilder", name := "append", desc := "(Ljava/lang/String;)Ljava/lang/StringBuilder;" } : Jvm.MethodName) jdk_67_method_7_code (2 : Nat) (Option.some (Jvm.ClassFile.FieldType.object "java/lang/StringBuilder")), Jvm.Cond.code ({ cls := "java/lang/AbstractStringBuilder", name := "append", desc := "(Ljava/lang/String;)Ljava/lang/AbstractStringBuilder;" } : Jvm.MethodName) jdk_68_method_22_code (3 : Nat) (Option.some (Jvm.ClassFile.FieldType.object "java/lang/AbstractStringBuilder")), Jvm.Cond.code ({ cls := "java/lang/String", name := "length", desc := "()I" } : Jvm.MethodName) jdk_42_method_54_code (1 : Nat) (Option.some Jvm.ClassFile.FieldType.int), Jvm.Cond.code ({ cls := "java/lang/String", name := "coder", desc := "()B" } : Jvm.MethodName) jdk_42_method_152_code (1 : Nat) (Option.some Jvm.ClassFile.FieldType.byte), Jvm.Cond.code ({ cls := "java/lang/AbstractStringBuilder", name := "putStringAt", desc := "(ILjava/lang/String;)V" } : Jvm.MethodName) jdk_68_method_73_code (3 : Nat) (Option.none : Option Jvm.ClassFile.FieldType), Jvm.Cond.code ({ cls := "java/lang/AbstractStringBuilder", name := "inflateIfNeededFor", desc := "(Ljava/lang/String;)V" } : Jvm.MethodName) jdk_68_method_71_code (2 : Nat) (Option.none : Option Jvm.ClassFile.FieldType), Jvm.Cond.code ({ cls := "java/lang/String", name := "getBytes", desc := "([BIB)V" } : Jvm.MethodName) jdk_42_method_147_code (4 : Nat) (Option.none : Option Jvm.ClassFile.FieldType), Jvm.Cond.code ({ cls := "java/lang/StringBuilder", name := "toString", desc := "()Ljava/lang/String;" } : Jvm.MethodName) jdk_67_method_42_code (1 : Nat) (Option.some (Jvm.ClassFile.FieldType.object "java/lang/String")), Jvm.Cond.code ({ cls := "java/lang/String", name := "<init>", desc := "(Ljava/lang/StringBuilder;)V" } : Jvm.MethodName) jdk_42_method_53_code (2 : Nat) (Option.none : Option Jvm.ClassFile.FieldType), Jvm.Cond.code ({ cls := "java/lang/String", name := "<init>", desc := "(Ljava/lang/AbstractStringBuilder;Ljava/lang/Void;)V" } : Jvm.MethodName) jdk_42_method_150_code (5 : Nat) (Option.none : Option Jvm.ClassFile.FieldType), Jvm.Cond.code ({ cls := "java/lang/AbstractStringBuilder", name := "getValue", desc := "()[B" } : Jvm.MethodName) jdk_68_method_64_code (1 : Nat) (Option.some (Jvm.ClassFile.FieldType.array Jvm.ClassFile.FieldType.byte)), Jvm.Cond.code ({ cls := "java/lang/StringBuilder", name := "length", desc := "()I" } : Jvm.MethodName) jdk_67_method_93_code (1 : Nat) (Option.some Jvm.ClassFile.FieldType.int), Jvm.Cond.code ({ cls := "java/lang/AbstractStringBuilder", name := "length", desc := "()I" } : Jvm.MethodName) jdk_68_method_6_code (1 : Nat) (Option.some Jvm.ClassFile.FieldType.int), Jvm.Cond.code ({ cls := "java/util/Arrays", name := "copyOfRange", desc := "([BII)[B" } : Jvm.MethodName) jdk_65_method_132_code (3 : Nat) (Option.some (Jvm.ClassFile.FieldType.array Jvm.ClassFile.FieldType.byte)), Jvm.Cond.code ({ cls := "java/util/Arrays", name := "copyOfRangeByte", desc := "([BII)[B" } : Jvm.MethodName) jdk_65_method_133_code (5 : Nat) (Option.some (Jvm.ClassFile.FieldType.array Jvm.ClassFile.FieldType.byte)), Jvm.Cond.code ({ cls := "java/util/Arrays", name := "checkLength", desc := "(II)V" } : Jvm.MethodName) jdk_65_method_131_code (2 : Nat) (Option.none : Option Jvm.ClassFile.FieldType), Jvm.Cond.code ({ cls := "java/lang/Math", name := "min", desc := "(II)I" } : Jvm.MethodName) jdk_29_method_69_code (2 : Nat) (Option.some Jvm.ClassFile.FieldType.int), Jvm.Cond.code ({ cls := "java/lang/String", name := "charAt", desc := "(I)C" } : Jvm.MethodName) jdk_42_method_56_code (2 : Nat) (Option.some Jvm.ClassFile.FieldType.char), Jvm.Cond.code ({ cls := "java/lang/String", name := "isLatin1", desc := "()Z" } : Jvm.MethodName) jdk_42_method_154_code (1 : Nat) (Option.some Jvm.ClassFile.FieldType.boolean), Jvm.Cond.code ({ cls := "java/lang/StringLatin1", name := "charAt", desc := "([BI)C" } : Jvm.MethodName) jdk_43_method_2_code (2 : Nat) (Option.some Jvm.ClassFile.FieldType.char), Jvm.Cond.code ({ cls := "java/lang/String", name := "checkIndex", desc := "(II)V" } : Jvm.MethodName) jdk_42_method_155_code (2 : Nat) (Option.none : Option Jvm.ClassFile.FieldType), Jvm.Cond.code ({ cls := "jdk/internal/util/Preconditions", name := "checkIndex", desc := "(IILjava/util/function/BiFunction;)I" } : Jvm.MethodName) jdk_41_method_11_code (3 : Nat) (Option.some Jvm.ClassFile.FieldType.int), Jvm.Cond.code ({ cls := "java/lang/String", name := "equals", desc := "(Ljava/lang/Object;)Z" } : Jvm.MethodName) jdk_42_method_66_code (3 : Nat) (Option.some Jvm.ClassFile.FieldType.boolean), Jvm.Cond.code ({ cls := "java/lang/StringLatin1", name := "equals", desc := "([B[B)Z" } : Jvm.MethodName) jdk_43_method_13_code (3 : Nat) (Option.some Jvm.ClassFile.FieldType.boolean)]
set_option maxRecDepth 65536 in
theorem codes_eq : words1.filter isCode = codes1 := rfl
theorem w_codes : ∀ c ∈ words1.filter isCode, c.before args0 about1 = true := by
  rw [codes_eq]
  intro c hc
  simp only [codes1, List.mem_cons, List.not_mem_nil, or_false] at hc
  rcases hc with rfl | rfl | rfl | rfl | rfl | rfl | rfl | rfl | rfl | rfl | rfl | rfl | rfl | rfl | rfl | rfl | rfl | rfl | rfl | rfl | rfl | rfl | rfl | rfl | rfl | rfl | rfl | rfl | rfl | rfl | rfl | rfl | rfl | rfl | rfl | rfl | rfl | rfl | rfl
  · exact w_c0
  · exact w_c1
  · exact w_c2
  · exact w_c3
  · exact w_c4
  · exact w_c5
  · exact w_c6
  · exact w_c7
  · exact w_c8
  · exact w_c9
  · exact w_c10
  · exact w_c11
  · exact w_c12
  · exact w_c13
  · exact w_c14
  · exact w_c15
  · exact w_c16
  · exact w_c17
  · exact w_c18
  · exact w_c19
  · exact w_c20
  · exact w_c21
  · exact w_c22
  · exact w_c23
  · exact w_c24
  · exact w_c25
  · exact w_c26
  · exact w_c27
  · exact w_c28
  · exact w_c29
  · exact w_c30
  · exact w_c31
  · exact w_c32
  · exact w_c33
  · exact w_c34
  · exact w_c35
  · exact w_c36
  · exact w_c37
  · exact w_c38
set_option maxRecDepth 65536 in
theorem w_t1 : (words1.take 24).all (fun c => isCode c || c.before args0 about1) = true := by decide +kernel
set_option maxRecDepth 65536 in
theorem w_t2 : ((words1.drop 24).take 24).all (fun c => isCode c || c.before args0 about1) = true := by decide +kernel
set_option maxRecDepth 65536 in
theorem w_t3 : (((words1.drop 24).drop 24).take 24).all (fun c => isCode c || c.before args0 about1) = true := by decide +kernel
set_option maxRecDepth 65536 in
theorem w_t4 : ((((words1.drop 24).drop 24).drop 24).take 24).all (fun c => isCode c || c.before args0 about1) = true := by decide +kernel
set_option maxRecDepth 65536 in
theorem w_t5 : (((((words1.drop 24).drop 24).drop 24).drop 24).take 24).all (fun c => isCode c || c.before args0 about1) = true := by decide +kernel
set_option maxRecDepth 65536 in
theorem w_t6 : ((((((words1.drop 24).drop 24).drop 24).drop 24).drop 24).take 24).all (fun c => isCode c || c.before args0 about1) = true := by decide +kernel
set_option maxRecDepth 65536 in
theorem w_t7 : (((((((words1.drop 24).drop 24).drop 24).drop 24).drop 24).drop 24).take 24).all (fun c => isCode c || c.before args0 about1) = true := by decide +kernel
set_option maxRecDepth 65536 in
theorem w_t8 : ((((((((words1.drop 24).drop 24).drop 24).drop 24).drop 24).drop 24).drop 24).take 24).all (fun c => isCode c || c.before args0 about1) = true := by decide +kernel
set_option maxRecDepth 65536 in
theorem w_t9 : (((((((((words1.drop 24).drop 24).drop 24).drop 24).drop 24).drop 24).drop 24).drop 24).take 24).all (fun c => isCode c || c.before args0 about1) = true := by decide +kernel
set_option maxRecDepth 65536 in
theorem w_t10 : (((((((((words1.drop 24).drop 24).drop 24).drop 24).drop 24).drop 24).drop 24).drop 24).drop 24).all (fun c => isCode c || c.before args0 about1) = true := by decide +kernel
theorem w_tables : (allAtoms (Jvm.Cond.code x code maxLocals ret :: tables_1)).before args0 about1 = true := by
  rw [allAtoms_all]
  show words1.all (fun c => c.before args0 about1) = true
  refine all_split ?_ w_codes
  rw [← List.take_append_drop 24 words1, List.all_append, w_t1, ← List.take_append_drop 24 (words1.drop 24), List.all_append, w_t2, ← List.take_append_drop 24 ((words1.drop 24).drop 24), List.all_append, w_t3, ← List.take_append_drop 24 (((words1.drop 24).drop 24).drop 24), List.all_append, w_t4, ← List.take_append_drop 24 ((((words1.drop 24).drop 24).drop 24).drop 24), List.all_append, w_t5, ← List.take_append_drop 24 (((((words1.drop 24).drop 24).drop 24).drop 24).drop 24), List.all_append, w_t6, ← List.take_append_drop 24 ((((((words1.drop 24).drop 24).drop 24).drop 24).drop 24).drop 24), List.all_append, w_t7, ← List.take_append_drop 24 (((((((words1.drop 24).drop 24).drop 24).drop 24).drop 24).drop 24).drop 24), List.all_append, w_t8, ← List.take_append_drop 24 ((((((((words1.drop 24).drop 24).drop 24).drop 24).drop 24).drop 24).drop 24).drop 24), List.all_append, w_t9, w_t10]
  rfl
set_option maxRecDepth 65536 in
theorem w_rest : rest_1_c.before args0 about1 = true := by decide +kernel
set_option maxRecDepth 65536 in
theorem w_case : (Jvm.Cond.and given_1 narrow_1).before args0 about1 = true := by decide +kernel
set_option maxRecDepth 65536 in
theorem w_consts : constsHeld consts_1 about1 := Jvm.Lit.constsHeldB_iff.mp (by decide +kernel)
theorem w_applies : (headSpec (Jvm.Cond.code x code maxLocals ret :: tables_1) room_1).applies x e0.platform about1 = true :=
  (Spec.applies_iff w_frames).mpr ⟨w_running, w_runnable, w_alone, w_named, w_hears, w_ripe, w_room, w_tables⟩
theorem atStart : AtStart classFile x code maxLocals ret World_1 tables_1 room_1 Calls_1 rest_1 Pre_1 launch0 p0 e0 about1 theMethod args0 below0 :=
  ⟨lists_1, trivial, launch0.admits_env _ _ _, launch0.least_env, fairChoices_fair.cas, fairChoices_fair.clock, w_frames, w_args, w_heap, w_applies, ⟨w_consts, trivial⟩, w_rest, w_case⟩
end start1
theorem witness_1 : WitnessClaimed_1 := ⟨start1.p0, start1.e0, start1.about1, start1.theMethod, start1.args0, start1.below0, start1.atStart⟩
end Jvm.Pilot.@@N@@
